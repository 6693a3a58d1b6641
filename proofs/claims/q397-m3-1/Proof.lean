import JvmDerived
import JvmDerived.Pilot.@@N@@Statement
import JvmDerived.Pilot.@@N@@Code
set_option linter.unusedVariables false
set_option linter.unusedSimpArgs false
namespace Jvm.Pilot.@@N@@
open Jvm Jvm.ClassFile Sem Op Lib Jvm.Free Jvm.Stand Jvm.LawKit Jvm.RoadKit Bundle Jvm.Pilot.@@N@@.Jvm.D
theorem pn_com_example_tierfuse_tierfuse_format_SealedFileFormatCanHoldPinLaw : plainName "com/example/tierfuse/tierfuse/format/SealedFileFormatCanHoldPinLaw" = true := by first | (simp [plainName, overriddenIn]; done) | decide +kernel
theorem pn_com_example_tierfuse_tierfuse_format_SealedFileFormat : plainName "com/example/tierfuse/tierfuse/format/SealedFileFormat" = true := by first | (simp [plainName, overriddenIn]; done) | decide +kernel
theorem pn_com_example_tierfuse_tierfuse_format_DeltaEncoding : plainName "com/example/tierfuse/tierfuse/format/DeltaEncoding" = true := by first | (simp [plainName, overriddenIn]; done) | decide +kernel
theorem d2_0 : decode prog_44_method_3_code 0 = .ok (.ldc2_w 61, 3) := by decide +kernel
theorem d2_3 : decode prog_44_method_3_code 3 = .ok (.lload_n 0, 1) := by decide +kernel
theorem d2_4 : decode prog_44_method_3_code 4 = .ok (.lmul, 1) := by decide +kernel
theorem d2_5 : decode prog_44_method_3_code 5 = .ok (.ldc2_w 63, 3) := by decide +kernel
theorem d2_8 : decode prog_44_method_3_code 8 = .ok (.ladd, 1) := by decide +kernel
theorem d2_9 : decode prog_44_method_3_code 9 = .ok (.lreturn, 1) := by decide +kernel
theorem ef2 (m : MethodId) (x0 : Int64) : entryFrame m #[(.long x0)] 2 = mkF m 0 #[.val (.long x0), .second] [] := by first | (simp [entryFrame, mkF, argsToLocals, Value.category]; done) | rfl
def f2 (q0 : Int64) : Int64 :=
  (((3 : Int64) * q0) + (2 : Int64))
def Q2 (Z : State) (q0 : Int64) (h0 : Heap) (n0 : Nat) (v : Option Value) (h : Heap) (L : List Loc) : Prop := v = some (.long (f2 q0)) ∧ Fr n0 L ∧ h = h0
set_option maxRecDepth 65536 in
set_option maxHeartbeats 40000000 in
theorem rm2 (l : Launch) (Z : State) (av : Array Value) (hw : ∀ d ∈ tables_1, d.before av Z = true) (ws : List Jvm.Cond) (q0 : Int64) (h0 : Heap) (n0 : Nat) (Z0 : n0 ≤ h0.size) :
    MetFree l (⟨"com/example/tierfuse/tierfuse/format/DeltaEncoding", "leastBits", "(J)J"⟩ : MethodName) (head1 (Jvm.Cond.code (⟨"com/example/tierfuse/tierfuse/format/DeltaEncoding", "leastBits", "(J)J"⟩ : MethodName) prog_44_method_3_code 2 (some .long) :: ws) ({ frames := 0, cells := 0, slots := 0, locals := 0 } : Room)) (fun a U => a = #[(.long q0)] ∧ Z.Warmed39 U.vm ∧ U.heap = h0) (fun _ _ _ _ _ => True) (fun _ U o U' => ∃ v L, o = .returned v ∧ Q2 Z q0 h0 n0 v U'.heap L ∧ FrameEnd U o U' L ({ frames := 0, cells := 0, slots := 0, locals := 0 } : Room).cells ({ frames := 0, cells := 0, slots := 0, locals := 0 } : Room).slots) := by
  refine MetFree.of_bodySF (plainFor_of_name pn_com_example_tierfuse_tierfuse_format_DeltaEncoding) hisR ?_
  intro p e s m args below meth c s₁ Bd hml0 hP hK
  obtain ⟨rfl, hZ, hh⟩ := hP
  have hx := Bd.exec
  have hby := Bd.bytes
  have hml : c.maxLocals = 2 := hml0
  have hown : s.vm.findClass "com/example/tierfuse/tierfuse/format/DeltaEncoding" = some m.cls := findClass_of_methodNamed Bd.named
  have hnm := (name_of_methodNamed Bd.named Bd.method).1
  have X0 : Stand p l e ({ frames := 0, cells := 0, slots := 0, locals := 0 } : Room) s m #[(.long q0)] below meth c s₁ [] 0 0 := Stand.of_body Bd
  have e0 : s₁.heap = h0 := by rw [← hh, Bd.state]; rfl
  have N0 := Fr.nil n0
  have K0 : Keep h0 h0 [] := Keep.refl h0 []
  have pre0 : ∀ t, Steps p.tables e below (s₁.setTop (mkF m 0 #[.val (.long q0), .second] [])) t → Steps p.tables e below (s₁.setTop (entryFrame m #[(.long q0)] 2)) t := fun t k => castTop (ef2 m q0) k
  have pre1 : ∀ t, Steps p.tables e below (s₁.setTop (mkF m 9 #[.val (.long q0), .second] [(.long (((3 : Int64) * q0) + (2 : Int64)))])) t → Steps p.tables e below (s₁.setTop (entryFrame m #[(.long q0)] 2)) t := fun t kt => pre0 t (by
    show Steps p.tables e below (s₁.setTop (mkF m 0 #[.val (.long q0), .second] [])) _
    refine X0.ldc2Long hx hown (mvT hZ (hw _ (List.mem_of_getElem? (i := 13) rfl))) (g := (mkF m 0 #[.val (.long q0), .second] [])) rfl (hb hby d2_0) _ ?_
    show Steps p.tables e below (s₁.setTop (mkF m 3 #[.val (.long q0), .second] [(.long (3 : Int64))])) _
    refine XS.lloadN X0.here hx rfl (hb hby d2_3) rfl ?_
    show Steps p.tables e below (s₁.setTop (mkF m 4 #[.val (.long q0), .second] [(.long q0), (.long (3 : Int64))])) _
    refine XS.lmul X0.here hx rfl (hb hby d2_4) rfl ?_
    show Steps p.tables e below (s₁.setTop (mkF m 5 #[.val (.long q0), .second] [(.long ((3 : Int64) * q0))])) _
    refine X0.ldc2Long hx hown (mvT hZ (hw _ (List.mem_of_getElem? (i := 14) rfl))) (g := (mkF m 5 #[.val (.long q0), .second] [(.long ((3 : Int64) * q0))])) rfl (hb hby d2_5) _ ?_
    show Steps p.tables e below (s₁.setTop (mkF m 8 #[.val (.long q0), .second] [(.long (2 : Int64)), (.long ((3 : Int64) * q0))])) _
    refine XS.ladd X0.here hx rfl (hb hby d2_8) rfl ?_
    exact kt)
  have hv : f2 q0 = (((3 : Int64) * q0) + (2 : Int64)) := by
    unfold f2
    rfl
  obtain ⟨fs, hr, hrun, hended, hW, hsame⟩ := X0.leave (v := some (.long (f2 q0))) (fun h => by rw [Bd.returns] at h; cases h)
  refine ⟨_, _, pre1 _ ?_, hrun, hended, _, _, rfl, ?_, ⟨_, rfl⟩, hW, hsame.mono (by decide) (by decide)⟩
  · rw [hv] at hr
    show Steps p.tables e below (s₁.setTop (mkF m 9 #[.val (.long q0), .second] [(.long (((3 : Int64) * q0) + (2 : Int64)))])) _
    jvm_step X0.here [X0.here.top, hx, (hb hby d2_9), X0.method', Bd.returns, narrow]
    first | (intro acts; rw [hr _ acts rfl rfl rfl]) | rw [hr _ _ rfl rfl rfl]
    exact Steps.refl _
  · show Q2 Z q0 h0 n0 _ s₁.heap _
    rw [e0]
    exact ⟨rfl, N0, rfl⟩
theorem d1_0 : decode prog_46_method_6_code 0 = .ok (.ldc2_w 151, 3) := by decide +kernel
theorem d1_3 : decode prog_46_method_6_code 3 = .ok (.iload_n 0, 1) := by decide +kernel
theorem d1_4 : decode prog_46_method_6_code 4 = .ok (.iconst 5, 1) := by decide +kernel
theorem d1_5 : decode prog_46_method_6_code 5 = .ok (.isub, 1) := by decide +kernel
theorem d1_6 : decode prog_46_method_6_code 6 = .ok (.iconst 4, 1) := by decide +kernel
theorem d1_7 : decode prog_46_method_6_code 7 = .ok (.isub, 1) := by decide +kernel
theorem d1_8 : decode prog_46_method_6_code 8 = .ok (.i2l, 1) := by decide +kernel
theorem d1_9 : decode prog_46_method_6_code 9 = .ok (.lmul, 1) := by decide +kernel
theorem d1_10 : decode prog_46_method_6_code 10 = .ok (.iload_n 1, 1) := by decide +kernel
theorem d1_11 : decode prog_46_method_6_code 11 = .ok (.i2l, 1) := by decide +kernel
theorem pd__J_J : parseMethodDescriptor "(J)J" = some ⟨[.long], some .long⟩ := by decide +kernel
theorem d1_12 : decode prog_46_method_6_code 12 = .ok (.invokestatic 153, 3) := by decide +kernel
theorem d1_15 : decode prog_46_method_6_code 15 = .ok (.lcmp, 1) := by decide +kernel
theorem d1_16 : decode prog_46_method_6_code 16 = .ok (.ifCond .lt 7, 3) := by decide +kernel
theorem d1_23 : decode prog_46_method_6_code 23 = .ok (.iconst 0, 1) := by decide +kernel
theorem d1_24 : decode prog_46_method_6_code 24 = .ok (.ireturn, 1) := by decide +kernel
theorem d1_19 : decode prog_46_method_6_code 19 = .ok (.iconst 1, 1) := by decide +kernel
theorem d1_20 : decode prog_46_method_6_code 20 = .ok (.goto 4, 3) := by decide +kernel
theorem ef1 (m : MethodId) (x0 : Int32) (x1 : Int32) : entryFrame m #[(.int x0), (.int x1)] 2 = mkF m 0 #[.val (.int x0), .val (.int x1)] [] := by first | (simp [entryFrame, mkF, argsToLocals, Value.category]; done) | rfl
def f1 (p0 : Int32) (p1 : Int32) : Int32 :=
  if ((8 : Int64) * (((p0 - (5 : Int32)) - (4 : Int32)).toInt64)) < (f2 (p1.toInt64)) then
    (0 : Int32)
  else
    (1 : Int32)
def Q1 (Z : State) (p0 : Int32) (p1 : Int32) (h0 : Heap) (n0 : Nat) (v : Option Value) (h : Heap) (L : List Loc) : Prop := v = some (.int (f1 p0 p1)) ∧ Fr n0 L ∧ h = h0
set_option maxRecDepth 65536 in
set_option maxHeartbeats 40000000 in
theorem rm1 (l : Launch) (Z : State) (av : Array Value) (hw : ∀ d ∈ tables_1, d.before av Z = true) (ws : List Jvm.Cond) (p0 : Int32) (p1 : Int32) (h0 : Heap) (n0 : Nat) (Z0 : n0 ≤ h0.size) :
    MetFree l (⟨"com/example/tierfuse/tierfuse/format/SealedFileFormat", "canHold", "(II)Z"⟩ : MethodName) (head1 (Jvm.Cond.code (⟨"com/example/tierfuse/tierfuse/format/SealedFileFormat", "canHold", "(II)Z"⟩ : MethodName) prog_46_method_6_code 2 (some .boolean) :: ws) ({ frames := 1, cells := 0, slots := 0, locals := 15 } : Room)) (fun a U => a = #[(.int p0), (.int p1)] ∧ Z.Warmed39 U.vm ∧ U.heap = h0) (fun _ _ _ _ _ => True) (fun _ U o U' => ∃ v L, o = .returned v ∧ Q1 Z p0 p1 h0 n0 v U'.heap L ∧ FrameEnd U o U' L ({ frames := 1, cells := 0, slots := 0, locals := 15 } : Room).cells ({ frames := 1, cells := 0, slots := 0, locals := 15 } : Room).slots) := by
  refine MetFree.of_bodySF (plainFor_of_name pn_com_example_tierfuse_tierfuse_format_SealedFileFormat) hisR ?_
  intro p e s m args below meth c s₁ Bd hml0 hP hK
  obtain ⟨rfl, hZ, hh⟩ := hP
  have hx := Bd.exec
  have hby := Bd.bytes
  have hml : c.maxLocals = 2 := hml0
  have hown : s.vm.findClass "com/example/tierfuse/tierfuse/format/SealedFileFormat" = some m.cls := findClass_of_methodNamed Bd.named
  have hnm := (name_of_methodNamed Bd.named Bd.method).1
  have X0 : Stand p l e ({ frames := 1, cells := 0, slots := 0, locals := 15 } : Room) s m #[(.int p0), (.int p1)] below meth c s₁ [] 0 0 := Stand.of_body Bd
  have e0 : s₁.heap = h0 := by rw [← hh, Bd.state]; rfl
  have N0 := Fr.nil n0
  have K0 : Keep h0 h0 [] := Keep.refl h0 []
  have pre0 : ∀ t, Steps p.tables e below (s₁.setTop (mkF m 0 #[.val (.int p0), .val (.int p1)] [])) t → Steps p.tables e below (s₁.setTop (entryFrame m #[(.int p0), (.int p1)] 2)) t := fun t k => castTop (ef1 m p0 p1) k
  have pre1 : ∀ t, Steps p.tables e below (s₁.setTop (mkF m 12 #[.val (.int p0), .val (.int p1)] [(.long (p1.toInt64)), (.long ((8 : Int64) * (((p0 - (5 : Int32)) - (4 : Int32)).toInt64)))])) t → Steps p.tables e below (s₁.setTop (entryFrame m #[(.int p0), (.int p1)] 2)) t := fun t kt => pre0 t (by
    show Steps p.tables e below (s₁.setTop (mkF m 0 #[.val (.int p0), .val (.int p1)] [])) _
    refine X0.ldc2Long hx hown (mvT hZ (hw _ (List.mem_of_getElem? (i := 8) rfl))) (g := (mkF m 0 #[.val (.int p0), .val (.int p1)] [])) rfl (hb hby d1_0) _ ?_
    show Steps p.tables e below (s₁.setTop (mkF m 3 #[.val (.int p0), .val (.int p1)] [(.long (8 : Int64))])) _
    refine XS.iloadN X0.here hx rfl (hb hby d1_3) rfl ?_
    show Steps p.tables e below (s₁.setTop (mkF m 4 #[.val (.int p0), .val (.int p1)] [(.int p0), (.long (8 : Int64))])) _
    refine XS.iconst X0.here hx rfl (hb hby d1_4) ?_
    show Steps p.tables e below (s₁.setTop (mkF m 5 #[.val (.int p0), .val (.int p1)] [(.int (5 : Int32)), (.int p0), (.long (8 : Int64))])) _
    refine XS.isub X0.here hx rfl (hb hby d1_5) rfl ?_
    show Steps p.tables e below (s₁.setTop (mkF m 6 #[.val (.int p0), .val (.int p1)] [(.int (p0 - (5 : Int32))), (.long (8 : Int64))])) _
    refine XS.iconst X0.here hx rfl (hb hby d1_6) ?_
    show Steps p.tables e below (s₁.setTop (mkF m 7 #[.val (.int p0), .val (.int p1)] [(.int (4 : Int32)), (.int (p0 - (5 : Int32))), (.long (8 : Int64))])) _
    refine XS.isub X0.here hx rfl (hb hby d1_7) rfl ?_
    show Steps p.tables e below (s₁.setTop (mkF m 8 #[.val (.int p0), .val (.int p1)] [(.int ((p0 - (5 : Int32)) - (4 : Int32))), (.long (8 : Int64))])) _
    refine XS.i2l X0.here hx rfl (hb hby d1_8) rfl ?_
    show Steps p.tables e below (s₁.setTop (mkF m 9 #[.val (.int p0), .val (.int p1)] [(.long (((p0 - (5 : Int32)) - (4 : Int32)).toInt64)), (.long (8 : Int64))])) _
    refine XS.lmul X0.here hx rfl (hb hby d1_9) rfl ?_
    show Steps p.tables e below (s₁.setTop (mkF m 10 #[.val (.int p0), .val (.int p1)] [(.long ((8 : Int64) * (((p0 - (5 : Int32)) - (4 : Int32)).toInt64)))])) _
    refine XS.iloadN X0.here hx rfl (hb hby d1_10) rfl ?_
    show Steps p.tables e below (s₁.setTop (mkF m 11 #[.val (.int p0), .val (.int p1)] [(.int p1), (.long ((8 : Int64) * (((p0 - (5 : Int32)) - (4 : Int32)).toInt64)))])) _
    refine XS.i2l X0.here hx rfl (hb hby d1_11) rfl ?_
    exact kt)
  obtain ⟨_, _, ⟨T2, L2, k2, n2⟩, -, X2, ⟨Lc2, hQ2, l2, y2, z2⟩, st2⟩ := Jvm.LawKit.callS X0 hx (y := (⟨"com/example/tierfuse/tierfuse/format/DeltaEncoding", "leastBits", "(J)J"⟩ : MethodName)) hown (mvT hZ (hw _ (List.mem_of_getElem? (i := 9) rfl))) (mvT hZ (hw _ (List.mem_of_getElem? (i := 10) rfl))) (mvT hZ (hw _ (List.mem_of_getElem? (i := 11) rfl))) (mvT hZ (hw _ (List.mem_of_getElem? (i := 12) rfl))) (by decide) (backOf (W := 2) (rm2 l Z av hw [] (p1.toInt64)  h0 n0 Z0 ) hZ (hw _ (List.mem_of_getElem? (i := 12) rfl)) (hw _ (List.mem_of_getElem? (i := 11) rfl)) (by decide) (by decide)) (g := (mkF m 12 #[.val (.int p0), .val (.int p1)] [(.long (p1.toInt64)), (.long ((8 : Int64) * (((p0 - (5 : Int32)) - (4 : Int32)).toInt64)))])) rfl (by rw [hml]; rfl) (argsL := [(.long (p1.toInt64))]) (rest := [(.long ((8 : Int64) * (((p0 - (5 : Int32)) - (4 : Int32)).toInt64)))]) (lenOf pd__J_J rfl) rfl (by show 2 * 0 + _ ≤ _; exact Nat.le_of_eq rfl) (hb hby d1_12) (fun _ _ => ⟨rfl, e0, (by decide : 0 + 0 ≤ _), (by decide : 0 + 0 ≤ _)⟩)
  dsimp only [Pt.U, Pt.locs, Pt.cells, Pt.slots] at X2 l2 y2 z2 st2 hQ2
  subst l2 y2 z2
  obtain ⟨rfl, N2q, e2⟩ := hQ2
  have N2 := Fr.app N0 N2q
  have pre3 : ∀ t, Steps p.tables e below (T2.setTop (mkF m 15 #[.val (.int p0), .val (.int p1)] [(.long (f2 (p1.toInt64))), (.long ((8 : Int64) * (((p0 - (5 : Int32)) - (4 : Int32)).toInt64)))])) t → Steps p.tables e below (s₁.setTop (entryFrame m #[(.int p0), (.int p1)] 2)) t := fun t kt => pre1 t (st2 _ kt)
  have pre4 : ∀ t, Steps p.tables e below (T2.setTop (mkF m 16 #[.val (.int p0), .val (.int p1)] [(.int (lcmpW ((8 : Int64) * (((p0 - (5 : Int32)) - (4 : Int32)).toInt64)) (f2 (p1.toInt64))))])) t → Steps p.tables e below (s₁.setTop (entryFrame m #[(.int p0), (.int p1)] 2)) t := fun t kt => pre3 t (by
    show Steps p.tables e below (T2.setTop (mkF m 15 #[.val (.int p0), .val (.int p1)] [(.long (f2 (p1.toInt64))), (.long ((8 : Int64) * (((p0 - (5 : Int32)) - (4 : Int32)).toInt64)))])) _
    refine XS.lcmp X2.here hx rfl (hb hby d1_15) rfl ?_
    exact kt)
  by_cases hc16_5 : ((8 : Int64) * (((p0 - (5 : Int32)) - (4 : Int32)).toInt64)) < (f2 (p1.toInt64))
  · have pre6 : ∀ t, Steps p.tables e below (T2.setTop (mkF m 24 #[.val (.int p0), .val (.int p1)] [(.int (0 : Int32))])) t → Steps p.tables e below (s₁.setTop (entryFrame m #[(.int p0), (.int p1)] 2)) t := fun t kt => pre4 t (by
      show Steps p.tables e below (T2.setTop (mkF m 16 #[.val (.int p0), .val (.int p1)] [(.int (lcmpW ((8 : Int64) * (((p0 - (5 : Int32)) - (4 : Int32)).toInt64)) (f2 (p1.toInt64))))])) _
      refine XS.ifYes X2.here hx rfl (pc0 := 16) (pc' := 23) rfl (hb hby d1_16) rfl (Jvm.Free.XT.ll_lt_t hc16_5) (by decide) (by decide) ?_
      show Steps p.tables e below (T2.setTop (mkF m 23 #[.val (.int p0), .val (.int p1)] [])) _
      refine XS.iconst X2.here hx rfl (hb hby d1_23) ?_
      exact kt)
    have hv : f1 p0 p1 = (0 : Int32) := by
      unfold f1
      rw [if_pos hc16_5]
    obtain ⟨fs, hr, hrun, hended, hW, hsame⟩ := X2.leave (v := some (.int (f1 p0 p1))) (fun h => by rw [Bd.returns] at h; cases h)
    refine ⟨_, _, pre6 _ ?_, hrun, hended, _, _, rfl, ?_, ⟨_, rfl⟩, hW, hsame.mono (by decide) (by decide)⟩
    · rw [hv] at hr
      show Steps p.tables e below (T2.setTop (mkF m 24 #[.val (.int p0), .val (.int p1)] [(.int (0 : Int32))])) _
      exact retN X2 hx (t := .boolean) Bd.returns (by simp) (hb hby d1_24) hr
    · show Q1 Z p0 p1 h0 n0 _ T2.heap _
      rw [e2]
      exact ⟨rfl, N2, rfl⟩
  · have pre7 : ∀ t, Steps p.tables e below (T2.setTop (mkF m 24 #[.val (.int p0), .val (.int p1)] [(.int (1 : Int32))])) t → Steps p.tables e below (s₁.setTop (entryFrame m #[(.int p0), (.int p1)] 2)) t := fun t kt => pre4 t (by
      show Steps p.tables e below (T2.setTop (mkF m 16 #[.val (.int p0), .val (.int p1)] [(.int (lcmpW ((8 : Int64) * (((p0 - (5 : Int32)) - (4 : Int32)).toInt64)) (f2 (p1.toInt64))))])) _
      refine XS.ifNo X2.here hx rfl (hb hby d1_16) rfl (Jvm.Free.XT.ll_lt_f hc16_5) ?_
      show Steps p.tables e below (T2.setTop (mkF m 19 #[.val (.int p0), .val (.int p1)] [])) _
      refine XS.iconst X2.here hx rfl (hb hby d1_19) ?_
      show Steps p.tables e below (T2.setTop (mkF m 20 #[.val (.int p0), .val (.int p1)] [(.int (1 : Int32))])) _
      refine XS.goto X2.here hx rfl (pc0 := 20) (pc' := 24) rfl (hb hby d1_20) (by decide) (by decide) ?_
      exact kt)
    have hv : f1 p0 p1 = (1 : Int32) := by
      unfold f1
      rw [if_neg hc16_5]
    obtain ⟨fs, hr, hrun, hended, hW, hsame⟩ := X2.leave (v := some (.int (f1 p0 p1))) (fun h => by rw [Bd.returns] at h; cases h)
    refine ⟨_, _, pre7 _ ?_, hrun, hended, _, _, rfl, ?_, ⟨_, rfl⟩, hW, hsame.mono (by decide) (by decide)⟩
    · rw [hv] at hr
      show Steps p.tables e below (T2.setTop (mkF m 24 #[.val (.int p0), .val (.int p1)] [(.int (1 : Int32))])) _
      exact retN X2 hx (t := .boolean) Bd.returns (by simp) (hb hby d1_24) hr
    · show Q1 Z p0 p1 h0 n0 _ T2.heap _
      rw [e2]
      exact ⟨rfl, N2, rfl⟩
theorem own_addL {x y : Int64} (h : -9223372036854775808 ≤ x.toInt + y.toInt ∧ x.toInt + y.toInt < 9223372036854775808) : (x + y).toInt = x.toInt + y.toInt := by
  have e := c_ladd x y
  have r := rng64 (x + y)
  omega
theorem own_subL {x y : Int64} (h : -9223372036854775808 ≤ x.toInt - y.toInt ∧ x.toInt - y.toInt < 9223372036854775808) : (x - y).toInt = x.toInt - y.toInt := by
  have e := c_lsub x y
  have r := rng64 (x - y)
  omega
theorem own_mulL {x y : Int64} {a b : Int} (hx : x.toInt = a) (hy : y.toInt = b) (h : -9223372036854775808 ≤ a * b ∧ a * b < 9223372036854775808) : (x * y).toInt = a * b := by
  have e := c_lmul x y
  have r := rng64 (x * y)
  rw [hx, hy] at e
  omega
theorem own_addI {x y : Int32} (h : -2147483648 ≤ x.toInt + y.toInt ∧ x.toInt + y.toInt < 2147483648) : (x + y).toInt = x.toInt + y.toInt := by
  have e := c_iadd x y
  have r := rng32 (x + y)
  omega
theorem own_subI {x y : Int32} (h : -2147483648 ≤ x.toInt - y.toInt ∧ x.toInt - y.toInt < 2147483648) : (x - y).toInt = x.toInt - y.toInt := by
  have e := c_isub x y
  have r := rng32 (x - y)
  omega
theorem own_l2i {x : Int64} (h : -2147483648 ≤ x.toInt ∧ x.toInt < 2147483648) : x.toInt32.toInt = x.toInt := by
  have e := c_l2i x
  have r := rng32 x.toInt32
  omega
theorem own_t3 (c : Int32) (k : Int64) (a : Int) (hk : k.toInt = a) (h : 0 ≤ a ∧ a ≤ 100) : ((3 : Int64) * c.toInt64 + k).toInt = 3 * c.toInt + a := by
  have r := rng32 c
  have e := c_i2l c
  have m1 : ((3 : Int64) * c.toInt64).toInt = 3 * c.toInt := own_mulL (by decide) e (by omega)
  rw [own_addL (by rw [m1, hk]; omega), m1, hk]
theorem own_t8 (n : Int32) : ((8 : Int64) * n.toInt64).toInt = 8 * n.toInt := by
  have r := rng32 n
  exact own_mulL (by decide) (c_i2l n) (by omega)
theorem own_f1 (n c : Int32) (hn : 0 ≤ n.toInt) : f1 n c = if 3 * c.toInt + 2 ≤ 8 * (n.toInt - 9) then (1 : Int32) else (0 : Int32) := by
  have r1 := rng32 n
  have q5 : (5 : Int32).toInt = 5 := by decide
  have q4 : (4 : Int32).toInt = 4 := by decide
  have e1 : (n - (5 : Int32)).toInt = n.toInt - 5 := by rw [own_subI (by rw [q5]; omega), q5]
  have e2 : (n - (5 : Int32) - (4 : Int32)).toInt = n.toInt - 9 := by
    rw [own_subI (by rw [e1, q4]; omega), e1, q4]
    omega
  have e3 := own_t8 (n - (5 : Int32) - (4 : Int32))
  have e4 := own_t3 c (2 : Int64) 2 (by decide) (by decide)
  unfold f1 f2
  simp only [Int64.lt_iff_toInt_lt, e3, e4, e2]
  repeat' split
  all_goals first | rfl | (exfalso; omega)
theorem own_m (c : Int32) (h : 0 ≤ c.toInt) : (((9 : Int64) + ((((3 : Int64) * (c.toInt64)) + (9 : Int64)) / (8 : Int64))).toInt32).toInt = 9 + (3 * c.toInt + 9) / 8 := by
  have r2 := rng32 c
  have e1 := own_t3 c (9 : Int64) 9 (by decide) (by decide)
  have e8 := (c_ldiv ((3 : Int64) * c.toInt64 + (9 : Int64)) (8 : Int64) 8 (by decide) (by decide)).1 (by omega)
  rw [e1] at e8
  have q9 : (9 : Int64).toInt = 9 := by decide
  have e9 : ((9 : Int64) + ((3 : Int64) * c.toInt64 + (9 : Int64)) / (8 : Int64)).toInt = 9 + (3 * c.toInt + 9) / 8 := by rw [own_addL (by rw [e8, q9]; omega), e8, q9]
  rw [own_l2i (by rw [e9]; omega), e9]
theorem own_w (n c : Int32) (hn : 0 ≤ n.toInt) : (((8 : Int64) * (n.toInt64)) < (((3 : Int64) * (c.toInt64)) + (74 : Int64))) ↔ ¬ (3 * c.toInt + 2 ≤ 8 * (n.toInt - 9)) := by
  have e3 := own_t8 n
  have e4 := own_t3 c (74 : Int64) 74 (by decide) (by decide)
  rw [Int64.lt_iff_toInt_lt, e3, e4]
  omega
theorem own_nn (x : Int32) : 0 ≤ (x &&& (2147483647 : Int32)).toInt := by
  have := c_mask x (2147483647 : Int32) 31 (by decide) (by decide)
  omega
theorem own_fit (c m : Int32) (h : 0 ≤ c.toInt) (hm : m.toInt = 9 + (3 * c.toInt + 9) / 8) : f1 m c = (1 : Int32) := by
  rw [own_f1 m c (by omega), if_pos (by omega)]
theorem own_small (c m : Int32) (h : 0 ≤ c.toInt) (hm : m.toInt = 9 + (3 * c.toInt + 9) / 8) : f1 (m - (1 : Int32)) c = (0 : Int32) := by
  have r2 := rng32 m
  have q1 : (1 : Int32).toInt = 1 := by decide
  have e : (m - (1 : Int32)).toInt = m.toInt - 1 := by rw [own_subI (by rw [q1]; omega), q1]
  rw [own_f1 _ c (by omega), if_neg (by omega)]
theorem pd__II_Z : parseMethodDescriptor "(II)Z" = some ⟨[.int, .int], some .boolean⟩ := by decide +kernel
theorem ef0 (m : MethodId) (x0 : Int32) (x1 : Int32) : entryFrame m #[(.int x0), (.int x1)] maxLocals = mkF m 0 #[.val (.int x0), .val (.int x1), .unset, .unset, .unset, .unset, .unset, .unset, .unset, .unset, .unset, .unset] [] := by first | (simp [entryFrame, mkF, argsToLocals, Value.category, maxLocals]; done) | rfl
def Q0 (Z : State) (p0 : Int32) (p1 : Int32) (h0 : Heap) (n0 : Nat) (v : Option Value) (h : Heap) (L : List Loc) : Prop := v = some (.int 1) ∧ Fr n0 L
set_option maxRecDepth 65536 in
set_option maxHeartbeats 40000000 in
theorem rm0 (l : Launch) (Z : State) (av : Array Value) (hw : ∀ d ∈ tables_1, d.before av Z = true) (ws : List Jvm.Cond) (p0 : Int32) (p1 : Int32) (h0 : Heap) (n0 : Nat) (Z0 : n0 ≤ h0.size) :
    MetFree l x (head1 (Jvm.Cond.code x code maxLocals ret :: ws) room_1) (fun a U => a = #[(.int p0), (.int p1)] ∧ Z.Warmed39 U.vm ∧ U.heap = h0) (fun _ _ _ _ _ => True) (fun _ U o U' => ∃ v L, o = .returned v ∧ Q0 Z p0 p1 h0 n0 v U'.heap L ∧ FrameEnd U o U' L room_1.cells room_1.slots) := by
  refine MetFree.of_bodySF (plainFor_of_name pn_com_example_tierfuse_tierfuse_format_SealedFileFormatCanHoldPinLaw) hisR ?_
  intro p e s m args below meth c s₁ Bd hml0 hP hK
  obtain ⟨rfl, hZ, hh⟩ := hP
  have hx := Bd.exec
  have hby := Bd.bytes
  have hml : c.maxLocals = 12 := hml0
  have hown : s.vm.findClass "com/example/tierfuse/tierfuse/format/SealedFileFormatCanHoldPinLaw" = some m.cls := findClass_of_methodNamed Bd.named
  have hnm := (name_of_methodNamed Bd.named Bd.method).1
  have X0 : Stand p l e room_1 s m #[(.int p0), (.int p1)] below meth c s₁ [] 0 0 := Stand.of_body Bd
  have e0 : s₁.heap = h0 := by rw [← hh, Bd.state]; rfl
  have N0 := Fr.nil n0
  have K0 : Keep h0 h0 [] := Keep.refl h0 []
  have pre0 : ∀ t, Steps p.tables e below (s₁.setTop (mkF m 0 #[.val (.int p0), .val (.int p1), .unset, .unset, .unset, .unset, .unset, .unset, .unset, .unset, .unset, .unset] [])) t → Steps p.tables e below (s₁.setTop (entryFrame m #[(.int p0), (.int p1)] maxLocals)) t := fun t k => castTop (ef0 m p0 p1) k
  have pre1 : ∀ t, Steps p.tables e below (s₁.setTop (mkF m 5 #[.val (.int p0), .val (.int p1), .val (.int (p0 &&& (2147483647 : Int32))), .unset, .unset, .unset, .unset, .unset, .unset, .unset, .unset, .unset] [])) t → Steps p.tables e below (s₁.setTop (entryFrame m #[(.int p0), (.int p1)] maxLocals)) t := fun t kt => pre0 t (by
    show Steps p.tables e below (s₁.setTop (mkF m 0 #[.val (.int p0), .val (.int p1), .unset, .unset, .unset, .unset, .unset, .unset, .unset, .unset, .unset, .unset] [])) _
    refine XS.iloadN X0.here hx rfl (hb hby at_0) rfl ?_
    show Steps p.tables e below (s₁.setTop (mkF m 1 #[.val (.int p0), .val (.int p1), .unset, .unset, .unset, .unset, .unset, .unset, .unset, .unset, .unset, .unset] [(.int p0)])) _
    refine X0.ldcInt hx hown (mvT hZ (hw _ (List.mem_of_getElem? (i := 0) rfl))) (g := (mkF m 1 #[.val (.int p0), .val (.int p1), .unset, .unset, .unset, .unset, .unset, .unset, .unset, .unset, .unset, .unset] [(.int p0)])) rfl (hb hby at_1) _ ?_
    show Steps p.tables e below (s₁.setTop (mkF m 3 #[.val (.int p0), .val (.int p1), .unset, .unset, .unset, .unset, .unset, .unset, .unset, .unset, .unset, .unset] [(.int (2147483647 : Int32)), (.int p0)])) _
    refine XS.iand X0.here hx rfl (hb hby at_3) rfl ?_
    show Steps p.tables e below (s₁.setTop (mkF m 4 #[.val (.int p0), .val (.int p1), .unset, .unset, .unset, .unset, .unset, .unset, .unset, .unset, .unset, .unset] [(.int (p0 &&& (2147483647 : Int32)))])) _
    refine XS.istoreN X0.here hx rfl (hb hby at_4) rfl (l' := #[.val (.int p0), .val (.int p1), .val (.int (p0 &&& (2147483647 : Int32))), .unset, .unset, .unset, .unset, .unset, .unset, .unset, .unset, .unset]) rfl ?_
    exact kt)
  obtain ⟨len, hm2, pre2⟩ : ∃ (len : Int32), (0 ≤ len.toInt) ∧ ∀ t, Steps p.tables e below (s₁.setTop (mkF m 5 #[.val (.int p0), .val (.int p1), .val (.int len), .unset, .unset, .unset, .unset, .unset, .unset, .unset, .unset, .unset] [])) t → Steps p.tables e below (s₁.setTop (entryFrame m #[(.int p0), (.int p1)] maxLocals)) t := ⟨(p0 &&& (2147483647 : Int32)), own_nn p0, pre1⟩
  have pre3 : ∀ t, Steps p.tables e below (s₁.setTop (mkF m 24 #[.val (.int p0), .val (.int p1), .val (.int len), .val (.int p1), .unset, .unset, .unset, .unset, .unset, .unset, .unset, .unset] [(.int (lcmpW ((8 : Int64) * (len.toInt64)) (((3 : Int64) * (p1.toInt64)) + (74 : Int64))))])) t → Steps p.tables e below (s₁.setTop (entryFrame m #[(.int p0), (.int p1)] maxLocals)) t := fun t kt => pre2 t (by
    show Steps p.tables e below (s₁.setTop (mkF m 5 #[.val (.int p0), .val (.int p1), .val (.int len), .unset, .unset, .unset, .unset, .unset, .unset, .unset, .unset, .unset] [])) _
    refine XS.iloadN X0.here hx rfl (hb hby at_5) rfl ?_
    show Steps p.tables e below (s₁.setTop (mkF m 6 #[.val (.int p0), .val (.int p1), .val (.int len), .unset, .unset, .unset, .unset, .unset, .unset, .unset, .unset, .unset] [(.int p1)])) _
    refine XS.istoreN X0.here hx rfl (hb hby at_6) rfl (l' := #[.val (.int p0), .val (.int p1), .val (.int len), .val (.int p1), .unset, .unset, .unset, .unset, .unset, .unset, .unset, .unset]) rfl ?_
    show Steps p.tables e below (s₁.setTop (mkF m 7 #[.val (.int p0), .val (.int p1), .val (.int len), .val (.int p1), .unset, .unset, .unset, .unset, .unset, .unset, .unset, .unset] [])) _
    refine X0.ldc2Long hx hown (mvT hZ (hw _ (List.mem_of_getElem? (i := 1) rfl))) (g := (mkF m 7 #[.val (.int p0), .val (.int p1), .val (.int len), .val (.int p1), .unset, .unset, .unset, .unset, .unset, .unset, .unset, .unset] [])) rfl (hb hby at_7) _ ?_
    show Steps p.tables e below (s₁.setTop (mkF m 10 #[.val (.int p0), .val (.int p1), .val (.int len), .val (.int p1), .unset, .unset, .unset, .unset, .unset, .unset, .unset, .unset] [(.long (8 : Int64))])) _
    refine XS.iloadN X0.here hx rfl (hb hby at_10) rfl ?_
    show Steps p.tables e below (s₁.setTop (mkF m 11 #[.val (.int p0), .val (.int p1), .val (.int len), .val (.int p1), .unset, .unset, .unset, .unset, .unset, .unset, .unset, .unset] [(.int len), (.long (8 : Int64))])) _
    refine XS.i2l X0.here hx rfl (hb hby at_11) rfl ?_
    show Steps p.tables e below (s₁.setTop (mkF m 12 #[.val (.int p0), .val (.int p1), .val (.int len), .val (.int p1), .unset, .unset, .unset, .unset, .unset, .unset, .unset, .unset] [(.long (len.toInt64)), (.long (8 : Int64))])) _
    refine XS.lmul X0.here hx rfl (hb hby at_12) rfl ?_
    show Steps p.tables e below (s₁.setTop (mkF m 13 #[.val (.int p0), .val (.int p1), .val (.int len), .val (.int p1), .unset, .unset, .unset, .unset, .unset, .unset, .unset, .unset] [(.long ((8 : Int64) * (len.toInt64)))])) _
    refine X0.ldc2Long hx hown (mvT hZ (hw _ (List.mem_of_getElem? (i := 2) rfl))) (g := (mkF m 13 #[.val (.int p0), .val (.int p1), .val (.int len), .val (.int p1), .unset, .unset, .unset, .unset, .unset, .unset, .unset, .unset] [(.long ((8 : Int64) * (len.toInt64)))])) rfl (hb hby at_13) _ ?_
    show Steps p.tables e below (s₁.setTop (mkF m 16 #[.val (.int p0), .val (.int p1), .val (.int len), .val (.int p1), .unset, .unset, .unset, .unset, .unset, .unset, .unset, .unset] [(.long (3 : Int64)), (.long ((8 : Int64) * (len.toInt64)))])) _
    refine XS.iloadN X0.here hx rfl (hb hby at_16) rfl ?_
    show Steps p.tables e below (s₁.setTop (mkF m 17 #[.val (.int p0), .val (.int p1), .val (.int len), .val (.int p1), .unset, .unset, .unset, .unset, .unset, .unset, .unset, .unset] [(.int p1), (.long (3 : Int64)), (.long ((8 : Int64) * (len.toInt64)))])) _
    refine XS.i2l X0.here hx rfl (hb hby at_17) rfl ?_
    show Steps p.tables e below (s₁.setTop (mkF m 18 #[.val (.int p0), .val (.int p1), .val (.int len), .val (.int p1), .unset, .unset, .unset, .unset, .unset, .unset, .unset, .unset] [(.long (p1.toInt64)), (.long (3 : Int64)), (.long ((8 : Int64) * (len.toInt64)))])) _
    refine XS.lmul X0.here hx rfl (hb hby at_18) rfl ?_
    show Steps p.tables e below (s₁.setTop (mkF m 19 #[.val (.int p0), .val (.int p1), .val (.int len), .val (.int p1), .unset, .unset, .unset, .unset, .unset, .unset, .unset, .unset] [(.long ((3 : Int64) * (p1.toInt64))), (.long ((8 : Int64) * (len.toInt64)))])) _
    refine X0.ldc2Long hx hown (mvT hZ (hw _ (List.mem_of_getElem? (i := 3) rfl))) (g := (mkF m 19 #[.val (.int p0), .val (.int p1), .val (.int len), .val (.int p1), .unset, .unset, .unset, .unset, .unset, .unset, .unset, .unset] [(.long ((3 : Int64) * (p1.toInt64))), (.long ((8 : Int64) * (len.toInt64)))])) rfl (hb hby at_19) _ ?_
    show Steps p.tables e below (s₁.setTop (mkF m 22 #[.val (.int p0), .val (.int p1), .val (.int len), .val (.int p1), .unset, .unset, .unset, .unset, .unset, .unset, .unset, .unset] [(.long (74 : Int64)), (.long ((3 : Int64) * (p1.toInt64))), (.long ((8 : Int64) * (len.toInt64)))])) _
    refine XS.ladd X0.here hx rfl (hb hby at_22) rfl ?_
    show Steps p.tables e below (s₁.setTop (mkF m 23 #[.val (.int p0), .val (.int p1), .val (.int len), .val (.int p1), .unset, .unset, .unset, .unset, .unset, .unset, .unset, .unset] [(.long (((3 : Int64) * (p1.toInt64)) + (74 : Int64))), (.long ((8 : Int64) * (len.toInt64)))])) _
    refine XS.lcmp X0.here hx rfl (hb hby at_23) rfl ?_
    exact kt)
  by_cases hc24_4 : ((8 : Int64) * (len.toInt64)) < (((3 : Int64) * (p1.toInt64)) + (74 : Int64))
  · have pre5 : ∀ t, Steps p.tables e below (s₁.setTop (mkF m 36 #[.val (.int p0), .val (.int p1), .val (.int len), .val (.int p1), .val (.int (0 : Int32)), .unset, .unset, .unset, .unset, .unset, .unset, .unset] [(.int p1), (.int len)])) t → Steps p.tables e below (s₁.setTop (entryFrame m #[(.int p0), (.int p1)] maxLocals)) t := fun t kt => pre3 t (by
      show Steps p.tables e below (s₁.setTop (mkF m 24 #[.val (.int p0), .val (.int p1), .val (.int len), .val (.int p1), .unset, .unset, .unset, .unset, .unset, .unset, .unset, .unset] [(.int (lcmpW ((8 : Int64) * (len.toInt64)) (((3 : Int64) * (p1.toInt64)) + (74 : Int64))))])) _
      refine XS.ifYes X0.here hx rfl (pc0 := 24) (pc' := 31) rfl (hb hby at_24) rfl (Jvm.Free.XT.ll_lt_t hc24_4) (by decide) (by decide) ?_
      show Steps p.tables e below (s₁.setTop (mkF m 31 #[.val (.int p0), .val (.int p1), .val (.int len), .val (.int p1), .unset, .unset, .unset, .unset, .unset, .unset, .unset, .unset] [])) _
      refine XS.iconst X0.here hx rfl (hb hby at_31) ?_
      show Steps p.tables e below (s₁.setTop (mkF m 32 #[.val (.int p0), .val (.int p1), .val (.int len), .val (.int p1), .unset, .unset, .unset, .unset, .unset, .unset, .unset, .unset] [(.int (0 : Int32))])) _
      refine XS.istore X0.here hx rfl (hb hby at_32) rfl (l' := #[.val (.int p0), .val (.int p1), .val (.int len), .val (.int p1), .val (.int (0 : Int32)), .unset, .unset, .unset, .unset, .unset, .unset, .unset]) rfl ?_
      show Steps p.tables e below (s₁.setTop (mkF m 34 #[.val (.int p0), .val (.int p1), .val (.int len), .val (.int p1), .val (.int (0 : Int32)), .unset, .unset, .unset, .unset, .unset, .unset, .unset] [])) _
      refine XS.iloadN X0.here hx rfl (hb hby at_34) rfl ?_
      show Steps p.tables e below (s₁.setTop (mkF m 35 #[.val (.int p0), .val (.int p1), .val (.int len), .val (.int p1), .val (.int (0 : Int32)), .unset, .unset, .unset, .unset, .unset, .unset, .unset] [(.int len)])) _
      refine XS.iloadN X0.here hx rfl (hb hby at_35) rfl ?_
      exact kt)
    obtain ⟨_, _, ⟨T6, L6, k6, n6⟩, -, X6, ⟨Lc6, hQ6, l6, y6, z6⟩, st6⟩ := Jvm.LawKit.callS X0 hx (y := (⟨"com/example/tierfuse/tierfuse/format/SealedFileFormat", "canHold", "(II)Z"⟩ : MethodName)) hown (mvT hZ (hw _ (List.mem_of_getElem? (i := 4) rfl))) (mvT hZ (hw _ (List.mem_of_getElem? (i := 5) rfl))) (mvT hZ (hw _ (List.mem_of_getElem? (i := 6) rfl))) (mvT hZ (hw _ (List.mem_of_getElem? (i := 7) rfl))) (by decide) (backOf (W := 0) (rm1 l Z av hw [] len p1  h0 n0 Z0 ) hZ (hw _ (List.mem_of_getElem? (i := 7) rfl)) (hw _ (List.mem_of_getElem? (i := 6) rfl)) (by decide) (by decide)) (g := (mkF m 36 #[.val (.int p0), .val (.int p1), .val (.int len), .val (.int p1), .val (.int (0 : Int32)), .unset, .unset, .unset, .unset, .unset, .unset, .unset] [(.int p1), (.int len)])) rfl (by rw [hml]; rfl) (argsL := [(.int len), (.int p1)]) (rest := []) (lenOf pd__II_Z rfl) rfl (by show 2 * 0 + _ ≤ _; exact Nat.le_of_eq rfl) (hb hby at_36) (fun _ _ => ⟨rfl, e0, (by decide : 0 + 0 ≤ _), (by decide : 0 + 0 ≤ _)⟩)
    dsimp only [Pt.U, Pt.locs, Pt.cells, Pt.slots] at X6 l6 y6 z6 st6 hQ6
    subst l6 y6 z6
    obtain ⟨rfl, N6q, e6⟩ := hQ6
    have N6 := Fr.app N0 N6q
    have pre7 : ∀ t, Steps p.tables e below (T6.setTop (mkF m 39 #[.val (.int p0), .val (.int p1), .val (.int len), .val (.int p1), .val (.int (0 : Int32)), .unset, .unset, .unset, .unset, .unset, .unset, .unset] [(.int (f1 len p1))])) t → Steps p.tables e below (s₁.setTop (entryFrame m #[(.int p0), (.int p1)] maxLocals)) t := fun t kt => pre5 t (st6 _ kt)
    have pre8 : ∀ t, Steps p.tables e below (T6.setTop (mkF m 57 #[.val (.int p0), .val (.int p1), .val (.int len), .val (.int p1), .val (.int (0 : Int32)), .val (.int (1 : Int32)), .val (.int (p1 &&& (2147483647 : Int32))), .unset, .unset, .unset, .unset, .unset] [])) t → Steps p.tables e below (s₁.setTop (entryFrame m #[(.int p0), (.int p1)] maxLocals)) t := fun t kt => pre7 t (by
      show Steps p.tables e below (T6.setTop (mkF m 39 #[.val (.int p0), .val (.int p1), .val (.int len), .val (.int p1), .val (.int (0 : Int32)), .unset, .unset, .unset, .unset, .unset, .unset, .unset] [(.int (f1 len p1))])) _
      refine XS.iload X6.here hx rfl (hb hby at_39) rfl ?_
      show Steps p.tables e below (T6.setTop (mkF m 41 #[.val (.int p0), .val (.int p1), .val (.int len), .val (.int p1), .val (.int (0 : Int32)), .unset, .unset, .unset, .unset, .unset, .unset, .unset] [(.int (0 : Int32)), (.int (f1 len p1))])) _
      refine XS.icmpNo X6.here hx rfl (hb hby at_41) rfl (teq (by rw [own_f1 len p1 hm2]; first | exact if_neg ((own_w len p1 hm2).mp hc24_4) | exact if_pos (Decidable.not_not.mp fun z => hc24_4 ((own_w len p1 hm2).mpr z)) : (f1 len p1) = (0 : Int32))).2 ?_
      show Steps p.tables e below (T6.setTop (mkF m 44 #[.val (.int p0), .val (.int p1), .val (.int len), .val (.int p1), .val (.int (0 : Int32)), .unset, .unset, .unset, .unset, .unset, .unset, .unset] [])) _
      refine XS.iconst X6.here hx rfl (hb hby at_44) ?_
      show Steps p.tables e below (T6.setTop (mkF m 45 #[.val (.int p0), .val (.int p1), .val (.int len), .val (.int p1), .val (.int (0 : Int32)), .unset, .unset, .unset, .unset, .unset, .unset, .unset] [(.int (1 : Int32))])) _
      refine XS.goto X6.here hx rfl (pc0 := 45) (pc' := 49) rfl (hb hby at_45) (by decide) (by decide) ?_
      show Steps p.tables e below (T6.setTop (mkF m 49 #[.val (.int p0), .val (.int p1), .val (.int len), .val (.int p1), .val (.int (0 : Int32)), .unset, .unset, .unset, .unset, .unset, .unset, .unset] [(.int (1 : Int32))])) _
      refine XS.istore X6.here hx rfl (hb hby at_49) rfl (l' := #[.val (.int p0), .val (.int p1), .val (.int len), .val (.int p1), .val (.int (0 : Int32)), .val (.int (1 : Int32)), .unset, .unset, .unset, .unset, .unset, .unset]) rfl ?_
      show Steps p.tables e below (T6.setTop (mkF m 51 #[.val (.int p0), .val (.int p1), .val (.int len), .val (.int p1), .val (.int (0 : Int32)), .val (.int (1 : Int32)), .unset, .unset, .unset, .unset, .unset, .unset] [])) _
      refine XS.iloadN X6.here hx rfl (hb hby at_51) rfl ?_
      show Steps p.tables e below (T6.setTop (mkF m 52 #[.val (.int p0), .val (.int p1), .val (.int len), .val (.int p1), .val (.int (0 : Int32)), .val (.int (1 : Int32)), .unset, .unset, .unset, .unset, .unset, .unset] [(.int p1)])) _
      refine X6.ldcInt hx hown (mvT hZ (hw _ (List.mem_of_getElem? (i := 0) rfl))) (g := (mkF m 52 #[.val (.int p0), .val (.int p1), .val (.int len), .val (.int p1), .val (.int (0 : Int32)), .val (.int (1 : Int32)), .unset, .unset, .unset, .unset, .unset, .unset] [(.int p1)])) rfl (hb hby at_52) _ ?_
      show Steps p.tables e below (T6.setTop (mkF m 54 #[.val (.int p0), .val (.int p1), .val (.int len), .val (.int p1), .val (.int (0 : Int32)), .val (.int (1 : Int32)), .unset, .unset, .unset, .unset, .unset, .unset] [(.int (2147483647 : Int32)), (.int p1)])) _
      refine XS.iand X6.here hx rfl (hb hby at_54) rfl ?_
      show Steps p.tables e below (T6.setTop (mkF m 55 #[.val (.int p0), .val (.int p1), .val (.int len), .val (.int p1), .val (.int (0 : Int32)), .val (.int (1 : Int32)), .unset, .unset, .unset, .unset, .unset, .unset] [(.int (p1 &&& (2147483647 : Int32)))])) _
      refine XS.istore X6.here hx rfl (hb hby at_55) rfl (l' := #[.val (.int p0), .val (.int p1), .val (.int len), .val (.int p1), .val (.int (0 : Int32)), .val (.int (1 : Int32)), .val (.int (p1 &&& (2147483647 : Int32))), .unset, .unset, .unset, .unset, .unset]) rfl ?_
      exact kt)
    obtain ⟨cc, hm9, pre9⟩ : ∃ (cc : Int32), (0 ≤ cc.toInt) ∧ ∀ t, Steps p.tables e below (T6.setTop (mkF m 57 #[.val (.int p0), .val (.int p1), .val (.int len), .val (.int p1), .val (.int (0 : Int32)), .val (.int (1 : Int32)), .val (.int cc), .unset, .unset, .unset, .unset, .unset] [])) t → Steps p.tables e below (s₁.setTop (entryFrame m #[(.int p0), (.int p1)] maxLocals)) t := ⟨(p1 &&& (2147483647 : Int32)), own_nn p1, pre8⟩
    have pre10 : ∀ t, Steps p.tables e below (T6.setTop (mkF m 83 #[.val (.int p0), .val (.int p1), .val (.int len), .val (.int p1), .val (.int (0 : Int32)), .val (.int (1 : Int32)), .val (.int cc), .val (.long ((9 : Int64) + ((((3 : Int64) * (cc.toInt64)) + (9 : Int64)) / (8 : Int64)))), .second, .val (.int (((9 : Int64) + ((((3 : Int64) * (cc.toInt64)) + (9 : Int64)) / (8 : Int64))).toInt32)), .unset, .unset] [])) t → Steps p.tables e below (s₁.setTop (entryFrame m #[(.int p0), (.int p1)] maxLocals)) t := fun t kt => pre9 t (by
      show Steps p.tables e below (T6.setTop (mkF m 57 #[.val (.int p0), .val (.int p1), .val (.int len), .val (.int p1), .val (.int (0 : Int32)), .val (.int (1 : Int32)), .val (.int cc), .unset, .unset, .unset, .unset, .unset] [])) _
      refine X6.ldc2Long hx hown (mvT hZ (hw _ (List.mem_of_getElem? (i := 15) rfl))) (g := (mkF m 57 #[.val (.int p0), .val (.int p1), .val (.int len), .val (.int p1), .val (.int (0 : Int32)), .val (.int (1 : Int32)), .val (.int cc), .unset, .unset, .unset, .unset, .unset] [])) rfl (hb hby at_57) _ ?_
      show Steps p.tables e below (T6.setTop (mkF m 60 #[.val (.int p0), .val (.int p1), .val (.int len), .val (.int p1), .val (.int (0 : Int32)), .val (.int (1 : Int32)), .val (.int cc), .unset, .unset, .unset, .unset, .unset] [(.long (9 : Int64))])) _
      refine X6.ldc2Long hx hown (mvT hZ (hw _ (List.mem_of_getElem? (i := 2) rfl))) (g := (mkF m 60 #[.val (.int p0), .val (.int p1), .val (.int len), .val (.int p1), .val (.int (0 : Int32)), .val (.int (1 : Int32)), .val (.int cc), .unset, .unset, .unset, .unset, .unset] [(.long (9 : Int64))])) rfl (hb hby at_60) _ ?_
      show Steps p.tables e below (T6.setTop (mkF m 63 #[.val (.int p0), .val (.int p1), .val (.int len), .val (.int p1), .val (.int (0 : Int32)), .val (.int (1 : Int32)), .val (.int cc), .unset, .unset, .unset, .unset, .unset] [(.long (3 : Int64)), (.long (9 : Int64))])) _
      refine XS.iload X6.here hx rfl (hb hby at_63) rfl ?_
      show Steps p.tables e below (T6.setTop (mkF m 65 #[.val (.int p0), .val (.int p1), .val (.int len), .val (.int p1), .val (.int (0 : Int32)), .val (.int (1 : Int32)), .val (.int cc), .unset, .unset, .unset, .unset, .unset] [(.int cc), (.long (3 : Int64)), (.long (9 : Int64))])) _
      refine XS.i2l X6.here hx rfl (hb hby at_65) rfl ?_
      show Steps p.tables e below (T6.setTop (mkF m 66 #[.val (.int p0), .val (.int p1), .val (.int len), .val (.int p1), .val (.int (0 : Int32)), .val (.int (1 : Int32)), .val (.int cc), .unset, .unset, .unset, .unset, .unset] [(.long (cc.toInt64)), (.long (3 : Int64)), (.long (9 : Int64))])) _
      refine XS.lmul X6.here hx rfl (hb hby at_66) rfl ?_
      show Steps p.tables e below (T6.setTop (mkF m 67 #[.val (.int p0), .val (.int p1), .val (.int len), .val (.int p1), .val (.int (0 : Int32)), .val (.int (1 : Int32)), .val (.int cc), .unset, .unset, .unset, .unset, .unset] [(.long ((3 : Int64) * (cc.toInt64))), (.long (9 : Int64))])) _
      refine X6.ldc2Long hx hown (mvT hZ (hw _ (List.mem_of_getElem? (i := 15) rfl))) (g := (mkF m 67 #[.val (.int p0), .val (.int p1), .val (.int len), .val (.int p1), .val (.int (0 : Int32)), .val (.int (1 : Int32)), .val (.int cc), .unset, .unset, .unset, .unset, .unset] [(.long ((3 : Int64) * (cc.toInt64))), (.long (9 : Int64))])) rfl (hb hby at_67) _ ?_
      show Steps p.tables e below (T6.setTop (mkF m 70 #[.val (.int p0), .val (.int p1), .val (.int len), .val (.int p1), .val (.int (0 : Int32)), .val (.int (1 : Int32)), .val (.int cc), .unset, .unset, .unset, .unset, .unset] [(.long (9 : Int64)), (.long ((3 : Int64) * (cc.toInt64))), (.long (9 : Int64))])) _
      refine XS.ladd X6.here hx rfl (hb hby at_70) rfl ?_
      show Steps p.tables e below (T6.setTop (mkF m 71 #[.val (.int p0), .val (.int p1), .val (.int len), .val (.int p1), .val (.int (0 : Int32)), .val (.int (1 : Int32)), .val (.int cc), .unset, .unset, .unset, .unset, .unset] [(.long (((3 : Int64) * (cc.toInt64)) + (9 : Int64))), (.long (9 : Int64))])) _
      refine X6.ldc2Long hx hown (mvT hZ (hw _ (List.mem_of_getElem? (i := 1) rfl))) (g := (mkF m 71 #[.val (.int p0), .val (.int p1), .val (.int len), .val (.int p1), .val (.int (0 : Int32)), .val (.int (1 : Int32)), .val (.int cc), .unset, .unset, .unset, .unset, .unset] [(.long (((3 : Int64) * (cc.toInt64)) + (9 : Int64))), (.long (9 : Int64))])) rfl (hb hby at_71) _ ?_
      show Steps p.tables e below (T6.setTop (mkF m 74 #[.val (.int p0), .val (.int p1), .val (.int len), .val (.int p1), .val (.int (0 : Int32)), .val (.int (1 : Int32)), .val (.int cc), .unset, .unset, .unset, .unset, .unset] [(.long (8 : Int64)), (.long (((3 : Int64) * (cc.toInt64)) + (9 : Int64))), (.long (9 : Int64))])) _
      refine XS.ldiv X6.here hx rfl (hb hby at_74) rfl (by decide) ?_
      show Steps p.tables e below (T6.setTop (mkF m 75 #[.val (.int p0), .val (.int p1), .val (.int len), .val (.int p1), .val (.int (0 : Int32)), .val (.int (1 : Int32)), .val (.int cc), .unset, .unset, .unset, .unset, .unset] [(.long ((((3 : Int64) * (cc.toInt64)) + (9 : Int64)) / (8 : Int64))), (.long (9 : Int64))])) _
      refine XS.ladd X6.here hx rfl (hb hby at_75) rfl ?_
      show Steps p.tables e below (T6.setTop (mkF m 76 #[.val (.int p0), .val (.int p1), .val (.int len), .val (.int p1), .val (.int (0 : Int32)), .val (.int (1 : Int32)), .val (.int cc), .unset, .unset, .unset, .unset, .unset] [(.long ((9 : Int64) + ((((3 : Int64) * (cc.toInt64)) + (9 : Int64)) / (8 : Int64))))])) _
      refine XS.lstore X6.here hx rfl (hb hby at_76) rfl (l' := #[.val (.int p0), .val (.int p1), .val (.int len), .val (.int p1), .val (.int (0 : Int32)), .val (.int (1 : Int32)), .val (.int cc), .val (.long ((9 : Int64) + ((((3 : Int64) * (cc.toInt64)) + (9 : Int64)) / (8 : Int64)))), .second, .unset, .unset, .unset]) rfl ?_
      show Steps p.tables e below (T6.setTop (mkF m 78 #[.val (.int p0), .val (.int p1), .val (.int len), .val (.int p1), .val (.int (0 : Int32)), .val (.int (1 : Int32)), .val (.int cc), .val (.long ((9 : Int64) + ((((3 : Int64) * (cc.toInt64)) + (9 : Int64)) / (8 : Int64)))), .second, .unset, .unset, .unset] [])) _
      refine XS.lload X6.here hx rfl (hb hby at_78) rfl ?_
      show Steps p.tables e below (T6.setTop (mkF m 80 #[.val (.int p0), .val (.int p1), .val (.int len), .val (.int p1), .val (.int (0 : Int32)), .val (.int (1 : Int32)), .val (.int cc), .val (.long ((9 : Int64) + ((((3 : Int64) * (cc.toInt64)) + (9 : Int64)) / (8 : Int64)))), .second, .unset, .unset, .unset] [(.long ((9 : Int64) + ((((3 : Int64) * (cc.toInt64)) + (9 : Int64)) / (8 : Int64))))])) _
      refine XS.l2i X6.here hx rfl (hb hby at_80) rfl ?_
      show Steps p.tables e below (T6.setTop (mkF m 81 #[.val (.int p0), .val (.int p1), .val (.int len), .val (.int p1), .val (.int (0 : Int32)), .val (.int (1 : Int32)), .val (.int cc), .val (.long ((9 : Int64) + ((((3 : Int64) * (cc.toInt64)) + (9 : Int64)) / (8 : Int64)))), .second, .unset, .unset, .unset] [(.int (((9 : Int64) + ((((3 : Int64) * (cc.toInt64)) + (9 : Int64)) / (8 : Int64))).toInt32))])) _
      refine XS.istore X6.here hx rfl (hb hby at_81) rfl (l' := #[.val (.int p0), .val (.int p1), .val (.int len), .val (.int p1), .val (.int (0 : Int32)), .val (.int (1 : Int32)), .val (.int cc), .val (.long ((9 : Int64) + ((((3 : Int64) * (cc.toInt64)) + (9 : Int64)) / (8 : Int64)))), .second, .val (.int (((9 : Int64) + ((((3 : Int64) * (cc.toInt64)) + (9 : Int64)) / (8 : Int64))).toInt32)), .unset, .unset]) rfl ?_
      exact kt)
    obtain ⟨mm, hm11, pre11⟩ : ∃ (mm : Int32), (mm.toInt = 9 + (3 * cc.toInt + 9) / 8) ∧ ∀ t, Steps p.tables e below (T6.setTop (mkF m 83 #[.val (.int p0), .val (.int p1), .val (.int len), .val (.int p1), .val (.int (0 : Int32)), .val (.int (1 : Int32)), .val (.int cc), .val (.long ((9 : Int64) + ((((3 : Int64) * (cc.toInt64)) + (9 : Int64)) / (8 : Int64)))), .second, .val (.int mm), .unset, .unset] [])) t → Steps p.tables e below (s₁.setTop (entryFrame m #[(.int p0), (.int p1)] maxLocals)) t := ⟨(((9 : Int64) + ((((3 : Int64) * (cc.toInt64)) + (9 : Int64)) / (8 : Int64))).toInt32), own_m cc hm9, pre10⟩
    have pre12 : ∀ t, Steps p.tables e below (T6.setTop (mkF m 87 #[.val (.int p0), .val (.int p1), .val (.int len), .val (.int p1), .val (.int (0 : Int32)), .val (.int (1 : Int32)), .val (.int cc), .val (.long ((9 : Int64) + ((((3 : Int64) * (cc.toInt64)) + (9 : Int64)) / (8 : Int64)))), .second, .val (.int mm), .unset, .unset] [(.int cc), (.int mm)])) t → Steps p.tables e below (s₁.setTop (entryFrame m #[(.int p0), (.int p1)] maxLocals)) t := fun t kt => pre11 t (by
      show Steps p.tables e below (T6.setTop (mkF m 83 #[.val (.int p0), .val (.int p1), .val (.int len), .val (.int p1), .val (.int (0 : Int32)), .val (.int (1 : Int32)), .val (.int cc), .val (.long ((9 : Int64) + ((((3 : Int64) * (cc.toInt64)) + (9 : Int64)) / (8 : Int64)))), .second, .val (.int mm), .unset, .unset] [])) _
      refine XS.iload X6.here hx rfl (hb hby at_83) rfl ?_
      show Steps p.tables e below (T6.setTop (mkF m 85 #[.val (.int p0), .val (.int p1), .val (.int len), .val (.int p1), .val (.int (0 : Int32)), .val (.int (1 : Int32)), .val (.int cc), .val (.long ((9 : Int64) + ((((3 : Int64) * (cc.toInt64)) + (9 : Int64)) / (8 : Int64)))), .second, .val (.int mm), .unset, .unset] [(.int mm)])) _
      refine XS.iload X6.here hx rfl (hb hby at_85) rfl ?_
      exact kt)
    obtain ⟨_, _, ⟨T13, L13, k13, n13⟩, -, X13, ⟨Lc13, hQ13, l13, y13, z13⟩, st13⟩ := Jvm.LawKit.callS X6 hx (y := (⟨"com/example/tierfuse/tierfuse/format/SealedFileFormat", "canHold", "(II)Z"⟩ : MethodName)) hown (mvT hZ (hw _ (List.mem_of_getElem? (i := 4) rfl))) (mvT hZ (hw _ (List.mem_of_getElem? (i := 5) rfl))) (mvT hZ (hw _ (List.mem_of_getElem? (i := 6) rfl))) (mvT hZ (hw _ (List.mem_of_getElem? (i := 7) rfl))) (by decide) (backOf (W := 0) (rm1 l Z av hw [] mm cc  h0 n0 Z0 ) hZ (hw _ (List.mem_of_getElem? (i := 7) rfl)) (hw _ (List.mem_of_getElem? (i := 6) rfl)) (by decide) (by decide)) (g := (mkF m 87 #[.val (.int p0), .val (.int p1), .val (.int len), .val (.int p1), .val (.int (0 : Int32)), .val (.int (1 : Int32)), .val (.int cc), .val (.long ((9 : Int64) + ((((3 : Int64) * (cc.toInt64)) + (9 : Int64)) / (8 : Int64)))), .second, .val (.int mm), .unset, .unset] [(.int cc), (.int mm)])) rfl (by rw [hml]; rfl) (argsL := [(.int mm), (.int cc)]) (rest := []) (lenOf pd__II_Z rfl) rfl (by show 2 * 0 + _ ≤ _; exact Nat.le_of_eq rfl) (hb hby at_87) (fun _ _ => ⟨rfl, e6, (by decide : 0 + 0 ≤ _), (by decide : 0 + 0 ≤ _)⟩)
    dsimp only [Pt.U, Pt.locs, Pt.cells, Pt.slots] at X13 l13 y13 z13 st13 hQ13
    subst l13 y13 z13
    obtain ⟨rfl, N13q, e13⟩ := hQ13
    have N13 := Fr.app N6 N13q
    have pre14 : ∀ t, Steps p.tables e below (T13.setTop (mkF m 90 #[.val (.int p0), .val (.int p1), .val (.int len), .val (.int p1), .val (.int (0 : Int32)), .val (.int (1 : Int32)), .val (.int cc), .val (.long ((9 : Int64) + ((((3 : Int64) * (cc.toInt64)) + (9 : Int64)) / (8 : Int64)))), .second, .val (.int mm), .unset, .unset] [(.int (f1 mm cc))])) t → Steps p.tables e below (s₁.setTop (entryFrame m #[(.int p0), (.int p1)] maxLocals)) t := fun t kt => pre12 t (st13 _ kt)
    have pre15 : ∀ t, Steps p.tables e below (T13.setTop (mkF m 98 #[.val (.int p0), .val (.int p1), .val (.int len), .val (.int p1), .val (.int (0 : Int32)), .val (.int (1 : Int32)), .val (.int cc), .val (.long ((9 : Int64) + ((((3 : Int64) * (cc.toInt64)) + (9 : Int64)) / (8 : Int64)))), .second, .val (.int mm), .val (.int (f1 mm cc)), .unset] [(.int cc), (.int (mm - (1 : Int32)))])) t → Steps p.tables e below (s₁.setTop (entryFrame m #[(.int p0), (.int p1)] maxLocals)) t := fun t kt => pre14 t (by
      show Steps p.tables e below (T13.setTop (mkF m 90 #[.val (.int p0), .val (.int p1), .val (.int len), .val (.int p1), .val (.int (0 : Int32)), .val (.int (1 : Int32)), .val (.int cc), .val (.long ((9 : Int64) + ((((3 : Int64) * (cc.toInt64)) + (9 : Int64)) / (8 : Int64)))), .second, .val (.int mm), .unset, .unset] [(.int (f1 mm cc))])) _
      refine XS.istore X13.here hx rfl (hb hby at_90) rfl (l' := #[.val (.int p0), .val (.int p1), .val (.int len), .val (.int p1), .val (.int (0 : Int32)), .val (.int (1 : Int32)), .val (.int cc), .val (.long ((9 : Int64) + ((((3 : Int64) * (cc.toInt64)) + (9 : Int64)) / (8 : Int64)))), .second, .val (.int mm), .val (.int (f1 mm cc)), .unset]) rfl ?_
      show Steps p.tables e below (T13.setTop (mkF m 92 #[.val (.int p0), .val (.int p1), .val (.int len), .val (.int p1), .val (.int (0 : Int32)), .val (.int (1 : Int32)), .val (.int cc), .val (.long ((9 : Int64) + ((((3 : Int64) * (cc.toInt64)) + (9 : Int64)) / (8 : Int64)))), .second, .val (.int mm), .val (.int (f1 mm cc)), .unset] [])) _
      refine XS.iload X13.here hx rfl (hb hby at_92) rfl ?_
      show Steps p.tables e below (T13.setTop (mkF m 94 #[.val (.int p0), .val (.int p1), .val (.int len), .val (.int p1), .val (.int (0 : Int32)), .val (.int (1 : Int32)), .val (.int cc), .val (.long ((9 : Int64) + ((((3 : Int64) * (cc.toInt64)) + (9 : Int64)) / (8 : Int64)))), .second, .val (.int mm), .val (.int (f1 mm cc)), .unset] [(.int mm)])) _
      refine XS.iconst X13.here hx rfl (hb hby at_94) ?_
      show Steps p.tables e below (T13.setTop (mkF m 95 #[.val (.int p0), .val (.int p1), .val (.int len), .val (.int p1), .val (.int (0 : Int32)), .val (.int (1 : Int32)), .val (.int cc), .val (.long ((9 : Int64) + ((((3 : Int64) * (cc.toInt64)) + (9 : Int64)) / (8 : Int64)))), .second, .val (.int mm), .val (.int (f1 mm cc)), .unset] [(.int (1 : Int32)), (.int mm)])) _
      refine XS.isub X13.here hx rfl (hb hby at_95) rfl ?_
      show Steps p.tables e below (T13.setTop (mkF m 96 #[.val (.int p0), .val (.int p1), .val (.int len), .val (.int p1), .val (.int (0 : Int32)), .val (.int (1 : Int32)), .val (.int cc), .val (.long ((9 : Int64) + ((((3 : Int64) * (cc.toInt64)) + (9 : Int64)) / (8 : Int64)))), .second, .val (.int mm), .val (.int (f1 mm cc)), .unset] [(.int (mm - (1 : Int32)))])) _
      refine XS.iload X13.here hx rfl (hb hby at_96) rfl ?_
      exact kt)
    obtain ⟨_, _, ⟨T16, L16, k16, n16⟩, -, X16, ⟨Lc16, hQ16, l16, y16, z16⟩, st16⟩ := Jvm.LawKit.callS X13 hx (y := (⟨"com/example/tierfuse/tierfuse/format/SealedFileFormat", "canHold", "(II)Z"⟩ : MethodName)) hown (mvT hZ (hw _ (List.mem_of_getElem? (i := 4) rfl))) (mvT hZ (hw _ (List.mem_of_getElem? (i := 5) rfl))) (mvT hZ (hw _ (List.mem_of_getElem? (i := 6) rfl))) (mvT hZ (hw _ (List.mem_of_getElem? (i := 7) rfl))) (by decide) (backOf (W := 0) (rm1 l Z av hw [] (mm - (1 : Int32)) cc  h0 n0 Z0 ) hZ (hw _ (List.mem_of_getElem? (i := 7) rfl)) (hw _ (List.mem_of_getElem? (i := 6) rfl)) (by decide) (by decide)) (g := (mkF m 98 #[.val (.int p0), .val (.int p1), .val (.int len), .val (.int p1), .val (.int (0 : Int32)), .val (.int (1 : Int32)), .val (.int cc), .val (.long ((9 : Int64) + ((((3 : Int64) * (cc.toInt64)) + (9 : Int64)) / (8 : Int64)))), .second, .val (.int mm), .val (.int (f1 mm cc)), .unset] [(.int cc), (.int (mm - (1 : Int32)))])) rfl (by rw [hml]; rfl) (argsL := [(.int (mm - (1 : Int32))), (.int cc)]) (rest := []) (lenOf pd__II_Z rfl) rfl (by show 2 * 0 + _ ≤ _; exact Nat.le_of_eq rfl) (hb hby at_98) (fun _ _ => ⟨rfl, e13, (by decide : 0 + 0 ≤ _), (by decide : 0 + 0 ≤ _)⟩)
    dsimp only [Pt.U, Pt.locs, Pt.cells, Pt.slots] at X16 l16 y16 z16 st16 hQ16
    subst l16 y16 z16
    obtain ⟨rfl, N16q, e16⟩ := hQ16
    have N16 := Fr.app N13 N16q
    have pre17 : ∀ t, Steps p.tables e below (T16.setTop (mkF m 101 #[.val (.int p0), .val (.int p1), .val (.int len), .val (.int p1), .val (.int (0 : Int32)), .val (.int (1 : Int32)), .val (.int cc), .val (.long ((9 : Int64) + ((((3 : Int64) * (cc.toInt64)) + (9 : Int64)) / (8 : Int64)))), .second, .val (.int mm), .val (.int (f1 mm cc)), .unset] [(.int (f1 (mm - (1 : Int32)) cc))])) t → Steps p.tables e below (s₁.setTop (entryFrame m #[(.int p0), (.int p1)] maxLocals)) t := fun t kt => pre15 t (st16 _ kt)
    have pre18 : ∀ t, Steps p.tables e below (T16.setTop (mkF m 123 #[.val (.int p0), .val (.int p1), .val (.int len), .val (.int p1), .val (.int (0 : Int32)), .val (.int (1 : Int32)), .val (.int cc), .val (.long ((9 : Int64) + ((((3 : Int64) * (cc.toInt64)) + (9 : Int64)) / (8 : Int64)))), .second, .val (.int mm), .val (.int (f1 mm cc)), .val (.int (f1 (mm - (1 : Int32)) cc))] [(.int (1 : Int32))])) t → Steps p.tables e below (s₁.setTop (entryFrame m #[(.int p0), (.int p1)] maxLocals)) t := fun t kt => pre17 t (by
      show Steps p.tables e below (T16.setTop (mkF m 101 #[.val (.int p0), .val (.int p1), .val (.int len), .val (.int p1), .val (.int (0 : Int32)), .val (.int (1 : Int32)), .val (.int cc), .val (.long ((9 : Int64) + ((((3 : Int64) * (cc.toInt64)) + (9 : Int64)) / (8 : Int64)))), .second, .val (.int mm), .val (.int (f1 mm cc)), .unset] [(.int (f1 (mm - (1 : Int32)) cc))])) _
      refine XS.istore X16.here hx rfl (hb hby at_101) rfl (l' := #[.val (.int p0), .val (.int p1), .val (.int len), .val (.int p1), .val (.int (0 : Int32)), .val (.int (1 : Int32)), .val (.int cc), .val (.long ((9 : Int64) + ((((3 : Int64) * (cc.toInt64)) + (9 : Int64)) / (8 : Int64)))), .second, .val (.int mm), .val (.int (f1 mm cc)), .val (.int (f1 (mm - (1 : Int32)) cc))]) rfl ?_
      show Steps p.tables e below (T16.setTop (mkF m 103 #[.val (.int p0), .val (.int p1), .val (.int len), .val (.int p1), .val (.int (0 : Int32)), .val (.int (1 : Int32)), .val (.int cc), .val (.long ((9 : Int64) + ((((3 : Int64) * (cc.toInt64)) + (9 : Int64)) / (8 : Int64)))), .second, .val (.int mm), .val (.int (f1 mm cc)), .val (.int (f1 (mm - (1 : Int32)) cc))] [])) _
      refine XS.iload X16.here hx rfl (hb hby at_103) rfl ?_
      show Steps p.tables e below (T16.setTop (mkF m 105 #[.val (.int p0), .val (.int p1), .val (.int len), .val (.int p1), .val (.int (0 : Int32)), .val (.int (1 : Int32)), .val (.int cc), .val (.long ((9 : Int64) + ((((3 : Int64) * (cc.toInt64)) + (9 : Int64)) / (8 : Int64)))), .second, .val (.int mm), .val (.int (f1 mm cc)), .val (.int (f1 (mm - (1 : Int32)) cc))] [(.int (1 : Int32))])) _
      refine XS.ifNo X16.here hx rfl (hb hby at_105) rfl ((if0 _ _).trans (feq (by decide : ¬ ((1 : Int32) = (0 : Int32)))).1) ?_
      show Steps p.tables e below (T16.setTop (mkF m 108 #[.val (.int p0), .val (.int p1), .val (.int len), .val (.int p1), .val (.int (0 : Int32)), .val (.int (1 : Int32)), .val (.int cc), .val (.long ((9 : Int64) + ((((3 : Int64) * (cc.toInt64)) + (9 : Int64)) / (8 : Int64)))), .second, .val (.int mm), .val (.int (f1 mm cc)), .val (.int (f1 (mm - (1 : Int32)) cc))] [])) _
      refine XS.iload X16.here hx rfl (hb hby at_108) rfl ?_
      show Steps p.tables e below (T16.setTop (mkF m 110 #[.val (.int p0), .val (.int p1), .val (.int len), .val (.int p1), .val (.int (0 : Int32)), .val (.int (1 : Int32)), .val (.int cc), .val (.long ((9 : Int64) + ((((3 : Int64) * (cc.toInt64)) + (9 : Int64)) / (8 : Int64)))), .second, .val (.int mm), .val (.int (f1 mm cc)), .val (.int (f1 (mm - (1 : Int32)) cc))] [(.int (f1 mm cc))])) _
      refine XS.ifNo X16.here hx rfl (hb hby at_110) rfl ((if0 _ _).trans (feq (by rw [own_fit cc mm hm9 hm11]; decide : ¬ ((f1 mm cc) = (0 : Int32)))).1) ?_
      show Steps p.tables e below (T16.setTop (mkF m 113 #[.val (.int p0), .val (.int p1), .val (.int len), .val (.int p1), .val (.int (0 : Int32)), .val (.int (1 : Int32)), .val (.int cc), .val (.long ((9 : Int64) + ((((3 : Int64) * (cc.toInt64)) + (9 : Int64)) / (8 : Int64)))), .second, .val (.int mm), .val (.int (f1 mm cc)), .val (.int (f1 (mm - (1 : Int32)) cc))] [])) _
      refine XS.iload X16.here hx rfl (hb hby at_113) rfl ?_
      show Steps p.tables e below (T16.setTop (mkF m 115 #[.val (.int p0), .val (.int p1), .val (.int len), .val (.int p1), .val (.int (0 : Int32)), .val (.int (1 : Int32)), .val (.int cc), .val (.long ((9 : Int64) + ((((3 : Int64) * (cc.toInt64)) + (9 : Int64)) / (8 : Int64)))), .second, .val (.int mm), .val (.int (f1 mm cc)), .val (.int (f1 (mm - (1 : Int32)) cc))] [(.int (f1 (mm - (1 : Int32)) cc))])) _
      refine XS.ifNo X16.here hx rfl (hb hby at_115) rfl ((if0 _ _).trans (teq (own_small cc mm hm9 hm11 : (f1 (mm - (1 : Int32)) cc) = (0 : Int32))).2) ?_
      show Steps p.tables e below (T16.setTop (mkF m 118 #[.val (.int p0), .val (.int p1), .val (.int len), .val (.int p1), .val (.int (0 : Int32)), .val (.int (1 : Int32)), .val (.int cc), .val (.long ((9 : Int64) + ((((3 : Int64) * (cc.toInt64)) + (9 : Int64)) / (8 : Int64)))), .second, .val (.int mm), .val (.int (f1 mm cc)), .val (.int (f1 (mm - (1 : Int32)) cc))] [])) _
      refine XS.iconst X16.here hx rfl (hb hby at_118) ?_
      show Steps p.tables e below (T16.setTop (mkF m 119 #[.val (.int p0), .val (.int p1), .val (.int len), .val (.int p1), .val (.int (0 : Int32)), .val (.int (1 : Int32)), .val (.int cc), .val (.long ((9 : Int64) + ((((3 : Int64) * (cc.toInt64)) + (9 : Int64)) / (8 : Int64)))), .second, .val (.int mm), .val (.int (f1 mm cc)), .val (.int (f1 (mm - (1 : Int32)) cc))] [(.int (1 : Int32))])) _
      refine XS.goto X16.here hx rfl (pc0 := 119) (pc' := 123) rfl (hb hby at_119) (by decide) (by decide) ?_
      exact kt)
    obtain ⟨fs, hr, hrun, hended, hW, hsame⟩ := X16.leave (v := some (.int (1 : Int32))) (fun h => by rw [Bd.returns] at h; cases h)
    refine ⟨_, _, pre18 _ ?_, hrun, hended, _, _, rfl, ?_, ⟨_, rfl⟩, hW, hsame.mono (by decide) (by decide)⟩
    · show Steps p.tables e below (T16.setTop (mkF m 123 #[.val (.int p0), .val (.int p1), .val (.int len), .val (.int p1), .val (.int (0 : Int32)), .val (.int (1 : Int32)), .val (.int cc), .val (.long ((9 : Int64) + ((((3 : Int64) * (cc.toInt64)) + (9 : Int64)) / (8 : Int64)))), .second, .val (.int mm), .val (.int (f1 mm cc)), .val (.int (f1 (mm - (1 : Int32)) cc))] [(.int (1 : Int32))])) _
      exact retN X16 hx (t := .boolean) Bd.returns (by simp) (hb hby at_123) hr
    · show Q0 Z p0 p1 h0 n0 _ T16.heap _
      rw [e16]
      exact ⟨rfl, N16⟩
  · have pre19 : ∀ t, Steps p.tables e below (s₁.setTop (mkF m 36 #[.val (.int p0), .val (.int p1), .val (.int len), .val (.int p1), .val (.int (1 : Int32)), .unset, .unset, .unset, .unset, .unset, .unset, .unset] [(.int p1), (.int len)])) t → Steps p.tables e below (s₁.setTop (entryFrame m #[(.int p0), (.int p1)] maxLocals)) t := fun t kt => pre3 t (by
      show Steps p.tables e below (s₁.setTop (mkF m 24 #[.val (.int p0), .val (.int p1), .val (.int len), .val (.int p1), .unset, .unset, .unset, .unset, .unset, .unset, .unset, .unset] [(.int (lcmpW ((8 : Int64) * (len.toInt64)) (((3 : Int64) * (p1.toInt64)) + (74 : Int64))))])) _
      refine XS.ifNo X0.here hx rfl (hb hby at_24) rfl (Jvm.Free.XT.ll_lt_f hc24_4) ?_
      show Steps p.tables e below (s₁.setTop (mkF m 27 #[.val (.int p0), .val (.int p1), .val (.int len), .val (.int p1), .unset, .unset, .unset, .unset, .unset, .unset, .unset, .unset] [])) _
      refine XS.iconst X0.here hx rfl (hb hby at_27) ?_
      show Steps p.tables e below (s₁.setTop (mkF m 28 #[.val (.int p0), .val (.int p1), .val (.int len), .val (.int p1), .unset, .unset, .unset, .unset, .unset, .unset, .unset, .unset] [(.int (1 : Int32))])) _
      refine XS.goto X0.here hx rfl (pc0 := 28) (pc' := 32) rfl (hb hby at_28) (by decide) (by decide) ?_
      show Steps p.tables e below (s₁.setTop (mkF m 32 #[.val (.int p0), .val (.int p1), .val (.int len), .val (.int p1), .unset, .unset, .unset, .unset, .unset, .unset, .unset, .unset] [(.int (1 : Int32))])) _
      refine XS.istore X0.here hx rfl (hb hby at_32) rfl (l' := #[.val (.int p0), .val (.int p1), .val (.int len), .val (.int p1), .val (.int (1 : Int32)), .unset, .unset, .unset, .unset, .unset, .unset, .unset]) rfl ?_
      show Steps p.tables e below (s₁.setTop (mkF m 34 #[.val (.int p0), .val (.int p1), .val (.int len), .val (.int p1), .val (.int (1 : Int32)), .unset, .unset, .unset, .unset, .unset, .unset, .unset] [])) _
      refine XS.iloadN X0.here hx rfl (hb hby at_34) rfl ?_
      show Steps p.tables e below (s₁.setTop (mkF m 35 #[.val (.int p0), .val (.int p1), .val (.int len), .val (.int p1), .val (.int (1 : Int32)), .unset, .unset, .unset, .unset, .unset, .unset, .unset] [(.int len)])) _
      refine XS.iloadN X0.here hx rfl (hb hby at_35) rfl ?_
      exact kt)
    obtain ⟨_, _, ⟨T20, L20, k20, n20⟩, -, X20, ⟨Lc20, hQ20, l20, y20, z20⟩, st20⟩ := Jvm.LawKit.callS X0 hx (y := (⟨"com/example/tierfuse/tierfuse/format/SealedFileFormat", "canHold", "(II)Z"⟩ : MethodName)) hown (mvT hZ (hw _ (List.mem_of_getElem? (i := 4) rfl))) (mvT hZ (hw _ (List.mem_of_getElem? (i := 5) rfl))) (mvT hZ (hw _ (List.mem_of_getElem? (i := 6) rfl))) (mvT hZ (hw _ (List.mem_of_getElem? (i := 7) rfl))) (by decide) (backOf (W := 0) (rm1 l Z av hw [] len p1  h0 n0 Z0 ) hZ (hw _ (List.mem_of_getElem? (i := 7) rfl)) (hw _ (List.mem_of_getElem? (i := 6) rfl)) (by decide) (by decide)) (g := (mkF m 36 #[.val (.int p0), .val (.int p1), .val (.int len), .val (.int p1), .val (.int (1 : Int32)), .unset, .unset, .unset, .unset, .unset, .unset, .unset] [(.int p1), (.int len)])) rfl (by rw [hml]; rfl) (argsL := [(.int len), (.int p1)]) (rest := []) (lenOf pd__II_Z rfl) rfl (by show 2 * 0 + _ ≤ _; exact Nat.le_of_eq rfl) (hb hby at_36) (fun _ _ => ⟨rfl, e0, (by decide : 0 + 0 ≤ _), (by decide : 0 + 0 ≤ _)⟩)
    dsimp only [Pt.U, Pt.locs, Pt.cells, Pt.slots] at X20 l20 y20 z20 st20 hQ20
    subst l20 y20 z20
    obtain ⟨rfl, N20q, e20⟩ := hQ20
    have N20 := Fr.app N0 N20q
    have pre21 : ∀ t, Steps p.tables e below (T20.setTop (mkF m 39 #[.val (.int p0), .val (.int p1), .val (.int len), .val (.int p1), .val (.int (1 : Int32)), .unset, .unset, .unset, .unset, .unset, .unset, .unset] [(.int (f1 len p1))])) t → Steps p.tables e below (s₁.setTop (entryFrame m #[(.int p0), (.int p1)] maxLocals)) t := fun t kt => pre19 t (st20 _ kt)
    have pre22 : ∀ t, Steps p.tables e below (T20.setTop (mkF m 57 #[.val (.int p0), .val (.int p1), .val (.int len), .val (.int p1), .val (.int (1 : Int32)), .val (.int (1 : Int32)), .val (.int (p1 &&& (2147483647 : Int32))), .unset, .unset, .unset, .unset, .unset] [])) t → Steps p.tables e below (s₁.setTop (entryFrame m #[(.int p0), (.int p1)] maxLocals)) t := fun t kt => pre21 t (by
      show Steps p.tables e below (T20.setTop (mkF m 39 #[.val (.int p0), .val (.int p1), .val (.int len), .val (.int p1), .val (.int (1 : Int32)), .unset, .unset, .unset, .unset, .unset, .unset, .unset] [(.int (f1 len p1))])) _
      refine XS.iload X20.here hx rfl (hb hby at_39) rfl ?_
      show Steps p.tables e below (T20.setTop (mkF m 41 #[.val (.int p0), .val (.int p1), .val (.int len), .val (.int p1), .val (.int (1 : Int32)), .unset, .unset, .unset, .unset, .unset, .unset, .unset] [(.int (1 : Int32)), (.int (f1 len p1))])) _
      refine XS.icmpNo X20.here hx rfl (hb hby at_41) rfl (teq (by rw [own_f1 len p1 hm2]; first | exact if_neg ((own_w len p1 hm2).mp hc24_4) | exact if_pos (Decidable.not_not.mp fun z => hc24_4 ((own_w len p1 hm2).mpr z)) : (f1 len p1) = (1 : Int32))).2 ?_
      show Steps p.tables e below (T20.setTop (mkF m 44 #[.val (.int p0), .val (.int p1), .val (.int len), .val (.int p1), .val (.int (1 : Int32)), .unset, .unset, .unset, .unset, .unset, .unset, .unset] [])) _
      refine XS.iconst X20.here hx rfl (hb hby at_44) ?_
      show Steps p.tables e below (T20.setTop (mkF m 45 #[.val (.int p0), .val (.int p1), .val (.int len), .val (.int p1), .val (.int (1 : Int32)), .unset, .unset, .unset, .unset, .unset, .unset, .unset] [(.int (1 : Int32))])) _
      refine XS.goto X20.here hx rfl (pc0 := 45) (pc' := 49) rfl (hb hby at_45) (by decide) (by decide) ?_
      show Steps p.tables e below (T20.setTop (mkF m 49 #[.val (.int p0), .val (.int p1), .val (.int len), .val (.int p1), .val (.int (1 : Int32)), .unset, .unset, .unset, .unset, .unset, .unset, .unset] [(.int (1 : Int32))])) _
      refine XS.istore X20.here hx rfl (hb hby at_49) rfl (l' := #[.val (.int p0), .val (.int p1), .val (.int len), .val (.int p1), .val (.int (1 : Int32)), .val (.int (1 : Int32)), .unset, .unset, .unset, .unset, .unset, .unset]) rfl ?_
      show Steps p.tables e below (T20.setTop (mkF m 51 #[.val (.int p0), .val (.int p1), .val (.int len), .val (.int p1), .val (.int (1 : Int32)), .val (.int (1 : Int32)), .unset, .unset, .unset, .unset, .unset, .unset] [])) _
      refine XS.iloadN X20.here hx rfl (hb hby at_51) rfl ?_
      show Steps p.tables e below (T20.setTop (mkF m 52 #[.val (.int p0), .val (.int p1), .val (.int len), .val (.int p1), .val (.int (1 : Int32)), .val (.int (1 : Int32)), .unset, .unset, .unset, .unset, .unset, .unset] [(.int p1)])) _
      refine X20.ldcInt hx hown (mvT hZ (hw _ (List.mem_of_getElem? (i := 0) rfl))) (g := (mkF m 52 #[.val (.int p0), .val (.int p1), .val (.int len), .val (.int p1), .val (.int (1 : Int32)), .val (.int (1 : Int32)), .unset, .unset, .unset, .unset, .unset, .unset] [(.int p1)])) rfl (hb hby at_52) _ ?_
      show Steps p.tables e below (T20.setTop (mkF m 54 #[.val (.int p0), .val (.int p1), .val (.int len), .val (.int p1), .val (.int (1 : Int32)), .val (.int (1 : Int32)), .unset, .unset, .unset, .unset, .unset, .unset] [(.int (2147483647 : Int32)), (.int p1)])) _
      refine XS.iand X20.here hx rfl (hb hby at_54) rfl ?_
      show Steps p.tables e below (T20.setTop (mkF m 55 #[.val (.int p0), .val (.int p1), .val (.int len), .val (.int p1), .val (.int (1 : Int32)), .val (.int (1 : Int32)), .unset, .unset, .unset, .unset, .unset, .unset] [(.int (p1 &&& (2147483647 : Int32)))])) _
      refine XS.istore X20.here hx rfl (hb hby at_55) rfl (l' := #[.val (.int p0), .val (.int p1), .val (.int len), .val (.int p1), .val (.int (1 : Int32)), .val (.int (1 : Int32)), .val (.int (p1 &&& (2147483647 : Int32))), .unset, .unset, .unset, .unset, .unset]) rfl ?_
      exact kt)
    obtain ⟨cc, hm23, pre23⟩ : ∃ (cc : Int32), (0 ≤ cc.toInt) ∧ ∀ t, Steps p.tables e below (T20.setTop (mkF m 57 #[.val (.int p0), .val (.int p1), .val (.int len), .val (.int p1), .val (.int (1 : Int32)), .val (.int (1 : Int32)), .val (.int cc), .unset, .unset, .unset, .unset, .unset] [])) t → Steps p.tables e below (s₁.setTop (entryFrame m #[(.int p0), (.int p1)] maxLocals)) t := ⟨(p1 &&& (2147483647 : Int32)), own_nn p1, pre22⟩
    have pre24 : ∀ t, Steps p.tables e below (T20.setTop (mkF m 83 #[.val (.int p0), .val (.int p1), .val (.int len), .val (.int p1), .val (.int (1 : Int32)), .val (.int (1 : Int32)), .val (.int cc), .val (.long ((9 : Int64) + ((((3 : Int64) * (cc.toInt64)) + (9 : Int64)) / (8 : Int64)))), .second, .val (.int (((9 : Int64) + ((((3 : Int64) * (cc.toInt64)) + (9 : Int64)) / (8 : Int64))).toInt32)), .unset, .unset] [])) t → Steps p.tables e below (s₁.setTop (entryFrame m #[(.int p0), (.int p1)] maxLocals)) t := fun t kt => pre23 t (by
      show Steps p.tables e below (T20.setTop (mkF m 57 #[.val (.int p0), .val (.int p1), .val (.int len), .val (.int p1), .val (.int (1 : Int32)), .val (.int (1 : Int32)), .val (.int cc), .unset, .unset, .unset, .unset, .unset] [])) _
      refine X20.ldc2Long hx hown (mvT hZ (hw _ (List.mem_of_getElem? (i := 15) rfl))) (g := (mkF m 57 #[.val (.int p0), .val (.int p1), .val (.int len), .val (.int p1), .val (.int (1 : Int32)), .val (.int (1 : Int32)), .val (.int cc), .unset, .unset, .unset, .unset, .unset] [])) rfl (hb hby at_57) _ ?_
      show Steps p.tables e below (T20.setTop (mkF m 60 #[.val (.int p0), .val (.int p1), .val (.int len), .val (.int p1), .val (.int (1 : Int32)), .val (.int (1 : Int32)), .val (.int cc), .unset, .unset, .unset, .unset, .unset] [(.long (9 : Int64))])) _
      refine X20.ldc2Long hx hown (mvT hZ (hw _ (List.mem_of_getElem? (i := 2) rfl))) (g := (mkF m 60 #[.val (.int p0), .val (.int p1), .val (.int len), .val (.int p1), .val (.int (1 : Int32)), .val (.int (1 : Int32)), .val (.int cc), .unset, .unset, .unset, .unset, .unset] [(.long (9 : Int64))])) rfl (hb hby at_60) _ ?_
      show Steps p.tables e below (T20.setTop (mkF m 63 #[.val (.int p0), .val (.int p1), .val (.int len), .val (.int p1), .val (.int (1 : Int32)), .val (.int (1 : Int32)), .val (.int cc), .unset, .unset, .unset, .unset, .unset] [(.long (3 : Int64)), (.long (9 : Int64))])) _
      refine XS.iload X20.here hx rfl (hb hby at_63) rfl ?_
      show Steps p.tables e below (T20.setTop (mkF m 65 #[.val (.int p0), .val (.int p1), .val (.int len), .val (.int p1), .val (.int (1 : Int32)), .val (.int (1 : Int32)), .val (.int cc), .unset, .unset, .unset, .unset, .unset] [(.int cc), (.long (3 : Int64)), (.long (9 : Int64))])) _
      refine XS.i2l X20.here hx rfl (hb hby at_65) rfl ?_
      show Steps p.tables e below (T20.setTop (mkF m 66 #[.val (.int p0), .val (.int p1), .val (.int len), .val (.int p1), .val (.int (1 : Int32)), .val (.int (1 : Int32)), .val (.int cc), .unset, .unset, .unset, .unset, .unset] [(.long (cc.toInt64)), (.long (3 : Int64)), (.long (9 : Int64))])) _
      refine XS.lmul X20.here hx rfl (hb hby at_66) rfl ?_
      show Steps p.tables e below (T20.setTop (mkF m 67 #[.val (.int p0), .val (.int p1), .val (.int len), .val (.int p1), .val (.int (1 : Int32)), .val (.int (1 : Int32)), .val (.int cc), .unset, .unset, .unset, .unset, .unset] [(.long ((3 : Int64) * (cc.toInt64))), (.long (9 : Int64))])) _
      refine X20.ldc2Long hx hown (mvT hZ (hw _ (List.mem_of_getElem? (i := 15) rfl))) (g := (mkF m 67 #[.val (.int p0), .val (.int p1), .val (.int len), .val (.int p1), .val (.int (1 : Int32)), .val (.int (1 : Int32)), .val (.int cc), .unset, .unset, .unset, .unset, .unset] [(.long ((3 : Int64) * (cc.toInt64))), (.long (9 : Int64))])) rfl (hb hby at_67) _ ?_
      show Steps p.tables e below (T20.setTop (mkF m 70 #[.val (.int p0), .val (.int p1), .val (.int len), .val (.int p1), .val (.int (1 : Int32)), .val (.int (1 : Int32)), .val (.int cc), .unset, .unset, .unset, .unset, .unset] [(.long (9 : Int64)), (.long ((3 : Int64) * (cc.toInt64))), (.long (9 : Int64))])) _
      refine XS.ladd X20.here hx rfl (hb hby at_70) rfl ?_
      show Steps p.tables e below (T20.setTop (mkF m 71 #[.val (.int p0), .val (.int p1), .val (.int len), .val (.int p1), .val (.int (1 : Int32)), .val (.int (1 : Int32)), .val (.int cc), .unset, .unset, .unset, .unset, .unset] [(.long (((3 : Int64) * (cc.toInt64)) + (9 : Int64))), (.long (9 : Int64))])) _
      refine X20.ldc2Long hx hown (mvT hZ (hw _ (List.mem_of_getElem? (i := 1) rfl))) (g := (mkF m 71 #[.val (.int p0), .val (.int p1), .val (.int len), .val (.int p1), .val (.int (1 : Int32)), .val (.int (1 : Int32)), .val (.int cc), .unset, .unset, .unset, .unset, .unset] [(.long (((3 : Int64) * (cc.toInt64)) + (9 : Int64))), (.long (9 : Int64))])) rfl (hb hby at_71) _ ?_
      show Steps p.tables e below (T20.setTop (mkF m 74 #[.val (.int p0), .val (.int p1), .val (.int len), .val (.int p1), .val (.int (1 : Int32)), .val (.int (1 : Int32)), .val (.int cc), .unset, .unset, .unset, .unset, .unset] [(.long (8 : Int64)), (.long (((3 : Int64) * (cc.toInt64)) + (9 : Int64))), (.long (9 : Int64))])) _
      refine XS.ldiv X20.here hx rfl (hb hby at_74) rfl (by decide) ?_
      show Steps p.tables e below (T20.setTop (mkF m 75 #[.val (.int p0), .val (.int p1), .val (.int len), .val (.int p1), .val (.int (1 : Int32)), .val (.int (1 : Int32)), .val (.int cc), .unset, .unset, .unset, .unset, .unset] [(.long ((((3 : Int64) * (cc.toInt64)) + (9 : Int64)) / (8 : Int64))), (.long (9 : Int64))])) _
      refine XS.ladd X20.here hx rfl (hb hby at_75) rfl ?_
      show Steps p.tables e below (T20.setTop (mkF m 76 #[.val (.int p0), .val (.int p1), .val (.int len), .val (.int p1), .val (.int (1 : Int32)), .val (.int (1 : Int32)), .val (.int cc), .unset, .unset, .unset, .unset, .unset] [(.long ((9 : Int64) + ((((3 : Int64) * (cc.toInt64)) + (9 : Int64)) / (8 : Int64))))])) _
      refine XS.lstore X20.here hx rfl (hb hby at_76) rfl (l' := #[.val (.int p0), .val (.int p1), .val (.int len), .val (.int p1), .val (.int (1 : Int32)), .val (.int (1 : Int32)), .val (.int cc), .val (.long ((9 : Int64) + ((((3 : Int64) * (cc.toInt64)) + (9 : Int64)) / (8 : Int64)))), .second, .unset, .unset, .unset]) rfl ?_
      show Steps p.tables e below (T20.setTop (mkF m 78 #[.val (.int p0), .val (.int p1), .val (.int len), .val (.int p1), .val (.int (1 : Int32)), .val (.int (1 : Int32)), .val (.int cc), .val (.long ((9 : Int64) + ((((3 : Int64) * (cc.toInt64)) + (9 : Int64)) / (8 : Int64)))), .second, .unset, .unset, .unset] [])) _
      refine XS.lload X20.here hx rfl (hb hby at_78) rfl ?_
      show Steps p.tables e below (T20.setTop (mkF m 80 #[.val (.int p0), .val (.int p1), .val (.int len), .val (.int p1), .val (.int (1 : Int32)), .val (.int (1 : Int32)), .val (.int cc), .val (.long ((9 : Int64) + ((((3 : Int64) * (cc.toInt64)) + (9 : Int64)) / (8 : Int64)))), .second, .unset, .unset, .unset] [(.long ((9 : Int64) + ((((3 : Int64) * (cc.toInt64)) + (9 : Int64)) / (8 : Int64))))])) _
      refine XS.l2i X20.here hx rfl (hb hby at_80) rfl ?_
      show Steps p.tables e below (T20.setTop (mkF m 81 #[.val (.int p0), .val (.int p1), .val (.int len), .val (.int p1), .val (.int (1 : Int32)), .val (.int (1 : Int32)), .val (.int cc), .val (.long ((9 : Int64) + ((((3 : Int64) * (cc.toInt64)) + (9 : Int64)) / (8 : Int64)))), .second, .unset, .unset, .unset] [(.int (((9 : Int64) + ((((3 : Int64) * (cc.toInt64)) + (9 : Int64)) / (8 : Int64))).toInt32))])) _
      refine XS.istore X20.here hx rfl (hb hby at_81) rfl (l' := #[.val (.int p0), .val (.int p1), .val (.int len), .val (.int p1), .val (.int (1 : Int32)), .val (.int (1 : Int32)), .val (.int cc), .val (.long ((9 : Int64) + ((((3 : Int64) * (cc.toInt64)) + (9 : Int64)) / (8 : Int64)))), .second, .val (.int (((9 : Int64) + ((((3 : Int64) * (cc.toInt64)) + (9 : Int64)) / (8 : Int64))).toInt32)), .unset, .unset]) rfl ?_
      exact kt)
    obtain ⟨mm, hm25, pre25⟩ : ∃ (mm : Int32), (mm.toInt = 9 + (3 * cc.toInt + 9) / 8) ∧ ∀ t, Steps p.tables e below (T20.setTop (mkF m 83 #[.val (.int p0), .val (.int p1), .val (.int len), .val (.int p1), .val (.int (1 : Int32)), .val (.int (1 : Int32)), .val (.int cc), .val (.long ((9 : Int64) + ((((3 : Int64) * (cc.toInt64)) + (9 : Int64)) / (8 : Int64)))), .second, .val (.int mm), .unset, .unset] [])) t → Steps p.tables e below (s₁.setTop (entryFrame m #[(.int p0), (.int p1)] maxLocals)) t := ⟨(((9 : Int64) + ((((3 : Int64) * (cc.toInt64)) + (9 : Int64)) / (8 : Int64))).toInt32), own_m cc hm23, pre24⟩
    have pre26 : ∀ t, Steps p.tables e below (T20.setTop (mkF m 87 #[.val (.int p0), .val (.int p1), .val (.int len), .val (.int p1), .val (.int (1 : Int32)), .val (.int (1 : Int32)), .val (.int cc), .val (.long ((9 : Int64) + ((((3 : Int64) * (cc.toInt64)) + (9 : Int64)) / (8 : Int64)))), .second, .val (.int mm), .unset, .unset] [(.int cc), (.int mm)])) t → Steps p.tables e below (s₁.setTop (entryFrame m #[(.int p0), (.int p1)] maxLocals)) t := fun t kt => pre25 t (by
      show Steps p.tables e below (T20.setTop (mkF m 83 #[.val (.int p0), .val (.int p1), .val (.int len), .val (.int p1), .val (.int (1 : Int32)), .val (.int (1 : Int32)), .val (.int cc), .val (.long ((9 : Int64) + ((((3 : Int64) * (cc.toInt64)) + (9 : Int64)) / (8 : Int64)))), .second, .val (.int mm), .unset, .unset] [])) _
      refine XS.iload X20.here hx rfl (hb hby at_83) rfl ?_
      show Steps p.tables e below (T20.setTop (mkF m 85 #[.val (.int p0), .val (.int p1), .val (.int len), .val (.int p1), .val (.int (1 : Int32)), .val (.int (1 : Int32)), .val (.int cc), .val (.long ((9 : Int64) + ((((3 : Int64) * (cc.toInt64)) + (9 : Int64)) / (8 : Int64)))), .second, .val (.int mm), .unset, .unset] [(.int mm)])) _
      refine XS.iload X20.here hx rfl (hb hby at_85) rfl ?_
      exact kt)
    obtain ⟨_, _, ⟨T27, L27, k27, n27⟩, -, X27, ⟨Lc27, hQ27, l27, y27, z27⟩, st27⟩ := Jvm.LawKit.callS X20 hx (y := (⟨"com/example/tierfuse/tierfuse/format/SealedFileFormat", "canHold", "(II)Z"⟩ : MethodName)) hown (mvT hZ (hw _ (List.mem_of_getElem? (i := 4) rfl))) (mvT hZ (hw _ (List.mem_of_getElem? (i := 5) rfl))) (mvT hZ (hw _ (List.mem_of_getElem? (i := 6) rfl))) (mvT hZ (hw _ (List.mem_of_getElem? (i := 7) rfl))) (by decide) (backOf (W := 0) (rm1 l Z av hw [] mm cc  h0 n0 Z0 ) hZ (hw _ (List.mem_of_getElem? (i := 7) rfl)) (hw _ (List.mem_of_getElem? (i := 6) rfl)) (by decide) (by decide)) (g := (mkF m 87 #[.val (.int p0), .val (.int p1), .val (.int len), .val (.int p1), .val (.int (1 : Int32)), .val (.int (1 : Int32)), .val (.int cc), .val (.long ((9 : Int64) + ((((3 : Int64) * (cc.toInt64)) + (9 : Int64)) / (8 : Int64)))), .second, .val (.int mm), .unset, .unset] [(.int cc), (.int mm)])) rfl (by rw [hml]; rfl) (argsL := [(.int mm), (.int cc)]) (rest := []) (lenOf pd__II_Z rfl) rfl (by show 2 * 0 + _ ≤ _; exact Nat.le_of_eq rfl) (hb hby at_87) (fun _ _ => ⟨rfl, e20, (by decide : 0 + 0 ≤ _), (by decide : 0 + 0 ≤ _)⟩)
    dsimp only [Pt.U, Pt.locs, Pt.cells, Pt.slots] at X27 l27 y27 z27 st27 hQ27
    subst l27 y27 z27
    obtain ⟨rfl, N27q, e27⟩ := hQ27
    have N27 := Fr.app N20 N27q
    have pre28 : ∀ t, Steps p.tables e below (T27.setTop (mkF m 90 #[.val (.int p0), .val (.int p1), .val (.int len), .val (.int p1), .val (.int (1 : Int32)), .val (.int (1 : Int32)), .val (.int cc), .val (.long ((9 : Int64) + ((((3 : Int64) * (cc.toInt64)) + (9 : Int64)) / (8 : Int64)))), .second, .val (.int mm), .unset, .unset] [(.int (f1 mm cc))])) t → Steps p.tables e below (s₁.setTop (entryFrame m #[(.int p0), (.int p1)] maxLocals)) t := fun t kt => pre26 t (st27 _ kt)
    have pre29 : ∀ t, Steps p.tables e below (T27.setTop (mkF m 98 #[.val (.int p0), .val (.int p1), .val (.int len), .val (.int p1), .val (.int (1 : Int32)), .val (.int (1 : Int32)), .val (.int cc), .val (.long ((9 : Int64) + ((((3 : Int64) * (cc.toInt64)) + (9 : Int64)) / (8 : Int64)))), .second, .val (.int mm), .val (.int (f1 mm cc)), .unset] [(.int cc), (.int (mm - (1 : Int32)))])) t → Steps p.tables e below (s₁.setTop (entryFrame m #[(.int p0), (.int p1)] maxLocals)) t := fun t kt => pre28 t (by
      show Steps p.tables e below (T27.setTop (mkF m 90 #[.val (.int p0), .val (.int p1), .val (.int len), .val (.int p1), .val (.int (1 : Int32)), .val (.int (1 : Int32)), .val (.int cc), .val (.long ((9 : Int64) + ((((3 : Int64) * (cc.toInt64)) + (9 : Int64)) / (8 : Int64)))), .second, .val (.int mm), .unset, .unset] [(.int (f1 mm cc))])) _
      refine XS.istore X27.here hx rfl (hb hby at_90) rfl (l' := #[.val (.int p0), .val (.int p1), .val (.int len), .val (.int p1), .val (.int (1 : Int32)), .val (.int (1 : Int32)), .val (.int cc), .val (.long ((9 : Int64) + ((((3 : Int64) * (cc.toInt64)) + (9 : Int64)) / (8 : Int64)))), .second, .val (.int mm), .val (.int (f1 mm cc)), .unset]) rfl ?_
      show Steps p.tables e below (T27.setTop (mkF m 92 #[.val (.int p0), .val (.int p1), .val (.int len), .val (.int p1), .val (.int (1 : Int32)), .val (.int (1 : Int32)), .val (.int cc), .val (.long ((9 : Int64) + ((((3 : Int64) * (cc.toInt64)) + (9 : Int64)) / (8 : Int64)))), .second, .val (.int mm), .val (.int (f1 mm cc)), .unset] [])) _
      refine XS.iload X27.here hx rfl (hb hby at_92) rfl ?_
      show Steps p.tables e below (T27.setTop (mkF m 94 #[.val (.int p0), .val (.int p1), .val (.int len), .val (.int p1), .val (.int (1 : Int32)), .val (.int (1 : Int32)), .val (.int cc), .val (.long ((9 : Int64) + ((((3 : Int64) * (cc.toInt64)) + (9 : Int64)) / (8 : Int64)))), .second, .val (.int mm), .val (.int (f1 mm cc)), .unset] [(.int mm)])) _
      refine XS.iconst X27.here hx rfl (hb hby at_94) ?_
      show Steps p.tables e below (T27.setTop (mkF m 95 #[.val (.int p0), .val (.int p1), .val (.int len), .val (.int p1), .val (.int (1 : Int32)), .val (.int (1 : Int32)), .val (.int cc), .val (.long ((9 : Int64) + ((((3 : Int64) * (cc.toInt64)) + (9 : Int64)) / (8 : Int64)))), .second, .val (.int mm), .val (.int (f1 mm cc)), .unset] [(.int (1 : Int32)), (.int mm)])) _
      refine XS.isub X27.here hx rfl (hb hby at_95) rfl ?_
      show Steps p.tables e below (T27.setTop (mkF m 96 #[.val (.int p0), .val (.int p1), .val (.int len), .val (.int p1), .val (.int (1 : Int32)), .val (.int (1 : Int32)), .val (.int cc), .val (.long ((9 : Int64) + ((((3 : Int64) * (cc.toInt64)) + (9 : Int64)) / (8 : Int64)))), .second, .val (.int mm), .val (.int (f1 mm cc)), .unset] [(.int (mm - (1 : Int32)))])) _
      refine XS.iload X27.here hx rfl (hb hby at_96) rfl ?_
      exact kt)
    obtain ⟨_, _, ⟨T30, L30, k30, n30⟩, -, X30, ⟨Lc30, hQ30, l30, y30, z30⟩, st30⟩ := Jvm.LawKit.callS X27 hx (y := (⟨"com/example/tierfuse/tierfuse/format/SealedFileFormat", "canHold", "(II)Z"⟩ : MethodName)) hown (mvT hZ (hw _ (List.mem_of_getElem? (i := 4) rfl))) (mvT hZ (hw _ (List.mem_of_getElem? (i := 5) rfl))) (mvT hZ (hw _ (List.mem_of_getElem? (i := 6) rfl))) (mvT hZ (hw _ (List.mem_of_getElem? (i := 7) rfl))) (by decide) (backOf (W := 0) (rm1 l Z av hw [] (mm - (1 : Int32)) cc  h0 n0 Z0 ) hZ (hw _ (List.mem_of_getElem? (i := 7) rfl)) (hw _ (List.mem_of_getElem? (i := 6) rfl)) (by decide) (by decide)) (g := (mkF m 98 #[.val (.int p0), .val (.int p1), .val (.int len), .val (.int p1), .val (.int (1 : Int32)), .val (.int (1 : Int32)), .val (.int cc), .val (.long ((9 : Int64) + ((((3 : Int64) * (cc.toInt64)) + (9 : Int64)) / (8 : Int64)))), .second, .val (.int mm), .val (.int (f1 mm cc)), .unset] [(.int cc), (.int (mm - (1 : Int32)))])) rfl (by rw [hml]; rfl) (argsL := [(.int (mm - (1 : Int32))), (.int cc)]) (rest := []) (lenOf pd__II_Z rfl) rfl (by show 2 * 0 + _ ≤ _; exact Nat.le_of_eq rfl) (hb hby at_98) (fun _ _ => ⟨rfl, e27, (by decide : 0 + 0 ≤ _), (by decide : 0 + 0 ≤ _)⟩)
    dsimp only [Pt.U, Pt.locs, Pt.cells, Pt.slots] at X30 l30 y30 z30 st30 hQ30
    subst l30 y30 z30
    obtain ⟨rfl, N30q, e30⟩ := hQ30
    have N30 := Fr.app N27 N30q
    have pre31 : ∀ t, Steps p.tables e below (T30.setTop (mkF m 101 #[.val (.int p0), .val (.int p1), .val (.int len), .val (.int p1), .val (.int (1 : Int32)), .val (.int (1 : Int32)), .val (.int cc), .val (.long ((9 : Int64) + ((((3 : Int64) * (cc.toInt64)) + (9 : Int64)) / (8 : Int64)))), .second, .val (.int mm), .val (.int (f1 mm cc)), .unset] [(.int (f1 (mm - (1 : Int32)) cc))])) t → Steps p.tables e below (s₁.setTop (entryFrame m #[(.int p0), (.int p1)] maxLocals)) t := fun t kt => pre29 t (st30 _ kt)
    have pre32 : ∀ t, Steps p.tables e below (T30.setTop (mkF m 123 #[.val (.int p0), .val (.int p1), .val (.int len), .val (.int p1), .val (.int (1 : Int32)), .val (.int (1 : Int32)), .val (.int cc), .val (.long ((9 : Int64) + ((((3 : Int64) * (cc.toInt64)) + (9 : Int64)) / (8 : Int64)))), .second, .val (.int mm), .val (.int (f1 mm cc)), .val (.int (f1 (mm - (1 : Int32)) cc))] [(.int (1 : Int32))])) t → Steps p.tables e below (s₁.setTop (entryFrame m #[(.int p0), (.int p1)] maxLocals)) t := fun t kt => pre31 t (by
      show Steps p.tables e below (T30.setTop (mkF m 101 #[.val (.int p0), .val (.int p1), .val (.int len), .val (.int p1), .val (.int (1 : Int32)), .val (.int (1 : Int32)), .val (.int cc), .val (.long ((9 : Int64) + ((((3 : Int64) * (cc.toInt64)) + (9 : Int64)) / (8 : Int64)))), .second, .val (.int mm), .val (.int (f1 mm cc)), .unset] [(.int (f1 (mm - (1 : Int32)) cc))])) _
      refine XS.istore X30.here hx rfl (hb hby at_101) rfl (l' := #[.val (.int p0), .val (.int p1), .val (.int len), .val (.int p1), .val (.int (1 : Int32)), .val (.int (1 : Int32)), .val (.int cc), .val (.long ((9 : Int64) + ((((3 : Int64) * (cc.toInt64)) + (9 : Int64)) / (8 : Int64)))), .second, .val (.int mm), .val (.int (f1 mm cc)), .val (.int (f1 (mm - (1 : Int32)) cc))]) rfl ?_
      show Steps p.tables e below (T30.setTop (mkF m 103 #[.val (.int p0), .val (.int p1), .val (.int len), .val (.int p1), .val (.int (1 : Int32)), .val (.int (1 : Int32)), .val (.int cc), .val (.long ((9 : Int64) + ((((3 : Int64) * (cc.toInt64)) + (9 : Int64)) / (8 : Int64)))), .second, .val (.int mm), .val (.int (f1 mm cc)), .val (.int (f1 (mm - (1 : Int32)) cc))] [])) _
      refine XS.iload X30.here hx rfl (hb hby at_103) rfl ?_
      show Steps p.tables e below (T30.setTop (mkF m 105 #[.val (.int p0), .val (.int p1), .val (.int len), .val (.int p1), .val (.int (1 : Int32)), .val (.int (1 : Int32)), .val (.int cc), .val (.long ((9 : Int64) + ((((3 : Int64) * (cc.toInt64)) + (9 : Int64)) / (8 : Int64)))), .second, .val (.int mm), .val (.int (f1 mm cc)), .val (.int (f1 (mm - (1 : Int32)) cc))] [(.int (1 : Int32))])) _
      refine XS.ifNo X30.here hx rfl (hb hby at_105) rfl ((if0 _ _).trans (feq (by decide : ¬ ((1 : Int32) = (0 : Int32)))).1) ?_
      show Steps p.tables e below (T30.setTop (mkF m 108 #[.val (.int p0), .val (.int p1), .val (.int len), .val (.int p1), .val (.int (1 : Int32)), .val (.int (1 : Int32)), .val (.int cc), .val (.long ((9 : Int64) + ((((3 : Int64) * (cc.toInt64)) + (9 : Int64)) / (8 : Int64)))), .second, .val (.int mm), .val (.int (f1 mm cc)), .val (.int (f1 (mm - (1 : Int32)) cc))] [])) _
      refine XS.iload X30.here hx rfl (hb hby at_108) rfl ?_
      show Steps p.tables e below (T30.setTop (mkF m 110 #[.val (.int p0), .val (.int p1), .val (.int len), .val (.int p1), .val (.int (1 : Int32)), .val (.int (1 : Int32)), .val (.int cc), .val (.long ((9 : Int64) + ((((3 : Int64) * (cc.toInt64)) + (9 : Int64)) / (8 : Int64)))), .second, .val (.int mm), .val (.int (f1 mm cc)), .val (.int (f1 (mm - (1 : Int32)) cc))] [(.int (f1 mm cc))])) _
      refine XS.ifNo X30.here hx rfl (hb hby at_110) rfl ((if0 _ _).trans (feq (by rw [own_fit cc mm hm23 hm25]; decide : ¬ ((f1 mm cc) = (0 : Int32)))).1) ?_
      show Steps p.tables e below (T30.setTop (mkF m 113 #[.val (.int p0), .val (.int p1), .val (.int len), .val (.int p1), .val (.int (1 : Int32)), .val (.int (1 : Int32)), .val (.int cc), .val (.long ((9 : Int64) + ((((3 : Int64) * (cc.toInt64)) + (9 : Int64)) / (8 : Int64)))), .second, .val (.int mm), .val (.int (f1 mm cc)), .val (.int (f1 (mm - (1 : Int32)) cc))] [])) _
      refine XS.iload X30.here hx rfl (hb hby at_113) rfl ?_
      show Steps p.tables e below (T30.setTop (mkF m 115 #[.val (.int p0), .val (.int p1), .val (.int len), .val (.int p1), .val (.int (1 : Int32)), .val (.int (1 : Int32)), .val (.int cc), .val (.long ((9 : Int64) + ((((3 : Int64) * (cc.toInt64)) + (9 : Int64)) / (8 : Int64)))), .second, .val (.int mm), .val (.int (f1 mm cc)), .val (.int (f1 (mm - (1 : Int32)) cc))] [(.int (f1 (mm - (1 : Int32)) cc))])) _
      refine XS.ifNo X30.here hx rfl (hb hby at_115) rfl ((if0 _ _).trans (teq (own_small cc mm hm23 hm25 : (f1 (mm - (1 : Int32)) cc) = (0 : Int32))).2) ?_
      show Steps p.tables e below (T30.setTop (mkF m 118 #[.val (.int p0), .val (.int p1), .val (.int len), .val (.int p1), .val (.int (1 : Int32)), .val (.int (1 : Int32)), .val (.int cc), .val (.long ((9 : Int64) + ((((3 : Int64) * (cc.toInt64)) + (9 : Int64)) / (8 : Int64)))), .second, .val (.int mm), .val (.int (f1 mm cc)), .val (.int (f1 (mm - (1 : Int32)) cc))] [])) _
      refine XS.iconst X30.here hx rfl (hb hby at_118) ?_
      show Steps p.tables e below (T30.setTop (mkF m 119 #[.val (.int p0), .val (.int p1), .val (.int len), .val (.int p1), .val (.int (1 : Int32)), .val (.int (1 : Int32)), .val (.int cc), .val (.long ((9 : Int64) + ((((3 : Int64) * (cc.toInt64)) + (9 : Int64)) / (8 : Int64)))), .second, .val (.int mm), .val (.int (f1 mm cc)), .val (.int (f1 (mm - (1 : Int32)) cc))] [(.int (1 : Int32))])) _
      refine XS.goto X30.here hx rfl (pc0 := 119) (pc' := 123) rfl (hb hby at_119) (by decide) (by decide) ?_
      exact kt)
    obtain ⟨fs, hr, hrun, hended, hW, hsame⟩ := X30.leave (v := some (.int (1 : Int32))) (fun h => by rw [Bd.returns] at h; cases h)
    refine ⟨_, _, pre32 _ ?_, hrun, hended, _, _, rfl, ?_, ⟨_, rfl⟩, hW, hsame.mono (by decide) (by decide)⟩
    · show Steps p.tables e below (T30.setTop (mkF m 123 #[.val (.int p0), .val (.int p1), .val (.int len), .val (.int p1), .val (.int (1 : Int32)), .val (.int (1 : Int32)), .val (.int cc), .val (.long ((9 : Int64) + ((((3 : Int64) * (cc.toInt64)) + (9 : Int64)) / (8 : Int64)))), .second, .val (.int mm), .val (.int (f1 mm cc)), .val (.int (f1 (mm - (1 : Int32)) cc))] [(.int (1 : Int32))])) _
      exact retN X30 hx (t := .boolean) Bd.returns (by simp) (hb hby at_123) hr
    · show Q0 Z p0 p1 h0 n0 _ T30.heap _
      rw [e30]
      exact ⟨rfl, N30⟩
set_option maxRecDepth 65536 in
set_option maxHeartbeats 40000000 in
theorem comes_1 {Post : Tables → Env → Array Value → State → Outcome → State → Prop} (hpost : ∀ tb e args s v u, (limb_1_1.after args s (.returned v) u = true ∧ limb_1_2.after args s (.returned v) u = true ∧ True) → FrameEnd s (.returned v) u (Jvm.fieldLocs frame_1_writes args s ++ Jvm.arrayLocs frame_1_arrays args s ++ Jvm.staticLocs frame_1_statics s) 0 0 → Post tb e args s (.returned v) u) :
    ArmFor flags0 classFile x code maxLocals ret World_1 tables_1 room_1 Calls_1 rest_1 Pre_1 Post := by
  intro l hfl _ _ p e ha hc hk s m args below hf hA hF happ hP
  obtain ⟨hcalls, hrest, hpre⟩ := hP
  obtain ⟨-, -, -, hnamed, -, -, -, hat⟩ := (Spec.applies_iff hf).mp happ
  obtain ⟨hg, hn⟩ := and_e (Cond.before_iff.mp (show (Jvm.Cond.and given_1 narrow_1).before args s = true from hpre))
  obtain ⟨g1, g2⟩ := and_e hg
  obtain ⟨g3, g4⟩ := and_e g2
  obtain ⟨w0, w1, rfl⟩ : ∃ w0 w1 : Value, args = #[w0, w1] := by
    have hs : args.size = 2 := by simpa [Cond.value, given_1] using g1
    obtain ⟨L⟩ := args
    match L, hs with
    | [w0, w1], _ => exact ⟨w0, w1, rfl⟩
  have hw := fun d (hd : d ∈ tables_1) => atoms_spec (ws := Jvm.Cond.code x code maxLocals ret :: tables_1) hat d (List.mem_cons_of_mem _ hd)
  obtain ⟨i0, ei0⟩ := is_v g3
  obtain rfl : w0 = (.int i0) := Option.some.inj ei0
  obtain ⟨i1, ei1⟩ := is_v g4
  obtain rfl : w1 = (.int i1) := Option.some.inj ei1
  obtain ⟨n, o, h1, h2, h3, _, L, rfl, ⟨rfl, N⟩, hq⟩ := rm0 l s _ hw tables_1 i0 i1 s.heap s.heap.size (Nat.le_refl _) p e ha hc hk s m _ below hf ((Spec.applies_iff_loose hf).mp happ).1 ⟨rfl, State.Warmed39.refl s, rfl⟩ trivial
  refine ⟨n, _, h1, h2, h3, hpost _ _ _ _ _ _ ⟨Cond.after_iff.mpr rfl, Cond.after_iff.mpr (eq_i res_at (Term.int_eval (1)) rfl), trivial⟩ ⟨hq.1, hq.2.1, (hq.2.2.sift fun y hy => Or.inr (N y hy)).mono (by decide) (by decide)⟩⟩
theorem main_1_1 : Claimed_1_1 := comes_1 fun _ _ _ _ _ _ h hF => ⟨h.1, hF⟩
theorem main_1_2 : Claimed_1_2 := comes_1 fun _ _ _ _ _ _ h hF => ⟨h.2.1, hF⟩
end Jvm.Pilot.@@N@@
namespace Jvm.Pilot.@@N@@
open Jvm Jvm.ClassFile Sem Op Lib Jvm.Free Jvm.Stand Jvm.Pilot.@@N@@.Jvm.D
/-! MADE BY PROGRAM (witnessworld.py) out of the Statement's table words and the real class files: 10 classes; the members and pool entries that the words name. The judged class is class 1, her method 1. -/
namespace start1
open Jvm.ClassFile
def u (s : String) : CpInfo := .utf8 (stringToUtf16 s)
/-- a pool by its gaps: so many unusable entries, then the entry; so many at the end -/
def gap : Nat → List CpInfo → List CpInfo
  | 0, r => r
  | n + 1, r => .unusable :: gap n r
def poolList (es : List (Nat × CpInfo)) (last : Nat) : List CpInfo := es.foldr (fun e r => gap e.1 (e.2 :: r)) (gap last [])
def pool (es : List (Nat × CpInfo)) (last : Nat) : Array CpInfo := ⟨poolList es last⟩
def fileOf (pool : Array CpInfo) (this : Nat) (attrs : Array Attribute := #[]) (ms : Array MethodInfo := #[]) (fl : Nat := 33) (sup : Nat := 0) (ifs : Array Nat := #[]) (fds : Array FieldInfo := #[]) : ClassFile where
  minorVersion := 0
  majorVersion := 65
  constantPool := pool
  accessFlags := fl
  thisClass := this
  superClass := sup
  interfaces := ifs
  fields := fds
  methods := ms
  attributes := attrs
def plain (name : String) (sup : Option ClassId) : Class where
  name := name
  kind := .ordinary
  loader := none
  accessFlags := 33
  super := sup
  interfaces := #[]
  cf := none
  fields := #[]
  methods := #[]
  instanceTypes := #[]
  staticTypes := #[]
  resolved := #[]
  callSites := []
  init := .initialized
  statics := none
  mirror := none

def pool0 : Array CpInfo := pool [(5, u "<init>"), (0, u "()V"), (1, .class_ 10), (1, u "java/lang/Object")] 113

def k0m0 : Method := { name := "<init>", desc := "()V", sig := { parameters := [], returnType := none }, accessFlags := 1, code := none }
/-- java/lang/Object -/
def k0 : Class := { plain "java/lang/Object" none with
  accessFlags := 33
  interfaces := #[]
  cf := some (fileOf pool0 8 #[] #[{ accessFlags := 1, nameIndex := 5, descriptorIndex := 6, attributes := #[] }] 33 0 #[] #[])
  fields := #[]
  methods := #[k0m0]
  instanceTypes := #[]
  staticTypes := #[]
  resolved := Array.replicate 124 none
  statics := none }

def pool1 : Array CpInfo := pool [(2, .class_ 4), (1, u "java/lang/Object"), (0, u "<init>"), (0, u "()V"), (0, .integer 2147483647), (0, .long 8), (1, .long 3), (1, .long 74), (1, .methodref 15 16), (0, .class_ 17), (0, .nameAndType 18 19), (0, u "com/example/tierfuse/tierfuse/format/SealedFileFormat"), (0, u "canHold"), (0, u "(II)Z"), (0, .long 9), (1, .class_ 23), (0, u "com/example/tierfuse/tierfuse/format/SealedFileFormatCanHoldPinLaw"), (2, u "law")] 3

def k1m0 : Method := { name := "<init>", desc := "()V", sig := { parameters := [], returnType := none }, accessFlags := 2, code := none }
def k1c1 : Code := { maxStack := 6, maxLocals := 12, code := code, exceptionTable := #[], attributes := #[] }
def k1m1 : Method := { name := "law", desc := "(II)Z", sig := { parameters := [.int, .int], returnType := some .boolean }, accessFlags := 9, code := some k1c1 }
/-- com/example/tierfuse/tierfuse/format/SealedFileFormatCanHoldPinLaw -/
def k1 : Class := { plain "com/example/tierfuse/tierfuse/format/SealedFileFormatCanHoldPinLaw" (some 0) with
  accessFlags := 49
  interfaces := #[]
  cf := some (fileOf pool1 22 #[] #[{ accessFlags := 2, nameIndex := 5, descriptorIndex := 6, attributes := #[] }, { accessFlags := 9, nameIndex := 26, descriptorIndex := 19, attributes := #[] }] 49 2 #[] #[])
  fields := #[]
  methods := #[k1m0, k1m1]
  instanceTypes := #[]
  staticTypes := #[]
  resolved := Array.replicate 30 none
  statics := none }

def pool2 : Array CpInfo := pool [(2, .class_ 4), (1, u "java/lang/Object"), (0, u "<init>"), (0, u "()V"), (0, .class_ 8), (0, u "com/example/tierfuse/tierfuse/format/SealedFileFormat"), (13, .class_ 24), (1, u "com/example/tierfuse/tierfuse/format/DeltaEncoding"), (5, u "(J)J"), (120, .long 8), (1, .methodref 22 154), (0, .nameAndType 155 30), (0, u "leastBits"), (11, u "MAGIC"), (0, u "I"), (2, u "FORMAT"), (1, u "FIRST_FORMAT"), (1, u "HEADER_BYTES"), (1, u "FOOTER_BYTES"), (1, u "BLOCK_HEAD_BYTES"), (1, u "CRC_BYTES"), (1, u "PLAIN"), (0, u "B"), (1, u "DELTA"), (7, u "canHold"), (0, u "(II)Z")] 19

def k2m0 : Method := { name := "<init>", desc := "()V", sig := { parameters := [], returnType := none }, accessFlags := 2, code := none }
def k2c1 : Code := { maxStack := 4, maxLocals := 2, code := prog_46_method_6_code, exceptionTable := #[], attributes := #[] }
def k2m1 : Method := { name := "canHold", desc := "(II)Z", sig := { parameters := [.int, .int], returnType := some .boolean }, accessFlags := 8, code := some k2c1 }
/-- com/example/tierfuse/tierfuse/format/SealedFileFormat -/
def k2 : Class := { plain "com/example/tierfuse/tierfuse/format/SealedFileFormat" (some 0) with
  accessFlags := 48
  interfaces := #[]
  cf := some (fileOf pool2 7 #[] #[{ accessFlags := 2, nameIndex := 5, descriptorIndex := 6, attributes := #[] }, { accessFlags := 8, nameIndex := 194, descriptorIndex := 195, attributes := #[] }] 48 2 #[] #[{ accessFlags := 24, nameIndex := 167, descriptorIndex := 168, attributes := #[] }, { accessFlags := 24, nameIndex := 171, descriptorIndex := 168, attributes := #[] }, { accessFlags := 24, nameIndex := 173, descriptorIndex := 168, attributes := #[] }, { accessFlags := 24, nameIndex := 175, descriptorIndex := 168, attributes := #[] }, { accessFlags := 24, nameIndex := 177, descriptorIndex := 168, attributes := #[] }, { accessFlags := 24, nameIndex := 179, descriptorIndex := 168, attributes := #[] }, { accessFlags := 24, nameIndex := 181, descriptorIndex := 168, attributes := #[] }, { accessFlags := 24, nameIndex := 183, descriptorIndex := 184, attributes := #[] }, { accessFlags := 24, nameIndex := 186, descriptorIndex := 184, attributes := #[] }])
  fields := #[{ name := "MAGIC", type := .int, accessFlags := 24, slot := 0, constantValue := 0 }, { name := "FORMAT", type := .int, accessFlags := 24, slot := 1, constantValue := 0 }, { name := "FIRST_FORMAT", type := .int, accessFlags := 24, slot := 2, constantValue := 0 }, { name := "HEADER_BYTES", type := .int, accessFlags := 24, slot := 3, constantValue := 0 }, { name := "FOOTER_BYTES", type := .int, accessFlags := 24, slot := 4, constantValue := 0 }, { name := "BLOCK_HEAD_BYTES", type := .int, accessFlags := 24, slot := 5, constantValue := 0 }, { name := "CRC_BYTES", type := .int, accessFlags := 24, slot := 6, constantValue := 0 }, { name := "PLAIN", type := .byte, accessFlags := 24, slot := 7, constantValue := 0 }, { name := "DELTA", type := .byte, accessFlags := 24, slot := 8, constantValue := 0 }]
  methods := #[k2m0, k2m1]
  instanceTypes := #[]
  staticTypes := #[.int, .int, .int, .int, .int, .int, .int, .byte, .byte]
  resolved := Array.replicate 215 none
  statics := none }

def pool3 : Array CpInfo := pool [(2, .class_ 4), (1, u "java/lang/Object"), (0, u "<init>"), (0, u "()V"), (11, .class_ 20), (1, u "com/example/tierfuse/tierfuse/format/DeltaEncoding"), (8, u "POWERS"), (0, u "[D"), (30, .long 3), (1, .long 2), (68, u "MAX_EXPONENT"), (0, u "I"), (2, u "SAMPLE"), (8, u "leastBits"), (0, u "(J)J")] 25

def k3m0 : Method := { name := "<init>", desc := "()V", sig := { parameters := [], returnType := none }, accessFlags := 2, code := none }
def k3c1 : Code := { maxStack := 4, maxLocals := 2, code := prog_44_method_3_code, exceptionTable := #[], attributes := #[] }
def k3m1 : Method := { name := "leastBits", desc := "(J)J", sig := { parameters := [.long], returnType := some .long }, accessFlags := 8, code := some k3c1 }
/-- com/example/tierfuse/tierfuse/format/DeltaEncoding -/
def k3 : Class := { plain "com/example/tierfuse/tierfuse/format/DeltaEncoding" (some 0) with
  accessFlags := 48
  interfaces := #[]
  cf := some (fileOf pool3 18 #[] #[{ accessFlags := 2, nameIndex := 5, descriptorIndex := 6, attributes := #[] }, { accessFlags := 8, nameIndex := 145, descriptorIndex := 146, attributes := #[] }] 48 2 #[] #[{ accessFlags := 24, nameIndex := 132, descriptorIndex := 133, attributes := #[] }, { accessFlags := 26, nameIndex := 136, descriptorIndex := 133, attributes := #[] }, { accessFlags := 26, nameIndex := 29, descriptorIndex := 30, attributes := #[] }])
  fields := #[{ name := "MAX_EXPONENT", type := .int, accessFlags := 24, slot := 0, constantValue := 0 }, { name := "SAMPLE", type := .int, accessFlags := 26, slot := 1, constantValue := 0 }, { name := "POWERS", type := (.array .double), accessFlags := 26, slot := 2, constantValue := 0 }]
  methods := #[k3m0, k3m1]
  instanceTypes := #[]
  staticTypes := #[.int, .int, (.array .double)]
  resolved := Array.replicate 172 none
  statics := none }

def pool4 : Array CpInfo := pool [(1, u "java/lang/Cloneable"), (0, .class_ 1), (0, u "java/lang/Object"), (0, .class_ 3)] 3

/-- java/lang/Cloneable -/
def k4 : Class := { plain "java/lang/Cloneable" (some 0) with
  accessFlags := 1537
  interfaces := #[]
  cf := some (fileOf pool4 2 #[] #[] 1537 4 #[] #[])
  fields := #[]
  methods := #[]
  instanceTypes := #[]
  staticTypes := #[]
  resolved := Array.replicate 8 none
  statics := none }

def pool5 : Array CpInfo := pool [(1, u "java/io/Serializable"), (0, .class_ 1), (0, u "java/lang/Object"), (0, .class_ 3)] 3

/-- java/io/Serializable -/
def k5 : Class := { plain "java/io/Serializable" (some 0) with
  accessFlags := 1537
  interfaces := #[]
  cf := some (fileOf pool5 2 #[] #[] 1537 4 #[] #[])
  fields := #[]
  methods := #[]
  instanceTypes := #[]
  staticTypes := #[]
  resolved := Array.replicate 8 none
  statics := none }

/-- the primitive byte -/
def k6 : Class := { plain "byte" none with kind := .primitive 'B', accessFlags := 0x411 }
/-- [B -/
def k7 : Class := { plain "[B" (some 0) with kind := .array 6 .byte, interfaces := #[4, 5], accessFlags := 1041 }

/-- the primitive int -/
def k8 : Class := { plain "int" none with kind := .primitive 'I', accessFlags := 0x411 }
/-- [I -/
def k9 : Class := { plain "[I" (some 0) with kind := .array 8 .int, interfaces := #[4, 5], accessFlags := 1041 }

def heap : Heap := #[]
def classes : Array Class := #[k0, k1, k2, k3, k4, k5, k6, k7, k8, k9]
def interned : List (Array UInt16 × Addr) := []
def slotsUsed : Nat := 0
def theMethod : MethodId := ⟨1, 1⟩
def args0 : Array Value := #[.int 5, .int 5]
def aboutOver (below : List Frame) : State where
  vm := { classes := classes, interned := interned.toArray }
  heap := heap
  slotsUsed := slotsUsed
  threads := #[{ frames := .invoking theMethod args0 :: below }]
def below0 : List Frame := [.native { method := ⟨0, 0⟩, args := #[] }]
def about1 : State := aboutOver below0
def p0 : Program := .bare "" "" ""
def e0 : Env := launch0.env 0 0 0
theorem w_frames : about1.frames = Frame.invoking theMethod args0 :: below0 := rfl
set_option maxRecDepth 65536 in
theorem w_args : argsFit about1.vm theMethod args0 = true := by decide +kernel
set_option maxRecDepth 65536 in
theorem w_heap : heapFits about1 = true := by decide +kernel
set_option maxRecDepth 65536 in
theorem w_runnable : about1.curStatus? = some .runnable := by decide +kernel
set_option maxRecDepth 65536 in
theorem w_alone : about1.alone = true := by decide +kernel
set_option maxRecDepth 65536 in
theorem w_named : about1.methodNamed? x = some theMethod := by decide +kernel
set_option maxRecDepth 65536 in
theorem w_hears : about1.hears theMethod below0 = true := by decide +kernel
set_option maxRecDepth 65536 in
theorem w_ripe : about1.ripe theMethod args0 below0 = true := by decide +kernel
theorem w_running : about1.status = .running := rfl
set_option maxRecDepth 65536 in
theorem w_room : about1.hasRoom e0.platform room_1 = true :=
  launch0.hasRoom_least _ room_1 (by decide +kernel) (by decide +kernel) (by decide +kernel) (by decide +kernel) (by decide +kernel) (by decide +kernel)
theorem allAtoms_all (ts : List Jvm.Cond) (a : Array Jvm.Value) (st : Jvm.State) : (allAtoms ts).before a st = ts.all (fun c => c.before a st) := by
  induction ts with
  | nil => rfl
  | cons c t ih =>
    show (Jvm.Cond.and c (allAtoms t)).before a st = _
    rw [Jvm.Cond.before_and, ih, List.all_cons]
def words1 : List Jvm.Cond := Jvm.Cond.code x code maxLocals ret :: tables_1
/-- a 'code' word, met by the world's own term for the bytes: nothing is compared byte by byte -/
theorem code_word {y : MethodName} {bytes : ByteArray} {mx : Nat} {rt : Option FieldType} {a : Array Value} {s : State} {m : MethodId} {meth : Method} {c : Code} (h1 : s.methodNamed? y = some m) (h2 : s.vm.method? m = some meth) (h3 : meth.code = some c) (h4 : c.code = bytes)
    (h5 : (c.maxLocals == mx && c.exceptionTable.isEmpty && decide (c.maxStack ≤ mostOperands) && decide (meth.sig.returnType = rt) && !meth.locks && decide (parseMethodDescriptor y.desc = some meth.sig)) = true) : (Jvm.Cond.code y bytes mx rt).before a s = true := by
  simp only [Bool.and_eq_true, beq_iff_eq, Bool.not_eq_true', decide_eq_true_eq] at h5
  obtain ⟨⟨⟨⟨⟨g1, g2⟩, g3⟩, g4⟩, g5⟩, g6⟩ := h5
  simp [Cond.before, Cond.holds, Cond.value, h1, h2, h3, h4, g1, g2, g3, g4, g5, g6]
def isCode : Jvm.Cond → Bool
  | .code _ _ _ _ => true
  | _ => false
theorem all_split {L : List Jvm.Cond} {P : Jvm.Cond → Bool} (h1 : L.all (fun c => isCode c || P c) = true) (h2 : ∀ c ∈ L.filter isCode, P c = true) : L.all P = true := by
  refine List.all_eq_true.mpr fun c hc => ?_
  have h := List.all_eq_true.mp h1 c hc
  rcases Bool.eq_false_or_eq_true (isCode c) with hi | hi
  · exact h2 c (List.mem_filter.mpr ⟨hc, hi⟩)
  · simpa [hi] using h
set_option maxRecDepth 65536 in
theorem w_c0 : (Jvm.Cond.code x code maxLocals ret).before args0 about1 = true := code_word (m := ⟨1, 1⟩) (meth := k1m1) (c := k1c1) (by decide +kernel) rfl rfl rfl (by decide +kernel)
set_option maxRecDepth 65536 in
theorem w_c1 : (Jvm.Cond.code ({ cls := "com/example/tierfuse/tierfuse/format/SealedFileFormat", name := "canHold", desc := "(II)Z" } : Jvm.MethodName) prog_46_method_6_code (2 : Nat) (Option.some Jvm.ClassFile.FieldType.boolean)).before args0 about1 = true := code_word (m := ⟨2, 1⟩) (meth := k2m1) (c := k2c1) (by decide +kernel) rfl rfl rfl (by decide +kernel)
set_option maxRecDepth 65536 in
theorem w_c2 : (Jvm.Cond.code ({ cls := "com/example/tierfuse/tierfuse/format/DeltaEncoding", name := "leastBits", desc := "(J)J" } : Jvm.MethodName) prog_44_method_3_code (2 : Nat) (Option.some Jvm.ClassFile.FieldType.long)).before args0 about1 = true := code_word (m := ⟨3, 1⟩) (meth := k3m1) (c := k3c1) (by decide +kernel) rfl rfl rfl (by decide +kernel)
def codes1 : List Jvm.Cond := [Jvm.Cond.code x code maxLocals ret, Jvm.Cond.code ({ cls := "com/example/tierfuse/tierfuse/format/SealedFileFormat", name := "canHold", desc := "(II)Z" } : Jvm.MethodName) prog_46_method_6_code (2 : Nat) (Option.some Jvm.ClassFile.FieldType.boolean), Jvm.Cond.code ({ cls := "com/example/tierfuse/tierfuse/format/DeltaEncoding", name := "leastBits", desc := "(J)J" } : Jvm.MethodName) prog_44_method_3_code (2 : Nat) (Option.some Jvm.ClassFile.FieldType.long)]
set_option maxRecDepth 65536 in
theorem codes_eq : words1.filter isCode = codes1 := rfl
theorem w_codes : ∀ c ∈ words1.filter isCode, c.before args0 about1 = true := by
  rw [codes_eq]
  intro c hc
  simp only [codes1, List.mem_cons, List.not_mem_nil, or_false] at hc
  rcases hc with rfl | rfl | rfl
  · exact w_c0
  · exact w_c1
  · exact w_c2
set_option maxRecDepth 65536 in
theorem w_t1 : words1.all (fun c => isCode c || c.before args0 about1) = true := by decide +kernel
theorem w_tables : (allAtoms (Jvm.Cond.code x code maxLocals ret :: tables_1)).before args0 about1 = true := by
  rw [allAtoms_all]
  show words1.all (fun c => c.before args0 about1) = true
  refine all_split ?_ w_codes
  rw [w_t1]
set_option maxRecDepth 65536 in
theorem w_case : (Jvm.Cond.and given_1 narrow_1).before args0 about1 = true := by decide +kernel
theorem w_applies : (headSpec (Jvm.Cond.code x code maxLocals ret :: tables_1) room_1).applies x e0.platform about1 = true :=
  (Spec.applies_iff w_frames).mpr ⟨w_running, w_runnable, w_alone, w_named, w_hears, w_ripe, w_room, w_tables⟩
theorem atStart : AtStart classFile x code maxLocals ret World_1 tables_1 room_1 Calls_1 rest_1 Pre_1 launch0 p0 e0 about1 theMethod args0 below0 :=
  ⟨lists_1, trivial, launch0.admits_env _ _ _, launch0.least_env, fairChoices_fair.cas, fairChoices_fair.clock, w_frames, w_args, w_heap, w_applies, trivial, trivial, w_case⟩
end start1
theorem witness_1 : WitnessClaimed_1 := ⟨start1.p0, start1.e0, start1.about1, start1.theMethod, start1.args0, start1.below0, start1.atStart⟩
end Jvm.Pilot.@@N@@
