import JvmDerived
import JvmDerived.Pilot.@@N@@Statement
import JvmDerived.Pilot.@@N@@Code
set_option linter.unusedVariables false
set_option linter.unusedSimpArgs false
namespace Jvm.Pilot.@@N@@
open Jvm Jvm.ClassFile Sem Op Lib Jvm.Free Jvm.Stand Jvm.LawKit Jvm.RoadKit Bundle Jvm.Pilot.@@N@@.Jvm.D
theorem pn_com_example_shapelint_shapelint_ValueNodesPlusPinLaw : plainName "com/example/shapelint/shapelint/ValueNodesPlusPinLaw" = true := by first | (simp [plainName, overriddenIn]; done) | decide +kernel
theorem pn_com_example_shapelint_shapelint_ValueNodes : plainName "com/example/shapelint/shapelint/ValueNodes" = true := by first | (simp [plainName, overriddenIn]; done) | decide +kernel
theorem d1_0 : decode prog_33_method_8_code 0 = .ok (.lload_n 0, 1) := by decide +kernel
theorem d1_1 : decode prog_33_method_8_code 1 = .ok (.ldc2_w 37, 3) := by decide +kernel
theorem d1_4 : decode prog_33_method_8_code 4 = .ok (.lcmp, 1) := by decide +kernel
theorem d1_5 : decode prog_33_method_8_code 5 = .ok (.ifCond .eq 11, 3) := by decide +kernel
theorem d1_16 : decode prog_33_method_8_code 16 = .ok (.ldc2_w 37, 3) := by decide +kernel
theorem d1_19 : decode prog_33_method_8_code 19 = .ok (.lreturn, 1) := by decide +kernel
theorem d1_8 : decode prog_33_method_8_code 8 = .ok (.lload_n 2, 1) := by decide +kernel
theorem d1_9 : decode prog_33_method_8_code 9 = .ok (.ldc2_w 37, 3) := by decide +kernel
theorem d1_12 : decode prog_33_method_8_code 12 = .ok (.lcmp, 1) := by decide +kernel
theorem d1_13 : decode prog_33_method_8_code 13 = .ok (.ifCond .ne 7, 3) := by decide +kernel
theorem d1_20 : decode prog_33_method_8_code 20 = .ok (.lload_n 0, 1) := by decide +kernel
theorem d1_21 : decode prog_33_method_8_code 21 = .ok (.ldc2_w 39, 3) := by decide +kernel
theorem d1_24 : decode prog_33_method_8_code 24 = .ok (.lload_n 2, 1) := by decide +kernel
theorem d1_25 : decode prog_33_method_8_code 25 = .ok (.lsub, 1) := by decide +kernel
theorem d1_26 : decode prog_33_method_8_code 26 = .ok (.lcmp, 1) := by decide +kernel
theorem d1_27 : decode prog_33_method_8_code 27 = .ok (.ifCond .le 9, 3) := by decide +kernel
theorem d1_30 : decode prog_33_method_8_code 30 = .ok (.ldc2_w 39, 3) := by decide +kernel
theorem d1_33 : decode prog_33_method_8_code 33 = .ok (.goto 6, 3) := by decide +kernel
theorem d1_39 : decode prog_33_method_8_code 39 = .ok (.lreturn, 1) := by decide +kernel
theorem d1_36 : decode prog_33_method_8_code 36 = .ok (.lload_n 0, 1) := by decide +kernel
theorem d1_37 : decode prog_33_method_8_code 37 = .ok (.lload_n 2, 1) := by decide +kernel
theorem d1_38 : decode prog_33_method_8_code 38 = .ok (.ladd, 1) := by decide +kernel
theorem ef1 (m : MethodId) (x0 : Int64) (x1 : Int64) : entryFrame m #[(.long x0), (.long x1)] 4 = mkF m 0 #[.val (.long x0), .second, .val (.long x1), .second] [] := by first | (simp [entryFrame, mkF, argsToLocals, Value.category]; done) | rfl
def f1 (q0 : Int64) (q1 : Int64) : Int64 :=
  if q0 = (9223372036854775807 : Int64) then
    (9223372036854775807 : Int64)
  else
    if q1 = (9223372036854775807 : Int64) then
      (9223372036854775807 : Int64)
    else
      if ((9223372036854775806 : Int64) - q1) < q0 then
        (9223372036854775806 : Int64)
      else
        (q0 + q1)
def Q1 (Z : State) (q0 : Int64) (q1 : Int64) (h0 : Heap) (n0 : Nat) (v : Option Value) (h : Heap) (L : List Loc) : Prop := v = some (.long (f1 q0 q1)) ∧ Fr n0 L ∧ h = h0
set_option maxRecDepth 65536 in
set_option maxHeartbeats 40000000 in
theorem rm1 (l : Launch) (Z : State) (av : Array Value) (hw : ∀ d ∈ tables_1, d.before av Z = true) (ws : List Jvm.Cond) (q0 : Int64) (q1 : Int64) (h0 : Heap) (n0 : Nat) (Z0 : n0 ≤ h0.size) :
    MetFree l (⟨"com/example/shapelint/shapelint/ValueNodes", "plus", "(JJ)J"⟩ : MethodName) (head1 (Jvm.Cond.code (⟨"com/example/shapelint/shapelint/ValueNodes", "plus", "(JJ)J"⟩ : MethodName) prog_33_method_8_code 4 (some .long) :: ws) ({ frames := 0, cells := 0, slots := 0, locals := 0 } : Room)) (fun a U => a = #[(.long q0), (.long q1)] ∧ Z.Warmed39 U.vm ∧ U.heap = h0) (fun _ _ _ _ _ => True) (fun _ U o U' => ∃ v L, o = .returned v ∧ Q1 Z q0 q1 h0 n0 v U'.heap L ∧ FrameEnd U o U' L ({ frames := 0, cells := 0, slots := 0, locals := 0 } : Room).cells ({ frames := 0, cells := 0, slots := 0, locals := 0 } : Room).slots) := by
  refine MetFree.of_bodySF (plainFor_of_name pn_com_example_shapelint_shapelint_ValueNodes) hisR ?_
  intro p e s m args below meth c s₁ Bd hml0 hP hK
  obtain ⟨rfl, hZ, hh⟩ := hP
  have hx := Bd.exec
  have hby := Bd.bytes
  have hml : c.maxLocals = 4 := hml0
  have hown : s.vm.findClass "com/example/shapelint/shapelint/ValueNodes" = some m.cls := findClass_of_methodNamed Bd.named
  have hnm := (name_of_methodNamed Bd.named Bd.method).1
  have X0 : Stand p l e ({ frames := 0, cells := 0, slots := 0, locals := 0 } : Room) s m #[(.long q0), (.long q1)] below meth c s₁ [] 0 0 := Stand.of_body Bd
  have e0 : s₁.heap = h0 := by rw [← hh, Bd.state]; rfl
  have N0 := Fr.nil n0
  have K0 : Keep h0 h0 [] := Keep.refl h0 []
  have pre0 : ∀ t, Steps p.tables e below (s₁.setTop (mkF m 0 #[.val (.long q0), .second, .val (.long q1), .second] [])) t → Steps p.tables e below (s₁.setTop (entryFrame m #[(.long q0), (.long q1)] 4)) t := fun t k => castTop (ef1 m q0 q1) k
  have pre1 : ∀ t, Steps p.tables e below (s₁.setTop (mkF m 5 #[.val (.long q0), .second, .val (.long q1), .second] [(.int (lcmpW q0 (9223372036854775807 : Int64)))])) t → Steps p.tables e below (s₁.setTop (entryFrame m #[(.long q0), (.long q1)] 4)) t := fun t kt => pre0 t (by
    show Steps p.tables e below (s₁.setTop (mkF m 0 #[.val (.long q0), .second, .val (.long q1), .second] [])) _
    refine XS.lloadN X0.here hx rfl (hb hby d1_0) rfl ?_
    show Steps p.tables e below (s₁.setTop (mkF m 1 #[.val (.long q0), .second, .val (.long q1), .second] [(.long q0)])) _
    refine X0.ldc2Long hx hown (mvT hZ (hw _ (List.mem_of_getElem? (i := 5) rfl))) (g := (mkF m 1 #[.val (.long q0), .second, .val (.long q1), .second] [(.long q0)])) rfl (hb hby d1_1) _ ?_
    show Steps p.tables e below (s₁.setTop (mkF m 4 #[.val (.long q0), .second, .val (.long q1), .second] [(.long (9223372036854775807 : Int64)), (.long q0)])) _
    refine XS.lcmp X0.here hx rfl (hb hby d1_4) rfl ?_
    exact kt)
  by_cases hc5_2 : q0 = (9223372036854775807 : Int64)
  · have pre3 : ∀ t, Steps p.tables e below (s₁.setTop (mkF m 19 #[.val (.long q0), .second, .val (.long q1), .second] [(.long (9223372036854775807 : Int64))])) t → Steps p.tables e below (s₁.setTop (entryFrame m #[(.long q0), (.long q1)] 4)) t := fun t kt => pre1 t (by
      show Steps p.tables e below (s₁.setTop (mkF m 5 #[.val (.long q0), .second, .val (.long q1), .second] [(.int (lcmpW q0 (9223372036854775807 : Int64)))])) _
      refine XS.ifYes X0.here hx rfl (pc0 := 5) (pc' := 16) rfl (hb hby d1_5) rfl (Jvm.Free.XT.ll_eq_t hc5_2) (by decide) (by decide) ?_
      show Steps p.tables e below (s₁.setTop (mkF m 16 #[.val (.long q0), .second, .val (.long q1), .second] [])) _
      refine X0.ldc2Long hx hown (mvT hZ (hw _ (List.mem_of_getElem? (i := 5) rfl))) (g := (mkF m 16 #[.val (.long q0), .second, .val (.long q1), .second] [])) rfl (hb hby d1_16) _ ?_
      exact kt)
    have hv : f1 q0 q1 = (9223372036854775807 : Int64) := by
      unfold f1
      rw [if_pos hc5_2]
    obtain ⟨fs, hr, hrun, hended, hW, hsame⟩ := X0.leave (v := some (.long (f1 q0 q1))) (fun h => by rw [Bd.returns] at h; cases h)
    refine ⟨_, _, pre3 _ ?_, hrun, hended, _, _, rfl, ?_, ⟨_, rfl⟩, hW, hsame.mono (by decide) (by decide)⟩
    · rw [hv] at hr
      show Steps p.tables e below (s₁.setTop (mkF m 19 #[.val (.long q0), .second, .val (.long q1), .second] [(.long (9223372036854775807 : Int64))])) _
      jvm_step X0.here [X0.here.top, hx, (hb hby d1_19), X0.method', Bd.returns, narrow]
      first | (intro acts; rw [hr _ acts rfl rfl rfl]) | rw [hr _ _ rfl rfl rfl]
      exact Steps.refl _
    · show Q1 Z q0 q1 h0 n0 _ s₁.heap _
      rw [e0]
      exact ⟨rfl, N0, rfl⟩
  · have pre4 : ∀ t, Steps p.tables e below (s₁.setTop (mkF m 13 #[.val (.long q0), .second, .val (.long q1), .second] [(.int (lcmpW q1 (9223372036854775807 : Int64)))])) t → Steps p.tables e below (s₁.setTop (entryFrame m #[(.long q0), (.long q1)] 4)) t := fun t kt => pre1 t (by
      show Steps p.tables e below (s₁.setTop (mkF m 5 #[.val (.long q0), .second, .val (.long q1), .second] [(.int (lcmpW q0 (9223372036854775807 : Int64)))])) _
      refine XS.ifNo X0.here hx rfl (hb hby d1_5) rfl (Jvm.Free.XT.ll_eq_f hc5_2) ?_
      show Steps p.tables e below (s₁.setTop (mkF m 8 #[.val (.long q0), .second, .val (.long q1), .second] [])) _
      refine XS.lloadN X0.here hx rfl (hb hby d1_8) rfl ?_
      show Steps p.tables e below (s₁.setTop (mkF m 9 #[.val (.long q0), .second, .val (.long q1), .second] [(.long q1)])) _
      refine X0.ldc2Long hx hown (mvT hZ (hw _ (List.mem_of_getElem? (i := 5) rfl))) (g := (mkF m 9 #[.val (.long q0), .second, .val (.long q1), .second] [(.long q1)])) rfl (hb hby d1_9) _ ?_
      show Steps p.tables e below (s₁.setTop (mkF m 12 #[.val (.long q0), .second, .val (.long q1), .second] [(.long (9223372036854775807 : Int64)), (.long q1)])) _
      refine XS.lcmp X0.here hx rfl (hb hby d1_12) rfl ?_
      exact kt)
    by_cases hc13_5 : q1 = (9223372036854775807 : Int64)
    · have pre6 : ∀ t, Steps p.tables e below (s₁.setTop (mkF m 19 #[.val (.long q0), .second, .val (.long q1), .second] [(.long (9223372036854775807 : Int64))])) t → Steps p.tables e below (s₁.setTop (entryFrame m #[(.long q0), (.long q1)] 4)) t := fun t kt => pre4 t (by
        show Steps p.tables e below (s₁.setTop (mkF m 13 #[.val (.long q0), .second, .val (.long q1), .second] [(.int (lcmpW q1 (9223372036854775807 : Int64)))])) _
        refine XS.ifNo X0.here hx rfl (hb hby d1_13) rfl (Jvm.Free.XT.ll_ne_f hc13_5) ?_
        show Steps p.tables e below (s₁.setTop (mkF m 16 #[.val (.long q0), .second, .val (.long q1), .second] [])) _
        refine X0.ldc2Long hx hown (mvT hZ (hw _ (List.mem_of_getElem? (i := 5) rfl))) (g := (mkF m 16 #[.val (.long q0), .second, .val (.long q1), .second] [])) rfl (hb hby d1_16) _ ?_
        exact kt)
      have hv : f1 q0 q1 = (9223372036854775807 : Int64) := by
        unfold f1
        rw [if_neg hc5_2, if_pos hc13_5]
      obtain ⟨fs, hr, hrun, hended, hW, hsame⟩ := X0.leave (v := some (.long (f1 q0 q1))) (fun h => by rw [Bd.returns] at h; cases h)
      refine ⟨_, _, pre6 _ ?_, hrun, hended, _, _, rfl, ?_, ⟨_, rfl⟩, hW, hsame.mono (by decide) (by decide)⟩
      · rw [hv] at hr
        show Steps p.tables e below (s₁.setTop (mkF m 19 #[.val (.long q0), .second, .val (.long q1), .second] [(.long (9223372036854775807 : Int64))])) _
        jvm_step X0.here [X0.here.top, hx, (hb hby d1_19), X0.method', Bd.returns, narrow]
        first | (intro acts; rw [hr _ acts rfl rfl rfl]) | rw [hr _ _ rfl rfl rfl]
        exact Steps.refl _
      · show Q1 Z q0 q1 h0 n0 _ s₁.heap _
        rw [e0]
        exact ⟨rfl, N0, rfl⟩
    · have pre7 : ∀ t, Steps p.tables e below (s₁.setTop (mkF m 27 #[.val (.long q0), .second, .val (.long q1), .second] [(.int (lcmpW q0 ((9223372036854775806 : Int64) - q1)))])) t → Steps p.tables e below (s₁.setTop (entryFrame m #[(.long q0), (.long q1)] 4)) t := fun t kt => pre4 t (by
        show Steps p.tables e below (s₁.setTop (mkF m 13 #[.val (.long q0), .second, .val (.long q1), .second] [(.int (lcmpW q1 (9223372036854775807 : Int64)))])) _
        refine XS.ifYes X0.here hx rfl (pc0 := 13) (pc' := 20) rfl (hb hby d1_13) rfl (Jvm.Free.XT.ll_ne_t hc13_5) (by decide) (by decide) ?_
        show Steps p.tables e below (s₁.setTop (mkF m 20 #[.val (.long q0), .second, .val (.long q1), .second] [])) _
        refine XS.lloadN X0.here hx rfl (hb hby d1_20) rfl ?_
        show Steps p.tables e below (s₁.setTop (mkF m 21 #[.val (.long q0), .second, .val (.long q1), .second] [(.long q0)])) _
        refine X0.ldc2Long hx hown (mvT hZ (hw _ (List.mem_of_getElem? (i := 6) rfl))) (g := (mkF m 21 #[.val (.long q0), .second, .val (.long q1), .second] [(.long q0)])) rfl (hb hby d1_21) _ ?_
        show Steps p.tables e below (s₁.setTop (mkF m 24 #[.val (.long q0), .second, .val (.long q1), .second] [(.long (9223372036854775806 : Int64)), (.long q0)])) _
        refine XS.lloadN X0.here hx rfl (hb hby d1_24) rfl ?_
        show Steps p.tables e below (s₁.setTop (mkF m 25 #[.val (.long q0), .second, .val (.long q1), .second] [(.long q1), (.long (9223372036854775806 : Int64)), (.long q0)])) _
        refine XS.lsub X0.here hx rfl (hb hby d1_25) rfl ?_
        show Steps p.tables e below (s₁.setTop (mkF m 26 #[.val (.long q0), .second, .val (.long q1), .second] [(.long ((9223372036854775806 : Int64) - q1)), (.long q0)])) _
        refine XS.lcmp X0.here hx rfl (hb hby d1_26) rfl ?_
        exact kt)
      by_cases hc27_8 : ((9223372036854775806 : Int64) - q1) < q0
      · have pre9 : ∀ t, Steps p.tables e below (s₁.setTop (mkF m 39 #[.val (.long q0), .second, .val (.long q1), .second] [(.long (9223372036854775806 : Int64))])) t → Steps p.tables e below (s₁.setTop (entryFrame m #[(.long q0), (.long q1)] 4)) t := fun t kt => pre7 t (by
          show Steps p.tables e below (s₁.setTop (mkF m 27 #[.val (.long q0), .second, .val (.long q1), .second] [(.int (lcmpW q0 ((9223372036854775806 : Int64) - q1)))])) _
          refine XS.ifNo X0.here hx rfl (hb hby d1_27) rfl (Jvm.Free.XT.ll_le_f hc27_8) ?_
          show Steps p.tables e below (s₁.setTop (mkF m 30 #[.val (.long q0), .second, .val (.long q1), .second] [])) _
          refine X0.ldc2Long hx hown (mvT hZ (hw _ (List.mem_of_getElem? (i := 6) rfl))) (g := (mkF m 30 #[.val (.long q0), .second, .val (.long q1), .second] [])) rfl (hb hby d1_30) _ ?_
          show Steps p.tables e below (s₁.setTop (mkF m 33 #[.val (.long q0), .second, .val (.long q1), .second] [(.long (9223372036854775806 : Int64))])) _
          refine XS.goto X0.here hx rfl (pc0 := 33) (pc' := 39) rfl (hb hby d1_33) (by decide) (by decide) ?_
          exact kt)
        have hv : f1 q0 q1 = (9223372036854775806 : Int64) := by
          unfold f1
          rw [if_neg hc5_2, if_neg hc13_5, if_pos hc27_8]
        obtain ⟨fs, hr, hrun, hended, hW, hsame⟩ := X0.leave (v := some (.long (f1 q0 q1))) (fun h => by rw [Bd.returns] at h; cases h)
        refine ⟨_, _, pre9 _ ?_, hrun, hended, _, _, rfl, ?_, ⟨_, rfl⟩, hW, hsame.mono (by decide) (by decide)⟩
        · rw [hv] at hr
          show Steps p.tables e below (s₁.setTop (mkF m 39 #[.val (.long q0), .second, .val (.long q1), .second] [(.long (9223372036854775806 : Int64))])) _
          jvm_step X0.here [X0.here.top, hx, (hb hby d1_39), X0.method', Bd.returns, narrow]
          first | (intro acts; rw [hr _ acts rfl rfl rfl]) | rw [hr _ _ rfl rfl rfl]
          exact Steps.refl _
        · show Q1 Z q0 q1 h0 n0 _ s₁.heap _
          rw [e0]
          exact ⟨rfl, N0, rfl⟩
      · have pre10 : ∀ t, Steps p.tables e below (s₁.setTop (mkF m 39 #[.val (.long q0), .second, .val (.long q1), .second] [(.long (q0 + q1))])) t → Steps p.tables e below (s₁.setTop (entryFrame m #[(.long q0), (.long q1)] 4)) t := fun t kt => pre7 t (by
          show Steps p.tables e below (s₁.setTop (mkF m 27 #[.val (.long q0), .second, .val (.long q1), .second] [(.int (lcmpW q0 ((9223372036854775806 : Int64) - q1)))])) _
          refine XS.ifYes X0.here hx rfl (pc0 := 27) (pc' := 36) rfl (hb hby d1_27) rfl (Jvm.Free.XT.ll_le_t hc27_8) (by decide) (by decide) ?_
          show Steps p.tables e below (s₁.setTop (mkF m 36 #[.val (.long q0), .second, .val (.long q1), .second] [])) _
          refine XS.lloadN X0.here hx rfl (hb hby d1_36) rfl ?_
          show Steps p.tables e below (s₁.setTop (mkF m 37 #[.val (.long q0), .second, .val (.long q1), .second] [(.long q0)])) _
          refine XS.lloadN X0.here hx rfl (hb hby d1_37) rfl ?_
          show Steps p.tables e below (s₁.setTop (mkF m 38 #[.val (.long q0), .second, .val (.long q1), .second] [(.long q1), (.long q0)])) _
          refine XS.ladd X0.here hx rfl (hb hby d1_38) rfl ?_
          exact kt)
        have hv : f1 q0 q1 = (q0 + q1) := by
          unfold f1
          rw [if_neg hc5_2, if_neg hc13_5, if_neg hc27_8]
        obtain ⟨fs, hr, hrun, hended, hW, hsame⟩ := X0.leave (v := some (.long (f1 q0 q1))) (fun h => by rw [Bd.returns] at h; cases h)
        refine ⟨_, _, pre10 _ ?_, hrun, hended, _, _, rfl, ?_, ⟨_, rfl⟩, hW, hsame.mono (by decide) (by decide)⟩
        · rw [hv] at hr
          show Steps p.tables e below (s₁.setTop (mkF m 39 #[.val (.long q0), .second, .val (.long q1), .second] [(.long (q0 + q1))])) _
          jvm_step X0.here [X0.here.top, hx, (hb hby d1_39), X0.method', Bd.returns, narrow]
          first | (intro acts; rw [hr _ acts rfl rfl rfl]) | rw [hr _ _ rfl rfl rfl]
          exact Steps.refl _
        · show Q1 Z q0 q1 h0 n0 _ s₁.heap _
          rw [e0]
          exact ⟨rfl, N0, rfl⟩
theorem own_law (a b : Int64) (ha : 0 ≤ a.toInt) (hb : 0 ≤ b.toInt) : f1 a b = if a = (9223372036854775807 : Int64) then (9223372036854775807 : Int64) else if b = (9223372036854775807 : Int64) then (9223372036854775807 : Int64) else if (a + b) < (0 : Int64) then (9223372036854775806 : Int64) else if (a + b) = (9223372036854775807 : Int64) then (9223372036854775806 : Int64) else (a + b) := by
  have r1 := rng64 a
  have r2 := rng64 b
  have e1 := c_ladd a b
  have r3 := rng64 (a + b)
  have e2 := c_lsub (9223372036854775806 : Int64) b
  have r4 := rng64 ((9223372036854775806 : Int64) - b)
  unfold f1
  by_cases h1 : a = (9223372036854775807 : Int64)
  · rw [if_pos h1, if_pos h1]
  · rw [if_neg h1, if_neg h1]
    by_cases h2 : b = (9223372036854775807 : Int64)
    · rw [if_pos h2, if_pos h2]
    · rw [if_neg h2, if_neg h2]
      by_cases h3 : ((9223372036854775806 : Int64) - b) < a
      · rw [if_pos h3]
        by_cases h4 : (a + b) < (0 : Int64)
        · rw [if_pos h4]
        · rw [if_neg h4, if_pos]
          simp only [← Int64.toInt_inj, Int64.lt_iff_toInt_lt, Int64.reduceToInt] at *
          omega
      · rw [if_neg h3, if_neg, if_neg]
        all_goals
          simp only [← Int64.toInt_inj, Int64.lt_iff_toInt_lt, Int64.reduceToInt] at *
          omega
theorem pd__JJ_J : parseMethodDescriptor "(JJ)J" = some ⟨[.long, .long], some .long⟩ := by decide +kernel
theorem ef0 (m : MethodId) (x0 : Int64) (x1 : Int64) (x2 : Int32) : entryFrame m #[(.long x0), (.long x1), (.int x2)] maxLocals = mkF m 0 #[.val (.long x0), .second, .val (.long x1), .second, .val (.int x2), .unset, .unset, .unset, .unset, .unset, .unset, .unset, .unset, .unset, .unset, .unset] [] := by first | (simp [entryFrame, mkF, argsToLocals, Value.category, maxLocals]; done) | rfl
def Q0 (Z : State) (q0 : Int64) (q1 : Int64) (p2 : Int32) (h0 : Heap) (n0 : Nat) (v : Option Value) (h : Heap) (L : List Loc) : Prop := v = some (.int 1) ∧ Fr n0 L
set_option maxRecDepth 65536 in
set_option maxHeartbeats 40000000 in
theorem rm0 (l : Launch) (Z : State) (av : Array Value) (hw : ∀ d ∈ tables_1, d.before av Z = true) (ws : List Jvm.Cond) (q0 : Int64) (q1 : Int64) (p2 : Int32) (h0 : Heap) (n0 : Nat) (Z0 : n0 ≤ h0.size) :
    MetFree l x (head1 (Jvm.Cond.code x code maxLocals ret :: ws) room_1) (fun a U => a = #[(.long q0), (.long q1), (.int p2)] ∧ Z.Warmed39 U.vm ∧ U.heap = h0) (fun _ _ _ _ _ => True) (fun _ U o U' => ∃ v L, o = .returned v ∧ Q0 Z q0 q1 p2 h0 n0 v U'.heap L ∧ FrameEnd U o U' L room_1.cells room_1.slots) := by
  refine MetFree.of_bodySF (plainFor_of_name pn_com_example_shapelint_shapelint_ValueNodesPlusPinLaw) hisR ?_
  intro p e s m args below meth c s₁ Bd hml0 hP hK
  obtain ⟨rfl, hZ, hh⟩ := hP
  have hx := Bd.exec
  have hby := Bd.bytes
  have hml : c.maxLocals = 16 := hml0
  have hown : s.vm.findClass "com/example/shapelint/shapelint/ValueNodesPlusPinLaw" = some m.cls := findClass_of_methodNamed Bd.named
  have hnm := (name_of_methodNamed Bd.named Bd.method).1
  have X0 : Stand p l e room_1 s m #[(.long q0), (.long q1), (.int p2)] below meth c s₁ [] 0 0 := Stand.of_body Bd
  have e0 : s₁.heap = h0 := by rw [← hh, Bd.state]; rfl
  have N0 := Fr.nil n0
  have K0 : Keep h0 h0 [] := Keep.refl h0 []
  have pre0 : ∀ t, Steps p.tables e below (s₁.setTop (mkF m 0 #[.val (.long q0), .second, .val (.long q1), .second, .val (.int p2), .unset, .unset, .unset, .unset, .unset, .unset, .unset, .unset, .unset, .unset, .unset] [])) t → Steps p.tables e below (s₁.setTop (entryFrame m #[(.long q0), (.long q1), (.int p2)] maxLocals)) t := fun t k => castTop (ef0 m q0 q1 p2) k
  have pre1 : ∀ t, Steps p.tables e below (s₁.setTop (mkF m 23 #[.val (.long q0), .second, .val (.long q1), .second, .val (.int p2), .val (.long (q0 &&& (9223372036854775807 : Int64))), .second, .val (.long (q1 &&& (9223372036854775807 : Int64))), .second, .val (.int (p2 &&& (3 : Int32))), .unset, .unset, .unset, .unset, .unset, .unset] [(.int (1 : Int32)), (.int (p2 &&& (3 : Int32)))])) t → Steps p.tables e below (s₁.setTop (entryFrame m #[(.long q0), (.long q1), (.int p2)] maxLocals)) t := fun t kt => pre0 t (by
    show Steps p.tables e below (s₁.setTop (mkF m 0 #[.val (.long q0), .second, .val (.long q1), .second, .val (.int p2), .unset, .unset, .unset, .unset, .unset, .unset, .unset, .unset, .unset, .unset, .unset] [])) _
    refine XS.lloadN X0.here hx rfl (hb hby at_0) rfl ?_
    show Steps p.tables e below (s₁.setTop (mkF m 1 #[.val (.long q0), .second, .val (.long q1), .second, .val (.int p2), .unset, .unset, .unset, .unset, .unset, .unset, .unset, .unset, .unset, .unset, .unset] [(.long q0)])) _
    refine X0.ldc2Long hx hown (mvT hZ (hw _ (List.mem_of_getElem? (i := 0) rfl))) (g := (mkF m 1 #[.val (.long q0), .second, .val (.long q1), .second, .val (.int p2), .unset, .unset, .unset, .unset, .unset, .unset, .unset, .unset, .unset, .unset, .unset] [(.long q0)])) rfl (hb hby at_1) _ ?_
    show Steps p.tables e below (s₁.setTop (mkF m 4 #[.val (.long q0), .second, .val (.long q1), .second, .val (.int p2), .unset, .unset, .unset, .unset, .unset, .unset, .unset, .unset, .unset, .unset, .unset] [(.long (9223372036854775807 : Int64)), (.long q0)])) _
    refine XS.land X0.here hx rfl (hb hby at_4) rfl ?_
    show Steps p.tables e below (s₁.setTop (mkF m 5 #[.val (.long q0), .second, .val (.long q1), .second, .val (.int p2), .unset, .unset, .unset, .unset, .unset, .unset, .unset, .unset, .unset, .unset, .unset] [(.long (q0 &&& (9223372036854775807 : Int64)))])) _
    refine XS.lstore X0.here hx rfl (hb hby at_5) rfl (l' := #[.val (.long q0), .second, .val (.long q1), .second, .val (.int p2), .val (.long (q0 &&& (9223372036854775807 : Int64))), .second, .unset, .unset, .unset, .unset, .unset, .unset, .unset, .unset, .unset]) rfl ?_
    show Steps p.tables e below (s₁.setTop (mkF m 7 #[.val (.long q0), .second, .val (.long q1), .second, .val (.int p2), .val (.long (q0 &&& (9223372036854775807 : Int64))), .second, .unset, .unset, .unset, .unset, .unset, .unset, .unset, .unset, .unset] [])) _
    refine XS.lloadN X0.here hx rfl (hb hby at_7) rfl ?_
    show Steps p.tables e below (s₁.setTop (mkF m 8 #[.val (.long q0), .second, .val (.long q1), .second, .val (.int p2), .val (.long (q0 &&& (9223372036854775807 : Int64))), .second, .unset, .unset, .unset, .unset, .unset, .unset, .unset, .unset, .unset] [(.long q1)])) _
    refine X0.ldc2Long hx hown (mvT hZ (hw _ (List.mem_of_getElem? (i := 0) rfl))) (g := (mkF m 8 #[.val (.long q0), .second, .val (.long q1), .second, .val (.int p2), .val (.long (q0 &&& (9223372036854775807 : Int64))), .second, .unset, .unset, .unset, .unset, .unset, .unset, .unset, .unset, .unset] [(.long q1)])) rfl (hb hby at_8) _ ?_
    show Steps p.tables e below (s₁.setTop (mkF m 11 #[.val (.long q0), .second, .val (.long q1), .second, .val (.int p2), .val (.long (q0 &&& (9223372036854775807 : Int64))), .second, .unset, .unset, .unset, .unset, .unset, .unset, .unset, .unset, .unset] [(.long (9223372036854775807 : Int64)), (.long q1)])) _
    refine XS.land X0.here hx rfl (hb hby at_11) rfl ?_
    show Steps p.tables e below (s₁.setTop (mkF m 12 #[.val (.long q0), .second, .val (.long q1), .second, .val (.int p2), .val (.long (q0 &&& (9223372036854775807 : Int64))), .second, .unset, .unset, .unset, .unset, .unset, .unset, .unset, .unset, .unset] [(.long (q1 &&& (9223372036854775807 : Int64)))])) _
    refine XS.lstore X0.here hx rfl (hb hby at_12) rfl (l' := #[.val (.long q0), .second, .val (.long q1), .second, .val (.int p2), .val (.long (q0 &&& (9223372036854775807 : Int64))), .second, .val (.long (q1 &&& (9223372036854775807 : Int64))), .second, .unset, .unset, .unset, .unset, .unset, .unset, .unset]) rfl ?_
    show Steps p.tables e below (s₁.setTop (mkF m 14 #[.val (.long q0), .second, .val (.long q1), .second, .val (.int p2), .val (.long (q0 &&& (9223372036854775807 : Int64))), .second, .val (.long (q1 &&& (9223372036854775807 : Int64))), .second, .unset, .unset, .unset, .unset, .unset, .unset, .unset] [])) _
    refine XS.iload X0.here hx rfl (hb hby at_14) rfl ?_
    show Steps p.tables e below (s₁.setTop (mkF m 16 #[.val (.long q0), .second, .val (.long q1), .second, .val (.int p2), .val (.long (q0 &&& (9223372036854775807 : Int64))), .second, .val (.long (q1 &&& (9223372036854775807 : Int64))), .second, .unset, .unset, .unset, .unset, .unset, .unset, .unset] [(.int p2)])) _
    refine XS.iconst X0.here hx rfl (hb hby at_16) ?_
    show Steps p.tables e below (s₁.setTop (mkF m 17 #[.val (.long q0), .second, .val (.long q1), .second, .val (.int p2), .val (.long (q0 &&& (9223372036854775807 : Int64))), .second, .val (.long (q1 &&& (9223372036854775807 : Int64))), .second, .unset, .unset, .unset, .unset, .unset, .unset, .unset] [(.int (3 : Int32)), (.int p2)])) _
    refine XS.iand X0.here hx rfl (hb hby at_17) rfl ?_
    show Steps p.tables e below (s₁.setTop (mkF m 18 #[.val (.long q0), .second, .val (.long q1), .second, .val (.int p2), .val (.long (q0 &&& (9223372036854775807 : Int64))), .second, .val (.long (q1 &&& (9223372036854775807 : Int64))), .second, .unset, .unset, .unset, .unset, .unset, .unset, .unset] [(.int (p2 &&& (3 : Int32)))])) _
    refine XS.istore X0.here hx rfl (hb hby at_18) rfl (l' := #[.val (.long q0), .second, .val (.long q1), .second, .val (.int p2), .val (.long (q0 &&& (9223372036854775807 : Int64))), .second, .val (.long (q1 &&& (9223372036854775807 : Int64))), .second, .val (.int (p2 &&& (3 : Int32))), .unset, .unset, .unset, .unset, .unset, .unset]) rfl ?_
    show Steps p.tables e below (s₁.setTop (mkF m 20 #[.val (.long q0), .second, .val (.long q1), .second, .val (.int p2), .val (.long (q0 &&& (9223372036854775807 : Int64))), .second, .val (.long (q1 &&& (9223372036854775807 : Int64))), .second, .val (.int (p2 &&& (3 : Int32))), .unset, .unset, .unset, .unset, .unset, .unset] [])) _
    refine XS.iload X0.here hx rfl (hb hby at_20) rfl ?_
    show Steps p.tables e below (s₁.setTop (mkF m 22 #[.val (.long q0), .second, .val (.long q1), .second, .val (.int p2), .val (.long (q0 &&& (9223372036854775807 : Int64))), .second, .val (.long (q1 &&& (9223372036854775807 : Int64))), .second, .val (.int (p2 &&& (3 : Int32))), .unset, .unset, .unset, .unset, .unset, .unset] [(.int (p2 &&& (3 : Int32)))])) _
    refine XS.iconst X0.here hx rfl (hb hby at_22) ?_
    exact kt)
  by_cases hc23_2 : (p2 &&& (3 : Int32)) = (1 : Int32)
  · have pre3 : ∀ t, Steps p.tables e below (s₁.setTop (mkF m 80 #[.val (.long q0), .second, .val (.long q1), .second, .val (.int p2), .val (.long (9223372036854775807 : Int64)), .second, .val (.long (q1 &&& (9223372036854775807 : Int64))), .second, .val (.int (p2 &&& (3 : Int32))), .unset, .unset, .unset, .unset, .unset, .unset] [])) t → Steps p.tables e below (s₁.setTop (entryFrame m #[(.long q0), (.long q1), (.int p2)] maxLocals)) t := fun t kt => pre1 t (by
      show Steps p.tables e below (s₁.setTop (mkF m 23 #[.val (.long q0), .second, .val (.long q1), .second, .val (.int p2), .val (.long (q0 &&& (9223372036854775807 : Int64))), .second, .val (.long (q1 &&& (9223372036854775807 : Int64))), .second, .val (.int (p2 &&& (3 : Int32))), .unset, .unset, .unset, .unset, .unset, .unset] [(.int (1 : Int32)), (.int (p2 &&& (3 : Int32)))])) _
      refine XS.icmpNo X0.here hx rfl (hb hby at_23) rfl (teq hc23_2).2 ?_
      show Steps p.tables e below (s₁.setTop (mkF m 26 #[.val (.long q0), .second, .val (.long q1), .second, .val (.int p2), .val (.long (q0 &&& (9223372036854775807 : Int64))), .second, .val (.long (q1 &&& (9223372036854775807 : Int64))), .second, .val (.int (p2 &&& (3 : Int32))), .unset, .unset, .unset, .unset, .unset, .unset] [])) _
      refine X0.ldc2Long hx hown (mvT hZ (hw _ (List.mem_of_getElem? (i := 0) rfl))) (g := (mkF m 26 #[.val (.long q0), .second, .val (.long q1), .second, .val (.int p2), .val (.long (q0 &&& (9223372036854775807 : Int64))), .second, .val (.long (q1 &&& (9223372036854775807 : Int64))), .second, .val (.int (p2 &&& (3 : Int32))), .unset, .unset, .unset, .unset, .unset, .unset] [])) rfl (hb hby at_26) _ ?_
      show Steps p.tables e below (s₁.setTop (mkF m 29 #[.val (.long q0), .second, .val (.long q1), .second, .val (.int p2), .val (.long (q0 &&& (9223372036854775807 : Int64))), .second, .val (.long (q1 &&& (9223372036854775807 : Int64))), .second, .val (.int (p2 &&& (3 : Int32))), .unset, .unset, .unset, .unset, .unset, .unset] [(.long (9223372036854775807 : Int64))])) _
      refine XS.lstore X0.here hx rfl (hb hby at_29) rfl (l' := #[.val (.long q0), .second, .val (.long q1), .second, .val (.int p2), .val (.long (9223372036854775807 : Int64)), .second, .val (.long (q1 &&& (9223372036854775807 : Int64))), .second, .val (.int (p2 &&& (3 : Int32))), .unset, .unset, .unset, .unset, .unset, .unset]) rfl ?_
      show Steps p.tables e below (s₁.setTop (mkF m 31 #[.val (.long q0), .second, .val (.long q1), .second, .val (.int p2), .val (.long (9223372036854775807 : Int64)), .second, .val (.long (q1 &&& (9223372036854775807 : Int64))), .second, .val (.int (p2 &&& (3 : Int32))), .unset, .unset, .unset, .unset, .unset, .unset] [])) _
      refine XS.goto X0.here hx rfl (pc0 := 31) (pc' := 80) rfl (hb hby at_31) (by decide) (by decide) ?_
      exact kt)
    obtain ⟨va, vb, hm4, pre4⟩ : ∃ (va : Int64) (vb : Int64), (0 ≤ va.toInt ∧ 0 ≤ vb.toInt) ∧ ∀ t, Steps p.tables e below (s₁.setTop (mkF m 80 #[.val (.long q0), .second, .val (.long q1), .second, .val (.int p2), .val (.long va), .second, .val (.long vb), .second, .val (.int (p2 &&& (3 : Int32))), .unset, .unset, .unset, .unset, .unset, .unset] [])) t → Steps p.tables e below (s₁.setTop (entryFrame m #[(.long q0), (.long q1), (.int p2)] maxLocals)) t := ⟨(9223372036854775807 : Int64), (q1 &&& (9223372036854775807 : Int64)), ⟨(by decide), (by have hk := c_maskL q1 (9223372036854775807 : Int64) 63 (by decide) (by decide); omega)⟩, pre3⟩
    have pre5 : ∀ t, Steps p.tables e below (s₁.setTop (mkF m 84 #[.val (.long q0), .second, .val (.long q1), .second, .val (.int p2), .val (.long va), .second, .val (.long vb), .second, .val (.int (p2 &&& (3 : Int32))), .unset, .unset, .unset, .unset, .unset, .unset] [(.long vb), (.long va)])) t → Steps p.tables e below (s₁.setTop (entryFrame m #[(.long q0), (.long q1), (.int p2)] maxLocals)) t := fun t kt => pre4 t (by
      show Steps p.tables e below (s₁.setTop (mkF m 80 #[.val (.long q0), .second, .val (.long q1), .second, .val (.int p2), .val (.long va), .second, .val (.long vb), .second, .val (.int (p2 &&& (3 : Int32))), .unset, .unset, .unset, .unset, .unset, .unset] [])) _
      refine XS.lload X0.here hx rfl (hb hby at_80) rfl ?_
      show Steps p.tables e below (s₁.setTop (mkF m 82 #[.val (.long q0), .second, .val (.long q1), .second, .val (.int p2), .val (.long va), .second, .val (.long vb), .second, .val (.int (p2 &&& (3 : Int32))), .unset, .unset, .unset, .unset, .unset, .unset] [(.long va)])) _
      refine XS.lload X0.here hx rfl (hb hby at_82) rfl ?_
      exact kt)
    obtain ⟨_, _, ⟨T6, L6, k6, n6⟩, -, X6, ⟨Lc6, hQ6, l6, y6, z6⟩, st6⟩ := Jvm.LawKit.callS X0 hx (y := (⟨"com/example/shapelint/shapelint/ValueNodes", "plus", "(JJ)J"⟩ : MethodName)) hown (mvT hZ (hw _ (List.mem_of_getElem? (i := 1) rfl))) (mvT hZ (hw _ (List.mem_of_getElem? (i := 2) rfl))) (mvT hZ (hw _ (List.mem_of_getElem? (i := 3) rfl))) (mvT hZ (hw _ (List.mem_of_getElem? (i := 4) rfl))) (by decide) (backOf (W := 0) (rm1 l Z av hw [] va vb  h0 n0 Z0 ) hZ (hw _ (List.mem_of_getElem? (i := 4) rfl)) (hw _ (List.mem_of_getElem? (i := 3) rfl)) (by decide) (by decide)) (g := (mkF m 84 #[.val (.long q0), .second, .val (.long q1), .second, .val (.int p2), .val (.long va), .second, .val (.long vb), .second, .val (.int (p2 &&& (3 : Int32))), .unset, .unset, .unset, .unset, .unset, .unset] [(.long vb), (.long va)])) rfl (by rw [hml]; rfl) (argsL := [(.long va), (.long vb)]) (rest := []) (lenOf pd__JJ_J rfl) rfl (by show 2 * 0 + _ ≤ _; exact Nat.le_of_eq rfl) (hb hby at_84) (fun _ _ => ⟨rfl, e0, (by decide : 0 + 0 ≤ _), (by decide : 0 + 0 ≤ _)⟩)
    dsimp only [Pt.U, Pt.locs, Pt.cells, Pt.slots] at X6 l6 y6 z6 st6 hQ6
    subst l6 y6 z6
    obtain ⟨rfl, N6q, e6⟩ := hQ6
    have N6 := Fr.app N0 N6q
    have pre7 : ∀ t, Steps p.tables e below (T6.setTop (mkF m 87 #[.val (.long q0), .second, .val (.long q1), .second, .val (.int p2), .val (.long va), .second, .val (.long vb), .second, .val (.int (p2 &&& (3 : Int32))), .unset, .unset, .unset, .unset, .unset, .unset] [(.long (f1 va vb))])) t → Steps p.tables e below (s₁.setTop (entryFrame m #[(.long q0), (.long q1), (.int p2)] maxLocals)) t := fun t kt => pre5 t (st6 _ kt)
    have pre8 : ∀ t, Steps p.tables e below (T6.setTop (mkF m 95 #[.val (.long q0), .second, .val (.long q1), .second, .val (.int p2), .val (.long va), .second, .val (.long vb), .second, .val (.int (p2 &&& (3 : Int32))), .val (.long (f1 va vb)), .second, .unset, .unset, .unset, .unset] [(.int (lcmpW va (9223372036854775807 : Int64)))])) t → Steps p.tables e below (s₁.setTop (entryFrame m #[(.long q0), (.long q1), (.int p2)] maxLocals)) t := fun t kt => pre7 t (by
      show Steps p.tables e below (T6.setTop (mkF m 87 #[.val (.long q0), .second, .val (.long q1), .second, .val (.int p2), .val (.long va), .second, .val (.long vb), .second, .val (.int (p2 &&& (3 : Int32))), .unset, .unset, .unset, .unset, .unset, .unset] [(.long (f1 va vb))])) _
      refine XS.lstore X6.here hx rfl (hb hby at_87) rfl (l' := #[.val (.long q0), .second, .val (.long q1), .second, .val (.int p2), .val (.long va), .second, .val (.long vb), .second, .val (.int (p2 &&& (3 : Int32))), .val (.long (f1 va vb)), .second, .unset, .unset, .unset, .unset]) rfl ?_
      show Steps p.tables e below (T6.setTop (mkF m 89 #[.val (.long q0), .second, .val (.long q1), .second, .val (.int p2), .val (.long va), .second, .val (.long vb), .second, .val (.int (p2 &&& (3 : Int32))), .val (.long (f1 va vb)), .second, .unset, .unset, .unset, .unset] [])) _
      refine XS.lload X6.here hx rfl (hb hby at_89) rfl ?_
      show Steps p.tables e below (T6.setTop (mkF m 91 #[.val (.long q0), .second, .val (.long q1), .second, .val (.int p2), .val (.long va), .second, .val (.long vb), .second, .val (.int (p2 &&& (3 : Int32))), .val (.long (f1 va vb)), .second, .unset, .unset, .unset, .unset] [(.long va)])) _
      refine X6.ldc2Long hx hown (mvT hZ (hw _ (List.mem_of_getElem? (i := 0) rfl))) (g := (mkF m 91 #[.val (.long q0), .second, .val (.long q1), .second, .val (.int p2), .val (.long va), .second, .val (.long vb), .second, .val (.int (p2 &&& (3 : Int32))), .val (.long (f1 va vb)), .second, .unset, .unset, .unset, .unset] [(.long va)])) rfl (hb hby at_91) _ ?_
      show Steps p.tables e below (T6.setTop (mkF m 94 #[.val (.long q0), .second, .val (.long q1), .second, .val (.int p2), .val (.long va), .second, .val (.long vb), .second, .val (.int (p2 &&& (3 : Int32))), .val (.long (f1 va vb)), .second, .unset, .unset, .unset, .unset] [(.long (9223372036854775807 : Int64)), (.long va)])) _
      refine XS.lcmp X6.here hx rfl (hb hby at_94) rfl ?_
      exact kt)
    by_cases hc95_9 : va = (9223372036854775807 : Int64)
    · have pre10 : ∀ t, Steps p.tables e below (T6.setTop (mkF m 163 #[.val (.long q0), .second, .val (.long q1), .second, .val (.int p2), .val (.long va), .second, .val (.long vb), .second, .val (.int (p2 &&& (3 : Int32))), .val (.long (f1 va vb)), .second, .val (.long (9223372036854775807 : Int64)), .second, .unset, .unset] [(.int (1 : Int32))])) t → Steps p.tables e below (s₁.setTop (entryFrame m #[(.long q0), (.long q1), (.int p2)] maxLocals)) t := fun t kt => pre8 t (by
        show Steps p.tables e below (T6.setTop (mkF m 95 #[.val (.long q0), .second, .val (.long q1), .second, .val (.int p2), .val (.long va), .second, .val (.long vb), .second, .val (.int (p2 &&& (3 : Int32))), .val (.long (f1 va vb)), .second, .unset, .unset, .unset, .unset] [(.int (lcmpW va (9223372036854775807 : Int64)))])) _
        refine XS.ifYes X6.here hx rfl (pc0 := 95) (pc' := 107) rfl (hb hby at_95) rfl (Jvm.Free.XT.ll_eq_t hc95_9) (by decide) (by decide) ?_
        show Steps p.tables e below (T6.setTop (mkF m 107 #[.val (.long q0), .second, .val (.long q1), .second, .val (.int p2), .val (.long va), .second, .val (.long vb), .second, .val (.int (p2 &&& (3 : Int32))), .val (.long (f1 va vb)), .second, .unset, .unset, .unset, .unset] [])) _
        refine X6.ldc2Long hx hown (mvT hZ (hw _ (List.mem_of_getElem? (i := 0) rfl))) (g := (mkF m 107 #[.val (.long q0), .second, .val (.long q1), .second, .val (.int p2), .val (.long va), .second, .val (.long vb), .second, .val (.int (p2 &&& (3 : Int32))), .val (.long (f1 va vb)), .second, .unset, .unset, .unset, .unset] [])) rfl (hb hby at_107) _ ?_
        show Steps p.tables e below (T6.setTop (mkF m 110 #[.val (.long q0), .second, .val (.long q1), .second, .val (.int p2), .val (.long va), .second, .val (.long vb), .second, .val (.int (p2 &&& (3 : Int32))), .val (.long (f1 va vb)), .second, .unset, .unset, .unset, .unset] [(.long (9223372036854775807 : Int64))])) _
        refine XS.lstore X6.here hx rfl (hb hby at_110) rfl (l' := #[.val (.long q0), .second, .val (.long q1), .second, .val (.int p2), .val (.long va), .second, .val (.long vb), .second, .val (.int (p2 &&& (3 : Int32))), .val (.long (f1 va vb)), .second, .val (.long (9223372036854775807 : Int64)), .second, .unset, .unset]) rfl ?_
        show Steps p.tables e below (T6.setTop (mkF m 112 #[.val (.long q0), .second, .val (.long q1), .second, .val (.int p2), .val (.long va), .second, .val (.long vb), .second, .val (.int (p2 &&& (3 : Int32))), .val (.long (f1 va vb)), .second, .val (.long (9223372036854775807 : Int64)), .second, .unset, .unset] [])) _
        refine XS.goto X6.here hx rfl (pc0 := 112) (pc' := 150) rfl (hb hby at_112) (by decide) (by decide) ?_
        show Steps p.tables e below (T6.setTop (mkF m 150 #[.val (.long q0), .second, .val (.long q1), .second, .val (.int p2), .val (.long va), .second, .val (.long vb), .second, .val (.int (p2 &&& (3 : Int32))), .val (.long (f1 va vb)), .second, .val (.long (9223372036854775807 : Int64)), .second, .unset, .unset] [])) _
        refine XS.lload X6.here hx rfl (hb hby at_150) rfl ?_
        show Steps p.tables e below (T6.setTop (mkF m 152 #[.val (.long q0), .second, .val (.long q1), .second, .val (.int p2), .val (.long va), .second, .val (.long vb), .second, .val (.int (p2 &&& (3 : Int32))), .val (.long (f1 va vb)), .second, .val (.long (9223372036854775807 : Int64)), .second, .unset, .unset] [(.long (f1 va vb))])) _
        refine XS.lload X6.here hx rfl (hb hby at_152) rfl ?_
        show Steps p.tables e below (T6.setTop (mkF m 154 #[.val (.long q0), .second, .val (.long q1), .second, .val (.int p2), .val (.long va), .second, .val (.long vb), .second, .val (.int (p2 &&& (3 : Int32))), .val (.long (f1 va vb)), .second, .val (.long (9223372036854775807 : Int64)), .second, .unset, .unset] [(.long (9223372036854775807 : Int64)), (.long (f1 va vb))])) _
        refine XS.lcmp X6.here hx rfl (hb hby at_154) rfl ?_
        show Steps p.tables e below (T6.setTop (mkF m 155 #[.val (.long q0), .second, .val (.long q1), .second, .val (.int p2), .val (.long va), .second, .val (.long vb), .second, .val (.int (p2 &&& (3 : Int32))), .val (.long (f1 va vb)), .second, .val (.long (9223372036854775807 : Int64)), .second, .unset, .unset] [(.int (lcmpW (f1 va vb) (9223372036854775807 : Int64)))])) _
        refine XS.ifNo X6.here hx rfl (hb hby at_155) rfl (Jvm.Free.XT.ll_ne_f (by rw [own_law va vb hm4.1 hm4.2, if_pos hc95_9] : (f1 va vb) = (9223372036854775807 : Int64))) ?_
        show Steps p.tables e below (T6.setTop (mkF m 158 #[.val (.long q0), .second, .val (.long q1), .second, .val (.int p2), .val (.long va), .second, .val (.long vb), .second, .val (.int (p2 &&& (3 : Int32))), .val (.long (f1 va vb)), .second, .val (.long (9223372036854775807 : Int64)), .second, .unset, .unset] [])) _
        refine XS.iconst X6.here hx rfl (hb hby at_158) ?_
        show Steps p.tables e below (T6.setTop (mkF m 159 #[.val (.long q0), .second, .val (.long q1), .second, .val (.int p2), .val (.long va), .second, .val (.long vb), .second, .val (.int (p2 &&& (3 : Int32))), .val (.long (f1 va vb)), .second, .val (.long (9223372036854775807 : Int64)), .second, .unset, .unset] [(.int (1 : Int32))])) _
        refine XS.goto X6.here hx rfl (pc0 := 159) (pc' := 163) rfl (hb hby at_159) (by decide) (by decide) ?_
        exact kt)
      obtain ⟨fs, hr, hrun, hended, hW, hsame⟩ := X6.leave (v := some (.int (1 : Int32))) (fun h => by rw [Bd.returns] at h; cases h)
      refine ⟨_, _, pre10 _ ?_, hrun, hended, _, _, rfl, ?_, ⟨_, rfl⟩, hW, hsame.mono (by decide) (by decide)⟩
      · show Steps p.tables e below (T6.setTop (mkF m 163 #[.val (.long q0), .second, .val (.long q1), .second, .val (.int p2), .val (.long va), .second, .val (.long vb), .second, .val (.int (p2 &&& (3 : Int32))), .val (.long (f1 va vb)), .second, .val (.long (9223372036854775807 : Int64)), .second, .unset, .unset] [(.int (1 : Int32))])) _
        exact retN X6 hx (t := .boolean) Bd.returns (by simp) (hb hby at_163) hr
      · show Q0 Z q0 q1 p2 h0 n0 _ T6.heap _
        rw [e6]
        exact ⟨rfl, N6⟩
    · have pre11 : ∀ t, Steps p.tables e below (T6.setTop (mkF m 104 #[.val (.long q0), .second, .val (.long q1), .second, .val (.int p2), .val (.long va), .second, .val (.long vb), .second, .val (.int (p2 &&& (3 : Int32))), .val (.long (f1 va vb)), .second, .unset, .unset, .unset, .unset] [(.int (lcmpW vb (9223372036854775807 : Int64)))])) t → Steps p.tables e below (s₁.setTop (entryFrame m #[(.long q0), (.long q1), (.int p2)] maxLocals)) t := fun t kt => pre8 t (by
        show Steps p.tables e below (T6.setTop (mkF m 95 #[.val (.long q0), .second, .val (.long q1), .second, .val (.int p2), .val (.long va), .second, .val (.long vb), .second, .val (.int (p2 &&& (3 : Int32))), .val (.long (f1 va vb)), .second, .unset, .unset, .unset, .unset] [(.int (lcmpW va (9223372036854775807 : Int64)))])) _
        refine XS.ifNo X6.here hx rfl (hb hby at_95) rfl (Jvm.Free.XT.ll_eq_f hc95_9) ?_
        show Steps p.tables e below (T6.setTop (mkF m 98 #[.val (.long q0), .second, .val (.long q1), .second, .val (.int p2), .val (.long va), .second, .val (.long vb), .second, .val (.int (p2 &&& (3 : Int32))), .val (.long (f1 va vb)), .second, .unset, .unset, .unset, .unset] [])) _
        refine XS.lload X6.here hx rfl (hb hby at_98) rfl ?_
        show Steps p.tables e below (T6.setTop (mkF m 100 #[.val (.long q0), .second, .val (.long q1), .second, .val (.int p2), .val (.long va), .second, .val (.long vb), .second, .val (.int (p2 &&& (3 : Int32))), .val (.long (f1 va vb)), .second, .unset, .unset, .unset, .unset] [(.long vb)])) _
        refine X6.ldc2Long hx hown (mvT hZ (hw _ (List.mem_of_getElem? (i := 0) rfl))) (g := (mkF m 100 #[.val (.long q0), .second, .val (.long q1), .second, .val (.int p2), .val (.long va), .second, .val (.long vb), .second, .val (.int (p2 &&& (3 : Int32))), .val (.long (f1 va vb)), .second, .unset, .unset, .unset, .unset] [(.long vb)])) rfl (hb hby at_100) _ ?_
        show Steps p.tables e below (T6.setTop (mkF m 103 #[.val (.long q0), .second, .val (.long q1), .second, .val (.int p2), .val (.long va), .second, .val (.long vb), .second, .val (.int (p2 &&& (3 : Int32))), .val (.long (f1 va vb)), .second, .unset, .unset, .unset, .unset] [(.long (9223372036854775807 : Int64)), (.long vb)])) _
        refine XS.lcmp X6.here hx rfl (hb hby at_103) rfl ?_
        exact kt)
      by_cases hc104_12 : vb = (9223372036854775807 : Int64)
      · have pre13 : ∀ t, Steps p.tables e below (T6.setTop (mkF m 163 #[.val (.long q0), .second, .val (.long q1), .second, .val (.int p2), .val (.long va), .second, .val (.long vb), .second, .val (.int (p2 &&& (3 : Int32))), .val (.long (f1 va vb)), .second, .val (.long (9223372036854775807 : Int64)), .second, .unset, .unset] [(.int (1 : Int32))])) t → Steps p.tables e below (s₁.setTop (entryFrame m #[(.long q0), (.long q1), (.int p2)] maxLocals)) t := fun t kt => pre11 t (by
          show Steps p.tables e below (T6.setTop (mkF m 104 #[.val (.long q0), .second, .val (.long q1), .second, .val (.int p2), .val (.long va), .second, .val (.long vb), .second, .val (.int (p2 &&& (3 : Int32))), .val (.long (f1 va vb)), .second, .unset, .unset, .unset, .unset] [(.int (lcmpW vb (9223372036854775807 : Int64)))])) _
          refine XS.ifNo X6.here hx rfl (hb hby at_104) rfl (Jvm.Free.XT.ll_ne_f hc104_12) ?_
          show Steps p.tables e below (T6.setTop (mkF m 107 #[.val (.long q0), .second, .val (.long q1), .second, .val (.int p2), .val (.long va), .second, .val (.long vb), .second, .val (.int (p2 &&& (3 : Int32))), .val (.long (f1 va vb)), .second, .unset, .unset, .unset, .unset] [])) _
          refine X6.ldc2Long hx hown (mvT hZ (hw _ (List.mem_of_getElem? (i := 0) rfl))) (g := (mkF m 107 #[.val (.long q0), .second, .val (.long q1), .second, .val (.int p2), .val (.long va), .second, .val (.long vb), .second, .val (.int (p2 &&& (3 : Int32))), .val (.long (f1 va vb)), .second, .unset, .unset, .unset, .unset] [])) rfl (hb hby at_107) _ ?_
          show Steps p.tables e below (T6.setTop (mkF m 110 #[.val (.long q0), .second, .val (.long q1), .second, .val (.int p2), .val (.long va), .second, .val (.long vb), .second, .val (.int (p2 &&& (3 : Int32))), .val (.long (f1 va vb)), .second, .unset, .unset, .unset, .unset] [(.long (9223372036854775807 : Int64))])) _
          refine XS.lstore X6.here hx rfl (hb hby at_110) rfl (l' := #[.val (.long q0), .second, .val (.long q1), .second, .val (.int p2), .val (.long va), .second, .val (.long vb), .second, .val (.int (p2 &&& (3 : Int32))), .val (.long (f1 va vb)), .second, .val (.long (9223372036854775807 : Int64)), .second, .unset, .unset]) rfl ?_
          show Steps p.tables e below (T6.setTop (mkF m 112 #[.val (.long q0), .second, .val (.long q1), .second, .val (.int p2), .val (.long va), .second, .val (.long vb), .second, .val (.int (p2 &&& (3 : Int32))), .val (.long (f1 va vb)), .second, .val (.long (9223372036854775807 : Int64)), .second, .unset, .unset] [])) _
          refine XS.goto X6.here hx rfl (pc0 := 112) (pc' := 150) rfl (hb hby at_112) (by decide) (by decide) ?_
          show Steps p.tables e below (T6.setTop (mkF m 150 #[.val (.long q0), .second, .val (.long q1), .second, .val (.int p2), .val (.long va), .second, .val (.long vb), .second, .val (.int (p2 &&& (3 : Int32))), .val (.long (f1 va vb)), .second, .val (.long (9223372036854775807 : Int64)), .second, .unset, .unset] [])) _
          refine XS.lload X6.here hx rfl (hb hby at_150) rfl ?_
          show Steps p.tables e below (T6.setTop (mkF m 152 #[.val (.long q0), .second, .val (.long q1), .second, .val (.int p2), .val (.long va), .second, .val (.long vb), .second, .val (.int (p2 &&& (3 : Int32))), .val (.long (f1 va vb)), .second, .val (.long (9223372036854775807 : Int64)), .second, .unset, .unset] [(.long (f1 va vb))])) _
          refine XS.lload X6.here hx rfl (hb hby at_152) rfl ?_
          show Steps p.tables e below (T6.setTop (mkF m 154 #[.val (.long q0), .second, .val (.long q1), .second, .val (.int p2), .val (.long va), .second, .val (.long vb), .second, .val (.int (p2 &&& (3 : Int32))), .val (.long (f1 va vb)), .second, .val (.long (9223372036854775807 : Int64)), .second, .unset, .unset] [(.long (9223372036854775807 : Int64)), (.long (f1 va vb))])) _
          refine XS.lcmp X6.here hx rfl (hb hby at_154) rfl ?_
          show Steps p.tables e below (T6.setTop (mkF m 155 #[.val (.long q0), .second, .val (.long q1), .second, .val (.int p2), .val (.long va), .second, .val (.long vb), .second, .val (.int (p2 &&& (3 : Int32))), .val (.long (f1 va vb)), .second, .val (.long (9223372036854775807 : Int64)), .second, .unset, .unset] [(.int (lcmpW (f1 va vb) (9223372036854775807 : Int64)))])) _
          refine XS.ifNo X6.here hx rfl (hb hby at_155) rfl (Jvm.Free.XT.ll_ne_f (by rw [own_law va vb hm4.1 hm4.2, if_neg hc95_9, if_pos hc104_12] : (f1 va vb) = (9223372036854775807 : Int64))) ?_
          show Steps p.tables e below (T6.setTop (mkF m 158 #[.val (.long q0), .second, .val (.long q1), .second, .val (.int p2), .val (.long va), .second, .val (.long vb), .second, .val (.int (p2 &&& (3 : Int32))), .val (.long (f1 va vb)), .second, .val (.long (9223372036854775807 : Int64)), .second, .unset, .unset] [])) _
          refine XS.iconst X6.here hx rfl (hb hby at_158) ?_
          show Steps p.tables e below (T6.setTop (mkF m 159 #[.val (.long q0), .second, .val (.long q1), .second, .val (.int p2), .val (.long va), .second, .val (.long vb), .second, .val (.int (p2 &&& (3 : Int32))), .val (.long (f1 va vb)), .second, .val (.long (9223372036854775807 : Int64)), .second, .unset, .unset] [(.int (1 : Int32))])) _
          refine XS.goto X6.here hx rfl (pc0 := 159) (pc' := 163) rfl (hb hby at_159) (by decide) (by decide) ?_
          exact kt)
        obtain ⟨fs, hr, hrun, hended, hW, hsame⟩ := X6.leave (v := some (.int (1 : Int32))) (fun h => by rw [Bd.returns] at h; cases h)
        refine ⟨_, _, pre13 _ ?_, hrun, hended, _, _, rfl, ?_, ⟨_, rfl⟩, hW, hsame.mono (by decide) (by decide)⟩
        · show Steps p.tables e below (T6.setTop (mkF m 163 #[.val (.long q0), .second, .val (.long q1), .second, .val (.int p2), .val (.long va), .second, .val (.long vb), .second, .val (.int (p2 &&& (3 : Int32))), .val (.long (f1 va vb)), .second, .val (.long (9223372036854775807 : Int64)), .second, .unset, .unset] [(.int (1 : Int32))])) _
          exact retN X6 hx (t := .boolean) Bd.returns (by simp) (hb hby at_163) hr
        · show Q0 Z q0 q1 p2 h0 n0 _ T6.heap _
          rw [e6]
          exact ⟨rfl, N6⟩
      · have pre14 : ∀ t, Steps p.tables e below (T6.setTop (mkF m 126 #[.val (.long q0), .second, .val (.long q1), .second, .val (.int p2), .val (.long va), .second, .val (.long vb), .second, .val (.int (p2 &&& (3 : Int32))), .val (.long (f1 va vb)), .second, .unset, .unset, .val (.long (va + vb)), .second] [(.int (lcmpW (va + vb) (0 : Int64)))])) t → Steps p.tables e below (s₁.setTop (entryFrame m #[(.long q0), (.long q1), (.int p2)] maxLocals)) t := fun t kt => pre11 t (by
          show Steps p.tables e below (T6.setTop (mkF m 104 #[.val (.long q0), .second, .val (.long q1), .second, .val (.int p2), .val (.long va), .second, .val (.long vb), .second, .val (.int (p2 &&& (3 : Int32))), .val (.long (f1 va vb)), .second, .unset, .unset, .unset, .unset] [(.int (lcmpW vb (9223372036854775807 : Int64)))])) _
          refine XS.ifYes X6.here hx rfl (pc0 := 104) (pc' := 115) rfl (hb hby at_104) rfl (Jvm.Free.XT.ll_ne_t hc104_12) (by decide) (by decide) ?_
          show Steps p.tables e below (T6.setTop (mkF m 115 #[.val (.long q0), .second, .val (.long q1), .second, .val (.int p2), .val (.long va), .second, .val (.long vb), .second, .val (.int (p2 &&& (3 : Int32))), .val (.long (f1 va vb)), .second, .unset, .unset, .unset, .unset] [])) _
          refine XS.lload X6.here hx rfl (hb hby at_115) rfl ?_
          show Steps p.tables e below (T6.setTop (mkF m 117 #[.val (.long q0), .second, .val (.long q1), .second, .val (.int p2), .val (.long va), .second, .val (.long vb), .second, .val (.int (p2 &&& (3 : Int32))), .val (.long (f1 va vb)), .second, .unset, .unset, .unset, .unset] [(.long va)])) _
          refine XS.lload X6.here hx rfl (hb hby at_117) rfl ?_
          show Steps p.tables e below (T6.setTop (mkF m 119 #[.val (.long q0), .second, .val (.long q1), .second, .val (.int p2), .val (.long va), .second, .val (.long vb), .second, .val (.int (p2 &&& (3 : Int32))), .val (.long (f1 va vb)), .second, .unset, .unset, .unset, .unset] [(.long vb), (.long va)])) _
          refine XS.ladd X6.here hx rfl (hb hby at_119) rfl ?_
          show Steps p.tables e below (T6.setTop (mkF m 120 #[.val (.long q0), .second, .val (.long q1), .second, .val (.int p2), .val (.long va), .second, .val (.long vb), .second, .val (.int (p2 &&& (3 : Int32))), .val (.long (f1 va vb)), .second, .unset, .unset, .unset, .unset] [(.long (va + vb))])) _
          refine XS.lstore X6.here hx rfl (hb hby at_120) rfl (l' := #[.val (.long q0), .second, .val (.long q1), .second, .val (.int p2), .val (.long va), .second, .val (.long vb), .second, .val (.int (p2 &&& (3 : Int32))), .val (.long (f1 va vb)), .second, .unset, .unset, .val (.long (va + vb)), .second]) rfl ?_
          show Steps p.tables e below (T6.setTop (mkF m 122 #[.val (.long q0), .second, .val (.long q1), .second, .val (.int p2), .val (.long va), .second, .val (.long vb), .second, .val (.int (p2 &&& (3 : Int32))), .val (.long (f1 va vb)), .second, .unset, .unset, .val (.long (va + vb)), .second] [])) _
          refine XS.lload X6.here hx rfl (hb hby at_122) rfl ?_
          show Steps p.tables e below (T6.setTop (mkF m 124 #[.val (.long q0), .second, .val (.long q1), .second, .val (.int p2), .val (.long va), .second, .val (.long vb), .second, .val (.int (p2 &&& (3 : Int32))), .val (.long (f1 va vb)), .second, .unset, .unset, .val (.long (va + vb)), .second] [(.long (va + vb))])) _
          refine XS.lconst X6.here hx rfl (hb hby at_124) ?_
          show Steps p.tables e below (T6.setTop (mkF m 125 #[.val (.long q0), .second, .val (.long q1), .second, .val (.int p2), .val (.long va), .second, .val (.long vb), .second, .val (.int (p2 &&& (3 : Int32))), .val (.long (f1 va vb)), .second, .unset, .unset, .val (.long (va + vb)), .second] [(.long (0 : Int64)), (.long (va + vb))])) _
          refine XS.lcmp X6.here hx rfl (hb hby at_125) rfl ?_
          exact kt)
        by_cases hc126_15 : (va + vb) < (0 : Int64)
        · have pre16 : ∀ t, Steps p.tables e below (T6.setTop (mkF m 163 #[.val (.long q0), .second, .val (.long q1), .second, .val (.int p2), .val (.long va), .second, .val (.long vb), .second, .val (.int (p2 &&& (3 : Int32))), .val (.long (f1 va vb)), .second, .val (.long (9223372036854775806 : Int64)), .second, .val (.long (va + vb)), .second] [(.int (1 : Int32))])) t → Steps p.tables e below (s₁.setTop (entryFrame m #[(.long q0), (.long q1), (.int p2)] maxLocals)) t := fun t kt => pre14 t (by
            show Steps p.tables e below (T6.setTop (mkF m 126 #[.val (.long q0), .second, .val (.long q1), .second, .val (.int p2), .val (.long va), .second, .val (.long vb), .second, .val (.int (p2 &&& (3 : Int32))), .val (.long (f1 va vb)), .second, .unset, .unset, .val (.long (va + vb)), .second] [(.int (lcmpW (va + vb) (0 : Int64)))])) _
            refine XS.ifYes X6.here hx rfl (pc0 := 126) (pc' := 138) rfl (hb hby at_126) rfl (Jvm.Free.XT.ll_lt_t hc126_15) (by decide) (by decide) ?_
            show Steps p.tables e below (T6.setTop (mkF m 138 #[.val (.long q0), .second, .val (.long q1), .second, .val (.int p2), .val (.long va), .second, .val (.long vb), .second, .val (.int (p2 &&& (3 : Int32))), .val (.long (f1 va vb)), .second, .unset, .unset, .val (.long (va + vb)), .second] [])) _
            refine X6.ldc2Long hx hown (mvT hZ (hw _ (List.mem_of_getElem? (i := 7) rfl))) (g := (mkF m 138 #[.val (.long q0), .second, .val (.long q1), .second, .val (.int p2), .val (.long va), .second, .val (.long vb), .second, .val (.int (p2 &&& (3 : Int32))), .val (.long (f1 va vb)), .second, .unset, .unset, .val (.long (va + vb)), .second] [])) rfl (hb hby at_138) _ ?_
            show Steps p.tables e below (T6.setTop (mkF m 141 #[.val (.long q0), .second, .val (.long q1), .second, .val (.int p2), .val (.long va), .second, .val (.long vb), .second, .val (.int (p2 &&& (3 : Int32))), .val (.long (f1 va vb)), .second, .unset, .unset, .val (.long (va + vb)), .second] [(.long (9223372036854775806 : Int64))])) _
            refine XS.lstore X6.here hx rfl (hb hby at_141) rfl (l' := #[.val (.long q0), .second, .val (.long q1), .second, .val (.int p2), .val (.long va), .second, .val (.long vb), .second, .val (.int (p2 &&& (3 : Int32))), .val (.long (f1 va vb)), .second, .val (.long (9223372036854775806 : Int64)), .second, .val (.long (va + vb)), .second]) rfl ?_
            show Steps p.tables e below (T6.setTop (mkF m 143 #[.val (.long q0), .second, .val (.long q1), .second, .val (.int p2), .val (.long va), .second, .val (.long vb), .second, .val (.int (p2 &&& (3 : Int32))), .val (.long (f1 va vb)), .second, .val (.long (9223372036854775806 : Int64)), .second, .val (.long (va + vb)), .second] [])) _
            refine XS.goto X6.here hx rfl (pc0 := 143) (pc' := 150) rfl (hb hby at_143) (by decide) (by decide) ?_
            show Steps p.tables e below (T6.setTop (mkF m 150 #[.val (.long q0), .second, .val (.long q1), .second, .val (.int p2), .val (.long va), .second, .val (.long vb), .second, .val (.int (p2 &&& (3 : Int32))), .val (.long (f1 va vb)), .second, .val (.long (9223372036854775806 : Int64)), .second, .val (.long (va + vb)), .second] [])) _
            refine XS.lload X6.here hx rfl (hb hby at_150) rfl ?_
            show Steps p.tables e below (T6.setTop (mkF m 152 #[.val (.long q0), .second, .val (.long q1), .second, .val (.int p2), .val (.long va), .second, .val (.long vb), .second, .val (.int (p2 &&& (3 : Int32))), .val (.long (f1 va vb)), .second, .val (.long (9223372036854775806 : Int64)), .second, .val (.long (va + vb)), .second] [(.long (f1 va vb))])) _
            refine XS.lload X6.here hx rfl (hb hby at_152) rfl ?_
            show Steps p.tables e below (T6.setTop (mkF m 154 #[.val (.long q0), .second, .val (.long q1), .second, .val (.int p2), .val (.long va), .second, .val (.long vb), .second, .val (.int (p2 &&& (3 : Int32))), .val (.long (f1 va vb)), .second, .val (.long (9223372036854775806 : Int64)), .second, .val (.long (va + vb)), .second] [(.long (9223372036854775806 : Int64)), (.long (f1 va vb))])) _
            refine XS.lcmp X6.here hx rfl (hb hby at_154) rfl ?_
            show Steps p.tables e below (T6.setTop (mkF m 155 #[.val (.long q0), .second, .val (.long q1), .second, .val (.int p2), .val (.long va), .second, .val (.long vb), .second, .val (.int (p2 &&& (3 : Int32))), .val (.long (f1 va vb)), .second, .val (.long (9223372036854775806 : Int64)), .second, .val (.long (va + vb)), .second] [(.int (lcmpW (f1 va vb) (9223372036854775806 : Int64)))])) _
            refine XS.ifNo X6.here hx rfl (hb hby at_155) rfl (Jvm.Free.XT.ll_ne_f (by rw [own_law va vb hm4.1 hm4.2, if_neg hc95_9, if_neg hc104_12, if_pos hc126_15] : (f1 va vb) = (9223372036854775806 : Int64))) ?_
            show Steps p.tables e below (T6.setTop (mkF m 158 #[.val (.long q0), .second, .val (.long q1), .second, .val (.int p2), .val (.long va), .second, .val (.long vb), .second, .val (.int (p2 &&& (3 : Int32))), .val (.long (f1 va vb)), .second, .val (.long (9223372036854775806 : Int64)), .second, .val (.long (va + vb)), .second] [])) _
            refine XS.iconst X6.here hx rfl (hb hby at_158) ?_
            show Steps p.tables e below (T6.setTop (mkF m 159 #[.val (.long q0), .second, .val (.long q1), .second, .val (.int p2), .val (.long va), .second, .val (.long vb), .second, .val (.int (p2 &&& (3 : Int32))), .val (.long (f1 va vb)), .second, .val (.long (9223372036854775806 : Int64)), .second, .val (.long (va + vb)), .second] [(.int (1 : Int32))])) _
            refine XS.goto X6.here hx rfl (pc0 := 159) (pc' := 163) rfl (hb hby at_159) (by decide) (by decide) ?_
            exact kt)
          obtain ⟨fs, hr, hrun, hended, hW, hsame⟩ := X6.leave (v := some (.int (1 : Int32))) (fun h => by rw [Bd.returns] at h; cases h)
          refine ⟨_, _, pre16 _ ?_, hrun, hended, _, _, rfl, ?_, ⟨_, rfl⟩, hW, hsame.mono (by decide) (by decide)⟩
          · show Steps p.tables e below (T6.setTop (mkF m 163 #[.val (.long q0), .second, .val (.long q1), .second, .val (.int p2), .val (.long va), .second, .val (.long vb), .second, .val (.int (p2 &&& (3 : Int32))), .val (.long (f1 va vb)), .second, .val (.long (9223372036854775806 : Int64)), .second, .val (.long (va + vb)), .second] [(.int (1 : Int32))])) _
            exact retN X6 hx (t := .boolean) Bd.returns (by simp) (hb hby at_163) hr
          · show Q0 Z q0 q1 p2 h0 n0 _ T6.heap _
            rw [e6]
            exact ⟨rfl, N6⟩
        · have pre17 : ∀ t, Steps p.tables e below (T6.setTop (mkF m 135 #[.val (.long q0), .second, .val (.long q1), .second, .val (.int p2), .val (.long va), .second, .val (.long vb), .second, .val (.int (p2 &&& (3 : Int32))), .val (.long (f1 va vb)), .second, .unset, .unset, .val (.long (va + vb)), .second] [(.int (lcmpW (va + vb) (9223372036854775807 : Int64)))])) t → Steps p.tables e below (s₁.setTop (entryFrame m #[(.long q0), (.long q1), (.int p2)] maxLocals)) t := fun t kt => pre14 t (by
            show Steps p.tables e below (T6.setTop (mkF m 126 #[.val (.long q0), .second, .val (.long q1), .second, .val (.int p2), .val (.long va), .second, .val (.long vb), .second, .val (.int (p2 &&& (3 : Int32))), .val (.long (f1 va vb)), .second, .unset, .unset, .val (.long (va + vb)), .second] [(.int (lcmpW (va + vb) (0 : Int64)))])) _
            refine XS.ifNo X6.here hx rfl (hb hby at_126) rfl (Jvm.Free.XT.ll_lt_f hc126_15) ?_
            show Steps p.tables e below (T6.setTop (mkF m 129 #[.val (.long q0), .second, .val (.long q1), .second, .val (.int p2), .val (.long va), .second, .val (.long vb), .second, .val (.int (p2 &&& (3 : Int32))), .val (.long (f1 va vb)), .second, .unset, .unset, .val (.long (va + vb)), .second] [])) _
            refine XS.lload X6.here hx rfl (hb hby at_129) rfl ?_
            show Steps p.tables e below (T6.setTop (mkF m 131 #[.val (.long q0), .second, .val (.long q1), .second, .val (.int p2), .val (.long va), .second, .val (.long vb), .second, .val (.int (p2 &&& (3 : Int32))), .val (.long (f1 va vb)), .second, .unset, .unset, .val (.long (va + vb)), .second] [(.long (va + vb))])) _
            refine X6.ldc2Long hx hown (mvT hZ (hw _ (List.mem_of_getElem? (i := 0) rfl))) (g := (mkF m 131 #[.val (.long q0), .second, .val (.long q1), .second, .val (.int p2), .val (.long va), .second, .val (.long vb), .second, .val (.int (p2 &&& (3 : Int32))), .val (.long (f1 va vb)), .second, .unset, .unset, .val (.long (va + vb)), .second] [(.long (va + vb))])) rfl (hb hby at_131) _ ?_
            show Steps p.tables e below (T6.setTop (mkF m 134 #[.val (.long q0), .second, .val (.long q1), .second, .val (.int p2), .val (.long va), .second, .val (.long vb), .second, .val (.int (p2 &&& (3 : Int32))), .val (.long (f1 va vb)), .second, .unset, .unset, .val (.long (va + vb)), .second] [(.long (9223372036854775807 : Int64)), (.long (va + vb))])) _
            refine XS.lcmp X6.here hx rfl (hb hby at_134) rfl ?_
            exact kt)
          by_cases hc135_18 : (va + vb) = (9223372036854775807 : Int64)
          · have pre19 : ∀ t, Steps p.tables e below (T6.setTop (mkF m 163 #[.val (.long q0), .second, .val (.long q1), .second, .val (.int p2), .val (.long va), .second, .val (.long vb), .second, .val (.int (p2 &&& (3 : Int32))), .val (.long (f1 va vb)), .second, .val (.long (9223372036854775806 : Int64)), .second, .val (.long (va + vb)), .second] [(.int (1 : Int32))])) t → Steps p.tables e below (s₁.setTop (entryFrame m #[(.long q0), (.long q1), (.int p2)] maxLocals)) t := fun t kt => pre17 t (by
              show Steps p.tables e below (T6.setTop (mkF m 135 #[.val (.long q0), .second, .val (.long q1), .second, .val (.int p2), .val (.long va), .second, .val (.long vb), .second, .val (.int (p2 &&& (3 : Int32))), .val (.long (f1 va vb)), .second, .unset, .unset, .val (.long (va + vb)), .second] [(.int (lcmpW (va + vb) (9223372036854775807 : Int64)))])) _
              refine XS.ifNo X6.here hx rfl (hb hby at_135) rfl (Jvm.Free.XT.ll_ne_f hc135_18) ?_
              show Steps p.tables e below (T6.setTop (mkF m 138 #[.val (.long q0), .second, .val (.long q1), .second, .val (.int p2), .val (.long va), .second, .val (.long vb), .second, .val (.int (p2 &&& (3 : Int32))), .val (.long (f1 va vb)), .second, .unset, .unset, .val (.long (va + vb)), .second] [])) _
              refine X6.ldc2Long hx hown (mvT hZ (hw _ (List.mem_of_getElem? (i := 7) rfl))) (g := (mkF m 138 #[.val (.long q0), .second, .val (.long q1), .second, .val (.int p2), .val (.long va), .second, .val (.long vb), .second, .val (.int (p2 &&& (3 : Int32))), .val (.long (f1 va vb)), .second, .unset, .unset, .val (.long (va + vb)), .second] [])) rfl (hb hby at_138) _ ?_
              show Steps p.tables e below (T6.setTop (mkF m 141 #[.val (.long q0), .second, .val (.long q1), .second, .val (.int p2), .val (.long va), .second, .val (.long vb), .second, .val (.int (p2 &&& (3 : Int32))), .val (.long (f1 va vb)), .second, .unset, .unset, .val (.long (va + vb)), .second] [(.long (9223372036854775806 : Int64))])) _
              refine XS.lstore X6.here hx rfl (hb hby at_141) rfl (l' := #[.val (.long q0), .second, .val (.long q1), .second, .val (.int p2), .val (.long va), .second, .val (.long vb), .second, .val (.int (p2 &&& (3 : Int32))), .val (.long (f1 va vb)), .second, .val (.long (9223372036854775806 : Int64)), .second, .val (.long (va + vb)), .second]) rfl ?_
              show Steps p.tables e below (T6.setTop (mkF m 143 #[.val (.long q0), .second, .val (.long q1), .second, .val (.int p2), .val (.long va), .second, .val (.long vb), .second, .val (.int (p2 &&& (3 : Int32))), .val (.long (f1 va vb)), .second, .val (.long (9223372036854775806 : Int64)), .second, .val (.long (va + vb)), .second] [])) _
              refine XS.goto X6.here hx rfl (pc0 := 143) (pc' := 150) rfl (hb hby at_143) (by decide) (by decide) ?_
              show Steps p.tables e below (T6.setTop (mkF m 150 #[.val (.long q0), .second, .val (.long q1), .second, .val (.int p2), .val (.long va), .second, .val (.long vb), .second, .val (.int (p2 &&& (3 : Int32))), .val (.long (f1 va vb)), .second, .val (.long (9223372036854775806 : Int64)), .second, .val (.long (va + vb)), .second] [])) _
              refine XS.lload X6.here hx rfl (hb hby at_150) rfl ?_
              show Steps p.tables e below (T6.setTop (mkF m 152 #[.val (.long q0), .second, .val (.long q1), .second, .val (.int p2), .val (.long va), .second, .val (.long vb), .second, .val (.int (p2 &&& (3 : Int32))), .val (.long (f1 va vb)), .second, .val (.long (9223372036854775806 : Int64)), .second, .val (.long (va + vb)), .second] [(.long (f1 va vb))])) _
              refine XS.lload X6.here hx rfl (hb hby at_152) rfl ?_
              show Steps p.tables e below (T6.setTop (mkF m 154 #[.val (.long q0), .second, .val (.long q1), .second, .val (.int p2), .val (.long va), .second, .val (.long vb), .second, .val (.int (p2 &&& (3 : Int32))), .val (.long (f1 va vb)), .second, .val (.long (9223372036854775806 : Int64)), .second, .val (.long (va + vb)), .second] [(.long (9223372036854775806 : Int64)), (.long (f1 va vb))])) _
              refine XS.lcmp X6.here hx rfl (hb hby at_154) rfl ?_
              show Steps p.tables e below (T6.setTop (mkF m 155 #[.val (.long q0), .second, .val (.long q1), .second, .val (.int p2), .val (.long va), .second, .val (.long vb), .second, .val (.int (p2 &&& (3 : Int32))), .val (.long (f1 va vb)), .second, .val (.long (9223372036854775806 : Int64)), .second, .val (.long (va + vb)), .second] [(.int (lcmpW (f1 va vb) (9223372036854775806 : Int64)))])) _
              refine XS.ifNo X6.here hx rfl (hb hby at_155) rfl (Jvm.Free.XT.ll_ne_f (by rw [own_law va vb hm4.1 hm4.2, if_neg hc95_9, if_neg hc104_12, if_neg hc126_15, if_pos hc135_18] : (f1 va vb) = (9223372036854775806 : Int64))) ?_
              show Steps p.tables e below (T6.setTop (mkF m 158 #[.val (.long q0), .second, .val (.long q1), .second, .val (.int p2), .val (.long va), .second, .val (.long vb), .second, .val (.int (p2 &&& (3 : Int32))), .val (.long (f1 va vb)), .second, .val (.long (9223372036854775806 : Int64)), .second, .val (.long (va + vb)), .second] [])) _
              refine XS.iconst X6.here hx rfl (hb hby at_158) ?_
              show Steps p.tables e below (T6.setTop (mkF m 159 #[.val (.long q0), .second, .val (.long q1), .second, .val (.int p2), .val (.long va), .second, .val (.long vb), .second, .val (.int (p2 &&& (3 : Int32))), .val (.long (f1 va vb)), .second, .val (.long (9223372036854775806 : Int64)), .second, .val (.long (va + vb)), .second] [(.int (1 : Int32))])) _
              refine XS.goto X6.here hx rfl (pc0 := 159) (pc' := 163) rfl (hb hby at_159) (by decide) (by decide) ?_
              exact kt)
            obtain ⟨fs, hr, hrun, hended, hW, hsame⟩ := X6.leave (v := some (.int (1 : Int32))) (fun h => by rw [Bd.returns] at h; cases h)
            refine ⟨_, _, pre19 _ ?_, hrun, hended, _, _, rfl, ?_, ⟨_, rfl⟩, hW, hsame.mono (by decide) (by decide)⟩
            · show Steps p.tables e below (T6.setTop (mkF m 163 #[.val (.long q0), .second, .val (.long q1), .second, .val (.int p2), .val (.long va), .second, .val (.long vb), .second, .val (.int (p2 &&& (3 : Int32))), .val (.long (f1 va vb)), .second, .val (.long (9223372036854775806 : Int64)), .second, .val (.long (va + vb)), .second] [(.int (1 : Int32))])) _
              exact retN X6 hx (t := .boolean) Bd.returns (by simp) (hb hby at_163) hr
            · show Q0 Z q0 q1 p2 h0 n0 _ T6.heap _
              rw [e6]
              exact ⟨rfl, N6⟩
          · have pre20 : ∀ t, Steps p.tables e below (T6.setTop (mkF m 163 #[.val (.long q0), .second, .val (.long q1), .second, .val (.int p2), .val (.long va), .second, .val (.long vb), .second, .val (.int (p2 &&& (3 : Int32))), .val (.long (f1 va vb)), .second, .val (.long (va + vb)), .second, .val (.long (va + vb)), .second] [(.int (1 : Int32))])) t → Steps p.tables e below (s₁.setTop (entryFrame m #[(.long q0), (.long q1), (.int p2)] maxLocals)) t := fun t kt => pre17 t (by
              show Steps p.tables e below (T6.setTop (mkF m 135 #[.val (.long q0), .second, .val (.long q1), .second, .val (.int p2), .val (.long va), .second, .val (.long vb), .second, .val (.int (p2 &&& (3 : Int32))), .val (.long (f1 va vb)), .second, .unset, .unset, .val (.long (va + vb)), .second] [(.int (lcmpW (va + vb) (9223372036854775807 : Int64)))])) _
              refine XS.ifYes X6.here hx rfl (pc0 := 135) (pc' := 146) rfl (hb hby at_135) rfl (Jvm.Free.XT.ll_ne_t hc135_18) (by decide) (by decide) ?_
              show Steps p.tables e below (T6.setTop (mkF m 146 #[.val (.long q0), .second, .val (.long q1), .second, .val (.int p2), .val (.long va), .second, .val (.long vb), .second, .val (.int (p2 &&& (3 : Int32))), .val (.long (f1 va vb)), .second, .unset, .unset, .val (.long (va + vb)), .second] [])) _
              refine XS.lload X6.here hx rfl (hb hby at_146) rfl ?_
              show Steps p.tables e below (T6.setTop (mkF m 148 #[.val (.long q0), .second, .val (.long q1), .second, .val (.int p2), .val (.long va), .second, .val (.long vb), .second, .val (.int (p2 &&& (3 : Int32))), .val (.long (f1 va vb)), .second, .unset, .unset, .val (.long (va + vb)), .second] [(.long (va + vb))])) _
              refine XS.lstore X6.here hx rfl (hb hby at_148) rfl (l' := #[.val (.long q0), .second, .val (.long q1), .second, .val (.int p2), .val (.long va), .second, .val (.long vb), .second, .val (.int (p2 &&& (3 : Int32))), .val (.long (f1 va vb)), .second, .val (.long (va + vb)), .second, .val (.long (va + vb)), .second]) rfl ?_
              show Steps p.tables e below (T6.setTop (mkF m 150 #[.val (.long q0), .second, .val (.long q1), .second, .val (.int p2), .val (.long va), .second, .val (.long vb), .second, .val (.int (p2 &&& (3 : Int32))), .val (.long (f1 va vb)), .second, .val (.long (va + vb)), .second, .val (.long (va + vb)), .second] [])) _
              refine XS.lload X6.here hx rfl (hb hby at_150) rfl ?_
              show Steps p.tables e below (T6.setTop (mkF m 152 #[.val (.long q0), .second, .val (.long q1), .second, .val (.int p2), .val (.long va), .second, .val (.long vb), .second, .val (.int (p2 &&& (3 : Int32))), .val (.long (f1 va vb)), .second, .val (.long (va + vb)), .second, .val (.long (va + vb)), .second] [(.long (f1 va vb))])) _
              refine XS.lload X6.here hx rfl (hb hby at_152) rfl ?_
              show Steps p.tables e below (T6.setTop (mkF m 154 #[.val (.long q0), .second, .val (.long q1), .second, .val (.int p2), .val (.long va), .second, .val (.long vb), .second, .val (.int (p2 &&& (3 : Int32))), .val (.long (f1 va vb)), .second, .val (.long (va + vb)), .second, .val (.long (va + vb)), .second] [(.long (va + vb)), (.long (f1 va vb))])) _
              refine XS.lcmp X6.here hx rfl (hb hby at_154) rfl ?_
              show Steps p.tables e below (T6.setTop (mkF m 155 #[.val (.long q0), .second, .val (.long q1), .second, .val (.int p2), .val (.long va), .second, .val (.long vb), .second, .val (.int (p2 &&& (3 : Int32))), .val (.long (f1 va vb)), .second, .val (.long (va + vb)), .second, .val (.long (va + vb)), .second] [(.int (lcmpW (f1 va vb) (va + vb)))])) _
              refine XS.ifNo X6.here hx rfl (hb hby at_155) rfl (Jvm.Free.XT.ll_ne_f (by rw [own_law va vb hm4.1 hm4.2, if_neg hc95_9, if_neg hc104_12, if_neg hc126_15, if_neg hc135_18] : (f1 va vb) = (va + vb))) ?_
              show Steps p.tables e below (T6.setTop (mkF m 158 #[.val (.long q0), .second, .val (.long q1), .second, .val (.int p2), .val (.long va), .second, .val (.long vb), .second, .val (.int (p2 &&& (3 : Int32))), .val (.long (f1 va vb)), .second, .val (.long (va + vb)), .second, .val (.long (va + vb)), .second] [])) _
              refine XS.iconst X6.here hx rfl (hb hby at_158) ?_
              show Steps p.tables e below (T6.setTop (mkF m 159 #[.val (.long q0), .second, .val (.long q1), .second, .val (.int p2), .val (.long va), .second, .val (.long vb), .second, .val (.int (p2 &&& (3 : Int32))), .val (.long (f1 va vb)), .second, .val (.long (va + vb)), .second, .val (.long (va + vb)), .second] [(.int (1 : Int32))])) _
              refine XS.goto X6.here hx rfl (pc0 := 159) (pc' := 163) rfl (hb hby at_159) (by decide) (by decide) ?_
              exact kt)
            obtain ⟨fs, hr, hrun, hended, hW, hsame⟩ := X6.leave (v := some (.int (1 : Int32))) (fun h => by rw [Bd.returns] at h; cases h)
            refine ⟨_, _, pre20 _ ?_, hrun, hended, _, _, rfl, ?_, ⟨_, rfl⟩, hW, hsame.mono (by decide) (by decide)⟩
            · show Steps p.tables e below (T6.setTop (mkF m 163 #[.val (.long q0), .second, .val (.long q1), .second, .val (.int p2), .val (.long va), .second, .val (.long vb), .second, .val (.int (p2 &&& (3 : Int32))), .val (.long (f1 va vb)), .second, .val (.long (va + vb)), .second, .val (.long (va + vb)), .second] [(.int (1 : Int32))])) _
              exact retN X6 hx (t := .boolean) Bd.returns (by simp) (hb hby at_163) hr
            · show Q0 Z q0 q1 p2 h0 n0 _ T6.heap _
              rw [e6]
              exact ⟨rfl, N6⟩
  · have pre21 : ∀ t, Steps p.tables e below (s₁.setTop (mkF m 37 #[.val (.long q0), .second, .val (.long q1), .second, .val (.int p2), .val (.long (q0 &&& (9223372036854775807 : Int64))), .second, .val (.long (q1 &&& (9223372036854775807 : Int64))), .second, .val (.int (p2 &&& (3 : Int32))), .unset, .unset, .unset, .unset, .unset, .unset] [(.int (2 : Int32)), (.int (p2 &&& (3 : Int32)))])) t → Steps p.tables e below (s₁.setTop (entryFrame m #[(.long q0), (.long q1), (.int p2)] maxLocals)) t := fun t kt => pre1 t (by
      show Steps p.tables e below (s₁.setTop (mkF m 23 #[.val (.long q0), .second, .val (.long q1), .second, .val (.int p2), .val (.long (q0 &&& (9223372036854775807 : Int64))), .second, .val (.long (q1 &&& (9223372036854775807 : Int64))), .second, .val (.int (p2 &&& (3 : Int32))), .unset, .unset, .unset, .unset, .unset, .unset] [(.int (1 : Int32)), (.int (p2 &&& (3 : Int32)))])) _
      refine XS.icmpYes X0.here hx rfl (pc0 := 23) (pc' := 34) rfl (hb hby at_23) rfl (feq hc23_2).2 (by decide) (by decide) ?_
      show Steps p.tables e below (s₁.setTop (mkF m 34 #[.val (.long q0), .second, .val (.long q1), .second, .val (.int p2), .val (.long (q0 &&& (9223372036854775807 : Int64))), .second, .val (.long (q1 &&& (9223372036854775807 : Int64))), .second, .val (.int (p2 &&& (3 : Int32))), .unset, .unset, .unset, .unset, .unset, .unset] [])) _
      refine XS.iload X0.here hx rfl (hb hby at_34) rfl ?_
      show Steps p.tables e below (s₁.setTop (mkF m 36 #[.val (.long q0), .second, .val (.long q1), .second, .val (.int p2), .val (.long (q0 &&& (9223372036854775807 : Int64))), .second, .val (.long (q1 &&& (9223372036854775807 : Int64))), .second, .val (.int (p2 &&& (3 : Int32))), .unset, .unset, .unset, .unset, .unset, .unset] [(.int (p2 &&& (3 : Int32)))])) _
      refine XS.iconst X0.here hx rfl (hb hby at_36) ?_
      exact kt)
    by_cases hc37_22 : (p2 &&& (3 : Int32)) = (2 : Int32)
    · have pre23 : ∀ t, Steps p.tables e below (s₁.setTop (mkF m 80 #[.val (.long q0), .second, .val (.long q1), .second, .val (.int p2), .val (.long (q0 &&& (9223372036854775807 : Int64))), .second, .val (.long (9223372036854775807 : Int64)), .second, .val (.int (p2 &&& (3 : Int32))), .unset, .unset, .unset, .unset, .unset, .unset] [])) t → Steps p.tables e below (s₁.setTop (entryFrame m #[(.long q0), (.long q1), (.int p2)] maxLocals)) t := fun t kt => pre21 t (by
        show Steps p.tables e below (s₁.setTop (mkF m 37 #[.val (.long q0), .second, .val (.long q1), .second, .val (.int p2), .val (.long (q0 &&& (9223372036854775807 : Int64))), .second, .val (.long (q1 &&& (9223372036854775807 : Int64))), .second, .val (.int (p2 &&& (3 : Int32))), .unset, .unset, .unset, .unset, .unset, .unset] [(.int (2 : Int32)), (.int (p2 &&& (3 : Int32)))])) _
        refine XS.icmpNo X0.here hx rfl (hb hby at_37) rfl (teq hc37_22).2 ?_
        show Steps p.tables e below (s₁.setTop (mkF m 40 #[.val (.long q0), .second, .val (.long q1), .second, .val (.int p2), .val (.long (q0 &&& (9223372036854775807 : Int64))), .second, .val (.long (q1 &&& (9223372036854775807 : Int64))), .second, .val (.int (p2 &&& (3 : Int32))), .unset, .unset, .unset, .unset, .unset, .unset] [])) _
        refine X0.ldc2Long hx hown (mvT hZ (hw _ (List.mem_of_getElem? (i := 0) rfl))) (g := (mkF m 40 #[.val (.long q0), .second, .val (.long q1), .second, .val (.int p2), .val (.long (q0 &&& (9223372036854775807 : Int64))), .second, .val (.long (q1 &&& (9223372036854775807 : Int64))), .second, .val (.int (p2 &&& (3 : Int32))), .unset, .unset, .unset, .unset, .unset, .unset] [])) rfl (hb hby at_40) _ ?_
        show Steps p.tables e below (s₁.setTop (mkF m 43 #[.val (.long q0), .second, .val (.long q1), .second, .val (.int p2), .val (.long (q0 &&& (9223372036854775807 : Int64))), .second, .val (.long (q1 &&& (9223372036854775807 : Int64))), .second, .val (.int (p2 &&& (3 : Int32))), .unset, .unset, .unset, .unset, .unset, .unset] [(.long (9223372036854775807 : Int64))])) _
        refine XS.lstore X0.here hx rfl (hb hby at_43) rfl (l' := #[.val (.long q0), .second, .val (.long q1), .second, .val (.int p2), .val (.long (q0 &&& (9223372036854775807 : Int64))), .second, .val (.long (9223372036854775807 : Int64)), .second, .val (.int (p2 &&& (3 : Int32))), .unset, .unset, .unset, .unset, .unset, .unset]) rfl ?_
        show Steps p.tables e below (s₁.setTop (mkF m 45 #[.val (.long q0), .second, .val (.long q1), .second, .val (.int p2), .val (.long (q0 &&& (9223372036854775807 : Int64))), .second, .val (.long (9223372036854775807 : Int64)), .second, .val (.int (p2 &&& (3 : Int32))), .unset, .unset, .unset, .unset, .unset, .unset] [])) _
        refine XS.goto X0.here hx rfl (pc0 := 45) (pc' := 80) rfl (hb hby at_45) (by decide) (by decide) ?_
        exact kt)
      obtain ⟨va, vb, hm24, pre24⟩ : ∃ (va : Int64) (vb : Int64), (0 ≤ va.toInt ∧ 0 ≤ vb.toInt) ∧ ∀ t, Steps p.tables e below (s₁.setTop (mkF m 80 #[.val (.long q0), .second, .val (.long q1), .second, .val (.int p2), .val (.long va), .second, .val (.long vb), .second, .val (.int (p2 &&& (3 : Int32))), .unset, .unset, .unset, .unset, .unset, .unset] [])) t → Steps p.tables e below (s₁.setTop (entryFrame m #[(.long q0), (.long q1), (.int p2)] maxLocals)) t := ⟨(q0 &&& (9223372036854775807 : Int64)), (9223372036854775807 : Int64), ⟨(by have hk := c_maskL q0 (9223372036854775807 : Int64) 63 (by decide) (by decide); omega), (by decide)⟩, pre23⟩
      have pre25 : ∀ t, Steps p.tables e below (s₁.setTop (mkF m 84 #[.val (.long q0), .second, .val (.long q1), .second, .val (.int p2), .val (.long va), .second, .val (.long vb), .second, .val (.int (p2 &&& (3 : Int32))), .unset, .unset, .unset, .unset, .unset, .unset] [(.long vb), (.long va)])) t → Steps p.tables e below (s₁.setTop (entryFrame m #[(.long q0), (.long q1), (.int p2)] maxLocals)) t := fun t kt => pre24 t (by
        show Steps p.tables e below (s₁.setTop (mkF m 80 #[.val (.long q0), .second, .val (.long q1), .second, .val (.int p2), .val (.long va), .second, .val (.long vb), .second, .val (.int (p2 &&& (3 : Int32))), .unset, .unset, .unset, .unset, .unset, .unset] [])) _
        refine XS.lload X0.here hx rfl (hb hby at_80) rfl ?_
        show Steps p.tables e below (s₁.setTop (mkF m 82 #[.val (.long q0), .second, .val (.long q1), .second, .val (.int p2), .val (.long va), .second, .val (.long vb), .second, .val (.int (p2 &&& (3 : Int32))), .unset, .unset, .unset, .unset, .unset, .unset] [(.long va)])) _
        refine XS.lload X0.here hx rfl (hb hby at_82) rfl ?_
        exact kt)
      obtain ⟨_, _, ⟨T26, L26, k26, n26⟩, -, X26, ⟨Lc26, hQ26, l26, y26, z26⟩, st26⟩ := Jvm.LawKit.callS X0 hx (y := (⟨"com/example/shapelint/shapelint/ValueNodes", "plus", "(JJ)J"⟩ : MethodName)) hown (mvT hZ (hw _ (List.mem_of_getElem? (i := 1) rfl))) (mvT hZ (hw _ (List.mem_of_getElem? (i := 2) rfl))) (mvT hZ (hw _ (List.mem_of_getElem? (i := 3) rfl))) (mvT hZ (hw _ (List.mem_of_getElem? (i := 4) rfl))) (by decide) (backOf (W := 0) (rm1 l Z av hw [] va vb  h0 n0 Z0 ) hZ (hw _ (List.mem_of_getElem? (i := 4) rfl)) (hw _ (List.mem_of_getElem? (i := 3) rfl)) (by decide) (by decide)) (g := (mkF m 84 #[.val (.long q0), .second, .val (.long q1), .second, .val (.int p2), .val (.long va), .second, .val (.long vb), .second, .val (.int (p2 &&& (3 : Int32))), .unset, .unset, .unset, .unset, .unset, .unset] [(.long vb), (.long va)])) rfl (by rw [hml]; rfl) (argsL := [(.long va), (.long vb)]) (rest := []) (lenOf pd__JJ_J rfl) rfl (by show 2 * 0 + _ ≤ _; exact Nat.le_of_eq rfl) (hb hby at_84) (fun _ _ => ⟨rfl, e0, (by decide : 0 + 0 ≤ _), (by decide : 0 + 0 ≤ _)⟩)
      dsimp only [Pt.U, Pt.locs, Pt.cells, Pt.slots] at X26 l26 y26 z26 st26 hQ26
      subst l26 y26 z26
      obtain ⟨rfl, N26q, e26⟩ := hQ26
      have N26 := Fr.app N0 N26q
      have pre27 : ∀ t, Steps p.tables e below (T26.setTop (mkF m 87 #[.val (.long q0), .second, .val (.long q1), .second, .val (.int p2), .val (.long va), .second, .val (.long vb), .second, .val (.int (p2 &&& (3 : Int32))), .unset, .unset, .unset, .unset, .unset, .unset] [(.long (f1 va vb))])) t → Steps p.tables e below (s₁.setTop (entryFrame m #[(.long q0), (.long q1), (.int p2)] maxLocals)) t := fun t kt => pre25 t (st26 _ kt)
      have pre28 : ∀ t, Steps p.tables e below (T26.setTop (mkF m 95 #[.val (.long q0), .second, .val (.long q1), .second, .val (.int p2), .val (.long va), .second, .val (.long vb), .second, .val (.int (p2 &&& (3 : Int32))), .val (.long (f1 va vb)), .second, .unset, .unset, .unset, .unset] [(.int (lcmpW va (9223372036854775807 : Int64)))])) t → Steps p.tables e below (s₁.setTop (entryFrame m #[(.long q0), (.long q1), (.int p2)] maxLocals)) t := fun t kt => pre27 t (by
        show Steps p.tables e below (T26.setTop (mkF m 87 #[.val (.long q0), .second, .val (.long q1), .second, .val (.int p2), .val (.long va), .second, .val (.long vb), .second, .val (.int (p2 &&& (3 : Int32))), .unset, .unset, .unset, .unset, .unset, .unset] [(.long (f1 va vb))])) _
        refine XS.lstore X26.here hx rfl (hb hby at_87) rfl (l' := #[.val (.long q0), .second, .val (.long q1), .second, .val (.int p2), .val (.long va), .second, .val (.long vb), .second, .val (.int (p2 &&& (3 : Int32))), .val (.long (f1 va vb)), .second, .unset, .unset, .unset, .unset]) rfl ?_
        show Steps p.tables e below (T26.setTop (mkF m 89 #[.val (.long q0), .second, .val (.long q1), .second, .val (.int p2), .val (.long va), .second, .val (.long vb), .second, .val (.int (p2 &&& (3 : Int32))), .val (.long (f1 va vb)), .second, .unset, .unset, .unset, .unset] [])) _
        refine XS.lload X26.here hx rfl (hb hby at_89) rfl ?_
        show Steps p.tables e below (T26.setTop (mkF m 91 #[.val (.long q0), .second, .val (.long q1), .second, .val (.int p2), .val (.long va), .second, .val (.long vb), .second, .val (.int (p2 &&& (3 : Int32))), .val (.long (f1 va vb)), .second, .unset, .unset, .unset, .unset] [(.long va)])) _
        refine X26.ldc2Long hx hown (mvT hZ (hw _ (List.mem_of_getElem? (i := 0) rfl))) (g := (mkF m 91 #[.val (.long q0), .second, .val (.long q1), .second, .val (.int p2), .val (.long va), .second, .val (.long vb), .second, .val (.int (p2 &&& (3 : Int32))), .val (.long (f1 va vb)), .second, .unset, .unset, .unset, .unset] [(.long va)])) rfl (hb hby at_91) _ ?_
        show Steps p.tables e below (T26.setTop (mkF m 94 #[.val (.long q0), .second, .val (.long q1), .second, .val (.int p2), .val (.long va), .second, .val (.long vb), .second, .val (.int (p2 &&& (3 : Int32))), .val (.long (f1 va vb)), .second, .unset, .unset, .unset, .unset] [(.long (9223372036854775807 : Int64)), (.long va)])) _
        refine XS.lcmp X26.here hx rfl (hb hby at_94) rfl ?_
        exact kt)
      by_cases hc95_29 : va = (9223372036854775807 : Int64)
      · have pre30 : ∀ t, Steps p.tables e below (T26.setTop (mkF m 163 #[.val (.long q0), .second, .val (.long q1), .second, .val (.int p2), .val (.long va), .second, .val (.long vb), .second, .val (.int (p2 &&& (3 : Int32))), .val (.long (f1 va vb)), .second, .val (.long (9223372036854775807 : Int64)), .second, .unset, .unset] [(.int (1 : Int32))])) t → Steps p.tables e below (s₁.setTop (entryFrame m #[(.long q0), (.long q1), (.int p2)] maxLocals)) t := fun t kt => pre28 t (by
          show Steps p.tables e below (T26.setTop (mkF m 95 #[.val (.long q0), .second, .val (.long q1), .second, .val (.int p2), .val (.long va), .second, .val (.long vb), .second, .val (.int (p2 &&& (3 : Int32))), .val (.long (f1 va vb)), .second, .unset, .unset, .unset, .unset] [(.int (lcmpW va (9223372036854775807 : Int64)))])) _
          refine XS.ifYes X26.here hx rfl (pc0 := 95) (pc' := 107) rfl (hb hby at_95) rfl (Jvm.Free.XT.ll_eq_t hc95_29) (by decide) (by decide) ?_
          show Steps p.tables e below (T26.setTop (mkF m 107 #[.val (.long q0), .second, .val (.long q1), .second, .val (.int p2), .val (.long va), .second, .val (.long vb), .second, .val (.int (p2 &&& (3 : Int32))), .val (.long (f1 va vb)), .second, .unset, .unset, .unset, .unset] [])) _
          refine X26.ldc2Long hx hown (mvT hZ (hw _ (List.mem_of_getElem? (i := 0) rfl))) (g := (mkF m 107 #[.val (.long q0), .second, .val (.long q1), .second, .val (.int p2), .val (.long va), .second, .val (.long vb), .second, .val (.int (p2 &&& (3 : Int32))), .val (.long (f1 va vb)), .second, .unset, .unset, .unset, .unset] [])) rfl (hb hby at_107) _ ?_
          show Steps p.tables e below (T26.setTop (mkF m 110 #[.val (.long q0), .second, .val (.long q1), .second, .val (.int p2), .val (.long va), .second, .val (.long vb), .second, .val (.int (p2 &&& (3 : Int32))), .val (.long (f1 va vb)), .second, .unset, .unset, .unset, .unset] [(.long (9223372036854775807 : Int64))])) _
          refine XS.lstore X26.here hx rfl (hb hby at_110) rfl (l' := #[.val (.long q0), .second, .val (.long q1), .second, .val (.int p2), .val (.long va), .second, .val (.long vb), .second, .val (.int (p2 &&& (3 : Int32))), .val (.long (f1 va vb)), .second, .val (.long (9223372036854775807 : Int64)), .second, .unset, .unset]) rfl ?_
          show Steps p.tables e below (T26.setTop (mkF m 112 #[.val (.long q0), .second, .val (.long q1), .second, .val (.int p2), .val (.long va), .second, .val (.long vb), .second, .val (.int (p2 &&& (3 : Int32))), .val (.long (f1 va vb)), .second, .val (.long (9223372036854775807 : Int64)), .second, .unset, .unset] [])) _
          refine XS.goto X26.here hx rfl (pc0 := 112) (pc' := 150) rfl (hb hby at_112) (by decide) (by decide) ?_
          show Steps p.tables e below (T26.setTop (mkF m 150 #[.val (.long q0), .second, .val (.long q1), .second, .val (.int p2), .val (.long va), .second, .val (.long vb), .second, .val (.int (p2 &&& (3 : Int32))), .val (.long (f1 va vb)), .second, .val (.long (9223372036854775807 : Int64)), .second, .unset, .unset] [])) _
          refine XS.lload X26.here hx rfl (hb hby at_150) rfl ?_
          show Steps p.tables e below (T26.setTop (mkF m 152 #[.val (.long q0), .second, .val (.long q1), .second, .val (.int p2), .val (.long va), .second, .val (.long vb), .second, .val (.int (p2 &&& (3 : Int32))), .val (.long (f1 va vb)), .second, .val (.long (9223372036854775807 : Int64)), .second, .unset, .unset] [(.long (f1 va vb))])) _
          refine XS.lload X26.here hx rfl (hb hby at_152) rfl ?_
          show Steps p.tables e below (T26.setTop (mkF m 154 #[.val (.long q0), .second, .val (.long q1), .second, .val (.int p2), .val (.long va), .second, .val (.long vb), .second, .val (.int (p2 &&& (3 : Int32))), .val (.long (f1 va vb)), .second, .val (.long (9223372036854775807 : Int64)), .second, .unset, .unset] [(.long (9223372036854775807 : Int64)), (.long (f1 va vb))])) _
          refine XS.lcmp X26.here hx rfl (hb hby at_154) rfl ?_
          show Steps p.tables e below (T26.setTop (mkF m 155 #[.val (.long q0), .second, .val (.long q1), .second, .val (.int p2), .val (.long va), .second, .val (.long vb), .second, .val (.int (p2 &&& (3 : Int32))), .val (.long (f1 va vb)), .second, .val (.long (9223372036854775807 : Int64)), .second, .unset, .unset] [(.int (lcmpW (f1 va vb) (9223372036854775807 : Int64)))])) _
          refine XS.ifNo X26.here hx rfl (hb hby at_155) rfl (Jvm.Free.XT.ll_ne_f (by rw [own_law va vb hm24.1 hm24.2, if_pos hc95_29] : (f1 va vb) = (9223372036854775807 : Int64))) ?_
          show Steps p.tables e below (T26.setTop (mkF m 158 #[.val (.long q0), .second, .val (.long q1), .second, .val (.int p2), .val (.long va), .second, .val (.long vb), .second, .val (.int (p2 &&& (3 : Int32))), .val (.long (f1 va vb)), .second, .val (.long (9223372036854775807 : Int64)), .second, .unset, .unset] [])) _
          refine XS.iconst X26.here hx rfl (hb hby at_158) ?_
          show Steps p.tables e below (T26.setTop (mkF m 159 #[.val (.long q0), .second, .val (.long q1), .second, .val (.int p2), .val (.long va), .second, .val (.long vb), .second, .val (.int (p2 &&& (3 : Int32))), .val (.long (f1 va vb)), .second, .val (.long (9223372036854775807 : Int64)), .second, .unset, .unset] [(.int (1 : Int32))])) _
          refine XS.goto X26.here hx rfl (pc0 := 159) (pc' := 163) rfl (hb hby at_159) (by decide) (by decide) ?_
          exact kt)
        obtain ⟨fs, hr, hrun, hended, hW, hsame⟩ := X26.leave (v := some (.int (1 : Int32))) (fun h => by rw [Bd.returns] at h; cases h)
        refine ⟨_, _, pre30 _ ?_, hrun, hended, _, _, rfl, ?_, ⟨_, rfl⟩, hW, hsame.mono (by decide) (by decide)⟩
        · show Steps p.tables e below (T26.setTop (mkF m 163 #[.val (.long q0), .second, .val (.long q1), .second, .val (.int p2), .val (.long va), .second, .val (.long vb), .second, .val (.int (p2 &&& (3 : Int32))), .val (.long (f1 va vb)), .second, .val (.long (9223372036854775807 : Int64)), .second, .unset, .unset] [(.int (1 : Int32))])) _
          exact retN X26 hx (t := .boolean) Bd.returns (by simp) (hb hby at_163) hr
        · show Q0 Z q0 q1 p2 h0 n0 _ T26.heap _
          rw [e26]
          exact ⟨rfl, N26⟩
      · have pre31 : ∀ t, Steps p.tables e below (T26.setTop (mkF m 104 #[.val (.long q0), .second, .val (.long q1), .second, .val (.int p2), .val (.long va), .second, .val (.long vb), .second, .val (.int (p2 &&& (3 : Int32))), .val (.long (f1 va vb)), .second, .unset, .unset, .unset, .unset] [(.int (lcmpW vb (9223372036854775807 : Int64)))])) t → Steps p.tables e below (s₁.setTop (entryFrame m #[(.long q0), (.long q1), (.int p2)] maxLocals)) t := fun t kt => pre28 t (by
          show Steps p.tables e below (T26.setTop (mkF m 95 #[.val (.long q0), .second, .val (.long q1), .second, .val (.int p2), .val (.long va), .second, .val (.long vb), .second, .val (.int (p2 &&& (3 : Int32))), .val (.long (f1 va vb)), .second, .unset, .unset, .unset, .unset] [(.int (lcmpW va (9223372036854775807 : Int64)))])) _
          refine XS.ifNo X26.here hx rfl (hb hby at_95) rfl (Jvm.Free.XT.ll_eq_f hc95_29) ?_
          show Steps p.tables e below (T26.setTop (mkF m 98 #[.val (.long q0), .second, .val (.long q1), .second, .val (.int p2), .val (.long va), .second, .val (.long vb), .second, .val (.int (p2 &&& (3 : Int32))), .val (.long (f1 va vb)), .second, .unset, .unset, .unset, .unset] [])) _
          refine XS.lload X26.here hx rfl (hb hby at_98) rfl ?_
          show Steps p.tables e below (T26.setTop (mkF m 100 #[.val (.long q0), .second, .val (.long q1), .second, .val (.int p2), .val (.long va), .second, .val (.long vb), .second, .val (.int (p2 &&& (3 : Int32))), .val (.long (f1 va vb)), .second, .unset, .unset, .unset, .unset] [(.long vb)])) _
          refine X26.ldc2Long hx hown (mvT hZ (hw _ (List.mem_of_getElem? (i := 0) rfl))) (g := (mkF m 100 #[.val (.long q0), .second, .val (.long q1), .second, .val (.int p2), .val (.long va), .second, .val (.long vb), .second, .val (.int (p2 &&& (3 : Int32))), .val (.long (f1 va vb)), .second, .unset, .unset, .unset, .unset] [(.long vb)])) rfl (hb hby at_100) _ ?_
          show Steps p.tables e below (T26.setTop (mkF m 103 #[.val (.long q0), .second, .val (.long q1), .second, .val (.int p2), .val (.long va), .second, .val (.long vb), .second, .val (.int (p2 &&& (3 : Int32))), .val (.long (f1 va vb)), .second, .unset, .unset, .unset, .unset] [(.long (9223372036854775807 : Int64)), (.long vb)])) _
          refine XS.lcmp X26.here hx rfl (hb hby at_103) rfl ?_
          exact kt)
        by_cases hc104_32 : vb = (9223372036854775807 : Int64)
        · have pre33 : ∀ t, Steps p.tables e below (T26.setTop (mkF m 163 #[.val (.long q0), .second, .val (.long q1), .second, .val (.int p2), .val (.long va), .second, .val (.long vb), .second, .val (.int (p2 &&& (3 : Int32))), .val (.long (f1 va vb)), .second, .val (.long (9223372036854775807 : Int64)), .second, .unset, .unset] [(.int (1 : Int32))])) t → Steps p.tables e below (s₁.setTop (entryFrame m #[(.long q0), (.long q1), (.int p2)] maxLocals)) t := fun t kt => pre31 t (by
            show Steps p.tables e below (T26.setTop (mkF m 104 #[.val (.long q0), .second, .val (.long q1), .second, .val (.int p2), .val (.long va), .second, .val (.long vb), .second, .val (.int (p2 &&& (3 : Int32))), .val (.long (f1 va vb)), .second, .unset, .unset, .unset, .unset] [(.int (lcmpW vb (9223372036854775807 : Int64)))])) _
            refine XS.ifNo X26.here hx rfl (hb hby at_104) rfl (Jvm.Free.XT.ll_ne_f hc104_32) ?_
            show Steps p.tables e below (T26.setTop (mkF m 107 #[.val (.long q0), .second, .val (.long q1), .second, .val (.int p2), .val (.long va), .second, .val (.long vb), .second, .val (.int (p2 &&& (3 : Int32))), .val (.long (f1 va vb)), .second, .unset, .unset, .unset, .unset] [])) _
            refine X26.ldc2Long hx hown (mvT hZ (hw _ (List.mem_of_getElem? (i := 0) rfl))) (g := (mkF m 107 #[.val (.long q0), .second, .val (.long q1), .second, .val (.int p2), .val (.long va), .second, .val (.long vb), .second, .val (.int (p2 &&& (3 : Int32))), .val (.long (f1 va vb)), .second, .unset, .unset, .unset, .unset] [])) rfl (hb hby at_107) _ ?_
            show Steps p.tables e below (T26.setTop (mkF m 110 #[.val (.long q0), .second, .val (.long q1), .second, .val (.int p2), .val (.long va), .second, .val (.long vb), .second, .val (.int (p2 &&& (3 : Int32))), .val (.long (f1 va vb)), .second, .unset, .unset, .unset, .unset] [(.long (9223372036854775807 : Int64))])) _
            refine XS.lstore X26.here hx rfl (hb hby at_110) rfl (l' := #[.val (.long q0), .second, .val (.long q1), .second, .val (.int p2), .val (.long va), .second, .val (.long vb), .second, .val (.int (p2 &&& (3 : Int32))), .val (.long (f1 va vb)), .second, .val (.long (9223372036854775807 : Int64)), .second, .unset, .unset]) rfl ?_
            show Steps p.tables e below (T26.setTop (mkF m 112 #[.val (.long q0), .second, .val (.long q1), .second, .val (.int p2), .val (.long va), .second, .val (.long vb), .second, .val (.int (p2 &&& (3 : Int32))), .val (.long (f1 va vb)), .second, .val (.long (9223372036854775807 : Int64)), .second, .unset, .unset] [])) _
            refine XS.goto X26.here hx rfl (pc0 := 112) (pc' := 150) rfl (hb hby at_112) (by decide) (by decide) ?_
            show Steps p.tables e below (T26.setTop (mkF m 150 #[.val (.long q0), .second, .val (.long q1), .second, .val (.int p2), .val (.long va), .second, .val (.long vb), .second, .val (.int (p2 &&& (3 : Int32))), .val (.long (f1 va vb)), .second, .val (.long (9223372036854775807 : Int64)), .second, .unset, .unset] [])) _
            refine XS.lload X26.here hx rfl (hb hby at_150) rfl ?_
            show Steps p.tables e below (T26.setTop (mkF m 152 #[.val (.long q0), .second, .val (.long q1), .second, .val (.int p2), .val (.long va), .second, .val (.long vb), .second, .val (.int (p2 &&& (3 : Int32))), .val (.long (f1 va vb)), .second, .val (.long (9223372036854775807 : Int64)), .second, .unset, .unset] [(.long (f1 va vb))])) _
            refine XS.lload X26.here hx rfl (hb hby at_152) rfl ?_
            show Steps p.tables e below (T26.setTop (mkF m 154 #[.val (.long q0), .second, .val (.long q1), .second, .val (.int p2), .val (.long va), .second, .val (.long vb), .second, .val (.int (p2 &&& (3 : Int32))), .val (.long (f1 va vb)), .second, .val (.long (9223372036854775807 : Int64)), .second, .unset, .unset] [(.long (9223372036854775807 : Int64)), (.long (f1 va vb))])) _
            refine XS.lcmp X26.here hx rfl (hb hby at_154) rfl ?_
            show Steps p.tables e below (T26.setTop (mkF m 155 #[.val (.long q0), .second, .val (.long q1), .second, .val (.int p2), .val (.long va), .second, .val (.long vb), .second, .val (.int (p2 &&& (3 : Int32))), .val (.long (f1 va vb)), .second, .val (.long (9223372036854775807 : Int64)), .second, .unset, .unset] [(.int (lcmpW (f1 va vb) (9223372036854775807 : Int64)))])) _
            refine XS.ifNo X26.here hx rfl (hb hby at_155) rfl (Jvm.Free.XT.ll_ne_f (by rw [own_law va vb hm24.1 hm24.2, if_neg hc95_29, if_pos hc104_32] : (f1 va vb) = (9223372036854775807 : Int64))) ?_
            show Steps p.tables e below (T26.setTop (mkF m 158 #[.val (.long q0), .second, .val (.long q1), .second, .val (.int p2), .val (.long va), .second, .val (.long vb), .second, .val (.int (p2 &&& (3 : Int32))), .val (.long (f1 va vb)), .second, .val (.long (9223372036854775807 : Int64)), .second, .unset, .unset] [])) _
            refine XS.iconst X26.here hx rfl (hb hby at_158) ?_
            show Steps p.tables e below (T26.setTop (mkF m 159 #[.val (.long q0), .second, .val (.long q1), .second, .val (.int p2), .val (.long va), .second, .val (.long vb), .second, .val (.int (p2 &&& (3 : Int32))), .val (.long (f1 va vb)), .second, .val (.long (9223372036854775807 : Int64)), .second, .unset, .unset] [(.int (1 : Int32))])) _
            refine XS.goto X26.here hx rfl (pc0 := 159) (pc' := 163) rfl (hb hby at_159) (by decide) (by decide) ?_
            exact kt)
          obtain ⟨fs, hr, hrun, hended, hW, hsame⟩ := X26.leave (v := some (.int (1 : Int32))) (fun h => by rw [Bd.returns] at h; cases h)
          refine ⟨_, _, pre33 _ ?_, hrun, hended, _, _, rfl, ?_, ⟨_, rfl⟩, hW, hsame.mono (by decide) (by decide)⟩
          · show Steps p.tables e below (T26.setTop (mkF m 163 #[.val (.long q0), .second, .val (.long q1), .second, .val (.int p2), .val (.long va), .second, .val (.long vb), .second, .val (.int (p2 &&& (3 : Int32))), .val (.long (f1 va vb)), .second, .val (.long (9223372036854775807 : Int64)), .second, .unset, .unset] [(.int (1 : Int32))])) _
            exact retN X26 hx (t := .boolean) Bd.returns (by simp) (hb hby at_163) hr
          · show Q0 Z q0 q1 p2 h0 n0 _ T26.heap _
            rw [e26]
            exact ⟨rfl, N26⟩
        · have pre34 : ∀ t, Steps p.tables e below (T26.setTop (mkF m 126 #[.val (.long q0), .second, .val (.long q1), .second, .val (.int p2), .val (.long va), .second, .val (.long vb), .second, .val (.int (p2 &&& (3 : Int32))), .val (.long (f1 va vb)), .second, .unset, .unset, .val (.long (va + vb)), .second] [(.int (lcmpW (va + vb) (0 : Int64)))])) t → Steps p.tables e below (s₁.setTop (entryFrame m #[(.long q0), (.long q1), (.int p2)] maxLocals)) t := fun t kt => pre31 t (by
            show Steps p.tables e below (T26.setTop (mkF m 104 #[.val (.long q0), .second, .val (.long q1), .second, .val (.int p2), .val (.long va), .second, .val (.long vb), .second, .val (.int (p2 &&& (3 : Int32))), .val (.long (f1 va vb)), .second, .unset, .unset, .unset, .unset] [(.int (lcmpW vb (9223372036854775807 : Int64)))])) _
            refine XS.ifYes X26.here hx rfl (pc0 := 104) (pc' := 115) rfl (hb hby at_104) rfl (Jvm.Free.XT.ll_ne_t hc104_32) (by decide) (by decide) ?_
            show Steps p.tables e below (T26.setTop (mkF m 115 #[.val (.long q0), .second, .val (.long q1), .second, .val (.int p2), .val (.long va), .second, .val (.long vb), .second, .val (.int (p2 &&& (3 : Int32))), .val (.long (f1 va vb)), .second, .unset, .unset, .unset, .unset] [])) _
            refine XS.lload X26.here hx rfl (hb hby at_115) rfl ?_
            show Steps p.tables e below (T26.setTop (mkF m 117 #[.val (.long q0), .second, .val (.long q1), .second, .val (.int p2), .val (.long va), .second, .val (.long vb), .second, .val (.int (p2 &&& (3 : Int32))), .val (.long (f1 va vb)), .second, .unset, .unset, .unset, .unset] [(.long va)])) _
            refine XS.lload X26.here hx rfl (hb hby at_117) rfl ?_
            show Steps p.tables e below (T26.setTop (mkF m 119 #[.val (.long q0), .second, .val (.long q1), .second, .val (.int p2), .val (.long va), .second, .val (.long vb), .second, .val (.int (p2 &&& (3 : Int32))), .val (.long (f1 va vb)), .second, .unset, .unset, .unset, .unset] [(.long vb), (.long va)])) _
            refine XS.ladd X26.here hx rfl (hb hby at_119) rfl ?_
            show Steps p.tables e below (T26.setTop (mkF m 120 #[.val (.long q0), .second, .val (.long q1), .second, .val (.int p2), .val (.long va), .second, .val (.long vb), .second, .val (.int (p2 &&& (3 : Int32))), .val (.long (f1 va vb)), .second, .unset, .unset, .unset, .unset] [(.long (va + vb))])) _
            refine XS.lstore X26.here hx rfl (hb hby at_120) rfl (l' := #[.val (.long q0), .second, .val (.long q1), .second, .val (.int p2), .val (.long va), .second, .val (.long vb), .second, .val (.int (p2 &&& (3 : Int32))), .val (.long (f1 va vb)), .second, .unset, .unset, .val (.long (va + vb)), .second]) rfl ?_
            show Steps p.tables e below (T26.setTop (mkF m 122 #[.val (.long q0), .second, .val (.long q1), .second, .val (.int p2), .val (.long va), .second, .val (.long vb), .second, .val (.int (p2 &&& (3 : Int32))), .val (.long (f1 va vb)), .second, .unset, .unset, .val (.long (va + vb)), .second] [])) _
            refine XS.lload X26.here hx rfl (hb hby at_122) rfl ?_
            show Steps p.tables e below (T26.setTop (mkF m 124 #[.val (.long q0), .second, .val (.long q1), .second, .val (.int p2), .val (.long va), .second, .val (.long vb), .second, .val (.int (p2 &&& (3 : Int32))), .val (.long (f1 va vb)), .second, .unset, .unset, .val (.long (va + vb)), .second] [(.long (va + vb))])) _
            refine XS.lconst X26.here hx rfl (hb hby at_124) ?_
            show Steps p.tables e below (T26.setTop (mkF m 125 #[.val (.long q0), .second, .val (.long q1), .second, .val (.int p2), .val (.long va), .second, .val (.long vb), .second, .val (.int (p2 &&& (3 : Int32))), .val (.long (f1 va vb)), .second, .unset, .unset, .val (.long (va + vb)), .second] [(.long (0 : Int64)), (.long (va + vb))])) _
            refine XS.lcmp X26.here hx rfl (hb hby at_125) rfl ?_
            exact kt)
          by_cases hc126_35 : (va + vb) < (0 : Int64)
          · have pre36 : ∀ t, Steps p.tables e below (T26.setTop (mkF m 163 #[.val (.long q0), .second, .val (.long q1), .second, .val (.int p2), .val (.long va), .second, .val (.long vb), .second, .val (.int (p2 &&& (3 : Int32))), .val (.long (f1 va vb)), .second, .val (.long (9223372036854775806 : Int64)), .second, .val (.long (va + vb)), .second] [(.int (1 : Int32))])) t → Steps p.tables e below (s₁.setTop (entryFrame m #[(.long q0), (.long q1), (.int p2)] maxLocals)) t := fun t kt => pre34 t (by
              show Steps p.tables e below (T26.setTop (mkF m 126 #[.val (.long q0), .second, .val (.long q1), .second, .val (.int p2), .val (.long va), .second, .val (.long vb), .second, .val (.int (p2 &&& (3 : Int32))), .val (.long (f1 va vb)), .second, .unset, .unset, .val (.long (va + vb)), .second] [(.int (lcmpW (va + vb) (0 : Int64)))])) _
              refine XS.ifYes X26.here hx rfl (pc0 := 126) (pc' := 138) rfl (hb hby at_126) rfl (Jvm.Free.XT.ll_lt_t hc126_35) (by decide) (by decide) ?_
              show Steps p.tables e below (T26.setTop (mkF m 138 #[.val (.long q0), .second, .val (.long q1), .second, .val (.int p2), .val (.long va), .second, .val (.long vb), .second, .val (.int (p2 &&& (3 : Int32))), .val (.long (f1 va vb)), .second, .unset, .unset, .val (.long (va + vb)), .second] [])) _
              refine X26.ldc2Long hx hown (mvT hZ (hw _ (List.mem_of_getElem? (i := 7) rfl))) (g := (mkF m 138 #[.val (.long q0), .second, .val (.long q1), .second, .val (.int p2), .val (.long va), .second, .val (.long vb), .second, .val (.int (p2 &&& (3 : Int32))), .val (.long (f1 va vb)), .second, .unset, .unset, .val (.long (va + vb)), .second] [])) rfl (hb hby at_138) _ ?_
              show Steps p.tables e below (T26.setTop (mkF m 141 #[.val (.long q0), .second, .val (.long q1), .second, .val (.int p2), .val (.long va), .second, .val (.long vb), .second, .val (.int (p2 &&& (3 : Int32))), .val (.long (f1 va vb)), .second, .unset, .unset, .val (.long (va + vb)), .second] [(.long (9223372036854775806 : Int64))])) _
              refine XS.lstore X26.here hx rfl (hb hby at_141) rfl (l' := #[.val (.long q0), .second, .val (.long q1), .second, .val (.int p2), .val (.long va), .second, .val (.long vb), .second, .val (.int (p2 &&& (3 : Int32))), .val (.long (f1 va vb)), .second, .val (.long (9223372036854775806 : Int64)), .second, .val (.long (va + vb)), .second]) rfl ?_
              show Steps p.tables e below (T26.setTop (mkF m 143 #[.val (.long q0), .second, .val (.long q1), .second, .val (.int p2), .val (.long va), .second, .val (.long vb), .second, .val (.int (p2 &&& (3 : Int32))), .val (.long (f1 va vb)), .second, .val (.long (9223372036854775806 : Int64)), .second, .val (.long (va + vb)), .second] [])) _
              refine XS.goto X26.here hx rfl (pc0 := 143) (pc' := 150) rfl (hb hby at_143) (by decide) (by decide) ?_
              show Steps p.tables e below (T26.setTop (mkF m 150 #[.val (.long q0), .second, .val (.long q1), .second, .val (.int p2), .val (.long va), .second, .val (.long vb), .second, .val (.int (p2 &&& (3 : Int32))), .val (.long (f1 va vb)), .second, .val (.long (9223372036854775806 : Int64)), .second, .val (.long (va + vb)), .second] [])) _
              refine XS.lload X26.here hx rfl (hb hby at_150) rfl ?_
              show Steps p.tables e below (T26.setTop (mkF m 152 #[.val (.long q0), .second, .val (.long q1), .second, .val (.int p2), .val (.long va), .second, .val (.long vb), .second, .val (.int (p2 &&& (3 : Int32))), .val (.long (f1 va vb)), .second, .val (.long (9223372036854775806 : Int64)), .second, .val (.long (va + vb)), .second] [(.long (f1 va vb))])) _
              refine XS.lload X26.here hx rfl (hb hby at_152) rfl ?_
              show Steps p.tables e below (T26.setTop (mkF m 154 #[.val (.long q0), .second, .val (.long q1), .second, .val (.int p2), .val (.long va), .second, .val (.long vb), .second, .val (.int (p2 &&& (3 : Int32))), .val (.long (f1 va vb)), .second, .val (.long (9223372036854775806 : Int64)), .second, .val (.long (va + vb)), .second] [(.long (9223372036854775806 : Int64)), (.long (f1 va vb))])) _
              refine XS.lcmp X26.here hx rfl (hb hby at_154) rfl ?_
              show Steps p.tables e below (T26.setTop (mkF m 155 #[.val (.long q0), .second, .val (.long q1), .second, .val (.int p2), .val (.long va), .second, .val (.long vb), .second, .val (.int (p2 &&& (3 : Int32))), .val (.long (f1 va vb)), .second, .val (.long (9223372036854775806 : Int64)), .second, .val (.long (va + vb)), .second] [(.int (lcmpW (f1 va vb) (9223372036854775806 : Int64)))])) _
              refine XS.ifNo X26.here hx rfl (hb hby at_155) rfl (Jvm.Free.XT.ll_ne_f (by rw [own_law va vb hm24.1 hm24.2, if_neg hc95_29, if_neg hc104_32, if_pos hc126_35] : (f1 va vb) = (9223372036854775806 : Int64))) ?_
              show Steps p.tables e below (T26.setTop (mkF m 158 #[.val (.long q0), .second, .val (.long q1), .second, .val (.int p2), .val (.long va), .second, .val (.long vb), .second, .val (.int (p2 &&& (3 : Int32))), .val (.long (f1 va vb)), .second, .val (.long (9223372036854775806 : Int64)), .second, .val (.long (va + vb)), .second] [])) _
              refine XS.iconst X26.here hx rfl (hb hby at_158) ?_
              show Steps p.tables e below (T26.setTop (mkF m 159 #[.val (.long q0), .second, .val (.long q1), .second, .val (.int p2), .val (.long va), .second, .val (.long vb), .second, .val (.int (p2 &&& (3 : Int32))), .val (.long (f1 va vb)), .second, .val (.long (9223372036854775806 : Int64)), .second, .val (.long (va + vb)), .second] [(.int (1 : Int32))])) _
              refine XS.goto X26.here hx rfl (pc0 := 159) (pc' := 163) rfl (hb hby at_159) (by decide) (by decide) ?_
              exact kt)
            obtain ⟨fs, hr, hrun, hended, hW, hsame⟩ := X26.leave (v := some (.int (1 : Int32))) (fun h => by rw [Bd.returns] at h; cases h)
            refine ⟨_, _, pre36 _ ?_, hrun, hended, _, _, rfl, ?_, ⟨_, rfl⟩, hW, hsame.mono (by decide) (by decide)⟩
            · show Steps p.tables e below (T26.setTop (mkF m 163 #[.val (.long q0), .second, .val (.long q1), .second, .val (.int p2), .val (.long va), .second, .val (.long vb), .second, .val (.int (p2 &&& (3 : Int32))), .val (.long (f1 va vb)), .second, .val (.long (9223372036854775806 : Int64)), .second, .val (.long (va + vb)), .second] [(.int (1 : Int32))])) _
              exact retN X26 hx (t := .boolean) Bd.returns (by simp) (hb hby at_163) hr
            · show Q0 Z q0 q1 p2 h0 n0 _ T26.heap _
              rw [e26]
              exact ⟨rfl, N26⟩
          · have pre37 : ∀ t, Steps p.tables e below (T26.setTop (mkF m 135 #[.val (.long q0), .second, .val (.long q1), .second, .val (.int p2), .val (.long va), .second, .val (.long vb), .second, .val (.int (p2 &&& (3 : Int32))), .val (.long (f1 va vb)), .second, .unset, .unset, .val (.long (va + vb)), .second] [(.int (lcmpW (va + vb) (9223372036854775807 : Int64)))])) t → Steps p.tables e below (s₁.setTop (entryFrame m #[(.long q0), (.long q1), (.int p2)] maxLocals)) t := fun t kt => pre34 t (by
              show Steps p.tables e below (T26.setTop (mkF m 126 #[.val (.long q0), .second, .val (.long q1), .second, .val (.int p2), .val (.long va), .second, .val (.long vb), .second, .val (.int (p2 &&& (3 : Int32))), .val (.long (f1 va vb)), .second, .unset, .unset, .val (.long (va + vb)), .second] [(.int (lcmpW (va + vb) (0 : Int64)))])) _
              refine XS.ifNo X26.here hx rfl (hb hby at_126) rfl (Jvm.Free.XT.ll_lt_f hc126_35) ?_
              show Steps p.tables e below (T26.setTop (mkF m 129 #[.val (.long q0), .second, .val (.long q1), .second, .val (.int p2), .val (.long va), .second, .val (.long vb), .second, .val (.int (p2 &&& (3 : Int32))), .val (.long (f1 va vb)), .second, .unset, .unset, .val (.long (va + vb)), .second] [])) _
              refine XS.lload X26.here hx rfl (hb hby at_129) rfl ?_
              show Steps p.tables e below (T26.setTop (mkF m 131 #[.val (.long q0), .second, .val (.long q1), .second, .val (.int p2), .val (.long va), .second, .val (.long vb), .second, .val (.int (p2 &&& (3 : Int32))), .val (.long (f1 va vb)), .second, .unset, .unset, .val (.long (va + vb)), .second] [(.long (va + vb))])) _
              refine X26.ldc2Long hx hown (mvT hZ (hw _ (List.mem_of_getElem? (i := 0) rfl))) (g := (mkF m 131 #[.val (.long q0), .second, .val (.long q1), .second, .val (.int p2), .val (.long va), .second, .val (.long vb), .second, .val (.int (p2 &&& (3 : Int32))), .val (.long (f1 va vb)), .second, .unset, .unset, .val (.long (va + vb)), .second] [(.long (va + vb))])) rfl (hb hby at_131) _ ?_
              show Steps p.tables e below (T26.setTop (mkF m 134 #[.val (.long q0), .second, .val (.long q1), .second, .val (.int p2), .val (.long va), .second, .val (.long vb), .second, .val (.int (p2 &&& (3 : Int32))), .val (.long (f1 va vb)), .second, .unset, .unset, .val (.long (va + vb)), .second] [(.long (9223372036854775807 : Int64)), (.long (va + vb))])) _
              refine XS.lcmp X26.here hx rfl (hb hby at_134) rfl ?_
              exact kt)
            by_cases hc135_38 : (va + vb) = (9223372036854775807 : Int64)
            · have pre39 : ∀ t, Steps p.tables e below (T26.setTop (mkF m 163 #[.val (.long q0), .second, .val (.long q1), .second, .val (.int p2), .val (.long va), .second, .val (.long vb), .second, .val (.int (p2 &&& (3 : Int32))), .val (.long (f1 va vb)), .second, .val (.long (9223372036854775806 : Int64)), .second, .val (.long (va + vb)), .second] [(.int (1 : Int32))])) t → Steps p.tables e below (s₁.setTop (entryFrame m #[(.long q0), (.long q1), (.int p2)] maxLocals)) t := fun t kt => pre37 t (by
                show Steps p.tables e below (T26.setTop (mkF m 135 #[.val (.long q0), .second, .val (.long q1), .second, .val (.int p2), .val (.long va), .second, .val (.long vb), .second, .val (.int (p2 &&& (3 : Int32))), .val (.long (f1 va vb)), .second, .unset, .unset, .val (.long (va + vb)), .second] [(.int (lcmpW (va + vb) (9223372036854775807 : Int64)))])) _
                refine XS.ifNo X26.here hx rfl (hb hby at_135) rfl (Jvm.Free.XT.ll_ne_f hc135_38) ?_
                show Steps p.tables e below (T26.setTop (mkF m 138 #[.val (.long q0), .second, .val (.long q1), .second, .val (.int p2), .val (.long va), .second, .val (.long vb), .second, .val (.int (p2 &&& (3 : Int32))), .val (.long (f1 va vb)), .second, .unset, .unset, .val (.long (va + vb)), .second] [])) _
                refine X26.ldc2Long hx hown (mvT hZ (hw _ (List.mem_of_getElem? (i := 7) rfl))) (g := (mkF m 138 #[.val (.long q0), .second, .val (.long q1), .second, .val (.int p2), .val (.long va), .second, .val (.long vb), .second, .val (.int (p2 &&& (3 : Int32))), .val (.long (f1 va vb)), .second, .unset, .unset, .val (.long (va + vb)), .second] [])) rfl (hb hby at_138) _ ?_
                show Steps p.tables e below (T26.setTop (mkF m 141 #[.val (.long q0), .second, .val (.long q1), .second, .val (.int p2), .val (.long va), .second, .val (.long vb), .second, .val (.int (p2 &&& (3 : Int32))), .val (.long (f1 va vb)), .second, .unset, .unset, .val (.long (va + vb)), .second] [(.long (9223372036854775806 : Int64))])) _
                refine XS.lstore X26.here hx rfl (hb hby at_141) rfl (l' := #[.val (.long q0), .second, .val (.long q1), .second, .val (.int p2), .val (.long va), .second, .val (.long vb), .second, .val (.int (p2 &&& (3 : Int32))), .val (.long (f1 va vb)), .second, .val (.long (9223372036854775806 : Int64)), .second, .val (.long (va + vb)), .second]) rfl ?_
                show Steps p.tables e below (T26.setTop (mkF m 143 #[.val (.long q0), .second, .val (.long q1), .second, .val (.int p2), .val (.long va), .second, .val (.long vb), .second, .val (.int (p2 &&& (3 : Int32))), .val (.long (f1 va vb)), .second, .val (.long (9223372036854775806 : Int64)), .second, .val (.long (va + vb)), .second] [])) _
                refine XS.goto X26.here hx rfl (pc0 := 143) (pc' := 150) rfl (hb hby at_143) (by decide) (by decide) ?_
                show Steps p.tables e below (T26.setTop (mkF m 150 #[.val (.long q0), .second, .val (.long q1), .second, .val (.int p2), .val (.long va), .second, .val (.long vb), .second, .val (.int (p2 &&& (3 : Int32))), .val (.long (f1 va vb)), .second, .val (.long (9223372036854775806 : Int64)), .second, .val (.long (va + vb)), .second] [])) _
                refine XS.lload X26.here hx rfl (hb hby at_150) rfl ?_
                show Steps p.tables e below (T26.setTop (mkF m 152 #[.val (.long q0), .second, .val (.long q1), .second, .val (.int p2), .val (.long va), .second, .val (.long vb), .second, .val (.int (p2 &&& (3 : Int32))), .val (.long (f1 va vb)), .second, .val (.long (9223372036854775806 : Int64)), .second, .val (.long (va + vb)), .second] [(.long (f1 va vb))])) _
                refine XS.lload X26.here hx rfl (hb hby at_152) rfl ?_
                show Steps p.tables e below (T26.setTop (mkF m 154 #[.val (.long q0), .second, .val (.long q1), .second, .val (.int p2), .val (.long va), .second, .val (.long vb), .second, .val (.int (p2 &&& (3 : Int32))), .val (.long (f1 va vb)), .second, .val (.long (9223372036854775806 : Int64)), .second, .val (.long (va + vb)), .second] [(.long (9223372036854775806 : Int64)), (.long (f1 va vb))])) _
                refine XS.lcmp X26.here hx rfl (hb hby at_154) rfl ?_
                show Steps p.tables e below (T26.setTop (mkF m 155 #[.val (.long q0), .second, .val (.long q1), .second, .val (.int p2), .val (.long va), .second, .val (.long vb), .second, .val (.int (p2 &&& (3 : Int32))), .val (.long (f1 va vb)), .second, .val (.long (9223372036854775806 : Int64)), .second, .val (.long (va + vb)), .second] [(.int (lcmpW (f1 va vb) (9223372036854775806 : Int64)))])) _
                refine XS.ifNo X26.here hx rfl (hb hby at_155) rfl (Jvm.Free.XT.ll_ne_f (by rw [own_law va vb hm24.1 hm24.2, if_neg hc95_29, if_neg hc104_32, if_neg hc126_35, if_pos hc135_38] : (f1 va vb) = (9223372036854775806 : Int64))) ?_
                show Steps p.tables e below (T26.setTop (mkF m 158 #[.val (.long q0), .second, .val (.long q1), .second, .val (.int p2), .val (.long va), .second, .val (.long vb), .second, .val (.int (p2 &&& (3 : Int32))), .val (.long (f1 va vb)), .second, .val (.long (9223372036854775806 : Int64)), .second, .val (.long (va + vb)), .second] [])) _
                refine XS.iconst X26.here hx rfl (hb hby at_158) ?_
                show Steps p.tables e below (T26.setTop (mkF m 159 #[.val (.long q0), .second, .val (.long q1), .second, .val (.int p2), .val (.long va), .second, .val (.long vb), .second, .val (.int (p2 &&& (3 : Int32))), .val (.long (f1 va vb)), .second, .val (.long (9223372036854775806 : Int64)), .second, .val (.long (va + vb)), .second] [(.int (1 : Int32))])) _
                refine XS.goto X26.here hx rfl (pc0 := 159) (pc' := 163) rfl (hb hby at_159) (by decide) (by decide) ?_
                exact kt)
              obtain ⟨fs, hr, hrun, hended, hW, hsame⟩ := X26.leave (v := some (.int (1 : Int32))) (fun h => by rw [Bd.returns] at h; cases h)
              refine ⟨_, _, pre39 _ ?_, hrun, hended, _, _, rfl, ?_, ⟨_, rfl⟩, hW, hsame.mono (by decide) (by decide)⟩
              · show Steps p.tables e below (T26.setTop (mkF m 163 #[.val (.long q0), .second, .val (.long q1), .second, .val (.int p2), .val (.long va), .second, .val (.long vb), .second, .val (.int (p2 &&& (3 : Int32))), .val (.long (f1 va vb)), .second, .val (.long (9223372036854775806 : Int64)), .second, .val (.long (va + vb)), .second] [(.int (1 : Int32))])) _
                exact retN X26 hx (t := .boolean) Bd.returns (by simp) (hb hby at_163) hr
              · show Q0 Z q0 q1 p2 h0 n0 _ T26.heap _
                rw [e26]
                exact ⟨rfl, N26⟩
            · have pre40 : ∀ t, Steps p.tables e below (T26.setTop (mkF m 163 #[.val (.long q0), .second, .val (.long q1), .second, .val (.int p2), .val (.long va), .second, .val (.long vb), .second, .val (.int (p2 &&& (3 : Int32))), .val (.long (f1 va vb)), .second, .val (.long (va + vb)), .second, .val (.long (va + vb)), .second] [(.int (1 : Int32))])) t → Steps p.tables e below (s₁.setTop (entryFrame m #[(.long q0), (.long q1), (.int p2)] maxLocals)) t := fun t kt => pre37 t (by
                show Steps p.tables e below (T26.setTop (mkF m 135 #[.val (.long q0), .second, .val (.long q1), .second, .val (.int p2), .val (.long va), .second, .val (.long vb), .second, .val (.int (p2 &&& (3 : Int32))), .val (.long (f1 va vb)), .second, .unset, .unset, .val (.long (va + vb)), .second] [(.int (lcmpW (va + vb) (9223372036854775807 : Int64)))])) _
                refine XS.ifYes X26.here hx rfl (pc0 := 135) (pc' := 146) rfl (hb hby at_135) rfl (Jvm.Free.XT.ll_ne_t hc135_38) (by decide) (by decide) ?_
                show Steps p.tables e below (T26.setTop (mkF m 146 #[.val (.long q0), .second, .val (.long q1), .second, .val (.int p2), .val (.long va), .second, .val (.long vb), .second, .val (.int (p2 &&& (3 : Int32))), .val (.long (f1 va vb)), .second, .unset, .unset, .val (.long (va + vb)), .second] [])) _
                refine XS.lload X26.here hx rfl (hb hby at_146) rfl ?_
                show Steps p.tables e below (T26.setTop (mkF m 148 #[.val (.long q0), .second, .val (.long q1), .second, .val (.int p2), .val (.long va), .second, .val (.long vb), .second, .val (.int (p2 &&& (3 : Int32))), .val (.long (f1 va vb)), .second, .unset, .unset, .val (.long (va + vb)), .second] [(.long (va + vb))])) _
                refine XS.lstore X26.here hx rfl (hb hby at_148) rfl (l' := #[.val (.long q0), .second, .val (.long q1), .second, .val (.int p2), .val (.long va), .second, .val (.long vb), .second, .val (.int (p2 &&& (3 : Int32))), .val (.long (f1 va vb)), .second, .val (.long (va + vb)), .second, .val (.long (va + vb)), .second]) rfl ?_
                show Steps p.tables e below (T26.setTop (mkF m 150 #[.val (.long q0), .second, .val (.long q1), .second, .val (.int p2), .val (.long va), .second, .val (.long vb), .second, .val (.int (p2 &&& (3 : Int32))), .val (.long (f1 va vb)), .second, .val (.long (va + vb)), .second, .val (.long (va + vb)), .second] [])) _
                refine XS.lload X26.here hx rfl (hb hby at_150) rfl ?_
                show Steps p.tables e below (T26.setTop (mkF m 152 #[.val (.long q0), .second, .val (.long q1), .second, .val (.int p2), .val (.long va), .second, .val (.long vb), .second, .val (.int (p2 &&& (3 : Int32))), .val (.long (f1 va vb)), .second, .val (.long (va + vb)), .second, .val (.long (va + vb)), .second] [(.long (f1 va vb))])) _
                refine XS.lload X26.here hx rfl (hb hby at_152) rfl ?_
                show Steps p.tables e below (T26.setTop (mkF m 154 #[.val (.long q0), .second, .val (.long q1), .second, .val (.int p2), .val (.long va), .second, .val (.long vb), .second, .val (.int (p2 &&& (3 : Int32))), .val (.long (f1 va vb)), .second, .val (.long (va + vb)), .second, .val (.long (va + vb)), .second] [(.long (va + vb)), (.long (f1 va vb))])) _
                refine XS.lcmp X26.here hx rfl (hb hby at_154) rfl ?_
                show Steps p.tables e below (T26.setTop (mkF m 155 #[.val (.long q0), .second, .val (.long q1), .second, .val (.int p2), .val (.long va), .second, .val (.long vb), .second, .val (.int (p2 &&& (3 : Int32))), .val (.long (f1 va vb)), .second, .val (.long (va + vb)), .second, .val (.long (va + vb)), .second] [(.int (lcmpW (f1 va vb) (va + vb)))])) _
                refine XS.ifNo X26.here hx rfl (hb hby at_155) rfl (Jvm.Free.XT.ll_ne_f (by rw [own_law va vb hm24.1 hm24.2, if_neg hc95_29, if_neg hc104_32, if_neg hc126_35, if_neg hc135_38] : (f1 va vb) = (va + vb))) ?_
                show Steps p.tables e below (T26.setTop (mkF m 158 #[.val (.long q0), .second, .val (.long q1), .second, .val (.int p2), .val (.long va), .second, .val (.long vb), .second, .val (.int (p2 &&& (3 : Int32))), .val (.long (f1 va vb)), .second, .val (.long (va + vb)), .second, .val (.long (va + vb)), .second] [])) _
                refine XS.iconst X26.here hx rfl (hb hby at_158) ?_
                show Steps p.tables e below (T26.setTop (mkF m 159 #[.val (.long q0), .second, .val (.long q1), .second, .val (.int p2), .val (.long va), .second, .val (.long vb), .second, .val (.int (p2 &&& (3 : Int32))), .val (.long (f1 va vb)), .second, .val (.long (va + vb)), .second, .val (.long (va + vb)), .second] [(.int (1 : Int32))])) _
                refine XS.goto X26.here hx rfl (pc0 := 159) (pc' := 163) rfl (hb hby at_159) (by decide) (by decide) ?_
                exact kt)
              obtain ⟨fs, hr, hrun, hended, hW, hsame⟩ := X26.leave (v := some (.int (1 : Int32))) (fun h => by rw [Bd.returns] at h; cases h)
              refine ⟨_, _, pre40 _ ?_, hrun, hended, _, _, rfl, ?_, ⟨_, rfl⟩, hW, hsame.mono (by decide) (by decide)⟩
              · show Steps p.tables e below (T26.setTop (mkF m 163 #[.val (.long q0), .second, .val (.long q1), .second, .val (.int p2), .val (.long va), .second, .val (.long vb), .second, .val (.int (p2 &&& (3 : Int32))), .val (.long (f1 va vb)), .second, .val (.long (va + vb)), .second, .val (.long (va + vb)), .second] [(.int (1 : Int32))])) _
                exact retN X26 hx (t := .boolean) Bd.returns (by simp) (hb hby at_163) hr
              · show Q0 Z q0 q1 p2 h0 n0 _ T26.heap _
                rw [e26]
                exact ⟨rfl, N26⟩
    · have pre41 : ∀ t, Steps p.tables e below (s₁.setTop (mkF m 51 #[.val (.long q0), .second, .val (.long q1), .second, .val (.int p2), .val (.long (q0 &&& (9223372036854775807 : Int64))), .second, .val (.long (q1 &&& (9223372036854775807 : Int64))), .second, .val (.int (p2 &&& (3 : Int32))), .unset, .unset, .unset, .unset, .unset, .unset] [(.int (3 : Int32)), (.int (p2 &&& (3 : Int32)))])) t → Steps p.tables e below (s₁.setTop (entryFrame m #[(.long q0), (.long q1), (.int p2)] maxLocals)) t := fun t kt => pre21 t (by
        show Steps p.tables e below (s₁.setTop (mkF m 37 #[.val (.long q0), .second, .val (.long q1), .second, .val (.int p2), .val (.long (q0 &&& (9223372036854775807 : Int64))), .second, .val (.long (q1 &&& (9223372036854775807 : Int64))), .second, .val (.int (p2 &&& (3 : Int32))), .unset, .unset, .unset, .unset, .unset, .unset] [(.int (2 : Int32)), (.int (p2 &&& (3 : Int32)))])) _
        refine XS.icmpYes X0.here hx rfl (pc0 := 37) (pc' := 48) rfl (hb hby at_37) rfl (feq hc37_22).2 (by decide) (by decide) ?_
        show Steps p.tables e below (s₁.setTop (mkF m 48 #[.val (.long q0), .second, .val (.long q1), .second, .val (.int p2), .val (.long (q0 &&& (9223372036854775807 : Int64))), .second, .val (.long (q1 &&& (9223372036854775807 : Int64))), .second, .val (.int (p2 &&& (3 : Int32))), .unset, .unset, .unset, .unset, .unset, .unset] [])) _
        refine XS.iload X0.here hx rfl (hb hby at_48) rfl ?_
        show Steps p.tables e below (s₁.setTop (mkF m 50 #[.val (.long q0), .second, .val (.long q1), .second, .val (.int p2), .val (.long (q0 &&& (9223372036854775807 : Int64))), .second, .val (.long (q1 &&& (9223372036854775807 : Int64))), .second, .val (.int (p2 &&& (3 : Int32))), .unset, .unset, .unset, .unset, .unset, .unset] [(.int (p2 &&& (3 : Int32)))])) _
        refine XS.iconst X0.here hx rfl (hb hby at_50) ?_
        exact kt)
      by_cases hc51_42 : (p2 &&& (3 : Int32)) = (3 : Int32)
      · have pre43 : ∀ t, Steps p.tables e below (s₁.setTop (mkF m 80 #[.val (.long q0), .second, .val (.long q1), .second, .val (.int p2), .val (.long (q0 &&& (9223372036854775807 : Int64))), .second, .val (.long ((((9223372036854775806 : Int64) - (q0 &&& (9223372036854775807 : Int64))) + (((((p2.toUInt32 >>> ((2 : Int32) &&& 31).toUInt32).toInt32) &&& (3 : Int32)).toInt64) - (1 : Int64))) &&& (9223372036854775807 : Int64))), .second, .val (.int (p2 &&& (3 : Int32))), .val (.long (((((p2.toUInt32 >>> ((2 : Int32) &&& 31).toUInt32).toInt32) &&& (3 : Int32)).toInt64) - (1 : Int64))), .second, .unset, .unset, .unset, .unset] [])) t → Steps p.tables e below (s₁.setTop (entryFrame m #[(.long q0), (.long q1), (.int p2)] maxLocals)) t := fun t kt => pre41 t (by
          show Steps p.tables e below (s₁.setTop (mkF m 51 #[.val (.long q0), .second, .val (.long q1), .second, .val (.int p2), .val (.long (q0 &&& (9223372036854775807 : Int64))), .second, .val (.long (q1 &&& (9223372036854775807 : Int64))), .second, .val (.int (p2 &&& (3 : Int32))), .unset, .unset, .unset, .unset, .unset, .unset] [(.int (3 : Int32)), (.int (p2 &&& (3 : Int32)))])) _
          refine XS.icmpNo X0.here hx rfl (hb hby at_51) rfl (teq hc51_42).2 ?_
          show Steps p.tables e below (s₁.setTop (mkF m 54 #[.val (.long q0), .second, .val (.long q1), .second, .val (.int p2), .val (.long (q0 &&& (9223372036854775807 : Int64))), .second, .val (.long (q1 &&& (9223372036854775807 : Int64))), .second, .val (.int (p2 &&& (3 : Int32))), .unset, .unset, .unset, .unset, .unset, .unset] [])) _
          refine XS.iload X0.here hx rfl (hb hby at_54) rfl ?_
          show Steps p.tables e below (s₁.setTop (mkF m 56 #[.val (.long q0), .second, .val (.long q1), .second, .val (.int p2), .val (.long (q0 &&& (9223372036854775807 : Int64))), .second, .val (.long (q1 &&& (9223372036854775807 : Int64))), .second, .val (.int (p2 &&& (3 : Int32))), .unset, .unset, .unset, .unset, .unset, .unset] [(.int p2)])) _
          refine XS.iconst X0.here hx rfl (hb hby at_56) ?_
          show Steps p.tables e below (s₁.setTop (mkF m 57 #[.val (.long q0), .second, .val (.long q1), .second, .val (.int p2), .val (.long (q0 &&& (9223372036854775807 : Int64))), .second, .val (.long (q1 &&& (9223372036854775807 : Int64))), .second, .val (.int (p2 &&& (3 : Int32))), .unset, .unset, .unset, .unset, .unset, .unset] [(.int (2 : Int32)), (.int p2)])) _
          refine XS.iushr X0.here hx rfl (hb hby at_57) rfl ?_
          show Steps p.tables e below (s₁.setTop (mkF m 58 #[.val (.long q0), .second, .val (.long q1), .second, .val (.int p2), .val (.long (q0 &&& (9223372036854775807 : Int64))), .second, .val (.long (q1 &&& (9223372036854775807 : Int64))), .second, .val (.int (p2 &&& (3 : Int32))), .unset, .unset, .unset, .unset, .unset, .unset] [(.int ((p2.toUInt32 >>> ((2 : Int32) &&& 31).toUInt32).toInt32))])) _
          refine XS.iconst X0.here hx rfl (hb hby at_58) ?_
          show Steps p.tables e below (s₁.setTop (mkF m 59 #[.val (.long q0), .second, .val (.long q1), .second, .val (.int p2), .val (.long (q0 &&& (9223372036854775807 : Int64))), .second, .val (.long (q1 &&& (9223372036854775807 : Int64))), .second, .val (.int (p2 &&& (3 : Int32))), .unset, .unset, .unset, .unset, .unset, .unset] [(.int (3 : Int32)), (.int ((p2.toUInt32 >>> ((2 : Int32) &&& 31).toUInt32).toInt32))])) _
          refine XS.iand X0.here hx rfl (hb hby at_59) rfl ?_
          show Steps p.tables e below (s₁.setTop (mkF m 60 #[.val (.long q0), .second, .val (.long q1), .second, .val (.int p2), .val (.long (q0 &&& (9223372036854775807 : Int64))), .second, .val (.long (q1 &&& (9223372036854775807 : Int64))), .second, .val (.int (p2 &&& (3 : Int32))), .unset, .unset, .unset, .unset, .unset, .unset] [(.int (((p2.toUInt32 >>> ((2 : Int32) &&& 31).toUInt32).toInt32) &&& (3 : Int32)))])) _
          refine XS.i2l X0.here hx rfl (hb hby at_60) rfl ?_
          show Steps p.tables e below (s₁.setTop (mkF m 61 #[.val (.long q0), .second, .val (.long q1), .second, .val (.int p2), .val (.long (q0 &&& (9223372036854775807 : Int64))), .second, .val (.long (q1 &&& (9223372036854775807 : Int64))), .second, .val (.int (p2 &&& (3 : Int32))), .unset, .unset, .unset, .unset, .unset, .unset] [(.long ((((p2.toUInt32 >>> ((2 : Int32) &&& 31).toUInt32).toInt32) &&& (3 : Int32)).toInt64))])) _
          refine XS.lconst X0.here hx rfl (hb hby at_61) ?_
          show Steps p.tables e below (s₁.setTop (mkF m 62 #[.val (.long q0), .second, .val (.long q1), .second, .val (.int p2), .val (.long (q0 &&& (9223372036854775807 : Int64))), .second, .val (.long (q1 &&& (9223372036854775807 : Int64))), .second, .val (.int (p2 &&& (3 : Int32))), .unset, .unset, .unset, .unset, .unset, .unset] [(.long (1 : Int64)), (.long ((((p2.toUInt32 >>> ((2 : Int32) &&& 31).toUInt32).toInt32) &&& (3 : Int32)).toInt64))])) _
          refine XS.lsub X0.here hx rfl (hb hby at_62) rfl ?_
          show Steps p.tables e below (s₁.setTop (mkF m 63 #[.val (.long q0), .second, .val (.long q1), .second, .val (.int p2), .val (.long (q0 &&& (9223372036854775807 : Int64))), .second, .val (.long (q1 &&& (9223372036854775807 : Int64))), .second, .val (.int (p2 &&& (3 : Int32))), .unset, .unset, .unset, .unset, .unset, .unset] [(.long (((((p2.toUInt32 >>> ((2 : Int32) &&& 31).toUInt32).toInt32) &&& (3 : Int32)).toInt64) - (1 : Int64)))])) _
          refine XS.lstore X0.here hx rfl (hb hby at_63) rfl (l' := #[.val (.long q0), .second, .val (.long q1), .second, .val (.int p2), .val (.long (q0 &&& (9223372036854775807 : Int64))), .second, .val (.long (q1 &&& (9223372036854775807 : Int64))), .second, .val (.int (p2 &&& (3 : Int32))), .val (.long (((((p2.toUInt32 >>> ((2 : Int32) &&& 31).toUInt32).toInt32) &&& (3 : Int32)).toInt64) - (1 : Int64))), .second, .unset, .unset, .unset, .unset]) rfl ?_
          show Steps p.tables e below (s₁.setTop (mkF m 65 #[.val (.long q0), .second, .val (.long q1), .second, .val (.int p2), .val (.long (q0 &&& (9223372036854775807 : Int64))), .second, .val (.long (q1 &&& (9223372036854775807 : Int64))), .second, .val (.int (p2 &&& (3 : Int32))), .val (.long (((((p2.toUInt32 >>> ((2 : Int32) &&& 31).toUInt32).toInt32) &&& (3 : Int32)).toInt64) - (1 : Int64))), .second, .unset, .unset, .unset, .unset] [])) _
          refine X0.ldc2Long hx hown (mvT hZ (hw _ (List.mem_of_getElem? (i := 7) rfl))) (g := (mkF m 65 #[.val (.long q0), .second, .val (.long q1), .second, .val (.int p2), .val (.long (q0 &&& (9223372036854775807 : Int64))), .second, .val (.long (q1 &&& (9223372036854775807 : Int64))), .second, .val (.int (p2 &&& (3 : Int32))), .val (.long (((((p2.toUInt32 >>> ((2 : Int32) &&& 31).toUInt32).toInt32) &&& (3 : Int32)).toInt64) - (1 : Int64))), .second, .unset, .unset, .unset, .unset] [])) rfl (hb hby at_65) _ ?_
          show Steps p.tables e below (s₁.setTop (mkF m 68 #[.val (.long q0), .second, .val (.long q1), .second, .val (.int p2), .val (.long (q0 &&& (9223372036854775807 : Int64))), .second, .val (.long (q1 &&& (9223372036854775807 : Int64))), .second, .val (.int (p2 &&& (3 : Int32))), .val (.long (((((p2.toUInt32 >>> ((2 : Int32) &&& 31).toUInt32).toInt32) &&& (3 : Int32)).toInt64) - (1 : Int64))), .second, .unset, .unset, .unset, .unset] [(.long (9223372036854775806 : Int64))])) _
          refine XS.lload X0.here hx rfl (hb hby at_68) rfl ?_
          show Steps p.tables e below (s₁.setTop (mkF m 70 #[.val (.long q0), .second, .val (.long q1), .second, .val (.int p2), .val (.long (q0 &&& (9223372036854775807 : Int64))), .second, .val (.long (q1 &&& (9223372036854775807 : Int64))), .second, .val (.int (p2 &&& (3 : Int32))), .val (.long (((((p2.toUInt32 >>> ((2 : Int32) &&& 31).toUInt32).toInt32) &&& (3 : Int32)).toInt64) - (1 : Int64))), .second, .unset, .unset, .unset, .unset] [(.long (q0 &&& (9223372036854775807 : Int64))), (.long (9223372036854775806 : Int64))])) _
          refine XS.lsub X0.here hx rfl (hb hby at_70) rfl ?_
          show Steps p.tables e below (s₁.setTop (mkF m 71 #[.val (.long q0), .second, .val (.long q1), .second, .val (.int p2), .val (.long (q0 &&& (9223372036854775807 : Int64))), .second, .val (.long (q1 &&& (9223372036854775807 : Int64))), .second, .val (.int (p2 &&& (3 : Int32))), .val (.long (((((p2.toUInt32 >>> ((2 : Int32) &&& 31).toUInt32).toInt32) &&& (3 : Int32)).toInt64) - (1 : Int64))), .second, .unset, .unset, .unset, .unset] [(.long ((9223372036854775806 : Int64) - (q0 &&& (9223372036854775807 : Int64))))])) _
          refine XS.lload X0.here hx rfl (hb hby at_71) rfl ?_
          show Steps p.tables e below (s₁.setTop (mkF m 73 #[.val (.long q0), .second, .val (.long q1), .second, .val (.int p2), .val (.long (q0 &&& (9223372036854775807 : Int64))), .second, .val (.long (q1 &&& (9223372036854775807 : Int64))), .second, .val (.int (p2 &&& (3 : Int32))), .val (.long (((((p2.toUInt32 >>> ((2 : Int32) &&& 31).toUInt32).toInt32) &&& (3 : Int32)).toInt64) - (1 : Int64))), .second, .unset, .unset, .unset, .unset] [(.long (((((p2.toUInt32 >>> ((2 : Int32) &&& 31).toUInt32).toInt32) &&& (3 : Int32)).toInt64) - (1 : Int64))), (.long ((9223372036854775806 : Int64) - (q0 &&& (9223372036854775807 : Int64))))])) _
          refine XS.ladd X0.here hx rfl (hb hby at_73) rfl ?_
          show Steps p.tables e below (s₁.setTop (mkF m 74 #[.val (.long q0), .second, .val (.long q1), .second, .val (.int p2), .val (.long (q0 &&& (9223372036854775807 : Int64))), .second, .val (.long (q1 &&& (9223372036854775807 : Int64))), .second, .val (.int (p2 &&& (3 : Int32))), .val (.long (((((p2.toUInt32 >>> ((2 : Int32) &&& 31).toUInt32).toInt32) &&& (3 : Int32)).toInt64) - (1 : Int64))), .second, .unset, .unset, .unset, .unset] [(.long (((9223372036854775806 : Int64) - (q0 &&& (9223372036854775807 : Int64))) + (((((p2.toUInt32 >>> ((2 : Int32) &&& 31).toUInt32).toInt32) &&& (3 : Int32)).toInt64) - (1 : Int64))))])) _
          refine X0.ldc2Long hx hown (mvT hZ (hw _ (List.mem_of_getElem? (i := 0) rfl))) (g := (mkF m 74 #[.val (.long q0), .second, .val (.long q1), .second, .val (.int p2), .val (.long (q0 &&& (9223372036854775807 : Int64))), .second, .val (.long (q1 &&& (9223372036854775807 : Int64))), .second, .val (.int (p2 &&& (3 : Int32))), .val (.long (((((p2.toUInt32 >>> ((2 : Int32) &&& 31).toUInt32).toInt32) &&& (3 : Int32)).toInt64) - (1 : Int64))), .second, .unset, .unset, .unset, .unset] [(.long (((9223372036854775806 : Int64) - (q0 &&& (9223372036854775807 : Int64))) + (((((p2.toUInt32 >>> ((2 : Int32) &&& 31).toUInt32).toInt32) &&& (3 : Int32)).toInt64) - (1 : Int64))))])) rfl (hb hby at_74) _ ?_
          show Steps p.tables e below (s₁.setTop (mkF m 77 #[.val (.long q0), .second, .val (.long q1), .second, .val (.int p2), .val (.long (q0 &&& (9223372036854775807 : Int64))), .second, .val (.long (q1 &&& (9223372036854775807 : Int64))), .second, .val (.int (p2 &&& (3 : Int32))), .val (.long (((((p2.toUInt32 >>> ((2 : Int32) &&& 31).toUInt32).toInt32) &&& (3 : Int32)).toInt64) - (1 : Int64))), .second, .unset, .unset, .unset, .unset] [(.long (9223372036854775807 : Int64)), (.long (((9223372036854775806 : Int64) - (q0 &&& (9223372036854775807 : Int64))) + (((((p2.toUInt32 >>> ((2 : Int32) &&& 31).toUInt32).toInt32) &&& (3 : Int32)).toInt64) - (1 : Int64))))])) _
          refine XS.land X0.here hx rfl (hb hby at_77) rfl ?_
          show Steps p.tables e below (s₁.setTop (mkF m 78 #[.val (.long q0), .second, .val (.long q1), .second, .val (.int p2), .val (.long (q0 &&& (9223372036854775807 : Int64))), .second, .val (.long (q1 &&& (9223372036854775807 : Int64))), .second, .val (.int (p2 &&& (3 : Int32))), .val (.long (((((p2.toUInt32 >>> ((2 : Int32) &&& 31).toUInt32).toInt32) &&& (3 : Int32)).toInt64) - (1 : Int64))), .second, .unset, .unset, .unset, .unset] [(.long ((((9223372036854775806 : Int64) - (q0 &&& (9223372036854775807 : Int64))) + (((((p2.toUInt32 >>> ((2 : Int32) &&& 31).toUInt32).toInt32) &&& (3 : Int32)).toInt64) - (1 : Int64))) &&& (9223372036854775807 : Int64)))])) _
          refine XS.lstore X0.here hx rfl (hb hby at_78) rfl (l' := #[.val (.long q0), .second, .val (.long q1), .second, .val (.int p2), .val (.long (q0 &&& (9223372036854775807 : Int64))), .second, .val (.long ((((9223372036854775806 : Int64) - (q0 &&& (9223372036854775807 : Int64))) + (((((p2.toUInt32 >>> ((2 : Int32) &&& 31).toUInt32).toInt32) &&& (3 : Int32)).toInt64) - (1 : Int64))) &&& (9223372036854775807 : Int64))), .second, .val (.int (p2 &&& (3 : Int32))), .val (.long (((((p2.toUInt32 >>> ((2 : Int32) &&& 31).toUInt32).toInt32) &&& (3 : Int32)).toInt64) - (1 : Int64))), .second, .unset, .unset, .unset, .unset]) rfl ?_
          exact kt)
        obtain ⟨va, vb, hm44, pre44⟩ : ∃ (va : Int64) (vb : Int64), (0 ≤ va.toInt ∧ 0 ≤ vb.toInt) ∧ ∀ t, Steps p.tables e below (s₁.setTop (mkF m 80 #[.val (.long q0), .second, .val (.long q1), .second, .val (.int p2), .val (.long va), .second, .val (.long vb), .second, .val (.int (p2 &&& (3 : Int32))), .val (.long (((((p2.toUInt32 >>> ((2 : Int32) &&& 31).toUInt32).toInt32) &&& (3 : Int32)).toInt64) - (1 : Int64))), .second, .unset, .unset, .unset, .unset] [])) t → Steps p.tables e below (s₁.setTop (entryFrame m #[(.long q0), (.long q1), (.int p2)] maxLocals)) t := ⟨(q0 &&& (9223372036854775807 : Int64)), ((((9223372036854775806 : Int64) - (q0 &&& (9223372036854775807 : Int64))) + (((((p2.toUInt32 >>> ((2 : Int32) &&& 31).toUInt32).toInt32) &&& (3 : Int32)).toInt64) - (1 : Int64))) &&& (9223372036854775807 : Int64)), ⟨(by have hk := c_maskL q0 (9223372036854775807 : Int64) 63 (by decide) (by decide); omega), (by have hk := c_maskL (((9223372036854775806 : Int64) - (q0 &&& (9223372036854775807 : Int64))) + (((((p2.toUInt32 >>> ((2 : Int32) &&& 31).toUInt32).toInt32) &&& (3 : Int32)).toInt64) - (1 : Int64))) (9223372036854775807 : Int64) 63 (by decide) (by decide); omega)⟩, pre43⟩
        have pre45 : ∀ t, Steps p.tables e below (s₁.setTop (mkF m 84 #[.val (.long q0), .second, .val (.long q1), .second, .val (.int p2), .val (.long va), .second, .val (.long vb), .second, .val (.int (p2 &&& (3 : Int32))), .val (.long (((((p2.toUInt32 >>> ((2 : Int32) &&& 31).toUInt32).toInt32) &&& (3 : Int32)).toInt64) - (1 : Int64))), .second, .unset, .unset, .unset, .unset] [(.long vb), (.long va)])) t → Steps p.tables e below (s₁.setTop (entryFrame m #[(.long q0), (.long q1), (.int p2)] maxLocals)) t := fun t kt => pre44 t (by
          show Steps p.tables e below (s₁.setTop (mkF m 80 #[.val (.long q0), .second, .val (.long q1), .second, .val (.int p2), .val (.long va), .second, .val (.long vb), .second, .val (.int (p2 &&& (3 : Int32))), .val (.long (((((p2.toUInt32 >>> ((2 : Int32) &&& 31).toUInt32).toInt32) &&& (3 : Int32)).toInt64) - (1 : Int64))), .second, .unset, .unset, .unset, .unset] [])) _
          refine XS.lload X0.here hx rfl (hb hby at_80) rfl ?_
          show Steps p.tables e below (s₁.setTop (mkF m 82 #[.val (.long q0), .second, .val (.long q1), .second, .val (.int p2), .val (.long va), .second, .val (.long vb), .second, .val (.int (p2 &&& (3 : Int32))), .val (.long (((((p2.toUInt32 >>> ((2 : Int32) &&& 31).toUInt32).toInt32) &&& (3 : Int32)).toInt64) - (1 : Int64))), .second, .unset, .unset, .unset, .unset] [(.long va)])) _
          refine XS.lload X0.here hx rfl (hb hby at_82) rfl ?_
          exact kt)
        obtain ⟨_, _, ⟨T46, L46, k46, n46⟩, -, X46, ⟨Lc46, hQ46, l46, y46, z46⟩, st46⟩ := Jvm.LawKit.callS X0 hx (y := (⟨"com/example/shapelint/shapelint/ValueNodes", "plus", "(JJ)J"⟩ : MethodName)) hown (mvT hZ (hw _ (List.mem_of_getElem? (i := 1) rfl))) (mvT hZ (hw _ (List.mem_of_getElem? (i := 2) rfl))) (mvT hZ (hw _ (List.mem_of_getElem? (i := 3) rfl))) (mvT hZ (hw _ (List.mem_of_getElem? (i := 4) rfl))) (by decide) (backOf (W := 0) (rm1 l Z av hw [] va vb  h0 n0 Z0 ) hZ (hw _ (List.mem_of_getElem? (i := 4) rfl)) (hw _ (List.mem_of_getElem? (i := 3) rfl)) (by decide) (by decide)) (g := (mkF m 84 #[.val (.long q0), .second, .val (.long q1), .second, .val (.int p2), .val (.long va), .second, .val (.long vb), .second, .val (.int (p2 &&& (3 : Int32))), .val (.long (((((p2.toUInt32 >>> ((2 : Int32) &&& 31).toUInt32).toInt32) &&& (3 : Int32)).toInt64) - (1 : Int64))), .second, .unset, .unset, .unset, .unset] [(.long vb), (.long va)])) rfl (by rw [hml]; rfl) (argsL := [(.long va), (.long vb)]) (rest := []) (lenOf pd__JJ_J rfl) rfl (by show 2 * 0 + _ ≤ _; exact Nat.le_of_eq rfl) (hb hby at_84) (fun _ _ => ⟨rfl, e0, (by decide : 0 + 0 ≤ _), (by decide : 0 + 0 ≤ _)⟩)
        dsimp only [Pt.U, Pt.locs, Pt.cells, Pt.slots] at X46 l46 y46 z46 st46 hQ46
        subst l46 y46 z46
        obtain ⟨rfl, N46q, e46⟩ := hQ46
        have N46 := Fr.app N0 N46q
        have pre47 : ∀ t, Steps p.tables e below (T46.setTop (mkF m 87 #[.val (.long q0), .second, .val (.long q1), .second, .val (.int p2), .val (.long va), .second, .val (.long vb), .second, .val (.int (p2 &&& (3 : Int32))), .val (.long (((((p2.toUInt32 >>> ((2 : Int32) &&& 31).toUInt32).toInt32) &&& (3 : Int32)).toInt64) - (1 : Int64))), .second, .unset, .unset, .unset, .unset] [(.long (f1 va vb))])) t → Steps p.tables e below (s₁.setTop (entryFrame m #[(.long q0), (.long q1), (.int p2)] maxLocals)) t := fun t kt => pre45 t (st46 _ kt)
        have pre48 : ∀ t, Steps p.tables e below (T46.setTop (mkF m 95 #[.val (.long q0), .second, .val (.long q1), .second, .val (.int p2), .val (.long va), .second, .val (.long vb), .second, .val (.int (p2 &&& (3 : Int32))), .val (.long (f1 va vb)), .second, .unset, .unset, .unset, .unset] [(.int (lcmpW va (9223372036854775807 : Int64)))])) t → Steps p.tables e below (s₁.setTop (entryFrame m #[(.long q0), (.long q1), (.int p2)] maxLocals)) t := fun t kt => pre47 t (by
          show Steps p.tables e below (T46.setTop (mkF m 87 #[.val (.long q0), .second, .val (.long q1), .second, .val (.int p2), .val (.long va), .second, .val (.long vb), .second, .val (.int (p2 &&& (3 : Int32))), .val (.long (((((p2.toUInt32 >>> ((2 : Int32) &&& 31).toUInt32).toInt32) &&& (3 : Int32)).toInt64) - (1 : Int64))), .second, .unset, .unset, .unset, .unset] [(.long (f1 va vb))])) _
          refine XS.lstore X46.here hx rfl (hb hby at_87) rfl (l' := #[.val (.long q0), .second, .val (.long q1), .second, .val (.int p2), .val (.long va), .second, .val (.long vb), .second, .val (.int (p2 &&& (3 : Int32))), .val (.long (f1 va vb)), .second, .unset, .unset, .unset, .unset]) rfl ?_
          show Steps p.tables e below (T46.setTop (mkF m 89 #[.val (.long q0), .second, .val (.long q1), .second, .val (.int p2), .val (.long va), .second, .val (.long vb), .second, .val (.int (p2 &&& (3 : Int32))), .val (.long (f1 va vb)), .second, .unset, .unset, .unset, .unset] [])) _
          refine XS.lload X46.here hx rfl (hb hby at_89) rfl ?_
          show Steps p.tables e below (T46.setTop (mkF m 91 #[.val (.long q0), .second, .val (.long q1), .second, .val (.int p2), .val (.long va), .second, .val (.long vb), .second, .val (.int (p2 &&& (3 : Int32))), .val (.long (f1 va vb)), .second, .unset, .unset, .unset, .unset] [(.long va)])) _
          refine X46.ldc2Long hx hown (mvT hZ (hw _ (List.mem_of_getElem? (i := 0) rfl))) (g := (mkF m 91 #[.val (.long q0), .second, .val (.long q1), .second, .val (.int p2), .val (.long va), .second, .val (.long vb), .second, .val (.int (p2 &&& (3 : Int32))), .val (.long (f1 va vb)), .second, .unset, .unset, .unset, .unset] [(.long va)])) rfl (hb hby at_91) _ ?_
          show Steps p.tables e below (T46.setTop (mkF m 94 #[.val (.long q0), .second, .val (.long q1), .second, .val (.int p2), .val (.long va), .second, .val (.long vb), .second, .val (.int (p2 &&& (3 : Int32))), .val (.long (f1 va vb)), .second, .unset, .unset, .unset, .unset] [(.long (9223372036854775807 : Int64)), (.long va)])) _
          refine XS.lcmp X46.here hx rfl (hb hby at_94) rfl ?_
          exact kt)
        by_cases hc95_49 : va = (9223372036854775807 : Int64)
        · have pre50 : ∀ t, Steps p.tables e below (T46.setTop (mkF m 163 #[.val (.long q0), .second, .val (.long q1), .second, .val (.int p2), .val (.long va), .second, .val (.long vb), .second, .val (.int (p2 &&& (3 : Int32))), .val (.long (f1 va vb)), .second, .val (.long (9223372036854775807 : Int64)), .second, .unset, .unset] [(.int (1 : Int32))])) t → Steps p.tables e below (s₁.setTop (entryFrame m #[(.long q0), (.long q1), (.int p2)] maxLocals)) t := fun t kt => pre48 t (by
            show Steps p.tables e below (T46.setTop (mkF m 95 #[.val (.long q0), .second, .val (.long q1), .second, .val (.int p2), .val (.long va), .second, .val (.long vb), .second, .val (.int (p2 &&& (3 : Int32))), .val (.long (f1 va vb)), .second, .unset, .unset, .unset, .unset] [(.int (lcmpW va (9223372036854775807 : Int64)))])) _
            refine XS.ifYes X46.here hx rfl (pc0 := 95) (pc' := 107) rfl (hb hby at_95) rfl (Jvm.Free.XT.ll_eq_t hc95_49) (by decide) (by decide) ?_
            show Steps p.tables e below (T46.setTop (mkF m 107 #[.val (.long q0), .second, .val (.long q1), .second, .val (.int p2), .val (.long va), .second, .val (.long vb), .second, .val (.int (p2 &&& (3 : Int32))), .val (.long (f1 va vb)), .second, .unset, .unset, .unset, .unset] [])) _
            refine X46.ldc2Long hx hown (mvT hZ (hw _ (List.mem_of_getElem? (i := 0) rfl))) (g := (mkF m 107 #[.val (.long q0), .second, .val (.long q1), .second, .val (.int p2), .val (.long va), .second, .val (.long vb), .second, .val (.int (p2 &&& (3 : Int32))), .val (.long (f1 va vb)), .second, .unset, .unset, .unset, .unset] [])) rfl (hb hby at_107) _ ?_
            show Steps p.tables e below (T46.setTop (mkF m 110 #[.val (.long q0), .second, .val (.long q1), .second, .val (.int p2), .val (.long va), .second, .val (.long vb), .second, .val (.int (p2 &&& (3 : Int32))), .val (.long (f1 va vb)), .second, .unset, .unset, .unset, .unset] [(.long (9223372036854775807 : Int64))])) _
            refine XS.lstore X46.here hx rfl (hb hby at_110) rfl (l' := #[.val (.long q0), .second, .val (.long q1), .second, .val (.int p2), .val (.long va), .second, .val (.long vb), .second, .val (.int (p2 &&& (3 : Int32))), .val (.long (f1 va vb)), .second, .val (.long (9223372036854775807 : Int64)), .second, .unset, .unset]) rfl ?_
            show Steps p.tables e below (T46.setTop (mkF m 112 #[.val (.long q0), .second, .val (.long q1), .second, .val (.int p2), .val (.long va), .second, .val (.long vb), .second, .val (.int (p2 &&& (3 : Int32))), .val (.long (f1 va vb)), .second, .val (.long (9223372036854775807 : Int64)), .second, .unset, .unset] [])) _
            refine XS.goto X46.here hx rfl (pc0 := 112) (pc' := 150) rfl (hb hby at_112) (by decide) (by decide) ?_
            show Steps p.tables e below (T46.setTop (mkF m 150 #[.val (.long q0), .second, .val (.long q1), .second, .val (.int p2), .val (.long va), .second, .val (.long vb), .second, .val (.int (p2 &&& (3 : Int32))), .val (.long (f1 va vb)), .second, .val (.long (9223372036854775807 : Int64)), .second, .unset, .unset] [])) _
            refine XS.lload X46.here hx rfl (hb hby at_150) rfl ?_
            show Steps p.tables e below (T46.setTop (mkF m 152 #[.val (.long q0), .second, .val (.long q1), .second, .val (.int p2), .val (.long va), .second, .val (.long vb), .second, .val (.int (p2 &&& (3 : Int32))), .val (.long (f1 va vb)), .second, .val (.long (9223372036854775807 : Int64)), .second, .unset, .unset] [(.long (f1 va vb))])) _
            refine XS.lload X46.here hx rfl (hb hby at_152) rfl ?_
            show Steps p.tables e below (T46.setTop (mkF m 154 #[.val (.long q0), .second, .val (.long q1), .second, .val (.int p2), .val (.long va), .second, .val (.long vb), .second, .val (.int (p2 &&& (3 : Int32))), .val (.long (f1 va vb)), .second, .val (.long (9223372036854775807 : Int64)), .second, .unset, .unset] [(.long (9223372036854775807 : Int64)), (.long (f1 va vb))])) _
            refine XS.lcmp X46.here hx rfl (hb hby at_154) rfl ?_
            show Steps p.tables e below (T46.setTop (mkF m 155 #[.val (.long q0), .second, .val (.long q1), .second, .val (.int p2), .val (.long va), .second, .val (.long vb), .second, .val (.int (p2 &&& (3 : Int32))), .val (.long (f1 va vb)), .second, .val (.long (9223372036854775807 : Int64)), .second, .unset, .unset] [(.int (lcmpW (f1 va vb) (9223372036854775807 : Int64)))])) _
            refine XS.ifNo X46.here hx rfl (hb hby at_155) rfl (Jvm.Free.XT.ll_ne_f (by rw [own_law va vb hm44.1 hm44.2, if_pos hc95_49] : (f1 va vb) = (9223372036854775807 : Int64))) ?_
            show Steps p.tables e below (T46.setTop (mkF m 158 #[.val (.long q0), .second, .val (.long q1), .second, .val (.int p2), .val (.long va), .second, .val (.long vb), .second, .val (.int (p2 &&& (3 : Int32))), .val (.long (f1 va vb)), .second, .val (.long (9223372036854775807 : Int64)), .second, .unset, .unset] [])) _
            refine XS.iconst X46.here hx rfl (hb hby at_158) ?_
            show Steps p.tables e below (T46.setTop (mkF m 159 #[.val (.long q0), .second, .val (.long q1), .second, .val (.int p2), .val (.long va), .second, .val (.long vb), .second, .val (.int (p2 &&& (3 : Int32))), .val (.long (f1 va vb)), .second, .val (.long (9223372036854775807 : Int64)), .second, .unset, .unset] [(.int (1 : Int32))])) _
            refine XS.goto X46.here hx rfl (pc0 := 159) (pc' := 163) rfl (hb hby at_159) (by decide) (by decide) ?_
            exact kt)
          obtain ⟨fs, hr, hrun, hended, hW, hsame⟩ := X46.leave (v := some (.int (1 : Int32))) (fun h => by rw [Bd.returns] at h; cases h)
          refine ⟨_, _, pre50 _ ?_, hrun, hended, _, _, rfl, ?_, ⟨_, rfl⟩, hW, hsame.mono (by decide) (by decide)⟩
          · show Steps p.tables e below (T46.setTop (mkF m 163 #[.val (.long q0), .second, .val (.long q1), .second, .val (.int p2), .val (.long va), .second, .val (.long vb), .second, .val (.int (p2 &&& (3 : Int32))), .val (.long (f1 va vb)), .second, .val (.long (9223372036854775807 : Int64)), .second, .unset, .unset] [(.int (1 : Int32))])) _
            exact retN X46 hx (t := .boolean) Bd.returns (by simp) (hb hby at_163) hr
          · show Q0 Z q0 q1 p2 h0 n0 _ T46.heap _
            rw [e46]
            exact ⟨rfl, N46⟩
        · have pre51 : ∀ t, Steps p.tables e below (T46.setTop (mkF m 104 #[.val (.long q0), .second, .val (.long q1), .second, .val (.int p2), .val (.long va), .second, .val (.long vb), .second, .val (.int (p2 &&& (3 : Int32))), .val (.long (f1 va vb)), .second, .unset, .unset, .unset, .unset] [(.int (lcmpW vb (9223372036854775807 : Int64)))])) t → Steps p.tables e below (s₁.setTop (entryFrame m #[(.long q0), (.long q1), (.int p2)] maxLocals)) t := fun t kt => pre48 t (by
            show Steps p.tables e below (T46.setTop (mkF m 95 #[.val (.long q0), .second, .val (.long q1), .second, .val (.int p2), .val (.long va), .second, .val (.long vb), .second, .val (.int (p2 &&& (3 : Int32))), .val (.long (f1 va vb)), .second, .unset, .unset, .unset, .unset] [(.int (lcmpW va (9223372036854775807 : Int64)))])) _
            refine XS.ifNo X46.here hx rfl (hb hby at_95) rfl (Jvm.Free.XT.ll_eq_f hc95_49) ?_
            show Steps p.tables e below (T46.setTop (mkF m 98 #[.val (.long q0), .second, .val (.long q1), .second, .val (.int p2), .val (.long va), .second, .val (.long vb), .second, .val (.int (p2 &&& (3 : Int32))), .val (.long (f1 va vb)), .second, .unset, .unset, .unset, .unset] [])) _
            refine XS.lload X46.here hx rfl (hb hby at_98) rfl ?_
            show Steps p.tables e below (T46.setTop (mkF m 100 #[.val (.long q0), .second, .val (.long q1), .second, .val (.int p2), .val (.long va), .second, .val (.long vb), .second, .val (.int (p2 &&& (3 : Int32))), .val (.long (f1 va vb)), .second, .unset, .unset, .unset, .unset] [(.long vb)])) _
            refine X46.ldc2Long hx hown (mvT hZ (hw _ (List.mem_of_getElem? (i := 0) rfl))) (g := (mkF m 100 #[.val (.long q0), .second, .val (.long q1), .second, .val (.int p2), .val (.long va), .second, .val (.long vb), .second, .val (.int (p2 &&& (3 : Int32))), .val (.long (f1 va vb)), .second, .unset, .unset, .unset, .unset] [(.long vb)])) rfl (hb hby at_100) _ ?_
            show Steps p.tables e below (T46.setTop (mkF m 103 #[.val (.long q0), .second, .val (.long q1), .second, .val (.int p2), .val (.long va), .second, .val (.long vb), .second, .val (.int (p2 &&& (3 : Int32))), .val (.long (f1 va vb)), .second, .unset, .unset, .unset, .unset] [(.long (9223372036854775807 : Int64)), (.long vb)])) _
            refine XS.lcmp X46.here hx rfl (hb hby at_103) rfl ?_
            exact kt)
          by_cases hc104_52 : vb = (9223372036854775807 : Int64)
          · have pre53 : ∀ t, Steps p.tables e below (T46.setTop (mkF m 163 #[.val (.long q0), .second, .val (.long q1), .second, .val (.int p2), .val (.long va), .second, .val (.long vb), .second, .val (.int (p2 &&& (3 : Int32))), .val (.long (f1 va vb)), .second, .val (.long (9223372036854775807 : Int64)), .second, .unset, .unset] [(.int (1 : Int32))])) t → Steps p.tables e below (s₁.setTop (entryFrame m #[(.long q0), (.long q1), (.int p2)] maxLocals)) t := fun t kt => pre51 t (by
              show Steps p.tables e below (T46.setTop (mkF m 104 #[.val (.long q0), .second, .val (.long q1), .second, .val (.int p2), .val (.long va), .second, .val (.long vb), .second, .val (.int (p2 &&& (3 : Int32))), .val (.long (f1 va vb)), .second, .unset, .unset, .unset, .unset] [(.int (lcmpW vb (9223372036854775807 : Int64)))])) _
              refine XS.ifNo X46.here hx rfl (hb hby at_104) rfl (Jvm.Free.XT.ll_ne_f hc104_52) ?_
              show Steps p.tables e below (T46.setTop (mkF m 107 #[.val (.long q0), .second, .val (.long q1), .second, .val (.int p2), .val (.long va), .second, .val (.long vb), .second, .val (.int (p2 &&& (3 : Int32))), .val (.long (f1 va vb)), .second, .unset, .unset, .unset, .unset] [])) _
              refine X46.ldc2Long hx hown (mvT hZ (hw _ (List.mem_of_getElem? (i := 0) rfl))) (g := (mkF m 107 #[.val (.long q0), .second, .val (.long q1), .second, .val (.int p2), .val (.long va), .second, .val (.long vb), .second, .val (.int (p2 &&& (3 : Int32))), .val (.long (f1 va vb)), .second, .unset, .unset, .unset, .unset] [])) rfl (hb hby at_107) _ ?_
              show Steps p.tables e below (T46.setTop (mkF m 110 #[.val (.long q0), .second, .val (.long q1), .second, .val (.int p2), .val (.long va), .second, .val (.long vb), .second, .val (.int (p2 &&& (3 : Int32))), .val (.long (f1 va vb)), .second, .unset, .unset, .unset, .unset] [(.long (9223372036854775807 : Int64))])) _
              refine XS.lstore X46.here hx rfl (hb hby at_110) rfl (l' := #[.val (.long q0), .second, .val (.long q1), .second, .val (.int p2), .val (.long va), .second, .val (.long vb), .second, .val (.int (p2 &&& (3 : Int32))), .val (.long (f1 va vb)), .second, .val (.long (9223372036854775807 : Int64)), .second, .unset, .unset]) rfl ?_
              show Steps p.tables e below (T46.setTop (mkF m 112 #[.val (.long q0), .second, .val (.long q1), .second, .val (.int p2), .val (.long va), .second, .val (.long vb), .second, .val (.int (p2 &&& (3 : Int32))), .val (.long (f1 va vb)), .second, .val (.long (9223372036854775807 : Int64)), .second, .unset, .unset] [])) _
              refine XS.goto X46.here hx rfl (pc0 := 112) (pc' := 150) rfl (hb hby at_112) (by decide) (by decide) ?_
              show Steps p.tables e below (T46.setTop (mkF m 150 #[.val (.long q0), .second, .val (.long q1), .second, .val (.int p2), .val (.long va), .second, .val (.long vb), .second, .val (.int (p2 &&& (3 : Int32))), .val (.long (f1 va vb)), .second, .val (.long (9223372036854775807 : Int64)), .second, .unset, .unset] [])) _
              refine XS.lload X46.here hx rfl (hb hby at_150) rfl ?_
              show Steps p.tables e below (T46.setTop (mkF m 152 #[.val (.long q0), .second, .val (.long q1), .second, .val (.int p2), .val (.long va), .second, .val (.long vb), .second, .val (.int (p2 &&& (3 : Int32))), .val (.long (f1 va vb)), .second, .val (.long (9223372036854775807 : Int64)), .second, .unset, .unset] [(.long (f1 va vb))])) _
              refine XS.lload X46.here hx rfl (hb hby at_152) rfl ?_
              show Steps p.tables e below (T46.setTop (mkF m 154 #[.val (.long q0), .second, .val (.long q1), .second, .val (.int p2), .val (.long va), .second, .val (.long vb), .second, .val (.int (p2 &&& (3 : Int32))), .val (.long (f1 va vb)), .second, .val (.long (9223372036854775807 : Int64)), .second, .unset, .unset] [(.long (9223372036854775807 : Int64)), (.long (f1 va vb))])) _
              refine XS.lcmp X46.here hx rfl (hb hby at_154) rfl ?_
              show Steps p.tables e below (T46.setTop (mkF m 155 #[.val (.long q0), .second, .val (.long q1), .second, .val (.int p2), .val (.long va), .second, .val (.long vb), .second, .val (.int (p2 &&& (3 : Int32))), .val (.long (f1 va vb)), .second, .val (.long (9223372036854775807 : Int64)), .second, .unset, .unset] [(.int (lcmpW (f1 va vb) (9223372036854775807 : Int64)))])) _
              refine XS.ifNo X46.here hx rfl (hb hby at_155) rfl (Jvm.Free.XT.ll_ne_f (by rw [own_law va vb hm44.1 hm44.2, if_neg hc95_49, if_pos hc104_52] : (f1 va vb) = (9223372036854775807 : Int64))) ?_
              show Steps p.tables e below (T46.setTop (mkF m 158 #[.val (.long q0), .second, .val (.long q1), .second, .val (.int p2), .val (.long va), .second, .val (.long vb), .second, .val (.int (p2 &&& (3 : Int32))), .val (.long (f1 va vb)), .second, .val (.long (9223372036854775807 : Int64)), .second, .unset, .unset] [])) _
              refine XS.iconst X46.here hx rfl (hb hby at_158) ?_
              show Steps p.tables e below (T46.setTop (mkF m 159 #[.val (.long q0), .second, .val (.long q1), .second, .val (.int p2), .val (.long va), .second, .val (.long vb), .second, .val (.int (p2 &&& (3 : Int32))), .val (.long (f1 va vb)), .second, .val (.long (9223372036854775807 : Int64)), .second, .unset, .unset] [(.int (1 : Int32))])) _
              refine XS.goto X46.here hx rfl (pc0 := 159) (pc' := 163) rfl (hb hby at_159) (by decide) (by decide) ?_
              exact kt)
            obtain ⟨fs, hr, hrun, hended, hW, hsame⟩ := X46.leave (v := some (.int (1 : Int32))) (fun h => by rw [Bd.returns] at h; cases h)
            refine ⟨_, _, pre53 _ ?_, hrun, hended, _, _, rfl, ?_, ⟨_, rfl⟩, hW, hsame.mono (by decide) (by decide)⟩
            · show Steps p.tables e below (T46.setTop (mkF m 163 #[.val (.long q0), .second, .val (.long q1), .second, .val (.int p2), .val (.long va), .second, .val (.long vb), .second, .val (.int (p2 &&& (3 : Int32))), .val (.long (f1 va vb)), .second, .val (.long (9223372036854775807 : Int64)), .second, .unset, .unset] [(.int (1 : Int32))])) _
              exact retN X46 hx (t := .boolean) Bd.returns (by simp) (hb hby at_163) hr
            · show Q0 Z q0 q1 p2 h0 n0 _ T46.heap _
              rw [e46]
              exact ⟨rfl, N46⟩
          · have pre54 : ∀ t, Steps p.tables e below (T46.setTop (mkF m 126 #[.val (.long q0), .second, .val (.long q1), .second, .val (.int p2), .val (.long va), .second, .val (.long vb), .second, .val (.int (p2 &&& (3 : Int32))), .val (.long (f1 va vb)), .second, .unset, .unset, .val (.long (va + vb)), .second] [(.int (lcmpW (va + vb) (0 : Int64)))])) t → Steps p.tables e below (s₁.setTop (entryFrame m #[(.long q0), (.long q1), (.int p2)] maxLocals)) t := fun t kt => pre51 t (by
              show Steps p.tables e below (T46.setTop (mkF m 104 #[.val (.long q0), .second, .val (.long q1), .second, .val (.int p2), .val (.long va), .second, .val (.long vb), .second, .val (.int (p2 &&& (3 : Int32))), .val (.long (f1 va vb)), .second, .unset, .unset, .unset, .unset] [(.int (lcmpW vb (9223372036854775807 : Int64)))])) _
              refine XS.ifYes X46.here hx rfl (pc0 := 104) (pc' := 115) rfl (hb hby at_104) rfl (Jvm.Free.XT.ll_ne_t hc104_52) (by decide) (by decide) ?_
              show Steps p.tables e below (T46.setTop (mkF m 115 #[.val (.long q0), .second, .val (.long q1), .second, .val (.int p2), .val (.long va), .second, .val (.long vb), .second, .val (.int (p2 &&& (3 : Int32))), .val (.long (f1 va vb)), .second, .unset, .unset, .unset, .unset] [])) _
              refine XS.lload X46.here hx rfl (hb hby at_115) rfl ?_
              show Steps p.tables e below (T46.setTop (mkF m 117 #[.val (.long q0), .second, .val (.long q1), .second, .val (.int p2), .val (.long va), .second, .val (.long vb), .second, .val (.int (p2 &&& (3 : Int32))), .val (.long (f1 va vb)), .second, .unset, .unset, .unset, .unset] [(.long va)])) _
              refine XS.lload X46.here hx rfl (hb hby at_117) rfl ?_
              show Steps p.tables e below (T46.setTop (mkF m 119 #[.val (.long q0), .second, .val (.long q1), .second, .val (.int p2), .val (.long va), .second, .val (.long vb), .second, .val (.int (p2 &&& (3 : Int32))), .val (.long (f1 va vb)), .second, .unset, .unset, .unset, .unset] [(.long vb), (.long va)])) _
              refine XS.ladd X46.here hx rfl (hb hby at_119) rfl ?_
              show Steps p.tables e below (T46.setTop (mkF m 120 #[.val (.long q0), .second, .val (.long q1), .second, .val (.int p2), .val (.long va), .second, .val (.long vb), .second, .val (.int (p2 &&& (3 : Int32))), .val (.long (f1 va vb)), .second, .unset, .unset, .unset, .unset] [(.long (va + vb))])) _
              refine XS.lstore X46.here hx rfl (hb hby at_120) rfl (l' := #[.val (.long q0), .second, .val (.long q1), .second, .val (.int p2), .val (.long va), .second, .val (.long vb), .second, .val (.int (p2 &&& (3 : Int32))), .val (.long (f1 va vb)), .second, .unset, .unset, .val (.long (va + vb)), .second]) rfl ?_
              show Steps p.tables e below (T46.setTop (mkF m 122 #[.val (.long q0), .second, .val (.long q1), .second, .val (.int p2), .val (.long va), .second, .val (.long vb), .second, .val (.int (p2 &&& (3 : Int32))), .val (.long (f1 va vb)), .second, .unset, .unset, .val (.long (va + vb)), .second] [])) _
              refine XS.lload X46.here hx rfl (hb hby at_122) rfl ?_
              show Steps p.tables e below (T46.setTop (mkF m 124 #[.val (.long q0), .second, .val (.long q1), .second, .val (.int p2), .val (.long va), .second, .val (.long vb), .second, .val (.int (p2 &&& (3 : Int32))), .val (.long (f1 va vb)), .second, .unset, .unset, .val (.long (va + vb)), .second] [(.long (va + vb))])) _
              refine XS.lconst X46.here hx rfl (hb hby at_124) ?_
              show Steps p.tables e below (T46.setTop (mkF m 125 #[.val (.long q0), .second, .val (.long q1), .second, .val (.int p2), .val (.long va), .second, .val (.long vb), .second, .val (.int (p2 &&& (3 : Int32))), .val (.long (f1 va vb)), .second, .unset, .unset, .val (.long (va + vb)), .second] [(.long (0 : Int64)), (.long (va + vb))])) _
              refine XS.lcmp X46.here hx rfl (hb hby at_125) rfl ?_
              exact kt)
            by_cases hc126_55 : (va + vb) < (0 : Int64)
            · have pre56 : ∀ t, Steps p.tables e below (T46.setTop (mkF m 163 #[.val (.long q0), .second, .val (.long q1), .second, .val (.int p2), .val (.long va), .second, .val (.long vb), .second, .val (.int (p2 &&& (3 : Int32))), .val (.long (f1 va vb)), .second, .val (.long (9223372036854775806 : Int64)), .second, .val (.long (va + vb)), .second] [(.int (1 : Int32))])) t → Steps p.tables e below (s₁.setTop (entryFrame m #[(.long q0), (.long q1), (.int p2)] maxLocals)) t := fun t kt => pre54 t (by
                show Steps p.tables e below (T46.setTop (mkF m 126 #[.val (.long q0), .second, .val (.long q1), .second, .val (.int p2), .val (.long va), .second, .val (.long vb), .second, .val (.int (p2 &&& (3 : Int32))), .val (.long (f1 va vb)), .second, .unset, .unset, .val (.long (va + vb)), .second] [(.int (lcmpW (va + vb) (0 : Int64)))])) _
                refine XS.ifYes X46.here hx rfl (pc0 := 126) (pc' := 138) rfl (hb hby at_126) rfl (Jvm.Free.XT.ll_lt_t hc126_55) (by decide) (by decide) ?_
                show Steps p.tables e below (T46.setTop (mkF m 138 #[.val (.long q0), .second, .val (.long q1), .second, .val (.int p2), .val (.long va), .second, .val (.long vb), .second, .val (.int (p2 &&& (3 : Int32))), .val (.long (f1 va vb)), .second, .unset, .unset, .val (.long (va + vb)), .second] [])) _
                refine X46.ldc2Long hx hown (mvT hZ (hw _ (List.mem_of_getElem? (i := 7) rfl))) (g := (mkF m 138 #[.val (.long q0), .second, .val (.long q1), .second, .val (.int p2), .val (.long va), .second, .val (.long vb), .second, .val (.int (p2 &&& (3 : Int32))), .val (.long (f1 va vb)), .second, .unset, .unset, .val (.long (va + vb)), .second] [])) rfl (hb hby at_138) _ ?_
                show Steps p.tables e below (T46.setTop (mkF m 141 #[.val (.long q0), .second, .val (.long q1), .second, .val (.int p2), .val (.long va), .second, .val (.long vb), .second, .val (.int (p2 &&& (3 : Int32))), .val (.long (f1 va vb)), .second, .unset, .unset, .val (.long (va + vb)), .second] [(.long (9223372036854775806 : Int64))])) _
                refine XS.lstore X46.here hx rfl (hb hby at_141) rfl (l' := #[.val (.long q0), .second, .val (.long q1), .second, .val (.int p2), .val (.long va), .second, .val (.long vb), .second, .val (.int (p2 &&& (3 : Int32))), .val (.long (f1 va vb)), .second, .val (.long (9223372036854775806 : Int64)), .second, .val (.long (va + vb)), .second]) rfl ?_
                show Steps p.tables e below (T46.setTop (mkF m 143 #[.val (.long q0), .second, .val (.long q1), .second, .val (.int p2), .val (.long va), .second, .val (.long vb), .second, .val (.int (p2 &&& (3 : Int32))), .val (.long (f1 va vb)), .second, .val (.long (9223372036854775806 : Int64)), .second, .val (.long (va + vb)), .second] [])) _
                refine XS.goto X46.here hx rfl (pc0 := 143) (pc' := 150) rfl (hb hby at_143) (by decide) (by decide) ?_
                show Steps p.tables e below (T46.setTop (mkF m 150 #[.val (.long q0), .second, .val (.long q1), .second, .val (.int p2), .val (.long va), .second, .val (.long vb), .second, .val (.int (p2 &&& (3 : Int32))), .val (.long (f1 va vb)), .second, .val (.long (9223372036854775806 : Int64)), .second, .val (.long (va + vb)), .second] [])) _
                refine XS.lload X46.here hx rfl (hb hby at_150) rfl ?_
                show Steps p.tables e below (T46.setTop (mkF m 152 #[.val (.long q0), .second, .val (.long q1), .second, .val (.int p2), .val (.long va), .second, .val (.long vb), .second, .val (.int (p2 &&& (3 : Int32))), .val (.long (f1 va vb)), .second, .val (.long (9223372036854775806 : Int64)), .second, .val (.long (va + vb)), .second] [(.long (f1 va vb))])) _
                refine XS.lload X46.here hx rfl (hb hby at_152) rfl ?_
                show Steps p.tables e below (T46.setTop (mkF m 154 #[.val (.long q0), .second, .val (.long q1), .second, .val (.int p2), .val (.long va), .second, .val (.long vb), .second, .val (.int (p2 &&& (3 : Int32))), .val (.long (f1 va vb)), .second, .val (.long (9223372036854775806 : Int64)), .second, .val (.long (va + vb)), .second] [(.long (9223372036854775806 : Int64)), (.long (f1 va vb))])) _
                refine XS.lcmp X46.here hx rfl (hb hby at_154) rfl ?_
                show Steps p.tables e below (T46.setTop (mkF m 155 #[.val (.long q0), .second, .val (.long q1), .second, .val (.int p2), .val (.long va), .second, .val (.long vb), .second, .val (.int (p2 &&& (3 : Int32))), .val (.long (f1 va vb)), .second, .val (.long (9223372036854775806 : Int64)), .second, .val (.long (va + vb)), .second] [(.int (lcmpW (f1 va vb) (9223372036854775806 : Int64)))])) _
                refine XS.ifNo X46.here hx rfl (hb hby at_155) rfl (Jvm.Free.XT.ll_ne_f (by rw [own_law va vb hm44.1 hm44.2, if_neg hc95_49, if_neg hc104_52, if_pos hc126_55] : (f1 va vb) = (9223372036854775806 : Int64))) ?_
                show Steps p.tables e below (T46.setTop (mkF m 158 #[.val (.long q0), .second, .val (.long q1), .second, .val (.int p2), .val (.long va), .second, .val (.long vb), .second, .val (.int (p2 &&& (3 : Int32))), .val (.long (f1 va vb)), .second, .val (.long (9223372036854775806 : Int64)), .second, .val (.long (va + vb)), .second] [])) _
                refine XS.iconst X46.here hx rfl (hb hby at_158) ?_
                show Steps p.tables e below (T46.setTop (mkF m 159 #[.val (.long q0), .second, .val (.long q1), .second, .val (.int p2), .val (.long va), .second, .val (.long vb), .second, .val (.int (p2 &&& (3 : Int32))), .val (.long (f1 va vb)), .second, .val (.long (9223372036854775806 : Int64)), .second, .val (.long (va + vb)), .second] [(.int (1 : Int32))])) _
                refine XS.goto X46.here hx rfl (pc0 := 159) (pc' := 163) rfl (hb hby at_159) (by decide) (by decide) ?_
                exact kt)
              obtain ⟨fs, hr, hrun, hended, hW, hsame⟩ := X46.leave (v := some (.int (1 : Int32))) (fun h => by rw [Bd.returns] at h; cases h)
              refine ⟨_, _, pre56 _ ?_, hrun, hended, _, _, rfl, ?_, ⟨_, rfl⟩, hW, hsame.mono (by decide) (by decide)⟩
              · show Steps p.tables e below (T46.setTop (mkF m 163 #[.val (.long q0), .second, .val (.long q1), .second, .val (.int p2), .val (.long va), .second, .val (.long vb), .second, .val (.int (p2 &&& (3 : Int32))), .val (.long (f1 va vb)), .second, .val (.long (9223372036854775806 : Int64)), .second, .val (.long (va + vb)), .second] [(.int (1 : Int32))])) _
                exact retN X46 hx (t := .boolean) Bd.returns (by simp) (hb hby at_163) hr
              · show Q0 Z q0 q1 p2 h0 n0 _ T46.heap _
                rw [e46]
                exact ⟨rfl, N46⟩
            · have pre57 : ∀ t, Steps p.tables e below (T46.setTop (mkF m 135 #[.val (.long q0), .second, .val (.long q1), .second, .val (.int p2), .val (.long va), .second, .val (.long vb), .second, .val (.int (p2 &&& (3 : Int32))), .val (.long (f1 va vb)), .second, .unset, .unset, .val (.long (va + vb)), .second] [(.int (lcmpW (va + vb) (9223372036854775807 : Int64)))])) t → Steps p.tables e below (s₁.setTop (entryFrame m #[(.long q0), (.long q1), (.int p2)] maxLocals)) t := fun t kt => pre54 t (by
                show Steps p.tables e below (T46.setTop (mkF m 126 #[.val (.long q0), .second, .val (.long q1), .second, .val (.int p2), .val (.long va), .second, .val (.long vb), .second, .val (.int (p2 &&& (3 : Int32))), .val (.long (f1 va vb)), .second, .unset, .unset, .val (.long (va + vb)), .second] [(.int (lcmpW (va + vb) (0 : Int64)))])) _
                refine XS.ifNo X46.here hx rfl (hb hby at_126) rfl (Jvm.Free.XT.ll_lt_f hc126_55) ?_
                show Steps p.tables e below (T46.setTop (mkF m 129 #[.val (.long q0), .second, .val (.long q1), .second, .val (.int p2), .val (.long va), .second, .val (.long vb), .second, .val (.int (p2 &&& (3 : Int32))), .val (.long (f1 va vb)), .second, .unset, .unset, .val (.long (va + vb)), .second] [])) _
                refine XS.lload X46.here hx rfl (hb hby at_129) rfl ?_
                show Steps p.tables e below (T46.setTop (mkF m 131 #[.val (.long q0), .second, .val (.long q1), .second, .val (.int p2), .val (.long va), .second, .val (.long vb), .second, .val (.int (p2 &&& (3 : Int32))), .val (.long (f1 va vb)), .second, .unset, .unset, .val (.long (va + vb)), .second] [(.long (va + vb))])) _
                refine X46.ldc2Long hx hown (mvT hZ (hw _ (List.mem_of_getElem? (i := 0) rfl))) (g := (mkF m 131 #[.val (.long q0), .second, .val (.long q1), .second, .val (.int p2), .val (.long va), .second, .val (.long vb), .second, .val (.int (p2 &&& (3 : Int32))), .val (.long (f1 va vb)), .second, .unset, .unset, .val (.long (va + vb)), .second] [(.long (va + vb))])) rfl (hb hby at_131) _ ?_
                show Steps p.tables e below (T46.setTop (mkF m 134 #[.val (.long q0), .second, .val (.long q1), .second, .val (.int p2), .val (.long va), .second, .val (.long vb), .second, .val (.int (p2 &&& (3 : Int32))), .val (.long (f1 va vb)), .second, .unset, .unset, .val (.long (va + vb)), .second] [(.long (9223372036854775807 : Int64)), (.long (va + vb))])) _
                refine XS.lcmp X46.here hx rfl (hb hby at_134) rfl ?_
                exact kt)
              by_cases hc135_58 : (va + vb) = (9223372036854775807 : Int64)
              · have pre59 : ∀ t, Steps p.tables e below (T46.setTop (mkF m 163 #[.val (.long q0), .second, .val (.long q1), .second, .val (.int p2), .val (.long va), .second, .val (.long vb), .second, .val (.int (p2 &&& (3 : Int32))), .val (.long (f1 va vb)), .second, .val (.long (9223372036854775806 : Int64)), .second, .val (.long (va + vb)), .second] [(.int (1 : Int32))])) t → Steps p.tables e below (s₁.setTop (entryFrame m #[(.long q0), (.long q1), (.int p2)] maxLocals)) t := fun t kt => pre57 t (by
                  show Steps p.tables e below (T46.setTop (mkF m 135 #[.val (.long q0), .second, .val (.long q1), .second, .val (.int p2), .val (.long va), .second, .val (.long vb), .second, .val (.int (p2 &&& (3 : Int32))), .val (.long (f1 va vb)), .second, .unset, .unset, .val (.long (va + vb)), .second] [(.int (lcmpW (va + vb) (9223372036854775807 : Int64)))])) _
                  refine XS.ifNo X46.here hx rfl (hb hby at_135) rfl (Jvm.Free.XT.ll_ne_f hc135_58) ?_
                  show Steps p.tables e below (T46.setTop (mkF m 138 #[.val (.long q0), .second, .val (.long q1), .second, .val (.int p2), .val (.long va), .second, .val (.long vb), .second, .val (.int (p2 &&& (3 : Int32))), .val (.long (f1 va vb)), .second, .unset, .unset, .val (.long (va + vb)), .second] [])) _
                  refine X46.ldc2Long hx hown (mvT hZ (hw _ (List.mem_of_getElem? (i := 7) rfl))) (g := (mkF m 138 #[.val (.long q0), .second, .val (.long q1), .second, .val (.int p2), .val (.long va), .second, .val (.long vb), .second, .val (.int (p2 &&& (3 : Int32))), .val (.long (f1 va vb)), .second, .unset, .unset, .val (.long (va + vb)), .second] [])) rfl (hb hby at_138) _ ?_
                  show Steps p.tables e below (T46.setTop (mkF m 141 #[.val (.long q0), .second, .val (.long q1), .second, .val (.int p2), .val (.long va), .second, .val (.long vb), .second, .val (.int (p2 &&& (3 : Int32))), .val (.long (f1 va vb)), .second, .unset, .unset, .val (.long (va + vb)), .second] [(.long (9223372036854775806 : Int64))])) _
                  refine XS.lstore X46.here hx rfl (hb hby at_141) rfl (l' := #[.val (.long q0), .second, .val (.long q1), .second, .val (.int p2), .val (.long va), .second, .val (.long vb), .second, .val (.int (p2 &&& (3 : Int32))), .val (.long (f1 va vb)), .second, .val (.long (9223372036854775806 : Int64)), .second, .val (.long (va + vb)), .second]) rfl ?_
                  show Steps p.tables e below (T46.setTop (mkF m 143 #[.val (.long q0), .second, .val (.long q1), .second, .val (.int p2), .val (.long va), .second, .val (.long vb), .second, .val (.int (p2 &&& (3 : Int32))), .val (.long (f1 va vb)), .second, .val (.long (9223372036854775806 : Int64)), .second, .val (.long (va + vb)), .second] [])) _
                  refine XS.goto X46.here hx rfl (pc0 := 143) (pc' := 150) rfl (hb hby at_143) (by decide) (by decide) ?_
                  show Steps p.tables e below (T46.setTop (mkF m 150 #[.val (.long q0), .second, .val (.long q1), .second, .val (.int p2), .val (.long va), .second, .val (.long vb), .second, .val (.int (p2 &&& (3 : Int32))), .val (.long (f1 va vb)), .second, .val (.long (9223372036854775806 : Int64)), .second, .val (.long (va + vb)), .second] [])) _
                  refine XS.lload X46.here hx rfl (hb hby at_150) rfl ?_
                  show Steps p.tables e below (T46.setTop (mkF m 152 #[.val (.long q0), .second, .val (.long q1), .second, .val (.int p2), .val (.long va), .second, .val (.long vb), .second, .val (.int (p2 &&& (3 : Int32))), .val (.long (f1 va vb)), .second, .val (.long (9223372036854775806 : Int64)), .second, .val (.long (va + vb)), .second] [(.long (f1 va vb))])) _
                  refine XS.lload X46.here hx rfl (hb hby at_152) rfl ?_
                  show Steps p.tables e below (T46.setTop (mkF m 154 #[.val (.long q0), .second, .val (.long q1), .second, .val (.int p2), .val (.long va), .second, .val (.long vb), .second, .val (.int (p2 &&& (3 : Int32))), .val (.long (f1 va vb)), .second, .val (.long (9223372036854775806 : Int64)), .second, .val (.long (va + vb)), .second] [(.long (9223372036854775806 : Int64)), (.long (f1 va vb))])) _
                  refine XS.lcmp X46.here hx rfl (hb hby at_154) rfl ?_
                  show Steps p.tables e below (T46.setTop (mkF m 155 #[.val (.long q0), .second, .val (.long q1), .second, .val (.int p2), .val (.long va), .second, .val (.long vb), .second, .val (.int (p2 &&& (3 : Int32))), .val (.long (f1 va vb)), .second, .val (.long (9223372036854775806 : Int64)), .second, .val (.long (va + vb)), .second] [(.int (lcmpW (f1 va vb) (9223372036854775806 : Int64)))])) _
                  refine XS.ifNo X46.here hx rfl (hb hby at_155) rfl (Jvm.Free.XT.ll_ne_f (by rw [own_law va vb hm44.1 hm44.2, if_neg hc95_49, if_neg hc104_52, if_neg hc126_55, if_pos hc135_58] : (f1 va vb) = (9223372036854775806 : Int64))) ?_
                  show Steps p.tables e below (T46.setTop (mkF m 158 #[.val (.long q0), .second, .val (.long q1), .second, .val (.int p2), .val (.long va), .second, .val (.long vb), .second, .val (.int (p2 &&& (3 : Int32))), .val (.long (f1 va vb)), .second, .val (.long (9223372036854775806 : Int64)), .second, .val (.long (va + vb)), .second] [])) _
                  refine XS.iconst X46.here hx rfl (hb hby at_158) ?_
                  show Steps p.tables e below (T46.setTop (mkF m 159 #[.val (.long q0), .second, .val (.long q1), .second, .val (.int p2), .val (.long va), .second, .val (.long vb), .second, .val (.int (p2 &&& (3 : Int32))), .val (.long (f1 va vb)), .second, .val (.long (9223372036854775806 : Int64)), .second, .val (.long (va + vb)), .second] [(.int (1 : Int32))])) _
                  refine XS.goto X46.here hx rfl (pc0 := 159) (pc' := 163) rfl (hb hby at_159) (by decide) (by decide) ?_
                  exact kt)
                obtain ⟨fs, hr, hrun, hended, hW, hsame⟩ := X46.leave (v := some (.int (1 : Int32))) (fun h => by rw [Bd.returns] at h; cases h)
                refine ⟨_, _, pre59 _ ?_, hrun, hended, _, _, rfl, ?_, ⟨_, rfl⟩, hW, hsame.mono (by decide) (by decide)⟩
                · show Steps p.tables e below (T46.setTop (mkF m 163 #[.val (.long q0), .second, .val (.long q1), .second, .val (.int p2), .val (.long va), .second, .val (.long vb), .second, .val (.int (p2 &&& (3 : Int32))), .val (.long (f1 va vb)), .second, .val (.long (9223372036854775806 : Int64)), .second, .val (.long (va + vb)), .second] [(.int (1 : Int32))])) _
                  exact retN X46 hx (t := .boolean) Bd.returns (by simp) (hb hby at_163) hr
                · show Q0 Z q0 q1 p2 h0 n0 _ T46.heap _
                  rw [e46]
                  exact ⟨rfl, N46⟩
              · have pre60 : ∀ t, Steps p.tables e below (T46.setTop (mkF m 163 #[.val (.long q0), .second, .val (.long q1), .second, .val (.int p2), .val (.long va), .second, .val (.long vb), .second, .val (.int (p2 &&& (3 : Int32))), .val (.long (f1 va vb)), .second, .val (.long (va + vb)), .second, .val (.long (va + vb)), .second] [(.int (1 : Int32))])) t → Steps p.tables e below (s₁.setTop (entryFrame m #[(.long q0), (.long q1), (.int p2)] maxLocals)) t := fun t kt => pre57 t (by
                  show Steps p.tables e below (T46.setTop (mkF m 135 #[.val (.long q0), .second, .val (.long q1), .second, .val (.int p2), .val (.long va), .second, .val (.long vb), .second, .val (.int (p2 &&& (3 : Int32))), .val (.long (f1 va vb)), .second, .unset, .unset, .val (.long (va + vb)), .second] [(.int (lcmpW (va + vb) (9223372036854775807 : Int64)))])) _
                  refine XS.ifYes X46.here hx rfl (pc0 := 135) (pc' := 146) rfl (hb hby at_135) rfl (Jvm.Free.XT.ll_ne_t hc135_58) (by decide) (by decide) ?_
                  show Steps p.tables e below (T46.setTop (mkF m 146 #[.val (.long q0), .second, .val (.long q1), .second, .val (.int p2), .val (.long va), .second, .val (.long vb), .second, .val (.int (p2 &&& (3 : Int32))), .val (.long (f1 va vb)), .second, .unset, .unset, .val (.long (va + vb)), .second] [])) _
                  refine XS.lload X46.here hx rfl (hb hby at_146) rfl ?_
                  show Steps p.tables e below (T46.setTop (mkF m 148 #[.val (.long q0), .second, .val (.long q1), .second, .val (.int p2), .val (.long va), .second, .val (.long vb), .second, .val (.int (p2 &&& (3 : Int32))), .val (.long (f1 va vb)), .second, .unset, .unset, .val (.long (va + vb)), .second] [(.long (va + vb))])) _
                  refine XS.lstore X46.here hx rfl (hb hby at_148) rfl (l' := #[.val (.long q0), .second, .val (.long q1), .second, .val (.int p2), .val (.long va), .second, .val (.long vb), .second, .val (.int (p2 &&& (3 : Int32))), .val (.long (f1 va vb)), .second, .val (.long (va + vb)), .second, .val (.long (va + vb)), .second]) rfl ?_
                  show Steps p.tables e below (T46.setTop (mkF m 150 #[.val (.long q0), .second, .val (.long q1), .second, .val (.int p2), .val (.long va), .second, .val (.long vb), .second, .val (.int (p2 &&& (3 : Int32))), .val (.long (f1 va vb)), .second, .val (.long (va + vb)), .second, .val (.long (va + vb)), .second] [])) _
                  refine XS.lload X46.here hx rfl (hb hby at_150) rfl ?_
                  show Steps p.tables e below (T46.setTop (mkF m 152 #[.val (.long q0), .second, .val (.long q1), .second, .val (.int p2), .val (.long va), .second, .val (.long vb), .second, .val (.int (p2 &&& (3 : Int32))), .val (.long (f1 va vb)), .second, .val (.long (va + vb)), .second, .val (.long (va + vb)), .second] [(.long (f1 va vb))])) _
                  refine XS.lload X46.here hx rfl (hb hby at_152) rfl ?_
                  show Steps p.tables e below (T46.setTop (mkF m 154 #[.val (.long q0), .second, .val (.long q1), .second, .val (.int p2), .val (.long va), .second, .val (.long vb), .second, .val (.int (p2 &&& (3 : Int32))), .val (.long (f1 va vb)), .second, .val (.long (va + vb)), .second, .val (.long (va + vb)), .second] [(.long (va + vb)), (.long (f1 va vb))])) _
                  refine XS.lcmp X46.here hx rfl (hb hby at_154) rfl ?_
                  show Steps p.tables e below (T46.setTop (mkF m 155 #[.val (.long q0), .second, .val (.long q1), .second, .val (.int p2), .val (.long va), .second, .val (.long vb), .second, .val (.int (p2 &&& (3 : Int32))), .val (.long (f1 va vb)), .second, .val (.long (va + vb)), .second, .val (.long (va + vb)), .second] [(.int (lcmpW (f1 va vb) (va + vb)))])) _
                  refine XS.ifNo X46.here hx rfl (hb hby at_155) rfl (Jvm.Free.XT.ll_ne_f (by rw [own_law va vb hm44.1 hm44.2, if_neg hc95_49, if_neg hc104_52, if_neg hc126_55, if_neg hc135_58] : (f1 va vb) = (va + vb))) ?_
                  show Steps p.tables e below (T46.setTop (mkF m 158 #[.val (.long q0), .second, .val (.long q1), .second, .val (.int p2), .val (.long va), .second, .val (.long vb), .second, .val (.int (p2 &&& (3 : Int32))), .val (.long (f1 va vb)), .second, .val (.long (va + vb)), .second, .val (.long (va + vb)), .second] [])) _
                  refine XS.iconst X46.here hx rfl (hb hby at_158) ?_
                  show Steps p.tables e below (T46.setTop (mkF m 159 #[.val (.long q0), .second, .val (.long q1), .second, .val (.int p2), .val (.long va), .second, .val (.long vb), .second, .val (.int (p2 &&& (3 : Int32))), .val (.long (f1 va vb)), .second, .val (.long (va + vb)), .second, .val (.long (va + vb)), .second] [(.int (1 : Int32))])) _
                  refine XS.goto X46.here hx rfl (pc0 := 159) (pc' := 163) rfl (hb hby at_159) (by decide) (by decide) ?_
                  exact kt)
                obtain ⟨fs, hr, hrun, hended, hW, hsame⟩ := X46.leave (v := some (.int (1 : Int32))) (fun h => by rw [Bd.returns] at h; cases h)
                refine ⟨_, _, pre60 _ ?_, hrun, hended, _, _, rfl, ?_, ⟨_, rfl⟩, hW, hsame.mono (by decide) (by decide)⟩
                · show Steps p.tables e below (T46.setTop (mkF m 163 #[.val (.long q0), .second, .val (.long q1), .second, .val (.int p2), .val (.long va), .second, .val (.long vb), .second, .val (.int (p2 &&& (3 : Int32))), .val (.long (f1 va vb)), .second, .val (.long (va + vb)), .second, .val (.long (va + vb)), .second] [(.int (1 : Int32))])) _
                  exact retN X46 hx (t := .boolean) Bd.returns (by simp) (hb hby at_163) hr
                · show Q0 Z q0 q1 p2 h0 n0 _ T46.heap _
                  rw [e46]
                  exact ⟨rfl, N46⟩
      · have pre61 : ∀ t, Steps p.tables e below (s₁.setTop (mkF m 80 #[.val (.long q0), .second, .val (.long q1), .second, .val (.int p2), .val (.long (q0 &&& (9223372036854775807 : Int64))), .second, .val (.long (q1 &&& (9223372036854775807 : Int64))), .second, .val (.int (p2 &&& (3 : Int32))), .unset, .unset, .unset, .unset, .unset, .unset] [])) t → Steps p.tables e below (s₁.setTop (entryFrame m #[(.long q0), (.long q1), (.int p2)] maxLocals)) t := fun t kt => pre41 t (by
          show Steps p.tables e below (s₁.setTop (mkF m 51 #[.val (.long q0), .second, .val (.long q1), .second, .val (.int p2), .val (.long (q0 &&& (9223372036854775807 : Int64))), .second, .val (.long (q1 &&& (9223372036854775807 : Int64))), .second, .val (.int (p2 &&& (3 : Int32))), .unset, .unset, .unset, .unset, .unset, .unset] [(.int (3 : Int32)), (.int (p2 &&& (3 : Int32)))])) _
          refine XS.icmpYes X0.here hx rfl (pc0 := 51) (pc' := 80) rfl (hb hby at_51) rfl (feq hc51_42).2 (by decide) (by decide) ?_
          exact kt)
        obtain ⟨va, vb, hm62, pre62⟩ : ∃ (va : Int64) (vb : Int64), (0 ≤ va.toInt ∧ 0 ≤ vb.toInt) ∧ ∀ t, Steps p.tables e below (s₁.setTop (mkF m 80 #[.val (.long q0), .second, .val (.long q1), .second, .val (.int p2), .val (.long va), .second, .val (.long vb), .second, .val (.int (p2 &&& (3 : Int32))), .unset, .unset, .unset, .unset, .unset, .unset] [])) t → Steps p.tables e below (s₁.setTop (entryFrame m #[(.long q0), (.long q1), (.int p2)] maxLocals)) t := ⟨(q0 &&& (9223372036854775807 : Int64)), (q1 &&& (9223372036854775807 : Int64)), ⟨(by have hk := c_maskL q0 (9223372036854775807 : Int64) 63 (by decide) (by decide); omega), (by have hk := c_maskL q1 (9223372036854775807 : Int64) 63 (by decide) (by decide); omega)⟩, pre61⟩
        have pre63 : ∀ t, Steps p.tables e below (s₁.setTop (mkF m 84 #[.val (.long q0), .second, .val (.long q1), .second, .val (.int p2), .val (.long va), .second, .val (.long vb), .second, .val (.int (p2 &&& (3 : Int32))), .unset, .unset, .unset, .unset, .unset, .unset] [(.long vb), (.long va)])) t → Steps p.tables e below (s₁.setTop (entryFrame m #[(.long q0), (.long q1), (.int p2)] maxLocals)) t := fun t kt => pre62 t (by
          show Steps p.tables e below (s₁.setTop (mkF m 80 #[.val (.long q0), .second, .val (.long q1), .second, .val (.int p2), .val (.long va), .second, .val (.long vb), .second, .val (.int (p2 &&& (3 : Int32))), .unset, .unset, .unset, .unset, .unset, .unset] [])) _
          refine XS.lload X0.here hx rfl (hb hby at_80) rfl ?_
          show Steps p.tables e below (s₁.setTop (mkF m 82 #[.val (.long q0), .second, .val (.long q1), .second, .val (.int p2), .val (.long va), .second, .val (.long vb), .second, .val (.int (p2 &&& (3 : Int32))), .unset, .unset, .unset, .unset, .unset, .unset] [(.long va)])) _
          refine XS.lload X0.here hx rfl (hb hby at_82) rfl ?_
          exact kt)
        obtain ⟨_, _, ⟨T64, L64, k64, n64⟩, -, X64, ⟨Lc64, hQ64, l64, y64, z64⟩, st64⟩ := Jvm.LawKit.callS X0 hx (y := (⟨"com/example/shapelint/shapelint/ValueNodes", "plus", "(JJ)J"⟩ : MethodName)) hown (mvT hZ (hw _ (List.mem_of_getElem? (i := 1) rfl))) (mvT hZ (hw _ (List.mem_of_getElem? (i := 2) rfl))) (mvT hZ (hw _ (List.mem_of_getElem? (i := 3) rfl))) (mvT hZ (hw _ (List.mem_of_getElem? (i := 4) rfl))) (by decide) (backOf (W := 0) (rm1 l Z av hw [] va vb  h0 n0 Z0 ) hZ (hw _ (List.mem_of_getElem? (i := 4) rfl)) (hw _ (List.mem_of_getElem? (i := 3) rfl)) (by decide) (by decide)) (g := (mkF m 84 #[.val (.long q0), .second, .val (.long q1), .second, .val (.int p2), .val (.long va), .second, .val (.long vb), .second, .val (.int (p2 &&& (3 : Int32))), .unset, .unset, .unset, .unset, .unset, .unset] [(.long vb), (.long va)])) rfl (by rw [hml]; rfl) (argsL := [(.long va), (.long vb)]) (rest := []) (lenOf pd__JJ_J rfl) rfl (by show 2 * 0 + _ ≤ _; exact Nat.le_of_eq rfl) (hb hby at_84) (fun _ _ => ⟨rfl, e0, (by decide : 0 + 0 ≤ _), (by decide : 0 + 0 ≤ _)⟩)
        dsimp only [Pt.U, Pt.locs, Pt.cells, Pt.slots] at X64 l64 y64 z64 st64 hQ64
        subst l64 y64 z64
        obtain ⟨rfl, N64q, e64⟩ := hQ64
        have N64 := Fr.app N0 N64q
        have pre65 : ∀ t, Steps p.tables e below (T64.setTop (mkF m 87 #[.val (.long q0), .second, .val (.long q1), .second, .val (.int p2), .val (.long va), .second, .val (.long vb), .second, .val (.int (p2 &&& (3 : Int32))), .unset, .unset, .unset, .unset, .unset, .unset] [(.long (f1 va vb))])) t → Steps p.tables e below (s₁.setTop (entryFrame m #[(.long q0), (.long q1), (.int p2)] maxLocals)) t := fun t kt => pre63 t (st64 _ kt)
        have pre66 : ∀ t, Steps p.tables e below (T64.setTop (mkF m 95 #[.val (.long q0), .second, .val (.long q1), .second, .val (.int p2), .val (.long va), .second, .val (.long vb), .second, .val (.int (p2 &&& (3 : Int32))), .val (.long (f1 va vb)), .second, .unset, .unset, .unset, .unset] [(.int (lcmpW va (9223372036854775807 : Int64)))])) t → Steps p.tables e below (s₁.setTop (entryFrame m #[(.long q0), (.long q1), (.int p2)] maxLocals)) t := fun t kt => pre65 t (by
          show Steps p.tables e below (T64.setTop (mkF m 87 #[.val (.long q0), .second, .val (.long q1), .second, .val (.int p2), .val (.long va), .second, .val (.long vb), .second, .val (.int (p2 &&& (3 : Int32))), .unset, .unset, .unset, .unset, .unset, .unset] [(.long (f1 va vb))])) _
          refine XS.lstore X64.here hx rfl (hb hby at_87) rfl (l' := #[.val (.long q0), .second, .val (.long q1), .second, .val (.int p2), .val (.long va), .second, .val (.long vb), .second, .val (.int (p2 &&& (3 : Int32))), .val (.long (f1 va vb)), .second, .unset, .unset, .unset, .unset]) rfl ?_
          show Steps p.tables e below (T64.setTop (mkF m 89 #[.val (.long q0), .second, .val (.long q1), .second, .val (.int p2), .val (.long va), .second, .val (.long vb), .second, .val (.int (p2 &&& (3 : Int32))), .val (.long (f1 va vb)), .second, .unset, .unset, .unset, .unset] [])) _
          refine XS.lload X64.here hx rfl (hb hby at_89) rfl ?_
          show Steps p.tables e below (T64.setTop (mkF m 91 #[.val (.long q0), .second, .val (.long q1), .second, .val (.int p2), .val (.long va), .second, .val (.long vb), .second, .val (.int (p2 &&& (3 : Int32))), .val (.long (f1 va vb)), .second, .unset, .unset, .unset, .unset] [(.long va)])) _
          refine X64.ldc2Long hx hown (mvT hZ (hw _ (List.mem_of_getElem? (i := 0) rfl))) (g := (mkF m 91 #[.val (.long q0), .second, .val (.long q1), .second, .val (.int p2), .val (.long va), .second, .val (.long vb), .second, .val (.int (p2 &&& (3 : Int32))), .val (.long (f1 va vb)), .second, .unset, .unset, .unset, .unset] [(.long va)])) rfl (hb hby at_91) _ ?_
          show Steps p.tables e below (T64.setTop (mkF m 94 #[.val (.long q0), .second, .val (.long q1), .second, .val (.int p2), .val (.long va), .second, .val (.long vb), .second, .val (.int (p2 &&& (3 : Int32))), .val (.long (f1 va vb)), .second, .unset, .unset, .unset, .unset] [(.long (9223372036854775807 : Int64)), (.long va)])) _
          refine XS.lcmp X64.here hx rfl (hb hby at_94) rfl ?_
          exact kt)
        by_cases hc95_67 : va = (9223372036854775807 : Int64)
        · have pre68 : ∀ t, Steps p.tables e below (T64.setTop (mkF m 163 #[.val (.long q0), .second, .val (.long q1), .second, .val (.int p2), .val (.long va), .second, .val (.long vb), .second, .val (.int (p2 &&& (3 : Int32))), .val (.long (f1 va vb)), .second, .val (.long (9223372036854775807 : Int64)), .second, .unset, .unset] [(.int (1 : Int32))])) t → Steps p.tables e below (s₁.setTop (entryFrame m #[(.long q0), (.long q1), (.int p2)] maxLocals)) t := fun t kt => pre66 t (by
            show Steps p.tables e below (T64.setTop (mkF m 95 #[.val (.long q0), .second, .val (.long q1), .second, .val (.int p2), .val (.long va), .second, .val (.long vb), .second, .val (.int (p2 &&& (3 : Int32))), .val (.long (f1 va vb)), .second, .unset, .unset, .unset, .unset] [(.int (lcmpW va (9223372036854775807 : Int64)))])) _
            refine XS.ifYes X64.here hx rfl (pc0 := 95) (pc' := 107) rfl (hb hby at_95) rfl (Jvm.Free.XT.ll_eq_t hc95_67) (by decide) (by decide) ?_
            show Steps p.tables e below (T64.setTop (mkF m 107 #[.val (.long q0), .second, .val (.long q1), .second, .val (.int p2), .val (.long va), .second, .val (.long vb), .second, .val (.int (p2 &&& (3 : Int32))), .val (.long (f1 va vb)), .second, .unset, .unset, .unset, .unset] [])) _
            refine X64.ldc2Long hx hown (mvT hZ (hw _ (List.mem_of_getElem? (i := 0) rfl))) (g := (mkF m 107 #[.val (.long q0), .second, .val (.long q1), .second, .val (.int p2), .val (.long va), .second, .val (.long vb), .second, .val (.int (p2 &&& (3 : Int32))), .val (.long (f1 va vb)), .second, .unset, .unset, .unset, .unset] [])) rfl (hb hby at_107) _ ?_
            show Steps p.tables e below (T64.setTop (mkF m 110 #[.val (.long q0), .second, .val (.long q1), .second, .val (.int p2), .val (.long va), .second, .val (.long vb), .second, .val (.int (p2 &&& (3 : Int32))), .val (.long (f1 va vb)), .second, .unset, .unset, .unset, .unset] [(.long (9223372036854775807 : Int64))])) _
            refine XS.lstore X64.here hx rfl (hb hby at_110) rfl (l' := #[.val (.long q0), .second, .val (.long q1), .second, .val (.int p2), .val (.long va), .second, .val (.long vb), .second, .val (.int (p2 &&& (3 : Int32))), .val (.long (f1 va vb)), .second, .val (.long (9223372036854775807 : Int64)), .second, .unset, .unset]) rfl ?_
            show Steps p.tables e below (T64.setTop (mkF m 112 #[.val (.long q0), .second, .val (.long q1), .second, .val (.int p2), .val (.long va), .second, .val (.long vb), .second, .val (.int (p2 &&& (3 : Int32))), .val (.long (f1 va vb)), .second, .val (.long (9223372036854775807 : Int64)), .second, .unset, .unset] [])) _
            refine XS.goto X64.here hx rfl (pc0 := 112) (pc' := 150) rfl (hb hby at_112) (by decide) (by decide) ?_
            show Steps p.tables e below (T64.setTop (mkF m 150 #[.val (.long q0), .second, .val (.long q1), .second, .val (.int p2), .val (.long va), .second, .val (.long vb), .second, .val (.int (p2 &&& (3 : Int32))), .val (.long (f1 va vb)), .second, .val (.long (9223372036854775807 : Int64)), .second, .unset, .unset] [])) _
            refine XS.lload X64.here hx rfl (hb hby at_150) rfl ?_
            show Steps p.tables e below (T64.setTop (mkF m 152 #[.val (.long q0), .second, .val (.long q1), .second, .val (.int p2), .val (.long va), .second, .val (.long vb), .second, .val (.int (p2 &&& (3 : Int32))), .val (.long (f1 va vb)), .second, .val (.long (9223372036854775807 : Int64)), .second, .unset, .unset] [(.long (f1 va vb))])) _
            refine XS.lload X64.here hx rfl (hb hby at_152) rfl ?_
            show Steps p.tables e below (T64.setTop (mkF m 154 #[.val (.long q0), .second, .val (.long q1), .second, .val (.int p2), .val (.long va), .second, .val (.long vb), .second, .val (.int (p2 &&& (3 : Int32))), .val (.long (f1 va vb)), .second, .val (.long (9223372036854775807 : Int64)), .second, .unset, .unset] [(.long (9223372036854775807 : Int64)), (.long (f1 va vb))])) _
            refine XS.lcmp X64.here hx rfl (hb hby at_154) rfl ?_
            show Steps p.tables e below (T64.setTop (mkF m 155 #[.val (.long q0), .second, .val (.long q1), .second, .val (.int p2), .val (.long va), .second, .val (.long vb), .second, .val (.int (p2 &&& (3 : Int32))), .val (.long (f1 va vb)), .second, .val (.long (9223372036854775807 : Int64)), .second, .unset, .unset] [(.int (lcmpW (f1 va vb) (9223372036854775807 : Int64)))])) _
            refine XS.ifNo X64.here hx rfl (hb hby at_155) rfl (Jvm.Free.XT.ll_ne_f (by rw [own_law va vb hm62.1 hm62.2, if_pos hc95_67] : (f1 va vb) = (9223372036854775807 : Int64))) ?_
            show Steps p.tables e below (T64.setTop (mkF m 158 #[.val (.long q0), .second, .val (.long q1), .second, .val (.int p2), .val (.long va), .second, .val (.long vb), .second, .val (.int (p2 &&& (3 : Int32))), .val (.long (f1 va vb)), .second, .val (.long (9223372036854775807 : Int64)), .second, .unset, .unset] [])) _
            refine XS.iconst X64.here hx rfl (hb hby at_158) ?_
            show Steps p.tables e below (T64.setTop (mkF m 159 #[.val (.long q0), .second, .val (.long q1), .second, .val (.int p2), .val (.long va), .second, .val (.long vb), .second, .val (.int (p2 &&& (3 : Int32))), .val (.long (f1 va vb)), .second, .val (.long (9223372036854775807 : Int64)), .second, .unset, .unset] [(.int (1 : Int32))])) _
            refine XS.goto X64.here hx rfl (pc0 := 159) (pc' := 163) rfl (hb hby at_159) (by decide) (by decide) ?_
            exact kt)
          obtain ⟨fs, hr, hrun, hended, hW, hsame⟩ := X64.leave (v := some (.int (1 : Int32))) (fun h => by rw [Bd.returns] at h; cases h)
          refine ⟨_, _, pre68 _ ?_, hrun, hended, _, _, rfl, ?_, ⟨_, rfl⟩, hW, hsame.mono (by decide) (by decide)⟩
          · show Steps p.tables e below (T64.setTop (mkF m 163 #[.val (.long q0), .second, .val (.long q1), .second, .val (.int p2), .val (.long va), .second, .val (.long vb), .second, .val (.int (p2 &&& (3 : Int32))), .val (.long (f1 va vb)), .second, .val (.long (9223372036854775807 : Int64)), .second, .unset, .unset] [(.int (1 : Int32))])) _
            exact retN X64 hx (t := .boolean) Bd.returns (by simp) (hb hby at_163) hr
          · show Q0 Z q0 q1 p2 h0 n0 _ T64.heap _
            rw [e64]
            exact ⟨rfl, N64⟩
        · have pre69 : ∀ t, Steps p.tables e below (T64.setTop (mkF m 104 #[.val (.long q0), .second, .val (.long q1), .second, .val (.int p2), .val (.long va), .second, .val (.long vb), .second, .val (.int (p2 &&& (3 : Int32))), .val (.long (f1 va vb)), .second, .unset, .unset, .unset, .unset] [(.int (lcmpW vb (9223372036854775807 : Int64)))])) t → Steps p.tables e below (s₁.setTop (entryFrame m #[(.long q0), (.long q1), (.int p2)] maxLocals)) t := fun t kt => pre66 t (by
            show Steps p.tables e below (T64.setTop (mkF m 95 #[.val (.long q0), .second, .val (.long q1), .second, .val (.int p2), .val (.long va), .second, .val (.long vb), .second, .val (.int (p2 &&& (3 : Int32))), .val (.long (f1 va vb)), .second, .unset, .unset, .unset, .unset] [(.int (lcmpW va (9223372036854775807 : Int64)))])) _
            refine XS.ifNo X64.here hx rfl (hb hby at_95) rfl (Jvm.Free.XT.ll_eq_f hc95_67) ?_
            show Steps p.tables e below (T64.setTop (mkF m 98 #[.val (.long q0), .second, .val (.long q1), .second, .val (.int p2), .val (.long va), .second, .val (.long vb), .second, .val (.int (p2 &&& (3 : Int32))), .val (.long (f1 va vb)), .second, .unset, .unset, .unset, .unset] [])) _
            refine XS.lload X64.here hx rfl (hb hby at_98) rfl ?_
            show Steps p.tables e below (T64.setTop (mkF m 100 #[.val (.long q0), .second, .val (.long q1), .second, .val (.int p2), .val (.long va), .second, .val (.long vb), .second, .val (.int (p2 &&& (3 : Int32))), .val (.long (f1 va vb)), .second, .unset, .unset, .unset, .unset] [(.long vb)])) _
            refine X64.ldc2Long hx hown (mvT hZ (hw _ (List.mem_of_getElem? (i := 0) rfl))) (g := (mkF m 100 #[.val (.long q0), .second, .val (.long q1), .second, .val (.int p2), .val (.long va), .second, .val (.long vb), .second, .val (.int (p2 &&& (3 : Int32))), .val (.long (f1 va vb)), .second, .unset, .unset, .unset, .unset] [(.long vb)])) rfl (hb hby at_100) _ ?_
            show Steps p.tables e below (T64.setTop (mkF m 103 #[.val (.long q0), .second, .val (.long q1), .second, .val (.int p2), .val (.long va), .second, .val (.long vb), .second, .val (.int (p2 &&& (3 : Int32))), .val (.long (f1 va vb)), .second, .unset, .unset, .unset, .unset] [(.long (9223372036854775807 : Int64)), (.long vb)])) _
            refine XS.lcmp X64.here hx rfl (hb hby at_103) rfl ?_
            exact kt)
          by_cases hc104_70 : vb = (9223372036854775807 : Int64)
          · have pre71 : ∀ t, Steps p.tables e below (T64.setTop (mkF m 163 #[.val (.long q0), .second, .val (.long q1), .second, .val (.int p2), .val (.long va), .second, .val (.long vb), .second, .val (.int (p2 &&& (3 : Int32))), .val (.long (f1 va vb)), .second, .val (.long (9223372036854775807 : Int64)), .second, .unset, .unset] [(.int (1 : Int32))])) t → Steps p.tables e below (s₁.setTop (entryFrame m #[(.long q0), (.long q1), (.int p2)] maxLocals)) t := fun t kt => pre69 t (by
              show Steps p.tables e below (T64.setTop (mkF m 104 #[.val (.long q0), .second, .val (.long q1), .second, .val (.int p2), .val (.long va), .second, .val (.long vb), .second, .val (.int (p2 &&& (3 : Int32))), .val (.long (f1 va vb)), .second, .unset, .unset, .unset, .unset] [(.int (lcmpW vb (9223372036854775807 : Int64)))])) _
              refine XS.ifNo X64.here hx rfl (hb hby at_104) rfl (Jvm.Free.XT.ll_ne_f hc104_70) ?_
              show Steps p.tables e below (T64.setTop (mkF m 107 #[.val (.long q0), .second, .val (.long q1), .second, .val (.int p2), .val (.long va), .second, .val (.long vb), .second, .val (.int (p2 &&& (3 : Int32))), .val (.long (f1 va vb)), .second, .unset, .unset, .unset, .unset] [])) _
              refine X64.ldc2Long hx hown (mvT hZ (hw _ (List.mem_of_getElem? (i := 0) rfl))) (g := (mkF m 107 #[.val (.long q0), .second, .val (.long q1), .second, .val (.int p2), .val (.long va), .second, .val (.long vb), .second, .val (.int (p2 &&& (3 : Int32))), .val (.long (f1 va vb)), .second, .unset, .unset, .unset, .unset] [])) rfl (hb hby at_107) _ ?_
              show Steps p.tables e below (T64.setTop (mkF m 110 #[.val (.long q0), .second, .val (.long q1), .second, .val (.int p2), .val (.long va), .second, .val (.long vb), .second, .val (.int (p2 &&& (3 : Int32))), .val (.long (f1 va vb)), .second, .unset, .unset, .unset, .unset] [(.long (9223372036854775807 : Int64))])) _
              refine XS.lstore X64.here hx rfl (hb hby at_110) rfl (l' := #[.val (.long q0), .second, .val (.long q1), .second, .val (.int p2), .val (.long va), .second, .val (.long vb), .second, .val (.int (p2 &&& (3 : Int32))), .val (.long (f1 va vb)), .second, .val (.long (9223372036854775807 : Int64)), .second, .unset, .unset]) rfl ?_
              show Steps p.tables e below (T64.setTop (mkF m 112 #[.val (.long q0), .second, .val (.long q1), .second, .val (.int p2), .val (.long va), .second, .val (.long vb), .second, .val (.int (p2 &&& (3 : Int32))), .val (.long (f1 va vb)), .second, .val (.long (9223372036854775807 : Int64)), .second, .unset, .unset] [])) _
              refine XS.goto X64.here hx rfl (pc0 := 112) (pc' := 150) rfl (hb hby at_112) (by decide) (by decide) ?_
              show Steps p.tables e below (T64.setTop (mkF m 150 #[.val (.long q0), .second, .val (.long q1), .second, .val (.int p2), .val (.long va), .second, .val (.long vb), .second, .val (.int (p2 &&& (3 : Int32))), .val (.long (f1 va vb)), .second, .val (.long (9223372036854775807 : Int64)), .second, .unset, .unset] [])) _
              refine XS.lload X64.here hx rfl (hb hby at_150) rfl ?_
              show Steps p.tables e below (T64.setTop (mkF m 152 #[.val (.long q0), .second, .val (.long q1), .second, .val (.int p2), .val (.long va), .second, .val (.long vb), .second, .val (.int (p2 &&& (3 : Int32))), .val (.long (f1 va vb)), .second, .val (.long (9223372036854775807 : Int64)), .second, .unset, .unset] [(.long (f1 va vb))])) _
              refine XS.lload X64.here hx rfl (hb hby at_152) rfl ?_
              show Steps p.tables e below (T64.setTop (mkF m 154 #[.val (.long q0), .second, .val (.long q1), .second, .val (.int p2), .val (.long va), .second, .val (.long vb), .second, .val (.int (p2 &&& (3 : Int32))), .val (.long (f1 va vb)), .second, .val (.long (9223372036854775807 : Int64)), .second, .unset, .unset] [(.long (9223372036854775807 : Int64)), (.long (f1 va vb))])) _
              refine XS.lcmp X64.here hx rfl (hb hby at_154) rfl ?_
              show Steps p.tables e below (T64.setTop (mkF m 155 #[.val (.long q0), .second, .val (.long q1), .second, .val (.int p2), .val (.long va), .second, .val (.long vb), .second, .val (.int (p2 &&& (3 : Int32))), .val (.long (f1 va vb)), .second, .val (.long (9223372036854775807 : Int64)), .second, .unset, .unset] [(.int (lcmpW (f1 va vb) (9223372036854775807 : Int64)))])) _
              refine XS.ifNo X64.here hx rfl (hb hby at_155) rfl (Jvm.Free.XT.ll_ne_f (by rw [own_law va vb hm62.1 hm62.2, if_neg hc95_67, if_pos hc104_70] : (f1 va vb) = (9223372036854775807 : Int64))) ?_
              show Steps p.tables e below (T64.setTop (mkF m 158 #[.val (.long q0), .second, .val (.long q1), .second, .val (.int p2), .val (.long va), .second, .val (.long vb), .second, .val (.int (p2 &&& (3 : Int32))), .val (.long (f1 va vb)), .second, .val (.long (9223372036854775807 : Int64)), .second, .unset, .unset] [])) _
              refine XS.iconst X64.here hx rfl (hb hby at_158) ?_
              show Steps p.tables e below (T64.setTop (mkF m 159 #[.val (.long q0), .second, .val (.long q1), .second, .val (.int p2), .val (.long va), .second, .val (.long vb), .second, .val (.int (p2 &&& (3 : Int32))), .val (.long (f1 va vb)), .second, .val (.long (9223372036854775807 : Int64)), .second, .unset, .unset] [(.int (1 : Int32))])) _
              refine XS.goto X64.here hx rfl (pc0 := 159) (pc' := 163) rfl (hb hby at_159) (by decide) (by decide) ?_
              exact kt)
            obtain ⟨fs, hr, hrun, hended, hW, hsame⟩ := X64.leave (v := some (.int (1 : Int32))) (fun h => by rw [Bd.returns] at h; cases h)
            refine ⟨_, _, pre71 _ ?_, hrun, hended, _, _, rfl, ?_, ⟨_, rfl⟩, hW, hsame.mono (by decide) (by decide)⟩
            · show Steps p.tables e below (T64.setTop (mkF m 163 #[.val (.long q0), .second, .val (.long q1), .second, .val (.int p2), .val (.long va), .second, .val (.long vb), .second, .val (.int (p2 &&& (3 : Int32))), .val (.long (f1 va vb)), .second, .val (.long (9223372036854775807 : Int64)), .second, .unset, .unset] [(.int (1 : Int32))])) _
              exact retN X64 hx (t := .boolean) Bd.returns (by simp) (hb hby at_163) hr
            · show Q0 Z q0 q1 p2 h0 n0 _ T64.heap _
              rw [e64]
              exact ⟨rfl, N64⟩
          · have pre72 : ∀ t, Steps p.tables e below (T64.setTop (mkF m 126 #[.val (.long q0), .second, .val (.long q1), .second, .val (.int p2), .val (.long va), .second, .val (.long vb), .second, .val (.int (p2 &&& (3 : Int32))), .val (.long (f1 va vb)), .second, .unset, .unset, .val (.long (va + vb)), .second] [(.int (lcmpW (va + vb) (0 : Int64)))])) t → Steps p.tables e below (s₁.setTop (entryFrame m #[(.long q0), (.long q1), (.int p2)] maxLocals)) t := fun t kt => pre69 t (by
              show Steps p.tables e below (T64.setTop (mkF m 104 #[.val (.long q0), .second, .val (.long q1), .second, .val (.int p2), .val (.long va), .second, .val (.long vb), .second, .val (.int (p2 &&& (3 : Int32))), .val (.long (f1 va vb)), .second, .unset, .unset, .unset, .unset] [(.int (lcmpW vb (9223372036854775807 : Int64)))])) _
              refine XS.ifYes X64.here hx rfl (pc0 := 104) (pc' := 115) rfl (hb hby at_104) rfl (Jvm.Free.XT.ll_ne_t hc104_70) (by decide) (by decide) ?_
              show Steps p.tables e below (T64.setTop (mkF m 115 #[.val (.long q0), .second, .val (.long q1), .second, .val (.int p2), .val (.long va), .second, .val (.long vb), .second, .val (.int (p2 &&& (3 : Int32))), .val (.long (f1 va vb)), .second, .unset, .unset, .unset, .unset] [])) _
              refine XS.lload X64.here hx rfl (hb hby at_115) rfl ?_
              show Steps p.tables e below (T64.setTop (mkF m 117 #[.val (.long q0), .second, .val (.long q1), .second, .val (.int p2), .val (.long va), .second, .val (.long vb), .second, .val (.int (p2 &&& (3 : Int32))), .val (.long (f1 va vb)), .second, .unset, .unset, .unset, .unset] [(.long va)])) _
              refine XS.lload X64.here hx rfl (hb hby at_117) rfl ?_
              show Steps p.tables e below (T64.setTop (mkF m 119 #[.val (.long q0), .second, .val (.long q1), .second, .val (.int p2), .val (.long va), .second, .val (.long vb), .second, .val (.int (p2 &&& (3 : Int32))), .val (.long (f1 va vb)), .second, .unset, .unset, .unset, .unset] [(.long vb), (.long va)])) _
              refine XS.ladd X64.here hx rfl (hb hby at_119) rfl ?_
              show Steps p.tables e below (T64.setTop (mkF m 120 #[.val (.long q0), .second, .val (.long q1), .second, .val (.int p2), .val (.long va), .second, .val (.long vb), .second, .val (.int (p2 &&& (3 : Int32))), .val (.long (f1 va vb)), .second, .unset, .unset, .unset, .unset] [(.long (va + vb))])) _
              refine XS.lstore X64.here hx rfl (hb hby at_120) rfl (l' := #[.val (.long q0), .second, .val (.long q1), .second, .val (.int p2), .val (.long va), .second, .val (.long vb), .second, .val (.int (p2 &&& (3 : Int32))), .val (.long (f1 va vb)), .second, .unset, .unset, .val (.long (va + vb)), .second]) rfl ?_
              show Steps p.tables e below (T64.setTop (mkF m 122 #[.val (.long q0), .second, .val (.long q1), .second, .val (.int p2), .val (.long va), .second, .val (.long vb), .second, .val (.int (p2 &&& (3 : Int32))), .val (.long (f1 va vb)), .second, .unset, .unset, .val (.long (va + vb)), .second] [])) _
              refine XS.lload X64.here hx rfl (hb hby at_122) rfl ?_
              show Steps p.tables e below (T64.setTop (mkF m 124 #[.val (.long q0), .second, .val (.long q1), .second, .val (.int p2), .val (.long va), .second, .val (.long vb), .second, .val (.int (p2 &&& (3 : Int32))), .val (.long (f1 va vb)), .second, .unset, .unset, .val (.long (va + vb)), .second] [(.long (va + vb))])) _
              refine XS.lconst X64.here hx rfl (hb hby at_124) ?_
              show Steps p.tables e below (T64.setTop (mkF m 125 #[.val (.long q0), .second, .val (.long q1), .second, .val (.int p2), .val (.long va), .second, .val (.long vb), .second, .val (.int (p2 &&& (3 : Int32))), .val (.long (f1 va vb)), .second, .unset, .unset, .val (.long (va + vb)), .second] [(.long (0 : Int64)), (.long (va + vb))])) _
              refine XS.lcmp X64.here hx rfl (hb hby at_125) rfl ?_
              exact kt)
            by_cases hc126_73 : (va + vb) < (0 : Int64)
            · have pre74 : ∀ t, Steps p.tables e below (T64.setTop (mkF m 163 #[.val (.long q0), .second, .val (.long q1), .second, .val (.int p2), .val (.long va), .second, .val (.long vb), .second, .val (.int (p2 &&& (3 : Int32))), .val (.long (f1 va vb)), .second, .val (.long (9223372036854775806 : Int64)), .second, .val (.long (va + vb)), .second] [(.int (1 : Int32))])) t → Steps p.tables e below (s₁.setTop (entryFrame m #[(.long q0), (.long q1), (.int p2)] maxLocals)) t := fun t kt => pre72 t (by
                show Steps p.tables e below (T64.setTop (mkF m 126 #[.val (.long q0), .second, .val (.long q1), .second, .val (.int p2), .val (.long va), .second, .val (.long vb), .second, .val (.int (p2 &&& (3 : Int32))), .val (.long (f1 va vb)), .second, .unset, .unset, .val (.long (va + vb)), .second] [(.int (lcmpW (va + vb) (0 : Int64)))])) _
                refine XS.ifYes X64.here hx rfl (pc0 := 126) (pc' := 138) rfl (hb hby at_126) rfl (Jvm.Free.XT.ll_lt_t hc126_73) (by decide) (by decide) ?_
                show Steps p.tables e below (T64.setTop (mkF m 138 #[.val (.long q0), .second, .val (.long q1), .second, .val (.int p2), .val (.long va), .second, .val (.long vb), .second, .val (.int (p2 &&& (3 : Int32))), .val (.long (f1 va vb)), .second, .unset, .unset, .val (.long (va + vb)), .second] [])) _
                refine X64.ldc2Long hx hown (mvT hZ (hw _ (List.mem_of_getElem? (i := 7) rfl))) (g := (mkF m 138 #[.val (.long q0), .second, .val (.long q1), .second, .val (.int p2), .val (.long va), .second, .val (.long vb), .second, .val (.int (p2 &&& (3 : Int32))), .val (.long (f1 va vb)), .second, .unset, .unset, .val (.long (va + vb)), .second] [])) rfl (hb hby at_138) _ ?_
                show Steps p.tables e below (T64.setTop (mkF m 141 #[.val (.long q0), .second, .val (.long q1), .second, .val (.int p2), .val (.long va), .second, .val (.long vb), .second, .val (.int (p2 &&& (3 : Int32))), .val (.long (f1 va vb)), .second, .unset, .unset, .val (.long (va + vb)), .second] [(.long (9223372036854775806 : Int64))])) _
                refine XS.lstore X64.here hx rfl (hb hby at_141) rfl (l' := #[.val (.long q0), .second, .val (.long q1), .second, .val (.int p2), .val (.long va), .second, .val (.long vb), .second, .val (.int (p2 &&& (3 : Int32))), .val (.long (f1 va vb)), .second, .val (.long (9223372036854775806 : Int64)), .second, .val (.long (va + vb)), .second]) rfl ?_
                show Steps p.tables e below (T64.setTop (mkF m 143 #[.val (.long q0), .second, .val (.long q1), .second, .val (.int p2), .val (.long va), .second, .val (.long vb), .second, .val (.int (p2 &&& (3 : Int32))), .val (.long (f1 va vb)), .second, .val (.long (9223372036854775806 : Int64)), .second, .val (.long (va + vb)), .second] [])) _
                refine XS.goto X64.here hx rfl (pc0 := 143) (pc' := 150) rfl (hb hby at_143) (by decide) (by decide) ?_
                show Steps p.tables e below (T64.setTop (mkF m 150 #[.val (.long q0), .second, .val (.long q1), .second, .val (.int p2), .val (.long va), .second, .val (.long vb), .second, .val (.int (p2 &&& (3 : Int32))), .val (.long (f1 va vb)), .second, .val (.long (9223372036854775806 : Int64)), .second, .val (.long (va + vb)), .second] [])) _
                refine XS.lload X64.here hx rfl (hb hby at_150) rfl ?_
                show Steps p.tables e below (T64.setTop (mkF m 152 #[.val (.long q0), .second, .val (.long q1), .second, .val (.int p2), .val (.long va), .second, .val (.long vb), .second, .val (.int (p2 &&& (3 : Int32))), .val (.long (f1 va vb)), .second, .val (.long (9223372036854775806 : Int64)), .second, .val (.long (va + vb)), .second] [(.long (f1 va vb))])) _
                refine XS.lload X64.here hx rfl (hb hby at_152) rfl ?_
                show Steps p.tables e below (T64.setTop (mkF m 154 #[.val (.long q0), .second, .val (.long q1), .second, .val (.int p2), .val (.long va), .second, .val (.long vb), .second, .val (.int (p2 &&& (3 : Int32))), .val (.long (f1 va vb)), .second, .val (.long (9223372036854775806 : Int64)), .second, .val (.long (va + vb)), .second] [(.long (9223372036854775806 : Int64)), (.long (f1 va vb))])) _
                refine XS.lcmp X64.here hx rfl (hb hby at_154) rfl ?_
                show Steps p.tables e below (T64.setTop (mkF m 155 #[.val (.long q0), .second, .val (.long q1), .second, .val (.int p2), .val (.long va), .second, .val (.long vb), .second, .val (.int (p2 &&& (3 : Int32))), .val (.long (f1 va vb)), .second, .val (.long (9223372036854775806 : Int64)), .second, .val (.long (va + vb)), .second] [(.int (lcmpW (f1 va vb) (9223372036854775806 : Int64)))])) _
                refine XS.ifNo X64.here hx rfl (hb hby at_155) rfl (Jvm.Free.XT.ll_ne_f (by rw [own_law va vb hm62.1 hm62.2, if_neg hc95_67, if_neg hc104_70, if_pos hc126_73] : (f1 va vb) = (9223372036854775806 : Int64))) ?_
                show Steps p.tables e below (T64.setTop (mkF m 158 #[.val (.long q0), .second, .val (.long q1), .second, .val (.int p2), .val (.long va), .second, .val (.long vb), .second, .val (.int (p2 &&& (3 : Int32))), .val (.long (f1 va vb)), .second, .val (.long (9223372036854775806 : Int64)), .second, .val (.long (va + vb)), .second] [])) _
                refine XS.iconst X64.here hx rfl (hb hby at_158) ?_
                show Steps p.tables e below (T64.setTop (mkF m 159 #[.val (.long q0), .second, .val (.long q1), .second, .val (.int p2), .val (.long va), .second, .val (.long vb), .second, .val (.int (p2 &&& (3 : Int32))), .val (.long (f1 va vb)), .second, .val (.long (9223372036854775806 : Int64)), .second, .val (.long (va + vb)), .second] [(.int (1 : Int32))])) _
                refine XS.goto X64.here hx rfl (pc0 := 159) (pc' := 163) rfl (hb hby at_159) (by decide) (by decide) ?_
                exact kt)
              obtain ⟨fs, hr, hrun, hended, hW, hsame⟩ := X64.leave (v := some (.int (1 : Int32))) (fun h => by rw [Bd.returns] at h; cases h)
              refine ⟨_, _, pre74 _ ?_, hrun, hended, _, _, rfl, ?_, ⟨_, rfl⟩, hW, hsame.mono (by decide) (by decide)⟩
              · show Steps p.tables e below (T64.setTop (mkF m 163 #[.val (.long q0), .second, .val (.long q1), .second, .val (.int p2), .val (.long va), .second, .val (.long vb), .second, .val (.int (p2 &&& (3 : Int32))), .val (.long (f1 va vb)), .second, .val (.long (9223372036854775806 : Int64)), .second, .val (.long (va + vb)), .second] [(.int (1 : Int32))])) _
                exact retN X64 hx (t := .boolean) Bd.returns (by simp) (hb hby at_163) hr
              · show Q0 Z q0 q1 p2 h0 n0 _ T64.heap _
                rw [e64]
                exact ⟨rfl, N64⟩
            · have pre75 : ∀ t, Steps p.tables e below (T64.setTop (mkF m 135 #[.val (.long q0), .second, .val (.long q1), .second, .val (.int p2), .val (.long va), .second, .val (.long vb), .second, .val (.int (p2 &&& (3 : Int32))), .val (.long (f1 va vb)), .second, .unset, .unset, .val (.long (va + vb)), .second] [(.int (lcmpW (va + vb) (9223372036854775807 : Int64)))])) t → Steps p.tables e below (s₁.setTop (entryFrame m #[(.long q0), (.long q1), (.int p2)] maxLocals)) t := fun t kt => pre72 t (by
                show Steps p.tables e below (T64.setTop (mkF m 126 #[.val (.long q0), .second, .val (.long q1), .second, .val (.int p2), .val (.long va), .second, .val (.long vb), .second, .val (.int (p2 &&& (3 : Int32))), .val (.long (f1 va vb)), .second, .unset, .unset, .val (.long (va + vb)), .second] [(.int (lcmpW (va + vb) (0 : Int64)))])) _
                refine XS.ifNo X64.here hx rfl (hb hby at_126) rfl (Jvm.Free.XT.ll_lt_f hc126_73) ?_
                show Steps p.tables e below (T64.setTop (mkF m 129 #[.val (.long q0), .second, .val (.long q1), .second, .val (.int p2), .val (.long va), .second, .val (.long vb), .second, .val (.int (p2 &&& (3 : Int32))), .val (.long (f1 va vb)), .second, .unset, .unset, .val (.long (va + vb)), .second] [])) _
                refine XS.lload X64.here hx rfl (hb hby at_129) rfl ?_
                show Steps p.tables e below (T64.setTop (mkF m 131 #[.val (.long q0), .second, .val (.long q1), .second, .val (.int p2), .val (.long va), .second, .val (.long vb), .second, .val (.int (p2 &&& (3 : Int32))), .val (.long (f1 va vb)), .second, .unset, .unset, .val (.long (va + vb)), .second] [(.long (va + vb))])) _
                refine X64.ldc2Long hx hown (mvT hZ (hw _ (List.mem_of_getElem? (i := 0) rfl))) (g := (mkF m 131 #[.val (.long q0), .second, .val (.long q1), .second, .val (.int p2), .val (.long va), .second, .val (.long vb), .second, .val (.int (p2 &&& (3 : Int32))), .val (.long (f1 va vb)), .second, .unset, .unset, .val (.long (va + vb)), .second] [(.long (va + vb))])) rfl (hb hby at_131) _ ?_
                show Steps p.tables e below (T64.setTop (mkF m 134 #[.val (.long q0), .second, .val (.long q1), .second, .val (.int p2), .val (.long va), .second, .val (.long vb), .second, .val (.int (p2 &&& (3 : Int32))), .val (.long (f1 va vb)), .second, .unset, .unset, .val (.long (va + vb)), .second] [(.long (9223372036854775807 : Int64)), (.long (va + vb))])) _
                refine XS.lcmp X64.here hx rfl (hb hby at_134) rfl ?_
                exact kt)
              by_cases hc135_76 : (va + vb) = (9223372036854775807 : Int64)
              · have pre77 : ∀ t, Steps p.tables e below (T64.setTop (mkF m 163 #[.val (.long q0), .second, .val (.long q1), .second, .val (.int p2), .val (.long va), .second, .val (.long vb), .second, .val (.int (p2 &&& (3 : Int32))), .val (.long (f1 va vb)), .second, .val (.long (9223372036854775806 : Int64)), .second, .val (.long (va + vb)), .second] [(.int (1 : Int32))])) t → Steps p.tables e below (s₁.setTop (entryFrame m #[(.long q0), (.long q1), (.int p2)] maxLocals)) t := fun t kt => pre75 t (by
                  show Steps p.tables e below (T64.setTop (mkF m 135 #[.val (.long q0), .second, .val (.long q1), .second, .val (.int p2), .val (.long va), .second, .val (.long vb), .second, .val (.int (p2 &&& (3 : Int32))), .val (.long (f1 va vb)), .second, .unset, .unset, .val (.long (va + vb)), .second] [(.int (lcmpW (va + vb) (9223372036854775807 : Int64)))])) _
                  refine XS.ifNo X64.here hx rfl (hb hby at_135) rfl (Jvm.Free.XT.ll_ne_f hc135_76) ?_
                  show Steps p.tables e below (T64.setTop (mkF m 138 #[.val (.long q0), .second, .val (.long q1), .second, .val (.int p2), .val (.long va), .second, .val (.long vb), .second, .val (.int (p2 &&& (3 : Int32))), .val (.long (f1 va vb)), .second, .unset, .unset, .val (.long (va + vb)), .second] [])) _
                  refine X64.ldc2Long hx hown (mvT hZ (hw _ (List.mem_of_getElem? (i := 7) rfl))) (g := (mkF m 138 #[.val (.long q0), .second, .val (.long q1), .second, .val (.int p2), .val (.long va), .second, .val (.long vb), .second, .val (.int (p2 &&& (3 : Int32))), .val (.long (f1 va vb)), .second, .unset, .unset, .val (.long (va + vb)), .second] [])) rfl (hb hby at_138) _ ?_
                  show Steps p.tables e below (T64.setTop (mkF m 141 #[.val (.long q0), .second, .val (.long q1), .second, .val (.int p2), .val (.long va), .second, .val (.long vb), .second, .val (.int (p2 &&& (3 : Int32))), .val (.long (f1 va vb)), .second, .unset, .unset, .val (.long (va + vb)), .second] [(.long (9223372036854775806 : Int64))])) _
                  refine XS.lstore X64.here hx rfl (hb hby at_141) rfl (l' := #[.val (.long q0), .second, .val (.long q1), .second, .val (.int p2), .val (.long va), .second, .val (.long vb), .second, .val (.int (p2 &&& (3 : Int32))), .val (.long (f1 va vb)), .second, .val (.long (9223372036854775806 : Int64)), .second, .val (.long (va + vb)), .second]) rfl ?_
                  show Steps p.tables e below (T64.setTop (mkF m 143 #[.val (.long q0), .second, .val (.long q1), .second, .val (.int p2), .val (.long va), .second, .val (.long vb), .second, .val (.int (p2 &&& (3 : Int32))), .val (.long (f1 va vb)), .second, .val (.long (9223372036854775806 : Int64)), .second, .val (.long (va + vb)), .second] [])) _
                  refine XS.goto X64.here hx rfl (pc0 := 143) (pc' := 150) rfl (hb hby at_143) (by decide) (by decide) ?_
                  show Steps p.tables e below (T64.setTop (mkF m 150 #[.val (.long q0), .second, .val (.long q1), .second, .val (.int p2), .val (.long va), .second, .val (.long vb), .second, .val (.int (p2 &&& (3 : Int32))), .val (.long (f1 va vb)), .second, .val (.long (9223372036854775806 : Int64)), .second, .val (.long (va + vb)), .second] [])) _
                  refine XS.lload X64.here hx rfl (hb hby at_150) rfl ?_
                  show Steps p.tables e below (T64.setTop (mkF m 152 #[.val (.long q0), .second, .val (.long q1), .second, .val (.int p2), .val (.long va), .second, .val (.long vb), .second, .val (.int (p2 &&& (3 : Int32))), .val (.long (f1 va vb)), .second, .val (.long (9223372036854775806 : Int64)), .second, .val (.long (va + vb)), .second] [(.long (f1 va vb))])) _
                  refine XS.lload X64.here hx rfl (hb hby at_152) rfl ?_
                  show Steps p.tables e below (T64.setTop (mkF m 154 #[.val (.long q0), .second, .val (.long q1), .second, .val (.int p2), .val (.long va), .second, .val (.long vb), .second, .val (.int (p2 &&& (3 : Int32))), .val (.long (f1 va vb)), .second, .val (.long (9223372036854775806 : Int64)), .second, .val (.long (va + vb)), .second] [(.long (9223372036854775806 : Int64)), (.long (f1 va vb))])) _
                  refine XS.lcmp X64.here hx rfl (hb hby at_154) rfl ?_
                  show Steps p.tables e below (T64.setTop (mkF m 155 #[.val (.long q0), .second, .val (.long q1), .second, .val (.int p2), .val (.long va), .second, .val (.long vb), .second, .val (.int (p2 &&& (3 : Int32))), .val (.long (f1 va vb)), .second, .val (.long (9223372036854775806 : Int64)), .second, .val (.long (va + vb)), .second] [(.int (lcmpW (f1 va vb) (9223372036854775806 : Int64)))])) _
                  refine XS.ifNo X64.here hx rfl (hb hby at_155) rfl (Jvm.Free.XT.ll_ne_f (by rw [own_law va vb hm62.1 hm62.2, if_neg hc95_67, if_neg hc104_70, if_neg hc126_73, if_pos hc135_76] : (f1 va vb) = (9223372036854775806 : Int64))) ?_
                  show Steps p.tables e below (T64.setTop (mkF m 158 #[.val (.long q0), .second, .val (.long q1), .second, .val (.int p2), .val (.long va), .second, .val (.long vb), .second, .val (.int (p2 &&& (3 : Int32))), .val (.long (f1 va vb)), .second, .val (.long (9223372036854775806 : Int64)), .second, .val (.long (va + vb)), .second] [])) _
                  refine XS.iconst X64.here hx rfl (hb hby at_158) ?_
                  show Steps p.tables e below (T64.setTop (mkF m 159 #[.val (.long q0), .second, .val (.long q1), .second, .val (.int p2), .val (.long va), .second, .val (.long vb), .second, .val (.int (p2 &&& (3 : Int32))), .val (.long (f1 va vb)), .second, .val (.long (9223372036854775806 : Int64)), .second, .val (.long (va + vb)), .second] [(.int (1 : Int32))])) _
                  refine XS.goto X64.here hx rfl (pc0 := 159) (pc' := 163) rfl (hb hby at_159) (by decide) (by decide) ?_
                  exact kt)
                obtain ⟨fs, hr, hrun, hended, hW, hsame⟩ := X64.leave (v := some (.int (1 : Int32))) (fun h => by rw [Bd.returns] at h; cases h)
                refine ⟨_, _, pre77 _ ?_, hrun, hended, _, _, rfl, ?_, ⟨_, rfl⟩, hW, hsame.mono (by decide) (by decide)⟩
                · show Steps p.tables e below (T64.setTop (mkF m 163 #[.val (.long q0), .second, .val (.long q1), .second, .val (.int p2), .val (.long va), .second, .val (.long vb), .second, .val (.int (p2 &&& (3 : Int32))), .val (.long (f1 va vb)), .second, .val (.long (9223372036854775806 : Int64)), .second, .val (.long (va + vb)), .second] [(.int (1 : Int32))])) _
                  exact retN X64 hx (t := .boolean) Bd.returns (by simp) (hb hby at_163) hr
                · show Q0 Z q0 q1 p2 h0 n0 _ T64.heap _
                  rw [e64]
                  exact ⟨rfl, N64⟩
              · have pre78 : ∀ t, Steps p.tables e below (T64.setTop (mkF m 163 #[.val (.long q0), .second, .val (.long q1), .second, .val (.int p2), .val (.long va), .second, .val (.long vb), .second, .val (.int (p2 &&& (3 : Int32))), .val (.long (f1 va vb)), .second, .val (.long (va + vb)), .second, .val (.long (va + vb)), .second] [(.int (1 : Int32))])) t → Steps p.tables e below (s₁.setTop (entryFrame m #[(.long q0), (.long q1), (.int p2)] maxLocals)) t := fun t kt => pre75 t (by
                  show Steps p.tables e below (T64.setTop (mkF m 135 #[.val (.long q0), .second, .val (.long q1), .second, .val (.int p2), .val (.long va), .second, .val (.long vb), .second, .val (.int (p2 &&& (3 : Int32))), .val (.long (f1 va vb)), .second, .unset, .unset, .val (.long (va + vb)), .second] [(.int (lcmpW (va + vb) (9223372036854775807 : Int64)))])) _
                  refine XS.ifYes X64.here hx rfl (pc0 := 135) (pc' := 146) rfl (hb hby at_135) rfl (Jvm.Free.XT.ll_ne_t hc135_76) (by decide) (by decide) ?_
                  show Steps p.tables e below (T64.setTop (mkF m 146 #[.val (.long q0), .second, .val (.long q1), .second, .val (.int p2), .val (.long va), .second, .val (.long vb), .second, .val (.int (p2 &&& (3 : Int32))), .val (.long (f1 va vb)), .second, .unset, .unset, .val (.long (va + vb)), .second] [])) _
                  refine XS.lload X64.here hx rfl (hb hby at_146) rfl ?_
                  show Steps p.tables e below (T64.setTop (mkF m 148 #[.val (.long q0), .second, .val (.long q1), .second, .val (.int p2), .val (.long va), .second, .val (.long vb), .second, .val (.int (p2 &&& (3 : Int32))), .val (.long (f1 va vb)), .second, .unset, .unset, .val (.long (va + vb)), .second] [(.long (va + vb))])) _
                  refine XS.lstore X64.here hx rfl (hb hby at_148) rfl (l' := #[.val (.long q0), .second, .val (.long q1), .second, .val (.int p2), .val (.long va), .second, .val (.long vb), .second, .val (.int (p2 &&& (3 : Int32))), .val (.long (f1 va vb)), .second, .val (.long (va + vb)), .second, .val (.long (va + vb)), .second]) rfl ?_
                  show Steps p.tables e below (T64.setTop (mkF m 150 #[.val (.long q0), .second, .val (.long q1), .second, .val (.int p2), .val (.long va), .second, .val (.long vb), .second, .val (.int (p2 &&& (3 : Int32))), .val (.long (f1 va vb)), .second, .val (.long (va + vb)), .second, .val (.long (va + vb)), .second] [])) _
                  refine XS.lload X64.here hx rfl (hb hby at_150) rfl ?_
                  show Steps p.tables e below (T64.setTop (mkF m 152 #[.val (.long q0), .second, .val (.long q1), .second, .val (.int p2), .val (.long va), .second, .val (.long vb), .second, .val (.int (p2 &&& (3 : Int32))), .val (.long (f1 va vb)), .second, .val (.long (va + vb)), .second, .val (.long (va + vb)), .second] [(.long (f1 va vb))])) _
                  refine XS.lload X64.here hx rfl (hb hby at_152) rfl ?_
                  show Steps p.tables e below (T64.setTop (mkF m 154 #[.val (.long q0), .second, .val (.long q1), .second, .val (.int p2), .val (.long va), .second, .val (.long vb), .second, .val (.int (p2 &&& (3 : Int32))), .val (.long (f1 va vb)), .second, .val (.long (va + vb)), .second, .val (.long (va + vb)), .second] [(.long (va + vb)), (.long (f1 va vb))])) _
                  refine XS.lcmp X64.here hx rfl (hb hby at_154) rfl ?_
                  show Steps p.tables e below (T64.setTop (mkF m 155 #[.val (.long q0), .second, .val (.long q1), .second, .val (.int p2), .val (.long va), .second, .val (.long vb), .second, .val (.int (p2 &&& (3 : Int32))), .val (.long (f1 va vb)), .second, .val (.long (va + vb)), .second, .val (.long (va + vb)), .second] [(.int (lcmpW (f1 va vb) (va + vb)))])) _
                  refine XS.ifNo X64.here hx rfl (hb hby at_155) rfl (Jvm.Free.XT.ll_ne_f (by rw [own_law va vb hm62.1 hm62.2, if_neg hc95_67, if_neg hc104_70, if_neg hc126_73, if_neg hc135_76] : (f1 va vb) = (va + vb))) ?_
                  show Steps p.tables e below (T64.setTop (mkF m 158 #[.val (.long q0), .second, .val (.long q1), .second, .val (.int p2), .val (.long va), .second, .val (.long vb), .second, .val (.int (p2 &&& (3 : Int32))), .val (.long (f1 va vb)), .second, .val (.long (va + vb)), .second, .val (.long (va + vb)), .second] [])) _
                  refine XS.iconst X64.here hx rfl (hb hby at_158) ?_
                  show Steps p.tables e below (T64.setTop (mkF m 159 #[.val (.long q0), .second, .val (.long q1), .second, .val (.int p2), .val (.long va), .second, .val (.long vb), .second, .val (.int (p2 &&& (3 : Int32))), .val (.long (f1 va vb)), .second, .val (.long (va + vb)), .second, .val (.long (va + vb)), .second] [(.int (1 : Int32))])) _
                  refine XS.goto X64.here hx rfl (pc0 := 159) (pc' := 163) rfl (hb hby at_159) (by decide) (by decide) ?_
                  exact kt)
                obtain ⟨fs, hr, hrun, hended, hW, hsame⟩ := X64.leave (v := some (.int (1 : Int32))) (fun h => by rw [Bd.returns] at h; cases h)
                refine ⟨_, _, pre78 _ ?_, hrun, hended, _, _, rfl, ?_, ⟨_, rfl⟩, hW, hsame.mono (by decide) (by decide)⟩
                · show Steps p.tables e below (T64.setTop (mkF m 163 #[.val (.long q0), .second, .val (.long q1), .second, .val (.int p2), .val (.long va), .second, .val (.long vb), .second, .val (.int (p2 &&& (3 : Int32))), .val (.long (f1 va vb)), .second, .val (.long (va + vb)), .second, .val (.long (va + vb)), .second] [(.int (1 : Int32))])) _
                  exact retN X64 hx (t := .boolean) Bd.returns (by simp) (hb hby at_163) hr
                · show Q0 Z q0 q1 p2 h0 n0 _ T64.heap _
                  rw [e64]
                  exact ⟨rfl, N64⟩
set_option maxRecDepth 65536 in
set_option maxHeartbeats 40000000 in
theorem comes_1 {Post : Tables → Env → Array Value → State → Outcome → State → Prop} (hpost : ∀ tb e args s v u, (limb_1_1.after args s (.returned v) u = true ∧ limb_1_2.after args s (.returned v) u = true ∧ True) → FrameEnd s (.returned v) u (Jvm.fieldLocs frame_1_writes args s ++ Jvm.arrayLocs frame_1_arrays args s ++ Jvm.staticLocs frame_1_statics s) 0 0 → Post tb e args s (.returned v) u) :
    ArmFor flags0 classFile x code maxLocals ret World_1 tables_1 room_1 Calls_1 rest_1 Pre_1 Post := by
  intro l hfl _ _ p e ha hc hk s m args below hf hA hF happ hP
  obtain ⟨hcalls, hrest, hpre⟩ := hP
  obtain ⟨-, -, -, hnamed, -, -, -, hat⟩ := (Spec.applies_iff hf).mp happ
  obtain ⟨hg, hn⟩ := and_e (Cond.before_iff.mp (show (Jvm.Cond.and given_1 narrow_1).before args s = true from hpre))
  obtain ⟨g1, g2⟩ := and_e hg
  obtain ⟨g3, g4⟩ := and_e g2
  obtain ⟨g5, g6⟩ := and_e g4
  obtain ⟨w0, w1, w2, rfl⟩ : ∃ w0 w1 w2 : Value, args = #[w0, w1, w2] := by
    have hs : args.size = 3 := by simpa [Cond.value, given_1] using g1
    obtain ⟨L⟩ := args
    match L, hs with
    | [w0, w1, w2], _ => exact ⟨w0, w1, w2, rfl⟩
  have hw := fun d (hd : d ∈ tables_1) => atoms_spec (ws := Jvm.Cond.code x code maxLocals ret :: tables_1) hat d (List.mem_cons_of_mem _ hd)
  obtain ⟨i0, ei0⟩ := isL_v g3
  obtain rfl : w0 = (.long i0) := Option.some.inj ei0
  obtain ⟨i1, ei1⟩ := isL_v g5
  obtain rfl : w1 = (.long i1) := Option.some.inj ei1
  obtain ⟨i2, ei2⟩ := is_v g6
  obtain rfl : w2 = (.int i2) := Option.some.inj ei2
  obtain ⟨n, o, h1, h2, h3, _, L, rfl, ⟨rfl, N⟩, hq⟩ := rm0 l s _ hw tables_1 i0 i1 i2 s.heap s.heap.size (Nat.le_refl _) p e ha hc hk s m _ below hf ((Spec.applies_iff_loose hf).mp happ).1 ⟨rfl, State.Warmed39.refl s, rfl⟩ trivial
  refine ⟨n, _, h1, h2, h3, hpost _ _ _ _ _ _ ⟨Cond.after_iff.mpr rfl, Cond.after_iff.mpr (eq_i res_at (Term.int_eval (1)) rfl), trivial⟩ ⟨hq.1, hq.2.1, (hq.2.2.sift fun y hy => Or.inr (N y hy)).mono (by decide) (by decide)⟩⟩
theorem main_1_1 : Claimed_1_1 := comes_1 fun _ _ _ _ _ _ h hF => ⟨h.1, hF⟩
theorem main_1_2 : Claimed_1_2 := comes_1 fun _ _ _ _ _ _ h hF => ⟨h.2.1, hF⟩
end Jvm.Pilot.@@N@@
namespace Jvm.Pilot.@@N@@
open Jvm Jvm.ClassFile Sem Op Lib Jvm.Free Jvm.Stand Jvm.Pilot.@@N@@.Jvm.D
/-! MADE BY PROGRAM (witnessworld.py) out of the Statement's table words and the real class files: 10 classes; the members and pool entries that the words name. The judged class is class 1, her method 1. -/
namespace start1
open Jvm.ClassFile
def u (s : String) : CpInfo := .utf8 (stringToUtf16 s)
/-- a pool by its gaps: so many unusable entries, then the entry; so many at the end -/
def gap : Nat → List CpInfo → List CpInfo
  | 0, r => r
  | n + 1, r => .unusable :: gap n r
def poolList (es : List (Nat × CpInfo)) (last : Nat) : List CpInfo := es.foldr (fun e r => gap e.1 (e.2 :: r)) (gap last [])
def pool (es : List (Nat × CpInfo)) (last : Nat) : Array CpInfo := ⟨poolList es last⟩
def fileOf (pool : Array CpInfo) (this : Nat) (attrs : Array Attribute := #[]) (ms : Array MethodInfo := #[]) (fl : Nat := 33) (sup : Nat := 0) (ifs : Array Nat := #[]) (fds : Array FieldInfo := #[]) : ClassFile where
  minorVersion := 0
  majorVersion := 65
  constantPool := pool
  accessFlags := fl
  thisClass := this
  superClass := sup
  interfaces := ifs
  fields := fds
  methods := ms
  attributes := attrs
def plain (name : String) (sup : Option ClassId) : Class where
  name := name
  kind := .ordinary
  loader := none
  accessFlags := 33
  super := sup
  interfaces := #[]
  cf := none
  fields := #[]
  methods := #[]
  instanceTypes := #[]
  staticTypes := #[]
  resolved := #[]
  callSites := []
  init := .initialized
  statics := none
  mirror := none

def pool0 : Array CpInfo := pool [(5, u "<init>"), (0, u "()V"), (1, .class_ 10), (1, u "java/lang/Object")] 113

def k0m0 : Method := { name := "<init>", desc := "()V", sig := { parameters := [], returnType := none }, accessFlags := 1, code := none }
/-- java/lang/Object -/
def k0 : Class := { plain "java/lang/Object" none with
  accessFlags := 33
  interfaces := #[]
  cf := some (fileOf pool0 8 #[] #[{ accessFlags := 1, nameIndex := 5, descriptorIndex := 6, attributes := #[] }] 33 0 #[] #[])
  fields := #[]
  methods := #[k0m0]
  instanceTypes := #[]
  staticTypes := #[]
  resolved := Array.replicate 124 none
  statics := none }

def pool1 : Array CpInfo := pool [(2, .class_ 4), (1, u "java/lang/Object"), (0, u "<init>"), (0, u "()V"), (0, .long 9223372036854775807), (1, .long 9223372036854775806), (1, .methodref 12 13), (0, .class_ 14), (0, .nameAndType 15 16), (0, u "com/example/shapelint/shapelint/ValueNodes"), (0, u "plus"), (0, u "(JJ)J"), (0, .class_ 18), (0, u "com/example/shapelint/shapelint/ValueNodesPlusPinLaw"), (2, u "law"), (0, u "(JJI)Z")] 3

def k1m0 : Method := { name := "<init>", desc := "()V", sig := { parameters := [], returnType := none }, accessFlags := 1, code := none }
def k1c1 : Code := { maxStack := 4, maxLocals := 16, code := code, exceptionTable := #[], attributes := #[] }
def k1m1 : Method := { name := "law", desc := "(JJI)Z", sig := { parameters := [.long, .long, .int], returnType := some .boolean }, accessFlags := 9, code := some k1c1 }
/-- com/example/shapelint/shapelint/ValueNodesPlusPinLaw -/
def k1 : Class := { plain "com/example/shapelint/shapelint/ValueNodesPlusPinLaw" (some 0) with
  accessFlags := 49
  interfaces := #[]
  cf := some (fileOf pool1 17 #[] #[{ accessFlags := 1, nameIndex := 5, descriptorIndex := 6, attributes := #[] }, { accessFlags := 9, nameIndex := 21, descriptorIndex := 22, attributes := #[] }] 49 2 #[] #[])
  fields := #[]
  methods := #[k1m0, k1m1]
  instanceTypes := #[]
  staticTypes := #[]
  resolved := Array.replicate 26 none
  statics := none }

def pool2 : Array CpInfo := pool [(2, .class_ 4), (1, u "java/lang/Object"), (0, u "<init>"), (0, u "()V"), (0, .class_ 8), (0, u "java/lang/Record")] 13

def k2m0 : Method := { name := "<init>", desc := "()V", sig := { parameters := [], returnType := none }, accessFlags := 4, code := none }
/-- java/lang/Record -/
def k2 : Class := { plain "java/lang/Record" (some 0) with
  accessFlags := 1057
  interfaces := #[]
  cf := some (fileOf pool2 7 #[] #[{ accessFlags := 4, nameIndex := 5, descriptorIndex := 6, attributes := #[] }] 1057 2 #[] #[])
  fields := #[]
  methods := #[k2m0]
  instanceTypes := #[]
  staticTypes := #[]
  resolved := Array.replicate 22 none
  statics := none }

def pool3 : Array CpInfo := pool [(4, .class_ 6), (1, u "java/lang/Record"), (3, .class_ 12), (1, u "com/example/shapelint/shapelint/ValueNodes"), (0, u "nodes"), (0, u "[I"), (2, u "multiplicities"), (0, u "[J"), (2, u "neighbours"), (9, u "plus"), (0, u "(JJ)J"), (4, .long 9223372036854775807), (1, .long 9223372036854775806), (13, u "ENDLESS"), (0, u "J"), (1, u "ABOVE"), (0, u "I")] 41

def k3c0 : Code := { maxStack := 6, maxLocals := 4, code := prog_33_method_8_code, exceptionTable := #[], attributes := #[] }
def k3m0 : Method := { name := "plus", desc := "(JJ)J", sig := { parameters := [.long, .long], returnType := some .long }, accessFlags := 8, code := some k3c0 }
/-- com/example/shapelint/shapelint/ValueNodes -/
def k3 : Class := { plain "com/example/shapelint/shapelint/ValueNodes" (some 2) with
  accessFlags := 48
  interfaces := #[]
  cf := some (fileOf pool3 10 #[] #[{ accessFlags := 8, nameIndex := 31, descriptorIndex := 32, attributes := #[] }] 48 4 #[] #[{ accessFlags := 18, nameIndex := 13, descriptorIndex := 14, attributes := #[] }, { accessFlags := 18, nameIndex := 17, descriptorIndex := 18, attributes := #[] }, { accessFlags := 18, nameIndex := 21, descriptorIndex := 14, attributes := #[] }, { accessFlags := 24, nameIndex := 53, descriptorIndex := 54, attributes := #[] }, { accessFlags := 24, nameIndex := 56, descriptorIndex := 57, attributes := #[] }])
  fields := #[{ name := "nodes", type := (.array .int), accessFlags := 18, slot := 0, constantValue := 0 }, { name := "multiplicities", type := (.array .long), accessFlags := 18, slot := 1, constantValue := 0 }, { name := "neighbours", type := (.array .int), accessFlags := 18, slot := 2, constantValue := 0 }, { name := "ENDLESS", type := .long, accessFlags := 24, slot := 0, constantValue := 0 }, { name := "ABOVE", type := .int, accessFlags := 24, slot := 1, constantValue := 0 }]
  methods := #[k3m0]
  instanceTypes := #[(.array .int), (.array .long), (.array .int)]
  staticTypes := #[.long, .int]
  resolved := Array.replicate 99 none
  statics := none }

def pool4 : Array CpInfo := pool [(1, u "java/lang/Cloneable"), (0, .class_ 1), (0, u "java/lang/Object"), (0, .class_ 3)] 3

/-- java/lang/Cloneable -/
def k4 : Class := { plain "java/lang/Cloneable" (some 0) with
  accessFlags := 1537
  interfaces := #[]
  cf := some (fileOf pool4 2 #[] #[] 1537 4 #[] #[])
  fields := #[]
  methods := #[]
  instanceTypes := #[]
  staticTypes := #[]
  resolved := Array.replicate 8 none
  statics := none }

def pool5 : Array CpInfo := pool [(1, u "java/io/Serializable"), (0, .class_ 1), (0, u "java/lang/Object"), (0, .class_ 3)] 3

/-- java/io/Serializable -/
def k5 : Class := { plain "java/io/Serializable" (some 0) with
  accessFlags := 1537
  interfaces := #[]
  cf := some (fileOf pool5 2 #[] #[] 1537 4 #[] #[])
  fields := #[]
  methods := #[]
  instanceTypes := #[]
  staticTypes := #[]
  resolved := Array.replicate 8 none
  statics := none }

/-- the primitive byte -/
def k6 : Class := { plain "byte" none with kind := .primitive 'B', accessFlags := 0x411 }
/-- [B -/
def k7 : Class := { plain "[B" (some 0) with kind := .array 6 .byte, interfaces := #[4, 5], accessFlags := 1041 }

/-- the primitive int -/
def k8 : Class := { plain "int" none with kind := .primitive 'I', accessFlags := 0x411 }
/-- [I -/
def k9 : Class := { plain "[I" (some 0) with kind := .array 8 .int, interfaces := #[4, 5], accessFlags := 1041 }

def heap : Heap := #[]
def classes : Array Class := #[k0, k1, k2, k3, k4, k5, k6, k7, k8, k9]
def interned : List (Array UInt16 × Addr) := []
def slotsUsed : Nat := 0
def theMethod : MethodId := ⟨1, 1⟩
def args0 : Array Value := #[.long 5, .long 5, .int 5]
def aboutOver (below : List Frame) : State where
  vm := { classes := classes, interned := interned.toArray }
  heap := heap
  slotsUsed := slotsUsed
  threads := #[{ frames := .invoking theMethod args0 :: below }]
def below0 : List Frame := [.native { method := ⟨0, 0⟩, args := #[] }]
def about1 : State := aboutOver below0
def p0 : Program := .bare "" "" ""
def e0 : Env := launch0.env 0 0 0
theorem w_frames : about1.frames = Frame.invoking theMethod args0 :: below0 := rfl
set_option maxRecDepth 65536 in
theorem w_args : argsFit about1.vm theMethod args0 = true := by decide +kernel
set_option maxRecDepth 65536 in
theorem w_heap : heapFits about1 = true := by decide +kernel
set_option maxRecDepth 65536 in
theorem w_runnable : about1.curStatus? = some .runnable := by decide +kernel
set_option maxRecDepth 65536 in
theorem w_alone : about1.alone = true := by decide +kernel
set_option maxRecDepth 65536 in
theorem w_named : about1.methodNamed? x = some theMethod := by decide +kernel
set_option maxRecDepth 65536 in
theorem w_hears : about1.hears theMethod below0 = true := by decide +kernel
set_option maxRecDepth 65536 in
theorem w_ripe : about1.ripe theMethod args0 below0 = true := by decide +kernel
theorem w_running : about1.status = .running := rfl
set_option maxRecDepth 65536 in
theorem w_room : about1.hasRoom e0.platform room_1 = true :=
  launch0.hasRoom_least _ room_1 (by decide +kernel) (by decide +kernel) (by decide +kernel) (by decide +kernel) (by decide +kernel) (by decide +kernel)
theorem allAtoms_all (ts : List Jvm.Cond) (a : Array Jvm.Value) (st : Jvm.State) : (allAtoms ts).before a st = ts.all (fun c => c.before a st) := by
  induction ts with
  | nil => rfl
  | cons c t ih =>
    show (Jvm.Cond.and c (allAtoms t)).before a st = _
    rw [Jvm.Cond.before_and, ih, List.all_cons]
def words1 : List Jvm.Cond := Jvm.Cond.code x code maxLocals ret :: tables_1
/-- a 'code' word, met by the world's own term for the bytes: nothing is compared byte by byte -/
theorem code_word {y : MethodName} {bytes : ByteArray} {mx : Nat} {rt : Option FieldType} {a : Array Value} {s : State} {m : MethodId} {meth : Method} {c : Code} (h1 : s.methodNamed? y = some m) (h2 : s.vm.method? m = some meth) (h3 : meth.code = some c) (h4 : c.code = bytes)
    (h5 : (c.maxLocals == mx && c.exceptionTable.isEmpty && decide (c.maxStack ≤ mostOperands) && decide (meth.sig.returnType = rt) && !meth.locks && decide (parseMethodDescriptor y.desc = some meth.sig)) = true) : (Jvm.Cond.code y bytes mx rt).before a s = true := by
  simp only [Bool.and_eq_true, beq_iff_eq, Bool.not_eq_true', decide_eq_true_eq] at h5
  obtain ⟨⟨⟨⟨⟨g1, g2⟩, g3⟩, g4⟩, g5⟩, g6⟩ := h5
  simp [Cond.before, Cond.holds, Cond.value, h1, h2, h3, h4, g1, g2, g3, g4, g5, g6]
def isCode : Jvm.Cond → Bool
  | .code _ _ _ _ => true
  | _ => false
theorem all_split {L : List Jvm.Cond} {P : Jvm.Cond → Bool} (h1 : L.all (fun c => isCode c || P c) = true) (h2 : ∀ c ∈ L.filter isCode, P c = true) : L.all P = true := by
  refine List.all_eq_true.mpr fun c hc => ?_
  have h := List.all_eq_true.mp h1 c hc
  rcases Bool.eq_false_or_eq_true (isCode c) with hi | hi
  · exact h2 c (List.mem_filter.mpr ⟨hc, hi⟩)
  · simpa [hi] using h
set_option maxRecDepth 65536 in
theorem w_c0 : (Jvm.Cond.code x code maxLocals ret).before args0 about1 = true := code_word (m := ⟨1, 1⟩) (meth := k1m1) (c := k1c1) (by decide +kernel) rfl rfl rfl (by decide +kernel)
set_option maxRecDepth 65536 in
theorem w_c1 : (Jvm.Cond.code ({ cls := "com/example/shapelint/shapelint/ValueNodes", name := "plus", desc := "(JJ)J" } : Jvm.MethodName) prog_33_method_8_code (4 : Nat) (Option.some Jvm.ClassFile.FieldType.long)).before args0 about1 = true := code_word (m := ⟨3, 0⟩) (meth := k3m0) (c := k3c0) (by decide +kernel) rfl rfl rfl (by decide +kernel)
def codes1 : List Jvm.Cond := [Jvm.Cond.code x code maxLocals ret, Jvm.Cond.code ({ cls := "com/example/shapelint/shapelint/ValueNodes", name := "plus", desc := "(JJ)J" } : Jvm.MethodName) prog_33_method_8_code (4 : Nat) (Option.some Jvm.ClassFile.FieldType.long)]
set_option maxRecDepth 65536 in
theorem codes_eq : words1.filter isCode = codes1 := rfl
theorem w_codes : ∀ c ∈ words1.filter isCode, c.before args0 about1 = true := by
  rw [codes_eq]
  intro c hc
  simp only [codes1, List.mem_cons, List.not_mem_nil, or_false] at hc
  rcases hc with rfl | rfl
  · exact w_c0
  · exact w_c1
set_option maxRecDepth 65536 in
theorem w_t1 : words1.all (fun c => isCode c || c.before args0 about1) = true := by decide +kernel
theorem w_tables : (allAtoms (Jvm.Cond.code x code maxLocals ret :: tables_1)).before args0 about1 = true := by
  rw [allAtoms_all]
  show words1.all (fun c => c.before args0 about1) = true
  refine all_split ?_ w_codes
  rw [w_t1]
set_option maxRecDepth 65536 in
theorem w_case : (Jvm.Cond.and given_1 narrow_1).before args0 about1 = true := by decide +kernel
theorem w_applies : (headSpec (Jvm.Cond.code x code maxLocals ret :: tables_1) room_1).applies x e0.platform about1 = true :=
  (Spec.applies_iff w_frames).mpr ⟨w_running, w_runnable, w_alone, w_named, w_hears, w_ripe, w_room, w_tables⟩
theorem atStart : AtStart classFile x code maxLocals ret World_1 tables_1 room_1 Calls_1 rest_1 Pre_1 launch0 p0 e0 about1 theMethod args0 below0 :=
  ⟨lists_1, trivial, launch0.admits_env _ _ _, launch0.least_env, fairChoices_fair.cas, fairChoices_fair.clock, w_frames, w_args, w_heap, w_applies, trivial, trivial, w_case⟩
end start1
theorem witness_1 : WitnessClaimed_1 := ⟨start1.p0, start1.e0, start1.about1, start1.theMethod, start1.args0, start1.below0, start1.atStart⟩
end Jvm.Pilot.@@N@@
