import JvmDerived
import JvmDerived.Pilot.@@N@@Statement
import JvmDerived.Pilot.@@N@@Code
set_option linter.unusedVariables false
set_option linter.unusedSimpArgs false
namespace Jvm.RoadKit
open Sem ClassFile Op Lib Jvm.Stand Jvm.Free Jvm.LawKit
section New
variable {p : Program} {l : Launch} {e : Env} {R : Room} {s : State} {m : MethodId} {args : Array Value} {below : List Frame} {meth : Method} {c : Code} {T : State} {locs : List Loc} {cells slots : Nat}
theorem retI (X : Stand p l e R s m args below meth c T locs cells slots) (hx : p.tables.exec = Jvm.exec) {pc : Nat} {Ls : Array Slot} {z : Int32} {rest : List Value} (hret : meth.sig.returnType = some .int) (hd : decode c.code pc = .ok (.ireturn, 1)) {fs : List Frame}
    (hl : ∀ (f : JFrame) (acts : List Action), f.method = m → f.locked = none → f.entered = [] → (doReturn e (T.setTop f) acts (some (.int z))).1 = T.setFrames fs) : Steps p.tables e below (T.setTop (mkF m pc Ls (.int z :: rest))) (T.setFrames fs) := by
  have hm' : T.vm.method? m = some meth := X.method'
  have hn : narrow .int (.int z) = .int z := rfl
  show Steps p.tables e below (T.setTop { method := m, pc := pc, locals := Ls, stack := _ :: rest, locked := none }) _
  jvm_step X.here [X.here.top, hx, hd, hm', hret, hn]
  first | (intro acts; rw [hl _ acts rfl rfl rfl]) | rw [hl _ _ rfl rfl rfl]
  exact Steps.refl _
theorem retL (X : Stand p l e R s m args below meth c T locs cells slots) (hx : p.tables.exec = Jvm.exec) {pc : Nat} {Ls : Array Slot} {z : Int64} {rest : List Value} (hret : meth.sig.returnType = some .long) (hd : decode c.code pc = .ok (.lreturn, 1)) {fs : List Frame}
    (hl : ∀ (f : JFrame) (acts : List Action), f.method = m → f.locked = none → f.entered = [] → (doReturn e (T.setTop f) acts (some (.long z))).1 = T.setFrames fs) : Steps p.tables e below (T.setTop (mkF m pc Ls (.long z :: rest))) (T.setFrames fs) := by
  have hm' : T.vm.method? m = some meth := X.method'
  have hn : narrow .long (.long z) = .long z := rfl
  show Steps p.tables e below (T.setTop { method := m, pc := pc, locals := Ls, stack := _ :: rest, locked := none }) _
  jvm_step X.here [X.here.top, hx, hd, hm', hret, hn]
  first | (intro acts; rw [hl _ acts rfl rfl rfl]) | rw [hl _ _ rfl rfl rfl]
  exact Steps.refl _
end New
end Jvm.RoadKit
namespace Jvm.Pilot.@@N@@
open Jvm Jvm.ClassFile Sem Op Lib Jvm.Free Jvm.Stand Jvm.LawKit Jvm.RoadKit Bundle Jvm.Pilot.@@N@@.Jvm.D
theorem pnm0 : plainName x.cls = true := by first | (simp [plainName, overriddenIn]; done) | decide +kernel
theorem pnm1 : plainName site_36.cls = true := by first | (simp [plainName, overriddenIn]; done) | decide +kernel
theorem d1_0 : decode prog_36_method_4_code 0 = .ok (.iload_n 0, 1) := by decide +kernel
theorem d1_1 : decode prog_36_method_4_code 1 = .ok (.bipush 97, 2) := by decide +kernel
theorem d1_3 : decode prog_36_method_4_code 3 = .ok (.if_icmp .lt 9, 3) := by decide +kernel
theorem d1_12 : decode prog_36_method_4_code 12 = .ok (.iload_n 0, 1) := by decide +kernel
theorem d1_13 : decode prog_36_method_4_code 13 = .ok (.bipush 65, 2) := by decide +kernel
theorem d1_15 : decode prog_36_method_4_code 15 = .ok (.if_icmp .lt 9, 3) := by decide +kernel
theorem d1_24 : decode prog_36_method_4_code 24 = .ok (.iload_n 0, 1) := by decide +kernel
theorem d1_25 : decode prog_36_method_4_code 25 = .ok (.bipush 95, 2) := by decide +kernel
theorem d1_27 : decode prog_36_method_4_code 27 = .ok (.if_icmp .ne 7, 3) := by decide +kernel
theorem d1_30 : decode prog_36_method_4_code 30 = .ok (.iconst 1, 1) := by decide +kernel
theorem d1_31 : decode prog_36_method_4_code 31 = .ok (.goto 4, 3) := by decide +kernel
theorem d1_35 : decode prog_36_method_4_code 35 = .ok (.ireturn, 1) := by decide +kernel
theorem d1_34 : decode prog_36_method_4_code 34 = .ok (.iconst 0, 1) := by decide +kernel
theorem d1_18 : decode prog_36_method_4_code 18 = .ok (.iload_n 0, 1) := by decide +kernel
theorem d1_19 : decode prog_36_method_4_code 19 = .ok (.bipush 90, 2) := by decide +kernel
theorem d1_21 : decode prog_36_method_4_code 21 = .ok (.if_icmp .le 9, 3) := by decide +kernel
theorem d1_6 : decode prog_36_method_4_code 6 = .ok (.iload_n 0, 1) := by decide +kernel
theorem d1_7 : decode prog_36_method_4_code 7 = .ok (.bipush 122, 2) := by decide +kernel
theorem d1_9 : decode prog_36_method_4_code 9 = .ok (.if_icmp .le 21, 3) := by decide +kernel
theorem ef1 (m : MethodId) (x0 : Int32) : entryFrame m #[(.int x0)] 1 = mkF m 0 #[.val (.int x0)] [] := by first | (simp [entryFrame, mkF, argsToLocals, Value.category]; done) | rfl
def f1 (p0 : Int32) : Int32 :=
  if p0 < (97 : Int32) then
    if p0 < (65 : Int32) then
      if p0 = (95 : Int32) then
        (1 : Int32)
      else
        (0 : Int32)
    else
      if (90 : Int32) < p0 then
        if p0 = (95 : Int32) then
          (1 : Int32)
        else
          (0 : Int32)
      else
        (1 : Int32)
  else
    if (122 : Int32) < p0 then
      if p0 < (65 : Int32) then
        if p0 = (95 : Int32) then
          (1 : Int32)
        else
          (0 : Int32)
      else
        if (90 : Int32) < p0 then
          if p0 = (95 : Int32) then
            (1 : Int32)
          else
            (0 : Int32)
        else
          (1 : Int32)
    else
      (1 : Int32)
def Q1 (Z : State) (p0 : Int32) (h0 : Heap) (n0 : Nat) (v : Option Value) (h : Heap) (L : List Loc) : Prop := v = some (.int (f1 p0)) ∧ Fr n0 L ∧ h = h0
set_option maxRecDepth 65536 in
set_option maxHeartbeats 40000000 in
theorem rm1 (l : Launch) (Z : State) (av : Array Value) (hw : ∀ d ∈ tables_1, d.before av Z = true) (ws : List Jvm.Cond) (p0 : Int32) (h0 : Heap) (n0 : Nat) (Z0 : n0 ≤ h0.size) :
    MetFree l (⟨site_36.cls, "isIdentifierStart", "(C)Z"⟩ : MethodName) (head1 (Jvm.Cond.code (⟨site_36.cls, "isIdentifierStart", "(C)Z"⟩ : MethodName) prog_36_method_4_code 1 (some .boolean) :: ws) ({ frames := 0, cells := 0, slots := 0, locals := 0 } : Room)) (fun a U => a = #[(.int p0)] ∧ Z.Warmed39 U.vm ∧ U.heap = h0) (fun _ _ _ _ _ => True) (fun _ U o U' => ∃ v L, o = .returned v ∧ Q1 Z p0 h0 n0 v U'.heap L ∧ FrameEnd U o U' L ({ frames := 0, cells := 0, slots := 0, locals := 0 } : Room).cells ({ frames := 0, cells := 0, slots := 0, locals := 0 } : Room).slots) := by
  refine MetFree.of_bodySF (plainFor_of_name pnm1) hisR ?_
  intro p e s m args below meth c s₁ Bd hml0 hP hK
  obtain ⟨rfl, hZ, hh⟩ := hP
  have hx := Bd.exec
  have hby := Bd.bytes
  have hml : c.maxLocals = 1 := hml0
  have hown : s.vm.findClass site_36.cls = some m.cls := findClass_of_methodNamed Bd.named
  have hnm := (name_of_methodNamed Bd.named Bd.method).1
  have X0 : Stand p l e ({ frames := 0, cells := 0, slots := 0, locals := 0 } : Room) s m #[(.int p0)] below meth c s₁ [] 0 0 := Stand.of_body Bd
  have e0 : s₁.heap = h0 := by rw [← hh, Bd.state]; rfl
  have N0 := Fr.nil n0
  have K0 : Keep h0 h0 [] := Keep.refl h0 []
  have pre0 : ∀ t, Steps p.tables e below (s₁.setTop (mkF m 0 #[.val (.int p0)] [])) t → Steps p.tables e below (s₁.setTop (entryFrame m #[(.int p0)] 1)) t := fun t k => castTop (ef1 m p0) k
  have pre1 : ∀ t, Steps p.tables e below (s₁.setTop (mkF m 3 #[.val (.int p0)] [(.int (97 : Int32)), (.int p0)])) t → Steps p.tables e below (s₁.setTop (entryFrame m #[(.int p0)] 1)) t := fun t kt => pre0 t (by
    show Steps p.tables e below (s₁.setTop (mkF m 0 #[.val (.int p0)] [])) _
    refine XS.iloadN X0.here hx rfl (hb hby d1_0) rfl ?_
    show Steps p.tables e below (s₁.setTop (mkF m 1 #[.val (.int p0)] [(.int p0)])) _
    refine XS.bipush X0.here hx rfl (hb hby d1_1) ?_
    exact kt)
  clear pre0
  by_cases hc3_2 : p0 < (97 : Int32)
  · have pre3 : ∀ t, Steps p.tables e below (s₁.setTop (mkF m 15 #[.val (.int p0)] [(.int (65 : Int32)), (.int p0)])) t → Steps p.tables e below (s₁.setTop (entryFrame m #[(.int p0)] 1)) t := fun t kt => pre1 t (by
      show Steps p.tables e below (s₁.setTop (mkF m 3 #[.val (.int p0)] [(.int (97 : Int32)), (.int p0)])) _
      refine XS.icmpYes X0.here hx rfl (pc0 := 3) (pc' := 12) rfl (hb hby d1_3) rfl (tlt hc3_2).1 (by decide) (by decide) ?_
      show Steps p.tables e below (s₁.setTop (mkF m 12 #[.val (.int p0)] [])) _
      refine XS.iloadN X0.here hx rfl (hb hby d1_12) rfl ?_
      show Steps p.tables e below (s₁.setTop (mkF m 13 #[.val (.int p0)] [(.int p0)])) _
      refine XS.bipush X0.here hx rfl (hb hby d1_13) ?_
      exact kt)
    clear pre1
    by_cases hc15_4 : p0 < (65 : Int32)
    · have pre5 : ∀ t, Steps p.tables e below (s₁.setTop (mkF m 27 #[.val (.int p0)] [(.int (95 : Int32)), (.int p0)])) t → Steps p.tables e below (s₁.setTop (entryFrame m #[(.int p0)] 1)) t := fun t kt => pre3 t (by
        show Steps p.tables e below (s₁.setTop (mkF m 15 #[.val (.int p0)] [(.int (65 : Int32)), (.int p0)])) _
        refine XS.icmpYes X0.here hx rfl (pc0 := 15) (pc' := 24) rfl (hb hby d1_15) rfl (tlt hc15_4).1 (by decide) (by decide) ?_
        show Steps p.tables e below (s₁.setTop (mkF m 24 #[.val (.int p0)] [])) _
        refine XS.iloadN X0.here hx rfl (hb hby d1_24) rfl ?_
        show Steps p.tables e below (s₁.setTop (mkF m 25 #[.val (.int p0)] [(.int p0)])) _
        refine XS.bipush X0.here hx rfl (hb hby d1_25) ?_
        exact kt)
      clear pre3
      by_cases hc27_6 : p0 = (95 : Int32)
      · have pre7 : ∀ t, Steps p.tables e below (s₁.setTop (mkF m 35 #[.val (.int p0)] [(.int (1 : Int32))])) t → Steps p.tables e below (s₁.setTop (entryFrame m #[(.int p0)] 1)) t := fun t kt => pre5 t (by
          show Steps p.tables e below (s₁.setTop (mkF m 27 #[.val (.int p0)] [(.int (95 : Int32)), (.int p0)])) _
          refine XS.icmpNo X0.here hx rfl (hb hby d1_27) rfl (teq hc27_6).2 ?_
          show Steps p.tables e below (s₁.setTop (mkF m 30 #[.val (.int p0)] [])) _
          refine XS.iconst X0.here hx rfl (hb hby d1_30) ?_
          show Steps p.tables e below (s₁.setTop (mkF m 31 #[.val (.int p0)] [(.int (1 : Int32))])) _
          refine XS.goto X0.here hx rfl (pc0 := 31) (pc' := 35) rfl (hb hby d1_31) (by decide) (by decide) ?_
          exact kt)
        clear pre5
        have hv : f1 p0 = (1 : Int32) := by
          unfold f1
          rw [if_pos hc3_2, if_pos hc15_4, if_pos hc27_6]
        obtain ⟨fs, hr, hrun, hended, hW, hsame⟩ := X0.leave (v := some (.int (f1 p0))) (fun h => by rw [Bd.returns] at h; cases h)
        refine ⟨_, _, pre7 _ ?_, hrun, hended, _, _, rfl, ?_, ⟨_, rfl⟩, hW, hsame.mono (by decide) (by decide)⟩
        · rw [hv] at hr
          show Steps p.tables e below (s₁.setTop (mkF m 35 #[.val (.int p0)] [(.int (1 : Int32))])) _
          exact retN X0 hx (t := .boolean) Bd.returns (by simp) (hb hby d1_35) hr
        · show Q1 Z p0 h0 n0 _ s₁.heap _
          rw [e0]
          exact ⟨rfl, N0, rfl⟩
      · have pre8 : ∀ t, Steps p.tables e below (s₁.setTop (mkF m 35 #[.val (.int p0)] [(.int (0 : Int32))])) t → Steps p.tables e below (s₁.setTop (entryFrame m #[(.int p0)] 1)) t := fun t kt => pre5 t (by
          show Steps p.tables e below (s₁.setTop (mkF m 27 #[.val (.int p0)] [(.int (95 : Int32)), (.int p0)])) _
          refine XS.icmpYes X0.here hx rfl (pc0 := 27) (pc' := 34) rfl (hb hby d1_27) rfl (feq hc27_6).2 (by decide) (by decide) ?_
          show Steps p.tables e below (s₁.setTop (mkF m 34 #[.val (.int p0)] [])) _
          refine XS.iconst X0.here hx rfl (hb hby d1_34) ?_
          exact kt)
        clear pre5
        have hv : f1 p0 = (0 : Int32) := by
          unfold f1
          rw [if_pos hc3_2, if_pos hc15_4, if_neg hc27_6]
        obtain ⟨fs, hr, hrun, hended, hW, hsame⟩ := X0.leave (v := some (.int (f1 p0))) (fun h => by rw [Bd.returns] at h; cases h)
        refine ⟨_, _, pre8 _ ?_, hrun, hended, _, _, rfl, ?_, ⟨_, rfl⟩, hW, hsame.mono (by decide) (by decide)⟩
        · rw [hv] at hr
          show Steps p.tables e below (s₁.setTop (mkF m 35 #[.val (.int p0)] [(.int (0 : Int32))])) _
          exact retN X0 hx (t := .boolean) Bd.returns (by simp) (hb hby d1_35) hr
        · show Q1 Z p0 h0 n0 _ s₁.heap _
          rw [e0]
          exact ⟨rfl, N0, rfl⟩
    · have pre9 : ∀ t, Steps p.tables e below (s₁.setTop (mkF m 21 #[.val (.int p0)] [(.int (90 : Int32)), (.int p0)])) t → Steps p.tables e below (s₁.setTop (entryFrame m #[(.int p0)] 1)) t := fun t kt => pre3 t (by
        show Steps p.tables e below (s₁.setTop (mkF m 15 #[.val (.int p0)] [(.int (65 : Int32)), (.int p0)])) _
        refine XS.icmpNo X0.here hx rfl (hb hby d1_15) rfl (flt hc15_4).1 ?_
        show Steps p.tables e below (s₁.setTop (mkF m 18 #[.val (.int p0)] [])) _
        refine XS.iloadN X0.here hx rfl (hb hby d1_18) rfl ?_
        show Steps p.tables e below (s₁.setTop (mkF m 19 #[.val (.int p0)] [(.int p0)])) _
        refine XS.bipush X0.here hx rfl (hb hby d1_19) ?_
        exact kt)
      clear pre3
      by_cases hc21_10 : (90 : Int32) < p0
      · have pre11 : ∀ t, Steps p.tables e below (s₁.setTop (mkF m 27 #[.val (.int p0)] [(.int (95 : Int32)), (.int p0)])) t → Steps p.tables e below (s₁.setTop (entryFrame m #[(.int p0)] 1)) t := fun t kt => pre9 t (by
          show Steps p.tables e below (s₁.setTop (mkF m 21 #[.val (.int p0)] [(.int (90 : Int32)), (.int p0)])) _
          refine XS.icmpNo X0.here hx rfl (hb hby d1_21) rfl (tlt hc21_10).2.2.2 ?_
          show Steps p.tables e below (s₁.setTop (mkF m 24 #[.val (.int p0)] [])) _
          refine XS.iloadN X0.here hx rfl (hb hby d1_24) rfl ?_
          show Steps p.tables e below (s₁.setTop (mkF m 25 #[.val (.int p0)] [(.int p0)])) _
          refine XS.bipush X0.here hx rfl (hb hby d1_25) ?_
          exact kt)
        clear pre9
        by_cases hc27_12 : p0 = (95 : Int32)
        · have pre13 : ∀ t, Steps p.tables e below (s₁.setTop (mkF m 35 #[.val (.int p0)] [(.int (1 : Int32))])) t → Steps p.tables e below (s₁.setTop (entryFrame m #[(.int p0)] 1)) t := fun t kt => pre11 t (by
            show Steps p.tables e below (s₁.setTop (mkF m 27 #[.val (.int p0)] [(.int (95 : Int32)), (.int p0)])) _
            refine XS.icmpNo X0.here hx rfl (hb hby d1_27) rfl (teq hc27_12).2 ?_
            show Steps p.tables e below (s₁.setTop (mkF m 30 #[.val (.int p0)] [])) _
            refine XS.iconst X0.here hx rfl (hb hby d1_30) ?_
            show Steps p.tables e below (s₁.setTop (mkF m 31 #[.val (.int p0)] [(.int (1 : Int32))])) _
            refine XS.goto X0.here hx rfl (pc0 := 31) (pc' := 35) rfl (hb hby d1_31) (by decide) (by decide) ?_
            exact kt)
          clear pre11
          have hv : f1 p0 = (1 : Int32) := by
            unfold f1
            rw [if_pos hc3_2, if_neg hc15_4, if_pos hc21_10, if_pos hc27_12]
          obtain ⟨fs, hr, hrun, hended, hW, hsame⟩ := X0.leave (v := some (.int (f1 p0))) (fun h => by rw [Bd.returns] at h; cases h)
          refine ⟨_, _, pre13 _ ?_, hrun, hended, _, _, rfl, ?_, ⟨_, rfl⟩, hW, hsame.mono (by decide) (by decide)⟩
          · rw [hv] at hr
            show Steps p.tables e below (s₁.setTop (mkF m 35 #[.val (.int p0)] [(.int (1 : Int32))])) _
            exact retN X0 hx (t := .boolean) Bd.returns (by simp) (hb hby d1_35) hr
          · show Q1 Z p0 h0 n0 _ s₁.heap _
            rw [e0]
            exact ⟨rfl, N0, rfl⟩
        · have pre14 : ∀ t, Steps p.tables e below (s₁.setTop (mkF m 35 #[.val (.int p0)] [(.int (0 : Int32))])) t → Steps p.tables e below (s₁.setTop (entryFrame m #[(.int p0)] 1)) t := fun t kt => pre11 t (by
            show Steps p.tables e below (s₁.setTop (mkF m 27 #[.val (.int p0)] [(.int (95 : Int32)), (.int p0)])) _
            refine XS.icmpYes X0.here hx rfl (pc0 := 27) (pc' := 34) rfl (hb hby d1_27) rfl (feq hc27_12).2 (by decide) (by decide) ?_
            show Steps p.tables e below (s₁.setTop (mkF m 34 #[.val (.int p0)] [])) _
            refine XS.iconst X0.here hx rfl (hb hby d1_34) ?_
            exact kt)
          clear pre11
          have hv : f1 p0 = (0 : Int32) := by
            unfold f1
            rw [if_pos hc3_2, if_neg hc15_4, if_pos hc21_10, if_neg hc27_12]
          obtain ⟨fs, hr, hrun, hended, hW, hsame⟩ := X0.leave (v := some (.int (f1 p0))) (fun h => by rw [Bd.returns] at h; cases h)
          refine ⟨_, _, pre14 _ ?_, hrun, hended, _, _, rfl, ?_, ⟨_, rfl⟩, hW, hsame.mono (by decide) (by decide)⟩
          · rw [hv] at hr
            show Steps p.tables e below (s₁.setTop (mkF m 35 #[.val (.int p0)] [(.int (0 : Int32))])) _
            exact retN X0 hx (t := .boolean) Bd.returns (by simp) (hb hby d1_35) hr
          · show Q1 Z p0 h0 n0 _ s₁.heap _
            rw [e0]
            exact ⟨rfl, N0, rfl⟩
      · have pre15 : ∀ t, Steps p.tables e below (s₁.setTop (mkF m 35 #[.val (.int p0)] [(.int (1 : Int32))])) t → Steps p.tables e below (s₁.setTop (entryFrame m #[(.int p0)] 1)) t := fun t kt => pre9 t (by
          show Steps p.tables e below (s₁.setTop (mkF m 21 #[.val (.int p0)] [(.int (90 : Int32)), (.int p0)])) _
          refine XS.icmpYes X0.here hx rfl (pc0 := 21) (pc' := 30) rfl (hb hby d1_21) rfl (flt hc21_10).2.2.2 (by decide) (by decide) ?_
          show Steps p.tables e below (s₁.setTop (mkF m 30 #[.val (.int p0)] [])) _
          refine XS.iconst X0.here hx rfl (hb hby d1_30) ?_
          show Steps p.tables e below (s₁.setTop (mkF m 31 #[.val (.int p0)] [(.int (1 : Int32))])) _
          refine XS.goto X0.here hx rfl (pc0 := 31) (pc' := 35) rfl (hb hby d1_31) (by decide) (by decide) ?_
          exact kt)
        clear pre9
        have hv : f1 p0 = (1 : Int32) := by
          unfold f1
          rw [if_pos hc3_2, if_neg hc15_4, if_neg hc21_10]
        obtain ⟨fs, hr, hrun, hended, hW, hsame⟩ := X0.leave (v := some (.int (f1 p0))) (fun h => by rw [Bd.returns] at h; cases h)
        refine ⟨_, _, pre15 _ ?_, hrun, hended, _, _, rfl, ?_, ⟨_, rfl⟩, hW, hsame.mono (by decide) (by decide)⟩
        · rw [hv] at hr
          show Steps p.tables e below (s₁.setTop (mkF m 35 #[.val (.int p0)] [(.int (1 : Int32))])) _
          exact retN X0 hx (t := .boolean) Bd.returns (by simp) (hb hby d1_35) hr
        · show Q1 Z p0 h0 n0 _ s₁.heap _
          rw [e0]
          exact ⟨rfl, N0, rfl⟩
  · have pre16 : ∀ t, Steps p.tables e below (s₁.setTop (mkF m 9 #[.val (.int p0)] [(.int (122 : Int32)), (.int p0)])) t → Steps p.tables e below (s₁.setTop (entryFrame m #[(.int p0)] 1)) t := fun t kt => pre1 t (by
      show Steps p.tables e below (s₁.setTop (mkF m 3 #[.val (.int p0)] [(.int (97 : Int32)), (.int p0)])) _
      refine XS.icmpNo X0.here hx rfl (hb hby d1_3) rfl (flt hc3_2).1 ?_
      show Steps p.tables e below (s₁.setTop (mkF m 6 #[.val (.int p0)] [])) _
      refine XS.iloadN X0.here hx rfl (hb hby d1_6) rfl ?_
      show Steps p.tables e below (s₁.setTop (mkF m 7 #[.val (.int p0)] [(.int p0)])) _
      refine XS.bipush X0.here hx rfl (hb hby d1_7) ?_
      exact kt)
    clear pre1
    by_cases hc9_17 : (122 : Int32) < p0
    · have pre18 : ∀ t, Steps p.tables e below (s₁.setTop (mkF m 15 #[.val (.int p0)] [(.int (65 : Int32)), (.int p0)])) t → Steps p.tables e below (s₁.setTop (entryFrame m #[(.int p0)] 1)) t := fun t kt => pre16 t (by
        show Steps p.tables e below (s₁.setTop (mkF m 9 #[.val (.int p0)] [(.int (122 : Int32)), (.int p0)])) _
        refine XS.icmpNo X0.here hx rfl (hb hby d1_9) rfl (tlt hc9_17).2.2.2 ?_
        show Steps p.tables e below (s₁.setTop (mkF m 12 #[.val (.int p0)] [])) _
        refine XS.iloadN X0.here hx rfl (hb hby d1_12) rfl ?_
        show Steps p.tables e below (s₁.setTop (mkF m 13 #[.val (.int p0)] [(.int p0)])) _
        refine XS.bipush X0.here hx rfl (hb hby d1_13) ?_
        exact kt)
      clear pre16
      by_cases hc15_19 : p0 < (65 : Int32)
      · have pre20 : ∀ t, Steps p.tables e below (s₁.setTop (mkF m 27 #[.val (.int p0)] [(.int (95 : Int32)), (.int p0)])) t → Steps p.tables e below (s₁.setTop (entryFrame m #[(.int p0)] 1)) t := fun t kt => pre18 t (by
          show Steps p.tables e below (s₁.setTop (mkF m 15 #[.val (.int p0)] [(.int (65 : Int32)), (.int p0)])) _
          refine XS.icmpYes X0.here hx rfl (pc0 := 15) (pc' := 24) rfl (hb hby d1_15) rfl (tlt hc15_19).1 (by decide) (by decide) ?_
          show Steps p.tables e below (s₁.setTop (mkF m 24 #[.val (.int p0)] [])) _
          refine XS.iloadN X0.here hx rfl (hb hby d1_24) rfl ?_
          show Steps p.tables e below (s₁.setTop (mkF m 25 #[.val (.int p0)] [(.int p0)])) _
          refine XS.bipush X0.here hx rfl (hb hby d1_25) ?_
          exact kt)
        clear pre18
        by_cases hc27_21 : p0 = (95 : Int32)
        · have pre22 : ∀ t, Steps p.tables e below (s₁.setTop (mkF m 35 #[.val (.int p0)] [(.int (1 : Int32))])) t → Steps p.tables e below (s₁.setTop (entryFrame m #[(.int p0)] 1)) t := fun t kt => pre20 t (by
            show Steps p.tables e below (s₁.setTop (mkF m 27 #[.val (.int p0)] [(.int (95 : Int32)), (.int p0)])) _
            refine XS.icmpNo X0.here hx rfl (hb hby d1_27) rfl (teq hc27_21).2 ?_
            show Steps p.tables e below (s₁.setTop (mkF m 30 #[.val (.int p0)] [])) _
            refine XS.iconst X0.here hx rfl (hb hby d1_30) ?_
            show Steps p.tables e below (s₁.setTop (mkF m 31 #[.val (.int p0)] [(.int (1 : Int32))])) _
            refine XS.goto X0.here hx rfl (pc0 := 31) (pc' := 35) rfl (hb hby d1_31) (by decide) (by decide) ?_
            exact kt)
          clear pre20
          have hv : f1 p0 = (1 : Int32) := by
            unfold f1
            rw [if_neg hc3_2, if_pos hc9_17, if_pos hc15_19, if_pos hc27_21]
          obtain ⟨fs, hr, hrun, hended, hW, hsame⟩ := X0.leave (v := some (.int (f1 p0))) (fun h => by rw [Bd.returns] at h; cases h)
          refine ⟨_, _, pre22 _ ?_, hrun, hended, _, _, rfl, ?_, ⟨_, rfl⟩, hW, hsame.mono (by decide) (by decide)⟩
          · rw [hv] at hr
            show Steps p.tables e below (s₁.setTop (mkF m 35 #[.val (.int p0)] [(.int (1 : Int32))])) _
            exact retN X0 hx (t := .boolean) Bd.returns (by simp) (hb hby d1_35) hr
          · show Q1 Z p0 h0 n0 _ s₁.heap _
            rw [e0]
            exact ⟨rfl, N0, rfl⟩
        · have pre23 : ∀ t, Steps p.tables e below (s₁.setTop (mkF m 35 #[.val (.int p0)] [(.int (0 : Int32))])) t → Steps p.tables e below (s₁.setTop (entryFrame m #[(.int p0)] 1)) t := fun t kt => pre20 t (by
            show Steps p.tables e below (s₁.setTop (mkF m 27 #[.val (.int p0)] [(.int (95 : Int32)), (.int p0)])) _
            refine XS.icmpYes X0.here hx rfl (pc0 := 27) (pc' := 34) rfl (hb hby d1_27) rfl (feq hc27_21).2 (by decide) (by decide) ?_
            show Steps p.tables e below (s₁.setTop (mkF m 34 #[.val (.int p0)] [])) _
            refine XS.iconst X0.here hx rfl (hb hby d1_34) ?_
            exact kt)
          clear pre20
          have hv : f1 p0 = (0 : Int32) := by
            unfold f1
            rw [if_neg hc3_2, if_pos hc9_17, if_pos hc15_19, if_neg hc27_21]
          obtain ⟨fs, hr, hrun, hended, hW, hsame⟩ := X0.leave (v := some (.int (f1 p0))) (fun h => by rw [Bd.returns] at h; cases h)
          refine ⟨_, _, pre23 _ ?_, hrun, hended, _, _, rfl, ?_, ⟨_, rfl⟩, hW, hsame.mono (by decide) (by decide)⟩
          · rw [hv] at hr
            show Steps p.tables e below (s₁.setTop (mkF m 35 #[.val (.int p0)] [(.int (0 : Int32))])) _
            exact retN X0 hx (t := .boolean) Bd.returns (by simp) (hb hby d1_35) hr
          · show Q1 Z p0 h0 n0 _ s₁.heap _
            rw [e0]
            exact ⟨rfl, N0, rfl⟩
      · have pre24 : ∀ t, Steps p.tables e below (s₁.setTop (mkF m 21 #[.val (.int p0)] [(.int (90 : Int32)), (.int p0)])) t → Steps p.tables e below (s₁.setTop (entryFrame m #[(.int p0)] 1)) t := fun t kt => pre18 t (by
          show Steps p.tables e below (s₁.setTop (mkF m 15 #[.val (.int p0)] [(.int (65 : Int32)), (.int p0)])) _
          refine XS.icmpNo X0.here hx rfl (hb hby d1_15) rfl (flt hc15_19).1 ?_
          show Steps p.tables e below (s₁.setTop (mkF m 18 #[.val (.int p0)] [])) _
          refine XS.iloadN X0.here hx rfl (hb hby d1_18) rfl ?_
          show Steps p.tables e below (s₁.setTop (mkF m 19 #[.val (.int p0)] [(.int p0)])) _
          refine XS.bipush X0.here hx rfl (hb hby d1_19) ?_
          exact kt)
        clear pre18
        by_cases hc21_25 : (90 : Int32) < p0
        · have pre26 : ∀ t, Steps p.tables e below (s₁.setTop (mkF m 27 #[.val (.int p0)] [(.int (95 : Int32)), (.int p0)])) t → Steps p.tables e below (s₁.setTop (entryFrame m #[(.int p0)] 1)) t := fun t kt => pre24 t (by
            show Steps p.tables e below (s₁.setTop (mkF m 21 #[.val (.int p0)] [(.int (90 : Int32)), (.int p0)])) _
            refine XS.icmpNo X0.here hx rfl (hb hby d1_21) rfl (tlt hc21_25).2.2.2 ?_
            show Steps p.tables e below (s₁.setTop (mkF m 24 #[.val (.int p0)] [])) _
            refine XS.iloadN X0.here hx rfl (hb hby d1_24) rfl ?_
            show Steps p.tables e below (s₁.setTop (mkF m 25 #[.val (.int p0)] [(.int p0)])) _
            refine XS.bipush X0.here hx rfl (hb hby d1_25) ?_
            exact kt)
          clear pre24
          by_cases hc27_27 : p0 = (95 : Int32)
          · have pre28 : ∀ t, Steps p.tables e below (s₁.setTop (mkF m 35 #[.val (.int p0)] [(.int (1 : Int32))])) t → Steps p.tables e below (s₁.setTop (entryFrame m #[(.int p0)] 1)) t := fun t kt => pre26 t (by
              show Steps p.tables e below (s₁.setTop (mkF m 27 #[.val (.int p0)] [(.int (95 : Int32)), (.int p0)])) _
              refine XS.icmpNo X0.here hx rfl (hb hby d1_27) rfl (teq hc27_27).2 ?_
              show Steps p.tables e below (s₁.setTop (mkF m 30 #[.val (.int p0)] [])) _
              refine XS.iconst X0.here hx rfl (hb hby d1_30) ?_
              show Steps p.tables e below (s₁.setTop (mkF m 31 #[.val (.int p0)] [(.int (1 : Int32))])) _
              refine XS.goto X0.here hx rfl (pc0 := 31) (pc' := 35) rfl (hb hby d1_31) (by decide) (by decide) ?_
              exact kt)
            clear pre26
            have hv : f1 p0 = (1 : Int32) := by
              unfold f1
              rw [if_neg hc3_2, if_pos hc9_17, if_neg hc15_19, if_pos hc21_25, if_pos hc27_27]
            obtain ⟨fs, hr, hrun, hended, hW, hsame⟩ := X0.leave (v := some (.int (f1 p0))) (fun h => by rw [Bd.returns] at h; cases h)
            refine ⟨_, _, pre28 _ ?_, hrun, hended, _, _, rfl, ?_, ⟨_, rfl⟩, hW, hsame.mono (by decide) (by decide)⟩
            · rw [hv] at hr
              show Steps p.tables e below (s₁.setTop (mkF m 35 #[.val (.int p0)] [(.int (1 : Int32))])) _
              exact retN X0 hx (t := .boolean) Bd.returns (by simp) (hb hby d1_35) hr
            · show Q1 Z p0 h0 n0 _ s₁.heap _
              rw [e0]
              exact ⟨rfl, N0, rfl⟩
          · have pre29 : ∀ t, Steps p.tables e below (s₁.setTop (mkF m 35 #[.val (.int p0)] [(.int (0 : Int32))])) t → Steps p.tables e below (s₁.setTop (entryFrame m #[(.int p0)] 1)) t := fun t kt => pre26 t (by
              show Steps p.tables e below (s₁.setTop (mkF m 27 #[.val (.int p0)] [(.int (95 : Int32)), (.int p0)])) _
              refine XS.icmpYes X0.here hx rfl (pc0 := 27) (pc' := 34) rfl (hb hby d1_27) rfl (feq hc27_27).2 (by decide) (by decide) ?_
              show Steps p.tables e below (s₁.setTop (mkF m 34 #[.val (.int p0)] [])) _
              refine XS.iconst X0.here hx rfl (hb hby d1_34) ?_
              exact kt)
            clear pre26
            have hv : f1 p0 = (0 : Int32) := by
              unfold f1
              rw [if_neg hc3_2, if_pos hc9_17, if_neg hc15_19, if_pos hc21_25, if_neg hc27_27]
            obtain ⟨fs, hr, hrun, hended, hW, hsame⟩ := X0.leave (v := some (.int (f1 p0))) (fun h => by rw [Bd.returns] at h; cases h)
            refine ⟨_, _, pre29 _ ?_, hrun, hended, _, _, rfl, ?_, ⟨_, rfl⟩, hW, hsame.mono (by decide) (by decide)⟩
            · rw [hv] at hr
              show Steps p.tables e below (s₁.setTop (mkF m 35 #[.val (.int p0)] [(.int (0 : Int32))])) _
              exact retN X0 hx (t := .boolean) Bd.returns (by simp) (hb hby d1_35) hr
            · show Q1 Z p0 h0 n0 _ s₁.heap _
              rw [e0]
              exact ⟨rfl, N0, rfl⟩
        · have pre30 : ∀ t, Steps p.tables e below (s₁.setTop (mkF m 35 #[.val (.int p0)] [(.int (1 : Int32))])) t → Steps p.tables e below (s₁.setTop (entryFrame m #[(.int p0)] 1)) t := fun t kt => pre24 t (by
            show Steps p.tables e below (s₁.setTop (mkF m 21 #[.val (.int p0)] [(.int (90 : Int32)), (.int p0)])) _
            refine XS.icmpYes X0.here hx rfl (pc0 := 21) (pc' := 30) rfl (hb hby d1_21) rfl (flt hc21_25).2.2.2 (by decide) (by decide) ?_
            show Steps p.tables e below (s₁.setTop (mkF m 30 #[.val (.int p0)] [])) _
            refine XS.iconst X0.here hx rfl (hb hby d1_30) ?_
            show Steps p.tables e below (s₁.setTop (mkF m 31 #[.val (.int p0)] [(.int (1 : Int32))])) _
            refine XS.goto X0.here hx rfl (pc0 := 31) (pc' := 35) rfl (hb hby d1_31) (by decide) (by decide) ?_
            exact kt)
          clear pre24
          have hv : f1 p0 = (1 : Int32) := by
            unfold f1
            rw [if_neg hc3_2, if_pos hc9_17, if_neg hc15_19, if_neg hc21_25]
          obtain ⟨fs, hr, hrun, hended, hW, hsame⟩ := X0.leave (v := some (.int (f1 p0))) (fun h => by rw [Bd.returns] at h; cases h)
          refine ⟨_, _, pre30 _ ?_, hrun, hended, _, _, rfl, ?_, ⟨_, rfl⟩, hW, hsame.mono (by decide) (by decide)⟩
          · rw [hv] at hr
            show Steps p.tables e below (s₁.setTop (mkF m 35 #[.val (.int p0)] [(.int (1 : Int32))])) _
            exact retN X0 hx (t := .boolean) Bd.returns (by simp) (hb hby d1_35) hr
          · show Q1 Z p0 h0 n0 _ s₁.heap _
            rw [e0]
            exact ⟨rfl, N0, rfl⟩
    · have pre31 : ∀ t, Steps p.tables e below (s₁.setTop (mkF m 35 #[.val (.int p0)] [(.int (1 : Int32))])) t → Steps p.tables e below (s₁.setTop (entryFrame m #[(.int p0)] 1)) t := fun t kt => pre16 t (by
        show Steps p.tables e below (s₁.setTop (mkF m 9 #[.val (.int p0)] [(.int (122 : Int32)), (.int p0)])) _
        refine XS.icmpYes X0.here hx rfl (pc0 := 9) (pc' := 30) rfl (hb hby d1_9) rfl (flt hc9_17).2.2.2 (by decide) (by decide) ?_
        show Steps p.tables e below (s₁.setTop (mkF m 30 #[.val (.int p0)] [])) _
        refine XS.iconst X0.here hx rfl (hb hby d1_30) ?_
        show Steps p.tables e below (s₁.setTop (mkF m 31 #[.val (.int p0)] [(.int (1 : Int32))])) _
        refine XS.goto X0.here hx rfl (pc0 := 31) (pc' := 35) rfl (hb hby d1_31) (by decide) (by decide) ?_
        exact kt)
      clear pre16
      have hv : f1 p0 = (1 : Int32) := by
        unfold f1
        rw [if_neg hc3_2, if_neg hc9_17]
      obtain ⟨fs, hr, hrun, hended, hW, hsame⟩ := X0.leave (v := some (.int (f1 p0))) (fun h => by rw [Bd.returns] at h; cases h)
      refine ⟨_, _, pre31 _ ?_, hrun, hended, _, _, rfl, ?_, ⟨_, rfl⟩, hW, hsame.mono (by decide) (by decide)⟩
      · rw [hv] at hr
        show Steps p.tables e below (s₁.setTop (mkF m 35 #[.val (.int p0)] [(.int (1 : Int32))])) _
        exact retN X0 hx (t := .boolean) Bd.returns (by simp) (hb hby d1_35) hr
      · show Q1 Z p0 h0 n0 _ s₁.heap _
        rw [e0]
        exact ⟨rfl, N0, rfl⟩
theorem own_nor32 (n : Nat) : n ||| 32 = if n / 32 % 2 = 1 then n else n + 32 := by
  have h1 : (n ||| 32) / 2 ^ 6 = n / 2 ^ 6 := by rw [Nat.or_div_two_pow]; simp
  have h2 : (n ||| 32) % 2 ^ 6 = (n % 2 ^ 6) ||| 32 := by rw [Nat.or_mod_two_pow]
  have h3 : ∀ r : Fin 64, (r.val ||| 32) = if r.val / 32 % 2 = 1 then r.val else r.val + 32 := by decide
  have h4 := h3 ⟨n % 64, Nat.mod_lt _ (by decide)⟩
  simp only at h4
  have e : (2 : Nat) ^ 6 = 64 := rfl
  rw [e] at h1 h2
  split <;> split at h4 <;> omega
theorem own_or32 (c : Int32) (h : 0 ≤ c.toInt) : (c ||| 32).toInt = if c.toInt / 32 % 2 = 1 then c.toInt else c.toInt + 32 := by
  have hn := own_nor32 c.toBitVec.toNat
  have e1 : (c ||| 32).toBitVec.toNat = c.toBitVec.toNat ||| 32 := by
    rw [Int32.toBitVec_or, BitVec.toNat_or]; rfl
  have e2 : c.toInt = c.toBitVec.toInt := rfl
  have e3 : (c ||| 32).toInt = (c ||| 32).toBitVec.toInt := rfl
  rw [BitVec.toInt_eq_toNat_cond] at e2 e3
  have b := c.toBitVec.isLt
  have hr : (c ||| 32).toBitVec.toNat = if c.toBitVec.toNat / 32 % 2 = 1 then c.toBitVec.toNat else c.toBitVec.toNat + 32 := by rw [e1, hn]
  have hlt : 2 * c.toBitVec.toNat < 2 ^ 32 := by split at e2 <;> omega
  have hnn : c.toInt = (c.toBitVec.toNat : Int) := by split at e2 <;> omega
  by_cases hb : c.toBitVec.toNat / 32 % 2 = 1
  · rw [if_pos hb] at hr
    rw [if_pos (by omega)]
    rw [hr, if_pos hlt] at e3
    omega
  · rw [if_neg hb] at hr
    rw [if_neg (by omega)]
    rw [hr, if_pos (by omega)] at e3
    omega
theorem own_law (x : Int32) : f1 (x.toUInt32.toUInt16.toUInt32.toInt32) = (if (97 ≤ (x.toUInt32.toUInt16.toUInt32.toInt32 ||| (32 : Int32)).toInt ∧ (x.toUInt32.toUInt16.toUInt32.toInt32 ||| (32 : Int32)).toInt ≤ 122) ∨ (x.toUInt32.toUInt16.toUInt32.toInt32).toInt = 95 then (1 : Int32) else (0 : Int32)) := by
  have hc := c_i2c x
  generalize x.toUInt32.toUInt16.toUInt32.toInt32 = c at hc ⊢
  have ho := own_or32 c (by omega)
  unfold f1
  simp only [← Int32.toInt_inj, Int32.lt_iff_toInt_lt, Int32.reduceToInt, ho]
  repeat' split
  all_goals first | rfl | (exfalso; omega)
theorem pd__C_Z : parseMethodDescriptor "(C)Z" = some ⟨[.char], some .boolean⟩ := by decide +kernel
theorem ef0 (m : MethodId) (x0 : Int32) : entryFrame m #[(.int x0)] maxLocals = mkF m 0 #[.val (.int x0), .unset, .unset, .unset] [] := by first | (simp [entryFrame, mkF, argsToLocals, Value.category, maxLocals]; done) | rfl
def Q0 (Z : State) (p0 : Int32) (h0 : Heap) (n0 : Nat) (v : Option Value) (h : Heap) (L : List Loc) : Prop := v = some (.int 1) ∧ Fr n0 L
set_option maxRecDepth 65536 in
set_option maxHeartbeats 40000000 in
theorem rm0 (l : Launch) (Z : State) (av : Array Value) (hw : ∀ d ∈ tables_1, d.before av Z = true) (ws : List Jvm.Cond) (p0 : Int32) (h0 : Heap) (n0 : Nat) (Z0 : n0 ≤ h0.size) :
    MetFree l x (head1 (Jvm.Cond.code x code maxLocals ret :: ws) room_1) (fun a U => a = #[(.int p0)] ∧ Z.Warmed39 U.vm ∧ U.heap = h0) (fun _ _ _ _ _ => True) (fun _ U o U' => ∃ v L, o = .returned v ∧ Q0 Z p0 h0 n0 v U'.heap L ∧ FrameEnd U o U' L room_1.cells room_1.slots) := by
  refine MetFree.of_bodySF (plainFor_of_name pnm0) hisR ?_
  intro p e s m args below meth c s₁ Bd hml0 hP hK
  obtain ⟨rfl, hZ, hh⟩ := hP
  have hx := Bd.exec
  have hby := Bd.bytes
  have hml : c.maxLocals = 4 := hml0
  have hown : s.vm.findClass x.cls = some m.cls := findClass_of_methodNamed Bd.named
  have hnm := (name_of_methodNamed Bd.named Bd.method).1
  have X0 : Stand p l e room_1 s m #[(.int p0)] below meth c s₁ [] 0 0 := Stand.of_body Bd
  have e0 : s₁.heap = h0 := by rw [← hh, Bd.state]; rfl
  have N0 := Fr.nil n0
  have K0 : Keep h0 h0 [] := Keep.refl h0 []
  have pre0 : ∀ t, Steps p.tables e below (s₁.setTop (mkF m 0 #[.val (.int p0), .unset, .unset, .unset] [])) t → Steps p.tables e below (s₁.setTop (entryFrame m #[(.int p0)] maxLocals)) t := fun t k => castTop (ef0 m p0) k
  have pre1 : ∀ t, Steps p.tables e below (s₁.setTop (mkF m 14 #[.val (.int p0), .val (.int ((p0 &&& (65535 : Int32)).toUInt32.toUInt16.toUInt32.toInt32)), .val (.int (((p0 &&& (65535 : Int32)).toUInt32.toUInt16.toUInt32.toInt32) ||| (32 : Int32))), .unset] [(.int (97 : Int32)), (.int (((p0 &&& (65535 : Int32)).toUInt32.toUInt16.toUInt32.toInt32) ||| (32 : Int32)))])) t → Steps p.tables e below (s₁.setTop (entryFrame m #[(.int p0)] maxLocals)) t := fun t kt => pre0 t (by
    show Steps p.tables e below (s₁.setTop (mkF m 0 #[.val (.int p0), .unset, .unset, .unset] [])) _
    refine XS.iloadN X0.here hx rfl (hb hby at_0) rfl ?_
    show Steps p.tables e below (s₁.setTop (mkF m 1 #[.val (.int p0), .unset, .unset, .unset] [(.int p0)])) _
    refine X0.ldcInt hx hown (mvT hZ (hw _ (List.mem_of_getElem? (i := 0) rfl))) (g := (mkF m 1 #[.val (.int p0), .unset, .unset, .unset] [(.int p0)])) rfl (hb hby at_1) _ ?_
    show Steps p.tables e below (s₁.setTop (mkF m 3 #[.val (.int p0), .unset, .unset, .unset] [(.int (65535 : Int32)), (.int p0)])) _
    refine XS.iand X0.here hx rfl (hb hby at_3) rfl ?_
    show Steps p.tables e below (s₁.setTop (mkF m 4 #[.val (.int p0), .unset, .unset, .unset] [(.int (p0 &&& (65535 : Int32)))])) _
    refine XS.i2c X0.here hx rfl (hb hby at_4) rfl ?_
    show Steps p.tables e below (s₁.setTop (mkF m 5 #[.val (.int p0), .unset, .unset, .unset] [(.int ((p0 &&& (65535 : Int32)).toUInt32.toUInt16.toUInt32.toInt32))])) _
    refine XS.istoreN X0.here hx rfl (hb hby at_5) rfl (l' := #[.val (.int p0), .val (.int ((p0 &&& (65535 : Int32)).toUInt32.toUInt16.toUInt32.toInt32)), .unset, .unset]) rfl ?_
    show Steps p.tables e below (s₁.setTop (mkF m 6 #[.val (.int p0), .val (.int ((p0 &&& (65535 : Int32)).toUInt32.toUInt16.toUInt32.toInt32)), .unset, .unset] [])) _
    refine XS.iloadN X0.here hx rfl (hb hby at_6) rfl ?_
    show Steps p.tables e below (s₁.setTop (mkF m 7 #[.val (.int p0), .val (.int ((p0 &&& (65535 : Int32)).toUInt32.toUInt16.toUInt32.toInt32)), .unset, .unset] [(.int ((p0 &&& (65535 : Int32)).toUInt32.toUInt16.toUInt32.toInt32))])) _
    refine XS.bipush X0.here hx rfl (hb hby at_7) ?_
    show Steps p.tables e below (s₁.setTop (mkF m 9 #[.val (.int p0), .val (.int ((p0 &&& (65535 : Int32)).toUInt32.toUInt16.toUInt32.toInt32)), .unset, .unset] [(.int (32 : Int32)), (.int ((p0 &&& (65535 : Int32)).toUInt32.toUInt16.toUInt32.toInt32))])) _
    refine XS.ior X0.here hx rfl (hb hby at_9) rfl ?_
    show Steps p.tables e below (s₁.setTop (mkF m 10 #[.val (.int p0), .val (.int ((p0 &&& (65535 : Int32)).toUInt32.toUInt16.toUInt32.toInt32)), .unset, .unset] [(.int (((p0 &&& (65535 : Int32)).toUInt32.toUInt16.toUInt32.toInt32) ||| (32 : Int32)))])) _
    refine XS.istoreN X0.here hx rfl (hb hby at_10) rfl (l' := #[.val (.int p0), .val (.int ((p0 &&& (65535 : Int32)).toUInt32.toUInt16.toUInt32.toInt32)), .val (.int (((p0 &&& (65535 : Int32)).toUInt32.toUInt16.toUInt32.toInt32) ||| (32 : Int32))), .unset]) rfl ?_
    show Steps p.tables e below (s₁.setTop (mkF m 11 #[.val (.int p0), .val (.int ((p0 &&& (65535 : Int32)).toUInt32.toUInt16.toUInt32.toInt32)), .val (.int (((p0 &&& (65535 : Int32)).toUInt32.toUInt16.toUInt32.toInt32) ||| (32 : Int32))), .unset] [])) _
    refine XS.iloadN X0.here hx rfl (hb hby at_11) rfl ?_
    show Steps p.tables e below (s₁.setTop (mkF m 12 #[.val (.int p0), .val (.int ((p0 &&& (65535 : Int32)).toUInt32.toUInt16.toUInt32.toInt32)), .val (.int (((p0 &&& (65535 : Int32)).toUInt32.toUInt16.toUInt32.toInt32) ||| (32 : Int32))), .unset] [(.int (((p0 &&& (65535 : Int32)).toUInt32.toUInt16.toUInt32.toInt32) ||| (32 : Int32)))])) _
    refine XS.bipush X0.here hx rfl (hb hby at_12) ?_
    exact kt)
  clear pre0
  by_cases hc14_2 : (((p0 &&& (65535 : Int32)).toUInt32.toUInt16.toUInt32.toInt32) ||| (32 : Int32)) < (97 : Int32)
  · have pre3 : ∀ t, Steps p.tables e below (s₁.setTop (mkF m 26 #[.val (.int p0), .val (.int ((p0 &&& (65535 : Int32)).toUInt32.toUInt16.toUInt32.toInt32)), .val (.int (((p0 &&& (65535 : Int32)).toUInt32.toUInt16.toUInt32.toInt32) ||| (32 : Int32))), .unset] [(.int (95 : Int32)), (.int ((p0 &&& (65535 : Int32)).toUInt32.toUInt16.toUInt32.toInt32))])) t → Steps p.tables e below (s₁.setTop (entryFrame m #[(.int p0)] maxLocals)) t := fun t kt => pre1 t (by
      show Steps p.tables e below (s₁.setTop (mkF m 14 #[.val (.int p0), .val (.int ((p0 &&& (65535 : Int32)).toUInt32.toUInt16.toUInt32.toInt32)), .val (.int (((p0 &&& (65535 : Int32)).toUInt32.toUInt16.toUInt32.toInt32) ||| (32 : Int32))), .unset] [(.int (97 : Int32)), (.int (((p0 &&& (65535 : Int32)).toUInt32.toUInt16.toUInt32.toInt32) ||| (32 : Int32)))])) _
      refine XS.icmpYes X0.here hx rfl (pc0 := 14) (pc' := 23) rfl (hb hby at_14) rfl (tlt hc14_2).1 (by decide) (by decide) ?_
      show Steps p.tables e below (s₁.setTop (mkF m 23 #[.val (.int p0), .val (.int ((p0 &&& (65535 : Int32)).toUInt32.toUInt16.toUInt32.toInt32)), .val (.int (((p0 &&& (65535 : Int32)).toUInt32.toUInt16.toUInt32.toInt32) ||| (32 : Int32))), .unset] [])) _
      refine XS.iloadN X0.here hx rfl (hb hby at_23) rfl ?_
      show Steps p.tables e below (s₁.setTop (mkF m 24 #[.val (.int p0), .val (.int ((p0 &&& (65535 : Int32)).toUInt32.toUInt16.toUInt32.toInt32)), .val (.int (((p0 &&& (65535 : Int32)).toUInt32.toUInt16.toUInt32.toInt32) ||| (32 : Int32))), .unset] [(.int ((p0 &&& (65535 : Int32)).toUInt32.toUInt16.toUInt32.toInt32))])) _
      refine XS.bipush X0.here hx rfl (hb hby at_24) ?_
      exact kt)
    clear pre1
    by_cases hc26_4 : ((p0 &&& (65535 : Int32)).toUInt32.toUInt16.toUInt32.toInt32) = (95 : Int32)
    · have pre5 : ∀ t, Steps p.tables e below (s₁.setTop (mkF m 36 #[.val (.int p0), .val (.int ((p0 &&& (65535 : Int32)).toUInt32.toUInt16.toUInt32.toInt32)), .val (.int (((p0 &&& (65535 : Int32)).toUInt32.toUInt16.toUInt32.toInt32) ||| (32 : Int32))), .val (.int (1 : Int32))] [(.int ((p0 &&& (65535 : Int32)).toUInt32.toUInt16.toUInt32.toInt32))])) t → Steps p.tables e below (s₁.setTop (entryFrame m #[(.int p0)] maxLocals)) t := fun t kt => pre3 t (by
        show Steps p.tables e below (s₁.setTop (mkF m 26 #[.val (.int p0), .val (.int ((p0 &&& (65535 : Int32)).toUInt32.toUInt16.toUInt32.toInt32)), .val (.int (((p0 &&& (65535 : Int32)).toUInt32.toUInt16.toUInt32.toInt32) ||| (32 : Int32))), .unset] [(.int (95 : Int32)), (.int ((p0 &&& (65535 : Int32)).toUInt32.toUInt16.toUInt32.toInt32))])) _
        refine XS.icmpNo X0.here hx rfl (hb hby at_26) rfl (teq hc26_4).2 ?_
        show Steps p.tables e below (s₁.setTop (mkF m 29 #[.val (.int p0), .val (.int ((p0 &&& (65535 : Int32)).toUInt32.toUInt16.toUInt32.toInt32)), .val (.int (((p0 &&& (65535 : Int32)).toUInt32.toUInt16.toUInt32.toInt32) ||| (32 : Int32))), .unset] [])) _
        refine XS.iconst X0.here hx rfl (hb hby at_29) ?_
        show Steps p.tables e below (s₁.setTop (mkF m 30 #[.val (.int p0), .val (.int ((p0 &&& (65535 : Int32)).toUInt32.toUInt16.toUInt32.toInt32)), .val (.int (((p0 &&& (65535 : Int32)).toUInt32.toUInt16.toUInt32.toInt32) ||| (32 : Int32))), .unset] [(.int (1 : Int32))])) _
        refine XS.goto X0.here hx rfl (pc0 := 30) (pc' := 34) rfl (hb hby at_30) (by decide) (by decide) ?_
        show Steps p.tables e below (s₁.setTop (mkF m 34 #[.val (.int p0), .val (.int ((p0 &&& (65535 : Int32)).toUInt32.toUInt16.toUInt32.toInt32)), .val (.int (((p0 &&& (65535 : Int32)).toUInt32.toUInt16.toUInt32.toInt32) ||| (32 : Int32))), .unset] [(.int (1 : Int32))])) _
        refine XS.istoreN X0.here hx rfl (hb hby at_34) rfl (l' := #[.val (.int p0), .val (.int ((p0 &&& (65535 : Int32)).toUInt32.toUInt16.toUInt32.toInt32)), .val (.int (((p0 &&& (65535 : Int32)).toUInt32.toUInt16.toUInt32.toInt32) ||| (32 : Int32))), .val (.int (1 : Int32))]) rfl ?_
        show Steps p.tables e below (s₁.setTop (mkF m 35 #[.val (.int p0), .val (.int ((p0 &&& (65535 : Int32)).toUInt32.toUInt16.toUInt32.toInt32)), .val (.int (((p0 &&& (65535 : Int32)).toUInt32.toUInt16.toUInt32.toInt32) ||| (32 : Int32))), .val (.int (1 : Int32))] [])) _
        refine XS.iloadN X0.here hx rfl (hb hby at_35) rfl ?_
        exact kt)
      clear pre3
      obtain ⟨_, _, ⟨T6, L6, k6, n6⟩, -, X6, ⟨Lc6, hQ6, l6, y6, z6⟩, st6⟩ := Jvm.LawKit.callS X0 hx (y := (⟨site_36.cls, "isIdentifierStart", "(C)Z"⟩ : MethodName)) hown (mvT hZ (hw _ (List.mem_of_getElem? (i := 1) rfl))) (mvT hZ (hw _ (List.mem_of_getElem? (i := 2) rfl))) (mvT hZ (hw _ (List.mem_of_getElem? (i := 3) rfl))) (mvT hZ (hw _ (List.mem_of_getElem? (i := 4) rfl))) (by decide) (backOf (W := 0) (rm1 l Z av hw [] ((p0 &&& (65535 : Int32)).toUInt32.toUInt16.toUInt32.toInt32)  h0 n0 Z0 ) hZ (hw _ (List.mem_of_getElem? (i := 4) rfl)) (hw _ (List.mem_of_getElem? (i := 3) rfl)) (by decide) (by decide)) (g := (mkF m 36 #[.val (.int p0), .val (.int ((p0 &&& (65535 : Int32)).toUInt32.toUInt16.toUInt32.toInt32)), .val (.int (((p0 &&& (65535 : Int32)).toUInt32.toUInt16.toUInt32.toInt32) ||| (32 : Int32))), .val (.int (1 : Int32))] [(.int ((p0 &&& (65535 : Int32)).toUInt32.toUInt16.toUInt32.toInt32))])) rfl (by rw [hml]; rfl) (argsL := [(.int ((p0 &&& (65535 : Int32)).toUInt32.toUInt16.toUInt32.toInt32))]) (rest := []) (lenOf pd__C_Z rfl) rfl (by show 2 * 0 + _ ≤ _; exact Nat.le_of_eq rfl) (hb hby at_36) (fun _ _ => ⟨rfl, e0, (by decide : 0 + 0 ≤ _), (by decide : 0 + 0 ≤ _)⟩)
      dsimp only [Pt.U, Pt.locs, Pt.cells, Pt.slots] at X6 l6 y6 z6 st6 hQ6
      rw [l6, y6, z6] at X6
      clear l6 y6 z6
      obtain ⟨rfl, N6q, e6⟩ := hQ6
      have N6 := Fr.app N0 N6q
      have pre7 : ∀ t, Steps p.tables e below (T6.setTop (mkF m 39 #[.val (.int p0), .val (.int ((p0 &&& (65535 : Int32)).toUInt32.toUInt16.toUInt32.toInt32)), .val (.int (((p0 &&& (65535 : Int32)).toUInt32.toUInt16.toUInt32.toInt32) ||| (32 : Int32))), .val (.int (1 : Int32))] [(.int (f1 ((p0 &&& (65535 : Int32)).toUInt32.toUInt16.toUInt32.toInt32)))])) t → Steps p.tables e below (s₁.setTop (entryFrame m #[(.int p0)] maxLocals)) t := fun t kt => pre5 t (st6 _ kt)
      clear pre5 st6
      have pre8 : ∀ t, Steps p.tables e below (T6.setTop (mkF m 48 #[.val (.int p0), .val (.int ((p0 &&& (65535 : Int32)).toUInt32.toUInt16.toUInt32.toInt32)), .val (.int (((p0 &&& (65535 : Int32)).toUInt32.toUInt16.toUInt32.toInt32) ||| (32 : Int32))), .val (.int (1 : Int32))] [(.int (1 : Int32))])) t → Steps p.tables e below (s₁.setTop (entryFrame m #[(.int p0)] maxLocals)) t := fun t kt => pre7 t (by
        show Steps p.tables e below (T6.setTop (mkF m 39 #[.val (.int p0), .val (.int ((p0 &&& (65535 : Int32)).toUInt32.toUInt16.toUInt32.toInt32)), .val (.int (((p0 &&& (65535 : Int32)).toUInt32.toUInt16.toUInt32.toInt32) ||| (32 : Int32))), .val (.int (1 : Int32))] [(.int (f1 ((p0 &&& (65535 : Int32)).toUInt32.toUInt16.toUInt32.toInt32)))])) _
        refine XS.iloadN X6.here hx rfl (hb hby at_39) rfl ?_
        show Steps p.tables e below (T6.setTop (mkF m 40 #[.val (.int p0), .val (.int ((p0 &&& (65535 : Int32)).toUInt32.toUInt16.toUInt32.toInt32)), .val (.int (((p0 &&& (65535 : Int32)).toUInt32.toUInt16.toUInt32.toInt32) ||| (32 : Int32))), .val (.int (1 : Int32))] [(.int (1 : Int32)), (.int (f1 ((p0 &&& (65535 : Int32)).toUInt32.toUInt16.toUInt32.toInt32)))])) _
        refine XS.icmpNo X6.here hx rfl (hb hby at_40) rfl (teq (by rw [own_law]; simp only [← Int32.toInt_inj, Int32.lt_iff_toInt_lt, Int32.reduceToInt] at hc14_2 hc26_4; first | rw [if_pos (by omega)] | rw [if_neg (by omega)] : (f1 ((p0 &&& (65535 : Int32)).toUInt32.toUInt16.toUInt32.toInt32)) = (1 : Int32))).2 ?_
        show Steps p.tables e below (T6.setTop (mkF m 43 #[.val (.int p0), .val (.int ((p0 &&& (65535 : Int32)).toUInt32.toUInt16.toUInt32.toInt32)), .val (.int (((p0 &&& (65535 : Int32)).toUInt32.toUInt16.toUInt32.toInt32) ||| (32 : Int32))), .val (.int (1 : Int32))] [])) _
        refine XS.iconst X6.here hx rfl (hb hby at_43) ?_
        show Steps p.tables e below (T6.setTop (mkF m 44 #[.val (.int p0), .val (.int ((p0 &&& (65535 : Int32)).toUInt32.toUInt16.toUInt32.toInt32)), .val (.int (((p0 &&& (65535 : Int32)).toUInt32.toUInt16.toUInt32.toInt32) ||| (32 : Int32))), .val (.int (1 : Int32))] [(.int (1 : Int32))])) _
        refine XS.goto X6.here hx rfl (pc0 := 44) (pc' := 48) rfl (hb hby at_44) (by decide) (by decide) ?_
        exact kt)
      clear pre7
      obtain ⟨fs, hr, hrun, hended, hW, hsame⟩ := X6.leave (v := some (.int (1 : Int32))) (fun h => by rw [Bd.returns] at h; cases h)
      refine ⟨_, _, pre8 _ ?_, hrun, hended, _, _, rfl, ?_, ⟨_, rfl⟩, hW, hsame.mono (by decide) (by decide)⟩
      · show Steps p.tables e below (T6.setTop (mkF m 48 #[.val (.int p0), .val (.int ((p0 &&& (65535 : Int32)).toUInt32.toUInt16.toUInt32.toInt32)), .val (.int (((p0 &&& (65535 : Int32)).toUInt32.toUInt16.toUInt32.toInt32) ||| (32 : Int32))), .val (.int (1 : Int32))] [(.int (1 : Int32))])) _
        exact retN X6 hx (t := .boolean) Bd.returns (by simp) (hb hby at_48) hr
      · show Q0 Z p0 h0 n0 _ T6.heap _
        rw [e6]
        exact ⟨rfl, N6⟩
    · have pre9 : ∀ t, Steps p.tables e below (s₁.setTop (mkF m 36 #[.val (.int p0), .val (.int ((p0 &&& (65535 : Int32)).toUInt32.toUInt16.toUInt32.toInt32)), .val (.int (((p0 &&& (65535 : Int32)).toUInt32.toUInt16.toUInt32.toInt32) ||| (32 : Int32))), .val (.int (0 : Int32))] [(.int ((p0 &&& (65535 : Int32)).toUInt32.toUInt16.toUInt32.toInt32))])) t → Steps p.tables e below (s₁.setTop (entryFrame m #[(.int p0)] maxLocals)) t := fun t kt => pre3 t (by
        show Steps p.tables e below (s₁.setTop (mkF m 26 #[.val (.int p0), .val (.int ((p0 &&& (65535 : Int32)).toUInt32.toUInt16.toUInt32.toInt32)), .val (.int (((p0 &&& (65535 : Int32)).toUInt32.toUInt16.toUInt32.toInt32) ||| (32 : Int32))), .unset] [(.int (95 : Int32)), (.int ((p0 &&& (65535 : Int32)).toUInt32.toUInt16.toUInt32.toInt32))])) _
        refine XS.icmpYes X0.here hx rfl (pc0 := 26) (pc' := 33) rfl (hb hby at_26) rfl (feq hc26_4).2 (by decide) (by decide) ?_
        show Steps p.tables e below (s₁.setTop (mkF m 33 #[.val (.int p0), .val (.int ((p0 &&& (65535 : Int32)).toUInt32.toUInt16.toUInt32.toInt32)), .val (.int (((p0 &&& (65535 : Int32)).toUInt32.toUInt16.toUInt32.toInt32) ||| (32 : Int32))), .unset] [])) _
        refine XS.iconst X0.here hx rfl (hb hby at_33) ?_
        show Steps p.tables e below (s₁.setTop (mkF m 34 #[.val (.int p0), .val (.int ((p0 &&& (65535 : Int32)).toUInt32.toUInt16.toUInt32.toInt32)), .val (.int (((p0 &&& (65535 : Int32)).toUInt32.toUInt16.toUInt32.toInt32) ||| (32 : Int32))), .unset] [(.int (0 : Int32))])) _
        refine XS.istoreN X0.here hx rfl (hb hby at_34) rfl (l' := #[.val (.int p0), .val (.int ((p0 &&& (65535 : Int32)).toUInt32.toUInt16.toUInt32.toInt32)), .val (.int (((p0 &&& (65535 : Int32)).toUInt32.toUInt16.toUInt32.toInt32) ||| (32 : Int32))), .val (.int (0 : Int32))]) rfl ?_
        show Steps p.tables e below (s₁.setTop (mkF m 35 #[.val (.int p0), .val (.int ((p0 &&& (65535 : Int32)).toUInt32.toUInt16.toUInt32.toInt32)), .val (.int (((p0 &&& (65535 : Int32)).toUInt32.toUInt16.toUInt32.toInt32) ||| (32 : Int32))), .val (.int (0 : Int32))] [])) _
        refine XS.iloadN X0.here hx rfl (hb hby at_35) rfl ?_
        exact kt)
      clear pre3
      obtain ⟨_, _, ⟨T10, L10, k10, n10⟩, -, X10, ⟨Lc10, hQ10, l10, y10, z10⟩, st10⟩ := Jvm.LawKit.callS X0 hx (y := (⟨site_36.cls, "isIdentifierStart", "(C)Z"⟩ : MethodName)) hown (mvT hZ (hw _ (List.mem_of_getElem? (i := 1) rfl))) (mvT hZ (hw _ (List.mem_of_getElem? (i := 2) rfl))) (mvT hZ (hw _ (List.mem_of_getElem? (i := 3) rfl))) (mvT hZ (hw _ (List.mem_of_getElem? (i := 4) rfl))) (by decide) (backOf (W := 0) (rm1 l Z av hw [] ((p0 &&& (65535 : Int32)).toUInt32.toUInt16.toUInt32.toInt32)  h0 n0 Z0 ) hZ (hw _ (List.mem_of_getElem? (i := 4) rfl)) (hw _ (List.mem_of_getElem? (i := 3) rfl)) (by decide) (by decide)) (g := (mkF m 36 #[.val (.int p0), .val (.int ((p0 &&& (65535 : Int32)).toUInt32.toUInt16.toUInt32.toInt32)), .val (.int (((p0 &&& (65535 : Int32)).toUInt32.toUInt16.toUInt32.toInt32) ||| (32 : Int32))), .val (.int (0 : Int32))] [(.int ((p0 &&& (65535 : Int32)).toUInt32.toUInt16.toUInt32.toInt32))])) rfl (by rw [hml]; rfl) (argsL := [(.int ((p0 &&& (65535 : Int32)).toUInt32.toUInt16.toUInt32.toInt32))]) (rest := []) (lenOf pd__C_Z rfl) rfl (by show 2 * 0 + _ ≤ _; exact Nat.le_of_eq rfl) (hb hby at_36) (fun _ _ => ⟨rfl, e0, (by decide : 0 + 0 ≤ _), (by decide : 0 + 0 ≤ _)⟩)
      dsimp only [Pt.U, Pt.locs, Pt.cells, Pt.slots] at X10 l10 y10 z10 st10 hQ10
      rw [l10, y10, z10] at X10
      clear l10 y10 z10
      obtain ⟨rfl, N10q, e10⟩ := hQ10
      have N10 := Fr.app N0 N10q
      have pre11 : ∀ t, Steps p.tables e below (T10.setTop (mkF m 39 #[.val (.int p0), .val (.int ((p0 &&& (65535 : Int32)).toUInt32.toUInt16.toUInt32.toInt32)), .val (.int (((p0 &&& (65535 : Int32)).toUInt32.toUInt16.toUInt32.toInt32) ||| (32 : Int32))), .val (.int (0 : Int32))] [(.int (f1 ((p0 &&& (65535 : Int32)).toUInt32.toUInt16.toUInt32.toInt32)))])) t → Steps p.tables e below (s₁.setTop (entryFrame m #[(.int p0)] maxLocals)) t := fun t kt => pre9 t (st10 _ kt)
      clear pre9 st10
      have pre12 : ∀ t, Steps p.tables e below (T10.setTop (mkF m 48 #[.val (.int p0), .val (.int ((p0 &&& (65535 : Int32)).toUInt32.toUInt16.toUInt32.toInt32)), .val (.int (((p0 &&& (65535 : Int32)).toUInt32.toUInt16.toUInt32.toInt32) ||| (32 : Int32))), .val (.int (0 : Int32))] [(.int (1 : Int32))])) t → Steps p.tables e below (s₁.setTop (entryFrame m #[(.int p0)] maxLocals)) t := fun t kt => pre11 t (by
        show Steps p.tables e below (T10.setTop (mkF m 39 #[.val (.int p0), .val (.int ((p0 &&& (65535 : Int32)).toUInt32.toUInt16.toUInt32.toInt32)), .val (.int (((p0 &&& (65535 : Int32)).toUInt32.toUInt16.toUInt32.toInt32) ||| (32 : Int32))), .val (.int (0 : Int32))] [(.int (f1 ((p0 &&& (65535 : Int32)).toUInt32.toUInt16.toUInt32.toInt32)))])) _
        refine XS.iloadN X10.here hx rfl (hb hby at_39) rfl ?_
        show Steps p.tables e below (T10.setTop (mkF m 40 #[.val (.int p0), .val (.int ((p0 &&& (65535 : Int32)).toUInt32.toUInt16.toUInt32.toInt32)), .val (.int (((p0 &&& (65535 : Int32)).toUInt32.toUInt16.toUInt32.toInt32) ||| (32 : Int32))), .val (.int (0 : Int32))] [(.int (0 : Int32)), (.int (f1 ((p0 &&& (65535 : Int32)).toUInt32.toUInt16.toUInt32.toInt32)))])) _
        refine XS.icmpNo X10.here hx rfl (hb hby at_40) rfl (teq (by rw [own_law]; simp only [← Int32.toInt_inj, Int32.lt_iff_toInt_lt, Int32.reduceToInt] at hc14_2 hc26_4; first | rw [if_pos (by omega)] | rw [if_neg (by omega)] : (f1 ((p0 &&& (65535 : Int32)).toUInt32.toUInt16.toUInt32.toInt32)) = (0 : Int32))).2 ?_
        show Steps p.tables e below (T10.setTop (mkF m 43 #[.val (.int p0), .val (.int ((p0 &&& (65535 : Int32)).toUInt32.toUInt16.toUInt32.toInt32)), .val (.int (((p0 &&& (65535 : Int32)).toUInt32.toUInt16.toUInt32.toInt32) ||| (32 : Int32))), .val (.int (0 : Int32))] [])) _
        refine XS.iconst X10.here hx rfl (hb hby at_43) ?_
        show Steps p.tables e below (T10.setTop (mkF m 44 #[.val (.int p0), .val (.int ((p0 &&& (65535 : Int32)).toUInt32.toUInt16.toUInt32.toInt32)), .val (.int (((p0 &&& (65535 : Int32)).toUInt32.toUInt16.toUInt32.toInt32) ||| (32 : Int32))), .val (.int (0 : Int32))] [(.int (1 : Int32))])) _
        refine XS.goto X10.here hx rfl (pc0 := 44) (pc' := 48) rfl (hb hby at_44) (by decide) (by decide) ?_
        exact kt)
      clear pre11
      obtain ⟨fs, hr, hrun, hended, hW, hsame⟩ := X10.leave (v := some (.int (1 : Int32))) (fun h => by rw [Bd.returns] at h; cases h)
      refine ⟨_, _, pre12 _ ?_, hrun, hended, _, _, rfl, ?_, ⟨_, rfl⟩, hW, hsame.mono (by decide) (by decide)⟩
      · show Steps p.tables e below (T10.setTop (mkF m 48 #[.val (.int p0), .val (.int ((p0 &&& (65535 : Int32)).toUInt32.toUInt16.toUInt32.toInt32)), .val (.int (((p0 &&& (65535 : Int32)).toUInt32.toUInt16.toUInt32.toInt32) ||| (32 : Int32))), .val (.int (0 : Int32))] [(.int (1 : Int32))])) _
        exact retN X10 hx (t := .boolean) Bd.returns (by simp) (hb hby at_48) hr
      · show Q0 Z p0 h0 n0 _ T10.heap _
        rw [e10]
        exact ⟨rfl, N10⟩
  · have pre13 : ∀ t, Steps p.tables e below (s₁.setTop (mkF m 20 #[.val (.int p0), .val (.int ((p0 &&& (65535 : Int32)).toUInt32.toUInt16.toUInt32.toInt32)), .val (.int (((p0 &&& (65535 : Int32)).toUInt32.toUInt16.toUInt32.toInt32) ||| (32 : Int32))), .unset] [(.int (122 : Int32)), (.int (((p0 &&& (65535 : Int32)).toUInt32.toUInt16.toUInt32.toInt32) ||| (32 : Int32)))])) t → Steps p.tables e below (s₁.setTop (entryFrame m #[(.int p0)] maxLocals)) t := fun t kt => pre1 t (by
      show Steps p.tables e below (s₁.setTop (mkF m 14 #[.val (.int p0), .val (.int ((p0 &&& (65535 : Int32)).toUInt32.toUInt16.toUInt32.toInt32)), .val (.int (((p0 &&& (65535 : Int32)).toUInt32.toUInt16.toUInt32.toInt32) ||| (32 : Int32))), .unset] [(.int (97 : Int32)), (.int (((p0 &&& (65535 : Int32)).toUInt32.toUInt16.toUInt32.toInt32) ||| (32 : Int32)))])) _
      refine XS.icmpNo X0.here hx rfl (hb hby at_14) rfl (flt hc14_2).1 ?_
      show Steps p.tables e below (s₁.setTop (mkF m 17 #[.val (.int p0), .val (.int ((p0 &&& (65535 : Int32)).toUInt32.toUInt16.toUInt32.toInt32)), .val (.int (((p0 &&& (65535 : Int32)).toUInt32.toUInt16.toUInt32.toInt32) ||| (32 : Int32))), .unset] [])) _
      refine XS.iloadN X0.here hx rfl (hb hby at_17) rfl ?_
      show Steps p.tables e below (s₁.setTop (mkF m 18 #[.val (.int p0), .val (.int ((p0 &&& (65535 : Int32)).toUInt32.toUInt16.toUInt32.toInt32)), .val (.int (((p0 &&& (65535 : Int32)).toUInt32.toUInt16.toUInt32.toInt32) ||| (32 : Int32))), .unset] [(.int (((p0 &&& (65535 : Int32)).toUInt32.toUInt16.toUInt32.toInt32) ||| (32 : Int32)))])) _
      refine XS.bipush X0.here hx rfl (hb hby at_18) ?_
      exact kt)
    clear pre1
    by_cases hc20_14 : (122 : Int32) < (((p0 &&& (65535 : Int32)).toUInt32.toUInt16.toUInt32.toInt32) ||| (32 : Int32))
    · have pre15 : ∀ t, Steps p.tables e below (s₁.setTop (mkF m 26 #[.val (.int p0), .val (.int ((p0 &&& (65535 : Int32)).toUInt32.toUInt16.toUInt32.toInt32)), .val (.int (((p0 &&& (65535 : Int32)).toUInt32.toUInt16.toUInt32.toInt32) ||| (32 : Int32))), .unset] [(.int (95 : Int32)), (.int ((p0 &&& (65535 : Int32)).toUInt32.toUInt16.toUInt32.toInt32))])) t → Steps p.tables e below (s₁.setTop (entryFrame m #[(.int p0)] maxLocals)) t := fun t kt => pre13 t (by
        show Steps p.tables e below (s₁.setTop (mkF m 20 #[.val (.int p0), .val (.int ((p0 &&& (65535 : Int32)).toUInt32.toUInt16.toUInt32.toInt32)), .val (.int (((p0 &&& (65535 : Int32)).toUInt32.toUInt16.toUInt32.toInt32) ||| (32 : Int32))), .unset] [(.int (122 : Int32)), (.int (((p0 &&& (65535 : Int32)).toUInt32.toUInt16.toUInt32.toInt32) ||| (32 : Int32)))])) _
        refine XS.icmpNo X0.here hx rfl (hb hby at_20) rfl (tlt hc20_14).2.2.2 ?_
        show Steps p.tables e below (s₁.setTop (mkF m 23 #[.val (.int p0), .val (.int ((p0 &&& (65535 : Int32)).toUInt32.toUInt16.toUInt32.toInt32)), .val (.int (((p0 &&& (65535 : Int32)).toUInt32.toUInt16.toUInt32.toInt32) ||| (32 : Int32))), .unset] [])) _
        refine XS.iloadN X0.here hx rfl (hb hby at_23) rfl ?_
        show Steps p.tables e below (s₁.setTop (mkF m 24 #[.val (.int p0), .val (.int ((p0 &&& (65535 : Int32)).toUInt32.toUInt16.toUInt32.toInt32)), .val (.int (((p0 &&& (65535 : Int32)).toUInt32.toUInt16.toUInt32.toInt32) ||| (32 : Int32))), .unset] [(.int ((p0 &&& (65535 : Int32)).toUInt32.toUInt16.toUInt32.toInt32))])) _
        refine XS.bipush X0.here hx rfl (hb hby at_24) ?_
        exact kt)
      clear pre13
      by_cases hc26_16 : ((p0 &&& (65535 : Int32)).toUInt32.toUInt16.toUInt32.toInt32) = (95 : Int32)
      · have pre17 : ∀ t, Steps p.tables e below (s₁.setTop (mkF m 36 #[.val (.int p0), .val (.int ((p0 &&& (65535 : Int32)).toUInt32.toUInt16.toUInt32.toInt32)), .val (.int (((p0 &&& (65535 : Int32)).toUInt32.toUInt16.toUInt32.toInt32) ||| (32 : Int32))), .val (.int (1 : Int32))] [(.int ((p0 &&& (65535 : Int32)).toUInt32.toUInt16.toUInt32.toInt32))])) t → Steps p.tables e below (s₁.setTop (entryFrame m #[(.int p0)] maxLocals)) t := fun t kt => pre15 t (by
          show Steps p.tables e below (s₁.setTop (mkF m 26 #[.val (.int p0), .val (.int ((p0 &&& (65535 : Int32)).toUInt32.toUInt16.toUInt32.toInt32)), .val (.int (((p0 &&& (65535 : Int32)).toUInt32.toUInt16.toUInt32.toInt32) ||| (32 : Int32))), .unset] [(.int (95 : Int32)), (.int ((p0 &&& (65535 : Int32)).toUInt32.toUInt16.toUInt32.toInt32))])) _
          refine XS.icmpNo X0.here hx rfl (hb hby at_26) rfl (teq hc26_16).2 ?_
          show Steps p.tables e below (s₁.setTop (mkF m 29 #[.val (.int p0), .val (.int ((p0 &&& (65535 : Int32)).toUInt32.toUInt16.toUInt32.toInt32)), .val (.int (((p0 &&& (65535 : Int32)).toUInt32.toUInt16.toUInt32.toInt32) ||| (32 : Int32))), .unset] [])) _
          refine XS.iconst X0.here hx rfl (hb hby at_29) ?_
          show Steps p.tables e below (s₁.setTop (mkF m 30 #[.val (.int p0), .val (.int ((p0 &&& (65535 : Int32)).toUInt32.toUInt16.toUInt32.toInt32)), .val (.int (((p0 &&& (65535 : Int32)).toUInt32.toUInt16.toUInt32.toInt32) ||| (32 : Int32))), .unset] [(.int (1 : Int32))])) _
          refine XS.goto X0.here hx rfl (pc0 := 30) (pc' := 34) rfl (hb hby at_30) (by decide) (by decide) ?_
          show Steps p.tables e below (s₁.setTop (mkF m 34 #[.val (.int p0), .val (.int ((p0 &&& (65535 : Int32)).toUInt32.toUInt16.toUInt32.toInt32)), .val (.int (((p0 &&& (65535 : Int32)).toUInt32.toUInt16.toUInt32.toInt32) ||| (32 : Int32))), .unset] [(.int (1 : Int32))])) _
          refine XS.istoreN X0.here hx rfl (hb hby at_34) rfl (l' := #[.val (.int p0), .val (.int ((p0 &&& (65535 : Int32)).toUInt32.toUInt16.toUInt32.toInt32)), .val (.int (((p0 &&& (65535 : Int32)).toUInt32.toUInt16.toUInt32.toInt32) ||| (32 : Int32))), .val (.int (1 : Int32))]) rfl ?_
          show Steps p.tables e below (s₁.setTop (mkF m 35 #[.val (.int p0), .val (.int ((p0 &&& (65535 : Int32)).toUInt32.toUInt16.toUInt32.toInt32)), .val (.int (((p0 &&& (65535 : Int32)).toUInt32.toUInt16.toUInt32.toInt32) ||| (32 : Int32))), .val (.int (1 : Int32))] [])) _
          refine XS.iloadN X0.here hx rfl (hb hby at_35) rfl ?_
          exact kt)
        clear pre15
        obtain ⟨_, _, ⟨T18, L18, k18, n18⟩, -, X18, ⟨Lc18, hQ18, l18, y18, z18⟩, st18⟩ := Jvm.LawKit.callS X0 hx (y := (⟨site_36.cls, "isIdentifierStart", "(C)Z"⟩ : MethodName)) hown (mvT hZ (hw _ (List.mem_of_getElem? (i := 1) rfl))) (mvT hZ (hw _ (List.mem_of_getElem? (i := 2) rfl))) (mvT hZ (hw _ (List.mem_of_getElem? (i := 3) rfl))) (mvT hZ (hw _ (List.mem_of_getElem? (i := 4) rfl))) (by decide) (backOf (W := 0) (rm1 l Z av hw [] ((p0 &&& (65535 : Int32)).toUInt32.toUInt16.toUInt32.toInt32)  h0 n0 Z0 ) hZ (hw _ (List.mem_of_getElem? (i := 4) rfl)) (hw _ (List.mem_of_getElem? (i := 3) rfl)) (by decide) (by decide)) (g := (mkF m 36 #[.val (.int p0), .val (.int ((p0 &&& (65535 : Int32)).toUInt32.toUInt16.toUInt32.toInt32)), .val (.int (((p0 &&& (65535 : Int32)).toUInt32.toUInt16.toUInt32.toInt32) ||| (32 : Int32))), .val (.int (1 : Int32))] [(.int ((p0 &&& (65535 : Int32)).toUInt32.toUInt16.toUInt32.toInt32))])) rfl (by rw [hml]; rfl) (argsL := [(.int ((p0 &&& (65535 : Int32)).toUInt32.toUInt16.toUInt32.toInt32))]) (rest := []) (lenOf pd__C_Z rfl) rfl (by show 2 * 0 + _ ≤ _; exact Nat.le_of_eq rfl) (hb hby at_36) (fun _ _ => ⟨rfl, e0, (by decide : 0 + 0 ≤ _), (by decide : 0 + 0 ≤ _)⟩)
        dsimp only [Pt.U, Pt.locs, Pt.cells, Pt.slots] at X18 l18 y18 z18 st18 hQ18
        rw [l18, y18, z18] at X18
        clear l18 y18 z18
        obtain ⟨rfl, N18q, e18⟩ := hQ18
        have N18 := Fr.app N0 N18q
        have pre19 : ∀ t, Steps p.tables e below (T18.setTop (mkF m 39 #[.val (.int p0), .val (.int ((p0 &&& (65535 : Int32)).toUInt32.toUInt16.toUInt32.toInt32)), .val (.int (((p0 &&& (65535 : Int32)).toUInt32.toUInt16.toUInt32.toInt32) ||| (32 : Int32))), .val (.int (1 : Int32))] [(.int (f1 ((p0 &&& (65535 : Int32)).toUInt32.toUInt16.toUInt32.toInt32)))])) t → Steps p.tables e below (s₁.setTop (entryFrame m #[(.int p0)] maxLocals)) t := fun t kt => pre17 t (st18 _ kt)
        clear pre17 st18
        have pre20 : ∀ t, Steps p.tables e below (T18.setTop (mkF m 48 #[.val (.int p0), .val (.int ((p0 &&& (65535 : Int32)).toUInt32.toUInt16.toUInt32.toInt32)), .val (.int (((p0 &&& (65535 : Int32)).toUInt32.toUInt16.toUInt32.toInt32) ||| (32 : Int32))), .val (.int (1 : Int32))] [(.int (1 : Int32))])) t → Steps p.tables e below (s₁.setTop (entryFrame m #[(.int p0)] maxLocals)) t := fun t kt => pre19 t (by
          show Steps p.tables e below (T18.setTop (mkF m 39 #[.val (.int p0), .val (.int ((p0 &&& (65535 : Int32)).toUInt32.toUInt16.toUInt32.toInt32)), .val (.int (((p0 &&& (65535 : Int32)).toUInt32.toUInt16.toUInt32.toInt32) ||| (32 : Int32))), .val (.int (1 : Int32))] [(.int (f1 ((p0 &&& (65535 : Int32)).toUInt32.toUInt16.toUInt32.toInt32)))])) _
          refine XS.iloadN X18.here hx rfl (hb hby at_39) rfl ?_
          show Steps p.tables e below (T18.setTop (mkF m 40 #[.val (.int p0), .val (.int ((p0 &&& (65535 : Int32)).toUInt32.toUInt16.toUInt32.toInt32)), .val (.int (((p0 &&& (65535 : Int32)).toUInt32.toUInt16.toUInt32.toInt32) ||| (32 : Int32))), .val (.int (1 : Int32))] [(.int (1 : Int32)), (.int (f1 ((p0 &&& (65535 : Int32)).toUInt32.toUInt16.toUInt32.toInt32)))])) _
          refine XS.icmpNo X18.here hx rfl (hb hby at_40) rfl (teq (by rw [own_law]; simp only [← Int32.toInt_inj, Int32.lt_iff_toInt_lt, Int32.reduceToInt] at hc14_2 hc20_14 hc26_16; first | rw [if_pos (by omega)] | rw [if_neg (by omega)] : (f1 ((p0 &&& (65535 : Int32)).toUInt32.toUInt16.toUInt32.toInt32)) = (1 : Int32))).2 ?_
          show Steps p.tables e below (T18.setTop (mkF m 43 #[.val (.int p0), .val (.int ((p0 &&& (65535 : Int32)).toUInt32.toUInt16.toUInt32.toInt32)), .val (.int (((p0 &&& (65535 : Int32)).toUInt32.toUInt16.toUInt32.toInt32) ||| (32 : Int32))), .val (.int (1 : Int32))] [])) _
          refine XS.iconst X18.here hx rfl (hb hby at_43) ?_
          show Steps p.tables e below (T18.setTop (mkF m 44 #[.val (.int p0), .val (.int ((p0 &&& (65535 : Int32)).toUInt32.toUInt16.toUInt32.toInt32)), .val (.int (((p0 &&& (65535 : Int32)).toUInt32.toUInt16.toUInt32.toInt32) ||| (32 : Int32))), .val (.int (1 : Int32))] [(.int (1 : Int32))])) _
          refine XS.goto X18.here hx rfl (pc0 := 44) (pc' := 48) rfl (hb hby at_44) (by decide) (by decide) ?_
          exact kt)
        clear pre19
        obtain ⟨fs, hr, hrun, hended, hW, hsame⟩ := X18.leave (v := some (.int (1 : Int32))) (fun h => by rw [Bd.returns] at h; cases h)
        refine ⟨_, _, pre20 _ ?_, hrun, hended, _, _, rfl, ?_, ⟨_, rfl⟩, hW, hsame.mono (by decide) (by decide)⟩
        · show Steps p.tables e below (T18.setTop (mkF m 48 #[.val (.int p0), .val (.int ((p0 &&& (65535 : Int32)).toUInt32.toUInt16.toUInt32.toInt32)), .val (.int (((p0 &&& (65535 : Int32)).toUInt32.toUInt16.toUInt32.toInt32) ||| (32 : Int32))), .val (.int (1 : Int32))] [(.int (1 : Int32))])) _
          exact retN X18 hx (t := .boolean) Bd.returns (by simp) (hb hby at_48) hr
        · show Q0 Z p0 h0 n0 _ T18.heap _
          rw [e18]
          exact ⟨rfl, N18⟩
      · have pre21 : ∀ t, Steps p.tables e below (s₁.setTop (mkF m 36 #[.val (.int p0), .val (.int ((p0 &&& (65535 : Int32)).toUInt32.toUInt16.toUInt32.toInt32)), .val (.int (((p0 &&& (65535 : Int32)).toUInt32.toUInt16.toUInt32.toInt32) ||| (32 : Int32))), .val (.int (0 : Int32))] [(.int ((p0 &&& (65535 : Int32)).toUInt32.toUInt16.toUInt32.toInt32))])) t → Steps p.tables e below (s₁.setTop (entryFrame m #[(.int p0)] maxLocals)) t := fun t kt => pre15 t (by
          show Steps p.tables e below (s₁.setTop (mkF m 26 #[.val (.int p0), .val (.int ((p0 &&& (65535 : Int32)).toUInt32.toUInt16.toUInt32.toInt32)), .val (.int (((p0 &&& (65535 : Int32)).toUInt32.toUInt16.toUInt32.toInt32) ||| (32 : Int32))), .unset] [(.int (95 : Int32)), (.int ((p0 &&& (65535 : Int32)).toUInt32.toUInt16.toUInt32.toInt32))])) _
          refine XS.icmpYes X0.here hx rfl (pc0 := 26) (pc' := 33) rfl (hb hby at_26) rfl (feq hc26_16).2 (by decide) (by decide) ?_
          show Steps p.tables e below (s₁.setTop (mkF m 33 #[.val (.int p0), .val (.int ((p0 &&& (65535 : Int32)).toUInt32.toUInt16.toUInt32.toInt32)), .val (.int (((p0 &&& (65535 : Int32)).toUInt32.toUInt16.toUInt32.toInt32) ||| (32 : Int32))), .unset] [])) _
          refine XS.iconst X0.here hx rfl (hb hby at_33) ?_
          show Steps p.tables e below (s₁.setTop (mkF m 34 #[.val (.int p0), .val (.int ((p0 &&& (65535 : Int32)).toUInt32.toUInt16.toUInt32.toInt32)), .val (.int (((p0 &&& (65535 : Int32)).toUInt32.toUInt16.toUInt32.toInt32) ||| (32 : Int32))), .unset] [(.int (0 : Int32))])) _
          refine XS.istoreN X0.here hx rfl (hb hby at_34) rfl (l' := #[.val (.int p0), .val (.int ((p0 &&& (65535 : Int32)).toUInt32.toUInt16.toUInt32.toInt32)), .val (.int (((p0 &&& (65535 : Int32)).toUInt32.toUInt16.toUInt32.toInt32) ||| (32 : Int32))), .val (.int (0 : Int32))]) rfl ?_
          show Steps p.tables e below (s₁.setTop (mkF m 35 #[.val (.int p0), .val (.int ((p0 &&& (65535 : Int32)).toUInt32.toUInt16.toUInt32.toInt32)), .val (.int (((p0 &&& (65535 : Int32)).toUInt32.toUInt16.toUInt32.toInt32) ||| (32 : Int32))), .val (.int (0 : Int32))] [])) _
          refine XS.iloadN X0.here hx rfl (hb hby at_35) rfl ?_
          exact kt)
        clear pre15
        obtain ⟨_, _, ⟨T22, L22, k22, n22⟩, -, X22, ⟨Lc22, hQ22, l22, y22, z22⟩, st22⟩ := Jvm.LawKit.callS X0 hx (y := (⟨site_36.cls, "isIdentifierStart", "(C)Z"⟩ : MethodName)) hown (mvT hZ (hw _ (List.mem_of_getElem? (i := 1) rfl))) (mvT hZ (hw _ (List.mem_of_getElem? (i := 2) rfl))) (mvT hZ (hw _ (List.mem_of_getElem? (i := 3) rfl))) (mvT hZ (hw _ (List.mem_of_getElem? (i := 4) rfl))) (by decide) (backOf (W := 0) (rm1 l Z av hw [] ((p0 &&& (65535 : Int32)).toUInt32.toUInt16.toUInt32.toInt32)  h0 n0 Z0 ) hZ (hw _ (List.mem_of_getElem? (i := 4) rfl)) (hw _ (List.mem_of_getElem? (i := 3) rfl)) (by decide) (by decide)) (g := (mkF m 36 #[.val (.int p0), .val (.int ((p0 &&& (65535 : Int32)).toUInt32.toUInt16.toUInt32.toInt32)), .val (.int (((p0 &&& (65535 : Int32)).toUInt32.toUInt16.toUInt32.toInt32) ||| (32 : Int32))), .val (.int (0 : Int32))] [(.int ((p0 &&& (65535 : Int32)).toUInt32.toUInt16.toUInt32.toInt32))])) rfl (by rw [hml]; rfl) (argsL := [(.int ((p0 &&& (65535 : Int32)).toUInt32.toUInt16.toUInt32.toInt32))]) (rest := []) (lenOf pd__C_Z rfl) rfl (by show 2 * 0 + _ ≤ _; exact Nat.le_of_eq rfl) (hb hby at_36) (fun _ _ => ⟨rfl, e0, (by decide : 0 + 0 ≤ _), (by decide : 0 + 0 ≤ _)⟩)
        dsimp only [Pt.U, Pt.locs, Pt.cells, Pt.slots] at X22 l22 y22 z22 st22 hQ22
        rw [l22, y22, z22] at X22
        clear l22 y22 z22
        obtain ⟨rfl, N22q, e22⟩ := hQ22
        have N22 := Fr.app N0 N22q
        have pre23 : ∀ t, Steps p.tables e below (T22.setTop (mkF m 39 #[.val (.int p0), .val (.int ((p0 &&& (65535 : Int32)).toUInt32.toUInt16.toUInt32.toInt32)), .val (.int (((p0 &&& (65535 : Int32)).toUInt32.toUInt16.toUInt32.toInt32) ||| (32 : Int32))), .val (.int (0 : Int32))] [(.int (f1 ((p0 &&& (65535 : Int32)).toUInt32.toUInt16.toUInt32.toInt32)))])) t → Steps p.tables e below (s₁.setTop (entryFrame m #[(.int p0)] maxLocals)) t := fun t kt => pre21 t (st22 _ kt)
        clear pre21 st22
        have pre24 : ∀ t, Steps p.tables e below (T22.setTop (mkF m 48 #[.val (.int p0), .val (.int ((p0 &&& (65535 : Int32)).toUInt32.toUInt16.toUInt32.toInt32)), .val (.int (((p0 &&& (65535 : Int32)).toUInt32.toUInt16.toUInt32.toInt32) ||| (32 : Int32))), .val (.int (0 : Int32))] [(.int (1 : Int32))])) t → Steps p.tables e below (s₁.setTop (entryFrame m #[(.int p0)] maxLocals)) t := fun t kt => pre23 t (by
          show Steps p.tables e below (T22.setTop (mkF m 39 #[.val (.int p0), .val (.int ((p0 &&& (65535 : Int32)).toUInt32.toUInt16.toUInt32.toInt32)), .val (.int (((p0 &&& (65535 : Int32)).toUInt32.toUInt16.toUInt32.toInt32) ||| (32 : Int32))), .val (.int (0 : Int32))] [(.int (f1 ((p0 &&& (65535 : Int32)).toUInt32.toUInt16.toUInt32.toInt32)))])) _
          refine XS.iloadN X22.here hx rfl (hb hby at_39) rfl ?_
          show Steps p.tables e below (T22.setTop (mkF m 40 #[.val (.int p0), .val (.int ((p0 &&& (65535 : Int32)).toUInt32.toUInt16.toUInt32.toInt32)), .val (.int (((p0 &&& (65535 : Int32)).toUInt32.toUInt16.toUInt32.toInt32) ||| (32 : Int32))), .val (.int (0 : Int32))] [(.int (0 : Int32)), (.int (f1 ((p0 &&& (65535 : Int32)).toUInt32.toUInt16.toUInt32.toInt32)))])) _
          refine XS.icmpNo X22.here hx rfl (hb hby at_40) rfl (teq (by rw [own_law]; simp only [← Int32.toInt_inj, Int32.lt_iff_toInt_lt, Int32.reduceToInt] at hc14_2 hc20_14 hc26_16; first | rw [if_pos (by omega)] | rw [if_neg (by omega)] : (f1 ((p0 &&& (65535 : Int32)).toUInt32.toUInt16.toUInt32.toInt32)) = (0 : Int32))).2 ?_
          show Steps p.tables e below (T22.setTop (mkF m 43 #[.val (.int p0), .val (.int ((p0 &&& (65535 : Int32)).toUInt32.toUInt16.toUInt32.toInt32)), .val (.int (((p0 &&& (65535 : Int32)).toUInt32.toUInt16.toUInt32.toInt32) ||| (32 : Int32))), .val (.int (0 : Int32))] [])) _
          refine XS.iconst X22.here hx rfl (hb hby at_43) ?_
          show Steps p.tables e below (T22.setTop (mkF m 44 #[.val (.int p0), .val (.int ((p0 &&& (65535 : Int32)).toUInt32.toUInt16.toUInt32.toInt32)), .val (.int (((p0 &&& (65535 : Int32)).toUInt32.toUInt16.toUInt32.toInt32) ||| (32 : Int32))), .val (.int (0 : Int32))] [(.int (1 : Int32))])) _
          refine XS.goto X22.here hx rfl (pc0 := 44) (pc' := 48) rfl (hb hby at_44) (by decide) (by decide) ?_
          exact kt)
        clear pre23
        obtain ⟨fs, hr, hrun, hended, hW, hsame⟩ := X22.leave (v := some (.int (1 : Int32))) (fun h => by rw [Bd.returns] at h; cases h)
        refine ⟨_, _, pre24 _ ?_, hrun, hended, _, _, rfl, ?_, ⟨_, rfl⟩, hW, hsame.mono (by decide) (by decide)⟩
        · show Steps p.tables e below (T22.setTop (mkF m 48 #[.val (.int p0), .val (.int ((p0 &&& (65535 : Int32)).toUInt32.toUInt16.toUInt32.toInt32)), .val (.int (((p0 &&& (65535 : Int32)).toUInt32.toUInt16.toUInt32.toInt32) ||| (32 : Int32))), .val (.int (0 : Int32))] [(.int (1 : Int32))])) _
          exact retN X22 hx (t := .boolean) Bd.returns (by simp) (hb hby at_48) hr
        · show Q0 Z p0 h0 n0 _ T22.heap _
          rw [e22]
          exact ⟨rfl, N22⟩
    · have pre25 : ∀ t, Steps p.tables e below (s₁.setTop (mkF m 36 #[.val (.int p0), .val (.int ((p0 &&& (65535 : Int32)).toUInt32.toUInt16.toUInt32.toInt32)), .val (.int (((p0 &&& (65535 : Int32)).toUInt32.toUInt16.toUInt32.toInt32) ||| (32 : Int32))), .val (.int (1 : Int32))] [(.int ((p0 &&& (65535 : Int32)).toUInt32.toUInt16.toUInt32.toInt32))])) t → Steps p.tables e below (s₁.setTop (entryFrame m #[(.int p0)] maxLocals)) t := fun t kt => pre13 t (by
        show Steps p.tables e below (s₁.setTop (mkF m 20 #[.val (.int p0), .val (.int ((p0 &&& (65535 : Int32)).toUInt32.toUInt16.toUInt32.toInt32)), .val (.int (((p0 &&& (65535 : Int32)).toUInt32.toUInt16.toUInt32.toInt32) ||| (32 : Int32))), .unset] [(.int (122 : Int32)), (.int (((p0 &&& (65535 : Int32)).toUInt32.toUInt16.toUInt32.toInt32) ||| (32 : Int32)))])) _
        refine XS.icmpYes X0.here hx rfl (pc0 := 20) (pc' := 29) rfl (hb hby at_20) rfl (flt hc20_14).2.2.2 (by decide) (by decide) ?_
        show Steps p.tables e below (s₁.setTop (mkF m 29 #[.val (.int p0), .val (.int ((p0 &&& (65535 : Int32)).toUInt32.toUInt16.toUInt32.toInt32)), .val (.int (((p0 &&& (65535 : Int32)).toUInt32.toUInt16.toUInt32.toInt32) ||| (32 : Int32))), .unset] [])) _
        refine XS.iconst X0.here hx rfl (hb hby at_29) ?_
        show Steps p.tables e below (s₁.setTop (mkF m 30 #[.val (.int p0), .val (.int ((p0 &&& (65535 : Int32)).toUInt32.toUInt16.toUInt32.toInt32)), .val (.int (((p0 &&& (65535 : Int32)).toUInt32.toUInt16.toUInt32.toInt32) ||| (32 : Int32))), .unset] [(.int (1 : Int32))])) _
        refine XS.goto X0.here hx rfl (pc0 := 30) (pc' := 34) rfl (hb hby at_30) (by decide) (by decide) ?_
        show Steps p.tables e below (s₁.setTop (mkF m 34 #[.val (.int p0), .val (.int ((p0 &&& (65535 : Int32)).toUInt32.toUInt16.toUInt32.toInt32)), .val (.int (((p0 &&& (65535 : Int32)).toUInt32.toUInt16.toUInt32.toInt32) ||| (32 : Int32))), .unset] [(.int (1 : Int32))])) _
        refine XS.istoreN X0.here hx rfl (hb hby at_34) rfl (l' := #[.val (.int p0), .val (.int ((p0 &&& (65535 : Int32)).toUInt32.toUInt16.toUInt32.toInt32)), .val (.int (((p0 &&& (65535 : Int32)).toUInt32.toUInt16.toUInt32.toInt32) ||| (32 : Int32))), .val (.int (1 : Int32))]) rfl ?_
        show Steps p.tables e below (s₁.setTop (mkF m 35 #[.val (.int p0), .val (.int ((p0 &&& (65535 : Int32)).toUInt32.toUInt16.toUInt32.toInt32)), .val (.int (((p0 &&& (65535 : Int32)).toUInt32.toUInt16.toUInt32.toInt32) ||| (32 : Int32))), .val (.int (1 : Int32))] [])) _
        refine XS.iloadN X0.here hx rfl (hb hby at_35) rfl ?_
        exact kt)
      clear pre13
      obtain ⟨_, _, ⟨T26, L26, k26, n26⟩, -, X26, ⟨Lc26, hQ26, l26, y26, z26⟩, st26⟩ := Jvm.LawKit.callS X0 hx (y := (⟨site_36.cls, "isIdentifierStart", "(C)Z"⟩ : MethodName)) hown (mvT hZ (hw _ (List.mem_of_getElem? (i := 1) rfl))) (mvT hZ (hw _ (List.mem_of_getElem? (i := 2) rfl))) (mvT hZ (hw _ (List.mem_of_getElem? (i := 3) rfl))) (mvT hZ (hw _ (List.mem_of_getElem? (i := 4) rfl))) (by decide) (backOf (W := 0) (rm1 l Z av hw [] ((p0 &&& (65535 : Int32)).toUInt32.toUInt16.toUInt32.toInt32)  h0 n0 Z0 ) hZ (hw _ (List.mem_of_getElem? (i := 4) rfl)) (hw _ (List.mem_of_getElem? (i := 3) rfl)) (by decide) (by decide)) (g := (mkF m 36 #[.val (.int p0), .val (.int ((p0 &&& (65535 : Int32)).toUInt32.toUInt16.toUInt32.toInt32)), .val (.int (((p0 &&& (65535 : Int32)).toUInt32.toUInt16.toUInt32.toInt32) ||| (32 : Int32))), .val (.int (1 : Int32))] [(.int ((p0 &&& (65535 : Int32)).toUInt32.toUInt16.toUInt32.toInt32))])) rfl (by rw [hml]; rfl) (argsL := [(.int ((p0 &&& (65535 : Int32)).toUInt32.toUInt16.toUInt32.toInt32))]) (rest := []) (lenOf pd__C_Z rfl) rfl (by show 2 * 0 + _ ≤ _; exact Nat.le_of_eq rfl) (hb hby at_36) (fun _ _ => ⟨rfl, e0, (by decide : 0 + 0 ≤ _), (by decide : 0 + 0 ≤ _)⟩)
      dsimp only [Pt.U, Pt.locs, Pt.cells, Pt.slots] at X26 l26 y26 z26 st26 hQ26
      rw [l26, y26, z26] at X26
      clear l26 y26 z26
      obtain ⟨rfl, N26q, e26⟩ := hQ26
      have N26 := Fr.app N0 N26q
      have pre27 : ∀ t, Steps p.tables e below (T26.setTop (mkF m 39 #[.val (.int p0), .val (.int ((p0 &&& (65535 : Int32)).toUInt32.toUInt16.toUInt32.toInt32)), .val (.int (((p0 &&& (65535 : Int32)).toUInt32.toUInt16.toUInt32.toInt32) ||| (32 : Int32))), .val (.int (1 : Int32))] [(.int (f1 ((p0 &&& (65535 : Int32)).toUInt32.toUInt16.toUInt32.toInt32)))])) t → Steps p.tables e below (s₁.setTop (entryFrame m #[(.int p0)] maxLocals)) t := fun t kt => pre25 t (st26 _ kt)
      clear pre25 st26
      have pre28 : ∀ t, Steps p.tables e below (T26.setTop (mkF m 48 #[.val (.int p0), .val (.int ((p0 &&& (65535 : Int32)).toUInt32.toUInt16.toUInt32.toInt32)), .val (.int (((p0 &&& (65535 : Int32)).toUInt32.toUInt16.toUInt32.toInt32) ||| (32 : Int32))), .val (.int (1 : Int32))] [(.int (1 : Int32))])) t → Steps p.tables e below (s₁.setTop (entryFrame m #[(.int p0)] maxLocals)) t := fun t kt => pre27 t (by
        show Steps p.tables e below (T26.setTop (mkF m 39 #[.val (.int p0), .val (.int ((p0 &&& (65535 : Int32)).toUInt32.toUInt16.toUInt32.toInt32)), .val (.int (((p0 &&& (65535 : Int32)).toUInt32.toUInt16.toUInt32.toInt32) ||| (32 : Int32))), .val (.int (1 : Int32))] [(.int (f1 ((p0 &&& (65535 : Int32)).toUInt32.toUInt16.toUInt32.toInt32)))])) _
        refine XS.iloadN X26.here hx rfl (hb hby at_39) rfl ?_
        show Steps p.tables e below (T26.setTop (mkF m 40 #[.val (.int p0), .val (.int ((p0 &&& (65535 : Int32)).toUInt32.toUInt16.toUInt32.toInt32)), .val (.int (((p0 &&& (65535 : Int32)).toUInt32.toUInt16.toUInt32.toInt32) ||| (32 : Int32))), .val (.int (1 : Int32))] [(.int (1 : Int32)), (.int (f1 ((p0 &&& (65535 : Int32)).toUInt32.toUInt16.toUInt32.toInt32)))])) _
        refine XS.icmpNo X26.here hx rfl (hb hby at_40) rfl (teq (by rw [own_law]; simp only [← Int32.toInt_inj, Int32.lt_iff_toInt_lt, Int32.reduceToInt] at hc14_2 hc20_14; first | rw [if_pos (by omega)] | rw [if_neg (by omega)] : (f1 ((p0 &&& (65535 : Int32)).toUInt32.toUInt16.toUInt32.toInt32)) = (1 : Int32))).2 ?_
        show Steps p.tables e below (T26.setTop (mkF m 43 #[.val (.int p0), .val (.int ((p0 &&& (65535 : Int32)).toUInt32.toUInt16.toUInt32.toInt32)), .val (.int (((p0 &&& (65535 : Int32)).toUInt32.toUInt16.toUInt32.toInt32) ||| (32 : Int32))), .val (.int (1 : Int32))] [])) _
        refine XS.iconst X26.here hx rfl (hb hby at_43) ?_
        show Steps p.tables e below (T26.setTop (mkF m 44 #[.val (.int p0), .val (.int ((p0 &&& (65535 : Int32)).toUInt32.toUInt16.toUInt32.toInt32)), .val (.int (((p0 &&& (65535 : Int32)).toUInt32.toUInt16.toUInt32.toInt32) ||| (32 : Int32))), .val (.int (1 : Int32))] [(.int (1 : Int32))])) _
        refine XS.goto X26.here hx rfl (pc0 := 44) (pc' := 48) rfl (hb hby at_44) (by decide) (by decide) ?_
        exact kt)
      clear pre27
      obtain ⟨fs, hr, hrun, hended, hW, hsame⟩ := X26.leave (v := some (.int (1 : Int32))) (fun h => by rw [Bd.returns] at h; cases h)
      refine ⟨_, _, pre28 _ ?_, hrun, hended, _, _, rfl, ?_, ⟨_, rfl⟩, hW, hsame.mono (by decide) (by decide)⟩
      · show Steps p.tables e below (T26.setTop (mkF m 48 #[.val (.int p0), .val (.int ((p0 &&& (65535 : Int32)).toUInt32.toUInt16.toUInt32.toInt32)), .val (.int (((p0 &&& (65535 : Int32)).toUInt32.toUInt16.toUInt32.toInt32) ||| (32 : Int32))), .val (.int (1 : Int32))] [(.int (1 : Int32))])) _
        exact retN X26 hx (t := .boolean) Bd.returns (by simp) (hb hby at_48) hr
      · show Q0 Z p0 h0 n0 _ T26.heap _
        rw [e26]
        exact ⟨rfl, N26⟩
set_option maxRecDepth 65536 in
set_option maxHeartbeats 40000000 in
theorem comes_1 {Post : Tables → Env → Array Value → State → Outcome → State → Prop} (hpost : ∀ tb e args s v u, (limb_1_1.after args s (.returned v) u = true ∧ limb_1_2.after args s (.returned v) u = true ∧ True) → FrameEnd s (.returned v) u (Jvm.fieldLocs frame_1_writes args s ++ Jvm.arrayLocs frame_1_arrays args s ++ Jvm.staticLocs frame_1_statics s) 0 0 → Post tb e args s (.returned v) u) :
    ArmFor flags0 classFile x code maxLocals ret World_1 tables_1 room_1 Calls_1 rest_1 Pre_1 Post := by
  intro l hfl _ _ p e ha hc hk s m args below hf hA hF happ hP
  obtain ⟨hcalls, hrest, hpre⟩ := hP
  obtain ⟨-, -, -, hnamed, -, -, -, hat⟩ := (Spec.applies_iff hf).mp happ
  obtain ⟨hg, hn⟩ := and_e (Cond.before_iff.mp (show (Jvm.Cond.and given_1 narrow_1).before args s = true from hpre))
  obtain ⟨g1, g2⟩ := and_e hg
  obtain ⟨w0, rfl⟩ : ∃ w0 : Value, args = #[w0] := by
    have hs : args.size = 1 := by simpa [Cond.value, given_1] using g1
    obtain ⟨L⟩ := args
    match L, hs with
    | [w0], _ => exact ⟨w0, rfl⟩
  have hw := fun d (hd : d ∈ tables_1) => atoms_spec (ws := Jvm.Cond.code x code maxLocals ret :: tables_1) hat d (List.mem_cons_of_mem _ hd)
  obtain ⟨i0, ei0⟩ := is_v g2
  obtain rfl : w0 = (.int i0) := Option.some.inj ei0
  obtain ⟨n, o, h1, h2, h3, _, L, rfl, ⟨rfl, N⟩, hq⟩ := rm0 l s _ hw tables_1 i0 s.heap s.heap.size (Nat.le_refl _) p e ha hc hk s m _ below hf ((Spec.applies_iff_loose hf).mp happ).1 ⟨rfl, State.Warmed39.refl s, rfl⟩ trivial
  refine ⟨n, _, h1, h2, h3, hpost _ _ _ _ _ _ ⟨Cond.after_iff.mpr rfl, Cond.after_iff.mpr (eq_i res_at (Term.int_eval (1)) rfl), trivial⟩ ⟨hq.1, hq.2.1, (hq.2.2.sift fun y hy => Or.inr (N y hy)).mono (by decide) (by decide)⟩⟩
theorem main_1_1 : Claimed_1_1 := comes_1 fun _ _ _ _ _ _ h hF => ⟨h.1, hF⟩
theorem main_1_2 : Claimed_1_2 := comes_1 fun _ _ _ _ _ _ h hF => ⟨h.2.1, hF⟩
end Jvm.Pilot.@@N@@
namespace Jvm.Pilot.@@N@@
open Jvm Jvm.ClassFile Sem Op Lib Jvm.Free Jvm.Stand Jvm.Pilot.@@N@@.Jvm.D
/-! MADE BY PROGRAM (witnessworld.py) out of the Statement's table words and the real class files: 9 classes; the members and pool entries that the words name. The judged class is class 1, her method 1. -/
namespace start1
open Jvm.ClassFile
def u (s : String) : CpInfo := .utf8 (stringToUtf16 s)
/-- a pool by its gaps: so many unusable entries, then the entry; so many at the end -/
def gap : Nat → List CpInfo → List CpInfo
  | 0, r => r
  | n + 1, r => .unusable :: gap n r
def poolList (es : List (Nat × CpInfo)) (last : Nat) : List CpInfo := es.foldr (fun e r => gap e.1 (e.2 :: r)) (gap last [])
def pool (es : List (Nat × CpInfo)) (last : Nat) : Array CpInfo := ⟨poolList es last⟩
def fileOf (pool : Array CpInfo) (this : Nat) (attrs : Array Attribute := #[]) (ms : Array MethodInfo := #[]) (fl : Nat := 33) (sup : Nat := 0) (ifs : Array Nat := #[]) (fds : Array FieldInfo := #[]) : ClassFile where
  minorVersion := 0
  majorVersion := 65
  constantPool := pool
  accessFlags := fl
  thisClass := this
  superClass := sup
  interfaces := ifs
  fields := fds
  methods := ms
  attributes := attrs
def plain (name : String) (sup : Option ClassId) : Class where
  name := name
  kind := .ordinary
  loader := none
  accessFlags := 33
  super := sup
  interfaces := #[]
  cf := none
  fields := #[]
  methods := #[]
  instanceTypes := #[]
  staticTypes := #[]
  resolved := #[]
  callSites := []
  init := .initialized
  statics := none
  mirror := none

def pool0 : Array CpInfo := pool [(5, u "<init>"), (0, u "()V"), (1, .class_ 10), (1, u "java/lang/Object")] 113

def k0m0 : Method := { name := "<init>", desc := "()V", sig := { parameters := [], returnType := none }, accessFlags := 1, code := none }
/-- java/lang/Object -/
def k0 : Class := { plain "java/lang/Object" none with
  accessFlags := 33
  interfaces := #[]
  cf := some (fileOf pool0 8 #[] #[{ accessFlags := 1, nameIndex := 5, descriptorIndex := 6, attributes := #[] }] 33 0 #[] #[])
  fields := #[]
  methods := #[k0m0]
  instanceTypes := #[]
  staticTypes := #[]
  resolved := Array.replicate 124 none
  statics := none }

def pool1 : Array CpInfo := pool [(2, .class_ 4), (1, u "java/lang/Object"), (0, u "<init>"), (0, u "()V"), (0, .integer 65535), (0, .methodref 9 10), (0, .class_ 11), (0, .nameAndType 12 13), (0, u site_36.cls), (0, u "isIdentifierStart"), (0, u "(C)Z"), (0, .class_ 15), (0, u x.cls), (2, u "law"), (0, u "(I)Z")] 3

def k1m0 : Method := { name := "<init>", desc := "()V", sig := { parameters := [], returnType := none }, accessFlags := 2, code := none }
def k1c1 : Code := { maxStack := 2, maxLocals := 4, code := code, exceptionTable := #[], attributes := #[] }
def k1m1 : Method := { name := "law", desc := "(I)Z", sig := { parameters := [.int], returnType := some .boolean }, accessFlags := 9, code := some k1c1 }
def k1 : Class := { plain x.cls (some 0) with
  accessFlags := 49
  interfaces := #[]
  cf := some (fileOf pool1 14 #[] #[{ accessFlags := 2, nameIndex := 5, descriptorIndex := 6, attributes := #[] }, { accessFlags := 9, nameIndex := 18, descriptorIndex := 19, attributes := #[] }] 49 2 #[] #[])
  fields := #[]
  methods := #[k1m0, k1m1]
  instanceTypes := #[]
  staticTypes := #[]
  resolved := Array.replicate 23 none
  statics := none }

def pool2 : Array CpInfo := pool [(2, .class_ 4), (1, u "java/lang/Object"), (0, u "<init>"), (0, u "()V"), (1, .class_ 10), (1, u site_36.cls), (0, u "isIdentifierStart"), (0, u "(C)Z")] 65

def k2m0 : Method := { name := "<init>", desc := "()V", sig := { parameters := [], returnType := none }, accessFlags := 2, code := none }
def k2c1 : Code := { maxStack := 2, maxLocals := 1, code := prog_36_method_4_code, exceptionTable := #[], attributes := #[] }
def k2m1 : Method := { name := "isIdentifierStart", desc := "(C)Z", sig := { parameters := [.char], returnType := some .boolean }, accessFlags := 8, code := some k2c1 }
def k2 : Class := { plain site_36.cls (some 0) with
  accessFlags := 32
  interfaces := #[]
  cf := some (fileOf pool2 8 #[] #[{ accessFlags := 2, nameIndex := 5, descriptorIndex := 6, attributes := #[] }, { accessFlags := 8, nameIndex := 11, descriptorIndex := 12, attributes := #[] }] 32 2 #[] #[])
  fields := #[]
  methods := #[k2m0, k2m1]
  instanceTypes := #[]
  staticTypes := #[]
  resolved := Array.replicate 78 none
  statics := none }

def pool3 : Array CpInfo := pool [(1, u "java/lang/Cloneable"), (0, .class_ 1), (0, u "java/lang/Object"), (0, .class_ 3)] 3

/-- java/lang/Cloneable -/
def k3 : Class := { plain "java/lang/Cloneable" (some 0) with
  accessFlags := 1537
  interfaces := #[]
  cf := some (fileOf pool3 2 #[] #[] 1537 4 #[] #[])
  fields := #[]
  methods := #[]
  instanceTypes := #[]
  staticTypes := #[]
  resolved := Array.replicate 8 none
  statics := none }

def pool4 : Array CpInfo := pool [(1, u "java/io/Serializable"), (0, .class_ 1), (0, u "java/lang/Object"), (0, .class_ 3)] 3

/-- java/io/Serializable -/
def k4 : Class := { plain "java/io/Serializable" (some 0) with
  accessFlags := 1537
  interfaces := #[]
  cf := some (fileOf pool4 2 #[] #[] 1537 4 #[] #[])
  fields := #[]
  methods := #[]
  instanceTypes := #[]
  staticTypes := #[]
  resolved := Array.replicate 8 none
  statics := none }

/-- the primitive byte -/
def k5 : Class := { plain "byte" none with kind := .primitive 'B', accessFlags := 0x411 }
/-- [B -/
def k6 : Class := { plain "[B" (some 0) with kind := .array 5 .byte, interfaces := #[3, 4], accessFlags := 1041 }

/-- the primitive int -/
def k7 : Class := { plain "int" none with kind := .primitive 'I', accessFlags := 0x411 }
/-- [I -/
def k8 : Class := { plain "[I" (some 0) with kind := .array 7 .int, interfaces := #[3, 4], accessFlags := 1041 }

def heap : Heap := #[]
def classes : Array Class := #[k0, k1, k2, k3, k4, k5, k6, k7, k8]
def interned : List (Array UInt16 × Addr) := []
def slotsUsed : Nat := 0
def theMethod : MethodId := ⟨1, 1⟩
def args0 : Array Value := #[.int 5]
def aboutOver (below : List Frame) : State where
  vm := { classes := classes, interned := interned.toArray }
  heap := heap
  slotsUsed := slotsUsed
  threads := #[{ frames := .invoking theMethod args0 :: below }]
def below0 : List Frame := [.native { method := ⟨0, 0⟩, args := #[] }]
def about1 : State := aboutOver below0
def p0 : Program := .bare "" "" ""
def e0 : Env := launch0.env 0 0 0
theorem w_frames : about1.frames = Frame.invoking theMethod args0 :: below0 := rfl
set_option maxRecDepth 65536 in
theorem w_args : argsFit about1.vm theMethod args0 = true := by decide +kernel
set_option maxRecDepth 65536 in
theorem w_heap : heapFits about1 = true := by decide +kernel
set_option maxRecDepth 65536 in
theorem w_runnable : about1.curStatus? = some .runnable := by decide +kernel
set_option maxRecDepth 65536 in
theorem w_alone : about1.alone = true := by decide +kernel
set_option maxRecDepth 65536 in
theorem w_named : about1.methodNamed? x = some theMethod := by decide +kernel
set_option maxRecDepth 65536 in
theorem w_hears : about1.hears theMethod below0 = true := by decide +kernel
set_option maxRecDepth 65536 in
theorem w_ripe : about1.ripe theMethod args0 below0 = true := by decide +kernel
theorem w_running : about1.status = .running := rfl
set_option maxRecDepth 65536 in
theorem w_room : about1.hasRoom e0.platform room_1 = true :=
  launch0.hasRoom_least _ room_1 (by decide +kernel) (by decide +kernel) (by decide +kernel) (by decide +kernel) (by decide +kernel) (by decide +kernel)
theorem allAtoms_all (ts : List Jvm.Cond) (a : Array Jvm.Value) (st : Jvm.State) : (allAtoms ts).before a st = ts.all (fun c => c.before a st) := by
  induction ts with
  | nil => rfl
  | cons c t ih =>
    show (Jvm.Cond.and c (allAtoms t)).before a st = _
    rw [Jvm.Cond.before_and, ih, List.all_cons]
def words1 : List Jvm.Cond := Jvm.Cond.code x code maxLocals ret :: tables_1
/-- a 'code' word, met by the world's own term for the bytes: nothing is compared byte by byte -/
theorem code_word {y : MethodName} {bytes : ByteArray} {mx : Nat} {rt : Option FieldType} {a : Array Value} {s : State} {m : MethodId} {meth : Method} {c : Code} (h1 : s.methodNamed? y = some m) (h2 : s.vm.method? m = some meth) (h3 : meth.code = some c) (h4 : c.code = bytes)
    (h5 : (c.maxLocals == mx && c.exceptionTable.isEmpty && decide (c.maxStack ≤ mostOperands) && decide (meth.sig.returnType = rt) && !meth.locks && decide (parseMethodDescriptor y.desc = some meth.sig)) = true) : (Jvm.Cond.code y bytes mx rt).before a s = true := by
  simp only [Bool.and_eq_true, beq_iff_eq, Bool.not_eq_true', decide_eq_true_eq] at h5
  obtain ⟨⟨⟨⟨⟨g1, g2⟩, g3⟩, g4⟩, g5⟩, g6⟩ := h5
  simp [Cond.before, Cond.holds, Cond.value, h1, h2, h3, h4, g1, g2, g3, g4, g5, g6]
def isCode : Jvm.Cond → Bool
  | .code _ _ _ _ => true
  | _ => false
theorem all_split {L : List Jvm.Cond} {P : Jvm.Cond → Bool} (h1 : L.all (fun c => isCode c || P c) = true) (h2 : ∀ c ∈ L.filter isCode, P c = true) : L.all P = true := by
  refine List.all_eq_true.mpr fun c hc => ?_
  have h := List.all_eq_true.mp h1 c hc
  rcases Bool.eq_false_or_eq_true (isCode c) with hi | hi
  · exact h2 c (List.mem_filter.mpr ⟨hc, hi⟩)
  · simpa [hi] using h
set_option maxRecDepth 65536 in
theorem w_c0 : (Jvm.Cond.code x code maxLocals ret).before args0 about1 = true := code_word (m := ⟨1, 1⟩) (meth := k1m1) (c := k1c1) (by decide +kernel) rfl rfl rfl (by decide +kernel)
set_option maxRecDepth 65536 in
theorem w_c1 : (Jvm.Cond.code ({ cls := site_36.cls, name := "isIdentifierStart", desc := "(C)Z" } : Jvm.MethodName) prog_36_method_4_code (1 : Nat) (Option.some Jvm.ClassFile.FieldType.boolean)).before args0 about1 = true := code_word (m := ⟨2, 1⟩) (meth := k2m1) (c := k2c1) (by decide +kernel) rfl rfl rfl (by decide +kernel)
def codes1 : List Jvm.Cond := [Jvm.Cond.code x code maxLocals ret, Jvm.Cond.code ({ cls := site_36.cls, name := "isIdentifierStart", desc := "(C)Z" } : Jvm.MethodName) prog_36_method_4_code (1 : Nat) (Option.some Jvm.ClassFile.FieldType.boolean)]
set_option maxRecDepth 65536 in
theorem codes_eq : words1.filter isCode = codes1 := rfl
theorem w_codes : ∀ c ∈ words1.filter isCode, c.before args0 about1 = true := by
  rw [codes_eq]
  intro c hc
  simp only [codes1, List.mem_cons, List.not_mem_nil, or_false] at hc
  rcases hc with rfl | rfl
  · exact w_c0
  · exact w_c1
set_option maxRecDepth 65536 in
theorem w_t1 : words1.all (fun c => isCode c || c.before args0 about1) = true := by decide +kernel
theorem w_tables : (allAtoms (Jvm.Cond.code x code maxLocals ret :: tables_1)).before args0 about1 = true := by
  rw [allAtoms_all]
  show words1.all (fun c => c.before args0 about1) = true
  refine all_split ?_ w_codes
  rw [w_t1]
set_option maxRecDepth 65536 in
theorem w_case : (Jvm.Cond.and given_1 narrow_1).before args0 about1 = true := by decide +kernel
theorem w_applies : (headSpec (Jvm.Cond.code x code maxLocals ret :: tables_1) room_1).applies x e0.platform about1 = true :=
  (Spec.applies_iff w_frames).mpr ⟨w_running, w_runnable, w_alone, w_named, w_hears, w_ripe, w_room, w_tables⟩
theorem atStart : AtStart classFile x code maxLocals ret World_1 tables_1 room_1 Calls_1 rest_1 Pre_1 launch0 p0 e0 about1 theMethod args0 below0 :=
  ⟨lists_1, trivial, launch0.admits_env _ _ _, launch0.least_env, fairChoices_fair.cas, fairChoices_fair.clock, w_frames, w_args, w_heap, w_applies, trivial, trivial, w_case⟩
end start1
theorem witness_1 : WitnessClaimed_1 := ⟨start1.p0, start1.e0, start1.about1, start1.theMethod, start1.args0, start1.below0, start1.atStart⟩
end Jvm.Pilot.@@N@@
