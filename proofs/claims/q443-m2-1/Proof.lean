import JvmDerived
import JvmDerived.Pilot.@@N@@Statement
import JvmDerived.Pilot.@@N@@Code
set_option linter.unusedVariables false
set_option linter.unusedSimpArgs false
namespace Jvm.RoadKit
open Sem ClassFile Op Lib Jvm.Stand Jvm.Free Jvm.LawKit
section New
variable {p : Program} {l : Launch} {e : Env} {R : Room} {s : State} {m : MethodId} {args : Array Value} {below : List Frame} {meth : Method} {c : Code} {T : State} {locs : List Loc} {cells slots : Nat}
theorem retI (X : Stand p l e R s m args below meth c T locs cells slots) (hx : p.tables.exec = Jvm.exec) {pc : Nat} {Ls : Array Slot} {z : Int32} {rest : List Value} (hret : meth.sig.returnType = some .int) (hd : decode c.code pc = .ok (.ireturn, 1)) {fs : List Frame}
    (hl : ∀ (f : JFrame) (acts : List Action), f.method = m → f.locked = none → f.entered = [] → (doReturn e (T.setTop f) acts (some (.int z))).1 = T.setFrames fs) : Steps p.tables e below (T.setTop (mkF m pc Ls (.int z :: rest))) (T.setFrames fs) := by
  have hm' : T.vm.method? m = some meth := X.method'
  have hn : narrow .int (.int z) = .int z := rfl
  show Steps p.tables e below (T.setTop { method := m, pc := pc, locals := Ls, stack := _ :: rest, locked := none }) _
  jvm_step X.here [X.here.top, hx, hd, hm', hret, hn]
  first | (intro acts; rw [hl _ acts rfl rfl rfl]) | rw [hl _ _ rfl rfl rfl]
  exact Steps.refl _
theorem retL (X : Stand p l e R s m args below meth c T locs cells slots) (hx : p.tables.exec = Jvm.exec) {pc : Nat} {Ls : Array Slot} {z : Int64} {rest : List Value} (hret : meth.sig.returnType = some .long) (hd : decode c.code pc = .ok (.lreturn, 1)) {fs : List Frame}
    (hl : ∀ (f : JFrame) (acts : List Action), f.method = m → f.locked = none → f.entered = [] → (doReturn e (T.setTop f) acts (some (.long z))).1 = T.setFrames fs) : Steps p.tables e below (T.setTop (mkF m pc Ls (.long z :: rest))) (T.setFrames fs) := by
  have hm' : T.vm.method? m = some meth := X.method'
  have hn : narrow .long (.long z) = .long z := rfl
  show Steps p.tables e below (T.setTop { method := m, pc := pc, locals := Ls, stack := _ :: rest, locked := none }) _
  jvm_step X.here [X.here.top, hx, hd, hm', hret, hn]
  first | (intro acts; rw [hl _ acts rfl rfl rfl]) | rw [hl _ _ rfl rfl rfl]
  exact Steps.refl _
end New
end Jvm.RoadKit
namespace Jvm.Pilot.@@N@@
open Jvm Jvm.ClassFile Sem Op Lib Jvm.Free Jvm.Stand Jvm.LawKit Jvm.RoadKit Bundle Jvm.Pilot.@@N@@.Jvm.D
theorem pnm0 : plainName x.cls = true := by first | (simp [plainName, overriddenIn]; done) | decide +kernel
theorem pnm1 : plainName site_162.cls = true := by first | (simp [plainName, overriddenIn]; done) | decide +kernel
theorem d1_0 : decode prog_36_method_2_code 0 = .ok (.iload_n 0, 1) := by decide +kernel
theorem d1_1 : decode prog_36_method_2_code 1 = .ok (.bipush 32, 2) := by decide +kernel
theorem d1_3 : decode prog_36_method_2_code 3 = .ok (.if_icmp .eq 21, 3) := by decide +kernel
theorem d1_24 : decode prog_36_method_2_code 24 = .ok (.iconst 1, 1) := by decide +kernel
theorem d1_25 : decode prog_36_method_2_code 25 = .ok (.goto 4, 3) := by decide +kernel
theorem d1_29 : decode prog_36_method_2_code 29 = .ok (.ireturn, 1) := by decide +kernel
theorem d1_6 : decode prog_36_method_2_code 6 = .ok (.iload_n 0, 1) := by decide +kernel
theorem d1_7 : decode prog_36_method_2_code 7 = .ok (.bipush 9, 2) := by decide +kernel
theorem d1_9 : decode prog_36_method_2_code 9 = .ok (.if_icmp .eq 15, 3) := by decide +kernel
theorem d1_12 : decode prog_36_method_2_code 12 = .ok (.iload_n 0, 1) := by decide +kernel
theorem d1_13 : decode prog_36_method_2_code 13 = .ok (.bipush 10, 2) := by decide +kernel
theorem d1_15 : decode prog_36_method_2_code 15 = .ok (.if_icmp .eq 9, 3) := by decide +kernel
theorem d1_18 : decode prog_36_method_2_code 18 = .ok (.iload_n 0, 1) := by decide +kernel
theorem d1_19 : decode prog_36_method_2_code 19 = .ok (.bipush 13, 2) := by decide +kernel
theorem d1_21 : decode prog_36_method_2_code 21 = .ok (.if_icmp .ne 7, 3) := by decide +kernel
theorem d1_28 : decode prog_36_method_2_code 28 = .ok (.iconst 0, 1) := by decide +kernel
theorem ef1 (m : MethodId) (x0 : Int32) : entryFrame m #[(.int x0)] 1 = mkF m 0 #[.val (.int x0)] [] := by first | (simp [entryFrame, mkF, argsToLocals, Value.category]; done) | rfl
def f1 (p0 : Int32) : Int32 :=
  if p0 = (32 : Int32) then
    (1 : Int32)
  else
    if p0 = (9 : Int32) then
      (1 : Int32)
    else
      if p0 = (10 : Int32) then
        (1 : Int32)
      else
        if p0 = (13 : Int32) then
          (1 : Int32)
        else
          (0 : Int32)
def Q1 (Z : State) (p0 : Int32) (h0 : Heap) (n0 : Nat) (v : Option Value) (h : Heap) (L : List Loc) : Prop := v = some (.int (f1 p0)) ∧ Fr n0 L ∧ h = h0
set_option maxRecDepth 65536 in
set_option maxHeartbeats 40000000 in
theorem rm1 (l : Launch) (Z : State) (av : Array Value) (hw : ∀ d ∈ tables_1, d.before av Z = true) (ws : List Jvm.Cond) (p0 : Int32) (h0 : Heap) (n0 : Nat) (Z0 : n0 ≤ h0.size) :
    MetFree l (⟨site_162.cls, "isBlank", "(C)Z"⟩ : MethodName) (head1 (Jvm.Cond.code (⟨site_162.cls, "isBlank", "(C)Z"⟩ : MethodName) prog_36_method_2_code 1 (some .boolean) :: ws) ({ frames := 0, cells := 0, slots := 0, locals := 0 } : Room)) (fun a U => a = #[(.int p0)] ∧ Z.Warmed39 U.vm ∧ U.heap = h0) (fun _ _ _ _ _ => True) (fun _ U o U' => ∃ v L, o = .returned v ∧ Q1 Z p0 h0 n0 v U'.heap L ∧ FrameEnd U o U' L ({ frames := 0, cells := 0, slots := 0, locals := 0 } : Room).cells ({ frames := 0, cells := 0, slots := 0, locals := 0 } : Room).slots) := by
  refine MetFree.of_bodySF (plainFor_of_name pnm1) hisR ?_
  intro p e s m args below meth c s₁ Bd hml0 hP hK
  obtain ⟨rfl, hZ, hh⟩ := hP
  have hx := Bd.exec
  have hby := Bd.bytes
  have hml : c.maxLocals = 1 := hml0
  have hown : s.vm.findClass site_162.cls = some m.cls := by have h := findClass_of_methodNamed Bd.named; exact h
  have hnm := (name_of_methodNamed Bd.named Bd.method).1
  have X0 : Stand p l e ({ frames := 0, cells := 0, slots := 0, locals := 0 } : Room) s m #[(.int p0)] below meth c s₁ [] 0 0 := Stand.of_body Bd
  have e0 : s₁.heap = h0 := by rw [← hh, Bd.state]; rfl
  have N0 := Fr.nil n0
  have K0 : Keep h0 h0 [] := Keep.refl h0 []
  have pre0 : ∀ t, Steps p.tables e below (s₁.setTop (mkF m 0 #[.val (.int p0)] [])) t → Steps p.tables e below (s₁.setTop (entryFrame m #[(.int p0)] 1)) t := fun t k => castTop (ef1 m p0) k
  have pre1 : ∀ t, Steps p.tables e below (s₁.setTop (mkF m 3 #[.val (.int p0)] [(.int (32 : Int32)), (.int p0)])) t → Steps p.tables e below (s₁.setTop (entryFrame m #[(.int p0)] 1)) t := fun t kt => pre0 t (by
    show Steps p.tables e below (s₁.setTop (mkF m 0 #[.val (.int p0)] [])) _
    refine XS.iloadN X0.here hx rfl (hb hby d1_0) rfl ?_
    show Steps p.tables e below (s₁.setTop (mkF m 1 #[.val (.int p0)] [(.int p0)])) _
    refine XS.bipush X0.here hx rfl (hb hby d1_1) ?_
    exact kt)
  clear pre0
  by_cases hc3_2 : p0 = (32 : Int32)
  · have pre3 : ∀ t, Steps p.tables e below (s₁.setTop (mkF m 29 #[.val (.int p0)] [(.int (1 : Int32))])) t → Steps p.tables e below (s₁.setTop (entryFrame m #[(.int p0)] 1)) t := fun t kt => pre1 t (by
      show Steps p.tables e below (s₁.setTop (mkF m 3 #[.val (.int p0)] [(.int (32 : Int32)), (.int p0)])) _
      refine XS.icmpYes X0.here hx rfl (pc0 := 3) (pc' := 24) rfl (hb hby d1_3) rfl (teq hc3_2).1 (by decide) (by decide) ?_
      show Steps p.tables e below (s₁.setTop (mkF m 24 #[.val (.int p0)] [])) _
      refine XS.iconst X0.here hx rfl (hb hby d1_24) ?_
      show Steps p.tables e below (s₁.setTop (mkF m 25 #[.val (.int p0)] [(.int (1 : Int32))])) _
      refine XS.goto X0.here hx rfl (pc0 := 25) (pc' := 29) rfl (hb hby d1_25) (by decide) (by decide) ?_
      exact kt)
    clear pre1
    have hv : f1 p0 = (1 : Int32) := by
      unfold f1
      rw [if_pos hc3_2]
    obtain ⟨fs, hr, hrun, hended, hW, hsame⟩ := X0.leave (v := some (.int (f1 p0))) (fun h => by rw [Bd.returns] at h; cases h)
    refine ⟨_, _, pre3 _ ?_, hrun, hended, _, _, rfl, ?_, ⟨_, rfl⟩, hW, hsame.mono (by decide) (by decide)⟩
    · rw [hv] at hr
      show Steps p.tables e below (s₁.setTop (mkF m 29 #[.val (.int p0)] [(.int (1 : Int32))])) _
      exact retN X0 hx (t := .boolean) Bd.returns (by simp) (hb hby d1_29) hr
    · show Q1 Z p0 h0 n0 _ s₁.heap _
      rw [e0]
      exact ⟨rfl, N0, rfl⟩
  · have pre4 : ∀ t, Steps p.tables e below (s₁.setTop (mkF m 9 #[.val (.int p0)] [(.int (9 : Int32)), (.int p0)])) t → Steps p.tables e below (s₁.setTop (entryFrame m #[(.int p0)] 1)) t := fun t kt => pre1 t (by
      show Steps p.tables e below (s₁.setTop (mkF m 3 #[.val (.int p0)] [(.int (32 : Int32)), (.int p0)])) _
      refine XS.icmpNo X0.here hx rfl (hb hby d1_3) rfl (feq hc3_2).1 ?_
      show Steps p.tables e below (s₁.setTop (mkF m 6 #[.val (.int p0)] [])) _
      refine XS.iloadN X0.here hx rfl (hb hby d1_6) rfl ?_
      show Steps p.tables e below (s₁.setTop (mkF m 7 #[.val (.int p0)] [(.int p0)])) _
      refine XS.bipush X0.here hx rfl (hb hby d1_7) ?_
      exact kt)
    clear pre1
    by_cases hc9_5 : p0 = (9 : Int32)
    · have pre6 : ∀ t, Steps p.tables e below (s₁.setTop (mkF m 29 #[.val (.int p0)] [(.int (1 : Int32))])) t → Steps p.tables e below (s₁.setTop (entryFrame m #[(.int p0)] 1)) t := fun t kt => pre4 t (by
        show Steps p.tables e below (s₁.setTop (mkF m 9 #[.val (.int p0)] [(.int (9 : Int32)), (.int p0)])) _
        refine XS.icmpYes X0.here hx rfl (pc0 := 9) (pc' := 24) rfl (hb hby d1_9) rfl (teq hc9_5).1 (by decide) (by decide) ?_
        show Steps p.tables e below (s₁.setTop (mkF m 24 #[.val (.int p0)] [])) _
        refine XS.iconst X0.here hx rfl (hb hby d1_24) ?_
        show Steps p.tables e below (s₁.setTop (mkF m 25 #[.val (.int p0)] [(.int (1 : Int32))])) _
        refine XS.goto X0.here hx rfl (pc0 := 25) (pc' := 29) rfl (hb hby d1_25) (by decide) (by decide) ?_
        exact kt)
      clear pre4
      have hv : f1 p0 = (1 : Int32) := by
        unfold f1
        rw [if_neg hc3_2, if_pos hc9_5]
      obtain ⟨fs, hr, hrun, hended, hW, hsame⟩ := X0.leave (v := some (.int (f1 p0))) (fun h => by rw [Bd.returns] at h; cases h)
      refine ⟨_, _, pre6 _ ?_, hrun, hended, _, _, rfl, ?_, ⟨_, rfl⟩, hW, hsame.mono (by decide) (by decide)⟩
      · rw [hv] at hr
        show Steps p.tables e below (s₁.setTop (mkF m 29 #[.val (.int p0)] [(.int (1 : Int32))])) _
        exact retN X0 hx (t := .boolean) Bd.returns (by simp) (hb hby d1_29) hr
      · show Q1 Z p0 h0 n0 _ s₁.heap _
        rw [e0]
        exact ⟨rfl, N0, rfl⟩
    · have pre7 : ∀ t, Steps p.tables e below (s₁.setTop (mkF m 15 #[.val (.int p0)] [(.int (10 : Int32)), (.int p0)])) t → Steps p.tables e below (s₁.setTop (entryFrame m #[(.int p0)] 1)) t := fun t kt => pre4 t (by
        show Steps p.tables e below (s₁.setTop (mkF m 9 #[.val (.int p0)] [(.int (9 : Int32)), (.int p0)])) _
        refine XS.icmpNo X0.here hx rfl (hb hby d1_9) rfl (feq hc9_5).1 ?_
        show Steps p.tables e below (s₁.setTop (mkF m 12 #[.val (.int p0)] [])) _
        refine XS.iloadN X0.here hx rfl (hb hby d1_12) rfl ?_
        show Steps p.tables e below (s₁.setTop (mkF m 13 #[.val (.int p0)] [(.int p0)])) _
        refine XS.bipush X0.here hx rfl (hb hby d1_13) ?_
        exact kt)
      clear pre4
      by_cases hc15_8 : p0 = (10 : Int32)
      · have pre9 : ∀ t, Steps p.tables e below (s₁.setTop (mkF m 29 #[.val (.int p0)] [(.int (1 : Int32))])) t → Steps p.tables e below (s₁.setTop (entryFrame m #[(.int p0)] 1)) t := fun t kt => pre7 t (by
          show Steps p.tables e below (s₁.setTop (mkF m 15 #[.val (.int p0)] [(.int (10 : Int32)), (.int p0)])) _
          refine XS.icmpYes X0.here hx rfl (pc0 := 15) (pc' := 24) rfl (hb hby d1_15) rfl (teq hc15_8).1 (by decide) (by decide) ?_
          show Steps p.tables e below (s₁.setTop (mkF m 24 #[.val (.int p0)] [])) _
          refine XS.iconst X0.here hx rfl (hb hby d1_24) ?_
          show Steps p.tables e below (s₁.setTop (mkF m 25 #[.val (.int p0)] [(.int (1 : Int32))])) _
          refine XS.goto X0.here hx rfl (pc0 := 25) (pc' := 29) rfl (hb hby d1_25) (by decide) (by decide) ?_
          exact kt)
        clear pre7
        have hv : f1 p0 = (1 : Int32) := by
          unfold f1
          rw [if_neg hc3_2, if_neg hc9_5, if_pos hc15_8]
        obtain ⟨fs, hr, hrun, hended, hW, hsame⟩ := X0.leave (v := some (.int (f1 p0))) (fun h => by rw [Bd.returns] at h; cases h)
        refine ⟨_, _, pre9 _ ?_, hrun, hended, _, _, rfl, ?_, ⟨_, rfl⟩, hW, hsame.mono (by decide) (by decide)⟩
        · rw [hv] at hr
          show Steps p.tables e below (s₁.setTop (mkF m 29 #[.val (.int p0)] [(.int (1 : Int32))])) _
          exact retN X0 hx (t := .boolean) Bd.returns (by simp) (hb hby d1_29) hr
        · show Q1 Z p0 h0 n0 _ s₁.heap _
          rw [e0]
          exact ⟨rfl, N0, rfl⟩
      · have pre10 : ∀ t, Steps p.tables e below (s₁.setTop (mkF m 21 #[.val (.int p0)] [(.int (13 : Int32)), (.int p0)])) t → Steps p.tables e below (s₁.setTop (entryFrame m #[(.int p0)] 1)) t := fun t kt => pre7 t (by
          show Steps p.tables e below (s₁.setTop (mkF m 15 #[.val (.int p0)] [(.int (10 : Int32)), (.int p0)])) _
          refine XS.icmpNo X0.here hx rfl (hb hby d1_15) rfl (feq hc15_8).1 ?_
          show Steps p.tables e below (s₁.setTop (mkF m 18 #[.val (.int p0)] [])) _
          refine XS.iloadN X0.here hx rfl (hb hby d1_18) rfl ?_
          show Steps p.tables e below (s₁.setTop (mkF m 19 #[.val (.int p0)] [(.int p0)])) _
          refine XS.bipush X0.here hx rfl (hb hby d1_19) ?_
          exact kt)
        clear pre7
        by_cases hc21_11 : p0 = (13 : Int32)
        · have pre12 : ∀ t, Steps p.tables e below (s₁.setTop (mkF m 29 #[.val (.int p0)] [(.int (1 : Int32))])) t → Steps p.tables e below (s₁.setTop (entryFrame m #[(.int p0)] 1)) t := fun t kt => pre10 t (by
            show Steps p.tables e below (s₁.setTop (mkF m 21 #[.val (.int p0)] [(.int (13 : Int32)), (.int p0)])) _
            refine XS.icmpNo X0.here hx rfl (hb hby d1_21) rfl (teq hc21_11).2 ?_
            show Steps p.tables e below (s₁.setTop (mkF m 24 #[.val (.int p0)] [])) _
            refine XS.iconst X0.here hx rfl (hb hby d1_24) ?_
            show Steps p.tables e below (s₁.setTop (mkF m 25 #[.val (.int p0)] [(.int (1 : Int32))])) _
            refine XS.goto X0.here hx rfl (pc0 := 25) (pc' := 29) rfl (hb hby d1_25) (by decide) (by decide) ?_
            exact kt)
          clear pre10
          have hv : f1 p0 = (1 : Int32) := by
            unfold f1
            rw [if_neg hc3_2, if_neg hc9_5, if_neg hc15_8, if_pos hc21_11]
          obtain ⟨fs, hr, hrun, hended, hW, hsame⟩ := X0.leave (v := some (.int (f1 p0))) (fun h => by rw [Bd.returns] at h; cases h)
          refine ⟨_, _, pre12 _ ?_, hrun, hended, _, _, rfl, ?_, ⟨_, rfl⟩, hW, hsame.mono (by decide) (by decide)⟩
          · rw [hv] at hr
            show Steps p.tables e below (s₁.setTop (mkF m 29 #[.val (.int p0)] [(.int (1 : Int32))])) _
            exact retN X0 hx (t := .boolean) Bd.returns (by simp) (hb hby d1_29) hr
          · show Q1 Z p0 h0 n0 _ s₁.heap _
            rw [e0]
            exact ⟨rfl, N0, rfl⟩
        · have pre13 : ∀ t, Steps p.tables e below (s₁.setTop (mkF m 29 #[.val (.int p0)] [(.int (0 : Int32))])) t → Steps p.tables e below (s₁.setTop (entryFrame m #[(.int p0)] 1)) t := fun t kt => pre10 t (by
            show Steps p.tables e below (s₁.setTop (mkF m 21 #[.val (.int p0)] [(.int (13 : Int32)), (.int p0)])) _
            refine XS.icmpYes X0.here hx rfl (pc0 := 21) (pc' := 28) rfl (hb hby d1_21) rfl (feq hc21_11).2 (by decide) (by decide) ?_
            show Steps p.tables e below (s₁.setTop (mkF m 28 #[.val (.int p0)] [])) _
            refine XS.iconst X0.here hx rfl (hb hby d1_28) ?_
            exact kt)
          clear pre10
          have hv : f1 p0 = (0 : Int32) := by
            unfold f1
            rw [if_neg hc3_2, if_neg hc9_5, if_neg hc15_8, if_neg hc21_11]
          obtain ⟨fs, hr, hrun, hended, hW, hsame⟩ := X0.leave (v := some (.int (f1 p0))) (fun h => by rw [Bd.returns] at h; cases h)
          refine ⟨_, _, pre13 _ ?_, hrun, hended, _, _, rfl, ?_, ⟨_, rfl⟩, hW, hsame.mono (by decide) (by decide)⟩
          · rw [hv] at hr
            show Steps p.tables e below (s₁.setTop (mkF m 29 #[.val (.int p0)] [(.int (0 : Int32))])) _
            exact retN X0 hx (t := .boolean) Bd.returns (by simp) (hb hby d1_29) hr
          · show Q1 Z p0 h0 n0 _ s₁.heap _
            rw [e0]
            exact ⟨rfl, N0, rfl⟩
theorem own_law (c : Int32) : f1 c = if c.toInt = 32 ∨ c.toInt = 9 ∨ c.toInt = 10 ∨ c.toInt = 13 then (1 : Int32) else (0 : Int32) := by
  unfold f1
  simp only [← Int32.toInt_inj, Int32.reduceToInt]
  repeat' split
  all_goals first | rfl | (exfalso; omega)
theorem own_and15 (x : Int32) : ¬ (x &&& (15 : Int32)) < 0 ∧ (x &&& (15 : Int32)) < (16 : Int32) := by
  have h := c_mask x (15 : Int32) 4 (by decide) (by decide)
  simp only [Int32.lt_iff_toInt_lt, Int32.reduceToInt]
  omega
theorem own_get (k : Nat) (h : k < 16) : ∃ w : Int32, ([(.int (32 : Int32)), (.int (9 : Int32)), (.int (10 : Int32)), (.int (13 : Int32)), (.int (11 : Int32)), (.int (12 : Int32)), (.int (8 : Int32)), (.int (14 : Int32)), (.int (31 : Int32)), (.int (33 : Int32)), (.int (0 : Int32)), (.int (160 : Int32)), (.int (8232 : Int32)), (.int (12288 : Int32)), (.int (65279 : Int32)), (.int (65535 : Int32))] : List Value).getD k (.int (0 : Int32)) = .int w := by
  match k, h with
  | 0, _ => exact ⟨_, rfl⟩
  | 1, _ => exact ⟨_, rfl⟩
  | 2, _ => exact ⟨_, rfl⟩
  | 3, _ => exact ⟨_, rfl⟩
  | 4, _ => exact ⟨_, rfl⟩
  | 5, _ => exact ⟨_, rfl⟩
  | 6, _ => exact ⟨_, rfl⟩
  | 7, _ => exact ⟨_, rfl⟩
  | 8, _ => exact ⟨_, rfl⟩
  | 9, _ => exact ⟨_, rfl⟩
  | 10, _ => exact ⟨_, rfl⟩
  | 11, _ => exact ⟨_, rfl⟩
  | 12, _ => exact ⟨_, rfl⟩
  | 13, _ => exact ⟨_, rfl⟩
  | 14, _ => exact ⟨_, rfl⟩
  | 15, _ => exact ⟨_, rfl⟩
  | k + 16, h => exact absurd h (by omega)
theorem pd__C_Z : parseMethodDescriptor "(C)Z" = some ⟨[.char], some .boolean⟩ := by decide +kernel
theorem ef0 (m : MethodId) (x0 : Int32) (x1 : Int32) : entryFrame m #[(.int x0), (.int x1)] maxLocals = mkF m 0 #[.val (.int x0), .val (.int x1), .unset, .unset, .unset, .unset] [] := by first | (simp [entryFrame, mkF, argsToLocals, Value.category, maxLocals]; done) | rfl
def Q0 (Z : State) (p0 : Int32) (p1 : Int32) (h0 : Heap) (n0 : Nat) (v : Option Value) (h : Heap) (L : List Loc) : Prop := v = some (.int 1) ∧ Fr n0 L
set_option maxRecDepth 65536 in
set_option maxHeartbeats 40000000 in
theorem rm0 (l : Launch) (Z : State) (av : Array Value) (hw : ∀ d ∈ tables_1, d.before av Z = true) (ws : List Jvm.Cond) (p0 : Int32) (p1 : Int32) (h0 : Heap) (n0 : Nat) (Z0 : n0 ≤ h0.size) :
    MetFree l x (head1 (Jvm.Cond.code x code maxLocals ret :: ws) room_1) (fun a U => a = #[(.int p0), (.int p1)] ∧ Z.Warmed39 U.vm ∧ U.heap = h0) (fun _ _ _ _ _ => True) (fun _ U o U' => ∃ v L, o = .returned v ∧ Q0 Z p0 p1 h0 n0 v U'.heap L ∧ FrameEnd U o U' L room_1.cells room_1.slots) := by
  refine MetFree.of_bodySF (plainFor_of_name pnm0) hisR ?_
  intro p e s m args below meth c s₁ Bd hml0 hP hK
  obtain ⟨rfl, hZ, hh⟩ := hP
  have hx := Bd.exec
  have hby := Bd.bytes
  have hml : c.maxLocals = 6 := hml0
  have hown : s.vm.findClass x.cls = some m.cls := by have h := findClass_of_methodNamed Bd.named; exact h
  have hnm := (name_of_methodNamed Bd.named Bd.method).1
  have X0 : Stand p l e room_1 s m #[(.int p0), (.int p1)] below meth c s₁ [] 0 0 := Stand.of_body Bd
  have e0 : s₁.heap = h0 := by rw [← hh, Bd.state]; rfl
  have N0 := Fr.nil n0
  have K0 : Keep h0 h0 [] := Keep.refl h0 []
  have pre0 : ∀ t, Steps p.tables e below (s₁.setTop (mkF m 0 #[.val (.int p0), .val (.int p1), .unset, .unset, .unset, .unset] [])) t → Steps p.tables e below (s₁.setTop (entryFrame m #[(.int p0), (.int p1)] maxLocals)) t := fun t k => castTop (ef0 m p0 p1) k
  have pre1 : ∀ t, Steps p.tables e below (s₁.setTop (mkF m 2 #[.val (.int p0), .val (.int p1), .unset, .unset, .unset, .unset] [(.int (16 : Int32))])) t → Steps p.tables e below (s₁.setTop (entryFrame m #[(.int p0), (.int p1)] maxLocals)) t := fun t kt => pre0 t (by
    show Steps p.tables e below (s₁.setTop (mkF m 0 #[.val (.int p0), .val (.int p1), .unset, .unset, .unset, .unset] [])) _
    refine XS.bipush X0.here hx rfl (hb hby at_0) ?_
    exact kt)
  clear pre0
  obtain ⟨T2, h2, k2, X2, e2, E2, A2, st2⟩ := newP X0 hx hZ (hw _ (List.mem_of_getElem? (i := 0) rfl)) e0 (g := (mkF m 2 #[.val (.int p0), .val (.int p1), .unset, .unset, .unset, .unset] [(.int (16 : Int32))])) rfl (hb hby at_2) rfl (by decide) (cap := 16) (by decide) (by decide) (by decide) (by decide)
  obtain ⟨b2, g2⟩ : ∃ z, z = h0.size := ⟨_, rfl⟩
  rw [← g2] at A2 st2
  have pre3 : ∀ t, Steps p.tables e below (T2.setTop (mkF m 4 #[.val (.int p0), .val (.int p1), .unset, .unset, .unset, .unset] [(.ref b2)])) t → Steps p.tables e below (s₁.setTop (entryFrame m #[(.int p0), (.int p1)] maxLocals)) t := fun t kt => pre1 t (st2 _ kt)
  clear pre1 st2
  have gn2 : n0 ≤ b2 := Nat.le_trans Z0 (Nat.le_of_eq g2.symm)
  have sz2 : h0.size ≤ b2 := Nat.le_trans K0.1 (Nat.le_of_eq g2.symm)
  have K2 : Keep h0 h2 [] := K0.ext E2
  have Z2 : n0 ≤ h2.size := Nat.le_trans Z0 E2.1
  have V2 : Arv Z h2 b2 k2 .char (16 : Int32) [(.int (0 : Int32)), (.int (0 : Int32)), (.int (0 : Int32)), (.int (0 : Int32)), (.int (0 : Int32)), (.int (0 : Int32)), (.int (0 : Int32)), (.int (0 : Int32)), (.int (0 : Int32)), (.int (0 : Int32)), (.int (0 : Int32)), (.int (0 : Int32)), (.int (0 : Int32)), (.int (0 : Int32)), (.int (0 : Int32)), (.int (0 : Int32))] (.int (0 : Int32)) := (Arv.new A2 (by decide)).pad (pad_rep [] (.int (0 : Int32)) 16)
  have pre4 : ∀ t, Steps p.tables e below (T2.setTop (mkF m 8 #[.val (.int p0), .val (.int p1), .unset, .unset, .unset, .unset] [(.int (32 : Int32)), (.int (0 : Int32)), (.ref b2), (.ref b2)])) t → Steps p.tables e below (s₁.setTop (entryFrame m #[(.int p0), (.int p1)] maxLocals)) t := fun t kt => pre3 t (by
    show Steps p.tables e below (T2.setTop (mkF m 4 #[.val (.int p0), .val (.int p1), .unset, .unset, .unset, .unset] [(.ref b2)])) _
    refine XS.dup X2.here hx rfl (hb hby at_4) rfl rfl ?_
    show Steps p.tables e below (T2.setTop (mkF m 5 #[.val (.int p0), .val (.int p1), .unset, .unset, .unset, .unset] [(.ref b2), (.ref b2)])) _
    refine XS.iconst X2.here hx rfl (hb hby at_5) ?_
    show Steps p.tables e below (T2.setTop (mkF m 6 #[.val (.int p0), .val (.int p1), .unset, .unset, .unset, .unset] [(.int (0 : Int32)), (.ref b2), (.ref b2)])) _
    refine XS.bipush X2.here hx rfl (hb hby at_6) ?_
    exact kt)
  clear pre3
  have tv5 := V2
  obtain ⟨cl5, Ar5, q5, S5, Ng5, H5, G5⟩ := tv5
  have hin5 : ¬ ((0 : Int32) < 0 ∨ cl5.slots.size ≤ ((0 : Int32)).toNatClampNeg) := inb_of S5 ⟨by decide, by decide⟩
  obtain ⟨T6, h6, X6, e6, W6, st6⟩ := stC X2 hx hZ e2 Ar5 (j := (0 : Int32)) hin5 (g := (mkF m 8 #[.val (.int p0), .val (.int p1), .unset, .unset, .unset, .unset] [(.int (32 : Int32)), (.int (0 : Int32)), (.ref b2), (.ref b2)])) rfl rfl (hb hby at_8)
  have pre7 : ∀ t, Steps p.tables e below (T6.setTop (mkF m 9 #[.val (.int p0), .val (.int p1), .unset, .unset, .unset, .unset] [(.ref b2)])) t → Steps p.tables e below (s₁.setTop (entryFrame m #[(.int p0), (.int p1)] maxLocals)) t := fun t kt => pre4 t (st6 _ kt)
  clear pre4 st6
  have V6 : Arv Z h6 b2 k2 .char (16 : Int32) [(.int (32 : Int32)), (.int (0 : Int32)), (.int (0 : Int32)), (.int (0 : Int32)), (.int (0 : Int32)), (.int (0 : Int32)), (.int (0 : Int32)), (.int (0 : Int32)), (.int (0 : Int32)), (.int (0 : Int32)), (.int (0 : Int32)), (.int (0 : Int32)), (.int (0 : Int32)), (.int (0 : Int32)), (.int (0 : Int32)), (.int (0 : Int32))] (.int (0 : Int32)) := Arv.set Ar5 q5 S5 Ng5 H5 G5 (fits_nar_char (32 : Int32)) W6 0 rfl (Nat.le_of_ble_eq_true rfl)
  have K6 : Keep h0 h6 [] := K2.wr W6 (Or.inr sz2)
  have N6 := Fr.snoc X6 N0 gn2
  have Z6 : n0 ≤ h6.size := Nat.le_trans Z2 (Keep.of_wr W6).1
  have pre8 : ∀ t, Steps p.tables e below (T6.setTop (mkF m 13 #[.val (.int p0), .val (.int p1), .unset, .unset, .unset, .unset] [(.int (9 : Int32)), (.int (1 : Int32)), (.ref b2), (.ref b2)])) t → Steps p.tables e below (s₁.setTop (entryFrame m #[(.int p0), (.int p1)] maxLocals)) t := fun t kt => pre7 t (by
    show Steps p.tables e below (T6.setTop (mkF m 9 #[.val (.int p0), .val (.int p1), .unset, .unset, .unset, .unset] [(.ref b2)])) _
    refine XS.dup X6.here hx rfl (hb hby at_9) rfl rfl ?_
    show Steps p.tables e below (T6.setTop (mkF m 10 #[.val (.int p0), .val (.int p1), .unset, .unset, .unset, .unset] [(.ref b2), (.ref b2)])) _
    refine XS.iconst X6.here hx rfl (hb hby at_10) ?_
    show Steps p.tables e below (T6.setTop (mkF m 11 #[.val (.int p0), .val (.int p1), .unset, .unset, .unset, .unset] [(.int (1 : Int32)), (.ref b2), (.ref b2)])) _
    refine XS.bipush X6.here hx rfl (hb hby at_11) ?_
    exact kt)
  clear pre7
  have tv9 := V6
  obtain ⟨cl9, Ar9, q9, S9, Ng9, H9, G9⟩ := tv9
  have hin9 : ¬ ((1 : Int32) < 0 ∨ cl9.slots.size ≤ ((1 : Int32)).toNatClampNeg) := inb_of S9 ⟨by decide, by decide⟩
  obtain ⟨T10, h10, X10, e10, W10, st10⟩ := stC X6 hx hZ e6 Ar9 (j := (1 : Int32)) hin9 (g := (mkF m 13 #[.val (.int p0), .val (.int p1), .unset, .unset, .unset, .unset] [(.int (9 : Int32)), (.int (1 : Int32)), (.ref b2), (.ref b2)])) rfl rfl (hb hby at_13)
  have pre11 : ∀ t, Steps p.tables e below (T10.setTop (mkF m 14 #[.val (.int p0), .val (.int p1), .unset, .unset, .unset, .unset] [(.ref b2)])) t → Steps p.tables e below (s₁.setTop (entryFrame m #[(.int p0), (.int p1)] maxLocals)) t := fun t kt => pre8 t (st10 _ kt)
  clear pre8 st10
  have V10 : Arv Z h10 b2 k2 .char (16 : Int32) [(.int (32 : Int32)), (.int (9 : Int32)), (.int (0 : Int32)), (.int (0 : Int32)), (.int (0 : Int32)), (.int (0 : Int32)), (.int (0 : Int32)), (.int (0 : Int32)), (.int (0 : Int32)), (.int (0 : Int32)), (.int (0 : Int32)), (.int (0 : Int32)), (.int (0 : Int32)), (.int (0 : Int32)), (.int (0 : Int32)), (.int (0 : Int32))] (.int (0 : Int32)) := Arv.set Ar9 q9 S9 Ng9 H9 G9 (fits_nar_char (9 : Int32)) W10 1 rfl (Nat.le_of_ble_eq_true rfl)
  have K10 : Keep h0 h10 [] := K6.wr W10 (Or.inr sz2)
  have N10 := Fr.snoc X10 N6 gn2
  have Z10 : n0 ≤ h10.size := Nat.le_trans Z6 (Keep.of_wr W10).1
  have pre12 : ∀ t, Steps p.tables e below (T10.setTop (mkF m 18 #[.val (.int p0), .val (.int p1), .unset, .unset, .unset, .unset] [(.int (10 : Int32)), (.int (2 : Int32)), (.ref b2), (.ref b2)])) t → Steps p.tables e below (s₁.setTop (entryFrame m #[(.int p0), (.int p1)] maxLocals)) t := fun t kt => pre11 t (by
    show Steps p.tables e below (T10.setTop (mkF m 14 #[.val (.int p0), .val (.int p1), .unset, .unset, .unset, .unset] [(.ref b2)])) _
    refine XS.dup X10.here hx rfl (hb hby at_14) rfl rfl ?_
    show Steps p.tables e below (T10.setTop (mkF m 15 #[.val (.int p0), .val (.int p1), .unset, .unset, .unset, .unset] [(.ref b2), (.ref b2)])) _
    refine XS.iconst X10.here hx rfl (hb hby at_15) ?_
    show Steps p.tables e below (T10.setTop (mkF m 16 #[.val (.int p0), .val (.int p1), .unset, .unset, .unset, .unset] [(.int (2 : Int32)), (.ref b2), (.ref b2)])) _
    refine XS.bipush X10.here hx rfl (hb hby at_16) ?_
    exact kt)
  clear pre11
  have tv13 := V10
  obtain ⟨cl13, Ar13, q13, S13, Ng13, H13, G13⟩ := tv13
  have hin13 : ¬ ((2 : Int32) < 0 ∨ cl13.slots.size ≤ ((2 : Int32)).toNatClampNeg) := inb_of S13 ⟨by decide, by decide⟩
  obtain ⟨T14, h14, X14, e14, W14, st14⟩ := stC X10 hx hZ e10 Ar13 (j := (2 : Int32)) hin13 (g := (mkF m 18 #[.val (.int p0), .val (.int p1), .unset, .unset, .unset, .unset] [(.int (10 : Int32)), (.int (2 : Int32)), (.ref b2), (.ref b2)])) rfl rfl (hb hby at_18)
  have pre15 : ∀ t, Steps p.tables e below (T14.setTop (mkF m 19 #[.val (.int p0), .val (.int p1), .unset, .unset, .unset, .unset] [(.ref b2)])) t → Steps p.tables e below (s₁.setTop (entryFrame m #[(.int p0), (.int p1)] maxLocals)) t := fun t kt => pre12 t (st14 _ kt)
  clear pre12 st14
  have V14 : Arv Z h14 b2 k2 .char (16 : Int32) [(.int (32 : Int32)), (.int (9 : Int32)), (.int (10 : Int32)), (.int (0 : Int32)), (.int (0 : Int32)), (.int (0 : Int32)), (.int (0 : Int32)), (.int (0 : Int32)), (.int (0 : Int32)), (.int (0 : Int32)), (.int (0 : Int32)), (.int (0 : Int32)), (.int (0 : Int32)), (.int (0 : Int32)), (.int (0 : Int32)), (.int (0 : Int32))] (.int (0 : Int32)) := Arv.set Ar13 q13 S13 Ng13 H13 G13 (fits_nar_char (10 : Int32)) W14 2 rfl (Nat.le_of_ble_eq_true rfl)
  have K14 : Keep h0 h14 [] := K10.wr W14 (Or.inr sz2)
  have N14 := Fr.snoc X14 N10 gn2
  have Z14 : n0 ≤ h14.size := Nat.le_trans Z10 (Keep.of_wr W14).1
  have pre16 : ∀ t, Steps p.tables e below (T14.setTop (mkF m 23 #[.val (.int p0), .val (.int p1), .unset, .unset, .unset, .unset] [(.int (13 : Int32)), (.int (3 : Int32)), (.ref b2), (.ref b2)])) t → Steps p.tables e below (s₁.setTop (entryFrame m #[(.int p0), (.int p1)] maxLocals)) t := fun t kt => pre15 t (by
    show Steps p.tables e below (T14.setTop (mkF m 19 #[.val (.int p0), .val (.int p1), .unset, .unset, .unset, .unset] [(.ref b2)])) _
    refine XS.dup X14.here hx rfl (hb hby at_19) rfl rfl ?_
    show Steps p.tables e below (T14.setTop (mkF m 20 #[.val (.int p0), .val (.int p1), .unset, .unset, .unset, .unset] [(.ref b2), (.ref b2)])) _
    refine XS.iconst X14.here hx rfl (hb hby at_20) ?_
    show Steps p.tables e below (T14.setTop (mkF m 21 #[.val (.int p0), .val (.int p1), .unset, .unset, .unset, .unset] [(.int (3 : Int32)), (.ref b2), (.ref b2)])) _
    refine XS.bipush X14.here hx rfl (hb hby at_21) ?_
    exact kt)
  clear pre15
  have tv17 := V14
  obtain ⟨cl17, Ar17, q17, S17, Ng17, H17, G17⟩ := tv17
  have hin17 : ¬ ((3 : Int32) < 0 ∨ cl17.slots.size ≤ ((3 : Int32)).toNatClampNeg) := inb_of S17 ⟨by decide, by decide⟩
  obtain ⟨T18, h18, X18, e18, W18, st18⟩ := stC X14 hx hZ e14 Ar17 (j := (3 : Int32)) hin17 (g := (mkF m 23 #[.val (.int p0), .val (.int p1), .unset, .unset, .unset, .unset] [(.int (13 : Int32)), (.int (3 : Int32)), (.ref b2), (.ref b2)])) rfl rfl (hb hby at_23)
  have pre19 : ∀ t, Steps p.tables e below (T18.setTop (mkF m 24 #[.val (.int p0), .val (.int p1), .unset, .unset, .unset, .unset] [(.ref b2)])) t → Steps p.tables e below (s₁.setTop (entryFrame m #[(.int p0), (.int p1)] maxLocals)) t := fun t kt => pre16 t (st18 _ kt)
  clear pre16 st18
  have V18 : Arv Z h18 b2 k2 .char (16 : Int32) [(.int (32 : Int32)), (.int (9 : Int32)), (.int (10 : Int32)), (.int (13 : Int32)), (.int (0 : Int32)), (.int (0 : Int32)), (.int (0 : Int32)), (.int (0 : Int32)), (.int (0 : Int32)), (.int (0 : Int32)), (.int (0 : Int32)), (.int (0 : Int32)), (.int (0 : Int32)), (.int (0 : Int32)), (.int (0 : Int32)), (.int (0 : Int32))] (.int (0 : Int32)) := Arv.set Ar17 q17 S17 Ng17 H17 G17 (fits_nar_char (13 : Int32)) W18 3 rfl (Nat.le_of_ble_eq_true rfl)
  have K18 : Keep h0 h18 [] := K14.wr W18 (Or.inr sz2)
  have N18 := Fr.snoc X18 N14 gn2
  have Z18 : n0 ≤ h18.size := Nat.le_trans Z14 (Keep.of_wr W18).1
  have pre20 : ∀ t, Steps p.tables e below (T18.setTop (mkF m 28 #[.val (.int p0), .val (.int p1), .unset, .unset, .unset, .unset] [(.int (11 : Int32)), (.int (4 : Int32)), (.ref b2), (.ref b2)])) t → Steps p.tables e below (s₁.setTop (entryFrame m #[(.int p0), (.int p1)] maxLocals)) t := fun t kt => pre19 t (by
    show Steps p.tables e below (T18.setTop (mkF m 24 #[.val (.int p0), .val (.int p1), .unset, .unset, .unset, .unset] [(.ref b2)])) _
    refine XS.dup X18.here hx rfl (hb hby at_24) rfl rfl ?_
    show Steps p.tables e below (T18.setTop (mkF m 25 #[.val (.int p0), .val (.int p1), .unset, .unset, .unset, .unset] [(.ref b2), (.ref b2)])) _
    refine XS.iconst X18.here hx rfl (hb hby at_25) ?_
    show Steps p.tables e below (T18.setTop (mkF m 26 #[.val (.int p0), .val (.int p1), .unset, .unset, .unset, .unset] [(.int (4 : Int32)), (.ref b2), (.ref b2)])) _
    refine XS.bipush X18.here hx rfl (hb hby at_26) ?_
    exact kt)
  clear pre19
  have tv21 := V18
  obtain ⟨cl21, Ar21, q21, S21, Ng21, H21, G21⟩ := tv21
  have hin21 : ¬ ((4 : Int32) < 0 ∨ cl21.slots.size ≤ ((4 : Int32)).toNatClampNeg) := inb_of S21 ⟨by decide, by decide⟩
  obtain ⟨T22, h22, X22, e22, W22, st22⟩ := stC X18 hx hZ e18 Ar21 (j := (4 : Int32)) hin21 (g := (mkF m 28 #[.val (.int p0), .val (.int p1), .unset, .unset, .unset, .unset] [(.int (11 : Int32)), (.int (4 : Int32)), (.ref b2), (.ref b2)])) rfl rfl (hb hby at_28)
  have pre23 : ∀ t, Steps p.tables e below (T22.setTop (mkF m 29 #[.val (.int p0), .val (.int p1), .unset, .unset, .unset, .unset] [(.ref b2)])) t → Steps p.tables e below (s₁.setTop (entryFrame m #[(.int p0), (.int p1)] maxLocals)) t := fun t kt => pre20 t (st22 _ kt)
  clear pre20 st22
  have V22 : Arv Z h22 b2 k2 .char (16 : Int32) [(.int (32 : Int32)), (.int (9 : Int32)), (.int (10 : Int32)), (.int (13 : Int32)), (.int (11 : Int32)), (.int (0 : Int32)), (.int (0 : Int32)), (.int (0 : Int32)), (.int (0 : Int32)), (.int (0 : Int32)), (.int (0 : Int32)), (.int (0 : Int32)), (.int (0 : Int32)), (.int (0 : Int32)), (.int (0 : Int32)), (.int (0 : Int32))] (.int (0 : Int32)) := Arv.set Ar21 q21 S21 Ng21 H21 G21 (fits_nar_char (11 : Int32)) W22 4 rfl (Nat.le_of_ble_eq_true rfl)
  have K22 : Keep h0 h22 [] := K18.wr W22 (Or.inr sz2)
  have N22 := Fr.snoc X22 N18 gn2
  have Z22 : n0 ≤ h22.size := Nat.le_trans Z18 (Keep.of_wr W22).1
  have pre24 : ∀ t, Steps p.tables e below (T22.setTop (mkF m 33 #[.val (.int p0), .val (.int p1), .unset, .unset, .unset, .unset] [(.int (12 : Int32)), (.int (5 : Int32)), (.ref b2), (.ref b2)])) t → Steps p.tables e below (s₁.setTop (entryFrame m #[(.int p0), (.int p1)] maxLocals)) t := fun t kt => pre23 t (by
    show Steps p.tables e below (T22.setTop (mkF m 29 #[.val (.int p0), .val (.int p1), .unset, .unset, .unset, .unset] [(.ref b2)])) _
    refine XS.dup X22.here hx rfl (hb hby at_29) rfl rfl ?_
    show Steps p.tables e below (T22.setTop (mkF m 30 #[.val (.int p0), .val (.int p1), .unset, .unset, .unset, .unset] [(.ref b2), (.ref b2)])) _
    refine XS.iconst X22.here hx rfl (hb hby at_30) ?_
    show Steps p.tables e below (T22.setTop (mkF m 31 #[.val (.int p0), .val (.int p1), .unset, .unset, .unset, .unset] [(.int (5 : Int32)), (.ref b2), (.ref b2)])) _
    refine XS.bipush X22.here hx rfl (hb hby at_31) ?_
    exact kt)
  clear pre23
  have tv25 := V22
  obtain ⟨cl25, Ar25, q25, S25, Ng25, H25, G25⟩ := tv25
  have hin25 : ¬ ((5 : Int32) < 0 ∨ cl25.slots.size ≤ ((5 : Int32)).toNatClampNeg) := inb_of S25 ⟨by decide, by decide⟩
  obtain ⟨T26, h26, X26, e26, W26, st26⟩ := stC X22 hx hZ e22 Ar25 (j := (5 : Int32)) hin25 (g := (mkF m 33 #[.val (.int p0), .val (.int p1), .unset, .unset, .unset, .unset] [(.int (12 : Int32)), (.int (5 : Int32)), (.ref b2), (.ref b2)])) rfl rfl (hb hby at_33)
  have pre27 : ∀ t, Steps p.tables e below (T26.setTop (mkF m 34 #[.val (.int p0), .val (.int p1), .unset, .unset, .unset, .unset] [(.ref b2)])) t → Steps p.tables e below (s₁.setTop (entryFrame m #[(.int p0), (.int p1)] maxLocals)) t := fun t kt => pre24 t (st26 _ kt)
  clear pre24 st26
  have V26 : Arv Z h26 b2 k2 .char (16 : Int32) [(.int (32 : Int32)), (.int (9 : Int32)), (.int (10 : Int32)), (.int (13 : Int32)), (.int (11 : Int32)), (.int (12 : Int32)), (.int (0 : Int32)), (.int (0 : Int32)), (.int (0 : Int32)), (.int (0 : Int32)), (.int (0 : Int32)), (.int (0 : Int32)), (.int (0 : Int32)), (.int (0 : Int32)), (.int (0 : Int32)), (.int (0 : Int32))] (.int (0 : Int32)) := Arv.set Ar25 q25 S25 Ng25 H25 G25 (fits_nar_char (12 : Int32)) W26 5 rfl (Nat.le_of_ble_eq_true rfl)
  have K26 : Keep h0 h26 [] := K22.wr W26 (Or.inr sz2)
  have N26 := Fr.snoc X26 N22 gn2
  have Z26 : n0 ≤ h26.size := Nat.le_trans Z22 (Keep.of_wr W26).1
  have pre28 : ∀ t, Steps p.tables e below (T26.setTop (mkF m 39 #[.val (.int p0), .val (.int p1), .unset, .unset, .unset, .unset] [(.int (8 : Int32)), (.int (6 : Int32)), (.ref b2), (.ref b2)])) t → Steps p.tables e below (s₁.setTop (entryFrame m #[(.int p0), (.int p1)] maxLocals)) t := fun t kt => pre27 t (by
    show Steps p.tables e below (T26.setTop (mkF m 34 #[.val (.int p0), .val (.int p1), .unset, .unset, .unset, .unset] [(.ref b2)])) _
    refine XS.dup X26.here hx rfl (hb hby at_34) rfl rfl ?_
    show Steps p.tables e below (T26.setTop (mkF m 35 #[.val (.int p0), .val (.int p1), .unset, .unset, .unset, .unset] [(.ref b2), (.ref b2)])) _
    refine XS.bipush X26.here hx rfl (hb hby at_35) ?_
    show Steps p.tables e below (T26.setTop (mkF m 37 #[.val (.int p0), .val (.int p1), .unset, .unset, .unset, .unset] [(.int (6 : Int32)), (.ref b2), (.ref b2)])) _
    refine XS.bipush X26.here hx rfl (hb hby at_37) ?_
    exact kt)
  clear pre27
  have tv29 := V26
  obtain ⟨cl29, Ar29, q29, S29, Ng29, H29, G29⟩ := tv29
  have hin29 : ¬ ((6 : Int32) < 0 ∨ cl29.slots.size ≤ ((6 : Int32)).toNatClampNeg) := inb_of S29 ⟨by decide, by decide⟩
  obtain ⟨T30, h30, X30, e30, W30, st30⟩ := stC X26 hx hZ e26 Ar29 (j := (6 : Int32)) hin29 (g := (mkF m 39 #[.val (.int p0), .val (.int p1), .unset, .unset, .unset, .unset] [(.int (8 : Int32)), (.int (6 : Int32)), (.ref b2), (.ref b2)])) rfl rfl (hb hby at_39)
  have pre31 : ∀ t, Steps p.tables e below (T30.setTop (mkF m 40 #[.val (.int p0), .val (.int p1), .unset, .unset, .unset, .unset] [(.ref b2)])) t → Steps p.tables e below (s₁.setTop (entryFrame m #[(.int p0), (.int p1)] maxLocals)) t := fun t kt => pre28 t (st30 _ kt)
  clear pre28 st30
  have V30 : Arv Z h30 b2 k2 .char (16 : Int32) [(.int (32 : Int32)), (.int (9 : Int32)), (.int (10 : Int32)), (.int (13 : Int32)), (.int (11 : Int32)), (.int (12 : Int32)), (.int (8 : Int32)), (.int (0 : Int32)), (.int (0 : Int32)), (.int (0 : Int32)), (.int (0 : Int32)), (.int (0 : Int32)), (.int (0 : Int32)), (.int (0 : Int32)), (.int (0 : Int32)), (.int (0 : Int32))] (.int (0 : Int32)) := Arv.set Ar29 q29 S29 Ng29 H29 G29 (fits_nar_char (8 : Int32)) W30 6 rfl (Nat.le_of_ble_eq_true rfl)
  have K30 : Keep h0 h30 [] := K26.wr W30 (Or.inr sz2)
  have N30 := Fr.snoc X30 N26 gn2
  have Z30 : n0 ≤ h30.size := Nat.le_trans Z26 (Keep.of_wr W30).1
  have pre32 : ∀ t, Steps p.tables e below (T30.setTop (mkF m 45 #[.val (.int p0), .val (.int p1), .unset, .unset, .unset, .unset] [(.int (14 : Int32)), (.int (7 : Int32)), (.ref b2), (.ref b2)])) t → Steps p.tables e below (s₁.setTop (entryFrame m #[(.int p0), (.int p1)] maxLocals)) t := fun t kt => pre31 t (by
    show Steps p.tables e below (T30.setTop (mkF m 40 #[.val (.int p0), .val (.int p1), .unset, .unset, .unset, .unset] [(.ref b2)])) _
    refine XS.dup X30.here hx rfl (hb hby at_40) rfl rfl ?_
    show Steps p.tables e below (T30.setTop (mkF m 41 #[.val (.int p0), .val (.int p1), .unset, .unset, .unset, .unset] [(.ref b2), (.ref b2)])) _
    refine XS.bipush X30.here hx rfl (hb hby at_41) ?_
    show Steps p.tables e below (T30.setTop (mkF m 43 #[.val (.int p0), .val (.int p1), .unset, .unset, .unset, .unset] [(.int (7 : Int32)), (.ref b2), (.ref b2)])) _
    refine XS.bipush X30.here hx rfl (hb hby at_43) ?_
    exact kt)
  clear pre31
  have tv33 := V30
  obtain ⟨cl33, Ar33, q33, S33, Ng33, H33, G33⟩ := tv33
  have hin33 : ¬ ((7 : Int32) < 0 ∨ cl33.slots.size ≤ ((7 : Int32)).toNatClampNeg) := inb_of S33 ⟨by decide, by decide⟩
  obtain ⟨T34, h34, X34, e34, W34, st34⟩ := stC X30 hx hZ e30 Ar33 (j := (7 : Int32)) hin33 (g := (mkF m 45 #[.val (.int p0), .val (.int p1), .unset, .unset, .unset, .unset] [(.int (14 : Int32)), (.int (7 : Int32)), (.ref b2), (.ref b2)])) rfl rfl (hb hby at_45)
  have pre35 : ∀ t, Steps p.tables e below (T34.setTop (mkF m 46 #[.val (.int p0), .val (.int p1), .unset, .unset, .unset, .unset] [(.ref b2)])) t → Steps p.tables e below (s₁.setTop (entryFrame m #[(.int p0), (.int p1)] maxLocals)) t := fun t kt => pre32 t (st34 _ kt)
  clear pre32 st34
  have V34 : Arv Z h34 b2 k2 .char (16 : Int32) [(.int (32 : Int32)), (.int (9 : Int32)), (.int (10 : Int32)), (.int (13 : Int32)), (.int (11 : Int32)), (.int (12 : Int32)), (.int (8 : Int32)), (.int (14 : Int32)), (.int (0 : Int32)), (.int (0 : Int32)), (.int (0 : Int32)), (.int (0 : Int32)), (.int (0 : Int32)), (.int (0 : Int32)), (.int (0 : Int32)), (.int (0 : Int32))] (.int (0 : Int32)) := Arv.set Ar33 q33 S33 Ng33 H33 G33 (fits_nar_char (14 : Int32)) W34 7 rfl (Nat.le_of_ble_eq_true rfl)
  have K34 : Keep h0 h34 [] := K30.wr W34 (Or.inr sz2)
  have N34 := Fr.snoc X34 N30 gn2
  have Z34 : n0 ≤ h34.size := Nat.le_trans Z30 (Keep.of_wr W34).1
  have pre36 : ∀ t, Steps p.tables e below (T34.setTop (mkF m 51 #[.val (.int p0), .val (.int p1), .unset, .unset, .unset, .unset] [(.int (31 : Int32)), (.int (8 : Int32)), (.ref b2), (.ref b2)])) t → Steps p.tables e below (s₁.setTop (entryFrame m #[(.int p0), (.int p1)] maxLocals)) t := fun t kt => pre35 t (by
    show Steps p.tables e below (T34.setTop (mkF m 46 #[.val (.int p0), .val (.int p1), .unset, .unset, .unset, .unset] [(.ref b2)])) _
    refine XS.dup X34.here hx rfl (hb hby at_46) rfl rfl ?_
    show Steps p.tables e below (T34.setTop (mkF m 47 #[.val (.int p0), .val (.int p1), .unset, .unset, .unset, .unset] [(.ref b2), (.ref b2)])) _
    refine XS.bipush X34.here hx rfl (hb hby at_47) ?_
    show Steps p.tables e below (T34.setTop (mkF m 49 #[.val (.int p0), .val (.int p1), .unset, .unset, .unset, .unset] [(.int (8 : Int32)), (.ref b2), (.ref b2)])) _
    refine XS.bipush X34.here hx rfl (hb hby at_49) ?_
    exact kt)
  clear pre35
  have tv37 := V34
  obtain ⟨cl37, Ar37, q37, S37, Ng37, H37, G37⟩ := tv37
  have hin37 : ¬ ((8 : Int32) < 0 ∨ cl37.slots.size ≤ ((8 : Int32)).toNatClampNeg) := inb_of S37 ⟨by decide, by decide⟩
  obtain ⟨T38, h38, X38, e38, W38, st38⟩ := stC X34 hx hZ e34 Ar37 (j := (8 : Int32)) hin37 (g := (mkF m 51 #[.val (.int p0), .val (.int p1), .unset, .unset, .unset, .unset] [(.int (31 : Int32)), (.int (8 : Int32)), (.ref b2), (.ref b2)])) rfl rfl (hb hby at_51)
  have pre39 : ∀ t, Steps p.tables e below (T38.setTop (mkF m 52 #[.val (.int p0), .val (.int p1), .unset, .unset, .unset, .unset] [(.ref b2)])) t → Steps p.tables e below (s₁.setTop (entryFrame m #[(.int p0), (.int p1)] maxLocals)) t := fun t kt => pre36 t (st38 _ kt)
  clear pre36 st38
  have V38 : Arv Z h38 b2 k2 .char (16 : Int32) [(.int (32 : Int32)), (.int (9 : Int32)), (.int (10 : Int32)), (.int (13 : Int32)), (.int (11 : Int32)), (.int (12 : Int32)), (.int (8 : Int32)), (.int (14 : Int32)), (.int (31 : Int32)), (.int (0 : Int32)), (.int (0 : Int32)), (.int (0 : Int32)), (.int (0 : Int32)), (.int (0 : Int32)), (.int (0 : Int32)), (.int (0 : Int32))] (.int (0 : Int32)) := Arv.set Ar37 q37 S37 Ng37 H37 G37 (fits_nar_char (31 : Int32)) W38 8 rfl (Nat.le_of_ble_eq_true rfl)
  have K38 : Keep h0 h38 [] := K34.wr W38 (Or.inr sz2)
  have N38 := Fr.snoc X38 N34 gn2
  have Z38 : n0 ≤ h38.size := Nat.le_trans Z34 (Keep.of_wr W38).1
  have pre40 : ∀ t, Steps p.tables e below (T38.setTop (mkF m 57 #[.val (.int p0), .val (.int p1), .unset, .unset, .unset, .unset] [(.int (33 : Int32)), (.int (9 : Int32)), (.ref b2), (.ref b2)])) t → Steps p.tables e below (s₁.setTop (entryFrame m #[(.int p0), (.int p1)] maxLocals)) t := fun t kt => pre39 t (by
    show Steps p.tables e below (T38.setTop (mkF m 52 #[.val (.int p0), .val (.int p1), .unset, .unset, .unset, .unset] [(.ref b2)])) _
    refine XS.dup X38.here hx rfl (hb hby at_52) rfl rfl ?_
    show Steps p.tables e below (T38.setTop (mkF m 53 #[.val (.int p0), .val (.int p1), .unset, .unset, .unset, .unset] [(.ref b2), (.ref b2)])) _
    refine XS.bipush X38.here hx rfl (hb hby at_53) ?_
    show Steps p.tables e below (T38.setTop (mkF m 55 #[.val (.int p0), .val (.int p1), .unset, .unset, .unset, .unset] [(.int (9 : Int32)), (.ref b2), (.ref b2)])) _
    refine XS.bipush X38.here hx rfl (hb hby at_55) ?_
    exact kt)
  clear pre39
  have tv41 := V38
  obtain ⟨cl41, Ar41, q41, S41, Ng41, H41, G41⟩ := tv41
  have hin41 : ¬ ((9 : Int32) < 0 ∨ cl41.slots.size ≤ ((9 : Int32)).toNatClampNeg) := inb_of S41 ⟨by decide, by decide⟩
  obtain ⟨T42, h42, X42, e42, W42, st42⟩ := stC X38 hx hZ e38 Ar41 (j := (9 : Int32)) hin41 (g := (mkF m 57 #[.val (.int p0), .val (.int p1), .unset, .unset, .unset, .unset] [(.int (33 : Int32)), (.int (9 : Int32)), (.ref b2), (.ref b2)])) rfl rfl (hb hby at_57)
  have pre43 : ∀ t, Steps p.tables e below (T42.setTop (mkF m 58 #[.val (.int p0), .val (.int p1), .unset, .unset, .unset, .unset] [(.ref b2)])) t → Steps p.tables e below (s₁.setTop (entryFrame m #[(.int p0), (.int p1)] maxLocals)) t := fun t kt => pre40 t (st42 _ kt)
  clear pre40 st42
  have V42 : Arv Z h42 b2 k2 .char (16 : Int32) [(.int (32 : Int32)), (.int (9 : Int32)), (.int (10 : Int32)), (.int (13 : Int32)), (.int (11 : Int32)), (.int (12 : Int32)), (.int (8 : Int32)), (.int (14 : Int32)), (.int (31 : Int32)), (.int (33 : Int32)), (.int (0 : Int32)), (.int (0 : Int32)), (.int (0 : Int32)), (.int (0 : Int32)), (.int (0 : Int32)), (.int (0 : Int32))] (.int (0 : Int32)) := Arv.set Ar41 q41 S41 Ng41 H41 G41 (fits_nar_char (33 : Int32)) W42 9 rfl (Nat.le_of_ble_eq_true rfl)
  have K42 : Keep h0 h42 [] := K38.wr W42 (Or.inr sz2)
  have N42 := Fr.snoc X42 N38 gn2
  have Z42 : n0 ≤ h42.size := Nat.le_trans Z38 (Keep.of_wr W42).1
  have pre44 : ∀ t, Steps p.tables e below (T42.setTop (mkF m 62 #[.val (.int p0), .val (.int p1), .unset, .unset, .unset, .unset] [(.int (0 : Int32)), (.int (10 : Int32)), (.ref b2), (.ref b2)])) t → Steps p.tables e below (s₁.setTop (entryFrame m #[(.int p0), (.int p1)] maxLocals)) t := fun t kt => pre43 t (by
    show Steps p.tables e below (T42.setTop (mkF m 58 #[.val (.int p0), .val (.int p1), .unset, .unset, .unset, .unset] [(.ref b2)])) _
    refine XS.dup X42.here hx rfl (hb hby at_58) rfl rfl ?_
    show Steps p.tables e below (T42.setTop (mkF m 59 #[.val (.int p0), .val (.int p1), .unset, .unset, .unset, .unset] [(.ref b2), (.ref b2)])) _
    refine XS.bipush X42.here hx rfl (hb hby at_59) ?_
    show Steps p.tables e below (T42.setTop (mkF m 61 #[.val (.int p0), .val (.int p1), .unset, .unset, .unset, .unset] [(.int (10 : Int32)), (.ref b2), (.ref b2)])) _
    refine XS.iconst X42.here hx rfl (hb hby at_61) ?_
    exact kt)
  clear pre43
  have tv45 := V42
  obtain ⟨cl45, Ar45, q45, S45, Ng45, H45, G45⟩ := tv45
  have hin45 : ¬ ((10 : Int32) < 0 ∨ cl45.slots.size ≤ ((10 : Int32)).toNatClampNeg) := inb_of S45 ⟨by decide, by decide⟩
  obtain ⟨T46, h46, X46, e46, W46, st46⟩ := stC X42 hx hZ e42 Ar45 (j := (10 : Int32)) hin45 (g := (mkF m 62 #[.val (.int p0), .val (.int p1), .unset, .unset, .unset, .unset] [(.int (0 : Int32)), (.int (10 : Int32)), (.ref b2), (.ref b2)])) rfl rfl (hb hby at_62)
  have pre47 : ∀ t, Steps p.tables e below (T46.setTop (mkF m 63 #[.val (.int p0), .val (.int p1), .unset, .unset, .unset, .unset] [(.ref b2)])) t → Steps p.tables e below (s₁.setTop (entryFrame m #[(.int p0), (.int p1)] maxLocals)) t := fun t kt => pre44 t (st46 _ kt)
  clear pre44 st46
  have V46 : Arv Z h46 b2 k2 .char (16 : Int32) [(.int (32 : Int32)), (.int (9 : Int32)), (.int (10 : Int32)), (.int (13 : Int32)), (.int (11 : Int32)), (.int (12 : Int32)), (.int (8 : Int32)), (.int (14 : Int32)), (.int (31 : Int32)), (.int (33 : Int32)), (.int (0 : Int32)), (.int (0 : Int32)), (.int (0 : Int32)), (.int (0 : Int32)), (.int (0 : Int32)), (.int (0 : Int32))] (.int (0 : Int32)) := Arv.set Ar45 q45 S45 Ng45 H45 G45 (fits_nar_char (0 : Int32)) W46 10 rfl (Nat.le_of_ble_eq_true rfl)
  have K46 : Keep h0 h46 [] := K42.wr W46 (Or.inr sz2)
  have N46 := Fr.snoc X46 N42 gn2
  have Z46 : n0 ≤ h46.size := Nat.le_trans Z42 (Keep.of_wr W46).1
  have pre48 : ∀ t, Steps p.tables e below (T46.setTop (mkF m 69 #[.val (.int p0), .val (.int p1), .unset, .unset, .unset, .unset] [(.int (160 : Int32)), (.int (11 : Int32)), (.ref b2), (.ref b2)])) t → Steps p.tables e below (s₁.setTop (entryFrame m #[(.int p0), (.int p1)] maxLocals)) t := fun t kt => pre47 t (by
    show Steps p.tables e below (T46.setTop (mkF m 63 #[.val (.int p0), .val (.int p1), .unset, .unset, .unset, .unset] [(.ref b2)])) _
    refine XS.dup X46.here hx rfl (hb hby at_63) rfl rfl ?_
    show Steps p.tables e below (T46.setTop (mkF m 64 #[.val (.int p0), .val (.int p1), .unset, .unset, .unset, .unset] [(.ref b2), (.ref b2)])) _
    refine XS.bipush X46.here hx rfl (hb hby at_64) ?_
    show Steps p.tables e below (T46.setTop (mkF m 66 #[.val (.int p0), .val (.int p1), .unset, .unset, .unset, .unset] [(.int (11 : Int32)), (.ref b2), (.ref b2)])) _
    refine XS.sipush X46.here hx rfl (hb hby at_66) ?_
    exact kt)
  clear pre47
  have tv49 := V46
  obtain ⟨cl49, Ar49, q49, S49, Ng49, H49, G49⟩ := tv49
  have hin49 : ¬ ((11 : Int32) < 0 ∨ cl49.slots.size ≤ ((11 : Int32)).toNatClampNeg) := inb_of S49 ⟨by decide, by decide⟩
  obtain ⟨T50, h50, X50, e50, W50, st50⟩ := stC X46 hx hZ e46 Ar49 (j := (11 : Int32)) hin49 (g := (mkF m 69 #[.val (.int p0), .val (.int p1), .unset, .unset, .unset, .unset] [(.int (160 : Int32)), (.int (11 : Int32)), (.ref b2), (.ref b2)])) rfl rfl (hb hby at_69)
  have pre51 : ∀ t, Steps p.tables e below (T50.setTop (mkF m 70 #[.val (.int p0), .val (.int p1), .unset, .unset, .unset, .unset] [(.ref b2)])) t → Steps p.tables e below (s₁.setTop (entryFrame m #[(.int p0), (.int p1)] maxLocals)) t := fun t kt => pre48 t (st50 _ kt)
  clear pre48 st50
  have V50 : Arv Z h50 b2 k2 .char (16 : Int32) [(.int (32 : Int32)), (.int (9 : Int32)), (.int (10 : Int32)), (.int (13 : Int32)), (.int (11 : Int32)), (.int (12 : Int32)), (.int (8 : Int32)), (.int (14 : Int32)), (.int (31 : Int32)), (.int (33 : Int32)), (.int (0 : Int32)), (.int (160 : Int32)), (.int (0 : Int32)), (.int (0 : Int32)), (.int (0 : Int32)), (.int (0 : Int32))] (.int (0 : Int32)) := Arv.set Ar49 q49 S49 Ng49 H49 G49 (fits_nar_char (160 : Int32)) W50 11 rfl (Nat.le_of_ble_eq_true rfl)
  have K50 : Keep h0 h50 [] := K46.wr W50 (Or.inr sz2)
  have N50 := Fr.snoc X50 N46 gn2
  have Z50 : n0 ≤ h50.size := Nat.le_trans Z46 (Keep.of_wr W50).1
  have pre52 : ∀ t, Steps p.tables e below (T50.setTop (mkF m 76 #[.val (.int p0), .val (.int p1), .unset, .unset, .unset, .unset] [(.int (8232 : Int32)), (.int (12 : Int32)), (.ref b2), (.ref b2)])) t → Steps p.tables e below (s₁.setTop (entryFrame m #[(.int p0), (.int p1)] maxLocals)) t := fun t kt => pre51 t (by
    show Steps p.tables e below (T50.setTop (mkF m 70 #[.val (.int p0), .val (.int p1), .unset, .unset, .unset, .unset] [(.ref b2)])) _
    refine XS.dup X50.here hx rfl (hb hby at_70) rfl rfl ?_
    show Steps p.tables e below (T50.setTop (mkF m 71 #[.val (.int p0), .val (.int p1), .unset, .unset, .unset, .unset] [(.ref b2), (.ref b2)])) _
    refine XS.bipush X50.here hx rfl (hb hby at_71) ?_
    show Steps p.tables e below (T50.setTop (mkF m 73 #[.val (.int p0), .val (.int p1), .unset, .unset, .unset, .unset] [(.int (12 : Int32)), (.ref b2), (.ref b2)])) _
    refine XS.sipush X50.here hx rfl (hb hby at_73) ?_
    exact kt)
  clear pre51
  have tv53 := V50
  obtain ⟨cl53, Ar53, q53, S53, Ng53, H53, G53⟩ := tv53
  have hin53 : ¬ ((12 : Int32) < 0 ∨ cl53.slots.size ≤ ((12 : Int32)).toNatClampNeg) := inb_of S53 ⟨by decide, by decide⟩
  obtain ⟨T54, h54, X54, e54, W54, st54⟩ := stC X50 hx hZ e50 Ar53 (j := (12 : Int32)) hin53 (g := (mkF m 76 #[.val (.int p0), .val (.int p1), .unset, .unset, .unset, .unset] [(.int (8232 : Int32)), (.int (12 : Int32)), (.ref b2), (.ref b2)])) rfl rfl (hb hby at_76)
  have pre55 : ∀ t, Steps p.tables e below (T54.setTop (mkF m 77 #[.val (.int p0), .val (.int p1), .unset, .unset, .unset, .unset] [(.ref b2)])) t → Steps p.tables e below (s₁.setTop (entryFrame m #[(.int p0), (.int p1)] maxLocals)) t := fun t kt => pre52 t (st54 _ kt)
  clear pre52 st54
  have V54 : Arv Z h54 b2 k2 .char (16 : Int32) [(.int (32 : Int32)), (.int (9 : Int32)), (.int (10 : Int32)), (.int (13 : Int32)), (.int (11 : Int32)), (.int (12 : Int32)), (.int (8 : Int32)), (.int (14 : Int32)), (.int (31 : Int32)), (.int (33 : Int32)), (.int (0 : Int32)), (.int (160 : Int32)), (.int (8232 : Int32)), (.int (0 : Int32)), (.int (0 : Int32)), (.int (0 : Int32))] (.int (0 : Int32)) := Arv.set Ar53 q53 S53 Ng53 H53 G53 (fits_nar_char (8232 : Int32)) W54 12 rfl (Nat.le_of_ble_eq_true rfl)
  have K54 : Keep h0 h54 [] := K50.wr W54 (Or.inr sz2)
  have N54 := Fr.snoc X54 N50 gn2
  have Z54 : n0 ≤ h54.size := Nat.le_trans Z50 (Keep.of_wr W54).1
  have pre56 : ∀ t, Steps p.tables e below (T54.setTop (mkF m 83 #[.val (.int p0), .val (.int p1), .unset, .unset, .unset, .unset] [(.int (12288 : Int32)), (.int (13 : Int32)), (.ref b2), (.ref b2)])) t → Steps p.tables e below (s₁.setTop (entryFrame m #[(.int p0), (.int p1)] maxLocals)) t := fun t kt => pre55 t (by
    show Steps p.tables e below (T54.setTop (mkF m 77 #[.val (.int p0), .val (.int p1), .unset, .unset, .unset, .unset] [(.ref b2)])) _
    refine XS.dup X54.here hx rfl (hb hby at_77) rfl rfl ?_
    show Steps p.tables e below (T54.setTop (mkF m 78 #[.val (.int p0), .val (.int p1), .unset, .unset, .unset, .unset] [(.ref b2), (.ref b2)])) _
    refine XS.bipush X54.here hx rfl (hb hby at_78) ?_
    show Steps p.tables e below (T54.setTop (mkF m 80 #[.val (.int p0), .val (.int p1), .unset, .unset, .unset, .unset] [(.int (13 : Int32)), (.ref b2), (.ref b2)])) _
    refine XS.sipush X54.here hx rfl (hb hby at_80) ?_
    exact kt)
  clear pre55
  have tv57 := V54
  obtain ⟨cl57, Ar57, q57, S57, Ng57, H57, G57⟩ := tv57
  have hin57 : ¬ ((13 : Int32) < 0 ∨ cl57.slots.size ≤ ((13 : Int32)).toNatClampNeg) := inb_of S57 ⟨by decide, by decide⟩
  obtain ⟨T58, h58, X58, e58, W58, st58⟩ := stC X54 hx hZ e54 Ar57 (j := (13 : Int32)) hin57 (g := (mkF m 83 #[.val (.int p0), .val (.int p1), .unset, .unset, .unset, .unset] [(.int (12288 : Int32)), (.int (13 : Int32)), (.ref b2), (.ref b2)])) rfl rfl (hb hby at_83)
  have pre59 : ∀ t, Steps p.tables e below (T58.setTop (mkF m 84 #[.val (.int p0), .val (.int p1), .unset, .unset, .unset, .unset] [(.ref b2)])) t → Steps p.tables e below (s₁.setTop (entryFrame m #[(.int p0), (.int p1)] maxLocals)) t := fun t kt => pre56 t (st58 _ kt)
  clear pre56 st58
  have V58 : Arv Z h58 b2 k2 .char (16 : Int32) [(.int (32 : Int32)), (.int (9 : Int32)), (.int (10 : Int32)), (.int (13 : Int32)), (.int (11 : Int32)), (.int (12 : Int32)), (.int (8 : Int32)), (.int (14 : Int32)), (.int (31 : Int32)), (.int (33 : Int32)), (.int (0 : Int32)), (.int (160 : Int32)), (.int (8232 : Int32)), (.int (12288 : Int32)), (.int (0 : Int32)), (.int (0 : Int32))] (.int (0 : Int32)) := Arv.set Ar57 q57 S57 Ng57 H57 G57 (fits_nar_char (12288 : Int32)) W58 13 rfl (Nat.le_of_ble_eq_true rfl)
  have K58 : Keep h0 h58 [] := K54.wr W58 (Or.inr sz2)
  have N58 := Fr.snoc X58 N54 gn2
  have Z58 : n0 ≤ h58.size := Nat.le_trans Z54 (Keep.of_wr W58).1
  have pre60 : ∀ t, Steps p.tables e below (T58.setTop (mkF m 89 #[.val (.int p0), .val (.int p1), .unset, .unset, .unset, .unset] [(.int (65279 : Int32)), (.int (14 : Int32)), (.ref b2), (.ref b2)])) t → Steps p.tables e below (s₁.setTop (entryFrame m #[(.int p0), (.int p1)] maxLocals)) t := fun t kt => pre59 t (by
    show Steps p.tables e below (T58.setTop (mkF m 84 #[.val (.int p0), .val (.int p1), .unset, .unset, .unset, .unset] [(.ref b2)])) _
    refine XS.dup X58.here hx rfl (hb hby at_84) rfl rfl ?_
    show Steps p.tables e below (T58.setTop (mkF m 85 #[.val (.int p0), .val (.int p1), .unset, .unset, .unset, .unset] [(.ref b2), (.ref b2)])) _
    refine XS.bipush X58.here hx rfl (hb hby at_85) ?_
    show Steps p.tables e below (T58.setTop (mkF m 87 #[.val (.int p0), .val (.int p1), .unset, .unset, .unset, .unset] [(.int (14 : Int32)), (.ref b2), (.ref b2)])) _
    refine X58.ldcInt hx hown (mvT hZ (hw _ (List.mem_of_getElem? (i := 1) rfl))) (g := (mkF m 87 #[.val (.int p0), .val (.int p1), .unset, .unset, .unset, .unset] [(.int (14 : Int32)), (.ref b2), (.ref b2)])) rfl (hb hby at_87) _ ?_
    exact kt)
  clear pre59
  have tv61 := V58
  obtain ⟨cl61, Ar61, q61, S61, Ng61, H61, G61⟩ := tv61
  have hin61 : ¬ ((14 : Int32) < 0 ∨ cl61.slots.size ≤ ((14 : Int32)).toNatClampNeg) := inb_of S61 ⟨by decide, by decide⟩
  obtain ⟨T62, h62, X62, e62, W62, st62⟩ := stC X58 hx hZ e58 Ar61 (j := (14 : Int32)) hin61 (g := (mkF m 89 #[.val (.int p0), .val (.int p1), .unset, .unset, .unset, .unset] [(.int (65279 : Int32)), (.int (14 : Int32)), (.ref b2), (.ref b2)])) rfl rfl (hb hby at_89)
  have pre63 : ∀ t, Steps p.tables e below (T62.setTop (mkF m 90 #[.val (.int p0), .val (.int p1), .unset, .unset, .unset, .unset] [(.ref b2)])) t → Steps p.tables e below (s₁.setTop (entryFrame m #[(.int p0), (.int p1)] maxLocals)) t := fun t kt => pre60 t (st62 _ kt)
  clear pre60 st62
  have V62 : Arv Z h62 b2 k2 .char (16 : Int32) [(.int (32 : Int32)), (.int (9 : Int32)), (.int (10 : Int32)), (.int (13 : Int32)), (.int (11 : Int32)), (.int (12 : Int32)), (.int (8 : Int32)), (.int (14 : Int32)), (.int (31 : Int32)), (.int (33 : Int32)), (.int (0 : Int32)), (.int (160 : Int32)), (.int (8232 : Int32)), (.int (12288 : Int32)), (.int (65279 : Int32)), (.int (0 : Int32))] (.int (0 : Int32)) := Arv.set Ar61 q61 S61 Ng61 H61 G61 (fits_nar_char (65279 : Int32)) W62 14 rfl (Nat.le_of_ble_eq_true rfl)
  have K62 : Keep h0 h62 [] := K58.wr W62 (Or.inr sz2)
  have N62 := Fr.snoc X62 N58 gn2
  have Z62 : n0 ≤ h62.size := Nat.le_trans Z58 (Keep.of_wr W62).1
  have pre64 : ∀ t, Steps p.tables e below (T62.setTop (mkF m 95 #[.val (.int p0), .val (.int p1), .unset, .unset, .unset, .unset] [(.int (65535 : Int32)), (.int (15 : Int32)), (.ref b2), (.ref b2)])) t → Steps p.tables e below (s₁.setTop (entryFrame m #[(.int p0), (.int p1)] maxLocals)) t := fun t kt => pre63 t (by
    show Steps p.tables e below (T62.setTop (mkF m 90 #[.val (.int p0), .val (.int p1), .unset, .unset, .unset, .unset] [(.ref b2)])) _
    refine XS.dup X62.here hx rfl (hb hby at_90) rfl rfl ?_
    show Steps p.tables e below (T62.setTop (mkF m 91 #[.val (.int p0), .val (.int p1), .unset, .unset, .unset, .unset] [(.ref b2), (.ref b2)])) _
    refine XS.bipush X62.here hx rfl (hb hby at_91) ?_
    show Steps p.tables e below (T62.setTop (mkF m 93 #[.val (.int p0), .val (.int p1), .unset, .unset, .unset, .unset] [(.int (15 : Int32)), (.ref b2), (.ref b2)])) _
    refine X62.ldcInt hx hown (mvT hZ (hw _ (List.mem_of_getElem? (i := 2) rfl))) (g := (mkF m 93 #[.val (.int p0), .val (.int p1), .unset, .unset, .unset, .unset] [(.int (15 : Int32)), (.ref b2), (.ref b2)])) rfl (hb hby at_93) _ ?_
    exact kt)
  clear pre63
  have tv65 := V62
  obtain ⟨cl65, Ar65, q65, S65, Ng65, H65, G65⟩ := tv65
  have hin65 : ¬ ((15 : Int32) < 0 ∨ cl65.slots.size ≤ ((15 : Int32)).toNatClampNeg) := inb_of S65 ⟨by decide, by decide⟩
  obtain ⟨T66, h66, X66, e66, W66, st66⟩ := stC X62 hx hZ e62 Ar65 (j := (15 : Int32)) hin65 (g := (mkF m 95 #[.val (.int p0), .val (.int p1), .unset, .unset, .unset, .unset] [(.int (65535 : Int32)), (.int (15 : Int32)), (.ref b2), (.ref b2)])) rfl rfl (hb hby at_95)
  have pre67 : ∀ t, Steps p.tables e below (T66.setTop (mkF m 96 #[.val (.int p0), .val (.int p1), .unset, .unset, .unset, .unset] [(.ref b2)])) t → Steps p.tables e below (s₁.setTop (entryFrame m #[(.int p0), (.int p1)] maxLocals)) t := fun t kt => pre64 t (st66 _ kt)
  clear pre64 st66
  have V66 : Arv Z h66 b2 k2 .char (16 : Int32) [(.int (32 : Int32)), (.int (9 : Int32)), (.int (10 : Int32)), (.int (13 : Int32)), (.int (11 : Int32)), (.int (12 : Int32)), (.int (8 : Int32)), (.int (14 : Int32)), (.int (31 : Int32)), (.int (33 : Int32)), (.int (0 : Int32)), (.int (160 : Int32)), (.int (8232 : Int32)), (.int (12288 : Int32)), (.int (65279 : Int32)), (.int (65535 : Int32))] (.int (0 : Int32)) := Arv.set Ar65 q65 S65 Ng65 H65 G65 (fits_nar_char (65535 : Int32)) W66 15 rfl (Nat.le_of_ble_eq_true rfl)
  have K66 : Keep h0 h66 [] := K62.wr W66 (Or.inr sz2)
  have N66 := Fr.snoc X66 N62 gn2
  have Z66 : n0 ≤ h66.size := Nat.le_trans Z62 (Keep.of_wr W66).1
  have pre68 : ∀ t, Steps p.tables e below (T66.setTop (mkF m 100 #[.val (.int p0), .val (.int p1), .val (.ref b2), .unset, .unset, .unset] [(.int (p1 &&& (1 : Int32)))])) t → Steps p.tables e below (s₁.setTop (entryFrame m #[(.int p0), (.int p1)] maxLocals)) t := fun t kt => pre67 t (by
    show Steps p.tables e below (T66.setTop (mkF m 96 #[.val (.int p0), .val (.int p1), .unset, .unset, .unset, .unset] [(.ref b2)])) _
    refine XS.astoreN X66.here hx rfl (hb hby at_96) rfl rfl (l' := #[.val (.int p0), .val (.int p1), .val (.ref b2), .unset, .unset, .unset]) rfl ?_
    show Steps p.tables e below (T66.setTop (mkF m 97 #[.val (.int p0), .val (.int p1), .val (.ref b2), .unset, .unset, .unset] [])) _
    refine XS.iloadN X66.here hx rfl (hb hby at_97) rfl ?_
    show Steps p.tables e below (T66.setTop (mkF m 98 #[.val (.int p0), .val (.int p1), .val (.ref b2), .unset, .unset, .unset] [(.int p1)])) _
    refine XS.iconst X66.here hx rfl (hb hby at_98) ?_
    show Steps p.tables e below (T66.setTop (mkF m 99 #[.val (.int p0), .val (.int p1), .val (.ref b2), .unset, .unset, .unset] [(.int (1 : Int32)), (.int p1)])) _
    refine XS.iand X66.here hx rfl (hb hby at_99) rfl ?_
    exact kt)
  clear pre67
  by_cases hc100_69 : (p1 &&& (1 : Int32)) = (0 : Int32)
  · have pre70 : ∀ t, Steps p.tables e below (T66.setTop (mkF m 116 #[.val (.int p0), .val (.int p1), .val (.ref b2), .val (.int (p0.toUInt32.toUInt16.toUInt32.toInt32)), .unset, .unset] [])) t → Steps p.tables e below (s₁.setTop (entryFrame m #[(.int p0), (.int p1)] maxLocals)) t := fun t kt => pre68 t (by
      show Steps p.tables e below (T66.setTop (mkF m 100 #[.val (.int p0), .val (.int p1), .val (.ref b2), .unset, .unset, .unset] [(.int (p1 &&& (1 : Int32)))])) _
      refine XS.ifYes X66.here hx rfl (pc0 := 100) (pc' := 113) rfl (hb hby at_100) rfl ((if0 _ _).trans (teq hc100_69).1) (by decide) (by decide) ?_
      show Steps p.tables e below (T66.setTop (mkF m 113 #[.val (.int p0), .val (.int p1), .val (.ref b2), .unset, .unset, .unset] [])) _
      refine XS.iloadN X66.here hx rfl (hb hby at_113) rfl ?_
      show Steps p.tables e below (T66.setTop (mkF m 114 #[.val (.int p0), .val (.int p1), .val (.ref b2), .unset, .unset, .unset] [(.int p0)])) _
      refine XS.i2c X66.here hx rfl (hb hby at_114) rfl ?_
      show Steps p.tables e below (T66.setTop (mkF m 115 #[.val (.int p0), .val (.int p1), .val (.ref b2), .unset, .unset, .unset] [(.int (p0.toUInt32.toUInt16.toUInt32.toInt32))])) _
      refine XS.istoreN X66.here hx rfl (hb hby at_115) rfl (l' := #[.val (.int p0), .val (.int p1), .val (.ref b2), .val (.int (p0.toUInt32.toUInt16.toUInt32.toInt32)), .unset, .unset]) rfl ?_
      exact kt)
    clear pre68
    obtain ⟨ch, hm71, pre71⟩ : ∃ (ch : Int32), (True) ∧ ∀ t, Steps p.tables e below (T66.setTop (mkF m 116 #[.val (.int p0), .val (.int p1), .val (.ref b2), .val (.int ch), .unset, .unset] [])) t → Steps p.tables e below (s₁.setTop (entryFrame m #[(.int p0), (.int p1)] maxLocals)) t := ⟨(p0.toUInt32.toUInt16.toUInt32.toInt32), trivial, pre70⟩
    clear pre70
    have pre72 : ∀ t, Steps p.tables e below (T66.setTop (mkF m 123 #[.val (.int p0), .val (.int p1), .val (.ref b2), .val (.int ch), .val (.int ch), .unset] [(.int (32 : Int32)), (.int ch)])) t → Steps p.tables e below (s₁.setTop (entryFrame m #[(.int p0), (.int p1)] maxLocals)) t := fun t kt => pre71 t (by
      show Steps p.tables e below (T66.setTop (mkF m 116 #[.val (.int p0), .val (.int p1), .val (.ref b2), .val (.int ch), .unset, .unset] [])) _
      refine XS.iloadN X66.here hx rfl (hb hby at_116) rfl ?_
      show Steps p.tables e below (T66.setTop (mkF m 117 #[.val (.int p0), .val (.int p1), .val (.ref b2), .val (.int ch), .unset, .unset] [(.int ch)])) _
      refine XS.istore X66.here hx rfl (hb hby at_117) rfl (l' := #[.val (.int p0), .val (.int p1), .val (.ref b2), .val (.int ch), .val (.int ch), .unset]) rfl ?_
      show Steps p.tables e below (T66.setTop (mkF m 119 #[.val (.int p0), .val (.int p1), .val (.ref b2), .val (.int ch), .val (.int ch), .unset] [])) _
      refine XS.iload X66.here hx rfl (hb hby at_119) rfl ?_
      show Steps p.tables e below (T66.setTop (mkF m 121 #[.val (.int p0), .val (.int p1), .val (.ref b2), .val (.int ch), .val (.int ch), .unset] [(.int ch)])) _
      refine XS.bipush X66.here hx rfl (hb hby at_121) ?_
      exact kt)
    clear pre71
    by_cases hc123_73 : ch = (32 : Int32)
    · have pre74 : ∀ t, Steps p.tables e below (T66.setTop (mkF m 162 #[.val (.int p0), .val (.int p1), .val (.ref b2), .val (.int ch), .val (.int ch), .val (.int (1 : Int32))] [(.int ch)])) t → Steps p.tables e below (s₁.setTop (entryFrame m #[(.int p0), (.int p1)] maxLocals)) t := fun t kt => pre72 t (by
        show Steps p.tables e below (T66.setTop (mkF m 123 #[.val (.int p0), .val (.int p1), .val (.ref b2), .val (.int ch), .val (.int ch), .unset] [(.int (32 : Int32)), (.int ch)])) _
        refine XS.icmpYes X66.here hx rfl (pc0 := 123) (pc' := 154) rfl (hb hby at_123) rfl (teq hc123_73).1 (by decide) (by decide) ?_
        show Steps p.tables e below (T66.setTop (mkF m 154 #[.val (.int p0), .val (.int p1), .val (.ref b2), .val (.int ch), .val (.int ch), .unset] [])) _
        refine XS.iconst X66.here hx rfl (hb hby at_154) ?_
        show Steps p.tables e below (T66.setTop (mkF m 155 #[.val (.int p0), .val (.int p1), .val (.ref b2), .val (.int ch), .val (.int ch), .unset] [(.int (1 : Int32))])) _
        refine XS.goto X66.here hx rfl (pc0 := 155) (pc' := 159) rfl (hb hby at_155) (by decide) (by decide) ?_
        show Steps p.tables e below (T66.setTop (mkF m 159 #[.val (.int p0), .val (.int p1), .val (.ref b2), .val (.int ch), .val (.int ch), .unset] [(.int (1 : Int32))])) _
        refine XS.istore X66.here hx rfl (hb hby at_159) rfl (l' := #[.val (.int p0), .val (.int p1), .val (.ref b2), .val (.int ch), .val (.int ch), .val (.int (1 : Int32))]) rfl ?_
        show Steps p.tables e below (T66.setTop (mkF m 161 #[.val (.int p0), .val (.int p1), .val (.ref b2), .val (.int ch), .val (.int ch), .val (.int (1 : Int32))] [])) _
        refine XS.iloadN X66.here hx rfl (hb hby at_161) rfl ?_
        exact kt)
      clear pre72
      obtain ⟨_, _, ⟨T75, L75, k75, n75⟩, -, X75, ⟨Lc75, hQ75, l75, y75, z75⟩, st75⟩ := Jvm.LawKit.callS X66 hx (y := (⟨site_162.cls, "isBlank", "(C)Z"⟩ : MethodName)) hown (mvT hZ (hw _ (List.mem_of_getElem? (i := 3) rfl))) (mvT hZ (hw _ (List.mem_of_getElem? (i := 4) rfl))) (mvT hZ (hw _ (List.mem_of_getElem? (i := 5) rfl))) (mvT hZ (hw _ (List.mem_of_getElem? (i := 6) rfl))) (by decide) (backOf (W := 0) (rm1 l Z av hw [] ch  h66 n0 Z66 ) hZ (hw _ (List.mem_of_getElem? (i := 6) rfl)) (hw _ (List.mem_of_getElem? (i := 5) rfl)) (by decide) (by decide)) (g := (mkF m 162 #[.val (.int p0), .val (.int p1), .val (.ref b2), .val (.int ch), .val (.int ch), .val (.int (1 : Int32))] [(.int ch)])) rfl (by rw [hml]; rfl) (argsL := [(.int ch)]) (rest := []) (lenOf pd__C_Z rfl) rfl (by show 2 * 0 + _ ≤ _; exact Nat.le_of_eq rfl) (hb hby at_162) (fun _ _ => ⟨rfl, e66, (by decide : 1 + 0 ≤ _), (by decide : 16 + 0 ≤ _)⟩)
      dsimp only [Pt.U, Pt.locs, Pt.cells, Pt.slots] at X75 l75 y75 z75 st75 hQ75
      rw [l75, y75, z75] at X75
      clear l75 y75 z75
      obtain ⟨rfl, N75q, e75⟩ := hQ75
      have N75 := Fr.app N66 N75q
      have pre76 : ∀ t, Steps p.tables e below (T75.setTop (mkF m 165 #[.val (.int p0), .val (.int p1), .val (.ref b2), .val (.int ch), .val (.int ch), .val (.int (1 : Int32))] [(.int (f1 ch))])) t → Steps p.tables e below (s₁.setTop (entryFrame m #[(.int p0), (.int p1)] maxLocals)) t := fun t kt => pre74 t (st75 _ kt)
      clear pre74 st75
      have pre77 : ∀ t, Steps p.tables e below (T75.setTop (mkF m 175 #[.val (.int p0), .val (.int p1), .val (.ref b2), .val (.int ch), .val (.int ch), .val (.int (1 : Int32))] [(.int (1 : Int32))])) t → Steps p.tables e below (s₁.setTop (entryFrame m #[(.int p0), (.int p1)] maxLocals)) t := fun t kt => pre76 t (by
        show Steps p.tables e below (T75.setTop (mkF m 165 #[.val (.int p0), .val (.int p1), .val (.ref b2), .val (.int ch), .val (.int ch), .val (.int (1 : Int32))] [(.int (f1 ch))])) _
        refine XS.iload X75.here hx rfl (hb hby at_165) rfl ?_
        show Steps p.tables e below (T75.setTop (mkF m 167 #[.val (.int p0), .val (.int p1), .val (.ref b2), .val (.int ch), .val (.int ch), .val (.int (1 : Int32))] [(.int (1 : Int32)), (.int (f1 ch))])) _
        refine XS.icmpNo X75.here hx rfl (hb hby at_167) rfl (teq (by rw [own_law]; simp only [← Int32.toInt_inj, Int32.lt_iff_toInt_lt, Int32.reduceToInt] at hc123_73; first | rw [if_pos (by omega)] | rw [if_neg (by omega)] : (f1 ch) = (1 : Int32))).2 ?_
        show Steps p.tables e below (T75.setTop (mkF m 170 #[.val (.int p0), .val (.int p1), .val (.ref b2), .val (.int ch), .val (.int ch), .val (.int (1 : Int32))] [])) _
        refine XS.iconst X75.here hx rfl (hb hby at_170) ?_
        show Steps p.tables e below (T75.setTop (mkF m 171 #[.val (.int p0), .val (.int p1), .val (.ref b2), .val (.int ch), .val (.int ch), .val (.int (1 : Int32))] [(.int (1 : Int32))])) _
        refine XS.goto X75.here hx rfl (pc0 := 171) (pc' := 175) rfl (hb hby at_171) (by decide) (by decide) ?_
        exact kt)
      clear pre76
      obtain ⟨fs, hr, hrun, hended, hW, hsame⟩ := X75.leave (v := some (.int (1 : Int32))) (fun h => by rw [Bd.returns] at h; cases h)
      refine ⟨_, _, pre77 _ ?_, hrun, hended, _, _, rfl, ?_, ⟨_, rfl⟩, hW, hsame.mono (by decide) (by decide)⟩
      · show Steps p.tables e below (T75.setTop (mkF m 175 #[.val (.int p0), .val (.int p1), .val (.ref b2), .val (.int ch), .val (.int ch), .val (.int (1 : Int32))] [(.int (1 : Int32))])) _
        exact retN X75 hx (t := .boolean) Bd.returns (by simp) (hb hby at_175) hr
      · show Q0 Z p0 p1 h0 n0 _ T75.heap _
        rw [e75]
        exact ⟨rfl, N75⟩
    · have pre78 : ∀ t, Steps p.tables e below (T66.setTop (mkF m 130 #[.val (.int p0), .val (.int p1), .val (.ref b2), .val (.int ch), .val (.int ch), .unset] [(.int (9 : Int32)), (.int ch)])) t → Steps p.tables e below (s₁.setTop (entryFrame m #[(.int p0), (.int p1)] maxLocals)) t := fun t kt => pre72 t (by
        show Steps p.tables e below (T66.setTop (mkF m 123 #[.val (.int p0), .val (.int p1), .val (.ref b2), .val (.int ch), .val (.int ch), .unset] [(.int (32 : Int32)), (.int ch)])) _
        refine XS.icmpNo X66.here hx rfl (hb hby at_123) rfl (feq hc123_73).1 ?_
        show Steps p.tables e below (T66.setTop (mkF m 126 #[.val (.int p0), .val (.int p1), .val (.ref b2), .val (.int ch), .val (.int ch), .unset] [])) _
        refine XS.iload X66.here hx rfl (hb hby at_126) rfl ?_
        show Steps p.tables e below (T66.setTop (mkF m 128 #[.val (.int p0), .val (.int p1), .val (.ref b2), .val (.int ch), .val (.int ch), .unset] [(.int ch)])) _
        refine XS.bipush X66.here hx rfl (hb hby at_128) ?_
        exact kt)
      clear pre72
      by_cases hc130_79 : ch < (9 : Int32)
      · have pre80 : ∀ t, Steps p.tables e below (T66.setTop (mkF m 162 #[.val (.int p0), .val (.int p1), .val (.ref b2), .val (.int ch), .val (.int ch), .val (.int (0 : Int32))] [(.int ch)])) t → Steps p.tables e below (s₁.setTop (entryFrame m #[(.int p0), (.int p1)] maxLocals)) t := fun t kt => pre78 t (by
          show Steps p.tables e below (T66.setTop (mkF m 130 #[.val (.int p0), .val (.int p1), .val (.ref b2), .val (.int ch), .val (.int ch), .unset] [(.int (9 : Int32)), (.int ch)])) _
          refine XS.icmpYes X66.here hx rfl (pc0 := 130) (pc' := 158) rfl (hb hby at_130) rfl (tlt hc130_79).1 (by decide) (by decide) ?_
          show Steps p.tables e below (T66.setTop (mkF m 158 #[.val (.int p0), .val (.int p1), .val (.ref b2), .val (.int ch), .val (.int ch), .unset] [])) _
          refine XS.iconst X66.here hx rfl (hb hby at_158) ?_
          show Steps p.tables e below (T66.setTop (mkF m 159 #[.val (.int p0), .val (.int p1), .val (.ref b2), .val (.int ch), .val (.int ch), .unset] [(.int (0 : Int32))])) _
          refine XS.istore X66.here hx rfl (hb hby at_159) rfl (l' := #[.val (.int p0), .val (.int p1), .val (.ref b2), .val (.int ch), .val (.int ch), .val (.int (0 : Int32))]) rfl ?_
          show Steps p.tables e below (T66.setTop (mkF m 161 #[.val (.int p0), .val (.int p1), .val (.ref b2), .val (.int ch), .val (.int ch), .val (.int (0 : Int32))] [])) _
          refine XS.iloadN X66.here hx rfl (hb hby at_161) rfl ?_
          exact kt)
        clear pre78
        obtain ⟨_, _, ⟨T81, L81, k81, n81⟩, -, X81, ⟨Lc81, hQ81, l81, y81, z81⟩, st81⟩ := Jvm.LawKit.callS X66 hx (y := (⟨site_162.cls, "isBlank", "(C)Z"⟩ : MethodName)) hown (mvT hZ (hw _ (List.mem_of_getElem? (i := 3) rfl))) (mvT hZ (hw _ (List.mem_of_getElem? (i := 4) rfl))) (mvT hZ (hw _ (List.mem_of_getElem? (i := 5) rfl))) (mvT hZ (hw _ (List.mem_of_getElem? (i := 6) rfl))) (by decide) (backOf (W := 0) (rm1 l Z av hw [] ch  h66 n0 Z66 ) hZ (hw _ (List.mem_of_getElem? (i := 6) rfl)) (hw _ (List.mem_of_getElem? (i := 5) rfl)) (by decide) (by decide)) (g := (mkF m 162 #[.val (.int p0), .val (.int p1), .val (.ref b2), .val (.int ch), .val (.int ch), .val (.int (0 : Int32))] [(.int ch)])) rfl (by rw [hml]; rfl) (argsL := [(.int ch)]) (rest := []) (lenOf pd__C_Z rfl) rfl (by show 2 * 0 + _ ≤ _; exact Nat.le_of_eq rfl) (hb hby at_162) (fun _ _ => ⟨rfl, e66, (by decide : 1 + 0 ≤ _), (by decide : 16 + 0 ≤ _)⟩)
        dsimp only [Pt.U, Pt.locs, Pt.cells, Pt.slots] at X81 l81 y81 z81 st81 hQ81
        rw [l81, y81, z81] at X81
        clear l81 y81 z81
        obtain ⟨rfl, N81q, e81⟩ := hQ81
        have N81 := Fr.app N66 N81q
        have pre82 : ∀ t, Steps p.tables e below (T81.setTop (mkF m 165 #[.val (.int p0), .val (.int p1), .val (.ref b2), .val (.int ch), .val (.int ch), .val (.int (0 : Int32))] [(.int (f1 ch))])) t → Steps p.tables e below (s₁.setTop (entryFrame m #[(.int p0), (.int p1)] maxLocals)) t := fun t kt => pre80 t (st81 _ kt)
        clear pre80 st81
        have pre83 : ∀ t, Steps p.tables e below (T81.setTop (mkF m 175 #[.val (.int p0), .val (.int p1), .val (.ref b2), .val (.int ch), .val (.int ch), .val (.int (0 : Int32))] [(.int (1 : Int32))])) t → Steps p.tables e below (s₁.setTop (entryFrame m #[(.int p0), (.int p1)] maxLocals)) t := fun t kt => pre82 t (by
          show Steps p.tables e below (T81.setTop (mkF m 165 #[.val (.int p0), .val (.int p1), .val (.ref b2), .val (.int ch), .val (.int ch), .val (.int (0 : Int32))] [(.int (f1 ch))])) _
          refine XS.iload X81.here hx rfl (hb hby at_165) rfl ?_
          show Steps p.tables e below (T81.setTop (mkF m 167 #[.val (.int p0), .val (.int p1), .val (.ref b2), .val (.int ch), .val (.int ch), .val (.int (0 : Int32))] [(.int (0 : Int32)), (.int (f1 ch))])) _
          refine XS.icmpNo X81.here hx rfl (hb hby at_167) rfl (teq (by rw [own_law]; simp only [← Int32.toInt_inj, Int32.lt_iff_toInt_lt, Int32.reduceToInt] at hc123_73 hc130_79; first | rw [if_pos (by omega)] | rw [if_neg (by omega)] : (f1 ch) = (0 : Int32))).2 ?_
          show Steps p.tables e below (T81.setTop (mkF m 170 #[.val (.int p0), .val (.int p1), .val (.ref b2), .val (.int ch), .val (.int ch), .val (.int (0 : Int32))] [])) _
          refine XS.iconst X81.here hx rfl (hb hby at_170) ?_
          show Steps p.tables e below (T81.setTop (mkF m 171 #[.val (.int p0), .val (.int p1), .val (.ref b2), .val (.int ch), .val (.int ch), .val (.int (0 : Int32))] [(.int (1 : Int32))])) _
          refine XS.goto X81.here hx rfl (pc0 := 171) (pc' := 175) rfl (hb hby at_171) (by decide) (by decide) ?_
          exact kt)
        clear pre82
        obtain ⟨fs, hr, hrun, hended, hW, hsame⟩ := X81.leave (v := some (.int (1 : Int32))) (fun h => by rw [Bd.returns] at h; cases h)
        refine ⟨_, _, pre83 _ ?_, hrun, hended, _, _, rfl, ?_, ⟨_, rfl⟩, hW, hsame.mono (by decide) (by decide)⟩
        · show Steps p.tables e below (T81.setTop (mkF m 175 #[.val (.int p0), .val (.int p1), .val (.ref b2), .val (.int ch), .val (.int ch), .val (.int (0 : Int32))] [(.int (1 : Int32))])) _
          exact retN X81 hx (t := .boolean) Bd.returns (by simp) (hb hby at_175) hr
        · show Q0 Z p0 p1 h0 n0 _ T81.heap _
          rw [e81]
          exact ⟨rfl, N81⟩
      · have pre84 : ∀ t, Steps p.tables e below (T66.setTop (mkF m 137 #[.val (.int p0), .val (.int p1), .val (.ref b2), .val (.int ch), .val (.int ch), .unset] [(.int (13 : Int32)), (.int ch)])) t → Steps p.tables e below (s₁.setTop (entryFrame m #[(.int p0), (.int p1)] maxLocals)) t := fun t kt => pre78 t (by
          show Steps p.tables e below (T66.setTop (mkF m 130 #[.val (.int p0), .val (.int p1), .val (.ref b2), .val (.int ch), .val (.int ch), .unset] [(.int (9 : Int32)), (.int ch)])) _
          refine XS.icmpNo X66.here hx rfl (hb hby at_130) rfl (flt hc130_79).1 ?_
          show Steps p.tables e below (T66.setTop (mkF m 133 #[.val (.int p0), .val (.int p1), .val (.ref b2), .val (.int ch), .val (.int ch), .unset] [])) _
          refine XS.iload X66.here hx rfl (hb hby at_133) rfl ?_
          show Steps p.tables e below (T66.setTop (mkF m 135 #[.val (.int p0), .val (.int p1), .val (.ref b2), .val (.int ch), .val (.int ch), .unset] [(.int ch)])) _
          refine XS.bipush X66.here hx rfl (hb hby at_135) ?_
          exact kt)
        clear pre78
        by_cases hc137_85 : (13 : Int32) < ch
        · have pre86 : ∀ t, Steps p.tables e below (T66.setTop (mkF m 162 #[.val (.int p0), .val (.int p1), .val (.ref b2), .val (.int ch), .val (.int ch), .val (.int (0 : Int32))] [(.int ch)])) t → Steps p.tables e below (s₁.setTop (entryFrame m #[(.int p0), (.int p1)] maxLocals)) t := fun t kt => pre84 t (by
            show Steps p.tables e below (T66.setTop (mkF m 137 #[.val (.int p0), .val (.int p1), .val (.ref b2), .val (.int ch), .val (.int ch), .unset] [(.int (13 : Int32)), (.int ch)])) _
            refine XS.icmpYes X66.here hx rfl (pc0 := 137) (pc' := 158) rfl (hb hby at_137) rfl (tlt hc137_85).2.2.1 (by decide) (by decide) ?_
            show Steps p.tables e below (T66.setTop (mkF m 158 #[.val (.int p0), .val (.int p1), .val (.ref b2), .val (.int ch), .val (.int ch), .unset] [])) _
            refine XS.iconst X66.here hx rfl (hb hby at_158) ?_
            show Steps p.tables e below (T66.setTop (mkF m 159 #[.val (.int p0), .val (.int p1), .val (.ref b2), .val (.int ch), .val (.int ch), .unset] [(.int (0 : Int32))])) _
            refine XS.istore X66.here hx rfl (hb hby at_159) rfl (l' := #[.val (.int p0), .val (.int p1), .val (.ref b2), .val (.int ch), .val (.int ch), .val (.int (0 : Int32))]) rfl ?_
            show Steps p.tables e below (T66.setTop (mkF m 161 #[.val (.int p0), .val (.int p1), .val (.ref b2), .val (.int ch), .val (.int ch), .val (.int (0 : Int32))] [])) _
            refine XS.iloadN X66.here hx rfl (hb hby at_161) rfl ?_
            exact kt)
          clear pre84
          obtain ⟨_, _, ⟨T87, L87, k87, n87⟩, -, X87, ⟨Lc87, hQ87, l87, y87, z87⟩, st87⟩ := Jvm.LawKit.callS X66 hx (y := (⟨site_162.cls, "isBlank", "(C)Z"⟩ : MethodName)) hown (mvT hZ (hw _ (List.mem_of_getElem? (i := 3) rfl))) (mvT hZ (hw _ (List.mem_of_getElem? (i := 4) rfl))) (mvT hZ (hw _ (List.mem_of_getElem? (i := 5) rfl))) (mvT hZ (hw _ (List.mem_of_getElem? (i := 6) rfl))) (by decide) (backOf (W := 0) (rm1 l Z av hw [] ch  h66 n0 Z66 ) hZ (hw _ (List.mem_of_getElem? (i := 6) rfl)) (hw _ (List.mem_of_getElem? (i := 5) rfl)) (by decide) (by decide)) (g := (mkF m 162 #[.val (.int p0), .val (.int p1), .val (.ref b2), .val (.int ch), .val (.int ch), .val (.int (0 : Int32))] [(.int ch)])) rfl (by rw [hml]; rfl) (argsL := [(.int ch)]) (rest := []) (lenOf pd__C_Z rfl) rfl (by show 2 * 0 + _ ≤ _; exact Nat.le_of_eq rfl) (hb hby at_162) (fun _ _ => ⟨rfl, e66, (by decide : 1 + 0 ≤ _), (by decide : 16 + 0 ≤ _)⟩)
          dsimp only [Pt.U, Pt.locs, Pt.cells, Pt.slots] at X87 l87 y87 z87 st87 hQ87
          rw [l87, y87, z87] at X87
          clear l87 y87 z87
          obtain ⟨rfl, N87q, e87⟩ := hQ87
          have N87 := Fr.app N66 N87q
          have pre88 : ∀ t, Steps p.tables e below (T87.setTop (mkF m 165 #[.val (.int p0), .val (.int p1), .val (.ref b2), .val (.int ch), .val (.int ch), .val (.int (0 : Int32))] [(.int (f1 ch))])) t → Steps p.tables e below (s₁.setTop (entryFrame m #[(.int p0), (.int p1)] maxLocals)) t := fun t kt => pre86 t (st87 _ kt)
          clear pre86 st87
          have pre89 : ∀ t, Steps p.tables e below (T87.setTop (mkF m 175 #[.val (.int p0), .val (.int p1), .val (.ref b2), .val (.int ch), .val (.int ch), .val (.int (0 : Int32))] [(.int (1 : Int32))])) t → Steps p.tables e below (s₁.setTop (entryFrame m #[(.int p0), (.int p1)] maxLocals)) t := fun t kt => pre88 t (by
            show Steps p.tables e below (T87.setTop (mkF m 165 #[.val (.int p0), .val (.int p1), .val (.ref b2), .val (.int ch), .val (.int ch), .val (.int (0 : Int32))] [(.int (f1 ch))])) _
            refine XS.iload X87.here hx rfl (hb hby at_165) rfl ?_
            show Steps p.tables e below (T87.setTop (mkF m 167 #[.val (.int p0), .val (.int p1), .val (.ref b2), .val (.int ch), .val (.int ch), .val (.int (0 : Int32))] [(.int (0 : Int32)), (.int (f1 ch))])) _
            refine XS.icmpNo X87.here hx rfl (hb hby at_167) rfl (teq (by rw [own_law]; simp only [← Int32.toInt_inj, Int32.lt_iff_toInt_lt, Int32.reduceToInt] at hc123_73 hc130_79 hc137_85; first | rw [if_pos (by omega)] | rw [if_neg (by omega)] : (f1 ch) = (0 : Int32))).2 ?_
            show Steps p.tables e below (T87.setTop (mkF m 170 #[.val (.int p0), .val (.int p1), .val (.ref b2), .val (.int ch), .val (.int ch), .val (.int (0 : Int32))] [])) _
            refine XS.iconst X87.here hx rfl (hb hby at_170) ?_
            show Steps p.tables e below (T87.setTop (mkF m 171 #[.val (.int p0), .val (.int p1), .val (.ref b2), .val (.int ch), .val (.int ch), .val (.int (0 : Int32))] [(.int (1 : Int32))])) _
            refine XS.goto X87.here hx rfl (pc0 := 171) (pc' := 175) rfl (hb hby at_171) (by decide) (by decide) ?_
            exact kt)
          clear pre88
          obtain ⟨fs, hr, hrun, hended, hW, hsame⟩ := X87.leave (v := some (.int (1 : Int32))) (fun h => by rw [Bd.returns] at h; cases h)
          refine ⟨_, _, pre89 _ ?_, hrun, hended, _, _, rfl, ?_, ⟨_, rfl⟩, hW, hsame.mono (by decide) (by decide)⟩
          · show Steps p.tables e below (T87.setTop (mkF m 175 #[.val (.int p0), .val (.int p1), .val (.ref b2), .val (.int ch), .val (.int ch), .val (.int (0 : Int32))] [(.int (1 : Int32))])) _
            exact retN X87 hx (t := .boolean) Bd.returns (by simp) (hb hby at_175) hr
          · show Q0 Z p0 p1 h0 n0 _ T87.heap _
            rw [e87]
            exact ⟨rfl, N87⟩
        · have pre90 : ∀ t, Steps p.tables e below (T66.setTop (mkF m 144 #[.val (.int p0), .val (.int p1), .val (.ref b2), .val (.int ch), .val (.int ch), .unset] [(.int (11 : Int32)), (.int ch)])) t → Steps p.tables e below (s₁.setTop (entryFrame m #[(.int p0), (.int p1)] maxLocals)) t := fun t kt => pre84 t (by
            show Steps p.tables e below (T66.setTop (mkF m 137 #[.val (.int p0), .val (.int p1), .val (.ref b2), .val (.int ch), .val (.int ch), .unset] [(.int (13 : Int32)), (.int ch)])) _
            refine XS.icmpNo X66.here hx rfl (hb hby at_137) rfl (flt hc137_85).2.2.1 ?_
            show Steps p.tables e below (T66.setTop (mkF m 140 #[.val (.int p0), .val (.int p1), .val (.ref b2), .val (.int ch), .val (.int ch), .unset] [])) _
            refine XS.iload X66.here hx rfl (hb hby at_140) rfl ?_
            show Steps p.tables e below (T66.setTop (mkF m 142 #[.val (.int p0), .val (.int p1), .val (.ref b2), .val (.int ch), .val (.int ch), .unset] [(.int ch)])) _
            refine XS.bipush X66.here hx rfl (hb hby at_142) ?_
            exact kt)
          clear pre84
          by_cases hc144_91 : ch = (11 : Int32)
          · have pre92 : ∀ t, Steps p.tables e below (T66.setTop (mkF m 162 #[.val (.int p0), .val (.int p1), .val (.ref b2), .val (.int ch), .val (.int ch), .val (.int (0 : Int32))] [(.int ch)])) t → Steps p.tables e below (s₁.setTop (entryFrame m #[(.int p0), (.int p1)] maxLocals)) t := fun t kt => pre90 t (by
              show Steps p.tables e below (T66.setTop (mkF m 144 #[.val (.int p0), .val (.int p1), .val (.ref b2), .val (.int ch), .val (.int ch), .unset] [(.int (11 : Int32)), (.int ch)])) _
              refine XS.icmpYes X66.here hx rfl (pc0 := 144) (pc' := 158) rfl (hb hby at_144) rfl (teq hc144_91).1 (by decide) (by decide) ?_
              show Steps p.tables e below (T66.setTop (mkF m 158 #[.val (.int p0), .val (.int p1), .val (.ref b2), .val (.int ch), .val (.int ch), .unset] [])) _
              refine XS.iconst X66.here hx rfl (hb hby at_158) ?_
              show Steps p.tables e below (T66.setTop (mkF m 159 #[.val (.int p0), .val (.int p1), .val (.ref b2), .val (.int ch), .val (.int ch), .unset] [(.int (0 : Int32))])) _
              refine XS.istore X66.here hx rfl (hb hby at_159) rfl (l' := #[.val (.int p0), .val (.int p1), .val (.ref b2), .val (.int ch), .val (.int ch), .val (.int (0 : Int32))]) rfl ?_
              show Steps p.tables e below (T66.setTop (mkF m 161 #[.val (.int p0), .val (.int p1), .val (.ref b2), .val (.int ch), .val (.int ch), .val (.int (0 : Int32))] [])) _
              refine XS.iloadN X66.here hx rfl (hb hby at_161) rfl ?_
              exact kt)
            clear pre90
            obtain ⟨_, _, ⟨T93, L93, k93, n93⟩, -, X93, ⟨Lc93, hQ93, l93, y93, z93⟩, st93⟩ := Jvm.LawKit.callS X66 hx (y := (⟨site_162.cls, "isBlank", "(C)Z"⟩ : MethodName)) hown (mvT hZ (hw _ (List.mem_of_getElem? (i := 3) rfl))) (mvT hZ (hw _ (List.mem_of_getElem? (i := 4) rfl))) (mvT hZ (hw _ (List.mem_of_getElem? (i := 5) rfl))) (mvT hZ (hw _ (List.mem_of_getElem? (i := 6) rfl))) (by decide) (backOf (W := 0) (rm1 l Z av hw [] ch  h66 n0 Z66 ) hZ (hw _ (List.mem_of_getElem? (i := 6) rfl)) (hw _ (List.mem_of_getElem? (i := 5) rfl)) (by decide) (by decide)) (g := (mkF m 162 #[.val (.int p0), .val (.int p1), .val (.ref b2), .val (.int ch), .val (.int ch), .val (.int (0 : Int32))] [(.int ch)])) rfl (by rw [hml]; rfl) (argsL := [(.int ch)]) (rest := []) (lenOf pd__C_Z rfl) rfl (by show 2 * 0 + _ ≤ _; exact Nat.le_of_eq rfl) (hb hby at_162) (fun _ _ => ⟨rfl, e66, (by decide : 1 + 0 ≤ _), (by decide : 16 + 0 ≤ _)⟩)
            dsimp only [Pt.U, Pt.locs, Pt.cells, Pt.slots] at X93 l93 y93 z93 st93 hQ93
            rw [l93, y93, z93] at X93
            clear l93 y93 z93
            obtain ⟨rfl, N93q, e93⟩ := hQ93
            have N93 := Fr.app N66 N93q
            have pre94 : ∀ t, Steps p.tables e below (T93.setTop (mkF m 165 #[.val (.int p0), .val (.int p1), .val (.ref b2), .val (.int ch), .val (.int ch), .val (.int (0 : Int32))] [(.int (f1 ch))])) t → Steps p.tables e below (s₁.setTop (entryFrame m #[(.int p0), (.int p1)] maxLocals)) t := fun t kt => pre92 t (st93 _ kt)
            clear pre92 st93
            have pre95 : ∀ t, Steps p.tables e below (T93.setTop (mkF m 175 #[.val (.int p0), .val (.int p1), .val (.ref b2), .val (.int ch), .val (.int ch), .val (.int (0 : Int32))] [(.int (1 : Int32))])) t → Steps p.tables e below (s₁.setTop (entryFrame m #[(.int p0), (.int p1)] maxLocals)) t := fun t kt => pre94 t (by
              show Steps p.tables e below (T93.setTop (mkF m 165 #[.val (.int p0), .val (.int p1), .val (.ref b2), .val (.int ch), .val (.int ch), .val (.int (0 : Int32))] [(.int (f1 ch))])) _
              refine XS.iload X93.here hx rfl (hb hby at_165) rfl ?_
              show Steps p.tables e below (T93.setTop (mkF m 167 #[.val (.int p0), .val (.int p1), .val (.ref b2), .val (.int ch), .val (.int ch), .val (.int (0 : Int32))] [(.int (0 : Int32)), (.int (f1 ch))])) _
              refine XS.icmpNo X93.here hx rfl (hb hby at_167) rfl (teq (by rw [own_law]; simp only [← Int32.toInt_inj, Int32.lt_iff_toInt_lt, Int32.reduceToInt] at hc123_73 hc130_79 hc137_85 hc144_91; first | rw [if_pos (by omega)] | rw [if_neg (by omega)] : (f1 ch) = (0 : Int32))).2 ?_
              show Steps p.tables e below (T93.setTop (mkF m 170 #[.val (.int p0), .val (.int p1), .val (.ref b2), .val (.int ch), .val (.int ch), .val (.int (0 : Int32))] [])) _
              refine XS.iconst X93.here hx rfl (hb hby at_170) ?_
              show Steps p.tables e below (T93.setTop (mkF m 171 #[.val (.int p0), .val (.int p1), .val (.ref b2), .val (.int ch), .val (.int ch), .val (.int (0 : Int32))] [(.int (1 : Int32))])) _
              refine XS.goto X93.here hx rfl (pc0 := 171) (pc' := 175) rfl (hb hby at_171) (by decide) (by decide) ?_
              exact kt)
            clear pre94
            obtain ⟨fs, hr, hrun, hended, hW, hsame⟩ := X93.leave (v := some (.int (1 : Int32))) (fun h => by rw [Bd.returns] at h; cases h)
            refine ⟨_, _, pre95 _ ?_, hrun, hended, _, _, rfl, ?_, ⟨_, rfl⟩, hW, hsame.mono (by decide) (by decide)⟩
            · show Steps p.tables e below (T93.setTop (mkF m 175 #[.val (.int p0), .val (.int p1), .val (.ref b2), .val (.int ch), .val (.int ch), .val (.int (0 : Int32))] [(.int (1 : Int32))])) _
              exact retN X93 hx (t := .boolean) Bd.returns (by simp) (hb hby at_175) hr
            · show Q0 Z p0 p1 h0 n0 _ T93.heap _
              rw [e93]
              exact ⟨rfl, N93⟩
          · have pre96 : ∀ t, Steps p.tables e below (T66.setTop (mkF m 151 #[.val (.int p0), .val (.int p1), .val (.ref b2), .val (.int ch), .val (.int ch), .unset] [(.int (12 : Int32)), (.int ch)])) t → Steps p.tables e below (s₁.setTop (entryFrame m #[(.int p0), (.int p1)] maxLocals)) t := fun t kt => pre90 t (by
              show Steps p.tables e below (T66.setTop (mkF m 144 #[.val (.int p0), .val (.int p1), .val (.ref b2), .val (.int ch), .val (.int ch), .unset] [(.int (11 : Int32)), (.int ch)])) _
              refine XS.icmpNo X66.here hx rfl (hb hby at_144) rfl (feq hc144_91).1 ?_
              show Steps p.tables e below (T66.setTop (mkF m 147 #[.val (.int p0), .val (.int p1), .val (.ref b2), .val (.int ch), .val (.int ch), .unset] [])) _
              refine XS.iload X66.here hx rfl (hb hby at_147) rfl ?_
              show Steps p.tables e below (T66.setTop (mkF m 149 #[.val (.int p0), .val (.int p1), .val (.ref b2), .val (.int ch), .val (.int ch), .unset] [(.int ch)])) _
              refine XS.bipush X66.here hx rfl (hb hby at_149) ?_
              exact kt)
            clear pre90
            by_cases hc151_97 : ch = (12 : Int32)
            · have pre98 : ∀ t, Steps p.tables e below (T66.setTop (mkF m 162 #[.val (.int p0), .val (.int p1), .val (.ref b2), .val (.int ch), .val (.int ch), .val (.int (0 : Int32))] [(.int ch)])) t → Steps p.tables e below (s₁.setTop (entryFrame m #[(.int p0), (.int p1)] maxLocals)) t := fun t kt => pre96 t (by
                show Steps p.tables e below (T66.setTop (mkF m 151 #[.val (.int p0), .val (.int p1), .val (.ref b2), .val (.int ch), .val (.int ch), .unset] [(.int (12 : Int32)), (.int ch)])) _
                refine XS.icmpYes X66.here hx rfl (pc0 := 151) (pc' := 158) rfl (hb hby at_151) rfl (teq hc151_97).1 (by decide) (by decide) ?_
                show Steps p.tables e below (T66.setTop (mkF m 158 #[.val (.int p0), .val (.int p1), .val (.ref b2), .val (.int ch), .val (.int ch), .unset] [])) _
                refine XS.iconst X66.here hx rfl (hb hby at_158) ?_
                show Steps p.tables e below (T66.setTop (mkF m 159 #[.val (.int p0), .val (.int p1), .val (.ref b2), .val (.int ch), .val (.int ch), .unset] [(.int (0 : Int32))])) _
                refine XS.istore X66.here hx rfl (hb hby at_159) rfl (l' := #[.val (.int p0), .val (.int p1), .val (.ref b2), .val (.int ch), .val (.int ch), .val (.int (0 : Int32))]) rfl ?_
                show Steps p.tables e below (T66.setTop (mkF m 161 #[.val (.int p0), .val (.int p1), .val (.ref b2), .val (.int ch), .val (.int ch), .val (.int (0 : Int32))] [])) _
                refine XS.iloadN X66.here hx rfl (hb hby at_161) rfl ?_
                exact kt)
              clear pre96
              obtain ⟨_, _, ⟨T99, L99, k99, n99⟩, -, X99, ⟨Lc99, hQ99, l99, y99, z99⟩, st99⟩ := Jvm.LawKit.callS X66 hx (y := (⟨site_162.cls, "isBlank", "(C)Z"⟩ : MethodName)) hown (mvT hZ (hw _ (List.mem_of_getElem? (i := 3) rfl))) (mvT hZ (hw _ (List.mem_of_getElem? (i := 4) rfl))) (mvT hZ (hw _ (List.mem_of_getElem? (i := 5) rfl))) (mvT hZ (hw _ (List.mem_of_getElem? (i := 6) rfl))) (by decide) (backOf (W := 0) (rm1 l Z av hw [] ch  h66 n0 Z66 ) hZ (hw _ (List.mem_of_getElem? (i := 6) rfl)) (hw _ (List.mem_of_getElem? (i := 5) rfl)) (by decide) (by decide)) (g := (mkF m 162 #[.val (.int p0), .val (.int p1), .val (.ref b2), .val (.int ch), .val (.int ch), .val (.int (0 : Int32))] [(.int ch)])) rfl (by rw [hml]; rfl) (argsL := [(.int ch)]) (rest := []) (lenOf pd__C_Z rfl) rfl (by show 2 * 0 + _ ≤ _; exact Nat.le_of_eq rfl) (hb hby at_162) (fun _ _ => ⟨rfl, e66, (by decide : 1 + 0 ≤ _), (by decide : 16 + 0 ≤ _)⟩)
              dsimp only [Pt.U, Pt.locs, Pt.cells, Pt.slots] at X99 l99 y99 z99 st99 hQ99
              rw [l99, y99, z99] at X99
              clear l99 y99 z99
              obtain ⟨rfl, N99q, e99⟩ := hQ99
              have N99 := Fr.app N66 N99q
              have pre100 : ∀ t, Steps p.tables e below (T99.setTop (mkF m 165 #[.val (.int p0), .val (.int p1), .val (.ref b2), .val (.int ch), .val (.int ch), .val (.int (0 : Int32))] [(.int (f1 ch))])) t → Steps p.tables e below (s₁.setTop (entryFrame m #[(.int p0), (.int p1)] maxLocals)) t := fun t kt => pre98 t (st99 _ kt)
              clear pre98 st99
              have pre101 : ∀ t, Steps p.tables e below (T99.setTop (mkF m 175 #[.val (.int p0), .val (.int p1), .val (.ref b2), .val (.int ch), .val (.int ch), .val (.int (0 : Int32))] [(.int (1 : Int32))])) t → Steps p.tables e below (s₁.setTop (entryFrame m #[(.int p0), (.int p1)] maxLocals)) t := fun t kt => pre100 t (by
                show Steps p.tables e below (T99.setTop (mkF m 165 #[.val (.int p0), .val (.int p1), .val (.ref b2), .val (.int ch), .val (.int ch), .val (.int (0 : Int32))] [(.int (f1 ch))])) _
                refine XS.iload X99.here hx rfl (hb hby at_165) rfl ?_
                show Steps p.tables e below (T99.setTop (mkF m 167 #[.val (.int p0), .val (.int p1), .val (.ref b2), .val (.int ch), .val (.int ch), .val (.int (0 : Int32))] [(.int (0 : Int32)), (.int (f1 ch))])) _
                refine XS.icmpNo X99.here hx rfl (hb hby at_167) rfl (teq (by rw [own_law]; simp only [← Int32.toInt_inj, Int32.lt_iff_toInt_lt, Int32.reduceToInt] at hc123_73 hc130_79 hc137_85 hc144_91 hc151_97; first | rw [if_pos (by omega)] | rw [if_neg (by omega)] : (f1 ch) = (0 : Int32))).2 ?_
                show Steps p.tables e below (T99.setTop (mkF m 170 #[.val (.int p0), .val (.int p1), .val (.ref b2), .val (.int ch), .val (.int ch), .val (.int (0 : Int32))] [])) _
                refine XS.iconst X99.here hx rfl (hb hby at_170) ?_
                show Steps p.tables e below (T99.setTop (mkF m 171 #[.val (.int p0), .val (.int p1), .val (.ref b2), .val (.int ch), .val (.int ch), .val (.int (0 : Int32))] [(.int (1 : Int32))])) _
                refine XS.goto X99.here hx rfl (pc0 := 171) (pc' := 175) rfl (hb hby at_171) (by decide) (by decide) ?_
                exact kt)
              clear pre100
              obtain ⟨fs, hr, hrun, hended, hW, hsame⟩ := X99.leave (v := some (.int (1 : Int32))) (fun h => by rw [Bd.returns] at h; cases h)
              refine ⟨_, _, pre101 _ ?_, hrun, hended, _, _, rfl, ?_, ⟨_, rfl⟩, hW, hsame.mono (by decide) (by decide)⟩
              · show Steps p.tables e below (T99.setTop (mkF m 175 #[.val (.int p0), .val (.int p1), .val (.ref b2), .val (.int ch), .val (.int ch), .val (.int (0 : Int32))] [(.int (1 : Int32))])) _
                exact retN X99 hx (t := .boolean) Bd.returns (by simp) (hb hby at_175) hr
              · show Q0 Z p0 p1 h0 n0 _ T99.heap _
                rw [e99]
                exact ⟨rfl, N99⟩
            · have pre102 : ∀ t, Steps p.tables e below (T66.setTop (mkF m 162 #[.val (.int p0), .val (.int p1), .val (.ref b2), .val (.int ch), .val (.int ch), .val (.int (1 : Int32))] [(.int ch)])) t → Steps p.tables e below (s₁.setTop (entryFrame m #[(.int p0), (.int p1)] maxLocals)) t := fun t kt => pre96 t (by
                show Steps p.tables e below (T66.setTop (mkF m 151 #[.val (.int p0), .val (.int p1), .val (.ref b2), .val (.int ch), .val (.int ch), .unset] [(.int (12 : Int32)), (.int ch)])) _
                refine XS.icmpNo X66.here hx rfl (hb hby at_151) rfl (feq hc151_97).1 ?_
                show Steps p.tables e below (T66.setTop (mkF m 154 #[.val (.int p0), .val (.int p1), .val (.ref b2), .val (.int ch), .val (.int ch), .unset] [])) _
                refine XS.iconst X66.here hx rfl (hb hby at_154) ?_
                show Steps p.tables e below (T66.setTop (mkF m 155 #[.val (.int p0), .val (.int p1), .val (.ref b2), .val (.int ch), .val (.int ch), .unset] [(.int (1 : Int32))])) _
                refine XS.goto X66.here hx rfl (pc0 := 155) (pc' := 159) rfl (hb hby at_155) (by decide) (by decide) ?_
                show Steps p.tables e below (T66.setTop (mkF m 159 #[.val (.int p0), .val (.int p1), .val (.ref b2), .val (.int ch), .val (.int ch), .unset] [(.int (1 : Int32))])) _
                refine XS.istore X66.here hx rfl (hb hby at_159) rfl (l' := #[.val (.int p0), .val (.int p1), .val (.ref b2), .val (.int ch), .val (.int ch), .val (.int (1 : Int32))]) rfl ?_
                show Steps p.tables e below (T66.setTop (mkF m 161 #[.val (.int p0), .val (.int p1), .val (.ref b2), .val (.int ch), .val (.int ch), .val (.int (1 : Int32))] [])) _
                refine XS.iloadN X66.here hx rfl (hb hby at_161) rfl ?_
                exact kt)
              clear pre96
              obtain ⟨_, _, ⟨T103, L103, k103, n103⟩, -, X103, ⟨Lc103, hQ103, l103, y103, z103⟩, st103⟩ := Jvm.LawKit.callS X66 hx (y := (⟨site_162.cls, "isBlank", "(C)Z"⟩ : MethodName)) hown (mvT hZ (hw _ (List.mem_of_getElem? (i := 3) rfl))) (mvT hZ (hw _ (List.mem_of_getElem? (i := 4) rfl))) (mvT hZ (hw _ (List.mem_of_getElem? (i := 5) rfl))) (mvT hZ (hw _ (List.mem_of_getElem? (i := 6) rfl))) (by decide) (backOf (W := 0) (rm1 l Z av hw [] ch  h66 n0 Z66 ) hZ (hw _ (List.mem_of_getElem? (i := 6) rfl)) (hw _ (List.mem_of_getElem? (i := 5) rfl)) (by decide) (by decide)) (g := (mkF m 162 #[.val (.int p0), .val (.int p1), .val (.ref b2), .val (.int ch), .val (.int ch), .val (.int (1 : Int32))] [(.int ch)])) rfl (by rw [hml]; rfl) (argsL := [(.int ch)]) (rest := []) (lenOf pd__C_Z rfl) rfl (by show 2 * 0 + _ ≤ _; exact Nat.le_of_eq rfl) (hb hby at_162) (fun _ _ => ⟨rfl, e66, (by decide : 1 + 0 ≤ _), (by decide : 16 + 0 ≤ _)⟩)
              dsimp only [Pt.U, Pt.locs, Pt.cells, Pt.slots] at X103 l103 y103 z103 st103 hQ103
              rw [l103, y103, z103] at X103
              clear l103 y103 z103
              obtain ⟨rfl, N103q, e103⟩ := hQ103
              have N103 := Fr.app N66 N103q
              have pre104 : ∀ t, Steps p.tables e below (T103.setTop (mkF m 165 #[.val (.int p0), .val (.int p1), .val (.ref b2), .val (.int ch), .val (.int ch), .val (.int (1 : Int32))] [(.int (f1 ch))])) t → Steps p.tables e below (s₁.setTop (entryFrame m #[(.int p0), (.int p1)] maxLocals)) t := fun t kt => pre102 t (st103 _ kt)
              clear pre102 st103
              have pre105 : ∀ t, Steps p.tables e below (T103.setTop (mkF m 175 #[.val (.int p0), .val (.int p1), .val (.ref b2), .val (.int ch), .val (.int ch), .val (.int (1 : Int32))] [(.int (1 : Int32))])) t → Steps p.tables e below (s₁.setTop (entryFrame m #[(.int p0), (.int p1)] maxLocals)) t := fun t kt => pre104 t (by
                show Steps p.tables e below (T103.setTop (mkF m 165 #[.val (.int p0), .val (.int p1), .val (.ref b2), .val (.int ch), .val (.int ch), .val (.int (1 : Int32))] [(.int (f1 ch))])) _
                refine XS.iload X103.here hx rfl (hb hby at_165) rfl ?_
                show Steps p.tables e below (T103.setTop (mkF m 167 #[.val (.int p0), .val (.int p1), .val (.ref b2), .val (.int ch), .val (.int ch), .val (.int (1 : Int32))] [(.int (1 : Int32)), (.int (f1 ch))])) _
                refine XS.icmpNo X103.here hx rfl (hb hby at_167) rfl (teq (by rw [own_law]; simp only [← Int32.toInt_inj, Int32.lt_iff_toInt_lt, Int32.reduceToInt] at hc123_73 hc130_79 hc137_85 hc144_91 hc151_97; first | rw [if_pos (by omega)] | rw [if_neg (by omega)] : (f1 ch) = (1 : Int32))).2 ?_
                show Steps p.tables e below (T103.setTop (mkF m 170 #[.val (.int p0), .val (.int p1), .val (.ref b2), .val (.int ch), .val (.int ch), .val (.int (1 : Int32))] [])) _
                refine XS.iconst X103.here hx rfl (hb hby at_170) ?_
                show Steps p.tables e below (T103.setTop (mkF m 171 #[.val (.int p0), .val (.int p1), .val (.ref b2), .val (.int ch), .val (.int ch), .val (.int (1 : Int32))] [(.int (1 : Int32))])) _
                refine XS.goto X103.here hx rfl (pc0 := 171) (pc' := 175) rfl (hb hby at_171) (by decide) (by decide) ?_
                exact kt)
              clear pre104
              obtain ⟨fs, hr, hrun, hended, hW, hsame⟩ := X103.leave (v := some (.int (1 : Int32))) (fun h => by rw [Bd.returns] at h; cases h)
              refine ⟨_, _, pre105 _ ?_, hrun, hended, _, _, rfl, ?_, ⟨_, rfl⟩, hW, hsame.mono (by decide) (by decide)⟩
              · show Steps p.tables e below (T103.setTop (mkF m 175 #[.val (.int p0), .val (.int p1), .val (.ref b2), .val (.int ch), .val (.int ch), .val (.int (1 : Int32))] [(.int (1 : Int32))])) _
                exact retN X103 hx (t := .boolean) Bd.returns (by simp) (hb hby at_175) hr
              · show Q0 Z p0 p1 h0 n0 _ T103.heap _
                rw [e103]
                exact ⟨rfl, N103⟩
  · have pre106 : ∀ t, Steps p.tables e below (T66.setTop (mkF m 108 #[.val (.int p0), .val (.int p1), .val (.ref b2), .unset, .unset, .unset] [(.int (p0 &&& (15 : Int32))), (.ref b2)])) t → Steps p.tables e below (s₁.setTop (entryFrame m #[(.int p0), (.int p1)] maxLocals)) t := fun t kt => pre68 t (by
      show Steps p.tables e below (T66.setTop (mkF m 100 #[.val (.int p0), .val (.int p1), .val (.ref b2), .unset, .unset, .unset] [(.int (p1 &&& (1 : Int32)))])) _
      refine XS.ifNo X66.here hx rfl (hb hby at_100) rfl ((if0 _ _).trans (feq hc100_69).1) ?_
      show Steps p.tables e below (T66.setTop (mkF m 103 #[.val (.int p0), .val (.int p1), .val (.ref b2), .unset, .unset, .unset] [])) _
      refine XS.aloadN X66.here hx rfl (hb hby at_103) rfl rfl ?_
      show Steps p.tables e below (T66.setTop (mkF m 104 #[.val (.int p0), .val (.int p1), .val (.ref b2), .unset, .unset, .unset] [(.ref b2)])) _
      refine XS.iloadN X66.here hx rfl (hb hby at_104) rfl ?_
      show Steps p.tables e below (T66.setTop (mkF m 105 #[.val (.int p0), .val (.int p1), .val (.ref b2), .unset, .unset, .unset] [(.int p0), (.ref b2)])) _
      refine XS.bipush X66.here hx rfl (hb hby at_105) ?_
      show Steps p.tables e below (T66.setTop (mkF m 107 #[.val (.int p0), .val (.int p1), .val (.ref b2), .unset, .unset, .unset] [(.int (15 : Int32)), (.int p0), (.ref b2)])) _
      refine XS.iand X66.here hx rfl (hb hby at_107) rfl ?_
      exact kt)
    clear pre68
    have tv107 := V66
    obtain ⟨cl107, Ar107, q107, S107, Ng107, H107, G107⟩ := tv107
    have hin107 : ¬ ((p0 &&& (15 : Int32)) < 0 ∨ cl107.slots.size ≤ ((p0 &&& (15 : Int32))).toNatClampNeg) := inb_of S107 (own_and15 p0)
    obtain ⟨vc, hvc⟩ : ∃ w : Int32, ([(.int (32 : Int32)), (.int (9 : Int32)), (.int (10 : Int32)), (.int (13 : Int32)), (.int (11 : Int32)), (.int (12 : Int32)), (.int (8 : Int32)), (.int (14 : Int32)), (.int (31 : Int32)), (.int (33 : Int32)), (.int (0 : Int32)), (.int (160 : Int32)), (.int (8232 : Int32)), (.int (12288 : Int32)), (.int (65279 : Int32)), (.int (65535 : Int32))] : List Value).getD ((p0 &&& (15 : Int32))).toNatClampNeg (.int (0 : Int32)) = .int w := by
      have hlt : ((p0 &&& (15 : Int32))).toNatClampNeg < 16 := by
        have hk := own_and15 p0
        simp only [Int32.lt_iff_toInt_lt, Int32.reduceToInt] at hk
        simp only [Int32.toNatClampNeg]
        omega
      generalize ((p0 &&& (15 : Int32))).toNatClampNeg = kk at hlt
      exact own_get kk hlt
    have hat107 : cl107.slots[((p0 &&& (15 : Int32))).toNatClampNeg]? = some (.int vc) := Has.at H107 hin107 hvc
    have pre108 : ∀ t, Steps p.tables e below (T66.setTop (mkF m 116 #[.val (.int p0), .val (.int p1), .val (.ref b2), .val (.int vc), .unset, .unset] [])) t → Steps p.tables e below (s₁.setTop (entryFrame m #[(.int p0), (.int p1)] maxLocals)) t := fun t kt => pre106 t (by
      show Steps p.tables e below (T66.setTop (mkF m 108 #[.val (.int p0), .val (.int p1), .val (.ref b2), .unset, .unset, .unset] [(.int (p0 &&& (15 : Int32))), (.ref b2)])) _
      refine X66.caload hx (j := (p0 &&& (15 : Int32))) (v := (.int vc)) (by rw [e66]; exact Ar107.1) (State.isArrayOf_alike hZ.alike Ar107.2.1) Ar107.2.2 hin107 hat107 (g := (mkF m 108 #[.val (.int p0), .val (.int p1), .val (.ref b2), .unset, .unset, .unset] [(.int (p0 &&& (15 : Int32))), (.ref b2)])) rfl rfl (hb hby at_108) _ ?_
      show Steps p.tables e below (T66.setTop (mkF m 109 #[.val (.int p0), .val (.int p1), .val (.ref b2), .unset, .unset, .unset] [(.int vc)])) _
      refine XS.istoreN X66.here hx rfl (hb hby at_109) rfl (l' := #[.val (.int p0), .val (.int p1), .val (.ref b2), .val (.int vc), .unset, .unset]) rfl ?_
      show Steps p.tables e below (T66.setTop (mkF m 110 #[.val (.int p0), .val (.int p1), .val (.ref b2), .val (.int vc), .unset, .unset] [])) _
      refine XS.goto X66.here hx rfl (pc0 := 110) (pc' := 116) rfl (hb hby at_110) (by decide) (by decide) ?_
      exact kt)
    clear pre106
    obtain ⟨ch, hm109, pre109⟩ : ∃ (ch : Int32), (True) ∧ ∀ t, Steps p.tables e below (T66.setTop (mkF m 116 #[.val (.int p0), .val (.int p1), .val (.ref b2), .val (.int ch), .unset, .unset] [])) t → Steps p.tables e below (s₁.setTop (entryFrame m #[(.int p0), (.int p1)] maxLocals)) t := ⟨vc, trivial, pre108⟩
    clear pre108
    have pre110 : ∀ t, Steps p.tables e below (T66.setTop (mkF m 123 #[.val (.int p0), .val (.int p1), .val (.ref b2), .val (.int ch), .val (.int ch), .unset] [(.int (32 : Int32)), (.int ch)])) t → Steps p.tables e below (s₁.setTop (entryFrame m #[(.int p0), (.int p1)] maxLocals)) t := fun t kt => pre109 t (by
      show Steps p.tables e below (T66.setTop (mkF m 116 #[.val (.int p0), .val (.int p1), .val (.ref b2), .val (.int ch), .unset, .unset] [])) _
      refine XS.iloadN X66.here hx rfl (hb hby at_116) rfl ?_
      show Steps p.tables e below (T66.setTop (mkF m 117 #[.val (.int p0), .val (.int p1), .val (.ref b2), .val (.int ch), .unset, .unset] [(.int ch)])) _
      refine XS.istore X66.here hx rfl (hb hby at_117) rfl (l' := #[.val (.int p0), .val (.int p1), .val (.ref b2), .val (.int ch), .val (.int ch), .unset]) rfl ?_
      show Steps p.tables e below (T66.setTop (mkF m 119 #[.val (.int p0), .val (.int p1), .val (.ref b2), .val (.int ch), .val (.int ch), .unset] [])) _
      refine XS.iload X66.here hx rfl (hb hby at_119) rfl ?_
      show Steps p.tables e below (T66.setTop (mkF m 121 #[.val (.int p0), .val (.int p1), .val (.ref b2), .val (.int ch), .val (.int ch), .unset] [(.int ch)])) _
      refine XS.bipush X66.here hx rfl (hb hby at_121) ?_
      exact kt)
    clear pre109
    by_cases hc123_111 : ch = (32 : Int32)
    · have pre112 : ∀ t, Steps p.tables e below (T66.setTop (mkF m 162 #[.val (.int p0), .val (.int p1), .val (.ref b2), .val (.int ch), .val (.int ch), .val (.int (1 : Int32))] [(.int ch)])) t → Steps p.tables e below (s₁.setTop (entryFrame m #[(.int p0), (.int p1)] maxLocals)) t := fun t kt => pre110 t (by
        show Steps p.tables e below (T66.setTop (mkF m 123 #[.val (.int p0), .val (.int p1), .val (.ref b2), .val (.int ch), .val (.int ch), .unset] [(.int (32 : Int32)), (.int ch)])) _
        refine XS.icmpYes X66.here hx rfl (pc0 := 123) (pc' := 154) rfl (hb hby at_123) rfl (teq hc123_111).1 (by decide) (by decide) ?_
        show Steps p.tables e below (T66.setTop (mkF m 154 #[.val (.int p0), .val (.int p1), .val (.ref b2), .val (.int ch), .val (.int ch), .unset] [])) _
        refine XS.iconst X66.here hx rfl (hb hby at_154) ?_
        show Steps p.tables e below (T66.setTop (mkF m 155 #[.val (.int p0), .val (.int p1), .val (.ref b2), .val (.int ch), .val (.int ch), .unset] [(.int (1 : Int32))])) _
        refine XS.goto X66.here hx rfl (pc0 := 155) (pc' := 159) rfl (hb hby at_155) (by decide) (by decide) ?_
        show Steps p.tables e below (T66.setTop (mkF m 159 #[.val (.int p0), .val (.int p1), .val (.ref b2), .val (.int ch), .val (.int ch), .unset] [(.int (1 : Int32))])) _
        refine XS.istore X66.here hx rfl (hb hby at_159) rfl (l' := #[.val (.int p0), .val (.int p1), .val (.ref b2), .val (.int ch), .val (.int ch), .val (.int (1 : Int32))]) rfl ?_
        show Steps p.tables e below (T66.setTop (mkF m 161 #[.val (.int p0), .val (.int p1), .val (.ref b2), .val (.int ch), .val (.int ch), .val (.int (1 : Int32))] [])) _
        refine XS.iloadN X66.here hx rfl (hb hby at_161) rfl ?_
        exact kt)
      clear pre110
      obtain ⟨_, _, ⟨T113, L113, k113, n113⟩, -, X113, ⟨Lc113, hQ113, l113, y113, z113⟩, st113⟩ := Jvm.LawKit.callS X66 hx (y := (⟨site_162.cls, "isBlank", "(C)Z"⟩ : MethodName)) hown (mvT hZ (hw _ (List.mem_of_getElem? (i := 3) rfl))) (mvT hZ (hw _ (List.mem_of_getElem? (i := 4) rfl))) (mvT hZ (hw _ (List.mem_of_getElem? (i := 5) rfl))) (mvT hZ (hw _ (List.mem_of_getElem? (i := 6) rfl))) (by decide) (backOf (W := 0) (rm1 l Z av hw [] ch  h66 n0 Z66 ) hZ (hw _ (List.mem_of_getElem? (i := 6) rfl)) (hw _ (List.mem_of_getElem? (i := 5) rfl)) (by decide) (by decide)) (g := (mkF m 162 #[.val (.int p0), .val (.int p1), .val (.ref b2), .val (.int ch), .val (.int ch), .val (.int (1 : Int32))] [(.int ch)])) rfl (by rw [hml]; rfl) (argsL := [(.int ch)]) (rest := []) (lenOf pd__C_Z rfl) rfl (by show 2 * 0 + _ ≤ _; exact Nat.le_of_eq rfl) (hb hby at_162) (fun _ _ => ⟨rfl, e66, (by decide : 1 + 0 ≤ _), (by decide : 16 + 0 ≤ _)⟩)
      dsimp only [Pt.U, Pt.locs, Pt.cells, Pt.slots] at X113 l113 y113 z113 st113 hQ113
      rw [l113, y113, z113] at X113
      clear l113 y113 z113
      obtain ⟨rfl, N113q, e113⟩ := hQ113
      have N113 := Fr.app N66 N113q
      have pre114 : ∀ t, Steps p.tables e below (T113.setTop (mkF m 165 #[.val (.int p0), .val (.int p1), .val (.ref b2), .val (.int ch), .val (.int ch), .val (.int (1 : Int32))] [(.int (f1 ch))])) t → Steps p.tables e below (s₁.setTop (entryFrame m #[(.int p0), (.int p1)] maxLocals)) t := fun t kt => pre112 t (st113 _ kt)
      clear pre112 st113
      have pre115 : ∀ t, Steps p.tables e below (T113.setTop (mkF m 175 #[.val (.int p0), .val (.int p1), .val (.ref b2), .val (.int ch), .val (.int ch), .val (.int (1 : Int32))] [(.int (1 : Int32))])) t → Steps p.tables e below (s₁.setTop (entryFrame m #[(.int p0), (.int p1)] maxLocals)) t := fun t kt => pre114 t (by
        show Steps p.tables e below (T113.setTop (mkF m 165 #[.val (.int p0), .val (.int p1), .val (.ref b2), .val (.int ch), .val (.int ch), .val (.int (1 : Int32))] [(.int (f1 ch))])) _
        refine XS.iload X113.here hx rfl (hb hby at_165) rfl ?_
        show Steps p.tables e below (T113.setTop (mkF m 167 #[.val (.int p0), .val (.int p1), .val (.ref b2), .val (.int ch), .val (.int ch), .val (.int (1 : Int32))] [(.int (1 : Int32)), (.int (f1 ch))])) _
        refine XS.icmpNo X113.here hx rfl (hb hby at_167) rfl (teq (by rw [own_law]; simp only [← Int32.toInt_inj, Int32.lt_iff_toInt_lt, Int32.reduceToInt] at hc123_111; first | rw [if_pos (by omega)] | rw [if_neg (by omega)] : (f1 ch) = (1 : Int32))).2 ?_
        show Steps p.tables e below (T113.setTop (mkF m 170 #[.val (.int p0), .val (.int p1), .val (.ref b2), .val (.int ch), .val (.int ch), .val (.int (1 : Int32))] [])) _
        refine XS.iconst X113.here hx rfl (hb hby at_170) ?_
        show Steps p.tables e below (T113.setTop (mkF m 171 #[.val (.int p0), .val (.int p1), .val (.ref b2), .val (.int ch), .val (.int ch), .val (.int (1 : Int32))] [(.int (1 : Int32))])) _
        refine XS.goto X113.here hx rfl (pc0 := 171) (pc' := 175) rfl (hb hby at_171) (by decide) (by decide) ?_
        exact kt)
      clear pre114
      obtain ⟨fs, hr, hrun, hended, hW, hsame⟩ := X113.leave (v := some (.int (1 : Int32))) (fun h => by rw [Bd.returns] at h; cases h)
      refine ⟨_, _, pre115 _ ?_, hrun, hended, _, _, rfl, ?_, ⟨_, rfl⟩, hW, hsame.mono (by decide) (by decide)⟩
      · show Steps p.tables e below (T113.setTop (mkF m 175 #[.val (.int p0), .val (.int p1), .val (.ref b2), .val (.int ch), .val (.int ch), .val (.int (1 : Int32))] [(.int (1 : Int32))])) _
        exact retN X113 hx (t := .boolean) Bd.returns (by simp) (hb hby at_175) hr
      · show Q0 Z p0 p1 h0 n0 _ T113.heap _
        rw [e113]
        exact ⟨rfl, N113⟩
    · have pre116 : ∀ t, Steps p.tables e below (T66.setTop (mkF m 130 #[.val (.int p0), .val (.int p1), .val (.ref b2), .val (.int ch), .val (.int ch), .unset] [(.int (9 : Int32)), (.int ch)])) t → Steps p.tables e below (s₁.setTop (entryFrame m #[(.int p0), (.int p1)] maxLocals)) t := fun t kt => pre110 t (by
        show Steps p.tables e below (T66.setTop (mkF m 123 #[.val (.int p0), .val (.int p1), .val (.ref b2), .val (.int ch), .val (.int ch), .unset] [(.int (32 : Int32)), (.int ch)])) _
        refine XS.icmpNo X66.here hx rfl (hb hby at_123) rfl (feq hc123_111).1 ?_
        show Steps p.tables e below (T66.setTop (mkF m 126 #[.val (.int p0), .val (.int p1), .val (.ref b2), .val (.int ch), .val (.int ch), .unset] [])) _
        refine XS.iload X66.here hx rfl (hb hby at_126) rfl ?_
        show Steps p.tables e below (T66.setTop (mkF m 128 #[.val (.int p0), .val (.int p1), .val (.ref b2), .val (.int ch), .val (.int ch), .unset] [(.int ch)])) _
        refine XS.bipush X66.here hx rfl (hb hby at_128) ?_
        exact kt)
      clear pre110
      by_cases hc130_117 : ch < (9 : Int32)
      · have pre118 : ∀ t, Steps p.tables e below (T66.setTop (mkF m 162 #[.val (.int p0), .val (.int p1), .val (.ref b2), .val (.int ch), .val (.int ch), .val (.int (0 : Int32))] [(.int ch)])) t → Steps p.tables e below (s₁.setTop (entryFrame m #[(.int p0), (.int p1)] maxLocals)) t := fun t kt => pre116 t (by
          show Steps p.tables e below (T66.setTop (mkF m 130 #[.val (.int p0), .val (.int p1), .val (.ref b2), .val (.int ch), .val (.int ch), .unset] [(.int (9 : Int32)), (.int ch)])) _
          refine XS.icmpYes X66.here hx rfl (pc0 := 130) (pc' := 158) rfl (hb hby at_130) rfl (tlt hc130_117).1 (by decide) (by decide) ?_
          show Steps p.tables e below (T66.setTop (mkF m 158 #[.val (.int p0), .val (.int p1), .val (.ref b2), .val (.int ch), .val (.int ch), .unset] [])) _
          refine XS.iconst X66.here hx rfl (hb hby at_158) ?_
          show Steps p.tables e below (T66.setTop (mkF m 159 #[.val (.int p0), .val (.int p1), .val (.ref b2), .val (.int ch), .val (.int ch), .unset] [(.int (0 : Int32))])) _
          refine XS.istore X66.here hx rfl (hb hby at_159) rfl (l' := #[.val (.int p0), .val (.int p1), .val (.ref b2), .val (.int ch), .val (.int ch), .val (.int (0 : Int32))]) rfl ?_
          show Steps p.tables e below (T66.setTop (mkF m 161 #[.val (.int p0), .val (.int p1), .val (.ref b2), .val (.int ch), .val (.int ch), .val (.int (0 : Int32))] [])) _
          refine XS.iloadN X66.here hx rfl (hb hby at_161) rfl ?_
          exact kt)
        clear pre116
        obtain ⟨_, _, ⟨T119, L119, k119, n119⟩, -, X119, ⟨Lc119, hQ119, l119, y119, z119⟩, st119⟩ := Jvm.LawKit.callS X66 hx (y := (⟨site_162.cls, "isBlank", "(C)Z"⟩ : MethodName)) hown (mvT hZ (hw _ (List.mem_of_getElem? (i := 3) rfl))) (mvT hZ (hw _ (List.mem_of_getElem? (i := 4) rfl))) (mvT hZ (hw _ (List.mem_of_getElem? (i := 5) rfl))) (mvT hZ (hw _ (List.mem_of_getElem? (i := 6) rfl))) (by decide) (backOf (W := 0) (rm1 l Z av hw [] ch  h66 n0 Z66 ) hZ (hw _ (List.mem_of_getElem? (i := 6) rfl)) (hw _ (List.mem_of_getElem? (i := 5) rfl)) (by decide) (by decide)) (g := (mkF m 162 #[.val (.int p0), .val (.int p1), .val (.ref b2), .val (.int ch), .val (.int ch), .val (.int (0 : Int32))] [(.int ch)])) rfl (by rw [hml]; rfl) (argsL := [(.int ch)]) (rest := []) (lenOf pd__C_Z rfl) rfl (by show 2 * 0 + _ ≤ _; exact Nat.le_of_eq rfl) (hb hby at_162) (fun _ _ => ⟨rfl, e66, (by decide : 1 + 0 ≤ _), (by decide : 16 + 0 ≤ _)⟩)
        dsimp only [Pt.U, Pt.locs, Pt.cells, Pt.slots] at X119 l119 y119 z119 st119 hQ119
        rw [l119, y119, z119] at X119
        clear l119 y119 z119
        obtain ⟨rfl, N119q, e119⟩ := hQ119
        have N119 := Fr.app N66 N119q
        have pre120 : ∀ t, Steps p.tables e below (T119.setTop (mkF m 165 #[.val (.int p0), .val (.int p1), .val (.ref b2), .val (.int ch), .val (.int ch), .val (.int (0 : Int32))] [(.int (f1 ch))])) t → Steps p.tables e below (s₁.setTop (entryFrame m #[(.int p0), (.int p1)] maxLocals)) t := fun t kt => pre118 t (st119 _ kt)
        clear pre118 st119
        have pre121 : ∀ t, Steps p.tables e below (T119.setTop (mkF m 175 #[.val (.int p0), .val (.int p1), .val (.ref b2), .val (.int ch), .val (.int ch), .val (.int (0 : Int32))] [(.int (1 : Int32))])) t → Steps p.tables e below (s₁.setTop (entryFrame m #[(.int p0), (.int p1)] maxLocals)) t := fun t kt => pre120 t (by
          show Steps p.tables e below (T119.setTop (mkF m 165 #[.val (.int p0), .val (.int p1), .val (.ref b2), .val (.int ch), .val (.int ch), .val (.int (0 : Int32))] [(.int (f1 ch))])) _
          refine XS.iload X119.here hx rfl (hb hby at_165) rfl ?_
          show Steps p.tables e below (T119.setTop (mkF m 167 #[.val (.int p0), .val (.int p1), .val (.ref b2), .val (.int ch), .val (.int ch), .val (.int (0 : Int32))] [(.int (0 : Int32)), (.int (f1 ch))])) _
          refine XS.icmpNo X119.here hx rfl (hb hby at_167) rfl (teq (by rw [own_law]; simp only [← Int32.toInt_inj, Int32.lt_iff_toInt_lt, Int32.reduceToInt] at hc123_111 hc130_117; first | rw [if_pos (by omega)] | rw [if_neg (by omega)] : (f1 ch) = (0 : Int32))).2 ?_
          show Steps p.tables e below (T119.setTop (mkF m 170 #[.val (.int p0), .val (.int p1), .val (.ref b2), .val (.int ch), .val (.int ch), .val (.int (0 : Int32))] [])) _
          refine XS.iconst X119.here hx rfl (hb hby at_170) ?_
          show Steps p.tables e below (T119.setTop (mkF m 171 #[.val (.int p0), .val (.int p1), .val (.ref b2), .val (.int ch), .val (.int ch), .val (.int (0 : Int32))] [(.int (1 : Int32))])) _
          refine XS.goto X119.here hx rfl (pc0 := 171) (pc' := 175) rfl (hb hby at_171) (by decide) (by decide) ?_
          exact kt)
        clear pre120
        obtain ⟨fs, hr, hrun, hended, hW, hsame⟩ := X119.leave (v := some (.int (1 : Int32))) (fun h => by rw [Bd.returns] at h; cases h)
        refine ⟨_, _, pre121 _ ?_, hrun, hended, _, _, rfl, ?_, ⟨_, rfl⟩, hW, hsame.mono (by decide) (by decide)⟩
        · show Steps p.tables e below (T119.setTop (mkF m 175 #[.val (.int p0), .val (.int p1), .val (.ref b2), .val (.int ch), .val (.int ch), .val (.int (0 : Int32))] [(.int (1 : Int32))])) _
          exact retN X119 hx (t := .boolean) Bd.returns (by simp) (hb hby at_175) hr
        · show Q0 Z p0 p1 h0 n0 _ T119.heap _
          rw [e119]
          exact ⟨rfl, N119⟩
      · have pre122 : ∀ t, Steps p.tables e below (T66.setTop (mkF m 137 #[.val (.int p0), .val (.int p1), .val (.ref b2), .val (.int ch), .val (.int ch), .unset] [(.int (13 : Int32)), (.int ch)])) t → Steps p.tables e below (s₁.setTop (entryFrame m #[(.int p0), (.int p1)] maxLocals)) t := fun t kt => pre116 t (by
          show Steps p.tables e below (T66.setTop (mkF m 130 #[.val (.int p0), .val (.int p1), .val (.ref b2), .val (.int ch), .val (.int ch), .unset] [(.int (9 : Int32)), (.int ch)])) _
          refine XS.icmpNo X66.here hx rfl (hb hby at_130) rfl (flt hc130_117).1 ?_
          show Steps p.tables e below (T66.setTop (mkF m 133 #[.val (.int p0), .val (.int p1), .val (.ref b2), .val (.int ch), .val (.int ch), .unset] [])) _
          refine XS.iload X66.here hx rfl (hb hby at_133) rfl ?_
          show Steps p.tables e below (T66.setTop (mkF m 135 #[.val (.int p0), .val (.int p1), .val (.ref b2), .val (.int ch), .val (.int ch), .unset] [(.int ch)])) _
          refine XS.bipush X66.here hx rfl (hb hby at_135) ?_
          exact kt)
        clear pre116
        by_cases hc137_123 : (13 : Int32) < ch
        · have pre124 : ∀ t, Steps p.tables e below (T66.setTop (mkF m 162 #[.val (.int p0), .val (.int p1), .val (.ref b2), .val (.int ch), .val (.int ch), .val (.int (0 : Int32))] [(.int ch)])) t → Steps p.tables e below (s₁.setTop (entryFrame m #[(.int p0), (.int p1)] maxLocals)) t := fun t kt => pre122 t (by
            show Steps p.tables e below (T66.setTop (mkF m 137 #[.val (.int p0), .val (.int p1), .val (.ref b2), .val (.int ch), .val (.int ch), .unset] [(.int (13 : Int32)), (.int ch)])) _
            refine XS.icmpYes X66.here hx rfl (pc0 := 137) (pc' := 158) rfl (hb hby at_137) rfl (tlt hc137_123).2.2.1 (by decide) (by decide) ?_
            show Steps p.tables e below (T66.setTop (mkF m 158 #[.val (.int p0), .val (.int p1), .val (.ref b2), .val (.int ch), .val (.int ch), .unset] [])) _
            refine XS.iconst X66.here hx rfl (hb hby at_158) ?_
            show Steps p.tables e below (T66.setTop (mkF m 159 #[.val (.int p0), .val (.int p1), .val (.ref b2), .val (.int ch), .val (.int ch), .unset] [(.int (0 : Int32))])) _
            refine XS.istore X66.here hx rfl (hb hby at_159) rfl (l' := #[.val (.int p0), .val (.int p1), .val (.ref b2), .val (.int ch), .val (.int ch), .val (.int (0 : Int32))]) rfl ?_
            show Steps p.tables e below (T66.setTop (mkF m 161 #[.val (.int p0), .val (.int p1), .val (.ref b2), .val (.int ch), .val (.int ch), .val (.int (0 : Int32))] [])) _
            refine XS.iloadN X66.here hx rfl (hb hby at_161) rfl ?_
            exact kt)
          clear pre122
          obtain ⟨_, _, ⟨T125, L125, k125, n125⟩, -, X125, ⟨Lc125, hQ125, l125, y125, z125⟩, st125⟩ := Jvm.LawKit.callS X66 hx (y := (⟨site_162.cls, "isBlank", "(C)Z"⟩ : MethodName)) hown (mvT hZ (hw _ (List.mem_of_getElem? (i := 3) rfl))) (mvT hZ (hw _ (List.mem_of_getElem? (i := 4) rfl))) (mvT hZ (hw _ (List.mem_of_getElem? (i := 5) rfl))) (mvT hZ (hw _ (List.mem_of_getElem? (i := 6) rfl))) (by decide) (backOf (W := 0) (rm1 l Z av hw [] ch  h66 n0 Z66 ) hZ (hw _ (List.mem_of_getElem? (i := 6) rfl)) (hw _ (List.mem_of_getElem? (i := 5) rfl)) (by decide) (by decide)) (g := (mkF m 162 #[.val (.int p0), .val (.int p1), .val (.ref b2), .val (.int ch), .val (.int ch), .val (.int (0 : Int32))] [(.int ch)])) rfl (by rw [hml]; rfl) (argsL := [(.int ch)]) (rest := []) (lenOf pd__C_Z rfl) rfl (by show 2 * 0 + _ ≤ _; exact Nat.le_of_eq rfl) (hb hby at_162) (fun _ _ => ⟨rfl, e66, (by decide : 1 + 0 ≤ _), (by decide : 16 + 0 ≤ _)⟩)
          dsimp only [Pt.U, Pt.locs, Pt.cells, Pt.slots] at X125 l125 y125 z125 st125 hQ125
          rw [l125, y125, z125] at X125
          clear l125 y125 z125
          obtain ⟨rfl, N125q, e125⟩ := hQ125
          have N125 := Fr.app N66 N125q
          have pre126 : ∀ t, Steps p.tables e below (T125.setTop (mkF m 165 #[.val (.int p0), .val (.int p1), .val (.ref b2), .val (.int ch), .val (.int ch), .val (.int (0 : Int32))] [(.int (f1 ch))])) t → Steps p.tables e below (s₁.setTop (entryFrame m #[(.int p0), (.int p1)] maxLocals)) t := fun t kt => pre124 t (st125 _ kt)
          clear pre124 st125
          have pre127 : ∀ t, Steps p.tables e below (T125.setTop (mkF m 175 #[.val (.int p0), .val (.int p1), .val (.ref b2), .val (.int ch), .val (.int ch), .val (.int (0 : Int32))] [(.int (1 : Int32))])) t → Steps p.tables e below (s₁.setTop (entryFrame m #[(.int p0), (.int p1)] maxLocals)) t := fun t kt => pre126 t (by
            show Steps p.tables e below (T125.setTop (mkF m 165 #[.val (.int p0), .val (.int p1), .val (.ref b2), .val (.int ch), .val (.int ch), .val (.int (0 : Int32))] [(.int (f1 ch))])) _
            refine XS.iload X125.here hx rfl (hb hby at_165) rfl ?_
            show Steps p.tables e below (T125.setTop (mkF m 167 #[.val (.int p0), .val (.int p1), .val (.ref b2), .val (.int ch), .val (.int ch), .val (.int (0 : Int32))] [(.int (0 : Int32)), (.int (f1 ch))])) _
            refine XS.icmpNo X125.here hx rfl (hb hby at_167) rfl (teq (by rw [own_law]; simp only [← Int32.toInt_inj, Int32.lt_iff_toInt_lt, Int32.reduceToInt] at hc123_111 hc130_117 hc137_123; first | rw [if_pos (by omega)] | rw [if_neg (by omega)] : (f1 ch) = (0 : Int32))).2 ?_
            show Steps p.tables e below (T125.setTop (mkF m 170 #[.val (.int p0), .val (.int p1), .val (.ref b2), .val (.int ch), .val (.int ch), .val (.int (0 : Int32))] [])) _
            refine XS.iconst X125.here hx rfl (hb hby at_170) ?_
            show Steps p.tables e below (T125.setTop (mkF m 171 #[.val (.int p0), .val (.int p1), .val (.ref b2), .val (.int ch), .val (.int ch), .val (.int (0 : Int32))] [(.int (1 : Int32))])) _
            refine XS.goto X125.here hx rfl (pc0 := 171) (pc' := 175) rfl (hb hby at_171) (by decide) (by decide) ?_
            exact kt)
          clear pre126
          obtain ⟨fs, hr, hrun, hended, hW, hsame⟩ := X125.leave (v := some (.int (1 : Int32))) (fun h => by rw [Bd.returns] at h; cases h)
          refine ⟨_, _, pre127 _ ?_, hrun, hended, _, _, rfl, ?_, ⟨_, rfl⟩, hW, hsame.mono (by decide) (by decide)⟩
          · show Steps p.tables e below (T125.setTop (mkF m 175 #[.val (.int p0), .val (.int p1), .val (.ref b2), .val (.int ch), .val (.int ch), .val (.int (0 : Int32))] [(.int (1 : Int32))])) _
            exact retN X125 hx (t := .boolean) Bd.returns (by simp) (hb hby at_175) hr
          · show Q0 Z p0 p1 h0 n0 _ T125.heap _
            rw [e125]
            exact ⟨rfl, N125⟩
        · have pre128 : ∀ t, Steps p.tables e below (T66.setTop (mkF m 144 #[.val (.int p0), .val (.int p1), .val (.ref b2), .val (.int ch), .val (.int ch), .unset] [(.int (11 : Int32)), (.int ch)])) t → Steps p.tables e below (s₁.setTop (entryFrame m #[(.int p0), (.int p1)] maxLocals)) t := fun t kt => pre122 t (by
            show Steps p.tables e below (T66.setTop (mkF m 137 #[.val (.int p0), .val (.int p1), .val (.ref b2), .val (.int ch), .val (.int ch), .unset] [(.int (13 : Int32)), (.int ch)])) _
            refine XS.icmpNo X66.here hx rfl (hb hby at_137) rfl (flt hc137_123).2.2.1 ?_
            show Steps p.tables e below (T66.setTop (mkF m 140 #[.val (.int p0), .val (.int p1), .val (.ref b2), .val (.int ch), .val (.int ch), .unset] [])) _
            refine XS.iload X66.here hx rfl (hb hby at_140) rfl ?_
            show Steps p.tables e below (T66.setTop (mkF m 142 #[.val (.int p0), .val (.int p1), .val (.ref b2), .val (.int ch), .val (.int ch), .unset] [(.int ch)])) _
            refine XS.bipush X66.here hx rfl (hb hby at_142) ?_
            exact kt)
          clear pre122
          by_cases hc144_129 : ch = (11 : Int32)
          · have pre130 : ∀ t, Steps p.tables e below (T66.setTop (mkF m 162 #[.val (.int p0), .val (.int p1), .val (.ref b2), .val (.int ch), .val (.int ch), .val (.int (0 : Int32))] [(.int ch)])) t → Steps p.tables e below (s₁.setTop (entryFrame m #[(.int p0), (.int p1)] maxLocals)) t := fun t kt => pre128 t (by
              show Steps p.tables e below (T66.setTop (mkF m 144 #[.val (.int p0), .val (.int p1), .val (.ref b2), .val (.int ch), .val (.int ch), .unset] [(.int (11 : Int32)), (.int ch)])) _
              refine XS.icmpYes X66.here hx rfl (pc0 := 144) (pc' := 158) rfl (hb hby at_144) rfl (teq hc144_129).1 (by decide) (by decide) ?_
              show Steps p.tables e below (T66.setTop (mkF m 158 #[.val (.int p0), .val (.int p1), .val (.ref b2), .val (.int ch), .val (.int ch), .unset] [])) _
              refine XS.iconst X66.here hx rfl (hb hby at_158) ?_
              show Steps p.tables e below (T66.setTop (mkF m 159 #[.val (.int p0), .val (.int p1), .val (.ref b2), .val (.int ch), .val (.int ch), .unset] [(.int (0 : Int32))])) _
              refine XS.istore X66.here hx rfl (hb hby at_159) rfl (l' := #[.val (.int p0), .val (.int p1), .val (.ref b2), .val (.int ch), .val (.int ch), .val (.int (0 : Int32))]) rfl ?_
              show Steps p.tables e below (T66.setTop (mkF m 161 #[.val (.int p0), .val (.int p1), .val (.ref b2), .val (.int ch), .val (.int ch), .val (.int (0 : Int32))] [])) _
              refine XS.iloadN X66.here hx rfl (hb hby at_161) rfl ?_
              exact kt)
            clear pre128
            obtain ⟨_, _, ⟨T131, L131, k131, n131⟩, -, X131, ⟨Lc131, hQ131, l131, y131, z131⟩, st131⟩ := Jvm.LawKit.callS X66 hx (y := (⟨site_162.cls, "isBlank", "(C)Z"⟩ : MethodName)) hown (mvT hZ (hw _ (List.mem_of_getElem? (i := 3) rfl))) (mvT hZ (hw _ (List.mem_of_getElem? (i := 4) rfl))) (mvT hZ (hw _ (List.mem_of_getElem? (i := 5) rfl))) (mvT hZ (hw _ (List.mem_of_getElem? (i := 6) rfl))) (by decide) (backOf (W := 0) (rm1 l Z av hw [] ch  h66 n0 Z66 ) hZ (hw _ (List.mem_of_getElem? (i := 6) rfl)) (hw _ (List.mem_of_getElem? (i := 5) rfl)) (by decide) (by decide)) (g := (mkF m 162 #[.val (.int p0), .val (.int p1), .val (.ref b2), .val (.int ch), .val (.int ch), .val (.int (0 : Int32))] [(.int ch)])) rfl (by rw [hml]; rfl) (argsL := [(.int ch)]) (rest := []) (lenOf pd__C_Z rfl) rfl (by show 2 * 0 + _ ≤ _; exact Nat.le_of_eq rfl) (hb hby at_162) (fun _ _ => ⟨rfl, e66, (by decide : 1 + 0 ≤ _), (by decide : 16 + 0 ≤ _)⟩)
            dsimp only [Pt.U, Pt.locs, Pt.cells, Pt.slots] at X131 l131 y131 z131 st131 hQ131
            rw [l131, y131, z131] at X131
            clear l131 y131 z131
            obtain ⟨rfl, N131q, e131⟩ := hQ131
            have N131 := Fr.app N66 N131q
            have pre132 : ∀ t, Steps p.tables e below (T131.setTop (mkF m 165 #[.val (.int p0), .val (.int p1), .val (.ref b2), .val (.int ch), .val (.int ch), .val (.int (0 : Int32))] [(.int (f1 ch))])) t → Steps p.tables e below (s₁.setTop (entryFrame m #[(.int p0), (.int p1)] maxLocals)) t := fun t kt => pre130 t (st131 _ kt)
            clear pre130 st131
            have pre133 : ∀ t, Steps p.tables e below (T131.setTop (mkF m 175 #[.val (.int p0), .val (.int p1), .val (.ref b2), .val (.int ch), .val (.int ch), .val (.int (0 : Int32))] [(.int (1 : Int32))])) t → Steps p.tables e below (s₁.setTop (entryFrame m #[(.int p0), (.int p1)] maxLocals)) t := fun t kt => pre132 t (by
              show Steps p.tables e below (T131.setTop (mkF m 165 #[.val (.int p0), .val (.int p1), .val (.ref b2), .val (.int ch), .val (.int ch), .val (.int (0 : Int32))] [(.int (f1 ch))])) _
              refine XS.iload X131.here hx rfl (hb hby at_165) rfl ?_
              show Steps p.tables e below (T131.setTop (mkF m 167 #[.val (.int p0), .val (.int p1), .val (.ref b2), .val (.int ch), .val (.int ch), .val (.int (0 : Int32))] [(.int (0 : Int32)), (.int (f1 ch))])) _
              refine XS.icmpNo X131.here hx rfl (hb hby at_167) rfl (teq (by rw [own_law]; simp only [← Int32.toInt_inj, Int32.lt_iff_toInt_lt, Int32.reduceToInt] at hc123_111 hc130_117 hc137_123 hc144_129; first | rw [if_pos (by omega)] | rw [if_neg (by omega)] : (f1 ch) = (0 : Int32))).2 ?_
              show Steps p.tables e below (T131.setTop (mkF m 170 #[.val (.int p0), .val (.int p1), .val (.ref b2), .val (.int ch), .val (.int ch), .val (.int (0 : Int32))] [])) _
              refine XS.iconst X131.here hx rfl (hb hby at_170) ?_
              show Steps p.tables e below (T131.setTop (mkF m 171 #[.val (.int p0), .val (.int p1), .val (.ref b2), .val (.int ch), .val (.int ch), .val (.int (0 : Int32))] [(.int (1 : Int32))])) _
              refine XS.goto X131.here hx rfl (pc0 := 171) (pc' := 175) rfl (hb hby at_171) (by decide) (by decide) ?_
              exact kt)
            clear pre132
            obtain ⟨fs, hr, hrun, hended, hW, hsame⟩ := X131.leave (v := some (.int (1 : Int32))) (fun h => by rw [Bd.returns] at h; cases h)
            refine ⟨_, _, pre133 _ ?_, hrun, hended, _, _, rfl, ?_, ⟨_, rfl⟩, hW, hsame.mono (by decide) (by decide)⟩
            · show Steps p.tables e below (T131.setTop (mkF m 175 #[.val (.int p0), .val (.int p1), .val (.ref b2), .val (.int ch), .val (.int ch), .val (.int (0 : Int32))] [(.int (1 : Int32))])) _
              exact retN X131 hx (t := .boolean) Bd.returns (by simp) (hb hby at_175) hr
            · show Q0 Z p0 p1 h0 n0 _ T131.heap _
              rw [e131]
              exact ⟨rfl, N131⟩
          · have pre134 : ∀ t, Steps p.tables e below (T66.setTop (mkF m 151 #[.val (.int p0), .val (.int p1), .val (.ref b2), .val (.int ch), .val (.int ch), .unset] [(.int (12 : Int32)), (.int ch)])) t → Steps p.tables e below (s₁.setTop (entryFrame m #[(.int p0), (.int p1)] maxLocals)) t := fun t kt => pre128 t (by
              show Steps p.tables e below (T66.setTop (mkF m 144 #[.val (.int p0), .val (.int p1), .val (.ref b2), .val (.int ch), .val (.int ch), .unset] [(.int (11 : Int32)), (.int ch)])) _
              refine XS.icmpNo X66.here hx rfl (hb hby at_144) rfl (feq hc144_129).1 ?_
              show Steps p.tables e below (T66.setTop (mkF m 147 #[.val (.int p0), .val (.int p1), .val (.ref b2), .val (.int ch), .val (.int ch), .unset] [])) _
              refine XS.iload X66.here hx rfl (hb hby at_147) rfl ?_
              show Steps p.tables e below (T66.setTop (mkF m 149 #[.val (.int p0), .val (.int p1), .val (.ref b2), .val (.int ch), .val (.int ch), .unset] [(.int ch)])) _
              refine XS.bipush X66.here hx rfl (hb hby at_149) ?_
              exact kt)
            clear pre128
            by_cases hc151_135 : ch = (12 : Int32)
            · have pre136 : ∀ t, Steps p.tables e below (T66.setTop (mkF m 162 #[.val (.int p0), .val (.int p1), .val (.ref b2), .val (.int ch), .val (.int ch), .val (.int (0 : Int32))] [(.int ch)])) t → Steps p.tables e below (s₁.setTop (entryFrame m #[(.int p0), (.int p1)] maxLocals)) t := fun t kt => pre134 t (by
                show Steps p.tables e below (T66.setTop (mkF m 151 #[.val (.int p0), .val (.int p1), .val (.ref b2), .val (.int ch), .val (.int ch), .unset] [(.int (12 : Int32)), (.int ch)])) _
                refine XS.icmpYes X66.here hx rfl (pc0 := 151) (pc' := 158) rfl (hb hby at_151) rfl (teq hc151_135).1 (by decide) (by decide) ?_
                show Steps p.tables e below (T66.setTop (mkF m 158 #[.val (.int p0), .val (.int p1), .val (.ref b2), .val (.int ch), .val (.int ch), .unset] [])) _
                refine XS.iconst X66.here hx rfl (hb hby at_158) ?_
                show Steps p.tables e below (T66.setTop (mkF m 159 #[.val (.int p0), .val (.int p1), .val (.ref b2), .val (.int ch), .val (.int ch), .unset] [(.int (0 : Int32))])) _
                refine XS.istore X66.here hx rfl (hb hby at_159) rfl (l' := #[.val (.int p0), .val (.int p1), .val (.ref b2), .val (.int ch), .val (.int ch), .val (.int (0 : Int32))]) rfl ?_
                show Steps p.tables e below (T66.setTop (mkF m 161 #[.val (.int p0), .val (.int p1), .val (.ref b2), .val (.int ch), .val (.int ch), .val (.int (0 : Int32))] [])) _
                refine XS.iloadN X66.here hx rfl (hb hby at_161) rfl ?_
                exact kt)
              clear pre134
              obtain ⟨_, _, ⟨T137, L137, k137, n137⟩, -, X137, ⟨Lc137, hQ137, l137, y137, z137⟩, st137⟩ := Jvm.LawKit.callS X66 hx (y := (⟨site_162.cls, "isBlank", "(C)Z"⟩ : MethodName)) hown (mvT hZ (hw _ (List.mem_of_getElem? (i := 3) rfl))) (mvT hZ (hw _ (List.mem_of_getElem? (i := 4) rfl))) (mvT hZ (hw _ (List.mem_of_getElem? (i := 5) rfl))) (mvT hZ (hw _ (List.mem_of_getElem? (i := 6) rfl))) (by decide) (backOf (W := 0) (rm1 l Z av hw [] ch  h66 n0 Z66 ) hZ (hw _ (List.mem_of_getElem? (i := 6) rfl)) (hw _ (List.mem_of_getElem? (i := 5) rfl)) (by decide) (by decide)) (g := (mkF m 162 #[.val (.int p0), .val (.int p1), .val (.ref b2), .val (.int ch), .val (.int ch), .val (.int (0 : Int32))] [(.int ch)])) rfl (by rw [hml]; rfl) (argsL := [(.int ch)]) (rest := []) (lenOf pd__C_Z rfl) rfl (by show 2 * 0 + _ ≤ _; exact Nat.le_of_eq rfl) (hb hby at_162) (fun _ _ => ⟨rfl, e66, (by decide : 1 + 0 ≤ _), (by decide : 16 + 0 ≤ _)⟩)
              dsimp only [Pt.U, Pt.locs, Pt.cells, Pt.slots] at X137 l137 y137 z137 st137 hQ137
              rw [l137, y137, z137] at X137
              clear l137 y137 z137
              obtain ⟨rfl, N137q, e137⟩ := hQ137
              have N137 := Fr.app N66 N137q
              have pre138 : ∀ t, Steps p.tables e below (T137.setTop (mkF m 165 #[.val (.int p0), .val (.int p1), .val (.ref b2), .val (.int ch), .val (.int ch), .val (.int (0 : Int32))] [(.int (f1 ch))])) t → Steps p.tables e below (s₁.setTop (entryFrame m #[(.int p0), (.int p1)] maxLocals)) t := fun t kt => pre136 t (st137 _ kt)
              clear pre136 st137
              have pre139 : ∀ t, Steps p.tables e below (T137.setTop (mkF m 175 #[.val (.int p0), .val (.int p1), .val (.ref b2), .val (.int ch), .val (.int ch), .val (.int (0 : Int32))] [(.int (1 : Int32))])) t → Steps p.tables e below (s₁.setTop (entryFrame m #[(.int p0), (.int p1)] maxLocals)) t := fun t kt => pre138 t (by
                show Steps p.tables e below (T137.setTop (mkF m 165 #[.val (.int p0), .val (.int p1), .val (.ref b2), .val (.int ch), .val (.int ch), .val (.int (0 : Int32))] [(.int (f1 ch))])) _
                refine XS.iload X137.here hx rfl (hb hby at_165) rfl ?_
                show Steps p.tables e below (T137.setTop (mkF m 167 #[.val (.int p0), .val (.int p1), .val (.ref b2), .val (.int ch), .val (.int ch), .val (.int (0 : Int32))] [(.int (0 : Int32)), (.int (f1 ch))])) _
                refine XS.icmpNo X137.here hx rfl (hb hby at_167) rfl (teq (by rw [own_law]; simp only [← Int32.toInt_inj, Int32.lt_iff_toInt_lt, Int32.reduceToInt] at hc123_111 hc130_117 hc137_123 hc144_129 hc151_135; first | rw [if_pos (by omega)] | rw [if_neg (by omega)] : (f1 ch) = (0 : Int32))).2 ?_
                show Steps p.tables e below (T137.setTop (mkF m 170 #[.val (.int p0), .val (.int p1), .val (.ref b2), .val (.int ch), .val (.int ch), .val (.int (0 : Int32))] [])) _
                refine XS.iconst X137.here hx rfl (hb hby at_170) ?_
                show Steps p.tables e below (T137.setTop (mkF m 171 #[.val (.int p0), .val (.int p1), .val (.ref b2), .val (.int ch), .val (.int ch), .val (.int (0 : Int32))] [(.int (1 : Int32))])) _
                refine XS.goto X137.here hx rfl (pc0 := 171) (pc' := 175) rfl (hb hby at_171) (by decide) (by decide) ?_
                exact kt)
              clear pre138
              obtain ⟨fs, hr, hrun, hended, hW, hsame⟩ := X137.leave (v := some (.int (1 : Int32))) (fun h => by rw [Bd.returns] at h; cases h)
              refine ⟨_, _, pre139 _ ?_, hrun, hended, _, _, rfl, ?_, ⟨_, rfl⟩, hW, hsame.mono (by decide) (by decide)⟩
              · show Steps p.tables e below (T137.setTop (mkF m 175 #[.val (.int p0), .val (.int p1), .val (.ref b2), .val (.int ch), .val (.int ch), .val (.int (0 : Int32))] [(.int (1 : Int32))])) _
                exact retN X137 hx (t := .boolean) Bd.returns (by simp) (hb hby at_175) hr
              · show Q0 Z p0 p1 h0 n0 _ T137.heap _
                rw [e137]
                exact ⟨rfl, N137⟩
            · have pre140 : ∀ t, Steps p.tables e below (T66.setTop (mkF m 162 #[.val (.int p0), .val (.int p1), .val (.ref b2), .val (.int ch), .val (.int ch), .val (.int (1 : Int32))] [(.int ch)])) t → Steps p.tables e below (s₁.setTop (entryFrame m #[(.int p0), (.int p1)] maxLocals)) t := fun t kt => pre134 t (by
                show Steps p.tables e below (T66.setTop (mkF m 151 #[.val (.int p0), .val (.int p1), .val (.ref b2), .val (.int ch), .val (.int ch), .unset] [(.int (12 : Int32)), (.int ch)])) _
                refine XS.icmpNo X66.here hx rfl (hb hby at_151) rfl (feq hc151_135).1 ?_
                show Steps p.tables e below (T66.setTop (mkF m 154 #[.val (.int p0), .val (.int p1), .val (.ref b2), .val (.int ch), .val (.int ch), .unset] [])) _
                refine XS.iconst X66.here hx rfl (hb hby at_154) ?_
                show Steps p.tables e below (T66.setTop (mkF m 155 #[.val (.int p0), .val (.int p1), .val (.ref b2), .val (.int ch), .val (.int ch), .unset] [(.int (1 : Int32))])) _
                refine XS.goto X66.here hx rfl (pc0 := 155) (pc' := 159) rfl (hb hby at_155) (by decide) (by decide) ?_
                show Steps p.tables e below (T66.setTop (mkF m 159 #[.val (.int p0), .val (.int p1), .val (.ref b2), .val (.int ch), .val (.int ch), .unset] [(.int (1 : Int32))])) _
                refine XS.istore X66.here hx rfl (hb hby at_159) rfl (l' := #[.val (.int p0), .val (.int p1), .val (.ref b2), .val (.int ch), .val (.int ch), .val (.int (1 : Int32))]) rfl ?_
                show Steps p.tables e below (T66.setTop (mkF m 161 #[.val (.int p0), .val (.int p1), .val (.ref b2), .val (.int ch), .val (.int ch), .val (.int (1 : Int32))] [])) _
                refine XS.iloadN X66.here hx rfl (hb hby at_161) rfl ?_
                exact kt)
              clear pre134
              obtain ⟨_, _, ⟨T141, L141, k141, n141⟩, -, X141, ⟨Lc141, hQ141, l141, y141, z141⟩, st141⟩ := Jvm.LawKit.callS X66 hx (y := (⟨site_162.cls, "isBlank", "(C)Z"⟩ : MethodName)) hown (mvT hZ (hw _ (List.mem_of_getElem? (i := 3) rfl))) (mvT hZ (hw _ (List.mem_of_getElem? (i := 4) rfl))) (mvT hZ (hw _ (List.mem_of_getElem? (i := 5) rfl))) (mvT hZ (hw _ (List.mem_of_getElem? (i := 6) rfl))) (by decide) (backOf (W := 0) (rm1 l Z av hw [] ch  h66 n0 Z66 ) hZ (hw _ (List.mem_of_getElem? (i := 6) rfl)) (hw _ (List.mem_of_getElem? (i := 5) rfl)) (by decide) (by decide)) (g := (mkF m 162 #[.val (.int p0), .val (.int p1), .val (.ref b2), .val (.int ch), .val (.int ch), .val (.int (1 : Int32))] [(.int ch)])) rfl (by rw [hml]; rfl) (argsL := [(.int ch)]) (rest := []) (lenOf pd__C_Z rfl) rfl (by show 2 * 0 + _ ≤ _; exact Nat.le_of_eq rfl) (hb hby at_162) (fun _ _ => ⟨rfl, e66, (by decide : 1 + 0 ≤ _), (by decide : 16 + 0 ≤ _)⟩)
              dsimp only [Pt.U, Pt.locs, Pt.cells, Pt.slots] at X141 l141 y141 z141 st141 hQ141
              rw [l141, y141, z141] at X141
              clear l141 y141 z141
              obtain ⟨rfl, N141q, e141⟩ := hQ141
              have N141 := Fr.app N66 N141q
              have pre142 : ∀ t, Steps p.tables e below (T141.setTop (mkF m 165 #[.val (.int p0), .val (.int p1), .val (.ref b2), .val (.int ch), .val (.int ch), .val (.int (1 : Int32))] [(.int (f1 ch))])) t → Steps p.tables e below (s₁.setTop (entryFrame m #[(.int p0), (.int p1)] maxLocals)) t := fun t kt => pre140 t (st141 _ kt)
              clear pre140 st141
              have pre143 : ∀ t, Steps p.tables e below (T141.setTop (mkF m 175 #[.val (.int p0), .val (.int p1), .val (.ref b2), .val (.int ch), .val (.int ch), .val (.int (1 : Int32))] [(.int (1 : Int32))])) t → Steps p.tables e below (s₁.setTop (entryFrame m #[(.int p0), (.int p1)] maxLocals)) t := fun t kt => pre142 t (by
                show Steps p.tables e below (T141.setTop (mkF m 165 #[.val (.int p0), .val (.int p1), .val (.ref b2), .val (.int ch), .val (.int ch), .val (.int (1 : Int32))] [(.int (f1 ch))])) _
                refine XS.iload X141.here hx rfl (hb hby at_165) rfl ?_
                show Steps p.tables e below (T141.setTop (mkF m 167 #[.val (.int p0), .val (.int p1), .val (.ref b2), .val (.int ch), .val (.int ch), .val (.int (1 : Int32))] [(.int (1 : Int32)), (.int (f1 ch))])) _
                refine XS.icmpNo X141.here hx rfl (hb hby at_167) rfl (teq (by rw [own_law]; simp only [← Int32.toInt_inj, Int32.lt_iff_toInt_lt, Int32.reduceToInt] at hc123_111 hc130_117 hc137_123 hc144_129 hc151_135; first | rw [if_pos (by omega)] | rw [if_neg (by omega)] : (f1 ch) = (1 : Int32))).2 ?_
                show Steps p.tables e below (T141.setTop (mkF m 170 #[.val (.int p0), .val (.int p1), .val (.ref b2), .val (.int ch), .val (.int ch), .val (.int (1 : Int32))] [])) _
                refine XS.iconst X141.here hx rfl (hb hby at_170) ?_
                show Steps p.tables e below (T141.setTop (mkF m 171 #[.val (.int p0), .val (.int p1), .val (.ref b2), .val (.int ch), .val (.int ch), .val (.int (1 : Int32))] [(.int (1 : Int32))])) _
                refine XS.goto X141.here hx rfl (pc0 := 171) (pc' := 175) rfl (hb hby at_171) (by decide) (by decide) ?_
                exact kt)
              clear pre142
              obtain ⟨fs, hr, hrun, hended, hW, hsame⟩ := X141.leave (v := some (.int (1 : Int32))) (fun h => by rw [Bd.returns] at h; cases h)
              refine ⟨_, _, pre143 _ ?_, hrun, hended, _, _, rfl, ?_, ⟨_, rfl⟩, hW, hsame.mono (by decide) (by decide)⟩
              · show Steps p.tables e below (T141.setTop (mkF m 175 #[.val (.int p0), .val (.int p1), .val (.ref b2), .val (.int ch), .val (.int ch), .val (.int (1 : Int32))] [(.int (1 : Int32))])) _
                exact retN X141 hx (t := .boolean) Bd.returns (by simp) (hb hby at_175) hr
              · show Q0 Z p0 p1 h0 n0 _ T141.heap _
                rw [e141]
                exact ⟨rfl, N141⟩
set_option maxRecDepth 65536 in
set_option maxHeartbeats 40000000 in
theorem comes_1 {Post : Tables → Env → Array Value → State → Outcome → State → Prop} (hpost : ∀ tb e args s v u, (limb_1_1.after args s (.returned v) u = true ∧ limb_1_2.after args s (.returned v) u = true ∧ True) → FrameEnd s (.returned v) u (Jvm.fieldLocs frame_1_writes args s ++ Jvm.arrayLocs frame_1_arrays args s ++ Jvm.staticLocs frame_1_statics s) 16 128 → Post tb e args s (.returned v) u) :
    ArmFor flags0 classFile x code maxLocals ret World_1 tables_1 room_1 Calls_1 rest_1 Pre_1 Post := by
  intro l hfl _ _ p e ha hc hk s m args below hf hA hF happ hP
  obtain ⟨hcalls, hrest, hpre⟩ := hP
  obtain ⟨-, -, -, hnamed, -, -, -, hat⟩ := (Spec.applies_iff hf).mp happ
  obtain ⟨hg, hn⟩ := and_e (Cond.before_iff.mp (show (Jvm.Cond.and given_1 narrow_1).before args s = true from hpre))
  obtain ⟨g1, g2⟩ := and_e hg
  obtain ⟨g3, g4⟩ := and_e g2
  obtain ⟨w0, w1, rfl⟩ : ∃ w0 w1 : Value, args = #[w0, w1] := by
    have hs : args.size = 2 := by simpa [Cond.value, given_1] using g1
    obtain ⟨L⟩ := args
    match L, hs with
    | [w0, w1], _ => exact ⟨w0, w1, rfl⟩
  have hw := fun d (hd : d ∈ tables_1) => atoms_spec (ws := Jvm.Cond.code x code maxLocals ret :: tables_1) hat d (List.mem_cons_of_mem _ hd)
  obtain ⟨i0, ei0⟩ := is_v g3
  obtain rfl : w0 = (.int i0) := Option.some.inj ei0
  obtain ⟨i1, ei1⟩ := is_v g4
  obtain rfl : w1 = (.int i1) := Option.some.inj ei1
  obtain ⟨n, o, h1, h2, h3, _, L, rfl, ⟨rfl, N⟩, hq⟩ := rm0 l s _ hw tables_1 i0 i1 s.heap s.heap.size (Nat.le_refl _) p e ha hc hk s m _ below hf ((Spec.applies_iff_loose hf).mp happ).1 ⟨rfl, State.Warmed39.refl s, rfl⟩ trivial
  refine ⟨n, _, h1, h2, h3, hpost _ _ _ _ _ _ ⟨Cond.after_iff.mpr rfl, Cond.after_iff.mpr (eq_i res_at (Term.int_eval (1)) rfl), trivial⟩ ⟨hq.1, hq.2.1, (hq.2.2.sift fun y hy => Or.inr (N y hy)).mono (by decide) (by decide)⟩⟩
theorem main_1_1 : Claimed_1_1 := comes_1 fun _ _ _ _ _ _ h hF => ⟨h.1, hF⟩
theorem main_1_2 : Claimed_1_2 := comes_1 fun _ _ _ _ _ _ h hF => ⟨h.2.1, hF⟩
end Jvm.Pilot.@@N@@
namespace Jvm.Pilot.@@N@@
open Jvm Jvm.ClassFile Sem Op Lib Jvm.Free Jvm.Stand Jvm.Pilot.@@N@@.Jvm.D
/-! MADE BY PROGRAM (witnessworld.py) out of the Statement's table words and the real class files: 11 classes; the members and pool entries that the words name. The judged class is class 1, her method 1. -/
namespace start1
open Jvm.ClassFile
def u (s : String) : CpInfo := .utf8 (stringToUtf16 s)
/-- a pool by its gaps: so many unusable entries, then the entry; so many at the end -/
def gap : Nat → List CpInfo → List CpInfo
  | 0, r => r
  | n + 1, r => .unusable :: gap n r
def poolList (es : List (Nat × CpInfo)) (last : Nat) : List CpInfo := es.foldr (fun e r => gap e.1 (e.2 :: r)) (gap last [])
def pool (es : List (Nat × CpInfo)) (last : Nat) : Array CpInfo := ⟨poolList es last⟩
def fileOf (pool : Array CpInfo) (this : Nat) (attrs : Array Attribute := #[]) (ms : Array MethodInfo := #[]) (fl : Nat := 33) (sup : Nat := 0) (ifs : Array Nat := #[]) (fds : Array FieldInfo := #[]) : ClassFile where
  minorVersion := 0
  majorVersion := 65
  constantPool := pool
  accessFlags := fl
  thisClass := this
  superClass := sup
  interfaces := ifs
  fields := fds
  methods := ms
  attributes := attrs
def plain (name : String) (sup : Option ClassId) : Class where
  name := name
  kind := .ordinary
  loader := none
  accessFlags := 33
  super := sup
  interfaces := #[]
  cf := none
  fields := #[]
  methods := #[]
  instanceTypes := #[]
  staticTypes := #[]
  resolved := #[]
  callSites := []
  init := .initialized
  statics := none
  mirror := none

def pool0 : Array CpInfo := pool [(5, u "<init>"), (0, u "()V"), (1, .class_ 10), (1, u "java/lang/Object")] 113

def k0m0 : Method := { name := "<init>", desc := "()V", sig := { parameters := [], returnType := none }, accessFlags := 1, code := none }
/-- java/lang/Object -/
def k0 : Class := { plain "java/lang/Object" none with
  accessFlags := 33
  interfaces := #[]
  cf := some (fileOf pool0 8 #[] #[{ accessFlags := 1, nameIndex := 5, descriptorIndex := 6, attributes := #[] }] 33 0 #[] #[])
  fields := #[]
  methods := #[k0m0]
  instanceTypes := #[]
  staticTypes := #[]
  resolved := Array.replicate 124 none
  statics := none }

def pool1 : Array CpInfo := pool [(2, .class_ 4), (1, u "java/lang/Object"), (0, u "<init>"), (0, u "()V"), (0, .integer 65279), (0, .integer 65535), (0, .methodref 10 11), (0, .class_ 12), (0, .nameAndType 13 14), (0, u site_162.cls), (0, u "isBlank"), (0, u "(C)Z"), (0, .class_ 16), (0, u x.cls), (2, u "law"), (0, u "(II)Z")] 5

def k1m0 : Method := { name := "<init>", desc := "()V", sig := { parameters := [], returnType := none }, accessFlags := 2, code := none }
def k1c1 : Code := { maxStack := 4, maxLocals := 6, code := code, exceptionTable := #[], attributes := #[] }
def k1m1 : Method := { name := "law", desc := "(II)Z", sig := { parameters := [.int, .int], returnType := some .boolean }, accessFlags := 9, code := some k1c1 }
def k1 : Class := { plain x.cls (some 0) with
  accessFlags := 49
  interfaces := #[]
  cf := some (fileOf pool1 15 #[] #[{ accessFlags := 2, nameIndex := 5, descriptorIndex := 6, attributes := #[] }, { accessFlags := 9, nameIndex := 19, descriptorIndex := 20, attributes := #[] }] 49 2 #[] #[])
  fields := #[]
  methods := #[k1m0, k1m1]
  instanceTypes := #[]
  staticTypes := #[]
  resolved := Array.replicate 26 none
  statics := none }

def pool2 : Array CpInfo := pool [(2, .class_ 4), (1, u "java/lang/Object"), (0, u "<init>"), (0, u "()V"), (1, .class_ 10), (1, u site_162.cls), (1, u "(C)Z"), (42, u "isBlank")] 22

def k2m0 : Method := { name := "<init>", desc := "()V", sig := { parameters := [], returnType := none }, accessFlags := 2, code := none }
def k2c1 : Code := { maxStack := 2, maxLocals := 1, code := prog_36_method_2_code, exceptionTable := #[], attributes := #[] }
def k2m1 : Method := { name := "isBlank", desc := "(C)Z", sig := { parameters := [.char], returnType := some .boolean }, accessFlags := 8, code := some k2c1 }
def k2 : Class := { plain site_162.cls (some 0) with
  accessFlags := 32
  interfaces := #[]
  cf := some (fileOf pool2 8 #[] #[{ accessFlags := 2, nameIndex := 5, descriptorIndex := 6, attributes := #[] }, { accessFlags := 8, nameIndex := 55, descriptorIndex := 12, attributes := #[] }] 32 2 #[] #[])
  fields := #[]
  methods := #[k2m0, k2m1]
  instanceTypes := #[]
  staticTypes := #[]
  resolved := Array.replicate 78 none
  statics := none }

def pool3 : Array CpInfo := pool [(1, u "java/lang/Cloneable"), (0, .class_ 1), (0, u "java/lang/Object"), (0, .class_ 3)] 3

/-- java/lang/Cloneable -/
def k3 : Class := { plain "java/lang/Cloneable" (some 0) with
  accessFlags := 1537
  interfaces := #[]
  cf := some (fileOf pool3 2 #[] #[] 1537 4 #[] #[])
  fields := #[]
  methods := #[]
  instanceTypes := #[]
  staticTypes := #[]
  resolved := Array.replicate 8 none
  statics := none }

def pool4 : Array CpInfo := pool [(1, u "java/io/Serializable"), (0, .class_ 1), (0, u "java/lang/Object"), (0, .class_ 3)] 3

/-- java/io/Serializable -/
def k4 : Class := { plain "java/io/Serializable" (some 0) with
  accessFlags := 1537
  interfaces := #[]
  cf := some (fileOf pool4 2 #[] #[] 1537 4 #[] #[])
  fields := #[]
  methods := #[]
  instanceTypes := #[]
  staticTypes := #[]
  resolved := Array.replicate 8 none
  statics := none }

/-- the primitive byte -/
def k5 : Class := { plain "byte" none with kind := .primitive 'B', accessFlags := 0x411 }
/-- [B -/
def k6 : Class := { plain "[B" (some 0) with kind := .array 5 .byte, interfaces := #[3, 4], accessFlags := 1041 }

/-- the primitive char -/
def k7 : Class := { plain "char" none with kind := .primitive 'C', accessFlags := 0x411 }
/-- [C -/
def k8 : Class := { plain "[C" (some 0) with kind := .array 7 .char, interfaces := #[3, 4], accessFlags := 1041 }

/-- the primitive int -/
def k9 : Class := { plain "int" none with kind := .primitive 'I', accessFlags := 0x411 }
/-- [I -/
def k10 : Class := { plain "[I" (some 0) with kind := .array 9 .int, interfaces := #[3, 4], accessFlags := 1041 }

def heap : Heap := #[]
def classes : Array Class := #[k0, k1, k2, k3, k4, k5, k6, k7, k8, k9, k10]
def interned : List (Array UInt16 × Addr) := []
def slotsUsed : Nat := 0
def theMethod : MethodId := ⟨1, 1⟩
def args0 : Array Value := #[.int 5, .int 5]
def aboutOver (below : List Frame) : State where
  vm := { classes := classes, interned := interned.toArray }
  heap := heap
  slotsUsed := slotsUsed
  threads := #[{ frames := .invoking theMethod args0 :: below }]
def below0 : List Frame := [.native { method := ⟨0, 0⟩, args := #[] }]
def about1 : State := aboutOver below0
def p0 : Program := .bare "" "" ""
def e0 : Env := launch0.env 0 0 0
theorem w_frames : about1.frames = Frame.invoking theMethod args0 :: below0 := rfl
set_option maxRecDepth 65536 in
theorem w_args : argsFit about1.vm theMethod args0 = true := by decide +kernel
set_option maxRecDepth 65536 in
theorem w_heap : heapFits about1 = true := by decide +kernel
set_option maxRecDepth 65536 in
theorem w_runnable : about1.curStatus? = some .runnable := by decide +kernel
set_option maxRecDepth 65536 in
theorem w_alone : about1.alone = true := by decide +kernel
set_option maxRecDepth 65536 in
theorem w_named : about1.methodNamed? x = some theMethod := by decide +kernel
set_option maxRecDepth 65536 in
theorem w_hears : about1.hears theMethod below0 = true := by decide +kernel
set_option maxRecDepth 65536 in
theorem w_ripe : about1.ripe theMethod args0 below0 = true := by decide +kernel
theorem w_running : about1.status = .running := rfl
set_option maxRecDepth 65536 in
theorem w_room : about1.hasRoom e0.platform room_1 = true :=
  launch0.hasRoom_least _ room_1 (by decide +kernel) (by decide +kernel) (by decide +kernel) (by decide +kernel) (by decide +kernel) (by decide +kernel)
theorem allAtoms_all (ts : List Jvm.Cond) (a : Array Jvm.Value) (st : Jvm.State) : (allAtoms ts).before a st = ts.all (fun c => c.before a st) := by
  induction ts with
  | nil => rfl
  | cons c t ih =>
    show (Jvm.Cond.and c (allAtoms t)).before a st = _
    rw [Jvm.Cond.before_and, ih, List.all_cons]
def words1 : List Jvm.Cond := Jvm.Cond.code x code maxLocals ret :: tables_1
/-- a 'code' word, met by the world's own term for the bytes: nothing is compared byte by byte -/
theorem code_word {y : MethodName} {bytes : ByteArray} {mx : Nat} {rt : Option FieldType} {a : Array Value} {s : State} {m : MethodId} {meth : Method} {c : Code} (h1 : s.methodNamed? y = some m) (h2 : s.vm.method? m = some meth) (h3 : meth.code = some c) (h4 : c.code = bytes)
    (h5 : (c.maxLocals == mx && c.exceptionTable.isEmpty && decide (c.maxStack ≤ mostOperands) && decide (meth.sig.returnType = rt) && !meth.locks && decide (parseMethodDescriptor y.desc = some meth.sig)) = true) : (Jvm.Cond.code y bytes mx rt).before a s = true := by
  simp only [Bool.and_eq_true, beq_iff_eq, Bool.not_eq_true', decide_eq_true_eq] at h5
  obtain ⟨⟨⟨⟨⟨g1, g2⟩, g3⟩, g4⟩, g5⟩, g6⟩ := h5
  simp [Cond.before, Cond.holds, Cond.value, h1, h2, h3, h4, g1, g2, g3, g4, g5, g6]
def isCode : Jvm.Cond → Bool
  | .code _ _ _ _ => true
  | _ => false
theorem all_split {L : List Jvm.Cond} {P : Jvm.Cond → Bool} (h1 : L.all (fun c => isCode c || P c) = true) (h2 : ∀ c ∈ L.filter isCode, P c = true) : L.all P = true := by
  refine List.all_eq_true.mpr fun c hc => ?_
  have h := List.all_eq_true.mp h1 c hc
  rcases Bool.eq_false_or_eq_true (isCode c) with hi | hi
  · exact h2 c (List.mem_filter.mpr ⟨hc, hi⟩)
  · simpa [hi] using h
set_option maxRecDepth 65536 in
theorem w_c0 : (Jvm.Cond.code x code maxLocals ret).before args0 about1 = true := code_word (m := ⟨1, 1⟩) (meth := k1m1) (c := k1c1) (by decide +kernel) rfl rfl rfl (by decide +kernel)
set_option maxRecDepth 65536 in
theorem w_c1 : (Jvm.Cond.code ({ cls := site_162.cls, name := "isBlank", desc := "(C)Z" } : Jvm.MethodName) prog_36_method_2_code (1 : Nat) (Option.some Jvm.ClassFile.FieldType.boolean)).before args0 about1 = true := code_word (m := ⟨2, 1⟩) (meth := k2m1) (c := k2c1) (by decide +kernel) rfl rfl rfl (by decide +kernel)
def codes1 : List Jvm.Cond := [Jvm.Cond.code x code maxLocals ret, Jvm.Cond.code ({ cls := site_162.cls, name := "isBlank", desc := "(C)Z" } : Jvm.MethodName) prog_36_method_2_code (1 : Nat) (Option.some Jvm.ClassFile.FieldType.boolean)]
set_option maxRecDepth 65536 in
theorem codes_eq : words1.filter isCode = codes1 := rfl
theorem w_codes : ∀ c ∈ words1.filter isCode, c.before args0 about1 = true := by
  rw [codes_eq]
  intro c hc
  simp only [codes1, List.mem_cons, List.not_mem_nil, or_false] at hc
  rcases hc with rfl | rfl
  · exact w_c0
  · exact w_c1
set_option maxRecDepth 65536 in
theorem w_t1 : words1.all (fun c => isCode c || c.before args0 about1) = true := by decide +kernel
theorem w_tables : (allAtoms (Jvm.Cond.code x code maxLocals ret :: tables_1)).before args0 about1 = true := by
  rw [allAtoms_all]
  show words1.all (fun c => c.before args0 about1) = true
  refine all_split ?_ w_codes
  rw [w_t1]
set_option maxRecDepth 65536 in
theorem w_case : (Jvm.Cond.and given_1 narrow_1).before args0 about1 = true := by decide +kernel
theorem w_applies : (headSpec (Jvm.Cond.code x code maxLocals ret :: tables_1) room_1).applies x e0.platform about1 = true :=
  (Spec.applies_iff w_frames).mpr ⟨w_running, w_runnable, w_alone, w_named, w_hears, w_ripe, w_room, w_tables⟩
theorem atStart : AtStart classFile x code maxLocals ret World_1 tables_1 room_1 Calls_1 rest_1 Pre_1 launch0 p0 e0 about1 theMethod args0 below0 :=
  ⟨lists_1, trivial, launch0.admits_env _ _ _, launch0.least_env, fairChoices_fair.cas, fairChoices_fair.clock, w_frames, w_args, w_heap, w_applies, trivial, trivial, w_case⟩
end start1
theorem witness_1 : WitnessClaimed_1 := ⟨start1.p0, start1.e0, start1.about1, start1.theMethod, start1.args0, start1.below0, start1.atStart⟩
end Jvm.Pilot.@@N@@
