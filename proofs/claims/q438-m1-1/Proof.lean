import JvmDerived
import JvmDerived.Pilot.@@N@@Statement
import JvmDerived.Pilot.@@N@@Code
set_option linter.unusedVariables false
set_option linter.unusedSimpArgs false
namespace Jvm.RoadKit
open Sem ClassFile Op Lib Jvm.Stand Jvm.Free Jvm.LawKit
section New
variable {p : Program} {l : Launch} {e : Env} {R : Room} {s : State} {m : MethodId} {args : Array Value} {below : List Frame} {meth : Method} {c : Code} {T : State} {locs : List Loc} {cells slots : Nat}
theorem retI (X : Stand p l e R s m args below meth c T locs cells slots) (hx : p.tables.exec = Jvm.exec) {pc : Nat} {Ls : Array Slot} {z : Int32} {rest : List Value} (hret : meth.sig.returnType = some .int) (hd : decode c.code pc = .ok (.ireturn, 1)) {fs : List Frame}
    (hl : ∀ (f : JFrame) (acts : List Action), f.method = m → f.locked = none → f.entered = [] → (doReturn e (T.setTop f) acts (some (.int z))).1 = T.setFrames fs) : Steps p.tables e below (T.setTop (mkF m pc Ls (.int z :: rest))) (T.setFrames fs) := by
  have hm' : T.vm.method? m = some meth := X.method'
  have hn : narrow .int (.int z) = .int z := rfl
  show Steps p.tables e below (T.setTop { method := m, pc := pc, locals := Ls, stack := _ :: rest, locked := none }) _
  jvm_step X.here [X.here.top, hx, hd, hm', hret, hn]
  first | (intro acts; rw [hl _ acts rfl rfl rfl]) | rw [hl _ _ rfl rfl rfl]
  exact Steps.refl _
theorem retL (X : Stand p l e R s m args below meth c T locs cells slots) (hx : p.tables.exec = Jvm.exec) {pc : Nat} {Ls : Array Slot} {z : Int64} {rest : List Value} (hret : meth.sig.returnType = some .long) (hd : decode c.code pc = .ok (.lreturn, 1)) {fs : List Frame}
    (hl : ∀ (f : JFrame) (acts : List Action), f.method = m → f.locked = none → f.entered = [] → (doReturn e (T.setTop f) acts (some (.long z))).1 = T.setFrames fs) : Steps p.tables e below (T.setTop (mkF m pc Ls (.long z :: rest))) (T.setFrames fs) := by
  have hm' : T.vm.method? m = some meth := X.method'
  have hn : narrow .long (.long z) = .long z := rfl
  show Steps p.tables e below (T.setTop { method := m, pc := pc, locals := Ls, stack := _ :: rest, locked := none }) _
  jvm_step X.here [X.here.top, hx, hd, hm', hret, hn]
  first | (intro acts; rw [hl _ acts rfl rfl rfl]) | rw [hl _ _ rfl rfl rfl]
  exact Steps.refl _
end New
end Jvm.RoadKit
namespace Jvm.Pilot.@@N@@
open Jvm Jvm.ClassFile Sem Op Lib Jvm.Free Jvm.Stand Jvm.LawKit Jvm.RoadKit Bundle Jvm.Pilot.@@N@@.Jvm.D
theorem pn_com_example_baton_baton_support_SkippedContainsPinLaw : plainName "com/example/baton/baton/support/SkippedContainsPinLaw" = true := by first | (simp [plainName, overriddenIn]; done) | decide +kernel
theorem pn_com_example_baton_baton_support_Skipped : plainName "com/example/baton/baton/support/Skipped" = true := by first | (simp [plainName, overriddenIn]; done) | decide +kernel
theorem d1_0 : decode prog_26_method_3_code 0 = .ok (.iload_n 0, 1) := by decide +kernel
theorem d1_1 : decode prog_26_method_3_code 1 = .ok (.bipush 64, 2) := by decide +kernel
theorem d1_3 : decode prog_26_method_3_code 3 = .ok (.if_icmp .ge 23, 3) := by decide +kernel
theorem d1_6 : decode prog_26_method_3_code 6 = .ok (.lload_n 1, 1) := by decide +kernel
theorem d1_7 : decode prog_26_method_3_code 7 = .ok (.lconst 1, 1) := by decide +kernel
theorem d1_8 : decode prog_26_method_3_code 8 = .ok (.iload_n 0, 1) := by decide +kernel
theorem d1_9 : decode prog_26_method_3_code 9 = .ok (.lshl, 1) := by decide +kernel
theorem d1_10 : decode prog_26_method_3_code 10 = .ok (.land, 1) := by decide +kernel
theorem d1_11 : decode prog_26_method_3_code 11 = .ok (.lconst 0, 1) := by decide +kernel
theorem d1_12 : decode prog_26_method_3_code 12 = .ok (.lcmp, 1) := by decide +kernel
theorem d1_13 : decode prog_26_method_3_code 13 = .ok (.ifCond .eq 7, 3) := by decide +kernel
theorem d1_20 : decode prog_26_method_3_code 20 = .ok (.iconst 0, 1) := by decide +kernel
theorem d1_21 : decode prog_26_method_3_code 21 = .ok (.istore 6, 2) := by decide +kernel
theorem d1_23 : decode prog_26_method_3_code 23 = .ok (.goto 49, 3) := by decide +kernel
theorem d1_72 : decode prog_26_method_3_code 72 = .ok (.iload 6, 2) := by decide +kernel
theorem d1_74 : decode prog_26_method_3_code 74 = .ok (.ireturn, 1) := by decide +kernel
theorem d1_16 : decode prog_26_method_3_code 16 = .ok (.iconst 1, 1) := by decide +kernel
theorem d1_17 : decode prog_26_method_3_code 17 = .ok (.goto 4, 3) := by decide +kernel
theorem d1_26 : decode prog_26_method_3_code 26 = .ok (.iload_n 0, 1) := by decide +kernel
theorem d1_27 : decode prog_26_method_3_code 27 = .ok (.sipush 128, 3) := by decide +kernel
theorem d1_30 : decode prog_26_method_3_code 30 = .ok (.if_icmp .ge 23, 3) := by decide +kernel
theorem d1_33 : decode prog_26_method_3_code 33 = .ok (.lload_n 3, 1) := by decide +kernel
theorem d1_34 : decode prog_26_method_3_code 34 = .ok (.lconst 1, 1) := by decide +kernel
theorem d1_35 : decode prog_26_method_3_code 35 = .ok (.iload_n 0, 1) := by decide +kernel
theorem d1_36 : decode prog_26_method_3_code 36 = .ok (.lshl, 1) := by decide +kernel
theorem d1_37 : decode prog_26_method_3_code 37 = .ok (.land, 1) := by decide +kernel
theorem d1_38 : decode prog_26_method_3_code 38 = .ok (.lconst 0, 1) := by decide +kernel
theorem d1_39 : decode prog_26_method_3_code 39 = .ok (.lcmp, 1) := by decide +kernel
theorem d1_40 : decode prog_26_method_3_code 40 = .ok (.ifCond .eq 7, 3) := by decide +kernel
theorem d1_47 : decode prog_26_method_3_code 47 = .ok (.iconst 0, 1) := by decide +kernel
theorem d1_48 : decode prog_26_method_3_code 48 = .ok (.istore 6, 2) := by decide +kernel
theorem d1_50 : decode prog_26_method_3_code 50 = .ok (.goto 22, 3) := by decide +kernel
theorem d1_43 : decode prog_26_method_3_code 43 = .ok (.iconst 1, 1) := by decide +kernel
theorem d1_44 : decode prog_26_method_3_code 44 = .ok (.goto 4, 3) := by decide +kernel
theorem d1_53 : decode prog_26_method_3_code 53 = .ok (.aload 5, 2) := by decide +kernel
theorem d1_55 : decode prog_26_method_3_code 55 = .ok (.ifnull 14, 3) := by decide +kernel
theorem d1_69 : decode prog_26_method_3_code 69 = .ok (.iconst 0, 1) := by decide +kernel
theorem d1_70 : decode prog_26_method_3_code 70 = .ok (.istore 6, 2) := by decide +kernel
theorem ef1n (m : MethodId) (x0 : Int32) (x1 : Int64) (x2 : Int64) : entryFrame m #[(.int x0), (.long x1), (.long x2), .null] 7 = mkF m 0 #[.val (.int x0), .val (.long x1), .second, .val (.long x2), .second, .val .null, .unset] [] := by first | (simp [entryFrame, mkF, argsToLocals, Value.category]; done) | rfl
def f_cn (p0 : Int32) (q1 : Int64) (q2 : Int64) : Int32 :=
  if p0 < (64 : Int32) then
    if (q1 &&& ((1 : Int64) <<< (p0 &&& 0x3f).toInt64)) = (0 : Int64) then
      (0 : Int32)
    else
      (1 : Int32)
  else
    if p0 < (128 : Int32) then
      if (q2 &&& ((1 : Int64) <<< (p0 &&& 0x3f).toInt64)) = (0 : Int64) then
        (0 : Int32)
      else
        (1 : Int32)
    else
      (0 : Int32)
def Q1n (Z : State) (p0 : Int32) (q1 : Int64) (q2 : Int64) (h0 : Heap) (n0 : Nat) (v : Option Value) (h : Heap) (L : List Loc) : Prop := v = some (.int (f_cn p0 q1 q2)) ∧ Fr n0 L ∧ h = h0
set_option maxRecDepth 65536 in
set_option maxHeartbeats 40000000 in
theorem rm1n (l : Launch) (Z : State) (av : Array Value) (hw : ∀ d ∈ tables_1, d.before av Z = true) (ws : List Jvm.Cond) (p0 : Int32) (q1 : Int64) (q2 : Int64) (h0 : Heap) (n0 : Nat) (Z0 : n0 ≤ h0.size) :
    MetFree l (⟨"com/example/baton/baton/support/Skipped", "contains", "(IJJ[Z)Z"⟩ : MethodName) (head1 (Jvm.Cond.code (⟨"com/example/baton/baton/support/Skipped", "contains", "(IJJ[Z)Z"⟩ : MethodName) prog_26_method_3_code 7 (some .boolean) :: ws) ({ frames := 0, cells := 0, slots := 0, locals := 0 } : Room)) (fun a U => a = #[(.int p0), (.long q1), (.long q2), .null] ∧ Z.Warmed39 U.vm ∧ U.heap = h0) (fun _ _ _ _ _ => True) (fun _ U o U' => ∃ v L, o = .returned v ∧ Q1n Z p0 q1 q2 h0 n0 v U'.heap L ∧ FrameEnd U o U' L ({ frames := 0, cells := 0, slots := 0, locals := 0 } : Room).cells ({ frames := 0, cells := 0, slots := 0, locals := 0 } : Room).slots) := by
  refine MetFree.of_bodySF (plainFor_of_name pn_com_example_baton_baton_support_Skipped) hisR ?_
  intro p e s m args below meth c s₁ Bd hml0 hP hK
  obtain ⟨rfl, hZ, hh⟩ := hP
  have hx := Bd.exec
  have hby := Bd.bytes
  have hml : c.maxLocals = 7 := hml0
  have hown : s.vm.findClass "com/example/baton/baton/support/Skipped" = some m.cls := findClass_of_methodNamed Bd.named
  have hnm := (name_of_methodNamed Bd.named Bd.method).1
  have X0 : Stand p l e ({ frames := 0, cells := 0, slots := 0, locals := 0 } : Room) s m #[(.int p0), (.long q1), (.long q2), .null] below meth c s₁ [] 0 0 := Stand.of_body Bd
  have e0 : s₁.heap = h0 := by rw [← hh, Bd.state]; rfl
  have N0 := Fr.nil n0
  have K0 : Keep h0 h0 [] := Keep.refl h0 []
  have pre0 : ∀ t, Steps p.tables e below (s₁.setTop (mkF m 0 #[.val (.int p0), .val (.long q1), .second, .val (.long q2), .second, .val .null, .unset] [])) t → Steps p.tables e below (s₁.setTop (entryFrame m #[(.int p0), (.long q1), (.long q2), .null] 7)) t := fun t k => castTop (ef1n m p0 q1 q2) k
  have pre1 : ∀ t, Steps p.tables e below (s₁.setTop (mkF m 3 #[.val (.int p0), .val (.long q1), .second, .val (.long q2), .second, .val .null, .unset] [(.int (64 : Int32)), (.int p0)])) t → Steps p.tables e below (s₁.setTop (entryFrame m #[(.int p0), (.long q1), (.long q2), .null] 7)) t := fun t kt => pre0 t (by
    show Steps p.tables e below (s₁.setTop (mkF m 0 #[.val (.int p0), .val (.long q1), .second, .val (.long q2), .second, .val .null, .unset] [])) _
    refine XS.iloadN X0.here hx rfl (hb hby d1_0) rfl ?_
    show Steps p.tables e below (s₁.setTop (mkF m 1 #[.val (.int p0), .val (.long q1), .second, .val (.long q2), .second, .val .null, .unset] [(.int p0)])) _
    refine XS.bipush X0.here hx rfl (hb hby d1_1) ?_
    exact kt)
  by_cases hc3_2 : p0 < (64 : Int32)
  · have pre3 : ∀ t, Steps p.tables e below (s₁.setTop (mkF m 13 #[.val (.int p0), .val (.long q1), .second, .val (.long q2), .second, .val .null, .unset] [(.int (lcmpW (q1 &&& ((1 : Int64) <<< (p0 &&& 0x3f).toInt64)) (0 : Int64)))])) t → Steps p.tables e below (s₁.setTop (entryFrame m #[(.int p0), (.long q1), (.long q2), .null] 7)) t := fun t kt => pre1 t (by
      show Steps p.tables e below (s₁.setTop (mkF m 3 #[.val (.int p0), .val (.long q1), .second, .val (.long q2), .second, .val .null, .unset] [(.int (64 : Int32)), (.int p0)])) _
      refine XS.icmpNo X0.here hx rfl (hb hby d1_3) rfl (tlt hc3_2).2.1 ?_
      show Steps p.tables e below (s₁.setTop (mkF m 6 #[.val (.int p0), .val (.long q1), .second, .val (.long q2), .second, .val .null, .unset] [])) _
      refine XS.lloadN X0.here hx rfl (hb hby d1_6) rfl ?_
      show Steps p.tables e below (s₁.setTop (mkF m 7 #[.val (.int p0), .val (.long q1), .second, .val (.long q2), .second, .val .null, .unset] [(.long q1)])) _
      refine XS.lconst X0.here hx rfl (hb hby d1_7) ?_
      show Steps p.tables e below (s₁.setTop (mkF m 8 #[.val (.int p0), .val (.long q1), .second, .val (.long q2), .second, .val .null, .unset] [(.long (1 : Int64)), (.long q1)])) _
      refine XS.iloadN X0.here hx rfl (hb hby d1_8) rfl ?_
      show Steps p.tables e below (s₁.setTop (mkF m 9 #[.val (.int p0), .val (.long q1), .second, .val (.long q2), .second, .val .null, .unset] [(.int p0), (.long (1 : Int64)), (.long q1)])) _
      refine XS.lshl X0.here hx rfl (hb hby d1_9) rfl ?_
      show Steps p.tables e below (s₁.setTop (mkF m 10 #[.val (.int p0), .val (.long q1), .second, .val (.long q2), .second, .val .null, .unset] [(.long ((1 : Int64) <<< (p0 &&& 0x3f).toInt64)), (.long q1)])) _
      refine XS.land X0.here hx rfl (hb hby d1_10) rfl ?_
      show Steps p.tables e below (s₁.setTop (mkF m 11 #[.val (.int p0), .val (.long q1), .second, .val (.long q2), .second, .val .null, .unset] [(.long (q1 &&& ((1 : Int64) <<< (p0 &&& 0x3f).toInt64)))])) _
      refine XS.lconst X0.here hx rfl (hb hby d1_11) ?_
      show Steps p.tables e below (s₁.setTop (mkF m 12 #[.val (.int p0), .val (.long q1), .second, .val (.long q2), .second, .val .null, .unset] [(.long (0 : Int64)), (.long (q1 &&& ((1 : Int64) <<< (p0 &&& 0x3f).toInt64)))])) _
      refine XS.lcmp X0.here hx rfl (hb hby d1_12) rfl ?_
      exact kt)
    by_cases hc13_4 : (q1 &&& ((1 : Int64) <<< (p0 &&& 0x3f).toInt64)) = (0 : Int64)
    · have pre5 : ∀ t, Steps p.tables e below (s₁.setTop (mkF m 74 #[.val (.int p0), .val (.long q1), .second, .val (.long q2), .second, .val .null, .val (.int (0 : Int32))] [(.int (0 : Int32))])) t → Steps p.tables e below (s₁.setTop (entryFrame m #[(.int p0), (.long q1), (.long q2), .null] 7)) t := fun t kt => pre3 t (by
        show Steps p.tables e below (s₁.setTop (mkF m 13 #[.val (.int p0), .val (.long q1), .second, .val (.long q2), .second, .val .null, .unset] [(.int (lcmpW (q1 &&& ((1 : Int64) <<< (p0 &&& 0x3f).toInt64)) (0 : Int64)))])) _
        refine XS.ifYes X0.here hx rfl (pc0 := 13) (pc' := 20) rfl (hb hby d1_13) rfl (Jvm.Free.XT.ll_eq_t hc13_4) (by decide) (by decide) ?_
        show Steps p.tables e below (s₁.setTop (mkF m 20 #[.val (.int p0), .val (.long q1), .second, .val (.long q2), .second, .val .null, .unset] [])) _
        refine XS.iconst X0.here hx rfl (hb hby d1_20) ?_
        show Steps p.tables e below (s₁.setTop (mkF m 21 #[.val (.int p0), .val (.long q1), .second, .val (.long q2), .second, .val .null, .unset] [(.int (0 : Int32))])) _
        refine XS.istore X0.here hx rfl (hb hby d1_21) rfl (l' := #[.val (.int p0), .val (.long q1), .second, .val (.long q2), .second, .val .null, .val (.int (0 : Int32))]) rfl ?_
        show Steps p.tables e below (s₁.setTop (mkF m 23 #[.val (.int p0), .val (.long q1), .second, .val (.long q2), .second, .val .null, .val (.int (0 : Int32))] [])) _
        refine XS.goto X0.here hx rfl (pc0 := 23) (pc' := 72) rfl (hb hby d1_23) (by decide) (by decide) ?_
        show Steps p.tables e below (s₁.setTop (mkF m 72 #[.val (.int p0), .val (.long q1), .second, .val (.long q2), .second, .val .null, .val (.int (0 : Int32))] [])) _
        refine XS.iload X0.here hx rfl (hb hby d1_72) rfl ?_
        exact kt)
      have hv : f_cn p0 q1 q2 = (0 : Int32) := by
        unfold f_cn
        rw [if_pos hc3_2, if_pos hc13_4]
      obtain ⟨fs, hr, hrun, hended, hW, hsame⟩ := X0.leave (v := some (.int (f_cn p0 q1 q2))) (fun h => by rw [Bd.returns] at h; cases h)
      refine ⟨_, _, pre5 _ ?_, hrun, hended, _, _, rfl, ?_, ⟨_, rfl⟩, hW, hsame.mono (by decide) (by decide)⟩
      · rw [hv] at hr
        show Steps p.tables e below (s₁.setTop (mkF m 74 #[.val (.int p0), .val (.long q1), .second, .val (.long q2), .second, .val .null, .val (.int (0 : Int32))] [(.int (0 : Int32))])) _
        exact retN X0 hx (t := .boolean) Bd.returns (by simp) (hb hby d1_74) hr
      · show Q1n Z p0 q1 q2 h0 n0 _ s₁.heap _
        rw [e0]
        exact ⟨rfl, N0, rfl⟩
    · have pre6 : ∀ t, Steps p.tables e below (s₁.setTop (mkF m 74 #[.val (.int p0), .val (.long q1), .second, .val (.long q2), .second, .val .null, .val (.int (1 : Int32))] [(.int (1 : Int32))])) t → Steps p.tables e below (s₁.setTop (entryFrame m #[(.int p0), (.long q1), (.long q2), .null] 7)) t := fun t kt => pre3 t (by
        show Steps p.tables e below (s₁.setTop (mkF m 13 #[.val (.int p0), .val (.long q1), .second, .val (.long q2), .second, .val .null, .unset] [(.int (lcmpW (q1 &&& ((1 : Int64) <<< (p0 &&& 0x3f).toInt64)) (0 : Int64)))])) _
        refine XS.ifNo X0.here hx rfl (hb hby d1_13) rfl (Jvm.Free.XT.ll_eq_f hc13_4) ?_
        show Steps p.tables e below (s₁.setTop (mkF m 16 #[.val (.int p0), .val (.long q1), .second, .val (.long q2), .second, .val .null, .unset] [])) _
        refine XS.iconst X0.here hx rfl (hb hby d1_16) ?_
        show Steps p.tables e below (s₁.setTop (mkF m 17 #[.val (.int p0), .val (.long q1), .second, .val (.long q2), .second, .val .null, .unset] [(.int (1 : Int32))])) _
        refine XS.goto X0.here hx rfl (pc0 := 17) (pc' := 21) rfl (hb hby d1_17) (by decide) (by decide) ?_
        show Steps p.tables e below (s₁.setTop (mkF m 21 #[.val (.int p0), .val (.long q1), .second, .val (.long q2), .second, .val .null, .unset] [(.int (1 : Int32))])) _
        refine XS.istore X0.here hx rfl (hb hby d1_21) rfl (l' := #[.val (.int p0), .val (.long q1), .second, .val (.long q2), .second, .val .null, .val (.int (1 : Int32))]) rfl ?_
        show Steps p.tables e below (s₁.setTop (mkF m 23 #[.val (.int p0), .val (.long q1), .second, .val (.long q2), .second, .val .null, .val (.int (1 : Int32))] [])) _
        refine XS.goto X0.here hx rfl (pc0 := 23) (pc' := 72) rfl (hb hby d1_23) (by decide) (by decide) ?_
        show Steps p.tables e below (s₁.setTop (mkF m 72 #[.val (.int p0), .val (.long q1), .second, .val (.long q2), .second, .val .null, .val (.int (1 : Int32))] [])) _
        refine XS.iload X0.here hx rfl (hb hby d1_72) rfl ?_
        exact kt)
      have hv : f_cn p0 q1 q2 = (1 : Int32) := by
        unfold f_cn
        rw [if_pos hc3_2, if_neg hc13_4]
      obtain ⟨fs, hr, hrun, hended, hW, hsame⟩ := X0.leave (v := some (.int (f_cn p0 q1 q2))) (fun h => by rw [Bd.returns] at h; cases h)
      refine ⟨_, _, pre6 _ ?_, hrun, hended, _, _, rfl, ?_, ⟨_, rfl⟩, hW, hsame.mono (by decide) (by decide)⟩
      · rw [hv] at hr
        show Steps p.tables e below (s₁.setTop (mkF m 74 #[.val (.int p0), .val (.long q1), .second, .val (.long q2), .second, .val .null, .val (.int (1 : Int32))] [(.int (1 : Int32))])) _
        exact retN X0 hx (t := .boolean) Bd.returns (by simp) (hb hby d1_74) hr
      · show Q1n Z p0 q1 q2 h0 n0 _ s₁.heap _
        rw [e0]
        exact ⟨rfl, N0, rfl⟩
  · have pre7 : ∀ t, Steps p.tables e below (s₁.setTop (mkF m 30 #[.val (.int p0), .val (.long q1), .second, .val (.long q2), .second, .val .null, .unset] [(.int (128 : Int32)), (.int p0)])) t → Steps p.tables e below (s₁.setTop (entryFrame m #[(.int p0), (.long q1), (.long q2), .null] 7)) t := fun t kt => pre1 t (by
      show Steps p.tables e below (s₁.setTop (mkF m 3 #[.val (.int p0), .val (.long q1), .second, .val (.long q2), .second, .val .null, .unset] [(.int (64 : Int32)), (.int p0)])) _
      refine XS.icmpYes X0.here hx rfl (pc0 := 3) (pc' := 26) rfl (hb hby d1_3) rfl (flt hc3_2).2.1 (by decide) (by decide) ?_
      show Steps p.tables e below (s₁.setTop (mkF m 26 #[.val (.int p0), .val (.long q1), .second, .val (.long q2), .second, .val .null, .unset] [])) _
      refine XS.iloadN X0.here hx rfl (hb hby d1_26) rfl ?_
      show Steps p.tables e below (s₁.setTop (mkF m 27 #[.val (.int p0), .val (.long q1), .second, .val (.long q2), .second, .val .null, .unset] [(.int p0)])) _
      refine XS.sipush X0.here hx rfl (hb hby d1_27) ?_
      exact kt)
    by_cases hc30_8 : p0 < (128 : Int32)
    · have pre9 : ∀ t, Steps p.tables e below (s₁.setTop (mkF m 40 #[.val (.int p0), .val (.long q1), .second, .val (.long q2), .second, .val .null, .unset] [(.int (lcmpW (q2 &&& ((1 : Int64) <<< (p0 &&& 0x3f).toInt64)) (0 : Int64)))])) t → Steps p.tables e below (s₁.setTop (entryFrame m #[(.int p0), (.long q1), (.long q2), .null] 7)) t := fun t kt => pre7 t (by
        show Steps p.tables e below (s₁.setTop (mkF m 30 #[.val (.int p0), .val (.long q1), .second, .val (.long q2), .second, .val .null, .unset] [(.int (128 : Int32)), (.int p0)])) _
        refine XS.icmpNo X0.here hx rfl (hb hby d1_30) rfl (tlt hc30_8).2.1 ?_
        show Steps p.tables e below (s₁.setTop (mkF m 33 #[.val (.int p0), .val (.long q1), .second, .val (.long q2), .second, .val .null, .unset] [])) _
        refine XS.lloadN X0.here hx rfl (hb hby d1_33) rfl ?_
        show Steps p.tables e below (s₁.setTop (mkF m 34 #[.val (.int p0), .val (.long q1), .second, .val (.long q2), .second, .val .null, .unset] [(.long q2)])) _
        refine XS.lconst X0.here hx rfl (hb hby d1_34) ?_
        show Steps p.tables e below (s₁.setTop (mkF m 35 #[.val (.int p0), .val (.long q1), .second, .val (.long q2), .second, .val .null, .unset] [(.long (1 : Int64)), (.long q2)])) _
        refine XS.iloadN X0.here hx rfl (hb hby d1_35) rfl ?_
        show Steps p.tables e below (s₁.setTop (mkF m 36 #[.val (.int p0), .val (.long q1), .second, .val (.long q2), .second, .val .null, .unset] [(.int p0), (.long (1 : Int64)), (.long q2)])) _
        refine XS.lshl X0.here hx rfl (hb hby d1_36) rfl ?_
        show Steps p.tables e below (s₁.setTop (mkF m 37 #[.val (.int p0), .val (.long q1), .second, .val (.long q2), .second, .val .null, .unset] [(.long ((1 : Int64) <<< (p0 &&& 0x3f).toInt64)), (.long q2)])) _
        refine XS.land X0.here hx rfl (hb hby d1_37) rfl ?_
        show Steps p.tables e below (s₁.setTop (mkF m 38 #[.val (.int p0), .val (.long q1), .second, .val (.long q2), .second, .val .null, .unset] [(.long (q2 &&& ((1 : Int64) <<< (p0 &&& 0x3f).toInt64)))])) _
        refine XS.lconst X0.here hx rfl (hb hby d1_38) ?_
        show Steps p.tables e below (s₁.setTop (mkF m 39 #[.val (.int p0), .val (.long q1), .second, .val (.long q2), .second, .val .null, .unset] [(.long (0 : Int64)), (.long (q2 &&& ((1 : Int64) <<< (p0 &&& 0x3f).toInt64)))])) _
        refine XS.lcmp X0.here hx rfl (hb hby d1_39) rfl ?_
        exact kt)
      by_cases hc40_10 : (q2 &&& ((1 : Int64) <<< (p0 &&& 0x3f).toInt64)) = (0 : Int64)
      · have pre11 : ∀ t, Steps p.tables e below (s₁.setTop (mkF m 74 #[.val (.int p0), .val (.long q1), .second, .val (.long q2), .second, .val .null, .val (.int (0 : Int32))] [(.int (0 : Int32))])) t → Steps p.tables e below (s₁.setTop (entryFrame m #[(.int p0), (.long q1), (.long q2), .null] 7)) t := fun t kt => pre9 t (by
          show Steps p.tables e below (s₁.setTop (mkF m 40 #[.val (.int p0), .val (.long q1), .second, .val (.long q2), .second, .val .null, .unset] [(.int (lcmpW (q2 &&& ((1 : Int64) <<< (p0 &&& 0x3f).toInt64)) (0 : Int64)))])) _
          refine XS.ifYes X0.here hx rfl (pc0 := 40) (pc' := 47) rfl (hb hby d1_40) rfl (Jvm.Free.XT.ll_eq_t hc40_10) (by decide) (by decide) ?_
          show Steps p.tables e below (s₁.setTop (mkF m 47 #[.val (.int p0), .val (.long q1), .second, .val (.long q2), .second, .val .null, .unset] [])) _
          refine XS.iconst X0.here hx rfl (hb hby d1_47) ?_
          show Steps p.tables e below (s₁.setTop (mkF m 48 #[.val (.int p0), .val (.long q1), .second, .val (.long q2), .second, .val .null, .unset] [(.int (0 : Int32))])) _
          refine XS.istore X0.here hx rfl (hb hby d1_48) rfl (l' := #[.val (.int p0), .val (.long q1), .second, .val (.long q2), .second, .val .null, .val (.int (0 : Int32))]) rfl ?_
          show Steps p.tables e below (s₁.setTop (mkF m 50 #[.val (.int p0), .val (.long q1), .second, .val (.long q2), .second, .val .null, .val (.int (0 : Int32))] [])) _
          refine XS.goto X0.here hx rfl (pc0 := 50) (pc' := 72) rfl (hb hby d1_50) (by decide) (by decide) ?_
          show Steps p.tables e below (s₁.setTop (mkF m 72 #[.val (.int p0), .val (.long q1), .second, .val (.long q2), .second, .val .null, .val (.int (0 : Int32))] [])) _
          refine XS.iload X0.here hx rfl (hb hby d1_72) rfl ?_
          exact kt)
        have hv : f_cn p0 q1 q2 = (0 : Int32) := by
          unfold f_cn
          rw [if_neg hc3_2, if_pos hc30_8, if_pos hc40_10]
        obtain ⟨fs, hr, hrun, hended, hW, hsame⟩ := X0.leave (v := some (.int (f_cn p0 q1 q2))) (fun h => by rw [Bd.returns] at h; cases h)
        refine ⟨_, _, pre11 _ ?_, hrun, hended, _, _, rfl, ?_, ⟨_, rfl⟩, hW, hsame.mono (by decide) (by decide)⟩
        · rw [hv] at hr
          show Steps p.tables e below (s₁.setTop (mkF m 74 #[.val (.int p0), .val (.long q1), .second, .val (.long q2), .second, .val .null, .val (.int (0 : Int32))] [(.int (0 : Int32))])) _
          exact retN X0 hx (t := .boolean) Bd.returns (by simp) (hb hby d1_74) hr
        · show Q1n Z p0 q1 q2 h0 n0 _ s₁.heap _
          rw [e0]
          exact ⟨rfl, N0, rfl⟩
      · have pre12 : ∀ t, Steps p.tables e below (s₁.setTop (mkF m 74 #[.val (.int p0), .val (.long q1), .second, .val (.long q2), .second, .val .null, .val (.int (1 : Int32))] [(.int (1 : Int32))])) t → Steps p.tables e below (s₁.setTop (entryFrame m #[(.int p0), (.long q1), (.long q2), .null] 7)) t := fun t kt => pre9 t (by
          show Steps p.tables e below (s₁.setTop (mkF m 40 #[.val (.int p0), .val (.long q1), .second, .val (.long q2), .second, .val .null, .unset] [(.int (lcmpW (q2 &&& ((1 : Int64) <<< (p0 &&& 0x3f).toInt64)) (0 : Int64)))])) _
          refine XS.ifNo X0.here hx rfl (hb hby d1_40) rfl (Jvm.Free.XT.ll_eq_f hc40_10) ?_
          show Steps p.tables e below (s₁.setTop (mkF m 43 #[.val (.int p0), .val (.long q1), .second, .val (.long q2), .second, .val .null, .unset] [])) _
          refine XS.iconst X0.here hx rfl (hb hby d1_43) ?_
          show Steps p.tables e below (s₁.setTop (mkF m 44 #[.val (.int p0), .val (.long q1), .second, .val (.long q2), .second, .val .null, .unset] [(.int (1 : Int32))])) _
          refine XS.goto X0.here hx rfl (pc0 := 44) (pc' := 48) rfl (hb hby d1_44) (by decide) (by decide) ?_
          show Steps p.tables e below (s₁.setTop (mkF m 48 #[.val (.int p0), .val (.long q1), .second, .val (.long q2), .second, .val .null, .unset] [(.int (1 : Int32))])) _
          refine XS.istore X0.here hx rfl (hb hby d1_48) rfl (l' := #[.val (.int p0), .val (.long q1), .second, .val (.long q2), .second, .val .null, .val (.int (1 : Int32))]) rfl ?_
          show Steps p.tables e below (s₁.setTop (mkF m 50 #[.val (.int p0), .val (.long q1), .second, .val (.long q2), .second, .val .null, .val (.int (1 : Int32))] [])) _
          refine XS.goto X0.here hx rfl (pc0 := 50) (pc' := 72) rfl (hb hby d1_50) (by decide) (by decide) ?_
          show Steps p.tables e below (s₁.setTop (mkF m 72 #[.val (.int p0), .val (.long q1), .second, .val (.long q2), .second, .val .null, .val (.int (1 : Int32))] [])) _
          refine XS.iload X0.here hx rfl (hb hby d1_72) rfl ?_
          exact kt)
        have hv : f_cn p0 q1 q2 = (1 : Int32) := by
          unfold f_cn
          rw [if_neg hc3_2, if_pos hc30_8, if_neg hc40_10]
        obtain ⟨fs, hr, hrun, hended, hW, hsame⟩ := X0.leave (v := some (.int (f_cn p0 q1 q2))) (fun h => by rw [Bd.returns] at h; cases h)
        refine ⟨_, _, pre12 _ ?_, hrun, hended, _, _, rfl, ?_, ⟨_, rfl⟩, hW, hsame.mono (by decide) (by decide)⟩
        · rw [hv] at hr
          show Steps p.tables e below (s₁.setTop (mkF m 74 #[.val (.int p0), .val (.long q1), .second, .val (.long q2), .second, .val .null, .val (.int (1 : Int32))] [(.int (1 : Int32))])) _
          exact retN X0 hx (t := .boolean) Bd.returns (by simp) (hb hby d1_74) hr
        · show Q1n Z p0 q1 q2 h0 n0 _ s₁.heap _
          rw [e0]
          exact ⟨rfl, N0, rfl⟩
    · have pre13 : ∀ t, Steps p.tables e below (s₁.setTop (mkF m 74 #[.val (.int p0), .val (.long q1), .second, .val (.long q2), .second, .val .null, .val (.int (0 : Int32))] [(.int (0 : Int32))])) t → Steps p.tables e below (s₁.setTop (entryFrame m #[(.int p0), (.long q1), (.long q2), .null] 7)) t := fun t kt => pre7 t (by
        show Steps p.tables e below (s₁.setTop (mkF m 30 #[.val (.int p0), .val (.long q1), .second, .val (.long q2), .second, .val .null, .unset] [(.int (128 : Int32)), (.int p0)])) _
        refine XS.icmpYes X0.here hx rfl (pc0 := 30) (pc' := 53) rfl (hb hby d1_30) rfl (flt hc30_8).2.1 (by decide) (by decide) ?_
        show Steps p.tables e below (s₁.setTop (mkF m 53 #[.val (.int p0), .val (.long q1), .second, .val (.long q2), .second, .val .null, .unset] [])) _
        refine XS.aload X0.here hx rfl (hb hby d1_53) rfl rfl ?_
        show Steps p.tables e below (s₁.setTop (mkF m 55 #[.val (.int p0), .val (.long q1), .second, .val (.long q2), .second, .val .null, .unset] [.null])) _
        refine XS.ifnullYes X0.here hx rfl (pc0 := 55) (pc' := 69) rfl (hb hby d1_55) rfl (by decide) (by decide) ?_
        show Steps p.tables e below (s₁.setTop (mkF m 69 #[.val (.int p0), .val (.long q1), .second, .val (.long q2), .second, .val .null, .unset] [])) _
        refine XS.iconst X0.here hx rfl (hb hby d1_69) ?_
        show Steps p.tables e below (s₁.setTop (mkF m 70 #[.val (.int p0), .val (.long q1), .second, .val (.long q2), .second, .val .null, .unset] [(.int (0 : Int32))])) _
        refine XS.istore X0.here hx rfl (hb hby d1_70) rfl (l' := #[.val (.int p0), .val (.long q1), .second, .val (.long q2), .second, .val .null, .val (.int (0 : Int32))]) rfl ?_
        show Steps p.tables e below (s₁.setTop (mkF m 72 #[.val (.int p0), .val (.long q1), .second, .val (.long q2), .second, .val .null, .val (.int (0 : Int32))] [])) _
        refine XS.iload X0.here hx rfl (hb hby d1_72) rfl ?_
        exact kt)
      have hv : f_cn p0 q1 q2 = (0 : Int32) := by
        unfold f_cn
        rw [if_neg hc3_2, if_neg hc30_8]
      obtain ⟨fs, hr, hrun, hended, hW, hsame⟩ := X0.leave (v := some (.int (f_cn p0 q1 q2))) (fun h => by rw [Bd.returns] at h; cases h)
      refine ⟨_, _, pre13 _ ?_, hrun, hended, _, _, rfl, ?_, ⟨_, rfl⟩, hW, hsame.mono (by decide) (by decide)⟩
      · rw [hv] at hr
        show Steps p.tables e below (s₁.setTop (mkF m 74 #[.val (.int p0), .val (.long q1), .second, .val (.long q2), .second, .val .null, .val (.int (0 : Int32))] [(.int (0 : Int32))])) _
        exact retN X0 hx (t := .boolean) Bd.returns (by simp) (hb hby d1_74) hr
      · show Q1n Z p0 q1 q2 h0 n0 _ s₁.heap _
        rw [e0]
        exact ⟨rfl, N0, rfl⟩
theorem d1_58 : decode prog_26_method_3_code 58 = .ok (.aload 5, 2) := by decide +kernel
theorem d1_60 : decode prog_26_method_3_code 60 = .ok (.iload_n 0, 1) := by decide +kernel
theorem d1_61 : decode prog_26_method_3_code 61 = .ok (.baload, 1) := by decide +kernel
theorem d1_62 : decode prog_26_method_3_code 62 = .ok (.ifCond .eq 7, 3) := by decide +kernel
theorem d1_65 : decode prog_26_method_3_code 65 = .ok (.iconst 1, 1) := by decide +kernel
theorem d1_66 : decode prog_26_method_3_code 66 = .ok (.goto 4, 3) := by decide +kernel
theorem ef1a (m : MethodId) (x0 : Int32) (x1 : Int64) (x2 : Int64) (x3 : Addr) : entryFrame m #[(.int x0), (.long x1), (.long x2), (.ref x3)] 7 = mkF m 0 #[.val (.int x0), .val (.long x1), .second, .val (.long x2), .second, .val (.ref x3), .unset] [] := by first | (simp [entryFrame, mkF, argsToLocals, Value.category]; done) | rfl
def f_ca (p0 : Int32) (q1 : Int64) (q2 : Int64) (bb : Int32) : Int32 :=
  if p0 < (64 : Int32) then
    if (q1 &&& ((1 : Int64) <<< (p0 &&& 0x3f).toInt64)) = (0 : Int64) then
      (0 : Int32)
    else
      (1 : Int32)
  else
    if p0 < (128 : Int32) then
      if (q2 &&& ((1 : Int64) <<< (p0 &&& 0x3f).toInt64)) = (0 : Int64) then
        (0 : Int32)
      else
        (1 : Int32)
    else
      if bb = (0 : Int32) then
        (0 : Int32)
      else
        (1 : Int32)
def Q1a (Z : State) (p0 : Int32) (q1 : Int64) (q2 : Int64) (a3 : Addr) (cl3 : Cell) (bb : Int32) (h0 : Heap) (n0 : Nat) (v : Option Value) (h : Heap) (L : List Loc) : Prop := v = some (.int (f_ca p0 q1 q2 bb)) ∧ Fr n0 L ∧ h = h0
set_option maxRecDepth 65536 in
set_option maxHeartbeats 40000000 in
theorem rm1a (l : Launch) (Z : State) (av : Array Value) (hw : ∀ d ∈ tables_1, d.before av Z = true) (ws : List Jvm.Cond) (p0 : Int32) (q1 : Int64) (q2 : Int64) (a3 : Addr) (cl3 : Cell) (bb : Int32) (h0 : Heap) (n0 : Nat) (Z0 : n0 ≤ h0.size) (Ar3 : Arr Z h0 a3 cl3 .boolean) (hin3 : ¬ p0 < (128 : Int32) → ¬ (p0 < 0 ∨ cl3.slots.size ≤ p0.toNatClampNeg)) (hat3 : ¬ p0 < (128 : Int32) → cl3.slots[p0.toNatClampNeg]? = some (.int bb)) :
    MetFree l (⟨"com/example/baton/baton/support/Skipped", "contains", "(IJJ[Z)Z"⟩ : MethodName) (head1 (Jvm.Cond.code (⟨"com/example/baton/baton/support/Skipped", "contains", "(IJJ[Z)Z"⟩ : MethodName) prog_26_method_3_code 7 (some .boolean) :: ws) ({ frames := 0, cells := 0, slots := 0, locals := 0 } : Room)) (fun a U => a = #[(.int p0), (.long q1), (.long q2), (.ref a3)] ∧ Z.Warmed39 U.vm ∧ U.heap = h0) (fun _ _ _ _ _ => True) (fun _ U o U' => ∃ v L, o = .returned v ∧ Q1a Z p0 q1 q2 a3 cl3 bb h0 n0 v U'.heap L ∧ FrameEnd U o U' L ({ frames := 0, cells := 0, slots := 0, locals := 0 } : Room).cells ({ frames := 0, cells := 0, slots := 0, locals := 0 } : Room).slots) := by
  refine MetFree.of_bodySF (plainFor_of_name pn_com_example_baton_baton_support_Skipped) hisR ?_
  intro p e s m args below meth c s₁ Bd hml0 hP hK
  obtain ⟨rfl, hZ, hh⟩ := hP
  have hx := Bd.exec
  have hby := Bd.bytes
  have hml : c.maxLocals = 7 := hml0
  have hown : s.vm.findClass "com/example/baton/baton/support/Skipped" = some m.cls := findClass_of_methodNamed Bd.named
  have hnm := (name_of_methodNamed Bd.named Bd.method).1
  have X0 : Stand p l e ({ frames := 0, cells := 0, slots := 0, locals := 0 } : Room) s m #[(.int p0), (.long q1), (.long q2), (.ref a3)] below meth c s₁ [] 0 0 := Stand.of_body Bd
  have e0 : s₁.heap = h0 := by rw [← hh, Bd.state]; rfl
  have N0 := Fr.nil n0
  have K0 : Keep h0 h0 [] := Keep.refl h0 []
  have pre0 : ∀ t, Steps p.tables e below (s₁.setTop (mkF m 0 #[.val (.int p0), .val (.long q1), .second, .val (.long q2), .second, .val (.ref a3), .unset] [])) t → Steps p.tables e below (s₁.setTop (entryFrame m #[(.int p0), (.long q1), (.long q2), (.ref a3)] 7)) t := fun t k => castTop (ef1a m p0 q1 q2 a3) k
  have pre1 : ∀ t, Steps p.tables e below (s₁.setTop (mkF m 3 #[.val (.int p0), .val (.long q1), .second, .val (.long q2), .second, .val (.ref a3), .unset] [(.int (64 : Int32)), (.int p0)])) t → Steps p.tables e below (s₁.setTop (entryFrame m #[(.int p0), (.long q1), (.long q2), (.ref a3)] 7)) t := fun t kt => pre0 t (by
    show Steps p.tables e below (s₁.setTop (mkF m 0 #[.val (.int p0), .val (.long q1), .second, .val (.long q2), .second, .val (.ref a3), .unset] [])) _
    refine XS.iloadN X0.here hx rfl (hb hby d1_0) rfl ?_
    show Steps p.tables e below (s₁.setTop (mkF m 1 #[.val (.int p0), .val (.long q1), .second, .val (.long q2), .second, .val (.ref a3), .unset] [(.int p0)])) _
    refine XS.bipush X0.here hx rfl (hb hby d1_1) ?_
    exact kt)
  by_cases hc3_2 : p0 < (64 : Int32)
  · have pre3 : ∀ t, Steps p.tables e below (s₁.setTop (mkF m 13 #[.val (.int p0), .val (.long q1), .second, .val (.long q2), .second, .val (.ref a3), .unset] [(.int (lcmpW (q1 &&& ((1 : Int64) <<< (p0 &&& 0x3f).toInt64)) (0 : Int64)))])) t → Steps p.tables e below (s₁.setTop (entryFrame m #[(.int p0), (.long q1), (.long q2), (.ref a3)] 7)) t := fun t kt => pre1 t (by
      show Steps p.tables e below (s₁.setTop (mkF m 3 #[.val (.int p0), .val (.long q1), .second, .val (.long q2), .second, .val (.ref a3), .unset] [(.int (64 : Int32)), (.int p0)])) _
      refine XS.icmpNo X0.here hx rfl (hb hby d1_3) rfl (tlt hc3_2).2.1 ?_
      show Steps p.tables e below (s₁.setTop (mkF m 6 #[.val (.int p0), .val (.long q1), .second, .val (.long q2), .second, .val (.ref a3), .unset] [])) _
      refine XS.lloadN X0.here hx rfl (hb hby d1_6) rfl ?_
      show Steps p.tables e below (s₁.setTop (mkF m 7 #[.val (.int p0), .val (.long q1), .second, .val (.long q2), .second, .val (.ref a3), .unset] [(.long q1)])) _
      refine XS.lconst X0.here hx rfl (hb hby d1_7) ?_
      show Steps p.tables e below (s₁.setTop (mkF m 8 #[.val (.int p0), .val (.long q1), .second, .val (.long q2), .second, .val (.ref a3), .unset] [(.long (1 : Int64)), (.long q1)])) _
      refine XS.iloadN X0.here hx rfl (hb hby d1_8) rfl ?_
      show Steps p.tables e below (s₁.setTop (mkF m 9 #[.val (.int p0), .val (.long q1), .second, .val (.long q2), .second, .val (.ref a3), .unset] [(.int p0), (.long (1 : Int64)), (.long q1)])) _
      refine XS.lshl X0.here hx rfl (hb hby d1_9) rfl ?_
      show Steps p.tables e below (s₁.setTop (mkF m 10 #[.val (.int p0), .val (.long q1), .second, .val (.long q2), .second, .val (.ref a3), .unset] [(.long ((1 : Int64) <<< (p0 &&& 0x3f).toInt64)), (.long q1)])) _
      refine XS.land X0.here hx rfl (hb hby d1_10) rfl ?_
      show Steps p.tables e below (s₁.setTop (mkF m 11 #[.val (.int p0), .val (.long q1), .second, .val (.long q2), .second, .val (.ref a3), .unset] [(.long (q1 &&& ((1 : Int64) <<< (p0 &&& 0x3f).toInt64)))])) _
      refine XS.lconst X0.here hx rfl (hb hby d1_11) ?_
      show Steps p.tables e below (s₁.setTop (mkF m 12 #[.val (.int p0), .val (.long q1), .second, .val (.long q2), .second, .val (.ref a3), .unset] [(.long (0 : Int64)), (.long (q1 &&& ((1 : Int64) <<< (p0 &&& 0x3f).toInt64)))])) _
      refine XS.lcmp X0.here hx rfl (hb hby d1_12) rfl ?_
      exact kt)
    by_cases hc13_4 : (q1 &&& ((1 : Int64) <<< (p0 &&& 0x3f).toInt64)) = (0 : Int64)
    · have pre5 : ∀ t, Steps p.tables e below (s₁.setTop (mkF m 74 #[.val (.int p0), .val (.long q1), .second, .val (.long q2), .second, .val (.ref a3), .val (.int (0 : Int32))] [(.int (0 : Int32))])) t → Steps p.tables e below (s₁.setTop (entryFrame m #[(.int p0), (.long q1), (.long q2), (.ref a3)] 7)) t := fun t kt => pre3 t (by
        show Steps p.tables e below (s₁.setTop (mkF m 13 #[.val (.int p0), .val (.long q1), .second, .val (.long q2), .second, .val (.ref a3), .unset] [(.int (lcmpW (q1 &&& ((1 : Int64) <<< (p0 &&& 0x3f).toInt64)) (0 : Int64)))])) _
        refine XS.ifYes X0.here hx rfl (pc0 := 13) (pc' := 20) rfl (hb hby d1_13) rfl (Jvm.Free.XT.ll_eq_t hc13_4) (by decide) (by decide) ?_
        show Steps p.tables e below (s₁.setTop (mkF m 20 #[.val (.int p0), .val (.long q1), .second, .val (.long q2), .second, .val (.ref a3), .unset] [])) _
        refine XS.iconst X0.here hx rfl (hb hby d1_20) ?_
        show Steps p.tables e below (s₁.setTop (mkF m 21 #[.val (.int p0), .val (.long q1), .second, .val (.long q2), .second, .val (.ref a3), .unset] [(.int (0 : Int32))])) _
        refine XS.istore X0.here hx rfl (hb hby d1_21) rfl (l' := #[.val (.int p0), .val (.long q1), .second, .val (.long q2), .second, .val (.ref a3), .val (.int (0 : Int32))]) rfl ?_
        show Steps p.tables e below (s₁.setTop (mkF m 23 #[.val (.int p0), .val (.long q1), .second, .val (.long q2), .second, .val (.ref a3), .val (.int (0 : Int32))] [])) _
        refine XS.goto X0.here hx rfl (pc0 := 23) (pc' := 72) rfl (hb hby d1_23) (by decide) (by decide) ?_
        show Steps p.tables e below (s₁.setTop (mkF m 72 #[.val (.int p0), .val (.long q1), .second, .val (.long q2), .second, .val (.ref a3), .val (.int (0 : Int32))] [])) _
        refine XS.iload X0.here hx rfl (hb hby d1_72) rfl ?_
        exact kt)
      have hv : f_ca p0 q1 q2 bb = (0 : Int32) := by
        unfold f_ca
        rw [if_pos hc3_2, if_pos hc13_4]
      obtain ⟨fs, hr, hrun, hended, hW, hsame⟩ := X0.leave (v := some (.int (f_ca p0 q1 q2 bb))) (fun h => by rw [Bd.returns] at h; cases h)
      refine ⟨_, _, pre5 _ ?_, hrun, hended, _, _, rfl, ?_, ⟨_, rfl⟩, hW, hsame.mono (by decide) (by decide)⟩
      · rw [hv] at hr
        show Steps p.tables e below (s₁.setTop (mkF m 74 #[.val (.int p0), .val (.long q1), .second, .val (.long q2), .second, .val (.ref a3), .val (.int (0 : Int32))] [(.int (0 : Int32))])) _
        exact retN X0 hx (t := .boolean) Bd.returns (by simp) (hb hby d1_74) hr
      · show Q1a Z p0 q1 q2 a3 cl3 bb h0 n0 _ s₁.heap _
        rw [e0]
        exact ⟨rfl, N0, rfl⟩
    · have pre6 : ∀ t, Steps p.tables e below (s₁.setTop (mkF m 74 #[.val (.int p0), .val (.long q1), .second, .val (.long q2), .second, .val (.ref a3), .val (.int (1 : Int32))] [(.int (1 : Int32))])) t → Steps p.tables e below (s₁.setTop (entryFrame m #[(.int p0), (.long q1), (.long q2), (.ref a3)] 7)) t := fun t kt => pre3 t (by
        show Steps p.tables e below (s₁.setTop (mkF m 13 #[.val (.int p0), .val (.long q1), .second, .val (.long q2), .second, .val (.ref a3), .unset] [(.int (lcmpW (q1 &&& ((1 : Int64) <<< (p0 &&& 0x3f).toInt64)) (0 : Int64)))])) _
        refine XS.ifNo X0.here hx rfl (hb hby d1_13) rfl (Jvm.Free.XT.ll_eq_f hc13_4) ?_
        show Steps p.tables e below (s₁.setTop (mkF m 16 #[.val (.int p0), .val (.long q1), .second, .val (.long q2), .second, .val (.ref a3), .unset] [])) _
        refine XS.iconst X0.here hx rfl (hb hby d1_16) ?_
        show Steps p.tables e below (s₁.setTop (mkF m 17 #[.val (.int p0), .val (.long q1), .second, .val (.long q2), .second, .val (.ref a3), .unset] [(.int (1 : Int32))])) _
        refine XS.goto X0.here hx rfl (pc0 := 17) (pc' := 21) rfl (hb hby d1_17) (by decide) (by decide) ?_
        show Steps p.tables e below (s₁.setTop (mkF m 21 #[.val (.int p0), .val (.long q1), .second, .val (.long q2), .second, .val (.ref a3), .unset] [(.int (1 : Int32))])) _
        refine XS.istore X0.here hx rfl (hb hby d1_21) rfl (l' := #[.val (.int p0), .val (.long q1), .second, .val (.long q2), .second, .val (.ref a3), .val (.int (1 : Int32))]) rfl ?_
        show Steps p.tables e below (s₁.setTop (mkF m 23 #[.val (.int p0), .val (.long q1), .second, .val (.long q2), .second, .val (.ref a3), .val (.int (1 : Int32))] [])) _
        refine XS.goto X0.here hx rfl (pc0 := 23) (pc' := 72) rfl (hb hby d1_23) (by decide) (by decide) ?_
        show Steps p.tables e below (s₁.setTop (mkF m 72 #[.val (.int p0), .val (.long q1), .second, .val (.long q2), .second, .val (.ref a3), .val (.int (1 : Int32))] [])) _
        refine XS.iload X0.here hx rfl (hb hby d1_72) rfl ?_
        exact kt)
      have hv : f_ca p0 q1 q2 bb = (1 : Int32) := by
        unfold f_ca
        rw [if_pos hc3_2, if_neg hc13_4]
      obtain ⟨fs, hr, hrun, hended, hW, hsame⟩ := X0.leave (v := some (.int (f_ca p0 q1 q2 bb))) (fun h => by rw [Bd.returns] at h; cases h)
      refine ⟨_, _, pre6 _ ?_, hrun, hended, _, _, rfl, ?_, ⟨_, rfl⟩, hW, hsame.mono (by decide) (by decide)⟩
      · rw [hv] at hr
        show Steps p.tables e below (s₁.setTop (mkF m 74 #[.val (.int p0), .val (.long q1), .second, .val (.long q2), .second, .val (.ref a3), .val (.int (1 : Int32))] [(.int (1 : Int32))])) _
        exact retN X0 hx (t := .boolean) Bd.returns (by simp) (hb hby d1_74) hr
      · show Q1a Z p0 q1 q2 a3 cl3 bb h0 n0 _ s₁.heap _
        rw [e0]
        exact ⟨rfl, N0, rfl⟩
  · have pre7 : ∀ t, Steps p.tables e below (s₁.setTop (mkF m 30 #[.val (.int p0), .val (.long q1), .second, .val (.long q2), .second, .val (.ref a3), .unset] [(.int (128 : Int32)), (.int p0)])) t → Steps p.tables e below (s₁.setTop (entryFrame m #[(.int p0), (.long q1), (.long q2), (.ref a3)] 7)) t := fun t kt => pre1 t (by
      show Steps p.tables e below (s₁.setTop (mkF m 3 #[.val (.int p0), .val (.long q1), .second, .val (.long q2), .second, .val (.ref a3), .unset] [(.int (64 : Int32)), (.int p0)])) _
      refine XS.icmpYes X0.here hx rfl (pc0 := 3) (pc' := 26) rfl (hb hby d1_3) rfl (flt hc3_2).2.1 (by decide) (by decide) ?_
      show Steps p.tables e below (s₁.setTop (mkF m 26 #[.val (.int p0), .val (.long q1), .second, .val (.long q2), .second, .val (.ref a3), .unset] [])) _
      refine XS.iloadN X0.here hx rfl (hb hby d1_26) rfl ?_
      show Steps p.tables e below (s₁.setTop (mkF m 27 #[.val (.int p0), .val (.long q1), .second, .val (.long q2), .second, .val (.ref a3), .unset] [(.int p0)])) _
      refine XS.sipush X0.here hx rfl (hb hby d1_27) ?_
      exact kt)
    by_cases hc30_8 : p0 < (128 : Int32)
    · have pre9 : ∀ t, Steps p.tables e below (s₁.setTop (mkF m 40 #[.val (.int p0), .val (.long q1), .second, .val (.long q2), .second, .val (.ref a3), .unset] [(.int (lcmpW (q2 &&& ((1 : Int64) <<< (p0 &&& 0x3f).toInt64)) (0 : Int64)))])) t → Steps p.tables e below (s₁.setTop (entryFrame m #[(.int p0), (.long q1), (.long q2), (.ref a3)] 7)) t := fun t kt => pre7 t (by
        show Steps p.tables e below (s₁.setTop (mkF m 30 #[.val (.int p0), .val (.long q1), .second, .val (.long q2), .second, .val (.ref a3), .unset] [(.int (128 : Int32)), (.int p0)])) _
        refine XS.icmpNo X0.here hx rfl (hb hby d1_30) rfl (tlt hc30_8).2.1 ?_
        show Steps p.tables e below (s₁.setTop (mkF m 33 #[.val (.int p0), .val (.long q1), .second, .val (.long q2), .second, .val (.ref a3), .unset] [])) _
        refine XS.lloadN X0.here hx rfl (hb hby d1_33) rfl ?_
        show Steps p.tables e below (s₁.setTop (mkF m 34 #[.val (.int p0), .val (.long q1), .second, .val (.long q2), .second, .val (.ref a3), .unset] [(.long q2)])) _
        refine XS.lconst X0.here hx rfl (hb hby d1_34) ?_
        show Steps p.tables e below (s₁.setTop (mkF m 35 #[.val (.int p0), .val (.long q1), .second, .val (.long q2), .second, .val (.ref a3), .unset] [(.long (1 : Int64)), (.long q2)])) _
        refine XS.iloadN X0.here hx rfl (hb hby d1_35) rfl ?_
        show Steps p.tables e below (s₁.setTop (mkF m 36 #[.val (.int p0), .val (.long q1), .second, .val (.long q2), .second, .val (.ref a3), .unset] [(.int p0), (.long (1 : Int64)), (.long q2)])) _
        refine XS.lshl X0.here hx rfl (hb hby d1_36) rfl ?_
        show Steps p.tables e below (s₁.setTop (mkF m 37 #[.val (.int p0), .val (.long q1), .second, .val (.long q2), .second, .val (.ref a3), .unset] [(.long ((1 : Int64) <<< (p0 &&& 0x3f).toInt64)), (.long q2)])) _
        refine XS.land X0.here hx rfl (hb hby d1_37) rfl ?_
        show Steps p.tables e below (s₁.setTop (mkF m 38 #[.val (.int p0), .val (.long q1), .second, .val (.long q2), .second, .val (.ref a3), .unset] [(.long (q2 &&& ((1 : Int64) <<< (p0 &&& 0x3f).toInt64)))])) _
        refine XS.lconst X0.here hx rfl (hb hby d1_38) ?_
        show Steps p.tables e below (s₁.setTop (mkF m 39 #[.val (.int p0), .val (.long q1), .second, .val (.long q2), .second, .val (.ref a3), .unset] [(.long (0 : Int64)), (.long (q2 &&& ((1 : Int64) <<< (p0 &&& 0x3f).toInt64)))])) _
        refine XS.lcmp X0.here hx rfl (hb hby d1_39) rfl ?_
        exact kt)
      by_cases hc40_10 : (q2 &&& ((1 : Int64) <<< (p0 &&& 0x3f).toInt64)) = (0 : Int64)
      · have pre11 : ∀ t, Steps p.tables e below (s₁.setTop (mkF m 74 #[.val (.int p0), .val (.long q1), .second, .val (.long q2), .second, .val (.ref a3), .val (.int (0 : Int32))] [(.int (0 : Int32))])) t → Steps p.tables e below (s₁.setTop (entryFrame m #[(.int p0), (.long q1), (.long q2), (.ref a3)] 7)) t := fun t kt => pre9 t (by
          show Steps p.tables e below (s₁.setTop (mkF m 40 #[.val (.int p0), .val (.long q1), .second, .val (.long q2), .second, .val (.ref a3), .unset] [(.int (lcmpW (q2 &&& ((1 : Int64) <<< (p0 &&& 0x3f).toInt64)) (0 : Int64)))])) _
          refine XS.ifYes X0.here hx rfl (pc0 := 40) (pc' := 47) rfl (hb hby d1_40) rfl (Jvm.Free.XT.ll_eq_t hc40_10) (by decide) (by decide) ?_
          show Steps p.tables e below (s₁.setTop (mkF m 47 #[.val (.int p0), .val (.long q1), .second, .val (.long q2), .second, .val (.ref a3), .unset] [])) _
          refine XS.iconst X0.here hx rfl (hb hby d1_47) ?_
          show Steps p.tables e below (s₁.setTop (mkF m 48 #[.val (.int p0), .val (.long q1), .second, .val (.long q2), .second, .val (.ref a3), .unset] [(.int (0 : Int32))])) _
          refine XS.istore X0.here hx rfl (hb hby d1_48) rfl (l' := #[.val (.int p0), .val (.long q1), .second, .val (.long q2), .second, .val (.ref a3), .val (.int (0 : Int32))]) rfl ?_
          show Steps p.tables e below (s₁.setTop (mkF m 50 #[.val (.int p0), .val (.long q1), .second, .val (.long q2), .second, .val (.ref a3), .val (.int (0 : Int32))] [])) _
          refine XS.goto X0.here hx rfl (pc0 := 50) (pc' := 72) rfl (hb hby d1_50) (by decide) (by decide) ?_
          show Steps p.tables e below (s₁.setTop (mkF m 72 #[.val (.int p0), .val (.long q1), .second, .val (.long q2), .second, .val (.ref a3), .val (.int (0 : Int32))] [])) _
          refine XS.iload X0.here hx rfl (hb hby d1_72) rfl ?_
          exact kt)
        have hv : f_ca p0 q1 q2 bb = (0 : Int32) := by
          unfold f_ca
          rw [if_neg hc3_2, if_pos hc30_8, if_pos hc40_10]
        obtain ⟨fs, hr, hrun, hended, hW, hsame⟩ := X0.leave (v := some (.int (f_ca p0 q1 q2 bb))) (fun h => by rw [Bd.returns] at h; cases h)
        refine ⟨_, _, pre11 _ ?_, hrun, hended, _, _, rfl, ?_, ⟨_, rfl⟩, hW, hsame.mono (by decide) (by decide)⟩
        · rw [hv] at hr
          show Steps p.tables e below (s₁.setTop (mkF m 74 #[.val (.int p0), .val (.long q1), .second, .val (.long q2), .second, .val (.ref a3), .val (.int (0 : Int32))] [(.int (0 : Int32))])) _
          exact retN X0 hx (t := .boolean) Bd.returns (by simp) (hb hby d1_74) hr
        · show Q1a Z p0 q1 q2 a3 cl3 bb h0 n0 _ s₁.heap _
          rw [e0]
          exact ⟨rfl, N0, rfl⟩
      · have pre12 : ∀ t, Steps p.tables e below (s₁.setTop (mkF m 74 #[.val (.int p0), .val (.long q1), .second, .val (.long q2), .second, .val (.ref a3), .val (.int (1 : Int32))] [(.int (1 : Int32))])) t → Steps p.tables e below (s₁.setTop (entryFrame m #[(.int p0), (.long q1), (.long q2), (.ref a3)] 7)) t := fun t kt => pre9 t (by
          show Steps p.tables e below (s₁.setTop (mkF m 40 #[.val (.int p0), .val (.long q1), .second, .val (.long q2), .second, .val (.ref a3), .unset] [(.int (lcmpW (q2 &&& ((1 : Int64) <<< (p0 &&& 0x3f).toInt64)) (0 : Int64)))])) _
          refine XS.ifNo X0.here hx rfl (hb hby d1_40) rfl (Jvm.Free.XT.ll_eq_f hc40_10) ?_
          show Steps p.tables e below (s₁.setTop (mkF m 43 #[.val (.int p0), .val (.long q1), .second, .val (.long q2), .second, .val (.ref a3), .unset] [])) _
          refine XS.iconst X0.here hx rfl (hb hby d1_43) ?_
          show Steps p.tables e below (s₁.setTop (mkF m 44 #[.val (.int p0), .val (.long q1), .second, .val (.long q2), .second, .val (.ref a3), .unset] [(.int (1 : Int32))])) _
          refine XS.goto X0.here hx rfl (pc0 := 44) (pc' := 48) rfl (hb hby d1_44) (by decide) (by decide) ?_
          show Steps p.tables e below (s₁.setTop (mkF m 48 #[.val (.int p0), .val (.long q1), .second, .val (.long q2), .second, .val (.ref a3), .unset] [(.int (1 : Int32))])) _
          refine XS.istore X0.here hx rfl (hb hby d1_48) rfl (l' := #[.val (.int p0), .val (.long q1), .second, .val (.long q2), .second, .val (.ref a3), .val (.int (1 : Int32))]) rfl ?_
          show Steps p.tables e below (s₁.setTop (mkF m 50 #[.val (.int p0), .val (.long q1), .second, .val (.long q2), .second, .val (.ref a3), .val (.int (1 : Int32))] [])) _
          refine XS.goto X0.here hx rfl (pc0 := 50) (pc' := 72) rfl (hb hby d1_50) (by decide) (by decide) ?_
          show Steps p.tables e below (s₁.setTop (mkF m 72 #[.val (.int p0), .val (.long q1), .second, .val (.long q2), .second, .val (.ref a3), .val (.int (1 : Int32))] [])) _
          refine XS.iload X0.here hx rfl (hb hby d1_72) rfl ?_
          exact kt)
        have hv : f_ca p0 q1 q2 bb = (1 : Int32) := by
          unfold f_ca
          rw [if_neg hc3_2, if_pos hc30_8, if_neg hc40_10]
        obtain ⟨fs, hr, hrun, hended, hW, hsame⟩ := X0.leave (v := some (.int (f_ca p0 q1 q2 bb))) (fun h => by rw [Bd.returns] at h; cases h)
        refine ⟨_, _, pre12 _ ?_, hrun, hended, _, _, rfl, ?_, ⟨_, rfl⟩, hW, hsame.mono (by decide) (by decide)⟩
        · rw [hv] at hr
          show Steps p.tables e below (s₁.setTop (mkF m 74 #[.val (.int p0), .val (.long q1), .second, .val (.long q2), .second, .val (.ref a3), .val (.int (1 : Int32))] [(.int (1 : Int32))])) _
          exact retN X0 hx (t := .boolean) Bd.returns (by simp) (hb hby d1_74) hr
        · show Q1a Z p0 q1 q2 a3 cl3 bb h0 n0 _ s₁.heap _
          rw [e0]
          exact ⟨rfl, N0, rfl⟩
    · have pre13 : ∀ t, Steps p.tables e below (s₁.setTop (mkF m 61 #[.val (.int p0), .val (.long q1), .second, .val (.long q2), .second, .val (.ref a3), .unset] [(.int p0), (.ref a3)])) t → Steps p.tables e below (s₁.setTop (entryFrame m #[(.int p0), (.long q1), (.long q2), (.ref a3)] 7)) t := fun t kt => pre7 t (by
        show Steps p.tables e below (s₁.setTop (mkF m 30 #[.val (.int p0), .val (.long q1), .second, .val (.long q2), .second, .val (.ref a3), .unset] [(.int (128 : Int32)), (.int p0)])) _
        refine XS.icmpYes X0.here hx rfl (pc0 := 30) (pc' := 53) rfl (hb hby d1_30) rfl (flt hc30_8).2.1 (by decide) (by decide) ?_
        show Steps p.tables e below (s₁.setTop (mkF m 53 #[.val (.int p0), .val (.long q1), .second, .val (.long q2), .second, .val (.ref a3), .unset] [])) _
        refine XS.aload X0.here hx rfl (hb hby d1_53) rfl rfl ?_
        show Steps p.tables e below (s₁.setTop (mkF m 55 #[.val (.int p0), .val (.long q1), .second, .val (.long q2), .second, .val (.ref a3), .unset] [(.ref a3)])) _
        refine XS.ifnullNo X0.here hx rfl (hb hby d1_55) rfl ?_
        show Steps p.tables e below (s₁.setTop (mkF m 58 #[.val (.int p0), .val (.long q1), .second, .val (.long q2), .second, .val (.ref a3), .unset] [])) _
        refine XS.aload X0.here hx rfl (hb hby d1_58) rfl rfl ?_
        show Steps p.tables e below (s₁.setTop (mkF m 60 #[.val (.int p0), .val (.long q1), .second, .val (.long q2), .second, .val (.ref a3), .unset] [(.ref a3)])) _
        refine XS.iloadN X0.here hx rfl (hb hby d1_60) rfl ?_
        exact kt)
      have pre14 : ∀ t, Steps p.tables e below (s₁.setTop (mkF m 62 #[.val (.int p0), .val (.long q1), .second, .val (.long q2), .second, .val (.ref a3), .unset] [(.int bb)])) t → Steps p.tables e below (s₁.setTop (entryFrame m #[(.int p0), (.long q1), (.long q2), (.ref a3)] 7)) t := fun t kt => pre13 t (by
        show Steps p.tables e below (s₁.setTop (mkF m 61 #[.val (.int p0), .val (.long q1), .second, .val (.long q2), .second, .val (.ref a3), .unset] [(.int p0), (.ref a3)])) _
        refine X0.baloadBooleans hx (j := p0) (v := (.int bb)) (by rw [e0]; exact Ar3.1) (State.isArrayOf_alike hZ.alike Ar3.2.1) Ar3.2.2 (hin3 hc30_8) (hat3 hc30_8) (g := (mkF m 61 #[.val (.int p0), .val (.long q1), .second, .val (.long q2), .second, .val (.ref a3), .unset] [(.int p0), (.ref a3)])) rfl rfl (hb hby d1_61) _ ?_
        exact kt)
      by_cases hc62_15 : bb = (0 : Int32)
      · have pre16 : ∀ t, Steps p.tables e below (s₁.setTop (mkF m 74 #[.val (.int p0), .val (.long q1), .second, .val (.long q2), .second, .val (.ref a3), .val (.int (0 : Int32))] [(.int (0 : Int32))])) t → Steps p.tables e below (s₁.setTop (entryFrame m #[(.int p0), (.long q1), (.long q2), (.ref a3)] 7)) t := fun t kt => pre14 t (by
          show Steps p.tables e below (s₁.setTop (mkF m 62 #[.val (.int p0), .val (.long q1), .second, .val (.long q2), .second, .val (.ref a3), .unset] [(.int bb)])) _
          refine XS.ifYes X0.here hx rfl (pc0 := 62) (pc' := 69) rfl (hb hby d1_62) rfl ((if0 _ _).trans (teq hc62_15).1) (by decide) (by decide) ?_
          show Steps p.tables e below (s₁.setTop (mkF m 69 #[.val (.int p0), .val (.long q1), .second, .val (.long q2), .second, .val (.ref a3), .unset] [])) _
          refine XS.iconst X0.here hx rfl (hb hby d1_69) ?_
          show Steps p.tables e below (s₁.setTop (mkF m 70 #[.val (.int p0), .val (.long q1), .second, .val (.long q2), .second, .val (.ref a3), .unset] [(.int (0 : Int32))])) _
          refine XS.istore X0.here hx rfl (hb hby d1_70) rfl (l' := #[.val (.int p0), .val (.long q1), .second, .val (.long q2), .second, .val (.ref a3), .val (.int (0 : Int32))]) rfl ?_
          show Steps p.tables e below (s₁.setTop (mkF m 72 #[.val (.int p0), .val (.long q1), .second, .val (.long q2), .second, .val (.ref a3), .val (.int (0 : Int32))] [])) _
          refine XS.iload X0.here hx rfl (hb hby d1_72) rfl ?_
          exact kt)
        have hv : f_ca p0 q1 q2 bb = (0 : Int32) := by
          unfold f_ca
          rw [if_neg hc3_2, if_neg hc30_8, if_pos hc62_15]
        obtain ⟨fs, hr, hrun, hended, hW, hsame⟩ := X0.leave (v := some (.int (f_ca p0 q1 q2 bb))) (fun h => by rw [Bd.returns] at h; cases h)
        refine ⟨_, _, pre16 _ ?_, hrun, hended, _, _, rfl, ?_, ⟨_, rfl⟩, hW, hsame.mono (by decide) (by decide)⟩
        · rw [hv] at hr
          show Steps p.tables e below (s₁.setTop (mkF m 74 #[.val (.int p0), .val (.long q1), .second, .val (.long q2), .second, .val (.ref a3), .val (.int (0 : Int32))] [(.int (0 : Int32))])) _
          exact retN X0 hx (t := .boolean) Bd.returns (by simp) (hb hby d1_74) hr
        · show Q1a Z p0 q1 q2 a3 cl3 bb h0 n0 _ s₁.heap _
          rw [e0]
          exact ⟨rfl, N0, rfl⟩
      · have pre17 : ∀ t, Steps p.tables e below (s₁.setTop (mkF m 74 #[.val (.int p0), .val (.long q1), .second, .val (.long q2), .second, .val (.ref a3), .val (.int (1 : Int32))] [(.int (1 : Int32))])) t → Steps p.tables e below (s₁.setTop (entryFrame m #[(.int p0), (.long q1), (.long q2), (.ref a3)] 7)) t := fun t kt => pre14 t (by
          show Steps p.tables e below (s₁.setTop (mkF m 62 #[.val (.int p0), .val (.long q1), .second, .val (.long q2), .second, .val (.ref a3), .unset] [(.int bb)])) _
          refine XS.ifNo X0.here hx rfl (hb hby d1_62) rfl ((if0 _ _).trans (feq hc62_15).1) ?_
          show Steps p.tables e below (s₁.setTop (mkF m 65 #[.val (.int p0), .val (.long q1), .second, .val (.long q2), .second, .val (.ref a3), .unset] [])) _
          refine XS.iconst X0.here hx rfl (hb hby d1_65) ?_
          show Steps p.tables e below (s₁.setTop (mkF m 66 #[.val (.int p0), .val (.long q1), .second, .val (.long q2), .second, .val (.ref a3), .unset] [(.int (1 : Int32))])) _
          refine XS.goto X0.here hx rfl (pc0 := 66) (pc' := 70) rfl (hb hby d1_66) (by decide) (by decide) ?_
          show Steps p.tables e below (s₁.setTop (mkF m 70 #[.val (.int p0), .val (.long q1), .second, .val (.long q2), .second, .val (.ref a3), .unset] [(.int (1 : Int32))])) _
          refine XS.istore X0.here hx rfl (hb hby d1_70) rfl (l' := #[.val (.int p0), .val (.long q1), .second, .val (.long q2), .second, .val (.ref a3), .val (.int (1 : Int32))]) rfl ?_
          show Steps p.tables e below (s₁.setTop (mkF m 72 #[.val (.int p0), .val (.long q1), .second, .val (.long q2), .second, .val (.ref a3), .val (.int (1 : Int32))] [])) _
          refine XS.iload X0.here hx rfl (hb hby d1_72) rfl ?_
          exact kt)
        have hv : f_ca p0 q1 q2 bb = (1 : Int32) := by
          unfold f_ca
          rw [if_neg hc3_2, if_neg hc30_8, if_neg hc62_15]
        obtain ⟨fs, hr, hrun, hended, hW, hsame⟩ := X0.leave (v := some (.int (f_ca p0 q1 q2 bb))) (fun h => by rw [Bd.returns] at h; cases h)
        refine ⟨_, _, pre17 _ ?_, hrun, hended, _, _, rfl, ?_, ⟨_, rfl⟩, hW, hsame.mono (by decide) (by decide)⟩
        · rw [hv] at hr
          show Steps p.tables e below (s₁.setTop (mkF m 74 #[.val (.int p0), .val (.long q1), .second, .val (.long q2), .second, .val (.ref a3), .val (.int (1 : Int32))] [(.int (1 : Int32))])) _
          exact retN X0 hx (t := .boolean) Bd.returns (by simp) (hb hby d1_74) hr
        · show Q1a Z p0 q1 q2 a3 cl3 bb h0 n0 _ s₁.heap _
          rw [e0]
          exact ⟨rfl, N0, rfl⟩
theorem own_shl (x : Int64) (q : Int32) (k : Nat) (hk : q.toBitVec.toNat % 64 = k) : (x <<< (q &&& 0x3f).toInt64).toBitVec = x.toBitVec <<< k := by
  show x.toBitVec <<< ((q &&& 0x3f).toInt64.toBitVec.smod 64) = _
  rw [BitVec.shiftLeft_eq', (sm64 q k hk).1, smod64 k (sm64 q k hk).2]
theorem own_shr (x : Int64) (q : Int32) (k : Nat) (hk : q.toBitVec.toNat % 64 = k) : ((x.toUInt64 >>> (q &&& 0x3f).toInt64.toUInt64).toInt64).toBitVec = x.toBitVec >>> k := by
  have h5 := (sm64 q k hk).2
  show x.toBitVec >>> ((q &&& 0x3f).toInt64.toBitVec % 64) = _
  rw [BitVec.ushiftRight_eq', BitVec.toNat_umod, (sm64 q k hk).1, BitVec.toNat_ofNat]
  congr 1
  show k % 2 ^ 64 % 64 = k
  omega
theorem own_bitA (b : BitVec 64) (k : Nat) (hk : k < 64) : (b &&& (1#64 <<< k)) = 0#64 ↔ b.getLsbD k = false := by
  have e : 1#64 <<< k = BitVec.twoPow 64 k := rfl
  rw [e, BitVec.and_twoPow]
  constructor
  · intro h
    cases hb : b.getLsbD k
    · rfl
    · rw [hb] at h
      have h2 := congrArg (fun z => z.getLsbD k) h
      simp [hk] at h2
  · intro h
    rw [h]; rfl
theorem own_bitB (b : BitVec 64) (k : Nat) : ((b >>> k) &&& 1#64) = 1#64 ↔ b.getLsbD k = true := by
  rw [BitVec.and_one_eq_setWidth_ofBool_getLsbD, BitVec.getLsbD_ushiftRight, Nat.add_zero]
  cases b.getLsbD k <;> decide
theorem own_bit (x : Int64) (y z : Int32) (k : Nat) (hy : y.toBitVec.toNat % 64 = k) (hz : z.toBitVec.toNat % 64 = k) : (x &&& ((1 : Int64) <<< (y &&& 0x3f).toInt64)) = (0 : Int64) ↔ ¬ (((x.toUInt64 >>> (z &&& 0x3f).toInt64.toUInt64).toInt64) &&& (1 : Int64)) = (1 : Int64) := by
  have hk := (sm64 y k hy).2
  rw [← Int64.toBitVec_inj, ← Int64.toBitVec_inj, Int64.toBitVec_and, Int64.toBitVec_and, own_shl _ _ k hy, own_shr _ _ k hz]
  show (x.toBitVec &&& (1#64 <<< k)) = 0#64 ↔ ¬ ((x.toBitVec >>> k) &&& 1#64) = 1#64
  rw [own_bitA _ _ hk, own_bitB]
  cases x.toBitVec.getLsbD k <;> decide
theorem own_nat (x : Int32) (h : 0 ≤ x.toInt) : (x.toBitVec.toNat : Int) = x.toInt := by
  have e : x.toInt = x.toBitVec.toInt := rfl
  rw [BitVec.toInt_eq_toNat_cond] at e
  have b := x.toBitVec.isLt
  split at e <;> omega
theorem own_b8 (x : Int32) : ¬ (x &&& (255 : Int32)) < 0 ∧ (x &&& (255 : Int32)) < (256 : Int32) := by
  have h := c_mask x (255 : Int32) 8 (by decide) (by decide)
  simp only [Int32.lt_iff_toInt_lt, Int32.reduceToInt]
  omega
theorem own_lo (ps : Int32) (x : Int64) (h : ¬ ps < 0 ∧ ps < (256 : Int32)) : (x &&& ((1 : Int64) <<< (ps &&& 0x3f).toInt64)) = (0 : Int64) ↔ ¬ (((x.toUInt64 >>> (ps &&& 0x3f).toInt64.toUInt64).toInt64) &&& (1 : Int64)) = (1 : Int64) := own_bit x ps ps _ rfl rfl
theorem own_hi (ps : Int32) (x : Int64) (h : ¬ ps < 0 ∧ ps < (256 : Int32)) (h2 : ¬ ps < (64 : Int32)) : (x &&& ((1 : Int64) <<< (ps &&& 0x3f).toInt64)) = (0 : Int64) ↔ ¬ (((x.toUInt64 >>> ((ps - (64 : Int32)) &&& 0x3f).toInt64.toUInt64).toInt64) &&& (1 : Int64)) = (1 : Int64) := by
  refine own_bit x ps (ps - (64 : Int32)) _ rfl ?_
  have e := c_isub ps (64 : Int32)
  have r := rng32 (ps - (64 : Int32))
  simp only [Int32.lt_iff_toInt_lt, Int32.reduceToInt] at *
  have n1 := own_nat ps (by omega)
  have n2 := own_nat (ps - (64 : Int32)) (by omega)
  omega
theorem pd__IJJ_Z_Z : parseMethodDescriptor "(IJJ[Z)Z" = some ⟨[.int, .long, .long, (.array .boolean)], some .boolean⟩ := by decide +kernel
theorem ef0 (m : MethodId) (x0 : Int32) (x1 : Int64) (x2 : Int64) (x3 : Int32) : entryFrame m #[(.int x0), (.long x1), (.long x2), (.int x3)] maxLocals = mkF m 0 #[.val (.int x0), .val (.long x1), .second, .val (.long x2), .second, .val (.int x3), .unset, .unset, .unset, .unset, .unset, .unset, .unset] [] := by first | (simp [entryFrame, mkF, argsToLocals, Value.category, maxLocals]; done) | rfl
def Q0 (Z : State) (p0 : Int32) (q1 : Int64) (q2 : Int64) (p3 : Int32) (h0 : Heap) (n0 : Nat) (v : Option Value) (h : Heap) (L : List Loc) : Prop := v = some (.int 1) ∧ Fr n0 L
set_option maxRecDepth 65536 in
set_option maxHeartbeats 40000000 in
theorem rm0 (l : Launch) (Z : State) (av : Array Value) (hw : ∀ d ∈ tables_1, d.before av Z = true) (ws : List Jvm.Cond) (p0 : Int32) (q1 : Int64) (q2 : Int64) (p3 : Int32) (h0 : Heap) (n0 : Nat) (Z0 : n0 ≤ h0.size) :
    MetFree l x (head1 (Jvm.Cond.code x code maxLocals ret :: ws) room_1) (fun a U => a = #[(.int p0), (.long q1), (.long q2), (.int p3)] ∧ Z.Warmed39 U.vm ∧ U.heap = h0) (fun _ _ _ _ _ => True) (fun _ U o U' => ∃ v L, o = .returned v ∧ Q0 Z p0 q1 q2 p3 h0 n0 v U'.heap L ∧ FrameEnd U o U' L room_1.cells room_1.slots) := by
  refine MetFree.of_bodySF (plainFor_of_name pn_com_example_baton_baton_support_SkippedContainsPinLaw) hisR ?_
  intro p e s m args below meth c s₁ Bd hml0 hP hK
  obtain ⟨rfl, hZ, hh⟩ := hP
  have hx := Bd.exec
  have hby := Bd.bytes
  have hml : c.maxLocals = 13 := hml0
  have hown : s.vm.findClass "com/example/baton/baton/support/SkippedContainsPinLaw" = some m.cls := findClass_of_methodNamed Bd.named
  have hnm := (name_of_methodNamed Bd.named Bd.method).1
  have X0 : Stand p l e room_1 s m #[(.int p0), (.long q1), (.long q2), (.int p3)] below meth c s₁ [] 0 0 := Stand.of_body Bd
  have e0 : s₁.heap = h0 := by rw [← hh, Bd.state]; rfl
  have N0 := Fr.nil n0
  have K0 : Keep h0 h0 [] := Keep.refl h0 []
  have pre0 : ∀ t, Steps p.tables e below (s₁.setTop (mkF m 0 #[.val (.int p0), .val (.long q1), .second, .val (.long q2), .second, .val (.int p3), .unset, .unset, .unset, .unset, .unset, .unset, .unset] [])) t → Steps p.tables e below (s₁.setTop (entryFrame m #[(.int p0), (.long q1), (.long q2), (.int p3)] maxLocals)) t := fun t k => castTop (ef0 m p0 q1 q2 p3) k
  have pre1 : ∀ t, Steps p.tables e below (s₁.setTop (mkF m 7 #[.val (.int p0), .val (.long q1), .second, .val (.long q2), .second, .val (.int p3), .val (.int (p0 &&& (255 : Int32))), .unset, .unset, .unset, .unset, .unset, .unset] [])) t → Steps p.tables e below (s₁.setTop (entryFrame m #[(.int p0), (.long q1), (.long q2), (.int p3)] maxLocals)) t := fun t kt => pre0 t (by
    show Steps p.tables e below (s₁.setTop (mkF m 0 #[.val (.int p0), .val (.long q1), .second, .val (.long q2), .second, .val (.int p3), .unset, .unset, .unset, .unset, .unset, .unset, .unset] [])) _
    refine XS.iloadN X0.here hx rfl (hb hby at_0) rfl ?_
    show Steps p.tables e below (s₁.setTop (mkF m 1 #[.val (.int p0), .val (.long q1), .second, .val (.long q2), .second, .val (.int p3), .unset, .unset, .unset, .unset, .unset, .unset, .unset] [(.int p0)])) _
    refine XS.sipush X0.here hx rfl (hb hby at_1) ?_
    show Steps p.tables e below (s₁.setTop (mkF m 4 #[.val (.int p0), .val (.long q1), .second, .val (.long q2), .second, .val (.int p3), .unset, .unset, .unset, .unset, .unset, .unset, .unset] [(.int (255 : Int32)), (.int p0)])) _
    refine XS.iand X0.here hx rfl (hb hby at_4) rfl ?_
    show Steps p.tables e below (s₁.setTop (mkF m 5 #[.val (.int p0), .val (.long q1), .second, .val (.long q2), .second, .val (.int p3), .unset, .unset, .unset, .unset, .unset, .unset, .unset] [(.int (p0 &&& (255 : Int32)))])) _
    refine XS.istore X0.here hx rfl (hb hby at_5) rfl (l' := #[.val (.int p0), .val (.long q1), .second, .val (.long q2), .second, .val (.int p3), .val (.int (p0 &&& (255 : Int32))), .unset, .unset, .unset, .unset, .unset, .unset]) rfl ?_
    exact kt)
  obtain ⟨ps, hm2, pre2⟩ : ∃ (ps : Int32), (¬ ps < 0 ∧ ps < (256 : Int32)) ∧ ∀ t, Steps p.tables e below (s₁.setTop (mkF m 7 #[.val (.int p0), .val (.long q1), .second, .val (.long q2), .second, .val (.int p3), .val (.int ps), .unset, .unset, .unset, .unset, .unset, .unset] [])) t → Steps p.tables e below (s₁.setTop (entryFrame m #[(.int p0), (.long q1), (.long q2), (.int p3)] maxLocals)) t := ⟨(p0 &&& (255 : Int32)), own_b8 p0, pre1⟩
  have pre3 : ∀ t, Steps p.tables e below (s₁.setTop (mkF m 11 #[.val (.int p0), .val (.long q1), .second, .val (.long q2), .second, .val (.int p3), .val (.int ps), .unset, .unset, .unset, .unset, .unset, .unset] [(.int (p3 &&& (1 : Int32)))])) t → Steps p.tables e below (s₁.setTop (entryFrame m #[(.int p0), (.long q1), (.long q2), (.int p3)] maxLocals)) t := fun t kt => pre2 t (by
    show Steps p.tables e below (s₁.setTop (mkF m 7 #[.val (.int p0), .val (.long q1), .second, .val (.long q2), .second, .val (.int p3), .val (.int ps), .unset, .unset, .unset, .unset, .unset, .unset] [])) _
    refine XS.iload X0.here hx rfl (hb hby at_7) rfl ?_
    show Steps p.tables e below (s₁.setTop (mkF m 9 #[.val (.int p0), .val (.long q1), .second, .val (.long q2), .second, .val (.int p3), .val (.int ps), .unset, .unset, .unset, .unset, .unset, .unset] [(.int p3)])) _
    refine XS.iconst X0.here hx rfl (hb hby at_9) ?_
    show Steps p.tables e below (s₁.setTop (mkF m 10 #[.val (.int p0), .val (.long q1), .second, .val (.long q2), .second, .val (.int p3), .val (.int ps), .unset, .unset, .unset, .unset, .unset, .unset] [(.int (1 : Int32)), (.int p3)])) _
    refine XS.iand X0.here hx rfl (hb hby at_10) rfl ?_
    exact kt)
  by_cases hc11_4 : (p3 &&& (1 : Int32)) = (0 : Int32)
  · have pre5 : ∀ t, Steps p.tables e below (s₁.setTop (mkF m 25 #[.val (.int p0), .val (.long q1), .second, .val (.long q2), .second, .val (.int p3), .val (.int ps), .val (.int (0 : Int32)), .unset, .unset, .unset, .unset, .unset] [(.int (p3 &&& (2 : Int32)))])) t → Steps p.tables e below (s₁.setTop (entryFrame m #[(.int p0), (.long q1), (.long q2), (.int p3)] maxLocals)) t := fun t kt => pre3 t (by
      show Steps p.tables e below (s₁.setTop (mkF m 11 #[.val (.int p0), .val (.long q1), .second, .val (.long q2), .second, .val (.int p3), .val (.int ps), .unset, .unset, .unset, .unset, .unset, .unset] [(.int (p3 &&& (1 : Int32)))])) _
      refine XS.ifYes X0.here hx rfl (pc0 := 11) (pc' := 18) rfl (hb hby at_11) rfl ((if0 _ _).trans (teq hc11_4).1) (by decide) (by decide) ?_
      show Steps p.tables e below (s₁.setTop (mkF m 18 #[.val (.int p0), .val (.long q1), .second, .val (.long q2), .second, .val (.int p3), .val (.int ps), .unset, .unset, .unset, .unset, .unset, .unset] [])) _
      refine XS.iconst X0.here hx rfl (hb hby at_18) ?_
      show Steps p.tables e below (s₁.setTop (mkF m 19 #[.val (.int p0), .val (.long q1), .second, .val (.long q2), .second, .val (.int p3), .val (.int ps), .unset, .unset, .unset, .unset, .unset, .unset] [(.int (0 : Int32))])) _
      refine XS.istore X0.here hx rfl (hb hby at_19) rfl (l' := #[.val (.int p0), .val (.long q1), .second, .val (.long q2), .second, .val (.int p3), .val (.int ps), .val (.int (0 : Int32)), .unset, .unset, .unset, .unset, .unset]) rfl ?_
      show Steps p.tables e below (s₁.setTop (mkF m 21 #[.val (.int p0), .val (.long q1), .second, .val (.long q2), .second, .val (.int p3), .val (.int ps), .val (.int (0 : Int32)), .unset, .unset, .unset, .unset, .unset] [])) _
      refine XS.iload X0.here hx rfl (hb hby at_21) rfl ?_
      show Steps p.tables e below (s₁.setTop (mkF m 23 #[.val (.int p0), .val (.long q1), .second, .val (.long q2), .second, .val (.int p3), .val (.int ps), .val (.int (0 : Int32)), .unset, .unset, .unset, .unset, .unset] [(.int p3)])) _
      refine XS.iconst X0.here hx rfl (hb hby at_23) ?_
      show Steps p.tables e below (s₁.setTop (mkF m 24 #[.val (.int p0), .val (.long q1), .second, .val (.long q2), .second, .val (.int p3), .val (.int ps), .val (.int (0 : Int32)), .unset, .unset, .unset, .unset, .unset] [(.int (2 : Int32)), (.int p3)])) _
      refine XS.iand X0.here hx rfl (hb hby at_24) rfl ?_
      exact kt)
    by_cases hc25_6 : (p3 &&& (2 : Int32)) = (0 : Int32)
    · have pre7 : ∀ t, Steps p.tables e below (s₁.setTop (mkF m 45 #[.val (.int p0), .val (.long q1), .second, .val (.long q2), .second, .val (.int p3), .val (.int ps), .val (.int (0 : Int32)), .val (.int (0 : Int32)), .val (.int (((p3.toUInt32 >>> ((2 : Int32) &&& 31).toUInt32).toInt32) &&& (255 : Int32))), .unset, .unset, .unset] [])) t → Steps p.tables e below (s₁.setTop (entryFrame m #[(.int p0), (.long q1), (.long q2), (.int p3)] maxLocals)) t := fun t kt => pre5 t (by
        show Steps p.tables e below (s₁.setTop (mkF m 25 #[.val (.int p0), .val (.long q1), .second, .val (.long q2), .second, .val (.int p3), .val (.int ps), .val (.int (0 : Int32)), .unset, .unset, .unset, .unset, .unset] [(.int (p3 &&& (2 : Int32)))])) _
        refine XS.ifYes X0.here hx rfl (pc0 := 25) (pc' := 32) rfl (hb hby at_25) rfl ((if0 _ _).trans (teq hc25_6).1) (by decide) (by decide) ?_
        show Steps p.tables e below (s₁.setTop (mkF m 32 #[.val (.int p0), .val (.long q1), .second, .val (.long q2), .second, .val (.int p3), .val (.int ps), .val (.int (0 : Int32)), .unset, .unset, .unset, .unset, .unset] [])) _
        refine XS.iconst X0.here hx rfl (hb hby at_32) ?_
        show Steps p.tables e below (s₁.setTop (mkF m 33 #[.val (.int p0), .val (.long q1), .second, .val (.long q2), .second, .val (.int p3), .val (.int ps), .val (.int (0 : Int32)), .unset, .unset, .unset, .unset, .unset] [(.int (0 : Int32))])) _
        refine XS.istore X0.here hx rfl (hb hby at_33) rfl (l' := #[.val (.int p0), .val (.long q1), .second, .val (.long q2), .second, .val (.int p3), .val (.int ps), .val (.int (0 : Int32)), .val (.int (0 : Int32)), .unset, .unset, .unset, .unset]) rfl ?_
        show Steps p.tables e below (s₁.setTop (mkF m 35 #[.val (.int p0), .val (.long q1), .second, .val (.long q2), .second, .val (.int p3), .val (.int ps), .val (.int (0 : Int32)), .val (.int (0 : Int32)), .unset, .unset, .unset, .unset] [])) _
        refine XS.iload X0.here hx rfl (hb hby at_35) rfl ?_
        show Steps p.tables e below (s₁.setTop (mkF m 37 #[.val (.int p0), .val (.long q1), .second, .val (.long q2), .second, .val (.int p3), .val (.int ps), .val (.int (0 : Int32)), .val (.int (0 : Int32)), .unset, .unset, .unset, .unset] [(.int p3)])) _
        refine XS.iconst X0.here hx rfl (hb hby at_37) ?_
        show Steps p.tables e below (s₁.setTop (mkF m 38 #[.val (.int p0), .val (.long q1), .second, .val (.long q2), .second, .val (.int p3), .val (.int ps), .val (.int (0 : Int32)), .val (.int (0 : Int32)), .unset, .unset, .unset, .unset] [(.int (2 : Int32)), (.int p3)])) _
        refine XS.iushr X0.here hx rfl (hb hby at_38) rfl ?_
        show Steps p.tables e below (s₁.setTop (mkF m 39 #[.val (.int p0), .val (.long q1), .second, .val (.long q2), .second, .val (.int p3), .val (.int ps), .val (.int (0 : Int32)), .val (.int (0 : Int32)), .unset, .unset, .unset, .unset] [(.int ((p3.toUInt32 >>> ((2 : Int32) &&& 31).toUInt32).toInt32))])) _
        refine XS.sipush X0.here hx rfl (hb hby at_39) ?_
        show Steps p.tables e below (s₁.setTop (mkF m 42 #[.val (.int p0), .val (.long q1), .second, .val (.long q2), .second, .val (.int p3), .val (.int ps), .val (.int (0 : Int32)), .val (.int (0 : Int32)), .unset, .unset, .unset, .unset] [(.int (255 : Int32)), (.int ((p3.toUInt32 >>> ((2 : Int32) &&& 31).toUInt32).toInt32))])) _
        refine XS.iand X0.here hx rfl (hb hby at_42) rfl ?_
        show Steps p.tables e below (s₁.setTop (mkF m 43 #[.val (.int p0), .val (.long q1), .second, .val (.long q2), .second, .val (.int p3), .val (.int ps), .val (.int (0 : Int32)), .val (.int (0 : Int32)), .unset, .unset, .unset, .unset] [(.int (((p3.toUInt32 >>> ((2 : Int32) &&& 31).toUInt32).toInt32) &&& (255 : Int32)))])) _
        refine XS.istore X0.here hx rfl (hb hby at_43) rfl (l' := #[.val (.int p0), .val (.long q1), .second, .val (.long q2), .second, .val (.int p3), .val (.int ps), .val (.int (0 : Int32)), .val (.int (0 : Int32)), .val (.int (((p3.toUInt32 >>> ((2 : Int32) &&& 31).toUInt32).toInt32) &&& (255 : Int32))), .unset, .unset, .unset]) rfl ?_
        exact kt)
      obtain ⟨ot, hm8, pre8⟩ : ∃ (ot : Int32), (¬ ot < 0 ∧ ot < (256 : Int32)) ∧ ∀ t, Steps p.tables e below (s₁.setTop (mkF m 45 #[.val (.int p0), .val (.long q1), .second, .val (.long q2), .second, .val (.int p3), .val (.int ps), .val (.int (0 : Int32)), .val (.int (0 : Int32)), .val (.int ot), .unset, .unset, .unset] [])) t → Steps p.tables e below (s₁.setTop (entryFrame m #[(.int p0), (.long q1), (.long q2), (.int p3)] maxLocals)) t := ⟨(((p3.toUInt32 >>> ((2 : Int32) &&& 31).toUInt32).toInt32) &&& (255 : Int32)), own_b8 _, pre7⟩
      have pre9 : ∀ t, Steps p.tables e below (s₁.setTop (mkF m 48 #[.val (.int p0), .val (.long q1), .second, .val (.long q2), .second, .val (.int p3), .val (.int ps), .val (.int (0 : Int32)), .val (.int (0 : Int32)), .val (.int ot), .unset, .unset, .unset] [(.int (256 : Int32))])) t → Steps p.tables e below (s₁.setTop (entryFrame m #[(.int p0), (.long q1), (.long q2), (.int p3)] maxLocals)) t := fun t kt => pre8 t (by
        show Steps p.tables e below (s₁.setTop (mkF m 45 #[.val (.int p0), .val (.long q1), .second, .val (.long q2), .second, .val (.int p3), .val (.int ps), .val (.int (0 : Int32)), .val (.int (0 : Int32)), .val (.int ot), .unset, .unset, .unset] [])) _
        refine XS.sipush X0.here hx rfl (hb hby at_45) ?_
        exact kt)
      obtain ⟨T10, h10, k10, X10, e10, E10, A10, st10⟩ := newP X0 hx hZ (hw _ (List.mem_of_getElem? (i := 0) rfl)) e0 (g := (mkF m 48 #[.val (.int p0), .val (.long q1), .second, .val (.long q2), .second, .val (.int p3), .val (.int ps), .val (.int (0 : Int32)), .val (.int (0 : Int32)), .val (.int ot), .unset, .unset, .unset] [(.int (256 : Int32))])) rfl (hb hby at_48) rfl (by decide) (cap := 256) (by decide) (by decide) (by decide) (by decide)
      obtain ⟨b10, g10⟩ : ∃ z, z = h0.size := ⟨_, rfl⟩
      rw [← g10] at A10 st10
      have pre11 : ∀ t, Steps p.tables e below (T10.setTop (mkF m 50 #[.val (.int p0), .val (.long q1), .second, .val (.long q2), .second, .val (.int p3), .val (.int ps), .val (.int (0 : Int32)), .val (.int (0 : Int32)), .val (.int ot), .unset, .unset, .unset] [(.ref b10)])) t → Steps p.tables e below (s₁.setTop (entryFrame m #[(.int p0), (.long q1), (.long q2), (.int p3)] maxLocals)) t := fun t kt => pre9 t (st10 _ kt)
      have gn10 : n0 ≤ b10 := Nat.le_trans Z0 (Nat.le_of_eq g10.symm)
      have sz10 : h0.size ≤ b10 := Nat.le_trans K0.1 (Nat.le_of_eq g10.symm)
      have K10 : Keep h0 h10 [] := K0.ext E10
      have Z10 : n0 ≤ h10.size := Nat.le_trans Z0 E10.1
      have V10 : Arh Z h10 b10 k10 .boolean (256 : Int32) [] [] (.int (0 : Int32)) := (Arv.new A10 (by decide)).arh
      have pre12 : ∀ t, Steps p.tables e below (T10.setTop (mkF m 57 #[.val (.int p0), .val (.long q1), .second, .val (.long q2), .second, .val (.int p3), .val (.int ps), .val (.int (0 : Int32)), .val (.int (0 : Int32)), .val (.int ot), .val (.ref b10), .unset, .unset] [(.int (1 : Int32)), (.int ot), (.ref b10)])) t → Steps p.tables e below (s₁.setTop (entryFrame m #[(.int p0), (.long q1), (.long q2), (.int p3)] maxLocals)) t := fun t kt => pre11 t (by
        show Steps p.tables e below (T10.setTop (mkF m 50 #[.val (.int p0), .val (.long q1), .second, .val (.long q2), .second, .val (.int p3), .val (.int ps), .val (.int (0 : Int32)), .val (.int (0 : Int32)), .val (.int ot), .unset, .unset, .unset] [(.ref b10)])) _
        refine XS.astore X10.here hx rfl (hb hby at_50) rfl rfl (l' := #[.val (.int p0), .val (.long q1), .second, .val (.long q2), .second, .val (.int p3), .val (.int ps), .val (.int (0 : Int32)), .val (.int (0 : Int32)), .val (.int ot), .val (.ref b10), .unset, .unset]) rfl ?_
        show Steps p.tables e below (T10.setTop (mkF m 52 #[.val (.int p0), .val (.long q1), .second, .val (.long q2), .second, .val (.int p3), .val (.int ps), .val (.int (0 : Int32)), .val (.int (0 : Int32)), .val (.int ot), .val (.ref b10), .unset, .unset] [])) _
        refine XS.aload X10.here hx rfl (hb hby at_52) rfl rfl ?_
        show Steps p.tables e below (T10.setTop (mkF m 54 #[.val (.int p0), .val (.long q1), .second, .val (.long q2), .second, .val (.int p3), .val (.int ps), .val (.int (0 : Int32)), .val (.int (0 : Int32)), .val (.int ot), .val (.ref b10), .unset, .unset] [(.ref b10)])) _
        refine XS.iload X10.here hx rfl (hb hby at_54) rfl ?_
        show Steps p.tables e below (T10.setTop (mkF m 56 #[.val (.int p0), .val (.long q1), .second, .val (.long q2), .second, .val (.int p3), .val (.int ps), .val (.int (0 : Int32)), .val (.int (0 : Int32)), .val (.int ot), .val (.ref b10), .unset, .unset] [(.int ot), (.ref b10)])) _
        refine XS.iconst X10.here hx rfl (hb hby at_56) ?_
        exact kt)
      have tv13 := V10
      obtain ⟨cl13, Ar13, q13, S13, Ng13, H13, G13⟩ := tv13
      have hin13 : ¬ (ot < 0 ∨ cl13.slots.size ≤ (ot).toNatClampNeg) := inb_of S13 hm8
      obtain ⟨T14, h14, X14, e14, W14, st14⟩ := stZ X10 hx hZ e10 Ar13 (j := ot) hin13 (g := (mkF m 57 #[.val (.int p0), .val (.long q1), .second, .val (.long q2), .second, .val (.int p3), .val (.int ps), .val (.int (0 : Int32)), .val (.int (0 : Int32)), .val (.int ot), .val (.ref b10), .unset, .unset] [(.int (1 : Int32)), (.int ot), (.ref b10)])) rfl rfl (hb hby at_57)
      have pre15 : ∀ t, Steps p.tables e below (T14.setTop (mkF m 58 #[.val (.int p0), .val (.long q1), .second, .val (.long q2), .second, .val (.int p3), .val (.int ps), .val (.int (0 : Int32)), .val (.int (0 : Int32)), .val (.int ot), .val (.ref b10), .unset, .unset] [])) t → Steps p.tables e below (s₁.setTop (entryFrame m #[(.int p0), (.long q1), (.long q2), (.int p3)] maxLocals)) t := fun t kt => pre12 t (st14 _ kt)
      have V14 : Arh Z h14 b10 k10 .boolean (256 : Int32) [(ot, (.int (1 : Int32)))] [] (.int (0 : Int32)) := Arh.push Ar13 q13 S13 Ng13 H13 G13 (fits_nar_bool (1 : Int32)) W14 hin13
      have K14 : Keep h0 h14 [] := K10.wr W14 (Or.inr sz10)
      have N14 := Fr.snoc X14 N0 gn10
      have Z14 : n0 ≤ h14.size := Nat.le_trans Z10 (Keep.of_wr W14).1
      have pre16 : ∀ t, Steps p.tables e below (T14.setTop (mkF m 86 #[.val (.int p0), .val (.long q1), .second, .val (.long q2), .second, .val (.int p3), .val (.int ps), .val (.int (0 : Int32)), .val (.int (0 : Int32)), .val (.int ot), .val (.ref b10), .val .null, .unset] [(.int (64 : Int32)), (.int ps)])) t → Steps p.tables e below (s₁.setTop (entryFrame m #[(.int p0), (.long q1), (.long q2), (.int p3)] maxLocals)) t := fun t kt => pre15 t (by
        show Steps p.tables e below (T14.setTop (mkF m 58 #[.val (.int p0), .val (.long q1), .second, .val (.long q2), .second, .val (.int p3), .val (.int ps), .val (.int (0 : Int32)), .val (.int (0 : Int32)), .val (.int ot), .val (.ref b10), .unset, .unset] [])) _
        refine XS.iload X14.here hx rfl (hb hby at_58) rfl ?_
        show Steps p.tables e below (T14.setTop (mkF m 60 #[.val (.int p0), .val (.long q1), .second, .val (.long q2), .second, .val (.int p3), .val (.int ps), .val (.int (0 : Int32)), .val (.int (0 : Int32)), .val (.int ot), .val (.ref b10), .unset, .unset] [(.int (0 : Int32))])) _
        refine XS.ifYes X14.here hx rfl (pc0 := 60) (pc' := 69) rfl (hb hby at_60) rfl ((if0 _ _).trans (teq (by decide : (0 : Int32) = (0 : Int32))).1) (by decide) (by decide) ?_
        show Steps p.tables e below (T14.setTop (mkF m 69 #[.val (.int p0), .val (.long q1), .second, .val (.long q2), .second, .val (.int p3), .val (.int ps), .val (.int (0 : Int32)), .val (.int (0 : Int32)), .val (.int ot), .val (.ref b10), .unset, .unset] [])) _
        refine XS.iload X14.here hx rfl (hb hby at_69) rfl ?_
        show Steps p.tables e below (T14.setTop (mkF m 71 #[.val (.int p0), .val (.long q1), .second, .val (.long q2), .second, .val (.int p3), .val (.int ps), .val (.int (0 : Int32)), .val (.int (0 : Int32)), .val (.int ot), .val (.ref b10), .unset, .unset] [(.int (0 : Int32))])) _
        refine XS.ifYes X14.here hx rfl (pc0 := 71) (pc' := 79) rfl (hb hby at_71) rfl ((if0 _ _).trans (teq (by decide : (0 : Int32) = (0 : Int32))).1) (by decide) (by decide) ?_
        show Steps p.tables e below (T14.setTop (mkF m 79 #[.val (.int p0), .val (.long q1), .second, .val (.long q2), .second, .val (.int p3), .val (.int ps), .val (.int (0 : Int32)), .val (.int (0 : Int32)), .val (.int ot), .val (.ref b10), .unset, .unset] [])) _
        refine XS.aconstNull X14.here hx rfl (hb hby at_79) ?_
        show Steps p.tables e below (T14.setTop (mkF m 80 #[.val (.int p0), .val (.long q1), .second, .val (.long q2), .second, .val (.int p3), .val (.int ps), .val (.int (0 : Int32)), .val (.int (0 : Int32)), .val (.int ot), .val (.ref b10), .unset, .unset] [.null])) _
        refine XS.astore X14.here hx rfl (hb hby at_80) rfl rfl (l' := #[.val (.int p0), .val (.long q1), .second, .val (.long q2), .second, .val (.int p3), .val (.int ps), .val (.int (0 : Int32)), .val (.int (0 : Int32)), .val (.int ot), .val (.ref b10), .val .null, .unset]) rfl ?_
        show Steps p.tables e below (T14.setTop (mkF m 82 #[.val (.int p0), .val (.long q1), .second, .val (.long q2), .second, .val (.int p3), .val (.int ps), .val (.int (0 : Int32)), .val (.int (0 : Int32)), .val (.int ot), .val (.ref b10), .val .null, .unset] [])) _
        refine XS.iload X14.here hx rfl (hb hby at_82) rfl ?_
        show Steps p.tables e below (T14.setTop (mkF m 84 #[.val (.int p0), .val (.long q1), .second, .val (.long q2), .second, .val (.int p3), .val (.int ps), .val (.int (0 : Int32)), .val (.int (0 : Int32)), .val (.int ot), .val (.ref b10), .val .null, .unset] [(.int ps)])) _
        refine XS.bipush X14.here hx rfl (hb hby at_84) ?_
        exact kt)
      by_cases hc86_17 : ps < (64 : Int32)
      · have pre18 : ∀ t, Steps p.tables e below (T14.setTop (mkF m 97 #[.val (.int p0), .val (.long q1), .second, .val (.long q2), .second, .val (.int p3), .val (.int ps), .val (.int (0 : Int32)), .val (.int (0 : Int32)), .val (.int ot), .val (.ref b10), .val .null, .unset] [(.int (lcmpW (((q1.toUInt64 >>> (ps &&& 0x3f).toInt64.toUInt64).toInt64) &&& (1 : Int64)) (1 : Int64)))])) t → Steps p.tables e below (s₁.setTop (entryFrame m #[(.int p0), (.long q1), (.long q2), (.int p3)] maxLocals)) t := fun t kt => pre16 t (by
          show Steps p.tables e below (T14.setTop (mkF m 86 #[.val (.int p0), .val (.long q1), .second, .val (.long q2), .second, .val (.int p3), .val (.int ps), .val (.int (0 : Int32)), .val (.int (0 : Int32)), .val (.int ot), .val (.ref b10), .val .null, .unset] [(.int (64 : Int32)), (.int ps)])) _
          refine XS.icmpNo X14.here hx rfl (hb hby at_86) rfl (tlt hc86_17).2.1 ?_
          show Steps p.tables e below (T14.setTop (mkF m 89 #[.val (.int p0), .val (.long q1), .second, .val (.long q2), .second, .val (.int p3), .val (.int ps), .val (.int (0 : Int32)), .val (.int (0 : Int32)), .val (.int ot), .val (.ref b10), .val .null, .unset] [])) _
          refine XS.lloadN X14.here hx rfl (hb hby at_89) rfl ?_
          show Steps p.tables e below (T14.setTop (mkF m 90 #[.val (.int p0), .val (.long q1), .second, .val (.long q2), .second, .val (.int p3), .val (.int ps), .val (.int (0 : Int32)), .val (.int (0 : Int32)), .val (.int ot), .val (.ref b10), .val .null, .unset] [(.long q1)])) _
          refine XS.iload X14.here hx rfl (hb hby at_90) rfl ?_
          show Steps p.tables e below (T14.setTop (mkF m 92 #[.val (.int p0), .val (.long q1), .second, .val (.long q2), .second, .val (.int p3), .val (.int ps), .val (.int (0 : Int32)), .val (.int (0 : Int32)), .val (.int ot), .val (.ref b10), .val .null, .unset] [(.int ps), (.long q1)])) _
          refine XS.lushr X14.here hx rfl (hb hby at_92) rfl ?_
          show Steps p.tables e below (T14.setTop (mkF m 93 #[.val (.int p0), .val (.long q1), .second, .val (.long q2), .second, .val (.int p3), .val (.int ps), .val (.int (0 : Int32)), .val (.int (0 : Int32)), .val (.int ot), .val (.ref b10), .val .null, .unset] [(.long ((q1.toUInt64 >>> (ps &&& 0x3f).toInt64.toUInt64).toInt64))])) _
          refine XS.lconst X14.here hx rfl (hb hby at_93) ?_
          show Steps p.tables e below (T14.setTop (mkF m 94 #[.val (.int p0), .val (.long q1), .second, .val (.long q2), .second, .val (.int p3), .val (.int ps), .val (.int (0 : Int32)), .val (.int (0 : Int32)), .val (.int ot), .val (.ref b10), .val .null, .unset] [(.long (1 : Int64)), (.long ((q1.toUInt64 >>> (ps &&& 0x3f).toInt64.toUInt64).toInt64))])) _
          refine XS.land X14.here hx rfl (hb hby at_94) rfl ?_
          show Steps p.tables e below (T14.setTop (mkF m 95 #[.val (.int p0), .val (.long q1), .second, .val (.long q2), .second, .val (.int p3), .val (.int ps), .val (.int (0 : Int32)), .val (.int (0 : Int32)), .val (.int ot), .val (.ref b10), .val .null, .unset] [(.long (((q1.toUInt64 >>> (ps &&& 0x3f).toInt64.toUInt64).toInt64) &&& (1 : Int64)))])) _
          refine XS.lconst X14.here hx rfl (hb hby at_95) ?_
          show Steps p.tables e below (T14.setTop (mkF m 96 #[.val (.int p0), .val (.long q1), .second, .val (.long q2), .second, .val (.int p3), .val (.int ps), .val (.int (0 : Int32)), .val (.int (0 : Int32)), .val (.int ot), .val (.ref b10), .val .null, .unset] [(.long (1 : Int64)), (.long (((q1.toUInt64 >>> (ps &&& 0x3f).toInt64.toUInt64).toInt64) &&& (1 : Int64)))])) _
          refine XS.lcmp X14.here hx rfl (hb hby at_96) rfl ?_
          exact kt)
        by_cases hc97_19 : (((q1.toUInt64 >>> (ps &&& 0x3f).toInt64.toUInt64).toInt64) &&& (1 : Int64)) = (1 : Int64)
        · have pre20 : ∀ t, Steps p.tables e below (T14.setTop (mkF m 172 #[.val (.int p0), .val (.long q1), .second, .val (.long q2), .second, .val (.int p3), .val (.int ps), .val (.int (0 : Int32)), .val (.int (0 : Int32)), .val (.int ot), .val (.ref b10), .val .null, .val (.int (1 : Int32))] [.null, (.long q2), (.long q1), (.int ps)])) t → Steps p.tables e below (s₁.setTop (entryFrame m #[(.int p0), (.long q1), (.long q2), (.int p3)] maxLocals)) t := fun t kt => pre18 t (by
            show Steps p.tables e below (T14.setTop (mkF m 97 #[.val (.int p0), .val (.long q1), .second, .val (.long q2), .second, .val (.int p3), .val (.int ps), .val (.int (0 : Int32)), .val (.int (0 : Int32)), .val (.int ot), .val (.ref b10), .val .null, .unset] [(.int (lcmpW (((q1.toUInt64 >>> (ps &&& 0x3f).toInt64.toUInt64).toInt64) &&& (1 : Int64)) (1 : Int64)))])) _
            refine XS.ifNo X14.here hx rfl (hb hby at_97) rfl (Jvm.Free.XT.ll_ne_f hc97_19) ?_
            show Steps p.tables e below (T14.setTop (mkF m 100 #[.val (.int p0), .val (.long q1), .second, .val (.long q2), .second, .val (.int p3), .val (.int ps), .val (.int (0 : Int32)), .val (.int (0 : Int32)), .val (.int ot), .val (.ref b10), .val .null, .unset] [])) _
            refine XS.iconst X14.here hx rfl (hb hby at_100) ?_
            show Steps p.tables e below (T14.setTop (mkF m 101 #[.val (.int p0), .val (.long q1), .second, .val (.long q2), .second, .val (.int p3), .val (.int ps), .val (.int (0 : Int32)), .val (.int (0 : Int32)), .val (.int ot), .val (.ref b10), .val .null, .unset] [(.int (1 : Int32))])) _
            refine XS.goto X14.here hx rfl (pc0 := 101) (pc' := 105) rfl (hb hby at_101) (by decide) (by decide) ?_
            show Steps p.tables e below (T14.setTop (mkF m 105 #[.val (.int p0), .val (.long q1), .second, .val (.long q2), .second, .val (.int p3), .val (.int ps), .val (.int (0 : Int32)), .val (.int (0 : Int32)), .val (.int ot), .val (.ref b10), .val .null, .unset] [(.int (1 : Int32))])) _
            refine XS.istore X14.here hx rfl (hb hby at_105) rfl (l' := #[.val (.int p0), .val (.long q1), .second, .val (.long q2), .second, .val (.int p3), .val (.int ps), .val (.int (0 : Int32)), .val (.int (0 : Int32)), .val (.int ot), .val (.ref b10), .val .null, .val (.int (1 : Int32))]) rfl ?_
            show Steps p.tables e below (T14.setTop (mkF m 107 #[.val (.int p0), .val (.long q1), .second, .val (.long q2), .second, .val (.int p3), .val (.int ps), .val (.int (0 : Int32)), .val (.int (0 : Int32)), .val (.int ot), .val (.ref b10), .val .null, .val (.int (1 : Int32))] [])) _
            refine XS.goto X14.here hx rfl (pc0 := 107) (pc' := 166) rfl (hb hby at_107) (by decide) (by decide) ?_
            show Steps p.tables e below (T14.setTop (mkF m 166 #[.val (.int p0), .val (.long q1), .second, .val (.long q2), .second, .val (.int p3), .val (.int ps), .val (.int (0 : Int32)), .val (.int (0 : Int32)), .val (.int ot), .val (.ref b10), .val .null, .val (.int (1 : Int32))] [])) _
            refine XS.iload X14.here hx rfl (hb hby at_166) rfl ?_
            show Steps p.tables e below (T14.setTop (mkF m 168 #[.val (.int p0), .val (.long q1), .second, .val (.long q2), .second, .val (.int p3), .val (.int ps), .val (.int (0 : Int32)), .val (.int (0 : Int32)), .val (.int ot), .val (.ref b10), .val .null, .val (.int (1 : Int32))] [(.int ps)])) _
            refine XS.lloadN X14.here hx rfl (hb hby at_168) rfl ?_
            show Steps p.tables e below (T14.setTop (mkF m 169 #[.val (.int p0), .val (.long q1), .second, .val (.long q2), .second, .val (.int p3), .val (.int ps), .val (.int (0 : Int32)), .val (.int (0 : Int32)), .val (.int ot), .val (.ref b10), .val .null, .val (.int (1 : Int32))] [(.long q1), (.int ps)])) _
            refine XS.lloadN X14.here hx rfl (hb hby at_169) rfl ?_
            show Steps p.tables e below (T14.setTop (mkF m 170 #[.val (.int p0), .val (.long q1), .second, .val (.long q2), .second, .val (.int p3), .val (.int ps), .val (.int (0 : Int32)), .val (.int (0 : Int32)), .val (.int ot), .val (.ref b10), .val .null, .val (.int (1 : Int32))] [(.long q2), (.long q1), (.int ps)])) _
            refine XS.aload X14.here hx rfl (hb hby at_170) rfl rfl ?_
            exact kt)
          obtain ⟨_, _, ⟨T21, L21, k21, n21⟩, -, X21, ⟨Lc21, hQ21, l21, y21, z21⟩, st21⟩ := Jvm.LawKit.callS X14 hx (y := (⟨"com/example/baton/baton/support/Skipped", "contains", "(IJJ[Z)Z"⟩ : MethodName)) hown (mvT hZ (hw _ (List.mem_of_getElem? (i := 1) rfl))) (mvT hZ (hw _ (List.mem_of_getElem? (i := 2) rfl))) (mvT hZ (hw _ (List.mem_of_getElem? (i := 3) rfl))) (mvT hZ (hw _ (List.mem_of_getElem? (i := 4) rfl))) (by decide) (backOf (W := 0) (rm1n l Z av hw [] ps q1 q2  h14 n0 Z14 ) hZ (hw _ (List.mem_of_getElem? (i := 4) rfl)) (hw _ (List.mem_of_getElem? (i := 3) rfl)) (by decide) (by decide)) (g := (mkF m 172 #[.val (.int p0), .val (.long q1), .second, .val (.long q2), .second, .val (.int p3), .val (.int ps), .val (.int (0 : Int32)), .val (.int (0 : Int32)), .val (.int ot), .val (.ref b10), .val .null, .val (.int (1 : Int32))] [.null, (.long q2), (.long q1), (.int ps)])) rfl (by rw [hml]; rfl) (argsL := [(.int ps), (.long q1), (.long q2), .null]) (rest := []) (lenOf pd__IJJ_Z_Z rfl) rfl (by show 2 * 0 + _ ≤ _; exact Nat.le_of_eq rfl) (hb hby at_172) (fun _ _ => ⟨rfl, e14, (by decide : 1 + 0 ≤ _), (by decide : 256 + 0 ≤ _)⟩)
          dsimp only [Pt.U, Pt.locs, Pt.cells, Pt.slots] at X21 l21 y21 z21 st21 hQ21
          subst l21 y21 z21
          obtain ⟨rfl, N21q, e21⟩ := hQ21
          have N21 := Fr.app N14 N21q
          have pre22 : ∀ t, Steps p.tables e below (T21.setTop (mkF m 175 #[.val (.int p0), .val (.long q1), .second, .val (.long q2), .second, .val (.int p3), .val (.int ps), .val (.int (0 : Int32)), .val (.int (0 : Int32)), .val (.int ot), .val (.ref b10), .val .null, .val (.int (1 : Int32))] [(.int (f_cn ps q1 q2))])) t → Steps p.tables e below (s₁.setTop (entryFrame m #[(.int p0), (.long q1), (.long q2), (.int p3)] maxLocals)) t := fun t kt => pre20 t (st21 _ kt)
          have pre23 : ∀ t, Steps p.tables e below (T21.setTop (mkF m 185 #[.val (.int p0), .val (.long q1), .second, .val (.long q2), .second, .val (.int p3), .val (.int ps), .val (.int (0 : Int32)), .val (.int (0 : Int32)), .val (.int ot), .val (.ref b10), .val .null, .val (.int (1 : Int32))] [(.int (1 : Int32))])) t → Steps p.tables e below (s₁.setTop (entryFrame m #[(.int p0), (.long q1), (.long q2), (.int p3)] maxLocals)) t := fun t kt => pre22 t (by
            show Steps p.tables e below (T21.setTop (mkF m 175 #[.val (.int p0), .val (.long q1), .second, .val (.long q2), .second, .val (.int p3), .val (.int ps), .val (.int (0 : Int32)), .val (.int (0 : Int32)), .val (.int ot), .val (.ref b10), .val .null, .val (.int (1 : Int32))] [(.int (f_cn ps q1 q2))])) _
            refine XS.iload X21.here hx rfl (hb hby at_175) rfl ?_
            show Steps p.tables e below (T21.setTop (mkF m 177 #[.val (.int p0), .val (.long q1), .second, .val (.long q2), .second, .val (.int p3), .val (.int ps), .val (.int (0 : Int32)), .val (.int (0 : Int32)), .val (.int ot), .val (.ref b10), .val .null, .val (.int (1 : Int32))] [(.int (1 : Int32)), (.int (f_cn ps q1 q2))])) _
            refine XS.icmpNo X21.here hx rfl (hb hby at_177) rfl (teq (by unfold f_cn; rw [if_pos hc86_17, if_neg (fun q => (own_lo ps q1 hm2).mp q hc97_19)] : (f_cn ps q1 q2) = (1 : Int32))).2 ?_
            show Steps p.tables e below (T21.setTop (mkF m 180 #[.val (.int p0), .val (.long q1), .second, .val (.long q2), .second, .val (.int p3), .val (.int ps), .val (.int (0 : Int32)), .val (.int (0 : Int32)), .val (.int ot), .val (.ref b10), .val .null, .val (.int (1 : Int32))] [])) _
            refine XS.iconst X21.here hx rfl (hb hby at_180) ?_
            show Steps p.tables e below (T21.setTop (mkF m 181 #[.val (.int p0), .val (.long q1), .second, .val (.long q2), .second, .val (.int p3), .val (.int ps), .val (.int (0 : Int32)), .val (.int (0 : Int32)), .val (.int ot), .val (.ref b10), .val .null, .val (.int (1 : Int32))] [(.int (1 : Int32))])) _
            refine XS.goto X21.here hx rfl (pc0 := 181) (pc' := 185) rfl (hb hby at_181) (by decide) (by decide) ?_
            exact kt)
          obtain ⟨fs, hr, hrun, hended, hW, hsame⟩ := X21.leave (v := some (.int (1 : Int32))) (fun h => by rw [Bd.returns] at h; cases h)
          refine ⟨_, _, pre23 _ ?_, hrun, hended, _, _, rfl, ?_, ⟨_, rfl⟩, hW, hsame.mono (by decide) (by decide)⟩
          · show Steps p.tables e below (T21.setTop (mkF m 185 #[.val (.int p0), .val (.long q1), .second, .val (.long q2), .second, .val (.int p3), .val (.int ps), .val (.int (0 : Int32)), .val (.int (0 : Int32)), .val (.int ot), .val (.ref b10), .val .null, .val (.int (1 : Int32))] [(.int (1 : Int32))])) _
            exact retN X21 hx (t := .boolean) Bd.returns (by simp) (hb hby at_185) hr
          · show Q0 Z p0 q1 q2 p3 h0 n0 _ T21.heap _
            rw [e21]
            exact ⟨rfl, N21⟩
        · have pre24 : ∀ t, Steps p.tables e below (T14.setTop (mkF m 172 #[.val (.int p0), .val (.long q1), .second, .val (.long q2), .second, .val (.int p3), .val (.int ps), .val (.int (0 : Int32)), .val (.int (0 : Int32)), .val (.int ot), .val (.ref b10), .val .null, .val (.int (0 : Int32))] [.null, (.long q2), (.long q1), (.int ps)])) t → Steps p.tables e below (s₁.setTop (entryFrame m #[(.int p0), (.long q1), (.long q2), (.int p3)] maxLocals)) t := fun t kt => pre18 t (by
            show Steps p.tables e below (T14.setTop (mkF m 97 #[.val (.int p0), .val (.long q1), .second, .val (.long q2), .second, .val (.int p3), .val (.int ps), .val (.int (0 : Int32)), .val (.int (0 : Int32)), .val (.int ot), .val (.ref b10), .val .null, .unset] [(.int (lcmpW (((q1.toUInt64 >>> (ps &&& 0x3f).toInt64.toUInt64).toInt64) &&& (1 : Int64)) (1 : Int64)))])) _
            refine XS.ifYes X14.here hx rfl (pc0 := 97) (pc' := 104) rfl (hb hby at_97) rfl (Jvm.Free.XT.ll_ne_t hc97_19) (by decide) (by decide) ?_
            show Steps p.tables e below (T14.setTop (mkF m 104 #[.val (.int p0), .val (.long q1), .second, .val (.long q2), .second, .val (.int p3), .val (.int ps), .val (.int (0 : Int32)), .val (.int (0 : Int32)), .val (.int ot), .val (.ref b10), .val .null, .unset] [])) _
            refine XS.iconst X14.here hx rfl (hb hby at_104) ?_
            show Steps p.tables e below (T14.setTop (mkF m 105 #[.val (.int p0), .val (.long q1), .second, .val (.long q2), .second, .val (.int p3), .val (.int ps), .val (.int (0 : Int32)), .val (.int (0 : Int32)), .val (.int ot), .val (.ref b10), .val .null, .unset] [(.int (0 : Int32))])) _
            refine XS.istore X14.here hx rfl (hb hby at_105) rfl (l' := #[.val (.int p0), .val (.long q1), .second, .val (.long q2), .second, .val (.int p3), .val (.int ps), .val (.int (0 : Int32)), .val (.int (0 : Int32)), .val (.int ot), .val (.ref b10), .val .null, .val (.int (0 : Int32))]) rfl ?_
            show Steps p.tables e below (T14.setTop (mkF m 107 #[.val (.int p0), .val (.long q1), .second, .val (.long q2), .second, .val (.int p3), .val (.int ps), .val (.int (0 : Int32)), .val (.int (0 : Int32)), .val (.int ot), .val (.ref b10), .val .null, .val (.int (0 : Int32))] [])) _
            refine XS.goto X14.here hx rfl (pc0 := 107) (pc' := 166) rfl (hb hby at_107) (by decide) (by decide) ?_
            show Steps p.tables e below (T14.setTop (mkF m 166 #[.val (.int p0), .val (.long q1), .second, .val (.long q2), .second, .val (.int p3), .val (.int ps), .val (.int (0 : Int32)), .val (.int (0 : Int32)), .val (.int ot), .val (.ref b10), .val .null, .val (.int (0 : Int32))] [])) _
            refine XS.iload X14.here hx rfl (hb hby at_166) rfl ?_
            show Steps p.tables e below (T14.setTop (mkF m 168 #[.val (.int p0), .val (.long q1), .second, .val (.long q2), .second, .val (.int p3), .val (.int ps), .val (.int (0 : Int32)), .val (.int (0 : Int32)), .val (.int ot), .val (.ref b10), .val .null, .val (.int (0 : Int32))] [(.int ps)])) _
            refine XS.lloadN X14.here hx rfl (hb hby at_168) rfl ?_
            show Steps p.tables e below (T14.setTop (mkF m 169 #[.val (.int p0), .val (.long q1), .second, .val (.long q2), .second, .val (.int p3), .val (.int ps), .val (.int (0 : Int32)), .val (.int (0 : Int32)), .val (.int ot), .val (.ref b10), .val .null, .val (.int (0 : Int32))] [(.long q1), (.int ps)])) _
            refine XS.lloadN X14.here hx rfl (hb hby at_169) rfl ?_
            show Steps p.tables e below (T14.setTop (mkF m 170 #[.val (.int p0), .val (.long q1), .second, .val (.long q2), .second, .val (.int p3), .val (.int ps), .val (.int (0 : Int32)), .val (.int (0 : Int32)), .val (.int ot), .val (.ref b10), .val .null, .val (.int (0 : Int32))] [(.long q2), (.long q1), (.int ps)])) _
            refine XS.aload X14.here hx rfl (hb hby at_170) rfl rfl ?_
            exact kt)
          obtain ⟨_, _, ⟨T25, L25, k25, n25⟩, -, X25, ⟨Lc25, hQ25, l25, y25, z25⟩, st25⟩ := Jvm.LawKit.callS X14 hx (y := (⟨"com/example/baton/baton/support/Skipped", "contains", "(IJJ[Z)Z"⟩ : MethodName)) hown (mvT hZ (hw _ (List.mem_of_getElem? (i := 1) rfl))) (mvT hZ (hw _ (List.mem_of_getElem? (i := 2) rfl))) (mvT hZ (hw _ (List.mem_of_getElem? (i := 3) rfl))) (mvT hZ (hw _ (List.mem_of_getElem? (i := 4) rfl))) (by decide) (backOf (W := 0) (rm1n l Z av hw [] ps q1 q2  h14 n0 Z14 ) hZ (hw _ (List.mem_of_getElem? (i := 4) rfl)) (hw _ (List.mem_of_getElem? (i := 3) rfl)) (by decide) (by decide)) (g := (mkF m 172 #[.val (.int p0), .val (.long q1), .second, .val (.long q2), .second, .val (.int p3), .val (.int ps), .val (.int (0 : Int32)), .val (.int (0 : Int32)), .val (.int ot), .val (.ref b10), .val .null, .val (.int (0 : Int32))] [.null, (.long q2), (.long q1), (.int ps)])) rfl (by rw [hml]; rfl) (argsL := [(.int ps), (.long q1), (.long q2), .null]) (rest := []) (lenOf pd__IJJ_Z_Z rfl) rfl (by show 2 * 0 + _ ≤ _; exact Nat.le_of_eq rfl) (hb hby at_172) (fun _ _ => ⟨rfl, e14, (by decide : 1 + 0 ≤ _), (by decide : 256 + 0 ≤ _)⟩)
          dsimp only [Pt.U, Pt.locs, Pt.cells, Pt.slots] at X25 l25 y25 z25 st25 hQ25
          subst l25 y25 z25
          obtain ⟨rfl, N25q, e25⟩ := hQ25
          have N25 := Fr.app N14 N25q
          have pre26 : ∀ t, Steps p.tables e below (T25.setTop (mkF m 175 #[.val (.int p0), .val (.long q1), .second, .val (.long q2), .second, .val (.int p3), .val (.int ps), .val (.int (0 : Int32)), .val (.int (0 : Int32)), .val (.int ot), .val (.ref b10), .val .null, .val (.int (0 : Int32))] [(.int (f_cn ps q1 q2))])) t → Steps p.tables e below (s₁.setTop (entryFrame m #[(.int p0), (.long q1), (.long q2), (.int p3)] maxLocals)) t := fun t kt => pre24 t (st25 _ kt)
          have pre27 : ∀ t, Steps p.tables e below (T25.setTop (mkF m 185 #[.val (.int p0), .val (.long q1), .second, .val (.long q2), .second, .val (.int p3), .val (.int ps), .val (.int (0 : Int32)), .val (.int (0 : Int32)), .val (.int ot), .val (.ref b10), .val .null, .val (.int (0 : Int32))] [(.int (1 : Int32))])) t → Steps p.tables e below (s₁.setTop (entryFrame m #[(.int p0), (.long q1), (.long q2), (.int p3)] maxLocals)) t := fun t kt => pre26 t (by
            show Steps p.tables e below (T25.setTop (mkF m 175 #[.val (.int p0), .val (.long q1), .second, .val (.long q2), .second, .val (.int p3), .val (.int ps), .val (.int (0 : Int32)), .val (.int (0 : Int32)), .val (.int ot), .val (.ref b10), .val .null, .val (.int (0 : Int32))] [(.int (f_cn ps q1 q2))])) _
            refine XS.iload X25.here hx rfl (hb hby at_175) rfl ?_
            show Steps p.tables e below (T25.setTop (mkF m 177 #[.val (.int p0), .val (.long q1), .second, .val (.long q2), .second, .val (.int p3), .val (.int ps), .val (.int (0 : Int32)), .val (.int (0 : Int32)), .val (.int ot), .val (.ref b10), .val .null, .val (.int (0 : Int32))] [(.int (0 : Int32)), (.int (f_cn ps q1 q2))])) _
            refine XS.icmpNo X25.here hx rfl (hb hby at_177) rfl (teq (by unfold f_cn; rw [if_pos hc86_17, if_pos ((own_lo ps q1 hm2).mpr hc97_19)] : (f_cn ps q1 q2) = (0 : Int32))).2 ?_
            show Steps p.tables e below (T25.setTop (mkF m 180 #[.val (.int p0), .val (.long q1), .second, .val (.long q2), .second, .val (.int p3), .val (.int ps), .val (.int (0 : Int32)), .val (.int (0 : Int32)), .val (.int ot), .val (.ref b10), .val .null, .val (.int (0 : Int32))] [])) _
            refine XS.iconst X25.here hx rfl (hb hby at_180) ?_
            show Steps p.tables e below (T25.setTop (mkF m 181 #[.val (.int p0), .val (.long q1), .second, .val (.long q2), .second, .val (.int p3), .val (.int ps), .val (.int (0 : Int32)), .val (.int (0 : Int32)), .val (.int ot), .val (.ref b10), .val .null, .val (.int (0 : Int32))] [(.int (1 : Int32))])) _
            refine XS.goto X25.here hx rfl (pc0 := 181) (pc' := 185) rfl (hb hby at_181) (by decide) (by decide) ?_
            exact kt)
          obtain ⟨fs, hr, hrun, hended, hW, hsame⟩ := X25.leave (v := some (.int (1 : Int32))) (fun h => by rw [Bd.returns] at h; cases h)
          refine ⟨_, _, pre27 _ ?_, hrun, hended, _, _, rfl, ?_, ⟨_, rfl⟩, hW, hsame.mono (by decide) (by decide)⟩
          · show Steps p.tables e below (T25.setTop (mkF m 185 #[.val (.int p0), .val (.long q1), .second, .val (.long q2), .second, .val (.int p3), .val (.int ps), .val (.int (0 : Int32)), .val (.int (0 : Int32)), .val (.int ot), .val (.ref b10), .val .null, .val (.int (0 : Int32))] [(.int (1 : Int32))])) _
            exact retN X25 hx (t := .boolean) Bd.returns (by simp) (hb hby at_185) hr
          · show Q0 Z p0 q1 q2 p3 h0 n0 _ T25.heap _
            rw [e25]
            exact ⟨rfl, N25⟩
      · have pre28 : ∀ t, Steps p.tables e below (T14.setTop (mkF m 115 #[.val (.int p0), .val (.long q1), .second, .val (.long q2), .second, .val (.int p3), .val (.int ps), .val (.int (0 : Int32)), .val (.int (0 : Int32)), .val (.int ot), .val (.ref b10), .val .null, .unset] [(.int (128 : Int32)), (.int ps)])) t → Steps p.tables e below (s₁.setTop (entryFrame m #[(.int p0), (.long q1), (.long q2), (.int p3)] maxLocals)) t := fun t kt => pre16 t (by
          show Steps p.tables e below (T14.setTop (mkF m 86 #[.val (.int p0), .val (.long q1), .second, .val (.long q2), .second, .val (.int p3), .val (.int ps), .val (.int (0 : Int32)), .val (.int (0 : Int32)), .val (.int ot), .val (.ref b10), .val .null, .unset] [(.int (64 : Int32)), (.int ps)])) _
          refine XS.icmpYes X14.here hx rfl (pc0 := 86) (pc' := 110) rfl (hb hby at_86) rfl (flt hc86_17).2.1 (by decide) (by decide) ?_
          show Steps p.tables e below (T14.setTop (mkF m 110 #[.val (.int p0), .val (.long q1), .second, .val (.long q2), .second, .val (.int p3), .val (.int ps), .val (.int (0 : Int32)), .val (.int (0 : Int32)), .val (.int ot), .val (.ref b10), .val .null, .unset] [])) _
          refine XS.iload X14.here hx rfl (hb hby at_110) rfl ?_
          show Steps p.tables e below (T14.setTop (mkF m 112 #[.val (.int p0), .val (.long q1), .second, .val (.long q2), .second, .val (.int p3), .val (.int ps), .val (.int (0 : Int32)), .val (.int (0 : Int32)), .val (.int ot), .val (.ref b10), .val .null, .unset] [(.int ps)])) _
          refine XS.sipush X14.here hx rfl (hb hby at_112) ?_
          exact kt)
        by_cases hc115_29 : ps < (128 : Int32)
        · have pre30 : ∀ t, Steps p.tables e below (T14.setTop (mkF m 129 #[.val (.int p0), .val (.long q1), .second, .val (.long q2), .second, .val (.int p3), .val (.int ps), .val (.int (0 : Int32)), .val (.int (0 : Int32)), .val (.int ot), .val (.ref b10), .val .null, .unset] [(.int (lcmpW (((q2.toUInt64 >>> ((ps - (64 : Int32)) &&& 0x3f).toInt64.toUInt64).toInt64) &&& (1 : Int64)) (1 : Int64)))])) t → Steps p.tables e below (s₁.setTop (entryFrame m #[(.int p0), (.long q1), (.long q2), (.int p3)] maxLocals)) t := fun t kt => pre28 t (by
            show Steps p.tables e below (T14.setTop (mkF m 115 #[.val (.int p0), .val (.long q1), .second, .val (.long q2), .second, .val (.int p3), .val (.int ps), .val (.int (0 : Int32)), .val (.int (0 : Int32)), .val (.int ot), .val (.ref b10), .val .null, .unset] [(.int (128 : Int32)), (.int ps)])) _
            refine XS.icmpNo X14.here hx rfl (hb hby at_115) rfl (tlt hc115_29).2.1 ?_
            show Steps p.tables e below (T14.setTop (mkF m 118 #[.val (.int p0), .val (.long q1), .second, .val (.long q2), .second, .val (.int p3), .val (.int ps), .val (.int (0 : Int32)), .val (.int (0 : Int32)), .val (.int ot), .val (.ref b10), .val .null, .unset] [])) _
            refine XS.lloadN X14.here hx rfl (hb hby at_118) rfl ?_
            show Steps p.tables e below (T14.setTop (mkF m 119 #[.val (.int p0), .val (.long q1), .second, .val (.long q2), .second, .val (.int p3), .val (.int ps), .val (.int (0 : Int32)), .val (.int (0 : Int32)), .val (.int ot), .val (.ref b10), .val .null, .unset] [(.long q2)])) _
            refine XS.iload X14.here hx rfl (hb hby at_119) rfl ?_
            show Steps p.tables e below (T14.setTop (mkF m 121 #[.val (.int p0), .val (.long q1), .second, .val (.long q2), .second, .val (.int p3), .val (.int ps), .val (.int (0 : Int32)), .val (.int (0 : Int32)), .val (.int ot), .val (.ref b10), .val .null, .unset] [(.int ps), (.long q2)])) _
            refine XS.bipush X14.here hx rfl (hb hby at_121) ?_
            show Steps p.tables e below (T14.setTop (mkF m 123 #[.val (.int p0), .val (.long q1), .second, .val (.long q2), .second, .val (.int p3), .val (.int ps), .val (.int (0 : Int32)), .val (.int (0 : Int32)), .val (.int ot), .val (.ref b10), .val .null, .unset] [(.int (64 : Int32)), (.int ps), (.long q2)])) _
            refine XS.isub X14.here hx rfl (hb hby at_123) rfl ?_
            show Steps p.tables e below (T14.setTop (mkF m 124 #[.val (.int p0), .val (.long q1), .second, .val (.long q2), .second, .val (.int p3), .val (.int ps), .val (.int (0 : Int32)), .val (.int (0 : Int32)), .val (.int ot), .val (.ref b10), .val .null, .unset] [(.int (ps - (64 : Int32))), (.long q2)])) _
            refine XS.lushr X14.here hx rfl (hb hby at_124) rfl ?_
            show Steps p.tables e below (T14.setTop (mkF m 125 #[.val (.int p0), .val (.long q1), .second, .val (.long q2), .second, .val (.int p3), .val (.int ps), .val (.int (0 : Int32)), .val (.int (0 : Int32)), .val (.int ot), .val (.ref b10), .val .null, .unset] [(.long ((q2.toUInt64 >>> ((ps - (64 : Int32)) &&& 0x3f).toInt64.toUInt64).toInt64))])) _
            refine XS.lconst X14.here hx rfl (hb hby at_125) ?_
            show Steps p.tables e below (T14.setTop (mkF m 126 #[.val (.int p0), .val (.long q1), .second, .val (.long q2), .second, .val (.int p3), .val (.int ps), .val (.int (0 : Int32)), .val (.int (0 : Int32)), .val (.int ot), .val (.ref b10), .val .null, .unset] [(.long (1 : Int64)), (.long ((q2.toUInt64 >>> ((ps - (64 : Int32)) &&& 0x3f).toInt64.toUInt64).toInt64))])) _
            refine XS.land X14.here hx rfl (hb hby at_126) rfl ?_
            show Steps p.tables e below (T14.setTop (mkF m 127 #[.val (.int p0), .val (.long q1), .second, .val (.long q2), .second, .val (.int p3), .val (.int ps), .val (.int (0 : Int32)), .val (.int (0 : Int32)), .val (.int ot), .val (.ref b10), .val .null, .unset] [(.long (((q2.toUInt64 >>> ((ps - (64 : Int32)) &&& 0x3f).toInt64.toUInt64).toInt64) &&& (1 : Int64)))])) _
            refine XS.lconst X14.here hx rfl (hb hby at_127) ?_
            show Steps p.tables e below (T14.setTop (mkF m 128 #[.val (.int p0), .val (.long q1), .second, .val (.long q2), .second, .val (.int p3), .val (.int ps), .val (.int (0 : Int32)), .val (.int (0 : Int32)), .val (.int ot), .val (.ref b10), .val .null, .unset] [(.long (1 : Int64)), (.long (((q2.toUInt64 >>> ((ps - (64 : Int32)) &&& 0x3f).toInt64.toUInt64).toInt64) &&& (1 : Int64)))])) _
            refine XS.lcmp X14.here hx rfl (hb hby at_128) rfl ?_
            exact kt)
          by_cases hc129_31 : (((q2.toUInt64 >>> ((ps - (64 : Int32)) &&& 0x3f).toInt64.toUInt64).toInt64) &&& (1 : Int64)) = (1 : Int64)
          · have pre32 : ∀ t, Steps p.tables e below (T14.setTop (mkF m 172 #[.val (.int p0), .val (.long q1), .second, .val (.long q2), .second, .val (.int p3), .val (.int ps), .val (.int (0 : Int32)), .val (.int (0 : Int32)), .val (.int ot), .val (.ref b10), .val .null, .val (.int (1 : Int32))] [.null, (.long q2), (.long q1), (.int ps)])) t → Steps p.tables e below (s₁.setTop (entryFrame m #[(.int p0), (.long q1), (.long q2), (.int p3)] maxLocals)) t := fun t kt => pre30 t (by
              show Steps p.tables e below (T14.setTop (mkF m 129 #[.val (.int p0), .val (.long q1), .second, .val (.long q2), .second, .val (.int p3), .val (.int ps), .val (.int (0 : Int32)), .val (.int (0 : Int32)), .val (.int ot), .val (.ref b10), .val .null, .unset] [(.int (lcmpW (((q2.toUInt64 >>> ((ps - (64 : Int32)) &&& 0x3f).toInt64.toUInt64).toInt64) &&& (1 : Int64)) (1 : Int64)))])) _
              refine XS.ifNo X14.here hx rfl (hb hby at_129) rfl (Jvm.Free.XT.ll_ne_f hc129_31) ?_
              show Steps p.tables e below (T14.setTop (mkF m 132 #[.val (.int p0), .val (.long q1), .second, .val (.long q2), .second, .val (.int p3), .val (.int ps), .val (.int (0 : Int32)), .val (.int (0 : Int32)), .val (.int ot), .val (.ref b10), .val .null, .unset] [])) _
              refine XS.iconst X14.here hx rfl (hb hby at_132) ?_
              show Steps p.tables e below (T14.setTop (mkF m 133 #[.val (.int p0), .val (.long q1), .second, .val (.long q2), .second, .val (.int p3), .val (.int ps), .val (.int (0 : Int32)), .val (.int (0 : Int32)), .val (.int ot), .val (.ref b10), .val .null, .unset] [(.int (1 : Int32))])) _
              refine XS.goto X14.here hx rfl (pc0 := 133) (pc' := 137) rfl (hb hby at_133) (by decide) (by decide) ?_
              show Steps p.tables e below (T14.setTop (mkF m 137 #[.val (.int p0), .val (.long q1), .second, .val (.long q2), .second, .val (.int p3), .val (.int ps), .val (.int (0 : Int32)), .val (.int (0 : Int32)), .val (.int ot), .val (.ref b10), .val .null, .unset] [(.int (1 : Int32))])) _
              refine XS.istore X14.here hx rfl (hb hby at_137) rfl (l' := #[.val (.int p0), .val (.long q1), .second, .val (.long q2), .second, .val (.int p3), .val (.int ps), .val (.int (0 : Int32)), .val (.int (0 : Int32)), .val (.int ot), .val (.ref b10), .val .null, .val (.int (1 : Int32))]) rfl ?_
              show Steps p.tables e below (T14.setTop (mkF m 139 #[.val (.int p0), .val (.long q1), .second, .val (.long q2), .second, .val (.int p3), .val (.int ps), .val (.int (0 : Int32)), .val (.int (0 : Int32)), .val (.int ot), .val (.ref b10), .val .null, .val (.int (1 : Int32))] [])) _
              refine XS.goto X14.here hx rfl (pc0 := 139) (pc' := 166) rfl (hb hby at_139) (by decide) (by decide) ?_
              show Steps p.tables e below (T14.setTop (mkF m 166 #[.val (.int p0), .val (.long q1), .second, .val (.long q2), .second, .val (.int p3), .val (.int ps), .val (.int (0 : Int32)), .val (.int (0 : Int32)), .val (.int ot), .val (.ref b10), .val .null, .val (.int (1 : Int32))] [])) _
              refine XS.iload X14.here hx rfl (hb hby at_166) rfl ?_
              show Steps p.tables e below (T14.setTop (mkF m 168 #[.val (.int p0), .val (.long q1), .second, .val (.long q2), .second, .val (.int p3), .val (.int ps), .val (.int (0 : Int32)), .val (.int (0 : Int32)), .val (.int ot), .val (.ref b10), .val .null, .val (.int (1 : Int32))] [(.int ps)])) _
              refine XS.lloadN X14.here hx rfl (hb hby at_168) rfl ?_
              show Steps p.tables e below (T14.setTop (mkF m 169 #[.val (.int p0), .val (.long q1), .second, .val (.long q2), .second, .val (.int p3), .val (.int ps), .val (.int (0 : Int32)), .val (.int (0 : Int32)), .val (.int ot), .val (.ref b10), .val .null, .val (.int (1 : Int32))] [(.long q1), (.int ps)])) _
              refine XS.lloadN X14.here hx rfl (hb hby at_169) rfl ?_
              show Steps p.tables e below (T14.setTop (mkF m 170 #[.val (.int p0), .val (.long q1), .second, .val (.long q2), .second, .val (.int p3), .val (.int ps), .val (.int (0 : Int32)), .val (.int (0 : Int32)), .val (.int ot), .val (.ref b10), .val .null, .val (.int (1 : Int32))] [(.long q2), (.long q1), (.int ps)])) _
              refine XS.aload X14.here hx rfl (hb hby at_170) rfl rfl ?_
              exact kt)
            obtain ⟨_, _, ⟨T33, L33, k33, n33⟩, -, X33, ⟨Lc33, hQ33, l33, y33, z33⟩, st33⟩ := Jvm.LawKit.callS X14 hx (y := (⟨"com/example/baton/baton/support/Skipped", "contains", "(IJJ[Z)Z"⟩ : MethodName)) hown (mvT hZ (hw _ (List.mem_of_getElem? (i := 1) rfl))) (mvT hZ (hw _ (List.mem_of_getElem? (i := 2) rfl))) (mvT hZ (hw _ (List.mem_of_getElem? (i := 3) rfl))) (mvT hZ (hw _ (List.mem_of_getElem? (i := 4) rfl))) (by decide) (backOf (W := 0) (rm1n l Z av hw [] ps q1 q2  h14 n0 Z14 ) hZ (hw _ (List.mem_of_getElem? (i := 4) rfl)) (hw _ (List.mem_of_getElem? (i := 3) rfl)) (by decide) (by decide)) (g := (mkF m 172 #[.val (.int p0), .val (.long q1), .second, .val (.long q2), .second, .val (.int p3), .val (.int ps), .val (.int (0 : Int32)), .val (.int (0 : Int32)), .val (.int ot), .val (.ref b10), .val .null, .val (.int (1 : Int32))] [.null, (.long q2), (.long q1), (.int ps)])) rfl (by rw [hml]; rfl) (argsL := [(.int ps), (.long q1), (.long q2), .null]) (rest := []) (lenOf pd__IJJ_Z_Z rfl) rfl (by show 2 * 0 + _ ≤ _; exact Nat.le_of_eq rfl) (hb hby at_172) (fun _ _ => ⟨rfl, e14, (by decide : 1 + 0 ≤ _), (by decide : 256 + 0 ≤ _)⟩)
            dsimp only [Pt.U, Pt.locs, Pt.cells, Pt.slots] at X33 l33 y33 z33 st33 hQ33
            subst l33 y33 z33
            obtain ⟨rfl, N33q, e33⟩ := hQ33
            have N33 := Fr.app N14 N33q
            have pre34 : ∀ t, Steps p.tables e below (T33.setTop (mkF m 175 #[.val (.int p0), .val (.long q1), .second, .val (.long q2), .second, .val (.int p3), .val (.int ps), .val (.int (0 : Int32)), .val (.int (0 : Int32)), .val (.int ot), .val (.ref b10), .val .null, .val (.int (1 : Int32))] [(.int (f_cn ps q1 q2))])) t → Steps p.tables e below (s₁.setTop (entryFrame m #[(.int p0), (.long q1), (.long q2), (.int p3)] maxLocals)) t := fun t kt => pre32 t (st33 _ kt)
            have pre35 : ∀ t, Steps p.tables e below (T33.setTop (mkF m 185 #[.val (.int p0), .val (.long q1), .second, .val (.long q2), .second, .val (.int p3), .val (.int ps), .val (.int (0 : Int32)), .val (.int (0 : Int32)), .val (.int ot), .val (.ref b10), .val .null, .val (.int (1 : Int32))] [(.int (1 : Int32))])) t → Steps p.tables e below (s₁.setTop (entryFrame m #[(.int p0), (.long q1), (.long q2), (.int p3)] maxLocals)) t := fun t kt => pre34 t (by
              show Steps p.tables e below (T33.setTop (mkF m 175 #[.val (.int p0), .val (.long q1), .second, .val (.long q2), .second, .val (.int p3), .val (.int ps), .val (.int (0 : Int32)), .val (.int (0 : Int32)), .val (.int ot), .val (.ref b10), .val .null, .val (.int (1 : Int32))] [(.int (f_cn ps q1 q2))])) _
              refine XS.iload X33.here hx rfl (hb hby at_175) rfl ?_
              show Steps p.tables e below (T33.setTop (mkF m 177 #[.val (.int p0), .val (.long q1), .second, .val (.long q2), .second, .val (.int p3), .val (.int ps), .val (.int (0 : Int32)), .val (.int (0 : Int32)), .val (.int ot), .val (.ref b10), .val .null, .val (.int (1 : Int32))] [(.int (1 : Int32)), (.int (f_cn ps q1 q2))])) _
              refine XS.icmpNo X33.here hx rfl (hb hby at_177) rfl (teq (by unfold f_cn; rw [if_neg hc86_17, if_pos hc115_29, if_neg (fun q => (own_hi ps q2 hm2 hc86_17).mp q hc129_31)] : (f_cn ps q1 q2) = (1 : Int32))).2 ?_
              show Steps p.tables e below (T33.setTop (mkF m 180 #[.val (.int p0), .val (.long q1), .second, .val (.long q2), .second, .val (.int p3), .val (.int ps), .val (.int (0 : Int32)), .val (.int (0 : Int32)), .val (.int ot), .val (.ref b10), .val .null, .val (.int (1 : Int32))] [])) _
              refine XS.iconst X33.here hx rfl (hb hby at_180) ?_
              show Steps p.tables e below (T33.setTop (mkF m 181 #[.val (.int p0), .val (.long q1), .second, .val (.long q2), .second, .val (.int p3), .val (.int ps), .val (.int (0 : Int32)), .val (.int (0 : Int32)), .val (.int ot), .val (.ref b10), .val .null, .val (.int (1 : Int32))] [(.int (1 : Int32))])) _
              refine XS.goto X33.here hx rfl (pc0 := 181) (pc' := 185) rfl (hb hby at_181) (by decide) (by decide) ?_
              exact kt)
            obtain ⟨fs, hr, hrun, hended, hW, hsame⟩ := X33.leave (v := some (.int (1 : Int32))) (fun h => by rw [Bd.returns] at h; cases h)
            refine ⟨_, _, pre35 _ ?_, hrun, hended, _, _, rfl, ?_, ⟨_, rfl⟩, hW, hsame.mono (by decide) (by decide)⟩
            · show Steps p.tables e below (T33.setTop (mkF m 185 #[.val (.int p0), .val (.long q1), .second, .val (.long q2), .second, .val (.int p3), .val (.int ps), .val (.int (0 : Int32)), .val (.int (0 : Int32)), .val (.int ot), .val (.ref b10), .val .null, .val (.int (1 : Int32))] [(.int (1 : Int32))])) _
              exact retN X33 hx (t := .boolean) Bd.returns (by simp) (hb hby at_185) hr
            · show Q0 Z p0 q1 q2 p3 h0 n0 _ T33.heap _
              rw [e33]
              exact ⟨rfl, N33⟩
          · have pre36 : ∀ t, Steps p.tables e below (T14.setTop (mkF m 172 #[.val (.int p0), .val (.long q1), .second, .val (.long q2), .second, .val (.int p3), .val (.int ps), .val (.int (0 : Int32)), .val (.int (0 : Int32)), .val (.int ot), .val (.ref b10), .val .null, .val (.int (0 : Int32))] [.null, (.long q2), (.long q1), (.int ps)])) t → Steps p.tables e below (s₁.setTop (entryFrame m #[(.int p0), (.long q1), (.long q2), (.int p3)] maxLocals)) t := fun t kt => pre30 t (by
              show Steps p.tables e below (T14.setTop (mkF m 129 #[.val (.int p0), .val (.long q1), .second, .val (.long q2), .second, .val (.int p3), .val (.int ps), .val (.int (0 : Int32)), .val (.int (0 : Int32)), .val (.int ot), .val (.ref b10), .val .null, .unset] [(.int (lcmpW (((q2.toUInt64 >>> ((ps - (64 : Int32)) &&& 0x3f).toInt64.toUInt64).toInt64) &&& (1 : Int64)) (1 : Int64)))])) _
              refine XS.ifYes X14.here hx rfl (pc0 := 129) (pc' := 136) rfl (hb hby at_129) rfl (Jvm.Free.XT.ll_ne_t hc129_31) (by decide) (by decide) ?_
              show Steps p.tables e below (T14.setTop (mkF m 136 #[.val (.int p0), .val (.long q1), .second, .val (.long q2), .second, .val (.int p3), .val (.int ps), .val (.int (0 : Int32)), .val (.int (0 : Int32)), .val (.int ot), .val (.ref b10), .val .null, .unset] [])) _
              refine XS.iconst X14.here hx rfl (hb hby at_136) ?_
              show Steps p.tables e below (T14.setTop (mkF m 137 #[.val (.int p0), .val (.long q1), .second, .val (.long q2), .second, .val (.int p3), .val (.int ps), .val (.int (0 : Int32)), .val (.int (0 : Int32)), .val (.int ot), .val (.ref b10), .val .null, .unset] [(.int (0 : Int32))])) _
              refine XS.istore X14.here hx rfl (hb hby at_137) rfl (l' := #[.val (.int p0), .val (.long q1), .second, .val (.long q2), .second, .val (.int p3), .val (.int ps), .val (.int (0 : Int32)), .val (.int (0 : Int32)), .val (.int ot), .val (.ref b10), .val .null, .val (.int (0 : Int32))]) rfl ?_
              show Steps p.tables e below (T14.setTop (mkF m 139 #[.val (.int p0), .val (.long q1), .second, .val (.long q2), .second, .val (.int p3), .val (.int ps), .val (.int (0 : Int32)), .val (.int (0 : Int32)), .val (.int ot), .val (.ref b10), .val .null, .val (.int (0 : Int32))] [])) _
              refine XS.goto X14.here hx rfl (pc0 := 139) (pc' := 166) rfl (hb hby at_139) (by decide) (by decide) ?_
              show Steps p.tables e below (T14.setTop (mkF m 166 #[.val (.int p0), .val (.long q1), .second, .val (.long q2), .second, .val (.int p3), .val (.int ps), .val (.int (0 : Int32)), .val (.int (0 : Int32)), .val (.int ot), .val (.ref b10), .val .null, .val (.int (0 : Int32))] [])) _
              refine XS.iload X14.here hx rfl (hb hby at_166) rfl ?_
              show Steps p.tables e below (T14.setTop (mkF m 168 #[.val (.int p0), .val (.long q1), .second, .val (.long q2), .second, .val (.int p3), .val (.int ps), .val (.int (0 : Int32)), .val (.int (0 : Int32)), .val (.int ot), .val (.ref b10), .val .null, .val (.int (0 : Int32))] [(.int ps)])) _
              refine XS.lloadN X14.here hx rfl (hb hby at_168) rfl ?_
              show Steps p.tables e below (T14.setTop (mkF m 169 #[.val (.int p0), .val (.long q1), .second, .val (.long q2), .second, .val (.int p3), .val (.int ps), .val (.int (0 : Int32)), .val (.int (0 : Int32)), .val (.int ot), .val (.ref b10), .val .null, .val (.int (0 : Int32))] [(.long q1), (.int ps)])) _
              refine XS.lloadN X14.here hx rfl (hb hby at_169) rfl ?_
              show Steps p.tables e below (T14.setTop (mkF m 170 #[.val (.int p0), .val (.long q1), .second, .val (.long q2), .second, .val (.int p3), .val (.int ps), .val (.int (0 : Int32)), .val (.int (0 : Int32)), .val (.int ot), .val (.ref b10), .val .null, .val (.int (0 : Int32))] [(.long q2), (.long q1), (.int ps)])) _
              refine XS.aload X14.here hx rfl (hb hby at_170) rfl rfl ?_
              exact kt)
            obtain ⟨_, _, ⟨T37, L37, k37, n37⟩, -, X37, ⟨Lc37, hQ37, l37, y37, z37⟩, st37⟩ := Jvm.LawKit.callS X14 hx (y := (⟨"com/example/baton/baton/support/Skipped", "contains", "(IJJ[Z)Z"⟩ : MethodName)) hown (mvT hZ (hw _ (List.mem_of_getElem? (i := 1) rfl))) (mvT hZ (hw _ (List.mem_of_getElem? (i := 2) rfl))) (mvT hZ (hw _ (List.mem_of_getElem? (i := 3) rfl))) (mvT hZ (hw _ (List.mem_of_getElem? (i := 4) rfl))) (by decide) (backOf (W := 0) (rm1n l Z av hw [] ps q1 q2  h14 n0 Z14 ) hZ (hw _ (List.mem_of_getElem? (i := 4) rfl)) (hw _ (List.mem_of_getElem? (i := 3) rfl)) (by decide) (by decide)) (g := (mkF m 172 #[.val (.int p0), .val (.long q1), .second, .val (.long q2), .second, .val (.int p3), .val (.int ps), .val (.int (0 : Int32)), .val (.int (0 : Int32)), .val (.int ot), .val (.ref b10), .val .null, .val (.int (0 : Int32))] [.null, (.long q2), (.long q1), (.int ps)])) rfl (by rw [hml]; rfl) (argsL := [(.int ps), (.long q1), (.long q2), .null]) (rest := []) (lenOf pd__IJJ_Z_Z rfl) rfl (by show 2 * 0 + _ ≤ _; exact Nat.le_of_eq rfl) (hb hby at_172) (fun _ _ => ⟨rfl, e14, (by decide : 1 + 0 ≤ _), (by decide : 256 + 0 ≤ _)⟩)
            dsimp only [Pt.U, Pt.locs, Pt.cells, Pt.slots] at X37 l37 y37 z37 st37 hQ37
            subst l37 y37 z37
            obtain ⟨rfl, N37q, e37⟩ := hQ37
            have N37 := Fr.app N14 N37q
            have pre38 : ∀ t, Steps p.tables e below (T37.setTop (mkF m 175 #[.val (.int p0), .val (.long q1), .second, .val (.long q2), .second, .val (.int p3), .val (.int ps), .val (.int (0 : Int32)), .val (.int (0 : Int32)), .val (.int ot), .val (.ref b10), .val .null, .val (.int (0 : Int32))] [(.int (f_cn ps q1 q2))])) t → Steps p.tables e below (s₁.setTop (entryFrame m #[(.int p0), (.long q1), (.long q2), (.int p3)] maxLocals)) t := fun t kt => pre36 t (st37 _ kt)
            have pre39 : ∀ t, Steps p.tables e below (T37.setTop (mkF m 185 #[.val (.int p0), .val (.long q1), .second, .val (.long q2), .second, .val (.int p3), .val (.int ps), .val (.int (0 : Int32)), .val (.int (0 : Int32)), .val (.int ot), .val (.ref b10), .val .null, .val (.int (0 : Int32))] [(.int (1 : Int32))])) t → Steps p.tables e below (s₁.setTop (entryFrame m #[(.int p0), (.long q1), (.long q2), (.int p3)] maxLocals)) t := fun t kt => pre38 t (by
              show Steps p.tables e below (T37.setTop (mkF m 175 #[.val (.int p0), .val (.long q1), .second, .val (.long q2), .second, .val (.int p3), .val (.int ps), .val (.int (0 : Int32)), .val (.int (0 : Int32)), .val (.int ot), .val (.ref b10), .val .null, .val (.int (0 : Int32))] [(.int (f_cn ps q1 q2))])) _
              refine XS.iload X37.here hx rfl (hb hby at_175) rfl ?_
              show Steps p.tables e below (T37.setTop (mkF m 177 #[.val (.int p0), .val (.long q1), .second, .val (.long q2), .second, .val (.int p3), .val (.int ps), .val (.int (0 : Int32)), .val (.int (0 : Int32)), .val (.int ot), .val (.ref b10), .val .null, .val (.int (0 : Int32))] [(.int (0 : Int32)), (.int (f_cn ps q1 q2))])) _
              refine XS.icmpNo X37.here hx rfl (hb hby at_177) rfl (teq (by unfold f_cn; rw [if_neg hc86_17, if_pos hc115_29, if_pos ((own_hi ps q2 hm2 hc86_17).mpr hc129_31)] : (f_cn ps q1 q2) = (0 : Int32))).2 ?_
              show Steps p.tables e below (T37.setTop (mkF m 180 #[.val (.int p0), .val (.long q1), .second, .val (.long q2), .second, .val (.int p3), .val (.int ps), .val (.int (0 : Int32)), .val (.int (0 : Int32)), .val (.int ot), .val (.ref b10), .val .null, .val (.int (0 : Int32))] [])) _
              refine XS.iconst X37.here hx rfl (hb hby at_180) ?_
              show Steps p.tables e below (T37.setTop (mkF m 181 #[.val (.int p0), .val (.long q1), .second, .val (.long q2), .second, .val (.int p3), .val (.int ps), .val (.int (0 : Int32)), .val (.int (0 : Int32)), .val (.int ot), .val (.ref b10), .val .null, .val (.int (0 : Int32))] [(.int (1 : Int32))])) _
              refine XS.goto X37.here hx rfl (pc0 := 181) (pc' := 185) rfl (hb hby at_181) (by decide) (by decide) ?_
              exact kt)
            obtain ⟨fs, hr, hrun, hended, hW, hsame⟩ := X37.leave (v := some (.int (1 : Int32))) (fun h => by rw [Bd.returns] at h; cases h)
            refine ⟨_, _, pre39 _ ?_, hrun, hended, _, _, rfl, ?_, ⟨_, rfl⟩, hW, hsame.mono (by decide) (by decide)⟩
            · show Steps p.tables e below (T37.setTop (mkF m 185 #[.val (.int p0), .val (.long q1), .second, .val (.long q2), .second, .val (.int p3), .val (.int ps), .val (.int (0 : Int32)), .val (.int (0 : Int32)), .val (.int ot), .val (.ref b10), .val .null, .val (.int (0 : Int32))] [(.int (1 : Int32))])) _
              exact retN X37 hx (t := .boolean) Bd.returns (by simp) (hb hby at_185) hr
            · show Q0 Z p0 q1 q2 p3 h0 n0 _ T37.heap _
              rw [e37]
              exact ⟨rfl, N37⟩
        · have pre40 : ∀ t, Steps p.tables e below (T14.setTop (mkF m 172 #[.val (.int p0), .val (.long q1), .second, .val (.long q2), .second, .val (.int p3), .val (.int ps), .val (.int (0 : Int32)), .val (.int (0 : Int32)), .val (.int ot), .val (.ref b10), .val .null, .val (.int (0 : Int32))] [.null, (.long q2), (.long q1), (.int ps)])) t → Steps p.tables e below (s₁.setTop (entryFrame m #[(.int p0), (.long q1), (.long q2), (.int p3)] maxLocals)) t := fun t kt => pre28 t (by
            show Steps p.tables e below (T14.setTop (mkF m 115 #[.val (.int p0), .val (.long q1), .second, .val (.long q2), .second, .val (.int p3), .val (.int ps), .val (.int (0 : Int32)), .val (.int (0 : Int32)), .val (.int ot), .val (.ref b10), .val .null, .unset] [(.int (128 : Int32)), (.int ps)])) _
            refine XS.icmpYes X14.here hx rfl (pc0 := 115) (pc' := 142) rfl (hb hby at_115) rfl (flt hc115_29).2.1 (by decide) (by decide) ?_
            show Steps p.tables e below (T14.setTop (mkF m 142 #[.val (.int p0), .val (.long q1), .second, .val (.long q2), .second, .val (.int p3), .val (.int ps), .val (.int (0 : Int32)), .val (.int (0 : Int32)), .val (.int ot), .val (.ref b10), .val .null, .unset] [])) _
            refine XS.iload X14.here hx rfl (hb hby at_142) rfl ?_
            show Steps p.tables e below (T14.setTop (mkF m 144 #[.val (.int p0), .val (.long q1), .second, .val (.long q2), .second, .val (.int p3), .val (.int ps), .val (.int (0 : Int32)), .val (.int (0 : Int32)), .val (.int ot), .val (.ref b10), .val .null, .unset] [(.int (0 : Int32))])) _
            refine XS.ifYes X14.here hx rfl (pc0 := 144) (pc' := 163) rfl (hb hby at_144) rfl ((if0 _ _).trans (teq (by decide : (0 : Int32) = (0 : Int32))).1) (by decide) (by decide) ?_
            show Steps p.tables e below (T14.setTop (mkF m 163 #[.val (.int p0), .val (.long q1), .second, .val (.long q2), .second, .val (.int p3), .val (.int ps), .val (.int (0 : Int32)), .val (.int (0 : Int32)), .val (.int ot), .val (.ref b10), .val .null, .unset] [])) _
            refine XS.iconst X14.here hx rfl (hb hby at_163) ?_
            show Steps p.tables e below (T14.setTop (mkF m 164 #[.val (.int p0), .val (.long q1), .second, .val (.long q2), .second, .val (.int p3), .val (.int ps), .val (.int (0 : Int32)), .val (.int (0 : Int32)), .val (.int ot), .val (.ref b10), .val .null, .unset] [(.int (0 : Int32))])) _
            refine XS.istore X14.here hx rfl (hb hby at_164) rfl (l' := #[.val (.int p0), .val (.long q1), .second, .val (.long q2), .second, .val (.int p3), .val (.int ps), .val (.int (0 : Int32)), .val (.int (0 : Int32)), .val (.int ot), .val (.ref b10), .val .null, .val (.int (0 : Int32))]) rfl ?_
            show Steps p.tables e below (T14.setTop (mkF m 166 #[.val (.int p0), .val (.long q1), .second, .val (.long q2), .second, .val (.int p3), .val (.int ps), .val (.int (0 : Int32)), .val (.int (0 : Int32)), .val (.int ot), .val (.ref b10), .val .null, .val (.int (0 : Int32))] [])) _
            refine XS.iload X14.here hx rfl (hb hby at_166) rfl ?_
            show Steps p.tables e below (T14.setTop (mkF m 168 #[.val (.int p0), .val (.long q1), .second, .val (.long q2), .second, .val (.int p3), .val (.int ps), .val (.int (0 : Int32)), .val (.int (0 : Int32)), .val (.int ot), .val (.ref b10), .val .null, .val (.int (0 : Int32))] [(.int ps)])) _
            refine XS.lloadN X14.here hx rfl (hb hby at_168) rfl ?_
            show Steps p.tables e below (T14.setTop (mkF m 169 #[.val (.int p0), .val (.long q1), .second, .val (.long q2), .second, .val (.int p3), .val (.int ps), .val (.int (0 : Int32)), .val (.int (0 : Int32)), .val (.int ot), .val (.ref b10), .val .null, .val (.int (0 : Int32))] [(.long q1), (.int ps)])) _
            refine XS.lloadN X14.here hx rfl (hb hby at_169) rfl ?_
            show Steps p.tables e below (T14.setTop (mkF m 170 #[.val (.int p0), .val (.long q1), .second, .val (.long q2), .second, .val (.int p3), .val (.int ps), .val (.int (0 : Int32)), .val (.int (0 : Int32)), .val (.int ot), .val (.ref b10), .val .null, .val (.int (0 : Int32))] [(.long q2), (.long q1), (.int ps)])) _
            refine XS.aload X14.here hx rfl (hb hby at_170) rfl rfl ?_
            exact kt)
          obtain ⟨_, _, ⟨T41, L41, k41, n41⟩, -, X41, ⟨Lc41, hQ41, l41, y41, z41⟩, st41⟩ := Jvm.LawKit.callS X14 hx (y := (⟨"com/example/baton/baton/support/Skipped", "contains", "(IJJ[Z)Z"⟩ : MethodName)) hown (mvT hZ (hw _ (List.mem_of_getElem? (i := 1) rfl))) (mvT hZ (hw _ (List.mem_of_getElem? (i := 2) rfl))) (mvT hZ (hw _ (List.mem_of_getElem? (i := 3) rfl))) (mvT hZ (hw _ (List.mem_of_getElem? (i := 4) rfl))) (by decide) (backOf (W := 0) (rm1n l Z av hw [] ps q1 q2  h14 n0 Z14 ) hZ (hw _ (List.mem_of_getElem? (i := 4) rfl)) (hw _ (List.mem_of_getElem? (i := 3) rfl)) (by decide) (by decide)) (g := (mkF m 172 #[.val (.int p0), .val (.long q1), .second, .val (.long q2), .second, .val (.int p3), .val (.int ps), .val (.int (0 : Int32)), .val (.int (0 : Int32)), .val (.int ot), .val (.ref b10), .val .null, .val (.int (0 : Int32))] [.null, (.long q2), (.long q1), (.int ps)])) rfl (by rw [hml]; rfl) (argsL := [(.int ps), (.long q1), (.long q2), .null]) (rest := []) (lenOf pd__IJJ_Z_Z rfl) rfl (by show 2 * 0 + _ ≤ _; exact Nat.le_of_eq rfl) (hb hby at_172) (fun _ _ => ⟨rfl, e14, (by decide : 1 + 0 ≤ _), (by decide : 256 + 0 ≤ _)⟩)
          dsimp only [Pt.U, Pt.locs, Pt.cells, Pt.slots] at X41 l41 y41 z41 st41 hQ41
          subst l41 y41 z41
          obtain ⟨rfl, N41q, e41⟩ := hQ41
          have N41 := Fr.app N14 N41q
          have pre42 : ∀ t, Steps p.tables e below (T41.setTop (mkF m 175 #[.val (.int p0), .val (.long q1), .second, .val (.long q2), .second, .val (.int p3), .val (.int ps), .val (.int (0 : Int32)), .val (.int (0 : Int32)), .val (.int ot), .val (.ref b10), .val .null, .val (.int (0 : Int32))] [(.int (f_cn ps q1 q2))])) t → Steps p.tables e below (s₁.setTop (entryFrame m #[(.int p0), (.long q1), (.long q2), (.int p3)] maxLocals)) t := fun t kt => pre40 t (st41 _ kt)
          have pre43 : ∀ t, Steps p.tables e below (T41.setTop (mkF m 185 #[.val (.int p0), .val (.long q1), .second, .val (.long q2), .second, .val (.int p3), .val (.int ps), .val (.int (0 : Int32)), .val (.int (0 : Int32)), .val (.int ot), .val (.ref b10), .val .null, .val (.int (0 : Int32))] [(.int (1 : Int32))])) t → Steps p.tables e below (s₁.setTop (entryFrame m #[(.int p0), (.long q1), (.long q2), (.int p3)] maxLocals)) t := fun t kt => pre42 t (by
            show Steps p.tables e below (T41.setTop (mkF m 175 #[.val (.int p0), .val (.long q1), .second, .val (.long q2), .second, .val (.int p3), .val (.int ps), .val (.int (0 : Int32)), .val (.int (0 : Int32)), .val (.int ot), .val (.ref b10), .val .null, .val (.int (0 : Int32))] [(.int (f_cn ps q1 q2))])) _
            refine XS.iload X41.here hx rfl (hb hby at_175) rfl ?_
            show Steps p.tables e below (T41.setTop (mkF m 177 #[.val (.int p0), .val (.long q1), .second, .val (.long q2), .second, .val (.int p3), .val (.int ps), .val (.int (0 : Int32)), .val (.int (0 : Int32)), .val (.int ot), .val (.ref b10), .val .null, .val (.int (0 : Int32))] [(.int (0 : Int32)), (.int (f_cn ps q1 q2))])) _
            refine XS.icmpNo X41.here hx rfl (hb hby at_177) rfl (teq (by unfold f_cn; rw [if_neg hc86_17, if_neg hc115_29] : (f_cn ps q1 q2) = (0 : Int32))).2 ?_
            show Steps p.tables e below (T41.setTop (mkF m 180 #[.val (.int p0), .val (.long q1), .second, .val (.long q2), .second, .val (.int p3), .val (.int ps), .val (.int (0 : Int32)), .val (.int (0 : Int32)), .val (.int ot), .val (.ref b10), .val .null, .val (.int (0 : Int32))] [])) _
            refine XS.iconst X41.here hx rfl (hb hby at_180) ?_
            show Steps p.tables e below (T41.setTop (mkF m 181 #[.val (.int p0), .val (.long q1), .second, .val (.long q2), .second, .val (.int p3), .val (.int ps), .val (.int (0 : Int32)), .val (.int (0 : Int32)), .val (.int ot), .val (.ref b10), .val .null, .val (.int (0 : Int32))] [(.int (1 : Int32))])) _
            refine XS.goto X41.here hx rfl (pc0 := 181) (pc' := 185) rfl (hb hby at_181) (by decide) (by decide) ?_
            exact kt)
          obtain ⟨fs, hr, hrun, hended, hW, hsame⟩ := X41.leave (v := some (.int (1 : Int32))) (fun h => by rw [Bd.returns] at h; cases h)
          refine ⟨_, _, pre43 _ ?_, hrun, hended, _, _, rfl, ?_, ⟨_, rfl⟩, hW, hsame.mono (by decide) (by decide)⟩
          · show Steps p.tables e below (T41.setTop (mkF m 185 #[.val (.int p0), .val (.long q1), .second, .val (.long q2), .second, .val (.int p3), .val (.int ps), .val (.int (0 : Int32)), .val (.int (0 : Int32)), .val (.int ot), .val (.ref b10), .val .null, .val (.int (0 : Int32))] [(.int (1 : Int32))])) _
            exact retN X41 hx (t := .boolean) Bd.returns (by simp) (hb hby at_185) hr
          · show Q0 Z p0 q1 q2 p3 h0 n0 _ T41.heap _
            rw [e41]
            exact ⟨rfl, N41⟩
    · have pre44 : ∀ t, Steps p.tables e below (s₁.setTop (mkF m 45 #[.val (.int p0), .val (.long q1), .second, .val (.long q2), .second, .val (.int p3), .val (.int ps), .val (.int (0 : Int32)), .val (.int (1 : Int32)), .val (.int (((p3.toUInt32 >>> ((2 : Int32) &&& 31).toUInt32).toInt32) &&& (255 : Int32))), .unset, .unset, .unset] [])) t → Steps p.tables e below (s₁.setTop (entryFrame m #[(.int p0), (.long q1), (.long q2), (.int p3)] maxLocals)) t := fun t kt => pre5 t (by
        show Steps p.tables e below (s₁.setTop (mkF m 25 #[.val (.int p0), .val (.long q1), .second, .val (.long q2), .second, .val (.int p3), .val (.int ps), .val (.int (0 : Int32)), .unset, .unset, .unset, .unset, .unset] [(.int (p3 &&& (2 : Int32)))])) _
        refine XS.ifNo X0.here hx rfl (hb hby at_25) rfl ((if0 _ _).trans (feq hc25_6).1) ?_
        show Steps p.tables e below (s₁.setTop (mkF m 28 #[.val (.int p0), .val (.long q1), .second, .val (.long q2), .second, .val (.int p3), .val (.int ps), .val (.int (0 : Int32)), .unset, .unset, .unset, .unset, .unset] [])) _
        refine XS.iconst X0.here hx rfl (hb hby at_28) ?_
        show Steps p.tables e below (s₁.setTop (mkF m 29 #[.val (.int p0), .val (.long q1), .second, .val (.long q2), .second, .val (.int p3), .val (.int ps), .val (.int (0 : Int32)), .unset, .unset, .unset, .unset, .unset] [(.int (1 : Int32))])) _
        refine XS.goto X0.here hx rfl (pc0 := 29) (pc' := 33) rfl (hb hby at_29) (by decide) (by decide) ?_
        show Steps p.tables e below (s₁.setTop (mkF m 33 #[.val (.int p0), .val (.long q1), .second, .val (.long q2), .second, .val (.int p3), .val (.int ps), .val (.int (0 : Int32)), .unset, .unset, .unset, .unset, .unset] [(.int (1 : Int32))])) _
        refine XS.istore X0.here hx rfl (hb hby at_33) rfl (l' := #[.val (.int p0), .val (.long q1), .second, .val (.long q2), .second, .val (.int p3), .val (.int ps), .val (.int (0 : Int32)), .val (.int (1 : Int32)), .unset, .unset, .unset, .unset]) rfl ?_
        show Steps p.tables e below (s₁.setTop (mkF m 35 #[.val (.int p0), .val (.long q1), .second, .val (.long q2), .second, .val (.int p3), .val (.int ps), .val (.int (0 : Int32)), .val (.int (1 : Int32)), .unset, .unset, .unset, .unset] [])) _
        refine XS.iload X0.here hx rfl (hb hby at_35) rfl ?_
        show Steps p.tables e below (s₁.setTop (mkF m 37 #[.val (.int p0), .val (.long q1), .second, .val (.long q2), .second, .val (.int p3), .val (.int ps), .val (.int (0 : Int32)), .val (.int (1 : Int32)), .unset, .unset, .unset, .unset] [(.int p3)])) _
        refine XS.iconst X0.here hx rfl (hb hby at_37) ?_
        show Steps p.tables e below (s₁.setTop (mkF m 38 #[.val (.int p0), .val (.long q1), .second, .val (.long q2), .second, .val (.int p3), .val (.int ps), .val (.int (0 : Int32)), .val (.int (1 : Int32)), .unset, .unset, .unset, .unset] [(.int (2 : Int32)), (.int p3)])) _
        refine XS.iushr X0.here hx rfl (hb hby at_38) rfl ?_
        show Steps p.tables e below (s₁.setTop (mkF m 39 #[.val (.int p0), .val (.long q1), .second, .val (.long q2), .second, .val (.int p3), .val (.int ps), .val (.int (0 : Int32)), .val (.int (1 : Int32)), .unset, .unset, .unset, .unset] [(.int ((p3.toUInt32 >>> ((2 : Int32) &&& 31).toUInt32).toInt32))])) _
        refine XS.sipush X0.here hx rfl (hb hby at_39) ?_
        show Steps p.tables e below (s₁.setTop (mkF m 42 #[.val (.int p0), .val (.long q1), .second, .val (.long q2), .second, .val (.int p3), .val (.int ps), .val (.int (0 : Int32)), .val (.int (1 : Int32)), .unset, .unset, .unset, .unset] [(.int (255 : Int32)), (.int ((p3.toUInt32 >>> ((2 : Int32) &&& 31).toUInt32).toInt32))])) _
        refine XS.iand X0.here hx rfl (hb hby at_42) rfl ?_
        show Steps p.tables e below (s₁.setTop (mkF m 43 #[.val (.int p0), .val (.long q1), .second, .val (.long q2), .second, .val (.int p3), .val (.int ps), .val (.int (0 : Int32)), .val (.int (1 : Int32)), .unset, .unset, .unset, .unset] [(.int (((p3.toUInt32 >>> ((2 : Int32) &&& 31).toUInt32).toInt32) &&& (255 : Int32)))])) _
        refine XS.istore X0.here hx rfl (hb hby at_43) rfl (l' := #[.val (.int p0), .val (.long q1), .second, .val (.long q2), .second, .val (.int p3), .val (.int ps), .val (.int (0 : Int32)), .val (.int (1 : Int32)), .val (.int (((p3.toUInt32 >>> ((2 : Int32) &&& 31).toUInt32).toInt32) &&& (255 : Int32))), .unset, .unset, .unset]) rfl ?_
        exact kt)
      obtain ⟨ot, hm45, pre45⟩ : ∃ (ot : Int32), (¬ ot < 0 ∧ ot < (256 : Int32)) ∧ ∀ t, Steps p.tables e below (s₁.setTop (mkF m 45 #[.val (.int p0), .val (.long q1), .second, .val (.long q2), .second, .val (.int p3), .val (.int ps), .val (.int (0 : Int32)), .val (.int (1 : Int32)), .val (.int ot), .unset, .unset, .unset] [])) t → Steps p.tables e below (s₁.setTop (entryFrame m #[(.int p0), (.long q1), (.long q2), (.int p3)] maxLocals)) t := ⟨(((p3.toUInt32 >>> ((2 : Int32) &&& 31).toUInt32).toInt32) &&& (255 : Int32)), own_b8 _, pre44⟩
      have pre46 : ∀ t, Steps p.tables e below (s₁.setTop (mkF m 48 #[.val (.int p0), .val (.long q1), .second, .val (.long q2), .second, .val (.int p3), .val (.int ps), .val (.int (0 : Int32)), .val (.int (1 : Int32)), .val (.int ot), .unset, .unset, .unset] [(.int (256 : Int32))])) t → Steps p.tables e below (s₁.setTop (entryFrame m #[(.int p0), (.long q1), (.long q2), (.int p3)] maxLocals)) t := fun t kt => pre45 t (by
        show Steps p.tables e below (s₁.setTop (mkF m 45 #[.val (.int p0), .val (.long q1), .second, .val (.long q2), .second, .val (.int p3), .val (.int ps), .val (.int (0 : Int32)), .val (.int (1 : Int32)), .val (.int ot), .unset, .unset, .unset] [])) _
        refine XS.sipush X0.here hx rfl (hb hby at_45) ?_
        exact kt)
      obtain ⟨T47, h47, k47, X47, e47, E47, A47, st47⟩ := newP X0 hx hZ (hw _ (List.mem_of_getElem? (i := 0) rfl)) e0 (g := (mkF m 48 #[.val (.int p0), .val (.long q1), .second, .val (.long q2), .second, .val (.int p3), .val (.int ps), .val (.int (0 : Int32)), .val (.int (1 : Int32)), .val (.int ot), .unset, .unset, .unset] [(.int (256 : Int32))])) rfl (hb hby at_48) rfl (by decide) (cap := 256) (by decide) (by decide) (by decide) (by decide)
      obtain ⟨b47, g47⟩ : ∃ z, z = h0.size := ⟨_, rfl⟩
      rw [← g47] at A47 st47
      have pre48 : ∀ t, Steps p.tables e below (T47.setTop (mkF m 50 #[.val (.int p0), .val (.long q1), .second, .val (.long q2), .second, .val (.int p3), .val (.int ps), .val (.int (0 : Int32)), .val (.int (1 : Int32)), .val (.int ot), .unset, .unset, .unset] [(.ref b47)])) t → Steps p.tables e below (s₁.setTop (entryFrame m #[(.int p0), (.long q1), (.long q2), (.int p3)] maxLocals)) t := fun t kt => pre46 t (st47 _ kt)
      have gn47 : n0 ≤ b47 := Nat.le_trans Z0 (Nat.le_of_eq g47.symm)
      have sz47 : h0.size ≤ b47 := Nat.le_trans K0.1 (Nat.le_of_eq g47.symm)
      have K47 : Keep h0 h47 [] := K0.ext E47
      have Z47 : n0 ≤ h47.size := Nat.le_trans Z0 E47.1
      have V47 : Arh Z h47 b47 k47 .boolean (256 : Int32) [] [] (.int (0 : Int32)) := (Arv.new A47 (by decide)).arh
      have pre49 : ∀ t, Steps p.tables e below (T47.setTop (mkF m 57 #[.val (.int p0), .val (.long q1), .second, .val (.long q2), .second, .val (.int p3), .val (.int ps), .val (.int (0 : Int32)), .val (.int (1 : Int32)), .val (.int ot), .val (.ref b47), .unset, .unset] [(.int (1 : Int32)), (.int ot), (.ref b47)])) t → Steps p.tables e below (s₁.setTop (entryFrame m #[(.int p0), (.long q1), (.long q2), (.int p3)] maxLocals)) t := fun t kt => pre48 t (by
        show Steps p.tables e below (T47.setTop (mkF m 50 #[.val (.int p0), .val (.long q1), .second, .val (.long q2), .second, .val (.int p3), .val (.int ps), .val (.int (0 : Int32)), .val (.int (1 : Int32)), .val (.int ot), .unset, .unset, .unset] [(.ref b47)])) _
        refine XS.astore X47.here hx rfl (hb hby at_50) rfl rfl (l' := #[.val (.int p0), .val (.long q1), .second, .val (.long q2), .second, .val (.int p3), .val (.int ps), .val (.int (0 : Int32)), .val (.int (1 : Int32)), .val (.int ot), .val (.ref b47), .unset, .unset]) rfl ?_
        show Steps p.tables e below (T47.setTop (mkF m 52 #[.val (.int p0), .val (.long q1), .second, .val (.long q2), .second, .val (.int p3), .val (.int ps), .val (.int (0 : Int32)), .val (.int (1 : Int32)), .val (.int ot), .val (.ref b47), .unset, .unset] [])) _
        refine XS.aload X47.here hx rfl (hb hby at_52) rfl rfl ?_
        show Steps p.tables e below (T47.setTop (mkF m 54 #[.val (.int p0), .val (.long q1), .second, .val (.long q2), .second, .val (.int p3), .val (.int ps), .val (.int (0 : Int32)), .val (.int (1 : Int32)), .val (.int ot), .val (.ref b47), .unset, .unset] [(.ref b47)])) _
        refine XS.iload X47.here hx rfl (hb hby at_54) rfl ?_
        show Steps p.tables e below (T47.setTop (mkF m 56 #[.val (.int p0), .val (.long q1), .second, .val (.long q2), .second, .val (.int p3), .val (.int ps), .val (.int (0 : Int32)), .val (.int (1 : Int32)), .val (.int ot), .val (.ref b47), .unset, .unset] [(.int ot), (.ref b47)])) _
        refine XS.iconst X47.here hx rfl (hb hby at_56) ?_
        exact kt)
      have tv50 := V47
      obtain ⟨cl50, Ar50, q50, S50, Ng50, H50, G50⟩ := tv50
      have hin50 : ¬ (ot < 0 ∨ cl50.slots.size ≤ (ot).toNatClampNeg) := inb_of S50 hm45
      obtain ⟨T51, h51, X51, e51, W51, st51⟩ := stZ X47 hx hZ e47 Ar50 (j := ot) hin50 (g := (mkF m 57 #[.val (.int p0), .val (.long q1), .second, .val (.long q2), .second, .val (.int p3), .val (.int ps), .val (.int (0 : Int32)), .val (.int (1 : Int32)), .val (.int ot), .val (.ref b47), .unset, .unset] [(.int (1 : Int32)), (.int ot), (.ref b47)])) rfl rfl (hb hby at_57)
      have pre52 : ∀ t, Steps p.tables e below (T51.setTop (mkF m 58 #[.val (.int p0), .val (.long q1), .second, .val (.long q2), .second, .val (.int p3), .val (.int ps), .val (.int (0 : Int32)), .val (.int (1 : Int32)), .val (.int ot), .val (.ref b47), .unset, .unset] [])) t → Steps p.tables e below (s₁.setTop (entryFrame m #[(.int p0), (.long q1), (.long q2), (.int p3)] maxLocals)) t := fun t kt => pre49 t (st51 _ kt)
      have V51 : Arh Z h51 b47 k47 .boolean (256 : Int32) [(ot, (.int (1 : Int32)))] [] (.int (0 : Int32)) := Arh.push Ar50 q50 S50 Ng50 H50 G50 (fits_nar_bool (1 : Int32)) W51 hin50
      have K51 : Keep h0 h51 [] := K47.wr W51 (Or.inr sz47)
      have N51 := Fr.snoc X51 N0 gn47
      have Z51 : n0 ≤ h51.size := Nat.le_trans Z47 (Keep.of_wr W51).1
      have pre53 : ∀ t, Steps p.tables e below (T51.setTop (mkF m 68 #[.val (.int p0), .val (.long q1), .second, .val (.long q2), .second, .val (.int p3), .val (.int ps), .val (.int (0 : Int32)), .val (.int (1 : Int32)), .val (.int ot), .val (.ref b47), .unset, .unset] [(.int (1 : Int32)), (.int ps), (.ref b47)])) t → Steps p.tables e below (s₁.setTop (entryFrame m #[(.int p0), (.long q1), (.long q2), (.int p3)] maxLocals)) t := fun t kt => pre52 t (by
        show Steps p.tables e below (T51.setTop (mkF m 58 #[.val (.int p0), .val (.long q1), .second, .val (.long q2), .second, .val (.int p3), .val (.int ps), .val (.int (0 : Int32)), .val (.int (1 : Int32)), .val (.int ot), .val (.ref b47), .unset, .unset] [])) _
        refine XS.iload X51.here hx rfl (hb hby at_58) rfl ?_
        show Steps p.tables e below (T51.setTop (mkF m 60 #[.val (.int p0), .val (.long q1), .second, .val (.long q2), .second, .val (.int p3), .val (.int ps), .val (.int (0 : Int32)), .val (.int (1 : Int32)), .val (.int ot), .val (.ref b47), .unset, .unset] [(.int (1 : Int32))])) _
        refine XS.ifNo X51.here hx rfl (hb hby at_60) rfl ((if0 _ _).trans (feq (by decide : ¬ ((1 : Int32) = (0 : Int32)))).1) ?_
        show Steps p.tables e below (T51.setTop (mkF m 63 #[.val (.int p0), .val (.long q1), .second, .val (.long q2), .second, .val (.int p3), .val (.int ps), .val (.int (0 : Int32)), .val (.int (1 : Int32)), .val (.int ot), .val (.ref b47), .unset, .unset] [])) _
        refine XS.aload X51.here hx rfl (hb hby at_63) rfl rfl ?_
        show Steps p.tables e below (T51.setTop (mkF m 65 #[.val (.int p0), .val (.long q1), .second, .val (.long q2), .second, .val (.int p3), .val (.int ps), .val (.int (0 : Int32)), .val (.int (1 : Int32)), .val (.int ot), .val (.ref b47), .unset, .unset] [(.ref b47)])) _
        refine XS.iload X51.here hx rfl (hb hby at_65) rfl ?_
        show Steps p.tables e below (T51.setTop (mkF m 67 #[.val (.int p0), .val (.long q1), .second, .val (.long q2), .second, .val (.int p3), .val (.int ps), .val (.int (0 : Int32)), .val (.int (1 : Int32)), .val (.int ot), .val (.ref b47), .unset, .unset] [(.int ps), (.ref b47)])) _
        refine XS.iconst X51.here hx rfl (hb hby at_67) ?_
        exact kt)
      have tv54 := V51
      obtain ⟨cl54, Ar54, q54, S54, Ng54, H54, G54⟩ := tv54
      have hin54 : ¬ (ps < 0 ∨ cl54.slots.size ≤ (ps).toNatClampNeg) := inb_of S54 hm2
      obtain ⟨T55, h55, X55, e55, W55, st55⟩ := stZ X51 hx hZ e51 Ar54 (j := ps) hin54 (g := (mkF m 68 #[.val (.int p0), .val (.long q1), .second, .val (.long q2), .second, .val (.int p3), .val (.int ps), .val (.int (0 : Int32)), .val (.int (1 : Int32)), .val (.int ot), .val (.ref b47), .unset, .unset] [(.int (1 : Int32)), (.int ps), (.ref b47)])) rfl rfl (hb hby at_68)
      have pre56 : ∀ t, Steps p.tables e below (T55.setTop (mkF m 69 #[.val (.int p0), .val (.long q1), .second, .val (.long q2), .second, .val (.int p3), .val (.int ps), .val (.int (0 : Int32)), .val (.int (1 : Int32)), .val (.int ot), .val (.ref b47), .unset, .unset] [])) t → Steps p.tables e below (s₁.setTop (entryFrame m #[(.int p0), (.long q1), (.long q2), (.int p3)] maxLocals)) t := fun t kt => pre53 t (st55 _ kt)
      have V55 : Arh Z h55 b47 k47 .boolean (256 : Int32) [(ps, (.int (1 : Int32))), (ot, (.int (1 : Int32)))] [] (.int (0 : Int32)) := Arh.push Ar54 q54 S54 Ng54 H54 G54 (fits_nar_bool (1 : Int32)) W55 hin54
      have K55 : Keep h0 h55 [] := K51.wr W55 (Or.inr sz47)
      have N55 := Fr.snoc X55 N51 gn47
      have Z55 : n0 ≤ h55.size := Nat.le_trans Z51 (Keep.of_wr W55).1
      have pre57 : ∀ t, Steps p.tables e below (T55.setTop (mkF m 86 #[.val (.int p0), .val (.long q1), .second, .val (.long q2), .second, .val (.int p3), .val (.int ps), .val (.int (0 : Int32)), .val (.int (1 : Int32)), .val (.int ot), .val (.ref b47), .val .null, .unset] [(.int (64 : Int32)), (.int ps)])) t → Steps p.tables e below (s₁.setTop (entryFrame m #[(.int p0), (.long q1), (.long q2), (.int p3)] maxLocals)) t := fun t kt => pre56 t (by
        show Steps p.tables e below (T55.setTop (mkF m 69 #[.val (.int p0), .val (.long q1), .second, .val (.long q2), .second, .val (.int p3), .val (.int ps), .val (.int (0 : Int32)), .val (.int (1 : Int32)), .val (.int ot), .val (.ref b47), .unset, .unset] [])) _
        refine XS.iload X55.here hx rfl (hb hby at_69) rfl ?_
        show Steps p.tables e below (T55.setTop (mkF m 71 #[.val (.int p0), .val (.long q1), .second, .val (.long q2), .second, .val (.int p3), .val (.int ps), .val (.int (0 : Int32)), .val (.int (1 : Int32)), .val (.int ot), .val (.ref b47), .unset, .unset] [(.int (0 : Int32))])) _
        refine XS.ifYes X55.here hx rfl (pc0 := 71) (pc' := 79) rfl (hb hby at_71) rfl ((if0 _ _).trans (teq (by decide : (0 : Int32) = (0 : Int32))).1) (by decide) (by decide) ?_
        show Steps p.tables e below (T55.setTop (mkF m 79 #[.val (.int p0), .val (.long q1), .second, .val (.long q2), .second, .val (.int p3), .val (.int ps), .val (.int (0 : Int32)), .val (.int (1 : Int32)), .val (.int ot), .val (.ref b47), .unset, .unset] [])) _
        refine XS.aconstNull X55.here hx rfl (hb hby at_79) ?_
        show Steps p.tables e below (T55.setTop (mkF m 80 #[.val (.int p0), .val (.long q1), .second, .val (.long q2), .second, .val (.int p3), .val (.int ps), .val (.int (0 : Int32)), .val (.int (1 : Int32)), .val (.int ot), .val (.ref b47), .unset, .unset] [.null])) _
        refine XS.astore X55.here hx rfl (hb hby at_80) rfl rfl (l' := #[.val (.int p0), .val (.long q1), .second, .val (.long q2), .second, .val (.int p3), .val (.int ps), .val (.int (0 : Int32)), .val (.int (1 : Int32)), .val (.int ot), .val (.ref b47), .val .null, .unset]) rfl ?_
        show Steps p.tables e below (T55.setTop (mkF m 82 #[.val (.int p0), .val (.long q1), .second, .val (.long q2), .second, .val (.int p3), .val (.int ps), .val (.int (0 : Int32)), .val (.int (1 : Int32)), .val (.int ot), .val (.ref b47), .val .null, .unset] [])) _
        refine XS.iload X55.here hx rfl (hb hby at_82) rfl ?_
        show Steps p.tables e below (T55.setTop (mkF m 84 #[.val (.int p0), .val (.long q1), .second, .val (.long q2), .second, .val (.int p3), .val (.int ps), .val (.int (0 : Int32)), .val (.int (1 : Int32)), .val (.int ot), .val (.ref b47), .val .null, .unset] [(.int ps)])) _
        refine XS.bipush X55.here hx rfl (hb hby at_84) ?_
        exact kt)
      by_cases hc86_58 : ps < (64 : Int32)
      · have pre59 : ∀ t, Steps p.tables e below (T55.setTop (mkF m 97 #[.val (.int p0), .val (.long q1), .second, .val (.long q2), .second, .val (.int p3), .val (.int ps), .val (.int (0 : Int32)), .val (.int (1 : Int32)), .val (.int ot), .val (.ref b47), .val .null, .unset] [(.int (lcmpW (((q1.toUInt64 >>> (ps &&& 0x3f).toInt64.toUInt64).toInt64) &&& (1 : Int64)) (1 : Int64)))])) t → Steps p.tables e below (s₁.setTop (entryFrame m #[(.int p0), (.long q1), (.long q2), (.int p3)] maxLocals)) t := fun t kt => pre57 t (by
          show Steps p.tables e below (T55.setTop (mkF m 86 #[.val (.int p0), .val (.long q1), .second, .val (.long q2), .second, .val (.int p3), .val (.int ps), .val (.int (0 : Int32)), .val (.int (1 : Int32)), .val (.int ot), .val (.ref b47), .val .null, .unset] [(.int (64 : Int32)), (.int ps)])) _
          refine XS.icmpNo X55.here hx rfl (hb hby at_86) rfl (tlt hc86_58).2.1 ?_
          show Steps p.tables e below (T55.setTop (mkF m 89 #[.val (.int p0), .val (.long q1), .second, .val (.long q2), .second, .val (.int p3), .val (.int ps), .val (.int (0 : Int32)), .val (.int (1 : Int32)), .val (.int ot), .val (.ref b47), .val .null, .unset] [])) _
          refine XS.lloadN X55.here hx rfl (hb hby at_89) rfl ?_
          show Steps p.tables e below (T55.setTop (mkF m 90 #[.val (.int p0), .val (.long q1), .second, .val (.long q2), .second, .val (.int p3), .val (.int ps), .val (.int (0 : Int32)), .val (.int (1 : Int32)), .val (.int ot), .val (.ref b47), .val .null, .unset] [(.long q1)])) _
          refine XS.iload X55.here hx rfl (hb hby at_90) rfl ?_
          show Steps p.tables e below (T55.setTop (mkF m 92 #[.val (.int p0), .val (.long q1), .second, .val (.long q2), .second, .val (.int p3), .val (.int ps), .val (.int (0 : Int32)), .val (.int (1 : Int32)), .val (.int ot), .val (.ref b47), .val .null, .unset] [(.int ps), (.long q1)])) _
          refine XS.lushr X55.here hx rfl (hb hby at_92) rfl ?_
          show Steps p.tables e below (T55.setTop (mkF m 93 #[.val (.int p0), .val (.long q1), .second, .val (.long q2), .second, .val (.int p3), .val (.int ps), .val (.int (0 : Int32)), .val (.int (1 : Int32)), .val (.int ot), .val (.ref b47), .val .null, .unset] [(.long ((q1.toUInt64 >>> (ps &&& 0x3f).toInt64.toUInt64).toInt64))])) _
          refine XS.lconst X55.here hx rfl (hb hby at_93) ?_
          show Steps p.tables e below (T55.setTop (mkF m 94 #[.val (.int p0), .val (.long q1), .second, .val (.long q2), .second, .val (.int p3), .val (.int ps), .val (.int (0 : Int32)), .val (.int (1 : Int32)), .val (.int ot), .val (.ref b47), .val .null, .unset] [(.long (1 : Int64)), (.long ((q1.toUInt64 >>> (ps &&& 0x3f).toInt64.toUInt64).toInt64))])) _
          refine XS.land X55.here hx rfl (hb hby at_94) rfl ?_
          show Steps p.tables e below (T55.setTop (mkF m 95 #[.val (.int p0), .val (.long q1), .second, .val (.long q2), .second, .val (.int p3), .val (.int ps), .val (.int (0 : Int32)), .val (.int (1 : Int32)), .val (.int ot), .val (.ref b47), .val .null, .unset] [(.long (((q1.toUInt64 >>> (ps &&& 0x3f).toInt64.toUInt64).toInt64) &&& (1 : Int64)))])) _
          refine XS.lconst X55.here hx rfl (hb hby at_95) ?_
          show Steps p.tables e below (T55.setTop (mkF m 96 #[.val (.int p0), .val (.long q1), .second, .val (.long q2), .second, .val (.int p3), .val (.int ps), .val (.int (0 : Int32)), .val (.int (1 : Int32)), .val (.int ot), .val (.ref b47), .val .null, .unset] [(.long (1 : Int64)), (.long (((q1.toUInt64 >>> (ps &&& 0x3f).toInt64.toUInt64).toInt64) &&& (1 : Int64)))])) _
          refine XS.lcmp X55.here hx rfl (hb hby at_96) rfl ?_
          exact kt)
        by_cases hc97_60 : (((q1.toUInt64 >>> (ps &&& 0x3f).toInt64.toUInt64).toInt64) &&& (1 : Int64)) = (1 : Int64)
        · have pre61 : ∀ t, Steps p.tables e below (T55.setTop (mkF m 172 #[.val (.int p0), .val (.long q1), .second, .val (.long q2), .second, .val (.int p3), .val (.int ps), .val (.int (0 : Int32)), .val (.int (1 : Int32)), .val (.int ot), .val (.ref b47), .val .null, .val (.int (1 : Int32))] [.null, (.long q2), (.long q1), (.int ps)])) t → Steps p.tables e below (s₁.setTop (entryFrame m #[(.int p0), (.long q1), (.long q2), (.int p3)] maxLocals)) t := fun t kt => pre59 t (by
            show Steps p.tables e below (T55.setTop (mkF m 97 #[.val (.int p0), .val (.long q1), .second, .val (.long q2), .second, .val (.int p3), .val (.int ps), .val (.int (0 : Int32)), .val (.int (1 : Int32)), .val (.int ot), .val (.ref b47), .val .null, .unset] [(.int (lcmpW (((q1.toUInt64 >>> (ps &&& 0x3f).toInt64.toUInt64).toInt64) &&& (1 : Int64)) (1 : Int64)))])) _
            refine XS.ifNo X55.here hx rfl (hb hby at_97) rfl (Jvm.Free.XT.ll_ne_f hc97_60) ?_
            show Steps p.tables e below (T55.setTop (mkF m 100 #[.val (.int p0), .val (.long q1), .second, .val (.long q2), .second, .val (.int p3), .val (.int ps), .val (.int (0 : Int32)), .val (.int (1 : Int32)), .val (.int ot), .val (.ref b47), .val .null, .unset] [])) _
            refine XS.iconst X55.here hx rfl (hb hby at_100) ?_
            show Steps p.tables e below (T55.setTop (mkF m 101 #[.val (.int p0), .val (.long q1), .second, .val (.long q2), .second, .val (.int p3), .val (.int ps), .val (.int (0 : Int32)), .val (.int (1 : Int32)), .val (.int ot), .val (.ref b47), .val .null, .unset] [(.int (1 : Int32))])) _
            refine XS.goto X55.here hx rfl (pc0 := 101) (pc' := 105) rfl (hb hby at_101) (by decide) (by decide) ?_
            show Steps p.tables e below (T55.setTop (mkF m 105 #[.val (.int p0), .val (.long q1), .second, .val (.long q2), .second, .val (.int p3), .val (.int ps), .val (.int (0 : Int32)), .val (.int (1 : Int32)), .val (.int ot), .val (.ref b47), .val .null, .unset] [(.int (1 : Int32))])) _
            refine XS.istore X55.here hx rfl (hb hby at_105) rfl (l' := #[.val (.int p0), .val (.long q1), .second, .val (.long q2), .second, .val (.int p3), .val (.int ps), .val (.int (0 : Int32)), .val (.int (1 : Int32)), .val (.int ot), .val (.ref b47), .val .null, .val (.int (1 : Int32))]) rfl ?_
            show Steps p.tables e below (T55.setTop (mkF m 107 #[.val (.int p0), .val (.long q1), .second, .val (.long q2), .second, .val (.int p3), .val (.int ps), .val (.int (0 : Int32)), .val (.int (1 : Int32)), .val (.int ot), .val (.ref b47), .val .null, .val (.int (1 : Int32))] [])) _
            refine XS.goto X55.here hx rfl (pc0 := 107) (pc' := 166) rfl (hb hby at_107) (by decide) (by decide) ?_
            show Steps p.tables e below (T55.setTop (mkF m 166 #[.val (.int p0), .val (.long q1), .second, .val (.long q2), .second, .val (.int p3), .val (.int ps), .val (.int (0 : Int32)), .val (.int (1 : Int32)), .val (.int ot), .val (.ref b47), .val .null, .val (.int (1 : Int32))] [])) _
            refine XS.iload X55.here hx rfl (hb hby at_166) rfl ?_
            show Steps p.tables e below (T55.setTop (mkF m 168 #[.val (.int p0), .val (.long q1), .second, .val (.long q2), .second, .val (.int p3), .val (.int ps), .val (.int (0 : Int32)), .val (.int (1 : Int32)), .val (.int ot), .val (.ref b47), .val .null, .val (.int (1 : Int32))] [(.int ps)])) _
            refine XS.lloadN X55.here hx rfl (hb hby at_168) rfl ?_
            show Steps p.tables e below (T55.setTop (mkF m 169 #[.val (.int p0), .val (.long q1), .second, .val (.long q2), .second, .val (.int p3), .val (.int ps), .val (.int (0 : Int32)), .val (.int (1 : Int32)), .val (.int ot), .val (.ref b47), .val .null, .val (.int (1 : Int32))] [(.long q1), (.int ps)])) _
            refine XS.lloadN X55.here hx rfl (hb hby at_169) rfl ?_
            show Steps p.tables e below (T55.setTop (mkF m 170 #[.val (.int p0), .val (.long q1), .second, .val (.long q2), .second, .val (.int p3), .val (.int ps), .val (.int (0 : Int32)), .val (.int (1 : Int32)), .val (.int ot), .val (.ref b47), .val .null, .val (.int (1 : Int32))] [(.long q2), (.long q1), (.int ps)])) _
            refine XS.aload X55.here hx rfl (hb hby at_170) rfl rfl ?_
            exact kt)
          obtain ⟨_, _, ⟨T62, L62, k62, n62⟩, -, X62, ⟨Lc62, hQ62, l62, y62, z62⟩, st62⟩ := Jvm.LawKit.callS X55 hx (y := (⟨"com/example/baton/baton/support/Skipped", "contains", "(IJJ[Z)Z"⟩ : MethodName)) hown (mvT hZ (hw _ (List.mem_of_getElem? (i := 1) rfl))) (mvT hZ (hw _ (List.mem_of_getElem? (i := 2) rfl))) (mvT hZ (hw _ (List.mem_of_getElem? (i := 3) rfl))) (mvT hZ (hw _ (List.mem_of_getElem? (i := 4) rfl))) (by decide) (backOf (W := 0) (rm1n l Z av hw [] ps q1 q2  h55 n0 Z55 ) hZ (hw _ (List.mem_of_getElem? (i := 4) rfl)) (hw _ (List.mem_of_getElem? (i := 3) rfl)) (by decide) (by decide)) (g := (mkF m 172 #[.val (.int p0), .val (.long q1), .second, .val (.long q2), .second, .val (.int p3), .val (.int ps), .val (.int (0 : Int32)), .val (.int (1 : Int32)), .val (.int ot), .val (.ref b47), .val .null, .val (.int (1 : Int32))] [.null, (.long q2), (.long q1), (.int ps)])) rfl (by rw [hml]; rfl) (argsL := [(.int ps), (.long q1), (.long q2), .null]) (rest := []) (lenOf pd__IJJ_Z_Z rfl) rfl (by show 2 * 0 + _ ≤ _; exact Nat.le_of_eq rfl) (hb hby at_172) (fun _ _ => ⟨rfl, e55, (by decide : 1 + 0 ≤ _), (by decide : 256 + 0 ≤ _)⟩)
          dsimp only [Pt.U, Pt.locs, Pt.cells, Pt.slots] at X62 l62 y62 z62 st62 hQ62
          subst l62 y62 z62
          obtain ⟨rfl, N62q, e62⟩ := hQ62
          have N62 := Fr.app N55 N62q
          have pre63 : ∀ t, Steps p.tables e below (T62.setTop (mkF m 175 #[.val (.int p0), .val (.long q1), .second, .val (.long q2), .second, .val (.int p3), .val (.int ps), .val (.int (0 : Int32)), .val (.int (1 : Int32)), .val (.int ot), .val (.ref b47), .val .null, .val (.int (1 : Int32))] [(.int (f_cn ps q1 q2))])) t → Steps p.tables e below (s₁.setTop (entryFrame m #[(.int p0), (.long q1), (.long q2), (.int p3)] maxLocals)) t := fun t kt => pre61 t (st62 _ kt)
          have pre64 : ∀ t, Steps p.tables e below (T62.setTop (mkF m 185 #[.val (.int p0), .val (.long q1), .second, .val (.long q2), .second, .val (.int p3), .val (.int ps), .val (.int (0 : Int32)), .val (.int (1 : Int32)), .val (.int ot), .val (.ref b47), .val .null, .val (.int (1 : Int32))] [(.int (1 : Int32))])) t → Steps p.tables e below (s₁.setTop (entryFrame m #[(.int p0), (.long q1), (.long q2), (.int p3)] maxLocals)) t := fun t kt => pre63 t (by
            show Steps p.tables e below (T62.setTop (mkF m 175 #[.val (.int p0), .val (.long q1), .second, .val (.long q2), .second, .val (.int p3), .val (.int ps), .val (.int (0 : Int32)), .val (.int (1 : Int32)), .val (.int ot), .val (.ref b47), .val .null, .val (.int (1 : Int32))] [(.int (f_cn ps q1 q2))])) _
            refine XS.iload X62.here hx rfl (hb hby at_175) rfl ?_
            show Steps p.tables e below (T62.setTop (mkF m 177 #[.val (.int p0), .val (.long q1), .second, .val (.long q2), .second, .val (.int p3), .val (.int ps), .val (.int (0 : Int32)), .val (.int (1 : Int32)), .val (.int ot), .val (.ref b47), .val .null, .val (.int (1 : Int32))] [(.int (1 : Int32)), (.int (f_cn ps q1 q2))])) _
            refine XS.icmpNo X62.here hx rfl (hb hby at_177) rfl (teq (by unfold f_cn; rw [if_pos hc86_58, if_neg (fun q => (own_lo ps q1 hm2).mp q hc97_60)] : (f_cn ps q1 q2) = (1 : Int32))).2 ?_
            show Steps p.tables e below (T62.setTop (mkF m 180 #[.val (.int p0), .val (.long q1), .second, .val (.long q2), .second, .val (.int p3), .val (.int ps), .val (.int (0 : Int32)), .val (.int (1 : Int32)), .val (.int ot), .val (.ref b47), .val .null, .val (.int (1 : Int32))] [])) _
            refine XS.iconst X62.here hx rfl (hb hby at_180) ?_
            show Steps p.tables e below (T62.setTop (mkF m 181 #[.val (.int p0), .val (.long q1), .second, .val (.long q2), .second, .val (.int p3), .val (.int ps), .val (.int (0 : Int32)), .val (.int (1 : Int32)), .val (.int ot), .val (.ref b47), .val .null, .val (.int (1 : Int32))] [(.int (1 : Int32))])) _
            refine XS.goto X62.here hx rfl (pc0 := 181) (pc' := 185) rfl (hb hby at_181) (by decide) (by decide) ?_
            exact kt)
          obtain ⟨fs, hr, hrun, hended, hW, hsame⟩ := X62.leave (v := some (.int (1 : Int32))) (fun h => by rw [Bd.returns] at h; cases h)
          refine ⟨_, _, pre64 _ ?_, hrun, hended, _, _, rfl, ?_, ⟨_, rfl⟩, hW, hsame.mono (by decide) (by decide)⟩
          · show Steps p.tables e below (T62.setTop (mkF m 185 #[.val (.int p0), .val (.long q1), .second, .val (.long q2), .second, .val (.int p3), .val (.int ps), .val (.int (0 : Int32)), .val (.int (1 : Int32)), .val (.int ot), .val (.ref b47), .val .null, .val (.int (1 : Int32))] [(.int (1 : Int32))])) _
            exact retN X62 hx (t := .boolean) Bd.returns (by simp) (hb hby at_185) hr
          · show Q0 Z p0 q1 q2 p3 h0 n0 _ T62.heap _
            rw [e62]
            exact ⟨rfl, N62⟩
        · have pre65 : ∀ t, Steps p.tables e below (T55.setTop (mkF m 172 #[.val (.int p0), .val (.long q1), .second, .val (.long q2), .second, .val (.int p3), .val (.int ps), .val (.int (0 : Int32)), .val (.int (1 : Int32)), .val (.int ot), .val (.ref b47), .val .null, .val (.int (0 : Int32))] [.null, (.long q2), (.long q1), (.int ps)])) t → Steps p.tables e below (s₁.setTop (entryFrame m #[(.int p0), (.long q1), (.long q2), (.int p3)] maxLocals)) t := fun t kt => pre59 t (by
            show Steps p.tables e below (T55.setTop (mkF m 97 #[.val (.int p0), .val (.long q1), .second, .val (.long q2), .second, .val (.int p3), .val (.int ps), .val (.int (0 : Int32)), .val (.int (1 : Int32)), .val (.int ot), .val (.ref b47), .val .null, .unset] [(.int (lcmpW (((q1.toUInt64 >>> (ps &&& 0x3f).toInt64.toUInt64).toInt64) &&& (1 : Int64)) (1 : Int64)))])) _
            refine XS.ifYes X55.here hx rfl (pc0 := 97) (pc' := 104) rfl (hb hby at_97) rfl (Jvm.Free.XT.ll_ne_t hc97_60) (by decide) (by decide) ?_
            show Steps p.tables e below (T55.setTop (mkF m 104 #[.val (.int p0), .val (.long q1), .second, .val (.long q2), .second, .val (.int p3), .val (.int ps), .val (.int (0 : Int32)), .val (.int (1 : Int32)), .val (.int ot), .val (.ref b47), .val .null, .unset] [])) _
            refine XS.iconst X55.here hx rfl (hb hby at_104) ?_
            show Steps p.tables e below (T55.setTop (mkF m 105 #[.val (.int p0), .val (.long q1), .second, .val (.long q2), .second, .val (.int p3), .val (.int ps), .val (.int (0 : Int32)), .val (.int (1 : Int32)), .val (.int ot), .val (.ref b47), .val .null, .unset] [(.int (0 : Int32))])) _
            refine XS.istore X55.here hx rfl (hb hby at_105) rfl (l' := #[.val (.int p0), .val (.long q1), .second, .val (.long q2), .second, .val (.int p3), .val (.int ps), .val (.int (0 : Int32)), .val (.int (1 : Int32)), .val (.int ot), .val (.ref b47), .val .null, .val (.int (0 : Int32))]) rfl ?_
            show Steps p.tables e below (T55.setTop (mkF m 107 #[.val (.int p0), .val (.long q1), .second, .val (.long q2), .second, .val (.int p3), .val (.int ps), .val (.int (0 : Int32)), .val (.int (1 : Int32)), .val (.int ot), .val (.ref b47), .val .null, .val (.int (0 : Int32))] [])) _
            refine XS.goto X55.here hx rfl (pc0 := 107) (pc' := 166) rfl (hb hby at_107) (by decide) (by decide) ?_
            show Steps p.tables e below (T55.setTop (mkF m 166 #[.val (.int p0), .val (.long q1), .second, .val (.long q2), .second, .val (.int p3), .val (.int ps), .val (.int (0 : Int32)), .val (.int (1 : Int32)), .val (.int ot), .val (.ref b47), .val .null, .val (.int (0 : Int32))] [])) _
            refine XS.iload X55.here hx rfl (hb hby at_166) rfl ?_
            show Steps p.tables e below (T55.setTop (mkF m 168 #[.val (.int p0), .val (.long q1), .second, .val (.long q2), .second, .val (.int p3), .val (.int ps), .val (.int (0 : Int32)), .val (.int (1 : Int32)), .val (.int ot), .val (.ref b47), .val .null, .val (.int (0 : Int32))] [(.int ps)])) _
            refine XS.lloadN X55.here hx rfl (hb hby at_168) rfl ?_
            show Steps p.tables e below (T55.setTop (mkF m 169 #[.val (.int p0), .val (.long q1), .second, .val (.long q2), .second, .val (.int p3), .val (.int ps), .val (.int (0 : Int32)), .val (.int (1 : Int32)), .val (.int ot), .val (.ref b47), .val .null, .val (.int (0 : Int32))] [(.long q1), (.int ps)])) _
            refine XS.lloadN X55.here hx rfl (hb hby at_169) rfl ?_
            show Steps p.tables e below (T55.setTop (mkF m 170 #[.val (.int p0), .val (.long q1), .second, .val (.long q2), .second, .val (.int p3), .val (.int ps), .val (.int (0 : Int32)), .val (.int (1 : Int32)), .val (.int ot), .val (.ref b47), .val .null, .val (.int (0 : Int32))] [(.long q2), (.long q1), (.int ps)])) _
            refine XS.aload X55.here hx rfl (hb hby at_170) rfl rfl ?_
            exact kt)
          obtain ⟨_, _, ⟨T66, L66, k66, n66⟩, -, X66, ⟨Lc66, hQ66, l66, y66, z66⟩, st66⟩ := Jvm.LawKit.callS X55 hx (y := (⟨"com/example/baton/baton/support/Skipped", "contains", "(IJJ[Z)Z"⟩ : MethodName)) hown (mvT hZ (hw _ (List.mem_of_getElem? (i := 1) rfl))) (mvT hZ (hw _ (List.mem_of_getElem? (i := 2) rfl))) (mvT hZ (hw _ (List.mem_of_getElem? (i := 3) rfl))) (mvT hZ (hw _ (List.mem_of_getElem? (i := 4) rfl))) (by decide) (backOf (W := 0) (rm1n l Z av hw [] ps q1 q2  h55 n0 Z55 ) hZ (hw _ (List.mem_of_getElem? (i := 4) rfl)) (hw _ (List.mem_of_getElem? (i := 3) rfl)) (by decide) (by decide)) (g := (mkF m 172 #[.val (.int p0), .val (.long q1), .second, .val (.long q2), .second, .val (.int p3), .val (.int ps), .val (.int (0 : Int32)), .val (.int (1 : Int32)), .val (.int ot), .val (.ref b47), .val .null, .val (.int (0 : Int32))] [.null, (.long q2), (.long q1), (.int ps)])) rfl (by rw [hml]; rfl) (argsL := [(.int ps), (.long q1), (.long q2), .null]) (rest := []) (lenOf pd__IJJ_Z_Z rfl) rfl (by show 2 * 0 + _ ≤ _; exact Nat.le_of_eq rfl) (hb hby at_172) (fun _ _ => ⟨rfl, e55, (by decide : 1 + 0 ≤ _), (by decide : 256 + 0 ≤ _)⟩)
          dsimp only [Pt.U, Pt.locs, Pt.cells, Pt.slots] at X66 l66 y66 z66 st66 hQ66
          subst l66 y66 z66
          obtain ⟨rfl, N66q, e66⟩ := hQ66
          have N66 := Fr.app N55 N66q
          have pre67 : ∀ t, Steps p.tables e below (T66.setTop (mkF m 175 #[.val (.int p0), .val (.long q1), .second, .val (.long q2), .second, .val (.int p3), .val (.int ps), .val (.int (0 : Int32)), .val (.int (1 : Int32)), .val (.int ot), .val (.ref b47), .val .null, .val (.int (0 : Int32))] [(.int (f_cn ps q1 q2))])) t → Steps p.tables e below (s₁.setTop (entryFrame m #[(.int p0), (.long q1), (.long q2), (.int p3)] maxLocals)) t := fun t kt => pre65 t (st66 _ kt)
          have pre68 : ∀ t, Steps p.tables e below (T66.setTop (mkF m 185 #[.val (.int p0), .val (.long q1), .second, .val (.long q2), .second, .val (.int p3), .val (.int ps), .val (.int (0 : Int32)), .val (.int (1 : Int32)), .val (.int ot), .val (.ref b47), .val .null, .val (.int (0 : Int32))] [(.int (1 : Int32))])) t → Steps p.tables e below (s₁.setTop (entryFrame m #[(.int p0), (.long q1), (.long q2), (.int p3)] maxLocals)) t := fun t kt => pre67 t (by
            show Steps p.tables e below (T66.setTop (mkF m 175 #[.val (.int p0), .val (.long q1), .second, .val (.long q2), .second, .val (.int p3), .val (.int ps), .val (.int (0 : Int32)), .val (.int (1 : Int32)), .val (.int ot), .val (.ref b47), .val .null, .val (.int (0 : Int32))] [(.int (f_cn ps q1 q2))])) _
            refine XS.iload X66.here hx rfl (hb hby at_175) rfl ?_
            show Steps p.tables e below (T66.setTop (mkF m 177 #[.val (.int p0), .val (.long q1), .second, .val (.long q2), .second, .val (.int p3), .val (.int ps), .val (.int (0 : Int32)), .val (.int (1 : Int32)), .val (.int ot), .val (.ref b47), .val .null, .val (.int (0 : Int32))] [(.int (0 : Int32)), (.int (f_cn ps q1 q2))])) _
            refine XS.icmpNo X66.here hx rfl (hb hby at_177) rfl (teq (by unfold f_cn; rw [if_pos hc86_58, if_pos ((own_lo ps q1 hm2).mpr hc97_60)] : (f_cn ps q1 q2) = (0 : Int32))).2 ?_
            show Steps p.tables e below (T66.setTop (mkF m 180 #[.val (.int p0), .val (.long q1), .second, .val (.long q2), .second, .val (.int p3), .val (.int ps), .val (.int (0 : Int32)), .val (.int (1 : Int32)), .val (.int ot), .val (.ref b47), .val .null, .val (.int (0 : Int32))] [])) _
            refine XS.iconst X66.here hx rfl (hb hby at_180) ?_
            show Steps p.tables e below (T66.setTop (mkF m 181 #[.val (.int p0), .val (.long q1), .second, .val (.long q2), .second, .val (.int p3), .val (.int ps), .val (.int (0 : Int32)), .val (.int (1 : Int32)), .val (.int ot), .val (.ref b47), .val .null, .val (.int (0 : Int32))] [(.int (1 : Int32))])) _
            refine XS.goto X66.here hx rfl (pc0 := 181) (pc' := 185) rfl (hb hby at_181) (by decide) (by decide) ?_
            exact kt)
          obtain ⟨fs, hr, hrun, hended, hW, hsame⟩ := X66.leave (v := some (.int (1 : Int32))) (fun h => by rw [Bd.returns] at h; cases h)
          refine ⟨_, _, pre68 _ ?_, hrun, hended, _, _, rfl, ?_, ⟨_, rfl⟩, hW, hsame.mono (by decide) (by decide)⟩
          · show Steps p.tables e below (T66.setTop (mkF m 185 #[.val (.int p0), .val (.long q1), .second, .val (.long q2), .second, .val (.int p3), .val (.int ps), .val (.int (0 : Int32)), .val (.int (1 : Int32)), .val (.int ot), .val (.ref b47), .val .null, .val (.int (0 : Int32))] [(.int (1 : Int32))])) _
            exact retN X66 hx (t := .boolean) Bd.returns (by simp) (hb hby at_185) hr
          · show Q0 Z p0 q1 q2 p3 h0 n0 _ T66.heap _
            rw [e66]
            exact ⟨rfl, N66⟩
      · have pre69 : ∀ t, Steps p.tables e below (T55.setTop (mkF m 115 #[.val (.int p0), .val (.long q1), .second, .val (.long q2), .second, .val (.int p3), .val (.int ps), .val (.int (0 : Int32)), .val (.int (1 : Int32)), .val (.int ot), .val (.ref b47), .val .null, .unset] [(.int (128 : Int32)), (.int ps)])) t → Steps p.tables e below (s₁.setTop (entryFrame m #[(.int p0), (.long q1), (.long q2), (.int p3)] maxLocals)) t := fun t kt => pre57 t (by
          show Steps p.tables e below (T55.setTop (mkF m 86 #[.val (.int p0), .val (.long q1), .second, .val (.long q2), .second, .val (.int p3), .val (.int ps), .val (.int (0 : Int32)), .val (.int (1 : Int32)), .val (.int ot), .val (.ref b47), .val .null, .unset] [(.int (64 : Int32)), (.int ps)])) _
          refine XS.icmpYes X55.here hx rfl (pc0 := 86) (pc' := 110) rfl (hb hby at_86) rfl (flt hc86_58).2.1 (by decide) (by decide) ?_
          show Steps p.tables e below (T55.setTop (mkF m 110 #[.val (.int p0), .val (.long q1), .second, .val (.long q2), .second, .val (.int p3), .val (.int ps), .val (.int (0 : Int32)), .val (.int (1 : Int32)), .val (.int ot), .val (.ref b47), .val .null, .unset] [])) _
          refine XS.iload X55.here hx rfl (hb hby at_110) rfl ?_
          show Steps p.tables e below (T55.setTop (mkF m 112 #[.val (.int p0), .val (.long q1), .second, .val (.long q2), .second, .val (.int p3), .val (.int ps), .val (.int (0 : Int32)), .val (.int (1 : Int32)), .val (.int ot), .val (.ref b47), .val .null, .unset] [(.int ps)])) _
          refine XS.sipush X55.here hx rfl (hb hby at_112) ?_
          exact kt)
        by_cases hc115_70 : ps < (128 : Int32)
        · have pre71 : ∀ t, Steps p.tables e below (T55.setTop (mkF m 129 #[.val (.int p0), .val (.long q1), .second, .val (.long q2), .second, .val (.int p3), .val (.int ps), .val (.int (0 : Int32)), .val (.int (1 : Int32)), .val (.int ot), .val (.ref b47), .val .null, .unset] [(.int (lcmpW (((q2.toUInt64 >>> ((ps - (64 : Int32)) &&& 0x3f).toInt64.toUInt64).toInt64) &&& (1 : Int64)) (1 : Int64)))])) t → Steps p.tables e below (s₁.setTop (entryFrame m #[(.int p0), (.long q1), (.long q2), (.int p3)] maxLocals)) t := fun t kt => pre69 t (by
            show Steps p.tables e below (T55.setTop (mkF m 115 #[.val (.int p0), .val (.long q1), .second, .val (.long q2), .second, .val (.int p3), .val (.int ps), .val (.int (0 : Int32)), .val (.int (1 : Int32)), .val (.int ot), .val (.ref b47), .val .null, .unset] [(.int (128 : Int32)), (.int ps)])) _
            refine XS.icmpNo X55.here hx rfl (hb hby at_115) rfl (tlt hc115_70).2.1 ?_
            show Steps p.tables e below (T55.setTop (mkF m 118 #[.val (.int p0), .val (.long q1), .second, .val (.long q2), .second, .val (.int p3), .val (.int ps), .val (.int (0 : Int32)), .val (.int (1 : Int32)), .val (.int ot), .val (.ref b47), .val .null, .unset] [])) _
            refine XS.lloadN X55.here hx rfl (hb hby at_118) rfl ?_
            show Steps p.tables e below (T55.setTop (mkF m 119 #[.val (.int p0), .val (.long q1), .second, .val (.long q2), .second, .val (.int p3), .val (.int ps), .val (.int (0 : Int32)), .val (.int (1 : Int32)), .val (.int ot), .val (.ref b47), .val .null, .unset] [(.long q2)])) _
            refine XS.iload X55.here hx rfl (hb hby at_119) rfl ?_
            show Steps p.tables e below (T55.setTop (mkF m 121 #[.val (.int p0), .val (.long q1), .second, .val (.long q2), .second, .val (.int p3), .val (.int ps), .val (.int (0 : Int32)), .val (.int (1 : Int32)), .val (.int ot), .val (.ref b47), .val .null, .unset] [(.int ps), (.long q2)])) _
            refine XS.bipush X55.here hx rfl (hb hby at_121) ?_
            show Steps p.tables e below (T55.setTop (mkF m 123 #[.val (.int p0), .val (.long q1), .second, .val (.long q2), .second, .val (.int p3), .val (.int ps), .val (.int (0 : Int32)), .val (.int (1 : Int32)), .val (.int ot), .val (.ref b47), .val .null, .unset] [(.int (64 : Int32)), (.int ps), (.long q2)])) _
            refine XS.isub X55.here hx rfl (hb hby at_123) rfl ?_
            show Steps p.tables e below (T55.setTop (mkF m 124 #[.val (.int p0), .val (.long q1), .second, .val (.long q2), .second, .val (.int p3), .val (.int ps), .val (.int (0 : Int32)), .val (.int (1 : Int32)), .val (.int ot), .val (.ref b47), .val .null, .unset] [(.int (ps - (64 : Int32))), (.long q2)])) _
            refine XS.lushr X55.here hx rfl (hb hby at_124) rfl ?_
            show Steps p.tables e below (T55.setTop (mkF m 125 #[.val (.int p0), .val (.long q1), .second, .val (.long q2), .second, .val (.int p3), .val (.int ps), .val (.int (0 : Int32)), .val (.int (1 : Int32)), .val (.int ot), .val (.ref b47), .val .null, .unset] [(.long ((q2.toUInt64 >>> ((ps - (64 : Int32)) &&& 0x3f).toInt64.toUInt64).toInt64))])) _
            refine XS.lconst X55.here hx rfl (hb hby at_125) ?_
            show Steps p.tables e below (T55.setTop (mkF m 126 #[.val (.int p0), .val (.long q1), .second, .val (.long q2), .second, .val (.int p3), .val (.int ps), .val (.int (0 : Int32)), .val (.int (1 : Int32)), .val (.int ot), .val (.ref b47), .val .null, .unset] [(.long (1 : Int64)), (.long ((q2.toUInt64 >>> ((ps - (64 : Int32)) &&& 0x3f).toInt64.toUInt64).toInt64))])) _
            refine XS.land X55.here hx rfl (hb hby at_126) rfl ?_
            show Steps p.tables e below (T55.setTop (mkF m 127 #[.val (.int p0), .val (.long q1), .second, .val (.long q2), .second, .val (.int p3), .val (.int ps), .val (.int (0 : Int32)), .val (.int (1 : Int32)), .val (.int ot), .val (.ref b47), .val .null, .unset] [(.long (((q2.toUInt64 >>> ((ps - (64 : Int32)) &&& 0x3f).toInt64.toUInt64).toInt64) &&& (1 : Int64)))])) _
            refine XS.lconst X55.here hx rfl (hb hby at_127) ?_
            show Steps p.tables e below (T55.setTop (mkF m 128 #[.val (.int p0), .val (.long q1), .second, .val (.long q2), .second, .val (.int p3), .val (.int ps), .val (.int (0 : Int32)), .val (.int (1 : Int32)), .val (.int ot), .val (.ref b47), .val .null, .unset] [(.long (1 : Int64)), (.long (((q2.toUInt64 >>> ((ps - (64 : Int32)) &&& 0x3f).toInt64.toUInt64).toInt64) &&& (1 : Int64)))])) _
            refine XS.lcmp X55.here hx rfl (hb hby at_128) rfl ?_
            exact kt)
          by_cases hc129_72 : (((q2.toUInt64 >>> ((ps - (64 : Int32)) &&& 0x3f).toInt64.toUInt64).toInt64) &&& (1 : Int64)) = (1 : Int64)
          · have pre73 : ∀ t, Steps p.tables e below (T55.setTop (mkF m 172 #[.val (.int p0), .val (.long q1), .second, .val (.long q2), .second, .val (.int p3), .val (.int ps), .val (.int (0 : Int32)), .val (.int (1 : Int32)), .val (.int ot), .val (.ref b47), .val .null, .val (.int (1 : Int32))] [.null, (.long q2), (.long q1), (.int ps)])) t → Steps p.tables e below (s₁.setTop (entryFrame m #[(.int p0), (.long q1), (.long q2), (.int p3)] maxLocals)) t := fun t kt => pre71 t (by
              show Steps p.tables e below (T55.setTop (mkF m 129 #[.val (.int p0), .val (.long q1), .second, .val (.long q2), .second, .val (.int p3), .val (.int ps), .val (.int (0 : Int32)), .val (.int (1 : Int32)), .val (.int ot), .val (.ref b47), .val .null, .unset] [(.int (lcmpW (((q2.toUInt64 >>> ((ps - (64 : Int32)) &&& 0x3f).toInt64.toUInt64).toInt64) &&& (1 : Int64)) (1 : Int64)))])) _
              refine XS.ifNo X55.here hx rfl (hb hby at_129) rfl (Jvm.Free.XT.ll_ne_f hc129_72) ?_
              show Steps p.tables e below (T55.setTop (mkF m 132 #[.val (.int p0), .val (.long q1), .second, .val (.long q2), .second, .val (.int p3), .val (.int ps), .val (.int (0 : Int32)), .val (.int (1 : Int32)), .val (.int ot), .val (.ref b47), .val .null, .unset] [])) _
              refine XS.iconst X55.here hx rfl (hb hby at_132) ?_
              show Steps p.tables e below (T55.setTop (mkF m 133 #[.val (.int p0), .val (.long q1), .second, .val (.long q2), .second, .val (.int p3), .val (.int ps), .val (.int (0 : Int32)), .val (.int (1 : Int32)), .val (.int ot), .val (.ref b47), .val .null, .unset] [(.int (1 : Int32))])) _
              refine XS.goto X55.here hx rfl (pc0 := 133) (pc' := 137) rfl (hb hby at_133) (by decide) (by decide) ?_
              show Steps p.tables e below (T55.setTop (mkF m 137 #[.val (.int p0), .val (.long q1), .second, .val (.long q2), .second, .val (.int p3), .val (.int ps), .val (.int (0 : Int32)), .val (.int (1 : Int32)), .val (.int ot), .val (.ref b47), .val .null, .unset] [(.int (1 : Int32))])) _
              refine XS.istore X55.here hx rfl (hb hby at_137) rfl (l' := #[.val (.int p0), .val (.long q1), .second, .val (.long q2), .second, .val (.int p3), .val (.int ps), .val (.int (0 : Int32)), .val (.int (1 : Int32)), .val (.int ot), .val (.ref b47), .val .null, .val (.int (1 : Int32))]) rfl ?_
              show Steps p.tables e below (T55.setTop (mkF m 139 #[.val (.int p0), .val (.long q1), .second, .val (.long q2), .second, .val (.int p3), .val (.int ps), .val (.int (0 : Int32)), .val (.int (1 : Int32)), .val (.int ot), .val (.ref b47), .val .null, .val (.int (1 : Int32))] [])) _
              refine XS.goto X55.here hx rfl (pc0 := 139) (pc' := 166) rfl (hb hby at_139) (by decide) (by decide) ?_
              show Steps p.tables e below (T55.setTop (mkF m 166 #[.val (.int p0), .val (.long q1), .second, .val (.long q2), .second, .val (.int p3), .val (.int ps), .val (.int (0 : Int32)), .val (.int (1 : Int32)), .val (.int ot), .val (.ref b47), .val .null, .val (.int (1 : Int32))] [])) _
              refine XS.iload X55.here hx rfl (hb hby at_166) rfl ?_
              show Steps p.tables e below (T55.setTop (mkF m 168 #[.val (.int p0), .val (.long q1), .second, .val (.long q2), .second, .val (.int p3), .val (.int ps), .val (.int (0 : Int32)), .val (.int (1 : Int32)), .val (.int ot), .val (.ref b47), .val .null, .val (.int (1 : Int32))] [(.int ps)])) _
              refine XS.lloadN X55.here hx rfl (hb hby at_168) rfl ?_
              show Steps p.tables e below (T55.setTop (mkF m 169 #[.val (.int p0), .val (.long q1), .second, .val (.long q2), .second, .val (.int p3), .val (.int ps), .val (.int (0 : Int32)), .val (.int (1 : Int32)), .val (.int ot), .val (.ref b47), .val .null, .val (.int (1 : Int32))] [(.long q1), (.int ps)])) _
              refine XS.lloadN X55.here hx rfl (hb hby at_169) rfl ?_
              show Steps p.tables e below (T55.setTop (mkF m 170 #[.val (.int p0), .val (.long q1), .second, .val (.long q2), .second, .val (.int p3), .val (.int ps), .val (.int (0 : Int32)), .val (.int (1 : Int32)), .val (.int ot), .val (.ref b47), .val .null, .val (.int (1 : Int32))] [(.long q2), (.long q1), (.int ps)])) _
              refine XS.aload X55.here hx rfl (hb hby at_170) rfl rfl ?_
              exact kt)
            obtain ⟨_, _, ⟨T74, L74, k74, n74⟩, -, X74, ⟨Lc74, hQ74, l74, y74, z74⟩, st74⟩ := Jvm.LawKit.callS X55 hx (y := (⟨"com/example/baton/baton/support/Skipped", "contains", "(IJJ[Z)Z"⟩ : MethodName)) hown (mvT hZ (hw _ (List.mem_of_getElem? (i := 1) rfl))) (mvT hZ (hw _ (List.mem_of_getElem? (i := 2) rfl))) (mvT hZ (hw _ (List.mem_of_getElem? (i := 3) rfl))) (mvT hZ (hw _ (List.mem_of_getElem? (i := 4) rfl))) (by decide) (backOf (W := 0) (rm1n l Z av hw [] ps q1 q2  h55 n0 Z55 ) hZ (hw _ (List.mem_of_getElem? (i := 4) rfl)) (hw _ (List.mem_of_getElem? (i := 3) rfl)) (by decide) (by decide)) (g := (mkF m 172 #[.val (.int p0), .val (.long q1), .second, .val (.long q2), .second, .val (.int p3), .val (.int ps), .val (.int (0 : Int32)), .val (.int (1 : Int32)), .val (.int ot), .val (.ref b47), .val .null, .val (.int (1 : Int32))] [.null, (.long q2), (.long q1), (.int ps)])) rfl (by rw [hml]; rfl) (argsL := [(.int ps), (.long q1), (.long q2), .null]) (rest := []) (lenOf pd__IJJ_Z_Z rfl) rfl (by show 2 * 0 + _ ≤ _; exact Nat.le_of_eq rfl) (hb hby at_172) (fun _ _ => ⟨rfl, e55, (by decide : 1 + 0 ≤ _), (by decide : 256 + 0 ≤ _)⟩)
            dsimp only [Pt.U, Pt.locs, Pt.cells, Pt.slots] at X74 l74 y74 z74 st74 hQ74
            subst l74 y74 z74
            obtain ⟨rfl, N74q, e74⟩ := hQ74
            have N74 := Fr.app N55 N74q
            have pre75 : ∀ t, Steps p.tables e below (T74.setTop (mkF m 175 #[.val (.int p0), .val (.long q1), .second, .val (.long q2), .second, .val (.int p3), .val (.int ps), .val (.int (0 : Int32)), .val (.int (1 : Int32)), .val (.int ot), .val (.ref b47), .val .null, .val (.int (1 : Int32))] [(.int (f_cn ps q1 q2))])) t → Steps p.tables e below (s₁.setTop (entryFrame m #[(.int p0), (.long q1), (.long q2), (.int p3)] maxLocals)) t := fun t kt => pre73 t (st74 _ kt)
            have pre76 : ∀ t, Steps p.tables e below (T74.setTop (mkF m 185 #[.val (.int p0), .val (.long q1), .second, .val (.long q2), .second, .val (.int p3), .val (.int ps), .val (.int (0 : Int32)), .val (.int (1 : Int32)), .val (.int ot), .val (.ref b47), .val .null, .val (.int (1 : Int32))] [(.int (1 : Int32))])) t → Steps p.tables e below (s₁.setTop (entryFrame m #[(.int p0), (.long q1), (.long q2), (.int p3)] maxLocals)) t := fun t kt => pre75 t (by
              show Steps p.tables e below (T74.setTop (mkF m 175 #[.val (.int p0), .val (.long q1), .second, .val (.long q2), .second, .val (.int p3), .val (.int ps), .val (.int (0 : Int32)), .val (.int (1 : Int32)), .val (.int ot), .val (.ref b47), .val .null, .val (.int (1 : Int32))] [(.int (f_cn ps q1 q2))])) _
              refine XS.iload X74.here hx rfl (hb hby at_175) rfl ?_
              show Steps p.tables e below (T74.setTop (mkF m 177 #[.val (.int p0), .val (.long q1), .second, .val (.long q2), .second, .val (.int p3), .val (.int ps), .val (.int (0 : Int32)), .val (.int (1 : Int32)), .val (.int ot), .val (.ref b47), .val .null, .val (.int (1 : Int32))] [(.int (1 : Int32)), (.int (f_cn ps q1 q2))])) _
              refine XS.icmpNo X74.here hx rfl (hb hby at_177) rfl (teq (by unfold f_cn; rw [if_neg hc86_58, if_pos hc115_70, if_neg (fun q => (own_hi ps q2 hm2 hc86_58).mp q hc129_72)] : (f_cn ps q1 q2) = (1 : Int32))).2 ?_
              show Steps p.tables e below (T74.setTop (mkF m 180 #[.val (.int p0), .val (.long q1), .second, .val (.long q2), .second, .val (.int p3), .val (.int ps), .val (.int (0 : Int32)), .val (.int (1 : Int32)), .val (.int ot), .val (.ref b47), .val .null, .val (.int (1 : Int32))] [])) _
              refine XS.iconst X74.here hx rfl (hb hby at_180) ?_
              show Steps p.tables e below (T74.setTop (mkF m 181 #[.val (.int p0), .val (.long q1), .second, .val (.long q2), .second, .val (.int p3), .val (.int ps), .val (.int (0 : Int32)), .val (.int (1 : Int32)), .val (.int ot), .val (.ref b47), .val .null, .val (.int (1 : Int32))] [(.int (1 : Int32))])) _
              refine XS.goto X74.here hx rfl (pc0 := 181) (pc' := 185) rfl (hb hby at_181) (by decide) (by decide) ?_
              exact kt)
            obtain ⟨fs, hr, hrun, hended, hW, hsame⟩ := X74.leave (v := some (.int (1 : Int32))) (fun h => by rw [Bd.returns] at h; cases h)
            refine ⟨_, _, pre76 _ ?_, hrun, hended, _, _, rfl, ?_, ⟨_, rfl⟩, hW, hsame.mono (by decide) (by decide)⟩
            · show Steps p.tables e below (T74.setTop (mkF m 185 #[.val (.int p0), .val (.long q1), .second, .val (.long q2), .second, .val (.int p3), .val (.int ps), .val (.int (0 : Int32)), .val (.int (1 : Int32)), .val (.int ot), .val (.ref b47), .val .null, .val (.int (1 : Int32))] [(.int (1 : Int32))])) _
              exact retN X74 hx (t := .boolean) Bd.returns (by simp) (hb hby at_185) hr
            · show Q0 Z p0 q1 q2 p3 h0 n0 _ T74.heap _
              rw [e74]
              exact ⟨rfl, N74⟩
          · have pre77 : ∀ t, Steps p.tables e below (T55.setTop (mkF m 172 #[.val (.int p0), .val (.long q1), .second, .val (.long q2), .second, .val (.int p3), .val (.int ps), .val (.int (0 : Int32)), .val (.int (1 : Int32)), .val (.int ot), .val (.ref b47), .val .null, .val (.int (0 : Int32))] [.null, (.long q2), (.long q1), (.int ps)])) t → Steps p.tables e below (s₁.setTop (entryFrame m #[(.int p0), (.long q1), (.long q2), (.int p3)] maxLocals)) t := fun t kt => pre71 t (by
              show Steps p.tables e below (T55.setTop (mkF m 129 #[.val (.int p0), .val (.long q1), .second, .val (.long q2), .second, .val (.int p3), .val (.int ps), .val (.int (0 : Int32)), .val (.int (1 : Int32)), .val (.int ot), .val (.ref b47), .val .null, .unset] [(.int (lcmpW (((q2.toUInt64 >>> ((ps - (64 : Int32)) &&& 0x3f).toInt64.toUInt64).toInt64) &&& (1 : Int64)) (1 : Int64)))])) _
              refine XS.ifYes X55.here hx rfl (pc0 := 129) (pc' := 136) rfl (hb hby at_129) rfl (Jvm.Free.XT.ll_ne_t hc129_72) (by decide) (by decide) ?_
              show Steps p.tables e below (T55.setTop (mkF m 136 #[.val (.int p0), .val (.long q1), .second, .val (.long q2), .second, .val (.int p3), .val (.int ps), .val (.int (0 : Int32)), .val (.int (1 : Int32)), .val (.int ot), .val (.ref b47), .val .null, .unset] [])) _
              refine XS.iconst X55.here hx rfl (hb hby at_136) ?_
              show Steps p.tables e below (T55.setTop (mkF m 137 #[.val (.int p0), .val (.long q1), .second, .val (.long q2), .second, .val (.int p3), .val (.int ps), .val (.int (0 : Int32)), .val (.int (1 : Int32)), .val (.int ot), .val (.ref b47), .val .null, .unset] [(.int (0 : Int32))])) _
              refine XS.istore X55.here hx rfl (hb hby at_137) rfl (l' := #[.val (.int p0), .val (.long q1), .second, .val (.long q2), .second, .val (.int p3), .val (.int ps), .val (.int (0 : Int32)), .val (.int (1 : Int32)), .val (.int ot), .val (.ref b47), .val .null, .val (.int (0 : Int32))]) rfl ?_
              show Steps p.tables e below (T55.setTop (mkF m 139 #[.val (.int p0), .val (.long q1), .second, .val (.long q2), .second, .val (.int p3), .val (.int ps), .val (.int (0 : Int32)), .val (.int (1 : Int32)), .val (.int ot), .val (.ref b47), .val .null, .val (.int (0 : Int32))] [])) _
              refine XS.goto X55.here hx rfl (pc0 := 139) (pc' := 166) rfl (hb hby at_139) (by decide) (by decide) ?_
              show Steps p.tables e below (T55.setTop (mkF m 166 #[.val (.int p0), .val (.long q1), .second, .val (.long q2), .second, .val (.int p3), .val (.int ps), .val (.int (0 : Int32)), .val (.int (1 : Int32)), .val (.int ot), .val (.ref b47), .val .null, .val (.int (0 : Int32))] [])) _
              refine XS.iload X55.here hx rfl (hb hby at_166) rfl ?_
              show Steps p.tables e below (T55.setTop (mkF m 168 #[.val (.int p0), .val (.long q1), .second, .val (.long q2), .second, .val (.int p3), .val (.int ps), .val (.int (0 : Int32)), .val (.int (1 : Int32)), .val (.int ot), .val (.ref b47), .val .null, .val (.int (0 : Int32))] [(.int ps)])) _
              refine XS.lloadN X55.here hx rfl (hb hby at_168) rfl ?_
              show Steps p.tables e below (T55.setTop (mkF m 169 #[.val (.int p0), .val (.long q1), .second, .val (.long q2), .second, .val (.int p3), .val (.int ps), .val (.int (0 : Int32)), .val (.int (1 : Int32)), .val (.int ot), .val (.ref b47), .val .null, .val (.int (0 : Int32))] [(.long q1), (.int ps)])) _
              refine XS.lloadN X55.here hx rfl (hb hby at_169) rfl ?_
              show Steps p.tables e below (T55.setTop (mkF m 170 #[.val (.int p0), .val (.long q1), .second, .val (.long q2), .second, .val (.int p3), .val (.int ps), .val (.int (0 : Int32)), .val (.int (1 : Int32)), .val (.int ot), .val (.ref b47), .val .null, .val (.int (0 : Int32))] [(.long q2), (.long q1), (.int ps)])) _
              refine XS.aload X55.here hx rfl (hb hby at_170) rfl rfl ?_
              exact kt)
            obtain ⟨_, _, ⟨T78, L78, k78, n78⟩, -, X78, ⟨Lc78, hQ78, l78, y78, z78⟩, st78⟩ := Jvm.LawKit.callS X55 hx (y := (⟨"com/example/baton/baton/support/Skipped", "contains", "(IJJ[Z)Z"⟩ : MethodName)) hown (mvT hZ (hw _ (List.mem_of_getElem? (i := 1) rfl))) (mvT hZ (hw _ (List.mem_of_getElem? (i := 2) rfl))) (mvT hZ (hw _ (List.mem_of_getElem? (i := 3) rfl))) (mvT hZ (hw _ (List.mem_of_getElem? (i := 4) rfl))) (by decide) (backOf (W := 0) (rm1n l Z av hw [] ps q1 q2  h55 n0 Z55 ) hZ (hw _ (List.mem_of_getElem? (i := 4) rfl)) (hw _ (List.mem_of_getElem? (i := 3) rfl)) (by decide) (by decide)) (g := (mkF m 172 #[.val (.int p0), .val (.long q1), .second, .val (.long q2), .second, .val (.int p3), .val (.int ps), .val (.int (0 : Int32)), .val (.int (1 : Int32)), .val (.int ot), .val (.ref b47), .val .null, .val (.int (0 : Int32))] [.null, (.long q2), (.long q1), (.int ps)])) rfl (by rw [hml]; rfl) (argsL := [(.int ps), (.long q1), (.long q2), .null]) (rest := []) (lenOf pd__IJJ_Z_Z rfl) rfl (by show 2 * 0 + _ ≤ _; exact Nat.le_of_eq rfl) (hb hby at_172) (fun _ _ => ⟨rfl, e55, (by decide : 1 + 0 ≤ _), (by decide : 256 + 0 ≤ _)⟩)
            dsimp only [Pt.U, Pt.locs, Pt.cells, Pt.slots] at X78 l78 y78 z78 st78 hQ78
            subst l78 y78 z78
            obtain ⟨rfl, N78q, e78⟩ := hQ78
            have N78 := Fr.app N55 N78q
            have pre79 : ∀ t, Steps p.tables e below (T78.setTop (mkF m 175 #[.val (.int p0), .val (.long q1), .second, .val (.long q2), .second, .val (.int p3), .val (.int ps), .val (.int (0 : Int32)), .val (.int (1 : Int32)), .val (.int ot), .val (.ref b47), .val .null, .val (.int (0 : Int32))] [(.int (f_cn ps q1 q2))])) t → Steps p.tables e below (s₁.setTop (entryFrame m #[(.int p0), (.long q1), (.long q2), (.int p3)] maxLocals)) t := fun t kt => pre77 t (st78 _ kt)
            have pre80 : ∀ t, Steps p.tables e below (T78.setTop (mkF m 185 #[.val (.int p0), .val (.long q1), .second, .val (.long q2), .second, .val (.int p3), .val (.int ps), .val (.int (0 : Int32)), .val (.int (1 : Int32)), .val (.int ot), .val (.ref b47), .val .null, .val (.int (0 : Int32))] [(.int (1 : Int32))])) t → Steps p.tables e below (s₁.setTop (entryFrame m #[(.int p0), (.long q1), (.long q2), (.int p3)] maxLocals)) t := fun t kt => pre79 t (by
              show Steps p.tables e below (T78.setTop (mkF m 175 #[.val (.int p0), .val (.long q1), .second, .val (.long q2), .second, .val (.int p3), .val (.int ps), .val (.int (0 : Int32)), .val (.int (1 : Int32)), .val (.int ot), .val (.ref b47), .val .null, .val (.int (0 : Int32))] [(.int (f_cn ps q1 q2))])) _
              refine XS.iload X78.here hx rfl (hb hby at_175) rfl ?_
              show Steps p.tables e below (T78.setTop (mkF m 177 #[.val (.int p0), .val (.long q1), .second, .val (.long q2), .second, .val (.int p3), .val (.int ps), .val (.int (0 : Int32)), .val (.int (1 : Int32)), .val (.int ot), .val (.ref b47), .val .null, .val (.int (0 : Int32))] [(.int (0 : Int32)), (.int (f_cn ps q1 q2))])) _
              refine XS.icmpNo X78.here hx rfl (hb hby at_177) rfl (teq (by unfold f_cn; rw [if_neg hc86_58, if_pos hc115_70, if_pos ((own_hi ps q2 hm2 hc86_58).mpr hc129_72)] : (f_cn ps q1 q2) = (0 : Int32))).2 ?_
              show Steps p.tables e below (T78.setTop (mkF m 180 #[.val (.int p0), .val (.long q1), .second, .val (.long q2), .second, .val (.int p3), .val (.int ps), .val (.int (0 : Int32)), .val (.int (1 : Int32)), .val (.int ot), .val (.ref b47), .val .null, .val (.int (0 : Int32))] [])) _
              refine XS.iconst X78.here hx rfl (hb hby at_180) ?_
              show Steps p.tables e below (T78.setTop (mkF m 181 #[.val (.int p0), .val (.long q1), .second, .val (.long q2), .second, .val (.int p3), .val (.int ps), .val (.int (0 : Int32)), .val (.int (1 : Int32)), .val (.int ot), .val (.ref b47), .val .null, .val (.int (0 : Int32))] [(.int (1 : Int32))])) _
              refine XS.goto X78.here hx rfl (pc0 := 181) (pc' := 185) rfl (hb hby at_181) (by decide) (by decide) ?_
              exact kt)
            obtain ⟨fs, hr, hrun, hended, hW, hsame⟩ := X78.leave (v := some (.int (1 : Int32))) (fun h => by rw [Bd.returns] at h; cases h)
            refine ⟨_, _, pre80 _ ?_, hrun, hended, _, _, rfl, ?_, ⟨_, rfl⟩, hW, hsame.mono (by decide) (by decide)⟩
            · show Steps p.tables e below (T78.setTop (mkF m 185 #[.val (.int p0), .val (.long q1), .second, .val (.long q2), .second, .val (.int p3), .val (.int ps), .val (.int (0 : Int32)), .val (.int (1 : Int32)), .val (.int ot), .val (.ref b47), .val .null, .val (.int (0 : Int32))] [(.int (1 : Int32))])) _
              exact retN X78 hx (t := .boolean) Bd.returns (by simp) (hb hby at_185) hr
            · show Q0 Z p0 q1 q2 p3 h0 n0 _ T78.heap _
              rw [e78]
              exact ⟨rfl, N78⟩
        · have pre81 : ∀ t, Steps p.tables e below (T55.setTop (mkF m 172 #[.val (.int p0), .val (.long q1), .second, .val (.long q2), .second, .val (.int p3), .val (.int ps), .val (.int (0 : Int32)), .val (.int (1 : Int32)), .val (.int ot), .val (.ref b47), .val .null, .val (.int (0 : Int32))] [.null, (.long q2), (.long q1), (.int ps)])) t → Steps p.tables e below (s₁.setTop (entryFrame m #[(.int p0), (.long q1), (.long q2), (.int p3)] maxLocals)) t := fun t kt => pre69 t (by
            show Steps p.tables e below (T55.setTop (mkF m 115 #[.val (.int p0), .val (.long q1), .second, .val (.long q2), .second, .val (.int p3), .val (.int ps), .val (.int (0 : Int32)), .val (.int (1 : Int32)), .val (.int ot), .val (.ref b47), .val .null, .unset] [(.int (128 : Int32)), (.int ps)])) _
            refine XS.icmpYes X55.here hx rfl (pc0 := 115) (pc' := 142) rfl (hb hby at_115) rfl (flt hc115_70).2.1 (by decide) (by decide) ?_
            show Steps p.tables e below (T55.setTop (mkF m 142 #[.val (.int p0), .val (.long q1), .second, .val (.long q2), .second, .val (.int p3), .val (.int ps), .val (.int (0 : Int32)), .val (.int (1 : Int32)), .val (.int ot), .val (.ref b47), .val .null, .unset] [])) _
            refine XS.iload X55.here hx rfl (hb hby at_142) rfl ?_
            show Steps p.tables e below (T55.setTop (mkF m 144 #[.val (.int p0), .val (.long q1), .second, .val (.long q2), .second, .val (.int p3), .val (.int ps), .val (.int (0 : Int32)), .val (.int (1 : Int32)), .val (.int ot), .val (.ref b47), .val .null, .unset] [(.int (0 : Int32))])) _
            refine XS.ifYes X55.here hx rfl (pc0 := 144) (pc' := 163) rfl (hb hby at_144) rfl ((if0 _ _).trans (teq (by decide : (0 : Int32) = (0 : Int32))).1) (by decide) (by decide) ?_
            show Steps p.tables e below (T55.setTop (mkF m 163 #[.val (.int p0), .val (.long q1), .second, .val (.long q2), .second, .val (.int p3), .val (.int ps), .val (.int (0 : Int32)), .val (.int (1 : Int32)), .val (.int ot), .val (.ref b47), .val .null, .unset] [])) _
            refine XS.iconst X55.here hx rfl (hb hby at_163) ?_
            show Steps p.tables e below (T55.setTop (mkF m 164 #[.val (.int p0), .val (.long q1), .second, .val (.long q2), .second, .val (.int p3), .val (.int ps), .val (.int (0 : Int32)), .val (.int (1 : Int32)), .val (.int ot), .val (.ref b47), .val .null, .unset] [(.int (0 : Int32))])) _
            refine XS.istore X55.here hx rfl (hb hby at_164) rfl (l' := #[.val (.int p0), .val (.long q1), .second, .val (.long q2), .second, .val (.int p3), .val (.int ps), .val (.int (0 : Int32)), .val (.int (1 : Int32)), .val (.int ot), .val (.ref b47), .val .null, .val (.int (0 : Int32))]) rfl ?_
            show Steps p.tables e below (T55.setTop (mkF m 166 #[.val (.int p0), .val (.long q1), .second, .val (.long q2), .second, .val (.int p3), .val (.int ps), .val (.int (0 : Int32)), .val (.int (1 : Int32)), .val (.int ot), .val (.ref b47), .val .null, .val (.int (0 : Int32))] [])) _
            refine XS.iload X55.here hx rfl (hb hby at_166) rfl ?_
            show Steps p.tables e below (T55.setTop (mkF m 168 #[.val (.int p0), .val (.long q1), .second, .val (.long q2), .second, .val (.int p3), .val (.int ps), .val (.int (0 : Int32)), .val (.int (1 : Int32)), .val (.int ot), .val (.ref b47), .val .null, .val (.int (0 : Int32))] [(.int ps)])) _
            refine XS.lloadN X55.here hx rfl (hb hby at_168) rfl ?_
            show Steps p.tables e below (T55.setTop (mkF m 169 #[.val (.int p0), .val (.long q1), .second, .val (.long q2), .second, .val (.int p3), .val (.int ps), .val (.int (0 : Int32)), .val (.int (1 : Int32)), .val (.int ot), .val (.ref b47), .val .null, .val (.int (0 : Int32))] [(.long q1), (.int ps)])) _
            refine XS.lloadN X55.here hx rfl (hb hby at_169) rfl ?_
            show Steps p.tables e below (T55.setTop (mkF m 170 #[.val (.int p0), .val (.long q1), .second, .val (.long q2), .second, .val (.int p3), .val (.int ps), .val (.int (0 : Int32)), .val (.int (1 : Int32)), .val (.int ot), .val (.ref b47), .val .null, .val (.int (0 : Int32))] [(.long q2), (.long q1), (.int ps)])) _
            refine XS.aload X55.here hx rfl (hb hby at_170) rfl rfl ?_
            exact kt)
          obtain ⟨_, _, ⟨T82, L82, k82, n82⟩, -, X82, ⟨Lc82, hQ82, l82, y82, z82⟩, st82⟩ := Jvm.LawKit.callS X55 hx (y := (⟨"com/example/baton/baton/support/Skipped", "contains", "(IJJ[Z)Z"⟩ : MethodName)) hown (mvT hZ (hw _ (List.mem_of_getElem? (i := 1) rfl))) (mvT hZ (hw _ (List.mem_of_getElem? (i := 2) rfl))) (mvT hZ (hw _ (List.mem_of_getElem? (i := 3) rfl))) (mvT hZ (hw _ (List.mem_of_getElem? (i := 4) rfl))) (by decide) (backOf (W := 0) (rm1n l Z av hw [] ps q1 q2  h55 n0 Z55 ) hZ (hw _ (List.mem_of_getElem? (i := 4) rfl)) (hw _ (List.mem_of_getElem? (i := 3) rfl)) (by decide) (by decide)) (g := (mkF m 172 #[.val (.int p0), .val (.long q1), .second, .val (.long q2), .second, .val (.int p3), .val (.int ps), .val (.int (0 : Int32)), .val (.int (1 : Int32)), .val (.int ot), .val (.ref b47), .val .null, .val (.int (0 : Int32))] [.null, (.long q2), (.long q1), (.int ps)])) rfl (by rw [hml]; rfl) (argsL := [(.int ps), (.long q1), (.long q2), .null]) (rest := []) (lenOf pd__IJJ_Z_Z rfl) rfl (by show 2 * 0 + _ ≤ _; exact Nat.le_of_eq rfl) (hb hby at_172) (fun _ _ => ⟨rfl, e55, (by decide : 1 + 0 ≤ _), (by decide : 256 + 0 ≤ _)⟩)
          dsimp only [Pt.U, Pt.locs, Pt.cells, Pt.slots] at X82 l82 y82 z82 st82 hQ82
          subst l82 y82 z82
          obtain ⟨rfl, N82q, e82⟩ := hQ82
          have N82 := Fr.app N55 N82q
          have pre83 : ∀ t, Steps p.tables e below (T82.setTop (mkF m 175 #[.val (.int p0), .val (.long q1), .second, .val (.long q2), .second, .val (.int p3), .val (.int ps), .val (.int (0 : Int32)), .val (.int (1 : Int32)), .val (.int ot), .val (.ref b47), .val .null, .val (.int (0 : Int32))] [(.int (f_cn ps q1 q2))])) t → Steps p.tables e below (s₁.setTop (entryFrame m #[(.int p0), (.long q1), (.long q2), (.int p3)] maxLocals)) t := fun t kt => pre81 t (st82 _ kt)
          have pre84 : ∀ t, Steps p.tables e below (T82.setTop (mkF m 185 #[.val (.int p0), .val (.long q1), .second, .val (.long q2), .second, .val (.int p3), .val (.int ps), .val (.int (0 : Int32)), .val (.int (1 : Int32)), .val (.int ot), .val (.ref b47), .val .null, .val (.int (0 : Int32))] [(.int (1 : Int32))])) t → Steps p.tables e below (s₁.setTop (entryFrame m #[(.int p0), (.long q1), (.long q2), (.int p3)] maxLocals)) t := fun t kt => pre83 t (by
            show Steps p.tables e below (T82.setTop (mkF m 175 #[.val (.int p0), .val (.long q1), .second, .val (.long q2), .second, .val (.int p3), .val (.int ps), .val (.int (0 : Int32)), .val (.int (1 : Int32)), .val (.int ot), .val (.ref b47), .val .null, .val (.int (0 : Int32))] [(.int (f_cn ps q1 q2))])) _
            refine XS.iload X82.here hx rfl (hb hby at_175) rfl ?_
            show Steps p.tables e below (T82.setTop (mkF m 177 #[.val (.int p0), .val (.long q1), .second, .val (.long q2), .second, .val (.int p3), .val (.int ps), .val (.int (0 : Int32)), .val (.int (1 : Int32)), .val (.int ot), .val (.ref b47), .val .null, .val (.int (0 : Int32))] [(.int (0 : Int32)), (.int (f_cn ps q1 q2))])) _
            refine XS.icmpNo X82.here hx rfl (hb hby at_177) rfl (teq (by unfold f_cn; rw [if_neg hc86_58, if_neg hc115_70] : (f_cn ps q1 q2) = (0 : Int32))).2 ?_
            show Steps p.tables e below (T82.setTop (mkF m 180 #[.val (.int p0), .val (.long q1), .second, .val (.long q2), .second, .val (.int p3), .val (.int ps), .val (.int (0 : Int32)), .val (.int (1 : Int32)), .val (.int ot), .val (.ref b47), .val .null, .val (.int (0 : Int32))] [])) _
            refine XS.iconst X82.here hx rfl (hb hby at_180) ?_
            show Steps p.tables e below (T82.setTop (mkF m 181 #[.val (.int p0), .val (.long q1), .second, .val (.long q2), .second, .val (.int p3), .val (.int ps), .val (.int (0 : Int32)), .val (.int (1 : Int32)), .val (.int ot), .val (.ref b47), .val .null, .val (.int (0 : Int32))] [(.int (1 : Int32))])) _
            refine XS.goto X82.here hx rfl (pc0 := 181) (pc' := 185) rfl (hb hby at_181) (by decide) (by decide) ?_
            exact kt)
          obtain ⟨fs, hr, hrun, hended, hW, hsame⟩ := X82.leave (v := some (.int (1 : Int32))) (fun h => by rw [Bd.returns] at h; cases h)
          refine ⟨_, _, pre84 _ ?_, hrun, hended, _, _, rfl, ?_, ⟨_, rfl⟩, hW, hsame.mono (by decide) (by decide)⟩
          · show Steps p.tables e below (T82.setTop (mkF m 185 #[.val (.int p0), .val (.long q1), .second, .val (.long q2), .second, .val (.int p3), .val (.int ps), .val (.int (0 : Int32)), .val (.int (1 : Int32)), .val (.int ot), .val (.ref b47), .val .null, .val (.int (0 : Int32))] [(.int (1 : Int32))])) _
            exact retN X82 hx (t := .boolean) Bd.returns (by simp) (hb hby at_185) hr
          · show Q0 Z p0 q1 q2 p3 h0 n0 _ T82.heap _
            rw [e82]
            exact ⟨rfl, N82⟩
  · have pre85 : ∀ t, Steps p.tables e below (s₁.setTop (mkF m 25 #[.val (.int p0), .val (.long q1), .second, .val (.long q2), .second, .val (.int p3), .val (.int ps), .val (.int (1 : Int32)), .unset, .unset, .unset, .unset, .unset] [(.int (p3 &&& (2 : Int32)))])) t → Steps p.tables e below (s₁.setTop (entryFrame m #[(.int p0), (.long q1), (.long q2), (.int p3)] maxLocals)) t := fun t kt => pre3 t (by
      show Steps p.tables e below (s₁.setTop (mkF m 11 #[.val (.int p0), .val (.long q1), .second, .val (.long q2), .second, .val (.int p3), .val (.int ps), .unset, .unset, .unset, .unset, .unset, .unset] [(.int (p3 &&& (1 : Int32)))])) _
      refine XS.ifNo X0.here hx rfl (hb hby at_11) rfl ((if0 _ _).trans (feq hc11_4).1) ?_
      show Steps p.tables e below (s₁.setTop (mkF m 14 #[.val (.int p0), .val (.long q1), .second, .val (.long q2), .second, .val (.int p3), .val (.int ps), .unset, .unset, .unset, .unset, .unset, .unset] [])) _
      refine XS.iconst X0.here hx rfl (hb hby at_14) ?_
      show Steps p.tables e below (s₁.setTop (mkF m 15 #[.val (.int p0), .val (.long q1), .second, .val (.long q2), .second, .val (.int p3), .val (.int ps), .unset, .unset, .unset, .unset, .unset, .unset] [(.int (1 : Int32))])) _
      refine XS.goto X0.here hx rfl (pc0 := 15) (pc' := 19) rfl (hb hby at_15) (by decide) (by decide) ?_
      show Steps p.tables e below (s₁.setTop (mkF m 19 #[.val (.int p0), .val (.long q1), .second, .val (.long q2), .second, .val (.int p3), .val (.int ps), .unset, .unset, .unset, .unset, .unset, .unset] [(.int (1 : Int32))])) _
      refine XS.istore X0.here hx rfl (hb hby at_19) rfl (l' := #[.val (.int p0), .val (.long q1), .second, .val (.long q2), .second, .val (.int p3), .val (.int ps), .val (.int (1 : Int32)), .unset, .unset, .unset, .unset, .unset]) rfl ?_
      show Steps p.tables e below (s₁.setTop (mkF m 21 #[.val (.int p0), .val (.long q1), .second, .val (.long q2), .second, .val (.int p3), .val (.int ps), .val (.int (1 : Int32)), .unset, .unset, .unset, .unset, .unset] [])) _
      refine XS.iload X0.here hx rfl (hb hby at_21) rfl ?_
      show Steps p.tables e below (s₁.setTop (mkF m 23 #[.val (.int p0), .val (.long q1), .second, .val (.long q2), .second, .val (.int p3), .val (.int ps), .val (.int (1 : Int32)), .unset, .unset, .unset, .unset, .unset] [(.int p3)])) _
      refine XS.iconst X0.here hx rfl (hb hby at_23) ?_
      show Steps p.tables e below (s₁.setTop (mkF m 24 #[.val (.int p0), .val (.long q1), .second, .val (.long q2), .second, .val (.int p3), .val (.int ps), .val (.int (1 : Int32)), .unset, .unset, .unset, .unset, .unset] [(.int (2 : Int32)), (.int p3)])) _
      refine XS.iand X0.here hx rfl (hb hby at_24) rfl ?_
      exact kt)
    by_cases hc25_86 : (p3 &&& (2 : Int32)) = (0 : Int32)
    · have pre87 : ∀ t, Steps p.tables e below (s₁.setTop (mkF m 45 #[.val (.int p0), .val (.long q1), .second, .val (.long q2), .second, .val (.int p3), .val (.int ps), .val (.int (1 : Int32)), .val (.int (0 : Int32)), .val (.int (((p3.toUInt32 >>> ((2 : Int32) &&& 31).toUInt32).toInt32) &&& (255 : Int32))), .unset, .unset, .unset] [])) t → Steps p.tables e below (s₁.setTop (entryFrame m #[(.int p0), (.long q1), (.long q2), (.int p3)] maxLocals)) t := fun t kt => pre85 t (by
        show Steps p.tables e below (s₁.setTop (mkF m 25 #[.val (.int p0), .val (.long q1), .second, .val (.long q2), .second, .val (.int p3), .val (.int ps), .val (.int (1 : Int32)), .unset, .unset, .unset, .unset, .unset] [(.int (p3 &&& (2 : Int32)))])) _
        refine XS.ifYes X0.here hx rfl (pc0 := 25) (pc' := 32) rfl (hb hby at_25) rfl ((if0 _ _).trans (teq hc25_86).1) (by decide) (by decide) ?_
        show Steps p.tables e below (s₁.setTop (mkF m 32 #[.val (.int p0), .val (.long q1), .second, .val (.long q2), .second, .val (.int p3), .val (.int ps), .val (.int (1 : Int32)), .unset, .unset, .unset, .unset, .unset] [])) _
        refine XS.iconst X0.here hx rfl (hb hby at_32) ?_
        show Steps p.tables e below (s₁.setTop (mkF m 33 #[.val (.int p0), .val (.long q1), .second, .val (.long q2), .second, .val (.int p3), .val (.int ps), .val (.int (1 : Int32)), .unset, .unset, .unset, .unset, .unset] [(.int (0 : Int32))])) _
        refine XS.istore X0.here hx rfl (hb hby at_33) rfl (l' := #[.val (.int p0), .val (.long q1), .second, .val (.long q2), .second, .val (.int p3), .val (.int ps), .val (.int (1 : Int32)), .val (.int (0 : Int32)), .unset, .unset, .unset, .unset]) rfl ?_
        show Steps p.tables e below (s₁.setTop (mkF m 35 #[.val (.int p0), .val (.long q1), .second, .val (.long q2), .second, .val (.int p3), .val (.int ps), .val (.int (1 : Int32)), .val (.int (0 : Int32)), .unset, .unset, .unset, .unset] [])) _
        refine XS.iload X0.here hx rfl (hb hby at_35) rfl ?_
        show Steps p.tables e below (s₁.setTop (mkF m 37 #[.val (.int p0), .val (.long q1), .second, .val (.long q2), .second, .val (.int p3), .val (.int ps), .val (.int (1 : Int32)), .val (.int (0 : Int32)), .unset, .unset, .unset, .unset] [(.int p3)])) _
        refine XS.iconst X0.here hx rfl (hb hby at_37) ?_
        show Steps p.tables e below (s₁.setTop (mkF m 38 #[.val (.int p0), .val (.long q1), .second, .val (.long q2), .second, .val (.int p3), .val (.int ps), .val (.int (1 : Int32)), .val (.int (0 : Int32)), .unset, .unset, .unset, .unset] [(.int (2 : Int32)), (.int p3)])) _
        refine XS.iushr X0.here hx rfl (hb hby at_38) rfl ?_
        show Steps p.tables e below (s₁.setTop (mkF m 39 #[.val (.int p0), .val (.long q1), .second, .val (.long q2), .second, .val (.int p3), .val (.int ps), .val (.int (1 : Int32)), .val (.int (0 : Int32)), .unset, .unset, .unset, .unset] [(.int ((p3.toUInt32 >>> ((2 : Int32) &&& 31).toUInt32).toInt32))])) _
        refine XS.sipush X0.here hx rfl (hb hby at_39) ?_
        show Steps p.tables e below (s₁.setTop (mkF m 42 #[.val (.int p0), .val (.long q1), .second, .val (.long q2), .second, .val (.int p3), .val (.int ps), .val (.int (1 : Int32)), .val (.int (0 : Int32)), .unset, .unset, .unset, .unset] [(.int (255 : Int32)), (.int ((p3.toUInt32 >>> ((2 : Int32) &&& 31).toUInt32).toInt32))])) _
        refine XS.iand X0.here hx rfl (hb hby at_42) rfl ?_
        show Steps p.tables e below (s₁.setTop (mkF m 43 #[.val (.int p0), .val (.long q1), .second, .val (.long q2), .second, .val (.int p3), .val (.int ps), .val (.int (1 : Int32)), .val (.int (0 : Int32)), .unset, .unset, .unset, .unset] [(.int (((p3.toUInt32 >>> ((2 : Int32) &&& 31).toUInt32).toInt32) &&& (255 : Int32)))])) _
        refine XS.istore X0.here hx rfl (hb hby at_43) rfl (l' := #[.val (.int p0), .val (.long q1), .second, .val (.long q2), .second, .val (.int p3), .val (.int ps), .val (.int (1 : Int32)), .val (.int (0 : Int32)), .val (.int (((p3.toUInt32 >>> ((2 : Int32) &&& 31).toUInt32).toInt32) &&& (255 : Int32))), .unset, .unset, .unset]) rfl ?_
        exact kt)
      obtain ⟨ot, hm88, pre88⟩ : ∃ (ot : Int32), (¬ ot < 0 ∧ ot < (256 : Int32)) ∧ ∀ t, Steps p.tables e below (s₁.setTop (mkF m 45 #[.val (.int p0), .val (.long q1), .second, .val (.long q2), .second, .val (.int p3), .val (.int ps), .val (.int (1 : Int32)), .val (.int (0 : Int32)), .val (.int ot), .unset, .unset, .unset] [])) t → Steps p.tables e below (s₁.setTop (entryFrame m #[(.int p0), (.long q1), (.long q2), (.int p3)] maxLocals)) t := ⟨(((p3.toUInt32 >>> ((2 : Int32) &&& 31).toUInt32).toInt32) &&& (255 : Int32)), own_b8 _, pre87⟩
      have pre89 : ∀ t, Steps p.tables e below (s₁.setTop (mkF m 48 #[.val (.int p0), .val (.long q1), .second, .val (.long q2), .second, .val (.int p3), .val (.int ps), .val (.int (1 : Int32)), .val (.int (0 : Int32)), .val (.int ot), .unset, .unset, .unset] [(.int (256 : Int32))])) t → Steps p.tables e below (s₁.setTop (entryFrame m #[(.int p0), (.long q1), (.long q2), (.int p3)] maxLocals)) t := fun t kt => pre88 t (by
        show Steps p.tables e below (s₁.setTop (mkF m 45 #[.val (.int p0), .val (.long q1), .second, .val (.long q2), .second, .val (.int p3), .val (.int ps), .val (.int (1 : Int32)), .val (.int (0 : Int32)), .val (.int ot), .unset, .unset, .unset] [])) _
        refine XS.sipush X0.here hx rfl (hb hby at_45) ?_
        exact kt)
      obtain ⟨T90, h90, k90, X90, e90, E90, A90, st90⟩ := newP X0 hx hZ (hw _ (List.mem_of_getElem? (i := 0) rfl)) e0 (g := (mkF m 48 #[.val (.int p0), .val (.long q1), .second, .val (.long q2), .second, .val (.int p3), .val (.int ps), .val (.int (1 : Int32)), .val (.int (0 : Int32)), .val (.int ot), .unset, .unset, .unset] [(.int (256 : Int32))])) rfl (hb hby at_48) rfl (by decide) (cap := 256) (by decide) (by decide) (by decide) (by decide)
      obtain ⟨b90, g90⟩ : ∃ z, z = h0.size := ⟨_, rfl⟩
      rw [← g90] at A90 st90
      have pre91 : ∀ t, Steps p.tables e below (T90.setTop (mkF m 50 #[.val (.int p0), .val (.long q1), .second, .val (.long q2), .second, .val (.int p3), .val (.int ps), .val (.int (1 : Int32)), .val (.int (0 : Int32)), .val (.int ot), .unset, .unset, .unset] [(.ref b90)])) t → Steps p.tables e below (s₁.setTop (entryFrame m #[(.int p0), (.long q1), (.long q2), (.int p3)] maxLocals)) t := fun t kt => pre89 t (st90 _ kt)
      have gn90 : n0 ≤ b90 := Nat.le_trans Z0 (Nat.le_of_eq g90.symm)
      have sz90 : h0.size ≤ b90 := Nat.le_trans K0.1 (Nat.le_of_eq g90.symm)
      have K90 : Keep h0 h90 [] := K0.ext E90
      have Z90 : n0 ≤ h90.size := Nat.le_trans Z0 E90.1
      have V90 : Arh Z h90 b90 k90 .boolean (256 : Int32) [] [] (.int (0 : Int32)) := (Arv.new A90 (by decide)).arh
      have pre92 : ∀ t, Steps p.tables e below (T90.setTop (mkF m 57 #[.val (.int p0), .val (.long q1), .second, .val (.long q2), .second, .val (.int p3), .val (.int ps), .val (.int (1 : Int32)), .val (.int (0 : Int32)), .val (.int ot), .val (.ref b90), .unset, .unset] [(.int (1 : Int32)), (.int ot), (.ref b90)])) t → Steps p.tables e below (s₁.setTop (entryFrame m #[(.int p0), (.long q1), (.long q2), (.int p3)] maxLocals)) t := fun t kt => pre91 t (by
        show Steps p.tables e below (T90.setTop (mkF m 50 #[.val (.int p0), .val (.long q1), .second, .val (.long q2), .second, .val (.int p3), .val (.int ps), .val (.int (1 : Int32)), .val (.int (0 : Int32)), .val (.int ot), .unset, .unset, .unset] [(.ref b90)])) _
        refine XS.astore X90.here hx rfl (hb hby at_50) rfl rfl (l' := #[.val (.int p0), .val (.long q1), .second, .val (.long q2), .second, .val (.int p3), .val (.int ps), .val (.int (1 : Int32)), .val (.int (0 : Int32)), .val (.int ot), .val (.ref b90), .unset, .unset]) rfl ?_
        show Steps p.tables e below (T90.setTop (mkF m 52 #[.val (.int p0), .val (.long q1), .second, .val (.long q2), .second, .val (.int p3), .val (.int ps), .val (.int (1 : Int32)), .val (.int (0 : Int32)), .val (.int ot), .val (.ref b90), .unset, .unset] [])) _
        refine XS.aload X90.here hx rfl (hb hby at_52) rfl rfl ?_
        show Steps p.tables e below (T90.setTop (mkF m 54 #[.val (.int p0), .val (.long q1), .second, .val (.long q2), .second, .val (.int p3), .val (.int ps), .val (.int (1 : Int32)), .val (.int (0 : Int32)), .val (.int ot), .val (.ref b90), .unset, .unset] [(.ref b90)])) _
        refine XS.iload X90.here hx rfl (hb hby at_54) rfl ?_
        show Steps p.tables e below (T90.setTop (mkF m 56 #[.val (.int p0), .val (.long q1), .second, .val (.long q2), .second, .val (.int p3), .val (.int ps), .val (.int (1 : Int32)), .val (.int (0 : Int32)), .val (.int ot), .val (.ref b90), .unset, .unset] [(.int ot), (.ref b90)])) _
        refine XS.iconst X90.here hx rfl (hb hby at_56) ?_
        exact kt)
      have tv93 := V90
      obtain ⟨cl93, Ar93, q93, S93, Ng93, H93, G93⟩ := tv93
      have hin93 : ¬ (ot < 0 ∨ cl93.slots.size ≤ (ot).toNatClampNeg) := inb_of S93 hm88
      obtain ⟨T94, h94, X94, e94, W94, st94⟩ := stZ X90 hx hZ e90 Ar93 (j := ot) hin93 (g := (mkF m 57 #[.val (.int p0), .val (.long q1), .second, .val (.long q2), .second, .val (.int p3), .val (.int ps), .val (.int (1 : Int32)), .val (.int (0 : Int32)), .val (.int ot), .val (.ref b90), .unset, .unset] [(.int (1 : Int32)), (.int ot), (.ref b90)])) rfl rfl (hb hby at_57)
      have pre95 : ∀ t, Steps p.tables e below (T94.setTop (mkF m 58 #[.val (.int p0), .val (.long q1), .second, .val (.long q2), .second, .val (.int p3), .val (.int ps), .val (.int (1 : Int32)), .val (.int (0 : Int32)), .val (.int ot), .val (.ref b90), .unset, .unset] [])) t → Steps p.tables e below (s₁.setTop (entryFrame m #[(.int p0), (.long q1), (.long q2), (.int p3)] maxLocals)) t := fun t kt => pre92 t (st94 _ kt)
      have V94 : Arh Z h94 b90 k90 .boolean (256 : Int32) [(ot, (.int (1 : Int32)))] [] (.int (0 : Int32)) := Arh.push Ar93 q93 S93 Ng93 H93 G93 (fits_nar_bool (1 : Int32)) W94 hin93
      have K94 : Keep h0 h94 [] := K90.wr W94 (Or.inr sz90)
      have N94 := Fr.snoc X94 N0 gn90
      have Z94 : n0 ≤ h94.size := Nat.le_trans Z90 (Keep.of_wr W94).1
      have pre96 : ∀ t, Steps p.tables e below (T94.setTop (mkF m 86 #[.val (.int p0), .val (.long q1), .second, .val (.long q2), .second, .val (.int p3), .val (.int ps), .val (.int (1 : Int32)), .val (.int (0 : Int32)), .val (.int ot), .val (.ref b90), .val (.ref b90), .unset] [(.int (64 : Int32)), (.int ps)])) t → Steps p.tables e below (s₁.setTop (entryFrame m #[(.int p0), (.long q1), (.long q2), (.int p3)] maxLocals)) t := fun t kt => pre95 t (by
        show Steps p.tables e below (T94.setTop (mkF m 58 #[.val (.int p0), .val (.long q1), .second, .val (.long q2), .second, .val (.int p3), .val (.int ps), .val (.int (1 : Int32)), .val (.int (0 : Int32)), .val (.int ot), .val (.ref b90), .unset, .unset] [])) _
        refine XS.iload X94.here hx rfl (hb hby at_58) rfl ?_
        show Steps p.tables e below (T94.setTop (mkF m 60 #[.val (.int p0), .val (.long q1), .second, .val (.long q2), .second, .val (.int p3), .val (.int ps), .val (.int (1 : Int32)), .val (.int (0 : Int32)), .val (.int ot), .val (.ref b90), .unset, .unset] [(.int (0 : Int32))])) _
        refine XS.ifYes X94.here hx rfl (pc0 := 60) (pc' := 69) rfl (hb hby at_60) rfl ((if0 _ _).trans (teq (by decide : (0 : Int32) = (0 : Int32))).1) (by decide) (by decide) ?_
        show Steps p.tables e below (T94.setTop (mkF m 69 #[.val (.int p0), .val (.long q1), .second, .val (.long q2), .second, .val (.int p3), .val (.int ps), .val (.int (1 : Int32)), .val (.int (0 : Int32)), .val (.int ot), .val (.ref b90), .unset, .unset] [])) _
        refine XS.iload X94.here hx rfl (hb hby at_69) rfl ?_
        show Steps p.tables e below (T94.setTop (mkF m 71 #[.val (.int p0), .val (.long q1), .second, .val (.long q2), .second, .val (.int p3), .val (.int ps), .val (.int (1 : Int32)), .val (.int (0 : Int32)), .val (.int ot), .val (.ref b90), .unset, .unset] [(.int (1 : Int32))])) _
        refine XS.ifNo X94.here hx rfl (hb hby at_71) rfl ((if0 _ _).trans (feq (by decide : ¬ ((1 : Int32) = (0 : Int32)))).1) ?_
        show Steps p.tables e below (T94.setTop (mkF m 74 #[.val (.int p0), .val (.long q1), .second, .val (.long q2), .second, .val (.int p3), .val (.int ps), .val (.int (1 : Int32)), .val (.int (0 : Int32)), .val (.int ot), .val (.ref b90), .unset, .unset] [])) _
        refine XS.aload X94.here hx rfl (hb hby at_74) rfl rfl ?_
        show Steps p.tables e below (T94.setTop (mkF m 76 #[.val (.int p0), .val (.long q1), .second, .val (.long q2), .second, .val (.int p3), .val (.int ps), .val (.int (1 : Int32)), .val (.int (0 : Int32)), .val (.int ot), .val (.ref b90), .unset, .unset] [(.ref b90)])) _
        refine XS.goto X94.here hx rfl (pc0 := 76) (pc' := 80) rfl (hb hby at_76) (by decide) (by decide) ?_
        show Steps p.tables e below (T94.setTop (mkF m 80 #[.val (.int p0), .val (.long q1), .second, .val (.long q2), .second, .val (.int p3), .val (.int ps), .val (.int (1 : Int32)), .val (.int (0 : Int32)), .val (.int ot), .val (.ref b90), .unset, .unset] [(.ref b90)])) _
        refine XS.astore X94.here hx rfl (hb hby at_80) rfl rfl (l' := #[.val (.int p0), .val (.long q1), .second, .val (.long q2), .second, .val (.int p3), .val (.int ps), .val (.int (1 : Int32)), .val (.int (0 : Int32)), .val (.int ot), .val (.ref b90), .val (.ref b90), .unset]) rfl ?_
        show Steps p.tables e below (T94.setTop (mkF m 82 #[.val (.int p0), .val (.long q1), .second, .val (.long q2), .second, .val (.int p3), .val (.int ps), .val (.int (1 : Int32)), .val (.int (0 : Int32)), .val (.int ot), .val (.ref b90), .val (.ref b90), .unset] [])) _
        refine XS.iload X94.here hx rfl (hb hby at_82) rfl ?_
        show Steps p.tables e below (T94.setTop (mkF m 84 #[.val (.int p0), .val (.long q1), .second, .val (.long q2), .second, .val (.int p3), .val (.int ps), .val (.int (1 : Int32)), .val (.int (0 : Int32)), .val (.int ot), .val (.ref b90), .val (.ref b90), .unset] [(.int ps)])) _
        refine XS.bipush X94.here hx rfl (hb hby at_84) ?_
        exact kt)
      by_cases hc86_97 : ps < (64 : Int32)
      · have pre98 : ∀ t, Steps p.tables e below (T94.setTop (mkF m 97 #[.val (.int p0), .val (.long q1), .second, .val (.long q2), .second, .val (.int p3), .val (.int ps), .val (.int (1 : Int32)), .val (.int (0 : Int32)), .val (.int ot), .val (.ref b90), .val (.ref b90), .unset] [(.int (lcmpW (((q1.toUInt64 >>> (ps &&& 0x3f).toInt64.toUInt64).toInt64) &&& (1 : Int64)) (1 : Int64)))])) t → Steps p.tables e below (s₁.setTop (entryFrame m #[(.int p0), (.long q1), (.long q2), (.int p3)] maxLocals)) t := fun t kt => pre96 t (by
          show Steps p.tables e below (T94.setTop (mkF m 86 #[.val (.int p0), .val (.long q1), .second, .val (.long q2), .second, .val (.int p3), .val (.int ps), .val (.int (1 : Int32)), .val (.int (0 : Int32)), .val (.int ot), .val (.ref b90), .val (.ref b90), .unset] [(.int (64 : Int32)), (.int ps)])) _
          refine XS.icmpNo X94.here hx rfl (hb hby at_86) rfl (tlt hc86_97).2.1 ?_
          show Steps p.tables e below (T94.setTop (mkF m 89 #[.val (.int p0), .val (.long q1), .second, .val (.long q2), .second, .val (.int p3), .val (.int ps), .val (.int (1 : Int32)), .val (.int (0 : Int32)), .val (.int ot), .val (.ref b90), .val (.ref b90), .unset] [])) _
          refine XS.lloadN X94.here hx rfl (hb hby at_89) rfl ?_
          show Steps p.tables e below (T94.setTop (mkF m 90 #[.val (.int p0), .val (.long q1), .second, .val (.long q2), .second, .val (.int p3), .val (.int ps), .val (.int (1 : Int32)), .val (.int (0 : Int32)), .val (.int ot), .val (.ref b90), .val (.ref b90), .unset] [(.long q1)])) _
          refine XS.iload X94.here hx rfl (hb hby at_90) rfl ?_
          show Steps p.tables e below (T94.setTop (mkF m 92 #[.val (.int p0), .val (.long q1), .second, .val (.long q2), .second, .val (.int p3), .val (.int ps), .val (.int (1 : Int32)), .val (.int (0 : Int32)), .val (.int ot), .val (.ref b90), .val (.ref b90), .unset] [(.int ps), (.long q1)])) _
          refine XS.lushr X94.here hx rfl (hb hby at_92) rfl ?_
          show Steps p.tables e below (T94.setTop (mkF m 93 #[.val (.int p0), .val (.long q1), .second, .val (.long q2), .second, .val (.int p3), .val (.int ps), .val (.int (1 : Int32)), .val (.int (0 : Int32)), .val (.int ot), .val (.ref b90), .val (.ref b90), .unset] [(.long ((q1.toUInt64 >>> (ps &&& 0x3f).toInt64.toUInt64).toInt64))])) _
          refine XS.lconst X94.here hx rfl (hb hby at_93) ?_
          show Steps p.tables e below (T94.setTop (mkF m 94 #[.val (.int p0), .val (.long q1), .second, .val (.long q2), .second, .val (.int p3), .val (.int ps), .val (.int (1 : Int32)), .val (.int (0 : Int32)), .val (.int ot), .val (.ref b90), .val (.ref b90), .unset] [(.long (1 : Int64)), (.long ((q1.toUInt64 >>> (ps &&& 0x3f).toInt64.toUInt64).toInt64))])) _
          refine XS.land X94.here hx rfl (hb hby at_94) rfl ?_
          show Steps p.tables e below (T94.setTop (mkF m 95 #[.val (.int p0), .val (.long q1), .second, .val (.long q2), .second, .val (.int p3), .val (.int ps), .val (.int (1 : Int32)), .val (.int (0 : Int32)), .val (.int ot), .val (.ref b90), .val (.ref b90), .unset] [(.long (((q1.toUInt64 >>> (ps &&& 0x3f).toInt64.toUInt64).toInt64) &&& (1 : Int64)))])) _
          refine XS.lconst X94.here hx rfl (hb hby at_95) ?_
          show Steps p.tables e below (T94.setTop (mkF m 96 #[.val (.int p0), .val (.long q1), .second, .val (.long q2), .second, .val (.int p3), .val (.int ps), .val (.int (1 : Int32)), .val (.int (0 : Int32)), .val (.int ot), .val (.ref b90), .val (.ref b90), .unset] [(.long (1 : Int64)), (.long (((q1.toUInt64 >>> (ps &&& 0x3f).toInt64.toUInt64).toInt64) &&& (1 : Int64)))])) _
          refine XS.lcmp X94.here hx rfl (hb hby at_96) rfl ?_
          exact kt)
        by_cases hc97_99 : (((q1.toUInt64 >>> (ps &&& 0x3f).toInt64.toUInt64).toInt64) &&& (1 : Int64)) = (1 : Int64)
        · have pre100 : ∀ t, Steps p.tables e below (T94.setTop (mkF m 172 #[.val (.int p0), .val (.long q1), .second, .val (.long q2), .second, .val (.int p3), .val (.int ps), .val (.int (1 : Int32)), .val (.int (0 : Int32)), .val (.int ot), .val (.ref b90), .val (.ref b90), .val (.int (1 : Int32))] [(.ref b90), (.long q2), (.long q1), (.int ps)])) t → Steps p.tables e below (s₁.setTop (entryFrame m #[(.int p0), (.long q1), (.long q2), (.int p3)] maxLocals)) t := fun t kt => pre98 t (by
            show Steps p.tables e below (T94.setTop (mkF m 97 #[.val (.int p0), .val (.long q1), .second, .val (.long q2), .second, .val (.int p3), .val (.int ps), .val (.int (1 : Int32)), .val (.int (0 : Int32)), .val (.int ot), .val (.ref b90), .val (.ref b90), .unset] [(.int (lcmpW (((q1.toUInt64 >>> (ps &&& 0x3f).toInt64.toUInt64).toInt64) &&& (1 : Int64)) (1 : Int64)))])) _
            refine XS.ifNo X94.here hx rfl (hb hby at_97) rfl (Jvm.Free.XT.ll_ne_f hc97_99) ?_
            show Steps p.tables e below (T94.setTop (mkF m 100 #[.val (.int p0), .val (.long q1), .second, .val (.long q2), .second, .val (.int p3), .val (.int ps), .val (.int (1 : Int32)), .val (.int (0 : Int32)), .val (.int ot), .val (.ref b90), .val (.ref b90), .unset] [])) _
            refine XS.iconst X94.here hx rfl (hb hby at_100) ?_
            show Steps p.tables e below (T94.setTop (mkF m 101 #[.val (.int p0), .val (.long q1), .second, .val (.long q2), .second, .val (.int p3), .val (.int ps), .val (.int (1 : Int32)), .val (.int (0 : Int32)), .val (.int ot), .val (.ref b90), .val (.ref b90), .unset] [(.int (1 : Int32))])) _
            refine XS.goto X94.here hx rfl (pc0 := 101) (pc' := 105) rfl (hb hby at_101) (by decide) (by decide) ?_
            show Steps p.tables e below (T94.setTop (mkF m 105 #[.val (.int p0), .val (.long q1), .second, .val (.long q2), .second, .val (.int p3), .val (.int ps), .val (.int (1 : Int32)), .val (.int (0 : Int32)), .val (.int ot), .val (.ref b90), .val (.ref b90), .unset] [(.int (1 : Int32))])) _
            refine XS.istore X94.here hx rfl (hb hby at_105) rfl (l' := #[.val (.int p0), .val (.long q1), .second, .val (.long q2), .second, .val (.int p3), .val (.int ps), .val (.int (1 : Int32)), .val (.int (0 : Int32)), .val (.int ot), .val (.ref b90), .val (.ref b90), .val (.int (1 : Int32))]) rfl ?_
            show Steps p.tables e below (T94.setTop (mkF m 107 #[.val (.int p0), .val (.long q1), .second, .val (.long q2), .second, .val (.int p3), .val (.int ps), .val (.int (1 : Int32)), .val (.int (0 : Int32)), .val (.int ot), .val (.ref b90), .val (.ref b90), .val (.int (1 : Int32))] [])) _
            refine XS.goto X94.here hx rfl (pc0 := 107) (pc' := 166) rfl (hb hby at_107) (by decide) (by decide) ?_
            show Steps p.tables e below (T94.setTop (mkF m 166 #[.val (.int p0), .val (.long q1), .second, .val (.long q2), .second, .val (.int p3), .val (.int ps), .val (.int (1 : Int32)), .val (.int (0 : Int32)), .val (.int ot), .val (.ref b90), .val (.ref b90), .val (.int (1 : Int32))] [])) _
            refine XS.iload X94.here hx rfl (hb hby at_166) rfl ?_
            show Steps p.tables e below (T94.setTop (mkF m 168 #[.val (.int p0), .val (.long q1), .second, .val (.long q2), .second, .val (.int p3), .val (.int ps), .val (.int (1 : Int32)), .val (.int (0 : Int32)), .val (.int ot), .val (.ref b90), .val (.ref b90), .val (.int (1 : Int32))] [(.int ps)])) _
            refine XS.lloadN X94.here hx rfl (hb hby at_168) rfl ?_
            show Steps p.tables e below (T94.setTop (mkF m 169 #[.val (.int p0), .val (.long q1), .second, .val (.long q2), .second, .val (.int p3), .val (.int ps), .val (.int (1 : Int32)), .val (.int (0 : Int32)), .val (.int ot), .val (.ref b90), .val (.ref b90), .val (.int (1 : Int32))] [(.long q1), (.int ps)])) _
            refine XS.lloadN X94.here hx rfl (hb hby at_169) rfl ?_
            show Steps p.tables e below (T94.setTop (mkF m 170 #[.val (.int p0), .val (.long q1), .second, .val (.long q2), .second, .val (.int p3), .val (.int ps), .val (.int (1 : Int32)), .val (.int (0 : Int32)), .val (.int ot), .val (.ref b90), .val (.ref b90), .val (.int (1 : Int32))] [(.long q2), (.long q1), (.int ps)])) _
            refine XS.aload X94.here hx rfl (hb hby at_170) rfl rfl ?_
            exact kt)
          have tv101 := V94
          obtain ⟨cl101, Ar101, q101, S101, Ng101, H101, G101⟩ := tv101
          have hin101 : ¬ (ps < 0 ∨ cl101.slots.size ≤ (ps).toNatClampNeg) := inb_of S101 hm2
          obtain ⟨_, _, ⟨T102, L102, k102, n102⟩, -, X102, ⟨Lc102, hQ102, l102, y102, z102⟩, st102⟩ := Jvm.LawKit.callS X94 hx (y := (⟨"com/example/baton/baton/support/Skipped", "contains", "(IJJ[Z)Z"⟩ : MethodName)) hown (mvT hZ (hw _ (List.mem_of_getElem? (i := 1) rfl))) (mvT hZ (hw _ (List.mem_of_getElem? (i := 2) rfl))) (mvT hZ (hw _ (List.mem_of_getElem? (i := 3) rfl))) (mvT hZ (hw _ (List.mem_of_getElem? (i := 4) rfl))) (by decide) (backOf (W := 0) (rm1a l Z av hw [] ps q1 q2 b90 cl101 (0 : Int32) h94 n0 Z94 Ar101 (fun _ => hin101) (fun h => absurd (show ps < (128 : Int32) by have q := hc86_97; simp only [Int32.lt_iff_toInt_lt, Int32.reduceToInt] at *; omega) h)) hZ (hw _ (List.mem_of_getElem? (i := 4) rfl)) (hw _ (List.mem_of_getElem? (i := 3) rfl)) (by decide) (by decide)) (g := (mkF m 172 #[.val (.int p0), .val (.long q1), .second, .val (.long q2), .second, .val (.int p3), .val (.int ps), .val (.int (1 : Int32)), .val (.int (0 : Int32)), .val (.int ot), .val (.ref b90), .val (.ref b90), .val (.int (1 : Int32))] [(.ref b90), (.long q2), (.long q1), (.int ps)])) rfl (by rw [hml]; rfl) (argsL := [(.int ps), (.long q1), (.long q2), (.ref b90)]) (rest := []) (lenOf pd__IJJ_Z_Z rfl) rfl (by show 2 * 0 + _ ≤ _; exact Nat.le_of_eq rfl) (hb hby at_172) (fun _ _ => ⟨rfl, e94, (by decide : 1 + 0 ≤ _), (by decide : 256 + 0 ≤ _)⟩)
          dsimp only [Pt.U, Pt.locs, Pt.cells, Pt.slots] at X102 l102 y102 z102 st102 hQ102
          subst l102 y102 z102
          obtain ⟨rfl, N102q, e102⟩ := hQ102
          have N102 := Fr.app N94 N102q
          have pre103 : ∀ t, Steps p.tables e below (T102.setTop (mkF m 175 #[.val (.int p0), .val (.long q1), .second, .val (.long q2), .second, .val (.int p3), .val (.int ps), .val (.int (1 : Int32)), .val (.int (0 : Int32)), .val (.int ot), .val (.ref b90), .val (.ref b90), .val (.int (1 : Int32))] [(.int (f_ca ps q1 q2 (0 : Int32)))])) t → Steps p.tables e below (s₁.setTop (entryFrame m #[(.int p0), (.long q1), (.long q2), (.int p3)] maxLocals)) t := fun t kt => pre100 t (st102 _ kt)
          have pre104 : ∀ t, Steps p.tables e below (T102.setTop (mkF m 185 #[.val (.int p0), .val (.long q1), .second, .val (.long q2), .second, .val (.int p3), .val (.int ps), .val (.int (1 : Int32)), .val (.int (0 : Int32)), .val (.int ot), .val (.ref b90), .val (.ref b90), .val (.int (1 : Int32))] [(.int (1 : Int32))])) t → Steps p.tables e below (s₁.setTop (entryFrame m #[(.int p0), (.long q1), (.long q2), (.int p3)] maxLocals)) t := fun t kt => pre103 t (by
            show Steps p.tables e below (T102.setTop (mkF m 175 #[.val (.int p0), .val (.long q1), .second, .val (.long q2), .second, .val (.int p3), .val (.int ps), .val (.int (1 : Int32)), .val (.int (0 : Int32)), .val (.int ot), .val (.ref b90), .val (.ref b90), .val (.int (1 : Int32))] [(.int (f_ca ps q1 q2 (0 : Int32)))])) _
            refine XS.iload X102.here hx rfl (hb hby at_175) rfl ?_
            show Steps p.tables e below (T102.setTop (mkF m 177 #[.val (.int p0), .val (.long q1), .second, .val (.long q2), .second, .val (.int p3), .val (.int ps), .val (.int (1 : Int32)), .val (.int (0 : Int32)), .val (.int ot), .val (.ref b90), .val (.ref b90), .val (.int (1 : Int32))] [(.int (1 : Int32)), (.int (f_ca ps q1 q2 (0 : Int32)))])) _
            refine XS.icmpNo X102.here hx rfl (hb hby at_177) rfl (teq (by unfold f_ca; rw [if_pos hc86_97, if_neg (fun q => (own_lo ps q1 hm2).mp q hc97_99)] : (f_ca ps q1 q2 (0 : Int32)) = (1 : Int32))).2 ?_
            show Steps p.tables e below (T102.setTop (mkF m 180 #[.val (.int p0), .val (.long q1), .second, .val (.long q2), .second, .val (.int p3), .val (.int ps), .val (.int (1 : Int32)), .val (.int (0 : Int32)), .val (.int ot), .val (.ref b90), .val (.ref b90), .val (.int (1 : Int32))] [])) _
            refine XS.iconst X102.here hx rfl (hb hby at_180) ?_
            show Steps p.tables e below (T102.setTop (mkF m 181 #[.val (.int p0), .val (.long q1), .second, .val (.long q2), .second, .val (.int p3), .val (.int ps), .val (.int (1 : Int32)), .val (.int (0 : Int32)), .val (.int ot), .val (.ref b90), .val (.ref b90), .val (.int (1 : Int32))] [(.int (1 : Int32))])) _
            refine XS.goto X102.here hx rfl (pc0 := 181) (pc' := 185) rfl (hb hby at_181) (by decide) (by decide) ?_
            exact kt)
          obtain ⟨fs, hr, hrun, hended, hW, hsame⟩ := X102.leave (v := some (.int (1 : Int32))) (fun h => by rw [Bd.returns] at h; cases h)
          refine ⟨_, _, pre104 _ ?_, hrun, hended, _, _, rfl, ?_, ⟨_, rfl⟩, hW, hsame.mono (by decide) (by decide)⟩
          · show Steps p.tables e below (T102.setTop (mkF m 185 #[.val (.int p0), .val (.long q1), .second, .val (.long q2), .second, .val (.int p3), .val (.int ps), .val (.int (1 : Int32)), .val (.int (0 : Int32)), .val (.int ot), .val (.ref b90), .val (.ref b90), .val (.int (1 : Int32))] [(.int (1 : Int32))])) _
            exact retN X102 hx (t := .boolean) Bd.returns (by simp) (hb hby at_185) hr
          · show Q0 Z p0 q1 q2 p3 h0 n0 _ T102.heap _
            rw [e102]
            exact ⟨rfl, N102⟩
        · have pre105 : ∀ t, Steps p.tables e below (T94.setTop (mkF m 172 #[.val (.int p0), .val (.long q1), .second, .val (.long q2), .second, .val (.int p3), .val (.int ps), .val (.int (1 : Int32)), .val (.int (0 : Int32)), .val (.int ot), .val (.ref b90), .val (.ref b90), .val (.int (0 : Int32))] [(.ref b90), (.long q2), (.long q1), (.int ps)])) t → Steps p.tables e below (s₁.setTop (entryFrame m #[(.int p0), (.long q1), (.long q2), (.int p3)] maxLocals)) t := fun t kt => pre98 t (by
            show Steps p.tables e below (T94.setTop (mkF m 97 #[.val (.int p0), .val (.long q1), .second, .val (.long q2), .second, .val (.int p3), .val (.int ps), .val (.int (1 : Int32)), .val (.int (0 : Int32)), .val (.int ot), .val (.ref b90), .val (.ref b90), .unset] [(.int (lcmpW (((q1.toUInt64 >>> (ps &&& 0x3f).toInt64.toUInt64).toInt64) &&& (1 : Int64)) (1 : Int64)))])) _
            refine XS.ifYes X94.here hx rfl (pc0 := 97) (pc' := 104) rfl (hb hby at_97) rfl (Jvm.Free.XT.ll_ne_t hc97_99) (by decide) (by decide) ?_
            show Steps p.tables e below (T94.setTop (mkF m 104 #[.val (.int p0), .val (.long q1), .second, .val (.long q2), .second, .val (.int p3), .val (.int ps), .val (.int (1 : Int32)), .val (.int (0 : Int32)), .val (.int ot), .val (.ref b90), .val (.ref b90), .unset] [])) _
            refine XS.iconst X94.here hx rfl (hb hby at_104) ?_
            show Steps p.tables e below (T94.setTop (mkF m 105 #[.val (.int p0), .val (.long q1), .second, .val (.long q2), .second, .val (.int p3), .val (.int ps), .val (.int (1 : Int32)), .val (.int (0 : Int32)), .val (.int ot), .val (.ref b90), .val (.ref b90), .unset] [(.int (0 : Int32))])) _
            refine XS.istore X94.here hx rfl (hb hby at_105) rfl (l' := #[.val (.int p0), .val (.long q1), .second, .val (.long q2), .second, .val (.int p3), .val (.int ps), .val (.int (1 : Int32)), .val (.int (0 : Int32)), .val (.int ot), .val (.ref b90), .val (.ref b90), .val (.int (0 : Int32))]) rfl ?_
            show Steps p.tables e below (T94.setTop (mkF m 107 #[.val (.int p0), .val (.long q1), .second, .val (.long q2), .second, .val (.int p3), .val (.int ps), .val (.int (1 : Int32)), .val (.int (0 : Int32)), .val (.int ot), .val (.ref b90), .val (.ref b90), .val (.int (0 : Int32))] [])) _
            refine XS.goto X94.here hx rfl (pc0 := 107) (pc' := 166) rfl (hb hby at_107) (by decide) (by decide) ?_
            show Steps p.tables e below (T94.setTop (mkF m 166 #[.val (.int p0), .val (.long q1), .second, .val (.long q2), .second, .val (.int p3), .val (.int ps), .val (.int (1 : Int32)), .val (.int (0 : Int32)), .val (.int ot), .val (.ref b90), .val (.ref b90), .val (.int (0 : Int32))] [])) _
            refine XS.iload X94.here hx rfl (hb hby at_166) rfl ?_
            show Steps p.tables e below (T94.setTop (mkF m 168 #[.val (.int p0), .val (.long q1), .second, .val (.long q2), .second, .val (.int p3), .val (.int ps), .val (.int (1 : Int32)), .val (.int (0 : Int32)), .val (.int ot), .val (.ref b90), .val (.ref b90), .val (.int (0 : Int32))] [(.int ps)])) _
            refine XS.lloadN X94.here hx rfl (hb hby at_168) rfl ?_
            show Steps p.tables e below (T94.setTop (mkF m 169 #[.val (.int p0), .val (.long q1), .second, .val (.long q2), .second, .val (.int p3), .val (.int ps), .val (.int (1 : Int32)), .val (.int (0 : Int32)), .val (.int ot), .val (.ref b90), .val (.ref b90), .val (.int (0 : Int32))] [(.long q1), (.int ps)])) _
            refine XS.lloadN X94.here hx rfl (hb hby at_169) rfl ?_
            show Steps p.tables e below (T94.setTop (mkF m 170 #[.val (.int p0), .val (.long q1), .second, .val (.long q2), .second, .val (.int p3), .val (.int ps), .val (.int (1 : Int32)), .val (.int (0 : Int32)), .val (.int ot), .val (.ref b90), .val (.ref b90), .val (.int (0 : Int32))] [(.long q2), (.long q1), (.int ps)])) _
            refine XS.aload X94.here hx rfl (hb hby at_170) rfl rfl ?_
            exact kt)
          have tv106 := V94
          obtain ⟨cl106, Ar106, q106, S106, Ng106, H106, G106⟩ := tv106
          have hin106 : ¬ (ps < 0 ∨ cl106.slots.size ≤ (ps).toNatClampNeg) := inb_of S106 hm2
          obtain ⟨_, _, ⟨T107, L107, k107, n107⟩, -, X107, ⟨Lc107, hQ107, l107, y107, z107⟩, st107⟩ := Jvm.LawKit.callS X94 hx (y := (⟨"com/example/baton/baton/support/Skipped", "contains", "(IJJ[Z)Z"⟩ : MethodName)) hown (mvT hZ (hw _ (List.mem_of_getElem? (i := 1) rfl))) (mvT hZ (hw _ (List.mem_of_getElem? (i := 2) rfl))) (mvT hZ (hw _ (List.mem_of_getElem? (i := 3) rfl))) (mvT hZ (hw _ (List.mem_of_getElem? (i := 4) rfl))) (by decide) (backOf (W := 0) (rm1a l Z av hw [] ps q1 q2 b90 cl106 (0 : Int32) h94 n0 Z94 Ar106 (fun _ => hin106) (fun h => absurd (show ps < (128 : Int32) by have q := hc86_97; simp only [Int32.lt_iff_toInt_lt, Int32.reduceToInt] at *; omega) h)) hZ (hw _ (List.mem_of_getElem? (i := 4) rfl)) (hw _ (List.mem_of_getElem? (i := 3) rfl)) (by decide) (by decide)) (g := (mkF m 172 #[.val (.int p0), .val (.long q1), .second, .val (.long q2), .second, .val (.int p3), .val (.int ps), .val (.int (1 : Int32)), .val (.int (0 : Int32)), .val (.int ot), .val (.ref b90), .val (.ref b90), .val (.int (0 : Int32))] [(.ref b90), (.long q2), (.long q1), (.int ps)])) rfl (by rw [hml]; rfl) (argsL := [(.int ps), (.long q1), (.long q2), (.ref b90)]) (rest := []) (lenOf pd__IJJ_Z_Z rfl) rfl (by show 2 * 0 + _ ≤ _; exact Nat.le_of_eq rfl) (hb hby at_172) (fun _ _ => ⟨rfl, e94, (by decide : 1 + 0 ≤ _), (by decide : 256 + 0 ≤ _)⟩)
          dsimp only [Pt.U, Pt.locs, Pt.cells, Pt.slots] at X107 l107 y107 z107 st107 hQ107
          subst l107 y107 z107
          obtain ⟨rfl, N107q, e107⟩ := hQ107
          have N107 := Fr.app N94 N107q
          have pre108 : ∀ t, Steps p.tables e below (T107.setTop (mkF m 175 #[.val (.int p0), .val (.long q1), .second, .val (.long q2), .second, .val (.int p3), .val (.int ps), .val (.int (1 : Int32)), .val (.int (0 : Int32)), .val (.int ot), .val (.ref b90), .val (.ref b90), .val (.int (0 : Int32))] [(.int (f_ca ps q1 q2 (0 : Int32)))])) t → Steps p.tables e below (s₁.setTop (entryFrame m #[(.int p0), (.long q1), (.long q2), (.int p3)] maxLocals)) t := fun t kt => pre105 t (st107 _ kt)
          have pre109 : ∀ t, Steps p.tables e below (T107.setTop (mkF m 185 #[.val (.int p0), .val (.long q1), .second, .val (.long q2), .second, .val (.int p3), .val (.int ps), .val (.int (1 : Int32)), .val (.int (0 : Int32)), .val (.int ot), .val (.ref b90), .val (.ref b90), .val (.int (0 : Int32))] [(.int (1 : Int32))])) t → Steps p.tables e below (s₁.setTop (entryFrame m #[(.int p0), (.long q1), (.long q2), (.int p3)] maxLocals)) t := fun t kt => pre108 t (by
            show Steps p.tables e below (T107.setTop (mkF m 175 #[.val (.int p0), .val (.long q1), .second, .val (.long q2), .second, .val (.int p3), .val (.int ps), .val (.int (1 : Int32)), .val (.int (0 : Int32)), .val (.int ot), .val (.ref b90), .val (.ref b90), .val (.int (0 : Int32))] [(.int (f_ca ps q1 q2 (0 : Int32)))])) _
            refine XS.iload X107.here hx rfl (hb hby at_175) rfl ?_
            show Steps p.tables e below (T107.setTop (mkF m 177 #[.val (.int p0), .val (.long q1), .second, .val (.long q2), .second, .val (.int p3), .val (.int ps), .val (.int (1 : Int32)), .val (.int (0 : Int32)), .val (.int ot), .val (.ref b90), .val (.ref b90), .val (.int (0 : Int32))] [(.int (0 : Int32)), (.int (f_ca ps q1 q2 (0 : Int32)))])) _
            refine XS.icmpNo X107.here hx rfl (hb hby at_177) rfl (teq (by unfold f_ca; rw [if_pos hc86_97, if_pos ((own_lo ps q1 hm2).mpr hc97_99)] : (f_ca ps q1 q2 (0 : Int32)) = (0 : Int32))).2 ?_
            show Steps p.tables e below (T107.setTop (mkF m 180 #[.val (.int p0), .val (.long q1), .second, .val (.long q2), .second, .val (.int p3), .val (.int ps), .val (.int (1 : Int32)), .val (.int (0 : Int32)), .val (.int ot), .val (.ref b90), .val (.ref b90), .val (.int (0 : Int32))] [])) _
            refine XS.iconst X107.here hx rfl (hb hby at_180) ?_
            show Steps p.tables e below (T107.setTop (mkF m 181 #[.val (.int p0), .val (.long q1), .second, .val (.long q2), .second, .val (.int p3), .val (.int ps), .val (.int (1 : Int32)), .val (.int (0 : Int32)), .val (.int ot), .val (.ref b90), .val (.ref b90), .val (.int (0 : Int32))] [(.int (1 : Int32))])) _
            refine XS.goto X107.here hx rfl (pc0 := 181) (pc' := 185) rfl (hb hby at_181) (by decide) (by decide) ?_
            exact kt)
          obtain ⟨fs, hr, hrun, hended, hW, hsame⟩ := X107.leave (v := some (.int (1 : Int32))) (fun h => by rw [Bd.returns] at h; cases h)
          refine ⟨_, _, pre109 _ ?_, hrun, hended, _, _, rfl, ?_, ⟨_, rfl⟩, hW, hsame.mono (by decide) (by decide)⟩
          · show Steps p.tables e below (T107.setTop (mkF m 185 #[.val (.int p0), .val (.long q1), .second, .val (.long q2), .second, .val (.int p3), .val (.int ps), .val (.int (1 : Int32)), .val (.int (0 : Int32)), .val (.int ot), .val (.ref b90), .val (.ref b90), .val (.int (0 : Int32))] [(.int (1 : Int32))])) _
            exact retN X107 hx (t := .boolean) Bd.returns (by simp) (hb hby at_185) hr
          · show Q0 Z p0 q1 q2 p3 h0 n0 _ T107.heap _
            rw [e107]
            exact ⟨rfl, N107⟩
      · have pre110 : ∀ t, Steps p.tables e below (T94.setTop (mkF m 115 #[.val (.int p0), .val (.long q1), .second, .val (.long q2), .second, .val (.int p3), .val (.int ps), .val (.int (1 : Int32)), .val (.int (0 : Int32)), .val (.int ot), .val (.ref b90), .val (.ref b90), .unset] [(.int (128 : Int32)), (.int ps)])) t → Steps p.tables e below (s₁.setTop (entryFrame m #[(.int p0), (.long q1), (.long q2), (.int p3)] maxLocals)) t := fun t kt => pre96 t (by
          show Steps p.tables e below (T94.setTop (mkF m 86 #[.val (.int p0), .val (.long q1), .second, .val (.long q2), .second, .val (.int p3), .val (.int ps), .val (.int (1 : Int32)), .val (.int (0 : Int32)), .val (.int ot), .val (.ref b90), .val (.ref b90), .unset] [(.int (64 : Int32)), (.int ps)])) _
          refine XS.icmpYes X94.here hx rfl (pc0 := 86) (pc' := 110) rfl (hb hby at_86) rfl (flt hc86_97).2.1 (by decide) (by decide) ?_
          show Steps p.tables e below (T94.setTop (mkF m 110 #[.val (.int p0), .val (.long q1), .second, .val (.long q2), .second, .val (.int p3), .val (.int ps), .val (.int (1 : Int32)), .val (.int (0 : Int32)), .val (.int ot), .val (.ref b90), .val (.ref b90), .unset] [])) _
          refine XS.iload X94.here hx rfl (hb hby at_110) rfl ?_
          show Steps p.tables e below (T94.setTop (mkF m 112 #[.val (.int p0), .val (.long q1), .second, .val (.long q2), .second, .val (.int p3), .val (.int ps), .val (.int (1 : Int32)), .val (.int (0 : Int32)), .val (.int ot), .val (.ref b90), .val (.ref b90), .unset] [(.int ps)])) _
          refine XS.sipush X94.here hx rfl (hb hby at_112) ?_
          exact kt)
        by_cases hc115_111 : ps < (128 : Int32)
        · have pre112 : ∀ t, Steps p.tables e below (T94.setTop (mkF m 129 #[.val (.int p0), .val (.long q1), .second, .val (.long q2), .second, .val (.int p3), .val (.int ps), .val (.int (1 : Int32)), .val (.int (0 : Int32)), .val (.int ot), .val (.ref b90), .val (.ref b90), .unset] [(.int (lcmpW (((q2.toUInt64 >>> ((ps - (64 : Int32)) &&& 0x3f).toInt64.toUInt64).toInt64) &&& (1 : Int64)) (1 : Int64)))])) t → Steps p.tables e below (s₁.setTop (entryFrame m #[(.int p0), (.long q1), (.long q2), (.int p3)] maxLocals)) t := fun t kt => pre110 t (by
            show Steps p.tables e below (T94.setTop (mkF m 115 #[.val (.int p0), .val (.long q1), .second, .val (.long q2), .second, .val (.int p3), .val (.int ps), .val (.int (1 : Int32)), .val (.int (0 : Int32)), .val (.int ot), .val (.ref b90), .val (.ref b90), .unset] [(.int (128 : Int32)), (.int ps)])) _
            refine XS.icmpNo X94.here hx rfl (hb hby at_115) rfl (tlt hc115_111).2.1 ?_
            show Steps p.tables e below (T94.setTop (mkF m 118 #[.val (.int p0), .val (.long q1), .second, .val (.long q2), .second, .val (.int p3), .val (.int ps), .val (.int (1 : Int32)), .val (.int (0 : Int32)), .val (.int ot), .val (.ref b90), .val (.ref b90), .unset] [])) _
            refine XS.lloadN X94.here hx rfl (hb hby at_118) rfl ?_
            show Steps p.tables e below (T94.setTop (mkF m 119 #[.val (.int p0), .val (.long q1), .second, .val (.long q2), .second, .val (.int p3), .val (.int ps), .val (.int (1 : Int32)), .val (.int (0 : Int32)), .val (.int ot), .val (.ref b90), .val (.ref b90), .unset] [(.long q2)])) _
            refine XS.iload X94.here hx rfl (hb hby at_119) rfl ?_
            show Steps p.tables e below (T94.setTop (mkF m 121 #[.val (.int p0), .val (.long q1), .second, .val (.long q2), .second, .val (.int p3), .val (.int ps), .val (.int (1 : Int32)), .val (.int (0 : Int32)), .val (.int ot), .val (.ref b90), .val (.ref b90), .unset] [(.int ps), (.long q2)])) _
            refine XS.bipush X94.here hx rfl (hb hby at_121) ?_
            show Steps p.tables e below (T94.setTop (mkF m 123 #[.val (.int p0), .val (.long q1), .second, .val (.long q2), .second, .val (.int p3), .val (.int ps), .val (.int (1 : Int32)), .val (.int (0 : Int32)), .val (.int ot), .val (.ref b90), .val (.ref b90), .unset] [(.int (64 : Int32)), (.int ps), (.long q2)])) _
            refine XS.isub X94.here hx rfl (hb hby at_123) rfl ?_
            show Steps p.tables e below (T94.setTop (mkF m 124 #[.val (.int p0), .val (.long q1), .second, .val (.long q2), .second, .val (.int p3), .val (.int ps), .val (.int (1 : Int32)), .val (.int (0 : Int32)), .val (.int ot), .val (.ref b90), .val (.ref b90), .unset] [(.int (ps - (64 : Int32))), (.long q2)])) _
            refine XS.lushr X94.here hx rfl (hb hby at_124) rfl ?_
            show Steps p.tables e below (T94.setTop (mkF m 125 #[.val (.int p0), .val (.long q1), .second, .val (.long q2), .second, .val (.int p3), .val (.int ps), .val (.int (1 : Int32)), .val (.int (0 : Int32)), .val (.int ot), .val (.ref b90), .val (.ref b90), .unset] [(.long ((q2.toUInt64 >>> ((ps - (64 : Int32)) &&& 0x3f).toInt64.toUInt64).toInt64))])) _
            refine XS.lconst X94.here hx rfl (hb hby at_125) ?_
            show Steps p.tables e below (T94.setTop (mkF m 126 #[.val (.int p0), .val (.long q1), .second, .val (.long q2), .second, .val (.int p3), .val (.int ps), .val (.int (1 : Int32)), .val (.int (0 : Int32)), .val (.int ot), .val (.ref b90), .val (.ref b90), .unset] [(.long (1 : Int64)), (.long ((q2.toUInt64 >>> ((ps - (64 : Int32)) &&& 0x3f).toInt64.toUInt64).toInt64))])) _
            refine XS.land X94.here hx rfl (hb hby at_126) rfl ?_
            show Steps p.tables e below (T94.setTop (mkF m 127 #[.val (.int p0), .val (.long q1), .second, .val (.long q2), .second, .val (.int p3), .val (.int ps), .val (.int (1 : Int32)), .val (.int (0 : Int32)), .val (.int ot), .val (.ref b90), .val (.ref b90), .unset] [(.long (((q2.toUInt64 >>> ((ps - (64 : Int32)) &&& 0x3f).toInt64.toUInt64).toInt64) &&& (1 : Int64)))])) _
            refine XS.lconst X94.here hx rfl (hb hby at_127) ?_
            show Steps p.tables e below (T94.setTop (mkF m 128 #[.val (.int p0), .val (.long q1), .second, .val (.long q2), .second, .val (.int p3), .val (.int ps), .val (.int (1 : Int32)), .val (.int (0 : Int32)), .val (.int ot), .val (.ref b90), .val (.ref b90), .unset] [(.long (1 : Int64)), (.long (((q2.toUInt64 >>> ((ps - (64 : Int32)) &&& 0x3f).toInt64.toUInt64).toInt64) &&& (1 : Int64)))])) _
            refine XS.lcmp X94.here hx rfl (hb hby at_128) rfl ?_
            exact kt)
          by_cases hc129_113 : (((q2.toUInt64 >>> ((ps - (64 : Int32)) &&& 0x3f).toInt64.toUInt64).toInt64) &&& (1 : Int64)) = (1 : Int64)
          · have pre114 : ∀ t, Steps p.tables e below (T94.setTop (mkF m 172 #[.val (.int p0), .val (.long q1), .second, .val (.long q2), .second, .val (.int p3), .val (.int ps), .val (.int (1 : Int32)), .val (.int (0 : Int32)), .val (.int ot), .val (.ref b90), .val (.ref b90), .val (.int (1 : Int32))] [(.ref b90), (.long q2), (.long q1), (.int ps)])) t → Steps p.tables e below (s₁.setTop (entryFrame m #[(.int p0), (.long q1), (.long q2), (.int p3)] maxLocals)) t := fun t kt => pre112 t (by
              show Steps p.tables e below (T94.setTop (mkF m 129 #[.val (.int p0), .val (.long q1), .second, .val (.long q2), .second, .val (.int p3), .val (.int ps), .val (.int (1 : Int32)), .val (.int (0 : Int32)), .val (.int ot), .val (.ref b90), .val (.ref b90), .unset] [(.int (lcmpW (((q2.toUInt64 >>> ((ps - (64 : Int32)) &&& 0x3f).toInt64.toUInt64).toInt64) &&& (1 : Int64)) (1 : Int64)))])) _
              refine XS.ifNo X94.here hx rfl (hb hby at_129) rfl (Jvm.Free.XT.ll_ne_f hc129_113) ?_
              show Steps p.tables e below (T94.setTop (mkF m 132 #[.val (.int p0), .val (.long q1), .second, .val (.long q2), .second, .val (.int p3), .val (.int ps), .val (.int (1 : Int32)), .val (.int (0 : Int32)), .val (.int ot), .val (.ref b90), .val (.ref b90), .unset] [])) _
              refine XS.iconst X94.here hx rfl (hb hby at_132) ?_
              show Steps p.tables e below (T94.setTop (mkF m 133 #[.val (.int p0), .val (.long q1), .second, .val (.long q2), .second, .val (.int p3), .val (.int ps), .val (.int (1 : Int32)), .val (.int (0 : Int32)), .val (.int ot), .val (.ref b90), .val (.ref b90), .unset] [(.int (1 : Int32))])) _
              refine XS.goto X94.here hx rfl (pc0 := 133) (pc' := 137) rfl (hb hby at_133) (by decide) (by decide) ?_
              show Steps p.tables e below (T94.setTop (mkF m 137 #[.val (.int p0), .val (.long q1), .second, .val (.long q2), .second, .val (.int p3), .val (.int ps), .val (.int (1 : Int32)), .val (.int (0 : Int32)), .val (.int ot), .val (.ref b90), .val (.ref b90), .unset] [(.int (1 : Int32))])) _
              refine XS.istore X94.here hx rfl (hb hby at_137) rfl (l' := #[.val (.int p0), .val (.long q1), .second, .val (.long q2), .second, .val (.int p3), .val (.int ps), .val (.int (1 : Int32)), .val (.int (0 : Int32)), .val (.int ot), .val (.ref b90), .val (.ref b90), .val (.int (1 : Int32))]) rfl ?_
              show Steps p.tables e below (T94.setTop (mkF m 139 #[.val (.int p0), .val (.long q1), .second, .val (.long q2), .second, .val (.int p3), .val (.int ps), .val (.int (1 : Int32)), .val (.int (0 : Int32)), .val (.int ot), .val (.ref b90), .val (.ref b90), .val (.int (1 : Int32))] [])) _
              refine XS.goto X94.here hx rfl (pc0 := 139) (pc' := 166) rfl (hb hby at_139) (by decide) (by decide) ?_
              show Steps p.tables e below (T94.setTop (mkF m 166 #[.val (.int p0), .val (.long q1), .second, .val (.long q2), .second, .val (.int p3), .val (.int ps), .val (.int (1 : Int32)), .val (.int (0 : Int32)), .val (.int ot), .val (.ref b90), .val (.ref b90), .val (.int (1 : Int32))] [])) _
              refine XS.iload X94.here hx rfl (hb hby at_166) rfl ?_
              show Steps p.tables e below (T94.setTop (mkF m 168 #[.val (.int p0), .val (.long q1), .second, .val (.long q2), .second, .val (.int p3), .val (.int ps), .val (.int (1 : Int32)), .val (.int (0 : Int32)), .val (.int ot), .val (.ref b90), .val (.ref b90), .val (.int (1 : Int32))] [(.int ps)])) _
              refine XS.lloadN X94.here hx rfl (hb hby at_168) rfl ?_
              show Steps p.tables e below (T94.setTop (mkF m 169 #[.val (.int p0), .val (.long q1), .second, .val (.long q2), .second, .val (.int p3), .val (.int ps), .val (.int (1 : Int32)), .val (.int (0 : Int32)), .val (.int ot), .val (.ref b90), .val (.ref b90), .val (.int (1 : Int32))] [(.long q1), (.int ps)])) _
              refine XS.lloadN X94.here hx rfl (hb hby at_169) rfl ?_
              show Steps p.tables e below (T94.setTop (mkF m 170 #[.val (.int p0), .val (.long q1), .second, .val (.long q2), .second, .val (.int p3), .val (.int ps), .val (.int (1 : Int32)), .val (.int (0 : Int32)), .val (.int ot), .val (.ref b90), .val (.ref b90), .val (.int (1 : Int32))] [(.long q2), (.long q1), (.int ps)])) _
              refine XS.aload X94.here hx rfl (hb hby at_170) rfl rfl ?_
              exact kt)
            have tv115 := V94
            obtain ⟨cl115, Ar115, q115, S115, Ng115, H115, G115⟩ := tv115
            have hin115 : ¬ (ps < 0 ∨ cl115.slots.size ≤ (ps).toNatClampNeg) := inb_of S115 hm2
            obtain ⟨_, _, ⟨T116, L116, k116, n116⟩, -, X116, ⟨Lc116, hQ116, l116, y116, z116⟩, st116⟩ := Jvm.LawKit.callS X94 hx (y := (⟨"com/example/baton/baton/support/Skipped", "contains", "(IJJ[Z)Z"⟩ : MethodName)) hown (mvT hZ (hw _ (List.mem_of_getElem? (i := 1) rfl))) (mvT hZ (hw _ (List.mem_of_getElem? (i := 2) rfl))) (mvT hZ (hw _ (List.mem_of_getElem? (i := 3) rfl))) (mvT hZ (hw _ (List.mem_of_getElem? (i := 4) rfl))) (by decide) (backOf (W := 0) (rm1a l Z av hw [] ps q1 q2 b90 cl115 (0 : Int32) h94 n0 Z94 Ar115 (fun _ => hin115) (fun h => absurd hc115_111 h)) hZ (hw _ (List.mem_of_getElem? (i := 4) rfl)) (hw _ (List.mem_of_getElem? (i := 3) rfl)) (by decide) (by decide)) (g := (mkF m 172 #[.val (.int p0), .val (.long q1), .second, .val (.long q2), .second, .val (.int p3), .val (.int ps), .val (.int (1 : Int32)), .val (.int (0 : Int32)), .val (.int ot), .val (.ref b90), .val (.ref b90), .val (.int (1 : Int32))] [(.ref b90), (.long q2), (.long q1), (.int ps)])) rfl (by rw [hml]; rfl) (argsL := [(.int ps), (.long q1), (.long q2), (.ref b90)]) (rest := []) (lenOf pd__IJJ_Z_Z rfl) rfl (by show 2 * 0 + _ ≤ _; exact Nat.le_of_eq rfl) (hb hby at_172) (fun _ _ => ⟨rfl, e94, (by decide : 1 + 0 ≤ _), (by decide : 256 + 0 ≤ _)⟩)
            dsimp only [Pt.U, Pt.locs, Pt.cells, Pt.slots] at X116 l116 y116 z116 st116 hQ116
            subst l116 y116 z116
            obtain ⟨rfl, N116q, e116⟩ := hQ116
            have N116 := Fr.app N94 N116q
            have pre117 : ∀ t, Steps p.tables e below (T116.setTop (mkF m 175 #[.val (.int p0), .val (.long q1), .second, .val (.long q2), .second, .val (.int p3), .val (.int ps), .val (.int (1 : Int32)), .val (.int (0 : Int32)), .val (.int ot), .val (.ref b90), .val (.ref b90), .val (.int (1 : Int32))] [(.int (f_ca ps q1 q2 (0 : Int32)))])) t → Steps p.tables e below (s₁.setTop (entryFrame m #[(.int p0), (.long q1), (.long q2), (.int p3)] maxLocals)) t := fun t kt => pre114 t (st116 _ kt)
            have pre118 : ∀ t, Steps p.tables e below (T116.setTop (mkF m 185 #[.val (.int p0), .val (.long q1), .second, .val (.long q2), .second, .val (.int p3), .val (.int ps), .val (.int (1 : Int32)), .val (.int (0 : Int32)), .val (.int ot), .val (.ref b90), .val (.ref b90), .val (.int (1 : Int32))] [(.int (1 : Int32))])) t → Steps p.tables e below (s₁.setTop (entryFrame m #[(.int p0), (.long q1), (.long q2), (.int p3)] maxLocals)) t := fun t kt => pre117 t (by
              show Steps p.tables e below (T116.setTop (mkF m 175 #[.val (.int p0), .val (.long q1), .second, .val (.long q2), .second, .val (.int p3), .val (.int ps), .val (.int (1 : Int32)), .val (.int (0 : Int32)), .val (.int ot), .val (.ref b90), .val (.ref b90), .val (.int (1 : Int32))] [(.int (f_ca ps q1 q2 (0 : Int32)))])) _
              refine XS.iload X116.here hx rfl (hb hby at_175) rfl ?_
              show Steps p.tables e below (T116.setTop (mkF m 177 #[.val (.int p0), .val (.long q1), .second, .val (.long q2), .second, .val (.int p3), .val (.int ps), .val (.int (1 : Int32)), .val (.int (0 : Int32)), .val (.int ot), .val (.ref b90), .val (.ref b90), .val (.int (1 : Int32))] [(.int (1 : Int32)), (.int (f_ca ps q1 q2 (0 : Int32)))])) _
              refine XS.icmpNo X116.here hx rfl (hb hby at_177) rfl (teq (by unfold f_ca; rw [if_neg hc86_97, if_pos hc115_111, if_neg (fun q => (own_hi ps q2 hm2 hc86_97).mp q hc129_113)] : (f_ca ps q1 q2 (0 : Int32)) = (1 : Int32))).2 ?_
              show Steps p.tables e below (T116.setTop (mkF m 180 #[.val (.int p0), .val (.long q1), .second, .val (.long q2), .second, .val (.int p3), .val (.int ps), .val (.int (1 : Int32)), .val (.int (0 : Int32)), .val (.int ot), .val (.ref b90), .val (.ref b90), .val (.int (1 : Int32))] [])) _
              refine XS.iconst X116.here hx rfl (hb hby at_180) ?_
              show Steps p.tables e below (T116.setTop (mkF m 181 #[.val (.int p0), .val (.long q1), .second, .val (.long q2), .second, .val (.int p3), .val (.int ps), .val (.int (1 : Int32)), .val (.int (0 : Int32)), .val (.int ot), .val (.ref b90), .val (.ref b90), .val (.int (1 : Int32))] [(.int (1 : Int32))])) _
              refine XS.goto X116.here hx rfl (pc0 := 181) (pc' := 185) rfl (hb hby at_181) (by decide) (by decide) ?_
              exact kt)
            obtain ⟨fs, hr, hrun, hended, hW, hsame⟩ := X116.leave (v := some (.int (1 : Int32))) (fun h => by rw [Bd.returns] at h; cases h)
            refine ⟨_, _, pre118 _ ?_, hrun, hended, _, _, rfl, ?_, ⟨_, rfl⟩, hW, hsame.mono (by decide) (by decide)⟩
            · show Steps p.tables e below (T116.setTop (mkF m 185 #[.val (.int p0), .val (.long q1), .second, .val (.long q2), .second, .val (.int p3), .val (.int ps), .val (.int (1 : Int32)), .val (.int (0 : Int32)), .val (.int ot), .val (.ref b90), .val (.ref b90), .val (.int (1 : Int32))] [(.int (1 : Int32))])) _
              exact retN X116 hx (t := .boolean) Bd.returns (by simp) (hb hby at_185) hr
            · show Q0 Z p0 q1 q2 p3 h0 n0 _ T116.heap _
              rw [e116]
              exact ⟨rfl, N116⟩
          · have pre119 : ∀ t, Steps p.tables e below (T94.setTop (mkF m 172 #[.val (.int p0), .val (.long q1), .second, .val (.long q2), .second, .val (.int p3), .val (.int ps), .val (.int (1 : Int32)), .val (.int (0 : Int32)), .val (.int ot), .val (.ref b90), .val (.ref b90), .val (.int (0 : Int32))] [(.ref b90), (.long q2), (.long q1), (.int ps)])) t → Steps p.tables e below (s₁.setTop (entryFrame m #[(.int p0), (.long q1), (.long q2), (.int p3)] maxLocals)) t := fun t kt => pre112 t (by
              show Steps p.tables e below (T94.setTop (mkF m 129 #[.val (.int p0), .val (.long q1), .second, .val (.long q2), .second, .val (.int p3), .val (.int ps), .val (.int (1 : Int32)), .val (.int (0 : Int32)), .val (.int ot), .val (.ref b90), .val (.ref b90), .unset] [(.int (lcmpW (((q2.toUInt64 >>> ((ps - (64 : Int32)) &&& 0x3f).toInt64.toUInt64).toInt64) &&& (1 : Int64)) (1 : Int64)))])) _
              refine XS.ifYes X94.here hx rfl (pc0 := 129) (pc' := 136) rfl (hb hby at_129) rfl (Jvm.Free.XT.ll_ne_t hc129_113) (by decide) (by decide) ?_
              show Steps p.tables e below (T94.setTop (mkF m 136 #[.val (.int p0), .val (.long q1), .second, .val (.long q2), .second, .val (.int p3), .val (.int ps), .val (.int (1 : Int32)), .val (.int (0 : Int32)), .val (.int ot), .val (.ref b90), .val (.ref b90), .unset] [])) _
              refine XS.iconst X94.here hx rfl (hb hby at_136) ?_
              show Steps p.tables e below (T94.setTop (mkF m 137 #[.val (.int p0), .val (.long q1), .second, .val (.long q2), .second, .val (.int p3), .val (.int ps), .val (.int (1 : Int32)), .val (.int (0 : Int32)), .val (.int ot), .val (.ref b90), .val (.ref b90), .unset] [(.int (0 : Int32))])) _
              refine XS.istore X94.here hx rfl (hb hby at_137) rfl (l' := #[.val (.int p0), .val (.long q1), .second, .val (.long q2), .second, .val (.int p3), .val (.int ps), .val (.int (1 : Int32)), .val (.int (0 : Int32)), .val (.int ot), .val (.ref b90), .val (.ref b90), .val (.int (0 : Int32))]) rfl ?_
              show Steps p.tables e below (T94.setTop (mkF m 139 #[.val (.int p0), .val (.long q1), .second, .val (.long q2), .second, .val (.int p3), .val (.int ps), .val (.int (1 : Int32)), .val (.int (0 : Int32)), .val (.int ot), .val (.ref b90), .val (.ref b90), .val (.int (0 : Int32))] [])) _
              refine XS.goto X94.here hx rfl (pc0 := 139) (pc' := 166) rfl (hb hby at_139) (by decide) (by decide) ?_
              show Steps p.tables e below (T94.setTop (mkF m 166 #[.val (.int p0), .val (.long q1), .second, .val (.long q2), .second, .val (.int p3), .val (.int ps), .val (.int (1 : Int32)), .val (.int (0 : Int32)), .val (.int ot), .val (.ref b90), .val (.ref b90), .val (.int (0 : Int32))] [])) _
              refine XS.iload X94.here hx rfl (hb hby at_166) rfl ?_
              show Steps p.tables e below (T94.setTop (mkF m 168 #[.val (.int p0), .val (.long q1), .second, .val (.long q2), .second, .val (.int p3), .val (.int ps), .val (.int (1 : Int32)), .val (.int (0 : Int32)), .val (.int ot), .val (.ref b90), .val (.ref b90), .val (.int (0 : Int32))] [(.int ps)])) _
              refine XS.lloadN X94.here hx rfl (hb hby at_168) rfl ?_
              show Steps p.tables e below (T94.setTop (mkF m 169 #[.val (.int p0), .val (.long q1), .second, .val (.long q2), .second, .val (.int p3), .val (.int ps), .val (.int (1 : Int32)), .val (.int (0 : Int32)), .val (.int ot), .val (.ref b90), .val (.ref b90), .val (.int (0 : Int32))] [(.long q1), (.int ps)])) _
              refine XS.lloadN X94.here hx rfl (hb hby at_169) rfl ?_
              show Steps p.tables e below (T94.setTop (mkF m 170 #[.val (.int p0), .val (.long q1), .second, .val (.long q2), .second, .val (.int p3), .val (.int ps), .val (.int (1 : Int32)), .val (.int (0 : Int32)), .val (.int ot), .val (.ref b90), .val (.ref b90), .val (.int (0 : Int32))] [(.long q2), (.long q1), (.int ps)])) _
              refine XS.aload X94.here hx rfl (hb hby at_170) rfl rfl ?_
              exact kt)
            have tv120 := V94
            obtain ⟨cl120, Ar120, q120, S120, Ng120, H120, G120⟩ := tv120
            have hin120 : ¬ (ps < 0 ∨ cl120.slots.size ≤ (ps).toNatClampNeg) := inb_of S120 hm2
            obtain ⟨_, _, ⟨T121, L121, k121, n121⟩, -, X121, ⟨Lc121, hQ121, l121, y121, z121⟩, st121⟩ := Jvm.LawKit.callS X94 hx (y := (⟨"com/example/baton/baton/support/Skipped", "contains", "(IJJ[Z)Z"⟩ : MethodName)) hown (mvT hZ (hw _ (List.mem_of_getElem? (i := 1) rfl))) (mvT hZ (hw _ (List.mem_of_getElem? (i := 2) rfl))) (mvT hZ (hw _ (List.mem_of_getElem? (i := 3) rfl))) (mvT hZ (hw _ (List.mem_of_getElem? (i := 4) rfl))) (by decide) (backOf (W := 0) (rm1a l Z av hw [] ps q1 q2 b90 cl120 (0 : Int32) h94 n0 Z94 Ar120 (fun _ => hin120) (fun h => absurd hc115_111 h)) hZ (hw _ (List.mem_of_getElem? (i := 4) rfl)) (hw _ (List.mem_of_getElem? (i := 3) rfl)) (by decide) (by decide)) (g := (mkF m 172 #[.val (.int p0), .val (.long q1), .second, .val (.long q2), .second, .val (.int p3), .val (.int ps), .val (.int (1 : Int32)), .val (.int (0 : Int32)), .val (.int ot), .val (.ref b90), .val (.ref b90), .val (.int (0 : Int32))] [(.ref b90), (.long q2), (.long q1), (.int ps)])) rfl (by rw [hml]; rfl) (argsL := [(.int ps), (.long q1), (.long q2), (.ref b90)]) (rest := []) (lenOf pd__IJJ_Z_Z rfl) rfl (by show 2 * 0 + _ ≤ _; exact Nat.le_of_eq rfl) (hb hby at_172) (fun _ _ => ⟨rfl, e94, (by decide : 1 + 0 ≤ _), (by decide : 256 + 0 ≤ _)⟩)
            dsimp only [Pt.U, Pt.locs, Pt.cells, Pt.slots] at X121 l121 y121 z121 st121 hQ121
            subst l121 y121 z121
            obtain ⟨rfl, N121q, e121⟩ := hQ121
            have N121 := Fr.app N94 N121q
            have pre122 : ∀ t, Steps p.tables e below (T121.setTop (mkF m 175 #[.val (.int p0), .val (.long q1), .second, .val (.long q2), .second, .val (.int p3), .val (.int ps), .val (.int (1 : Int32)), .val (.int (0 : Int32)), .val (.int ot), .val (.ref b90), .val (.ref b90), .val (.int (0 : Int32))] [(.int (f_ca ps q1 q2 (0 : Int32)))])) t → Steps p.tables e below (s₁.setTop (entryFrame m #[(.int p0), (.long q1), (.long q2), (.int p3)] maxLocals)) t := fun t kt => pre119 t (st121 _ kt)
            have pre123 : ∀ t, Steps p.tables e below (T121.setTop (mkF m 185 #[.val (.int p0), .val (.long q1), .second, .val (.long q2), .second, .val (.int p3), .val (.int ps), .val (.int (1 : Int32)), .val (.int (0 : Int32)), .val (.int ot), .val (.ref b90), .val (.ref b90), .val (.int (0 : Int32))] [(.int (1 : Int32))])) t → Steps p.tables e below (s₁.setTop (entryFrame m #[(.int p0), (.long q1), (.long q2), (.int p3)] maxLocals)) t := fun t kt => pre122 t (by
              show Steps p.tables e below (T121.setTop (mkF m 175 #[.val (.int p0), .val (.long q1), .second, .val (.long q2), .second, .val (.int p3), .val (.int ps), .val (.int (1 : Int32)), .val (.int (0 : Int32)), .val (.int ot), .val (.ref b90), .val (.ref b90), .val (.int (0 : Int32))] [(.int (f_ca ps q1 q2 (0 : Int32)))])) _
              refine XS.iload X121.here hx rfl (hb hby at_175) rfl ?_
              show Steps p.tables e below (T121.setTop (mkF m 177 #[.val (.int p0), .val (.long q1), .second, .val (.long q2), .second, .val (.int p3), .val (.int ps), .val (.int (1 : Int32)), .val (.int (0 : Int32)), .val (.int ot), .val (.ref b90), .val (.ref b90), .val (.int (0 : Int32))] [(.int (0 : Int32)), (.int (f_ca ps q1 q2 (0 : Int32)))])) _
              refine XS.icmpNo X121.here hx rfl (hb hby at_177) rfl (teq (by unfold f_ca; rw [if_neg hc86_97, if_pos hc115_111, if_pos ((own_hi ps q2 hm2 hc86_97).mpr hc129_113)] : (f_ca ps q1 q2 (0 : Int32)) = (0 : Int32))).2 ?_
              show Steps p.tables e below (T121.setTop (mkF m 180 #[.val (.int p0), .val (.long q1), .second, .val (.long q2), .second, .val (.int p3), .val (.int ps), .val (.int (1 : Int32)), .val (.int (0 : Int32)), .val (.int ot), .val (.ref b90), .val (.ref b90), .val (.int (0 : Int32))] [])) _
              refine XS.iconst X121.here hx rfl (hb hby at_180) ?_
              show Steps p.tables e below (T121.setTop (mkF m 181 #[.val (.int p0), .val (.long q1), .second, .val (.long q2), .second, .val (.int p3), .val (.int ps), .val (.int (1 : Int32)), .val (.int (0 : Int32)), .val (.int ot), .val (.ref b90), .val (.ref b90), .val (.int (0 : Int32))] [(.int (1 : Int32))])) _
              refine XS.goto X121.here hx rfl (pc0 := 181) (pc' := 185) rfl (hb hby at_181) (by decide) (by decide) ?_
              exact kt)
            obtain ⟨fs, hr, hrun, hended, hW, hsame⟩ := X121.leave (v := some (.int (1 : Int32))) (fun h => by rw [Bd.returns] at h; cases h)
            refine ⟨_, _, pre123 _ ?_, hrun, hended, _, _, rfl, ?_, ⟨_, rfl⟩, hW, hsame.mono (by decide) (by decide)⟩
            · show Steps p.tables e below (T121.setTop (mkF m 185 #[.val (.int p0), .val (.long q1), .second, .val (.long q2), .second, .val (.int p3), .val (.int ps), .val (.int (1 : Int32)), .val (.int (0 : Int32)), .val (.int ot), .val (.ref b90), .val (.ref b90), .val (.int (0 : Int32))] [(.int (1 : Int32))])) _
              exact retN X121 hx (t := .boolean) Bd.returns (by simp) (hb hby at_185) hr
            · show Q0 Z p0 q1 q2 p3 h0 n0 _ T121.heap _
              rw [e121]
              exact ⟨rfl, N121⟩
        · have pre124 : ∀ t, Steps p.tables e below (T94.setTop (mkF m 156 #[.val (.int p0), .val (.long q1), .second, .val (.long q2), .second, .val (.int p3), .val (.int ps), .val (.int (1 : Int32)), .val (.int (0 : Int32)), .val (.int ot), .val (.ref b90), .val (.ref b90), .unset] [(.int ps), (.int ot)])) t → Steps p.tables e below (s₁.setTop (entryFrame m #[(.int p0), (.long q1), (.long q2), (.int p3)] maxLocals)) t := fun t kt => pre110 t (by
            show Steps p.tables e below (T94.setTop (mkF m 115 #[.val (.int p0), .val (.long q1), .second, .val (.long q2), .second, .val (.int p3), .val (.int ps), .val (.int (1 : Int32)), .val (.int (0 : Int32)), .val (.int ot), .val (.ref b90), .val (.ref b90), .unset] [(.int (128 : Int32)), (.int ps)])) _
            refine XS.icmpYes X94.here hx rfl (pc0 := 115) (pc' := 142) rfl (hb hby at_115) rfl (flt hc115_111).2.1 (by decide) (by decide) ?_
            show Steps p.tables e below (T94.setTop (mkF m 142 #[.val (.int p0), .val (.long q1), .second, .val (.long q2), .second, .val (.int p3), .val (.int ps), .val (.int (1 : Int32)), .val (.int (0 : Int32)), .val (.int ot), .val (.ref b90), .val (.ref b90), .unset] [])) _
            refine XS.iload X94.here hx rfl (hb hby at_142) rfl ?_
            show Steps p.tables e below (T94.setTop (mkF m 144 #[.val (.int p0), .val (.long q1), .second, .val (.long q2), .second, .val (.int p3), .val (.int ps), .val (.int (1 : Int32)), .val (.int (0 : Int32)), .val (.int ot), .val (.ref b90), .val (.ref b90), .unset] [(.int (1 : Int32))])) _
            refine XS.ifNo X94.here hx rfl (hb hby at_144) rfl ((if0 _ _).trans (feq (by decide : ¬ ((1 : Int32) = (0 : Int32)))).1) ?_
            show Steps p.tables e below (T94.setTop (mkF m 147 #[.val (.int p0), .val (.long q1), .second, .val (.long q2), .second, .val (.int p3), .val (.int ps), .val (.int (1 : Int32)), .val (.int (0 : Int32)), .val (.int ot), .val (.ref b90), .val (.ref b90), .unset] [])) _
            refine XS.iload X94.here hx rfl (hb hby at_147) rfl ?_
            show Steps p.tables e below (T94.setTop (mkF m 149 #[.val (.int p0), .val (.long q1), .second, .val (.long q2), .second, .val (.int p3), .val (.int ps), .val (.int (1 : Int32)), .val (.int (0 : Int32)), .val (.int ot), .val (.ref b90), .val (.ref b90), .unset] [(.int (0 : Int32))])) _
            refine XS.ifNo X94.here hx rfl (hb hby at_149) rfl ((if0 _ _).trans (teq (by decide : (0 : Int32) = (0 : Int32))).2) ?_
            show Steps p.tables e below (T94.setTop (mkF m 152 #[.val (.int p0), .val (.long q1), .second, .val (.long q2), .second, .val (.int p3), .val (.int ps), .val (.int (1 : Int32)), .val (.int (0 : Int32)), .val (.int ot), .val (.ref b90), .val (.ref b90), .unset] [])) _
            refine XS.iload X94.here hx rfl (hb hby at_152) rfl ?_
            show Steps p.tables e below (T94.setTop (mkF m 154 #[.val (.int p0), .val (.long q1), .second, .val (.long q2), .second, .val (.int p3), .val (.int ps), .val (.int (1 : Int32)), .val (.int (0 : Int32)), .val (.int ot), .val (.ref b90), .val (.ref b90), .unset] [(.int ot)])) _
            refine XS.iload X94.here hx rfl (hb hby at_154) rfl ?_
            exact kt)
          by_cases hc156_125 : ot = ps
          · have pre126 : ∀ t, Steps p.tables e below (T94.setTop (mkF m 172 #[.val (.int p0), .val (.long q1), .second, .val (.long q2), .second, .val (.int p3), .val (.int ps), .val (.int (1 : Int32)), .val (.int (0 : Int32)), .val (.int ot), .val (.ref b90), .val (.ref b90), .val (.int (1 : Int32))] [(.ref b90), (.long q2), (.long q1), (.int ps)])) t → Steps p.tables e below (s₁.setTop (entryFrame m #[(.int p0), (.long q1), (.long q2), (.int p3)] maxLocals)) t := fun t kt => pre124 t (by
              show Steps p.tables e below (T94.setTop (mkF m 156 #[.val (.int p0), .val (.long q1), .second, .val (.long q2), .second, .val (.int p3), .val (.int ps), .val (.int (1 : Int32)), .val (.int (0 : Int32)), .val (.int ot), .val (.ref b90), .val (.ref b90), .unset] [(.int ps), (.int ot)])) _
              refine XS.icmpNo X94.here hx rfl (hb hby at_156) rfl (teq hc156_125).2 ?_
              show Steps p.tables e below (T94.setTop (mkF m 159 #[.val (.int p0), .val (.long q1), .second, .val (.long q2), .second, .val (.int p3), .val (.int ps), .val (.int (1 : Int32)), .val (.int (0 : Int32)), .val (.int ot), .val (.ref b90), .val (.ref b90), .unset] [])) _
              refine XS.iconst X94.here hx rfl (hb hby at_159) ?_
              show Steps p.tables e below (T94.setTop (mkF m 160 #[.val (.int p0), .val (.long q1), .second, .val (.long q2), .second, .val (.int p3), .val (.int ps), .val (.int (1 : Int32)), .val (.int (0 : Int32)), .val (.int ot), .val (.ref b90), .val (.ref b90), .unset] [(.int (1 : Int32))])) _
              refine XS.goto X94.here hx rfl (pc0 := 160) (pc' := 164) rfl (hb hby at_160) (by decide) (by decide) ?_
              show Steps p.tables e below (T94.setTop (mkF m 164 #[.val (.int p0), .val (.long q1), .second, .val (.long q2), .second, .val (.int p3), .val (.int ps), .val (.int (1 : Int32)), .val (.int (0 : Int32)), .val (.int ot), .val (.ref b90), .val (.ref b90), .unset] [(.int (1 : Int32))])) _
              refine XS.istore X94.here hx rfl (hb hby at_164) rfl (l' := #[.val (.int p0), .val (.long q1), .second, .val (.long q2), .second, .val (.int p3), .val (.int ps), .val (.int (1 : Int32)), .val (.int (0 : Int32)), .val (.int ot), .val (.ref b90), .val (.ref b90), .val (.int (1 : Int32))]) rfl ?_
              show Steps p.tables e below (T94.setTop (mkF m 166 #[.val (.int p0), .val (.long q1), .second, .val (.long q2), .second, .val (.int p3), .val (.int ps), .val (.int (1 : Int32)), .val (.int (0 : Int32)), .val (.int ot), .val (.ref b90), .val (.ref b90), .val (.int (1 : Int32))] [])) _
              refine XS.iload X94.here hx rfl (hb hby at_166) rfl ?_
              show Steps p.tables e below (T94.setTop (mkF m 168 #[.val (.int p0), .val (.long q1), .second, .val (.long q2), .second, .val (.int p3), .val (.int ps), .val (.int (1 : Int32)), .val (.int (0 : Int32)), .val (.int ot), .val (.ref b90), .val (.ref b90), .val (.int (1 : Int32))] [(.int ps)])) _
              refine XS.lloadN X94.here hx rfl (hb hby at_168) rfl ?_
              show Steps p.tables e below (T94.setTop (mkF m 169 #[.val (.int p0), .val (.long q1), .second, .val (.long q2), .second, .val (.int p3), .val (.int ps), .val (.int (1 : Int32)), .val (.int (0 : Int32)), .val (.int ot), .val (.ref b90), .val (.ref b90), .val (.int (1 : Int32))] [(.long q1), (.int ps)])) _
              refine XS.lloadN X94.here hx rfl (hb hby at_169) rfl ?_
              show Steps p.tables e below (T94.setTop (mkF m 170 #[.val (.int p0), .val (.long q1), .second, .val (.long q2), .second, .val (.int p3), .val (.int ps), .val (.int (1 : Int32)), .val (.int (0 : Int32)), .val (.int ot), .val (.ref b90), .val (.ref b90), .val (.int (1 : Int32))] [(.long q2), (.long q1), (.int ps)])) _
              refine XS.aload X94.here hx rfl (hb hby at_170) rfl rfl ?_
              exact kt)
            have tv127 := V94
            obtain ⟨cl127, Ar127, q127, S127, Ng127, H127, G127⟩ := tv127
            have hin127 : ¬ (ps < 0 ∨ cl127.slots.size ≤ (ps).toNatClampNeg) := inb_of S127 hm2
            obtain ⟨_, _, ⟨T128, L128, k128, n128⟩, -, X128, ⟨Lc128, hQ128, l128, y128, z128⟩, st128⟩ := Jvm.LawKit.callS X94 hx (y := (⟨"com/example/baton/baton/support/Skipped", "contains", "(IJJ[Z)Z"⟩ : MethodName)) hown (mvT hZ (hw _ (List.mem_of_getElem? (i := 1) rfl))) (mvT hZ (hw _ (List.mem_of_getElem? (i := 2) rfl))) (mvT hZ (hw _ (List.mem_of_getElem? (i := 3) rfl))) (mvT hZ (hw _ (List.mem_of_getElem? (i := 4) rfl))) (by decide) (backOf (W := 0) (rm1a l Z av hw [] ps q1 q2 b90 cl127 (1 : Int32) h94 n0 Z94 Ar127 (fun _ => hin127) (fun _ => atH H127 hin127 (getH_hit hm2.1 hc156_125.symm))) hZ (hw _ (List.mem_of_getElem? (i := 4) rfl)) (hw _ (List.mem_of_getElem? (i := 3) rfl)) (by decide) (by decide)) (g := (mkF m 172 #[.val (.int p0), .val (.long q1), .second, .val (.long q2), .second, .val (.int p3), .val (.int ps), .val (.int (1 : Int32)), .val (.int (0 : Int32)), .val (.int ot), .val (.ref b90), .val (.ref b90), .val (.int (1 : Int32))] [(.ref b90), (.long q2), (.long q1), (.int ps)])) rfl (by rw [hml]; rfl) (argsL := [(.int ps), (.long q1), (.long q2), (.ref b90)]) (rest := []) (lenOf pd__IJJ_Z_Z rfl) rfl (by show 2 * 0 + _ ≤ _; exact Nat.le_of_eq rfl) (hb hby at_172) (fun _ _ => ⟨rfl, e94, (by decide : 1 + 0 ≤ _), (by decide : 256 + 0 ≤ _)⟩)
            dsimp only [Pt.U, Pt.locs, Pt.cells, Pt.slots] at X128 l128 y128 z128 st128 hQ128
            subst l128 y128 z128
            obtain ⟨rfl, N128q, e128⟩ := hQ128
            have N128 := Fr.app N94 N128q
            have pre129 : ∀ t, Steps p.tables e below (T128.setTop (mkF m 175 #[.val (.int p0), .val (.long q1), .second, .val (.long q2), .second, .val (.int p3), .val (.int ps), .val (.int (1 : Int32)), .val (.int (0 : Int32)), .val (.int ot), .val (.ref b90), .val (.ref b90), .val (.int (1 : Int32))] [(.int (f_ca ps q1 q2 (1 : Int32)))])) t → Steps p.tables e below (s₁.setTop (entryFrame m #[(.int p0), (.long q1), (.long q2), (.int p3)] maxLocals)) t := fun t kt => pre126 t (st128 _ kt)
            have pre130 : ∀ t, Steps p.tables e below (T128.setTop (mkF m 185 #[.val (.int p0), .val (.long q1), .second, .val (.long q2), .second, .val (.int p3), .val (.int ps), .val (.int (1 : Int32)), .val (.int (0 : Int32)), .val (.int ot), .val (.ref b90), .val (.ref b90), .val (.int (1 : Int32))] [(.int (1 : Int32))])) t → Steps p.tables e below (s₁.setTop (entryFrame m #[(.int p0), (.long q1), (.long q2), (.int p3)] maxLocals)) t := fun t kt => pre129 t (by
              show Steps p.tables e below (T128.setTop (mkF m 175 #[.val (.int p0), .val (.long q1), .second, .val (.long q2), .second, .val (.int p3), .val (.int ps), .val (.int (1 : Int32)), .val (.int (0 : Int32)), .val (.int ot), .val (.ref b90), .val (.ref b90), .val (.int (1 : Int32))] [(.int (f_ca ps q1 q2 (1 : Int32)))])) _
              refine XS.iload X128.here hx rfl (hb hby at_175) rfl ?_
              show Steps p.tables e below (T128.setTop (mkF m 177 #[.val (.int p0), .val (.long q1), .second, .val (.long q2), .second, .val (.int p3), .val (.int ps), .val (.int (1 : Int32)), .val (.int (0 : Int32)), .val (.int ot), .val (.ref b90), .val (.ref b90), .val (.int (1 : Int32))] [(.int (1 : Int32)), (.int (f_ca ps q1 q2 (1 : Int32)))])) _
              refine XS.icmpNo X128.here hx rfl (hb hby at_177) rfl (teq (by unfold f_ca; rw [if_neg hc86_97, if_neg hc115_111]; decide : (f_ca ps q1 q2 (1 : Int32)) = (1 : Int32))).2 ?_
              show Steps p.tables e below (T128.setTop (mkF m 180 #[.val (.int p0), .val (.long q1), .second, .val (.long q2), .second, .val (.int p3), .val (.int ps), .val (.int (1 : Int32)), .val (.int (0 : Int32)), .val (.int ot), .val (.ref b90), .val (.ref b90), .val (.int (1 : Int32))] [])) _
              refine XS.iconst X128.here hx rfl (hb hby at_180) ?_
              show Steps p.tables e below (T128.setTop (mkF m 181 #[.val (.int p0), .val (.long q1), .second, .val (.long q2), .second, .val (.int p3), .val (.int ps), .val (.int (1 : Int32)), .val (.int (0 : Int32)), .val (.int ot), .val (.ref b90), .val (.ref b90), .val (.int (1 : Int32))] [(.int (1 : Int32))])) _
              refine XS.goto X128.here hx rfl (pc0 := 181) (pc' := 185) rfl (hb hby at_181) (by decide) (by decide) ?_
              exact kt)
            obtain ⟨fs, hr, hrun, hended, hW, hsame⟩ := X128.leave (v := some (.int (1 : Int32))) (fun h => by rw [Bd.returns] at h; cases h)
            refine ⟨_, _, pre130 _ ?_, hrun, hended, _, _, rfl, ?_, ⟨_, rfl⟩, hW, hsame.mono (by decide) (by decide)⟩
            · show Steps p.tables e below (T128.setTop (mkF m 185 #[.val (.int p0), .val (.long q1), .second, .val (.long q2), .second, .val (.int p3), .val (.int ps), .val (.int (1 : Int32)), .val (.int (0 : Int32)), .val (.int ot), .val (.ref b90), .val (.ref b90), .val (.int (1 : Int32))] [(.int (1 : Int32))])) _
              exact retN X128 hx (t := .boolean) Bd.returns (by simp) (hb hby at_185) hr
            · show Q0 Z p0 q1 q2 p3 h0 n0 _ T128.heap _
              rw [e128]
              exact ⟨rfl, N128⟩
          · have pre131 : ∀ t, Steps p.tables e below (T94.setTop (mkF m 172 #[.val (.int p0), .val (.long q1), .second, .val (.long q2), .second, .val (.int p3), .val (.int ps), .val (.int (1 : Int32)), .val (.int (0 : Int32)), .val (.int ot), .val (.ref b90), .val (.ref b90), .val (.int (0 : Int32))] [(.ref b90), (.long q2), (.long q1), (.int ps)])) t → Steps p.tables e below (s₁.setTop (entryFrame m #[(.int p0), (.long q1), (.long q2), (.int p3)] maxLocals)) t := fun t kt => pre124 t (by
              show Steps p.tables e below (T94.setTop (mkF m 156 #[.val (.int p0), .val (.long q1), .second, .val (.long q2), .second, .val (.int p3), .val (.int ps), .val (.int (1 : Int32)), .val (.int (0 : Int32)), .val (.int ot), .val (.ref b90), .val (.ref b90), .unset] [(.int ps), (.int ot)])) _
              refine XS.icmpYes X94.here hx rfl (pc0 := 156) (pc' := 163) rfl (hb hby at_156) rfl (feq hc156_125).2 (by decide) (by decide) ?_
              show Steps p.tables e below (T94.setTop (mkF m 163 #[.val (.int p0), .val (.long q1), .second, .val (.long q2), .second, .val (.int p3), .val (.int ps), .val (.int (1 : Int32)), .val (.int (0 : Int32)), .val (.int ot), .val (.ref b90), .val (.ref b90), .unset] [])) _
              refine XS.iconst X94.here hx rfl (hb hby at_163) ?_
              show Steps p.tables e below (T94.setTop (mkF m 164 #[.val (.int p0), .val (.long q1), .second, .val (.long q2), .second, .val (.int p3), .val (.int ps), .val (.int (1 : Int32)), .val (.int (0 : Int32)), .val (.int ot), .val (.ref b90), .val (.ref b90), .unset] [(.int (0 : Int32))])) _
              refine XS.istore X94.here hx rfl (hb hby at_164) rfl (l' := #[.val (.int p0), .val (.long q1), .second, .val (.long q2), .second, .val (.int p3), .val (.int ps), .val (.int (1 : Int32)), .val (.int (0 : Int32)), .val (.int ot), .val (.ref b90), .val (.ref b90), .val (.int (0 : Int32))]) rfl ?_
              show Steps p.tables e below (T94.setTop (mkF m 166 #[.val (.int p0), .val (.long q1), .second, .val (.long q2), .second, .val (.int p3), .val (.int ps), .val (.int (1 : Int32)), .val (.int (0 : Int32)), .val (.int ot), .val (.ref b90), .val (.ref b90), .val (.int (0 : Int32))] [])) _
              refine XS.iload X94.here hx rfl (hb hby at_166) rfl ?_
              show Steps p.tables e below (T94.setTop (mkF m 168 #[.val (.int p0), .val (.long q1), .second, .val (.long q2), .second, .val (.int p3), .val (.int ps), .val (.int (1 : Int32)), .val (.int (0 : Int32)), .val (.int ot), .val (.ref b90), .val (.ref b90), .val (.int (0 : Int32))] [(.int ps)])) _
              refine XS.lloadN X94.here hx rfl (hb hby at_168) rfl ?_
              show Steps p.tables e below (T94.setTop (mkF m 169 #[.val (.int p0), .val (.long q1), .second, .val (.long q2), .second, .val (.int p3), .val (.int ps), .val (.int (1 : Int32)), .val (.int (0 : Int32)), .val (.int ot), .val (.ref b90), .val (.ref b90), .val (.int (0 : Int32))] [(.long q1), (.int ps)])) _
              refine XS.lloadN X94.here hx rfl (hb hby at_169) rfl ?_
              show Steps p.tables e below (T94.setTop (mkF m 170 #[.val (.int p0), .val (.long q1), .second, .val (.long q2), .second, .val (.int p3), .val (.int ps), .val (.int (1 : Int32)), .val (.int (0 : Int32)), .val (.int ot), .val (.ref b90), .val (.ref b90), .val (.int (0 : Int32))] [(.long q2), (.long q1), (.int ps)])) _
              refine XS.aload X94.here hx rfl (hb hby at_170) rfl rfl ?_
              exact kt)
            have tv132 := V94
            obtain ⟨cl132, Ar132, q132, S132, Ng132, H132, G132⟩ := tv132
            have hin132 : ¬ (ps < 0 ∨ cl132.slots.size ≤ (ps).toNatClampNeg) := inb_of S132 hm2
            obtain ⟨_, _, ⟨T133, L133, k133, n133⟩, -, X133, ⟨Lc133, hQ133, l133, y133, z133⟩, st133⟩ := Jvm.LawKit.callS X94 hx (y := (⟨"com/example/baton/baton/support/Skipped", "contains", "(IJJ[Z)Z"⟩ : MethodName)) hown (mvT hZ (hw _ (List.mem_of_getElem? (i := 1) rfl))) (mvT hZ (hw _ (List.mem_of_getElem? (i := 2) rfl))) (mvT hZ (hw _ (List.mem_of_getElem? (i := 3) rfl))) (mvT hZ (hw _ (List.mem_of_getElem? (i := 4) rfl))) (by decide) (backOf (W := 0) (rm1a l Z av hw [] ps q1 q2 b90 cl132 (0 : Int32) h94 n0 Z94 Ar132 (fun _ => hin132) (fun _ => atH H132 hin132 (getH_miss hm2.1 (fun q => hc156_125 q.symm) rfl))) hZ (hw _ (List.mem_of_getElem? (i := 4) rfl)) (hw _ (List.mem_of_getElem? (i := 3) rfl)) (by decide) (by decide)) (g := (mkF m 172 #[.val (.int p0), .val (.long q1), .second, .val (.long q2), .second, .val (.int p3), .val (.int ps), .val (.int (1 : Int32)), .val (.int (0 : Int32)), .val (.int ot), .val (.ref b90), .val (.ref b90), .val (.int (0 : Int32))] [(.ref b90), (.long q2), (.long q1), (.int ps)])) rfl (by rw [hml]; rfl) (argsL := [(.int ps), (.long q1), (.long q2), (.ref b90)]) (rest := []) (lenOf pd__IJJ_Z_Z rfl) rfl (by show 2 * 0 + _ ≤ _; exact Nat.le_of_eq rfl) (hb hby at_172) (fun _ _ => ⟨rfl, e94, (by decide : 1 + 0 ≤ _), (by decide : 256 + 0 ≤ _)⟩)
            dsimp only [Pt.U, Pt.locs, Pt.cells, Pt.slots] at X133 l133 y133 z133 st133 hQ133
            subst l133 y133 z133
            obtain ⟨rfl, N133q, e133⟩ := hQ133
            have N133 := Fr.app N94 N133q
            have pre134 : ∀ t, Steps p.tables e below (T133.setTop (mkF m 175 #[.val (.int p0), .val (.long q1), .second, .val (.long q2), .second, .val (.int p3), .val (.int ps), .val (.int (1 : Int32)), .val (.int (0 : Int32)), .val (.int ot), .val (.ref b90), .val (.ref b90), .val (.int (0 : Int32))] [(.int (f_ca ps q1 q2 (0 : Int32)))])) t → Steps p.tables e below (s₁.setTop (entryFrame m #[(.int p0), (.long q1), (.long q2), (.int p3)] maxLocals)) t := fun t kt => pre131 t (st133 _ kt)
            have pre135 : ∀ t, Steps p.tables e below (T133.setTop (mkF m 185 #[.val (.int p0), .val (.long q1), .second, .val (.long q2), .second, .val (.int p3), .val (.int ps), .val (.int (1 : Int32)), .val (.int (0 : Int32)), .val (.int ot), .val (.ref b90), .val (.ref b90), .val (.int (0 : Int32))] [(.int (1 : Int32))])) t → Steps p.tables e below (s₁.setTop (entryFrame m #[(.int p0), (.long q1), (.long q2), (.int p3)] maxLocals)) t := fun t kt => pre134 t (by
              show Steps p.tables e below (T133.setTop (mkF m 175 #[.val (.int p0), .val (.long q1), .second, .val (.long q2), .second, .val (.int p3), .val (.int ps), .val (.int (1 : Int32)), .val (.int (0 : Int32)), .val (.int ot), .val (.ref b90), .val (.ref b90), .val (.int (0 : Int32))] [(.int (f_ca ps q1 q2 (0 : Int32)))])) _
              refine XS.iload X133.here hx rfl (hb hby at_175) rfl ?_
              show Steps p.tables e below (T133.setTop (mkF m 177 #[.val (.int p0), .val (.long q1), .second, .val (.long q2), .second, .val (.int p3), .val (.int ps), .val (.int (1 : Int32)), .val (.int (0 : Int32)), .val (.int ot), .val (.ref b90), .val (.ref b90), .val (.int (0 : Int32))] [(.int (0 : Int32)), (.int (f_ca ps q1 q2 (0 : Int32)))])) _
              refine XS.icmpNo X133.here hx rfl (hb hby at_177) rfl (teq (by unfold f_ca; rw [if_neg hc86_97, if_neg hc115_111]; decide : (f_ca ps q1 q2 (0 : Int32)) = (0 : Int32))).2 ?_
              show Steps p.tables e below (T133.setTop (mkF m 180 #[.val (.int p0), .val (.long q1), .second, .val (.long q2), .second, .val (.int p3), .val (.int ps), .val (.int (1 : Int32)), .val (.int (0 : Int32)), .val (.int ot), .val (.ref b90), .val (.ref b90), .val (.int (0 : Int32))] [])) _
              refine XS.iconst X133.here hx rfl (hb hby at_180) ?_
              show Steps p.tables e below (T133.setTop (mkF m 181 #[.val (.int p0), .val (.long q1), .second, .val (.long q2), .second, .val (.int p3), .val (.int ps), .val (.int (1 : Int32)), .val (.int (0 : Int32)), .val (.int ot), .val (.ref b90), .val (.ref b90), .val (.int (0 : Int32))] [(.int (1 : Int32))])) _
              refine XS.goto X133.here hx rfl (pc0 := 181) (pc' := 185) rfl (hb hby at_181) (by decide) (by decide) ?_
              exact kt)
            obtain ⟨fs, hr, hrun, hended, hW, hsame⟩ := X133.leave (v := some (.int (1 : Int32))) (fun h => by rw [Bd.returns] at h; cases h)
            refine ⟨_, _, pre135 _ ?_, hrun, hended, _, _, rfl, ?_, ⟨_, rfl⟩, hW, hsame.mono (by decide) (by decide)⟩
            · show Steps p.tables e below (T133.setTop (mkF m 185 #[.val (.int p0), .val (.long q1), .second, .val (.long q2), .second, .val (.int p3), .val (.int ps), .val (.int (1 : Int32)), .val (.int (0 : Int32)), .val (.int ot), .val (.ref b90), .val (.ref b90), .val (.int (0 : Int32))] [(.int (1 : Int32))])) _
              exact retN X133 hx (t := .boolean) Bd.returns (by simp) (hb hby at_185) hr
            · show Q0 Z p0 q1 q2 p3 h0 n0 _ T133.heap _
              rw [e133]
              exact ⟨rfl, N133⟩
    · have pre136 : ∀ t, Steps p.tables e below (s₁.setTop (mkF m 45 #[.val (.int p0), .val (.long q1), .second, .val (.long q2), .second, .val (.int p3), .val (.int ps), .val (.int (1 : Int32)), .val (.int (1 : Int32)), .val (.int (((p3.toUInt32 >>> ((2 : Int32) &&& 31).toUInt32).toInt32) &&& (255 : Int32))), .unset, .unset, .unset] [])) t → Steps p.tables e below (s₁.setTop (entryFrame m #[(.int p0), (.long q1), (.long q2), (.int p3)] maxLocals)) t := fun t kt => pre85 t (by
        show Steps p.tables e below (s₁.setTop (mkF m 25 #[.val (.int p0), .val (.long q1), .second, .val (.long q2), .second, .val (.int p3), .val (.int ps), .val (.int (1 : Int32)), .unset, .unset, .unset, .unset, .unset] [(.int (p3 &&& (2 : Int32)))])) _
        refine XS.ifNo X0.here hx rfl (hb hby at_25) rfl ((if0 _ _).trans (feq hc25_86).1) ?_
        show Steps p.tables e below (s₁.setTop (mkF m 28 #[.val (.int p0), .val (.long q1), .second, .val (.long q2), .second, .val (.int p3), .val (.int ps), .val (.int (1 : Int32)), .unset, .unset, .unset, .unset, .unset] [])) _
        refine XS.iconst X0.here hx rfl (hb hby at_28) ?_
        show Steps p.tables e below (s₁.setTop (mkF m 29 #[.val (.int p0), .val (.long q1), .second, .val (.long q2), .second, .val (.int p3), .val (.int ps), .val (.int (1 : Int32)), .unset, .unset, .unset, .unset, .unset] [(.int (1 : Int32))])) _
        refine XS.goto X0.here hx rfl (pc0 := 29) (pc' := 33) rfl (hb hby at_29) (by decide) (by decide) ?_
        show Steps p.tables e below (s₁.setTop (mkF m 33 #[.val (.int p0), .val (.long q1), .second, .val (.long q2), .second, .val (.int p3), .val (.int ps), .val (.int (1 : Int32)), .unset, .unset, .unset, .unset, .unset] [(.int (1 : Int32))])) _
        refine XS.istore X0.here hx rfl (hb hby at_33) rfl (l' := #[.val (.int p0), .val (.long q1), .second, .val (.long q2), .second, .val (.int p3), .val (.int ps), .val (.int (1 : Int32)), .val (.int (1 : Int32)), .unset, .unset, .unset, .unset]) rfl ?_
        show Steps p.tables e below (s₁.setTop (mkF m 35 #[.val (.int p0), .val (.long q1), .second, .val (.long q2), .second, .val (.int p3), .val (.int ps), .val (.int (1 : Int32)), .val (.int (1 : Int32)), .unset, .unset, .unset, .unset] [])) _
        refine XS.iload X0.here hx rfl (hb hby at_35) rfl ?_
        show Steps p.tables e below (s₁.setTop (mkF m 37 #[.val (.int p0), .val (.long q1), .second, .val (.long q2), .second, .val (.int p3), .val (.int ps), .val (.int (1 : Int32)), .val (.int (1 : Int32)), .unset, .unset, .unset, .unset] [(.int p3)])) _
        refine XS.iconst X0.here hx rfl (hb hby at_37) ?_
        show Steps p.tables e below (s₁.setTop (mkF m 38 #[.val (.int p0), .val (.long q1), .second, .val (.long q2), .second, .val (.int p3), .val (.int ps), .val (.int (1 : Int32)), .val (.int (1 : Int32)), .unset, .unset, .unset, .unset] [(.int (2 : Int32)), (.int p3)])) _
        refine XS.iushr X0.here hx rfl (hb hby at_38) rfl ?_
        show Steps p.tables e below (s₁.setTop (mkF m 39 #[.val (.int p0), .val (.long q1), .second, .val (.long q2), .second, .val (.int p3), .val (.int ps), .val (.int (1 : Int32)), .val (.int (1 : Int32)), .unset, .unset, .unset, .unset] [(.int ((p3.toUInt32 >>> ((2 : Int32) &&& 31).toUInt32).toInt32))])) _
        refine XS.sipush X0.here hx rfl (hb hby at_39) ?_
        show Steps p.tables e below (s₁.setTop (mkF m 42 #[.val (.int p0), .val (.long q1), .second, .val (.long q2), .second, .val (.int p3), .val (.int ps), .val (.int (1 : Int32)), .val (.int (1 : Int32)), .unset, .unset, .unset, .unset] [(.int (255 : Int32)), (.int ((p3.toUInt32 >>> ((2 : Int32) &&& 31).toUInt32).toInt32))])) _
        refine XS.iand X0.here hx rfl (hb hby at_42) rfl ?_
        show Steps p.tables e below (s₁.setTop (mkF m 43 #[.val (.int p0), .val (.long q1), .second, .val (.long q2), .second, .val (.int p3), .val (.int ps), .val (.int (1 : Int32)), .val (.int (1 : Int32)), .unset, .unset, .unset, .unset] [(.int (((p3.toUInt32 >>> ((2 : Int32) &&& 31).toUInt32).toInt32) &&& (255 : Int32)))])) _
        refine XS.istore X0.here hx rfl (hb hby at_43) rfl (l' := #[.val (.int p0), .val (.long q1), .second, .val (.long q2), .second, .val (.int p3), .val (.int ps), .val (.int (1 : Int32)), .val (.int (1 : Int32)), .val (.int (((p3.toUInt32 >>> ((2 : Int32) &&& 31).toUInt32).toInt32) &&& (255 : Int32))), .unset, .unset, .unset]) rfl ?_
        exact kt)
      obtain ⟨ot, hm137, pre137⟩ : ∃ (ot : Int32), (¬ ot < 0 ∧ ot < (256 : Int32)) ∧ ∀ t, Steps p.tables e below (s₁.setTop (mkF m 45 #[.val (.int p0), .val (.long q1), .second, .val (.long q2), .second, .val (.int p3), .val (.int ps), .val (.int (1 : Int32)), .val (.int (1 : Int32)), .val (.int ot), .unset, .unset, .unset] [])) t → Steps p.tables e below (s₁.setTop (entryFrame m #[(.int p0), (.long q1), (.long q2), (.int p3)] maxLocals)) t := ⟨(((p3.toUInt32 >>> ((2 : Int32) &&& 31).toUInt32).toInt32) &&& (255 : Int32)), own_b8 _, pre136⟩
      have pre138 : ∀ t, Steps p.tables e below (s₁.setTop (mkF m 48 #[.val (.int p0), .val (.long q1), .second, .val (.long q2), .second, .val (.int p3), .val (.int ps), .val (.int (1 : Int32)), .val (.int (1 : Int32)), .val (.int ot), .unset, .unset, .unset] [(.int (256 : Int32))])) t → Steps p.tables e below (s₁.setTop (entryFrame m #[(.int p0), (.long q1), (.long q2), (.int p3)] maxLocals)) t := fun t kt => pre137 t (by
        show Steps p.tables e below (s₁.setTop (mkF m 45 #[.val (.int p0), .val (.long q1), .second, .val (.long q2), .second, .val (.int p3), .val (.int ps), .val (.int (1 : Int32)), .val (.int (1 : Int32)), .val (.int ot), .unset, .unset, .unset] [])) _
        refine XS.sipush X0.here hx rfl (hb hby at_45) ?_
        exact kt)
      obtain ⟨T139, h139, k139, X139, e139, E139, A139, st139⟩ := newP X0 hx hZ (hw _ (List.mem_of_getElem? (i := 0) rfl)) e0 (g := (mkF m 48 #[.val (.int p0), .val (.long q1), .second, .val (.long q2), .second, .val (.int p3), .val (.int ps), .val (.int (1 : Int32)), .val (.int (1 : Int32)), .val (.int ot), .unset, .unset, .unset] [(.int (256 : Int32))])) rfl (hb hby at_48) rfl (by decide) (cap := 256) (by decide) (by decide) (by decide) (by decide)
      obtain ⟨b139, g139⟩ : ∃ z, z = h0.size := ⟨_, rfl⟩
      rw [← g139] at A139 st139
      have pre140 : ∀ t, Steps p.tables e below (T139.setTop (mkF m 50 #[.val (.int p0), .val (.long q1), .second, .val (.long q2), .second, .val (.int p3), .val (.int ps), .val (.int (1 : Int32)), .val (.int (1 : Int32)), .val (.int ot), .unset, .unset, .unset] [(.ref b139)])) t → Steps p.tables e below (s₁.setTop (entryFrame m #[(.int p0), (.long q1), (.long q2), (.int p3)] maxLocals)) t := fun t kt => pre138 t (st139 _ kt)
      have gn139 : n0 ≤ b139 := Nat.le_trans Z0 (Nat.le_of_eq g139.symm)
      have sz139 : h0.size ≤ b139 := Nat.le_trans K0.1 (Nat.le_of_eq g139.symm)
      have K139 : Keep h0 h139 [] := K0.ext E139
      have Z139 : n0 ≤ h139.size := Nat.le_trans Z0 E139.1
      have V139 : Arh Z h139 b139 k139 .boolean (256 : Int32) [] [] (.int (0 : Int32)) := (Arv.new A139 (by decide)).arh
      have pre141 : ∀ t, Steps p.tables e below (T139.setTop (mkF m 57 #[.val (.int p0), .val (.long q1), .second, .val (.long q2), .second, .val (.int p3), .val (.int ps), .val (.int (1 : Int32)), .val (.int (1 : Int32)), .val (.int ot), .val (.ref b139), .unset, .unset] [(.int (1 : Int32)), (.int ot), (.ref b139)])) t → Steps p.tables e below (s₁.setTop (entryFrame m #[(.int p0), (.long q1), (.long q2), (.int p3)] maxLocals)) t := fun t kt => pre140 t (by
        show Steps p.tables e below (T139.setTop (mkF m 50 #[.val (.int p0), .val (.long q1), .second, .val (.long q2), .second, .val (.int p3), .val (.int ps), .val (.int (1 : Int32)), .val (.int (1 : Int32)), .val (.int ot), .unset, .unset, .unset] [(.ref b139)])) _
        refine XS.astore X139.here hx rfl (hb hby at_50) rfl rfl (l' := #[.val (.int p0), .val (.long q1), .second, .val (.long q2), .second, .val (.int p3), .val (.int ps), .val (.int (1 : Int32)), .val (.int (1 : Int32)), .val (.int ot), .val (.ref b139), .unset, .unset]) rfl ?_
        show Steps p.tables e below (T139.setTop (mkF m 52 #[.val (.int p0), .val (.long q1), .second, .val (.long q2), .second, .val (.int p3), .val (.int ps), .val (.int (1 : Int32)), .val (.int (1 : Int32)), .val (.int ot), .val (.ref b139), .unset, .unset] [])) _
        refine XS.aload X139.here hx rfl (hb hby at_52) rfl rfl ?_
        show Steps p.tables e below (T139.setTop (mkF m 54 #[.val (.int p0), .val (.long q1), .second, .val (.long q2), .second, .val (.int p3), .val (.int ps), .val (.int (1 : Int32)), .val (.int (1 : Int32)), .val (.int ot), .val (.ref b139), .unset, .unset] [(.ref b139)])) _
        refine XS.iload X139.here hx rfl (hb hby at_54) rfl ?_
        show Steps p.tables e below (T139.setTop (mkF m 56 #[.val (.int p0), .val (.long q1), .second, .val (.long q2), .second, .val (.int p3), .val (.int ps), .val (.int (1 : Int32)), .val (.int (1 : Int32)), .val (.int ot), .val (.ref b139), .unset, .unset] [(.int ot), (.ref b139)])) _
        refine XS.iconst X139.here hx rfl (hb hby at_56) ?_
        exact kt)
      have tv142 := V139
      obtain ⟨cl142, Ar142, q142, S142, Ng142, H142, G142⟩ := tv142
      have hin142 : ¬ (ot < 0 ∨ cl142.slots.size ≤ (ot).toNatClampNeg) := inb_of S142 hm137
      obtain ⟨T143, h143, X143, e143, W143, st143⟩ := stZ X139 hx hZ e139 Ar142 (j := ot) hin142 (g := (mkF m 57 #[.val (.int p0), .val (.long q1), .second, .val (.long q2), .second, .val (.int p3), .val (.int ps), .val (.int (1 : Int32)), .val (.int (1 : Int32)), .val (.int ot), .val (.ref b139), .unset, .unset] [(.int (1 : Int32)), (.int ot), (.ref b139)])) rfl rfl (hb hby at_57)
      have pre144 : ∀ t, Steps p.tables e below (T143.setTop (mkF m 58 #[.val (.int p0), .val (.long q1), .second, .val (.long q2), .second, .val (.int p3), .val (.int ps), .val (.int (1 : Int32)), .val (.int (1 : Int32)), .val (.int ot), .val (.ref b139), .unset, .unset] [])) t → Steps p.tables e below (s₁.setTop (entryFrame m #[(.int p0), (.long q1), (.long q2), (.int p3)] maxLocals)) t := fun t kt => pre141 t (st143 _ kt)
      have V143 : Arh Z h143 b139 k139 .boolean (256 : Int32) [(ot, (.int (1 : Int32)))] [] (.int (0 : Int32)) := Arh.push Ar142 q142 S142 Ng142 H142 G142 (fits_nar_bool (1 : Int32)) W143 hin142
      have K143 : Keep h0 h143 [] := K139.wr W143 (Or.inr sz139)
      have N143 := Fr.snoc X143 N0 gn139
      have Z143 : n0 ≤ h143.size := Nat.le_trans Z139 (Keep.of_wr W143).1
      have pre145 : ∀ t, Steps p.tables e below (T143.setTop (mkF m 68 #[.val (.int p0), .val (.long q1), .second, .val (.long q2), .second, .val (.int p3), .val (.int ps), .val (.int (1 : Int32)), .val (.int (1 : Int32)), .val (.int ot), .val (.ref b139), .unset, .unset] [(.int (1 : Int32)), (.int ps), (.ref b139)])) t → Steps p.tables e below (s₁.setTop (entryFrame m #[(.int p0), (.long q1), (.long q2), (.int p3)] maxLocals)) t := fun t kt => pre144 t (by
        show Steps p.tables e below (T143.setTop (mkF m 58 #[.val (.int p0), .val (.long q1), .second, .val (.long q2), .second, .val (.int p3), .val (.int ps), .val (.int (1 : Int32)), .val (.int (1 : Int32)), .val (.int ot), .val (.ref b139), .unset, .unset] [])) _
        refine XS.iload X143.here hx rfl (hb hby at_58) rfl ?_
        show Steps p.tables e below (T143.setTop (mkF m 60 #[.val (.int p0), .val (.long q1), .second, .val (.long q2), .second, .val (.int p3), .val (.int ps), .val (.int (1 : Int32)), .val (.int (1 : Int32)), .val (.int ot), .val (.ref b139), .unset, .unset] [(.int (1 : Int32))])) _
        refine XS.ifNo X143.here hx rfl (hb hby at_60) rfl ((if0 _ _).trans (feq (by decide : ¬ ((1 : Int32) = (0 : Int32)))).1) ?_
        show Steps p.tables e below (T143.setTop (mkF m 63 #[.val (.int p0), .val (.long q1), .second, .val (.long q2), .second, .val (.int p3), .val (.int ps), .val (.int (1 : Int32)), .val (.int (1 : Int32)), .val (.int ot), .val (.ref b139), .unset, .unset] [])) _
        refine XS.aload X143.here hx rfl (hb hby at_63) rfl rfl ?_
        show Steps p.tables e below (T143.setTop (mkF m 65 #[.val (.int p0), .val (.long q1), .second, .val (.long q2), .second, .val (.int p3), .val (.int ps), .val (.int (1 : Int32)), .val (.int (1 : Int32)), .val (.int ot), .val (.ref b139), .unset, .unset] [(.ref b139)])) _
        refine XS.iload X143.here hx rfl (hb hby at_65) rfl ?_
        show Steps p.tables e below (T143.setTop (mkF m 67 #[.val (.int p0), .val (.long q1), .second, .val (.long q2), .second, .val (.int p3), .val (.int ps), .val (.int (1 : Int32)), .val (.int (1 : Int32)), .val (.int ot), .val (.ref b139), .unset, .unset] [(.int ps), (.ref b139)])) _
        refine XS.iconst X143.here hx rfl (hb hby at_67) ?_
        exact kt)
      have tv146 := V143
      obtain ⟨cl146, Ar146, q146, S146, Ng146, H146, G146⟩ := tv146
      have hin146 : ¬ (ps < 0 ∨ cl146.slots.size ≤ (ps).toNatClampNeg) := inb_of S146 hm2
      obtain ⟨T147, h147, X147, e147, W147, st147⟩ := stZ X143 hx hZ e143 Ar146 (j := ps) hin146 (g := (mkF m 68 #[.val (.int p0), .val (.long q1), .second, .val (.long q2), .second, .val (.int p3), .val (.int ps), .val (.int (1 : Int32)), .val (.int (1 : Int32)), .val (.int ot), .val (.ref b139), .unset, .unset] [(.int (1 : Int32)), (.int ps), (.ref b139)])) rfl rfl (hb hby at_68)
      have pre148 : ∀ t, Steps p.tables e below (T147.setTop (mkF m 69 #[.val (.int p0), .val (.long q1), .second, .val (.long q2), .second, .val (.int p3), .val (.int ps), .val (.int (1 : Int32)), .val (.int (1 : Int32)), .val (.int ot), .val (.ref b139), .unset, .unset] [])) t → Steps p.tables e below (s₁.setTop (entryFrame m #[(.int p0), (.long q1), (.long q2), (.int p3)] maxLocals)) t := fun t kt => pre145 t (st147 _ kt)
      have V147 : Arh Z h147 b139 k139 .boolean (256 : Int32) [(ps, (.int (1 : Int32))), (ot, (.int (1 : Int32)))] [] (.int (0 : Int32)) := Arh.push Ar146 q146 S146 Ng146 H146 G146 (fits_nar_bool (1 : Int32)) W147 hin146
      have K147 : Keep h0 h147 [] := K143.wr W147 (Or.inr sz139)
      have N147 := Fr.snoc X147 N143 gn139
      have Z147 : n0 ≤ h147.size := Nat.le_trans Z143 (Keep.of_wr W147).1
      have pre149 : ∀ t, Steps p.tables e below (T147.setTop (mkF m 86 #[.val (.int p0), .val (.long q1), .second, .val (.long q2), .second, .val (.int p3), .val (.int ps), .val (.int (1 : Int32)), .val (.int (1 : Int32)), .val (.int ot), .val (.ref b139), .val (.ref b139), .unset] [(.int (64 : Int32)), (.int ps)])) t → Steps p.tables e below (s₁.setTop (entryFrame m #[(.int p0), (.long q1), (.long q2), (.int p3)] maxLocals)) t := fun t kt => pre148 t (by
        show Steps p.tables e below (T147.setTop (mkF m 69 #[.val (.int p0), .val (.long q1), .second, .val (.long q2), .second, .val (.int p3), .val (.int ps), .val (.int (1 : Int32)), .val (.int (1 : Int32)), .val (.int ot), .val (.ref b139), .unset, .unset] [])) _
        refine XS.iload X147.here hx rfl (hb hby at_69) rfl ?_
        show Steps p.tables e below (T147.setTop (mkF m 71 #[.val (.int p0), .val (.long q1), .second, .val (.long q2), .second, .val (.int p3), .val (.int ps), .val (.int (1 : Int32)), .val (.int (1 : Int32)), .val (.int ot), .val (.ref b139), .unset, .unset] [(.int (1 : Int32))])) _
        refine XS.ifNo X147.here hx rfl (hb hby at_71) rfl ((if0 _ _).trans (feq (by decide : ¬ ((1 : Int32) = (0 : Int32)))).1) ?_
        show Steps p.tables e below (T147.setTop (mkF m 74 #[.val (.int p0), .val (.long q1), .second, .val (.long q2), .second, .val (.int p3), .val (.int ps), .val (.int (1 : Int32)), .val (.int (1 : Int32)), .val (.int ot), .val (.ref b139), .unset, .unset] [])) _
        refine XS.aload X147.here hx rfl (hb hby at_74) rfl rfl ?_
        show Steps p.tables e below (T147.setTop (mkF m 76 #[.val (.int p0), .val (.long q1), .second, .val (.long q2), .second, .val (.int p3), .val (.int ps), .val (.int (1 : Int32)), .val (.int (1 : Int32)), .val (.int ot), .val (.ref b139), .unset, .unset] [(.ref b139)])) _
        refine XS.goto X147.here hx rfl (pc0 := 76) (pc' := 80) rfl (hb hby at_76) (by decide) (by decide) ?_
        show Steps p.tables e below (T147.setTop (mkF m 80 #[.val (.int p0), .val (.long q1), .second, .val (.long q2), .second, .val (.int p3), .val (.int ps), .val (.int (1 : Int32)), .val (.int (1 : Int32)), .val (.int ot), .val (.ref b139), .unset, .unset] [(.ref b139)])) _
        refine XS.astore X147.here hx rfl (hb hby at_80) rfl rfl (l' := #[.val (.int p0), .val (.long q1), .second, .val (.long q2), .second, .val (.int p3), .val (.int ps), .val (.int (1 : Int32)), .val (.int (1 : Int32)), .val (.int ot), .val (.ref b139), .val (.ref b139), .unset]) rfl ?_
        show Steps p.tables e below (T147.setTop (mkF m 82 #[.val (.int p0), .val (.long q1), .second, .val (.long q2), .second, .val (.int p3), .val (.int ps), .val (.int (1 : Int32)), .val (.int (1 : Int32)), .val (.int ot), .val (.ref b139), .val (.ref b139), .unset] [])) _
        refine XS.iload X147.here hx rfl (hb hby at_82) rfl ?_
        show Steps p.tables e below (T147.setTop (mkF m 84 #[.val (.int p0), .val (.long q1), .second, .val (.long q2), .second, .val (.int p3), .val (.int ps), .val (.int (1 : Int32)), .val (.int (1 : Int32)), .val (.int ot), .val (.ref b139), .val (.ref b139), .unset] [(.int ps)])) _
        refine XS.bipush X147.here hx rfl (hb hby at_84) ?_
        exact kt)
      by_cases hc86_150 : ps < (64 : Int32)
      · have pre151 : ∀ t, Steps p.tables e below (T147.setTop (mkF m 97 #[.val (.int p0), .val (.long q1), .second, .val (.long q2), .second, .val (.int p3), .val (.int ps), .val (.int (1 : Int32)), .val (.int (1 : Int32)), .val (.int ot), .val (.ref b139), .val (.ref b139), .unset] [(.int (lcmpW (((q1.toUInt64 >>> (ps &&& 0x3f).toInt64.toUInt64).toInt64) &&& (1 : Int64)) (1 : Int64)))])) t → Steps p.tables e below (s₁.setTop (entryFrame m #[(.int p0), (.long q1), (.long q2), (.int p3)] maxLocals)) t := fun t kt => pre149 t (by
          show Steps p.tables e below (T147.setTop (mkF m 86 #[.val (.int p0), .val (.long q1), .second, .val (.long q2), .second, .val (.int p3), .val (.int ps), .val (.int (1 : Int32)), .val (.int (1 : Int32)), .val (.int ot), .val (.ref b139), .val (.ref b139), .unset] [(.int (64 : Int32)), (.int ps)])) _
          refine XS.icmpNo X147.here hx rfl (hb hby at_86) rfl (tlt hc86_150).2.1 ?_
          show Steps p.tables e below (T147.setTop (mkF m 89 #[.val (.int p0), .val (.long q1), .second, .val (.long q2), .second, .val (.int p3), .val (.int ps), .val (.int (1 : Int32)), .val (.int (1 : Int32)), .val (.int ot), .val (.ref b139), .val (.ref b139), .unset] [])) _
          refine XS.lloadN X147.here hx rfl (hb hby at_89) rfl ?_
          show Steps p.tables e below (T147.setTop (mkF m 90 #[.val (.int p0), .val (.long q1), .second, .val (.long q2), .second, .val (.int p3), .val (.int ps), .val (.int (1 : Int32)), .val (.int (1 : Int32)), .val (.int ot), .val (.ref b139), .val (.ref b139), .unset] [(.long q1)])) _
          refine XS.iload X147.here hx rfl (hb hby at_90) rfl ?_
          show Steps p.tables e below (T147.setTop (mkF m 92 #[.val (.int p0), .val (.long q1), .second, .val (.long q2), .second, .val (.int p3), .val (.int ps), .val (.int (1 : Int32)), .val (.int (1 : Int32)), .val (.int ot), .val (.ref b139), .val (.ref b139), .unset] [(.int ps), (.long q1)])) _
          refine XS.lushr X147.here hx rfl (hb hby at_92) rfl ?_
          show Steps p.tables e below (T147.setTop (mkF m 93 #[.val (.int p0), .val (.long q1), .second, .val (.long q2), .second, .val (.int p3), .val (.int ps), .val (.int (1 : Int32)), .val (.int (1 : Int32)), .val (.int ot), .val (.ref b139), .val (.ref b139), .unset] [(.long ((q1.toUInt64 >>> (ps &&& 0x3f).toInt64.toUInt64).toInt64))])) _
          refine XS.lconst X147.here hx rfl (hb hby at_93) ?_
          show Steps p.tables e below (T147.setTop (mkF m 94 #[.val (.int p0), .val (.long q1), .second, .val (.long q2), .second, .val (.int p3), .val (.int ps), .val (.int (1 : Int32)), .val (.int (1 : Int32)), .val (.int ot), .val (.ref b139), .val (.ref b139), .unset] [(.long (1 : Int64)), (.long ((q1.toUInt64 >>> (ps &&& 0x3f).toInt64.toUInt64).toInt64))])) _
          refine XS.land X147.here hx rfl (hb hby at_94) rfl ?_
          show Steps p.tables e below (T147.setTop (mkF m 95 #[.val (.int p0), .val (.long q1), .second, .val (.long q2), .second, .val (.int p3), .val (.int ps), .val (.int (1 : Int32)), .val (.int (1 : Int32)), .val (.int ot), .val (.ref b139), .val (.ref b139), .unset] [(.long (((q1.toUInt64 >>> (ps &&& 0x3f).toInt64.toUInt64).toInt64) &&& (1 : Int64)))])) _
          refine XS.lconst X147.here hx rfl (hb hby at_95) ?_
          show Steps p.tables e below (T147.setTop (mkF m 96 #[.val (.int p0), .val (.long q1), .second, .val (.long q2), .second, .val (.int p3), .val (.int ps), .val (.int (1 : Int32)), .val (.int (1 : Int32)), .val (.int ot), .val (.ref b139), .val (.ref b139), .unset] [(.long (1 : Int64)), (.long (((q1.toUInt64 >>> (ps &&& 0x3f).toInt64.toUInt64).toInt64) &&& (1 : Int64)))])) _
          refine XS.lcmp X147.here hx rfl (hb hby at_96) rfl ?_
          exact kt)
        by_cases hc97_152 : (((q1.toUInt64 >>> (ps &&& 0x3f).toInt64.toUInt64).toInt64) &&& (1 : Int64)) = (1 : Int64)
        · have pre153 : ∀ t, Steps p.tables e below (T147.setTop (mkF m 172 #[.val (.int p0), .val (.long q1), .second, .val (.long q2), .second, .val (.int p3), .val (.int ps), .val (.int (1 : Int32)), .val (.int (1 : Int32)), .val (.int ot), .val (.ref b139), .val (.ref b139), .val (.int (1 : Int32))] [(.ref b139), (.long q2), (.long q1), (.int ps)])) t → Steps p.tables e below (s₁.setTop (entryFrame m #[(.int p0), (.long q1), (.long q2), (.int p3)] maxLocals)) t := fun t kt => pre151 t (by
            show Steps p.tables e below (T147.setTop (mkF m 97 #[.val (.int p0), .val (.long q1), .second, .val (.long q2), .second, .val (.int p3), .val (.int ps), .val (.int (1 : Int32)), .val (.int (1 : Int32)), .val (.int ot), .val (.ref b139), .val (.ref b139), .unset] [(.int (lcmpW (((q1.toUInt64 >>> (ps &&& 0x3f).toInt64.toUInt64).toInt64) &&& (1 : Int64)) (1 : Int64)))])) _
            refine XS.ifNo X147.here hx rfl (hb hby at_97) rfl (Jvm.Free.XT.ll_ne_f hc97_152) ?_
            show Steps p.tables e below (T147.setTop (mkF m 100 #[.val (.int p0), .val (.long q1), .second, .val (.long q2), .second, .val (.int p3), .val (.int ps), .val (.int (1 : Int32)), .val (.int (1 : Int32)), .val (.int ot), .val (.ref b139), .val (.ref b139), .unset] [])) _
            refine XS.iconst X147.here hx rfl (hb hby at_100) ?_
            show Steps p.tables e below (T147.setTop (mkF m 101 #[.val (.int p0), .val (.long q1), .second, .val (.long q2), .second, .val (.int p3), .val (.int ps), .val (.int (1 : Int32)), .val (.int (1 : Int32)), .val (.int ot), .val (.ref b139), .val (.ref b139), .unset] [(.int (1 : Int32))])) _
            refine XS.goto X147.here hx rfl (pc0 := 101) (pc' := 105) rfl (hb hby at_101) (by decide) (by decide) ?_
            show Steps p.tables e below (T147.setTop (mkF m 105 #[.val (.int p0), .val (.long q1), .second, .val (.long q2), .second, .val (.int p3), .val (.int ps), .val (.int (1 : Int32)), .val (.int (1 : Int32)), .val (.int ot), .val (.ref b139), .val (.ref b139), .unset] [(.int (1 : Int32))])) _
            refine XS.istore X147.here hx rfl (hb hby at_105) rfl (l' := #[.val (.int p0), .val (.long q1), .second, .val (.long q2), .second, .val (.int p3), .val (.int ps), .val (.int (1 : Int32)), .val (.int (1 : Int32)), .val (.int ot), .val (.ref b139), .val (.ref b139), .val (.int (1 : Int32))]) rfl ?_
            show Steps p.tables e below (T147.setTop (mkF m 107 #[.val (.int p0), .val (.long q1), .second, .val (.long q2), .second, .val (.int p3), .val (.int ps), .val (.int (1 : Int32)), .val (.int (1 : Int32)), .val (.int ot), .val (.ref b139), .val (.ref b139), .val (.int (1 : Int32))] [])) _
            refine XS.goto X147.here hx rfl (pc0 := 107) (pc' := 166) rfl (hb hby at_107) (by decide) (by decide) ?_
            show Steps p.tables e below (T147.setTop (mkF m 166 #[.val (.int p0), .val (.long q1), .second, .val (.long q2), .second, .val (.int p3), .val (.int ps), .val (.int (1 : Int32)), .val (.int (1 : Int32)), .val (.int ot), .val (.ref b139), .val (.ref b139), .val (.int (1 : Int32))] [])) _
            refine XS.iload X147.here hx rfl (hb hby at_166) rfl ?_
            show Steps p.tables e below (T147.setTop (mkF m 168 #[.val (.int p0), .val (.long q1), .second, .val (.long q2), .second, .val (.int p3), .val (.int ps), .val (.int (1 : Int32)), .val (.int (1 : Int32)), .val (.int ot), .val (.ref b139), .val (.ref b139), .val (.int (1 : Int32))] [(.int ps)])) _
            refine XS.lloadN X147.here hx rfl (hb hby at_168) rfl ?_
            show Steps p.tables e below (T147.setTop (mkF m 169 #[.val (.int p0), .val (.long q1), .second, .val (.long q2), .second, .val (.int p3), .val (.int ps), .val (.int (1 : Int32)), .val (.int (1 : Int32)), .val (.int ot), .val (.ref b139), .val (.ref b139), .val (.int (1 : Int32))] [(.long q1), (.int ps)])) _
            refine XS.lloadN X147.here hx rfl (hb hby at_169) rfl ?_
            show Steps p.tables e below (T147.setTop (mkF m 170 #[.val (.int p0), .val (.long q1), .second, .val (.long q2), .second, .val (.int p3), .val (.int ps), .val (.int (1 : Int32)), .val (.int (1 : Int32)), .val (.int ot), .val (.ref b139), .val (.ref b139), .val (.int (1 : Int32))] [(.long q2), (.long q1), (.int ps)])) _
            refine XS.aload X147.here hx rfl (hb hby at_170) rfl rfl ?_
            exact kt)
          have tv154 := V147
          obtain ⟨cl154, Ar154, q154, S154, Ng154, H154, G154⟩ := tv154
          have hin154 : ¬ (ps < 0 ∨ cl154.slots.size ≤ (ps).toNatClampNeg) := inb_of S154 hm2
          obtain ⟨_, _, ⟨T155, L155, k155, n155⟩, -, X155, ⟨Lc155, hQ155, l155, y155, z155⟩, st155⟩ := Jvm.LawKit.callS X147 hx (y := (⟨"com/example/baton/baton/support/Skipped", "contains", "(IJJ[Z)Z"⟩ : MethodName)) hown (mvT hZ (hw _ (List.mem_of_getElem? (i := 1) rfl))) (mvT hZ (hw _ (List.mem_of_getElem? (i := 2) rfl))) (mvT hZ (hw _ (List.mem_of_getElem? (i := 3) rfl))) (mvT hZ (hw _ (List.mem_of_getElem? (i := 4) rfl))) (by decide) (backOf (W := 0) (rm1a l Z av hw [] ps q1 q2 b139 cl154 (0 : Int32) h147 n0 Z147 Ar154 (fun _ => hin154) (fun h => absurd (show ps < (128 : Int32) by have q := hc86_150; simp only [Int32.lt_iff_toInt_lt, Int32.reduceToInt] at *; omega) h)) hZ (hw _ (List.mem_of_getElem? (i := 4) rfl)) (hw _ (List.mem_of_getElem? (i := 3) rfl)) (by decide) (by decide)) (g := (mkF m 172 #[.val (.int p0), .val (.long q1), .second, .val (.long q2), .second, .val (.int p3), .val (.int ps), .val (.int (1 : Int32)), .val (.int (1 : Int32)), .val (.int ot), .val (.ref b139), .val (.ref b139), .val (.int (1 : Int32))] [(.ref b139), (.long q2), (.long q1), (.int ps)])) rfl (by rw [hml]; rfl) (argsL := [(.int ps), (.long q1), (.long q2), (.ref b139)]) (rest := []) (lenOf pd__IJJ_Z_Z rfl) rfl (by show 2 * 0 + _ ≤ _; exact Nat.le_of_eq rfl) (hb hby at_172) (fun _ _ => ⟨rfl, e147, (by decide : 1 + 0 ≤ _), (by decide : 256 + 0 ≤ _)⟩)
          dsimp only [Pt.U, Pt.locs, Pt.cells, Pt.slots] at X155 l155 y155 z155 st155 hQ155
          subst l155 y155 z155
          obtain ⟨rfl, N155q, e155⟩ := hQ155
          have N155 := Fr.app N147 N155q
          have pre156 : ∀ t, Steps p.tables e below (T155.setTop (mkF m 175 #[.val (.int p0), .val (.long q1), .second, .val (.long q2), .second, .val (.int p3), .val (.int ps), .val (.int (1 : Int32)), .val (.int (1 : Int32)), .val (.int ot), .val (.ref b139), .val (.ref b139), .val (.int (1 : Int32))] [(.int (f_ca ps q1 q2 (0 : Int32)))])) t → Steps p.tables e below (s₁.setTop (entryFrame m #[(.int p0), (.long q1), (.long q2), (.int p3)] maxLocals)) t := fun t kt => pre153 t (st155 _ kt)
          have pre157 : ∀ t, Steps p.tables e below (T155.setTop (mkF m 185 #[.val (.int p0), .val (.long q1), .second, .val (.long q2), .second, .val (.int p3), .val (.int ps), .val (.int (1 : Int32)), .val (.int (1 : Int32)), .val (.int ot), .val (.ref b139), .val (.ref b139), .val (.int (1 : Int32))] [(.int (1 : Int32))])) t → Steps p.tables e below (s₁.setTop (entryFrame m #[(.int p0), (.long q1), (.long q2), (.int p3)] maxLocals)) t := fun t kt => pre156 t (by
            show Steps p.tables e below (T155.setTop (mkF m 175 #[.val (.int p0), .val (.long q1), .second, .val (.long q2), .second, .val (.int p3), .val (.int ps), .val (.int (1 : Int32)), .val (.int (1 : Int32)), .val (.int ot), .val (.ref b139), .val (.ref b139), .val (.int (1 : Int32))] [(.int (f_ca ps q1 q2 (0 : Int32)))])) _
            refine XS.iload X155.here hx rfl (hb hby at_175) rfl ?_
            show Steps p.tables e below (T155.setTop (mkF m 177 #[.val (.int p0), .val (.long q1), .second, .val (.long q2), .second, .val (.int p3), .val (.int ps), .val (.int (1 : Int32)), .val (.int (1 : Int32)), .val (.int ot), .val (.ref b139), .val (.ref b139), .val (.int (1 : Int32))] [(.int (1 : Int32)), (.int (f_ca ps q1 q2 (0 : Int32)))])) _
            refine XS.icmpNo X155.here hx rfl (hb hby at_177) rfl (teq (by unfold f_ca; rw [if_pos hc86_150, if_neg (fun q => (own_lo ps q1 hm2).mp q hc97_152)] : (f_ca ps q1 q2 (0 : Int32)) = (1 : Int32))).2 ?_
            show Steps p.tables e below (T155.setTop (mkF m 180 #[.val (.int p0), .val (.long q1), .second, .val (.long q2), .second, .val (.int p3), .val (.int ps), .val (.int (1 : Int32)), .val (.int (1 : Int32)), .val (.int ot), .val (.ref b139), .val (.ref b139), .val (.int (1 : Int32))] [])) _
            refine XS.iconst X155.here hx rfl (hb hby at_180) ?_
            show Steps p.tables e below (T155.setTop (mkF m 181 #[.val (.int p0), .val (.long q1), .second, .val (.long q2), .second, .val (.int p3), .val (.int ps), .val (.int (1 : Int32)), .val (.int (1 : Int32)), .val (.int ot), .val (.ref b139), .val (.ref b139), .val (.int (1 : Int32))] [(.int (1 : Int32))])) _
            refine XS.goto X155.here hx rfl (pc0 := 181) (pc' := 185) rfl (hb hby at_181) (by decide) (by decide) ?_
            exact kt)
          obtain ⟨fs, hr, hrun, hended, hW, hsame⟩ := X155.leave (v := some (.int (1 : Int32))) (fun h => by rw [Bd.returns] at h; cases h)
          refine ⟨_, _, pre157 _ ?_, hrun, hended, _, _, rfl, ?_, ⟨_, rfl⟩, hW, hsame.mono (by decide) (by decide)⟩
          · show Steps p.tables e below (T155.setTop (mkF m 185 #[.val (.int p0), .val (.long q1), .second, .val (.long q2), .second, .val (.int p3), .val (.int ps), .val (.int (1 : Int32)), .val (.int (1 : Int32)), .val (.int ot), .val (.ref b139), .val (.ref b139), .val (.int (1 : Int32))] [(.int (1 : Int32))])) _
            exact retN X155 hx (t := .boolean) Bd.returns (by simp) (hb hby at_185) hr
          · show Q0 Z p0 q1 q2 p3 h0 n0 _ T155.heap _
            rw [e155]
            exact ⟨rfl, N155⟩
        · have pre158 : ∀ t, Steps p.tables e below (T147.setTop (mkF m 172 #[.val (.int p0), .val (.long q1), .second, .val (.long q2), .second, .val (.int p3), .val (.int ps), .val (.int (1 : Int32)), .val (.int (1 : Int32)), .val (.int ot), .val (.ref b139), .val (.ref b139), .val (.int (0 : Int32))] [(.ref b139), (.long q2), (.long q1), (.int ps)])) t → Steps p.tables e below (s₁.setTop (entryFrame m #[(.int p0), (.long q1), (.long q2), (.int p3)] maxLocals)) t := fun t kt => pre151 t (by
            show Steps p.tables e below (T147.setTop (mkF m 97 #[.val (.int p0), .val (.long q1), .second, .val (.long q2), .second, .val (.int p3), .val (.int ps), .val (.int (1 : Int32)), .val (.int (1 : Int32)), .val (.int ot), .val (.ref b139), .val (.ref b139), .unset] [(.int (lcmpW (((q1.toUInt64 >>> (ps &&& 0x3f).toInt64.toUInt64).toInt64) &&& (1 : Int64)) (1 : Int64)))])) _
            refine XS.ifYes X147.here hx rfl (pc0 := 97) (pc' := 104) rfl (hb hby at_97) rfl (Jvm.Free.XT.ll_ne_t hc97_152) (by decide) (by decide) ?_
            show Steps p.tables e below (T147.setTop (mkF m 104 #[.val (.int p0), .val (.long q1), .second, .val (.long q2), .second, .val (.int p3), .val (.int ps), .val (.int (1 : Int32)), .val (.int (1 : Int32)), .val (.int ot), .val (.ref b139), .val (.ref b139), .unset] [])) _
            refine XS.iconst X147.here hx rfl (hb hby at_104) ?_
            show Steps p.tables e below (T147.setTop (mkF m 105 #[.val (.int p0), .val (.long q1), .second, .val (.long q2), .second, .val (.int p3), .val (.int ps), .val (.int (1 : Int32)), .val (.int (1 : Int32)), .val (.int ot), .val (.ref b139), .val (.ref b139), .unset] [(.int (0 : Int32))])) _
            refine XS.istore X147.here hx rfl (hb hby at_105) rfl (l' := #[.val (.int p0), .val (.long q1), .second, .val (.long q2), .second, .val (.int p3), .val (.int ps), .val (.int (1 : Int32)), .val (.int (1 : Int32)), .val (.int ot), .val (.ref b139), .val (.ref b139), .val (.int (0 : Int32))]) rfl ?_
            show Steps p.tables e below (T147.setTop (mkF m 107 #[.val (.int p0), .val (.long q1), .second, .val (.long q2), .second, .val (.int p3), .val (.int ps), .val (.int (1 : Int32)), .val (.int (1 : Int32)), .val (.int ot), .val (.ref b139), .val (.ref b139), .val (.int (0 : Int32))] [])) _
            refine XS.goto X147.here hx rfl (pc0 := 107) (pc' := 166) rfl (hb hby at_107) (by decide) (by decide) ?_
            show Steps p.tables e below (T147.setTop (mkF m 166 #[.val (.int p0), .val (.long q1), .second, .val (.long q2), .second, .val (.int p3), .val (.int ps), .val (.int (1 : Int32)), .val (.int (1 : Int32)), .val (.int ot), .val (.ref b139), .val (.ref b139), .val (.int (0 : Int32))] [])) _
            refine XS.iload X147.here hx rfl (hb hby at_166) rfl ?_
            show Steps p.tables e below (T147.setTop (mkF m 168 #[.val (.int p0), .val (.long q1), .second, .val (.long q2), .second, .val (.int p3), .val (.int ps), .val (.int (1 : Int32)), .val (.int (1 : Int32)), .val (.int ot), .val (.ref b139), .val (.ref b139), .val (.int (0 : Int32))] [(.int ps)])) _
            refine XS.lloadN X147.here hx rfl (hb hby at_168) rfl ?_
            show Steps p.tables e below (T147.setTop (mkF m 169 #[.val (.int p0), .val (.long q1), .second, .val (.long q2), .second, .val (.int p3), .val (.int ps), .val (.int (1 : Int32)), .val (.int (1 : Int32)), .val (.int ot), .val (.ref b139), .val (.ref b139), .val (.int (0 : Int32))] [(.long q1), (.int ps)])) _
            refine XS.lloadN X147.here hx rfl (hb hby at_169) rfl ?_
            show Steps p.tables e below (T147.setTop (mkF m 170 #[.val (.int p0), .val (.long q1), .second, .val (.long q2), .second, .val (.int p3), .val (.int ps), .val (.int (1 : Int32)), .val (.int (1 : Int32)), .val (.int ot), .val (.ref b139), .val (.ref b139), .val (.int (0 : Int32))] [(.long q2), (.long q1), (.int ps)])) _
            refine XS.aload X147.here hx rfl (hb hby at_170) rfl rfl ?_
            exact kt)
          have tv159 := V147
          obtain ⟨cl159, Ar159, q159, S159, Ng159, H159, G159⟩ := tv159
          have hin159 : ¬ (ps < 0 ∨ cl159.slots.size ≤ (ps).toNatClampNeg) := inb_of S159 hm2
          obtain ⟨_, _, ⟨T160, L160, k160, n160⟩, -, X160, ⟨Lc160, hQ160, l160, y160, z160⟩, st160⟩ := Jvm.LawKit.callS X147 hx (y := (⟨"com/example/baton/baton/support/Skipped", "contains", "(IJJ[Z)Z"⟩ : MethodName)) hown (mvT hZ (hw _ (List.mem_of_getElem? (i := 1) rfl))) (mvT hZ (hw _ (List.mem_of_getElem? (i := 2) rfl))) (mvT hZ (hw _ (List.mem_of_getElem? (i := 3) rfl))) (mvT hZ (hw _ (List.mem_of_getElem? (i := 4) rfl))) (by decide) (backOf (W := 0) (rm1a l Z av hw [] ps q1 q2 b139 cl159 (0 : Int32) h147 n0 Z147 Ar159 (fun _ => hin159) (fun h => absurd (show ps < (128 : Int32) by have q := hc86_150; simp only [Int32.lt_iff_toInt_lt, Int32.reduceToInt] at *; omega) h)) hZ (hw _ (List.mem_of_getElem? (i := 4) rfl)) (hw _ (List.mem_of_getElem? (i := 3) rfl)) (by decide) (by decide)) (g := (mkF m 172 #[.val (.int p0), .val (.long q1), .second, .val (.long q2), .second, .val (.int p3), .val (.int ps), .val (.int (1 : Int32)), .val (.int (1 : Int32)), .val (.int ot), .val (.ref b139), .val (.ref b139), .val (.int (0 : Int32))] [(.ref b139), (.long q2), (.long q1), (.int ps)])) rfl (by rw [hml]; rfl) (argsL := [(.int ps), (.long q1), (.long q2), (.ref b139)]) (rest := []) (lenOf pd__IJJ_Z_Z rfl) rfl (by show 2 * 0 + _ ≤ _; exact Nat.le_of_eq rfl) (hb hby at_172) (fun _ _ => ⟨rfl, e147, (by decide : 1 + 0 ≤ _), (by decide : 256 + 0 ≤ _)⟩)
          dsimp only [Pt.U, Pt.locs, Pt.cells, Pt.slots] at X160 l160 y160 z160 st160 hQ160
          subst l160 y160 z160
          obtain ⟨rfl, N160q, e160⟩ := hQ160
          have N160 := Fr.app N147 N160q
          have pre161 : ∀ t, Steps p.tables e below (T160.setTop (mkF m 175 #[.val (.int p0), .val (.long q1), .second, .val (.long q2), .second, .val (.int p3), .val (.int ps), .val (.int (1 : Int32)), .val (.int (1 : Int32)), .val (.int ot), .val (.ref b139), .val (.ref b139), .val (.int (0 : Int32))] [(.int (f_ca ps q1 q2 (0 : Int32)))])) t → Steps p.tables e below (s₁.setTop (entryFrame m #[(.int p0), (.long q1), (.long q2), (.int p3)] maxLocals)) t := fun t kt => pre158 t (st160 _ kt)
          have pre162 : ∀ t, Steps p.tables e below (T160.setTop (mkF m 185 #[.val (.int p0), .val (.long q1), .second, .val (.long q2), .second, .val (.int p3), .val (.int ps), .val (.int (1 : Int32)), .val (.int (1 : Int32)), .val (.int ot), .val (.ref b139), .val (.ref b139), .val (.int (0 : Int32))] [(.int (1 : Int32))])) t → Steps p.tables e below (s₁.setTop (entryFrame m #[(.int p0), (.long q1), (.long q2), (.int p3)] maxLocals)) t := fun t kt => pre161 t (by
            show Steps p.tables e below (T160.setTop (mkF m 175 #[.val (.int p0), .val (.long q1), .second, .val (.long q2), .second, .val (.int p3), .val (.int ps), .val (.int (1 : Int32)), .val (.int (1 : Int32)), .val (.int ot), .val (.ref b139), .val (.ref b139), .val (.int (0 : Int32))] [(.int (f_ca ps q1 q2 (0 : Int32)))])) _
            refine XS.iload X160.here hx rfl (hb hby at_175) rfl ?_
            show Steps p.tables e below (T160.setTop (mkF m 177 #[.val (.int p0), .val (.long q1), .second, .val (.long q2), .second, .val (.int p3), .val (.int ps), .val (.int (1 : Int32)), .val (.int (1 : Int32)), .val (.int ot), .val (.ref b139), .val (.ref b139), .val (.int (0 : Int32))] [(.int (0 : Int32)), (.int (f_ca ps q1 q2 (0 : Int32)))])) _
            refine XS.icmpNo X160.here hx rfl (hb hby at_177) rfl (teq (by unfold f_ca; rw [if_pos hc86_150, if_pos ((own_lo ps q1 hm2).mpr hc97_152)] : (f_ca ps q1 q2 (0 : Int32)) = (0 : Int32))).2 ?_
            show Steps p.tables e below (T160.setTop (mkF m 180 #[.val (.int p0), .val (.long q1), .second, .val (.long q2), .second, .val (.int p3), .val (.int ps), .val (.int (1 : Int32)), .val (.int (1 : Int32)), .val (.int ot), .val (.ref b139), .val (.ref b139), .val (.int (0 : Int32))] [])) _
            refine XS.iconst X160.here hx rfl (hb hby at_180) ?_
            show Steps p.tables e below (T160.setTop (mkF m 181 #[.val (.int p0), .val (.long q1), .second, .val (.long q2), .second, .val (.int p3), .val (.int ps), .val (.int (1 : Int32)), .val (.int (1 : Int32)), .val (.int ot), .val (.ref b139), .val (.ref b139), .val (.int (0 : Int32))] [(.int (1 : Int32))])) _
            refine XS.goto X160.here hx rfl (pc0 := 181) (pc' := 185) rfl (hb hby at_181) (by decide) (by decide) ?_
            exact kt)
          obtain ⟨fs, hr, hrun, hended, hW, hsame⟩ := X160.leave (v := some (.int (1 : Int32))) (fun h => by rw [Bd.returns] at h; cases h)
          refine ⟨_, _, pre162 _ ?_, hrun, hended, _, _, rfl, ?_, ⟨_, rfl⟩, hW, hsame.mono (by decide) (by decide)⟩
          · show Steps p.tables e below (T160.setTop (mkF m 185 #[.val (.int p0), .val (.long q1), .second, .val (.long q2), .second, .val (.int p3), .val (.int ps), .val (.int (1 : Int32)), .val (.int (1 : Int32)), .val (.int ot), .val (.ref b139), .val (.ref b139), .val (.int (0 : Int32))] [(.int (1 : Int32))])) _
            exact retN X160 hx (t := .boolean) Bd.returns (by simp) (hb hby at_185) hr
          · show Q0 Z p0 q1 q2 p3 h0 n0 _ T160.heap _
            rw [e160]
            exact ⟨rfl, N160⟩
      · have pre163 : ∀ t, Steps p.tables e below (T147.setTop (mkF m 115 #[.val (.int p0), .val (.long q1), .second, .val (.long q2), .second, .val (.int p3), .val (.int ps), .val (.int (1 : Int32)), .val (.int (1 : Int32)), .val (.int ot), .val (.ref b139), .val (.ref b139), .unset] [(.int (128 : Int32)), (.int ps)])) t → Steps p.tables e below (s₁.setTop (entryFrame m #[(.int p0), (.long q1), (.long q2), (.int p3)] maxLocals)) t := fun t kt => pre149 t (by
          show Steps p.tables e below (T147.setTop (mkF m 86 #[.val (.int p0), .val (.long q1), .second, .val (.long q2), .second, .val (.int p3), .val (.int ps), .val (.int (1 : Int32)), .val (.int (1 : Int32)), .val (.int ot), .val (.ref b139), .val (.ref b139), .unset] [(.int (64 : Int32)), (.int ps)])) _
          refine XS.icmpYes X147.here hx rfl (pc0 := 86) (pc' := 110) rfl (hb hby at_86) rfl (flt hc86_150).2.1 (by decide) (by decide) ?_
          show Steps p.tables e below (T147.setTop (mkF m 110 #[.val (.int p0), .val (.long q1), .second, .val (.long q2), .second, .val (.int p3), .val (.int ps), .val (.int (1 : Int32)), .val (.int (1 : Int32)), .val (.int ot), .val (.ref b139), .val (.ref b139), .unset] [])) _
          refine XS.iload X147.here hx rfl (hb hby at_110) rfl ?_
          show Steps p.tables e below (T147.setTop (mkF m 112 #[.val (.int p0), .val (.long q1), .second, .val (.long q2), .second, .val (.int p3), .val (.int ps), .val (.int (1 : Int32)), .val (.int (1 : Int32)), .val (.int ot), .val (.ref b139), .val (.ref b139), .unset] [(.int ps)])) _
          refine XS.sipush X147.here hx rfl (hb hby at_112) ?_
          exact kt)
        by_cases hc115_164 : ps < (128 : Int32)
        · have pre165 : ∀ t, Steps p.tables e below (T147.setTop (mkF m 129 #[.val (.int p0), .val (.long q1), .second, .val (.long q2), .second, .val (.int p3), .val (.int ps), .val (.int (1 : Int32)), .val (.int (1 : Int32)), .val (.int ot), .val (.ref b139), .val (.ref b139), .unset] [(.int (lcmpW (((q2.toUInt64 >>> ((ps - (64 : Int32)) &&& 0x3f).toInt64.toUInt64).toInt64) &&& (1 : Int64)) (1 : Int64)))])) t → Steps p.tables e below (s₁.setTop (entryFrame m #[(.int p0), (.long q1), (.long q2), (.int p3)] maxLocals)) t := fun t kt => pre163 t (by
            show Steps p.tables e below (T147.setTop (mkF m 115 #[.val (.int p0), .val (.long q1), .second, .val (.long q2), .second, .val (.int p3), .val (.int ps), .val (.int (1 : Int32)), .val (.int (1 : Int32)), .val (.int ot), .val (.ref b139), .val (.ref b139), .unset] [(.int (128 : Int32)), (.int ps)])) _
            refine XS.icmpNo X147.here hx rfl (hb hby at_115) rfl (tlt hc115_164).2.1 ?_
            show Steps p.tables e below (T147.setTop (mkF m 118 #[.val (.int p0), .val (.long q1), .second, .val (.long q2), .second, .val (.int p3), .val (.int ps), .val (.int (1 : Int32)), .val (.int (1 : Int32)), .val (.int ot), .val (.ref b139), .val (.ref b139), .unset] [])) _
            refine XS.lloadN X147.here hx rfl (hb hby at_118) rfl ?_
            show Steps p.tables e below (T147.setTop (mkF m 119 #[.val (.int p0), .val (.long q1), .second, .val (.long q2), .second, .val (.int p3), .val (.int ps), .val (.int (1 : Int32)), .val (.int (1 : Int32)), .val (.int ot), .val (.ref b139), .val (.ref b139), .unset] [(.long q2)])) _
            refine XS.iload X147.here hx rfl (hb hby at_119) rfl ?_
            show Steps p.tables e below (T147.setTop (mkF m 121 #[.val (.int p0), .val (.long q1), .second, .val (.long q2), .second, .val (.int p3), .val (.int ps), .val (.int (1 : Int32)), .val (.int (1 : Int32)), .val (.int ot), .val (.ref b139), .val (.ref b139), .unset] [(.int ps), (.long q2)])) _
            refine XS.bipush X147.here hx rfl (hb hby at_121) ?_
            show Steps p.tables e below (T147.setTop (mkF m 123 #[.val (.int p0), .val (.long q1), .second, .val (.long q2), .second, .val (.int p3), .val (.int ps), .val (.int (1 : Int32)), .val (.int (1 : Int32)), .val (.int ot), .val (.ref b139), .val (.ref b139), .unset] [(.int (64 : Int32)), (.int ps), (.long q2)])) _
            refine XS.isub X147.here hx rfl (hb hby at_123) rfl ?_
            show Steps p.tables e below (T147.setTop (mkF m 124 #[.val (.int p0), .val (.long q1), .second, .val (.long q2), .second, .val (.int p3), .val (.int ps), .val (.int (1 : Int32)), .val (.int (1 : Int32)), .val (.int ot), .val (.ref b139), .val (.ref b139), .unset] [(.int (ps - (64 : Int32))), (.long q2)])) _
            refine XS.lushr X147.here hx rfl (hb hby at_124) rfl ?_
            show Steps p.tables e below (T147.setTop (mkF m 125 #[.val (.int p0), .val (.long q1), .second, .val (.long q2), .second, .val (.int p3), .val (.int ps), .val (.int (1 : Int32)), .val (.int (1 : Int32)), .val (.int ot), .val (.ref b139), .val (.ref b139), .unset] [(.long ((q2.toUInt64 >>> ((ps - (64 : Int32)) &&& 0x3f).toInt64.toUInt64).toInt64))])) _
            refine XS.lconst X147.here hx rfl (hb hby at_125) ?_
            show Steps p.tables e below (T147.setTop (mkF m 126 #[.val (.int p0), .val (.long q1), .second, .val (.long q2), .second, .val (.int p3), .val (.int ps), .val (.int (1 : Int32)), .val (.int (1 : Int32)), .val (.int ot), .val (.ref b139), .val (.ref b139), .unset] [(.long (1 : Int64)), (.long ((q2.toUInt64 >>> ((ps - (64 : Int32)) &&& 0x3f).toInt64.toUInt64).toInt64))])) _
            refine XS.land X147.here hx rfl (hb hby at_126) rfl ?_
            show Steps p.tables e below (T147.setTop (mkF m 127 #[.val (.int p0), .val (.long q1), .second, .val (.long q2), .second, .val (.int p3), .val (.int ps), .val (.int (1 : Int32)), .val (.int (1 : Int32)), .val (.int ot), .val (.ref b139), .val (.ref b139), .unset] [(.long (((q2.toUInt64 >>> ((ps - (64 : Int32)) &&& 0x3f).toInt64.toUInt64).toInt64) &&& (1 : Int64)))])) _
            refine XS.lconst X147.here hx rfl (hb hby at_127) ?_
            show Steps p.tables e below (T147.setTop (mkF m 128 #[.val (.int p0), .val (.long q1), .second, .val (.long q2), .second, .val (.int p3), .val (.int ps), .val (.int (1 : Int32)), .val (.int (1 : Int32)), .val (.int ot), .val (.ref b139), .val (.ref b139), .unset] [(.long (1 : Int64)), (.long (((q2.toUInt64 >>> ((ps - (64 : Int32)) &&& 0x3f).toInt64.toUInt64).toInt64) &&& (1 : Int64)))])) _
            refine XS.lcmp X147.here hx rfl (hb hby at_128) rfl ?_
            exact kt)
          by_cases hc129_166 : (((q2.toUInt64 >>> ((ps - (64 : Int32)) &&& 0x3f).toInt64.toUInt64).toInt64) &&& (1 : Int64)) = (1 : Int64)
          · have pre167 : ∀ t, Steps p.tables e below (T147.setTop (mkF m 172 #[.val (.int p0), .val (.long q1), .second, .val (.long q2), .second, .val (.int p3), .val (.int ps), .val (.int (1 : Int32)), .val (.int (1 : Int32)), .val (.int ot), .val (.ref b139), .val (.ref b139), .val (.int (1 : Int32))] [(.ref b139), (.long q2), (.long q1), (.int ps)])) t → Steps p.tables e below (s₁.setTop (entryFrame m #[(.int p0), (.long q1), (.long q2), (.int p3)] maxLocals)) t := fun t kt => pre165 t (by
              show Steps p.tables e below (T147.setTop (mkF m 129 #[.val (.int p0), .val (.long q1), .second, .val (.long q2), .second, .val (.int p3), .val (.int ps), .val (.int (1 : Int32)), .val (.int (1 : Int32)), .val (.int ot), .val (.ref b139), .val (.ref b139), .unset] [(.int (lcmpW (((q2.toUInt64 >>> ((ps - (64 : Int32)) &&& 0x3f).toInt64.toUInt64).toInt64) &&& (1 : Int64)) (1 : Int64)))])) _
              refine XS.ifNo X147.here hx rfl (hb hby at_129) rfl (Jvm.Free.XT.ll_ne_f hc129_166) ?_
              show Steps p.tables e below (T147.setTop (mkF m 132 #[.val (.int p0), .val (.long q1), .second, .val (.long q2), .second, .val (.int p3), .val (.int ps), .val (.int (1 : Int32)), .val (.int (1 : Int32)), .val (.int ot), .val (.ref b139), .val (.ref b139), .unset] [])) _
              refine XS.iconst X147.here hx rfl (hb hby at_132) ?_
              show Steps p.tables e below (T147.setTop (mkF m 133 #[.val (.int p0), .val (.long q1), .second, .val (.long q2), .second, .val (.int p3), .val (.int ps), .val (.int (1 : Int32)), .val (.int (1 : Int32)), .val (.int ot), .val (.ref b139), .val (.ref b139), .unset] [(.int (1 : Int32))])) _
              refine XS.goto X147.here hx rfl (pc0 := 133) (pc' := 137) rfl (hb hby at_133) (by decide) (by decide) ?_
              show Steps p.tables e below (T147.setTop (mkF m 137 #[.val (.int p0), .val (.long q1), .second, .val (.long q2), .second, .val (.int p3), .val (.int ps), .val (.int (1 : Int32)), .val (.int (1 : Int32)), .val (.int ot), .val (.ref b139), .val (.ref b139), .unset] [(.int (1 : Int32))])) _
              refine XS.istore X147.here hx rfl (hb hby at_137) rfl (l' := #[.val (.int p0), .val (.long q1), .second, .val (.long q2), .second, .val (.int p3), .val (.int ps), .val (.int (1 : Int32)), .val (.int (1 : Int32)), .val (.int ot), .val (.ref b139), .val (.ref b139), .val (.int (1 : Int32))]) rfl ?_
              show Steps p.tables e below (T147.setTop (mkF m 139 #[.val (.int p0), .val (.long q1), .second, .val (.long q2), .second, .val (.int p3), .val (.int ps), .val (.int (1 : Int32)), .val (.int (1 : Int32)), .val (.int ot), .val (.ref b139), .val (.ref b139), .val (.int (1 : Int32))] [])) _
              refine XS.goto X147.here hx rfl (pc0 := 139) (pc' := 166) rfl (hb hby at_139) (by decide) (by decide) ?_
              show Steps p.tables e below (T147.setTop (mkF m 166 #[.val (.int p0), .val (.long q1), .second, .val (.long q2), .second, .val (.int p3), .val (.int ps), .val (.int (1 : Int32)), .val (.int (1 : Int32)), .val (.int ot), .val (.ref b139), .val (.ref b139), .val (.int (1 : Int32))] [])) _
              refine XS.iload X147.here hx rfl (hb hby at_166) rfl ?_
              show Steps p.tables e below (T147.setTop (mkF m 168 #[.val (.int p0), .val (.long q1), .second, .val (.long q2), .second, .val (.int p3), .val (.int ps), .val (.int (1 : Int32)), .val (.int (1 : Int32)), .val (.int ot), .val (.ref b139), .val (.ref b139), .val (.int (1 : Int32))] [(.int ps)])) _
              refine XS.lloadN X147.here hx rfl (hb hby at_168) rfl ?_
              show Steps p.tables e below (T147.setTop (mkF m 169 #[.val (.int p0), .val (.long q1), .second, .val (.long q2), .second, .val (.int p3), .val (.int ps), .val (.int (1 : Int32)), .val (.int (1 : Int32)), .val (.int ot), .val (.ref b139), .val (.ref b139), .val (.int (1 : Int32))] [(.long q1), (.int ps)])) _
              refine XS.lloadN X147.here hx rfl (hb hby at_169) rfl ?_
              show Steps p.tables e below (T147.setTop (mkF m 170 #[.val (.int p0), .val (.long q1), .second, .val (.long q2), .second, .val (.int p3), .val (.int ps), .val (.int (1 : Int32)), .val (.int (1 : Int32)), .val (.int ot), .val (.ref b139), .val (.ref b139), .val (.int (1 : Int32))] [(.long q2), (.long q1), (.int ps)])) _
              refine XS.aload X147.here hx rfl (hb hby at_170) rfl rfl ?_
              exact kt)
            have tv168 := V147
            obtain ⟨cl168, Ar168, q168, S168, Ng168, H168, G168⟩ := tv168
            have hin168 : ¬ (ps < 0 ∨ cl168.slots.size ≤ (ps).toNatClampNeg) := inb_of S168 hm2
            obtain ⟨_, _, ⟨T169, L169, k169, n169⟩, -, X169, ⟨Lc169, hQ169, l169, y169, z169⟩, st169⟩ := Jvm.LawKit.callS X147 hx (y := (⟨"com/example/baton/baton/support/Skipped", "contains", "(IJJ[Z)Z"⟩ : MethodName)) hown (mvT hZ (hw _ (List.mem_of_getElem? (i := 1) rfl))) (mvT hZ (hw _ (List.mem_of_getElem? (i := 2) rfl))) (mvT hZ (hw _ (List.mem_of_getElem? (i := 3) rfl))) (mvT hZ (hw _ (List.mem_of_getElem? (i := 4) rfl))) (by decide) (backOf (W := 0) (rm1a l Z av hw [] ps q1 q2 b139 cl168 (0 : Int32) h147 n0 Z147 Ar168 (fun _ => hin168) (fun h => absurd hc115_164 h)) hZ (hw _ (List.mem_of_getElem? (i := 4) rfl)) (hw _ (List.mem_of_getElem? (i := 3) rfl)) (by decide) (by decide)) (g := (mkF m 172 #[.val (.int p0), .val (.long q1), .second, .val (.long q2), .second, .val (.int p3), .val (.int ps), .val (.int (1 : Int32)), .val (.int (1 : Int32)), .val (.int ot), .val (.ref b139), .val (.ref b139), .val (.int (1 : Int32))] [(.ref b139), (.long q2), (.long q1), (.int ps)])) rfl (by rw [hml]; rfl) (argsL := [(.int ps), (.long q1), (.long q2), (.ref b139)]) (rest := []) (lenOf pd__IJJ_Z_Z rfl) rfl (by show 2 * 0 + _ ≤ _; exact Nat.le_of_eq rfl) (hb hby at_172) (fun _ _ => ⟨rfl, e147, (by decide : 1 + 0 ≤ _), (by decide : 256 + 0 ≤ _)⟩)
            dsimp only [Pt.U, Pt.locs, Pt.cells, Pt.slots] at X169 l169 y169 z169 st169 hQ169
            subst l169 y169 z169
            obtain ⟨rfl, N169q, e169⟩ := hQ169
            have N169 := Fr.app N147 N169q
            have pre170 : ∀ t, Steps p.tables e below (T169.setTop (mkF m 175 #[.val (.int p0), .val (.long q1), .second, .val (.long q2), .second, .val (.int p3), .val (.int ps), .val (.int (1 : Int32)), .val (.int (1 : Int32)), .val (.int ot), .val (.ref b139), .val (.ref b139), .val (.int (1 : Int32))] [(.int (f_ca ps q1 q2 (0 : Int32)))])) t → Steps p.tables e below (s₁.setTop (entryFrame m #[(.int p0), (.long q1), (.long q2), (.int p3)] maxLocals)) t := fun t kt => pre167 t (st169 _ kt)
            have pre171 : ∀ t, Steps p.tables e below (T169.setTop (mkF m 185 #[.val (.int p0), .val (.long q1), .second, .val (.long q2), .second, .val (.int p3), .val (.int ps), .val (.int (1 : Int32)), .val (.int (1 : Int32)), .val (.int ot), .val (.ref b139), .val (.ref b139), .val (.int (1 : Int32))] [(.int (1 : Int32))])) t → Steps p.tables e below (s₁.setTop (entryFrame m #[(.int p0), (.long q1), (.long q2), (.int p3)] maxLocals)) t := fun t kt => pre170 t (by
              show Steps p.tables e below (T169.setTop (mkF m 175 #[.val (.int p0), .val (.long q1), .second, .val (.long q2), .second, .val (.int p3), .val (.int ps), .val (.int (1 : Int32)), .val (.int (1 : Int32)), .val (.int ot), .val (.ref b139), .val (.ref b139), .val (.int (1 : Int32))] [(.int (f_ca ps q1 q2 (0 : Int32)))])) _
              refine XS.iload X169.here hx rfl (hb hby at_175) rfl ?_
              show Steps p.tables e below (T169.setTop (mkF m 177 #[.val (.int p0), .val (.long q1), .second, .val (.long q2), .second, .val (.int p3), .val (.int ps), .val (.int (1 : Int32)), .val (.int (1 : Int32)), .val (.int ot), .val (.ref b139), .val (.ref b139), .val (.int (1 : Int32))] [(.int (1 : Int32)), (.int (f_ca ps q1 q2 (0 : Int32)))])) _
              refine XS.icmpNo X169.here hx rfl (hb hby at_177) rfl (teq (by unfold f_ca; rw [if_neg hc86_150, if_pos hc115_164, if_neg (fun q => (own_hi ps q2 hm2 hc86_150).mp q hc129_166)] : (f_ca ps q1 q2 (0 : Int32)) = (1 : Int32))).2 ?_
              show Steps p.tables e below (T169.setTop (mkF m 180 #[.val (.int p0), .val (.long q1), .second, .val (.long q2), .second, .val (.int p3), .val (.int ps), .val (.int (1 : Int32)), .val (.int (1 : Int32)), .val (.int ot), .val (.ref b139), .val (.ref b139), .val (.int (1 : Int32))] [])) _
              refine XS.iconst X169.here hx rfl (hb hby at_180) ?_
              show Steps p.tables e below (T169.setTop (mkF m 181 #[.val (.int p0), .val (.long q1), .second, .val (.long q2), .second, .val (.int p3), .val (.int ps), .val (.int (1 : Int32)), .val (.int (1 : Int32)), .val (.int ot), .val (.ref b139), .val (.ref b139), .val (.int (1 : Int32))] [(.int (1 : Int32))])) _
              refine XS.goto X169.here hx rfl (pc0 := 181) (pc' := 185) rfl (hb hby at_181) (by decide) (by decide) ?_
              exact kt)
            obtain ⟨fs, hr, hrun, hended, hW, hsame⟩ := X169.leave (v := some (.int (1 : Int32))) (fun h => by rw [Bd.returns] at h; cases h)
            refine ⟨_, _, pre171 _ ?_, hrun, hended, _, _, rfl, ?_, ⟨_, rfl⟩, hW, hsame.mono (by decide) (by decide)⟩
            · show Steps p.tables e below (T169.setTop (mkF m 185 #[.val (.int p0), .val (.long q1), .second, .val (.long q2), .second, .val (.int p3), .val (.int ps), .val (.int (1 : Int32)), .val (.int (1 : Int32)), .val (.int ot), .val (.ref b139), .val (.ref b139), .val (.int (1 : Int32))] [(.int (1 : Int32))])) _
              exact retN X169 hx (t := .boolean) Bd.returns (by simp) (hb hby at_185) hr
            · show Q0 Z p0 q1 q2 p3 h0 n0 _ T169.heap _
              rw [e169]
              exact ⟨rfl, N169⟩
          · have pre172 : ∀ t, Steps p.tables e below (T147.setTop (mkF m 172 #[.val (.int p0), .val (.long q1), .second, .val (.long q2), .second, .val (.int p3), .val (.int ps), .val (.int (1 : Int32)), .val (.int (1 : Int32)), .val (.int ot), .val (.ref b139), .val (.ref b139), .val (.int (0 : Int32))] [(.ref b139), (.long q2), (.long q1), (.int ps)])) t → Steps p.tables e below (s₁.setTop (entryFrame m #[(.int p0), (.long q1), (.long q2), (.int p3)] maxLocals)) t := fun t kt => pre165 t (by
              show Steps p.tables e below (T147.setTop (mkF m 129 #[.val (.int p0), .val (.long q1), .second, .val (.long q2), .second, .val (.int p3), .val (.int ps), .val (.int (1 : Int32)), .val (.int (1 : Int32)), .val (.int ot), .val (.ref b139), .val (.ref b139), .unset] [(.int (lcmpW (((q2.toUInt64 >>> ((ps - (64 : Int32)) &&& 0x3f).toInt64.toUInt64).toInt64) &&& (1 : Int64)) (1 : Int64)))])) _
              refine XS.ifYes X147.here hx rfl (pc0 := 129) (pc' := 136) rfl (hb hby at_129) rfl (Jvm.Free.XT.ll_ne_t hc129_166) (by decide) (by decide) ?_
              show Steps p.tables e below (T147.setTop (mkF m 136 #[.val (.int p0), .val (.long q1), .second, .val (.long q2), .second, .val (.int p3), .val (.int ps), .val (.int (1 : Int32)), .val (.int (1 : Int32)), .val (.int ot), .val (.ref b139), .val (.ref b139), .unset] [])) _
              refine XS.iconst X147.here hx rfl (hb hby at_136) ?_
              show Steps p.tables e below (T147.setTop (mkF m 137 #[.val (.int p0), .val (.long q1), .second, .val (.long q2), .second, .val (.int p3), .val (.int ps), .val (.int (1 : Int32)), .val (.int (1 : Int32)), .val (.int ot), .val (.ref b139), .val (.ref b139), .unset] [(.int (0 : Int32))])) _
              refine XS.istore X147.here hx rfl (hb hby at_137) rfl (l' := #[.val (.int p0), .val (.long q1), .second, .val (.long q2), .second, .val (.int p3), .val (.int ps), .val (.int (1 : Int32)), .val (.int (1 : Int32)), .val (.int ot), .val (.ref b139), .val (.ref b139), .val (.int (0 : Int32))]) rfl ?_
              show Steps p.tables e below (T147.setTop (mkF m 139 #[.val (.int p0), .val (.long q1), .second, .val (.long q2), .second, .val (.int p3), .val (.int ps), .val (.int (1 : Int32)), .val (.int (1 : Int32)), .val (.int ot), .val (.ref b139), .val (.ref b139), .val (.int (0 : Int32))] [])) _
              refine XS.goto X147.here hx rfl (pc0 := 139) (pc' := 166) rfl (hb hby at_139) (by decide) (by decide) ?_
              show Steps p.tables e below (T147.setTop (mkF m 166 #[.val (.int p0), .val (.long q1), .second, .val (.long q2), .second, .val (.int p3), .val (.int ps), .val (.int (1 : Int32)), .val (.int (1 : Int32)), .val (.int ot), .val (.ref b139), .val (.ref b139), .val (.int (0 : Int32))] [])) _
              refine XS.iload X147.here hx rfl (hb hby at_166) rfl ?_
              show Steps p.tables e below (T147.setTop (mkF m 168 #[.val (.int p0), .val (.long q1), .second, .val (.long q2), .second, .val (.int p3), .val (.int ps), .val (.int (1 : Int32)), .val (.int (1 : Int32)), .val (.int ot), .val (.ref b139), .val (.ref b139), .val (.int (0 : Int32))] [(.int ps)])) _
              refine XS.lloadN X147.here hx rfl (hb hby at_168) rfl ?_
              show Steps p.tables e below (T147.setTop (mkF m 169 #[.val (.int p0), .val (.long q1), .second, .val (.long q2), .second, .val (.int p3), .val (.int ps), .val (.int (1 : Int32)), .val (.int (1 : Int32)), .val (.int ot), .val (.ref b139), .val (.ref b139), .val (.int (0 : Int32))] [(.long q1), (.int ps)])) _
              refine XS.lloadN X147.here hx rfl (hb hby at_169) rfl ?_
              show Steps p.tables e below (T147.setTop (mkF m 170 #[.val (.int p0), .val (.long q1), .second, .val (.long q2), .second, .val (.int p3), .val (.int ps), .val (.int (1 : Int32)), .val (.int (1 : Int32)), .val (.int ot), .val (.ref b139), .val (.ref b139), .val (.int (0 : Int32))] [(.long q2), (.long q1), (.int ps)])) _
              refine XS.aload X147.here hx rfl (hb hby at_170) rfl rfl ?_
              exact kt)
            have tv173 := V147
            obtain ⟨cl173, Ar173, q173, S173, Ng173, H173, G173⟩ := tv173
            have hin173 : ¬ (ps < 0 ∨ cl173.slots.size ≤ (ps).toNatClampNeg) := inb_of S173 hm2
            obtain ⟨_, _, ⟨T174, L174, k174, n174⟩, -, X174, ⟨Lc174, hQ174, l174, y174, z174⟩, st174⟩ := Jvm.LawKit.callS X147 hx (y := (⟨"com/example/baton/baton/support/Skipped", "contains", "(IJJ[Z)Z"⟩ : MethodName)) hown (mvT hZ (hw _ (List.mem_of_getElem? (i := 1) rfl))) (mvT hZ (hw _ (List.mem_of_getElem? (i := 2) rfl))) (mvT hZ (hw _ (List.mem_of_getElem? (i := 3) rfl))) (mvT hZ (hw _ (List.mem_of_getElem? (i := 4) rfl))) (by decide) (backOf (W := 0) (rm1a l Z av hw [] ps q1 q2 b139 cl173 (0 : Int32) h147 n0 Z147 Ar173 (fun _ => hin173) (fun h => absurd hc115_164 h)) hZ (hw _ (List.mem_of_getElem? (i := 4) rfl)) (hw _ (List.mem_of_getElem? (i := 3) rfl)) (by decide) (by decide)) (g := (mkF m 172 #[.val (.int p0), .val (.long q1), .second, .val (.long q2), .second, .val (.int p3), .val (.int ps), .val (.int (1 : Int32)), .val (.int (1 : Int32)), .val (.int ot), .val (.ref b139), .val (.ref b139), .val (.int (0 : Int32))] [(.ref b139), (.long q2), (.long q1), (.int ps)])) rfl (by rw [hml]; rfl) (argsL := [(.int ps), (.long q1), (.long q2), (.ref b139)]) (rest := []) (lenOf pd__IJJ_Z_Z rfl) rfl (by show 2 * 0 + _ ≤ _; exact Nat.le_of_eq rfl) (hb hby at_172) (fun _ _ => ⟨rfl, e147, (by decide : 1 + 0 ≤ _), (by decide : 256 + 0 ≤ _)⟩)
            dsimp only [Pt.U, Pt.locs, Pt.cells, Pt.slots] at X174 l174 y174 z174 st174 hQ174
            subst l174 y174 z174
            obtain ⟨rfl, N174q, e174⟩ := hQ174
            have N174 := Fr.app N147 N174q
            have pre175 : ∀ t, Steps p.tables e below (T174.setTop (mkF m 175 #[.val (.int p0), .val (.long q1), .second, .val (.long q2), .second, .val (.int p3), .val (.int ps), .val (.int (1 : Int32)), .val (.int (1 : Int32)), .val (.int ot), .val (.ref b139), .val (.ref b139), .val (.int (0 : Int32))] [(.int (f_ca ps q1 q2 (0 : Int32)))])) t → Steps p.tables e below (s₁.setTop (entryFrame m #[(.int p0), (.long q1), (.long q2), (.int p3)] maxLocals)) t := fun t kt => pre172 t (st174 _ kt)
            have pre176 : ∀ t, Steps p.tables e below (T174.setTop (mkF m 185 #[.val (.int p0), .val (.long q1), .second, .val (.long q2), .second, .val (.int p3), .val (.int ps), .val (.int (1 : Int32)), .val (.int (1 : Int32)), .val (.int ot), .val (.ref b139), .val (.ref b139), .val (.int (0 : Int32))] [(.int (1 : Int32))])) t → Steps p.tables e below (s₁.setTop (entryFrame m #[(.int p0), (.long q1), (.long q2), (.int p3)] maxLocals)) t := fun t kt => pre175 t (by
              show Steps p.tables e below (T174.setTop (mkF m 175 #[.val (.int p0), .val (.long q1), .second, .val (.long q2), .second, .val (.int p3), .val (.int ps), .val (.int (1 : Int32)), .val (.int (1 : Int32)), .val (.int ot), .val (.ref b139), .val (.ref b139), .val (.int (0 : Int32))] [(.int (f_ca ps q1 q2 (0 : Int32)))])) _
              refine XS.iload X174.here hx rfl (hb hby at_175) rfl ?_
              show Steps p.tables e below (T174.setTop (mkF m 177 #[.val (.int p0), .val (.long q1), .second, .val (.long q2), .second, .val (.int p3), .val (.int ps), .val (.int (1 : Int32)), .val (.int (1 : Int32)), .val (.int ot), .val (.ref b139), .val (.ref b139), .val (.int (0 : Int32))] [(.int (0 : Int32)), (.int (f_ca ps q1 q2 (0 : Int32)))])) _
              refine XS.icmpNo X174.here hx rfl (hb hby at_177) rfl (teq (by unfold f_ca; rw [if_neg hc86_150, if_pos hc115_164, if_pos ((own_hi ps q2 hm2 hc86_150).mpr hc129_166)] : (f_ca ps q1 q2 (0 : Int32)) = (0 : Int32))).2 ?_
              show Steps p.tables e below (T174.setTop (mkF m 180 #[.val (.int p0), .val (.long q1), .second, .val (.long q2), .second, .val (.int p3), .val (.int ps), .val (.int (1 : Int32)), .val (.int (1 : Int32)), .val (.int ot), .val (.ref b139), .val (.ref b139), .val (.int (0 : Int32))] [])) _
              refine XS.iconst X174.here hx rfl (hb hby at_180) ?_
              show Steps p.tables e below (T174.setTop (mkF m 181 #[.val (.int p0), .val (.long q1), .second, .val (.long q2), .second, .val (.int p3), .val (.int ps), .val (.int (1 : Int32)), .val (.int (1 : Int32)), .val (.int ot), .val (.ref b139), .val (.ref b139), .val (.int (0 : Int32))] [(.int (1 : Int32))])) _
              refine XS.goto X174.here hx rfl (pc0 := 181) (pc' := 185) rfl (hb hby at_181) (by decide) (by decide) ?_
              exact kt)
            obtain ⟨fs, hr, hrun, hended, hW, hsame⟩ := X174.leave (v := some (.int (1 : Int32))) (fun h => by rw [Bd.returns] at h; cases h)
            refine ⟨_, _, pre176 _ ?_, hrun, hended, _, _, rfl, ?_, ⟨_, rfl⟩, hW, hsame.mono (by decide) (by decide)⟩
            · show Steps p.tables e below (T174.setTop (mkF m 185 #[.val (.int p0), .val (.long q1), .second, .val (.long q2), .second, .val (.int p3), .val (.int ps), .val (.int (1 : Int32)), .val (.int (1 : Int32)), .val (.int ot), .val (.ref b139), .val (.ref b139), .val (.int (0 : Int32))] [(.int (1 : Int32))])) _
              exact retN X174 hx (t := .boolean) Bd.returns (by simp) (hb hby at_185) hr
            · show Q0 Z p0 q1 q2 p3 h0 n0 _ T174.heap _
              rw [e174]
              exact ⟨rfl, N174⟩
        · have pre177 : ∀ t, Steps p.tables e below (T147.setTop (mkF m 172 #[.val (.int p0), .val (.long q1), .second, .val (.long q2), .second, .val (.int p3), .val (.int ps), .val (.int (1 : Int32)), .val (.int (1 : Int32)), .val (.int ot), .val (.ref b139), .val (.ref b139), .val (.int (1 : Int32))] [(.ref b139), (.long q2), (.long q1), (.int ps)])) t → Steps p.tables e below (s₁.setTop (entryFrame m #[(.int p0), (.long q1), (.long q2), (.int p3)] maxLocals)) t := fun t kt => pre163 t (by
            show Steps p.tables e below (T147.setTop (mkF m 115 #[.val (.int p0), .val (.long q1), .second, .val (.long q2), .second, .val (.int p3), .val (.int ps), .val (.int (1 : Int32)), .val (.int (1 : Int32)), .val (.int ot), .val (.ref b139), .val (.ref b139), .unset] [(.int (128 : Int32)), (.int ps)])) _
            refine XS.icmpYes X147.here hx rfl (pc0 := 115) (pc' := 142) rfl (hb hby at_115) rfl (flt hc115_164).2.1 (by decide) (by decide) ?_
            show Steps p.tables e below (T147.setTop (mkF m 142 #[.val (.int p0), .val (.long q1), .second, .val (.long q2), .second, .val (.int p3), .val (.int ps), .val (.int (1 : Int32)), .val (.int (1 : Int32)), .val (.int ot), .val (.ref b139), .val (.ref b139), .unset] [])) _
            refine XS.iload X147.here hx rfl (hb hby at_142) rfl ?_
            show Steps p.tables e below (T147.setTop (mkF m 144 #[.val (.int p0), .val (.long q1), .second, .val (.long q2), .second, .val (.int p3), .val (.int ps), .val (.int (1 : Int32)), .val (.int (1 : Int32)), .val (.int ot), .val (.ref b139), .val (.ref b139), .unset] [(.int (1 : Int32))])) _
            refine XS.ifNo X147.here hx rfl (hb hby at_144) rfl ((if0 _ _).trans (feq (by decide : ¬ ((1 : Int32) = (0 : Int32)))).1) ?_
            show Steps p.tables e below (T147.setTop (mkF m 147 #[.val (.int p0), .val (.long q1), .second, .val (.long q2), .second, .val (.int p3), .val (.int ps), .val (.int (1 : Int32)), .val (.int (1 : Int32)), .val (.int ot), .val (.ref b139), .val (.ref b139), .unset] [])) _
            refine XS.iload X147.here hx rfl (hb hby at_147) rfl ?_
            show Steps p.tables e below (T147.setTop (mkF m 149 #[.val (.int p0), .val (.long q1), .second, .val (.long q2), .second, .val (.int p3), .val (.int ps), .val (.int (1 : Int32)), .val (.int (1 : Int32)), .val (.int ot), .val (.ref b139), .val (.ref b139), .unset] [(.int (1 : Int32))])) _
            refine XS.ifYes X147.here hx rfl (pc0 := 149) (pc' := 159) rfl (hb hby at_149) rfl ((if0 _ _).trans (feq (by decide : ¬ ((1 : Int32) = (0 : Int32)))).2) (by decide) (by decide) ?_
            show Steps p.tables e below (T147.setTop (mkF m 159 #[.val (.int p0), .val (.long q1), .second, .val (.long q2), .second, .val (.int p3), .val (.int ps), .val (.int (1 : Int32)), .val (.int (1 : Int32)), .val (.int ot), .val (.ref b139), .val (.ref b139), .unset] [])) _
            refine XS.iconst X147.here hx rfl (hb hby at_159) ?_
            show Steps p.tables e below (T147.setTop (mkF m 160 #[.val (.int p0), .val (.long q1), .second, .val (.long q2), .second, .val (.int p3), .val (.int ps), .val (.int (1 : Int32)), .val (.int (1 : Int32)), .val (.int ot), .val (.ref b139), .val (.ref b139), .unset] [(.int (1 : Int32))])) _
            refine XS.goto X147.here hx rfl (pc0 := 160) (pc' := 164) rfl (hb hby at_160) (by decide) (by decide) ?_
            show Steps p.tables e below (T147.setTop (mkF m 164 #[.val (.int p0), .val (.long q1), .second, .val (.long q2), .second, .val (.int p3), .val (.int ps), .val (.int (1 : Int32)), .val (.int (1 : Int32)), .val (.int ot), .val (.ref b139), .val (.ref b139), .unset] [(.int (1 : Int32))])) _
            refine XS.istore X147.here hx rfl (hb hby at_164) rfl (l' := #[.val (.int p0), .val (.long q1), .second, .val (.long q2), .second, .val (.int p3), .val (.int ps), .val (.int (1 : Int32)), .val (.int (1 : Int32)), .val (.int ot), .val (.ref b139), .val (.ref b139), .val (.int (1 : Int32))]) rfl ?_
            show Steps p.tables e below (T147.setTop (mkF m 166 #[.val (.int p0), .val (.long q1), .second, .val (.long q2), .second, .val (.int p3), .val (.int ps), .val (.int (1 : Int32)), .val (.int (1 : Int32)), .val (.int ot), .val (.ref b139), .val (.ref b139), .val (.int (1 : Int32))] [])) _
            refine XS.iload X147.here hx rfl (hb hby at_166) rfl ?_
            show Steps p.tables e below (T147.setTop (mkF m 168 #[.val (.int p0), .val (.long q1), .second, .val (.long q2), .second, .val (.int p3), .val (.int ps), .val (.int (1 : Int32)), .val (.int (1 : Int32)), .val (.int ot), .val (.ref b139), .val (.ref b139), .val (.int (1 : Int32))] [(.int ps)])) _
            refine XS.lloadN X147.here hx rfl (hb hby at_168) rfl ?_
            show Steps p.tables e below (T147.setTop (mkF m 169 #[.val (.int p0), .val (.long q1), .second, .val (.long q2), .second, .val (.int p3), .val (.int ps), .val (.int (1 : Int32)), .val (.int (1 : Int32)), .val (.int ot), .val (.ref b139), .val (.ref b139), .val (.int (1 : Int32))] [(.long q1), (.int ps)])) _
            refine XS.lloadN X147.here hx rfl (hb hby at_169) rfl ?_
            show Steps p.tables e below (T147.setTop (mkF m 170 #[.val (.int p0), .val (.long q1), .second, .val (.long q2), .second, .val (.int p3), .val (.int ps), .val (.int (1 : Int32)), .val (.int (1 : Int32)), .val (.int ot), .val (.ref b139), .val (.ref b139), .val (.int (1 : Int32))] [(.long q2), (.long q1), (.int ps)])) _
            refine XS.aload X147.here hx rfl (hb hby at_170) rfl rfl ?_
            exact kt)
          have tv178 := V147
          obtain ⟨cl178, Ar178, q178, S178, Ng178, H178, G178⟩ := tv178
          have hin178 : ¬ (ps < 0 ∨ cl178.slots.size ≤ (ps).toNatClampNeg) := inb_of S178 hm2
          obtain ⟨_, _, ⟨T179, L179, k179, n179⟩, -, X179, ⟨Lc179, hQ179, l179, y179, z179⟩, st179⟩ := Jvm.LawKit.callS X147 hx (y := (⟨"com/example/baton/baton/support/Skipped", "contains", "(IJJ[Z)Z"⟩ : MethodName)) hown (mvT hZ (hw _ (List.mem_of_getElem? (i := 1) rfl))) (mvT hZ (hw _ (List.mem_of_getElem? (i := 2) rfl))) (mvT hZ (hw _ (List.mem_of_getElem? (i := 3) rfl))) (mvT hZ (hw _ (List.mem_of_getElem? (i := 4) rfl))) (by decide) (backOf (W := 0) (rm1a l Z av hw [] ps q1 q2 b139 cl178 (1 : Int32) h147 n0 Z147 Ar178 (fun _ => hin178) (fun _ => atH H178 hin178 (getH_hit hm2.1 rfl))) hZ (hw _ (List.mem_of_getElem? (i := 4) rfl)) (hw _ (List.mem_of_getElem? (i := 3) rfl)) (by decide) (by decide)) (g := (mkF m 172 #[.val (.int p0), .val (.long q1), .second, .val (.long q2), .second, .val (.int p3), .val (.int ps), .val (.int (1 : Int32)), .val (.int (1 : Int32)), .val (.int ot), .val (.ref b139), .val (.ref b139), .val (.int (1 : Int32))] [(.ref b139), (.long q2), (.long q1), (.int ps)])) rfl (by rw [hml]; rfl) (argsL := [(.int ps), (.long q1), (.long q2), (.ref b139)]) (rest := []) (lenOf pd__IJJ_Z_Z rfl) rfl (by show 2 * 0 + _ ≤ _; exact Nat.le_of_eq rfl) (hb hby at_172) (fun _ _ => ⟨rfl, e147, (by decide : 1 + 0 ≤ _), (by decide : 256 + 0 ≤ _)⟩)
          dsimp only [Pt.U, Pt.locs, Pt.cells, Pt.slots] at X179 l179 y179 z179 st179 hQ179
          subst l179 y179 z179
          obtain ⟨rfl, N179q, e179⟩ := hQ179
          have N179 := Fr.app N147 N179q
          have pre180 : ∀ t, Steps p.tables e below (T179.setTop (mkF m 175 #[.val (.int p0), .val (.long q1), .second, .val (.long q2), .second, .val (.int p3), .val (.int ps), .val (.int (1 : Int32)), .val (.int (1 : Int32)), .val (.int ot), .val (.ref b139), .val (.ref b139), .val (.int (1 : Int32))] [(.int (f_ca ps q1 q2 (1 : Int32)))])) t → Steps p.tables e below (s₁.setTop (entryFrame m #[(.int p0), (.long q1), (.long q2), (.int p3)] maxLocals)) t := fun t kt => pre177 t (st179 _ kt)
          have pre181 : ∀ t, Steps p.tables e below (T179.setTop (mkF m 185 #[.val (.int p0), .val (.long q1), .second, .val (.long q2), .second, .val (.int p3), .val (.int ps), .val (.int (1 : Int32)), .val (.int (1 : Int32)), .val (.int ot), .val (.ref b139), .val (.ref b139), .val (.int (1 : Int32))] [(.int (1 : Int32))])) t → Steps p.tables e below (s₁.setTop (entryFrame m #[(.int p0), (.long q1), (.long q2), (.int p3)] maxLocals)) t := fun t kt => pre180 t (by
            show Steps p.tables e below (T179.setTop (mkF m 175 #[.val (.int p0), .val (.long q1), .second, .val (.long q2), .second, .val (.int p3), .val (.int ps), .val (.int (1 : Int32)), .val (.int (1 : Int32)), .val (.int ot), .val (.ref b139), .val (.ref b139), .val (.int (1 : Int32))] [(.int (f_ca ps q1 q2 (1 : Int32)))])) _
            refine XS.iload X179.here hx rfl (hb hby at_175) rfl ?_
            show Steps p.tables e below (T179.setTop (mkF m 177 #[.val (.int p0), .val (.long q1), .second, .val (.long q2), .second, .val (.int p3), .val (.int ps), .val (.int (1 : Int32)), .val (.int (1 : Int32)), .val (.int ot), .val (.ref b139), .val (.ref b139), .val (.int (1 : Int32))] [(.int (1 : Int32)), (.int (f_ca ps q1 q2 (1 : Int32)))])) _
            refine XS.icmpNo X179.here hx rfl (hb hby at_177) rfl (teq (by unfold f_ca; rw [if_neg hc86_150, if_neg hc115_164]; decide : (f_ca ps q1 q2 (1 : Int32)) = (1 : Int32))).2 ?_
            show Steps p.tables e below (T179.setTop (mkF m 180 #[.val (.int p0), .val (.long q1), .second, .val (.long q2), .second, .val (.int p3), .val (.int ps), .val (.int (1 : Int32)), .val (.int (1 : Int32)), .val (.int ot), .val (.ref b139), .val (.ref b139), .val (.int (1 : Int32))] [])) _
            refine XS.iconst X179.here hx rfl (hb hby at_180) ?_
            show Steps p.tables e below (T179.setTop (mkF m 181 #[.val (.int p0), .val (.long q1), .second, .val (.long q2), .second, .val (.int p3), .val (.int ps), .val (.int (1 : Int32)), .val (.int (1 : Int32)), .val (.int ot), .val (.ref b139), .val (.ref b139), .val (.int (1 : Int32))] [(.int (1 : Int32))])) _
            refine XS.goto X179.here hx rfl (pc0 := 181) (pc' := 185) rfl (hb hby at_181) (by decide) (by decide) ?_
            exact kt)
          obtain ⟨fs, hr, hrun, hended, hW, hsame⟩ := X179.leave (v := some (.int (1 : Int32))) (fun h => by rw [Bd.returns] at h; cases h)
          refine ⟨_, _, pre181 _ ?_, hrun, hended, _, _, rfl, ?_, ⟨_, rfl⟩, hW, hsame.mono (by decide) (by decide)⟩
          · show Steps p.tables e below (T179.setTop (mkF m 185 #[.val (.int p0), .val (.long q1), .second, .val (.long q2), .second, .val (.int p3), .val (.int ps), .val (.int (1 : Int32)), .val (.int (1 : Int32)), .val (.int ot), .val (.ref b139), .val (.ref b139), .val (.int (1 : Int32))] [(.int (1 : Int32))])) _
            exact retN X179 hx (t := .boolean) Bd.returns (by simp) (hb hby at_185) hr
          · show Q0 Z p0 q1 q2 p3 h0 n0 _ T179.heap _
            rw [e179]
            exact ⟨rfl, N179⟩
set_option maxRecDepth 65536 in
set_option maxHeartbeats 40000000 in
theorem comes_1 {Post : Tables → Env → Array Value → State → Outcome → State → Prop} (hpost : ∀ tb e args s v u, (limb_1_1.after args s (.returned v) u = true ∧ limb_1_2.after args s (.returned v) u = true ∧ True) → FrameEnd s (.returned v) u (Jvm.fieldLocs frame_1_writes args s ++ Jvm.arrayLocs frame_1_arrays args s ++ Jvm.staticLocs frame_1_statics s) 16 576 → Post tb e args s (.returned v) u) :
    ArmFor flags0 classFile x code maxLocals ret World_1 tables_1 room_1 Calls_1 rest_1 Pre_1 Post := by
  intro l hfl _ _ p e ha hc hk s m args below hf hA hF happ hP
  obtain ⟨hcalls, hrest, hpre⟩ := hP
  obtain ⟨-, -, -, hnamed, -, -, -, hat⟩ := (Spec.applies_iff hf).mp happ
  obtain ⟨hg, hn⟩ := and_e (Cond.before_iff.mp (show (Jvm.Cond.and given_1 narrow_1).before args s = true from hpre))
  obtain ⟨g1, g2⟩ := and_e hg
  obtain ⟨g3, g4⟩ := and_e g2
  obtain ⟨g5, g6⟩ := and_e g4
  obtain ⟨g7, g8⟩ := and_e g6
  obtain ⟨w0, w1, w2, w3, rfl⟩ : ∃ w0 w1 w2 w3 : Value, args = #[w0, w1, w2, w3] := by
    have hs : args.size = 4 := by simpa [Cond.value, given_1] using g1
    obtain ⟨L⟩ := args
    match L, hs with
    | [w0, w1, w2, w3], _ => exact ⟨w0, w1, w2, w3, rfl⟩
  have hw := fun d (hd : d ∈ tables_1) => atoms_spec (ws := Jvm.Cond.code x code maxLocals ret :: tables_1) hat d (List.mem_cons_of_mem _ hd)
  obtain ⟨i0, ei0⟩ := is_v g3
  obtain rfl : w0 = (.int i0) := Option.some.inj ei0
  obtain ⟨i1, ei1⟩ := isL_v g5
  obtain rfl : w1 = (.long i1) := Option.some.inj ei1
  obtain ⟨i2, ei2⟩ := isL_v g7
  obtain rfl : w2 = (.long i2) := Option.some.inj ei2
  obtain ⟨i3, ei3⟩ := is_v g8
  obtain rfl : w3 = (.int i3) := Option.some.inj ei3
  obtain ⟨n, o, h1, h2, h3, _, L, rfl, ⟨rfl, N⟩, hq⟩ := rm0 l s _ hw tables_1 i0 i1 i2 i3 s.heap s.heap.size (Nat.le_refl _) p e ha hc hk s m _ below hf ((Spec.applies_iff_loose hf).mp happ).1 ⟨rfl, State.Warmed39.refl s, rfl⟩ trivial
  refine ⟨n, _, h1, h2, h3, hpost _ _ _ _ _ _ ⟨Cond.after_iff.mpr rfl, Cond.after_iff.mpr (eq_i res_at (Term.int_eval (1)) rfl), trivial⟩ ⟨hq.1, hq.2.1, (hq.2.2.sift fun y hy => Or.inr (N y hy)).mono (by decide) (by decide)⟩⟩
theorem main_1_1 : Claimed_1_1 := comes_1 fun _ _ _ _ _ _ h hF => ⟨h.1, hF⟩
theorem main_1_2 : Claimed_1_2 := comes_1 fun _ _ _ _ _ _ h hF => ⟨h.2.1, hF⟩
end Jvm.Pilot.@@N@@
namespace Jvm.Pilot.@@N@@
open Jvm Jvm.ClassFile Sem Op Lib Jvm.Free Jvm.Stand Jvm.Pilot.@@N@@.Jvm.D
/-! MADE BY PROGRAM (witnessworld.py) out of the Statement's table words and the real class files: 11 classes; the members and pool entries that the words name. The judged class is class 1, her method 1. -/
namespace start1
open Jvm.ClassFile
def u (s : String) : CpInfo := .utf8 (stringToUtf16 s)
/-- a pool by its gaps: so many unusable entries, then the entry; so many at the end -/
def gap : Nat → List CpInfo → List CpInfo
  | 0, r => r
  | n + 1, r => .unusable :: gap n r
def poolList (es : List (Nat × CpInfo)) (last : Nat) : List CpInfo := es.foldr (fun e r => gap e.1 (e.2 :: r)) (gap last [])
def pool (es : List (Nat × CpInfo)) (last : Nat) : Array CpInfo := ⟨poolList es last⟩
def fileOf (pool : Array CpInfo) (this : Nat) (attrs : Array Attribute := #[]) (ms : Array MethodInfo := #[]) (fl : Nat := 33) (sup : Nat := 0) (ifs : Array Nat := #[]) (fds : Array FieldInfo := #[]) : ClassFile where
  minorVersion := 0
  majorVersion := 65
  constantPool := pool
  accessFlags := fl
  thisClass := this
  superClass := sup
  interfaces := ifs
  fields := fds
  methods := ms
  attributes := attrs
def plain (name : String) (sup : Option ClassId) : Class where
  name := name
  kind := .ordinary
  loader := none
  accessFlags := 33
  super := sup
  interfaces := #[]
  cf := none
  fields := #[]
  methods := #[]
  instanceTypes := #[]
  staticTypes := #[]
  resolved := #[]
  callSites := []
  init := .initialized
  statics := none
  mirror := none

def pool0 : Array CpInfo := pool [(5, u "<init>"), (0, u "()V"), (1, .class_ 10), (1, u "java/lang/Object")] 113

def k0m0 : Method := { name := "<init>", desc := "()V", sig := { parameters := [], returnType := none }, accessFlags := 1, code := none }
/-- java/lang/Object -/
def k0 : Class := { plain "java/lang/Object" none with
  accessFlags := 33
  interfaces := #[]
  cf := some (fileOf pool0 8 #[] #[{ accessFlags := 1, nameIndex := 5, descriptorIndex := 6, attributes := #[] }] 33 0 #[] #[])
  fields := #[]
  methods := #[k0m0]
  instanceTypes := #[]
  staticTypes := #[]
  resolved := Array.replicate 124 none
  statics := none }

def pool1 : Array CpInfo := pool [(2, .class_ 4), (1, u "java/lang/Object"), (0, u "<init>"), (0, u "()V"), (0, .methodref 8 9), (0, .class_ 10), (0, .nameAndType 11 12), (0, u "com/example/baton/baton/support/Skipped"), (0, u "contains"), (0, u "(IJJ[Z)Z"), (0, .class_ 14), (0, u "com/example/baton/baton/support/SkippedContainsPinLaw"), (2, u "law"), (0, u "(IJJI)Z")] 5

def k1m0 : Method := { name := "<init>", desc := "()V", sig := { parameters := [], returnType := none }, accessFlags := 1, code := none }
def k1c1 : Code := { maxStack := 6, maxLocals := 13, code := code, exceptionTable := #[], attributes := #[] }
def k1m1 : Method := { name := "law", desc := "(IJJI)Z", sig := { parameters := [.int, .long, .long, .int], returnType := some .boolean }, accessFlags := 9, code := some k1c1 }
/-- com/example/baton/baton/support/SkippedContainsPinLaw -/
def k1 : Class := { plain "com/example/baton/baton/support/SkippedContainsPinLaw" (some 0) with
  accessFlags := 49
  interfaces := #[]
  cf := some (fileOf pool1 13 #[] #[{ accessFlags := 1, nameIndex := 5, descriptorIndex := 6, attributes := #[] }, { accessFlags := 9, nameIndex := 17, descriptorIndex := 18, attributes := #[] }] 49 2 #[] #[])
  fields := #[]
  methods := #[k1m0, k1m1]
  instanceTypes := #[]
  staticTypes := #[]
  resolved := Array.replicate 24 none
  statics := none }

def pool2 : Array CpInfo := pool [(4, .class_ 6), (1, u "java/lang/Object"), (0, u "<init>"), (0, u "()V"), (0, .class_ 10), (0, u "com/example/baton/baton/support/Skipped"), (0, u "IN_WORDS"), (0, u "I"), (9, u "contains"), (0, u "(IJJ[Z)Z")] 4

def k2m0 : Method := { name := "<init>", desc := "()V", sig := { parameters := [], returnType := none }, accessFlags := 2, code := none }
def k2c1 : Code := { maxStack := 5, maxLocals := 7, code := prog_26_method_3_code, exceptionTable := #[], attributes := #[] }
def k2m1 : Method := { name := "contains", desc := "(IJJ[Z)Z", sig := { parameters := [.int, .long, .long, (.array .boolean)], returnType := some .boolean }, accessFlags := 9, code := some k2c1 }
/-- com/example/baton/baton/support/Skipped -/
def k2 : Class := { plain "com/example/baton/baton/support/Skipped" (some 0) with
  accessFlags := 49
  interfaces := #[]
  cf := some (fileOf pool2 9 #[] #[{ accessFlags := 2, nameIndex := 7, descriptorIndex := 8, attributes := #[] }, { accessFlags := 9, nameIndex := 22, descriptorIndex := 23, attributes := #[] }] 49 4 #[] #[{ accessFlags := 25, nameIndex := 11, descriptorIndex := 12, attributes := #[] }])
  fields := #[{ name := "IN_WORDS", type := .int, accessFlags := 25, slot := 0, constantValue := 0 }]
  methods := #[k2m0, k2m1]
  instanceTypes := #[]
  staticTypes := #[.int]
  resolved := Array.replicate 28 none
  statics := none }

def pool3 : Array CpInfo := pool [(1, u "java/lang/Cloneable"), (0, .class_ 1), (0, u "java/lang/Object"), (0, .class_ 3)] 3

/-- java/lang/Cloneable -/
def k3 : Class := { plain "java/lang/Cloneable" (some 0) with
  accessFlags := 1537
  interfaces := #[]
  cf := some (fileOf pool3 2 #[] #[] 1537 4 #[] #[])
  fields := #[]
  methods := #[]
  instanceTypes := #[]
  staticTypes := #[]
  resolved := Array.replicate 8 none
  statics := none }

def pool4 : Array CpInfo := pool [(1, u "java/io/Serializable"), (0, .class_ 1), (0, u "java/lang/Object"), (0, .class_ 3)] 3

/-- java/io/Serializable -/
def k4 : Class := { plain "java/io/Serializable" (some 0) with
  accessFlags := 1537
  interfaces := #[]
  cf := some (fileOf pool4 2 #[] #[] 1537 4 #[] #[])
  fields := #[]
  methods := #[]
  instanceTypes := #[]
  staticTypes := #[]
  resolved := Array.replicate 8 none
  statics := none }

/-- the primitive boolean -/
def k5 : Class := { plain "boolean" none with kind := .primitive 'Z', accessFlags := 0x411 }
/-- [Z -/
def k6 : Class := { plain "[Z" (some 0) with kind := .array 5 .boolean, interfaces := #[3, 4], accessFlags := 1041 }

/-- the primitive byte -/
def k7 : Class := { plain "byte" none with kind := .primitive 'B', accessFlags := 0x411 }
/-- [B -/
def k8 : Class := { plain "[B" (some 0) with kind := .array 7 .byte, interfaces := #[3, 4], accessFlags := 1041 }

/-- the primitive int -/
def k9 : Class := { plain "int" none with kind := .primitive 'I', accessFlags := 0x411 }
/-- [I -/
def k10 : Class := { plain "[I" (some 0) with kind := .array 9 .int, interfaces := #[3, 4], accessFlags := 1041 }

def heap : Heap := #[]
def classes : Array Class := #[k0, k1, k2, k3, k4, k5, k6, k7, k8, k9, k10]
def interned : List (Array UInt16 × Addr) := []
def slotsUsed : Nat := 0
def theMethod : MethodId := ⟨1, 1⟩
def args0 : Array Value := #[.int 5, .long 5, .long 5, .int 5]
def aboutOver (below : List Frame) : State where
  vm := { classes := classes, interned := interned.toArray }
  heap := heap
  slotsUsed := slotsUsed
  threads := #[{ frames := .invoking theMethod args0 :: below }]
def below0 : List Frame := [.native { method := ⟨0, 0⟩, args := #[] }]
def about1 : State := aboutOver below0
def p0 : Program := .bare "" "" ""
def e0 : Env := launch0.env 0 0 0
theorem w_frames : about1.frames = Frame.invoking theMethod args0 :: below0 := rfl
set_option maxRecDepth 65536 in
theorem w_args : argsFit about1.vm theMethod args0 = true := by decide +kernel
set_option maxRecDepth 65536 in
theorem w_heap : heapFits about1 = true := by decide +kernel
set_option maxRecDepth 65536 in
theorem w_runnable : about1.curStatus? = some .runnable := by decide +kernel
set_option maxRecDepth 65536 in
theorem w_alone : about1.alone = true := by decide +kernel
set_option maxRecDepth 65536 in
theorem w_named : about1.methodNamed? x = some theMethod := by decide +kernel
set_option maxRecDepth 65536 in
theorem w_hears : about1.hears theMethod below0 = true := by decide +kernel
set_option maxRecDepth 65536 in
theorem w_ripe : about1.ripe theMethod args0 below0 = true := by decide +kernel
theorem w_running : about1.status = .running := rfl
set_option maxRecDepth 65536 in
theorem w_room : about1.hasRoom e0.platform room_1 = true :=
  launch0.hasRoom_least _ room_1 (by decide +kernel) (by decide +kernel) (by decide +kernel) (by decide +kernel) (by decide +kernel) (by decide +kernel)
theorem allAtoms_all (ts : List Jvm.Cond) (a : Array Jvm.Value) (st : Jvm.State) : (allAtoms ts).before a st = ts.all (fun c => c.before a st) := by
  induction ts with
  | nil => rfl
  | cons c t ih =>
    show (Jvm.Cond.and c (allAtoms t)).before a st = _
    rw [Jvm.Cond.before_and, ih, List.all_cons]
def words1 : List Jvm.Cond := Jvm.Cond.code x code maxLocals ret :: tables_1
/-- a 'code' word, met by the world's own term for the bytes: nothing is compared byte by byte -/
theorem code_word {y : MethodName} {bytes : ByteArray} {mx : Nat} {rt : Option FieldType} {a : Array Value} {s : State} {m : MethodId} {meth : Method} {c : Code} (h1 : s.methodNamed? y = some m) (h2 : s.vm.method? m = some meth) (h3 : meth.code = some c) (h4 : c.code = bytes)
    (h5 : (c.maxLocals == mx && c.exceptionTable.isEmpty && decide (c.maxStack ≤ mostOperands) && decide (meth.sig.returnType = rt) && !meth.locks && decide (parseMethodDescriptor y.desc = some meth.sig)) = true) : (Jvm.Cond.code y bytes mx rt).before a s = true := by
  simp only [Bool.and_eq_true, beq_iff_eq, Bool.not_eq_true', decide_eq_true_eq] at h5
  obtain ⟨⟨⟨⟨⟨g1, g2⟩, g3⟩, g4⟩, g5⟩, g6⟩ := h5
  simp [Cond.before, Cond.holds, Cond.value, h1, h2, h3, h4, g1, g2, g3, g4, g5, g6]
def isCode : Jvm.Cond → Bool
  | .code _ _ _ _ => true
  | _ => false
theorem all_split {L : List Jvm.Cond} {P : Jvm.Cond → Bool} (h1 : L.all (fun c => isCode c || P c) = true) (h2 : ∀ c ∈ L.filter isCode, P c = true) : L.all P = true := by
  refine List.all_eq_true.mpr fun c hc => ?_
  have h := List.all_eq_true.mp h1 c hc
  rcases Bool.eq_false_or_eq_true (isCode c) with hi | hi
  · exact h2 c (List.mem_filter.mpr ⟨hc, hi⟩)
  · simpa [hi] using h
set_option maxRecDepth 65536 in
theorem w_c0 : (Jvm.Cond.code x code maxLocals ret).before args0 about1 = true := code_word (m := ⟨1, 1⟩) (meth := k1m1) (c := k1c1) (by decide +kernel) rfl rfl rfl (by decide +kernel)
set_option maxRecDepth 65536 in
theorem w_c1 : (Jvm.Cond.code ({ cls := "com/example/baton/baton/support/Skipped", name := "contains", desc := "(IJJ[Z)Z" } : Jvm.MethodName) prog_26_method_3_code (7 : Nat) (Option.some Jvm.ClassFile.FieldType.boolean)).before args0 about1 = true := code_word (m := ⟨2, 1⟩) (meth := k2m1) (c := k2c1) (by decide +kernel) rfl rfl rfl (by decide +kernel)
def codes1 : List Jvm.Cond := [Jvm.Cond.code x code maxLocals ret, Jvm.Cond.code ({ cls := "com/example/baton/baton/support/Skipped", name := "contains", desc := "(IJJ[Z)Z" } : Jvm.MethodName) prog_26_method_3_code (7 : Nat) (Option.some Jvm.ClassFile.FieldType.boolean)]
set_option maxRecDepth 65536 in
theorem codes_eq : words1.filter isCode = codes1 := rfl
theorem w_codes : ∀ c ∈ words1.filter isCode, c.before args0 about1 = true := by
  rw [codes_eq]
  intro c hc
  simp only [codes1, List.mem_cons, List.not_mem_nil, or_false] at hc
  rcases hc with rfl | rfl
  · exact w_c0
  · exact w_c1
set_option maxRecDepth 65536 in
theorem w_t1 : words1.all (fun c => isCode c || c.before args0 about1) = true := by decide +kernel
theorem w_tables : (allAtoms (Jvm.Cond.code x code maxLocals ret :: tables_1)).before args0 about1 = true := by
  rw [allAtoms_all]
  show words1.all (fun c => c.before args0 about1) = true
  refine all_split ?_ w_codes
  rw [w_t1]
set_option maxRecDepth 65536 in
theorem w_case : (Jvm.Cond.and given_1 narrow_1).before args0 about1 = true := by decide +kernel
theorem w_applies : (headSpec (Jvm.Cond.code x code maxLocals ret :: tables_1) room_1).applies x e0.platform about1 = true :=
  (Spec.applies_iff w_frames).mpr ⟨w_running, w_runnable, w_alone, w_named, w_hears, w_ripe, w_room, w_tables⟩
theorem atStart : AtStart classFile x code maxLocals ret World_1 tables_1 room_1 Calls_1 rest_1 Pre_1 launch0 p0 e0 about1 theMethod args0 below0 :=
  ⟨lists_1, trivial, launch0.admits_env _ _ _, launch0.least_env, fairChoices_fair.cas, fairChoices_fair.clock, w_frames, w_args, w_heap, w_applies, trivial, trivial, w_case⟩
end start1
theorem witness_1 : WitnessClaimed_1 := ⟨start1.p0, start1.e0, start1.about1, start1.theMethod, start1.args0, start1.below0, start1.atStart⟩
end Jvm.Pilot.@@N@@
