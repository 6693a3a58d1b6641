import JvmDerived
import JvmDerived.Pilot.@@N@@Statement
import JvmDerived.Pilot.@@N@@Code
set_option linter.unusedVariables false
set_option linter.unusedSimpArgs false
namespace Jvm.RoadKit
open Sem ClassFile Op Lib Jvm.Stand Jvm.Free Jvm.LawKit
section New
variable {p : Program} {l : Launch} {e : Env} {R : Room} {s : State} {m : MethodId} {args : Array Value} {below : List Frame} {meth : Method} {c : Code} {T : State} {locs : List Loc} {cells slots : Nat}
theorem retI (X : Stand p l e R s m args below meth c T locs cells slots) (hx : p.tables.exec = Jvm.exec) {pc : Nat} {Ls : Array Slot} {z : Int32} {rest : List Value} (hret : meth.sig.returnType = some .int) (hd : decode c.code pc = .ok (.ireturn, 1)) {fs : List Frame}
    (hl : ∀ (f : JFrame) (acts : List Action), f.method = m → f.locked = none → f.entered = [] → (doReturn e (T.setTop f) acts (some (.int z))).1 = T.setFrames fs) : Steps p.tables e below (T.setTop (mkF m pc Ls (.int z :: rest))) (T.setFrames fs) := by
  have hm' : T.vm.method? m = some meth := X.method'
  have hn : narrow .int (.int z) = .int z := rfl
  show Steps p.tables e below (T.setTop { method := m, pc := pc, locals := Ls, stack := _ :: rest, locked := none }) _
  jvm_step X.here [X.here.top, hx, hd, hm', hret, hn]
  first | (intro acts; rw [hl _ acts rfl rfl rfl]) | rw [hl _ _ rfl rfl rfl]
  exact Steps.refl _
theorem retL (X : Stand p l e R s m args below meth c T locs cells slots) (hx : p.tables.exec = Jvm.exec) {pc : Nat} {Ls : Array Slot} {z : Int64} {rest : List Value} (hret : meth.sig.returnType = some .long) (hd : decode c.code pc = .ok (.lreturn, 1)) {fs : List Frame}
    (hl : ∀ (f : JFrame) (acts : List Action), f.method = m → f.locked = none → f.entered = [] → (doReturn e (T.setTop f) acts (some (.long z))).1 = T.setFrames fs) : Steps p.tables e below (T.setTop (mkF m pc Ls (.long z :: rest))) (T.setFrames fs) := by
  have hm' : T.vm.method? m = some meth := X.method'
  have hn : narrow .long (.long z) = .long z := rfl
  show Steps p.tables e below (T.setTop { method := m, pc := pc, locals := Ls, stack := _ :: rest, locked := none }) _
  jvm_step X.here [X.here.top, hx, hd, hm', hret, hn]
  first | (intro acts; rw [hl _ acts rfl rfl rfl]) | rw [hl _ _ rfl rfl rfl]
  exact Steps.refl _
end New
end Jvm.RoadKit
namespace Jvm.Pilot.@@N@@
open Jvm Jvm.ClassFile Sem Op Lib Jvm.Free Jvm.Stand Jvm.LawKit Jvm.RoadKit Bundle Jvm.Pilot.@@N@@.Jvm.D
theorem pn_com_example_baton_baton_support_SkippedNonePinLaw : plainName "com/example/baton/baton/support/SkippedNonePinLaw" = true := by first | (simp [plainName, overriddenIn]; done) | decide +kernel
theorem pn_com_example_baton_baton_support_Skipped : plainName "com/example/baton/baton/support/Skipped" = true := by first | (simp [plainName, overriddenIn]; done) | decide +kernel
theorem d3_0 : decode prog_26_method_3_code 0 = .ok (.iload_n 0, 1) := by decide +kernel
theorem d3_1 : decode prog_26_method_3_code 1 = .ok (.bipush 64, 2) := by decide +kernel
theorem d3_3 : decode prog_26_method_3_code 3 = .ok (.if_icmp .ge 23, 3) := by decide +kernel
theorem d3_6 : decode prog_26_method_3_code 6 = .ok (.lload_n 1, 1) := by decide +kernel
theorem d3_7 : decode prog_26_method_3_code 7 = .ok (.lconst 1, 1) := by decide +kernel
theorem d3_8 : decode prog_26_method_3_code 8 = .ok (.iload_n 0, 1) := by decide +kernel
theorem d3_9 : decode prog_26_method_3_code 9 = .ok (.lshl, 1) := by decide +kernel
theorem d3_10 : decode prog_26_method_3_code 10 = .ok (.land, 1) := by decide +kernel
theorem d3_11 : decode prog_26_method_3_code 11 = .ok (.lconst 0, 1) := by decide +kernel
theorem d3_12 : decode prog_26_method_3_code 12 = .ok (.lcmp, 1) := by decide +kernel
theorem d3_13 : decode prog_26_method_3_code 13 = .ok (.ifCond .eq 7, 3) := by decide +kernel
theorem d3_20 : decode prog_26_method_3_code 20 = .ok (.iconst 0, 1) := by decide +kernel
theorem d3_21 : decode prog_26_method_3_code 21 = .ok (.istore 6, 2) := by decide +kernel
theorem d3_23 : decode prog_26_method_3_code 23 = .ok (.goto 49, 3) := by decide +kernel
theorem d3_72 : decode prog_26_method_3_code 72 = .ok (.iload 6, 2) := by decide +kernel
theorem d3_74 : decode prog_26_method_3_code 74 = .ok (.ireturn, 1) := by decide +kernel
theorem d3_16 : decode prog_26_method_3_code 16 = .ok (.iconst 1, 1) := by decide +kernel
theorem d3_17 : decode prog_26_method_3_code 17 = .ok (.goto 4, 3) := by decide +kernel
theorem d3_26 : decode prog_26_method_3_code 26 = .ok (.iload_n 0, 1) := by decide +kernel
theorem d3_27 : decode prog_26_method_3_code 27 = .ok (.sipush 128, 3) := by decide +kernel
theorem d3_30 : decode prog_26_method_3_code 30 = .ok (.if_icmp .ge 23, 3) := by decide +kernel
theorem d3_33 : decode prog_26_method_3_code 33 = .ok (.lload_n 3, 1) := by decide +kernel
theorem d3_34 : decode prog_26_method_3_code 34 = .ok (.lconst 1, 1) := by decide +kernel
theorem d3_35 : decode prog_26_method_3_code 35 = .ok (.iload_n 0, 1) := by decide +kernel
theorem d3_36 : decode prog_26_method_3_code 36 = .ok (.lshl, 1) := by decide +kernel
theorem d3_37 : decode prog_26_method_3_code 37 = .ok (.land, 1) := by decide +kernel
theorem d3_38 : decode prog_26_method_3_code 38 = .ok (.lconst 0, 1) := by decide +kernel
theorem d3_39 : decode prog_26_method_3_code 39 = .ok (.lcmp, 1) := by decide +kernel
theorem d3_40 : decode prog_26_method_3_code 40 = .ok (.ifCond .eq 7, 3) := by decide +kernel
theorem d3_47 : decode prog_26_method_3_code 47 = .ok (.iconst 0, 1) := by decide +kernel
theorem d3_48 : decode prog_26_method_3_code 48 = .ok (.istore 6, 2) := by decide +kernel
theorem d3_50 : decode prog_26_method_3_code 50 = .ok (.goto 22, 3) := by decide +kernel
theorem d3_43 : decode prog_26_method_3_code 43 = .ok (.iconst 1, 1) := by decide +kernel
theorem d3_44 : decode prog_26_method_3_code 44 = .ok (.goto 4, 3) := by decide +kernel
theorem d3_53 : decode prog_26_method_3_code 53 = .ok (.aload 5, 2) := by decide +kernel
theorem d3_55 : decode prog_26_method_3_code 55 = .ok (.ifnull 14, 3) := by decide +kernel
theorem d3_69 : decode prog_26_method_3_code 69 = .ok (.iconst 0, 1) := by decide +kernel
theorem d3_70 : decode prog_26_method_3_code 70 = .ok (.istore 6, 2) := by decide +kernel
theorem ef3n (m : MethodId) (x0 : Int32) (x1 : Int64) (x2 : Int64) : entryFrame m #[(.int x0), (.long x1), (.long x2), .null] 7 = mkF m 0 #[.val (.int x0), .val (.long x1), .second, .val (.long x2), .second, .val .null, .unset] [] := by first | (simp [entryFrame, mkF, argsToLocals, Value.category]; done) | rfl
def f_cn (p0 : Int32) (q1 : Int64) (q2 : Int64) : Int32 :=
  if p0 < (64 : Int32) then
    if (q1 &&& ((1 : Int64) <<< (p0 &&& 0x3f).toInt64)) = (0 : Int64) then
      (0 : Int32)
    else
      (1 : Int32)
  else
    if p0 < (128 : Int32) then
      if (q2 &&& ((1 : Int64) <<< (p0 &&& 0x3f).toInt64)) = (0 : Int64) then
        (0 : Int32)
      else
        (1 : Int32)
    else
      (0 : Int32)
def Q3n (Z : State) (p0 : Int32) (q1 : Int64) (q2 : Int64) (h0 : Heap) (n0 : Nat) (v : Option Value) (h : Heap) (L : List Loc) : Prop := v = some (.int (f_cn p0 q1 q2)) ∧ Fr n0 L ∧ h = h0
set_option maxRecDepth 65536 in
set_option maxHeartbeats 40000000 in
theorem rm3n (l : Launch) (Z : State) (av : Array Value) (hw : ∀ d ∈ tables_1, d.before av Z = true) (ws : List Jvm.Cond) (p0 : Int32) (q1 : Int64) (q2 : Int64) (h0 : Heap) (n0 : Nat) (Z0 : n0 ≤ h0.size) :
    MetFree l (⟨"com/example/baton/baton/support/Skipped", "contains", "(IJJ[Z)Z"⟩ : MethodName) (head1 (Jvm.Cond.code (⟨"com/example/baton/baton/support/Skipped", "contains", "(IJJ[Z)Z"⟩ : MethodName) prog_26_method_3_code 7 (some .boolean) :: ws) ({ frames := 0, cells := 0, slots := 0, locals := 0 } : Room)) (fun a U => a = #[(.int p0), (.long q1), (.long q2), .null] ∧ Z.Warmed39 U.vm ∧ U.heap = h0) (fun _ _ _ _ _ => True) (fun _ U o U' => ∃ v L, o = .returned v ∧ Q3n Z p0 q1 q2 h0 n0 v U'.heap L ∧ FrameEnd U o U' L ({ frames := 0, cells := 0, slots := 0, locals := 0 } : Room).cells ({ frames := 0, cells := 0, slots := 0, locals := 0 } : Room).slots) := by
  refine MetFree.of_bodySF (plainFor_of_name pn_com_example_baton_baton_support_Skipped) hisR ?_
  intro p e s m args below meth c s₁ Bd hml0 hP hK
  obtain ⟨rfl, hZ, hh⟩ := hP
  have hx := Bd.exec
  have hby := Bd.bytes
  have hml : c.maxLocals = 7 := hml0
  have hown : s.vm.findClass "com/example/baton/baton/support/Skipped" = some m.cls := findClass_of_methodNamed Bd.named
  have hnm := (name_of_methodNamed Bd.named Bd.method).1
  have X0 : Stand p l e ({ frames := 0, cells := 0, slots := 0, locals := 0 } : Room) s m #[(.int p0), (.long q1), (.long q2), .null] below meth c s₁ [] 0 0 := Stand.of_body Bd
  have e0 : s₁.heap = h0 := by rw [← hh, Bd.state]; rfl
  have N0 := Fr.nil n0
  have K0 : Keep h0 h0 [] := Keep.refl h0 []
  have pre0 : ∀ t, Steps p.tables e below (s₁.setTop (mkF m 0 #[.val (.int p0), .val (.long q1), .second, .val (.long q2), .second, .val .null, .unset] [])) t → Steps p.tables e below (s₁.setTop (entryFrame m #[(.int p0), (.long q1), (.long q2), .null] 7)) t := fun t k => castTop (ef3n m p0 q1 q2) k
  have pre1 : ∀ t, Steps p.tables e below (s₁.setTop (mkF m 3 #[.val (.int p0), .val (.long q1), .second, .val (.long q2), .second, .val .null, .unset] [(.int (64 : Int32)), (.int p0)])) t → Steps p.tables e below (s₁.setTop (entryFrame m #[(.int p0), (.long q1), (.long q2), .null] 7)) t := fun t kt => pre0 t (by
    show Steps p.tables e below (s₁.setTop (mkF m 0 #[.val (.int p0), .val (.long q1), .second, .val (.long q2), .second, .val .null, .unset] [])) _
    refine XS.iloadN X0.here hx rfl (hb hby d3_0) rfl ?_
    show Steps p.tables e below (s₁.setTop (mkF m 1 #[.val (.int p0), .val (.long q1), .second, .val (.long q2), .second, .val .null, .unset] [(.int p0)])) _
    refine XS.bipush X0.here hx rfl (hb hby d3_1) ?_
    exact kt)
  by_cases hc3_2 : p0 < (64 : Int32)
  · have pre3 : ∀ t, Steps p.tables e below (s₁.setTop (mkF m 13 #[.val (.int p0), .val (.long q1), .second, .val (.long q2), .second, .val .null, .unset] [(.int (lcmpW (q1 &&& ((1 : Int64) <<< (p0 &&& 0x3f).toInt64)) (0 : Int64)))])) t → Steps p.tables e below (s₁.setTop (entryFrame m #[(.int p0), (.long q1), (.long q2), .null] 7)) t := fun t kt => pre1 t (by
      show Steps p.tables e below (s₁.setTop (mkF m 3 #[.val (.int p0), .val (.long q1), .second, .val (.long q2), .second, .val .null, .unset] [(.int (64 : Int32)), (.int p0)])) _
      refine XS.icmpNo X0.here hx rfl (hb hby d3_3) rfl (tlt hc3_2).2.1 ?_
      show Steps p.tables e below (s₁.setTop (mkF m 6 #[.val (.int p0), .val (.long q1), .second, .val (.long q2), .second, .val .null, .unset] [])) _
      refine XS.lloadN X0.here hx rfl (hb hby d3_6) rfl ?_
      show Steps p.tables e below (s₁.setTop (mkF m 7 #[.val (.int p0), .val (.long q1), .second, .val (.long q2), .second, .val .null, .unset] [(.long q1)])) _
      refine XS.lconst X0.here hx rfl (hb hby d3_7) ?_
      show Steps p.tables e below (s₁.setTop (mkF m 8 #[.val (.int p0), .val (.long q1), .second, .val (.long q2), .second, .val .null, .unset] [(.long (1 : Int64)), (.long q1)])) _
      refine XS.iloadN X0.here hx rfl (hb hby d3_8) rfl ?_
      show Steps p.tables e below (s₁.setTop (mkF m 9 #[.val (.int p0), .val (.long q1), .second, .val (.long q2), .second, .val .null, .unset] [(.int p0), (.long (1 : Int64)), (.long q1)])) _
      refine XS.lshl X0.here hx rfl (hb hby d3_9) rfl ?_
      show Steps p.tables e below (s₁.setTop (mkF m 10 #[.val (.int p0), .val (.long q1), .second, .val (.long q2), .second, .val .null, .unset] [(.long ((1 : Int64) <<< (p0 &&& 0x3f).toInt64)), (.long q1)])) _
      refine XS.land X0.here hx rfl (hb hby d3_10) rfl ?_
      show Steps p.tables e below (s₁.setTop (mkF m 11 #[.val (.int p0), .val (.long q1), .second, .val (.long q2), .second, .val .null, .unset] [(.long (q1 &&& ((1 : Int64) <<< (p0 &&& 0x3f).toInt64)))])) _
      refine XS.lconst X0.here hx rfl (hb hby d3_11) ?_
      show Steps p.tables e below (s₁.setTop (mkF m 12 #[.val (.int p0), .val (.long q1), .second, .val (.long q2), .second, .val .null, .unset] [(.long (0 : Int64)), (.long (q1 &&& ((1 : Int64) <<< (p0 &&& 0x3f).toInt64)))])) _
      refine XS.lcmp X0.here hx rfl (hb hby d3_12) rfl ?_
      exact kt)
    by_cases hc13_4 : (q1 &&& ((1 : Int64) <<< (p0 &&& 0x3f).toInt64)) = (0 : Int64)
    · have pre5 : ∀ t, Steps p.tables e below (s₁.setTop (mkF m 74 #[.val (.int p0), .val (.long q1), .second, .val (.long q2), .second, .val .null, .val (.int (0 : Int32))] [(.int (0 : Int32))])) t → Steps p.tables e below (s₁.setTop (entryFrame m #[(.int p0), (.long q1), (.long q2), .null] 7)) t := fun t kt => pre3 t (by
        show Steps p.tables e below (s₁.setTop (mkF m 13 #[.val (.int p0), .val (.long q1), .second, .val (.long q2), .second, .val .null, .unset] [(.int (lcmpW (q1 &&& ((1 : Int64) <<< (p0 &&& 0x3f).toInt64)) (0 : Int64)))])) _
        refine XS.ifYes X0.here hx rfl (pc0 := 13) (pc' := 20) rfl (hb hby d3_13) rfl (Jvm.Free.XT.ll_eq_t hc13_4) (by decide) (by decide) ?_
        show Steps p.tables e below (s₁.setTop (mkF m 20 #[.val (.int p0), .val (.long q1), .second, .val (.long q2), .second, .val .null, .unset] [])) _
        refine XS.iconst X0.here hx rfl (hb hby d3_20) ?_
        show Steps p.tables e below (s₁.setTop (mkF m 21 #[.val (.int p0), .val (.long q1), .second, .val (.long q2), .second, .val .null, .unset] [(.int (0 : Int32))])) _
        refine XS.istore X0.here hx rfl (hb hby d3_21) rfl (l' := #[.val (.int p0), .val (.long q1), .second, .val (.long q2), .second, .val .null, .val (.int (0 : Int32))]) rfl ?_
        show Steps p.tables e below (s₁.setTop (mkF m 23 #[.val (.int p0), .val (.long q1), .second, .val (.long q2), .second, .val .null, .val (.int (0 : Int32))] [])) _
        refine XS.goto X0.here hx rfl (pc0 := 23) (pc' := 72) rfl (hb hby d3_23) (by decide) (by decide) ?_
        show Steps p.tables e below (s₁.setTop (mkF m 72 #[.val (.int p0), .val (.long q1), .second, .val (.long q2), .second, .val .null, .val (.int (0 : Int32))] [])) _
        refine XS.iload X0.here hx rfl (hb hby d3_72) rfl ?_
        exact kt)
      have hv : f_cn p0 q1 q2 = (0 : Int32) := by
        unfold f_cn
        rw [if_pos hc3_2, if_pos hc13_4]
      obtain ⟨fs, hr, hrun, hended, hW, hsame⟩ := X0.leave (v := some (.int (f_cn p0 q1 q2))) (fun h => by rw [Bd.returns] at h; cases h)
      refine ⟨_, _, pre5 _ ?_, hrun, hended, _, _, rfl, ?_, ⟨_, rfl⟩, hW, hsame.mono (by decide) (by decide)⟩
      · rw [hv] at hr
        show Steps p.tables e below (s₁.setTop (mkF m 74 #[.val (.int p0), .val (.long q1), .second, .val (.long q2), .second, .val .null, .val (.int (0 : Int32))] [(.int (0 : Int32))])) _
        exact retN X0 hx (t := .boolean) Bd.returns (by simp) (hb hby d3_74) hr
      · show Q3n Z p0 q1 q2 h0 n0 _ s₁.heap _
        rw [e0]
        exact ⟨rfl, N0, rfl⟩
    · have pre6 : ∀ t, Steps p.tables e below (s₁.setTop (mkF m 74 #[.val (.int p0), .val (.long q1), .second, .val (.long q2), .second, .val .null, .val (.int (1 : Int32))] [(.int (1 : Int32))])) t → Steps p.tables e below (s₁.setTop (entryFrame m #[(.int p0), (.long q1), (.long q2), .null] 7)) t := fun t kt => pre3 t (by
        show Steps p.tables e below (s₁.setTop (mkF m 13 #[.val (.int p0), .val (.long q1), .second, .val (.long q2), .second, .val .null, .unset] [(.int (lcmpW (q1 &&& ((1 : Int64) <<< (p0 &&& 0x3f).toInt64)) (0 : Int64)))])) _
        refine XS.ifNo X0.here hx rfl (hb hby d3_13) rfl (Jvm.Free.XT.ll_eq_f hc13_4) ?_
        show Steps p.tables e below (s₁.setTop (mkF m 16 #[.val (.int p0), .val (.long q1), .second, .val (.long q2), .second, .val .null, .unset] [])) _
        refine XS.iconst X0.here hx rfl (hb hby d3_16) ?_
        show Steps p.tables e below (s₁.setTop (mkF m 17 #[.val (.int p0), .val (.long q1), .second, .val (.long q2), .second, .val .null, .unset] [(.int (1 : Int32))])) _
        refine XS.goto X0.here hx rfl (pc0 := 17) (pc' := 21) rfl (hb hby d3_17) (by decide) (by decide) ?_
        show Steps p.tables e below (s₁.setTop (mkF m 21 #[.val (.int p0), .val (.long q1), .second, .val (.long q2), .second, .val .null, .unset] [(.int (1 : Int32))])) _
        refine XS.istore X0.here hx rfl (hb hby d3_21) rfl (l' := #[.val (.int p0), .val (.long q1), .second, .val (.long q2), .second, .val .null, .val (.int (1 : Int32))]) rfl ?_
        show Steps p.tables e below (s₁.setTop (mkF m 23 #[.val (.int p0), .val (.long q1), .second, .val (.long q2), .second, .val .null, .val (.int (1 : Int32))] [])) _
        refine XS.goto X0.here hx rfl (pc0 := 23) (pc' := 72) rfl (hb hby d3_23) (by decide) (by decide) ?_
        show Steps p.tables e below (s₁.setTop (mkF m 72 #[.val (.int p0), .val (.long q1), .second, .val (.long q2), .second, .val .null, .val (.int (1 : Int32))] [])) _
        refine XS.iload X0.here hx rfl (hb hby d3_72) rfl ?_
        exact kt)
      have hv : f_cn p0 q1 q2 = (1 : Int32) := by
        unfold f_cn
        rw [if_pos hc3_2, if_neg hc13_4]
      obtain ⟨fs, hr, hrun, hended, hW, hsame⟩ := X0.leave (v := some (.int (f_cn p0 q1 q2))) (fun h => by rw [Bd.returns] at h; cases h)
      refine ⟨_, _, pre6 _ ?_, hrun, hended, _, _, rfl, ?_, ⟨_, rfl⟩, hW, hsame.mono (by decide) (by decide)⟩
      · rw [hv] at hr
        show Steps p.tables e below (s₁.setTop (mkF m 74 #[.val (.int p0), .val (.long q1), .second, .val (.long q2), .second, .val .null, .val (.int (1 : Int32))] [(.int (1 : Int32))])) _
        exact retN X0 hx (t := .boolean) Bd.returns (by simp) (hb hby d3_74) hr
      · show Q3n Z p0 q1 q2 h0 n0 _ s₁.heap _
        rw [e0]
        exact ⟨rfl, N0, rfl⟩
  · have pre7 : ∀ t, Steps p.tables e below (s₁.setTop (mkF m 30 #[.val (.int p0), .val (.long q1), .second, .val (.long q2), .second, .val .null, .unset] [(.int (128 : Int32)), (.int p0)])) t → Steps p.tables e below (s₁.setTop (entryFrame m #[(.int p0), (.long q1), (.long q2), .null] 7)) t := fun t kt => pre1 t (by
      show Steps p.tables e below (s₁.setTop (mkF m 3 #[.val (.int p0), .val (.long q1), .second, .val (.long q2), .second, .val .null, .unset] [(.int (64 : Int32)), (.int p0)])) _
      refine XS.icmpYes X0.here hx rfl (pc0 := 3) (pc' := 26) rfl (hb hby d3_3) rfl (flt hc3_2).2.1 (by decide) (by decide) ?_
      show Steps p.tables e below (s₁.setTop (mkF m 26 #[.val (.int p0), .val (.long q1), .second, .val (.long q2), .second, .val .null, .unset] [])) _
      refine XS.iloadN X0.here hx rfl (hb hby d3_26) rfl ?_
      show Steps p.tables e below (s₁.setTop (mkF m 27 #[.val (.int p0), .val (.long q1), .second, .val (.long q2), .second, .val .null, .unset] [(.int p0)])) _
      refine XS.sipush X0.here hx rfl (hb hby d3_27) ?_
      exact kt)
    by_cases hc30_8 : p0 < (128 : Int32)
    · have pre9 : ∀ t, Steps p.tables e below (s₁.setTop (mkF m 40 #[.val (.int p0), .val (.long q1), .second, .val (.long q2), .second, .val .null, .unset] [(.int (lcmpW (q2 &&& ((1 : Int64) <<< (p0 &&& 0x3f).toInt64)) (0 : Int64)))])) t → Steps p.tables e below (s₁.setTop (entryFrame m #[(.int p0), (.long q1), (.long q2), .null] 7)) t := fun t kt => pre7 t (by
        show Steps p.tables e below (s₁.setTop (mkF m 30 #[.val (.int p0), .val (.long q1), .second, .val (.long q2), .second, .val .null, .unset] [(.int (128 : Int32)), (.int p0)])) _
        refine XS.icmpNo X0.here hx rfl (hb hby d3_30) rfl (tlt hc30_8).2.1 ?_
        show Steps p.tables e below (s₁.setTop (mkF m 33 #[.val (.int p0), .val (.long q1), .second, .val (.long q2), .second, .val .null, .unset] [])) _
        refine XS.lloadN X0.here hx rfl (hb hby d3_33) rfl ?_
        show Steps p.tables e below (s₁.setTop (mkF m 34 #[.val (.int p0), .val (.long q1), .second, .val (.long q2), .second, .val .null, .unset] [(.long q2)])) _
        refine XS.lconst X0.here hx rfl (hb hby d3_34) ?_
        show Steps p.tables e below (s₁.setTop (mkF m 35 #[.val (.int p0), .val (.long q1), .second, .val (.long q2), .second, .val .null, .unset] [(.long (1 : Int64)), (.long q2)])) _
        refine XS.iloadN X0.here hx rfl (hb hby d3_35) rfl ?_
        show Steps p.tables e below (s₁.setTop (mkF m 36 #[.val (.int p0), .val (.long q1), .second, .val (.long q2), .second, .val .null, .unset] [(.int p0), (.long (1 : Int64)), (.long q2)])) _
        refine XS.lshl X0.here hx rfl (hb hby d3_36) rfl ?_
        show Steps p.tables e below (s₁.setTop (mkF m 37 #[.val (.int p0), .val (.long q1), .second, .val (.long q2), .second, .val .null, .unset] [(.long ((1 : Int64) <<< (p0 &&& 0x3f).toInt64)), (.long q2)])) _
        refine XS.land X0.here hx rfl (hb hby d3_37) rfl ?_
        show Steps p.tables e below (s₁.setTop (mkF m 38 #[.val (.int p0), .val (.long q1), .second, .val (.long q2), .second, .val .null, .unset] [(.long (q2 &&& ((1 : Int64) <<< (p0 &&& 0x3f).toInt64)))])) _
        refine XS.lconst X0.here hx rfl (hb hby d3_38) ?_
        show Steps p.tables e below (s₁.setTop (mkF m 39 #[.val (.int p0), .val (.long q1), .second, .val (.long q2), .second, .val .null, .unset] [(.long (0 : Int64)), (.long (q2 &&& ((1 : Int64) <<< (p0 &&& 0x3f).toInt64)))])) _
        refine XS.lcmp X0.here hx rfl (hb hby d3_39) rfl ?_
        exact kt)
      by_cases hc40_10 : (q2 &&& ((1 : Int64) <<< (p0 &&& 0x3f).toInt64)) = (0 : Int64)
      · have pre11 : ∀ t, Steps p.tables e below (s₁.setTop (mkF m 74 #[.val (.int p0), .val (.long q1), .second, .val (.long q2), .second, .val .null, .val (.int (0 : Int32))] [(.int (0 : Int32))])) t → Steps p.tables e below (s₁.setTop (entryFrame m #[(.int p0), (.long q1), (.long q2), .null] 7)) t := fun t kt => pre9 t (by
          show Steps p.tables e below (s₁.setTop (mkF m 40 #[.val (.int p0), .val (.long q1), .second, .val (.long q2), .second, .val .null, .unset] [(.int (lcmpW (q2 &&& ((1 : Int64) <<< (p0 &&& 0x3f).toInt64)) (0 : Int64)))])) _
          refine XS.ifYes X0.here hx rfl (pc0 := 40) (pc' := 47) rfl (hb hby d3_40) rfl (Jvm.Free.XT.ll_eq_t hc40_10) (by decide) (by decide) ?_
          show Steps p.tables e below (s₁.setTop (mkF m 47 #[.val (.int p0), .val (.long q1), .second, .val (.long q2), .second, .val .null, .unset] [])) _
          refine XS.iconst X0.here hx rfl (hb hby d3_47) ?_
          show Steps p.tables e below (s₁.setTop (mkF m 48 #[.val (.int p0), .val (.long q1), .second, .val (.long q2), .second, .val .null, .unset] [(.int (0 : Int32))])) _
          refine XS.istore X0.here hx rfl (hb hby d3_48) rfl (l' := #[.val (.int p0), .val (.long q1), .second, .val (.long q2), .second, .val .null, .val (.int (0 : Int32))]) rfl ?_
          show Steps p.tables e below (s₁.setTop (mkF m 50 #[.val (.int p0), .val (.long q1), .second, .val (.long q2), .second, .val .null, .val (.int (0 : Int32))] [])) _
          refine XS.goto X0.here hx rfl (pc0 := 50) (pc' := 72) rfl (hb hby d3_50) (by decide) (by decide) ?_
          show Steps p.tables e below (s₁.setTop (mkF m 72 #[.val (.int p0), .val (.long q1), .second, .val (.long q2), .second, .val .null, .val (.int (0 : Int32))] [])) _
          refine XS.iload X0.here hx rfl (hb hby d3_72) rfl ?_
          exact kt)
        have hv : f_cn p0 q1 q2 = (0 : Int32) := by
          unfold f_cn
          rw [if_neg hc3_2, if_pos hc30_8, if_pos hc40_10]
        obtain ⟨fs, hr, hrun, hended, hW, hsame⟩ := X0.leave (v := some (.int (f_cn p0 q1 q2))) (fun h => by rw [Bd.returns] at h; cases h)
        refine ⟨_, _, pre11 _ ?_, hrun, hended, _, _, rfl, ?_, ⟨_, rfl⟩, hW, hsame.mono (by decide) (by decide)⟩
        · rw [hv] at hr
          show Steps p.tables e below (s₁.setTop (mkF m 74 #[.val (.int p0), .val (.long q1), .second, .val (.long q2), .second, .val .null, .val (.int (0 : Int32))] [(.int (0 : Int32))])) _
          exact retN X0 hx (t := .boolean) Bd.returns (by simp) (hb hby d3_74) hr
        · show Q3n Z p0 q1 q2 h0 n0 _ s₁.heap _
          rw [e0]
          exact ⟨rfl, N0, rfl⟩
      · have pre12 : ∀ t, Steps p.tables e below (s₁.setTop (mkF m 74 #[.val (.int p0), .val (.long q1), .second, .val (.long q2), .second, .val .null, .val (.int (1 : Int32))] [(.int (1 : Int32))])) t → Steps p.tables e below (s₁.setTop (entryFrame m #[(.int p0), (.long q1), (.long q2), .null] 7)) t := fun t kt => pre9 t (by
          show Steps p.tables e below (s₁.setTop (mkF m 40 #[.val (.int p0), .val (.long q1), .second, .val (.long q2), .second, .val .null, .unset] [(.int (lcmpW (q2 &&& ((1 : Int64) <<< (p0 &&& 0x3f).toInt64)) (0 : Int64)))])) _
          refine XS.ifNo X0.here hx rfl (hb hby d3_40) rfl (Jvm.Free.XT.ll_eq_f hc40_10) ?_
          show Steps p.tables e below (s₁.setTop (mkF m 43 #[.val (.int p0), .val (.long q1), .second, .val (.long q2), .second, .val .null, .unset] [])) _
          refine XS.iconst X0.here hx rfl (hb hby d3_43) ?_
          show Steps p.tables e below (s₁.setTop (mkF m 44 #[.val (.int p0), .val (.long q1), .second, .val (.long q2), .second, .val .null, .unset] [(.int (1 : Int32))])) _
          refine XS.goto X0.here hx rfl (pc0 := 44) (pc' := 48) rfl (hb hby d3_44) (by decide) (by decide) ?_
          show Steps p.tables e below (s₁.setTop (mkF m 48 #[.val (.int p0), .val (.long q1), .second, .val (.long q2), .second, .val .null, .unset] [(.int (1 : Int32))])) _
          refine XS.istore X0.here hx rfl (hb hby d3_48) rfl (l' := #[.val (.int p0), .val (.long q1), .second, .val (.long q2), .second, .val .null, .val (.int (1 : Int32))]) rfl ?_
          show Steps p.tables e below (s₁.setTop (mkF m 50 #[.val (.int p0), .val (.long q1), .second, .val (.long q2), .second, .val .null, .val (.int (1 : Int32))] [])) _
          refine XS.goto X0.here hx rfl (pc0 := 50) (pc' := 72) rfl (hb hby d3_50) (by decide) (by decide) ?_
          show Steps p.tables e below (s₁.setTop (mkF m 72 #[.val (.int p0), .val (.long q1), .second, .val (.long q2), .second, .val .null, .val (.int (1 : Int32))] [])) _
          refine XS.iload X0.here hx rfl (hb hby d3_72) rfl ?_
          exact kt)
        have hv : f_cn p0 q1 q2 = (1 : Int32) := by
          unfold f_cn
          rw [if_neg hc3_2, if_pos hc30_8, if_neg hc40_10]
        obtain ⟨fs, hr, hrun, hended, hW, hsame⟩ := X0.leave (v := some (.int (f_cn p0 q1 q2))) (fun h => by rw [Bd.returns] at h; cases h)
        refine ⟨_, _, pre12 _ ?_, hrun, hended, _, _, rfl, ?_, ⟨_, rfl⟩, hW, hsame.mono (by decide) (by decide)⟩
        · rw [hv] at hr
          show Steps p.tables e below (s₁.setTop (mkF m 74 #[.val (.int p0), .val (.long q1), .second, .val (.long q2), .second, .val .null, .val (.int (1 : Int32))] [(.int (1 : Int32))])) _
          exact retN X0 hx (t := .boolean) Bd.returns (by simp) (hb hby d3_74) hr
        · show Q3n Z p0 q1 q2 h0 n0 _ s₁.heap _
          rw [e0]
          exact ⟨rfl, N0, rfl⟩
    · have pre13 : ∀ t, Steps p.tables e below (s₁.setTop (mkF m 74 #[.val (.int p0), .val (.long q1), .second, .val (.long q2), .second, .val .null, .val (.int (0 : Int32))] [(.int (0 : Int32))])) t → Steps p.tables e below (s₁.setTop (entryFrame m #[(.int p0), (.long q1), (.long q2), .null] 7)) t := fun t kt => pre7 t (by
        show Steps p.tables e below (s₁.setTop (mkF m 30 #[.val (.int p0), .val (.long q1), .second, .val (.long q2), .second, .val .null, .unset] [(.int (128 : Int32)), (.int p0)])) _
        refine XS.icmpYes X0.here hx rfl (pc0 := 30) (pc' := 53) rfl (hb hby d3_30) rfl (flt hc30_8).2.1 (by decide) (by decide) ?_
        show Steps p.tables e below (s₁.setTop (mkF m 53 #[.val (.int p0), .val (.long q1), .second, .val (.long q2), .second, .val .null, .unset] [])) _
        refine XS.aload X0.here hx rfl (hb hby d3_53) rfl rfl ?_
        show Steps p.tables e below (s₁.setTop (mkF m 55 #[.val (.int p0), .val (.long q1), .second, .val (.long q2), .second, .val .null, .unset] [.null])) _
        refine XS.ifnullYes X0.here hx rfl (pc0 := 55) (pc' := 69) rfl (hb hby d3_55) rfl (by decide) (by decide) ?_
        show Steps p.tables e below (s₁.setTop (mkF m 69 #[.val (.int p0), .val (.long q1), .second, .val (.long q2), .second, .val .null, .unset] [])) _
        refine XS.iconst X0.here hx rfl (hb hby d3_69) ?_
        show Steps p.tables e below (s₁.setTop (mkF m 70 #[.val (.int p0), .val (.long q1), .second, .val (.long q2), .second, .val .null, .unset] [(.int (0 : Int32))])) _
        refine XS.istore X0.here hx rfl (hb hby d3_70) rfl (l' := #[.val (.int p0), .val (.long q1), .second, .val (.long q2), .second, .val .null, .val (.int (0 : Int32))]) rfl ?_
        show Steps p.tables e below (s₁.setTop (mkF m 72 #[.val (.int p0), .val (.long q1), .second, .val (.long q2), .second, .val .null, .val (.int (0 : Int32))] [])) _
        refine XS.iload X0.here hx rfl (hb hby d3_72) rfl ?_
        exact kt)
      have hv : f_cn p0 q1 q2 = (0 : Int32) := by
        unfold f_cn
        rw [if_neg hc3_2, if_neg hc30_8]
      obtain ⟨fs, hr, hrun, hended, hW, hsame⟩ := X0.leave (v := some (.int (f_cn p0 q1 q2))) (fun h => by rw [Bd.returns] at h; cases h)
      refine ⟨_, _, pre13 _ ?_, hrun, hended, _, _, rfl, ?_, ⟨_, rfl⟩, hW, hsame.mono (by decide) (by decide)⟩
      · rw [hv] at hr
        show Steps p.tables e below (s₁.setTop (mkF m 74 #[.val (.int p0), .val (.long q1), .second, .val (.long q2), .second, .val .null, .val (.int (0 : Int32))] [(.int (0 : Int32))])) _
        exact retN X0 hx (t := .boolean) Bd.returns (by simp) (hb hby d3_74) hr
      · show Q3n Z p0 q1 q2 h0 n0 _ s₁.heap _
        rw [e0]
        exact ⟨rfl, N0, rfl⟩
theorem d3_58 : decode prog_26_method_3_code 58 = .ok (.aload 5, 2) := by decide +kernel
theorem d3_60 : decode prog_26_method_3_code 60 = .ok (.iload_n 0, 1) := by decide +kernel
theorem d3_61 : decode prog_26_method_3_code 61 = .ok (.baload, 1) := by decide +kernel
theorem d3_62 : decode prog_26_method_3_code 62 = .ok (.ifCond .eq 7, 3) := by decide +kernel
theorem d3_65 : decode prog_26_method_3_code 65 = .ok (.iconst 1, 1) := by decide +kernel
theorem d3_66 : decode prog_26_method_3_code 66 = .ok (.goto 4, 3) := by decide +kernel
theorem ef3a (m : MethodId) (x0 : Int32) (x1 : Int64) (x2 : Int64) (x3 : Addr) : entryFrame m #[(.int x0), (.long x1), (.long x2), (.ref x3)] 7 = mkF m 0 #[.val (.int x0), .val (.long x1), .second, .val (.long x2), .second, .val (.ref x3), .unset] [] := by first | (simp [entryFrame, mkF, argsToLocals, Value.category]; done) | rfl
def f_ca (p0 : Int32) (q1 : Int64) (q2 : Int64) (bb : Int32) : Int32 :=
  if p0 < (64 : Int32) then
    if (q1 &&& ((1 : Int64) <<< (p0 &&& 0x3f).toInt64)) = (0 : Int64) then
      (0 : Int32)
    else
      (1 : Int32)
  else
    if p0 < (128 : Int32) then
      if (q2 &&& ((1 : Int64) <<< (p0 &&& 0x3f).toInt64)) = (0 : Int64) then
        (0 : Int32)
      else
        (1 : Int32)
    else
      if bb = (0 : Int32) then
        (0 : Int32)
      else
        (1 : Int32)
def Q3a (Z : State) (p0 : Int32) (q1 : Int64) (q2 : Int64) (a3 : Addr) (cl3 : Cell) (bb : Int32) (h0 : Heap) (n0 : Nat) (v : Option Value) (h : Heap) (L : List Loc) : Prop := v = some (.int (f_ca p0 q1 q2 bb)) ∧ Fr n0 L ∧ h = h0
set_option maxRecDepth 65536 in
set_option maxHeartbeats 40000000 in
theorem rm3a (l : Launch) (Z : State) (av : Array Value) (hw : ∀ d ∈ tables_1, d.before av Z = true) (ws : List Jvm.Cond) (p0 : Int32) (q1 : Int64) (q2 : Int64) (a3 : Addr) (cl3 : Cell) (bb : Int32) (h0 : Heap) (n0 : Nat) (Z0 : n0 ≤ h0.size) (Ar3 : Arr Z h0 a3 cl3 .boolean) (hin3 : ¬ p0 < (128 : Int32) → ¬ (p0 < 0 ∨ cl3.slots.size ≤ p0.toNatClampNeg)) (hat3 : ¬ p0 < (128 : Int32) → cl3.slots[p0.toNatClampNeg]? = some (.int bb)) :
    MetFree l (⟨"com/example/baton/baton/support/Skipped", "contains", "(IJJ[Z)Z"⟩ : MethodName) (head1 (Jvm.Cond.code (⟨"com/example/baton/baton/support/Skipped", "contains", "(IJJ[Z)Z"⟩ : MethodName) prog_26_method_3_code 7 (some .boolean) :: ws) ({ frames := 0, cells := 0, slots := 0, locals := 0 } : Room)) (fun a U => a = #[(.int p0), (.long q1), (.long q2), (.ref a3)] ∧ Z.Warmed39 U.vm ∧ U.heap = h0) (fun _ _ _ _ _ => True) (fun _ U o U' => ∃ v L, o = .returned v ∧ Q3a Z p0 q1 q2 a3 cl3 bb h0 n0 v U'.heap L ∧ FrameEnd U o U' L ({ frames := 0, cells := 0, slots := 0, locals := 0 } : Room).cells ({ frames := 0, cells := 0, slots := 0, locals := 0 } : Room).slots) := by
  refine MetFree.of_bodySF (plainFor_of_name pn_com_example_baton_baton_support_Skipped) hisR ?_
  intro p e s m args below meth c s₁ Bd hml0 hP hK
  obtain ⟨rfl, hZ, hh⟩ := hP
  have hx := Bd.exec
  have hby := Bd.bytes
  have hml : c.maxLocals = 7 := hml0
  have hown : s.vm.findClass "com/example/baton/baton/support/Skipped" = some m.cls := findClass_of_methodNamed Bd.named
  have hnm := (name_of_methodNamed Bd.named Bd.method).1
  have X0 : Stand p l e ({ frames := 0, cells := 0, slots := 0, locals := 0 } : Room) s m #[(.int p0), (.long q1), (.long q2), (.ref a3)] below meth c s₁ [] 0 0 := Stand.of_body Bd
  have e0 : s₁.heap = h0 := by rw [← hh, Bd.state]; rfl
  have N0 := Fr.nil n0
  have K0 : Keep h0 h0 [] := Keep.refl h0 []
  have pre0 : ∀ t, Steps p.tables e below (s₁.setTop (mkF m 0 #[.val (.int p0), .val (.long q1), .second, .val (.long q2), .second, .val (.ref a3), .unset] [])) t → Steps p.tables e below (s₁.setTop (entryFrame m #[(.int p0), (.long q1), (.long q2), (.ref a3)] 7)) t := fun t k => castTop (ef3a m p0 q1 q2 a3) k
  have pre1 : ∀ t, Steps p.tables e below (s₁.setTop (mkF m 3 #[.val (.int p0), .val (.long q1), .second, .val (.long q2), .second, .val (.ref a3), .unset] [(.int (64 : Int32)), (.int p0)])) t → Steps p.tables e below (s₁.setTop (entryFrame m #[(.int p0), (.long q1), (.long q2), (.ref a3)] 7)) t := fun t kt => pre0 t (by
    show Steps p.tables e below (s₁.setTop (mkF m 0 #[.val (.int p0), .val (.long q1), .second, .val (.long q2), .second, .val (.ref a3), .unset] [])) _
    refine XS.iloadN X0.here hx rfl (hb hby d3_0) rfl ?_
    show Steps p.tables e below (s₁.setTop (mkF m 1 #[.val (.int p0), .val (.long q1), .second, .val (.long q2), .second, .val (.ref a3), .unset] [(.int p0)])) _
    refine XS.bipush X0.here hx rfl (hb hby d3_1) ?_
    exact kt)
  by_cases hc3_2 : p0 < (64 : Int32)
  · have pre3 : ∀ t, Steps p.tables e below (s₁.setTop (mkF m 13 #[.val (.int p0), .val (.long q1), .second, .val (.long q2), .second, .val (.ref a3), .unset] [(.int (lcmpW (q1 &&& ((1 : Int64) <<< (p0 &&& 0x3f).toInt64)) (0 : Int64)))])) t → Steps p.tables e below (s₁.setTop (entryFrame m #[(.int p0), (.long q1), (.long q2), (.ref a3)] 7)) t := fun t kt => pre1 t (by
      show Steps p.tables e below (s₁.setTop (mkF m 3 #[.val (.int p0), .val (.long q1), .second, .val (.long q2), .second, .val (.ref a3), .unset] [(.int (64 : Int32)), (.int p0)])) _
      refine XS.icmpNo X0.here hx rfl (hb hby d3_3) rfl (tlt hc3_2).2.1 ?_
      show Steps p.tables e below (s₁.setTop (mkF m 6 #[.val (.int p0), .val (.long q1), .second, .val (.long q2), .second, .val (.ref a3), .unset] [])) _
      refine XS.lloadN X0.here hx rfl (hb hby d3_6) rfl ?_
      show Steps p.tables e below (s₁.setTop (mkF m 7 #[.val (.int p0), .val (.long q1), .second, .val (.long q2), .second, .val (.ref a3), .unset] [(.long q1)])) _
      refine XS.lconst X0.here hx rfl (hb hby d3_7) ?_
      show Steps p.tables e below (s₁.setTop (mkF m 8 #[.val (.int p0), .val (.long q1), .second, .val (.long q2), .second, .val (.ref a3), .unset] [(.long (1 : Int64)), (.long q1)])) _
      refine XS.iloadN X0.here hx rfl (hb hby d3_8) rfl ?_
      show Steps p.tables e below (s₁.setTop (mkF m 9 #[.val (.int p0), .val (.long q1), .second, .val (.long q2), .second, .val (.ref a3), .unset] [(.int p0), (.long (1 : Int64)), (.long q1)])) _
      refine XS.lshl X0.here hx rfl (hb hby d3_9) rfl ?_
      show Steps p.tables e below (s₁.setTop (mkF m 10 #[.val (.int p0), .val (.long q1), .second, .val (.long q2), .second, .val (.ref a3), .unset] [(.long ((1 : Int64) <<< (p0 &&& 0x3f).toInt64)), (.long q1)])) _
      refine XS.land X0.here hx rfl (hb hby d3_10) rfl ?_
      show Steps p.tables e below (s₁.setTop (mkF m 11 #[.val (.int p0), .val (.long q1), .second, .val (.long q2), .second, .val (.ref a3), .unset] [(.long (q1 &&& ((1 : Int64) <<< (p0 &&& 0x3f).toInt64)))])) _
      refine XS.lconst X0.here hx rfl (hb hby d3_11) ?_
      show Steps p.tables e below (s₁.setTop (mkF m 12 #[.val (.int p0), .val (.long q1), .second, .val (.long q2), .second, .val (.ref a3), .unset] [(.long (0 : Int64)), (.long (q1 &&& ((1 : Int64) <<< (p0 &&& 0x3f).toInt64)))])) _
      refine XS.lcmp X0.here hx rfl (hb hby d3_12) rfl ?_
      exact kt)
    by_cases hc13_4 : (q1 &&& ((1 : Int64) <<< (p0 &&& 0x3f).toInt64)) = (0 : Int64)
    · have pre5 : ∀ t, Steps p.tables e below (s₁.setTop (mkF m 74 #[.val (.int p0), .val (.long q1), .second, .val (.long q2), .second, .val (.ref a3), .val (.int (0 : Int32))] [(.int (0 : Int32))])) t → Steps p.tables e below (s₁.setTop (entryFrame m #[(.int p0), (.long q1), (.long q2), (.ref a3)] 7)) t := fun t kt => pre3 t (by
        show Steps p.tables e below (s₁.setTop (mkF m 13 #[.val (.int p0), .val (.long q1), .second, .val (.long q2), .second, .val (.ref a3), .unset] [(.int (lcmpW (q1 &&& ((1 : Int64) <<< (p0 &&& 0x3f).toInt64)) (0 : Int64)))])) _
        refine XS.ifYes X0.here hx rfl (pc0 := 13) (pc' := 20) rfl (hb hby d3_13) rfl (Jvm.Free.XT.ll_eq_t hc13_4) (by decide) (by decide) ?_
        show Steps p.tables e below (s₁.setTop (mkF m 20 #[.val (.int p0), .val (.long q1), .second, .val (.long q2), .second, .val (.ref a3), .unset] [])) _
        refine XS.iconst X0.here hx rfl (hb hby d3_20) ?_
        show Steps p.tables e below (s₁.setTop (mkF m 21 #[.val (.int p0), .val (.long q1), .second, .val (.long q2), .second, .val (.ref a3), .unset] [(.int (0 : Int32))])) _
        refine XS.istore X0.here hx rfl (hb hby d3_21) rfl (l' := #[.val (.int p0), .val (.long q1), .second, .val (.long q2), .second, .val (.ref a3), .val (.int (0 : Int32))]) rfl ?_
        show Steps p.tables e below (s₁.setTop (mkF m 23 #[.val (.int p0), .val (.long q1), .second, .val (.long q2), .second, .val (.ref a3), .val (.int (0 : Int32))] [])) _
        refine XS.goto X0.here hx rfl (pc0 := 23) (pc' := 72) rfl (hb hby d3_23) (by decide) (by decide) ?_
        show Steps p.tables e below (s₁.setTop (mkF m 72 #[.val (.int p0), .val (.long q1), .second, .val (.long q2), .second, .val (.ref a3), .val (.int (0 : Int32))] [])) _
        refine XS.iload X0.here hx rfl (hb hby d3_72) rfl ?_
        exact kt)
      have hv : f_ca p0 q1 q2 bb = (0 : Int32) := by
        unfold f_ca
        rw [if_pos hc3_2, if_pos hc13_4]
      obtain ⟨fs, hr, hrun, hended, hW, hsame⟩ := X0.leave (v := some (.int (f_ca p0 q1 q2 bb))) (fun h => by rw [Bd.returns] at h; cases h)
      refine ⟨_, _, pre5 _ ?_, hrun, hended, _, _, rfl, ?_, ⟨_, rfl⟩, hW, hsame.mono (by decide) (by decide)⟩
      · rw [hv] at hr
        show Steps p.tables e below (s₁.setTop (mkF m 74 #[.val (.int p0), .val (.long q1), .second, .val (.long q2), .second, .val (.ref a3), .val (.int (0 : Int32))] [(.int (0 : Int32))])) _
        exact retN X0 hx (t := .boolean) Bd.returns (by simp) (hb hby d3_74) hr
      · show Q3a Z p0 q1 q2 a3 cl3 bb h0 n0 _ s₁.heap _
        rw [e0]
        exact ⟨rfl, N0, rfl⟩
    · have pre6 : ∀ t, Steps p.tables e below (s₁.setTop (mkF m 74 #[.val (.int p0), .val (.long q1), .second, .val (.long q2), .second, .val (.ref a3), .val (.int (1 : Int32))] [(.int (1 : Int32))])) t → Steps p.tables e below (s₁.setTop (entryFrame m #[(.int p0), (.long q1), (.long q2), (.ref a3)] 7)) t := fun t kt => pre3 t (by
        show Steps p.tables e below (s₁.setTop (mkF m 13 #[.val (.int p0), .val (.long q1), .second, .val (.long q2), .second, .val (.ref a3), .unset] [(.int (lcmpW (q1 &&& ((1 : Int64) <<< (p0 &&& 0x3f).toInt64)) (0 : Int64)))])) _
        refine XS.ifNo X0.here hx rfl (hb hby d3_13) rfl (Jvm.Free.XT.ll_eq_f hc13_4) ?_
        show Steps p.tables e below (s₁.setTop (mkF m 16 #[.val (.int p0), .val (.long q1), .second, .val (.long q2), .second, .val (.ref a3), .unset] [])) _
        refine XS.iconst X0.here hx rfl (hb hby d3_16) ?_
        show Steps p.tables e below (s₁.setTop (mkF m 17 #[.val (.int p0), .val (.long q1), .second, .val (.long q2), .second, .val (.ref a3), .unset] [(.int (1 : Int32))])) _
        refine XS.goto X0.here hx rfl (pc0 := 17) (pc' := 21) rfl (hb hby d3_17) (by decide) (by decide) ?_
        show Steps p.tables e below (s₁.setTop (mkF m 21 #[.val (.int p0), .val (.long q1), .second, .val (.long q2), .second, .val (.ref a3), .unset] [(.int (1 : Int32))])) _
        refine XS.istore X0.here hx rfl (hb hby d3_21) rfl (l' := #[.val (.int p0), .val (.long q1), .second, .val (.long q2), .second, .val (.ref a3), .val (.int (1 : Int32))]) rfl ?_
        show Steps p.tables e below (s₁.setTop (mkF m 23 #[.val (.int p0), .val (.long q1), .second, .val (.long q2), .second, .val (.ref a3), .val (.int (1 : Int32))] [])) _
        refine XS.goto X0.here hx rfl (pc0 := 23) (pc' := 72) rfl (hb hby d3_23) (by decide) (by decide) ?_
        show Steps p.tables e below (s₁.setTop (mkF m 72 #[.val (.int p0), .val (.long q1), .second, .val (.long q2), .second, .val (.ref a3), .val (.int (1 : Int32))] [])) _
        refine XS.iload X0.here hx rfl (hb hby d3_72) rfl ?_
        exact kt)
      have hv : f_ca p0 q1 q2 bb = (1 : Int32) := by
        unfold f_ca
        rw [if_pos hc3_2, if_neg hc13_4]
      obtain ⟨fs, hr, hrun, hended, hW, hsame⟩ := X0.leave (v := some (.int (f_ca p0 q1 q2 bb))) (fun h => by rw [Bd.returns] at h; cases h)
      refine ⟨_, _, pre6 _ ?_, hrun, hended, _, _, rfl, ?_, ⟨_, rfl⟩, hW, hsame.mono (by decide) (by decide)⟩
      · rw [hv] at hr
        show Steps p.tables e below (s₁.setTop (mkF m 74 #[.val (.int p0), .val (.long q1), .second, .val (.long q2), .second, .val (.ref a3), .val (.int (1 : Int32))] [(.int (1 : Int32))])) _
        exact retN X0 hx (t := .boolean) Bd.returns (by simp) (hb hby d3_74) hr
      · show Q3a Z p0 q1 q2 a3 cl3 bb h0 n0 _ s₁.heap _
        rw [e0]
        exact ⟨rfl, N0, rfl⟩
  · have pre7 : ∀ t, Steps p.tables e below (s₁.setTop (mkF m 30 #[.val (.int p0), .val (.long q1), .second, .val (.long q2), .second, .val (.ref a3), .unset] [(.int (128 : Int32)), (.int p0)])) t → Steps p.tables e below (s₁.setTop (entryFrame m #[(.int p0), (.long q1), (.long q2), (.ref a3)] 7)) t := fun t kt => pre1 t (by
      show Steps p.tables e below (s₁.setTop (mkF m 3 #[.val (.int p0), .val (.long q1), .second, .val (.long q2), .second, .val (.ref a3), .unset] [(.int (64 : Int32)), (.int p0)])) _
      refine XS.icmpYes X0.here hx rfl (pc0 := 3) (pc' := 26) rfl (hb hby d3_3) rfl (flt hc3_2).2.1 (by decide) (by decide) ?_
      show Steps p.tables e below (s₁.setTop (mkF m 26 #[.val (.int p0), .val (.long q1), .second, .val (.long q2), .second, .val (.ref a3), .unset] [])) _
      refine XS.iloadN X0.here hx rfl (hb hby d3_26) rfl ?_
      show Steps p.tables e below (s₁.setTop (mkF m 27 #[.val (.int p0), .val (.long q1), .second, .val (.long q2), .second, .val (.ref a3), .unset] [(.int p0)])) _
      refine XS.sipush X0.here hx rfl (hb hby d3_27) ?_
      exact kt)
    by_cases hc30_8 : p0 < (128 : Int32)
    · have pre9 : ∀ t, Steps p.tables e below (s₁.setTop (mkF m 40 #[.val (.int p0), .val (.long q1), .second, .val (.long q2), .second, .val (.ref a3), .unset] [(.int (lcmpW (q2 &&& ((1 : Int64) <<< (p0 &&& 0x3f).toInt64)) (0 : Int64)))])) t → Steps p.tables e below (s₁.setTop (entryFrame m #[(.int p0), (.long q1), (.long q2), (.ref a3)] 7)) t := fun t kt => pre7 t (by
        show Steps p.tables e below (s₁.setTop (mkF m 30 #[.val (.int p0), .val (.long q1), .second, .val (.long q2), .second, .val (.ref a3), .unset] [(.int (128 : Int32)), (.int p0)])) _
        refine XS.icmpNo X0.here hx rfl (hb hby d3_30) rfl (tlt hc30_8).2.1 ?_
        show Steps p.tables e below (s₁.setTop (mkF m 33 #[.val (.int p0), .val (.long q1), .second, .val (.long q2), .second, .val (.ref a3), .unset] [])) _
        refine XS.lloadN X0.here hx rfl (hb hby d3_33) rfl ?_
        show Steps p.tables e below (s₁.setTop (mkF m 34 #[.val (.int p0), .val (.long q1), .second, .val (.long q2), .second, .val (.ref a3), .unset] [(.long q2)])) _
        refine XS.lconst X0.here hx rfl (hb hby d3_34) ?_
        show Steps p.tables e below (s₁.setTop (mkF m 35 #[.val (.int p0), .val (.long q1), .second, .val (.long q2), .second, .val (.ref a3), .unset] [(.long (1 : Int64)), (.long q2)])) _
        refine XS.iloadN X0.here hx rfl (hb hby d3_35) rfl ?_
        show Steps p.tables e below (s₁.setTop (mkF m 36 #[.val (.int p0), .val (.long q1), .second, .val (.long q2), .second, .val (.ref a3), .unset] [(.int p0), (.long (1 : Int64)), (.long q2)])) _
        refine XS.lshl X0.here hx rfl (hb hby d3_36) rfl ?_
        show Steps p.tables e below (s₁.setTop (mkF m 37 #[.val (.int p0), .val (.long q1), .second, .val (.long q2), .second, .val (.ref a3), .unset] [(.long ((1 : Int64) <<< (p0 &&& 0x3f).toInt64)), (.long q2)])) _
        refine XS.land X0.here hx rfl (hb hby d3_37) rfl ?_
        show Steps p.tables e below (s₁.setTop (mkF m 38 #[.val (.int p0), .val (.long q1), .second, .val (.long q2), .second, .val (.ref a3), .unset] [(.long (q2 &&& ((1 : Int64) <<< (p0 &&& 0x3f).toInt64)))])) _
        refine XS.lconst X0.here hx rfl (hb hby d3_38) ?_
        show Steps p.tables e below (s₁.setTop (mkF m 39 #[.val (.int p0), .val (.long q1), .second, .val (.long q2), .second, .val (.ref a3), .unset] [(.long (0 : Int64)), (.long (q2 &&& ((1 : Int64) <<< (p0 &&& 0x3f).toInt64)))])) _
        refine XS.lcmp X0.here hx rfl (hb hby d3_39) rfl ?_
        exact kt)
      by_cases hc40_10 : (q2 &&& ((1 : Int64) <<< (p0 &&& 0x3f).toInt64)) = (0 : Int64)
      · have pre11 : ∀ t, Steps p.tables e below (s₁.setTop (mkF m 74 #[.val (.int p0), .val (.long q1), .second, .val (.long q2), .second, .val (.ref a3), .val (.int (0 : Int32))] [(.int (0 : Int32))])) t → Steps p.tables e below (s₁.setTop (entryFrame m #[(.int p0), (.long q1), (.long q2), (.ref a3)] 7)) t := fun t kt => pre9 t (by
          show Steps p.tables e below (s₁.setTop (mkF m 40 #[.val (.int p0), .val (.long q1), .second, .val (.long q2), .second, .val (.ref a3), .unset] [(.int (lcmpW (q2 &&& ((1 : Int64) <<< (p0 &&& 0x3f).toInt64)) (0 : Int64)))])) _
          refine XS.ifYes X0.here hx rfl (pc0 := 40) (pc' := 47) rfl (hb hby d3_40) rfl (Jvm.Free.XT.ll_eq_t hc40_10) (by decide) (by decide) ?_
          show Steps p.tables e below (s₁.setTop (mkF m 47 #[.val (.int p0), .val (.long q1), .second, .val (.long q2), .second, .val (.ref a3), .unset] [])) _
          refine XS.iconst X0.here hx rfl (hb hby d3_47) ?_
          show Steps p.tables e below (s₁.setTop (mkF m 48 #[.val (.int p0), .val (.long q1), .second, .val (.long q2), .second, .val (.ref a3), .unset] [(.int (0 : Int32))])) _
          refine XS.istore X0.here hx rfl (hb hby d3_48) rfl (l' := #[.val (.int p0), .val (.long q1), .second, .val (.long q2), .second, .val (.ref a3), .val (.int (0 : Int32))]) rfl ?_
          show Steps p.tables e below (s₁.setTop (mkF m 50 #[.val (.int p0), .val (.long q1), .second, .val (.long q2), .second, .val (.ref a3), .val (.int (0 : Int32))] [])) _
          refine XS.goto X0.here hx rfl (pc0 := 50) (pc' := 72) rfl (hb hby d3_50) (by decide) (by decide) ?_
          show Steps p.tables e below (s₁.setTop (mkF m 72 #[.val (.int p0), .val (.long q1), .second, .val (.long q2), .second, .val (.ref a3), .val (.int (0 : Int32))] [])) _
          refine XS.iload X0.here hx rfl (hb hby d3_72) rfl ?_
          exact kt)
        have hv : f_ca p0 q1 q2 bb = (0 : Int32) := by
          unfold f_ca
          rw [if_neg hc3_2, if_pos hc30_8, if_pos hc40_10]
        obtain ⟨fs, hr, hrun, hended, hW, hsame⟩ := X0.leave (v := some (.int (f_ca p0 q1 q2 bb))) (fun h => by rw [Bd.returns] at h; cases h)
        refine ⟨_, _, pre11 _ ?_, hrun, hended, _, _, rfl, ?_, ⟨_, rfl⟩, hW, hsame.mono (by decide) (by decide)⟩
        · rw [hv] at hr
          show Steps p.tables e below (s₁.setTop (mkF m 74 #[.val (.int p0), .val (.long q1), .second, .val (.long q2), .second, .val (.ref a3), .val (.int (0 : Int32))] [(.int (0 : Int32))])) _
          exact retN X0 hx (t := .boolean) Bd.returns (by simp) (hb hby d3_74) hr
        · show Q3a Z p0 q1 q2 a3 cl3 bb h0 n0 _ s₁.heap _
          rw [e0]
          exact ⟨rfl, N0, rfl⟩
      · have pre12 : ∀ t, Steps p.tables e below (s₁.setTop (mkF m 74 #[.val (.int p0), .val (.long q1), .second, .val (.long q2), .second, .val (.ref a3), .val (.int (1 : Int32))] [(.int (1 : Int32))])) t → Steps p.tables e below (s₁.setTop (entryFrame m #[(.int p0), (.long q1), (.long q2), (.ref a3)] 7)) t := fun t kt => pre9 t (by
          show Steps p.tables e below (s₁.setTop (mkF m 40 #[.val (.int p0), .val (.long q1), .second, .val (.long q2), .second, .val (.ref a3), .unset] [(.int (lcmpW (q2 &&& ((1 : Int64) <<< (p0 &&& 0x3f).toInt64)) (0 : Int64)))])) _
          refine XS.ifNo X0.here hx rfl (hb hby d3_40) rfl (Jvm.Free.XT.ll_eq_f hc40_10) ?_
          show Steps p.tables e below (s₁.setTop (mkF m 43 #[.val (.int p0), .val (.long q1), .second, .val (.long q2), .second, .val (.ref a3), .unset] [])) _
          refine XS.iconst X0.here hx rfl (hb hby d3_43) ?_
          show Steps p.tables e below (s₁.setTop (mkF m 44 #[.val (.int p0), .val (.long q1), .second, .val (.long q2), .second, .val (.ref a3), .unset] [(.int (1 : Int32))])) _
          refine XS.goto X0.here hx rfl (pc0 := 44) (pc' := 48) rfl (hb hby d3_44) (by decide) (by decide) ?_
          show Steps p.tables e below (s₁.setTop (mkF m 48 #[.val (.int p0), .val (.long q1), .second, .val (.long q2), .second, .val (.ref a3), .unset] [(.int (1 : Int32))])) _
          refine XS.istore X0.here hx rfl (hb hby d3_48) rfl (l' := #[.val (.int p0), .val (.long q1), .second, .val (.long q2), .second, .val (.ref a3), .val (.int (1 : Int32))]) rfl ?_
          show Steps p.tables e below (s₁.setTop (mkF m 50 #[.val (.int p0), .val (.long q1), .second, .val (.long q2), .second, .val (.ref a3), .val (.int (1 : Int32))] [])) _
          refine XS.goto X0.here hx rfl (pc0 := 50) (pc' := 72) rfl (hb hby d3_50) (by decide) (by decide) ?_
          show Steps p.tables e below (s₁.setTop (mkF m 72 #[.val (.int p0), .val (.long q1), .second, .val (.long q2), .second, .val (.ref a3), .val (.int (1 : Int32))] [])) _
          refine XS.iload X0.here hx rfl (hb hby d3_72) rfl ?_
          exact kt)
        have hv : f_ca p0 q1 q2 bb = (1 : Int32) := by
          unfold f_ca
          rw [if_neg hc3_2, if_pos hc30_8, if_neg hc40_10]
        obtain ⟨fs, hr, hrun, hended, hW, hsame⟩ := X0.leave (v := some (.int (f_ca p0 q1 q2 bb))) (fun h => by rw [Bd.returns] at h; cases h)
        refine ⟨_, _, pre12 _ ?_, hrun, hended, _, _, rfl, ?_, ⟨_, rfl⟩, hW, hsame.mono (by decide) (by decide)⟩
        · rw [hv] at hr
          show Steps p.tables e below (s₁.setTop (mkF m 74 #[.val (.int p0), .val (.long q1), .second, .val (.long q2), .second, .val (.ref a3), .val (.int (1 : Int32))] [(.int (1 : Int32))])) _
          exact retN X0 hx (t := .boolean) Bd.returns (by simp) (hb hby d3_74) hr
        · show Q3a Z p0 q1 q2 a3 cl3 bb h0 n0 _ s₁.heap _
          rw [e0]
          exact ⟨rfl, N0, rfl⟩
    · have pre13 : ∀ t, Steps p.tables e below (s₁.setTop (mkF m 61 #[.val (.int p0), .val (.long q1), .second, .val (.long q2), .second, .val (.ref a3), .unset] [(.int p0), (.ref a3)])) t → Steps p.tables e below (s₁.setTop (entryFrame m #[(.int p0), (.long q1), (.long q2), (.ref a3)] 7)) t := fun t kt => pre7 t (by
        show Steps p.tables e below (s₁.setTop (mkF m 30 #[.val (.int p0), .val (.long q1), .second, .val (.long q2), .second, .val (.ref a3), .unset] [(.int (128 : Int32)), (.int p0)])) _
        refine XS.icmpYes X0.here hx rfl (pc0 := 30) (pc' := 53) rfl (hb hby d3_30) rfl (flt hc30_8).2.1 (by decide) (by decide) ?_
        show Steps p.tables e below (s₁.setTop (mkF m 53 #[.val (.int p0), .val (.long q1), .second, .val (.long q2), .second, .val (.ref a3), .unset] [])) _
        refine XS.aload X0.here hx rfl (hb hby d3_53) rfl rfl ?_
        show Steps p.tables e below (s₁.setTop (mkF m 55 #[.val (.int p0), .val (.long q1), .second, .val (.long q2), .second, .val (.ref a3), .unset] [(.ref a3)])) _
        refine XS.ifnullNo X0.here hx rfl (hb hby d3_55) rfl ?_
        show Steps p.tables e below (s₁.setTop (mkF m 58 #[.val (.int p0), .val (.long q1), .second, .val (.long q2), .second, .val (.ref a3), .unset] [])) _
        refine XS.aload X0.here hx rfl (hb hby d3_58) rfl rfl ?_
        show Steps p.tables e below (s₁.setTop (mkF m 60 #[.val (.int p0), .val (.long q1), .second, .val (.long q2), .second, .val (.ref a3), .unset] [(.ref a3)])) _
        refine XS.iloadN X0.here hx rfl (hb hby d3_60) rfl ?_
        exact kt)
      have pre14 : ∀ t, Steps p.tables e below (s₁.setTop (mkF m 62 #[.val (.int p0), .val (.long q1), .second, .val (.long q2), .second, .val (.ref a3), .unset] [(.int bb)])) t → Steps p.tables e below (s₁.setTop (entryFrame m #[(.int p0), (.long q1), (.long q2), (.ref a3)] 7)) t := fun t kt => pre13 t (by
        show Steps p.tables e below (s₁.setTop (mkF m 61 #[.val (.int p0), .val (.long q1), .second, .val (.long q2), .second, .val (.ref a3), .unset] [(.int p0), (.ref a3)])) _
        refine X0.baloadBooleans hx (j := p0) (v := (.int bb)) (by rw [e0]; exact Ar3.1) (State.isArrayOf_alike hZ.alike Ar3.2.1) Ar3.2.2 (hin3 hc30_8) (hat3 hc30_8) (g := (mkF m 61 #[.val (.int p0), .val (.long q1), .second, .val (.long q2), .second, .val (.ref a3), .unset] [(.int p0), (.ref a3)])) rfl rfl (hb hby d3_61) _ ?_
        exact kt)
      by_cases hc62_15 : bb = (0 : Int32)
      · have pre16 : ∀ t, Steps p.tables e below (s₁.setTop (mkF m 74 #[.val (.int p0), .val (.long q1), .second, .val (.long q2), .second, .val (.ref a3), .val (.int (0 : Int32))] [(.int (0 : Int32))])) t → Steps p.tables e below (s₁.setTop (entryFrame m #[(.int p0), (.long q1), (.long q2), (.ref a3)] 7)) t := fun t kt => pre14 t (by
          show Steps p.tables e below (s₁.setTop (mkF m 62 #[.val (.int p0), .val (.long q1), .second, .val (.long q2), .second, .val (.ref a3), .unset] [(.int bb)])) _
          refine XS.ifYes X0.here hx rfl (pc0 := 62) (pc' := 69) rfl (hb hby d3_62) rfl ((if0 _ _).trans (teq hc62_15).1) (by decide) (by decide) ?_
          show Steps p.tables e below (s₁.setTop (mkF m 69 #[.val (.int p0), .val (.long q1), .second, .val (.long q2), .second, .val (.ref a3), .unset] [])) _
          refine XS.iconst X0.here hx rfl (hb hby d3_69) ?_
          show Steps p.tables e below (s₁.setTop (mkF m 70 #[.val (.int p0), .val (.long q1), .second, .val (.long q2), .second, .val (.ref a3), .unset] [(.int (0 : Int32))])) _
          refine XS.istore X0.here hx rfl (hb hby d3_70) rfl (l' := #[.val (.int p0), .val (.long q1), .second, .val (.long q2), .second, .val (.ref a3), .val (.int (0 : Int32))]) rfl ?_
          show Steps p.tables e below (s₁.setTop (mkF m 72 #[.val (.int p0), .val (.long q1), .second, .val (.long q2), .second, .val (.ref a3), .val (.int (0 : Int32))] [])) _
          refine XS.iload X0.here hx rfl (hb hby d3_72) rfl ?_
          exact kt)
        have hv : f_ca p0 q1 q2 bb = (0 : Int32) := by
          unfold f_ca
          rw [if_neg hc3_2, if_neg hc30_8, if_pos hc62_15]
        obtain ⟨fs, hr, hrun, hended, hW, hsame⟩ := X0.leave (v := some (.int (f_ca p0 q1 q2 bb))) (fun h => by rw [Bd.returns] at h; cases h)
        refine ⟨_, _, pre16 _ ?_, hrun, hended, _, _, rfl, ?_, ⟨_, rfl⟩, hW, hsame.mono (by decide) (by decide)⟩
        · rw [hv] at hr
          show Steps p.tables e below (s₁.setTop (mkF m 74 #[.val (.int p0), .val (.long q1), .second, .val (.long q2), .second, .val (.ref a3), .val (.int (0 : Int32))] [(.int (0 : Int32))])) _
          exact retN X0 hx (t := .boolean) Bd.returns (by simp) (hb hby d3_74) hr
        · show Q3a Z p0 q1 q2 a3 cl3 bb h0 n0 _ s₁.heap _
          rw [e0]
          exact ⟨rfl, N0, rfl⟩
      · have pre17 : ∀ t, Steps p.tables e below (s₁.setTop (mkF m 74 #[.val (.int p0), .val (.long q1), .second, .val (.long q2), .second, .val (.ref a3), .val (.int (1 : Int32))] [(.int (1 : Int32))])) t → Steps p.tables e below (s₁.setTop (entryFrame m #[(.int p0), (.long q1), (.long q2), (.ref a3)] 7)) t := fun t kt => pre14 t (by
          show Steps p.tables e below (s₁.setTop (mkF m 62 #[.val (.int p0), .val (.long q1), .second, .val (.long q2), .second, .val (.ref a3), .unset] [(.int bb)])) _
          refine XS.ifNo X0.here hx rfl (hb hby d3_62) rfl ((if0 _ _).trans (feq hc62_15).1) ?_
          show Steps p.tables e below (s₁.setTop (mkF m 65 #[.val (.int p0), .val (.long q1), .second, .val (.long q2), .second, .val (.ref a3), .unset] [])) _
          refine XS.iconst X0.here hx rfl (hb hby d3_65) ?_
          show Steps p.tables e below (s₁.setTop (mkF m 66 #[.val (.int p0), .val (.long q1), .second, .val (.long q2), .second, .val (.ref a3), .unset] [(.int (1 : Int32))])) _
          refine XS.goto X0.here hx rfl (pc0 := 66) (pc' := 70) rfl (hb hby d3_66) (by decide) (by decide) ?_
          show Steps p.tables e below (s₁.setTop (mkF m 70 #[.val (.int p0), .val (.long q1), .second, .val (.long q2), .second, .val (.ref a3), .unset] [(.int (1 : Int32))])) _
          refine XS.istore X0.here hx rfl (hb hby d3_70) rfl (l' := #[.val (.int p0), .val (.long q1), .second, .val (.long q2), .second, .val (.ref a3), .val (.int (1 : Int32))]) rfl ?_
          show Steps p.tables e below (s₁.setTop (mkF m 72 #[.val (.int p0), .val (.long q1), .second, .val (.long q2), .second, .val (.ref a3), .val (.int (1 : Int32))] [])) _
          refine XS.iload X0.here hx rfl (hb hby d3_72) rfl ?_
          exact kt)
        have hv : f_ca p0 q1 q2 bb = (1 : Int32) := by
          unfold f_ca
          rw [if_neg hc3_2, if_neg hc30_8, if_neg hc62_15]
        obtain ⟨fs, hr, hrun, hended, hW, hsame⟩ := X0.leave (v := some (.int (f_ca p0 q1 q2 bb))) (fun h => by rw [Bd.returns] at h; cases h)
        refine ⟨_, _, pre17 _ ?_, hrun, hended, _, _, rfl, ?_, ⟨_, rfl⟩, hW, hsame.mono (by decide) (by decide)⟩
        · rw [hv] at hr
          show Steps p.tables e below (s₁.setTop (mkF m 74 #[.val (.int p0), .val (.long q1), .second, .val (.long q2), .second, .val (.ref a3), .val (.int (1 : Int32))] [(.int (1 : Int32))])) _
          exact retN X0 hx (t := .boolean) Bd.returns (by simp) (hb hby d3_74) hr
        · show Q3a Z p0 q1 q2 a3 cl3 bb h0 n0 _ s₁.heap _
          rw [e0]
          exact ⟨rfl, N0, rfl⟩
theorem d1_0 : decode prog_26_method_4_code 0 = .ok (.lload_n 0, 1) := by decide +kernel
theorem d1_1 : decode prog_26_method_4_code 1 = .ok (.lconst 0, 1) := by decide +kernel
theorem d1_2 : decode prog_26_method_4_code 2 = .ok (.lcmp, 1) := by decide +kernel
theorem d1_3 : decode prog_26_method_4_code 3 = .ok (.ifCond .ne 18, 3) := by decide +kernel
theorem d1_6 : decode prog_26_method_4_code 6 = .ok (.lload_n 2, 1) := by decide +kernel
theorem d1_7 : decode prog_26_method_4_code 7 = .ok (.lconst 0, 1) := by decide +kernel
theorem d1_8 : decode prog_26_method_4_code 8 = .ok (.lcmp, 1) := by decide +kernel
theorem d1_9 : decode prog_26_method_4_code 9 = .ok (.ifCond .ne 12, 3) := by decide +kernel
theorem d1_12 : decode prog_26_method_4_code 12 = .ok (.aload 4, 2) := by decide +kernel
theorem d1_14 : decode prog_26_method_4_code 14 = .ok (.ifnonnull 7, 3) := by decide +kernel
theorem d1_17 : decode prog_26_method_4_code 17 = .ok (.iconst 1, 1) := by decide +kernel
theorem d1_18 : decode prog_26_method_4_code 18 = .ok (.goto 4, 3) := by decide +kernel
theorem d1_22 : decode prog_26_method_4_code 22 = .ok (.ireturn, 1) := by decide +kernel
theorem d1_21 : decode prog_26_method_4_code 21 = .ok (.iconst 0, 1) := by decide +kernel
theorem ef1n (m : MethodId) (x0 : Int64) (x1 : Int64) : entryFrame m #[(.long x0), (.long x1), .null] 5 = mkF m 0 #[.val (.long x0), .second, .val (.long x1), .second, .val .null] [] := by first | (simp [entryFrame, mkF, argsToLocals, Value.category]; done) | rfl
def f_nn (q0 : Int64) (q1 : Int64) : Int32 :=
  if q0 = (0 : Int64) then
    if q1 = (0 : Int64) then
      (1 : Int32)
    else
      (0 : Int32)
  else
    (0 : Int32)
def Q1n (Z : State) (q0 : Int64) (q1 : Int64) (h0 : Heap) (n0 : Nat) (v : Option Value) (h : Heap) (L : List Loc) : Prop := v = some (.int (f_nn q0 q1)) ∧ Fr n0 L ∧ h = h0
set_option maxRecDepth 65536 in
set_option maxHeartbeats 40000000 in
theorem rm1n (l : Launch) (Z : State) (av : Array Value) (hw : ∀ d ∈ tables_1, d.before av Z = true) (ws : List Jvm.Cond) (q0 : Int64) (q1 : Int64) (h0 : Heap) (n0 : Nat) (Z0 : n0 ≤ h0.size) :
    MetFree l (⟨"com/example/baton/baton/support/Skipped", "none", "(JJ[Z)Z"⟩ : MethodName) (head1 (Jvm.Cond.code (⟨"com/example/baton/baton/support/Skipped", "none", "(JJ[Z)Z"⟩ : MethodName) prog_26_method_4_code 5 (some .boolean) :: ws) ({ frames := 0, cells := 0, slots := 0, locals := 0 } : Room)) (fun a U => a = #[(.long q0), (.long q1), .null] ∧ Z.Warmed39 U.vm ∧ U.heap = h0) (fun _ _ _ _ _ => True) (fun _ U o U' => ∃ v L, o = .returned v ∧ Q1n Z q0 q1 h0 n0 v U'.heap L ∧ FrameEnd U o U' L ({ frames := 0, cells := 0, slots := 0, locals := 0 } : Room).cells ({ frames := 0, cells := 0, slots := 0, locals := 0 } : Room).slots) := by
  refine MetFree.of_bodySF (plainFor_of_name pn_com_example_baton_baton_support_Skipped) hisR ?_
  intro p e s m args below meth c s₁ Bd hml0 hP hK
  obtain ⟨rfl, hZ, hh⟩ := hP
  have hx := Bd.exec
  have hby := Bd.bytes
  have hml : c.maxLocals = 5 := hml0
  have hown : s.vm.findClass "com/example/baton/baton/support/Skipped" = some m.cls := findClass_of_methodNamed Bd.named
  have hnm := (name_of_methodNamed Bd.named Bd.method).1
  have X0 : Stand p l e ({ frames := 0, cells := 0, slots := 0, locals := 0 } : Room) s m #[(.long q0), (.long q1), .null] below meth c s₁ [] 0 0 := Stand.of_body Bd
  have e0 : s₁.heap = h0 := by rw [← hh, Bd.state]; rfl
  have N0 := Fr.nil n0
  have K0 : Keep h0 h0 [] := Keep.refl h0 []
  have pre0 : ∀ t, Steps p.tables e below (s₁.setTop (mkF m 0 #[.val (.long q0), .second, .val (.long q1), .second, .val .null] [])) t → Steps p.tables e below (s₁.setTop (entryFrame m #[(.long q0), (.long q1), .null] 5)) t := fun t k => castTop (ef1n m q0 q1) k
  have pre1 : ∀ t, Steps p.tables e below (s₁.setTop (mkF m 3 #[.val (.long q0), .second, .val (.long q1), .second, .val .null] [(.int (lcmpW q0 (0 : Int64)))])) t → Steps p.tables e below (s₁.setTop (entryFrame m #[(.long q0), (.long q1), .null] 5)) t := fun t kt => pre0 t (by
    show Steps p.tables e below (s₁.setTop (mkF m 0 #[.val (.long q0), .second, .val (.long q1), .second, .val .null] [])) _
    refine XS.lloadN X0.here hx rfl (hb hby d1_0) rfl ?_
    show Steps p.tables e below (s₁.setTop (mkF m 1 #[.val (.long q0), .second, .val (.long q1), .second, .val .null] [(.long q0)])) _
    refine XS.lconst X0.here hx rfl (hb hby d1_1) ?_
    show Steps p.tables e below (s₁.setTop (mkF m 2 #[.val (.long q0), .second, .val (.long q1), .second, .val .null] [(.long (0 : Int64)), (.long q0)])) _
    refine XS.lcmp X0.here hx rfl (hb hby d1_2) rfl ?_
    exact kt)
  by_cases hc3_2 : q0 = (0 : Int64)
  · have pre3 : ∀ t, Steps p.tables e below (s₁.setTop (mkF m 9 #[.val (.long q0), .second, .val (.long q1), .second, .val .null] [(.int (lcmpW q1 (0 : Int64)))])) t → Steps p.tables e below (s₁.setTop (entryFrame m #[(.long q0), (.long q1), .null] 5)) t := fun t kt => pre1 t (by
      show Steps p.tables e below (s₁.setTop (mkF m 3 #[.val (.long q0), .second, .val (.long q1), .second, .val .null] [(.int (lcmpW q0 (0 : Int64)))])) _
      refine XS.ifNo X0.here hx rfl (hb hby d1_3) rfl (Jvm.Free.XT.ll_ne_f hc3_2) ?_
      show Steps p.tables e below (s₁.setTop (mkF m 6 #[.val (.long q0), .second, .val (.long q1), .second, .val .null] [])) _
      refine XS.lloadN X0.here hx rfl (hb hby d1_6) rfl ?_
      show Steps p.tables e below (s₁.setTop (mkF m 7 #[.val (.long q0), .second, .val (.long q1), .second, .val .null] [(.long q1)])) _
      refine XS.lconst X0.here hx rfl (hb hby d1_7) ?_
      show Steps p.tables e below (s₁.setTop (mkF m 8 #[.val (.long q0), .second, .val (.long q1), .second, .val .null] [(.long (0 : Int64)), (.long q1)])) _
      refine XS.lcmp X0.here hx rfl (hb hby d1_8) rfl ?_
      exact kt)
    by_cases hc9_4 : q1 = (0 : Int64)
    · have pre5 : ∀ t, Steps p.tables e below (s₁.setTop (mkF m 22 #[.val (.long q0), .second, .val (.long q1), .second, .val .null] [(.int (1 : Int32))])) t → Steps p.tables e below (s₁.setTop (entryFrame m #[(.long q0), (.long q1), .null] 5)) t := fun t kt => pre3 t (by
        show Steps p.tables e below (s₁.setTop (mkF m 9 #[.val (.long q0), .second, .val (.long q1), .second, .val .null] [(.int (lcmpW q1 (0 : Int64)))])) _
        refine XS.ifNo X0.here hx rfl (hb hby d1_9) rfl (Jvm.Free.XT.ll_ne_f hc9_4) ?_
        show Steps p.tables e below (s₁.setTop (mkF m 12 #[.val (.long q0), .second, .val (.long q1), .second, .val .null] [])) _
        refine XS.aload X0.here hx rfl (hb hby d1_12) rfl rfl ?_
        show Steps p.tables e below (s₁.setTop (mkF m 14 #[.val (.long q0), .second, .val (.long q1), .second, .val .null] [.null])) _
        refine XS.ifnonnullNo X0.here hx rfl (hb hby d1_14) rfl ?_
        show Steps p.tables e below (s₁.setTop (mkF m 17 #[.val (.long q0), .second, .val (.long q1), .second, .val .null] [])) _
        refine XS.iconst X0.here hx rfl (hb hby d1_17) ?_
        show Steps p.tables e below (s₁.setTop (mkF m 18 #[.val (.long q0), .second, .val (.long q1), .second, .val .null] [(.int (1 : Int32))])) _
        refine XS.goto X0.here hx rfl (pc0 := 18) (pc' := 22) rfl (hb hby d1_18) (by decide) (by decide) ?_
        exact kt)
      have hv : f_nn q0 q1 = (1 : Int32) := by
        unfold f_nn
        rw [if_pos hc3_2, if_pos hc9_4]
      obtain ⟨fs, hr, hrun, hended, hW, hsame⟩ := X0.leave (v := some (.int (f_nn q0 q1))) (fun h => by rw [Bd.returns] at h; cases h)
      refine ⟨_, _, pre5 _ ?_, hrun, hended, _, _, rfl, ?_, ⟨_, rfl⟩, hW, hsame.mono (by decide) (by decide)⟩
      · rw [hv] at hr
        show Steps p.tables e below (s₁.setTop (mkF m 22 #[.val (.long q0), .second, .val (.long q1), .second, .val .null] [(.int (1 : Int32))])) _
        exact retN X0 hx (t := .boolean) Bd.returns (by simp) (hb hby d1_22) hr
      · show Q1n Z q0 q1 h0 n0 _ s₁.heap _
        rw [e0]
        exact ⟨rfl, N0, rfl⟩
    · have pre6 : ∀ t, Steps p.tables e below (s₁.setTop (mkF m 22 #[.val (.long q0), .second, .val (.long q1), .second, .val .null] [(.int (0 : Int32))])) t → Steps p.tables e below (s₁.setTop (entryFrame m #[(.long q0), (.long q1), .null] 5)) t := fun t kt => pre3 t (by
        show Steps p.tables e below (s₁.setTop (mkF m 9 #[.val (.long q0), .second, .val (.long q1), .second, .val .null] [(.int (lcmpW q1 (0 : Int64)))])) _
        refine XS.ifYes X0.here hx rfl (pc0 := 9) (pc' := 21) rfl (hb hby d1_9) rfl (Jvm.Free.XT.ll_ne_t hc9_4) (by decide) (by decide) ?_
        show Steps p.tables e below (s₁.setTop (mkF m 21 #[.val (.long q0), .second, .val (.long q1), .second, .val .null] [])) _
        refine XS.iconst X0.here hx rfl (hb hby d1_21) ?_
        exact kt)
      have hv : f_nn q0 q1 = (0 : Int32) := by
        unfold f_nn
        rw [if_pos hc3_2, if_neg hc9_4]
      obtain ⟨fs, hr, hrun, hended, hW, hsame⟩ := X0.leave (v := some (.int (f_nn q0 q1))) (fun h => by rw [Bd.returns] at h; cases h)
      refine ⟨_, _, pre6 _ ?_, hrun, hended, _, _, rfl, ?_, ⟨_, rfl⟩, hW, hsame.mono (by decide) (by decide)⟩
      · rw [hv] at hr
        show Steps p.tables e below (s₁.setTop (mkF m 22 #[.val (.long q0), .second, .val (.long q1), .second, .val .null] [(.int (0 : Int32))])) _
        exact retN X0 hx (t := .boolean) Bd.returns (by simp) (hb hby d1_22) hr
      · show Q1n Z q0 q1 h0 n0 _ s₁.heap _
        rw [e0]
        exact ⟨rfl, N0, rfl⟩
  · have pre7 : ∀ t, Steps p.tables e below (s₁.setTop (mkF m 22 #[.val (.long q0), .second, .val (.long q1), .second, .val .null] [(.int (0 : Int32))])) t → Steps p.tables e below (s₁.setTop (entryFrame m #[(.long q0), (.long q1), .null] 5)) t := fun t kt => pre1 t (by
      show Steps p.tables e below (s₁.setTop (mkF m 3 #[.val (.long q0), .second, .val (.long q1), .second, .val .null] [(.int (lcmpW q0 (0 : Int64)))])) _
      refine XS.ifYes X0.here hx rfl (pc0 := 3) (pc' := 21) rfl (hb hby d1_3) rfl (Jvm.Free.XT.ll_ne_t hc3_2) (by decide) (by decide) ?_
      show Steps p.tables e below (s₁.setTop (mkF m 21 #[.val (.long q0), .second, .val (.long q1), .second, .val .null] [])) _
      refine XS.iconst X0.here hx rfl (hb hby d1_21) ?_
      exact kt)
    have hv : f_nn q0 q1 = (0 : Int32) := by
      unfold f_nn
      rw [if_neg hc3_2]
    obtain ⟨fs, hr, hrun, hended, hW, hsame⟩ := X0.leave (v := some (.int (f_nn q0 q1))) (fun h => by rw [Bd.returns] at h; cases h)
    refine ⟨_, _, pre7 _ ?_, hrun, hended, _, _, rfl, ?_, ⟨_, rfl⟩, hW, hsame.mono (by decide) (by decide)⟩
    · rw [hv] at hr
      show Steps p.tables e below (s₁.setTop (mkF m 22 #[.val (.long q0), .second, .val (.long q1), .second, .val .null] [(.int (0 : Int32))])) _
      exact retN X0 hx (t := .boolean) Bd.returns (by simp) (hb hby d1_22) hr
    · show Q1n Z q0 q1 h0 n0 _ s₁.heap _
      rw [e0]
      exact ⟨rfl, N0, rfl⟩
theorem ef1a (m : MethodId) (x0 : Int64) (x1 : Int64) (x2 : Addr) : entryFrame m #[(.long x0), (.long x1), (.ref x2)] 5 = mkF m 0 #[.val (.long x0), .second, .val (.long x1), .second, .val (.ref x2)] [] := by first | (simp [entryFrame, mkF, argsToLocals, Value.category]; done) | rfl
def f_na (q0 : Int64) (q1 : Int64) : Int32 :=
  if q0 = (0 : Int64) then
    if q1 = (0 : Int64) then
      (0 : Int32)
    else
      (0 : Int32)
  else
    (0 : Int32)
def Q1a (Z : State) (q0 : Int64) (q1 : Int64) (a2 : Addr) (h0 : Heap) (n0 : Nat) (v : Option Value) (h : Heap) (L : List Loc) : Prop := v = some (.int (f_na q0 q1)) ∧ Fr n0 L ∧ h = h0
set_option maxRecDepth 65536 in
set_option maxHeartbeats 40000000 in
theorem rm1a (l : Launch) (Z : State) (av : Array Value) (hw : ∀ d ∈ tables_1, d.before av Z = true) (ws : List Jvm.Cond) (q0 : Int64) (q1 : Int64) (a2 : Addr) (h0 : Heap) (n0 : Nat) (Z0 : n0 ≤ h0.size) :
    MetFree l (⟨"com/example/baton/baton/support/Skipped", "none", "(JJ[Z)Z"⟩ : MethodName) (head1 (Jvm.Cond.code (⟨"com/example/baton/baton/support/Skipped", "none", "(JJ[Z)Z"⟩ : MethodName) prog_26_method_4_code 5 (some .boolean) :: ws) ({ frames := 0, cells := 0, slots := 0, locals := 0 } : Room)) (fun a U => a = #[(.long q0), (.long q1), (.ref a2)] ∧ Z.Warmed39 U.vm ∧ U.heap = h0) (fun _ _ _ _ _ => True) (fun _ U o U' => ∃ v L, o = .returned v ∧ Q1a Z q0 q1 a2 h0 n0 v U'.heap L ∧ FrameEnd U o U' L ({ frames := 0, cells := 0, slots := 0, locals := 0 } : Room).cells ({ frames := 0, cells := 0, slots := 0, locals := 0 } : Room).slots) := by
  refine MetFree.of_bodySF (plainFor_of_name pn_com_example_baton_baton_support_Skipped) hisR ?_
  intro p e s m args below meth c s₁ Bd hml0 hP hK
  obtain ⟨rfl, hZ, hh⟩ := hP
  have hx := Bd.exec
  have hby := Bd.bytes
  have hml : c.maxLocals = 5 := hml0
  have hown : s.vm.findClass "com/example/baton/baton/support/Skipped" = some m.cls := findClass_of_methodNamed Bd.named
  have hnm := (name_of_methodNamed Bd.named Bd.method).1
  have X0 : Stand p l e ({ frames := 0, cells := 0, slots := 0, locals := 0 } : Room) s m #[(.long q0), (.long q1), (.ref a2)] below meth c s₁ [] 0 0 := Stand.of_body Bd
  have e0 : s₁.heap = h0 := by rw [← hh, Bd.state]; rfl
  have N0 := Fr.nil n0
  have K0 : Keep h0 h0 [] := Keep.refl h0 []
  have pre0 : ∀ t, Steps p.tables e below (s₁.setTop (mkF m 0 #[.val (.long q0), .second, .val (.long q1), .second, .val (.ref a2)] [])) t → Steps p.tables e below (s₁.setTop (entryFrame m #[(.long q0), (.long q1), (.ref a2)] 5)) t := fun t k => castTop (ef1a m q0 q1 a2) k
  have pre1 : ∀ t, Steps p.tables e below (s₁.setTop (mkF m 3 #[.val (.long q0), .second, .val (.long q1), .second, .val (.ref a2)] [(.int (lcmpW q0 (0 : Int64)))])) t → Steps p.tables e below (s₁.setTop (entryFrame m #[(.long q0), (.long q1), (.ref a2)] 5)) t := fun t kt => pre0 t (by
    show Steps p.tables e below (s₁.setTop (mkF m 0 #[.val (.long q0), .second, .val (.long q1), .second, .val (.ref a2)] [])) _
    refine XS.lloadN X0.here hx rfl (hb hby d1_0) rfl ?_
    show Steps p.tables e below (s₁.setTop (mkF m 1 #[.val (.long q0), .second, .val (.long q1), .second, .val (.ref a2)] [(.long q0)])) _
    refine XS.lconst X0.here hx rfl (hb hby d1_1) ?_
    show Steps p.tables e below (s₁.setTop (mkF m 2 #[.val (.long q0), .second, .val (.long q1), .second, .val (.ref a2)] [(.long (0 : Int64)), (.long q0)])) _
    refine XS.lcmp X0.here hx rfl (hb hby d1_2) rfl ?_
    exact kt)
  by_cases hc3_2 : q0 = (0 : Int64)
  · have pre3 : ∀ t, Steps p.tables e below (s₁.setTop (mkF m 9 #[.val (.long q0), .second, .val (.long q1), .second, .val (.ref a2)] [(.int (lcmpW q1 (0 : Int64)))])) t → Steps p.tables e below (s₁.setTop (entryFrame m #[(.long q0), (.long q1), (.ref a2)] 5)) t := fun t kt => pre1 t (by
      show Steps p.tables e below (s₁.setTop (mkF m 3 #[.val (.long q0), .second, .val (.long q1), .second, .val (.ref a2)] [(.int (lcmpW q0 (0 : Int64)))])) _
      refine XS.ifNo X0.here hx rfl (hb hby d1_3) rfl (Jvm.Free.XT.ll_ne_f hc3_2) ?_
      show Steps p.tables e below (s₁.setTop (mkF m 6 #[.val (.long q0), .second, .val (.long q1), .second, .val (.ref a2)] [])) _
      refine XS.lloadN X0.here hx rfl (hb hby d1_6) rfl ?_
      show Steps p.tables e below (s₁.setTop (mkF m 7 #[.val (.long q0), .second, .val (.long q1), .second, .val (.ref a2)] [(.long q1)])) _
      refine XS.lconst X0.here hx rfl (hb hby d1_7) ?_
      show Steps p.tables e below (s₁.setTop (mkF m 8 #[.val (.long q0), .second, .val (.long q1), .second, .val (.ref a2)] [(.long (0 : Int64)), (.long q1)])) _
      refine XS.lcmp X0.here hx rfl (hb hby d1_8) rfl ?_
      exact kt)
    by_cases hc9_4 : q1 = (0 : Int64)
    · have pre5 : ∀ t, Steps p.tables e below (s₁.setTop (mkF m 22 #[.val (.long q0), .second, .val (.long q1), .second, .val (.ref a2)] [(.int (0 : Int32))])) t → Steps p.tables e below (s₁.setTop (entryFrame m #[(.long q0), (.long q1), (.ref a2)] 5)) t := fun t kt => pre3 t (by
        show Steps p.tables e below (s₁.setTop (mkF m 9 #[.val (.long q0), .second, .val (.long q1), .second, .val (.ref a2)] [(.int (lcmpW q1 (0 : Int64)))])) _
        refine XS.ifNo X0.here hx rfl (hb hby d1_9) rfl (Jvm.Free.XT.ll_ne_f hc9_4) ?_
        show Steps p.tables e below (s₁.setTop (mkF m 12 #[.val (.long q0), .second, .val (.long q1), .second, .val (.ref a2)] [])) _
        refine XS.aload X0.here hx rfl (hb hby d1_12) rfl rfl ?_
        show Steps p.tables e below (s₁.setTop (mkF m 14 #[.val (.long q0), .second, .val (.long q1), .second, .val (.ref a2)] [(.ref a2)])) _
        refine XS.ifnonnullYes X0.here hx rfl (pc0 := 14) (pc' := 21) rfl (hb hby d1_14) rfl (by decide) (by decide) ?_
        show Steps p.tables e below (s₁.setTop (mkF m 21 #[.val (.long q0), .second, .val (.long q1), .second, .val (.ref a2)] [])) _
        refine XS.iconst X0.here hx rfl (hb hby d1_21) ?_
        exact kt)
      have hv : f_na q0 q1 = (0 : Int32) := by
        unfold f_na
        rw [if_pos hc3_2, if_pos hc9_4]
      obtain ⟨fs, hr, hrun, hended, hW, hsame⟩ := X0.leave (v := some (.int (f_na q0 q1))) (fun h => by rw [Bd.returns] at h; cases h)
      refine ⟨_, _, pre5 _ ?_, hrun, hended, _, _, rfl, ?_, ⟨_, rfl⟩, hW, hsame.mono (by decide) (by decide)⟩
      · rw [hv] at hr
        show Steps p.tables e below (s₁.setTop (mkF m 22 #[.val (.long q0), .second, .val (.long q1), .second, .val (.ref a2)] [(.int (0 : Int32))])) _
        exact retN X0 hx (t := .boolean) Bd.returns (by simp) (hb hby d1_22) hr
      · show Q1a Z q0 q1 a2 h0 n0 _ s₁.heap _
        rw [e0]
        exact ⟨rfl, N0, rfl⟩
    · have pre6 : ∀ t, Steps p.tables e below (s₁.setTop (mkF m 22 #[.val (.long q0), .second, .val (.long q1), .second, .val (.ref a2)] [(.int (0 : Int32))])) t → Steps p.tables e below (s₁.setTop (entryFrame m #[(.long q0), (.long q1), (.ref a2)] 5)) t := fun t kt => pre3 t (by
        show Steps p.tables e below (s₁.setTop (mkF m 9 #[.val (.long q0), .second, .val (.long q1), .second, .val (.ref a2)] [(.int (lcmpW q1 (0 : Int64)))])) _
        refine XS.ifYes X0.here hx rfl (pc0 := 9) (pc' := 21) rfl (hb hby d1_9) rfl (Jvm.Free.XT.ll_ne_t hc9_4) (by decide) (by decide) ?_
        show Steps p.tables e below (s₁.setTop (mkF m 21 #[.val (.long q0), .second, .val (.long q1), .second, .val (.ref a2)] [])) _
        refine XS.iconst X0.here hx rfl (hb hby d1_21) ?_
        exact kt)
      have hv : f_na q0 q1 = (0 : Int32) := by
        unfold f_na
        rw [if_pos hc3_2, if_neg hc9_4]
      obtain ⟨fs, hr, hrun, hended, hW, hsame⟩ := X0.leave (v := some (.int (f_na q0 q1))) (fun h => by rw [Bd.returns] at h; cases h)
      refine ⟨_, _, pre6 _ ?_, hrun, hended, _, _, rfl, ?_, ⟨_, rfl⟩, hW, hsame.mono (by decide) (by decide)⟩
      · rw [hv] at hr
        show Steps p.tables e below (s₁.setTop (mkF m 22 #[.val (.long q0), .second, .val (.long q1), .second, .val (.ref a2)] [(.int (0 : Int32))])) _
        exact retN X0 hx (t := .boolean) Bd.returns (by simp) (hb hby d1_22) hr
      · show Q1a Z q0 q1 a2 h0 n0 _ s₁.heap _
        rw [e0]
        exact ⟨rfl, N0, rfl⟩
  · have pre7 : ∀ t, Steps p.tables e below (s₁.setTop (mkF m 22 #[.val (.long q0), .second, .val (.long q1), .second, .val (.ref a2)] [(.int (0 : Int32))])) t → Steps p.tables e below (s₁.setTop (entryFrame m #[(.long q0), (.long q1), (.ref a2)] 5)) t := fun t kt => pre1 t (by
      show Steps p.tables e below (s₁.setTop (mkF m 3 #[.val (.long q0), .second, .val (.long q1), .second, .val (.ref a2)] [(.int (lcmpW q0 (0 : Int64)))])) _
      refine XS.ifYes X0.here hx rfl (pc0 := 3) (pc' := 21) rfl (hb hby d1_3) rfl (Jvm.Free.XT.ll_ne_t hc3_2) (by decide) (by decide) ?_
      show Steps p.tables e below (s₁.setTop (mkF m 21 #[.val (.long q0), .second, .val (.long q1), .second, .val (.ref a2)] [])) _
      refine XS.iconst X0.here hx rfl (hb hby d1_21) ?_
      exact kt)
    have hv : f_na q0 q1 = (0 : Int32) := by
      unfold f_na
      rw [if_neg hc3_2]
    obtain ⟨fs, hr, hrun, hended, hW, hsame⟩ := X0.leave (v := some (.int (f_na q0 q1))) (fun h => by rw [Bd.returns] at h; cases h)
    refine ⟨_, _, pre7 _ ?_, hrun, hended, _, _, rfl, ?_, ⟨_, rfl⟩, hW, hsame.mono (by decide) (by decide)⟩
    · rw [hv] at hr
      show Steps p.tables e below (s₁.setTop (mkF m 22 #[.val (.long q0), .second, .val (.long q1), .second, .val (.ref a2)] [(.int (0 : Int32))])) _
      exact retN X0 hx (t := .boolean) Bd.returns (by simp) (hb hby d1_22) hr
    · show Q1a Z q0 q1 a2 h0 n0 _ s₁.heap _
      rw [e0]
      exact ⟨rfl, N0, rfl⟩
theorem d2_0 : decode prog_26_method_2_code 0 = .ok (.aload_n 0, 1) := by decide +kernel
theorem d2_1 : decode prog_26_method_2_code 1 = .ok (.astore_n 3, 1) := by decide +kernel
theorem d2_2 : decode prog_26_method_2_code 2 = .ok (.aload_n 3, 1) := by decide +kernel
theorem d2_3 : decode prog_26_method_2_code 3 = .ok (.ifnonnull 7, 3) := by decide +kernel
theorem d2_6 : decode prog_26_method_2_code 6 = .ok (.iload_n 2, 1) := by decide +kernel
theorem d2_7 : decode prog_26_method_2_code 7 = .ok (.newarray .boolean, 2) := by decide +kernel
theorem d2_9 : decode prog_26_method_2_code 9 = .ok (.astore_n 3, 1) := by decide +kernel
theorem d2_10 : decode prog_26_method_2_code 10 = .ok (.aload_n 3, 1) := by decide +kernel
theorem d2_11 : decode prog_26_method_2_code 11 = .ok (.iload_n 1, 1) := by decide +kernel
theorem d2_12 : decode prog_26_method_2_code 12 = .ok (.iconst 1, 1) := by decide +kernel
theorem d2_13 : decode prog_26_method_2_code 13 = .ok (.bastore, 1) := by decide +kernel
theorem d2_14 : decode prog_26_method_2_code 14 = .ok (.aload_n 3, 1) := by decide +kernel
theorem d2_15 : decode prog_26_method_2_code 15 = .ok (.areturn, 1) := by decide +kernel
theorem ef2n (m : MethodId) (x1 : Int32) (x2 : Int32) : entryFrame m #[.null, (.int x1), (.int x2)] 4 = mkF m 0 #[.val .null, .val (.int x1), .val (.int x2), .unset] [] := by first | (simp [entryFrame, mkF, argsToLocals, Value.category]; done) | rfl
def Q2n (Z : State) (p1 : Int32) (p2 : Int32) (h0 : Heap) (n0 : Nat) (v : Option Value) (h : Heap) (L : List Loc) : Prop := v = some (.ref (h0.size)) ∧ Fr n0 L ∧ Keep h0 h [] ∧ ∃ k, Arh Z h h0.size k .boolean p2 [(p1, (.int (1 : Int32)))] [] (.int (0 : Int32))
set_option maxRecDepth 65536 in
set_option maxHeartbeats 40000000 in
theorem rm2n (l : Launch) (Z : State) (av : Array Value) (hw : ∀ d ∈ tables_1, d.before av Z = true) (ws : List Jvm.Cond) (p1 : Int32) (p2 : Int32) (h0 : Heap) (n0 : Nat) (Z0 : n0 ≤ h0.size) (hpi : ¬ p1 < 0 ∧ p1 < p2) (hn0 : ¬ p2 < 0) (hcap : p2.toNatClampNeg ≤ 192) :
    MetFree l (⟨"com/example/baton/baton/support/Skipped", "marked", "([ZII)[Z"⟩ : MethodName) (head1 (Jvm.Cond.code (⟨"com/example/baton/baton/support/Skipped", "marked", "([ZII)[Z"⟩ : MethodName) prog_26_method_2_code 4 (some (.array .boolean)) :: ws) ({ frames := 0, cells := 1, slots := 192, locals := 0 } : Room)) (fun a U => a = #[.null, (.int p1), (.int p2)] ∧ Z.Warmed39 U.vm ∧ U.heap = h0) (fun _ _ _ _ _ => True) (fun _ U o U' => ∃ v L, o = .returned v ∧ Q2n Z p1 p2 h0 n0 v U'.heap L ∧ FrameEnd U o U' L ({ frames := 0, cells := 1, slots := 192, locals := 0 } : Room).cells ({ frames := 0, cells := 1, slots := 192, locals := 0 } : Room).slots) := by
  refine MetFree.of_bodySF (plainFor_of_name pn_com_example_baton_baton_support_Skipped) hisR ?_
  intro p e s m args below meth c s₁ Bd hml0 hP hK
  obtain ⟨rfl, hZ, hh⟩ := hP
  have hx := Bd.exec
  have hby := Bd.bytes
  have hml : c.maxLocals = 4 := hml0
  have hown : s.vm.findClass "com/example/baton/baton/support/Skipped" = some m.cls := findClass_of_methodNamed Bd.named
  have hnm := (name_of_methodNamed Bd.named Bd.method).1
  have X0 : Stand p l e ({ frames := 0, cells := 1, slots := 192, locals := 0 } : Room) s m #[.null, (.int p1), (.int p2)] below meth c s₁ [] 0 0 := Stand.of_body Bd
  have e0 : s₁.heap = h0 := by rw [← hh, Bd.state]; rfl
  have N0 := Fr.nil n0
  have K0 : Keep h0 h0 [] := Keep.refl h0 []
  have pre0 : ∀ t, Steps p.tables e below (s₁.setTop (mkF m 0 #[.val .null, .val (.int p1), .val (.int p2), .unset] [])) t → Steps p.tables e below (s₁.setTop (entryFrame m #[.null, (.int p1), (.int p2)] 4)) t := fun t k => castTop (ef2n m p1 p2) k
  have pre1 : ∀ t, Steps p.tables e below (s₁.setTop (mkF m 7 #[.val .null, .val (.int p1), .val (.int p2), .val .null] [(.int p2)])) t → Steps p.tables e below (s₁.setTop (entryFrame m #[.null, (.int p1), (.int p2)] 4)) t := fun t kt => pre0 t (by
    show Steps p.tables e below (s₁.setTop (mkF m 0 #[.val .null, .val (.int p1), .val (.int p2), .unset] [])) _
    refine XS.aloadN X0.here hx rfl (hb hby d2_0) rfl rfl ?_
    show Steps p.tables e below (s₁.setTop (mkF m 1 #[.val .null, .val (.int p1), .val (.int p2), .unset] [.null])) _
    refine XS.astoreN X0.here hx rfl (hb hby d2_1) rfl rfl (l' := #[.val .null, .val (.int p1), .val (.int p2), .val .null]) rfl ?_
    show Steps p.tables e below (s₁.setTop (mkF m 2 #[.val .null, .val (.int p1), .val (.int p2), .val .null] [])) _
    refine XS.aloadN X0.here hx rfl (hb hby d2_2) rfl rfl ?_
    show Steps p.tables e below (s₁.setTop (mkF m 3 #[.val .null, .val (.int p1), .val (.int p2), .val .null] [.null])) _
    refine XS.ifnonnullNo X0.here hx rfl (hb hby d2_3) rfl ?_
    show Steps p.tables e below (s₁.setTop (mkF m 6 #[.val .null, .val (.int p1), .val (.int p2), .val .null] [])) _
    refine XS.iloadN X0.here hx rfl (hb hby d2_6) rfl ?_
    exact kt)
  obtain ⟨T2, h2, k2, X2, e2, E2, A2, st2⟩ := newP X0 hx hZ (hw _ (List.mem_of_getElem? (i := 8) rfl)) e0 (g := (mkF m 7 #[.val .null, .val (.int p1), .val (.int p2), .val .null] [(.int p2)])) rfl (hb hby d2_7) rfl hn0 (cap := 192) hcap (by decide) (by decide) (by decide)
  obtain ⟨b2, g2⟩ : ∃ z, z = h0.size := ⟨_, rfl⟩
  rw [← g2] at A2 st2
  have pre3 : ∀ t, Steps p.tables e below (T2.setTop (mkF m 9 #[.val .null, .val (.int p1), .val (.int p2), .val .null] [(.ref b2)])) t → Steps p.tables e below (s₁.setTop (entryFrame m #[.null, (.int p1), (.int p2)] 4)) t := fun t kt => pre1 t (st2 _ kt)
  have gn2 : n0 ≤ b2 := Nat.le_trans Z0 (Nat.le_of_eq g2.symm)
  have sz2 : h0.size ≤ b2 := Nat.le_trans K0.1 (Nat.le_of_eq g2.symm)
  have K2 : Keep h0 h2 [] := K0.ext E2
  have Z2 : n0 ≤ h2.size := Nat.le_trans Z0 E2.1
  have V2 : Arh Z h2 b2 k2 .boolean p2 [] [] (.int (0 : Int32)) := (Arv.new A2 hn0).arh
  have pre4 : ∀ t, Steps p.tables e below (T2.setTop (mkF m 13 #[.val .null, .val (.int p1), .val (.int p2), .val (.ref b2)] [(.int (1 : Int32)), (.int p1), (.ref b2)])) t → Steps p.tables e below (s₁.setTop (entryFrame m #[.null, (.int p1), (.int p2)] 4)) t := fun t kt => pre3 t (by
    show Steps p.tables e below (T2.setTop (mkF m 9 #[.val .null, .val (.int p1), .val (.int p2), .val .null] [(.ref b2)])) _
    refine XS.astoreN X2.here hx rfl (hb hby d2_9) rfl rfl (l' := #[.val .null, .val (.int p1), .val (.int p2), .val (.ref b2)]) rfl ?_
    show Steps p.tables e below (T2.setTop (mkF m 10 #[.val .null, .val (.int p1), .val (.int p2), .val (.ref b2)] [])) _
    refine XS.aloadN X2.here hx rfl (hb hby d2_10) rfl rfl ?_
    show Steps p.tables e below (T2.setTop (mkF m 11 #[.val .null, .val (.int p1), .val (.int p2), .val (.ref b2)] [(.ref b2)])) _
    refine XS.iloadN X2.here hx rfl (hb hby d2_11) rfl ?_
    show Steps p.tables e below (T2.setTop (mkF m 12 #[.val .null, .val (.int p1), .val (.int p2), .val (.ref b2)] [(.int p1), (.ref b2)])) _
    refine XS.iconst X2.here hx rfl (hb hby d2_12) ?_
    exact kt)
  have tv5 := V2
  obtain ⟨cl5, Ar5, q5, S5, Ng5, H5, G5⟩ := tv5
  have hin5 : ¬ (p1 < 0 ∨ cl5.slots.size ≤ (p1).toNatClampNeg) := inb_of S5 hpi
  obtain ⟨T6, h6, X6, e6, W6, st6⟩ := stZ X2 hx hZ e2 Ar5 (j := p1) hin5 (g := (mkF m 13 #[.val .null, .val (.int p1), .val (.int p2), .val (.ref b2)] [(.int (1 : Int32)), (.int p1), (.ref b2)])) rfl rfl (hb hby d2_13)
  have pre7 : ∀ t, Steps p.tables e below (T6.setTop (mkF m 14 #[.val .null, .val (.int p1), .val (.int p2), .val (.ref b2)] [])) t → Steps p.tables e below (s₁.setTop (entryFrame m #[.null, (.int p1), (.int p2)] 4)) t := fun t kt => pre4 t (st6 _ kt)
  have V6 : Arh Z h6 b2 k2 .boolean p2 [(p1, (.int (1 : Int32)))] [] (.int (0 : Int32)) := Arh.push Ar5 q5 S5 Ng5 H5 G5 (fits_nar_bool (1 : Int32)) W6 hin5
  have K6 : Keep h0 h6 [] := K2.wr W6 (Or.inr sz2)
  have N6 := Fr.snoc X6 N0 gn2
  have Z6 : n0 ≤ h6.size := Nat.le_trans Z2 (Keep.of_wr W6).1
  have pre8 : ∀ t, Steps p.tables e below (T6.setTop (mkF m 15 #[.val .null, .val (.int p1), .val (.int p2), .val (.ref b2)] [(.ref b2)])) t → Steps p.tables e below (s₁.setTop (entryFrame m #[.null, (.int p1), (.int p2)] 4)) t := fun t kt => pre7 t (by
    show Steps p.tables e below (T6.setTop (mkF m 14 #[.val .null, .val (.int p1), .val (.int p2), .val (.ref b2)] [])) _
    refine XS.aloadN X6.here hx rfl (hb hby d2_14) rfl rfl ?_
    exact kt)
  obtain ⟨fs, hr, hrun, hended, hW, hsame⟩ := X6.leave (v := some (.ref b2)) (fun h => by rw [Bd.returns] at h; cases h)
  refine ⟨_, _, pre8 _ ?_, hrun, hended, _, _, rfl, ?_, ⟨_, rfl⟩, hW, hsame.mono (by decide) (by decide)⟩
  · show Steps p.tables e below (T6.setTop (mkF m 15 #[.val .null, .val (.int p1), .val (.int p2), .val (.ref b2)] [(.ref b2)])) _
    jvm_step X6.here [X6.here.top, hx, (hb hby d2_15), X6.method', Bd.returns, Value.isRef, FieldType.isReference]
    first | (intro acts; rw [hr _ acts rfl rfl rfl]) | rw [hr _ _ rfl rfl rfl]
    exact Steps.refl _
  · show Q2n Z p1 p2 h0 n0 _ T6.heap _
    rw [e6]
    exact ⟨(congrArg (fun z => some (Value.ref z)) g2), N6, K6, by rw [← g2]; exact ⟨_, V6⟩⟩
theorem own_cn0 (p : Int32) : f_cn p (0 : Int64) (0 : Int64) = (0 : Int32) := by
  unfold f_cn
  rw [Int64.zero_and]
  repeat' split
  all_goals first | rfl | contradiction
theorem own_ca1 (p : Int32) (x y : Int64) (h : ¬ p < (128 : Int32)) : ¬ f_ca p x y (1 : Int32) = (0 : Int32) := by
  unfold f_ca
  have h64 : ¬ p < (64 : Int32) := by
    simp only [Int32.lt_iff_toInt_lt, Int32.reduceToInt] at *
    omega
  rw [if_neg h64, if_neg h]
  decide
theorem own_len (x : Int32) : 129 ≤ (((128 : Int32) + (x &&& (63 : Int32))) + (1 : Int32)).toInt ∧ (((128 : Int32) + (x &&& (63 : Int32))) + (1 : Int32)).toInt ≤ 192 := by
  have h := c_mask x (63 : Int32) 6 (by decide) (by decide)
  have e1 := c_iadd (128 : Int32) (x &&& (63 : Int32))
  have r1 := rng32 ((128 : Int32) + (x &&& (63 : Int32)))
  have e2 := c_iadd ((128 : Int32) + (x &&& (63 : Int32))) (1 : Int32)
  have r2 := rng32 (((128 : Int32) + (x &&& (63 : Int32))) + (1 : Int32))
  simp only [Int32.reduceToInt] at *
  omega
theorem own_sub (n : Int32) (h : 129 ≤ n.toInt ∧ n.toInt ≤ 192) : (n - (128 : Int32)).toInt = n.toInt - 128 := by
  have e1 := c_isub n (128 : Int32)
  have r1 := rng32 (n - (128 : Int32))
  simp only [Int32.reduceToInt] at *
  omega
theorem own_snz (n : Int32) (h : 129 ≤ n.toInt ∧ n.toInt ≤ 192) : (n - (128 : Int32)) ≠ 0 := by
  intro q
  have e := own_sub n h
  rw [q] at e
  simp only [Int32.reduceToInt] at e
  omega
theorem own_lnz (n : Int32) (h : 129 ≤ n.toInt ∧ n.toInt ≤ 192) : n ≠ 0 := by
  intro q
  rw [q] at h
  simp only [Int32.reduceToInt] at h
  omega
theorem own_pos (m n : Int32) (h : 129 ≤ n.toInt ∧ n.toInt ≤ 192) : 128 ≤ ((128 : Int32) + ((m &&& (2147483647 : Int32)) % (n - (128 : Int32)))).toInt ∧ ((128 : Int32) + ((m &&& (2147483647 : Int32)) % (n - (128 : Int32)))).toInt < n.toInt := by
  have hm := c_mask m (2147483647 : Int32) 31 (by decide) (by decide)
  have e := own_sub n h
  have hr := (c_iremV (m &&& (2147483647 : Int32)) (n - (128 : Int32))).1 (by omega) (by omega)
  have e3 := c_iadd (128 : Int32) ((m &&& (2147483647 : Int32)) % (n - (128 : Int32)))
  have r3 := rng32 ((128 : Int32) + ((m &&& (2147483647 : Int32)) % (n - (128 : Int32))))
  simp only [Int32.reduceToInt] at *
  omega
theorem own_pi (p n : Int32) (h : 128 ≤ p.toInt ∧ p.toInt < n.toInt) : ¬ p < 0 ∧ p < n := by
  simp only [Int32.lt_iff_toInt_lt, Int32.reduceToInt]
  omega
theorem own_p128 (p n : Int32) (h : 128 ≤ p.toInt ∧ p.toInt < n.toInt) : ¬ p < (128 : Int32) := by
  simp only [Int32.lt_iff_toInt_lt, Int32.reduceToInt]
  omega
theorem own_n0 (n : Int32) (h : 129 ≤ n.toInt ∧ n.toInt ≤ 192) : ¬ n < 0 := by
  simp only [Int32.lt_iff_toInt_lt, Int32.reduceToInt]
  omega
theorem own_ncap (n : Int32) (h : 129 ≤ n.toInt ∧ n.toInt ≤ 192) : n.toNatClampNeg ≤ 192 := by
  simp only [Int32.toNatClampNeg]
  omega
theorem own_irem (x y : Int32) : x - (x / y) * y = x % y := by
  rw [← Int32.toInt_inj, Int32.toInt_sub, Int32.toInt_mul, Int32.toInt_div, Int.bmod_mul_bmod, Int.sub_bmod_bmod, Int.mul_comm, ← Int.tmod_def, ← Int32.toInt_mod]
  exact Int32.toInt_bmod _
theorem pd__JJ_Z_Z : parseMethodDescriptor "(JJ[Z)Z" = some ⟨[.long, .long, (.array .boolean)], some .boolean⟩ := by decide +kernel
theorem pd__IJJ_Z_Z : parseMethodDescriptor "(IJJ[Z)Z" = some ⟨[.int, .long, .long, (.array .boolean)], some .boolean⟩ := by decide +kernel
theorem pd___ZII__Z : parseMethodDescriptor "([ZII)[Z" = some ⟨[(.array .boolean), .int, .int], some (.array .boolean)⟩ := by decide +kernel
theorem ef0 (m : MethodId) (x0 : Int64) (x1 : Int64) (x2 : Int32) (x3 : Int32) (x4 : Int32) (x5 : Int32) : entryFrame m #[(.long x0), (.long x1), (.int x2), (.int x3), (.int x4), (.int x5)] maxLocals = mkF m 0 #[.val (.long x0), .second, .val (.long x1), .second, .val (.int x2), .val (.int x3), .val (.int x4), .val (.int x5), .unset, .unset, .unset, .unset, .unset, .unset, .unset, .unset, .unset, .unset, .unset] [] := by first | (simp [entryFrame, mkF, argsToLocals, Value.category, maxLocals]; done) | rfl
def Q0 (Z : State) (q0 : Int64) (q1 : Int64) (p2 : Int32) (p3 : Int32) (p4 : Int32) (p5 : Int32) (h0 : Heap) (n0 : Nat) (v : Option Value) (h : Heap) (L : List Loc) : Prop := v = some (.int 1) ∧ Fr n0 L
set_option maxRecDepth 65536 in
set_option maxHeartbeats 40000000 in
theorem rm0 (l : Launch) (Z : State) (av : Array Value) (hw : ∀ d ∈ tables_1, d.before av Z = true) (ws : List Jvm.Cond) (q0 : Int64) (q1 : Int64) (p2 : Int32) (p3 : Int32) (p4 : Int32) (p5 : Int32) (h0 : Heap) (n0 : Nat) (Z0 : n0 ≤ h0.size) :
    MetFree l x (head1 (Jvm.Cond.code x code maxLocals ret :: ws) room_1) (fun a U => a = #[(.long q0), (.long q1), (.int p2), (.int p3), (.int p4), (.int p5)] ∧ Z.Warmed39 U.vm ∧ U.heap = h0) (fun _ _ _ _ _ => True) (fun _ U o U' => ∃ v L, o = .returned v ∧ Q0 Z q0 q1 p2 p3 p4 p5 h0 n0 v U'.heap L ∧ FrameEnd U o U' L room_1.cells room_1.slots) := by
  refine MetFree.of_bodySF (plainFor_of_name pn_com_example_baton_baton_support_SkippedNonePinLaw) hisR ?_
  intro p e s m args below meth c s₁ Bd hml0 hP hK
  obtain ⟨rfl, hZ, hh⟩ := hP
  have hx := Bd.exec
  have hby := Bd.bytes
  have hml : c.maxLocals = 19 := hml0
  have hown : s.vm.findClass "com/example/baton/baton/support/SkippedNonePinLaw" = some m.cls := findClass_of_methodNamed Bd.named
  have hnm := (name_of_methodNamed Bd.named Bd.method).1
  have X0 : Stand p l e room_1 s m #[(.long q0), (.long q1), (.int p2), (.int p3), (.int p4), (.int p5)] below meth c s₁ [] 0 0 := Stand.of_body Bd
  have e0 : s₁.heap = h0 := by rw [← hh, Bd.state]; rfl
  have N0 := Fr.nil n0
  have K0 : Keep h0 h0 [] := Keep.refl h0 []
  have pre0 : ∀ t, Steps p.tables e below (s₁.setTop (mkF m 0 #[.val (.long q0), .second, .val (.long q1), .second, .val (.int p2), .val (.int p3), .val (.int p4), .val (.int p5), .unset, .unset, .unset, .unset, .unset, .unset, .unset, .unset, .unset, .unset, .unset] [])) t → Steps p.tables e below (s₁.setTop (entryFrame m #[(.long q0), (.long q1), (.int p2), (.int p3), (.int p4), (.int p5)] maxLocals)) t := fun t k => castTop (ef0 m q0 q1 p2 p3 p4 p5) k
  have pre1 : ∀ t, Steps p.tables e below (s₁.setTop (mkF m 4 #[.val (.long q0), .second, .val (.long q1), .second, .val (.int p2), .val (.int p3), .val (.int p4), .val (.int p5), .unset, .unset, .unset, .unset, .unset, .unset, .unset, .unset, .unset, .unset, .unset] [(.int (p2 &&& (2 : Int32)))])) t → Steps p.tables e below (s₁.setTop (entryFrame m #[(.long q0), (.long q1), (.int p2), (.int p3), (.int p4), (.int p5)] maxLocals)) t := fun t kt => pre0 t (by
    show Steps p.tables e below (s₁.setTop (mkF m 0 #[.val (.long q0), .second, .val (.long q1), .second, .val (.int p2), .val (.int p3), .val (.int p4), .val (.int p5), .unset, .unset, .unset, .unset, .unset, .unset, .unset, .unset, .unset, .unset, .unset] [])) _
    refine XS.iload X0.here hx rfl (hb hby at_0) rfl ?_
    show Steps p.tables e below (s₁.setTop (mkF m 2 #[.val (.long q0), .second, .val (.long q1), .second, .val (.int p2), .val (.int p3), .val (.int p4), .val (.int p5), .unset, .unset, .unset, .unset, .unset, .unset, .unset, .unset, .unset, .unset, .unset] [(.int p2)])) _
    refine XS.iconst X0.here hx rfl (hb hby at_2) ?_
    show Steps p.tables e below (s₁.setTop (mkF m 3 #[.val (.long q0), .second, .val (.long q1), .second, .val (.int p2), .val (.int p3), .val (.int p4), .val (.int p5), .unset, .unset, .unset, .unset, .unset, .unset, .unset, .unset, .unset, .unset, .unset] [(.int (2 : Int32)), (.int p2)])) _
    refine XS.iand X0.here hx rfl (hb hby at_3) rfl ?_
    exact kt)
  obtain ⟨lo, hm2, pre2⟩ : ∃ (lo : Int64), (True) ∧ ∀ t, Steps p.tables e below (s₁.setTop (mkF m 12 #[.val (.long q0), .second, .val (.long q1), .second, .val (.int p2), .val (.int p3), .val (.int p4), .val (.int p5), .unset, .unset, .unset, .unset, .unset, .unset, .unset, .unset, .unset, .unset, .unset] [(.long lo)])) t → Steps p.tables e below (s₁.setTop (entryFrame m #[(.long q0), (.long q1), (.int p2), (.int p3), (.int p4), (.int p5)] maxLocals)) t := by
    by_cases hc4_3 : (p2 &&& (2 : Int32)) = (0 : Int32)
    · have pre4 : ∀ t, Steps p.tables e below (s₁.setTop (mkF m 12 #[.val (.long q0), .second, .val (.long q1), .second, .val (.int p2), .val (.int p3), .val (.int p4), .val (.int p5), .unset, .unset, .unset, .unset, .unset, .unset, .unset, .unset, .unset, .unset, .unset] [(.long q0)])) t → Steps p.tables e below (s₁.setTop (entryFrame m #[(.long q0), (.long q1), (.int p2), (.int p3), (.int p4), (.int p5)] maxLocals)) t := fun t kt => pre1 t (by
        show Steps p.tables e below (s₁.setTop (mkF m 4 #[.val (.long q0), .second, .val (.long q1), .second, .val (.int p2), .val (.int p3), .val (.int p4), .val (.int p5), .unset, .unset, .unset, .unset, .unset, .unset, .unset, .unset, .unset, .unset, .unset] [(.int (p2 &&& (2 : Int32)))])) _
        refine XS.ifYes X0.here hx rfl (pc0 := 4) (pc' := 11) rfl (hb hby at_4) rfl ((if0 _ _).trans (teq hc4_3).1) (by decide) (by decide) ?_
        show Steps p.tables e below (s₁.setTop (mkF m 11 #[.val (.long q0), .second, .val (.long q1), .second, .val (.int p2), .val (.int p3), .val (.int p4), .val (.int p5), .unset, .unset, .unset, .unset, .unset, .unset, .unset, .unset, .unset, .unset, .unset] [])) _
        refine XS.lloadN X0.here hx rfl (hb hby at_11) rfl ?_
        exact kt)
      exact ⟨q0, trivial, pre4⟩
    · have pre5 : ∀ t, Steps p.tables e below (s₁.setTop (mkF m 12 #[.val (.long q0), .second, .val (.long q1), .second, .val (.int p2), .val (.int p3), .val (.int p4), .val (.int p5), .unset, .unset, .unset, .unset, .unset, .unset, .unset, .unset, .unset, .unset, .unset] [(.long (0 : Int64))])) t → Steps p.tables e below (s₁.setTop (entryFrame m #[(.long q0), (.long q1), (.int p2), (.int p3), (.int p4), (.int p5)] maxLocals)) t := fun t kt => pre1 t (by
        show Steps p.tables e below (s₁.setTop (mkF m 4 #[.val (.long q0), .second, .val (.long q1), .second, .val (.int p2), .val (.int p3), .val (.int p4), .val (.int p5), .unset, .unset, .unset, .unset, .unset, .unset, .unset, .unset, .unset, .unset, .unset] [(.int (p2 &&& (2 : Int32)))])) _
        refine XS.ifNo X0.here hx rfl (hb hby at_4) rfl ((if0 _ _).trans (feq hc4_3).1) ?_
        show Steps p.tables e below (s₁.setTop (mkF m 7 #[.val (.long q0), .second, .val (.long q1), .second, .val (.int p2), .val (.int p3), .val (.int p4), .val (.int p5), .unset, .unset, .unset, .unset, .unset, .unset, .unset, .unset, .unset, .unset, .unset] [])) _
        refine XS.lconst X0.here hx rfl (hb hby at_7) ?_
        show Steps p.tables e below (s₁.setTop (mkF m 8 #[.val (.long q0), .second, .val (.long q1), .second, .val (.int p2), .val (.int p3), .val (.int p4), .val (.int p5), .unset, .unset, .unset, .unset, .unset, .unset, .unset, .unset, .unset, .unset, .unset] [(.long (0 : Int64))])) _
        refine XS.goto X0.here hx rfl (pc0 := 8) (pc' := 12) rfl (hb hby at_8) (by decide) (by decide) ?_
        exact kt)
      exact ⟨(0 : Int64), trivial, pre5⟩
  have pre6 : ∀ t, Steps p.tables e below (s₁.setTop (mkF m 18 #[.val (.long q0), .second, .val (.long q1), .second, .val (.int p2), .val (.int p3), .val (.int p4), .val (.int p5), .val (.long lo), .second, .unset, .unset, .unset, .unset, .unset, .unset, .unset, .unset, .unset] [(.int (p2 &&& (4 : Int32)))])) t → Steps p.tables e below (s₁.setTop (entryFrame m #[(.long q0), (.long q1), (.int p2), (.int p3), (.int p4), (.int p5)] maxLocals)) t := fun t kt => pre2 t (by
    show Steps p.tables e below (s₁.setTop (mkF m 12 #[.val (.long q0), .second, .val (.long q1), .second, .val (.int p2), .val (.int p3), .val (.int p4), .val (.int p5), .unset, .unset, .unset, .unset, .unset, .unset, .unset, .unset, .unset, .unset, .unset] [(.long lo)])) _
    refine XS.lstore X0.here hx rfl (hb hby at_12) rfl (l' := #[.val (.long q0), .second, .val (.long q1), .second, .val (.int p2), .val (.int p3), .val (.int p4), .val (.int p5), .val (.long lo), .second, .unset, .unset, .unset, .unset, .unset, .unset, .unset, .unset, .unset]) rfl ?_
    show Steps p.tables e below (s₁.setTop (mkF m 14 #[.val (.long q0), .second, .val (.long q1), .second, .val (.int p2), .val (.int p3), .val (.int p4), .val (.int p5), .val (.long lo), .second, .unset, .unset, .unset, .unset, .unset, .unset, .unset, .unset, .unset] [])) _
    refine XS.iload X0.here hx rfl (hb hby at_14) rfl ?_
    show Steps p.tables e below (s₁.setTop (mkF m 16 #[.val (.long q0), .second, .val (.long q1), .second, .val (.int p2), .val (.int p3), .val (.int p4), .val (.int p5), .val (.long lo), .second, .unset, .unset, .unset, .unset, .unset, .unset, .unset, .unset, .unset] [(.int p2)])) _
    refine XS.iconst X0.here hx rfl (hb hby at_16) ?_
    show Steps p.tables e below (s₁.setTop (mkF m 17 #[.val (.long q0), .second, .val (.long q1), .second, .val (.int p2), .val (.int p3), .val (.int p4), .val (.int p5), .val (.long lo), .second, .unset, .unset, .unset, .unset, .unset, .unset, .unset, .unset, .unset] [(.int (4 : Int32)), (.int p2)])) _
    refine XS.iand X0.here hx rfl (hb hby at_17) rfl ?_
    exact kt)
  obtain ⟨hi, hm7, pre7⟩ : ∃ (hi : Int64), (True) ∧ ∀ t, Steps p.tables e below (s₁.setTop (mkF m 26 #[.val (.long q0), .second, .val (.long q1), .second, .val (.int p2), .val (.int p3), .val (.int p4), .val (.int p5), .val (.long lo), .second, .unset, .unset, .unset, .unset, .unset, .unset, .unset, .unset, .unset] [(.long hi)])) t → Steps p.tables e below (s₁.setTop (entryFrame m #[(.long q0), (.long q1), (.int p2), (.int p3), (.int p4), (.int p5)] maxLocals)) t := by
    by_cases hc18_8 : (p2 &&& (4 : Int32)) = (0 : Int32)
    · have pre9 : ∀ t, Steps p.tables e below (s₁.setTop (mkF m 26 #[.val (.long q0), .second, .val (.long q1), .second, .val (.int p2), .val (.int p3), .val (.int p4), .val (.int p5), .val (.long lo), .second, .unset, .unset, .unset, .unset, .unset, .unset, .unset, .unset, .unset] [(.long q1)])) t → Steps p.tables e below (s₁.setTop (entryFrame m #[(.long q0), (.long q1), (.int p2), (.int p3), (.int p4), (.int p5)] maxLocals)) t := fun t kt => pre6 t (by
        show Steps p.tables e below (s₁.setTop (mkF m 18 #[.val (.long q0), .second, .val (.long q1), .second, .val (.int p2), .val (.int p3), .val (.int p4), .val (.int p5), .val (.long lo), .second, .unset, .unset, .unset, .unset, .unset, .unset, .unset, .unset, .unset] [(.int (p2 &&& (4 : Int32)))])) _
        refine XS.ifYes X0.here hx rfl (pc0 := 18) (pc' := 25) rfl (hb hby at_18) rfl ((if0 _ _).trans (teq hc18_8).1) (by decide) (by decide) ?_
        show Steps p.tables e below (s₁.setTop (mkF m 25 #[.val (.long q0), .second, .val (.long q1), .second, .val (.int p2), .val (.int p3), .val (.int p4), .val (.int p5), .val (.long lo), .second, .unset, .unset, .unset, .unset, .unset, .unset, .unset, .unset, .unset] [])) _
        refine XS.lloadN X0.here hx rfl (hb hby at_25) rfl ?_
        exact kt)
      exact ⟨q1, trivial, pre9⟩
    · have pre10 : ∀ t, Steps p.tables e below (s₁.setTop (mkF m 26 #[.val (.long q0), .second, .val (.long q1), .second, .val (.int p2), .val (.int p3), .val (.int p4), .val (.int p5), .val (.long lo), .second, .unset, .unset, .unset, .unset, .unset, .unset, .unset, .unset, .unset] [(.long (0 : Int64))])) t → Steps p.tables e below (s₁.setTop (entryFrame m #[(.long q0), (.long q1), (.int p2), (.int p3), (.int p4), (.int p5)] maxLocals)) t := fun t kt => pre6 t (by
        show Steps p.tables e below (s₁.setTop (mkF m 18 #[.val (.long q0), .second, .val (.long q1), .second, .val (.int p2), .val (.int p3), .val (.int p4), .val (.int p5), .val (.long lo), .second, .unset, .unset, .unset, .unset, .unset, .unset, .unset, .unset, .unset] [(.int (p2 &&& (4 : Int32)))])) _
        refine XS.ifNo X0.here hx rfl (hb hby at_18) rfl ((if0 _ _).trans (feq hc18_8).1) ?_
        show Steps p.tables e below (s₁.setTop (mkF m 21 #[.val (.long q0), .second, .val (.long q1), .second, .val (.int p2), .val (.int p3), .val (.int p4), .val (.int p5), .val (.long lo), .second, .unset, .unset, .unset, .unset, .unset, .unset, .unset, .unset, .unset] [])) _
        refine XS.lconst X0.here hx rfl (hb hby at_21) ?_
        show Steps p.tables e below (s₁.setTop (mkF m 22 #[.val (.long q0), .second, .val (.long q1), .second, .val (.int p2), .val (.int p3), .val (.int p4), .val (.int p5), .val (.long lo), .second, .unset, .unset, .unset, .unset, .unset, .unset, .unset, .unset, .unset] [(.long (0 : Int64))])) _
        refine XS.goto X0.here hx rfl (pc0 := 22) (pc' := 26) rfl (hb hby at_22) (by decide) (by decide) ?_
        exact kt)
      exact ⟨(0 : Int64), trivial, pre10⟩
  have pre11 : ∀ t, Steps p.tables e below (s₁.setTop (mkF m 32 #[.val (.long q0), .second, .val (.long q1), .second, .val (.int p2), .val (.int p3), .val (.int p4), .val (.int p5), .val (.long lo), .second, .val (.long hi), .second, .unset, .unset, .unset, .unset, .unset, .unset, .unset] [(.int (p2 &&& (1 : Int32)))])) t → Steps p.tables e below (s₁.setTop (entryFrame m #[(.long q0), (.long q1), (.int p2), (.int p3), (.int p4), (.int p5)] maxLocals)) t := fun t kt => pre7 t (by
    show Steps p.tables e below (s₁.setTop (mkF m 26 #[.val (.long q0), .second, .val (.long q1), .second, .val (.int p2), .val (.int p3), .val (.int p4), .val (.int p5), .val (.long lo), .second, .unset, .unset, .unset, .unset, .unset, .unset, .unset, .unset, .unset] [(.long hi)])) _
    refine XS.lstore X0.here hx rfl (hb hby at_26) rfl (l' := #[.val (.long q0), .second, .val (.long q1), .second, .val (.int p2), .val (.int p3), .val (.int p4), .val (.int p5), .val (.long lo), .second, .val (.long hi), .second, .unset, .unset, .unset, .unset, .unset, .unset, .unset]) rfl ?_
    show Steps p.tables e below (s₁.setTop (mkF m 28 #[.val (.long q0), .second, .val (.long q1), .second, .val (.int p2), .val (.int p3), .val (.int p4), .val (.int p5), .val (.long lo), .second, .val (.long hi), .second, .unset, .unset, .unset, .unset, .unset, .unset, .unset] [])) _
    refine XS.iload X0.here hx rfl (hb hby at_28) rfl ?_
    show Steps p.tables e below (s₁.setTop (mkF m 30 #[.val (.long q0), .second, .val (.long q1), .second, .val (.int p2), .val (.int p3), .val (.int p4), .val (.int p5), .val (.long lo), .second, .val (.long hi), .second, .unset, .unset, .unset, .unset, .unset, .unset, .unset] [(.int p2)])) _
    refine XS.iconst X0.here hx rfl (hb hby at_30) ?_
    show Steps p.tables e below (s₁.setTop (mkF m 31 #[.val (.long q0), .second, .val (.long q1), .second, .val (.int p2), .val (.int p3), .val (.int p4), .val (.int p5), .val (.long lo), .second, .val (.long hi), .second, .unset, .unset, .unset, .unset, .unset, .unset, .unset] [(.int (1 : Int32)), (.int p2)])) _
    refine XS.iand X0.here hx rfl (hb hby at_31) rfl ?_
    exact kt)
  by_cases hc32_12 : (p2 &&& (1 : Int32)) = (0 : Int32)
  · have pre13 : ∀ t, Steps p.tables e below (s₁.setTop (mkF m 55 #[.val (.long q0), .second, .val (.long q1), .second, .val (.int p2), .val (.int p3), .val (.int p4), .val (.int p5), .val (.long lo), .second, .val (.long hi), .second, .val (.int (0 : Int32)), .val (.int (((128 : Int32) + (p3 &&& (63 : Int32))) + (1 : Int32))), .unset, .unset, .unset, .unset, .unset] [])) t → Steps p.tables e below (s₁.setTop (entryFrame m #[(.long q0), (.long q1), (.int p2), (.int p3), (.int p4), (.int p5)] maxLocals)) t := fun t kt => pre11 t (by
      show Steps p.tables e below (s₁.setTop (mkF m 32 #[.val (.long q0), .second, .val (.long q1), .second, .val (.int p2), .val (.int p3), .val (.int p4), .val (.int p5), .val (.long lo), .second, .val (.long hi), .second, .unset, .unset, .unset, .unset, .unset, .unset, .unset] [(.int (p2 &&& (1 : Int32)))])) _
      refine XS.ifYes X0.here hx rfl (pc0 := 32) (pc' := 39) rfl (hb hby at_32) rfl ((if0 _ _).trans (teq hc32_12).1) (by decide) (by decide) ?_
      show Steps p.tables e below (s₁.setTop (mkF m 39 #[.val (.long q0), .second, .val (.long q1), .second, .val (.int p2), .val (.int p3), .val (.int p4), .val (.int p5), .val (.long lo), .second, .val (.long hi), .second, .unset, .unset, .unset, .unset, .unset, .unset, .unset] [])) _
      refine XS.iconst X0.here hx rfl (hb hby at_39) ?_
      show Steps p.tables e below (s₁.setTop (mkF m 40 #[.val (.long q0), .second, .val (.long q1), .second, .val (.int p2), .val (.int p3), .val (.int p4), .val (.int p5), .val (.long lo), .second, .val (.long hi), .second, .unset, .unset, .unset, .unset, .unset, .unset, .unset] [(.int (0 : Int32))])) _
      refine XS.istore X0.here hx rfl (hb hby at_40) rfl (l' := #[.val (.long q0), .second, .val (.long q1), .second, .val (.int p2), .val (.int p3), .val (.int p4), .val (.int p5), .val (.long lo), .second, .val (.long hi), .second, .val (.int (0 : Int32)), .unset, .unset, .unset, .unset, .unset, .unset]) rfl ?_
      show Steps p.tables e below (s₁.setTop (mkF m 42 #[.val (.long q0), .second, .val (.long q1), .second, .val (.int p2), .val (.int p3), .val (.int p4), .val (.int p5), .val (.long lo), .second, .val (.long hi), .second, .val (.int (0 : Int32)), .unset, .unset, .unset, .unset, .unset, .unset] [])) _
      refine XS.sipush X0.here hx rfl (hb hby at_42) ?_
      show Steps p.tables e below (s₁.setTop (mkF m 45 #[.val (.long q0), .second, .val (.long q1), .second, .val (.int p2), .val (.int p3), .val (.int p4), .val (.int p5), .val (.long lo), .second, .val (.long hi), .second, .val (.int (0 : Int32)), .unset, .unset, .unset, .unset, .unset, .unset] [(.int (128 : Int32))])) _
      refine XS.iload X0.here hx rfl (hb hby at_45) rfl ?_
      show Steps p.tables e below (s₁.setTop (mkF m 47 #[.val (.long q0), .second, .val (.long q1), .second, .val (.int p2), .val (.int p3), .val (.int p4), .val (.int p5), .val (.long lo), .second, .val (.long hi), .second, .val (.int (0 : Int32)), .unset, .unset, .unset, .unset, .unset, .unset] [(.int p3), (.int (128 : Int32))])) _
      refine XS.bipush X0.here hx rfl (hb hby at_47) ?_
      show Steps p.tables e below (s₁.setTop (mkF m 49 #[.val (.long q0), .second, .val (.long q1), .second, .val (.int p2), .val (.int p3), .val (.int p4), .val (.int p5), .val (.long lo), .second, .val (.long hi), .second, .val (.int (0 : Int32)), .unset, .unset, .unset, .unset, .unset, .unset] [(.int (63 : Int32)), (.int p3), (.int (128 : Int32))])) _
      refine XS.iand X0.here hx rfl (hb hby at_49) rfl ?_
      show Steps p.tables e below (s₁.setTop (mkF m 50 #[.val (.long q0), .second, .val (.long q1), .second, .val (.int p2), .val (.int p3), .val (.int p4), .val (.int p5), .val (.long lo), .second, .val (.long hi), .second, .val (.int (0 : Int32)), .unset, .unset, .unset, .unset, .unset, .unset] [(.int (p3 &&& (63 : Int32))), (.int (128 : Int32))])) _
      refine XS.iadd X0.here hx rfl (hb hby at_50) rfl ?_
      show Steps p.tables e below (s₁.setTop (mkF m 51 #[.val (.long q0), .second, .val (.long q1), .second, .val (.int p2), .val (.int p3), .val (.int p4), .val (.int p5), .val (.long lo), .second, .val (.long hi), .second, .val (.int (0 : Int32)), .unset, .unset, .unset, .unset, .unset, .unset] [(.int ((128 : Int32) + (p3 &&& (63 : Int32))))])) _
      refine XS.iconst X0.here hx rfl (hb hby at_51) ?_
      show Steps p.tables e below (s₁.setTop (mkF m 52 #[.val (.long q0), .second, .val (.long q1), .second, .val (.int p2), .val (.int p3), .val (.int p4), .val (.int p5), .val (.long lo), .second, .val (.long hi), .second, .val (.int (0 : Int32)), .unset, .unset, .unset, .unset, .unset, .unset] [(.int (1 : Int32)), (.int ((128 : Int32) + (p3 &&& (63 : Int32))))])) _
      refine XS.iadd X0.here hx rfl (hb hby at_52) rfl ?_
      show Steps p.tables e below (s₁.setTop (mkF m 53 #[.val (.long q0), .second, .val (.long q1), .second, .val (.int p2), .val (.int p3), .val (.int p4), .val (.int p5), .val (.long lo), .second, .val (.long hi), .second, .val (.int (0 : Int32)), .unset, .unset, .unset, .unset, .unset, .unset] [(.int (((128 : Int32) + (p3 &&& (63 : Int32))) + (1 : Int32)))])) _
      refine XS.istore X0.here hx rfl (hb hby at_53) rfl (l' := #[.val (.long q0), .second, .val (.long q1), .second, .val (.int p2), .val (.int p3), .val (.int p4), .val (.int p5), .val (.long lo), .second, .val (.long hi), .second, .val (.int (0 : Int32)), .val (.int (((128 : Int32) + (p3 &&& (63 : Int32))) + (1 : Int32))), .unset, .unset, .unset, .unset, .unset]) rfl ?_
      exact kt)
    obtain ⟨ln, hm14, pre14⟩ : ∃ (ln : Int32), (129 ≤ ln.toInt ∧ ln.toInt ≤ 192) ∧ ∀ t, Steps p.tables e below (s₁.setTop (mkF m 55 #[.val (.long q0), .second, .val (.long q1), .second, .val (.int p2), .val (.int p3), .val (.int p4), .val (.int p5), .val (.long lo), .second, .val (.long hi), .second, .val (.int (0 : Int32)), .val (.int ln), .unset, .unset, .unset, .unset, .unset] [])) t → Steps p.tables e below (s₁.setTop (entryFrame m #[(.long q0), (.long q1), (.int p2), (.int p3), (.int p4), (.int p5)] maxLocals)) t := ⟨(((128 : Int32) + (p3 &&& (63 : Int32))) + (1 : Int32)), own_len p3, pre13⟩
    have pre15 : ∀ t, Steps p.tables e below (s₁.setTop (mkF m 73 #[.val (.long q0), .second, .val (.long q1), .second, .val (.int p2), .val (.int p3), .val (.int p4), .val (.int p5), .val (.long lo), .second, .val (.long hi), .second, .val (.int (0 : Int32)), .val (.int ln), .val (.int ((128 : Int32) + ((p4 &&& (2147483647 : Int32)) % (ln - (128 : Int32))))), .unset, .unset, .unset, .unset] [])) t → Steps p.tables e below (s₁.setTop (entryFrame m #[(.long q0), (.long q1), (.int p2), (.int p3), (.int p4), (.int p5)] maxLocals)) t := fun t kt => pre14 t (by
      show Steps p.tables e below (s₁.setTop (mkF m 55 #[.val (.long q0), .second, .val (.long q1), .second, .val (.int p2), .val (.int p3), .val (.int p4), .val (.int p5), .val (.long lo), .second, .val (.long hi), .second, .val (.int (0 : Int32)), .val (.int ln), .unset, .unset, .unset, .unset, .unset] [])) _
      refine XS.sipush X0.here hx rfl (hb hby at_55) ?_
      show Steps p.tables e below (s₁.setTop (mkF m 58 #[.val (.long q0), .second, .val (.long q1), .second, .val (.int p2), .val (.int p3), .val (.int p4), .val (.int p5), .val (.long lo), .second, .val (.long hi), .second, .val (.int (0 : Int32)), .val (.int ln), .unset, .unset, .unset, .unset, .unset] [(.int (128 : Int32))])) _
      refine XS.iload X0.here hx rfl (hb hby at_58) rfl ?_
      show Steps p.tables e below (s₁.setTop (mkF m 60 #[.val (.long q0), .second, .val (.long q1), .second, .val (.int p2), .val (.int p3), .val (.int p4), .val (.int p5), .val (.long lo), .second, .val (.long hi), .second, .val (.int (0 : Int32)), .val (.int ln), .unset, .unset, .unset, .unset, .unset] [(.int p4), (.int (128 : Int32))])) _
      refine X0.ldcInt hx hown (mvT hZ (hw _ (List.mem_of_getElem? (i := 0) rfl))) (g := (mkF m 60 #[.val (.long q0), .second, .val (.long q1), .second, .val (.int p2), .val (.int p3), .val (.int p4), .val (.int p5), .val (.long lo), .second, .val (.long hi), .second, .val (.int (0 : Int32)), .val (.int ln), .unset, .unset, .unset, .unset, .unset] [(.int p4), (.int (128 : Int32))])) rfl (hb hby at_60) _ ?_
      show Steps p.tables e below (s₁.setTop (mkF m 62 #[.val (.long q0), .second, .val (.long q1), .second, .val (.int p2), .val (.int p3), .val (.int p4), .val (.int p5), .val (.long lo), .second, .val (.long hi), .second, .val (.int (0 : Int32)), .val (.int ln), .unset, .unset, .unset, .unset, .unset] [(.int (2147483647 : Int32)), (.int p4), (.int (128 : Int32))])) _
      refine XS.iand X0.here hx rfl (hb hby at_62) rfl ?_
      show Steps p.tables e below (s₁.setTop (mkF m 63 #[.val (.long q0), .second, .val (.long q1), .second, .val (.int p2), .val (.int p3), .val (.int p4), .val (.int p5), .val (.long lo), .second, .val (.long hi), .second, .val (.int (0 : Int32)), .val (.int ln), .unset, .unset, .unset, .unset, .unset] [(.int (p4 &&& (2147483647 : Int32))), (.int (128 : Int32))])) _
      refine XS.iload X0.here hx rfl (hb hby at_63) rfl ?_
      show Steps p.tables e below (s₁.setTop (mkF m 65 #[.val (.long q0), .second, .val (.long q1), .second, .val (.int p2), .val (.int p3), .val (.int p4), .val (.int p5), .val (.long lo), .second, .val (.long hi), .second, .val (.int (0 : Int32)), .val (.int ln), .unset, .unset, .unset, .unset, .unset] [(.int ln), (.int (p4 &&& (2147483647 : Int32))), (.int (128 : Int32))])) _
      refine XS.sipush X0.here hx rfl (hb hby at_65) ?_
      show Steps p.tables e below (s₁.setTop (mkF m 68 #[.val (.long q0), .second, .val (.long q1), .second, .val (.int p2), .val (.int p3), .val (.int p4), .val (.int p5), .val (.long lo), .second, .val (.long hi), .second, .val (.int (0 : Int32)), .val (.int ln), .unset, .unset, .unset, .unset, .unset] [(.int (128 : Int32)), (.int ln), (.int (p4 &&& (2147483647 : Int32))), (.int (128 : Int32))])) _
      refine XS.isub X0.here hx rfl (hb hby at_68) rfl ?_
      show Steps p.tables e below (s₁.setTop (mkF m 69 #[.val (.long q0), .second, .val (.long q1), .second, .val (.int p2), .val (.int p3), .val (.int p4), .val (.int p5), .val (.long lo), .second, .val (.long hi), .second, .val (.int (0 : Int32)), .val (.int ln), .unset, .unset, .unset, .unset, .unset] [(.int (ln - (128 : Int32))), (.int (p4 &&& (2147483647 : Int32))), (.int (128 : Int32))])) _
      refine XS.irem X0.here hx rfl (hb hby at_69) rfl (own_snz ln hm14) ?_
      rw [own_irem]
      show Steps p.tables e below (s₁.setTop (mkF m 70 #[.val (.long q0), .second, .val (.long q1), .second, .val (.int p2), .val (.int p3), .val (.int p4), .val (.int p5), .val (.long lo), .second, .val (.long hi), .second, .val (.int (0 : Int32)), .val (.int ln), .unset, .unset, .unset, .unset, .unset] [(.int ((p4 &&& (2147483647 : Int32)) % (ln - (128 : Int32)))), (.int (128 : Int32))])) _
      refine XS.iadd X0.here hx rfl (hb hby at_70) rfl ?_
      show Steps p.tables e below (s₁.setTop (mkF m 71 #[.val (.long q0), .second, .val (.long q1), .second, .val (.int p2), .val (.int p3), .val (.int p4), .val (.int p5), .val (.long lo), .second, .val (.long hi), .second, .val (.int (0 : Int32)), .val (.int ln), .unset, .unset, .unset, .unset, .unset] [(.int ((128 : Int32) + ((p4 &&& (2147483647 : Int32)) % (ln - (128 : Int32)))))])) _
      refine XS.istore X0.here hx rfl (hb hby at_71) rfl (l' := #[.val (.long q0), .second, .val (.long q1), .second, .val (.int p2), .val (.int p3), .val (.int p4), .val (.int p5), .val (.long lo), .second, .val (.long hi), .second, .val (.int (0 : Int32)), .val (.int ln), .val (.int ((128 : Int32) + ((p4 &&& (2147483647 : Int32)) % (ln - (128 : Int32))))), .unset, .unset, .unset, .unset]) rfl ?_
      exact kt)
    obtain ⟨po, hm16, pre16⟩ : ∃ (po : Int32), (128 ≤ po.toInt ∧ po.toInt < ln.toInt) ∧ ∀ t, Steps p.tables e below (s₁.setTop (mkF m 73 #[.val (.long q0), .second, .val (.long q1), .second, .val (.int p2), .val (.int p3), .val (.int p4), .val (.int p5), .val (.long lo), .second, .val (.long hi), .second, .val (.int (0 : Int32)), .val (.int ln), .val (.int po), .unset, .unset, .unset, .unset] [])) t → Steps p.tables e below (s₁.setTop (entryFrame m #[(.long q0), (.long q1), (.int p2), (.int p3), (.int p4), (.int p5)] maxLocals)) t := ⟨((128 : Int32) + ((p4 &&& (2147483647 : Int32)) % (ln - (128 : Int32)))), own_pos p4 ln hm14, pre15⟩
    have pre17 : ∀ t, Steps p.tables e below (s₁.setTop (mkF m 98 #[.val (.long q0), .second, .val (.long q1), .second, .val (.int p2), .val (.int p3), .val (.int p4), .val (.int p5), .val (.long lo), .second, .val (.long hi), .second, .val (.int (0 : Int32)), .val (.int ln), .val (.int po), .val .null, .unset, .unset, .unset] [.null, (.long hi), (.long lo)])) t → Steps p.tables e below (s₁.setTop (entryFrame m #[(.long q0), (.long q1), (.int p2), (.int p3), (.int p4), (.int p5)] maxLocals)) t := fun t kt => pre16 t (by
      show Steps p.tables e below (s₁.setTop (mkF m 73 #[.val (.long q0), .second, .val (.long q1), .second, .val (.int p2), .val (.int p3), .val (.int p4), .val (.int p5), .val (.long lo), .second, .val (.long hi), .second, .val (.int (0 : Int32)), .val (.int ln), .val (.int po), .unset, .unset, .unset, .unset] [])) _
      refine XS.iload X0.here hx rfl (hb hby at_73) rfl ?_
      show Steps p.tables e below (s₁.setTop (mkF m 75 #[.val (.long q0), .second, .val (.long q1), .second, .val (.int p2), .val (.int p3), .val (.int p4), .val (.int p5), .val (.long lo), .second, .val (.long hi), .second, .val (.int (0 : Int32)), .val (.int ln), .val (.int po), .unset, .unset, .unset, .unset] [(.int (0 : Int32))])) _
      refine XS.ifYes X0.here hx rfl (pc0 := 75) (pc' := 89) rfl (hb hby at_75) rfl ((if0 _ _).trans (teq (by decide : (0 : Int32) = (0 : Int32))).1) (by decide) (by decide) ?_
      show Steps p.tables e below (s₁.setTop (mkF m 89 #[.val (.long q0), .second, .val (.long q1), .second, .val (.int p2), .val (.int p3), .val (.int p4), .val (.int p5), .val (.long lo), .second, .val (.long hi), .second, .val (.int (0 : Int32)), .val (.int ln), .val (.int po), .unset, .unset, .unset, .unset] [])) _
      refine XS.aconstNull X0.here hx rfl (hb hby at_89) ?_
      show Steps p.tables e below (s₁.setTop (mkF m 90 #[.val (.long q0), .second, .val (.long q1), .second, .val (.int p2), .val (.int p3), .val (.int p4), .val (.int p5), .val (.long lo), .second, .val (.long hi), .second, .val (.int (0 : Int32)), .val (.int ln), .val (.int po), .unset, .unset, .unset, .unset] [.null])) _
      refine XS.astore X0.here hx rfl (hb hby at_90) rfl rfl (l' := #[.val (.long q0), .second, .val (.long q1), .second, .val (.int p2), .val (.int p3), .val (.int p4), .val (.int p5), .val (.long lo), .second, .val (.long hi), .second, .val (.int (0 : Int32)), .val (.int ln), .val (.int po), .val .null, .unset, .unset, .unset]) rfl ?_
      show Steps p.tables e below (s₁.setTop (mkF m 92 #[.val (.long q0), .second, .val (.long q1), .second, .val (.int p2), .val (.int p3), .val (.int p4), .val (.int p5), .val (.long lo), .second, .val (.long hi), .second, .val (.int (0 : Int32)), .val (.int ln), .val (.int po), .val .null, .unset, .unset, .unset] [])) _
      refine XS.lload X0.here hx rfl (hb hby at_92) rfl ?_
      show Steps p.tables e below (s₁.setTop (mkF m 94 #[.val (.long q0), .second, .val (.long q1), .second, .val (.int p2), .val (.int p3), .val (.int p4), .val (.int p5), .val (.long lo), .second, .val (.long hi), .second, .val (.int (0 : Int32)), .val (.int ln), .val (.int po), .val .null, .unset, .unset, .unset] [(.long lo)])) _
      refine XS.lload X0.here hx rfl (hb hby at_94) rfl ?_
      show Steps p.tables e below (s₁.setTop (mkF m 96 #[.val (.long q0), .second, .val (.long q1), .second, .val (.int p2), .val (.int p3), .val (.int p4), .val (.int p5), .val (.long lo), .second, .val (.long hi), .second, .val (.int (0 : Int32)), .val (.int ln), .val (.int po), .val .null, .unset, .unset, .unset] [(.long hi), (.long lo)])) _
      refine XS.aload X0.here hx rfl (hb hby at_96) rfl rfl ?_
      exact kt)
    obtain ⟨_, _, ⟨T18, L18, k18, n18⟩, -, X18, ⟨Lc18, hQ18, l18, y18, z18⟩, st18⟩ := Jvm.LawKit.callS X0 hx (y := (⟨"com/example/baton/baton/support/Skipped", "none", "(JJ[Z)Z"⟩ : MethodName)) hown (mvT hZ (hw _ (List.mem_of_getElem? (i := 1) rfl))) (mvT hZ (hw _ (List.mem_of_getElem? (i := 2) rfl))) (mvT hZ (hw _ (List.mem_of_getElem? (i := 3) rfl))) (mvT hZ (hw _ (List.mem_of_getElem? (i := 4) rfl))) (by decide) (backOf (W := 0) (rm1n l Z av hw [] lo hi  h0 n0 Z0 ) hZ (hw _ (List.mem_of_getElem? (i := 4) rfl)) (hw _ (List.mem_of_getElem? (i := 3) rfl)) (by decide) (by decide)) (g := (mkF m 98 #[.val (.long q0), .second, .val (.long q1), .second, .val (.int p2), .val (.int p3), .val (.int p4), .val (.int p5), .val (.long lo), .second, .val (.long hi), .second, .val (.int (0 : Int32)), .val (.int ln), .val (.int po), .val .null, .unset, .unset, .unset] [.null, (.long hi), (.long lo)])) rfl (by rw [hml]; rfl) (argsL := [(.long lo), (.long hi), .null]) (rest := []) (lenOf pd__JJ_Z_Z rfl) rfl (by show 2 * 0 + _ ≤ _; exact Nat.le_of_eq rfl) (hb hby at_98) (fun _ _ => ⟨rfl, e0, (by decide : 0 + 0 ≤ _), (by decide : 0 + 0 ≤ _)⟩)
    dsimp only [Pt.U, Pt.locs, Pt.cells, Pt.slots] at X18 l18 y18 z18 st18 hQ18
    subst l18 y18 z18
    obtain ⟨rfl, N18q, e18⟩ := hQ18
    have N18 := Fr.app N0 N18q
    have pre19 : ∀ t, Steps p.tables e below (T18.setTop (mkF m 101 #[.val (.long q0), .second, .val (.long q1), .second, .val (.int p2), .val (.int p3), .val (.int p4), .val (.int p5), .val (.long lo), .second, .val (.long hi), .second, .val (.int (0 : Int32)), .val (.int ln), .val (.int po), .val .null, .unset, .unset, .unset] [(.int (f_nn lo hi))])) t → Steps p.tables e below (s₁.setTop (entryFrame m #[(.long q0), (.long q1), (.int p2), (.int p3), (.int p4), (.int p5)] maxLocals)) t := fun t kt => pre17 t (st18 _ kt)
    have pre20 : ∀ t, Steps p.tables e below (T18.setTop (mkF m 107 #[.val (.long q0), .second, .val (.long q1), .second, .val (.int p2), .val (.int p3), .val (.int p4), .val (.int p5), .val (.long lo), .second, .val (.long hi), .second, .val (.int (0 : Int32)), .val (.int ln), .val (.int po), .val .null, .val (.int (f_nn lo hi)), .unset, .unset] [(.int (lcmpW lo (0 : Int64)))])) t → Steps p.tables e below (s₁.setTop (entryFrame m #[(.long q0), (.long q1), (.int p2), (.int p3), (.int p4), (.int p5)] maxLocals)) t := fun t kt => pre19 t (by
      show Steps p.tables e below (T18.setTop (mkF m 101 #[.val (.long q0), .second, .val (.long q1), .second, .val (.int p2), .val (.int p3), .val (.int p4), .val (.int p5), .val (.long lo), .second, .val (.long hi), .second, .val (.int (0 : Int32)), .val (.int ln), .val (.int po), .val .null, .unset, .unset, .unset] [(.int (f_nn lo hi))])) _
      refine XS.istore X18.here hx rfl (hb hby at_101) rfl (l' := #[.val (.long q0), .second, .val (.long q1), .second, .val (.int p2), .val (.int p3), .val (.int p4), .val (.int p5), .val (.long lo), .second, .val (.long hi), .second, .val (.int (0 : Int32)), .val (.int ln), .val (.int po), .val .null, .val (.int (f_nn lo hi)), .unset, .unset]) rfl ?_
      show Steps p.tables e below (T18.setTop (mkF m 103 #[.val (.long q0), .second, .val (.long q1), .second, .val (.int p2), .val (.int p3), .val (.int p4), .val (.int p5), .val (.long lo), .second, .val (.long hi), .second, .val (.int (0 : Int32)), .val (.int ln), .val (.int po), .val .null, .val (.int (f_nn lo hi)), .unset, .unset] [])) _
      refine XS.lload X18.here hx rfl (hb hby at_103) rfl ?_
      show Steps p.tables e below (T18.setTop (mkF m 105 #[.val (.long q0), .second, .val (.long q1), .second, .val (.int p2), .val (.int p3), .val (.int p4), .val (.int p5), .val (.long lo), .second, .val (.long hi), .second, .val (.int (0 : Int32)), .val (.int ln), .val (.int po), .val .null, .val (.int (f_nn lo hi)), .unset, .unset] [(.long lo)])) _
      refine XS.lconst X18.here hx rfl (hb hby at_105) ?_
      show Steps p.tables e below (T18.setTop (mkF m 106 #[.val (.long q0), .second, .val (.long q1), .second, .val (.int p2), .val (.int p3), .val (.int p4), .val (.int p5), .val (.long lo), .second, .val (.long hi), .second, .val (.int (0 : Int32)), .val (.int ln), .val (.int po), .val .null, .val (.int (f_nn lo hi)), .unset, .unset] [(.long (0 : Int64)), (.long lo)])) _
      refine XS.lcmp X18.here hx rfl (hb hby at_106) rfl ?_
      exact kt)
    by_cases hc107_21 : lo = (0 : Int64)
    · have pre22 : ∀ t, Steps p.tables e below (T18.setTop (mkF m 114 #[.val (.long q0), .second, .val (.long q1), .second, .val (.int p2), .val (.int p3), .val (.int p4), .val (.int p5), .val (.long lo), .second, .val (.long hi), .second, .val (.int (0 : Int32)), .val (.int ln), .val (.int po), .val .null, .val (.int (f_nn lo hi)), .unset, .unset] [(.int (lcmpW hi (0 : Int64)))])) t → Steps p.tables e below (s₁.setTop (entryFrame m #[(.long q0), (.long q1), (.int p2), (.int p3), (.int p4), (.int p5)] maxLocals)) t := fun t kt => pre20 t (by
        show Steps p.tables e below (T18.setTop (mkF m 107 #[.val (.long q0), .second, .val (.long q1), .second, .val (.int p2), .val (.int p3), .val (.int p4), .val (.int p5), .val (.long lo), .second, .val (.long hi), .second, .val (.int (0 : Int32)), .val (.int ln), .val (.int po), .val .null, .val (.int (f_nn lo hi)), .unset, .unset] [(.int (lcmpW lo (0 : Int64)))])) _
        refine XS.ifNo X18.here hx rfl (hb hby at_107) rfl (Jvm.Free.XT.ll_ne_f hc107_21) ?_
        show Steps p.tables e below (T18.setTop (mkF m 110 #[.val (.long q0), .second, .val (.long q1), .second, .val (.int p2), .val (.int p3), .val (.int p4), .val (.int p5), .val (.long lo), .second, .val (.long hi), .second, .val (.int (0 : Int32)), .val (.int ln), .val (.int po), .val .null, .val (.int (f_nn lo hi)), .unset, .unset] [])) _
        refine XS.lload X18.here hx rfl (hb hby at_110) rfl ?_
        show Steps p.tables e below (T18.setTop (mkF m 112 #[.val (.long q0), .second, .val (.long q1), .second, .val (.int p2), .val (.int p3), .val (.int p4), .val (.int p5), .val (.long lo), .second, .val (.long hi), .second, .val (.int (0 : Int32)), .val (.int ln), .val (.int po), .val .null, .val (.int (f_nn lo hi)), .unset, .unset] [(.long hi)])) _
        refine XS.lconst X18.here hx rfl (hb hby at_112) ?_
        show Steps p.tables e below (T18.setTop (mkF m 113 #[.val (.long q0), .second, .val (.long q1), .second, .val (.int p2), .val (.int p3), .val (.int p4), .val (.int p5), .val (.long lo), .second, .val (.long hi), .second, .val (.int (0 : Int32)), .val (.int ln), .val (.int po), .val .null, .val (.int (f_nn lo hi)), .unset, .unset] [(.long (0 : Int64)), (.long hi)])) _
        refine XS.lcmp X18.here hx rfl (hb hby at_113) rfl ?_
        exact kt)
      by_cases hc114_23 : hi = (0 : Int64)
      · have pre24 : ∀ t, Steps p.tables e below (T18.setTop (mkF m 148 #[.val (.long q0), .second, .val (.long q1), .second, .val (.int p2), .val (.int p3), .val (.int p4), .val (.int p5), .val (.long lo), .second, .val (.long hi), .second, .val (.int (0 : Int32)), .val (.int ln), .val (.int po), .val .null, .val (.int (f_nn lo hi)), .val (.int (1 : Int32)), .val (.int ((p5 &&& (2147483647 : Int32)) % ln))] [])) t → Steps p.tables e below (s₁.setTop (entryFrame m #[(.long q0), (.long q1), (.int p2), (.int p3), (.int p4), (.int p5)] maxLocals)) t := fun t kt => pre22 t (by
          show Steps p.tables e below (T18.setTop (mkF m 114 #[.val (.long q0), .second, .val (.long q1), .second, .val (.int p2), .val (.int p3), .val (.int p4), .val (.int p5), .val (.long lo), .second, .val (.long hi), .second, .val (.int (0 : Int32)), .val (.int ln), .val (.int po), .val .null, .val (.int (f_nn lo hi)), .unset, .unset] [(.int (lcmpW hi (0 : Int64)))])) _
          refine XS.ifNo X18.here hx rfl (hb hby at_114) rfl (Jvm.Free.XT.ll_ne_f hc114_23) ?_
          show Steps p.tables e below (T18.setTop (mkF m 117 #[.val (.long q0), .second, .val (.long q1), .second, .val (.int p2), .val (.int p3), .val (.int p4), .val (.int p5), .val (.long lo), .second, .val (.long hi), .second, .val (.int (0 : Int32)), .val (.int ln), .val (.int po), .val .null, .val (.int (f_nn lo hi)), .unset, .unset] [])) _
          refine XS.iload X18.here hx rfl (hb hby at_117) rfl ?_
          show Steps p.tables e below (T18.setTop (mkF m 119 #[.val (.long q0), .second, .val (.long q1), .second, .val (.int p2), .val (.int p3), .val (.int p4), .val (.int p5), .val (.long lo), .second, .val (.long hi), .second, .val (.int (0 : Int32)), .val (.int ln), .val (.int po), .val .null, .val (.int (f_nn lo hi)), .unset, .unset] [(.int (0 : Int32))])) _
          refine XS.ifNo X18.here hx rfl (hb hby at_119) rfl ((if0 _ _).trans (teq (by decide : (0 : Int32) = (0 : Int32))).2) ?_
          show Steps p.tables e below (T18.setTop (mkF m 122 #[.val (.long q0), .second, .val (.long q1), .second, .val (.int p2), .val (.int p3), .val (.int p4), .val (.int p5), .val (.long lo), .second, .val (.long hi), .second, .val (.int (0 : Int32)), .val (.int ln), .val (.int po), .val .null, .val (.int (f_nn lo hi)), .unset, .unset] [])) _
          refine XS.iconst X18.here hx rfl (hb hby at_122) ?_
          show Steps p.tables e below (T18.setTop (mkF m 123 #[.val (.long q0), .second, .val (.long q1), .second, .val (.int p2), .val (.int p3), .val (.int p4), .val (.int p5), .val (.long lo), .second, .val (.long hi), .second, .val (.int (0 : Int32)), .val (.int ln), .val (.int po), .val .null, .val (.int (f_nn lo hi)), .unset, .unset] [(.int (1 : Int32))])) _
          refine XS.goto X18.here hx rfl (pc0 := 123) (pc' := 127) rfl (hb hby at_123) (by decide) (by decide) ?_
          show Steps p.tables e below (T18.setTop (mkF m 127 #[.val (.long q0), .second, .val (.long q1), .second, .val (.int p2), .val (.int p3), .val (.int p4), .val (.int p5), .val (.long lo), .second, .val (.long hi), .second, .val (.int (0 : Int32)), .val (.int ln), .val (.int po), .val .null, .val (.int (f_nn lo hi)), .unset, .unset] [(.int (1 : Int32))])) _
          refine XS.istore X18.here hx rfl (hb hby at_127) rfl (l' := #[.val (.long q0), .second, .val (.long q1), .second, .val (.int p2), .val (.int p3), .val (.int p4), .val (.int p5), .val (.long lo), .second, .val (.long hi), .second, .val (.int (0 : Int32)), .val (.int ln), .val (.int po), .val .null, .val (.int (f_nn lo hi)), .val (.int (1 : Int32)), .unset]) rfl ?_
          show Steps p.tables e below (T18.setTop (mkF m 129 #[.val (.long q0), .second, .val (.long q1), .second, .val (.int p2), .val (.int p3), .val (.int p4), .val (.int p5), .val (.long lo), .second, .val (.long hi), .second, .val (.int (0 : Int32)), .val (.int ln), .val (.int po), .val .null, .val (.int (f_nn lo hi)), .val (.int (1 : Int32)), .unset] [])) _
          refine XS.iload X18.here hx rfl (hb hby at_129) rfl ?_
          show Steps p.tables e below (T18.setTop (mkF m 131 #[.val (.long q0), .second, .val (.long q1), .second, .val (.int p2), .val (.int p3), .val (.int p4), .val (.int p5), .val (.long lo), .second, .val (.long hi), .second, .val (.int (0 : Int32)), .val (.int ln), .val (.int po), .val .null, .val (.int (f_nn lo hi)), .val (.int (1 : Int32)), .unset] [(.int (f_nn lo hi))])) _
          refine XS.iload X18.here hx rfl (hb hby at_131) rfl ?_
          show Steps p.tables e below (T18.setTop (mkF m 133 #[.val (.long q0), .second, .val (.long q1), .second, .val (.int p2), .val (.int p3), .val (.int p4), .val (.int p5), .val (.long lo), .second, .val (.long hi), .second, .val (.int (0 : Int32)), .val (.int ln), .val (.int po), .val .null, .val (.int (f_nn lo hi)), .val (.int (1 : Int32)), .unset] [(.int (1 : Int32)), (.int (f_nn lo hi))])) _
          refine XS.icmpYes X18.here hx rfl (pc0 := 133) (pc' := 138) rfl (hb hby at_133) rfl (teq (by unfold f_nn; rw [if_pos hc107_21, if_pos hc114_23] : (f_nn lo hi) = (1 : Int32))).1 (by decide) (by decide) ?_
          show Steps p.tables e below (T18.setTop (mkF m 138 #[.val (.long q0), .second, .val (.long q1), .second, .val (.int p2), .val (.int p3), .val (.int p4), .val (.int p5), .val (.long lo), .second, .val (.long hi), .second, .val (.int (0 : Int32)), .val (.int ln), .val (.int po), .val .null, .val (.int (f_nn lo hi)), .val (.int (1 : Int32)), .unset] [])) _
          refine XS.iload X18.here hx rfl (hb hby at_138) rfl ?_
          show Steps p.tables e below (T18.setTop (mkF m 140 #[.val (.long q0), .second, .val (.long q1), .second, .val (.int p2), .val (.int p3), .val (.int p4), .val (.int p5), .val (.long lo), .second, .val (.long hi), .second, .val (.int (0 : Int32)), .val (.int ln), .val (.int po), .val .null, .val (.int (f_nn lo hi)), .val (.int (1 : Int32)), .unset] [(.int p5)])) _
          refine X18.ldcInt hx hown (mvT hZ (hw _ (List.mem_of_getElem? (i := 0) rfl))) (g := (mkF m 140 #[.val (.long q0), .second, .val (.long q1), .second, .val (.int p2), .val (.int p3), .val (.int p4), .val (.int p5), .val (.long lo), .second, .val (.long hi), .second, .val (.int (0 : Int32)), .val (.int ln), .val (.int po), .val .null, .val (.int (f_nn lo hi)), .val (.int (1 : Int32)), .unset] [(.int p5)])) rfl (hb hby at_140) _ ?_
          show Steps p.tables e below (T18.setTop (mkF m 142 #[.val (.long q0), .second, .val (.long q1), .second, .val (.int p2), .val (.int p3), .val (.int p4), .val (.int p5), .val (.long lo), .second, .val (.long hi), .second, .val (.int (0 : Int32)), .val (.int ln), .val (.int po), .val .null, .val (.int (f_nn lo hi)), .val (.int (1 : Int32)), .unset] [(.int (2147483647 : Int32)), (.int p5)])) _
          refine XS.iand X18.here hx rfl (hb hby at_142) rfl ?_
          show Steps p.tables e below (T18.setTop (mkF m 143 #[.val (.long q0), .second, .val (.long q1), .second, .val (.int p2), .val (.int p3), .val (.int p4), .val (.int p5), .val (.long lo), .second, .val (.long hi), .second, .val (.int (0 : Int32)), .val (.int ln), .val (.int po), .val .null, .val (.int (f_nn lo hi)), .val (.int (1 : Int32)), .unset] [(.int (p5 &&& (2147483647 : Int32)))])) _
          refine XS.iload X18.here hx rfl (hb hby at_143) rfl ?_
          show Steps p.tables e below (T18.setTop (mkF m 145 #[.val (.long q0), .second, .val (.long q1), .second, .val (.int p2), .val (.int p3), .val (.int p4), .val (.int p5), .val (.long lo), .second, .val (.long hi), .second, .val (.int (0 : Int32)), .val (.int ln), .val (.int po), .val .null, .val (.int (f_nn lo hi)), .val (.int (1 : Int32)), .unset] [(.int ln), (.int (p5 &&& (2147483647 : Int32)))])) _
          refine XS.irem X18.here hx rfl (hb hby at_145) rfl (own_lnz ln hm14) ?_
          rw [own_irem]
          show Steps p.tables e below (T18.setTop (mkF m 146 #[.val (.long q0), .second, .val (.long q1), .second, .val (.int p2), .val (.int p3), .val (.int p4), .val (.int p5), .val (.long lo), .second, .val (.long hi), .second, .val (.int (0 : Int32)), .val (.int ln), .val (.int po), .val .null, .val (.int (f_nn lo hi)), .val (.int (1 : Int32)), .unset] [(.int ((p5 &&& (2147483647 : Int32)) % ln))])) _
          refine XS.istore X18.here hx rfl (hb hby at_146) rfl (l' := #[.val (.long q0), .second, .val (.long q1), .second, .val (.int p2), .val (.int p3), .val (.int p4), .val (.int p5), .val (.long lo), .second, .val (.long hi), .second, .val (.int (0 : Int32)), .val (.int ln), .val (.int po), .val .null, .val (.int (f_nn lo hi)), .val (.int (1 : Int32)), .val (.int ((p5 &&& (2147483647 : Int32)) % ln))]) rfl ?_
          exact kt)
        obtain ⟨pr, hm25, pre25⟩ : ∃ (pr : Int32), (True) ∧ ∀ t, Steps p.tables e below (T18.setTop (mkF m 148 #[.val (.long q0), .second, .val (.long q1), .second, .val (.int p2), .val (.int p3), .val (.int p4), .val (.int p5), .val (.long lo), .second, .val (.long hi), .second, .val (.int (0 : Int32)), .val (.int ln), .val (.int po), .val .null, .val (.int (f_nn lo hi)), .val (.int (1 : Int32)), .val (.int pr)] [])) t → Steps p.tables e below (s₁.setTop (entryFrame m #[(.long q0), (.long q1), (.int p2), (.int p3), (.int p4), (.int p5)] maxLocals)) t := ⟨((p5 &&& (2147483647 : Int32)) % ln), trivial, pre24⟩
        have pre26 : ∀ t, Steps p.tables e below (T18.setTop (mkF m 161 #[.val (.long q0), .second, .val (.long q1), .second, .val (.int p2), .val (.int p3), .val (.int p4), .val (.int p5), .val (.long lo), .second, .val (.long hi), .second, .val (.int (0 : Int32)), .val (.int ln), .val (.int po), .val .null, .val (.int (f_nn lo hi)), .val (.int (1 : Int32)), .val (.int pr)] [.null, (.long hi), (.long lo), (.int pr)])) t → Steps p.tables e below (s₁.setTop (entryFrame m #[(.long q0), (.long q1), (.int p2), (.int p3), (.int p4), (.int p5)] maxLocals)) t := fun t kt => pre25 t (by
          show Steps p.tables e below (T18.setTop (mkF m 148 #[.val (.long q0), .second, .val (.long q1), .second, .val (.int p2), .val (.int p3), .val (.int p4), .val (.int p5), .val (.long lo), .second, .val (.long hi), .second, .val (.int (0 : Int32)), .val (.int ln), .val (.int po), .val .null, .val (.int (f_nn lo hi)), .val (.int (1 : Int32)), .val (.int pr)] [])) _
          refine XS.iload X18.here hx rfl (hb hby at_148) rfl ?_
          show Steps p.tables e below (T18.setTop (mkF m 150 #[.val (.long q0), .second, .val (.long q1), .second, .val (.int p2), .val (.int p3), .val (.int p4), .val (.int p5), .val (.long lo), .second, .val (.long hi), .second, .val (.int (0 : Int32)), .val (.int ln), .val (.int po), .val .null, .val (.int (f_nn lo hi)), .val (.int (1 : Int32)), .val (.int pr)] [(.int (f_nn lo hi))])) _
          refine XS.ifNo X18.here hx rfl (hb hby at_150) rfl ((if0 _ _).trans (feq (by unfold f_nn; rw [if_pos hc107_21, if_pos hc114_23]; decide : ¬ ((f_nn lo hi) = (0 : Int32)))).1) ?_
          show Steps p.tables e below (T18.setTop (mkF m 153 #[.val (.long q0), .second, .val (.long q1), .second, .val (.int p2), .val (.int p3), .val (.int p4), .val (.int p5), .val (.long lo), .second, .val (.long hi), .second, .val (.int (0 : Int32)), .val (.int ln), .val (.int po), .val .null, .val (.int (f_nn lo hi)), .val (.int (1 : Int32)), .val (.int pr)] [])) _
          refine XS.iload X18.here hx rfl (hb hby at_153) rfl ?_
          show Steps p.tables e below (T18.setTop (mkF m 155 #[.val (.long q0), .second, .val (.long q1), .second, .val (.int p2), .val (.int p3), .val (.int p4), .val (.int p5), .val (.long lo), .second, .val (.long hi), .second, .val (.int (0 : Int32)), .val (.int ln), .val (.int po), .val .null, .val (.int (f_nn lo hi)), .val (.int (1 : Int32)), .val (.int pr)] [(.int pr)])) _
          refine XS.lload X18.here hx rfl (hb hby at_155) rfl ?_
          show Steps p.tables e below (T18.setTop (mkF m 157 #[.val (.long q0), .second, .val (.long q1), .second, .val (.int p2), .val (.int p3), .val (.int p4), .val (.int p5), .val (.long lo), .second, .val (.long hi), .second, .val (.int (0 : Int32)), .val (.int ln), .val (.int po), .val .null, .val (.int (f_nn lo hi)), .val (.int (1 : Int32)), .val (.int pr)] [(.long lo), (.int pr)])) _
          refine XS.lload X18.here hx rfl (hb hby at_157) rfl ?_
          show Steps p.tables e below (T18.setTop (mkF m 159 #[.val (.long q0), .second, .val (.long q1), .second, .val (.int p2), .val (.int p3), .val (.int p4), .val (.int p5), .val (.long lo), .second, .val (.long hi), .second, .val (.int (0 : Int32)), .val (.int ln), .val (.int po), .val .null, .val (.int (f_nn lo hi)), .val (.int (1 : Int32)), .val (.int pr)] [(.long hi), (.long lo), (.int pr)])) _
          refine XS.aload X18.here hx rfl (hb hby at_159) rfl rfl ?_
          exact kt)
        obtain ⟨_, _, ⟨T27, L27, k27, n27⟩, -, X27, ⟨Lc27, hQ27, l27, y27, z27⟩, st27⟩ := Jvm.LawKit.callS X18 hx (y := (⟨"com/example/baton/baton/support/Skipped", "contains", "(IJJ[Z)Z"⟩ : MethodName)) hown (mvT hZ (hw _ (List.mem_of_getElem? (i := 9) rfl))) (mvT hZ (hw _ (List.mem_of_getElem? (i := 10) rfl))) (mvT hZ (hw _ (List.mem_of_getElem? (i := 3) rfl))) (mvT hZ (hw _ (List.mem_of_getElem? (i := 11) rfl))) (by decide) (backOf (W := 0) (rm3n l Z av hw [] pr lo hi  h0 n0 Z0 ) hZ (hw _ (List.mem_of_getElem? (i := 11) rfl)) (hw _ (List.mem_of_getElem? (i := 3) rfl)) (by decide) (by decide)) (g := (mkF m 161 #[.val (.long q0), .second, .val (.long q1), .second, .val (.int p2), .val (.int p3), .val (.int p4), .val (.int p5), .val (.long lo), .second, .val (.long hi), .second, .val (.int (0 : Int32)), .val (.int ln), .val (.int po), .val .null, .val (.int (f_nn lo hi)), .val (.int (1 : Int32)), .val (.int pr)] [.null, (.long hi), (.long lo), (.int pr)])) rfl (by rw [hml]; rfl) (argsL := [(.int pr), (.long lo), (.long hi), .null]) (rest := []) (lenOf pd__IJJ_Z_Z rfl) rfl (by show 2 * 0 + _ ≤ _; exact Nat.le_of_eq rfl) (hb hby at_161) (fun _ _ => ⟨rfl, e18, (by decide : 0 + 0 ≤ _), (by decide : 0 + 0 ≤ _)⟩)
        dsimp only [Pt.U, Pt.locs, Pt.cells, Pt.slots] at X27 l27 y27 z27 st27 hQ27
        subst l27 y27 z27
        obtain ⟨rfl, N27q, e27⟩ := hQ27
        have N27 := Fr.app N18 N27q
        have pre28 : ∀ t, Steps p.tables e below (T27.setTop (mkF m 164 #[.val (.long q0), .second, .val (.long q1), .second, .val (.int p2), .val (.int p3), .val (.int p4), .val (.int p5), .val (.long lo), .second, .val (.long hi), .second, .val (.int (0 : Int32)), .val (.int ln), .val (.int po), .val .null, .val (.int (f_nn lo hi)), .val (.int (1 : Int32)), .val (.int pr)] [(.int (f_cn pr lo hi))])) t → Steps p.tables e below (s₁.setTop (entryFrame m #[(.long q0), (.long q1), (.int p2), (.int p3), (.int p4), (.int p5)] maxLocals)) t := fun t kt => pre26 t (st27 _ kt)
        have pre29 : ∀ t, Steps p.tables e below (T27.setTop (mkF m 191 #[.val (.long q0), .second, .val (.long q1), .second, .val (.int p2), .val (.int p3), .val (.int p4), .val (.int p5), .val (.long lo), .second, .val (.long hi), .second, .val (.int (0 : Int32)), .val (.int ln), .val (.int po), .val .null, .val (.int (f_nn lo hi)), .val (.int (1 : Int32)), .val (.int pr)] [(.int (1 : Int32))])) t → Steps p.tables e below (s₁.setTop (entryFrame m #[(.long q0), (.long q1), (.int p2), (.int p3), (.int p4), (.int p5)] maxLocals)) t := fun t kt => pre28 t (by
          show Steps p.tables e below (T27.setTop (mkF m 164 #[.val (.long q0), .second, .val (.long q1), .second, .val (.int p2), .val (.int p3), .val (.int p4), .val (.int p5), .val (.long lo), .second, .val (.long hi), .second, .val (.int (0 : Int32)), .val (.int ln), .val (.int po), .val .null, .val (.int (f_nn lo hi)), .val (.int (1 : Int32)), .val (.int pr)] [(.int (f_cn pr lo hi))])) _
          refine XS.ifYes X27.here hx rfl (pc0 := 164) (pc' := 169) rfl (hb hby at_164) rfl ((if0 _ _).trans (teq (by rw [hc107_21, hc114_23]; exact own_cn0 pr : (f_cn pr lo hi) = (0 : Int32))).1) (by decide) (by decide) ?_
          show Steps p.tables e below (T27.setTop (mkF m 169 #[.val (.long q0), .second, .val (.long q1), .second, .val (.int p2), .val (.int p3), .val (.int p4), .val (.int p5), .val (.long lo), .second, .val (.long hi), .second, .val (.int (0 : Int32)), .val (.int ln), .val (.int po), .val .null, .val (.int (f_nn lo hi)), .val (.int (1 : Int32)), .val (.int pr)] [])) _
          refine XS.iload X27.here hx rfl (hb hby at_169) rfl ?_
          show Steps p.tables e below (T27.setTop (mkF m 171 #[.val (.long q0), .second, .val (.long q1), .second, .val (.int p2), .val (.int p3), .val (.int p4), .val (.int p5), .val (.long lo), .second, .val (.long hi), .second, .val (.int (0 : Int32)), .val (.int ln), .val (.int po), .val .null, .val (.int (f_nn lo hi)), .val (.int (1 : Int32)), .val (.int pr)] [(.int (0 : Int32))])) _
          refine XS.ifYes X27.here hx rfl (pc0 := 171) (pc' := 190) rfl (hb hby at_171) rfl ((if0 _ _).trans (teq (by decide : (0 : Int32) = (0 : Int32))).1) (by decide) (by decide) ?_
          show Steps p.tables e below (T27.setTop (mkF m 190 #[.val (.long q0), .second, .val (.long q1), .second, .val (.int p2), .val (.int p3), .val (.int p4), .val (.int p5), .val (.long lo), .second, .val (.long hi), .second, .val (.int (0 : Int32)), .val (.int ln), .val (.int po), .val .null, .val (.int (f_nn lo hi)), .val (.int (1 : Int32)), .val (.int pr)] [])) _
          refine XS.iconst X27.here hx rfl (hb hby at_190) ?_
          exact kt)
        obtain ⟨fs, hr, hrun, hended, hW, hsame⟩ := X27.leave (v := some (.int (1 : Int32))) (fun h => by rw [Bd.returns] at h; cases h)
        refine ⟨_, _, pre29 _ ?_, hrun, hended, _, _, rfl, ?_, ⟨_, rfl⟩, hW, hsame.mono (by decide) (by decide)⟩
        · show Steps p.tables e below (T27.setTop (mkF m 191 #[.val (.long q0), .second, .val (.long q1), .second, .val (.int p2), .val (.int p3), .val (.int p4), .val (.int p5), .val (.long lo), .second, .val (.long hi), .second, .val (.int (0 : Int32)), .val (.int ln), .val (.int po), .val .null, .val (.int (f_nn lo hi)), .val (.int (1 : Int32)), .val (.int pr)] [(.int (1 : Int32))])) _
          exact retN X27 hx (t := .boolean) Bd.returns (by simp) (hb hby at_191) hr
        · show Q0 Z q0 q1 p2 p3 p4 p5 h0 n0 _ T27.heap _
          rw [e27]
          exact ⟨rfl, N27⟩
      · have pre30 : ∀ t, Steps p.tables e below (T18.setTop (mkF m 148 #[.val (.long q0), .second, .val (.long q1), .second, .val (.int p2), .val (.int p3), .val (.int p4), .val (.int p5), .val (.long lo), .second, .val (.long hi), .second, .val (.int (0 : Int32)), .val (.int ln), .val (.int po), .val .null, .val (.int (f_nn lo hi)), .val (.int (0 : Int32)), .val (.int ((p5 &&& (2147483647 : Int32)) % ln))] [])) t → Steps p.tables e below (s₁.setTop (entryFrame m #[(.long q0), (.long q1), (.int p2), (.int p3), (.int p4), (.int p5)] maxLocals)) t := fun t kt => pre22 t (by
          show Steps p.tables e below (T18.setTop (mkF m 114 #[.val (.long q0), .second, .val (.long q1), .second, .val (.int p2), .val (.int p3), .val (.int p4), .val (.int p5), .val (.long lo), .second, .val (.long hi), .second, .val (.int (0 : Int32)), .val (.int ln), .val (.int po), .val .null, .val (.int (f_nn lo hi)), .unset, .unset] [(.int (lcmpW hi (0 : Int64)))])) _
          refine XS.ifYes X18.here hx rfl (pc0 := 114) (pc' := 126) rfl (hb hby at_114) rfl (Jvm.Free.XT.ll_ne_t hc114_23) (by decide) (by decide) ?_
          show Steps p.tables e below (T18.setTop (mkF m 126 #[.val (.long q0), .second, .val (.long q1), .second, .val (.int p2), .val (.int p3), .val (.int p4), .val (.int p5), .val (.long lo), .second, .val (.long hi), .second, .val (.int (0 : Int32)), .val (.int ln), .val (.int po), .val .null, .val (.int (f_nn lo hi)), .unset, .unset] [])) _
          refine XS.iconst X18.here hx rfl (hb hby at_126) ?_
          show Steps p.tables e below (T18.setTop (mkF m 127 #[.val (.long q0), .second, .val (.long q1), .second, .val (.int p2), .val (.int p3), .val (.int p4), .val (.int p5), .val (.long lo), .second, .val (.long hi), .second, .val (.int (0 : Int32)), .val (.int ln), .val (.int po), .val .null, .val (.int (f_nn lo hi)), .unset, .unset] [(.int (0 : Int32))])) _
          refine XS.istore X18.here hx rfl (hb hby at_127) rfl (l' := #[.val (.long q0), .second, .val (.long q1), .second, .val (.int p2), .val (.int p3), .val (.int p4), .val (.int p5), .val (.long lo), .second, .val (.long hi), .second, .val (.int (0 : Int32)), .val (.int ln), .val (.int po), .val .null, .val (.int (f_nn lo hi)), .val (.int (0 : Int32)), .unset]) rfl ?_
          show Steps p.tables e below (T18.setTop (mkF m 129 #[.val (.long q0), .second, .val (.long q1), .second, .val (.int p2), .val (.int p3), .val (.int p4), .val (.int p5), .val (.long lo), .second, .val (.long hi), .second, .val (.int (0 : Int32)), .val (.int ln), .val (.int po), .val .null, .val (.int (f_nn lo hi)), .val (.int (0 : Int32)), .unset] [])) _
          refine XS.iload X18.here hx rfl (hb hby at_129) rfl ?_
          show Steps p.tables e below (T18.setTop (mkF m 131 #[.val (.long q0), .second, .val (.long q1), .second, .val (.int p2), .val (.int p3), .val (.int p4), .val (.int p5), .val (.long lo), .second, .val (.long hi), .second, .val (.int (0 : Int32)), .val (.int ln), .val (.int po), .val .null, .val (.int (f_nn lo hi)), .val (.int (0 : Int32)), .unset] [(.int (f_nn lo hi))])) _
          refine XS.iload X18.here hx rfl (hb hby at_131) rfl ?_
          show Steps p.tables e below (T18.setTop (mkF m 133 #[.val (.long q0), .second, .val (.long q1), .second, .val (.int p2), .val (.int p3), .val (.int p4), .val (.int p5), .val (.long lo), .second, .val (.long hi), .second, .val (.int (0 : Int32)), .val (.int ln), .val (.int po), .val .null, .val (.int (f_nn lo hi)), .val (.int (0 : Int32)), .unset] [(.int (0 : Int32)), (.int (f_nn lo hi))])) _
          refine XS.icmpYes X18.here hx rfl (pc0 := 133) (pc' := 138) rfl (hb hby at_133) rfl (teq (by unfold f_nn; rw [if_pos hc107_21, if_neg hc114_23] : (f_nn lo hi) = (0 : Int32))).1 (by decide) (by decide) ?_
          show Steps p.tables e below (T18.setTop (mkF m 138 #[.val (.long q0), .second, .val (.long q1), .second, .val (.int p2), .val (.int p3), .val (.int p4), .val (.int p5), .val (.long lo), .second, .val (.long hi), .second, .val (.int (0 : Int32)), .val (.int ln), .val (.int po), .val .null, .val (.int (f_nn lo hi)), .val (.int (0 : Int32)), .unset] [])) _
          refine XS.iload X18.here hx rfl (hb hby at_138) rfl ?_
          show Steps p.tables e below (T18.setTop (mkF m 140 #[.val (.long q0), .second, .val (.long q1), .second, .val (.int p2), .val (.int p3), .val (.int p4), .val (.int p5), .val (.long lo), .second, .val (.long hi), .second, .val (.int (0 : Int32)), .val (.int ln), .val (.int po), .val .null, .val (.int (f_nn lo hi)), .val (.int (0 : Int32)), .unset] [(.int p5)])) _
          refine X18.ldcInt hx hown (mvT hZ (hw _ (List.mem_of_getElem? (i := 0) rfl))) (g := (mkF m 140 #[.val (.long q0), .second, .val (.long q1), .second, .val (.int p2), .val (.int p3), .val (.int p4), .val (.int p5), .val (.long lo), .second, .val (.long hi), .second, .val (.int (0 : Int32)), .val (.int ln), .val (.int po), .val .null, .val (.int (f_nn lo hi)), .val (.int (0 : Int32)), .unset] [(.int p5)])) rfl (hb hby at_140) _ ?_
          show Steps p.tables e below (T18.setTop (mkF m 142 #[.val (.long q0), .second, .val (.long q1), .second, .val (.int p2), .val (.int p3), .val (.int p4), .val (.int p5), .val (.long lo), .second, .val (.long hi), .second, .val (.int (0 : Int32)), .val (.int ln), .val (.int po), .val .null, .val (.int (f_nn lo hi)), .val (.int (0 : Int32)), .unset] [(.int (2147483647 : Int32)), (.int p5)])) _
          refine XS.iand X18.here hx rfl (hb hby at_142) rfl ?_
          show Steps p.tables e below (T18.setTop (mkF m 143 #[.val (.long q0), .second, .val (.long q1), .second, .val (.int p2), .val (.int p3), .val (.int p4), .val (.int p5), .val (.long lo), .second, .val (.long hi), .second, .val (.int (0 : Int32)), .val (.int ln), .val (.int po), .val .null, .val (.int (f_nn lo hi)), .val (.int (0 : Int32)), .unset] [(.int (p5 &&& (2147483647 : Int32)))])) _
          refine XS.iload X18.here hx rfl (hb hby at_143) rfl ?_
          show Steps p.tables e below (T18.setTop (mkF m 145 #[.val (.long q0), .second, .val (.long q1), .second, .val (.int p2), .val (.int p3), .val (.int p4), .val (.int p5), .val (.long lo), .second, .val (.long hi), .second, .val (.int (0 : Int32)), .val (.int ln), .val (.int po), .val .null, .val (.int (f_nn lo hi)), .val (.int (0 : Int32)), .unset] [(.int ln), (.int (p5 &&& (2147483647 : Int32)))])) _
          refine XS.irem X18.here hx rfl (hb hby at_145) rfl (own_lnz ln hm14) ?_
          rw [own_irem]
          show Steps p.tables e below (T18.setTop (mkF m 146 #[.val (.long q0), .second, .val (.long q1), .second, .val (.int p2), .val (.int p3), .val (.int p4), .val (.int p5), .val (.long lo), .second, .val (.long hi), .second, .val (.int (0 : Int32)), .val (.int ln), .val (.int po), .val .null, .val (.int (f_nn lo hi)), .val (.int (0 : Int32)), .unset] [(.int ((p5 &&& (2147483647 : Int32)) % ln))])) _
          refine XS.istore X18.here hx rfl (hb hby at_146) rfl (l' := #[.val (.long q0), .second, .val (.long q1), .second, .val (.int p2), .val (.int p3), .val (.int p4), .val (.int p5), .val (.long lo), .second, .val (.long hi), .second, .val (.int (0 : Int32)), .val (.int ln), .val (.int po), .val .null, .val (.int (f_nn lo hi)), .val (.int (0 : Int32)), .val (.int ((p5 &&& (2147483647 : Int32)) % ln))]) rfl ?_
          exact kt)
        obtain ⟨pr, hm31, pre31⟩ : ∃ (pr : Int32), (True) ∧ ∀ t, Steps p.tables e below (T18.setTop (mkF m 148 #[.val (.long q0), .second, .val (.long q1), .second, .val (.int p2), .val (.int p3), .val (.int p4), .val (.int p5), .val (.long lo), .second, .val (.long hi), .second, .val (.int (0 : Int32)), .val (.int ln), .val (.int po), .val .null, .val (.int (f_nn lo hi)), .val (.int (0 : Int32)), .val (.int pr)] [])) t → Steps p.tables e below (s₁.setTop (entryFrame m #[(.long q0), (.long q1), (.int p2), (.int p3), (.int p4), (.int p5)] maxLocals)) t := ⟨((p5 &&& (2147483647 : Int32)) % ln), trivial, pre30⟩
        have pre32 : ∀ t, Steps p.tables e below (T18.setTop (mkF m 191 #[.val (.long q0), .second, .val (.long q1), .second, .val (.int p2), .val (.int p3), .val (.int p4), .val (.int p5), .val (.long lo), .second, .val (.long hi), .second, .val (.int (0 : Int32)), .val (.int ln), .val (.int po), .val .null, .val (.int (f_nn lo hi)), .val (.int (0 : Int32)), .val (.int pr)] [(.int (1 : Int32))])) t → Steps p.tables e below (s₁.setTop (entryFrame m #[(.long q0), (.long q1), (.int p2), (.int p3), (.int p4), (.int p5)] maxLocals)) t := fun t kt => pre31 t (by
          show Steps p.tables e below (T18.setTop (mkF m 148 #[.val (.long q0), .second, .val (.long q1), .second, .val (.int p2), .val (.int p3), .val (.int p4), .val (.int p5), .val (.long lo), .second, .val (.long hi), .second, .val (.int (0 : Int32)), .val (.int ln), .val (.int po), .val .null, .val (.int (f_nn lo hi)), .val (.int (0 : Int32)), .val (.int pr)] [])) _
          refine XS.iload X18.here hx rfl (hb hby at_148) rfl ?_
          show Steps p.tables e below (T18.setTop (mkF m 150 #[.val (.long q0), .second, .val (.long q1), .second, .val (.int p2), .val (.int p3), .val (.int p4), .val (.int p5), .val (.long lo), .second, .val (.long hi), .second, .val (.int (0 : Int32)), .val (.int ln), .val (.int po), .val .null, .val (.int (f_nn lo hi)), .val (.int (0 : Int32)), .val (.int pr)] [(.int (f_nn lo hi))])) _
          refine XS.ifYes X18.here hx rfl (pc0 := 150) (pc' := 169) rfl (hb hby at_150) rfl ((if0 _ _).trans (teq (by unfold f_nn; rw [if_pos hc107_21, if_neg hc114_23] : (f_nn lo hi) = (0 : Int32))).1) (by decide) (by decide) ?_
          show Steps p.tables e below (T18.setTop (mkF m 169 #[.val (.long q0), .second, .val (.long q1), .second, .val (.int p2), .val (.int p3), .val (.int p4), .val (.int p5), .val (.long lo), .second, .val (.long hi), .second, .val (.int (0 : Int32)), .val (.int ln), .val (.int po), .val .null, .val (.int (f_nn lo hi)), .val (.int (0 : Int32)), .val (.int pr)] [])) _
          refine XS.iload X18.here hx rfl (hb hby at_169) rfl ?_
          show Steps p.tables e below (T18.setTop (mkF m 171 #[.val (.long q0), .second, .val (.long q1), .second, .val (.int p2), .val (.int p3), .val (.int p4), .val (.int p5), .val (.long lo), .second, .val (.long hi), .second, .val (.int (0 : Int32)), .val (.int ln), .val (.int po), .val .null, .val (.int (f_nn lo hi)), .val (.int (0 : Int32)), .val (.int pr)] [(.int (0 : Int32))])) _
          refine XS.ifYes X18.here hx rfl (pc0 := 171) (pc' := 190) rfl (hb hby at_171) rfl ((if0 _ _).trans (teq (by decide : (0 : Int32) = (0 : Int32))).1) (by decide) (by decide) ?_
          show Steps p.tables e below (T18.setTop (mkF m 190 #[.val (.long q0), .second, .val (.long q1), .second, .val (.int p2), .val (.int p3), .val (.int p4), .val (.int p5), .val (.long lo), .second, .val (.long hi), .second, .val (.int (0 : Int32)), .val (.int ln), .val (.int po), .val .null, .val (.int (f_nn lo hi)), .val (.int (0 : Int32)), .val (.int pr)] [])) _
          refine XS.iconst X18.here hx rfl (hb hby at_190) ?_
          exact kt)
        obtain ⟨fs, hr, hrun, hended, hW, hsame⟩ := X18.leave (v := some (.int (1 : Int32))) (fun h => by rw [Bd.returns] at h; cases h)
        refine ⟨_, _, pre32 _ ?_, hrun, hended, _, _, rfl, ?_, ⟨_, rfl⟩, hW, hsame.mono (by decide) (by decide)⟩
        · show Steps p.tables e below (T18.setTop (mkF m 191 #[.val (.long q0), .second, .val (.long q1), .second, .val (.int p2), .val (.int p3), .val (.int p4), .val (.int p5), .val (.long lo), .second, .val (.long hi), .second, .val (.int (0 : Int32)), .val (.int ln), .val (.int po), .val .null, .val (.int (f_nn lo hi)), .val (.int (0 : Int32)), .val (.int pr)] [(.int (1 : Int32))])) _
          exact retN X18 hx (t := .boolean) Bd.returns (by simp) (hb hby at_191) hr
        · show Q0 Z q0 q1 p2 p3 p4 p5 h0 n0 _ T18.heap _
          rw [e18]
          exact ⟨rfl, N18⟩
    · have pre33 : ∀ t, Steps p.tables e below (T18.setTop (mkF m 148 #[.val (.long q0), .second, .val (.long q1), .second, .val (.int p2), .val (.int p3), .val (.int p4), .val (.int p5), .val (.long lo), .second, .val (.long hi), .second, .val (.int (0 : Int32)), .val (.int ln), .val (.int po), .val .null, .val (.int (f_nn lo hi)), .val (.int (0 : Int32)), .val (.int ((p5 &&& (2147483647 : Int32)) % ln))] [])) t → Steps p.tables e below (s₁.setTop (entryFrame m #[(.long q0), (.long q1), (.int p2), (.int p3), (.int p4), (.int p5)] maxLocals)) t := fun t kt => pre20 t (by
        show Steps p.tables e below (T18.setTop (mkF m 107 #[.val (.long q0), .second, .val (.long q1), .second, .val (.int p2), .val (.int p3), .val (.int p4), .val (.int p5), .val (.long lo), .second, .val (.long hi), .second, .val (.int (0 : Int32)), .val (.int ln), .val (.int po), .val .null, .val (.int (f_nn lo hi)), .unset, .unset] [(.int (lcmpW lo (0 : Int64)))])) _
        refine XS.ifYes X18.here hx rfl (pc0 := 107) (pc' := 126) rfl (hb hby at_107) rfl (Jvm.Free.XT.ll_ne_t hc107_21) (by decide) (by decide) ?_
        show Steps p.tables e below (T18.setTop (mkF m 126 #[.val (.long q0), .second, .val (.long q1), .second, .val (.int p2), .val (.int p3), .val (.int p4), .val (.int p5), .val (.long lo), .second, .val (.long hi), .second, .val (.int (0 : Int32)), .val (.int ln), .val (.int po), .val .null, .val (.int (f_nn lo hi)), .unset, .unset] [])) _
        refine XS.iconst X18.here hx rfl (hb hby at_126) ?_
        show Steps p.tables e below (T18.setTop (mkF m 127 #[.val (.long q0), .second, .val (.long q1), .second, .val (.int p2), .val (.int p3), .val (.int p4), .val (.int p5), .val (.long lo), .second, .val (.long hi), .second, .val (.int (0 : Int32)), .val (.int ln), .val (.int po), .val .null, .val (.int (f_nn lo hi)), .unset, .unset] [(.int (0 : Int32))])) _
        refine XS.istore X18.here hx rfl (hb hby at_127) rfl (l' := #[.val (.long q0), .second, .val (.long q1), .second, .val (.int p2), .val (.int p3), .val (.int p4), .val (.int p5), .val (.long lo), .second, .val (.long hi), .second, .val (.int (0 : Int32)), .val (.int ln), .val (.int po), .val .null, .val (.int (f_nn lo hi)), .val (.int (0 : Int32)), .unset]) rfl ?_
        show Steps p.tables e below (T18.setTop (mkF m 129 #[.val (.long q0), .second, .val (.long q1), .second, .val (.int p2), .val (.int p3), .val (.int p4), .val (.int p5), .val (.long lo), .second, .val (.long hi), .second, .val (.int (0 : Int32)), .val (.int ln), .val (.int po), .val .null, .val (.int (f_nn lo hi)), .val (.int (0 : Int32)), .unset] [])) _
        refine XS.iload X18.here hx rfl (hb hby at_129) rfl ?_
        show Steps p.tables e below (T18.setTop (mkF m 131 #[.val (.long q0), .second, .val (.long q1), .second, .val (.int p2), .val (.int p3), .val (.int p4), .val (.int p5), .val (.long lo), .second, .val (.long hi), .second, .val (.int (0 : Int32)), .val (.int ln), .val (.int po), .val .null, .val (.int (f_nn lo hi)), .val (.int (0 : Int32)), .unset] [(.int (f_nn lo hi))])) _
        refine XS.iload X18.here hx rfl (hb hby at_131) rfl ?_
        show Steps p.tables e below (T18.setTop (mkF m 133 #[.val (.long q0), .second, .val (.long q1), .second, .val (.int p2), .val (.int p3), .val (.int p4), .val (.int p5), .val (.long lo), .second, .val (.long hi), .second, .val (.int (0 : Int32)), .val (.int ln), .val (.int po), .val .null, .val (.int (f_nn lo hi)), .val (.int (0 : Int32)), .unset] [(.int (0 : Int32)), (.int (f_nn lo hi))])) _
        refine XS.icmpYes X18.here hx rfl (pc0 := 133) (pc' := 138) rfl (hb hby at_133) rfl (teq (by unfold f_nn; rw [if_neg hc107_21] : (f_nn lo hi) = (0 : Int32))).1 (by decide) (by decide) ?_
        show Steps p.tables e below (T18.setTop (mkF m 138 #[.val (.long q0), .second, .val (.long q1), .second, .val (.int p2), .val (.int p3), .val (.int p4), .val (.int p5), .val (.long lo), .second, .val (.long hi), .second, .val (.int (0 : Int32)), .val (.int ln), .val (.int po), .val .null, .val (.int (f_nn lo hi)), .val (.int (0 : Int32)), .unset] [])) _
        refine XS.iload X18.here hx rfl (hb hby at_138) rfl ?_
        show Steps p.tables e below (T18.setTop (mkF m 140 #[.val (.long q0), .second, .val (.long q1), .second, .val (.int p2), .val (.int p3), .val (.int p4), .val (.int p5), .val (.long lo), .second, .val (.long hi), .second, .val (.int (0 : Int32)), .val (.int ln), .val (.int po), .val .null, .val (.int (f_nn lo hi)), .val (.int (0 : Int32)), .unset] [(.int p5)])) _
        refine X18.ldcInt hx hown (mvT hZ (hw _ (List.mem_of_getElem? (i := 0) rfl))) (g := (mkF m 140 #[.val (.long q0), .second, .val (.long q1), .second, .val (.int p2), .val (.int p3), .val (.int p4), .val (.int p5), .val (.long lo), .second, .val (.long hi), .second, .val (.int (0 : Int32)), .val (.int ln), .val (.int po), .val .null, .val (.int (f_nn lo hi)), .val (.int (0 : Int32)), .unset] [(.int p5)])) rfl (hb hby at_140) _ ?_
        show Steps p.tables e below (T18.setTop (mkF m 142 #[.val (.long q0), .second, .val (.long q1), .second, .val (.int p2), .val (.int p3), .val (.int p4), .val (.int p5), .val (.long lo), .second, .val (.long hi), .second, .val (.int (0 : Int32)), .val (.int ln), .val (.int po), .val .null, .val (.int (f_nn lo hi)), .val (.int (0 : Int32)), .unset] [(.int (2147483647 : Int32)), (.int p5)])) _
        refine XS.iand X18.here hx rfl (hb hby at_142) rfl ?_
        show Steps p.tables e below (T18.setTop (mkF m 143 #[.val (.long q0), .second, .val (.long q1), .second, .val (.int p2), .val (.int p3), .val (.int p4), .val (.int p5), .val (.long lo), .second, .val (.long hi), .second, .val (.int (0 : Int32)), .val (.int ln), .val (.int po), .val .null, .val (.int (f_nn lo hi)), .val (.int (0 : Int32)), .unset] [(.int (p5 &&& (2147483647 : Int32)))])) _
        refine XS.iload X18.here hx rfl (hb hby at_143) rfl ?_
        show Steps p.tables e below (T18.setTop (mkF m 145 #[.val (.long q0), .second, .val (.long q1), .second, .val (.int p2), .val (.int p3), .val (.int p4), .val (.int p5), .val (.long lo), .second, .val (.long hi), .second, .val (.int (0 : Int32)), .val (.int ln), .val (.int po), .val .null, .val (.int (f_nn lo hi)), .val (.int (0 : Int32)), .unset] [(.int ln), (.int (p5 &&& (2147483647 : Int32)))])) _
        refine XS.irem X18.here hx rfl (hb hby at_145) rfl (own_lnz ln hm14) ?_
        rw [own_irem]
        show Steps p.tables e below (T18.setTop (mkF m 146 #[.val (.long q0), .second, .val (.long q1), .second, .val (.int p2), .val (.int p3), .val (.int p4), .val (.int p5), .val (.long lo), .second, .val (.long hi), .second, .val (.int (0 : Int32)), .val (.int ln), .val (.int po), .val .null, .val (.int (f_nn lo hi)), .val (.int (0 : Int32)), .unset] [(.int ((p5 &&& (2147483647 : Int32)) % ln))])) _
        refine XS.istore X18.here hx rfl (hb hby at_146) rfl (l' := #[.val (.long q0), .second, .val (.long q1), .second, .val (.int p2), .val (.int p3), .val (.int p4), .val (.int p5), .val (.long lo), .second, .val (.long hi), .second, .val (.int (0 : Int32)), .val (.int ln), .val (.int po), .val .null, .val (.int (f_nn lo hi)), .val (.int (0 : Int32)), .val (.int ((p5 &&& (2147483647 : Int32)) % ln))]) rfl ?_
        exact kt)
      obtain ⟨pr, hm34, pre34⟩ : ∃ (pr : Int32), (True) ∧ ∀ t, Steps p.tables e below (T18.setTop (mkF m 148 #[.val (.long q0), .second, .val (.long q1), .second, .val (.int p2), .val (.int p3), .val (.int p4), .val (.int p5), .val (.long lo), .second, .val (.long hi), .second, .val (.int (0 : Int32)), .val (.int ln), .val (.int po), .val .null, .val (.int (f_nn lo hi)), .val (.int (0 : Int32)), .val (.int pr)] [])) t → Steps p.tables e below (s₁.setTop (entryFrame m #[(.long q0), (.long q1), (.int p2), (.int p3), (.int p4), (.int p5)] maxLocals)) t := ⟨((p5 &&& (2147483647 : Int32)) % ln), trivial, pre33⟩
      have pre35 : ∀ t, Steps p.tables e below (T18.setTop (mkF m 191 #[.val (.long q0), .second, .val (.long q1), .second, .val (.int p2), .val (.int p3), .val (.int p4), .val (.int p5), .val (.long lo), .second, .val (.long hi), .second, .val (.int (0 : Int32)), .val (.int ln), .val (.int po), .val .null, .val (.int (f_nn lo hi)), .val (.int (0 : Int32)), .val (.int pr)] [(.int (1 : Int32))])) t → Steps p.tables e below (s₁.setTop (entryFrame m #[(.long q0), (.long q1), (.int p2), (.int p3), (.int p4), (.int p5)] maxLocals)) t := fun t kt => pre34 t (by
        show Steps p.tables e below (T18.setTop (mkF m 148 #[.val (.long q0), .second, .val (.long q1), .second, .val (.int p2), .val (.int p3), .val (.int p4), .val (.int p5), .val (.long lo), .second, .val (.long hi), .second, .val (.int (0 : Int32)), .val (.int ln), .val (.int po), .val .null, .val (.int (f_nn lo hi)), .val (.int (0 : Int32)), .val (.int pr)] [])) _
        refine XS.iload X18.here hx rfl (hb hby at_148) rfl ?_
        show Steps p.tables e below (T18.setTop (mkF m 150 #[.val (.long q0), .second, .val (.long q1), .second, .val (.int p2), .val (.int p3), .val (.int p4), .val (.int p5), .val (.long lo), .second, .val (.long hi), .second, .val (.int (0 : Int32)), .val (.int ln), .val (.int po), .val .null, .val (.int (f_nn lo hi)), .val (.int (0 : Int32)), .val (.int pr)] [(.int (f_nn lo hi))])) _
        refine XS.ifYes X18.here hx rfl (pc0 := 150) (pc' := 169) rfl (hb hby at_150) rfl ((if0 _ _).trans (teq (by unfold f_nn; rw [if_neg hc107_21] : (f_nn lo hi) = (0 : Int32))).1) (by decide) (by decide) ?_
        show Steps p.tables e below (T18.setTop (mkF m 169 #[.val (.long q0), .second, .val (.long q1), .second, .val (.int p2), .val (.int p3), .val (.int p4), .val (.int p5), .val (.long lo), .second, .val (.long hi), .second, .val (.int (0 : Int32)), .val (.int ln), .val (.int po), .val .null, .val (.int (f_nn lo hi)), .val (.int (0 : Int32)), .val (.int pr)] [])) _
        refine XS.iload X18.here hx rfl (hb hby at_169) rfl ?_
        show Steps p.tables e below (T18.setTop (mkF m 171 #[.val (.long q0), .second, .val (.long q1), .second, .val (.int p2), .val (.int p3), .val (.int p4), .val (.int p5), .val (.long lo), .second, .val (.long hi), .second, .val (.int (0 : Int32)), .val (.int ln), .val (.int po), .val .null, .val (.int (f_nn lo hi)), .val (.int (0 : Int32)), .val (.int pr)] [(.int (0 : Int32))])) _
        refine XS.ifYes X18.here hx rfl (pc0 := 171) (pc' := 190) rfl (hb hby at_171) rfl ((if0 _ _).trans (teq (by decide : (0 : Int32) = (0 : Int32))).1) (by decide) (by decide) ?_
        show Steps p.tables e below (T18.setTop (mkF m 190 #[.val (.long q0), .second, .val (.long q1), .second, .val (.int p2), .val (.int p3), .val (.int p4), .val (.int p5), .val (.long lo), .second, .val (.long hi), .second, .val (.int (0 : Int32)), .val (.int ln), .val (.int po), .val .null, .val (.int (f_nn lo hi)), .val (.int (0 : Int32)), .val (.int pr)] [])) _
        refine XS.iconst X18.here hx rfl (hb hby at_190) ?_
        exact kt)
      obtain ⟨fs, hr, hrun, hended, hW, hsame⟩ := X18.leave (v := some (.int (1 : Int32))) (fun h => by rw [Bd.returns] at h; cases h)
      refine ⟨_, _, pre35 _ ?_, hrun, hended, _, _, rfl, ?_, ⟨_, rfl⟩, hW, hsame.mono (by decide) (by decide)⟩
      · show Steps p.tables e below (T18.setTop (mkF m 191 #[.val (.long q0), .second, .val (.long q1), .second, .val (.int p2), .val (.int p3), .val (.int p4), .val (.int p5), .val (.long lo), .second, .val (.long hi), .second, .val (.int (0 : Int32)), .val (.int ln), .val (.int po), .val .null, .val (.int (f_nn lo hi)), .val (.int (0 : Int32)), .val (.int pr)] [(.int (1 : Int32))])) _
        exact retN X18 hx (t := .boolean) Bd.returns (by simp) (hb hby at_191) hr
      · show Q0 Z q0 q1 p2 p3 p4 p5 h0 n0 _ T18.heap _
        rw [e18]
        exact ⟨rfl, N18⟩
  · have pre36 : ∀ t, Steps p.tables e below (s₁.setTop (mkF m 55 #[.val (.long q0), .second, .val (.long q1), .second, .val (.int p2), .val (.int p3), .val (.int p4), .val (.int p5), .val (.long lo), .second, .val (.long hi), .second, .val (.int (1 : Int32)), .val (.int (((128 : Int32) + (p3 &&& (63 : Int32))) + (1 : Int32))), .unset, .unset, .unset, .unset, .unset] [])) t → Steps p.tables e below (s₁.setTop (entryFrame m #[(.long q0), (.long q1), (.int p2), (.int p3), (.int p4), (.int p5)] maxLocals)) t := fun t kt => pre11 t (by
      show Steps p.tables e below (s₁.setTop (mkF m 32 #[.val (.long q0), .second, .val (.long q1), .second, .val (.int p2), .val (.int p3), .val (.int p4), .val (.int p5), .val (.long lo), .second, .val (.long hi), .second, .unset, .unset, .unset, .unset, .unset, .unset, .unset] [(.int (p2 &&& (1 : Int32)))])) _
      refine XS.ifNo X0.here hx rfl (hb hby at_32) rfl ((if0 _ _).trans (feq hc32_12).1) ?_
      show Steps p.tables e below (s₁.setTop (mkF m 35 #[.val (.long q0), .second, .val (.long q1), .second, .val (.int p2), .val (.int p3), .val (.int p4), .val (.int p5), .val (.long lo), .second, .val (.long hi), .second, .unset, .unset, .unset, .unset, .unset, .unset, .unset] [])) _
      refine XS.iconst X0.here hx rfl (hb hby at_35) ?_
      show Steps p.tables e below (s₁.setTop (mkF m 36 #[.val (.long q0), .second, .val (.long q1), .second, .val (.int p2), .val (.int p3), .val (.int p4), .val (.int p5), .val (.long lo), .second, .val (.long hi), .second, .unset, .unset, .unset, .unset, .unset, .unset, .unset] [(.int (1 : Int32))])) _
      refine XS.goto X0.here hx rfl (pc0 := 36) (pc' := 40) rfl (hb hby at_36) (by decide) (by decide) ?_
      show Steps p.tables e below (s₁.setTop (mkF m 40 #[.val (.long q0), .second, .val (.long q1), .second, .val (.int p2), .val (.int p3), .val (.int p4), .val (.int p5), .val (.long lo), .second, .val (.long hi), .second, .unset, .unset, .unset, .unset, .unset, .unset, .unset] [(.int (1 : Int32))])) _
      refine XS.istore X0.here hx rfl (hb hby at_40) rfl (l' := #[.val (.long q0), .second, .val (.long q1), .second, .val (.int p2), .val (.int p3), .val (.int p4), .val (.int p5), .val (.long lo), .second, .val (.long hi), .second, .val (.int (1 : Int32)), .unset, .unset, .unset, .unset, .unset, .unset]) rfl ?_
      show Steps p.tables e below (s₁.setTop (mkF m 42 #[.val (.long q0), .second, .val (.long q1), .second, .val (.int p2), .val (.int p3), .val (.int p4), .val (.int p5), .val (.long lo), .second, .val (.long hi), .second, .val (.int (1 : Int32)), .unset, .unset, .unset, .unset, .unset, .unset] [])) _
      refine XS.sipush X0.here hx rfl (hb hby at_42) ?_
      show Steps p.tables e below (s₁.setTop (mkF m 45 #[.val (.long q0), .second, .val (.long q1), .second, .val (.int p2), .val (.int p3), .val (.int p4), .val (.int p5), .val (.long lo), .second, .val (.long hi), .second, .val (.int (1 : Int32)), .unset, .unset, .unset, .unset, .unset, .unset] [(.int (128 : Int32))])) _
      refine XS.iload X0.here hx rfl (hb hby at_45) rfl ?_
      show Steps p.tables e below (s₁.setTop (mkF m 47 #[.val (.long q0), .second, .val (.long q1), .second, .val (.int p2), .val (.int p3), .val (.int p4), .val (.int p5), .val (.long lo), .second, .val (.long hi), .second, .val (.int (1 : Int32)), .unset, .unset, .unset, .unset, .unset, .unset] [(.int p3), (.int (128 : Int32))])) _
      refine XS.bipush X0.here hx rfl (hb hby at_47) ?_
      show Steps p.tables e below (s₁.setTop (mkF m 49 #[.val (.long q0), .second, .val (.long q1), .second, .val (.int p2), .val (.int p3), .val (.int p4), .val (.int p5), .val (.long lo), .second, .val (.long hi), .second, .val (.int (1 : Int32)), .unset, .unset, .unset, .unset, .unset, .unset] [(.int (63 : Int32)), (.int p3), (.int (128 : Int32))])) _
      refine XS.iand X0.here hx rfl (hb hby at_49) rfl ?_
      show Steps p.tables e below (s₁.setTop (mkF m 50 #[.val (.long q0), .second, .val (.long q1), .second, .val (.int p2), .val (.int p3), .val (.int p4), .val (.int p5), .val (.long lo), .second, .val (.long hi), .second, .val (.int (1 : Int32)), .unset, .unset, .unset, .unset, .unset, .unset] [(.int (p3 &&& (63 : Int32))), (.int (128 : Int32))])) _
      refine XS.iadd X0.here hx rfl (hb hby at_50) rfl ?_
      show Steps p.tables e below (s₁.setTop (mkF m 51 #[.val (.long q0), .second, .val (.long q1), .second, .val (.int p2), .val (.int p3), .val (.int p4), .val (.int p5), .val (.long lo), .second, .val (.long hi), .second, .val (.int (1 : Int32)), .unset, .unset, .unset, .unset, .unset, .unset] [(.int ((128 : Int32) + (p3 &&& (63 : Int32))))])) _
      refine XS.iconst X0.here hx rfl (hb hby at_51) ?_
      show Steps p.tables e below (s₁.setTop (mkF m 52 #[.val (.long q0), .second, .val (.long q1), .second, .val (.int p2), .val (.int p3), .val (.int p4), .val (.int p5), .val (.long lo), .second, .val (.long hi), .second, .val (.int (1 : Int32)), .unset, .unset, .unset, .unset, .unset, .unset] [(.int (1 : Int32)), (.int ((128 : Int32) + (p3 &&& (63 : Int32))))])) _
      refine XS.iadd X0.here hx rfl (hb hby at_52) rfl ?_
      show Steps p.tables e below (s₁.setTop (mkF m 53 #[.val (.long q0), .second, .val (.long q1), .second, .val (.int p2), .val (.int p3), .val (.int p4), .val (.int p5), .val (.long lo), .second, .val (.long hi), .second, .val (.int (1 : Int32)), .unset, .unset, .unset, .unset, .unset, .unset] [(.int (((128 : Int32) + (p3 &&& (63 : Int32))) + (1 : Int32)))])) _
      refine XS.istore X0.here hx rfl (hb hby at_53) rfl (l' := #[.val (.long q0), .second, .val (.long q1), .second, .val (.int p2), .val (.int p3), .val (.int p4), .val (.int p5), .val (.long lo), .second, .val (.long hi), .second, .val (.int (1 : Int32)), .val (.int (((128 : Int32) + (p3 &&& (63 : Int32))) + (1 : Int32))), .unset, .unset, .unset, .unset, .unset]) rfl ?_
      exact kt)
    obtain ⟨ln, hm37, pre37⟩ : ∃ (ln : Int32), (129 ≤ ln.toInt ∧ ln.toInt ≤ 192) ∧ ∀ t, Steps p.tables e below (s₁.setTop (mkF m 55 #[.val (.long q0), .second, .val (.long q1), .second, .val (.int p2), .val (.int p3), .val (.int p4), .val (.int p5), .val (.long lo), .second, .val (.long hi), .second, .val (.int (1 : Int32)), .val (.int ln), .unset, .unset, .unset, .unset, .unset] [])) t → Steps p.tables e below (s₁.setTop (entryFrame m #[(.long q0), (.long q1), (.int p2), (.int p3), (.int p4), (.int p5)] maxLocals)) t := ⟨(((128 : Int32) + (p3 &&& (63 : Int32))) + (1 : Int32)), own_len p3, pre36⟩
    have pre38 : ∀ t, Steps p.tables e below (s₁.setTop (mkF m 73 #[.val (.long q0), .second, .val (.long q1), .second, .val (.int p2), .val (.int p3), .val (.int p4), .val (.int p5), .val (.long lo), .second, .val (.long hi), .second, .val (.int (1 : Int32)), .val (.int ln), .val (.int ((128 : Int32) + ((p4 &&& (2147483647 : Int32)) % (ln - (128 : Int32))))), .unset, .unset, .unset, .unset] [])) t → Steps p.tables e below (s₁.setTop (entryFrame m #[(.long q0), (.long q1), (.int p2), (.int p3), (.int p4), (.int p5)] maxLocals)) t := fun t kt => pre37 t (by
      show Steps p.tables e below (s₁.setTop (mkF m 55 #[.val (.long q0), .second, .val (.long q1), .second, .val (.int p2), .val (.int p3), .val (.int p4), .val (.int p5), .val (.long lo), .second, .val (.long hi), .second, .val (.int (1 : Int32)), .val (.int ln), .unset, .unset, .unset, .unset, .unset] [])) _
      refine XS.sipush X0.here hx rfl (hb hby at_55) ?_
      show Steps p.tables e below (s₁.setTop (mkF m 58 #[.val (.long q0), .second, .val (.long q1), .second, .val (.int p2), .val (.int p3), .val (.int p4), .val (.int p5), .val (.long lo), .second, .val (.long hi), .second, .val (.int (1 : Int32)), .val (.int ln), .unset, .unset, .unset, .unset, .unset] [(.int (128 : Int32))])) _
      refine XS.iload X0.here hx rfl (hb hby at_58) rfl ?_
      show Steps p.tables e below (s₁.setTop (mkF m 60 #[.val (.long q0), .second, .val (.long q1), .second, .val (.int p2), .val (.int p3), .val (.int p4), .val (.int p5), .val (.long lo), .second, .val (.long hi), .second, .val (.int (1 : Int32)), .val (.int ln), .unset, .unset, .unset, .unset, .unset] [(.int p4), (.int (128 : Int32))])) _
      refine X0.ldcInt hx hown (mvT hZ (hw _ (List.mem_of_getElem? (i := 0) rfl))) (g := (mkF m 60 #[.val (.long q0), .second, .val (.long q1), .second, .val (.int p2), .val (.int p3), .val (.int p4), .val (.int p5), .val (.long lo), .second, .val (.long hi), .second, .val (.int (1 : Int32)), .val (.int ln), .unset, .unset, .unset, .unset, .unset] [(.int p4), (.int (128 : Int32))])) rfl (hb hby at_60) _ ?_
      show Steps p.tables e below (s₁.setTop (mkF m 62 #[.val (.long q0), .second, .val (.long q1), .second, .val (.int p2), .val (.int p3), .val (.int p4), .val (.int p5), .val (.long lo), .second, .val (.long hi), .second, .val (.int (1 : Int32)), .val (.int ln), .unset, .unset, .unset, .unset, .unset] [(.int (2147483647 : Int32)), (.int p4), (.int (128 : Int32))])) _
      refine XS.iand X0.here hx rfl (hb hby at_62) rfl ?_
      show Steps p.tables e below (s₁.setTop (mkF m 63 #[.val (.long q0), .second, .val (.long q1), .second, .val (.int p2), .val (.int p3), .val (.int p4), .val (.int p5), .val (.long lo), .second, .val (.long hi), .second, .val (.int (1 : Int32)), .val (.int ln), .unset, .unset, .unset, .unset, .unset] [(.int (p4 &&& (2147483647 : Int32))), (.int (128 : Int32))])) _
      refine XS.iload X0.here hx rfl (hb hby at_63) rfl ?_
      show Steps p.tables e below (s₁.setTop (mkF m 65 #[.val (.long q0), .second, .val (.long q1), .second, .val (.int p2), .val (.int p3), .val (.int p4), .val (.int p5), .val (.long lo), .second, .val (.long hi), .second, .val (.int (1 : Int32)), .val (.int ln), .unset, .unset, .unset, .unset, .unset] [(.int ln), (.int (p4 &&& (2147483647 : Int32))), (.int (128 : Int32))])) _
      refine XS.sipush X0.here hx rfl (hb hby at_65) ?_
      show Steps p.tables e below (s₁.setTop (mkF m 68 #[.val (.long q0), .second, .val (.long q1), .second, .val (.int p2), .val (.int p3), .val (.int p4), .val (.int p5), .val (.long lo), .second, .val (.long hi), .second, .val (.int (1 : Int32)), .val (.int ln), .unset, .unset, .unset, .unset, .unset] [(.int (128 : Int32)), (.int ln), (.int (p4 &&& (2147483647 : Int32))), (.int (128 : Int32))])) _
      refine XS.isub X0.here hx rfl (hb hby at_68) rfl ?_
      show Steps p.tables e below (s₁.setTop (mkF m 69 #[.val (.long q0), .second, .val (.long q1), .second, .val (.int p2), .val (.int p3), .val (.int p4), .val (.int p5), .val (.long lo), .second, .val (.long hi), .second, .val (.int (1 : Int32)), .val (.int ln), .unset, .unset, .unset, .unset, .unset] [(.int (ln - (128 : Int32))), (.int (p4 &&& (2147483647 : Int32))), (.int (128 : Int32))])) _
      refine XS.irem X0.here hx rfl (hb hby at_69) rfl (own_snz ln hm37) ?_
      rw [own_irem]
      show Steps p.tables e below (s₁.setTop (mkF m 70 #[.val (.long q0), .second, .val (.long q1), .second, .val (.int p2), .val (.int p3), .val (.int p4), .val (.int p5), .val (.long lo), .second, .val (.long hi), .second, .val (.int (1 : Int32)), .val (.int ln), .unset, .unset, .unset, .unset, .unset] [(.int ((p4 &&& (2147483647 : Int32)) % (ln - (128 : Int32)))), (.int (128 : Int32))])) _
      refine XS.iadd X0.here hx rfl (hb hby at_70) rfl ?_
      show Steps p.tables e below (s₁.setTop (mkF m 71 #[.val (.long q0), .second, .val (.long q1), .second, .val (.int p2), .val (.int p3), .val (.int p4), .val (.int p5), .val (.long lo), .second, .val (.long hi), .second, .val (.int (1 : Int32)), .val (.int ln), .unset, .unset, .unset, .unset, .unset] [(.int ((128 : Int32) + ((p4 &&& (2147483647 : Int32)) % (ln - (128 : Int32)))))])) _
      refine XS.istore X0.here hx rfl (hb hby at_71) rfl (l' := #[.val (.long q0), .second, .val (.long q1), .second, .val (.int p2), .val (.int p3), .val (.int p4), .val (.int p5), .val (.long lo), .second, .val (.long hi), .second, .val (.int (1 : Int32)), .val (.int ln), .val (.int ((128 : Int32) + ((p4 &&& (2147483647 : Int32)) % (ln - (128 : Int32))))), .unset, .unset, .unset, .unset]) rfl ?_
      exact kt)
    obtain ⟨po, hm39, pre39⟩ : ∃ (po : Int32), (128 ≤ po.toInt ∧ po.toInt < ln.toInt) ∧ ∀ t, Steps p.tables e below (s₁.setTop (mkF m 73 #[.val (.long q0), .second, .val (.long q1), .second, .val (.int p2), .val (.int p3), .val (.int p4), .val (.int p5), .val (.long lo), .second, .val (.long hi), .second, .val (.int (1 : Int32)), .val (.int ln), .val (.int po), .unset, .unset, .unset, .unset] [])) t → Steps p.tables e below (s₁.setTop (entryFrame m #[(.long q0), (.long q1), (.int p2), (.int p3), (.int p4), (.int p5)] maxLocals)) t := ⟨((128 : Int32) + ((p4 &&& (2147483647 : Int32)) % (ln - (128 : Int32)))), own_pos p4 ln hm37, pre38⟩
    have pre40 : ∀ t, Steps p.tables e below (s₁.setTop (mkF m 83 #[.val (.long q0), .second, .val (.long q1), .second, .val (.int p2), .val (.int p3), .val (.int p4), .val (.int p5), .val (.long lo), .second, .val (.long hi), .second, .val (.int (1 : Int32)), .val (.int ln), .val (.int po), .unset, .unset, .unset, .unset] [(.int ln), (.int po), .null])) t → Steps p.tables e below (s₁.setTop (entryFrame m #[(.long q0), (.long q1), (.int p2), (.int p3), (.int p4), (.int p5)] maxLocals)) t := fun t kt => pre39 t (by
      show Steps p.tables e below (s₁.setTop (mkF m 73 #[.val (.long q0), .second, .val (.long q1), .second, .val (.int p2), .val (.int p3), .val (.int p4), .val (.int p5), .val (.long lo), .second, .val (.long hi), .second, .val (.int (1 : Int32)), .val (.int ln), .val (.int po), .unset, .unset, .unset, .unset] [])) _
      refine XS.iload X0.here hx rfl (hb hby at_73) rfl ?_
      show Steps p.tables e below (s₁.setTop (mkF m 75 #[.val (.long q0), .second, .val (.long q1), .second, .val (.int p2), .val (.int p3), .val (.int p4), .val (.int p5), .val (.long lo), .second, .val (.long hi), .second, .val (.int (1 : Int32)), .val (.int ln), .val (.int po), .unset, .unset, .unset, .unset] [(.int (1 : Int32))])) _
      refine XS.ifNo X0.here hx rfl (hb hby at_75) rfl ((if0 _ _).trans (feq (by decide : ¬ ((1 : Int32) = (0 : Int32)))).1) ?_
      show Steps p.tables e below (s₁.setTop (mkF m 78 #[.val (.long q0), .second, .val (.long q1), .second, .val (.int p2), .val (.int p3), .val (.int p4), .val (.int p5), .val (.long lo), .second, .val (.long hi), .second, .val (.int (1 : Int32)), .val (.int ln), .val (.int po), .unset, .unset, .unset, .unset] [])) _
      refine XS.aconstNull X0.here hx rfl (hb hby at_78) ?_
      show Steps p.tables e below (s₁.setTop (mkF m 79 #[.val (.long q0), .second, .val (.long q1), .second, .val (.int p2), .val (.int p3), .val (.int p4), .val (.int p5), .val (.long lo), .second, .val (.long hi), .second, .val (.int (1 : Int32)), .val (.int ln), .val (.int po), .unset, .unset, .unset, .unset] [.null])) _
      refine XS.iload X0.here hx rfl (hb hby at_79) rfl ?_
      show Steps p.tables e below (s₁.setTop (mkF m 81 #[.val (.long q0), .second, .val (.long q1), .second, .val (.int p2), .val (.int p3), .val (.int p4), .val (.int p5), .val (.long lo), .second, .val (.long hi), .second, .val (.int (1 : Int32)), .val (.int ln), .val (.int po), .unset, .unset, .unset, .unset] [(.int po), .null])) _
      refine XS.iload X0.here hx rfl (hb hby at_81) rfl ?_
      exact kt)
    obtain ⟨_, _, ⟨T41, L41, k41, n41⟩, -, X41, ⟨Lc41, hQ41, l41, y41, z41⟩, st41⟩ := Jvm.LawKit.callS X0 hx (y := (⟨"com/example/baton/baton/support/Skipped", "marked", "([ZII)[Z"⟩ : MethodName)) hown (mvT hZ (hw _ (List.mem_of_getElem? (i := 5) rfl))) (mvT hZ (hw _ (List.mem_of_getElem? (i := 6) rfl))) (mvT hZ (hw _ (List.mem_of_getElem? (i := 3) rfl))) (mvT hZ (hw _ (List.mem_of_getElem? (i := 7) rfl))) (by decide) (backOf (W := 0) (rm2n l Z av hw [] po ln  h0 n0 Z0 (own_pi po ln hm39) (own_n0 ln hm37) (own_ncap ln hm37)) hZ (hw _ (List.mem_of_getElem? (i := 7) rfl)) (hw _ (List.mem_of_getElem? (i := 3) rfl)) (by decide) (by decide)) (g := (mkF m 83 #[.val (.long q0), .second, .val (.long q1), .second, .val (.int p2), .val (.int p3), .val (.int p4), .val (.int p5), .val (.long lo), .second, .val (.long hi), .second, .val (.int (1 : Int32)), .val (.int ln), .val (.int po), .unset, .unset, .unset, .unset] [(.int ln), (.int po), .null])) rfl (by rw [hml]; rfl) (argsL := [.null, (.int po), (.int ln)]) (rest := []) (lenOf pd___ZII__Z rfl) rfl (by show 2 * 0 + _ ≤ _; exact Nat.le_of_eq rfl) (hb hby at_83) (fun _ _ => ⟨rfl, e0, (by decide : 0 + 1 ≤ _), (by decide : 0 + 192 ≤ _)⟩)
    dsimp only [Pt.U, Pt.locs, Pt.cells, Pt.slots] at X41 l41 y41 z41 st41 hQ41
    subst l41 y41 z41
    obtain ⟨rfl, N41q, Kq41, kq41, Vq41⟩ := hQ41
    have N41 := Fr.app N0 N41q
    obtain ⟨b41, g41⟩ : ∃ z, z = h0.size := ⟨_, rfl⟩
    rw [← g41] at Vq41 st41
    have gn41 : n0 ≤ b41 := Nat.le_trans Z0 (Nat.le_of_eq g41.symm)
    have sz41 : h0.size ≤ b41 := Nat.le_trans K0.1 (Nat.le_of_eq g41.symm)
    have K41 : Keep h0 T41.heap [] := K0.trans Kq41 all0
    have Z41 : n0 ≤ T41.heap.size := Nat.le_trans Z0 Kq41.1
    have pre42 : ∀ t, Steps p.tables e below (T41.setTop (mkF m 86 #[.val (.long q0), .second, .val (.long q1), .second, .val (.int p2), .val (.int p3), .val (.int p4), .val (.int p5), .val (.long lo), .second, .val (.long hi), .second, .val (.int (1 : Int32)), .val (.int ln), .val (.int po), .unset, .unset, .unset, .unset] [(.ref b41)])) t → Steps p.tables e below (s₁.setTop (entryFrame m #[(.long q0), (.long q1), (.int p2), (.int p3), (.int p4), (.int p5)] maxLocals)) t := fun t kt => pre40 t (st41 _ kt)
    have pre43 : ∀ t, Steps p.tables e below (T41.setTop (mkF m 98 #[.val (.long q0), .second, .val (.long q1), .second, .val (.int p2), .val (.int p3), .val (.int p4), .val (.int p5), .val (.long lo), .second, .val (.long hi), .second, .val (.int (1 : Int32)), .val (.int ln), .val (.int po), .val (.ref b41), .unset, .unset, .unset] [(.ref b41), (.long hi), (.long lo)])) t → Steps p.tables e below (s₁.setTop (entryFrame m #[(.long q0), (.long q1), (.int p2), (.int p3), (.int p4), (.int p5)] maxLocals)) t := fun t kt => pre42 t (by
      show Steps p.tables e below (T41.setTop (mkF m 86 #[.val (.long q0), .second, .val (.long q1), .second, .val (.int p2), .val (.int p3), .val (.int p4), .val (.int p5), .val (.long lo), .second, .val (.long hi), .second, .val (.int (1 : Int32)), .val (.int ln), .val (.int po), .unset, .unset, .unset, .unset] [(.ref b41)])) _
      refine XS.goto X41.here hx rfl (pc0 := 86) (pc' := 90) rfl (hb hby at_86) (by decide) (by decide) ?_
      show Steps p.tables e below (T41.setTop (mkF m 90 #[.val (.long q0), .second, .val (.long q1), .second, .val (.int p2), .val (.int p3), .val (.int p4), .val (.int p5), .val (.long lo), .second, .val (.long hi), .second, .val (.int (1 : Int32)), .val (.int ln), .val (.int po), .unset, .unset, .unset, .unset] [(.ref b41)])) _
      refine XS.astore X41.here hx rfl (hb hby at_90) rfl rfl (l' := #[.val (.long q0), .second, .val (.long q1), .second, .val (.int p2), .val (.int p3), .val (.int p4), .val (.int p5), .val (.long lo), .second, .val (.long hi), .second, .val (.int (1 : Int32)), .val (.int ln), .val (.int po), .val (.ref b41), .unset, .unset, .unset]) rfl ?_
      show Steps p.tables e below (T41.setTop (mkF m 92 #[.val (.long q0), .second, .val (.long q1), .second, .val (.int p2), .val (.int p3), .val (.int p4), .val (.int p5), .val (.long lo), .second, .val (.long hi), .second, .val (.int (1 : Int32)), .val (.int ln), .val (.int po), .val (.ref b41), .unset, .unset, .unset] [])) _
      refine XS.lload X41.here hx rfl (hb hby at_92) rfl ?_
      show Steps p.tables e below (T41.setTop (mkF m 94 #[.val (.long q0), .second, .val (.long q1), .second, .val (.int p2), .val (.int p3), .val (.int p4), .val (.int p5), .val (.long lo), .second, .val (.long hi), .second, .val (.int (1 : Int32)), .val (.int ln), .val (.int po), .val (.ref b41), .unset, .unset, .unset] [(.long lo)])) _
      refine XS.lload X41.here hx rfl (hb hby at_94) rfl ?_
      show Steps p.tables e below (T41.setTop (mkF m 96 #[.val (.long q0), .second, .val (.long q1), .second, .val (.int p2), .val (.int p3), .val (.int p4), .val (.int p5), .val (.long lo), .second, .val (.long hi), .second, .val (.int (1 : Int32)), .val (.int ln), .val (.int po), .val (.ref b41), .unset, .unset, .unset] [(.long hi), (.long lo)])) _
      refine XS.aload X41.here hx rfl (hb hby at_96) rfl rfl ?_
      exact kt)
    obtain ⟨_, _, ⟨T44, L44, k44, n44⟩, -, X44, ⟨Lc44, hQ44, l44, y44, z44⟩, st44⟩ := Jvm.LawKit.callS X41 hx (y := (⟨"com/example/baton/baton/support/Skipped", "none", "(JJ[Z)Z"⟩ : MethodName)) hown (mvT hZ (hw _ (List.mem_of_getElem? (i := 1) rfl))) (mvT hZ (hw _ (List.mem_of_getElem? (i := 2) rfl))) (mvT hZ (hw _ (List.mem_of_getElem? (i := 3) rfl))) (mvT hZ (hw _ (List.mem_of_getElem? (i := 4) rfl))) (by decide) (backOf (W := 0) (rm1a l Z av hw [] lo hi b41  T41.heap n0 Z41 ) hZ (hw _ (List.mem_of_getElem? (i := 4) rfl)) (hw _ (List.mem_of_getElem? (i := 3) rfl)) (by decide) (by decide)) (g := (mkF m 98 #[.val (.long q0), .second, .val (.long q1), .second, .val (.int p2), .val (.int p3), .val (.int p4), .val (.int p5), .val (.long lo), .second, .val (.long hi), .second, .val (.int (1 : Int32)), .val (.int ln), .val (.int po), .val (.ref b41), .unset, .unset, .unset] [(.ref b41), (.long hi), (.long lo)])) rfl (by rw [hml]; rfl) (argsL := [(.long lo), (.long hi), (.ref b41)]) (rest := []) (lenOf pd__JJ_Z_Z rfl) rfl (by show 2 * 0 + _ ≤ _; exact Nat.le_of_eq rfl) (hb hby at_98) (fun _ _ => ⟨rfl, rfl, (by decide : 1 + 0 ≤ _), (by decide : 192 + 0 ≤ _)⟩)
    dsimp only [Pt.U, Pt.locs, Pt.cells, Pt.slots] at X44 l44 y44 z44 st44 hQ44
    subst l44 y44 z44
    obtain ⟨rfl, N44q, e44⟩ := hQ44
    have N44 := Fr.app N41 N44q
    have pre45 : ∀ t, Steps p.tables e below (T44.setTop (mkF m 101 #[.val (.long q0), .second, .val (.long q1), .second, .val (.int p2), .val (.int p3), .val (.int p4), .val (.int p5), .val (.long lo), .second, .val (.long hi), .second, .val (.int (1 : Int32)), .val (.int ln), .val (.int po), .val (.ref b41), .unset, .unset, .unset] [(.int (f_na lo hi))])) t → Steps p.tables e below (s₁.setTop (entryFrame m #[(.long q0), (.long q1), (.int p2), (.int p3), (.int p4), (.int p5)] maxLocals)) t := fun t kt => pre43 t (st44 _ kt)
    have pre46 : ∀ t, Steps p.tables e below (T44.setTop (mkF m 107 #[.val (.long q0), .second, .val (.long q1), .second, .val (.int p2), .val (.int p3), .val (.int p4), .val (.int p5), .val (.long lo), .second, .val (.long hi), .second, .val (.int (1 : Int32)), .val (.int ln), .val (.int po), .val (.ref b41), .val (.int (f_na lo hi)), .unset, .unset] [(.int (lcmpW lo (0 : Int64)))])) t → Steps p.tables e below (s₁.setTop (entryFrame m #[(.long q0), (.long q1), (.int p2), (.int p3), (.int p4), (.int p5)] maxLocals)) t := fun t kt => pre45 t (by
      show Steps p.tables e below (T44.setTop (mkF m 101 #[.val (.long q0), .second, .val (.long q1), .second, .val (.int p2), .val (.int p3), .val (.int p4), .val (.int p5), .val (.long lo), .second, .val (.long hi), .second, .val (.int (1 : Int32)), .val (.int ln), .val (.int po), .val (.ref b41), .unset, .unset, .unset] [(.int (f_na lo hi))])) _
      refine XS.istore X44.here hx rfl (hb hby at_101) rfl (l' := #[.val (.long q0), .second, .val (.long q1), .second, .val (.int p2), .val (.int p3), .val (.int p4), .val (.int p5), .val (.long lo), .second, .val (.long hi), .second, .val (.int (1 : Int32)), .val (.int ln), .val (.int po), .val (.ref b41), .val (.int (f_na lo hi)), .unset, .unset]) rfl ?_
      show Steps p.tables e below (T44.setTop (mkF m 103 #[.val (.long q0), .second, .val (.long q1), .second, .val (.int p2), .val (.int p3), .val (.int p4), .val (.int p5), .val (.long lo), .second, .val (.long hi), .second, .val (.int (1 : Int32)), .val (.int ln), .val (.int po), .val (.ref b41), .val (.int (f_na lo hi)), .unset, .unset] [])) _
      refine XS.lload X44.here hx rfl (hb hby at_103) rfl ?_
      show Steps p.tables e below (T44.setTop (mkF m 105 #[.val (.long q0), .second, .val (.long q1), .second, .val (.int p2), .val (.int p3), .val (.int p4), .val (.int p5), .val (.long lo), .second, .val (.long hi), .second, .val (.int (1 : Int32)), .val (.int ln), .val (.int po), .val (.ref b41), .val (.int (f_na lo hi)), .unset, .unset] [(.long lo)])) _
      refine XS.lconst X44.here hx rfl (hb hby at_105) ?_
      show Steps p.tables e below (T44.setTop (mkF m 106 #[.val (.long q0), .second, .val (.long q1), .second, .val (.int p2), .val (.int p3), .val (.int p4), .val (.int p5), .val (.long lo), .second, .val (.long hi), .second, .val (.int (1 : Int32)), .val (.int ln), .val (.int po), .val (.ref b41), .val (.int (f_na lo hi)), .unset, .unset] [(.long (0 : Int64)), (.long lo)])) _
      refine XS.lcmp X44.here hx rfl (hb hby at_106) rfl ?_
      exact kt)
    by_cases hc107_47 : lo = (0 : Int64)
    · have pre48 : ∀ t, Steps p.tables e below (T44.setTop (mkF m 114 #[.val (.long q0), .second, .val (.long q1), .second, .val (.int p2), .val (.int p3), .val (.int p4), .val (.int p5), .val (.long lo), .second, .val (.long hi), .second, .val (.int (1 : Int32)), .val (.int ln), .val (.int po), .val (.ref b41), .val (.int (f_na lo hi)), .unset, .unset] [(.int (lcmpW hi (0 : Int64)))])) t → Steps p.tables e below (s₁.setTop (entryFrame m #[(.long q0), (.long q1), (.int p2), (.int p3), (.int p4), (.int p5)] maxLocals)) t := fun t kt => pre46 t (by
        show Steps p.tables e below (T44.setTop (mkF m 107 #[.val (.long q0), .second, .val (.long q1), .second, .val (.int p2), .val (.int p3), .val (.int p4), .val (.int p5), .val (.long lo), .second, .val (.long hi), .second, .val (.int (1 : Int32)), .val (.int ln), .val (.int po), .val (.ref b41), .val (.int (f_na lo hi)), .unset, .unset] [(.int (lcmpW lo (0 : Int64)))])) _
        refine XS.ifNo X44.here hx rfl (hb hby at_107) rfl (Jvm.Free.XT.ll_ne_f hc107_47) ?_
        show Steps p.tables e below (T44.setTop (mkF m 110 #[.val (.long q0), .second, .val (.long q1), .second, .val (.int p2), .val (.int p3), .val (.int p4), .val (.int p5), .val (.long lo), .second, .val (.long hi), .second, .val (.int (1 : Int32)), .val (.int ln), .val (.int po), .val (.ref b41), .val (.int (f_na lo hi)), .unset, .unset] [])) _
        refine XS.lload X44.here hx rfl (hb hby at_110) rfl ?_
        show Steps p.tables e below (T44.setTop (mkF m 112 #[.val (.long q0), .second, .val (.long q1), .second, .val (.int p2), .val (.int p3), .val (.int p4), .val (.int p5), .val (.long lo), .second, .val (.long hi), .second, .val (.int (1 : Int32)), .val (.int ln), .val (.int po), .val (.ref b41), .val (.int (f_na lo hi)), .unset, .unset] [(.long hi)])) _
        refine XS.lconst X44.here hx rfl (hb hby at_112) ?_
        show Steps p.tables e below (T44.setTop (mkF m 113 #[.val (.long q0), .second, .val (.long q1), .second, .val (.int p2), .val (.int p3), .val (.int p4), .val (.int p5), .val (.long lo), .second, .val (.long hi), .second, .val (.int (1 : Int32)), .val (.int ln), .val (.int po), .val (.ref b41), .val (.int (f_na lo hi)), .unset, .unset] [(.long (0 : Int64)), (.long hi)])) _
        refine XS.lcmp X44.here hx rfl (hb hby at_113) rfl ?_
        exact kt)
      by_cases hc114_49 : hi = (0 : Int64)
      · have pre50 : ∀ t, Steps p.tables e below (T44.setTop (mkF m 148 #[.val (.long q0), .second, .val (.long q1), .second, .val (.int p2), .val (.int p3), .val (.int p4), .val (.int p5), .val (.long lo), .second, .val (.long hi), .second, .val (.int (1 : Int32)), .val (.int ln), .val (.int po), .val (.ref b41), .val (.int (f_na lo hi)), .val (.int (0 : Int32)), .val (.int ((p5 &&& (2147483647 : Int32)) % ln))] [])) t → Steps p.tables e below (s₁.setTop (entryFrame m #[(.long q0), (.long q1), (.int p2), (.int p3), (.int p4), (.int p5)] maxLocals)) t := fun t kt => pre48 t (by
          show Steps p.tables e below (T44.setTop (mkF m 114 #[.val (.long q0), .second, .val (.long q1), .second, .val (.int p2), .val (.int p3), .val (.int p4), .val (.int p5), .val (.long lo), .second, .val (.long hi), .second, .val (.int (1 : Int32)), .val (.int ln), .val (.int po), .val (.ref b41), .val (.int (f_na lo hi)), .unset, .unset] [(.int (lcmpW hi (0 : Int64)))])) _
          refine XS.ifNo X44.here hx rfl (hb hby at_114) rfl (Jvm.Free.XT.ll_ne_f hc114_49) ?_
          show Steps p.tables e below (T44.setTop (mkF m 117 #[.val (.long q0), .second, .val (.long q1), .second, .val (.int p2), .val (.int p3), .val (.int p4), .val (.int p5), .val (.long lo), .second, .val (.long hi), .second, .val (.int (1 : Int32)), .val (.int ln), .val (.int po), .val (.ref b41), .val (.int (f_na lo hi)), .unset, .unset] [])) _
          refine XS.iload X44.here hx rfl (hb hby at_117) rfl ?_
          show Steps p.tables e below (T44.setTop (mkF m 119 #[.val (.long q0), .second, .val (.long q1), .second, .val (.int p2), .val (.int p3), .val (.int p4), .val (.int p5), .val (.long lo), .second, .val (.long hi), .second, .val (.int (1 : Int32)), .val (.int ln), .val (.int po), .val (.ref b41), .val (.int (f_na lo hi)), .unset, .unset] [(.int (1 : Int32))])) _
          refine XS.ifYes X44.here hx rfl (pc0 := 119) (pc' := 126) rfl (hb hby at_119) rfl ((if0 _ _).trans (feq (by decide : ¬ ((1 : Int32) = (0 : Int32)))).2) (by decide) (by decide) ?_
          show Steps p.tables e below (T44.setTop (mkF m 126 #[.val (.long q0), .second, .val (.long q1), .second, .val (.int p2), .val (.int p3), .val (.int p4), .val (.int p5), .val (.long lo), .second, .val (.long hi), .second, .val (.int (1 : Int32)), .val (.int ln), .val (.int po), .val (.ref b41), .val (.int (f_na lo hi)), .unset, .unset] [])) _
          refine XS.iconst X44.here hx rfl (hb hby at_126) ?_
          show Steps p.tables e below (T44.setTop (mkF m 127 #[.val (.long q0), .second, .val (.long q1), .second, .val (.int p2), .val (.int p3), .val (.int p4), .val (.int p5), .val (.long lo), .second, .val (.long hi), .second, .val (.int (1 : Int32)), .val (.int ln), .val (.int po), .val (.ref b41), .val (.int (f_na lo hi)), .unset, .unset] [(.int (0 : Int32))])) _
          refine XS.istore X44.here hx rfl (hb hby at_127) rfl (l' := #[.val (.long q0), .second, .val (.long q1), .second, .val (.int p2), .val (.int p3), .val (.int p4), .val (.int p5), .val (.long lo), .second, .val (.long hi), .second, .val (.int (1 : Int32)), .val (.int ln), .val (.int po), .val (.ref b41), .val (.int (f_na lo hi)), .val (.int (0 : Int32)), .unset]) rfl ?_
          show Steps p.tables e below (T44.setTop (mkF m 129 #[.val (.long q0), .second, .val (.long q1), .second, .val (.int p2), .val (.int p3), .val (.int p4), .val (.int p5), .val (.long lo), .second, .val (.long hi), .second, .val (.int (1 : Int32)), .val (.int ln), .val (.int po), .val (.ref b41), .val (.int (f_na lo hi)), .val (.int (0 : Int32)), .unset] [])) _
          refine XS.iload X44.here hx rfl (hb hby at_129) rfl ?_
          show Steps p.tables e below (T44.setTop (mkF m 131 #[.val (.long q0), .second, .val (.long q1), .second, .val (.int p2), .val (.int p3), .val (.int p4), .val (.int p5), .val (.long lo), .second, .val (.long hi), .second, .val (.int (1 : Int32)), .val (.int ln), .val (.int po), .val (.ref b41), .val (.int (f_na lo hi)), .val (.int (0 : Int32)), .unset] [(.int (f_na lo hi))])) _
          refine XS.iload X44.here hx rfl (hb hby at_131) rfl ?_
          show Steps p.tables e below (T44.setTop (mkF m 133 #[.val (.long q0), .second, .val (.long q1), .second, .val (.int p2), .val (.int p3), .val (.int p4), .val (.int p5), .val (.long lo), .second, .val (.long hi), .second, .val (.int (1 : Int32)), .val (.int ln), .val (.int po), .val (.ref b41), .val (.int (f_na lo hi)), .val (.int (0 : Int32)), .unset] [(.int (0 : Int32)), (.int (f_na lo hi))])) _
          refine XS.icmpYes X44.here hx rfl (pc0 := 133) (pc' := 138) rfl (hb hby at_133) rfl (teq (by unfold f_na; rw [if_pos hc107_47, if_pos hc114_49] : (f_na lo hi) = (0 : Int32))).1 (by decide) (by decide) ?_
          show Steps p.tables e below (T44.setTop (mkF m 138 #[.val (.long q0), .second, .val (.long q1), .second, .val (.int p2), .val (.int p3), .val (.int p4), .val (.int p5), .val (.long lo), .second, .val (.long hi), .second, .val (.int (1 : Int32)), .val (.int ln), .val (.int po), .val (.ref b41), .val (.int (f_na lo hi)), .val (.int (0 : Int32)), .unset] [])) _
          refine XS.iload X44.here hx rfl (hb hby at_138) rfl ?_
          show Steps p.tables e below (T44.setTop (mkF m 140 #[.val (.long q0), .second, .val (.long q1), .second, .val (.int p2), .val (.int p3), .val (.int p4), .val (.int p5), .val (.long lo), .second, .val (.long hi), .second, .val (.int (1 : Int32)), .val (.int ln), .val (.int po), .val (.ref b41), .val (.int (f_na lo hi)), .val (.int (0 : Int32)), .unset] [(.int p5)])) _
          refine X44.ldcInt hx hown (mvT hZ (hw _ (List.mem_of_getElem? (i := 0) rfl))) (g := (mkF m 140 #[.val (.long q0), .second, .val (.long q1), .second, .val (.int p2), .val (.int p3), .val (.int p4), .val (.int p5), .val (.long lo), .second, .val (.long hi), .second, .val (.int (1 : Int32)), .val (.int ln), .val (.int po), .val (.ref b41), .val (.int (f_na lo hi)), .val (.int (0 : Int32)), .unset] [(.int p5)])) rfl (hb hby at_140) _ ?_
          show Steps p.tables e below (T44.setTop (mkF m 142 #[.val (.long q0), .second, .val (.long q1), .second, .val (.int p2), .val (.int p3), .val (.int p4), .val (.int p5), .val (.long lo), .second, .val (.long hi), .second, .val (.int (1 : Int32)), .val (.int ln), .val (.int po), .val (.ref b41), .val (.int (f_na lo hi)), .val (.int (0 : Int32)), .unset] [(.int (2147483647 : Int32)), (.int p5)])) _
          refine XS.iand X44.here hx rfl (hb hby at_142) rfl ?_
          show Steps p.tables e below (T44.setTop (mkF m 143 #[.val (.long q0), .second, .val (.long q1), .second, .val (.int p2), .val (.int p3), .val (.int p4), .val (.int p5), .val (.long lo), .second, .val (.long hi), .second, .val (.int (1 : Int32)), .val (.int ln), .val (.int po), .val (.ref b41), .val (.int (f_na lo hi)), .val (.int (0 : Int32)), .unset] [(.int (p5 &&& (2147483647 : Int32)))])) _
          refine XS.iload X44.here hx rfl (hb hby at_143) rfl ?_
          show Steps p.tables e below (T44.setTop (mkF m 145 #[.val (.long q0), .second, .val (.long q1), .second, .val (.int p2), .val (.int p3), .val (.int p4), .val (.int p5), .val (.long lo), .second, .val (.long hi), .second, .val (.int (1 : Int32)), .val (.int ln), .val (.int po), .val (.ref b41), .val (.int (f_na lo hi)), .val (.int (0 : Int32)), .unset] [(.int ln), (.int (p5 &&& (2147483647 : Int32)))])) _
          refine XS.irem X44.here hx rfl (hb hby at_145) rfl (own_lnz ln hm37) ?_
          rw [own_irem]
          show Steps p.tables e below (T44.setTop (mkF m 146 #[.val (.long q0), .second, .val (.long q1), .second, .val (.int p2), .val (.int p3), .val (.int p4), .val (.int p5), .val (.long lo), .second, .val (.long hi), .second, .val (.int (1 : Int32)), .val (.int ln), .val (.int po), .val (.ref b41), .val (.int (f_na lo hi)), .val (.int (0 : Int32)), .unset] [(.int ((p5 &&& (2147483647 : Int32)) % ln))])) _
          refine XS.istore X44.here hx rfl (hb hby at_146) rfl (l' := #[.val (.long q0), .second, .val (.long q1), .second, .val (.int p2), .val (.int p3), .val (.int p4), .val (.int p5), .val (.long lo), .second, .val (.long hi), .second, .val (.int (1 : Int32)), .val (.int ln), .val (.int po), .val (.ref b41), .val (.int (f_na lo hi)), .val (.int (0 : Int32)), .val (.int ((p5 &&& (2147483647 : Int32)) % ln))]) rfl ?_
          exact kt)
        obtain ⟨pr, hm51, pre51⟩ : ∃ (pr : Int32), (True) ∧ ∀ t, Steps p.tables e below (T44.setTop (mkF m 148 #[.val (.long q0), .second, .val (.long q1), .second, .val (.int p2), .val (.int p3), .val (.int p4), .val (.int p5), .val (.long lo), .second, .val (.long hi), .second, .val (.int (1 : Int32)), .val (.int ln), .val (.int po), .val (.ref b41), .val (.int (f_na lo hi)), .val (.int (0 : Int32)), .val (.int pr)] [])) t → Steps p.tables e below (s₁.setTop (entryFrame m #[(.long q0), (.long q1), (.int p2), (.int p3), (.int p4), (.int p5)] maxLocals)) t := ⟨((p5 &&& (2147483647 : Int32)) % ln), trivial, pre50⟩
        have pre52 : ∀ t, Steps p.tables e below (T44.setTop (mkF m 182 #[.val (.long q0), .second, .val (.long q1), .second, .val (.int p2), .val (.int p3), .val (.int p4), .val (.int p5), .val (.long lo), .second, .val (.long hi), .second, .val (.int (1 : Int32)), .val (.int ln), .val (.int po), .val (.ref b41), .val (.int (f_na lo hi)), .val (.int (0 : Int32)), .val (.int pr)] [(.ref b41), (.long hi), (.long lo), (.int po)])) t → Steps p.tables e below (s₁.setTop (entryFrame m #[(.long q0), (.long q1), (.int p2), (.int p3), (.int p4), (.int p5)] maxLocals)) t := fun t kt => pre51 t (by
          show Steps p.tables e below (T44.setTop (mkF m 148 #[.val (.long q0), .second, .val (.long q1), .second, .val (.int p2), .val (.int p3), .val (.int p4), .val (.int p5), .val (.long lo), .second, .val (.long hi), .second, .val (.int (1 : Int32)), .val (.int ln), .val (.int po), .val (.ref b41), .val (.int (f_na lo hi)), .val (.int (0 : Int32)), .val (.int pr)] [])) _
          refine XS.iload X44.here hx rfl (hb hby at_148) rfl ?_
          show Steps p.tables e below (T44.setTop (mkF m 150 #[.val (.long q0), .second, .val (.long q1), .second, .val (.int p2), .val (.int p3), .val (.int p4), .val (.int p5), .val (.long lo), .second, .val (.long hi), .second, .val (.int (1 : Int32)), .val (.int ln), .val (.int po), .val (.ref b41), .val (.int (f_na lo hi)), .val (.int (0 : Int32)), .val (.int pr)] [(.int (f_na lo hi))])) _
          refine XS.ifYes X44.here hx rfl (pc0 := 150) (pc' := 169) rfl (hb hby at_150) rfl ((if0 _ _).trans (teq (by unfold f_na; rw [if_pos hc107_47, if_pos hc114_49] : (f_na lo hi) = (0 : Int32))).1) (by decide) (by decide) ?_
          show Steps p.tables e below (T44.setTop (mkF m 169 #[.val (.long q0), .second, .val (.long q1), .second, .val (.int p2), .val (.int p3), .val (.int p4), .val (.int p5), .val (.long lo), .second, .val (.long hi), .second, .val (.int (1 : Int32)), .val (.int ln), .val (.int po), .val (.ref b41), .val (.int (f_na lo hi)), .val (.int (0 : Int32)), .val (.int pr)] [])) _
          refine XS.iload X44.here hx rfl (hb hby at_169) rfl ?_
          show Steps p.tables e below (T44.setTop (mkF m 171 #[.val (.long q0), .second, .val (.long q1), .second, .val (.int p2), .val (.int p3), .val (.int p4), .val (.int p5), .val (.long lo), .second, .val (.long hi), .second, .val (.int (1 : Int32)), .val (.int ln), .val (.int po), .val (.ref b41), .val (.int (f_na lo hi)), .val (.int (0 : Int32)), .val (.int pr)] [(.int (1 : Int32))])) _
          refine XS.ifNo X44.here hx rfl (hb hby at_171) rfl ((if0 _ _).trans (feq (by decide : ¬ ((1 : Int32) = (0 : Int32)))).1) ?_
          show Steps p.tables e below (T44.setTop (mkF m 174 #[.val (.long q0), .second, .val (.long q1), .second, .val (.int p2), .val (.int p3), .val (.int p4), .val (.int p5), .val (.long lo), .second, .val (.long hi), .second, .val (.int (1 : Int32)), .val (.int ln), .val (.int po), .val (.ref b41), .val (.int (f_na lo hi)), .val (.int (0 : Int32)), .val (.int pr)] [])) _
          refine XS.iload X44.here hx rfl (hb hby at_174) rfl ?_
          show Steps p.tables e below (T44.setTop (mkF m 176 #[.val (.long q0), .second, .val (.long q1), .second, .val (.int p2), .val (.int p3), .val (.int p4), .val (.int p5), .val (.long lo), .second, .val (.long hi), .second, .val (.int (1 : Int32)), .val (.int ln), .val (.int po), .val (.ref b41), .val (.int (f_na lo hi)), .val (.int (0 : Int32)), .val (.int pr)] [(.int po)])) _
          refine XS.lload X44.here hx rfl (hb hby at_176) rfl ?_
          show Steps p.tables e below (T44.setTop (mkF m 178 #[.val (.long q0), .second, .val (.long q1), .second, .val (.int p2), .val (.int p3), .val (.int p4), .val (.int p5), .val (.long lo), .second, .val (.long hi), .second, .val (.int (1 : Int32)), .val (.int ln), .val (.int po), .val (.ref b41), .val (.int (f_na lo hi)), .val (.int (0 : Int32)), .val (.int pr)] [(.long lo), (.int po)])) _
          refine XS.lload X44.here hx rfl (hb hby at_178) rfl ?_
          show Steps p.tables e below (T44.setTop (mkF m 180 #[.val (.long q0), .second, .val (.long q1), .second, .val (.int p2), .val (.int p3), .val (.int p4), .val (.int p5), .val (.long lo), .second, .val (.long hi), .second, .val (.int (1 : Int32)), .val (.int ln), .val (.int po), .val (.ref b41), .val (.int (f_na lo hi)), .val (.int (0 : Int32)), .val (.int pr)] [(.long hi), (.long lo), (.int po)])) _
          refine XS.aload X44.here hx rfl (hb hby at_180) rfl rfl ?_
          exact kt)
        have tv53 := Vq41
        obtain ⟨cl53, Ar53, q53, S53, Ng53, H53, G53⟩ := tv53
        have hin53 : ¬ (po < 0 ∨ cl53.slots.size ≤ (po).toNatClampNeg) := inb_of S53 (own_pi po ln hm39)
        obtain ⟨_, _, ⟨T54, L54, k54, n54⟩, -, X54, ⟨Lc54, hQ54, l54, y54, z54⟩, st54⟩ := Jvm.LawKit.callS X44 hx (y := (⟨"com/example/baton/baton/support/Skipped", "contains", "(IJJ[Z)Z"⟩ : MethodName)) hown (mvT hZ (hw _ (List.mem_of_getElem? (i := 9) rfl))) (mvT hZ (hw _ (List.mem_of_getElem? (i := 10) rfl))) (mvT hZ (hw _ (List.mem_of_getElem? (i := 3) rfl))) (mvT hZ (hw _ (List.mem_of_getElem? (i := 11) rfl))) (by decide) (backOf (W := 0) (rm3a l Z av hw [] po lo hi b41 cl53 (1 : Int32) T41.heap n0 Z41 Ar53 (fun _ => hin53) (fun _ => atH H53 hin53 (getH_hit (own_pi po ln hm39).1 rfl))) hZ (hw _ (List.mem_of_getElem? (i := 11) rfl)) (hw _ (List.mem_of_getElem? (i := 3) rfl)) (by decide) (by decide)) (g := (mkF m 182 #[.val (.long q0), .second, .val (.long q1), .second, .val (.int p2), .val (.int p3), .val (.int p4), .val (.int p5), .val (.long lo), .second, .val (.long hi), .second, .val (.int (1 : Int32)), .val (.int ln), .val (.int po), .val (.ref b41), .val (.int (f_na lo hi)), .val (.int (0 : Int32)), .val (.int pr)] [(.ref b41), (.long hi), (.long lo), (.int po)])) rfl (by rw [hml]; rfl) (argsL := [(.int po), (.long lo), (.long hi), (.ref b41)]) (rest := []) (lenOf pd__IJJ_Z_Z rfl) rfl (by show 2 * 0 + _ ≤ _; exact Nat.le_of_eq rfl) (hb hby at_182) (fun _ _ => ⟨rfl, e44, (by decide : 1 + 0 ≤ _), (by decide : 192 + 0 ≤ _)⟩)
        dsimp only [Pt.U, Pt.locs, Pt.cells, Pt.slots] at X54 l54 y54 z54 st54 hQ54
        subst l54 y54 z54
        obtain ⟨rfl, N54q, e54⟩ := hQ54
        have N54 := Fr.app N44 N54q
        have pre55 : ∀ t, Steps p.tables e below (T54.setTop (mkF m 185 #[.val (.long q0), .second, .val (.long q1), .second, .val (.int p2), .val (.int p3), .val (.int p4), .val (.int p5), .val (.long lo), .second, .val (.long hi), .second, .val (.int (1 : Int32)), .val (.int ln), .val (.int po), .val (.ref b41), .val (.int (f_na lo hi)), .val (.int (0 : Int32)), .val (.int pr)] [(.int (f_ca po lo hi (1 : Int32)))])) t → Steps p.tables e below (s₁.setTop (entryFrame m #[(.long q0), (.long q1), (.int p2), (.int p3), (.int p4), (.int p5)] maxLocals)) t := fun t kt => pre52 t (st54 _ kt)
        have pre56 : ∀ t, Steps p.tables e below (T54.setTop (mkF m 191 #[.val (.long q0), .second, .val (.long q1), .second, .val (.int p2), .val (.int p3), .val (.int p4), .val (.int p5), .val (.long lo), .second, .val (.long hi), .second, .val (.int (1 : Int32)), .val (.int ln), .val (.int po), .val (.ref b41), .val (.int (f_na lo hi)), .val (.int (0 : Int32)), .val (.int pr)] [(.int (1 : Int32))])) t → Steps p.tables e below (s₁.setTop (entryFrame m #[(.long q0), (.long q1), (.int p2), (.int p3), (.int p4), (.int p5)] maxLocals)) t := fun t kt => pre55 t (by
          show Steps p.tables e below (T54.setTop (mkF m 185 #[.val (.long q0), .second, .val (.long q1), .second, .val (.int p2), .val (.int p3), .val (.int p4), .val (.int p5), .val (.long lo), .second, .val (.long hi), .second, .val (.int (1 : Int32)), .val (.int ln), .val (.int po), .val (.ref b41), .val (.int (f_na lo hi)), .val (.int (0 : Int32)), .val (.int pr)] [(.int (f_ca po lo hi (1 : Int32)))])) _
          refine XS.ifYes X54.here hx rfl (pc0 := 185) (pc' := 190) rfl (hb hby at_185) rfl ((if0 _ _).trans (feq (own_ca1 po lo hi (own_p128 po ln hm39) : ¬ ((f_ca po lo hi (1 : Int32)) = (0 : Int32)))).2) (by decide) (by decide) ?_
          show Steps p.tables e below (T54.setTop (mkF m 190 #[.val (.long q0), .second, .val (.long q1), .second, .val (.int p2), .val (.int p3), .val (.int p4), .val (.int p5), .val (.long lo), .second, .val (.long hi), .second, .val (.int (1 : Int32)), .val (.int ln), .val (.int po), .val (.ref b41), .val (.int (f_na lo hi)), .val (.int (0 : Int32)), .val (.int pr)] [])) _
          refine XS.iconst X54.here hx rfl (hb hby at_190) ?_
          exact kt)
        obtain ⟨fs, hr, hrun, hended, hW, hsame⟩ := X54.leave (v := some (.int (1 : Int32))) (fun h => by rw [Bd.returns] at h; cases h)
        refine ⟨_, _, pre56 _ ?_, hrun, hended, _, _, rfl, ?_, ⟨_, rfl⟩, hW, hsame.mono (by decide) (by decide)⟩
        · show Steps p.tables e below (T54.setTop (mkF m 191 #[.val (.long q0), .second, .val (.long q1), .second, .val (.int p2), .val (.int p3), .val (.int p4), .val (.int p5), .val (.long lo), .second, .val (.long hi), .second, .val (.int (1 : Int32)), .val (.int ln), .val (.int po), .val (.ref b41), .val (.int (f_na lo hi)), .val (.int (0 : Int32)), .val (.int pr)] [(.int (1 : Int32))])) _
          exact retN X54 hx (t := .boolean) Bd.returns (by simp) (hb hby at_191) hr
        · show Q0 Z q0 q1 p2 p3 p4 p5 h0 n0 _ T54.heap _
          rw [e54]
          exact ⟨rfl, N54⟩
      · have pre57 : ∀ t, Steps p.tables e below (T44.setTop (mkF m 148 #[.val (.long q0), .second, .val (.long q1), .second, .val (.int p2), .val (.int p3), .val (.int p4), .val (.int p5), .val (.long lo), .second, .val (.long hi), .second, .val (.int (1 : Int32)), .val (.int ln), .val (.int po), .val (.ref b41), .val (.int (f_na lo hi)), .val (.int (0 : Int32)), .val (.int ((p5 &&& (2147483647 : Int32)) % ln))] [])) t → Steps p.tables e below (s₁.setTop (entryFrame m #[(.long q0), (.long q1), (.int p2), (.int p3), (.int p4), (.int p5)] maxLocals)) t := fun t kt => pre48 t (by
          show Steps p.tables e below (T44.setTop (mkF m 114 #[.val (.long q0), .second, .val (.long q1), .second, .val (.int p2), .val (.int p3), .val (.int p4), .val (.int p5), .val (.long lo), .second, .val (.long hi), .second, .val (.int (1 : Int32)), .val (.int ln), .val (.int po), .val (.ref b41), .val (.int (f_na lo hi)), .unset, .unset] [(.int (lcmpW hi (0 : Int64)))])) _
          refine XS.ifYes X44.here hx rfl (pc0 := 114) (pc' := 126) rfl (hb hby at_114) rfl (Jvm.Free.XT.ll_ne_t hc114_49) (by decide) (by decide) ?_
          show Steps p.tables e below (T44.setTop (mkF m 126 #[.val (.long q0), .second, .val (.long q1), .second, .val (.int p2), .val (.int p3), .val (.int p4), .val (.int p5), .val (.long lo), .second, .val (.long hi), .second, .val (.int (1 : Int32)), .val (.int ln), .val (.int po), .val (.ref b41), .val (.int (f_na lo hi)), .unset, .unset] [])) _
          refine XS.iconst X44.here hx rfl (hb hby at_126) ?_
          show Steps p.tables e below (T44.setTop (mkF m 127 #[.val (.long q0), .second, .val (.long q1), .second, .val (.int p2), .val (.int p3), .val (.int p4), .val (.int p5), .val (.long lo), .second, .val (.long hi), .second, .val (.int (1 : Int32)), .val (.int ln), .val (.int po), .val (.ref b41), .val (.int (f_na lo hi)), .unset, .unset] [(.int (0 : Int32))])) _
          refine XS.istore X44.here hx rfl (hb hby at_127) rfl (l' := #[.val (.long q0), .second, .val (.long q1), .second, .val (.int p2), .val (.int p3), .val (.int p4), .val (.int p5), .val (.long lo), .second, .val (.long hi), .second, .val (.int (1 : Int32)), .val (.int ln), .val (.int po), .val (.ref b41), .val (.int (f_na lo hi)), .val (.int (0 : Int32)), .unset]) rfl ?_
          show Steps p.tables e below (T44.setTop (mkF m 129 #[.val (.long q0), .second, .val (.long q1), .second, .val (.int p2), .val (.int p3), .val (.int p4), .val (.int p5), .val (.long lo), .second, .val (.long hi), .second, .val (.int (1 : Int32)), .val (.int ln), .val (.int po), .val (.ref b41), .val (.int (f_na lo hi)), .val (.int (0 : Int32)), .unset] [])) _
          refine XS.iload X44.here hx rfl (hb hby at_129) rfl ?_
          show Steps p.tables e below (T44.setTop (mkF m 131 #[.val (.long q0), .second, .val (.long q1), .second, .val (.int p2), .val (.int p3), .val (.int p4), .val (.int p5), .val (.long lo), .second, .val (.long hi), .second, .val (.int (1 : Int32)), .val (.int ln), .val (.int po), .val (.ref b41), .val (.int (f_na lo hi)), .val (.int (0 : Int32)), .unset] [(.int (f_na lo hi))])) _
          refine XS.iload X44.here hx rfl (hb hby at_131) rfl ?_
          show Steps p.tables e below (T44.setTop (mkF m 133 #[.val (.long q0), .second, .val (.long q1), .second, .val (.int p2), .val (.int p3), .val (.int p4), .val (.int p5), .val (.long lo), .second, .val (.long hi), .second, .val (.int (1 : Int32)), .val (.int ln), .val (.int po), .val (.ref b41), .val (.int (f_na lo hi)), .val (.int (0 : Int32)), .unset] [(.int (0 : Int32)), (.int (f_na lo hi))])) _
          refine XS.icmpYes X44.here hx rfl (pc0 := 133) (pc' := 138) rfl (hb hby at_133) rfl (teq (by unfold f_na; rw [if_pos hc107_47, if_neg hc114_49] : (f_na lo hi) = (0 : Int32))).1 (by decide) (by decide) ?_
          show Steps p.tables e below (T44.setTop (mkF m 138 #[.val (.long q0), .second, .val (.long q1), .second, .val (.int p2), .val (.int p3), .val (.int p4), .val (.int p5), .val (.long lo), .second, .val (.long hi), .second, .val (.int (1 : Int32)), .val (.int ln), .val (.int po), .val (.ref b41), .val (.int (f_na lo hi)), .val (.int (0 : Int32)), .unset] [])) _
          refine XS.iload X44.here hx rfl (hb hby at_138) rfl ?_
          show Steps p.tables e below (T44.setTop (mkF m 140 #[.val (.long q0), .second, .val (.long q1), .second, .val (.int p2), .val (.int p3), .val (.int p4), .val (.int p5), .val (.long lo), .second, .val (.long hi), .second, .val (.int (1 : Int32)), .val (.int ln), .val (.int po), .val (.ref b41), .val (.int (f_na lo hi)), .val (.int (0 : Int32)), .unset] [(.int p5)])) _
          refine X44.ldcInt hx hown (mvT hZ (hw _ (List.mem_of_getElem? (i := 0) rfl))) (g := (mkF m 140 #[.val (.long q0), .second, .val (.long q1), .second, .val (.int p2), .val (.int p3), .val (.int p4), .val (.int p5), .val (.long lo), .second, .val (.long hi), .second, .val (.int (1 : Int32)), .val (.int ln), .val (.int po), .val (.ref b41), .val (.int (f_na lo hi)), .val (.int (0 : Int32)), .unset] [(.int p5)])) rfl (hb hby at_140) _ ?_
          show Steps p.tables e below (T44.setTop (mkF m 142 #[.val (.long q0), .second, .val (.long q1), .second, .val (.int p2), .val (.int p3), .val (.int p4), .val (.int p5), .val (.long lo), .second, .val (.long hi), .second, .val (.int (1 : Int32)), .val (.int ln), .val (.int po), .val (.ref b41), .val (.int (f_na lo hi)), .val (.int (0 : Int32)), .unset] [(.int (2147483647 : Int32)), (.int p5)])) _
          refine XS.iand X44.here hx rfl (hb hby at_142) rfl ?_
          show Steps p.tables e below (T44.setTop (mkF m 143 #[.val (.long q0), .second, .val (.long q1), .second, .val (.int p2), .val (.int p3), .val (.int p4), .val (.int p5), .val (.long lo), .second, .val (.long hi), .second, .val (.int (1 : Int32)), .val (.int ln), .val (.int po), .val (.ref b41), .val (.int (f_na lo hi)), .val (.int (0 : Int32)), .unset] [(.int (p5 &&& (2147483647 : Int32)))])) _
          refine XS.iload X44.here hx rfl (hb hby at_143) rfl ?_
          show Steps p.tables e below (T44.setTop (mkF m 145 #[.val (.long q0), .second, .val (.long q1), .second, .val (.int p2), .val (.int p3), .val (.int p4), .val (.int p5), .val (.long lo), .second, .val (.long hi), .second, .val (.int (1 : Int32)), .val (.int ln), .val (.int po), .val (.ref b41), .val (.int (f_na lo hi)), .val (.int (0 : Int32)), .unset] [(.int ln), (.int (p5 &&& (2147483647 : Int32)))])) _
          refine XS.irem X44.here hx rfl (hb hby at_145) rfl (own_lnz ln hm37) ?_
          rw [own_irem]
          show Steps p.tables e below (T44.setTop (mkF m 146 #[.val (.long q0), .second, .val (.long q1), .second, .val (.int p2), .val (.int p3), .val (.int p4), .val (.int p5), .val (.long lo), .second, .val (.long hi), .second, .val (.int (1 : Int32)), .val (.int ln), .val (.int po), .val (.ref b41), .val (.int (f_na lo hi)), .val (.int (0 : Int32)), .unset] [(.int ((p5 &&& (2147483647 : Int32)) % ln))])) _
          refine XS.istore X44.here hx rfl (hb hby at_146) rfl (l' := #[.val (.long q0), .second, .val (.long q1), .second, .val (.int p2), .val (.int p3), .val (.int p4), .val (.int p5), .val (.long lo), .second, .val (.long hi), .second, .val (.int (1 : Int32)), .val (.int ln), .val (.int po), .val (.ref b41), .val (.int (f_na lo hi)), .val (.int (0 : Int32)), .val (.int ((p5 &&& (2147483647 : Int32)) % ln))]) rfl ?_
          exact kt)
        obtain ⟨pr, hm58, pre58⟩ : ∃ (pr : Int32), (True) ∧ ∀ t, Steps p.tables e below (T44.setTop (mkF m 148 #[.val (.long q0), .second, .val (.long q1), .second, .val (.int p2), .val (.int p3), .val (.int p4), .val (.int p5), .val (.long lo), .second, .val (.long hi), .second, .val (.int (1 : Int32)), .val (.int ln), .val (.int po), .val (.ref b41), .val (.int (f_na lo hi)), .val (.int (0 : Int32)), .val (.int pr)] [])) t → Steps p.tables e below (s₁.setTop (entryFrame m #[(.long q0), (.long q1), (.int p2), (.int p3), (.int p4), (.int p5)] maxLocals)) t := ⟨((p5 &&& (2147483647 : Int32)) % ln), trivial, pre57⟩
        have pre59 : ∀ t, Steps p.tables e below (T44.setTop (mkF m 182 #[.val (.long q0), .second, .val (.long q1), .second, .val (.int p2), .val (.int p3), .val (.int p4), .val (.int p5), .val (.long lo), .second, .val (.long hi), .second, .val (.int (1 : Int32)), .val (.int ln), .val (.int po), .val (.ref b41), .val (.int (f_na lo hi)), .val (.int (0 : Int32)), .val (.int pr)] [(.ref b41), (.long hi), (.long lo), (.int po)])) t → Steps p.tables e below (s₁.setTop (entryFrame m #[(.long q0), (.long q1), (.int p2), (.int p3), (.int p4), (.int p5)] maxLocals)) t := fun t kt => pre58 t (by
          show Steps p.tables e below (T44.setTop (mkF m 148 #[.val (.long q0), .second, .val (.long q1), .second, .val (.int p2), .val (.int p3), .val (.int p4), .val (.int p5), .val (.long lo), .second, .val (.long hi), .second, .val (.int (1 : Int32)), .val (.int ln), .val (.int po), .val (.ref b41), .val (.int (f_na lo hi)), .val (.int (0 : Int32)), .val (.int pr)] [])) _
          refine XS.iload X44.here hx rfl (hb hby at_148) rfl ?_
          show Steps p.tables e below (T44.setTop (mkF m 150 #[.val (.long q0), .second, .val (.long q1), .second, .val (.int p2), .val (.int p3), .val (.int p4), .val (.int p5), .val (.long lo), .second, .val (.long hi), .second, .val (.int (1 : Int32)), .val (.int ln), .val (.int po), .val (.ref b41), .val (.int (f_na lo hi)), .val (.int (0 : Int32)), .val (.int pr)] [(.int (f_na lo hi))])) _
          refine XS.ifYes X44.here hx rfl (pc0 := 150) (pc' := 169) rfl (hb hby at_150) rfl ((if0 _ _).trans (teq (by unfold f_na; rw [if_pos hc107_47, if_neg hc114_49] : (f_na lo hi) = (0 : Int32))).1) (by decide) (by decide) ?_
          show Steps p.tables e below (T44.setTop (mkF m 169 #[.val (.long q0), .second, .val (.long q1), .second, .val (.int p2), .val (.int p3), .val (.int p4), .val (.int p5), .val (.long lo), .second, .val (.long hi), .second, .val (.int (1 : Int32)), .val (.int ln), .val (.int po), .val (.ref b41), .val (.int (f_na lo hi)), .val (.int (0 : Int32)), .val (.int pr)] [])) _
          refine XS.iload X44.here hx rfl (hb hby at_169) rfl ?_
          show Steps p.tables e below (T44.setTop (mkF m 171 #[.val (.long q0), .second, .val (.long q1), .second, .val (.int p2), .val (.int p3), .val (.int p4), .val (.int p5), .val (.long lo), .second, .val (.long hi), .second, .val (.int (1 : Int32)), .val (.int ln), .val (.int po), .val (.ref b41), .val (.int (f_na lo hi)), .val (.int (0 : Int32)), .val (.int pr)] [(.int (1 : Int32))])) _
          refine XS.ifNo X44.here hx rfl (hb hby at_171) rfl ((if0 _ _).trans (feq (by decide : ¬ ((1 : Int32) = (0 : Int32)))).1) ?_
          show Steps p.tables e below (T44.setTop (mkF m 174 #[.val (.long q0), .second, .val (.long q1), .second, .val (.int p2), .val (.int p3), .val (.int p4), .val (.int p5), .val (.long lo), .second, .val (.long hi), .second, .val (.int (1 : Int32)), .val (.int ln), .val (.int po), .val (.ref b41), .val (.int (f_na lo hi)), .val (.int (0 : Int32)), .val (.int pr)] [])) _
          refine XS.iload X44.here hx rfl (hb hby at_174) rfl ?_
          show Steps p.tables e below (T44.setTop (mkF m 176 #[.val (.long q0), .second, .val (.long q1), .second, .val (.int p2), .val (.int p3), .val (.int p4), .val (.int p5), .val (.long lo), .second, .val (.long hi), .second, .val (.int (1 : Int32)), .val (.int ln), .val (.int po), .val (.ref b41), .val (.int (f_na lo hi)), .val (.int (0 : Int32)), .val (.int pr)] [(.int po)])) _
          refine XS.lload X44.here hx rfl (hb hby at_176) rfl ?_
          show Steps p.tables e below (T44.setTop (mkF m 178 #[.val (.long q0), .second, .val (.long q1), .second, .val (.int p2), .val (.int p3), .val (.int p4), .val (.int p5), .val (.long lo), .second, .val (.long hi), .second, .val (.int (1 : Int32)), .val (.int ln), .val (.int po), .val (.ref b41), .val (.int (f_na lo hi)), .val (.int (0 : Int32)), .val (.int pr)] [(.long lo), (.int po)])) _
          refine XS.lload X44.here hx rfl (hb hby at_178) rfl ?_
          show Steps p.tables e below (T44.setTop (mkF m 180 #[.val (.long q0), .second, .val (.long q1), .second, .val (.int p2), .val (.int p3), .val (.int p4), .val (.int p5), .val (.long lo), .second, .val (.long hi), .second, .val (.int (1 : Int32)), .val (.int ln), .val (.int po), .val (.ref b41), .val (.int (f_na lo hi)), .val (.int (0 : Int32)), .val (.int pr)] [(.long hi), (.long lo), (.int po)])) _
          refine XS.aload X44.here hx rfl (hb hby at_180) rfl rfl ?_
          exact kt)
        have tv60 := Vq41
        obtain ⟨cl60, Ar60, q60, S60, Ng60, H60, G60⟩ := tv60
        have hin60 : ¬ (po < 0 ∨ cl60.slots.size ≤ (po).toNatClampNeg) := inb_of S60 (own_pi po ln hm39)
        obtain ⟨_, _, ⟨T61, L61, k61, n61⟩, -, X61, ⟨Lc61, hQ61, l61, y61, z61⟩, st61⟩ := Jvm.LawKit.callS X44 hx (y := (⟨"com/example/baton/baton/support/Skipped", "contains", "(IJJ[Z)Z"⟩ : MethodName)) hown (mvT hZ (hw _ (List.mem_of_getElem? (i := 9) rfl))) (mvT hZ (hw _ (List.mem_of_getElem? (i := 10) rfl))) (mvT hZ (hw _ (List.mem_of_getElem? (i := 3) rfl))) (mvT hZ (hw _ (List.mem_of_getElem? (i := 11) rfl))) (by decide) (backOf (W := 0) (rm3a l Z av hw [] po lo hi b41 cl60 (1 : Int32) T41.heap n0 Z41 Ar60 (fun _ => hin60) (fun _ => atH H60 hin60 (getH_hit (own_pi po ln hm39).1 rfl))) hZ (hw _ (List.mem_of_getElem? (i := 11) rfl)) (hw _ (List.mem_of_getElem? (i := 3) rfl)) (by decide) (by decide)) (g := (mkF m 182 #[.val (.long q0), .second, .val (.long q1), .second, .val (.int p2), .val (.int p3), .val (.int p4), .val (.int p5), .val (.long lo), .second, .val (.long hi), .second, .val (.int (1 : Int32)), .val (.int ln), .val (.int po), .val (.ref b41), .val (.int (f_na lo hi)), .val (.int (0 : Int32)), .val (.int pr)] [(.ref b41), (.long hi), (.long lo), (.int po)])) rfl (by rw [hml]; rfl) (argsL := [(.int po), (.long lo), (.long hi), (.ref b41)]) (rest := []) (lenOf pd__IJJ_Z_Z rfl) rfl (by show 2 * 0 + _ ≤ _; exact Nat.le_of_eq rfl) (hb hby at_182) (fun _ _ => ⟨rfl, e44, (by decide : 1 + 0 ≤ _), (by decide : 192 + 0 ≤ _)⟩)
        dsimp only [Pt.U, Pt.locs, Pt.cells, Pt.slots] at X61 l61 y61 z61 st61 hQ61
        subst l61 y61 z61
        obtain ⟨rfl, N61q, e61⟩ := hQ61
        have N61 := Fr.app N44 N61q
        have pre62 : ∀ t, Steps p.tables e below (T61.setTop (mkF m 185 #[.val (.long q0), .second, .val (.long q1), .second, .val (.int p2), .val (.int p3), .val (.int p4), .val (.int p5), .val (.long lo), .second, .val (.long hi), .second, .val (.int (1 : Int32)), .val (.int ln), .val (.int po), .val (.ref b41), .val (.int (f_na lo hi)), .val (.int (0 : Int32)), .val (.int pr)] [(.int (f_ca po lo hi (1 : Int32)))])) t → Steps p.tables e below (s₁.setTop (entryFrame m #[(.long q0), (.long q1), (.int p2), (.int p3), (.int p4), (.int p5)] maxLocals)) t := fun t kt => pre59 t (st61 _ kt)
        have pre63 : ∀ t, Steps p.tables e below (T61.setTop (mkF m 191 #[.val (.long q0), .second, .val (.long q1), .second, .val (.int p2), .val (.int p3), .val (.int p4), .val (.int p5), .val (.long lo), .second, .val (.long hi), .second, .val (.int (1 : Int32)), .val (.int ln), .val (.int po), .val (.ref b41), .val (.int (f_na lo hi)), .val (.int (0 : Int32)), .val (.int pr)] [(.int (1 : Int32))])) t → Steps p.tables e below (s₁.setTop (entryFrame m #[(.long q0), (.long q1), (.int p2), (.int p3), (.int p4), (.int p5)] maxLocals)) t := fun t kt => pre62 t (by
          show Steps p.tables e below (T61.setTop (mkF m 185 #[.val (.long q0), .second, .val (.long q1), .second, .val (.int p2), .val (.int p3), .val (.int p4), .val (.int p5), .val (.long lo), .second, .val (.long hi), .second, .val (.int (1 : Int32)), .val (.int ln), .val (.int po), .val (.ref b41), .val (.int (f_na lo hi)), .val (.int (0 : Int32)), .val (.int pr)] [(.int (f_ca po lo hi (1 : Int32)))])) _
          refine XS.ifYes X61.here hx rfl (pc0 := 185) (pc' := 190) rfl (hb hby at_185) rfl ((if0 _ _).trans (feq (own_ca1 po lo hi (own_p128 po ln hm39) : ¬ ((f_ca po lo hi (1 : Int32)) = (0 : Int32)))).2) (by decide) (by decide) ?_
          show Steps p.tables e below (T61.setTop (mkF m 190 #[.val (.long q0), .second, .val (.long q1), .second, .val (.int p2), .val (.int p3), .val (.int p4), .val (.int p5), .val (.long lo), .second, .val (.long hi), .second, .val (.int (1 : Int32)), .val (.int ln), .val (.int po), .val (.ref b41), .val (.int (f_na lo hi)), .val (.int (0 : Int32)), .val (.int pr)] [])) _
          refine XS.iconst X61.here hx rfl (hb hby at_190) ?_
          exact kt)
        obtain ⟨fs, hr, hrun, hended, hW, hsame⟩ := X61.leave (v := some (.int (1 : Int32))) (fun h => by rw [Bd.returns] at h; cases h)
        refine ⟨_, _, pre63 _ ?_, hrun, hended, _, _, rfl, ?_, ⟨_, rfl⟩, hW, hsame.mono (by decide) (by decide)⟩
        · show Steps p.tables e below (T61.setTop (mkF m 191 #[.val (.long q0), .second, .val (.long q1), .second, .val (.int p2), .val (.int p3), .val (.int p4), .val (.int p5), .val (.long lo), .second, .val (.long hi), .second, .val (.int (1 : Int32)), .val (.int ln), .val (.int po), .val (.ref b41), .val (.int (f_na lo hi)), .val (.int (0 : Int32)), .val (.int pr)] [(.int (1 : Int32))])) _
          exact retN X61 hx (t := .boolean) Bd.returns (by simp) (hb hby at_191) hr
        · show Q0 Z q0 q1 p2 p3 p4 p5 h0 n0 _ T61.heap _
          rw [e61]
          exact ⟨rfl, N61⟩
    · have pre64 : ∀ t, Steps p.tables e below (T44.setTop (mkF m 148 #[.val (.long q0), .second, .val (.long q1), .second, .val (.int p2), .val (.int p3), .val (.int p4), .val (.int p5), .val (.long lo), .second, .val (.long hi), .second, .val (.int (1 : Int32)), .val (.int ln), .val (.int po), .val (.ref b41), .val (.int (f_na lo hi)), .val (.int (0 : Int32)), .val (.int ((p5 &&& (2147483647 : Int32)) % ln))] [])) t → Steps p.tables e below (s₁.setTop (entryFrame m #[(.long q0), (.long q1), (.int p2), (.int p3), (.int p4), (.int p5)] maxLocals)) t := fun t kt => pre46 t (by
        show Steps p.tables e below (T44.setTop (mkF m 107 #[.val (.long q0), .second, .val (.long q1), .second, .val (.int p2), .val (.int p3), .val (.int p4), .val (.int p5), .val (.long lo), .second, .val (.long hi), .second, .val (.int (1 : Int32)), .val (.int ln), .val (.int po), .val (.ref b41), .val (.int (f_na lo hi)), .unset, .unset] [(.int (lcmpW lo (0 : Int64)))])) _
        refine XS.ifYes X44.here hx rfl (pc0 := 107) (pc' := 126) rfl (hb hby at_107) rfl (Jvm.Free.XT.ll_ne_t hc107_47) (by decide) (by decide) ?_
        show Steps p.tables e below (T44.setTop (mkF m 126 #[.val (.long q0), .second, .val (.long q1), .second, .val (.int p2), .val (.int p3), .val (.int p4), .val (.int p5), .val (.long lo), .second, .val (.long hi), .second, .val (.int (1 : Int32)), .val (.int ln), .val (.int po), .val (.ref b41), .val (.int (f_na lo hi)), .unset, .unset] [])) _
        refine XS.iconst X44.here hx rfl (hb hby at_126) ?_
        show Steps p.tables e below (T44.setTop (mkF m 127 #[.val (.long q0), .second, .val (.long q1), .second, .val (.int p2), .val (.int p3), .val (.int p4), .val (.int p5), .val (.long lo), .second, .val (.long hi), .second, .val (.int (1 : Int32)), .val (.int ln), .val (.int po), .val (.ref b41), .val (.int (f_na lo hi)), .unset, .unset] [(.int (0 : Int32))])) _
        refine XS.istore X44.here hx rfl (hb hby at_127) rfl (l' := #[.val (.long q0), .second, .val (.long q1), .second, .val (.int p2), .val (.int p3), .val (.int p4), .val (.int p5), .val (.long lo), .second, .val (.long hi), .second, .val (.int (1 : Int32)), .val (.int ln), .val (.int po), .val (.ref b41), .val (.int (f_na lo hi)), .val (.int (0 : Int32)), .unset]) rfl ?_
        show Steps p.tables e below (T44.setTop (mkF m 129 #[.val (.long q0), .second, .val (.long q1), .second, .val (.int p2), .val (.int p3), .val (.int p4), .val (.int p5), .val (.long lo), .second, .val (.long hi), .second, .val (.int (1 : Int32)), .val (.int ln), .val (.int po), .val (.ref b41), .val (.int (f_na lo hi)), .val (.int (0 : Int32)), .unset] [])) _
        refine XS.iload X44.here hx rfl (hb hby at_129) rfl ?_
        show Steps p.tables e below (T44.setTop (mkF m 131 #[.val (.long q0), .second, .val (.long q1), .second, .val (.int p2), .val (.int p3), .val (.int p4), .val (.int p5), .val (.long lo), .second, .val (.long hi), .second, .val (.int (1 : Int32)), .val (.int ln), .val (.int po), .val (.ref b41), .val (.int (f_na lo hi)), .val (.int (0 : Int32)), .unset] [(.int (f_na lo hi))])) _
        refine XS.iload X44.here hx rfl (hb hby at_131) rfl ?_
        show Steps p.tables e below (T44.setTop (mkF m 133 #[.val (.long q0), .second, .val (.long q1), .second, .val (.int p2), .val (.int p3), .val (.int p4), .val (.int p5), .val (.long lo), .second, .val (.long hi), .second, .val (.int (1 : Int32)), .val (.int ln), .val (.int po), .val (.ref b41), .val (.int (f_na lo hi)), .val (.int (0 : Int32)), .unset] [(.int (0 : Int32)), (.int (f_na lo hi))])) _
        refine XS.icmpYes X44.here hx rfl (pc0 := 133) (pc' := 138) rfl (hb hby at_133) rfl (teq (by unfold f_na; rw [if_neg hc107_47] : (f_na lo hi) = (0 : Int32))).1 (by decide) (by decide) ?_
        show Steps p.tables e below (T44.setTop (mkF m 138 #[.val (.long q0), .second, .val (.long q1), .second, .val (.int p2), .val (.int p3), .val (.int p4), .val (.int p5), .val (.long lo), .second, .val (.long hi), .second, .val (.int (1 : Int32)), .val (.int ln), .val (.int po), .val (.ref b41), .val (.int (f_na lo hi)), .val (.int (0 : Int32)), .unset] [])) _
        refine XS.iload X44.here hx rfl (hb hby at_138) rfl ?_
        show Steps p.tables e below (T44.setTop (mkF m 140 #[.val (.long q0), .second, .val (.long q1), .second, .val (.int p2), .val (.int p3), .val (.int p4), .val (.int p5), .val (.long lo), .second, .val (.long hi), .second, .val (.int (1 : Int32)), .val (.int ln), .val (.int po), .val (.ref b41), .val (.int (f_na lo hi)), .val (.int (0 : Int32)), .unset] [(.int p5)])) _
        refine X44.ldcInt hx hown (mvT hZ (hw _ (List.mem_of_getElem? (i := 0) rfl))) (g := (mkF m 140 #[.val (.long q0), .second, .val (.long q1), .second, .val (.int p2), .val (.int p3), .val (.int p4), .val (.int p5), .val (.long lo), .second, .val (.long hi), .second, .val (.int (1 : Int32)), .val (.int ln), .val (.int po), .val (.ref b41), .val (.int (f_na lo hi)), .val (.int (0 : Int32)), .unset] [(.int p5)])) rfl (hb hby at_140) _ ?_
        show Steps p.tables e below (T44.setTop (mkF m 142 #[.val (.long q0), .second, .val (.long q1), .second, .val (.int p2), .val (.int p3), .val (.int p4), .val (.int p5), .val (.long lo), .second, .val (.long hi), .second, .val (.int (1 : Int32)), .val (.int ln), .val (.int po), .val (.ref b41), .val (.int (f_na lo hi)), .val (.int (0 : Int32)), .unset] [(.int (2147483647 : Int32)), (.int p5)])) _
        refine XS.iand X44.here hx rfl (hb hby at_142) rfl ?_
        show Steps p.tables e below (T44.setTop (mkF m 143 #[.val (.long q0), .second, .val (.long q1), .second, .val (.int p2), .val (.int p3), .val (.int p4), .val (.int p5), .val (.long lo), .second, .val (.long hi), .second, .val (.int (1 : Int32)), .val (.int ln), .val (.int po), .val (.ref b41), .val (.int (f_na lo hi)), .val (.int (0 : Int32)), .unset] [(.int (p5 &&& (2147483647 : Int32)))])) _
        refine XS.iload X44.here hx rfl (hb hby at_143) rfl ?_
        show Steps p.tables e below (T44.setTop (mkF m 145 #[.val (.long q0), .second, .val (.long q1), .second, .val (.int p2), .val (.int p3), .val (.int p4), .val (.int p5), .val (.long lo), .second, .val (.long hi), .second, .val (.int (1 : Int32)), .val (.int ln), .val (.int po), .val (.ref b41), .val (.int (f_na lo hi)), .val (.int (0 : Int32)), .unset] [(.int ln), (.int (p5 &&& (2147483647 : Int32)))])) _
        refine XS.irem X44.here hx rfl (hb hby at_145) rfl (own_lnz ln hm37) ?_
        rw [own_irem]
        show Steps p.tables e below (T44.setTop (mkF m 146 #[.val (.long q0), .second, .val (.long q1), .second, .val (.int p2), .val (.int p3), .val (.int p4), .val (.int p5), .val (.long lo), .second, .val (.long hi), .second, .val (.int (1 : Int32)), .val (.int ln), .val (.int po), .val (.ref b41), .val (.int (f_na lo hi)), .val (.int (0 : Int32)), .unset] [(.int ((p5 &&& (2147483647 : Int32)) % ln))])) _
        refine XS.istore X44.here hx rfl (hb hby at_146) rfl (l' := #[.val (.long q0), .second, .val (.long q1), .second, .val (.int p2), .val (.int p3), .val (.int p4), .val (.int p5), .val (.long lo), .second, .val (.long hi), .second, .val (.int (1 : Int32)), .val (.int ln), .val (.int po), .val (.ref b41), .val (.int (f_na lo hi)), .val (.int (0 : Int32)), .val (.int ((p5 &&& (2147483647 : Int32)) % ln))]) rfl ?_
        exact kt)
      obtain ⟨pr, hm65, pre65⟩ : ∃ (pr : Int32), (True) ∧ ∀ t, Steps p.tables e below (T44.setTop (mkF m 148 #[.val (.long q0), .second, .val (.long q1), .second, .val (.int p2), .val (.int p3), .val (.int p4), .val (.int p5), .val (.long lo), .second, .val (.long hi), .second, .val (.int (1 : Int32)), .val (.int ln), .val (.int po), .val (.ref b41), .val (.int (f_na lo hi)), .val (.int (0 : Int32)), .val (.int pr)] [])) t → Steps p.tables e below (s₁.setTop (entryFrame m #[(.long q0), (.long q1), (.int p2), (.int p3), (.int p4), (.int p5)] maxLocals)) t := ⟨((p5 &&& (2147483647 : Int32)) % ln), trivial, pre64⟩
      have pre66 : ∀ t, Steps p.tables e below (T44.setTop (mkF m 182 #[.val (.long q0), .second, .val (.long q1), .second, .val (.int p2), .val (.int p3), .val (.int p4), .val (.int p5), .val (.long lo), .second, .val (.long hi), .second, .val (.int (1 : Int32)), .val (.int ln), .val (.int po), .val (.ref b41), .val (.int (f_na lo hi)), .val (.int (0 : Int32)), .val (.int pr)] [(.ref b41), (.long hi), (.long lo), (.int po)])) t → Steps p.tables e below (s₁.setTop (entryFrame m #[(.long q0), (.long q1), (.int p2), (.int p3), (.int p4), (.int p5)] maxLocals)) t := fun t kt => pre65 t (by
        show Steps p.tables e below (T44.setTop (mkF m 148 #[.val (.long q0), .second, .val (.long q1), .second, .val (.int p2), .val (.int p3), .val (.int p4), .val (.int p5), .val (.long lo), .second, .val (.long hi), .second, .val (.int (1 : Int32)), .val (.int ln), .val (.int po), .val (.ref b41), .val (.int (f_na lo hi)), .val (.int (0 : Int32)), .val (.int pr)] [])) _
        refine XS.iload X44.here hx rfl (hb hby at_148) rfl ?_
        show Steps p.tables e below (T44.setTop (mkF m 150 #[.val (.long q0), .second, .val (.long q1), .second, .val (.int p2), .val (.int p3), .val (.int p4), .val (.int p5), .val (.long lo), .second, .val (.long hi), .second, .val (.int (1 : Int32)), .val (.int ln), .val (.int po), .val (.ref b41), .val (.int (f_na lo hi)), .val (.int (0 : Int32)), .val (.int pr)] [(.int (f_na lo hi))])) _
        refine XS.ifYes X44.here hx rfl (pc0 := 150) (pc' := 169) rfl (hb hby at_150) rfl ((if0 _ _).trans (teq (by unfold f_na; rw [if_neg hc107_47] : (f_na lo hi) = (0 : Int32))).1) (by decide) (by decide) ?_
        show Steps p.tables e below (T44.setTop (mkF m 169 #[.val (.long q0), .second, .val (.long q1), .second, .val (.int p2), .val (.int p3), .val (.int p4), .val (.int p5), .val (.long lo), .second, .val (.long hi), .second, .val (.int (1 : Int32)), .val (.int ln), .val (.int po), .val (.ref b41), .val (.int (f_na lo hi)), .val (.int (0 : Int32)), .val (.int pr)] [])) _
        refine XS.iload X44.here hx rfl (hb hby at_169) rfl ?_
        show Steps p.tables e below (T44.setTop (mkF m 171 #[.val (.long q0), .second, .val (.long q1), .second, .val (.int p2), .val (.int p3), .val (.int p4), .val (.int p5), .val (.long lo), .second, .val (.long hi), .second, .val (.int (1 : Int32)), .val (.int ln), .val (.int po), .val (.ref b41), .val (.int (f_na lo hi)), .val (.int (0 : Int32)), .val (.int pr)] [(.int (1 : Int32))])) _
        refine XS.ifNo X44.here hx rfl (hb hby at_171) rfl ((if0 _ _).trans (feq (by decide : ¬ ((1 : Int32) = (0 : Int32)))).1) ?_
        show Steps p.tables e below (T44.setTop (mkF m 174 #[.val (.long q0), .second, .val (.long q1), .second, .val (.int p2), .val (.int p3), .val (.int p4), .val (.int p5), .val (.long lo), .second, .val (.long hi), .second, .val (.int (1 : Int32)), .val (.int ln), .val (.int po), .val (.ref b41), .val (.int (f_na lo hi)), .val (.int (0 : Int32)), .val (.int pr)] [])) _
        refine XS.iload X44.here hx rfl (hb hby at_174) rfl ?_
        show Steps p.tables e below (T44.setTop (mkF m 176 #[.val (.long q0), .second, .val (.long q1), .second, .val (.int p2), .val (.int p3), .val (.int p4), .val (.int p5), .val (.long lo), .second, .val (.long hi), .second, .val (.int (1 : Int32)), .val (.int ln), .val (.int po), .val (.ref b41), .val (.int (f_na lo hi)), .val (.int (0 : Int32)), .val (.int pr)] [(.int po)])) _
        refine XS.lload X44.here hx rfl (hb hby at_176) rfl ?_
        show Steps p.tables e below (T44.setTop (mkF m 178 #[.val (.long q0), .second, .val (.long q1), .second, .val (.int p2), .val (.int p3), .val (.int p4), .val (.int p5), .val (.long lo), .second, .val (.long hi), .second, .val (.int (1 : Int32)), .val (.int ln), .val (.int po), .val (.ref b41), .val (.int (f_na lo hi)), .val (.int (0 : Int32)), .val (.int pr)] [(.long lo), (.int po)])) _
        refine XS.lload X44.here hx rfl (hb hby at_178) rfl ?_
        show Steps p.tables e below (T44.setTop (mkF m 180 #[.val (.long q0), .second, .val (.long q1), .second, .val (.int p2), .val (.int p3), .val (.int p4), .val (.int p5), .val (.long lo), .second, .val (.long hi), .second, .val (.int (1 : Int32)), .val (.int ln), .val (.int po), .val (.ref b41), .val (.int (f_na lo hi)), .val (.int (0 : Int32)), .val (.int pr)] [(.long hi), (.long lo), (.int po)])) _
        refine XS.aload X44.here hx rfl (hb hby at_180) rfl rfl ?_
        exact kt)
      have tv67 := Vq41
      obtain ⟨cl67, Ar67, q67, S67, Ng67, H67, G67⟩ := tv67
      have hin67 : ¬ (po < 0 ∨ cl67.slots.size ≤ (po).toNatClampNeg) := inb_of S67 (own_pi po ln hm39)
      obtain ⟨_, _, ⟨T68, L68, k68, n68⟩, -, X68, ⟨Lc68, hQ68, l68, y68, z68⟩, st68⟩ := Jvm.LawKit.callS X44 hx (y := (⟨"com/example/baton/baton/support/Skipped", "contains", "(IJJ[Z)Z"⟩ : MethodName)) hown (mvT hZ (hw _ (List.mem_of_getElem? (i := 9) rfl))) (mvT hZ (hw _ (List.mem_of_getElem? (i := 10) rfl))) (mvT hZ (hw _ (List.mem_of_getElem? (i := 3) rfl))) (mvT hZ (hw _ (List.mem_of_getElem? (i := 11) rfl))) (by decide) (backOf (W := 0) (rm3a l Z av hw [] po lo hi b41 cl67 (1 : Int32) T41.heap n0 Z41 Ar67 (fun _ => hin67) (fun _ => atH H67 hin67 (getH_hit (own_pi po ln hm39).1 rfl))) hZ (hw _ (List.mem_of_getElem? (i := 11) rfl)) (hw _ (List.mem_of_getElem? (i := 3) rfl)) (by decide) (by decide)) (g := (mkF m 182 #[.val (.long q0), .second, .val (.long q1), .second, .val (.int p2), .val (.int p3), .val (.int p4), .val (.int p5), .val (.long lo), .second, .val (.long hi), .second, .val (.int (1 : Int32)), .val (.int ln), .val (.int po), .val (.ref b41), .val (.int (f_na lo hi)), .val (.int (0 : Int32)), .val (.int pr)] [(.ref b41), (.long hi), (.long lo), (.int po)])) rfl (by rw [hml]; rfl) (argsL := [(.int po), (.long lo), (.long hi), (.ref b41)]) (rest := []) (lenOf pd__IJJ_Z_Z rfl) rfl (by show 2 * 0 + _ ≤ _; exact Nat.le_of_eq rfl) (hb hby at_182) (fun _ _ => ⟨rfl, e44, (by decide : 1 + 0 ≤ _), (by decide : 192 + 0 ≤ _)⟩)
      dsimp only [Pt.U, Pt.locs, Pt.cells, Pt.slots] at X68 l68 y68 z68 st68 hQ68
      subst l68 y68 z68
      obtain ⟨rfl, N68q, e68⟩ := hQ68
      have N68 := Fr.app N44 N68q
      have pre69 : ∀ t, Steps p.tables e below (T68.setTop (mkF m 185 #[.val (.long q0), .second, .val (.long q1), .second, .val (.int p2), .val (.int p3), .val (.int p4), .val (.int p5), .val (.long lo), .second, .val (.long hi), .second, .val (.int (1 : Int32)), .val (.int ln), .val (.int po), .val (.ref b41), .val (.int (f_na lo hi)), .val (.int (0 : Int32)), .val (.int pr)] [(.int (f_ca po lo hi (1 : Int32)))])) t → Steps p.tables e below (s₁.setTop (entryFrame m #[(.long q0), (.long q1), (.int p2), (.int p3), (.int p4), (.int p5)] maxLocals)) t := fun t kt => pre66 t (st68 _ kt)
      have pre70 : ∀ t, Steps p.tables e below (T68.setTop (mkF m 191 #[.val (.long q0), .second, .val (.long q1), .second, .val (.int p2), .val (.int p3), .val (.int p4), .val (.int p5), .val (.long lo), .second, .val (.long hi), .second, .val (.int (1 : Int32)), .val (.int ln), .val (.int po), .val (.ref b41), .val (.int (f_na lo hi)), .val (.int (0 : Int32)), .val (.int pr)] [(.int (1 : Int32))])) t → Steps p.tables e below (s₁.setTop (entryFrame m #[(.long q0), (.long q1), (.int p2), (.int p3), (.int p4), (.int p5)] maxLocals)) t := fun t kt => pre69 t (by
        show Steps p.tables e below (T68.setTop (mkF m 185 #[.val (.long q0), .second, .val (.long q1), .second, .val (.int p2), .val (.int p3), .val (.int p4), .val (.int p5), .val (.long lo), .second, .val (.long hi), .second, .val (.int (1 : Int32)), .val (.int ln), .val (.int po), .val (.ref b41), .val (.int (f_na lo hi)), .val (.int (0 : Int32)), .val (.int pr)] [(.int (f_ca po lo hi (1 : Int32)))])) _
        refine XS.ifYes X68.here hx rfl (pc0 := 185) (pc' := 190) rfl (hb hby at_185) rfl ((if0 _ _).trans (feq (own_ca1 po lo hi (own_p128 po ln hm39) : ¬ ((f_ca po lo hi (1 : Int32)) = (0 : Int32)))).2) (by decide) (by decide) ?_
        show Steps p.tables e below (T68.setTop (mkF m 190 #[.val (.long q0), .second, .val (.long q1), .second, .val (.int p2), .val (.int p3), .val (.int p4), .val (.int p5), .val (.long lo), .second, .val (.long hi), .second, .val (.int (1 : Int32)), .val (.int ln), .val (.int po), .val (.ref b41), .val (.int (f_na lo hi)), .val (.int (0 : Int32)), .val (.int pr)] [])) _
        refine XS.iconst X68.here hx rfl (hb hby at_190) ?_
        exact kt)
      obtain ⟨fs, hr, hrun, hended, hW, hsame⟩ := X68.leave (v := some (.int (1 : Int32))) (fun h => by rw [Bd.returns] at h; cases h)
      refine ⟨_, _, pre70 _ ?_, hrun, hended, _, _, rfl, ?_, ⟨_, rfl⟩, hW, hsame.mono (by decide) (by decide)⟩
      · show Steps p.tables e below (T68.setTop (mkF m 191 #[.val (.long q0), .second, .val (.long q1), .second, .val (.int p2), .val (.int p3), .val (.int p4), .val (.int p5), .val (.long lo), .second, .val (.long hi), .second, .val (.int (1 : Int32)), .val (.int ln), .val (.int po), .val (.ref b41), .val (.int (f_na lo hi)), .val (.int (0 : Int32)), .val (.int pr)] [(.int (1 : Int32))])) _
        exact retN X68 hx (t := .boolean) Bd.returns (by simp) (hb hby at_191) hr
      · show Q0 Z q0 q1 p2 p3 p4 p5 h0 n0 _ T68.heap _
        rw [e68]
        exact ⟨rfl, N68⟩
set_option maxRecDepth 65536 in
set_option maxHeartbeats 40000000 in
theorem comes_1 {Post : Tables → Env → Array Value → State → Outcome → State → Prop} (hpost : ∀ tb e args s v u, (limb_1_1.after args s (.returned v) u = true ∧ limb_1_2.after args s (.returned v) u = true ∧ True) → FrameEnd s (.returned v) u (Jvm.fieldLocs frame_1_writes args s ++ Jvm.arrayLocs frame_1_arrays args s ++ Jvm.staticLocs frame_1_statics s) 16 448 → Post tb e args s (.returned v) u) :
    ArmFor flags0 classFile x code maxLocals ret World_1 tables_1 room_1 Calls_1 rest_1 Pre_1 Post := by
  intro l hfl _ _ p e ha hc hk s m args below hf hA hF happ hP
  obtain ⟨hcalls, hrest, hpre⟩ := hP
  obtain ⟨-, -, -, hnamed, -, -, -, hat⟩ := (Spec.applies_iff hf).mp happ
  obtain ⟨hg, hn⟩ := and_e (Cond.before_iff.mp (show (Jvm.Cond.and given_1 narrow_1).before args s = true from hpre))
  obtain ⟨g1, g2⟩ := and_e hg
  obtain ⟨g3, g4⟩ := and_e g2
  obtain ⟨g5, g6⟩ := and_e g4
  obtain ⟨g7, g8⟩ := and_e g6
  obtain ⟨g9, g10⟩ := and_e g8
  obtain ⟨g11, g12⟩ := and_e g10
  obtain ⟨w0, w1, w2, w3, w4, w5, rfl⟩ : ∃ w0 w1 w2 w3 w4 w5 : Value, args = #[w0, w1, w2, w3, w4, w5] := by
    have hs : args.size = 6 := by simpa [Cond.value, given_1] using g1
    obtain ⟨L⟩ := args
    match L, hs with
    | [w0, w1, w2, w3, w4, w5], _ => exact ⟨w0, w1, w2, w3, w4, w5, rfl⟩
  have hw := fun d (hd : d ∈ tables_1) => atoms_spec (ws := Jvm.Cond.code x code maxLocals ret :: tables_1) hat d (List.mem_cons_of_mem _ hd)
  obtain ⟨i0, ei0⟩ := isL_v g3
  obtain rfl : w0 = (.long i0) := Option.some.inj ei0
  obtain ⟨i1, ei1⟩ := isL_v g5
  obtain rfl : w1 = (.long i1) := Option.some.inj ei1
  obtain ⟨i2, ei2⟩ := is_v g7
  obtain rfl : w2 = (.int i2) := Option.some.inj ei2
  obtain ⟨i3, ei3⟩ := is_v g9
  obtain rfl : w3 = (.int i3) := Option.some.inj ei3
  obtain ⟨i4, ei4⟩ := is_v g11
  obtain rfl : w4 = (.int i4) := Option.some.inj ei4
  obtain ⟨i5, ei5⟩ := is_v g12
  obtain rfl : w5 = (.int i5) := Option.some.inj ei5
  obtain ⟨n, o, h1, h2, h3, _, L, rfl, ⟨rfl, N⟩, hq⟩ := rm0 l s _ hw tables_1 i0 i1 i2 i3 i4 i5 s.heap s.heap.size (Nat.le_refl _) p e ha hc hk s m _ below hf ((Spec.applies_iff_loose hf).mp happ).1 ⟨rfl, State.Warmed39.refl s, rfl⟩ trivial
  refine ⟨n, _, h1, h2, h3, hpost _ _ _ _ _ _ ⟨Cond.after_iff.mpr rfl, Cond.after_iff.mpr (eq_i res_at (Term.int_eval (1)) rfl), trivial⟩ ⟨hq.1, hq.2.1, (hq.2.2.sift fun y hy => Or.inr (N y hy)).mono (by decide) (by decide)⟩⟩
theorem main_1_1 : Claimed_1_1 := comes_1 fun _ _ _ _ _ _ h hF => ⟨h.1, hF⟩
theorem main_1_2 : Claimed_1_2 := comes_1 fun _ _ _ _ _ _ h hF => ⟨h.2.1, hF⟩
end Jvm.Pilot.@@N@@
namespace Jvm.Pilot.@@N@@
open Jvm Jvm.ClassFile Sem Op Lib Jvm.Free Jvm.Stand Jvm.Pilot.@@N@@.Jvm.D
/-! MADE BY PROGRAM (witnessworld.py) out of the Statement's table words and the real class files: 11 classes; the members and pool entries that the words name. The judged class is class 1, her method 1. -/
namespace start1
open Jvm.ClassFile
def u (s : String) : CpInfo := .utf8 (stringToUtf16 s)
/-- a pool by its gaps: so many unusable entries, then the entry; so many at the end -/
def gap : Nat → List CpInfo → List CpInfo
  | 0, r => r
  | n + 1, r => .unusable :: gap n r
def poolList (es : List (Nat × CpInfo)) (last : Nat) : List CpInfo := es.foldr (fun e r => gap e.1 (e.2 :: r)) (gap last [])
def pool (es : List (Nat × CpInfo)) (last : Nat) : Array CpInfo := ⟨poolList es last⟩
def fileOf (pool : Array CpInfo) (this : Nat) (attrs : Array Attribute := #[]) (ms : Array MethodInfo := #[]) (fl : Nat := 33) (sup : Nat := 0) (ifs : Array Nat := #[]) (fds : Array FieldInfo := #[]) : ClassFile where
  minorVersion := 0
  majorVersion := 65
  constantPool := pool
  accessFlags := fl
  thisClass := this
  superClass := sup
  interfaces := ifs
  fields := fds
  methods := ms
  attributes := attrs
def plain (name : String) (sup : Option ClassId) : Class where
  name := name
  kind := .ordinary
  loader := none
  accessFlags := 33
  super := sup
  interfaces := #[]
  cf := none
  fields := #[]
  methods := #[]
  instanceTypes := #[]
  staticTypes := #[]
  resolved := #[]
  callSites := []
  init := .initialized
  statics := none
  mirror := none

def pool0 : Array CpInfo := pool [(5, u "<init>"), (0, u "()V"), (1, .class_ 10), (1, u "java/lang/Object")] 113

def k0m0 : Method := { name := "<init>", desc := "()V", sig := { parameters := [], returnType := none }, accessFlags := 1, code := none }
/-- java/lang/Object -/
def k0 : Class := { plain "java/lang/Object" none with
  accessFlags := 33
  interfaces := #[]
  cf := some (fileOf pool0 8 #[] #[{ accessFlags := 1, nameIndex := 5, descriptorIndex := 6, attributes := #[] }] 33 0 #[] #[])
  fields := #[]
  methods := #[k0m0]
  instanceTypes := #[]
  staticTypes := #[]
  resolved := Array.replicate 124 none
  statics := none }

def pool1 : Array CpInfo := pool [(2, .class_ 4), (1, u "java/lang/Object"), (0, u "<init>"), (0, u "()V"), (0, .integer 2147483647), (0, .methodref 9 10), (0, .class_ 11), (0, .nameAndType 12 13), (0, u "com/example/baton/baton/support/Skipped"), (0, u "marked"), (0, u "([ZII)[Z"), (0, .methodref 9 15), (0, .nameAndType 16 17), (0, u "none"), (0, u "(JJ[Z)Z"), (0, .methodref 9 19), (0, .nameAndType 20 21), (0, u "contains"), (0, u "(IJJ[Z)Z"), (0, .class_ 23), (0, u "com/example/baton/baton/support/SkippedNonePinLaw"), (2, u "law"), (0, u "(JJIIII)Z")] 5

def k1m0 : Method := { name := "<init>", desc := "()V", sig := { parameters := [], returnType := none }, accessFlags := 1, code := none }
def k1c1 : Code := { maxStack := 6, maxLocals := 19, code := code, exceptionTable := #[], attributes := #[] }
def k1m1 : Method := { name := "law", desc := "(JJIIII)Z", sig := { parameters := [.long, .long, .int, .int, .int, .int], returnType := some .boolean }, accessFlags := 9, code := some k1c1 }
/-- com/example/baton/baton/support/SkippedNonePinLaw -/
def k1 : Class := { plain "com/example/baton/baton/support/SkippedNonePinLaw" (some 0) with
  accessFlags := 49
  interfaces := #[]
  cf := some (fileOf pool1 22 #[] #[{ accessFlags := 1, nameIndex := 5, descriptorIndex := 6, attributes := #[] }, { accessFlags := 9, nameIndex := 26, descriptorIndex := 27, attributes := #[] }] 49 2 #[] #[])
  fields := #[]
  methods := #[k1m0, k1m1]
  instanceTypes := #[]
  staticTypes := #[]
  resolved := Array.replicate 33 none
  statics := none }

def pool2 : Array CpInfo := pool [(4, .class_ 6), (1, u "java/lang/Object"), (0, u "<init>"), (0, u "()V"), (0, .class_ 10), (0, u "com/example/baton/baton/support/Skipped"), (0, u "IN_WORDS"), (0, u "I"), (4, u "marked"), (0, u "([ZII)[Z"), (3, u "contains"), (0, u "(IJJ[Z)Z"), (0, u "none"), (0, u "(JJ[Z)Z")] 2

def k2m0 : Method := { name := "<init>", desc := "()V", sig := { parameters := [], returnType := none }, accessFlags := 2, code := none }
def k2c1 : Code := { maxStack := 3, maxLocals := 4, code := prog_26_method_2_code, exceptionTable := #[], attributes := #[] }
def k2m1 : Method := { name := "marked", desc := "([ZII)[Z", sig := { parameters := [(.array .boolean), .int, .int], returnType := some (.array .boolean) }, accessFlags := 9, code := some k2c1 }
def k2c2 : Code := { maxStack := 5, maxLocals := 7, code := prog_26_method_3_code, exceptionTable := #[], attributes := #[] }
def k2m2 : Method := { name := "contains", desc := "(IJJ[Z)Z", sig := { parameters := [.int, .long, .long, (.array .boolean)], returnType := some .boolean }, accessFlags := 9, code := some k2c2 }
def k2c3 : Code := { maxStack := 4, maxLocals := 5, code := prog_26_method_4_code, exceptionTable := #[], attributes := #[] }
def k2m3 : Method := { name := "none", desc := "(JJ[Z)Z", sig := { parameters := [.long, .long, (.array .boolean)], returnType := some .boolean }, accessFlags := 9, code := some k2c3 }
/-- com/example/baton/baton/support/Skipped -/
def k2 : Class := { plain "com/example/baton/baton/support/Skipped" (some 0) with
  accessFlags := 49
  interfaces := #[]
  cf := some (fileOf pool2 9 #[] #[{ accessFlags := 2, nameIndex := 7, descriptorIndex := 8, attributes := #[] }, { accessFlags := 9, nameIndex := 17, descriptorIndex := 18, attributes := #[] }, { accessFlags := 9, nameIndex := 22, descriptorIndex := 23, attributes := #[] }, { accessFlags := 9, nameIndex := 24, descriptorIndex := 25, attributes := #[] }] 49 4 #[] #[{ accessFlags := 25, nameIndex := 11, descriptorIndex := 12, attributes := #[] }])
  fields := #[{ name := "IN_WORDS", type := .int, accessFlags := 25, slot := 0, constantValue := 0 }]
  methods := #[k2m0, k2m1, k2m2, k2m3]
  instanceTypes := #[]
  staticTypes := #[.int]
  resolved := Array.replicate 28 none
  statics := none }

def pool3 : Array CpInfo := pool [(1, u "java/lang/Cloneable"), (0, .class_ 1), (0, u "java/lang/Object"), (0, .class_ 3)] 3

/-- java/lang/Cloneable -/
def k3 : Class := { plain "java/lang/Cloneable" (some 0) with
  accessFlags := 1537
  interfaces := #[]
  cf := some (fileOf pool3 2 #[] #[] 1537 4 #[] #[])
  fields := #[]
  methods := #[]
  instanceTypes := #[]
  staticTypes := #[]
  resolved := Array.replicate 8 none
  statics := none }

def pool4 : Array CpInfo := pool [(1, u "java/io/Serializable"), (0, .class_ 1), (0, u "java/lang/Object"), (0, .class_ 3)] 3

/-- java/io/Serializable -/
def k4 : Class := { plain "java/io/Serializable" (some 0) with
  accessFlags := 1537
  interfaces := #[]
  cf := some (fileOf pool4 2 #[] #[] 1537 4 #[] #[])
  fields := #[]
  methods := #[]
  instanceTypes := #[]
  staticTypes := #[]
  resolved := Array.replicate 8 none
  statics := none }

/-- the primitive boolean -/
def k5 : Class := { plain "boolean" none with kind := .primitive 'Z', accessFlags := 0x411 }
/-- [Z -/
def k6 : Class := { plain "[Z" (some 0) with kind := .array 5 .boolean, interfaces := #[3, 4], accessFlags := 1041 }

/-- the primitive byte -/
def k7 : Class := { plain "byte" none with kind := .primitive 'B', accessFlags := 0x411 }
/-- [B -/
def k8 : Class := { plain "[B" (some 0) with kind := .array 7 .byte, interfaces := #[3, 4], accessFlags := 1041 }

/-- the primitive int -/
def k9 : Class := { plain "int" none with kind := .primitive 'I', accessFlags := 0x411 }
/-- [I -/
def k10 : Class := { plain "[I" (some 0) with kind := .array 9 .int, interfaces := #[3, 4], accessFlags := 1041 }

def heap : Heap := #[]
def classes : Array Class := #[k0, k1, k2, k3, k4, k5, k6, k7, k8, k9, k10]
def interned : List (Array UInt16 × Addr) := []
def slotsUsed : Nat := 0
def theMethod : MethodId := ⟨1, 1⟩
def args0 : Array Value := #[.long 5, .long 5, .int 5, .int 5, .int 5, .int 5]
def aboutOver (below : List Frame) : State where
  vm := { classes := classes, interned := interned.toArray }
  heap := heap
  slotsUsed := slotsUsed
  threads := #[{ frames := .invoking theMethod args0 :: below }]
def below0 : List Frame := [.native { method := ⟨0, 0⟩, args := #[] }]
def about1 : State := aboutOver below0
def p0 : Program := .bare "" "" ""
def e0 : Env := launch0.env 0 0 0
theorem w_frames : about1.frames = Frame.invoking theMethod args0 :: below0 := rfl
set_option maxRecDepth 65536 in
theorem w_args : argsFit about1.vm theMethod args0 = true := by decide +kernel
set_option maxRecDepth 65536 in
theorem w_heap : heapFits about1 = true := by decide +kernel
set_option maxRecDepth 65536 in
theorem w_runnable : about1.curStatus? = some .runnable := by decide +kernel
set_option maxRecDepth 65536 in
theorem w_alone : about1.alone = true := by decide +kernel
set_option maxRecDepth 65536 in
theorem w_named : about1.methodNamed? x = some theMethod := by decide +kernel
set_option maxRecDepth 65536 in
theorem w_hears : about1.hears theMethod below0 = true := by decide +kernel
set_option maxRecDepth 65536 in
theorem w_ripe : about1.ripe theMethod args0 below0 = true := by decide +kernel
theorem w_running : about1.status = .running := rfl
set_option maxRecDepth 65536 in
theorem w_room : about1.hasRoom e0.platform room_1 = true :=
  launch0.hasRoom_least _ room_1 (by decide +kernel) (by decide +kernel) (by decide +kernel) (by decide +kernel) (by decide +kernel) (by decide +kernel)
theorem allAtoms_all (ts : List Jvm.Cond) (a : Array Jvm.Value) (st : Jvm.State) : (allAtoms ts).before a st = ts.all (fun c => c.before a st) := by
  induction ts with
  | nil => rfl
  | cons c t ih =>
    show (Jvm.Cond.and c (allAtoms t)).before a st = _
    rw [Jvm.Cond.before_and, ih, List.all_cons]
def words1 : List Jvm.Cond := Jvm.Cond.code x code maxLocals ret :: tables_1
/-- a 'code' word, met by the world's own term for the bytes: nothing is compared byte by byte -/
theorem code_word {y : MethodName} {bytes : ByteArray} {mx : Nat} {rt : Option FieldType} {a : Array Value} {s : State} {m : MethodId} {meth : Method} {c : Code} (h1 : s.methodNamed? y = some m) (h2 : s.vm.method? m = some meth) (h3 : meth.code = some c) (h4 : c.code = bytes)
    (h5 : (c.maxLocals == mx && c.exceptionTable.isEmpty && decide (c.maxStack ≤ mostOperands) && decide (meth.sig.returnType = rt) && !meth.locks && decide (parseMethodDescriptor y.desc = some meth.sig)) = true) : (Jvm.Cond.code y bytes mx rt).before a s = true := by
  simp only [Bool.and_eq_true, beq_iff_eq, Bool.not_eq_true', decide_eq_true_eq] at h5
  obtain ⟨⟨⟨⟨⟨g1, g2⟩, g3⟩, g4⟩, g5⟩, g6⟩ := h5
  simp [Cond.before, Cond.holds, Cond.value, h1, h2, h3, h4, g1, g2, g3, g4, g5, g6]
def isCode : Jvm.Cond → Bool
  | .code _ _ _ _ => true
  | _ => false
theorem all_split {L : List Jvm.Cond} {P : Jvm.Cond → Bool} (h1 : L.all (fun c => isCode c || P c) = true) (h2 : ∀ c ∈ L.filter isCode, P c = true) : L.all P = true := by
  refine List.all_eq_true.mpr fun c hc => ?_
  have h := List.all_eq_true.mp h1 c hc
  rcases Bool.eq_false_or_eq_true (isCode c) with hi | hi
  · exact h2 c (List.mem_filter.mpr ⟨hc, hi⟩)
  · simpa [hi] using h
set_option maxRecDepth 65536 in
theorem w_c0 : (Jvm.Cond.code x code maxLocals ret).before args0 about1 = true := code_word (m := ⟨1, 1⟩) (meth := k1m1) (c := k1c1) (by decide +kernel) rfl rfl rfl (by decide +kernel)
set_option maxRecDepth 65536 in
theorem w_c1 : (Jvm.Cond.code ({ cls := "com/example/baton/baton/support/Skipped", name := "none", desc := "(JJ[Z)Z" } : Jvm.MethodName) prog_26_method_4_code (5 : Nat) (Option.some Jvm.ClassFile.FieldType.boolean)).before args0 about1 = true := code_word (m := ⟨2, 3⟩) (meth := k2m3) (c := k2c3) (by decide +kernel) rfl rfl rfl (by decide +kernel)
set_option maxRecDepth 65536 in
theorem w_c2 : (Jvm.Cond.code ({ cls := "com/example/baton/baton/support/Skipped", name := "marked", desc := "([ZII)[Z" } : Jvm.MethodName) prog_26_method_2_code (4 : Nat) (Option.some (Jvm.ClassFile.FieldType.array Jvm.ClassFile.FieldType.boolean))).before args0 about1 = true := code_word (m := ⟨2, 1⟩) (meth := k2m1) (c := k2c1) (by decide +kernel) rfl rfl rfl (by decide +kernel)
set_option maxRecDepth 65536 in
theorem w_c3 : (Jvm.Cond.code ({ cls := "com/example/baton/baton/support/Skipped", name := "contains", desc := "(IJJ[Z)Z" } : Jvm.MethodName) prog_26_method_3_code (7 : Nat) (Option.some Jvm.ClassFile.FieldType.boolean)).before args0 about1 = true := code_word (m := ⟨2, 2⟩) (meth := k2m2) (c := k2c2) (by decide +kernel) rfl rfl rfl (by decide +kernel)
def codes1 : List Jvm.Cond := [Jvm.Cond.code x code maxLocals ret, Jvm.Cond.code ({ cls := "com/example/baton/baton/support/Skipped", name := "none", desc := "(JJ[Z)Z" } : Jvm.MethodName) prog_26_method_4_code (5 : Nat) (Option.some Jvm.ClassFile.FieldType.boolean), Jvm.Cond.code ({ cls := "com/example/baton/baton/support/Skipped", name := "marked", desc := "([ZII)[Z" } : Jvm.MethodName) prog_26_method_2_code (4 : Nat) (Option.some (Jvm.ClassFile.FieldType.array Jvm.ClassFile.FieldType.boolean)), Jvm.Cond.code ({ cls := "com/example/baton/baton/support/Skipped", name := "contains", desc := "(IJJ[Z)Z" } : Jvm.MethodName) prog_26_method_3_code (7 : Nat) (Option.some Jvm.ClassFile.FieldType.boolean)]
set_option maxRecDepth 65536 in
theorem codes_eq : words1.filter isCode = codes1 := rfl
theorem w_codes : ∀ c ∈ words1.filter isCode, c.before args0 about1 = true := by
  rw [codes_eq]
  intro c hc
  simp only [codes1, List.mem_cons, List.not_mem_nil, or_false] at hc
  rcases hc with rfl | rfl | rfl | rfl
  · exact w_c0
  · exact w_c1
  · exact w_c2
  · exact w_c3
set_option maxRecDepth 65536 in
theorem w_t1 : words1.all (fun c => isCode c || c.before args0 about1) = true := by decide +kernel
theorem w_tables : (allAtoms (Jvm.Cond.code x code maxLocals ret :: tables_1)).before args0 about1 = true := by
  rw [allAtoms_all]
  show words1.all (fun c => c.before args0 about1) = true
  refine all_split ?_ w_codes
  rw [w_t1]
set_option maxRecDepth 65536 in
theorem w_case : (Jvm.Cond.and given_1 narrow_1).before args0 about1 = true := by decide +kernel
theorem w_applies : (headSpec (Jvm.Cond.code x code maxLocals ret :: tables_1) room_1).applies x e0.platform about1 = true :=
  (Spec.applies_iff w_frames).mpr ⟨w_running, w_runnable, w_alone, w_named, w_hears, w_ripe, w_room, w_tables⟩
theorem atStart : AtStart classFile x code maxLocals ret World_1 tables_1 room_1 Calls_1 rest_1 Pre_1 launch0 p0 e0 about1 theMethod args0 below0 :=
  ⟨lists_1, trivial, launch0.admits_env _ _ _, launch0.least_env, fairChoices_fair.cas, fairChoices_fair.clock, w_frames, w_args, w_heap, w_applies, trivial, trivial, w_case⟩
end start1
theorem witness_1 : WitnessClaimed_1 := ⟨start1.p0, start1.e0, start1.about1, start1.theMethod, start1.args0, start1.below0, start1.atStart⟩
end Jvm.Pilot.@@N@@
