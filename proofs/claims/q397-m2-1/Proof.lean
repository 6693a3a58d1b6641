import JvmDerived
import JvmDerived.Pilot.@@N@@Statement
import JvmDerived.Pilot.@@N@@Code
set_option linter.unusedVariables false
set_option linter.unusedSimpArgs false
namespace Jvm.Pilot.@@N@@
open Jvm Jvm.ClassFile Sem Op Lib Jvm.Free Jvm.Stand Jvm.LawKit Jvm.RoadKit Bundle Jvm.Pilot.@@N@@.Jvm.D
theorem pn_com_example_tierfuse_tierfuse_format_SealedFileFormatPlainBlockBytesPinLaw : plainName "com/example/tierfuse/tierfuse/format/SealedFileFormatPlainBlockBytesPinLaw" = true := by first | (simp [plainName, overriddenIn]; done) | decide +kernel
theorem pn_com_example_tierfuse_tierfuse_format_SealedFileFormat : plainName "com/example/tierfuse/tierfuse/format/SealedFileFormat" = true := by first | (simp [plainName, overriddenIn]; done) | decide +kernel
theorem d1_0 : decode prog_46_method_2_code 0 = .ok (.ldc2_w 9, 3) := by decide +kernel
theorem d1_3 : decode prog_46_method_2_code 3 = .ok (.ldc2_w 11, 3) := by decide +kernel
theorem d1_6 : decode prog_46_method_2_code 6 = .ok (.lload_n 0, 1) := by decide +kernel
theorem d1_7 : decode prog_46_method_2_code 7 = .ok (.lmul, 1) := by decide +kernel
theorem d1_8 : decode prog_46_method_2_code 8 = .ok (.ladd, 1) := by decide +kernel
theorem d1_9 : decode prog_46_method_2_code 9 = .ok (.ldc2_w 13, 3) := by decide +kernel
theorem d1_12 : decode prog_46_method_2_code 12 = .ok (.ladd, 1) := by decide +kernel
theorem d1_13 : decode prog_46_method_2_code 13 = .ok (.lreturn, 1) := by decide +kernel
theorem ef1 (m : MethodId) (x0 : Int64) : entryFrame m #[(.long x0)] 2 = mkF m 0 #[.val (.long x0), .second] [] := by first | (simp [entryFrame, mkF, argsToLocals, Value.category]; done) | rfl
def f1 (q0 : Int64) : Int64 :=
  (((5 : Int64) + ((16 : Int64) * q0)) + (4 : Int64))
def Q1 (Z : State) (q0 : Int64) (h0 : Heap) (n0 : Nat) (v : Option Value) (h : Heap) (L : List Loc) : Prop := v = some (.long (f1 q0)) ∧ Fr n0 L ∧ h = h0
set_option maxRecDepth 65536 in
set_option maxHeartbeats 40000000 in
theorem rm1 (l : Launch) (Z : State) (av : Array Value) (hw : ∀ d ∈ tables_1, d.before av Z = true) (ws : List Jvm.Cond) (q0 : Int64) (h0 : Heap) (n0 : Nat) (Z0 : n0 ≤ h0.size) :
    MetFree l (⟨"com/example/tierfuse/tierfuse/format/SealedFileFormat", "plainBlockBytes", "(J)J"⟩ : MethodName) (head1 (Jvm.Cond.code (⟨"com/example/tierfuse/tierfuse/format/SealedFileFormat", "plainBlockBytes", "(J)J"⟩ : MethodName) prog_46_method_2_code 2 (some .long) :: ws) ({ frames := 0, cells := 0, slots := 0, locals := 0 } : Room)) (fun a U => a = #[(.long q0)] ∧ Z.Warmed39 U.vm ∧ U.heap = h0) (fun _ _ _ _ _ => True) (fun _ U o U' => ∃ v L, o = .returned v ∧ Q1 Z q0 h0 n0 v U'.heap L ∧ FrameEnd U o U' L ({ frames := 0, cells := 0, slots := 0, locals := 0 } : Room).cells ({ frames := 0, cells := 0, slots := 0, locals := 0 } : Room).slots) := by
  refine MetFree.of_bodySF (plainFor_of_name pn_com_example_tierfuse_tierfuse_format_SealedFileFormat) hisR ?_
  intro p e s m args below meth c s₁ Bd hml0 hP hK
  obtain ⟨rfl, hZ, hh⟩ := hP
  have hx := Bd.exec
  have hby := Bd.bytes
  have hml : c.maxLocals = 2 := hml0
  have hown : s.vm.findClass "com/example/tierfuse/tierfuse/format/SealedFileFormat" = some m.cls := findClass_of_methodNamed Bd.named
  have hnm := (name_of_methodNamed Bd.named Bd.method).1
  have X0 : Stand p l e ({ frames := 0, cells := 0, slots := 0, locals := 0 } : Room) s m #[(.long q0)] below meth c s₁ [] 0 0 := Stand.of_body Bd
  have e0 : s₁.heap = h0 := by rw [← hh, Bd.state]; rfl
  have N0 := Fr.nil n0
  have K0 : Keep h0 h0 [] := Keep.refl h0 []
  have pre0 : ∀ t, Steps p.tables e below (s₁.setTop (mkF m 0 #[.val (.long q0), .second] [])) t → Steps p.tables e below (s₁.setTop (entryFrame m #[(.long q0)] 2)) t := fun t k => castTop (ef1 m q0) k
  have pre1 : ∀ t, Steps p.tables e below (s₁.setTop (mkF m 13 #[.val (.long q0), .second] [(.long (((5 : Int64) + ((16 : Int64) * q0)) + (4 : Int64)))])) t → Steps p.tables e below (s₁.setTop (entryFrame m #[(.long q0)] 2)) t := fun t kt => pre0 t (by
    show Steps p.tables e below (s₁.setTop (mkF m 0 #[.val (.long q0), .second] [])) _
    refine X0.ldc2Long hx hown (mvT hZ (hw _ (List.mem_of_getElem? (i := 7) rfl))) (g := (mkF m 0 #[.val (.long q0), .second] [])) rfl (hb hby d1_0) _ ?_
    show Steps p.tables e below (s₁.setTop (mkF m 3 #[.val (.long q0), .second] [(.long (5 : Int64))])) _
    refine X0.ldc2Long hx hown (mvT hZ (hw _ (List.mem_of_getElem? (i := 8) rfl))) (g := (mkF m 3 #[.val (.long q0), .second] [(.long (5 : Int64))])) rfl (hb hby d1_3) _ ?_
    show Steps p.tables e below (s₁.setTop (mkF m 6 #[.val (.long q0), .second] [(.long (16 : Int64)), (.long (5 : Int64))])) _
    refine XS.lloadN X0.here hx rfl (hb hby d1_6) rfl ?_
    show Steps p.tables e below (s₁.setTop (mkF m 7 #[.val (.long q0), .second] [(.long q0), (.long (16 : Int64)), (.long (5 : Int64))])) _
    refine XS.lmul X0.here hx rfl (hb hby d1_7) rfl ?_
    show Steps p.tables e below (s₁.setTop (mkF m 8 #[.val (.long q0), .second] [(.long ((16 : Int64) * q0)), (.long (5 : Int64))])) _
    refine XS.ladd X0.here hx rfl (hb hby d1_8) rfl ?_
    show Steps p.tables e below (s₁.setTop (mkF m 9 #[.val (.long q0), .second] [(.long ((5 : Int64) + ((16 : Int64) * q0)))])) _
    refine X0.ldc2Long hx hown (mvT hZ (hw _ (List.mem_of_getElem? (i := 9) rfl))) (g := (mkF m 9 #[.val (.long q0), .second] [(.long ((5 : Int64) + ((16 : Int64) * q0)))])) rfl (hb hby d1_9) _ ?_
    show Steps p.tables e below (s₁.setTop (mkF m 12 #[.val (.long q0), .second] [(.long (4 : Int64)), (.long ((5 : Int64) + ((16 : Int64) * q0)))])) _
    refine XS.ladd X0.here hx rfl (hb hby d1_12) rfl ?_
    exact kt)
  have hv : f1 q0 = (((5 : Int64) + ((16 : Int64) * q0)) + (4 : Int64)) := by
    unfold f1
    rfl
  obtain ⟨fs, hr, hrun, hended, hW, hsame⟩ := X0.leave (v := some (.long (f1 q0))) (fun h => by rw [Bd.returns] at h; cases h)
  refine ⟨_, _, pre1 _ ?_, hrun, hended, _, _, rfl, ?_, ⟨_, rfl⟩, hW, hsame.mono (by decide) (by decide)⟩
  · rw [hv] at hr
    show Steps p.tables e below (s₁.setTop (mkF m 13 #[.val (.long q0), .second] [(.long (((5 : Int64) + ((16 : Int64) * q0)) + (4 : Int64)))])) _
    jvm_step X0.here [X0.here.top, hx, (hb hby d1_13), X0.method', Bd.returns, narrow]
    first | (intro acts; rw [hr _ acts rfl rfl rfl]) | rw [hr _ _ rfl rfl rfl]
    exact Steps.refl _
  · show Q1 Z q0 h0 n0 _ s₁.heap _
    rw [e0]
    exact ⟨rfl, N0, rfl⟩
theorem own_e1 (c : Int64) : f1 c = ((((5 : Int64) + ((8 : Int64) * c)) + ((8 : Int64) * c)) + (4 : Int64)) := by
  unfold f1
  grind
theorem own_e2 (c o : Int64) : (f1 (c + o) + (9 : Int64)) = (f1 c + f1 o) := by
  unfold f1
  grind
theorem pd__J_J : parseMethodDescriptor "(J)J" = some ⟨[.long], some .long⟩ := by decide +kernel
theorem ef0 (m : MethodId) (x0 : Int64) (x1 : Int64) : entryFrame m #[(.long x0), (.long x1)] maxLocals = mkF m 0 #[.val (.long x0), .second, .val (.long x1), .second, .unset, .unset, .unset, .unset, .unset] [] := by first | (simp [entryFrame, mkF, argsToLocals, Value.category, maxLocals]; done) | rfl
def Q0 (Z : State) (q0 : Int64) (q1 : Int64) (h0 : Heap) (n0 : Nat) (v : Option Value) (h : Heap) (L : List Loc) : Prop := v = some (.int 1) ∧ Fr n0 L
set_option maxRecDepth 65536 in
set_option maxHeartbeats 40000000 in
theorem rm0 (l : Launch) (Z : State) (av : Array Value) (hw : ∀ d ∈ tables_1, d.before av Z = true) (ws : List Jvm.Cond) (q0 : Int64) (q1 : Int64) (h0 : Heap) (n0 : Nat) (Z0 : n0 ≤ h0.size) :
    MetFree l x (head1 (Jvm.Cond.code x code maxLocals ret :: ws) room_1) (fun a U => a = #[(.long q0), (.long q1)] ∧ Z.Warmed39 U.vm ∧ U.heap = h0) (fun _ _ _ _ _ => True) (fun _ U o U' => ∃ v L, o = .returned v ∧ Q0 Z q0 q1 h0 n0 v U'.heap L ∧ FrameEnd U o U' L room_1.cells room_1.slots) := by
  refine MetFree.of_bodySF (plainFor_of_name pn_com_example_tierfuse_tierfuse_format_SealedFileFormatPlainBlockBytesPinLaw) hisR ?_
  intro p e s m args below meth c s₁ Bd hml0 hP hK
  obtain ⟨rfl, hZ, hh⟩ := hP
  have hx := Bd.exec
  have hby := Bd.bytes
  have hml : c.maxLocals = 9 := hml0
  have hown : s.vm.findClass "com/example/tierfuse/tierfuse/format/SealedFileFormatPlainBlockBytesPinLaw" = some m.cls := findClass_of_methodNamed Bd.named
  have hnm := (name_of_methodNamed Bd.named Bd.method).1
  have X0 : Stand p l e room_1 s m #[(.long q0), (.long q1)] below meth c s₁ [] 0 0 := Stand.of_body Bd
  have e0 : s₁.heap = h0 := by rw [← hh, Bd.state]; rfl
  have N0 := Fr.nil n0
  have K0 : Keep h0 h0 [] := Keep.refl h0 []
  have pre0 : ∀ t, Steps p.tables e below (s₁.setTop (mkF m 0 #[.val (.long q0), .second, .val (.long q1), .second, .unset, .unset, .unset, .unset, .unset] [])) t → Steps p.tables e below (s₁.setTop (entryFrame m #[(.long q0), (.long q1)] maxLocals)) t := fun t k => castTop (ef0 m q0 q1) k
  have pre1 : ∀ t, Steps p.tables e below (s₁.setTop (mkF m 22 #[.val (.long q0), .second, .val (.long q1), .second, .val (.long ((((5 : Int64) + ((8 : Int64) * q0)) + ((8 : Int64) * q0)) + (4 : Int64))), .second, .unset, .unset, .unset] [(.long q0)])) t → Steps p.tables e below (s₁.setTop (entryFrame m #[(.long q0), (.long q1)] maxLocals)) t := fun t kt => pre0 t (by
    show Steps p.tables e below (s₁.setTop (mkF m 0 #[.val (.long q0), .second, .val (.long q1), .second, .unset, .unset, .unset, .unset, .unset] [])) _
    refine X0.ldc2Long hx hown (mvT hZ (hw _ (List.mem_of_getElem? (i := 0) rfl))) (g := (mkF m 0 #[.val (.long q0), .second, .val (.long q1), .second, .unset, .unset, .unset, .unset, .unset] [])) rfl (hb hby at_0) _ ?_
    show Steps p.tables e below (s₁.setTop (mkF m 3 #[.val (.long q0), .second, .val (.long q1), .second, .unset, .unset, .unset, .unset, .unset] [(.long (5 : Int64))])) _
    refine X0.ldc2Long hx hown (mvT hZ (hw _ (List.mem_of_getElem? (i := 1) rfl))) (g := (mkF m 3 #[.val (.long q0), .second, .val (.long q1), .second, .unset, .unset, .unset, .unset, .unset] [(.long (5 : Int64))])) rfl (hb hby at_3) _ ?_
    show Steps p.tables e below (s₁.setTop (mkF m 6 #[.val (.long q0), .second, .val (.long q1), .second, .unset, .unset, .unset, .unset, .unset] [(.long (8 : Int64)), (.long (5 : Int64))])) _
    refine XS.lloadN X0.here hx rfl (hb hby at_6) rfl ?_
    show Steps p.tables e below (s₁.setTop (mkF m 7 #[.val (.long q0), .second, .val (.long q1), .second, .unset, .unset, .unset, .unset, .unset] [(.long q0), (.long (8 : Int64)), (.long (5 : Int64))])) _
    refine XS.lmul X0.here hx rfl (hb hby at_7) rfl ?_
    show Steps p.tables e below (s₁.setTop (mkF m 8 #[.val (.long q0), .second, .val (.long q1), .second, .unset, .unset, .unset, .unset, .unset] [(.long ((8 : Int64) * q0)), (.long (5 : Int64))])) _
    refine XS.ladd X0.here hx rfl (hb hby at_8) rfl ?_
    show Steps p.tables e below (s₁.setTop (mkF m 9 #[.val (.long q0), .second, .val (.long q1), .second, .unset, .unset, .unset, .unset, .unset] [(.long ((5 : Int64) + ((8 : Int64) * q0)))])) _
    refine X0.ldc2Long hx hown (mvT hZ (hw _ (List.mem_of_getElem? (i := 1) rfl))) (g := (mkF m 9 #[.val (.long q0), .second, .val (.long q1), .second, .unset, .unset, .unset, .unset, .unset] [(.long ((5 : Int64) + ((8 : Int64) * q0)))])) rfl (hb hby at_9) _ ?_
    show Steps p.tables e below (s₁.setTop (mkF m 12 #[.val (.long q0), .second, .val (.long q1), .second, .unset, .unset, .unset, .unset, .unset] [(.long (8 : Int64)), (.long ((5 : Int64) + ((8 : Int64) * q0)))])) _
    refine XS.lloadN X0.here hx rfl (hb hby at_12) rfl ?_
    show Steps p.tables e below (s₁.setTop (mkF m 13 #[.val (.long q0), .second, .val (.long q1), .second, .unset, .unset, .unset, .unset, .unset] [(.long q0), (.long (8 : Int64)), (.long ((5 : Int64) + ((8 : Int64) * q0)))])) _
    refine XS.lmul X0.here hx rfl (hb hby at_13) rfl ?_
    show Steps p.tables e below (s₁.setTop (mkF m 14 #[.val (.long q0), .second, .val (.long q1), .second, .unset, .unset, .unset, .unset, .unset] [(.long ((8 : Int64) * q0)), (.long ((5 : Int64) + ((8 : Int64) * q0)))])) _
    refine XS.ladd X0.here hx rfl (hb hby at_14) rfl ?_
    show Steps p.tables e below (s₁.setTop (mkF m 15 #[.val (.long q0), .second, .val (.long q1), .second, .unset, .unset, .unset, .unset, .unset] [(.long (((5 : Int64) + ((8 : Int64) * q0)) + ((8 : Int64) * q0)))])) _
    refine X0.ldc2Long hx hown (mvT hZ (hw _ (List.mem_of_getElem? (i := 2) rfl))) (g := (mkF m 15 #[.val (.long q0), .second, .val (.long q1), .second, .unset, .unset, .unset, .unset, .unset] [(.long (((5 : Int64) + ((8 : Int64) * q0)) + ((8 : Int64) * q0)))])) rfl (hb hby at_15) _ ?_
    show Steps p.tables e below (s₁.setTop (mkF m 18 #[.val (.long q0), .second, .val (.long q1), .second, .unset, .unset, .unset, .unset, .unset] [(.long (4 : Int64)), (.long (((5 : Int64) + ((8 : Int64) * q0)) + ((8 : Int64) * q0)))])) _
    refine XS.ladd X0.here hx rfl (hb hby at_18) rfl ?_
    show Steps p.tables e below (s₁.setTop (mkF m 19 #[.val (.long q0), .second, .val (.long q1), .second, .unset, .unset, .unset, .unset, .unset] [(.long ((((5 : Int64) + ((8 : Int64) * q0)) + ((8 : Int64) * q0)) + (4 : Int64)))])) _
    refine XS.lstore X0.here hx rfl (hb hby at_19) rfl (l' := #[.val (.long q0), .second, .val (.long q1), .second, .val (.long ((((5 : Int64) + ((8 : Int64) * q0)) + ((8 : Int64) * q0)) + (4 : Int64))), .second, .unset, .unset, .unset]) rfl ?_
    show Steps p.tables e below (s₁.setTop (mkF m 21 #[.val (.long q0), .second, .val (.long q1), .second, .val (.long ((((5 : Int64) + ((8 : Int64) * q0)) + ((8 : Int64) * q0)) + (4 : Int64))), .second, .unset, .unset, .unset] [])) _
    refine XS.lloadN X0.here hx rfl (hb hby at_21) rfl ?_
    exact kt)
  obtain ⟨_, _, ⟨T2, L2, k2, n2⟩, -, X2, ⟨Lc2, hQ2, l2, y2, z2⟩, st2⟩ := Jvm.LawKit.callS X0 hx (y := (⟨"com/example/tierfuse/tierfuse/format/SealedFileFormat", "plainBlockBytes", "(J)J"⟩ : MethodName)) hown (mvT hZ (hw _ (List.mem_of_getElem? (i := 3) rfl))) (mvT hZ (hw _ (List.mem_of_getElem? (i := 4) rfl))) (mvT hZ (hw _ (List.mem_of_getElem? (i := 5) rfl))) (mvT hZ (hw _ (List.mem_of_getElem? (i := 6) rfl))) (by decide) (backOf (W := 0) (rm1 l Z av hw [] q0  h0 n0 Z0 ) hZ (hw _ (List.mem_of_getElem? (i := 6) rfl)) (hw _ (List.mem_of_getElem? (i := 5) rfl)) (by decide) (by decide)) (g := (mkF m 22 #[.val (.long q0), .second, .val (.long q1), .second, .val (.long ((((5 : Int64) + ((8 : Int64) * q0)) + ((8 : Int64) * q0)) + (4 : Int64))), .second, .unset, .unset, .unset] [(.long q0)])) rfl (by rw [hml]; rfl) (argsL := [(.long q0)]) (rest := []) (lenOf pd__J_J rfl) rfl (by show 2 * 0 + _ ≤ _; exact Nat.le_of_eq rfl) (hb hby at_22) (fun _ _ => ⟨rfl, e0, (by decide : 0 + 0 ≤ _), (by decide : 0 + 0 ≤ _)⟩)
  dsimp only [Pt.U, Pt.locs, Pt.cells, Pt.slots] at X2 l2 y2 z2 st2 hQ2
  subst l2 y2 z2
  obtain ⟨rfl, N2q, e2⟩ := hQ2
  have N2 := Fr.app N0 N2q
  have pre3 : ∀ t, Steps p.tables e below (T2.setTop (mkF m 25 #[.val (.long q0), .second, .val (.long q1), .second, .val (.long ((((5 : Int64) + ((8 : Int64) * q0)) + ((8 : Int64) * q0)) + (4 : Int64))), .second, .unset, .unset, .unset] [(.long (f1 q0))])) t → Steps p.tables e below (s₁.setTop (entryFrame m #[(.long q0), (.long q1)] maxLocals)) t := fun t kt => pre1 t (st2 _ kt)
  have pre4 : ∀ t, Steps p.tables e below (T2.setTop (mkF m 39 #[.val (.long q0), .second, .val (.long q1), .second, .val (.long ((((5 : Int64) + ((8 : Int64) * q0)) + ((8 : Int64) * q0)) + (4 : Int64))), .second, .val (.int (1 : Int32)), .unset, .unset] [(.long (0 : Int64))])) t → Steps p.tables e below (s₁.setTop (entryFrame m #[(.long q0), (.long q1)] maxLocals)) t := fun t kt => pre3 t (by
    show Steps p.tables e below (T2.setTop (mkF m 25 #[.val (.long q0), .second, .val (.long q1), .second, .val (.long ((((5 : Int64) + ((8 : Int64) * q0)) + ((8 : Int64) * q0)) + (4 : Int64))), .second, .unset, .unset, .unset] [(.long (f1 q0))])) _
    refine XS.lload X2.here hx rfl (hb hby at_25) rfl ?_
    show Steps p.tables e below (T2.setTop (mkF m 27 #[.val (.long q0), .second, .val (.long q1), .second, .val (.long ((((5 : Int64) + ((8 : Int64) * q0)) + ((8 : Int64) * q0)) + (4 : Int64))), .second, .unset, .unset, .unset] [(.long ((((5 : Int64) + ((8 : Int64) * q0)) + ((8 : Int64) * q0)) + (4 : Int64))), (.long (f1 q0))])) _
    refine XS.lcmp X2.here hx rfl (hb hby at_27) rfl ?_
    show Steps p.tables e below (T2.setTop (mkF m 28 #[.val (.long q0), .second, .val (.long q1), .second, .val (.long ((((5 : Int64) + ((8 : Int64) * q0)) + ((8 : Int64) * q0)) + (4 : Int64))), .second, .unset, .unset, .unset] [(.int (lcmpW (f1 q0) ((((5 : Int64) + ((8 : Int64) * q0)) + ((8 : Int64) * q0)) + (4 : Int64))))])) _
    refine XS.ifNo X2.here hx rfl (hb hby at_28) rfl (Jvm.Free.XT.ll_ne_f (own_e1 q0 : (f1 q0) = ((((5 : Int64) + ((8 : Int64) * q0)) + ((8 : Int64) * q0)) + (4 : Int64)))) ?_
    show Steps p.tables e below (T2.setTop (mkF m 31 #[.val (.long q0), .second, .val (.long q1), .second, .val (.long ((((5 : Int64) + ((8 : Int64) * q0)) + ((8 : Int64) * q0)) + (4 : Int64))), .second, .unset, .unset, .unset] [])) _
    refine XS.iconst X2.here hx rfl (hb hby at_31) ?_
    show Steps p.tables e below (T2.setTop (mkF m 32 #[.val (.long q0), .second, .val (.long q1), .second, .val (.long ((((5 : Int64) + ((8 : Int64) * q0)) + ((8 : Int64) * q0)) + (4 : Int64))), .second, .unset, .unset, .unset] [(.int (1 : Int32))])) _
    refine XS.goto X2.here hx rfl (pc0 := 32) (pc' := 36) rfl (hb hby at_32) (by decide) (by decide) ?_
    show Steps p.tables e below (T2.setTop (mkF m 36 #[.val (.long q0), .second, .val (.long q1), .second, .val (.long ((((5 : Int64) + ((8 : Int64) * q0)) + ((8 : Int64) * q0)) + (4 : Int64))), .second, .unset, .unset, .unset] [(.int (1 : Int32))])) _
    refine XS.istore X2.here hx rfl (hb hby at_36) rfl (l' := #[.val (.long q0), .second, .val (.long q1), .second, .val (.long ((((5 : Int64) + ((8 : Int64) * q0)) + ((8 : Int64) * q0)) + (4 : Int64))), .second, .val (.int (1 : Int32)), .unset, .unset]) rfl ?_
    show Steps p.tables e below (T2.setTop (mkF m 38 #[.val (.long q0), .second, .val (.long q1), .second, .val (.long ((((5 : Int64) + ((8 : Int64) * q0)) + ((8 : Int64) * q0)) + (4 : Int64))), .second, .val (.int (1 : Int32)), .unset, .unset] [])) _
    refine XS.lconst X2.here hx rfl (hb hby at_38) ?_
    exact kt)
  obtain ⟨_, _, ⟨T5, L5, k5, n5⟩, -, X5, ⟨Lc5, hQ5, l5, y5, z5⟩, st5⟩ := Jvm.LawKit.callS X2 hx (y := (⟨"com/example/tierfuse/tierfuse/format/SealedFileFormat", "plainBlockBytes", "(J)J"⟩ : MethodName)) hown (mvT hZ (hw _ (List.mem_of_getElem? (i := 3) rfl))) (mvT hZ (hw _ (List.mem_of_getElem? (i := 4) rfl))) (mvT hZ (hw _ (List.mem_of_getElem? (i := 5) rfl))) (mvT hZ (hw _ (List.mem_of_getElem? (i := 6) rfl))) (by decide) (backOf (W := 0) (rm1 l Z av hw [] (0 : Int64)  h0 n0 Z0 ) hZ (hw _ (List.mem_of_getElem? (i := 6) rfl)) (hw _ (List.mem_of_getElem? (i := 5) rfl)) (by decide) (by decide)) (g := (mkF m 39 #[.val (.long q0), .second, .val (.long q1), .second, .val (.long ((((5 : Int64) + ((8 : Int64) * q0)) + ((8 : Int64) * q0)) + (4 : Int64))), .second, .val (.int (1 : Int32)), .unset, .unset] [(.long (0 : Int64))])) rfl (by rw [hml]; rfl) (argsL := [(.long (0 : Int64))]) (rest := []) (lenOf pd__J_J rfl) rfl (by show 2 * 0 + _ ≤ _; exact Nat.le_of_eq rfl) (hb hby at_39) (fun _ _ => ⟨rfl, e2, (by decide : 0 + 0 ≤ _), (by decide : 0 + 0 ≤ _)⟩)
  dsimp only [Pt.U, Pt.locs, Pt.cells, Pt.slots] at X5 l5 y5 z5 st5 hQ5
  subst l5 y5 z5
  obtain ⟨rfl, N5q, e5⟩ := hQ5
  have N5 := Fr.app N2 N5q
  have pre6 : ∀ t, Steps p.tables e below (T5.setTop (mkF m 42 #[.val (.long q0), .second, .val (.long q1), .second, .val (.long ((((5 : Int64) + ((8 : Int64) * q0)) + ((8 : Int64) * q0)) + (4 : Int64))), .second, .val (.int (1 : Int32)), .unset, .unset] [(.long (f1 (0 : Int64)))])) t → Steps p.tables e below (s₁.setTop (entryFrame m #[(.long q0), (.long q1)] maxLocals)) t := fun t kt => pre4 t (st5 _ kt)
  have pre7 : ∀ t, Steps p.tables e below (T5.setTop (mkF m 59 #[.val (.long q0), .second, .val (.long q1), .second, .val (.long ((((5 : Int64) + ((8 : Int64) * q0)) + ((8 : Int64) * q0)) + (4 : Int64))), .second, .val (.int (1 : Int32)), .val (.int (1 : Int32)), .unset] [(.long (q0 + q1))])) t → Steps p.tables e below (s₁.setTop (entryFrame m #[(.long q0), (.long q1)] maxLocals)) t := fun t kt => pre6 t (by
    show Steps p.tables e below (T5.setTop (mkF m 42 #[.val (.long q0), .second, .val (.long q1), .second, .val (.long ((((5 : Int64) + ((8 : Int64) * q0)) + ((8 : Int64) * q0)) + (4 : Int64))), .second, .val (.int (1 : Int32)), .unset, .unset] [(.long (f1 (0 : Int64)))])) _
    refine X5.ldc2Long hx hown (mvT hZ (hw _ (List.mem_of_getElem? (i := 10) rfl))) (g := (mkF m 42 #[.val (.long q0), .second, .val (.long q1), .second, .val (.long ((((5 : Int64) + ((8 : Int64) * q0)) + ((8 : Int64) * q0)) + (4 : Int64))), .second, .val (.int (1 : Int32)), .unset, .unset] [(.long (f1 (0 : Int64)))])) rfl (hb hby at_42) _ ?_
    show Steps p.tables e below (T5.setTop (mkF m 45 #[.val (.long q0), .second, .val (.long q1), .second, .val (.long ((((5 : Int64) + ((8 : Int64) * q0)) + ((8 : Int64) * q0)) + (4 : Int64))), .second, .val (.int (1 : Int32)), .unset, .unset] [(.long (9 : Int64)), (.long (f1 (0 : Int64)))])) _
    refine XS.lcmp X5.here hx rfl (hb hby at_45) rfl ?_
    show Steps p.tables e below (T5.setTop (mkF m 46 #[.val (.long q0), .second, .val (.long q1), .second, .val (.long ((((5 : Int64) + ((8 : Int64) * q0)) + ((8 : Int64) * q0)) + (4 : Int64))), .second, .val (.int (1 : Int32)), .unset, .unset] [(.int (lcmpW (f1 (0 : Int64)) (9 : Int64)))])) _
    refine XS.ifNo X5.here hx rfl (hb hby at_46) rfl (Jvm.Free.XT.ll_ne_f (by decide : (f1 (0 : Int64)) = (9 : Int64))) ?_
    show Steps p.tables e below (T5.setTop (mkF m 49 #[.val (.long q0), .second, .val (.long q1), .second, .val (.long ((((5 : Int64) + ((8 : Int64) * q0)) + ((8 : Int64) * q0)) + (4 : Int64))), .second, .val (.int (1 : Int32)), .unset, .unset] [])) _
    refine XS.iconst X5.here hx rfl (hb hby at_49) ?_
    show Steps p.tables e below (T5.setTop (mkF m 50 #[.val (.long q0), .second, .val (.long q1), .second, .val (.long ((((5 : Int64) + ((8 : Int64) * q0)) + ((8 : Int64) * q0)) + (4 : Int64))), .second, .val (.int (1 : Int32)), .unset, .unset] [(.int (1 : Int32))])) _
    refine XS.goto X5.here hx rfl (pc0 := 50) (pc' := 54) rfl (hb hby at_50) (by decide) (by decide) ?_
    show Steps p.tables e below (T5.setTop (mkF m 54 #[.val (.long q0), .second, .val (.long q1), .second, .val (.long ((((5 : Int64) + ((8 : Int64) * q0)) + ((8 : Int64) * q0)) + (4 : Int64))), .second, .val (.int (1 : Int32)), .unset, .unset] [(.int (1 : Int32))])) _
    refine XS.istore X5.here hx rfl (hb hby at_54) rfl (l' := #[.val (.long q0), .second, .val (.long q1), .second, .val (.long ((((5 : Int64) + ((8 : Int64) * q0)) + ((8 : Int64) * q0)) + (4 : Int64))), .second, .val (.int (1 : Int32)), .val (.int (1 : Int32)), .unset]) rfl ?_
    show Steps p.tables e below (T5.setTop (mkF m 56 #[.val (.long q0), .second, .val (.long q1), .second, .val (.long ((((5 : Int64) + ((8 : Int64) * q0)) + ((8 : Int64) * q0)) + (4 : Int64))), .second, .val (.int (1 : Int32)), .val (.int (1 : Int32)), .unset] [])) _
    refine XS.lloadN X5.here hx rfl (hb hby at_56) rfl ?_
    show Steps p.tables e below (T5.setTop (mkF m 57 #[.val (.long q0), .second, .val (.long q1), .second, .val (.long ((((5 : Int64) + ((8 : Int64) * q0)) + ((8 : Int64) * q0)) + (4 : Int64))), .second, .val (.int (1 : Int32)), .val (.int (1 : Int32)), .unset] [(.long q0)])) _
    refine XS.lloadN X5.here hx rfl (hb hby at_57) rfl ?_
    show Steps p.tables e below (T5.setTop (mkF m 58 #[.val (.long q0), .second, .val (.long q1), .second, .val (.long ((((5 : Int64) + ((8 : Int64) * q0)) + ((8 : Int64) * q0)) + (4 : Int64))), .second, .val (.int (1 : Int32)), .val (.int (1 : Int32)), .unset] [(.long q1), (.long q0)])) _
    refine XS.ladd X5.here hx rfl (hb hby at_58) rfl ?_
    exact kt)
  obtain ⟨_, _, ⟨T8, L8, k8, n8⟩, -, X8, ⟨Lc8, hQ8, l8, y8, z8⟩, st8⟩ := Jvm.LawKit.callS X5 hx (y := (⟨"com/example/tierfuse/tierfuse/format/SealedFileFormat", "plainBlockBytes", "(J)J"⟩ : MethodName)) hown (mvT hZ (hw _ (List.mem_of_getElem? (i := 3) rfl))) (mvT hZ (hw _ (List.mem_of_getElem? (i := 4) rfl))) (mvT hZ (hw _ (List.mem_of_getElem? (i := 5) rfl))) (mvT hZ (hw _ (List.mem_of_getElem? (i := 6) rfl))) (by decide) (backOf (W := 0) (rm1 l Z av hw [] (q0 + q1)  h0 n0 Z0 ) hZ (hw _ (List.mem_of_getElem? (i := 6) rfl)) (hw _ (List.mem_of_getElem? (i := 5) rfl)) (by decide) (by decide)) (g := (mkF m 59 #[.val (.long q0), .second, .val (.long q1), .second, .val (.long ((((5 : Int64) + ((8 : Int64) * q0)) + ((8 : Int64) * q0)) + (4 : Int64))), .second, .val (.int (1 : Int32)), .val (.int (1 : Int32)), .unset] [(.long (q0 + q1))])) rfl (by rw [hml]; rfl) (argsL := [(.long (q0 + q1))]) (rest := []) (lenOf pd__J_J rfl) rfl (by show 2 * 0 + _ ≤ _; exact Nat.le_of_eq rfl) (hb hby at_59) (fun _ _ => ⟨rfl, e5, (by decide : 0 + 0 ≤ _), (by decide : 0 + 0 ≤ _)⟩)
  dsimp only [Pt.U, Pt.locs, Pt.cells, Pt.slots] at X8 l8 y8 z8 st8 hQ8
  subst l8 y8 z8
  obtain ⟨rfl, N8q, e8⟩ := hQ8
  have N8 := Fr.app N5 N8q
  have pre9 : ∀ t, Steps p.tables e below (T8.setTop (mkF m 62 #[.val (.long q0), .second, .val (.long q1), .second, .val (.long ((((5 : Int64) + ((8 : Int64) * q0)) + ((8 : Int64) * q0)) + (4 : Int64))), .second, .val (.int (1 : Int32)), .val (.int (1 : Int32)), .unset] [(.long (f1 (q0 + q1)))])) t → Steps p.tables e below (s₁.setTop (entryFrame m #[(.long q0), (.long q1)] maxLocals)) t := fun t kt => pre7 t (st8 _ kt)
  have pre10 : ∀ t, Steps p.tables e below (T8.setTop (mkF m 67 #[.val (.long q0), .second, .val (.long q1), .second, .val (.long ((((5 : Int64) + ((8 : Int64) * q0)) + ((8 : Int64) * q0)) + (4 : Int64))), .second, .val (.int (1 : Int32)), .val (.int (1 : Int32)), .unset] [(.long q0), (.long ((f1 (q0 + q1)) + (9 : Int64)))])) t → Steps p.tables e below (s₁.setTop (entryFrame m #[(.long q0), (.long q1)] maxLocals)) t := fun t kt => pre9 t (by
    show Steps p.tables e below (T8.setTop (mkF m 62 #[.val (.long q0), .second, .val (.long q1), .second, .val (.long ((((5 : Int64) + ((8 : Int64) * q0)) + ((8 : Int64) * q0)) + (4 : Int64))), .second, .val (.int (1 : Int32)), .val (.int (1 : Int32)), .unset] [(.long (f1 (q0 + q1)))])) _
    refine X8.ldc2Long hx hown (mvT hZ (hw _ (List.mem_of_getElem? (i := 10) rfl))) (g := (mkF m 62 #[.val (.long q0), .second, .val (.long q1), .second, .val (.long ((((5 : Int64) + ((8 : Int64) * q0)) + ((8 : Int64) * q0)) + (4 : Int64))), .second, .val (.int (1 : Int32)), .val (.int (1 : Int32)), .unset] [(.long (f1 (q0 + q1)))])) rfl (hb hby at_62) _ ?_
    show Steps p.tables e below (T8.setTop (mkF m 65 #[.val (.long q0), .second, .val (.long q1), .second, .val (.long ((((5 : Int64) + ((8 : Int64) * q0)) + ((8 : Int64) * q0)) + (4 : Int64))), .second, .val (.int (1 : Int32)), .val (.int (1 : Int32)), .unset] [(.long (9 : Int64)), (.long (f1 (q0 + q1)))])) _
    refine XS.ladd X8.here hx rfl (hb hby at_65) rfl ?_
    show Steps p.tables e below (T8.setTop (mkF m 66 #[.val (.long q0), .second, .val (.long q1), .second, .val (.long ((((5 : Int64) + ((8 : Int64) * q0)) + ((8 : Int64) * q0)) + (4 : Int64))), .second, .val (.int (1 : Int32)), .val (.int (1 : Int32)), .unset] [(.long ((f1 (q0 + q1)) + (9 : Int64)))])) _
    refine XS.lloadN X8.here hx rfl (hb hby at_66) rfl ?_
    exact kt)
  obtain ⟨_, _, ⟨T11, L11, k11, n11⟩, -, X11, ⟨Lc11, hQ11, l11, y11, z11⟩, st11⟩ := Jvm.LawKit.callS X8 hx (y := (⟨"com/example/tierfuse/tierfuse/format/SealedFileFormat", "plainBlockBytes", "(J)J"⟩ : MethodName)) hown (mvT hZ (hw _ (List.mem_of_getElem? (i := 3) rfl))) (mvT hZ (hw _ (List.mem_of_getElem? (i := 4) rfl))) (mvT hZ (hw _ (List.mem_of_getElem? (i := 5) rfl))) (mvT hZ (hw _ (List.mem_of_getElem? (i := 6) rfl))) (by decide) (backOf (W := 2) (rm1 l Z av hw [] q0  h0 n0 Z0 ) hZ (hw _ (List.mem_of_getElem? (i := 6) rfl)) (hw _ (List.mem_of_getElem? (i := 5) rfl)) (by decide) (by decide)) (g := (mkF m 67 #[.val (.long q0), .second, .val (.long q1), .second, .val (.long ((((5 : Int64) + ((8 : Int64) * q0)) + ((8 : Int64) * q0)) + (4 : Int64))), .second, .val (.int (1 : Int32)), .val (.int (1 : Int32)), .unset] [(.long q0), (.long ((f1 (q0 + q1)) + (9 : Int64)))])) rfl (by rw [hml]; rfl) (argsL := [(.long q0)]) (rest := [(.long ((f1 (q0 + q1)) + (9 : Int64)))]) (lenOf pd__J_J rfl) rfl (by show 2 * 0 + _ ≤ _; exact Nat.le_of_eq rfl) (hb hby at_67) (fun _ _ => ⟨rfl, e8, (by decide : 0 + 0 ≤ _), (by decide : 0 + 0 ≤ _)⟩)
  dsimp only [Pt.U, Pt.locs, Pt.cells, Pt.slots] at X11 l11 y11 z11 st11 hQ11
  subst l11 y11 z11
  obtain ⟨rfl, N11q, e11⟩ := hQ11
  have N11 := Fr.app N8 N11q
  have pre12 : ∀ t, Steps p.tables e below (T11.setTop (mkF m 70 #[.val (.long q0), .second, .val (.long q1), .second, .val (.long ((((5 : Int64) + ((8 : Int64) * q0)) + ((8 : Int64) * q0)) + (4 : Int64))), .second, .val (.int (1 : Int32)), .val (.int (1 : Int32)), .unset] [(.long (f1 q0)), (.long ((f1 (q0 + q1)) + (9 : Int64)))])) t → Steps p.tables e below (s₁.setTop (entryFrame m #[(.long q0), (.long q1)] maxLocals)) t := fun t kt => pre10 t (st11 _ kt)
  have pre13 : ∀ t, Steps p.tables e below (T11.setTop (mkF m 71 #[.val (.long q0), .second, .val (.long q1), .second, .val (.long ((((5 : Int64) + ((8 : Int64) * q0)) + ((8 : Int64) * q0)) + (4 : Int64))), .second, .val (.int (1 : Int32)), .val (.int (1 : Int32)), .unset] [(.long q1), (.long (f1 q0)), (.long ((f1 (q0 + q1)) + (9 : Int64)))])) t → Steps p.tables e below (s₁.setTop (entryFrame m #[(.long q0), (.long q1)] maxLocals)) t := fun t kt => pre12 t (by
    show Steps p.tables e below (T11.setTop (mkF m 70 #[.val (.long q0), .second, .val (.long q1), .second, .val (.long ((((5 : Int64) + ((8 : Int64) * q0)) + ((8 : Int64) * q0)) + (4 : Int64))), .second, .val (.int (1 : Int32)), .val (.int (1 : Int32)), .unset] [(.long (f1 q0)), (.long ((f1 (q0 + q1)) + (9 : Int64)))])) _
    refine XS.lloadN X11.here hx rfl (hb hby at_70) rfl ?_
    exact kt)
  obtain ⟨_, _, ⟨T14, L14, k14, n14⟩, -, X14, ⟨Lc14, hQ14, l14, y14, z14⟩, st14⟩ := Jvm.LawKit.callS X11 hx (y := (⟨"com/example/tierfuse/tierfuse/format/SealedFileFormat", "plainBlockBytes", "(J)J"⟩ : MethodName)) hown (mvT hZ (hw _ (List.mem_of_getElem? (i := 3) rfl))) (mvT hZ (hw _ (List.mem_of_getElem? (i := 4) rfl))) (mvT hZ (hw _ (List.mem_of_getElem? (i := 5) rfl))) (mvT hZ (hw _ (List.mem_of_getElem? (i := 6) rfl))) (by decide) (backOf (W := 4) (rm1 l Z av hw [] q1  h0 n0 Z0 ) hZ (hw _ (List.mem_of_getElem? (i := 6) rfl)) (hw _ (List.mem_of_getElem? (i := 5) rfl)) (by decide) (by decide)) (g := (mkF m 71 #[.val (.long q0), .second, .val (.long q1), .second, .val (.long ((((5 : Int64) + ((8 : Int64) * q0)) + ((8 : Int64) * q0)) + (4 : Int64))), .second, .val (.int (1 : Int32)), .val (.int (1 : Int32)), .unset] [(.long q1), (.long (f1 q0)), (.long ((f1 (q0 + q1)) + (9 : Int64)))])) rfl (by rw [hml]; rfl) (argsL := [(.long q1)]) (rest := [(.long (f1 q0)), (.long ((f1 (q0 + q1)) + (9 : Int64)))]) (lenOf pd__J_J rfl) rfl (by show 2 * 0 + _ ≤ _; exact Nat.le_of_eq rfl) (hb hby at_71) (fun _ _ => ⟨rfl, e11, (by decide : 0 + 0 ≤ _), (by decide : 0 + 0 ≤ _)⟩)
  dsimp only [Pt.U, Pt.locs, Pt.cells, Pt.slots] at X14 l14 y14 z14 st14 hQ14
  subst l14 y14 z14
  obtain ⟨rfl, N14q, e14⟩ := hQ14
  have N14 := Fr.app N11 N14q
  have pre15 : ∀ t, Steps p.tables e below (T14.setTop (mkF m 74 #[.val (.long q0), .second, .val (.long q1), .second, .val (.long ((((5 : Int64) + ((8 : Int64) * q0)) + ((8 : Int64) * q0)) + (4 : Int64))), .second, .val (.int (1 : Int32)), .val (.int (1 : Int32)), .unset] [(.long (f1 q1)), (.long (f1 q0)), (.long ((f1 (q0 + q1)) + (9 : Int64)))])) t → Steps p.tables e below (s₁.setTop (entryFrame m #[(.long q0), (.long q1)] maxLocals)) t := fun t kt => pre13 t (st14 _ kt)
  have pre16 : ∀ t, Steps p.tables e below (T14.setTop (mkF m 106 #[.val (.long q0), .second, .val (.long q1), .second, .val (.long ((((5 : Int64) + ((8 : Int64) * q0)) + ((8 : Int64) * q0)) + (4 : Int64))), .second, .val (.int (1 : Int32)), .val (.int (1 : Int32)), .val (.int (1 : Int32))] [(.int (1 : Int32))])) t → Steps p.tables e below (s₁.setTop (entryFrame m #[(.long q0), (.long q1)] maxLocals)) t := fun t kt => pre15 t (by
    show Steps p.tables e below (T14.setTop (mkF m 74 #[.val (.long q0), .second, .val (.long q1), .second, .val (.long ((((5 : Int64) + ((8 : Int64) * q0)) + ((8 : Int64) * q0)) + (4 : Int64))), .second, .val (.int (1 : Int32)), .val (.int (1 : Int32)), .unset] [(.long (f1 q1)), (.long (f1 q0)), (.long ((f1 (q0 + q1)) + (9 : Int64)))])) _
    refine XS.ladd X14.here hx rfl (hb hby at_74) rfl ?_
    show Steps p.tables e below (T14.setTop (mkF m 75 #[.val (.long q0), .second, .val (.long q1), .second, .val (.long ((((5 : Int64) + ((8 : Int64) * q0)) + ((8 : Int64) * q0)) + (4 : Int64))), .second, .val (.int (1 : Int32)), .val (.int (1 : Int32)), .unset] [(.long ((f1 q0) + (f1 q1))), (.long ((f1 (q0 + q1)) + (9 : Int64)))])) _
    refine XS.lcmp X14.here hx rfl (hb hby at_75) rfl ?_
    show Steps p.tables e below (T14.setTop (mkF m 76 #[.val (.long q0), .second, .val (.long q1), .second, .val (.long ((((5 : Int64) + ((8 : Int64) * q0)) + ((8 : Int64) * q0)) + (4 : Int64))), .second, .val (.int (1 : Int32)), .val (.int (1 : Int32)), .unset] [(.int (lcmpW ((f1 (q0 + q1)) + (9 : Int64)) ((f1 q0) + (f1 q1))))])) _
    refine XS.ifNo X14.here hx rfl (hb hby at_76) rfl (Jvm.Free.XT.ll_ne_f (own_e2 q0 q1 : ((f1 (q0 + q1)) + (9 : Int64)) = ((f1 q0) + (f1 q1)))) ?_
    show Steps p.tables e below (T14.setTop (mkF m 79 #[.val (.long q0), .second, .val (.long q1), .second, .val (.long ((((5 : Int64) + ((8 : Int64) * q0)) + ((8 : Int64) * q0)) + (4 : Int64))), .second, .val (.int (1 : Int32)), .val (.int (1 : Int32)), .unset] [])) _
    refine XS.iconst X14.here hx rfl (hb hby at_79) ?_
    show Steps p.tables e below (T14.setTop (mkF m 80 #[.val (.long q0), .second, .val (.long q1), .second, .val (.long ((((5 : Int64) + ((8 : Int64) * q0)) + ((8 : Int64) * q0)) + (4 : Int64))), .second, .val (.int (1 : Int32)), .val (.int (1 : Int32)), .unset] [(.int (1 : Int32))])) _
    refine XS.goto X14.here hx rfl (pc0 := 80) (pc' := 84) rfl (hb hby at_80) (by decide) (by decide) ?_
    show Steps p.tables e below (T14.setTop (mkF m 84 #[.val (.long q0), .second, .val (.long q1), .second, .val (.long ((((5 : Int64) + ((8 : Int64) * q0)) + ((8 : Int64) * q0)) + (4 : Int64))), .second, .val (.int (1 : Int32)), .val (.int (1 : Int32)), .unset] [(.int (1 : Int32))])) _
    refine XS.istore X14.here hx rfl (hb hby at_84) rfl (l' := #[.val (.long q0), .second, .val (.long q1), .second, .val (.long ((((5 : Int64) + ((8 : Int64) * q0)) + ((8 : Int64) * q0)) + (4 : Int64))), .second, .val (.int (1 : Int32)), .val (.int (1 : Int32)), .val (.int (1 : Int32))]) rfl ?_
    show Steps p.tables e below (T14.setTop (mkF m 86 #[.val (.long q0), .second, .val (.long q1), .second, .val (.long ((((5 : Int64) + ((8 : Int64) * q0)) + ((8 : Int64) * q0)) + (4 : Int64))), .second, .val (.int (1 : Int32)), .val (.int (1 : Int32)), .val (.int (1 : Int32))] [])) _
    refine XS.iload X14.here hx rfl (hb hby at_86) rfl ?_
    show Steps p.tables e below (T14.setTop (mkF m 88 #[.val (.long q0), .second, .val (.long q1), .second, .val (.long ((((5 : Int64) + ((8 : Int64) * q0)) + ((8 : Int64) * q0)) + (4 : Int64))), .second, .val (.int (1 : Int32)), .val (.int (1 : Int32)), .val (.int (1 : Int32))] [(.int (1 : Int32))])) _
    refine XS.ifNo X14.here hx rfl (hb hby at_88) rfl ((if0 _ _).trans (feq (by decide : ¬ ((1 : Int32) = (0 : Int32)))).1) ?_
    show Steps p.tables e below (T14.setTop (mkF m 91 #[.val (.long q0), .second, .val (.long q1), .second, .val (.long ((((5 : Int64) + ((8 : Int64) * q0)) + ((8 : Int64) * q0)) + (4 : Int64))), .second, .val (.int (1 : Int32)), .val (.int (1 : Int32)), .val (.int (1 : Int32))] [])) _
    refine XS.iload X14.here hx rfl (hb hby at_91) rfl ?_
    show Steps p.tables e below (T14.setTop (mkF m 93 #[.val (.long q0), .second, .val (.long q1), .second, .val (.long ((((5 : Int64) + ((8 : Int64) * q0)) + ((8 : Int64) * q0)) + (4 : Int64))), .second, .val (.int (1 : Int32)), .val (.int (1 : Int32)), .val (.int (1 : Int32))] [(.int (1 : Int32))])) _
    refine XS.ifNo X14.here hx rfl (hb hby at_93) rfl ((if0 _ _).trans (feq (by decide : ¬ ((1 : Int32) = (0 : Int32)))).1) ?_
    show Steps p.tables e below (T14.setTop (mkF m 96 #[.val (.long q0), .second, .val (.long q1), .second, .val (.long ((((5 : Int64) + ((8 : Int64) * q0)) + ((8 : Int64) * q0)) + (4 : Int64))), .second, .val (.int (1 : Int32)), .val (.int (1 : Int32)), .val (.int (1 : Int32))] [])) _
    refine XS.iload X14.here hx rfl (hb hby at_96) rfl ?_
    show Steps p.tables e below (T14.setTop (mkF m 98 #[.val (.long q0), .second, .val (.long q1), .second, .val (.long ((((5 : Int64) + ((8 : Int64) * q0)) + ((8 : Int64) * q0)) + (4 : Int64))), .second, .val (.int (1 : Int32)), .val (.int (1 : Int32)), .val (.int (1 : Int32))] [(.int (1 : Int32))])) _
    refine XS.ifNo X14.here hx rfl (hb hby at_98) rfl ((if0 _ _).trans (feq (by decide : ¬ ((1 : Int32) = (0 : Int32)))).1) ?_
    show Steps p.tables e below (T14.setTop (mkF m 101 #[.val (.long q0), .second, .val (.long q1), .second, .val (.long ((((5 : Int64) + ((8 : Int64) * q0)) + ((8 : Int64) * q0)) + (4 : Int64))), .second, .val (.int (1 : Int32)), .val (.int (1 : Int32)), .val (.int (1 : Int32))] [])) _
    refine XS.iconst X14.here hx rfl (hb hby at_101) ?_
    show Steps p.tables e below (T14.setTop (mkF m 102 #[.val (.long q0), .second, .val (.long q1), .second, .val (.long ((((5 : Int64) + ((8 : Int64) * q0)) + ((8 : Int64) * q0)) + (4 : Int64))), .second, .val (.int (1 : Int32)), .val (.int (1 : Int32)), .val (.int (1 : Int32))] [(.int (1 : Int32))])) _
    refine XS.goto X14.here hx rfl (pc0 := 102) (pc' := 106) rfl (hb hby at_102) (by decide) (by decide) ?_
    exact kt)
  obtain ⟨fs, hr, hrun, hended, hW, hsame⟩ := X14.leave (v := some (.int (1 : Int32))) (fun h => by rw [Bd.returns] at h; cases h)
  refine ⟨_, _, pre16 _ ?_, hrun, hended, _, _, rfl, ?_, ⟨_, rfl⟩, hW, hsame.mono (by decide) (by decide)⟩
  · show Steps p.tables e below (T14.setTop (mkF m 106 #[.val (.long q0), .second, .val (.long q1), .second, .val (.long ((((5 : Int64) + ((8 : Int64) * q0)) + ((8 : Int64) * q0)) + (4 : Int64))), .second, .val (.int (1 : Int32)), .val (.int (1 : Int32)), .val (.int (1 : Int32))] [(.int (1 : Int32))])) _
    exact retN X14 hx (t := .boolean) Bd.returns (by simp) (hb hby at_106) hr
  · show Q0 Z q0 q1 h0 n0 _ T14.heap _
    rw [e14]
    exact ⟨rfl, N14⟩
set_option maxRecDepth 65536 in
set_option maxHeartbeats 40000000 in
theorem comes_1 {Post : Tables → Env → Array Value → State → Outcome → State → Prop} (hpost : ∀ tb e args s v u, (limb_1_1.after args s (.returned v) u = true ∧ limb_1_2.after args s (.returned v) u = true ∧ True) → FrameEnd s (.returned v) u (Jvm.fieldLocs frame_1_writes args s ++ Jvm.arrayLocs frame_1_arrays args s ++ Jvm.staticLocs frame_1_statics s) 0 0 → Post tb e args s (.returned v) u) :
    ArmFor flags0 classFile x code maxLocals ret World_1 tables_1 room_1 Calls_1 rest_1 Pre_1 Post := by
  intro l hfl _ _ p e ha hc hk s m args below hf hA hF happ hP
  obtain ⟨hcalls, hrest, hpre⟩ := hP
  obtain ⟨-, -, -, hnamed, -, -, -, hat⟩ := (Spec.applies_iff hf).mp happ
  obtain ⟨hg, hn⟩ := and_e (Cond.before_iff.mp (show (Jvm.Cond.and given_1 narrow_1).before args s = true from hpre))
  obtain ⟨g1, g2⟩ := and_e hg
  obtain ⟨g3, g4⟩ := and_e g2
  obtain ⟨w0, w1, rfl⟩ : ∃ w0 w1 : Value, args = #[w0, w1] := by
    have hs : args.size = 2 := by simpa [Cond.value, given_1] using g1
    obtain ⟨L⟩ := args
    match L, hs with
    | [w0, w1], _ => exact ⟨w0, w1, rfl⟩
  have hw := fun d (hd : d ∈ tables_1) => atoms_spec (ws := Jvm.Cond.code x code maxLocals ret :: tables_1) hat d (List.mem_cons_of_mem _ hd)
  obtain ⟨i0, ei0⟩ := isL_v g3
  obtain rfl : w0 = (.long i0) := Option.some.inj ei0
  obtain ⟨i1, ei1⟩ := isL_v g4
  obtain rfl : w1 = (.long i1) := Option.some.inj ei1
  obtain ⟨n, o, h1, h2, h3, _, L, rfl, ⟨rfl, N⟩, hq⟩ := rm0 l s _ hw tables_1 i0 i1 s.heap s.heap.size (Nat.le_refl _) p e ha hc hk s m _ below hf ((Spec.applies_iff_loose hf).mp happ).1 ⟨rfl, State.Warmed39.refl s, rfl⟩ trivial
  refine ⟨n, _, h1, h2, h3, hpost _ _ _ _ _ _ ⟨Cond.after_iff.mpr rfl, Cond.after_iff.mpr (eq_i res_at (Term.int_eval (1)) rfl), trivial⟩ ⟨hq.1, hq.2.1, (hq.2.2.sift fun y hy => Or.inr (N y hy)).mono (by decide) (by decide)⟩⟩
theorem main_1_1 : Claimed_1_1 := comes_1 fun _ _ _ _ _ _ h hF => ⟨h.1, hF⟩
theorem main_1_2 : Claimed_1_2 := comes_1 fun _ _ _ _ _ _ h hF => ⟨h.2.1, hF⟩
end Jvm.Pilot.@@N@@
namespace Jvm.Pilot.@@N@@
open Jvm Jvm.ClassFile Sem Op Lib Jvm.Free Jvm.Stand Jvm.Pilot.@@N@@.Jvm.D
/-! MADE BY PROGRAM (witnessworld.py) out of the Statement's table words and the real class files: 9 classes; the members and pool entries that the words name. The judged class is class 1, her method 1. -/
namespace start1
open Jvm.ClassFile
def u (s : String) : CpInfo := .utf8 (stringToUtf16 s)
/-- a pool by its gaps: so many unusable entries, then the entry; so many at the end -/
def gap : Nat → List CpInfo → List CpInfo
  | 0, r => r
  | n + 1, r => .unusable :: gap n r
def poolList (es : List (Nat × CpInfo)) (last : Nat) : List CpInfo := es.foldr (fun e r => gap e.1 (e.2 :: r)) (gap last [])
def pool (es : List (Nat × CpInfo)) (last : Nat) : Array CpInfo := ⟨poolList es last⟩
def fileOf (pool : Array CpInfo) (this : Nat) (attrs : Array Attribute := #[]) (ms : Array MethodInfo := #[]) (fl : Nat := 33) (sup : Nat := 0) (ifs : Array Nat := #[]) (fds : Array FieldInfo := #[]) : ClassFile where
  minorVersion := 0
  majorVersion := 65
  constantPool := pool
  accessFlags := fl
  thisClass := this
  superClass := sup
  interfaces := ifs
  fields := fds
  methods := ms
  attributes := attrs
def plain (name : String) (sup : Option ClassId) : Class where
  name := name
  kind := .ordinary
  loader := none
  accessFlags := 33
  super := sup
  interfaces := #[]
  cf := none
  fields := #[]
  methods := #[]
  instanceTypes := #[]
  staticTypes := #[]
  resolved := #[]
  callSites := []
  init := .initialized
  statics := none
  mirror := none

def pool0 : Array CpInfo := pool [(5, u "<init>"), (0, u "()V"), (1, .class_ 10), (1, u "java/lang/Object")] 113

def k0m0 : Method := { name := "<init>", desc := "()V", sig := { parameters := [], returnType := none }, accessFlags := 1, code := none }
/-- java/lang/Object -/
def k0 : Class := { plain "java/lang/Object" none with
  accessFlags := 33
  interfaces := #[]
  cf := some (fileOf pool0 8 #[] #[{ accessFlags := 1, nameIndex := 5, descriptorIndex := 6, attributes := #[] }] 33 0 #[] #[])
  fields := #[]
  methods := #[k0m0]
  instanceTypes := #[]
  staticTypes := #[]
  resolved := Array.replicate 124 none
  statics := none }

def pool1 : Array CpInfo := pool [(2, .class_ 4), (1, u "java/lang/Object"), (0, u "<init>"), (0, u "()V"), (0, .long 5), (1, .long 8), (1, .long 4), (1, .methodref 14 15), (0, .class_ 16), (0, .nameAndType 17 18), (0, u "com/example/tierfuse/tierfuse/format/SealedFileFormat"), (0, u "plainBlockBytes"), (0, u "(J)J"), (0, .long 9), (1, .class_ 22), (0, u "com/example/tierfuse/tierfuse/format/SealedFileFormatPlainBlockBytesPinLaw"), (2, u "law"), (0, u "(JJ)Z")] 3

def k1m0 : Method := { name := "<init>", desc := "()V", sig := { parameters := [], returnType := none }, accessFlags := 2, code := none }
def k1c1 : Code := { maxStack := 6, maxLocals := 9, code := code, exceptionTable := #[], attributes := #[] }
def k1m1 : Method := { name := "law", desc := "(JJ)Z", sig := { parameters := [.long, .long], returnType := some .boolean }, accessFlags := 9, code := some k1c1 }
/-- com/example/tierfuse/tierfuse/format/SealedFileFormatPlainBlockBytesPinLaw -/
def k1 : Class := { plain "com/example/tierfuse/tierfuse/format/SealedFileFormatPlainBlockBytesPinLaw" (some 0) with
  accessFlags := 49
  interfaces := #[]
  cf := some (fileOf pool1 21 #[] #[{ accessFlags := 2, nameIndex := 5, descriptorIndex := 6, attributes := #[] }, { accessFlags := 9, nameIndex := 25, descriptorIndex := 26, attributes := #[] }] 49 2 #[] #[])
  fields := #[]
  methods := #[k1m0, k1m1]
  instanceTypes := #[]
  staticTypes := #[]
  resolved := Array.replicate 30 none
  statics := none }

def pool2 : Array CpInfo := pool [(2, .class_ 4), (1, u "java/lang/Object"), (0, u "<init>"), (0, u "()V"), (0, .class_ 8), (0, u "com/example/tierfuse/tierfuse/format/SealedFileFormat"), (0, .long 5), (1, .long 16), (1, .long 4), (15, u "plainBlockBytes"), (0, u "(J)J"), (136, u "MAGIC"), (0, u "I"), (2, u "FORMAT"), (1, u "FIRST_FORMAT"), (1, u "HEADER_BYTES"), (1, u "FOOTER_BYTES"), (1, u "BLOCK_HEAD_BYTES"), (1, u "CRC_BYTES"), (1, u "PLAIN"), (0, u "B"), (1, u "DELTA")] 28

def k2m0 : Method := { name := "<init>", desc := "()V", sig := { parameters := [], returnType := none }, accessFlags := 2, code := none }
def k2c1 : Code := { maxStack := 6, maxLocals := 2, code := prog_46_method_2_code, exceptionTable := #[], attributes := #[] }
def k2m1 : Method := { name := "plainBlockBytes", desc := "(J)J", sig := { parameters := [.long], returnType := some .long }, accessFlags := 8, code := some k2c1 }
/-- com/example/tierfuse/tierfuse/format/SealedFileFormat -/
def k2 : Class := { plain "com/example/tierfuse/tierfuse/format/SealedFileFormat" (some 0) with
  accessFlags := 48
  interfaces := #[]
  cf := some (fileOf pool2 7 #[] #[{ accessFlags := 2, nameIndex := 5, descriptorIndex := 6, attributes := #[] }, { accessFlags := 8, nameIndex := 29, descriptorIndex := 30, attributes := #[] }] 48 2 #[] #[{ accessFlags := 24, nameIndex := 167, descriptorIndex := 168, attributes := #[] }, { accessFlags := 24, nameIndex := 171, descriptorIndex := 168, attributes := #[] }, { accessFlags := 24, nameIndex := 173, descriptorIndex := 168, attributes := #[] }, { accessFlags := 24, nameIndex := 175, descriptorIndex := 168, attributes := #[] }, { accessFlags := 24, nameIndex := 177, descriptorIndex := 168, attributes := #[] }, { accessFlags := 24, nameIndex := 179, descriptorIndex := 168, attributes := #[] }, { accessFlags := 24, nameIndex := 181, descriptorIndex := 168, attributes := #[] }, { accessFlags := 24, nameIndex := 183, descriptorIndex := 184, attributes := #[] }, { accessFlags := 24, nameIndex := 186, descriptorIndex := 184, attributes := #[] }])
  fields := #[{ name := "MAGIC", type := .int, accessFlags := 24, slot := 0, constantValue := 0 }, { name := "FORMAT", type := .int, accessFlags := 24, slot := 1, constantValue := 0 }, { name := "FIRST_FORMAT", type := .int, accessFlags := 24, slot := 2, constantValue := 0 }, { name := "HEADER_BYTES", type := .int, accessFlags := 24, slot := 3, constantValue := 0 }, { name := "FOOTER_BYTES", type := .int, accessFlags := 24, slot := 4, constantValue := 0 }, { name := "BLOCK_HEAD_BYTES", type := .int, accessFlags := 24, slot := 5, constantValue := 0 }, { name := "CRC_BYTES", type := .int, accessFlags := 24, slot := 6, constantValue := 0 }, { name := "PLAIN", type := .byte, accessFlags := 24, slot := 7, constantValue := 0 }, { name := "DELTA", type := .byte, accessFlags := 24, slot := 8, constantValue := 0 }]
  methods := #[k2m0, k2m1]
  instanceTypes := #[]
  staticTypes := #[.int, .int, .int, .int, .int, .int, .int, .byte, .byte]
  resolved := Array.replicate 215 none
  statics := none }

def pool3 : Array CpInfo := pool [(1, u "java/lang/Cloneable"), (0, .class_ 1), (0, u "java/lang/Object"), (0, .class_ 3)] 3

/-- java/lang/Cloneable -/
def k3 : Class := { plain "java/lang/Cloneable" (some 0) with
  accessFlags := 1537
  interfaces := #[]
  cf := some (fileOf pool3 2 #[] #[] 1537 4 #[] #[])
  fields := #[]
  methods := #[]
  instanceTypes := #[]
  staticTypes := #[]
  resolved := Array.replicate 8 none
  statics := none }

def pool4 : Array CpInfo := pool [(1, u "java/io/Serializable"), (0, .class_ 1), (0, u "java/lang/Object"), (0, .class_ 3)] 3

/-- java/io/Serializable -/
def k4 : Class := { plain "java/io/Serializable" (some 0) with
  accessFlags := 1537
  interfaces := #[]
  cf := some (fileOf pool4 2 #[] #[] 1537 4 #[] #[])
  fields := #[]
  methods := #[]
  instanceTypes := #[]
  staticTypes := #[]
  resolved := Array.replicate 8 none
  statics := none }

/-- the primitive byte -/
def k5 : Class := { plain "byte" none with kind := .primitive 'B', accessFlags := 0x411 }
/-- [B -/
def k6 : Class := { plain "[B" (some 0) with kind := .array 5 .byte, interfaces := #[3, 4], accessFlags := 1041 }

/-- the primitive int -/
def k7 : Class := { plain "int" none with kind := .primitive 'I', accessFlags := 0x411 }
/-- [I -/
def k8 : Class := { plain "[I" (some 0) with kind := .array 7 .int, interfaces := #[3, 4], accessFlags := 1041 }

def heap : Heap := #[]
def classes : Array Class := #[k0, k1, k2, k3, k4, k5, k6, k7, k8]
def interned : List (Array UInt16 × Addr) := []
def slotsUsed : Nat := 0
def theMethod : MethodId := ⟨1, 1⟩
def args0 : Array Value := #[.long 5, .long 5]
def aboutOver (below : List Frame) : State where
  vm := { classes := classes, interned := interned.toArray }
  heap := heap
  slotsUsed := slotsUsed
  threads := #[{ frames := .invoking theMethod args0 :: below }]
def below0 : List Frame := [.native { method := ⟨0, 0⟩, args := #[] }]
def about1 : State := aboutOver below0
def p0 : Program := .bare "" "" ""
def e0 : Env := launch0.env 0 0 0
theorem w_frames : about1.frames = Frame.invoking theMethod args0 :: below0 := rfl
set_option maxRecDepth 65536 in
theorem w_args : argsFit about1.vm theMethod args0 = true := by decide +kernel
set_option maxRecDepth 65536 in
theorem w_heap : heapFits about1 = true := by decide +kernel
set_option maxRecDepth 65536 in
theorem w_runnable : about1.curStatus? = some .runnable := by decide +kernel
set_option maxRecDepth 65536 in
theorem w_alone : about1.alone = true := by decide +kernel
set_option maxRecDepth 65536 in
theorem w_named : about1.methodNamed? x = some theMethod := by decide +kernel
set_option maxRecDepth 65536 in
theorem w_hears : about1.hears theMethod below0 = true := by decide +kernel
set_option maxRecDepth 65536 in
theorem w_ripe : about1.ripe theMethod args0 below0 = true := by decide +kernel
theorem w_running : about1.status = .running := rfl
set_option maxRecDepth 65536 in
theorem w_room : about1.hasRoom e0.platform room_1 = true :=
  launch0.hasRoom_least _ room_1 (by decide +kernel) (by decide +kernel) (by decide +kernel) (by decide +kernel) (by decide +kernel) (by decide +kernel)
theorem allAtoms_all (ts : List Jvm.Cond) (a : Array Jvm.Value) (st : Jvm.State) : (allAtoms ts).before a st = ts.all (fun c => c.before a st) := by
  induction ts with
  | nil => rfl
  | cons c t ih =>
    show (Jvm.Cond.and c (allAtoms t)).before a st = _
    rw [Jvm.Cond.before_and, ih, List.all_cons]
def words1 : List Jvm.Cond := Jvm.Cond.code x code maxLocals ret :: tables_1
/-- a 'code' word, met by the world's own term for the bytes: nothing is compared byte by byte -/
theorem code_word {y : MethodName} {bytes : ByteArray} {mx : Nat} {rt : Option FieldType} {a : Array Value} {s : State} {m : MethodId} {meth : Method} {c : Code} (h1 : s.methodNamed? y = some m) (h2 : s.vm.method? m = some meth) (h3 : meth.code = some c) (h4 : c.code = bytes)
    (h5 : (c.maxLocals == mx && c.exceptionTable.isEmpty && decide (c.maxStack ≤ mostOperands) && decide (meth.sig.returnType = rt) && !meth.locks && decide (parseMethodDescriptor y.desc = some meth.sig)) = true) : (Jvm.Cond.code y bytes mx rt).before a s = true := by
  simp only [Bool.and_eq_true, beq_iff_eq, Bool.not_eq_true', decide_eq_true_eq] at h5
  obtain ⟨⟨⟨⟨⟨g1, g2⟩, g3⟩, g4⟩, g5⟩, g6⟩ := h5
  simp [Cond.before, Cond.holds, Cond.value, h1, h2, h3, h4, g1, g2, g3, g4, g5, g6]
def isCode : Jvm.Cond → Bool
  | .code _ _ _ _ => true
  | _ => false
theorem all_split {L : List Jvm.Cond} {P : Jvm.Cond → Bool} (h1 : L.all (fun c => isCode c || P c) = true) (h2 : ∀ c ∈ L.filter isCode, P c = true) : L.all P = true := by
  refine List.all_eq_true.mpr fun c hc => ?_
  have h := List.all_eq_true.mp h1 c hc
  rcases Bool.eq_false_or_eq_true (isCode c) with hi | hi
  · exact h2 c (List.mem_filter.mpr ⟨hc, hi⟩)
  · simpa [hi] using h
set_option maxRecDepth 65536 in
theorem w_c0 : (Jvm.Cond.code x code maxLocals ret).before args0 about1 = true := code_word (m := ⟨1, 1⟩) (meth := k1m1) (c := k1c1) (by decide +kernel) rfl rfl rfl (by decide +kernel)
set_option maxRecDepth 65536 in
theorem w_c1 : (Jvm.Cond.code ({ cls := "com/example/tierfuse/tierfuse/format/SealedFileFormat", name := "plainBlockBytes", desc := "(J)J" } : Jvm.MethodName) prog_46_method_2_code (2 : Nat) (Option.some Jvm.ClassFile.FieldType.long)).before args0 about1 = true := code_word (m := ⟨2, 1⟩) (meth := k2m1) (c := k2c1) (by decide +kernel) rfl rfl rfl (by decide +kernel)
def codes1 : List Jvm.Cond := [Jvm.Cond.code x code maxLocals ret, Jvm.Cond.code ({ cls := "com/example/tierfuse/tierfuse/format/SealedFileFormat", name := "plainBlockBytes", desc := "(J)J" } : Jvm.MethodName) prog_46_method_2_code (2 : Nat) (Option.some Jvm.ClassFile.FieldType.long)]
set_option maxRecDepth 65536 in
theorem codes_eq : words1.filter isCode = codes1 := rfl
theorem w_codes : ∀ c ∈ words1.filter isCode, c.before args0 about1 = true := by
  rw [codes_eq]
  intro c hc
  simp only [codes1, List.mem_cons, List.not_mem_nil, or_false] at hc
  rcases hc with rfl | rfl
  · exact w_c0
  · exact w_c1
set_option maxRecDepth 65536 in
theorem w_t1 : words1.all (fun c => isCode c || c.before args0 about1) = true := by decide +kernel
theorem w_tables : (allAtoms (Jvm.Cond.code x code maxLocals ret :: tables_1)).before args0 about1 = true := by
  rw [allAtoms_all]
  show words1.all (fun c => c.before args0 about1) = true
  refine all_split ?_ w_codes
  rw [w_t1]
set_option maxRecDepth 65536 in
theorem w_case : (Jvm.Cond.and given_1 narrow_1).before args0 about1 = true := by decide +kernel
theorem w_applies : (headSpec (Jvm.Cond.code x code maxLocals ret :: tables_1) room_1).applies x e0.platform about1 = true :=
  (Spec.applies_iff w_frames).mpr ⟨w_running, w_runnable, w_alone, w_named, w_hears, w_ripe, w_room, w_tables⟩
theorem atStart : AtStart classFile x code maxLocals ret World_1 tables_1 room_1 Calls_1 rest_1 Pre_1 launch0 p0 e0 about1 theMethod args0 below0 :=
  ⟨lists_1, trivial, launch0.admits_env _ _ _, launch0.least_env, fairChoices_fair.cas, fairChoices_fair.clock, w_frames, w_args, w_heap, w_applies, trivial, trivial, w_case⟩
end start1
theorem witness_1 : WitnessClaimed_1 := ⟨start1.p0, start1.e0, start1.about1, start1.theMethod, start1.args0, start1.below0, start1.atStart⟩
end Jvm.Pilot.@@N@@
