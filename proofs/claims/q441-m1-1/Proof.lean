import JvmDerived
import JvmDerived.Pilot.@@N@@Statement
import JvmDerived.Pilot.@@N@@Code
set_option linter.unusedVariables false
set_option linter.unusedSimpArgs false
namespace Jvm.RoadKit
open Sem ClassFile Op Lib Jvm.Stand Jvm.Free Jvm.LawKit
section New
variable {p : Program} {l : Launch} {e : Env} {R : Room} {s : State} {m : MethodId} {args : Array Value} {below : List Frame} {meth : Method} {c : Code} {T : State} {locs : List Loc} {cells slots : Nat}
theorem retI (X : Stand p l e R s m args below meth c T locs cells slots) (hx : p.tables.exec = Jvm.exec) {pc : Nat} {Ls : Array Slot} {z : Int32} {rest : List Value} (hret : meth.sig.returnType = some .int) (hd : decode c.code pc = .ok (.ireturn, 1)) {fs : List Frame}
    (hl : ∀ (f : JFrame) (acts : List Action), f.method = m → f.locked = none → f.entered = [] → (doReturn e (T.setTop f) acts (some (.int z))).1 = T.setFrames fs) : Steps p.tables e below (T.setTop (mkF m pc Ls (.int z :: rest))) (T.setFrames fs) := by
  have hm' : T.vm.method? m = some meth := X.method'
  have hn : narrow .int (.int z) = .int z := rfl
  show Steps p.tables e below (T.setTop { method := m, pc := pc, locals := Ls, stack := _ :: rest, locked := none }) _
  jvm_step X.here [X.here.top, hx, hd, hm', hret, hn]
  first | (intro acts; rw [hl _ acts rfl rfl rfl]) | rw [hl _ _ rfl rfl rfl]
  exact Steps.refl _
theorem retL (X : Stand p l e R s m args below meth c T locs cells slots) (hx : p.tables.exec = Jvm.exec) {pc : Nat} {Ls : Array Slot} {z : Int64} {rest : List Value} (hret : meth.sig.returnType = some .long) (hd : decode c.code pc = .ok (.lreturn, 1)) {fs : List Frame}
    (hl : ∀ (f : JFrame) (acts : List Action), f.method = m → f.locked = none → f.entered = [] → (doReturn e (T.setTop f) acts (some (.long z))).1 = T.setFrames fs) : Steps p.tables e below (T.setTop (mkF m pc Ls (.long z :: rest))) (T.setFrames fs) := by
  have hm' : T.vm.method? m = some meth := X.method'
  have hn : narrow .long (.long z) = .long z := rfl
  show Steps p.tables e below (T.setTop { method := m, pc := pc, locals := Ls, stack := _ :: rest, locked := none }) _
  jvm_step X.here [X.here.top, hx, hd, hm', hret, hn]
  first | (intro acts; rw [hl _ acts rfl rfl rfl]) | rw [hl _ _ rfl rfl rfl]
  exact Steps.refl _
end New
end Jvm.RoadKit
namespace Jvm.Pilot.@@N@@
open Jvm Jvm.ClassFile Sem Op Lib Jvm.Free Jvm.Stand Jvm.LawKit Jvm.RoadKit Bundle Jvm.Pilot.@@N@@.Jvm.D
theorem pn_com_example_heptapolis_heptapolis_duel_ScoreTotalPinLaw : plainName "com/example/heptapolis/heptapolis/duel/ScoreTotalPinLaw" = true := by first | (simp [plainName, overriddenIn]; done) | decide +kernel
theorem pn_com_example_heptapolis_heptapolis_duel_Score : plainName "com/example/heptapolis/heptapolis/duel/Score" = true := by first | (simp [plainName, overriddenIn]; done) | decide +kernel
theorem pn_java_lang_Record : plainName "java/lang/Record" = true := by first | (simp [plainName, overriddenIn]; done) | decide +kernel
theorem d2_0 : decode jdk_30_method_1_code 0 = .ok (.aload_n 0, 1) := by decide +kernel
theorem d2_1 : decode jdk_30_method_1_code 1 = .ok (.invokespecial 1, 3) := by decide +kernel
theorem d2_4 : decode jdk_30_method_1_code 4 = .ok (.return_, 1) := by decide +kernel
theorem ef2 (m : MethodId) (x0 : Addr) : entryFrame m #[(.ref x0)] 1 = mkF m 0 #[.val (.ref x0)] [] := by first | (simp [entryFrame, mkF, argsToLocals, Value.category]; done) | rfl
def Q2 (Z : State) (a0 : Addr) (h0 : Heap) (n0 : Nat) (v : Option Value) (h : Heap) (L : List Loc) : Prop := v = none ∧ Fr n0 L ∧ h = h0
set_option maxRecDepth 65536 in
set_option maxHeartbeats 40000000 in
theorem rm2 (l : Launch) (Z : State) (av : Array Value) (hw : ∀ d ∈ tables_1, d.before av Z = true) (ws : List Jvm.Cond) (a0 : Addr) (h0 : Heap) (n0 : Nat) (Z0 : n0 ≤ h0.size) :
    MetFree l (⟨"java/lang/Record", "<init>", "()V"⟩ : MethodName) (head1 (Jvm.Cond.code (⟨"java/lang/Record", "<init>", "()V"⟩ : MethodName) jdk_30_method_1_code 1 none :: ws) ({ frames := 1, cells := 0, slots := 0, locals := 12 } : Room)) (fun a U => a = #[(.ref a0)] ∧ Z.Warmed39 U.vm ∧ U.heap = h0) (fun _ _ _ _ _ => True) (fun _ U o U' => ∃ v L, o = .returned v ∧ Q2 Z a0 h0 n0 v U'.heap L ∧ FrameEnd U o U' L ({ frames := 1, cells := 0, slots := 0, locals := 12 } : Room).cells ({ frames := 1, cells := 0, slots := 0, locals := 12 } : Room).slots) := by
  refine MetFree.of_bodySF (plainFor_of_name pn_java_lang_Record) hisR ?_
  intro p e s m args below meth c s₁ Bd hml0 hP hK
  obtain ⟨rfl, hZ, hh⟩ := hP
  have hx := Bd.exec
  have hby := Bd.bytes
  have hml : c.maxLocals = 1 := hml0
  have hown : s.vm.findClass "java/lang/Record" = some m.cls := findClass_of_methodNamed Bd.named
  have hnm := (name_of_methodNamed Bd.named Bd.method).1
  have X0 : Stand p l e ({ frames := 1, cells := 0, slots := 0, locals := 12 } : Room) s m #[(.ref a0)] below meth c s₁ [] 0 0 := Stand.of_body Bd
  have e0 : s₁.heap = h0 := by rw [← hh, Bd.state]; rfl
  have N0 := Fr.nil n0
  have K0 : Keep h0 h0 [] := Keep.refl h0 []
  have pre0 : ∀ t, Steps p.tables e below (s₁.setTop (mkF m 0 #[.val (.ref a0)] [])) t → Steps p.tables e below (s₁.setTop (entryFrame m #[(.ref a0)] 1)) t := fun t k => castTop (ef2 m a0) k
  have pre1 : ∀ t, Steps p.tables e below (s₁.setTop (mkF m 1 #[.val (.ref a0)] [(.ref a0)])) t → Steps p.tables e below (s₁.setTop (entryFrame m #[(.ref a0)] 1)) t := fun t kt => pre0 t (by
    show Steps p.tables e below (s₁.setTop (mkF m 0 #[.val (.ref a0)] [])) _
    refine XS.aloadN X0.here hx rfl (hb hby d2_0) rfl rfl ?_
    exact kt)
  clear pre0
  obtain ⟨T2, X2, e2, st2⟩ := initO X0 hx hZ hown (hw _ (List.mem_of_getElem? (i := 12) rfl)) (hw _ (List.mem_of_getElem? (i := 13) rfl)) (hw _ (List.mem_of_getElem? (i := 14) rfl)) e0 (g := (mkF m 1 #[.val (.ref a0)] [(.ref a0)])) rfl (by rw [hml]; rfl) rfl (hb hby d2_1) (by decide) (W := 0) (by show 2 * 0 + _ ≤ _; exact Nat.le_of_eq rfl) (by decide)
  have pre3 : ∀ t, Steps p.tables e below (T2.setTop (mkF m 4 #[.val (.ref a0)] [])) t → Steps p.tables e below (s₁.setTop (entryFrame m #[(.ref a0)] 1)) t := fun t kt => pre1 t (st2 _ kt)
  clear pre1 st2
  obtain ⟨fs, hr, hrun, hended, hW, hsame⟩ := X2.leave (v := none) (fun _ => rfl)
  refine ⟨_, _, pre3 _ ?_, hrun, hended, _, _, rfl, ?_, ⟨_, rfl⟩, hW, hsame.mono (by decide) (by decide)⟩
  · show Steps p.tables e below (T2.setTop (mkF m 4 #[.val (.ref a0)] [])) _
    exact X2.returnOut hx Bd.returns (hb hby d2_4) hr
  · show Q2 Z a0 h0 n0 _ T2.heap _
    rw [e2]
    exact ⟨rfl, N0, rfl⟩
theorem d1_0 : decode prog_93_method_1_code 0 = .ok (.aload_n 0, 1) := by decide +kernel
theorem pd___V : parseMethodDescriptor "()V" = some ⟨[], none⟩ := by decide +kernel
theorem d1_1 : decode prog_93_method_1_code 1 = .ok (.invokespecial 1, 3) := by decide +kernel
theorem d1_4 : decode prog_93_method_1_code 4 = .ok (.aload_n 0, 1) := by decide +kernel
theorem d1_5 : decode prog_93_method_1_code 5 = .ok (.iload_n 1, 1) := by decide +kernel
theorem d1_6 : decode prog_93_method_1_code 6 = .ok (.putfield 7, 3) := by decide +kernel
theorem d1_9 : decode prog_93_method_1_code 9 = .ok (.aload_n 0, 1) := by decide +kernel
theorem d1_10 : decode prog_93_method_1_code 10 = .ok (.iload_n 2, 1) := by decide +kernel
theorem d1_11 : decode prog_93_method_1_code 11 = .ok (.putfield 13, 3) := by decide +kernel
theorem d1_14 : decode prog_93_method_1_code 14 = .ok (.aload_n 0, 1) := by decide +kernel
theorem d1_15 : decode prog_93_method_1_code 15 = .ok (.iload_n 3, 1) := by decide +kernel
theorem d1_16 : decode prog_93_method_1_code 16 = .ok (.putfield 16, 3) := by decide +kernel
theorem d1_19 : decode prog_93_method_1_code 19 = .ok (.aload_n 0, 1) := by decide +kernel
theorem d1_20 : decode prog_93_method_1_code 20 = .ok (.iload 4, 2) := by decide +kernel
theorem d1_22 : decode prog_93_method_1_code 22 = .ok (.putfield 19, 3) := by decide +kernel
theorem d1_25 : decode prog_93_method_1_code 25 = .ok (.aload_n 0, 1) := by decide +kernel
theorem d1_26 : decode prog_93_method_1_code 26 = .ok (.iload 5, 2) := by decide +kernel
theorem d1_28 : decode prog_93_method_1_code 28 = .ok (.putfield 22, 3) := by decide +kernel
theorem d1_31 : decode prog_93_method_1_code 31 = .ok (.aload_n 0, 1) := by decide +kernel
theorem d1_32 : decode prog_93_method_1_code 32 = .ok (.iload 6, 2) := by decide +kernel
theorem d1_34 : decode prog_93_method_1_code 34 = .ok (.putfield 25, 3) := by decide +kernel
theorem d1_37 : decode prog_93_method_1_code 37 = .ok (.aload_n 0, 1) := by decide +kernel
theorem d1_38 : decode prog_93_method_1_code 38 = .ok (.iload 7, 2) := by decide +kernel
theorem d1_40 : decode prog_93_method_1_code 40 = .ok (.putfield 28, 3) := by decide +kernel
theorem d1_43 : decode prog_93_method_1_code 43 = .ok (.aload_n 0, 1) := by decide +kernel
theorem d1_44 : decode prog_93_method_1_code 44 = .ok (.iload 8, 2) := by decide +kernel
theorem d1_46 : decode prog_93_method_1_code 46 = .ok (.putfield 31, 3) := by decide +kernel
theorem d1_49 : decode prog_93_method_1_code 49 = .ok (.return_, 1) := by decide +kernel
theorem ef1 (m : MethodId) (x0 : Addr) (x1 : Int32) (x2 : Int32) (x3 : Int32) (x4 : Int32) (x5 : Int32) (x6 : Int32) (x7 : Int32) (x8 : Int32) : entryFrame m #[(.ref x0), (.int x1), (.int x2), (.int x3), (.int x4), (.int x5), (.int x6), (.int x7), (.int x8)] 9 = mkF m 0 #[.val (.ref x0), .val (.int x1), .val (.int x2), .val (.int x3), .val (.int x4), .val (.int x5), .val (.int x6), .val (.int x7), .val (.int x8)] [] := by first | (simp [entryFrame, mkF, argsToLocals, Value.category]; done) | rfl
def Q1 (Z : State) (a0 : Addr) (p1 : Int32) (p2 : Int32) (p3 : Int32) (p4 : Int32) (p5 : Int32) (p6 : Int32) (p7 : Int32) (p8 : Int32) (h0 : Heap) (n0 : Nat) (v : Option Value) (h : Heap) (L : List Loc) : Prop := v = none ∧ Fr n0 L ∧ Keep h0 h [a0] ∧ Exa Z h a0 "com/example/heptapolis/heptapolis/duel/Score" ∧ Fld Z h a0 "com/example/heptapolis/heptapolis/duel/Score" "blue" "I" (.int p1) ∧ Fld Z h a0 "com/example/heptapolis/heptapolis/duel/Score" "green" "I" (.int p2) ∧ Fld Z h a0 "com/example/heptapolis/heptapolis/duel/Score" "yellow" "I" (.int p3) ∧ Fld Z h a0 "com/example/heptapolis/heptapolis/duel/Score" "purple" "I" (.int p4) ∧ Fld Z h a0 "com/example/heptapolis/heptapolis/duel/Score" "wonders" "I" (.int p5) ∧ Fld Z h a0 "com/example/heptapolis/heptapolis/duel/Score" "progress" "I" (.int p6) ∧ Fld Z h a0 "com/example/heptapolis/heptapolis/duel/Score" "coins" "I" (.int p7) ∧ Fld Z h a0 "com/example/heptapolis/heptapolis/duel/Score" "military" "I" (.int p8)
set_option maxRecDepth 65536 in
set_option maxHeartbeats 40000000 in
theorem rm1 (l : Launch) (Z : State) (av : Array Value) (hw : ∀ d ∈ tables_1, d.before av Z = true) (ws : List Jvm.Cond) (a0 : Addr) (p1 : Int32) (p2 : Int32) (p3 : Int32) (p4 : Int32) (p5 : Int32) (p6 : Int32) (p7 : Int32) (p8 : Int32) (h0 : Heap) (n0 : Nat) (Z0 : n0 ≤ h0.size) (E_a0 : Exa Z h0 a0 "com/example/heptapolis/heptapolis/duel/Score") (g_a0 : n0 ≤ a0) (I_blue : Fld Z h0 a0 "com/example/heptapolis/heptapolis/duel/Score" "blue" "I" (.int (0 : Int32))) (I_green : Fld Z h0 a0 "com/example/heptapolis/heptapolis/duel/Score" "green" "I" (.int (0 : Int32))) (I_yellow : Fld Z h0 a0 "com/example/heptapolis/heptapolis/duel/Score" "yellow" "I" (.int (0 : Int32))) (I_purple : Fld Z h0 a0 "com/example/heptapolis/heptapolis/duel/Score" "purple" "I" (.int (0 : Int32))) (I_wonders : Fld Z h0 a0 "com/example/heptapolis/heptapolis/duel/Score" "wonders" "I" (.int (0 : Int32))) (I_progress : Fld Z h0 a0 "com/example/heptapolis/heptapolis/duel/Score" "progress" "I" (.int (0 : Int32))) (I_coins : Fld Z h0 a0 "com/example/heptapolis/heptapolis/duel/Score" "coins" "I" (.int (0 : Int32))) (I_military : Fld Z h0 a0 "com/example/heptapolis/heptapolis/duel/Score" "military" "I" (.int (0 : Int32))) :
    MetFree l (⟨"com/example/heptapolis/heptapolis/duel/Score", "<init>", "(IIIIIIII)V"⟩ : MethodName) (head1 (Jvm.Cond.code (⟨"com/example/heptapolis/heptapolis/duel/Score", "<init>", "(IIIIIIII)V"⟩ : MethodName) prog_93_method_1_code 9 none :: ws) ({ frames := 2, cells := 0, slots := 0, locals := 24 } : Room)) (fun a U => a = #[(.ref a0), (.int p1), (.int p2), (.int p3), (.int p4), (.int p5), (.int p6), (.int p7), (.int p8)] ∧ Z.Warmed39 U.vm ∧ U.heap = h0) (fun _ _ _ _ _ => True) (fun _ U o U' => ∃ v L, o = .returned v ∧ Q1 Z a0 p1 p2 p3 p4 p5 p6 p7 p8 h0 n0 v U'.heap L ∧ FrameEnd U o U' L ({ frames := 2, cells := 0, slots := 0, locals := 24 } : Room).cells ({ frames := 2, cells := 0, slots := 0, locals := 24 } : Room).slots) := by
  refine MetFree.of_bodySF (plainFor_of_name pn_com_example_heptapolis_heptapolis_duel_Score) hisR ?_
  intro p e s m args below meth c s₁ Bd hml0 hP hK
  obtain ⟨rfl, hZ, hh⟩ := hP
  have hx := Bd.exec
  have hby := Bd.bytes
  have hml : c.maxLocals = 9 := hml0
  have hown : s.vm.findClass "com/example/heptapolis/heptapolis/duel/Score" = some m.cls := findClass_of_methodNamed Bd.named
  have hnm := (name_of_methodNamed Bd.named Bd.method).1
  have X0 : Stand p l e ({ frames := 2, cells := 0, slots := 0, locals := 24 } : Room) s m #[(.ref a0), (.int p1), (.int p2), (.int p3), (.int p4), (.int p5), (.int p6), (.int p7), (.int p8)] below meth c s₁ [] 0 0 := Stand.of_body Bd
  have e0 : s₁.heap = h0 := by rw [← hh, Bd.state]; rfl
  have N0 := Fr.nil n0
  have K0 : Keep h0 h0 [a0] := Keep.refl h0 [a0]
  have pre0 : ∀ t, Steps p.tables e below (s₁.setTop (mkF m 0 #[.val (.ref a0), .val (.int p1), .val (.int p2), .val (.int p3), .val (.int p4), .val (.int p5), .val (.int p6), .val (.int p7), .val (.int p8)] [])) t → Steps p.tables e below (s₁.setTop (entryFrame m #[(.ref a0), (.int p1), (.int p2), (.int p3), (.int p4), (.int p5), (.int p6), (.int p7), (.int p8)] 9)) t := fun t k => castTop (ef1 m a0 p1 p2 p3 p4 p5 p6 p7 p8) k
  have pre1 : ∀ t, Steps p.tables e below (s₁.setTop (mkF m 1 #[.val (.ref a0), .val (.int p1), .val (.int p2), .val (.int p3), .val (.int p4), .val (.int p5), .val (.int p6), .val (.int p7), .val (.int p8)] [(.ref a0)])) t → Steps p.tables e below (s₁.setTop (entryFrame m #[(.ref a0), (.int p1), (.int p2), (.int p3), (.int p4), (.int p5), (.int p6), (.int p7), (.int p8)] 9)) t := fun t kt => pre0 t (by
    show Steps p.tables e below (s₁.setTop (mkF m 0 #[.val (.ref a0), .val (.int p1), .val (.int p2), .val (.int p3), .val (.int p4), .val (.int p5), .val (.int p6), .val (.int p7), .val (.int p8)] [])) _
    refine XS.aloadN X0.here hx rfl (hb hby d1_0) rfl rfl ?_
    exact kt)
  clear pre0
  obtain ⟨_, _, ⟨T2, L2, k2, n2⟩, -, X2, ⟨Lc2, hQ2, l2, y2, z2⟩, st2⟩ := X0.specialBack hx (y := (⟨"java/lang/Record", "<init>", "()V"⟩ : MethodName)) rfl hown (mvT hZ (hw _ (List.mem_of_getElem? (i := 7) rfl))) (mvT hZ (hw _ (List.mem_of_getElem? (i := 8) rfl))) (mvT hZ (hw _ (List.mem_of_getElem? (i := 11) rfl))) (by decide) (backOf (W := 0) (rm2 l Z av hw [] a0  h0 n0 Z0 ) hZ (hw _ (List.mem_of_getElem? (i := 11) rfl)) (hw _ (List.mem_of_getElem? (i := 10) rfl)) (by decide) (by decide)) (g := (mkF m 1 #[.val (.ref a0), .val (.int p1), .val (.int p2), .val (.int p3), .val (.int p4), .val (.int p5), .val (.int p6), .val (.int p7), .val (.int p8)] [(.ref a0)])) rfl (by rw [hml]; rfl) (Steps.refl _) (a := a0) (argsL := []) (rest := []) (lenOf pd___V rfl) rfl (by show 2 * 0 + _ ≤ _; exact Nat.le_of_eq rfl) (hb hby d1_1) (fun _ _ => ⟨rfl, e0, (by decide : 0 + 0 ≤ _), (by decide : 0 + 0 ≤ _)⟩)
  dsimp only [Pt.U, Pt.locs, Pt.cells, Pt.slots] at X2 l2 y2 z2 st2 hQ2
  rw [l2, y2, z2] at X2
  clear l2 y2 z2
  obtain ⟨rfl, N2q, e2⟩ := hQ2
  have N2 := Fr.app N0 N2q
  have pre3 : ∀ t, Steps p.tables e below (T2.setTop (mkF m 4 #[.val (.ref a0), .val (.int p1), .val (.int p2), .val (.int p3), .val (.int p4), .val (.int p5), .val (.int p6), .val (.int p7), .val (.int p8)] [])) t → Steps p.tables e below (s₁.setTop (entryFrame m #[(.ref a0), (.int p1), (.int p2), (.int p3), (.int p4), (.int p5), (.int p6), (.int p7), (.int p8)] 9)) t := fun t kt => pre1 t (st2.trans kt)
  clear pre1 st2
  have pre4 : ∀ t, Steps p.tables e below (T2.setTop (mkF m 6 #[.val (.ref a0), .val (.int p1), .val (.int p2), .val (.int p3), .val (.int p4), .val (.int p5), .val (.int p6), .val (.int p7), .val (.int p8)] [(.int p1), (.ref a0)])) t → Steps p.tables e below (s₁.setTop (entryFrame m #[(.ref a0), (.int p1), (.int p2), (.int p3), (.int p4), (.int p5), (.int p6), (.int p7), (.int p8)] 9)) t := fun t kt => pre3 t (by
    show Steps p.tables e below (T2.setTop (mkF m 4 #[.val (.ref a0), .val (.int p1), .val (.int p2), .val (.int p3), .val (.int p4), .val (.int p5), .val (.int p6), .val (.int p7), .val (.int p8)] [])) _
    refine XS.aloadN X2.here hx rfl (hb hby d1_4) rfl rfl ?_
    show Steps p.tables e below (T2.setTop (mkF m 5 #[.val (.ref a0), .val (.int p1), .val (.int p2), .val (.int p3), .val (.int p4), .val (.int p5), .val (.int p6), .val (.int p7), .val (.int p8)] [(.ref a0)])) _
    refine XS.iloadN X2.here hx rfl (hb hby d1_5) rfl ?_
    exact kt)
  clear pre3
  obtain ⟨T5, h5, X5, e5, W5, st5⟩ := putF X2 hx hZ hown (host := "") (Or.inl (hw _ (List.mem_of_getElem? (i := 15) rfl))) Via.refl e2 I_blue E_a0 (Or.inr ⟨(hw _ (List.mem_of_getElem? (i := 16) rfl)), rfl, hnm⟩) (hw _ (List.mem_of_getElem? (i := 2) rfl)) (ty := .int) (by decide) rfl rfl (g := (mkF m 6 #[.val (.ref a0), .val (.int p1), .val (.int p2), .val (.int p3), .val (.int p4), .val (.int p5), .val (.int p6), .val (.int p7), .val (.int p8)] [(.int p1), (.ref a0)])) rfl rfl (hb hby d1_6)
  have pre6 : ∀ t, Steps p.tables e below (T5.setTop (mkF m 9 #[.val (.ref a0), .val (.int p1), .val (.int p2), .val (.int p3), .val (.int p4), .val (.int p5), .val (.int p6), .val (.int p7), .val (.int p8)] [])) t → Steps p.tables e below (s₁.setTop (entryFrame m #[(.ref a0), (.int p1), (.int p2), (.int p3), (.int p4), (.int p5), (.int p6), (.int p7), (.int p8)] 9)) t := fun t kt => pre4 t (st5 _ kt)
  clear pre4 st5
  have Fw5 : Fld Z h5 a0 "com/example/heptapolis/heptapolis/duel/Score" "blue" "I" (.int p1) := I_blue.same W5
  have F7 : Exa Z h5 a0 "com/example/heptapolis/heptapolis/duel/Score" := E_a0.wr W5
  have F8 : Fld Z h5 a0 "com/example/heptapolis/heptapolis/duel/Score" "green" "I" (.int (0 : Int32)) := I_green.other W5 (Or.inr (slot_ne (Or.inr (hw _ (List.mem_of_getElem? (i := 18) rfl))) (Or.inr (hw _ (List.mem_of_getElem? (i := 16) rfl))) (by decide) (t := .int) (t' := .int) (by decide) (by decide)))
  have F9 : Fld Z h5 a0 "com/example/heptapolis/heptapolis/duel/Score" "yellow" "I" (.int (0 : Int32)) := I_yellow.other W5 (Or.inr (slot_ne (Or.inr (hw _ (List.mem_of_getElem? (i := 20) rfl))) (Or.inr (hw _ (List.mem_of_getElem? (i := 16) rfl))) (by decide) (t := .int) (t' := .int) (by decide) (by decide)))
  have F10 : Fld Z h5 a0 "com/example/heptapolis/heptapolis/duel/Score" "purple" "I" (.int (0 : Int32)) := I_purple.other W5 (Or.inr (slot_ne (Or.inr (hw _ (List.mem_of_getElem? (i := 22) rfl))) (Or.inr (hw _ (List.mem_of_getElem? (i := 16) rfl))) (by decide) (t := .int) (t' := .int) (by decide) (by decide)))
  have F11 : Fld Z h5 a0 "com/example/heptapolis/heptapolis/duel/Score" "wonders" "I" (.int (0 : Int32)) := I_wonders.other W5 (Or.inr (slot_ne (Or.inr (hw _ (List.mem_of_getElem? (i := 24) rfl))) (Or.inr (hw _ (List.mem_of_getElem? (i := 16) rfl))) (by decide) (t := .int) (t' := .int) (by decide) (by decide)))
  have F12 : Fld Z h5 a0 "com/example/heptapolis/heptapolis/duel/Score" "progress" "I" (.int (0 : Int32)) := I_progress.other W5 (Or.inr (slot_ne (Or.inr (hw _ (List.mem_of_getElem? (i := 26) rfl))) (Or.inr (hw _ (List.mem_of_getElem? (i := 16) rfl))) (by decide) (t := .int) (t' := .int) (by decide) (by decide)))
  have F13 : Fld Z h5 a0 "com/example/heptapolis/heptapolis/duel/Score" "coins" "I" (.int (0 : Int32)) := I_coins.other W5 (Or.inr (slot_ne (Or.inr (hw _ (List.mem_of_getElem? (i := 28) rfl))) (Or.inr (hw _ (List.mem_of_getElem? (i := 16) rfl))) (by decide) (t := .int) (t' := .int) (by decide) (by decide)))
  have F14 : Fld Z h5 a0 "com/example/heptapolis/heptapolis/duel/Score" "military" "I" (.int (0 : Int32)) := I_military.other W5 (Or.inr (slot_ne (Or.inr (hw _ (List.mem_of_getElem? (i := 30) rfl))) (Or.inr (hw _ (List.mem_of_getElem? (i := 16) rfl))) (by decide) (t := .int) (t' := .int) (by decide) (by decide)))
  have K5 : Keep h0 h5 [a0] := K0.wr W5 (Or.inl (List.mem_of_getElem? (i := 0) rfl))
  have N5 := Fr.snoc X5 N2 g_a0
  have Z5 : n0 ≤ h5.size := Nat.le_trans Z0 (Keep.of_wr W5).1
  have pre15 : ∀ t, Steps p.tables e below (T5.setTop (mkF m 11 #[.val (.ref a0), .val (.int p1), .val (.int p2), .val (.int p3), .val (.int p4), .val (.int p5), .val (.int p6), .val (.int p7), .val (.int p8)] [(.int p2), (.ref a0)])) t → Steps p.tables e below (s₁.setTop (entryFrame m #[(.ref a0), (.int p1), (.int p2), (.int p3), (.int p4), (.int p5), (.int p6), (.int p7), (.int p8)] 9)) t := fun t kt => pre6 t (by
    show Steps p.tables e below (T5.setTop (mkF m 9 #[.val (.ref a0), .val (.int p1), .val (.int p2), .val (.int p3), .val (.int p4), .val (.int p5), .val (.int p6), .val (.int p7), .val (.int p8)] [])) _
    refine XS.aloadN X5.here hx rfl (hb hby d1_9) rfl rfl ?_
    show Steps p.tables e below (T5.setTop (mkF m 10 #[.val (.ref a0), .val (.int p1), .val (.int p2), .val (.int p3), .val (.int p4), .val (.int p5), .val (.int p6), .val (.int p7), .val (.int p8)] [(.ref a0)])) _
    refine XS.iloadN X5.here hx rfl (hb hby d1_10) rfl ?_
    exact kt)
  clear pre6
  obtain ⟨T16, h16, X16, e16, W16, st16⟩ := putF X5 hx hZ hown (host := "") (Or.inl (hw _ (List.mem_of_getElem? (i := 17) rfl))) Via.refl e5 F8 F7 (Or.inr ⟨(hw _ (List.mem_of_getElem? (i := 18) rfl)), rfl, hnm⟩) (hw _ (List.mem_of_getElem? (i := 2) rfl)) (ty := .int) (by decide) rfl rfl (g := (mkF m 11 #[.val (.ref a0), .val (.int p1), .val (.int p2), .val (.int p3), .val (.int p4), .val (.int p5), .val (.int p6), .val (.int p7), .val (.int p8)] [(.int p2), (.ref a0)])) rfl rfl (hb hby d1_11)
  have pre17 : ∀ t, Steps p.tables e below (T16.setTop (mkF m 14 #[.val (.ref a0), .val (.int p1), .val (.int p2), .val (.int p3), .val (.int p4), .val (.int p5), .val (.int p6), .val (.int p7), .val (.int p8)] [])) t → Steps p.tables e below (s₁.setTop (entryFrame m #[(.ref a0), (.int p1), (.int p2), (.int p3), (.int p4), (.int p5), (.int p6), (.int p7), (.int p8)] 9)) t := fun t kt => pre15 t (st16 _ kt)
  clear pre15 st16
  have Fw16 : Fld Z h16 a0 "com/example/heptapolis/heptapolis/duel/Score" "green" "I" (.int p2) := F8.same W16
  have F18 : Exa Z h16 a0 "com/example/heptapolis/heptapolis/duel/Score" := F7.wr W16
  have F19 : Fld Z h16 a0 "com/example/heptapolis/heptapolis/duel/Score" "yellow" "I" (.int (0 : Int32)) := F9.other W16 (Or.inr (slot_ne (Or.inr (hw _ (List.mem_of_getElem? (i := 20) rfl))) (Or.inr (hw _ (List.mem_of_getElem? (i := 18) rfl))) (by decide) (t := .int) (t' := .int) (by decide) (by decide)))
  have F20 : Fld Z h16 a0 "com/example/heptapolis/heptapolis/duel/Score" "purple" "I" (.int (0 : Int32)) := F10.other W16 (Or.inr (slot_ne (Or.inr (hw _ (List.mem_of_getElem? (i := 22) rfl))) (Or.inr (hw _ (List.mem_of_getElem? (i := 18) rfl))) (by decide) (t := .int) (t' := .int) (by decide) (by decide)))
  have F21 : Fld Z h16 a0 "com/example/heptapolis/heptapolis/duel/Score" "wonders" "I" (.int (0 : Int32)) := F11.other W16 (Or.inr (slot_ne (Or.inr (hw _ (List.mem_of_getElem? (i := 24) rfl))) (Or.inr (hw _ (List.mem_of_getElem? (i := 18) rfl))) (by decide) (t := .int) (t' := .int) (by decide) (by decide)))
  have F22 : Fld Z h16 a0 "com/example/heptapolis/heptapolis/duel/Score" "progress" "I" (.int (0 : Int32)) := F12.other W16 (Or.inr (slot_ne (Or.inr (hw _ (List.mem_of_getElem? (i := 26) rfl))) (Or.inr (hw _ (List.mem_of_getElem? (i := 18) rfl))) (by decide) (t := .int) (t' := .int) (by decide) (by decide)))
  have F23 : Fld Z h16 a0 "com/example/heptapolis/heptapolis/duel/Score" "coins" "I" (.int (0 : Int32)) := F13.other W16 (Or.inr (slot_ne (Or.inr (hw _ (List.mem_of_getElem? (i := 28) rfl))) (Or.inr (hw _ (List.mem_of_getElem? (i := 18) rfl))) (by decide) (t := .int) (t' := .int) (by decide) (by decide)))
  have F24 : Fld Z h16 a0 "com/example/heptapolis/heptapolis/duel/Score" "military" "I" (.int (0 : Int32)) := F14.other W16 (Or.inr (slot_ne (Or.inr (hw _ (List.mem_of_getElem? (i := 30) rfl))) (Or.inr (hw _ (List.mem_of_getElem? (i := 18) rfl))) (by decide) (t := .int) (t' := .int) (by decide) (by decide)))
  have F25 : Fld Z h16 a0 "com/example/heptapolis/heptapolis/duel/Score" "blue" "I" (.int p1) := Fw5.other W16 (Or.inr (slot_ne (Or.inr (hw _ (List.mem_of_getElem? (i := 16) rfl))) (Or.inr (hw _ (List.mem_of_getElem? (i := 18) rfl))) (by decide) (t := .int) (t' := .int) (by decide) (by decide)))
  have K16 : Keep h0 h16 [a0] := K5.wr W16 (Or.inl (List.mem_of_getElem? (i := 0) rfl))
  have N16 := Fr.snoc X16 N5 g_a0
  have Z16 : n0 ≤ h16.size := Nat.le_trans Z5 (Keep.of_wr W16).1
  have pre26 : ∀ t, Steps p.tables e below (T16.setTop (mkF m 16 #[.val (.ref a0), .val (.int p1), .val (.int p2), .val (.int p3), .val (.int p4), .val (.int p5), .val (.int p6), .val (.int p7), .val (.int p8)] [(.int p3), (.ref a0)])) t → Steps p.tables e below (s₁.setTop (entryFrame m #[(.ref a0), (.int p1), (.int p2), (.int p3), (.int p4), (.int p5), (.int p6), (.int p7), (.int p8)] 9)) t := fun t kt => pre17 t (by
    show Steps p.tables e below (T16.setTop (mkF m 14 #[.val (.ref a0), .val (.int p1), .val (.int p2), .val (.int p3), .val (.int p4), .val (.int p5), .val (.int p6), .val (.int p7), .val (.int p8)] [])) _
    refine XS.aloadN X16.here hx rfl (hb hby d1_14) rfl rfl ?_
    show Steps p.tables e below (T16.setTop (mkF m 15 #[.val (.ref a0), .val (.int p1), .val (.int p2), .val (.int p3), .val (.int p4), .val (.int p5), .val (.int p6), .val (.int p7), .val (.int p8)] [(.ref a0)])) _
    refine XS.iloadN X16.here hx rfl (hb hby d1_15) rfl ?_
    exact kt)
  clear pre17
  obtain ⟨T27, h27, X27, e27, W27, st27⟩ := putF X16 hx hZ hown (host := "") (Or.inl (hw _ (List.mem_of_getElem? (i := 19) rfl))) Via.refl e16 F19 F18 (Or.inr ⟨(hw _ (List.mem_of_getElem? (i := 20) rfl)), rfl, hnm⟩) (hw _ (List.mem_of_getElem? (i := 2) rfl)) (ty := .int) (by decide) rfl rfl (g := (mkF m 16 #[.val (.ref a0), .val (.int p1), .val (.int p2), .val (.int p3), .val (.int p4), .val (.int p5), .val (.int p6), .val (.int p7), .val (.int p8)] [(.int p3), (.ref a0)])) rfl rfl (hb hby d1_16)
  have pre28 : ∀ t, Steps p.tables e below (T27.setTop (mkF m 19 #[.val (.ref a0), .val (.int p1), .val (.int p2), .val (.int p3), .val (.int p4), .val (.int p5), .val (.int p6), .val (.int p7), .val (.int p8)] [])) t → Steps p.tables e below (s₁.setTop (entryFrame m #[(.ref a0), (.int p1), (.int p2), (.int p3), (.int p4), (.int p5), (.int p6), (.int p7), (.int p8)] 9)) t := fun t kt => pre26 t (st27 _ kt)
  clear pre26 st27
  have Fw27 : Fld Z h27 a0 "com/example/heptapolis/heptapolis/duel/Score" "yellow" "I" (.int p3) := F19.same W27
  have F29 : Exa Z h27 a0 "com/example/heptapolis/heptapolis/duel/Score" := F18.wr W27
  have F30 : Fld Z h27 a0 "com/example/heptapolis/heptapolis/duel/Score" "purple" "I" (.int (0 : Int32)) := F20.other W27 (Or.inr (slot_ne (Or.inr (hw _ (List.mem_of_getElem? (i := 22) rfl))) (Or.inr (hw _ (List.mem_of_getElem? (i := 20) rfl))) (by decide) (t := .int) (t' := .int) (by decide) (by decide)))
  have F31 : Fld Z h27 a0 "com/example/heptapolis/heptapolis/duel/Score" "wonders" "I" (.int (0 : Int32)) := F21.other W27 (Or.inr (slot_ne (Or.inr (hw _ (List.mem_of_getElem? (i := 24) rfl))) (Or.inr (hw _ (List.mem_of_getElem? (i := 20) rfl))) (by decide) (t := .int) (t' := .int) (by decide) (by decide)))
  have F32 : Fld Z h27 a0 "com/example/heptapolis/heptapolis/duel/Score" "progress" "I" (.int (0 : Int32)) := F22.other W27 (Or.inr (slot_ne (Or.inr (hw _ (List.mem_of_getElem? (i := 26) rfl))) (Or.inr (hw _ (List.mem_of_getElem? (i := 20) rfl))) (by decide) (t := .int) (t' := .int) (by decide) (by decide)))
  have F33 : Fld Z h27 a0 "com/example/heptapolis/heptapolis/duel/Score" "coins" "I" (.int (0 : Int32)) := F23.other W27 (Or.inr (slot_ne (Or.inr (hw _ (List.mem_of_getElem? (i := 28) rfl))) (Or.inr (hw _ (List.mem_of_getElem? (i := 20) rfl))) (by decide) (t := .int) (t' := .int) (by decide) (by decide)))
  have F34 : Fld Z h27 a0 "com/example/heptapolis/heptapolis/duel/Score" "military" "I" (.int (0 : Int32)) := F24.other W27 (Or.inr (slot_ne (Or.inr (hw _ (List.mem_of_getElem? (i := 30) rfl))) (Or.inr (hw _ (List.mem_of_getElem? (i := 20) rfl))) (by decide) (t := .int) (t' := .int) (by decide) (by decide)))
  have F35 : Fld Z h27 a0 "com/example/heptapolis/heptapolis/duel/Score" "blue" "I" (.int p1) := F25.other W27 (Or.inr (slot_ne (Or.inr (hw _ (List.mem_of_getElem? (i := 16) rfl))) (Or.inr (hw _ (List.mem_of_getElem? (i := 20) rfl))) (by decide) (t := .int) (t' := .int) (by decide) (by decide)))
  have F36 : Fld Z h27 a0 "com/example/heptapolis/heptapolis/duel/Score" "green" "I" (.int p2) := Fw16.other W27 (Or.inr (slot_ne (Or.inr (hw _ (List.mem_of_getElem? (i := 18) rfl))) (Or.inr (hw _ (List.mem_of_getElem? (i := 20) rfl))) (by decide) (t := .int) (t' := .int) (by decide) (by decide)))
  have K27 : Keep h0 h27 [a0] := K16.wr W27 (Or.inl (List.mem_of_getElem? (i := 0) rfl))
  have N27 := Fr.snoc X27 N16 g_a0
  have Z27 : n0 ≤ h27.size := Nat.le_trans Z16 (Keep.of_wr W27).1
  have pre37 : ∀ t, Steps p.tables e below (T27.setTop (mkF m 22 #[.val (.ref a0), .val (.int p1), .val (.int p2), .val (.int p3), .val (.int p4), .val (.int p5), .val (.int p6), .val (.int p7), .val (.int p8)] [(.int p4), (.ref a0)])) t → Steps p.tables e below (s₁.setTop (entryFrame m #[(.ref a0), (.int p1), (.int p2), (.int p3), (.int p4), (.int p5), (.int p6), (.int p7), (.int p8)] 9)) t := fun t kt => pre28 t (by
    show Steps p.tables e below (T27.setTop (mkF m 19 #[.val (.ref a0), .val (.int p1), .val (.int p2), .val (.int p3), .val (.int p4), .val (.int p5), .val (.int p6), .val (.int p7), .val (.int p8)] [])) _
    refine XS.aloadN X27.here hx rfl (hb hby d1_19) rfl rfl ?_
    show Steps p.tables e below (T27.setTop (mkF m 20 #[.val (.ref a0), .val (.int p1), .val (.int p2), .val (.int p3), .val (.int p4), .val (.int p5), .val (.int p6), .val (.int p7), .val (.int p8)] [(.ref a0)])) _
    refine XS.iload X27.here hx rfl (hb hby d1_20) rfl ?_
    exact kt)
  clear pre28
  obtain ⟨T38, h38, X38, e38, W38, st38⟩ := putF X27 hx hZ hown (host := "") (Or.inl (hw _ (List.mem_of_getElem? (i := 21) rfl))) Via.refl e27 F30 F29 (Or.inr ⟨(hw _ (List.mem_of_getElem? (i := 22) rfl)), rfl, hnm⟩) (hw _ (List.mem_of_getElem? (i := 2) rfl)) (ty := .int) (by decide) rfl rfl (g := (mkF m 22 #[.val (.ref a0), .val (.int p1), .val (.int p2), .val (.int p3), .val (.int p4), .val (.int p5), .val (.int p6), .val (.int p7), .val (.int p8)] [(.int p4), (.ref a0)])) rfl rfl (hb hby d1_22)
  have pre39 : ∀ t, Steps p.tables e below (T38.setTop (mkF m 25 #[.val (.ref a0), .val (.int p1), .val (.int p2), .val (.int p3), .val (.int p4), .val (.int p5), .val (.int p6), .val (.int p7), .val (.int p8)] [])) t → Steps p.tables e below (s₁.setTop (entryFrame m #[(.ref a0), (.int p1), (.int p2), (.int p3), (.int p4), (.int p5), (.int p6), (.int p7), (.int p8)] 9)) t := fun t kt => pre37 t (st38 _ kt)
  clear pre37 st38
  have Fw38 : Fld Z h38 a0 "com/example/heptapolis/heptapolis/duel/Score" "purple" "I" (.int p4) := F30.same W38
  have F40 : Exa Z h38 a0 "com/example/heptapolis/heptapolis/duel/Score" := F29.wr W38
  have F41 : Fld Z h38 a0 "com/example/heptapolis/heptapolis/duel/Score" "wonders" "I" (.int (0 : Int32)) := F31.other W38 (Or.inr (slot_ne (Or.inr (hw _ (List.mem_of_getElem? (i := 24) rfl))) (Or.inr (hw _ (List.mem_of_getElem? (i := 22) rfl))) (by decide) (t := .int) (t' := .int) (by decide) (by decide)))
  have F42 : Fld Z h38 a0 "com/example/heptapolis/heptapolis/duel/Score" "progress" "I" (.int (0 : Int32)) := F32.other W38 (Or.inr (slot_ne (Or.inr (hw _ (List.mem_of_getElem? (i := 26) rfl))) (Or.inr (hw _ (List.mem_of_getElem? (i := 22) rfl))) (by decide) (t := .int) (t' := .int) (by decide) (by decide)))
  have F43 : Fld Z h38 a0 "com/example/heptapolis/heptapolis/duel/Score" "coins" "I" (.int (0 : Int32)) := F33.other W38 (Or.inr (slot_ne (Or.inr (hw _ (List.mem_of_getElem? (i := 28) rfl))) (Or.inr (hw _ (List.mem_of_getElem? (i := 22) rfl))) (by decide) (t := .int) (t' := .int) (by decide) (by decide)))
  have F44 : Fld Z h38 a0 "com/example/heptapolis/heptapolis/duel/Score" "military" "I" (.int (0 : Int32)) := F34.other W38 (Or.inr (slot_ne (Or.inr (hw _ (List.mem_of_getElem? (i := 30) rfl))) (Or.inr (hw _ (List.mem_of_getElem? (i := 22) rfl))) (by decide) (t := .int) (t' := .int) (by decide) (by decide)))
  have F45 : Fld Z h38 a0 "com/example/heptapolis/heptapolis/duel/Score" "blue" "I" (.int p1) := F35.other W38 (Or.inr (slot_ne (Or.inr (hw _ (List.mem_of_getElem? (i := 16) rfl))) (Or.inr (hw _ (List.mem_of_getElem? (i := 22) rfl))) (by decide) (t := .int) (t' := .int) (by decide) (by decide)))
  have F46 : Fld Z h38 a0 "com/example/heptapolis/heptapolis/duel/Score" "green" "I" (.int p2) := F36.other W38 (Or.inr (slot_ne (Or.inr (hw _ (List.mem_of_getElem? (i := 18) rfl))) (Or.inr (hw _ (List.mem_of_getElem? (i := 22) rfl))) (by decide) (t := .int) (t' := .int) (by decide) (by decide)))
  have F47 : Fld Z h38 a0 "com/example/heptapolis/heptapolis/duel/Score" "yellow" "I" (.int p3) := Fw27.other W38 (Or.inr (slot_ne (Or.inr (hw _ (List.mem_of_getElem? (i := 20) rfl))) (Or.inr (hw _ (List.mem_of_getElem? (i := 22) rfl))) (by decide) (t := .int) (t' := .int) (by decide) (by decide)))
  have K38 : Keep h0 h38 [a0] := K27.wr W38 (Or.inl (List.mem_of_getElem? (i := 0) rfl))
  have N38 := Fr.snoc X38 N27 g_a0
  have Z38 : n0 ≤ h38.size := Nat.le_trans Z27 (Keep.of_wr W38).1
  have pre48 : ∀ t, Steps p.tables e below (T38.setTop (mkF m 28 #[.val (.ref a0), .val (.int p1), .val (.int p2), .val (.int p3), .val (.int p4), .val (.int p5), .val (.int p6), .val (.int p7), .val (.int p8)] [(.int p5), (.ref a0)])) t → Steps p.tables e below (s₁.setTop (entryFrame m #[(.ref a0), (.int p1), (.int p2), (.int p3), (.int p4), (.int p5), (.int p6), (.int p7), (.int p8)] 9)) t := fun t kt => pre39 t (by
    show Steps p.tables e below (T38.setTop (mkF m 25 #[.val (.ref a0), .val (.int p1), .val (.int p2), .val (.int p3), .val (.int p4), .val (.int p5), .val (.int p6), .val (.int p7), .val (.int p8)] [])) _
    refine XS.aloadN X38.here hx rfl (hb hby d1_25) rfl rfl ?_
    show Steps p.tables e below (T38.setTop (mkF m 26 #[.val (.ref a0), .val (.int p1), .val (.int p2), .val (.int p3), .val (.int p4), .val (.int p5), .val (.int p6), .val (.int p7), .val (.int p8)] [(.ref a0)])) _
    refine XS.iload X38.here hx rfl (hb hby d1_26) rfl ?_
    exact kt)
  clear pre39
  obtain ⟨T49, h49, X49, e49, W49, st49⟩ := putF X38 hx hZ hown (host := "") (Or.inl (hw _ (List.mem_of_getElem? (i := 23) rfl))) Via.refl e38 F41 F40 (Or.inr ⟨(hw _ (List.mem_of_getElem? (i := 24) rfl)), rfl, hnm⟩) (hw _ (List.mem_of_getElem? (i := 2) rfl)) (ty := .int) (by decide) rfl rfl (g := (mkF m 28 #[.val (.ref a0), .val (.int p1), .val (.int p2), .val (.int p3), .val (.int p4), .val (.int p5), .val (.int p6), .val (.int p7), .val (.int p8)] [(.int p5), (.ref a0)])) rfl rfl (hb hby d1_28)
  have pre50 : ∀ t, Steps p.tables e below (T49.setTop (mkF m 31 #[.val (.ref a0), .val (.int p1), .val (.int p2), .val (.int p3), .val (.int p4), .val (.int p5), .val (.int p6), .val (.int p7), .val (.int p8)] [])) t → Steps p.tables e below (s₁.setTop (entryFrame m #[(.ref a0), (.int p1), (.int p2), (.int p3), (.int p4), (.int p5), (.int p6), (.int p7), (.int p8)] 9)) t := fun t kt => pre48 t (st49 _ kt)
  clear pre48 st49
  have Fw49 : Fld Z h49 a0 "com/example/heptapolis/heptapolis/duel/Score" "wonders" "I" (.int p5) := F41.same W49
  have F51 : Exa Z h49 a0 "com/example/heptapolis/heptapolis/duel/Score" := F40.wr W49
  have F52 : Fld Z h49 a0 "com/example/heptapolis/heptapolis/duel/Score" "progress" "I" (.int (0 : Int32)) := F42.other W49 (Or.inr (slot_ne (Or.inr (hw _ (List.mem_of_getElem? (i := 26) rfl))) (Or.inr (hw _ (List.mem_of_getElem? (i := 24) rfl))) (by decide) (t := .int) (t' := .int) (by decide) (by decide)))
  have F53 : Fld Z h49 a0 "com/example/heptapolis/heptapolis/duel/Score" "coins" "I" (.int (0 : Int32)) := F43.other W49 (Or.inr (slot_ne (Or.inr (hw _ (List.mem_of_getElem? (i := 28) rfl))) (Or.inr (hw _ (List.mem_of_getElem? (i := 24) rfl))) (by decide) (t := .int) (t' := .int) (by decide) (by decide)))
  have F54 : Fld Z h49 a0 "com/example/heptapolis/heptapolis/duel/Score" "military" "I" (.int (0 : Int32)) := F44.other W49 (Or.inr (slot_ne (Or.inr (hw _ (List.mem_of_getElem? (i := 30) rfl))) (Or.inr (hw _ (List.mem_of_getElem? (i := 24) rfl))) (by decide) (t := .int) (t' := .int) (by decide) (by decide)))
  have F55 : Fld Z h49 a0 "com/example/heptapolis/heptapolis/duel/Score" "blue" "I" (.int p1) := F45.other W49 (Or.inr (slot_ne (Or.inr (hw _ (List.mem_of_getElem? (i := 16) rfl))) (Or.inr (hw _ (List.mem_of_getElem? (i := 24) rfl))) (by decide) (t := .int) (t' := .int) (by decide) (by decide)))
  have F56 : Fld Z h49 a0 "com/example/heptapolis/heptapolis/duel/Score" "green" "I" (.int p2) := F46.other W49 (Or.inr (slot_ne (Or.inr (hw _ (List.mem_of_getElem? (i := 18) rfl))) (Or.inr (hw _ (List.mem_of_getElem? (i := 24) rfl))) (by decide) (t := .int) (t' := .int) (by decide) (by decide)))
  have F57 : Fld Z h49 a0 "com/example/heptapolis/heptapolis/duel/Score" "yellow" "I" (.int p3) := F47.other W49 (Or.inr (slot_ne (Or.inr (hw _ (List.mem_of_getElem? (i := 20) rfl))) (Or.inr (hw _ (List.mem_of_getElem? (i := 24) rfl))) (by decide) (t := .int) (t' := .int) (by decide) (by decide)))
  have F58 : Fld Z h49 a0 "com/example/heptapolis/heptapolis/duel/Score" "purple" "I" (.int p4) := Fw38.other W49 (Or.inr (slot_ne (Or.inr (hw _ (List.mem_of_getElem? (i := 22) rfl))) (Or.inr (hw _ (List.mem_of_getElem? (i := 24) rfl))) (by decide) (t := .int) (t' := .int) (by decide) (by decide)))
  have K49 : Keep h0 h49 [a0] := K38.wr W49 (Or.inl (List.mem_of_getElem? (i := 0) rfl))
  have N49 := Fr.snoc X49 N38 g_a0
  have Z49 : n0 ≤ h49.size := Nat.le_trans Z38 (Keep.of_wr W49).1
  have pre59 : ∀ t, Steps p.tables e below (T49.setTop (mkF m 34 #[.val (.ref a0), .val (.int p1), .val (.int p2), .val (.int p3), .val (.int p4), .val (.int p5), .val (.int p6), .val (.int p7), .val (.int p8)] [(.int p6), (.ref a0)])) t → Steps p.tables e below (s₁.setTop (entryFrame m #[(.ref a0), (.int p1), (.int p2), (.int p3), (.int p4), (.int p5), (.int p6), (.int p7), (.int p8)] 9)) t := fun t kt => pre50 t (by
    show Steps p.tables e below (T49.setTop (mkF m 31 #[.val (.ref a0), .val (.int p1), .val (.int p2), .val (.int p3), .val (.int p4), .val (.int p5), .val (.int p6), .val (.int p7), .val (.int p8)] [])) _
    refine XS.aloadN X49.here hx rfl (hb hby d1_31) rfl rfl ?_
    show Steps p.tables e below (T49.setTop (mkF m 32 #[.val (.ref a0), .val (.int p1), .val (.int p2), .val (.int p3), .val (.int p4), .val (.int p5), .val (.int p6), .val (.int p7), .val (.int p8)] [(.ref a0)])) _
    refine XS.iload X49.here hx rfl (hb hby d1_32) rfl ?_
    exact kt)
  clear pre50
  obtain ⟨T60, h60, X60, e60, W60, st60⟩ := putF X49 hx hZ hown (host := "") (Or.inl (hw _ (List.mem_of_getElem? (i := 25) rfl))) Via.refl e49 F52 F51 (Or.inr ⟨(hw _ (List.mem_of_getElem? (i := 26) rfl)), rfl, hnm⟩) (hw _ (List.mem_of_getElem? (i := 2) rfl)) (ty := .int) (by decide) rfl rfl (g := (mkF m 34 #[.val (.ref a0), .val (.int p1), .val (.int p2), .val (.int p3), .val (.int p4), .val (.int p5), .val (.int p6), .val (.int p7), .val (.int p8)] [(.int p6), (.ref a0)])) rfl rfl (hb hby d1_34)
  have pre61 : ∀ t, Steps p.tables e below (T60.setTop (mkF m 37 #[.val (.ref a0), .val (.int p1), .val (.int p2), .val (.int p3), .val (.int p4), .val (.int p5), .val (.int p6), .val (.int p7), .val (.int p8)] [])) t → Steps p.tables e below (s₁.setTop (entryFrame m #[(.ref a0), (.int p1), (.int p2), (.int p3), (.int p4), (.int p5), (.int p6), (.int p7), (.int p8)] 9)) t := fun t kt => pre59 t (st60 _ kt)
  clear pre59 st60
  have Fw60 : Fld Z h60 a0 "com/example/heptapolis/heptapolis/duel/Score" "progress" "I" (.int p6) := F52.same W60
  have F62 : Exa Z h60 a0 "com/example/heptapolis/heptapolis/duel/Score" := F51.wr W60
  have F63 : Fld Z h60 a0 "com/example/heptapolis/heptapolis/duel/Score" "coins" "I" (.int (0 : Int32)) := F53.other W60 (Or.inr (slot_ne (Or.inr (hw _ (List.mem_of_getElem? (i := 28) rfl))) (Or.inr (hw _ (List.mem_of_getElem? (i := 26) rfl))) (by decide) (t := .int) (t' := .int) (by decide) (by decide)))
  have F64 : Fld Z h60 a0 "com/example/heptapolis/heptapolis/duel/Score" "military" "I" (.int (0 : Int32)) := F54.other W60 (Or.inr (slot_ne (Or.inr (hw _ (List.mem_of_getElem? (i := 30) rfl))) (Or.inr (hw _ (List.mem_of_getElem? (i := 26) rfl))) (by decide) (t := .int) (t' := .int) (by decide) (by decide)))
  have F65 : Fld Z h60 a0 "com/example/heptapolis/heptapolis/duel/Score" "blue" "I" (.int p1) := F55.other W60 (Or.inr (slot_ne (Or.inr (hw _ (List.mem_of_getElem? (i := 16) rfl))) (Or.inr (hw _ (List.mem_of_getElem? (i := 26) rfl))) (by decide) (t := .int) (t' := .int) (by decide) (by decide)))
  have F66 : Fld Z h60 a0 "com/example/heptapolis/heptapolis/duel/Score" "green" "I" (.int p2) := F56.other W60 (Or.inr (slot_ne (Or.inr (hw _ (List.mem_of_getElem? (i := 18) rfl))) (Or.inr (hw _ (List.mem_of_getElem? (i := 26) rfl))) (by decide) (t := .int) (t' := .int) (by decide) (by decide)))
  have F67 : Fld Z h60 a0 "com/example/heptapolis/heptapolis/duel/Score" "yellow" "I" (.int p3) := F57.other W60 (Or.inr (slot_ne (Or.inr (hw _ (List.mem_of_getElem? (i := 20) rfl))) (Or.inr (hw _ (List.mem_of_getElem? (i := 26) rfl))) (by decide) (t := .int) (t' := .int) (by decide) (by decide)))
  have F68 : Fld Z h60 a0 "com/example/heptapolis/heptapolis/duel/Score" "purple" "I" (.int p4) := F58.other W60 (Or.inr (slot_ne (Or.inr (hw _ (List.mem_of_getElem? (i := 22) rfl))) (Or.inr (hw _ (List.mem_of_getElem? (i := 26) rfl))) (by decide) (t := .int) (t' := .int) (by decide) (by decide)))
  have F69 : Fld Z h60 a0 "com/example/heptapolis/heptapolis/duel/Score" "wonders" "I" (.int p5) := Fw49.other W60 (Or.inr (slot_ne (Or.inr (hw _ (List.mem_of_getElem? (i := 24) rfl))) (Or.inr (hw _ (List.mem_of_getElem? (i := 26) rfl))) (by decide) (t := .int) (t' := .int) (by decide) (by decide)))
  have K60 : Keep h0 h60 [a0] := K49.wr W60 (Or.inl (List.mem_of_getElem? (i := 0) rfl))
  have N60 := Fr.snoc X60 N49 g_a0
  have Z60 : n0 ≤ h60.size := Nat.le_trans Z49 (Keep.of_wr W60).1
  have pre70 : ∀ t, Steps p.tables e below (T60.setTop (mkF m 40 #[.val (.ref a0), .val (.int p1), .val (.int p2), .val (.int p3), .val (.int p4), .val (.int p5), .val (.int p6), .val (.int p7), .val (.int p8)] [(.int p7), (.ref a0)])) t → Steps p.tables e below (s₁.setTop (entryFrame m #[(.ref a0), (.int p1), (.int p2), (.int p3), (.int p4), (.int p5), (.int p6), (.int p7), (.int p8)] 9)) t := fun t kt => pre61 t (by
    show Steps p.tables e below (T60.setTop (mkF m 37 #[.val (.ref a0), .val (.int p1), .val (.int p2), .val (.int p3), .val (.int p4), .val (.int p5), .val (.int p6), .val (.int p7), .val (.int p8)] [])) _
    refine XS.aloadN X60.here hx rfl (hb hby d1_37) rfl rfl ?_
    show Steps p.tables e below (T60.setTop (mkF m 38 #[.val (.ref a0), .val (.int p1), .val (.int p2), .val (.int p3), .val (.int p4), .val (.int p5), .val (.int p6), .val (.int p7), .val (.int p8)] [(.ref a0)])) _
    refine XS.iload X60.here hx rfl (hb hby d1_38) rfl ?_
    exact kt)
  clear pre61
  obtain ⟨T71, h71, X71, e71, W71, st71⟩ := putF X60 hx hZ hown (host := "") (Or.inl (hw _ (List.mem_of_getElem? (i := 27) rfl))) Via.refl e60 F63 F62 (Or.inr ⟨(hw _ (List.mem_of_getElem? (i := 28) rfl)), rfl, hnm⟩) (hw _ (List.mem_of_getElem? (i := 2) rfl)) (ty := .int) (by decide) rfl rfl (g := (mkF m 40 #[.val (.ref a0), .val (.int p1), .val (.int p2), .val (.int p3), .val (.int p4), .val (.int p5), .val (.int p6), .val (.int p7), .val (.int p8)] [(.int p7), (.ref a0)])) rfl rfl (hb hby d1_40)
  have pre72 : ∀ t, Steps p.tables e below (T71.setTop (mkF m 43 #[.val (.ref a0), .val (.int p1), .val (.int p2), .val (.int p3), .val (.int p4), .val (.int p5), .val (.int p6), .val (.int p7), .val (.int p8)] [])) t → Steps p.tables e below (s₁.setTop (entryFrame m #[(.ref a0), (.int p1), (.int p2), (.int p3), (.int p4), (.int p5), (.int p6), (.int p7), (.int p8)] 9)) t := fun t kt => pre70 t (st71 _ kt)
  clear pre70 st71
  have Fw71 : Fld Z h71 a0 "com/example/heptapolis/heptapolis/duel/Score" "coins" "I" (.int p7) := F63.same W71
  have F73 : Exa Z h71 a0 "com/example/heptapolis/heptapolis/duel/Score" := F62.wr W71
  have F74 : Fld Z h71 a0 "com/example/heptapolis/heptapolis/duel/Score" "military" "I" (.int (0 : Int32)) := F64.other W71 (Or.inr (slot_ne (Or.inr (hw _ (List.mem_of_getElem? (i := 30) rfl))) (Or.inr (hw _ (List.mem_of_getElem? (i := 28) rfl))) (by decide) (t := .int) (t' := .int) (by decide) (by decide)))
  have F75 : Fld Z h71 a0 "com/example/heptapolis/heptapolis/duel/Score" "blue" "I" (.int p1) := F65.other W71 (Or.inr (slot_ne (Or.inr (hw _ (List.mem_of_getElem? (i := 16) rfl))) (Or.inr (hw _ (List.mem_of_getElem? (i := 28) rfl))) (by decide) (t := .int) (t' := .int) (by decide) (by decide)))
  have F76 : Fld Z h71 a0 "com/example/heptapolis/heptapolis/duel/Score" "green" "I" (.int p2) := F66.other W71 (Or.inr (slot_ne (Or.inr (hw _ (List.mem_of_getElem? (i := 18) rfl))) (Or.inr (hw _ (List.mem_of_getElem? (i := 28) rfl))) (by decide) (t := .int) (t' := .int) (by decide) (by decide)))
  have F77 : Fld Z h71 a0 "com/example/heptapolis/heptapolis/duel/Score" "yellow" "I" (.int p3) := F67.other W71 (Or.inr (slot_ne (Or.inr (hw _ (List.mem_of_getElem? (i := 20) rfl))) (Or.inr (hw _ (List.mem_of_getElem? (i := 28) rfl))) (by decide) (t := .int) (t' := .int) (by decide) (by decide)))
  have F78 : Fld Z h71 a0 "com/example/heptapolis/heptapolis/duel/Score" "purple" "I" (.int p4) := F68.other W71 (Or.inr (slot_ne (Or.inr (hw _ (List.mem_of_getElem? (i := 22) rfl))) (Or.inr (hw _ (List.mem_of_getElem? (i := 28) rfl))) (by decide) (t := .int) (t' := .int) (by decide) (by decide)))
  have F79 : Fld Z h71 a0 "com/example/heptapolis/heptapolis/duel/Score" "wonders" "I" (.int p5) := F69.other W71 (Or.inr (slot_ne (Or.inr (hw _ (List.mem_of_getElem? (i := 24) rfl))) (Or.inr (hw _ (List.mem_of_getElem? (i := 28) rfl))) (by decide) (t := .int) (t' := .int) (by decide) (by decide)))
  have F80 : Fld Z h71 a0 "com/example/heptapolis/heptapolis/duel/Score" "progress" "I" (.int p6) := Fw60.other W71 (Or.inr (slot_ne (Or.inr (hw _ (List.mem_of_getElem? (i := 26) rfl))) (Or.inr (hw _ (List.mem_of_getElem? (i := 28) rfl))) (by decide) (t := .int) (t' := .int) (by decide) (by decide)))
  have K71 : Keep h0 h71 [a0] := K60.wr W71 (Or.inl (List.mem_of_getElem? (i := 0) rfl))
  have N71 := Fr.snoc X71 N60 g_a0
  have Z71 : n0 ≤ h71.size := Nat.le_trans Z60 (Keep.of_wr W71).1
  have pre81 : ∀ t, Steps p.tables e below (T71.setTop (mkF m 46 #[.val (.ref a0), .val (.int p1), .val (.int p2), .val (.int p3), .val (.int p4), .val (.int p5), .val (.int p6), .val (.int p7), .val (.int p8)] [(.int p8), (.ref a0)])) t → Steps p.tables e below (s₁.setTop (entryFrame m #[(.ref a0), (.int p1), (.int p2), (.int p3), (.int p4), (.int p5), (.int p6), (.int p7), (.int p8)] 9)) t := fun t kt => pre72 t (by
    show Steps p.tables e below (T71.setTop (mkF m 43 #[.val (.ref a0), .val (.int p1), .val (.int p2), .val (.int p3), .val (.int p4), .val (.int p5), .val (.int p6), .val (.int p7), .val (.int p8)] [])) _
    refine XS.aloadN X71.here hx rfl (hb hby d1_43) rfl rfl ?_
    show Steps p.tables e below (T71.setTop (mkF m 44 #[.val (.ref a0), .val (.int p1), .val (.int p2), .val (.int p3), .val (.int p4), .val (.int p5), .val (.int p6), .val (.int p7), .val (.int p8)] [(.ref a0)])) _
    refine XS.iload X71.here hx rfl (hb hby d1_44) rfl ?_
    exact kt)
  clear pre72
  obtain ⟨T82, h82, X82, e82, W82, st82⟩ := putF X71 hx hZ hown (host := "") (Or.inl (hw _ (List.mem_of_getElem? (i := 29) rfl))) Via.refl e71 F74 F73 (Or.inr ⟨(hw _ (List.mem_of_getElem? (i := 30) rfl)), rfl, hnm⟩) (hw _ (List.mem_of_getElem? (i := 2) rfl)) (ty := .int) (by decide) rfl rfl (g := (mkF m 46 #[.val (.ref a0), .val (.int p1), .val (.int p2), .val (.int p3), .val (.int p4), .val (.int p5), .val (.int p6), .val (.int p7), .val (.int p8)] [(.int p8), (.ref a0)])) rfl rfl (hb hby d1_46)
  have pre83 : ∀ t, Steps p.tables e below (T82.setTop (mkF m 49 #[.val (.ref a0), .val (.int p1), .val (.int p2), .val (.int p3), .val (.int p4), .val (.int p5), .val (.int p6), .val (.int p7), .val (.int p8)] [])) t → Steps p.tables e below (s₁.setTop (entryFrame m #[(.ref a0), (.int p1), (.int p2), (.int p3), (.int p4), (.int p5), (.int p6), (.int p7), (.int p8)] 9)) t := fun t kt => pre81 t (st82 _ kt)
  clear pre81 st82
  have Fw82 : Fld Z h82 a0 "com/example/heptapolis/heptapolis/duel/Score" "military" "I" (.int p8) := F74.same W82
  have F84 : Exa Z h82 a0 "com/example/heptapolis/heptapolis/duel/Score" := F73.wr W82
  have F85 : Fld Z h82 a0 "com/example/heptapolis/heptapolis/duel/Score" "blue" "I" (.int p1) := F75.other W82 (Or.inr (slot_ne (Or.inr (hw _ (List.mem_of_getElem? (i := 16) rfl))) (Or.inr (hw _ (List.mem_of_getElem? (i := 30) rfl))) (by decide) (t := .int) (t' := .int) (by decide) (by decide)))
  have F86 : Fld Z h82 a0 "com/example/heptapolis/heptapolis/duel/Score" "green" "I" (.int p2) := F76.other W82 (Or.inr (slot_ne (Or.inr (hw _ (List.mem_of_getElem? (i := 18) rfl))) (Or.inr (hw _ (List.mem_of_getElem? (i := 30) rfl))) (by decide) (t := .int) (t' := .int) (by decide) (by decide)))
  have F87 : Fld Z h82 a0 "com/example/heptapolis/heptapolis/duel/Score" "yellow" "I" (.int p3) := F77.other W82 (Or.inr (slot_ne (Or.inr (hw _ (List.mem_of_getElem? (i := 20) rfl))) (Or.inr (hw _ (List.mem_of_getElem? (i := 30) rfl))) (by decide) (t := .int) (t' := .int) (by decide) (by decide)))
  have F88 : Fld Z h82 a0 "com/example/heptapolis/heptapolis/duel/Score" "purple" "I" (.int p4) := F78.other W82 (Or.inr (slot_ne (Or.inr (hw _ (List.mem_of_getElem? (i := 22) rfl))) (Or.inr (hw _ (List.mem_of_getElem? (i := 30) rfl))) (by decide) (t := .int) (t' := .int) (by decide) (by decide)))
  have F89 : Fld Z h82 a0 "com/example/heptapolis/heptapolis/duel/Score" "wonders" "I" (.int p5) := F79.other W82 (Or.inr (slot_ne (Or.inr (hw _ (List.mem_of_getElem? (i := 24) rfl))) (Or.inr (hw _ (List.mem_of_getElem? (i := 30) rfl))) (by decide) (t := .int) (t' := .int) (by decide) (by decide)))
  have F90 : Fld Z h82 a0 "com/example/heptapolis/heptapolis/duel/Score" "progress" "I" (.int p6) := F80.other W82 (Or.inr (slot_ne (Or.inr (hw _ (List.mem_of_getElem? (i := 26) rfl))) (Or.inr (hw _ (List.mem_of_getElem? (i := 30) rfl))) (by decide) (t := .int) (t' := .int) (by decide) (by decide)))
  have F91 : Fld Z h82 a0 "com/example/heptapolis/heptapolis/duel/Score" "coins" "I" (.int p7) := Fw71.other W82 (Or.inr (slot_ne (Or.inr (hw _ (List.mem_of_getElem? (i := 28) rfl))) (Or.inr (hw _ (List.mem_of_getElem? (i := 30) rfl))) (by decide) (t := .int) (t' := .int) (by decide) (by decide)))
  have K82 : Keep h0 h82 [a0] := K71.wr W82 (Or.inl (List.mem_of_getElem? (i := 0) rfl))
  have N82 := Fr.snoc X82 N71 g_a0
  have Z82 : n0 ≤ h82.size := Nat.le_trans Z71 (Keep.of_wr W82).1
  obtain ⟨fs, hr, hrun, hended, hW, hsame⟩ := X82.leave (v := none) (fun _ => rfl)
  refine ⟨_, _, pre83 _ ?_, hrun, hended, _, _, rfl, ?_, ⟨_, rfl⟩, hW, hsame.mono (by decide) (by decide)⟩
  · show Steps p.tables e below (T82.setTop (mkF m 49 #[.val (.ref a0), .val (.int p1), .val (.int p2), .val (.int p3), .val (.int p4), .val (.int p5), .val (.int p6), .val (.int p7), .val (.int p8)] [])) _
    exact X82.returnOut hx Bd.returns (hb hby d1_49) hr
  · show Q1 Z a0 p1 p2 p3 p4 p5 p6 p7 p8 h0 n0 _ T82.heap _
    rw [e82]
    exact ⟨rfl, N82, K82, F84, F85, F86, F87, F88, F89, F90, F91, Fw82⟩
theorem d5_0 : decode prog_93_method_4_code 0 = .ok (.aload_n 0, 1) := by decide +kernel
theorem d5_1 : decode prog_93_method_4_code 1 = .ok (.getfield 7, 3) := by decide +kernel
theorem d5_4 : decode prog_93_method_4_code 4 = .ok (.aload_n 0, 1) := by decide +kernel
theorem d5_5 : decode prog_93_method_4_code 5 = .ok (.getfield 13, 3) := by decide +kernel
theorem d5_8 : decode prog_93_method_4_code 8 = .ok (.iadd, 1) := by decide +kernel
theorem d5_9 : decode prog_93_method_4_code 9 = .ok (.aload_n 0, 1) := by decide +kernel
theorem d5_10 : decode prog_93_method_4_code 10 = .ok (.getfield 16, 3) := by decide +kernel
theorem d5_13 : decode prog_93_method_4_code 13 = .ok (.iadd, 1) := by decide +kernel
theorem d5_14 : decode prog_93_method_4_code 14 = .ok (.aload_n 0, 1) := by decide +kernel
theorem d5_15 : decode prog_93_method_4_code 15 = .ok (.getfield 19, 3) := by decide +kernel
theorem d5_18 : decode prog_93_method_4_code 18 = .ok (.iadd, 1) := by decide +kernel
theorem d5_19 : decode prog_93_method_4_code 19 = .ok (.aload_n 0, 1) := by decide +kernel
theorem d5_20 : decode prog_93_method_4_code 20 = .ok (.getfield 22, 3) := by decide +kernel
theorem d5_23 : decode prog_93_method_4_code 23 = .ok (.iadd, 1) := by decide +kernel
theorem d5_24 : decode prog_93_method_4_code 24 = .ok (.aload_n 0, 1) := by decide +kernel
theorem d5_25 : decode prog_93_method_4_code 25 = .ok (.getfield 25, 3) := by decide +kernel
theorem d5_28 : decode prog_93_method_4_code 28 = .ok (.iadd, 1) := by decide +kernel
theorem d5_29 : decode prog_93_method_4_code 29 = .ok (.aload_n 0, 1) := by decide +kernel
theorem d5_30 : decode prog_93_method_4_code 30 = .ok (.getfield 28, 3) := by decide +kernel
theorem d5_33 : decode prog_93_method_4_code 33 = .ok (.iadd, 1) := by decide +kernel
theorem d5_34 : decode prog_93_method_4_code 34 = .ok (.aload_n 0, 1) := by decide +kernel
theorem d5_35 : decode prog_93_method_4_code 35 = .ok (.getfield 31, 3) := by decide +kernel
theorem d5_38 : decode prog_93_method_4_code 38 = .ok (.iadd, 1) := by decide +kernel
theorem d5_39 : decode prog_93_method_4_code 39 = .ok (.ireturn, 1) := by decide +kernel
theorem ef5 (m : MethodId) (x0 : Addr) : entryFrame m #[(.ref x0)] 1 = mkF m 0 #[.val (.ref x0)] [] := by first | (simp [entryFrame, mkF, argsToLocals, Value.category]; done) | rfl
def f_total (w_blue : Int32) (w_green : Int32) (w_yellow : Int32) (w_purple : Int32) (w_wonders : Int32) (w_progress : Int32) (w_coins : Int32) (w_military : Int32) : Int32 :=
  (((((((w_blue + w_green) + w_yellow) + w_purple) + w_wonders) + w_progress) + w_coins) + w_military)
def Q5 (Z : State) (a0 : Addr) (w_blue : Int32) (w_green : Int32) (w_yellow : Int32) (w_purple : Int32) (w_wonders : Int32) (w_progress : Int32) (w_coins : Int32) (w_military : Int32) (h0 : Heap) (n0 : Nat) (v : Option Value) (h : Heap) (L : List Loc) : Prop := v = some (.int (f_total w_blue w_green w_yellow w_purple w_wonders w_progress w_coins w_military)) ∧ Fr n0 L ∧ h = h0
set_option maxRecDepth 65536 in
set_option maxHeartbeats 40000000 in
theorem rm5 (l : Launch) (Z : State) (av : Array Value) (hw : ∀ d ∈ tables_1, d.before av Z = true) (ws : List Jvm.Cond) (a0 : Addr) (w_blue : Int32) (w_green : Int32) (w_yellow : Int32) (w_purple : Int32) (w_wonders : Int32) (w_progress : Int32) (w_coins : Int32) (w_military : Int32) (h0 : Heap) (n0 : Nat) (Z0 : n0 ≤ h0.size) (F_blue : Fld Z h0 a0 "com/example/heptapolis/heptapolis/duel/Score" "blue" "I" (.int w_blue)) (F_green : Fld Z h0 a0 "com/example/heptapolis/heptapolis/duel/Score" "green" "I" (.int w_green)) (F_yellow : Fld Z h0 a0 "com/example/heptapolis/heptapolis/duel/Score" "yellow" "I" (.int w_yellow)) (F_purple : Fld Z h0 a0 "com/example/heptapolis/heptapolis/duel/Score" "purple" "I" (.int w_purple)) (F_wonders : Fld Z h0 a0 "com/example/heptapolis/heptapolis/duel/Score" "wonders" "I" (.int w_wonders)) (F_progress : Fld Z h0 a0 "com/example/heptapolis/heptapolis/duel/Score" "progress" "I" (.int w_progress)) (F_coins : Fld Z h0 a0 "com/example/heptapolis/heptapolis/duel/Score" "coins" "I" (.int w_coins)) (F_military : Fld Z h0 a0 "com/example/heptapolis/heptapolis/duel/Score" "military" "I" (.int w_military)) :
    MetFree l (⟨"com/example/heptapolis/heptapolis/duel/Score", "total", "()I"⟩ : MethodName) (head1 (Jvm.Cond.code (⟨"com/example/heptapolis/heptapolis/duel/Score", "total", "()I"⟩ : MethodName) prog_93_method_4_code 1 (some .int) :: ws) ({ frames := 0, cells := 0, slots := 0, locals := 0 } : Room)) (fun a U => a = #[(.ref a0)] ∧ Z.Warmed39 U.vm ∧ U.heap = h0) (fun _ _ _ _ _ => True) (fun _ U o U' => ∃ v L, o = .returned v ∧ Q5 Z a0 w_blue w_green w_yellow w_purple w_wonders w_progress w_coins w_military h0 n0 v U'.heap L ∧ FrameEnd U o U' L ({ frames := 0, cells := 0, slots := 0, locals := 0 } : Room).cells ({ frames := 0, cells := 0, slots := 0, locals := 0 } : Room).slots) := by
  refine MetFree.of_bodySF (plainFor_of_name pn_com_example_heptapolis_heptapolis_duel_Score) hisR ?_
  intro p e s m args below meth c s₁ Bd hml0 hP hK
  obtain ⟨rfl, hZ, hh⟩ := hP
  have hx := Bd.exec
  have hby := Bd.bytes
  have hml : c.maxLocals = 1 := hml0
  have hown : s.vm.findClass "com/example/heptapolis/heptapolis/duel/Score" = some m.cls := findClass_of_methodNamed Bd.named
  have hnm := (name_of_methodNamed Bd.named Bd.method).1
  have X0 : Stand p l e ({ frames := 0, cells := 0, slots := 0, locals := 0 } : Room) s m #[(.ref a0)] below meth c s₁ [] 0 0 := Stand.of_body Bd
  have e0 : s₁.heap = h0 := by rw [← hh, Bd.state]; rfl
  have N0 := Fr.nil n0
  have K0 : Keep h0 h0 [] := Keep.refl h0 []
  have pre0 : ∀ t, Steps p.tables e below (s₁.setTop (mkF m 0 #[.val (.ref a0)] [])) t → Steps p.tables e below (s₁.setTop (entryFrame m #[(.ref a0)] 1)) t := fun t k => castTop (ef5 m a0) k
  have pre1 : ∀ t, Steps p.tables e below (s₁.setTop (mkF m 1 #[.val (.ref a0)] [(.ref a0)])) t → Steps p.tables e below (s₁.setTop (entryFrame m #[(.ref a0)] 1)) t := fun t kt => pre0 t (by
    show Steps p.tables e below (s₁.setTop (mkF m 0 #[.val (.ref a0)] [])) _
    refine XS.aloadN X0.here hx rfl (hb hby d5_0) rfl rfl ?_
    exact kt)
  clear pre0
  obtain ⟨T2, X2, e2, st2⟩ := getF X0 hx hZ hown (host := "") (Or.inl (hw _ (List.mem_of_getElem? (i := 15) rfl))) Via.refl e0 F_blue (g := (mkF m 1 #[.val (.ref a0)] [(.ref a0)])) rfl rfl (hb hby d5_1)
  have pre3 : ∀ t, Steps p.tables e below (T2.setTop (mkF m 4 #[.val (.ref a0)] [(.int w_blue)])) t → Steps p.tables e below (s₁.setTop (entryFrame m #[(.ref a0)] 1)) t := fun t kt => pre1 t (st2 _ kt)
  clear pre1 st2
  have pre4 : ∀ t, Steps p.tables e below (T2.setTop (mkF m 5 #[.val (.ref a0)] [(.ref a0), (.int w_blue)])) t → Steps p.tables e below (s₁.setTop (entryFrame m #[(.ref a0)] 1)) t := fun t kt => pre3 t (by
    show Steps p.tables e below (T2.setTop (mkF m 4 #[.val (.ref a0)] [(.int w_blue)])) _
    refine XS.aloadN X2.here hx rfl (hb hby d5_4) rfl rfl ?_
    exact kt)
  clear pre3
  obtain ⟨T5, X5, e5, st5⟩ := getF X2 hx hZ hown (host := "") (Or.inl (hw _ (List.mem_of_getElem? (i := 17) rfl))) Via.refl e2 F_green (g := (mkF m 5 #[.val (.ref a0)] [(.ref a0), (.int w_blue)])) rfl rfl (hb hby d5_5)
  have pre6 : ∀ t, Steps p.tables e below (T5.setTop (mkF m 8 #[.val (.ref a0)] [(.int w_green), (.int w_blue)])) t → Steps p.tables e below (s₁.setTop (entryFrame m #[(.ref a0)] 1)) t := fun t kt => pre4 t (st5 _ kt)
  clear pre4 st5
  have pre7 : ∀ t, Steps p.tables e below (T5.setTop (mkF m 10 #[.val (.ref a0)] [(.ref a0), (.int (w_blue + w_green))])) t → Steps p.tables e below (s₁.setTop (entryFrame m #[(.ref a0)] 1)) t := fun t kt => pre6 t (by
    show Steps p.tables e below (T5.setTop (mkF m 8 #[.val (.ref a0)] [(.int w_green), (.int w_blue)])) _
    refine XS.iadd X5.here hx rfl (hb hby d5_8) rfl ?_
    show Steps p.tables e below (T5.setTop (mkF m 9 #[.val (.ref a0)] [(.int (w_blue + w_green))])) _
    refine XS.aloadN X5.here hx rfl (hb hby d5_9) rfl rfl ?_
    exact kt)
  clear pre6
  obtain ⟨T8, X8, e8, st8⟩ := getF X5 hx hZ hown (host := "") (Or.inl (hw _ (List.mem_of_getElem? (i := 19) rfl))) Via.refl e5 F_yellow (g := (mkF m 10 #[.val (.ref a0)] [(.ref a0), (.int (w_blue + w_green))])) rfl rfl (hb hby d5_10)
  have pre9 : ∀ t, Steps p.tables e below (T8.setTop (mkF m 13 #[.val (.ref a0)] [(.int w_yellow), (.int (w_blue + w_green))])) t → Steps p.tables e below (s₁.setTop (entryFrame m #[(.ref a0)] 1)) t := fun t kt => pre7 t (st8 _ kt)
  clear pre7 st8
  have pre10 : ∀ t, Steps p.tables e below (T8.setTop (mkF m 15 #[.val (.ref a0)] [(.ref a0), (.int ((w_blue + w_green) + w_yellow))])) t → Steps p.tables e below (s₁.setTop (entryFrame m #[(.ref a0)] 1)) t := fun t kt => pre9 t (by
    show Steps p.tables e below (T8.setTop (mkF m 13 #[.val (.ref a0)] [(.int w_yellow), (.int (w_blue + w_green))])) _
    refine XS.iadd X8.here hx rfl (hb hby d5_13) rfl ?_
    show Steps p.tables e below (T8.setTop (mkF m 14 #[.val (.ref a0)] [(.int ((w_blue + w_green) + w_yellow))])) _
    refine XS.aloadN X8.here hx rfl (hb hby d5_14) rfl rfl ?_
    exact kt)
  clear pre9
  obtain ⟨T11, X11, e11, st11⟩ := getF X8 hx hZ hown (host := "") (Or.inl (hw _ (List.mem_of_getElem? (i := 21) rfl))) Via.refl e8 F_purple (g := (mkF m 15 #[.val (.ref a0)] [(.ref a0), (.int ((w_blue + w_green) + w_yellow))])) rfl rfl (hb hby d5_15)
  have pre12 : ∀ t, Steps p.tables e below (T11.setTop (mkF m 18 #[.val (.ref a0)] [(.int w_purple), (.int ((w_blue + w_green) + w_yellow))])) t → Steps p.tables e below (s₁.setTop (entryFrame m #[(.ref a0)] 1)) t := fun t kt => pre10 t (st11 _ kt)
  clear pre10 st11
  have pre13 : ∀ t, Steps p.tables e below (T11.setTop (mkF m 20 #[.val (.ref a0)] [(.ref a0), (.int (((w_blue + w_green) + w_yellow) + w_purple))])) t → Steps p.tables e below (s₁.setTop (entryFrame m #[(.ref a0)] 1)) t := fun t kt => pre12 t (by
    show Steps p.tables e below (T11.setTop (mkF m 18 #[.val (.ref a0)] [(.int w_purple), (.int ((w_blue + w_green) + w_yellow))])) _
    refine XS.iadd X11.here hx rfl (hb hby d5_18) rfl ?_
    show Steps p.tables e below (T11.setTop (mkF m 19 #[.val (.ref a0)] [(.int (((w_blue + w_green) + w_yellow) + w_purple))])) _
    refine XS.aloadN X11.here hx rfl (hb hby d5_19) rfl rfl ?_
    exact kt)
  clear pre12
  obtain ⟨T14, X14, e14, st14⟩ := getF X11 hx hZ hown (host := "") (Or.inl (hw _ (List.mem_of_getElem? (i := 23) rfl))) Via.refl e11 F_wonders (g := (mkF m 20 #[.val (.ref a0)] [(.ref a0), (.int (((w_blue + w_green) + w_yellow) + w_purple))])) rfl rfl (hb hby d5_20)
  have pre15 : ∀ t, Steps p.tables e below (T14.setTop (mkF m 23 #[.val (.ref a0)] [(.int w_wonders), (.int (((w_blue + w_green) + w_yellow) + w_purple))])) t → Steps p.tables e below (s₁.setTop (entryFrame m #[(.ref a0)] 1)) t := fun t kt => pre13 t (st14 _ kt)
  clear pre13 st14
  have pre16 : ∀ t, Steps p.tables e below (T14.setTop (mkF m 25 #[.val (.ref a0)] [(.ref a0), (.int ((((w_blue + w_green) + w_yellow) + w_purple) + w_wonders))])) t → Steps p.tables e below (s₁.setTop (entryFrame m #[(.ref a0)] 1)) t := fun t kt => pre15 t (by
    show Steps p.tables e below (T14.setTop (mkF m 23 #[.val (.ref a0)] [(.int w_wonders), (.int (((w_blue + w_green) + w_yellow) + w_purple))])) _
    refine XS.iadd X14.here hx rfl (hb hby d5_23) rfl ?_
    show Steps p.tables e below (T14.setTop (mkF m 24 #[.val (.ref a0)] [(.int ((((w_blue + w_green) + w_yellow) + w_purple) + w_wonders))])) _
    refine XS.aloadN X14.here hx rfl (hb hby d5_24) rfl rfl ?_
    exact kt)
  clear pre15
  obtain ⟨T17, X17, e17, st17⟩ := getF X14 hx hZ hown (host := "") (Or.inl (hw _ (List.mem_of_getElem? (i := 25) rfl))) Via.refl e14 F_progress (g := (mkF m 25 #[.val (.ref a0)] [(.ref a0), (.int ((((w_blue + w_green) + w_yellow) + w_purple) + w_wonders))])) rfl rfl (hb hby d5_25)
  have pre18 : ∀ t, Steps p.tables e below (T17.setTop (mkF m 28 #[.val (.ref a0)] [(.int w_progress), (.int ((((w_blue + w_green) + w_yellow) + w_purple) + w_wonders))])) t → Steps p.tables e below (s₁.setTop (entryFrame m #[(.ref a0)] 1)) t := fun t kt => pre16 t (st17 _ kt)
  clear pre16 st17
  have pre19 : ∀ t, Steps p.tables e below (T17.setTop (mkF m 30 #[.val (.ref a0)] [(.ref a0), (.int (((((w_blue + w_green) + w_yellow) + w_purple) + w_wonders) + w_progress))])) t → Steps p.tables e below (s₁.setTop (entryFrame m #[(.ref a0)] 1)) t := fun t kt => pre18 t (by
    show Steps p.tables e below (T17.setTop (mkF m 28 #[.val (.ref a0)] [(.int w_progress), (.int ((((w_blue + w_green) + w_yellow) + w_purple) + w_wonders))])) _
    refine XS.iadd X17.here hx rfl (hb hby d5_28) rfl ?_
    show Steps p.tables e below (T17.setTop (mkF m 29 #[.val (.ref a0)] [(.int (((((w_blue + w_green) + w_yellow) + w_purple) + w_wonders) + w_progress))])) _
    refine XS.aloadN X17.here hx rfl (hb hby d5_29) rfl rfl ?_
    exact kt)
  clear pre18
  obtain ⟨T20, X20, e20, st20⟩ := getF X17 hx hZ hown (host := "") (Or.inl (hw _ (List.mem_of_getElem? (i := 27) rfl))) Via.refl e17 F_coins (g := (mkF m 30 #[.val (.ref a0)] [(.ref a0), (.int (((((w_blue + w_green) + w_yellow) + w_purple) + w_wonders) + w_progress))])) rfl rfl (hb hby d5_30)
  have pre21 : ∀ t, Steps p.tables e below (T20.setTop (mkF m 33 #[.val (.ref a0)] [(.int w_coins), (.int (((((w_blue + w_green) + w_yellow) + w_purple) + w_wonders) + w_progress))])) t → Steps p.tables e below (s₁.setTop (entryFrame m #[(.ref a0)] 1)) t := fun t kt => pre19 t (st20 _ kt)
  clear pre19 st20
  have pre22 : ∀ t, Steps p.tables e below (T20.setTop (mkF m 35 #[.val (.ref a0)] [(.ref a0), (.int ((((((w_blue + w_green) + w_yellow) + w_purple) + w_wonders) + w_progress) + w_coins))])) t → Steps p.tables e below (s₁.setTop (entryFrame m #[(.ref a0)] 1)) t := fun t kt => pre21 t (by
    show Steps p.tables e below (T20.setTop (mkF m 33 #[.val (.ref a0)] [(.int w_coins), (.int (((((w_blue + w_green) + w_yellow) + w_purple) + w_wonders) + w_progress))])) _
    refine XS.iadd X20.here hx rfl (hb hby d5_33) rfl ?_
    show Steps p.tables e below (T20.setTop (mkF m 34 #[.val (.ref a0)] [(.int ((((((w_blue + w_green) + w_yellow) + w_purple) + w_wonders) + w_progress) + w_coins))])) _
    refine XS.aloadN X20.here hx rfl (hb hby d5_34) rfl rfl ?_
    exact kt)
  clear pre21
  obtain ⟨T23, X23, e23, st23⟩ := getF X20 hx hZ hown (host := "") (Or.inl (hw _ (List.mem_of_getElem? (i := 29) rfl))) Via.refl e20 F_military (g := (mkF m 35 #[.val (.ref a0)] [(.ref a0), (.int ((((((w_blue + w_green) + w_yellow) + w_purple) + w_wonders) + w_progress) + w_coins))])) rfl rfl (hb hby d5_35)
  have pre24 : ∀ t, Steps p.tables e below (T23.setTop (mkF m 38 #[.val (.ref a0)] [(.int w_military), (.int ((((((w_blue + w_green) + w_yellow) + w_purple) + w_wonders) + w_progress) + w_coins))])) t → Steps p.tables e below (s₁.setTop (entryFrame m #[(.ref a0)] 1)) t := fun t kt => pre22 t (st23 _ kt)
  clear pre22 st23
  have pre25 : ∀ t, Steps p.tables e below (T23.setTop (mkF m 39 #[.val (.ref a0)] [(.int (((((((w_blue + w_green) + w_yellow) + w_purple) + w_wonders) + w_progress) + w_coins) + w_military))])) t → Steps p.tables e below (s₁.setTop (entryFrame m #[(.ref a0)] 1)) t := fun t kt => pre24 t (by
    show Steps p.tables e below (T23.setTop (mkF m 38 #[.val (.ref a0)] [(.int w_military), (.int ((((((w_blue + w_green) + w_yellow) + w_purple) + w_wonders) + w_progress) + w_coins))])) _
    refine XS.iadd X23.here hx rfl (hb hby d5_38) rfl ?_
    exact kt)
  clear pre24
  have hv : f_total w_blue w_green w_yellow w_purple w_wonders w_progress w_coins w_military = (((((((w_blue + w_green) + w_yellow) + w_purple) + w_wonders) + w_progress) + w_coins) + w_military) := by
    unfold f_total
    rfl
  obtain ⟨fs, hr, hrun, hended, hW, hsame⟩ := X23.leave (v := some (.int (f_total w_blue w_green w_yellow w_purple w_wonders w_progress w_coins w_military))) (fun h => by rw [Bd.returns] at h; cases h)
  refine ⟨_, _, pre25 _ ?_, hrun, hended, _, _, rfl, ?_, ⟨_, rfl⟩, hW, hsame.mono (by decide) (by decide)⟩
  · rw [hv] at hr
    show Steps p.tables e below (T23.setTop (mkF m 39 #[.val (.ref a0)] [(.int (((((((w_blue + w_green) + w_yellow) + w_purple) + w_wonders) + w_progress) + w_coins) + w_military))])) _
    exact retI X23 hx Bd.returns (hb hby d5_39) hr
  · show Q5 Z a0 w_blue w_green w_yellow w_purple w_wonders w_progress w_coins w_military h0 n0 _ T23.heap _
    rw [e23]
    exact ⟨rfl, N0, rfl⟩
theorem d4_0 : decode method_2_code 0 = .ok (.iload_n 0, 1) := by decide +kernel
theorem d4_1 : decode method_2_code 1 = .ok (.iload_n 1, 1) := by decide +kernel
theorem d4_2 : decode method_2_code 2 = .ok (.if_icmp .ne 7, 3) := by decide +kernel
theorem d4_5 : decode method_2_code 5 = .ok (.iload_n 2, 1) := by decide +kernel
theorem d4_6 : decode method_2_code 6 = .ok (.goto 4, 3) := by decide +kernel
theorem d4_10 : decode method_2_code 10 = .ok (.ireturn, 1) := by decide +kernel
theorem d4_9 : decode method_2_code 9 = .ok (.iconst 0, 1) := by decide +kernel
theorem ef4 (m : MethodId) (x0 : Int32) (x1 : Int32) (x2 : Int32) : entryFrame m #[(.int x0), (.int x1), (.int x2)] 3 = mkF m 0 #[.val (.int x0), .val (.int x1), .val (.int x2)] [] := by first | (simp [entryFrame, mkF, argsToLocals, Value.category]; done) | rfl
def f_e (p0 : Int32) (p1 : Int32) (p2 : Int32) : Int32 :=
  if p0 = p1 then
    p2
  else
    (0 : Int32)
def Q4 (Z : State) (p0 : Int32) (p1 : Int32) (p2 : Int32) (h0 : Heap) (n0 : Nat) (v : Option Value) (h : Heap) (L : List Loc) : Prop := v = some (.int (f_e p0 p1 p2)) ∧ Fr n0 L ∧ h = h0
set_option maxRecDepth 65536 in
set_option maxHeartbeats 40000000 in
theorem rm4 (l : Launch) (Z : State) (av : Array Value) (hw : ∀ d ∈ tables_1, d.before av Z = true) (ws : List Jvm.Cond) (p0 : Int32) (p1 : Int32) (p2 : Int32) (h0 : Heap) (n0 : Nat) (Z0 : n0 ≤ h0.size) :
    MetFree l (⟨"com/example/heptapolis/heptapolis/duel/ScoreTotalPinLaw", "e", "(III)I"⟩ : MethodName) (head1 (Jvm.Cond.code (⟨"com/example/heptapolis/heptapolis/duel/ScoreTotalPinLaw", "e", "(III)I"⟩ : MethodName) method_2_code 3 (some .int) :: ws) ({ frames := 0, cells := 0, slots := 0, locals := 0 } : Room)) (fun a U => a = #[(.int p0), (.int p1), (.int p2)] ∧ Z.Warmed39 U.vm ∧ U.heap = h0) (fun _ _ _ _ _ => True) (fun _ U o U' => ∃ v L, o = .returned v ∧ Q4 Z p0 p1 p2 h0 n0 v U'.heap L ∧ FrameEnd U o U' L ({ frames := 0, cells := 0, slots := 0, locals := 0 } : Room).cells ({ frames := 0, cells := 0, slots := 0, locals := 0 } : Room).slots) := by
  refine MetFree.of_bodySF (plainFor_of_name pn_com_example_heptapolis_heptapolis_duel_ScoreTotalPinLaw) hisR ?_
  intro p e s m args below meth c s₁ Bd hml0 hP hK
  obtain ⟨rfl, hZ, hh⟩ := hP
  have hx := Bd.exec
  have hby := Bd.bytes
  have hml : c.maxLocals = 3 := hml0
  have hown : s.vm.findClass "com/example/heptapolis/heptapolis/duel/ScoreTotalPinLaw" = some m.cls := findClass_of_methodNamed Bd.named
  have hnm := (name_of_methodNamed Bd.named Bd.method).1
  have X0 : Stand p l e ({ frames := 0, cells := 0, slots := 0, locals := 0 } : Room) s m #[(.int p0), (.int p1), (.int p2)] below meth c s₁ [] 0 0 := Stand.of_body Bd
  have e0 : s₁.heap = h0 := by rw [← hh, Bd.state]; rfl
  have N0 := Fr.nil n0
  have K0 : Keep h0 h0 [] := Keep.refl h0 []
  have pre0 : ∀ t, Steps p.tables e below (s₁.setTop (mkF m 0 #[.val (.int p0), .val (.int p1), .val (.int p2)] [])) t → Steps p.tables e below (s₁.setTop (entryFrame m #[(.int p0), (.int p1), (.int p2)] 3)) t := fun t k => castTop (ef4 m p0 p1 p2) k
  have pre1 : ∀ t, Steps p.tables e below (s₁.setTop (mkF m 2 #[.val (.int p0), .val (.int p1), .val (.int p2)] [(.int p1), (.int p0)])) t → Steps p.tables e below (s₁.setTop (entryFrame m #[(.int p0), (.int p1), (.int p2)] 3)) t := fun t kt => pre0 t (by
    show Steps p.tables e below (s₁.setTop (mkF m 0 #[.val (.int p0), .val (.int p1), .val (.int p2)] [])) _
    refine XS.iloadN X0.here hx rfl (hb hby d4_0) rfl ?_
    show Steps p.tables e below (s₁.setTop (mkF m 1 #[.val (.int p0), .val (.int p1), .val (.int p2)] [(.int p0)])) _
    refine XS.iloadN X0.here hx rfl (hb hby d4_1) rfl ?_
    exact kt)
  clear pre0
  by_cases hc2_2 : p0 = p1
  · have pre3 : ∀ t, Steps p.tables e below (s₁.setTop (mkF m 10 #[.val (.int p0), .val (.int p1), .val (.int p2)] [(.int p2)])) t → Steps p.tables e below (s₁.setTop (entryFrame m #[(.int p0), (.int p1), (.int p2)] 3)) t := fun t kt => pre1 t (by
      show Steps p.tables e below (s₁.setTop (mkF m 2 #[.val (.int p0), .val (.int p1), .val (.int p2)] [(.int p1), (.int p0)])) _
      refine XS.icmpNo X0.here hx rfl (hb hby d4_2) rfl (teq hc2_2).2 ?_
      show Steps p.tables e below (s₁.setTop (mkF m 5 #[.val (.int p0), .val (.int p1), .val (.int p2)] [])) _
      refine XS.iloadN X0.here hx rfl (hb hby d4_5) rfl ?_
      show Steps p.tables e below (s₁.setTop (mkF m 6 #[.val (.int p0), .val (.int p1), .val (.int p2)] [(.int p2)])) _
      refine XS.goto X0.here hx rfl (pc0 := 6) (pc' := 10) rfl (hb hby d4_6) (by decide) (by decide) ?_
      exact kt)
    clear pre1
    have hv : f_e p0 p1 p2 = p2 := by
      unfold f_e
      rw [if_pos hc2_2]
    obtain ⟨fs, hr, hrun, hended, hW, hsame⟩ := X0.leave (v := some (.int (f_e p0 p1 p2))) (fun h => by rw [Bd.returns] at h; cases h)
    refine ⟨_, _, pre3 _ ?_, hrun, hended, _, _, rfl, ?_, ⟨_, rfl⟩, hW, hsame.mono (by decide) (by decide)⟩
    · rw [hv] at hr
      show Steps p.tables e below (s₁.setTop (mkF m 10 #[.val (.int p0), .val (.int p1), .val (.int p2)] [(.int p2)])) _
      exact retI X0 hx Bd.returns (hb hby d4_10) hr
    · show Q4 Z p0 p1 p2 h0 n0 _ s₁.heap _
      rw [e0]
      exact ⟨rfl, N0, rfl⟩
  · have pre4 : ∀ t, Steps p.tables e below (s₁.setTop (mkF m 10 #[.val (.int p0), .val (.int p1), .val (.int p2)] [(.int (0 : Int32))])) t → Steps p.tables e below (s₁.setTop (entryFrame m #[(.int p0), (.int p1), (.int p2)] 3)) t := fun t kt => pre1 t (by
      show Steps p.tables e below (s₁.setTop (mkF m 2 #[.val (.int p0), .val (.int p1), .val (.int p2)] [(.int p1), (.int p0)])) _
      refine XS.icmpYes X0.here hx rfl (pc0 := 2) (pc' := 9) rfl (hb hby d4_2) rfl (feq hc2_2).2 (by decide) (by decide) ?_
      show Steps p.tables e below (s₁.setTop (mkF m 9 #[.val (.int p0), .val (.int p1), .val (.int p2)] [])) _
      refine XS.iconst X0.here hx rfl (hb hby d4_9) ?_
      exact kt)
    clear pre1
    have hv : f_e p0 p1 p2 = (0 : Int32) := by
      unfold f_e
      rw [if_neg hc2_2]
    obtain ⟨fs, hr, hrun, hended, hW, hsame⟩ := X0.leave (v := some (.int (f_e p0 p1 p2))) (fun h => by rw [Bd.returns] at h; cases h)
    refine ⟨_, _, pre4 _ ?_, hrun, hended, _, _, rfl, ?_, ⟨_, rfl⟩, hW, hsame.mono (by decide) (by decide)⟩
    · rw [hv] at hr
      show Steps p.tables e below (s₁.setTop (mkF m 10 #[.val (.int p0), .val (.int p1), .val (.int p2)] [(.int (0 : Int32))])) _
      exact retI X0 hx Bd.returns (hb hby d4_10) hr
    · show Q4 Z p0 p1 p2 h0 n0 _ s₁.heap _
      rw [e0]
      exact ⟨rfl, N0, rfl⟩
theorem own_k (x : Int32) : 0 ≤ (x &&& (7 : Int32)).toInt ∧ (x &&& (7 : Int32)).toInt < 8 := by
  have h := c_mask x (7 : Int32) 3 (by decide) (by decide)
  omega
theorem own_unit (k d : Int32) (h : 0 ≤ k.toInt ∧ k.toInt < 8) : f_total (f_e k (0 : Int32) d) (f_e k (1 : Int32) d) (f_e k (2 : Int32) d) (f_e k (3 : Int32) d) (f_e k (4 : Int32) d) (f_e k (5 : Int32) d) (f_e k (6 : Int32) d) (f_e k (7 : Int32) d) = d := by
  have q : k = 0 ∨ k = 1 ∨ k = 2 ∨ k = 3 ∨ k = 4 ∨ k = 5 ∨ k = 6 ∨ k = 7 := by
    simp only [← Int32.toInt_inj, Int32.reduceToInt]
    omega
  unfold f_total f_e
  rcases q with rfl | rfl | rfl | rfl | rfl | rfl | rfl | rfl <;> simp
theorem own_add (k d a0 a1 a2 a3 a4 a5 a6 a7 : Int32) (h : 0 ≤ k.toInt ∧ k.toInt < 8) : (f_total (a0 + (f_e k (0 : Int32) d)) (a1 + (f_e k (1 : Int32) d)) (a2 + (f_e k (2 : Int32) d)) (a3 + (f_e k (3 : Int32) d)) (a4 + (f_e k (4 : Int32) d)) (a5 + (f_e k (5 : Int32) d)) (a6 + (f_e k (6 : Int32) d)) (a7 + (f_e k (7 : Int32) d))) - (f_total a0 a1 a2 a3 a4 a5 a6 a7) = d := by
  have u := own_unit k d h
  unfold f_total at u ⊢
  grind
theorem pd__IIIIIIII_V : parseMethodDescriptor "(IIIIIIII)V" = some ⟨[.int, .int, .int, .int, .int, .int, .int, .int], none⟩ := by decide +kernel
theorem pd__III_I : parseMethodDescriptor "(III)I" = some ⟨[.int, .int, .int], some .int⟩ := by decide +kernel
theorem pd___I : parseMethodDescriptor "()I" = some ⟨[], some .int⟩ := by decide +kernel
theorem ef0 (m : MethodId) (x0 : Int32) (x1 : Int32) (x2 : Int32) (x3 : Int32) (x4 : Int32) (x5 : Int32) : entryFrame m #[(.int x0), (.int x1), (.int x2), (.int x3), (.int x4), (.int x5)] maxLocals = mkF m 0 #[.val (.int x0), .val (.int x1), .val (.int x2), .val (.int x3), .val (.int x4), .val (.int x5), .unset, .unset, .unset, .unset, .unset, .unset, .unset] [] := by first | (simp [entryFrame, mkF, argsToLocals, Value.category, maxLocals]; done) | rfl
def Q0 (Z : State) (p0 : Int32) (p1 : Int32) (p2 : Int32) (p3 : Int32) (p4 : Int32) (p5 : Int32) (h0 : Heap) (n0 : Nat) (v : Option Value) (h : Heap) (L : List Loc) : Prop := v = some (.int 1) ∧ Fr n0 L
set_option maxRecDepth 65536 in
set_option maxHeartbeats 40000000 in
theorem rm0 (l : Launch) (Z : State) (av : Array Value) (hw : ∀ d ∈ tables_1, d.before av Z = true) (ws : List Jvm.Cond) (p0 : Int32) (p1 : Int32) (p2 : Int32) (p3 : Int32) (p4 : Int32) (p5 : Int32) (h0 : Heap) (n0 : Nat) (Z0 : n0 ≤ h0.size) :
    MetFree l x (head1 (Jvm.Cond.code x code maxLocals ret :: ws) room_1) (fun a U => a = #[(.int p0), (.int p1), (.int p2), (.int p3), (.int p4), (.int p5)] ∧ Z.Warmed39 U.vm ∧ U.heap = h0) (fun _ _ _ _ _ => True) (fun _ U o U' => ∃ v L, o = .returned v ∧ Q0 Z p0 p1 p2 p3 p4 p5 h0 n0 v U'.heap L ∧ FrameEnd U o U' L room_1.cells room_1.slots) := by
  refine MetFree.of_bodySF (plainFor_of_name pn_com_example_heptapolis_heptapolis_duel_ScoreTotalPinLaw) hisR ?_
  intro p e s m args below meth c s₁ Bd hml0 hP hK
  obtain ⟨rfl, hZ, hh⟩ := hP
  have hx := Bd.exec
  have hby := Bd.bytes
  have hml : c.maxLocals = 13 := hml0
  have hown : s.vm.findClass "com/example/heptapolis/heptapolis/duel/ScoreTotalPinLaw" = some m.cls := findClass_of_methodNamed Bd.named
  have hnm := (name_of_methodNamed Bd.named Bd.method).1
  have X0 : Stand p l e room_1 s m #[(.int p0), (.int p1), (.int p2), (.int p3), (.int p4), (.int p5)] below meth c s₁ [] 0 0 := Stand.of_body Bd
  have e0 : s₁.heap = h0 := by rw [← hh, Bd.state]; rfl
  have N0 := Fr.nil n0
  have K0 : Keep h0 h0 [] := Keep.refl h0 []
  have pre0 : ∀ t, Steps p.tables e below (s₁.setTop (mkF m 0 #[.val (.int p0), .val (.int p1), .val (.int p2), .val (.int p3), .val (.int p4), .val (.int p5), .unset, .unset, .unset, .unset, .unset, .unset, .unset] [])) t → Steps p.tables e below (s₁.setTop (entryFrame m #[(.int p0), (.int p1), (.int p2), (.int p3), (.int p4), (.int p5)] maxLocals)) t := fun t k => castTop (ef0 m p0 p1 p2 p3 p4 p5) k
  have pre1 : ∀ t, Steps p.tables e below (s₁.setTop (mkF m 7 #[.val (.int p0), .val (.int p1), .val (.int p2), .val (.int p3), .val (.int p4), .val (.int p5), .val (.int (p4 &&& (7 : Int32))), .unset, .unset, .unset, .unset, .unset, .unset] [])) t → Steps p.tables e below (s₁.setTop (entryFrame m #[(.int p0), (.int p1), (.int p2), (.int p3), (.int p4), (.int p5)] maxLocals)) t := fun t kt => pre0 t (by
    show Steps p.tables e below (s₁.setTop (mkF m 0 #[.val (.int p0), .val (.int p1), .val (.int p2), .val (.int p3), .val (.int p4), .val (.int p5), .unset, .unset, .unset, .unset, .unset, .unset, .unset] [])) _
    refine XS.iload X0.here hx rfl (hb hby at_0) rfl ?_
    show Steps p.tables e below (s₁.setTop (mkF m 2 #[.val (.int p0), .val (.int p1), .val (.int p2), .val (.int p3), .val (.int p4), .val (.int p5), .unset, .unset, .unset, .unset, .unset, .unset, .unset] [(.int p4)])) _
    refine XS.bipush X0.here hx rfl (hb hby at_2) ?_
    show Steps p.tables e below (s₁.setTop (mkF m 4 #[.val (.int p0), .val (.int p1), .val (.int p2), .val (.int p3), .val (.int p4), .val (.int p5), .unset, .unset, .unset, .unset, .unset, .unset, .unset] [(.int (7 : Int32)), (.int p4)])) _
    refine XS.iand X0.here hx rfl (hb hby at_4) rfl ?_
    show Steps p.tables e below (s₁.setTop (mkF m 5 #[.val (.int p0), .val (.int p1), .val (.int p2), .val (.int p3), .val (.int p4), .val (.int p5), .unset, .unset, .unset, .unset, .unset, .unset, .unset] [(.int (p4 &&& (7 : Int32)))])) _
    refine XS.istore X0.here hx rfl (hb hby at_5) rfl (l' := #[.val (.int p0), .val (.int p1), .val (.int p2), .val (.int p3), .val (.int p4), .val (.int p5), .val (.int (p4 &&& (7 : Int32))), .unset, .unset, .unset, .unset, .unset, .unset]) rfl ?_
    exact kt)
  clear pre0
  obtain ⟨vk, hm2, pre2⟩ : ∃ (vk : Int32), (0 ≤ vk.toInt ∧ vk.toInt < 8) ∧ ∀ t, Steps p.tables e below (s₁.setTop (mkF m 7 #[.val (.int p0), .val (.int p1), .val (.int p2), .val (.int p3), .val (.int p4), .val (.int p5), .val (.int vk), .unset, .unset, .unset, .unset, .unset, .unset] [])) t → Steps p.tables e below (s₁.setTop (entryFrame m #[(.int p0), (.int p1), (.int p2), (.int p3), (.int p4), (.int p5)] maxLocals)) t := ⟨(p4 &&& (7 : Int32)), own_k p4, pre1⟩
  clear pre1
  have pre3 : ∀ t, Steps p.tables e below (s₁.setTop (mkF m 9 #[.val (.int p0), .val (.int p1), .val (.int p2), .val (.int p3), .val (.int p4), .val (.int p5), .val (.int vk), .unset, .unset, .unset, .unset, .unset, .unset] [(.int (8 : Int32))])) t → Steps p.tables e below (s₁.setTop (entryFrame m #[(.int p0), (.int p1), (.int p2), (.int p3), (.int p4), (.int p5)] maxLocals)) t := fun t kt => pre2 t (by
    show Steps p.tables e below (s₁.setTop (mkF m 7 #[.val (.int p0), .val (.int p1), .val (.int p2), .val (.int p3), .val (.int p4), .val (.int p5), .val (.int vk), .unset, .unset, .unset, .unset, .unset, .unset] [])) _
    refine XS.bipush X0.here hx rfl (hb hby at_7) ?_
    exact kt)
  clear pre2
  obtain ⟨T4, h4, k4, X4, e4, E4, A4, st4⟩ := newP X0 hx hZ (hw _ (List.mem_of_getElem? (i := 0) rfl)) e0 (g := (mkF m 9 #[.val (.int p0), .val (.int p1), .val (.int p2), .val (.int p3), .val (.int p4), .val (.int p5), .val (.int vk), .unset, .unset, .unset, .unset, .unset, .unset] [(.int (8 : Int32))])) rfl (hb hby at_9) rfl (by decide) (cap := 8) (by decide) (by decide) (by decide) (by decide)
  obtain ⟨b4, g4⟩ : ∃ z, z = h0.size := ⟨_, rfl⟩
  rw [← g4] at A4 st4
  have pre5 : ∀ t, Steps p.tables e below (T4.setTop (mkF m 11 #[.val (.int p0), .val (.int p1), .val (.int p2), .val (.int p3), .val (.int p4), .val (.int p5), .val (.int vk), .unset, .unset, .unset, .unset, .unset, .unset] [(.ref b4)])) t → Steps p.tables e below (s₁.setTop (entryFrame m #[(.int p0), (.int p1), (.int p2), (.int p3), (.int p4), (.int p5)] maxLocals)) t := fun t kt => pre3 t (st4 _ kt)
  clear pre3 st4
  have gn4 : n0 ≤ b4 := Nat.le_trans Z0 (Nat.le_of_eq g4.symm)
  have sz4 : h0.size ≤ b4 := Nat.le_trans K0.1 (Nat.le_of_eq g4.symm)
  have K4 : Keep h0 h4 [] := K0.ext E4
  have Z4 : n0 ≤ h4.size := Nat.le_trans Z0 E4.1
  have V4 : Arv Z h4 b4 k4 .int (8 : Int32) [(.int (0 : Int32)), (.int (0 : Int32)), (.int (0 : Int32)), (.int (0 : Int32)), (.int (0 : Int32)), (.int (0 : Int32)), (.int (0 : Int32)), (.int (0 : Int32))] (.int (0 : Int32)) := (Arv.new A4 (by decide)).pad (pad_rep [] (.int (0 : Int32)) 8)
  have pre6 : ∀ t, Steps p.tables e below (T4.setTop (mkF m 14 #[.val (.int p0), .val (.int p1), .val (.int p2), .val (.int p3), .val (.int p4), .val (.int p5), .val (.int vk), .unset, .unset, .unset, .unset, .unset, .unset] [(.int p0), (.int (0 : Int32)), (.ref b4), (.ref b4)])) t → Steps p.tables e below (s₁.setTop (entryFrame m #[(.int p0), (.int p1), (.int p2), (.int p3), (.int p4), (.int p5)] maxLocals)) t := fun t kt => pre5 t (by
    show Steps p.tables e below (T4.setTop (mkF m 11 #[.val (.int p0), .val (.int p1), .val (.int p2), .val (.int p3), .val (.int p4), .val (.int p5), .val (.int vk), .unset, .unset, .unset, .unset, .unset, .unset] [(.ref b4)])) _
    refine XS.dup X4.here hx rfl (hb hby at_11) rfl rfl ?_
    show Steps p.tables e below (T4.setTop (mkF m 12 #[.val (.int p0), .val (.int p1), .val (.int p2), .val (.int p3), .val (.int p4), .val (.int p5), .val (.int vk), .unset, .unset, .unset, .unset, .unset, .unset] [(.ref b4), (.ref b4)])) _
    refine XS.iconst X4.here hx rfl (hb hby at_12) ?_
    show Steps p.tables e below (T4.setTop (mkF m 13 #[.val (.int p0), .val (.int p1), .val (.int p2), .val (.int p3), .val (.int p4), .val (.int p5), .val (.int vk), .unset, .unset, .unset, .unset, .unset, .unset] [(.int (0 : Int32)), (.ref b4), (.ref b4)])) _
    refine XS.iloadN X4.here hx rfl (hb hby at_13) rfl ?_
    exact kt)
  clear pre5
  have tv7 := V4
  obtain ⟨cl7, Ar7, q7, S7, Ng7, H7, G7⟩ := tv7
  have hin7 : ¬ ((0 : Int32) < 0 ∨ cl7.slots.size ≤ ((0 : Int32)).toNatClampNeg) := inb_of S7 ⟨by decide, by decide⟩
  obtain ⟨T8, h8, X8, e8, W8, st8⟩ := stI X4 hx hZ e4 Ar7 (j := (0 : Int32)) hin7 (g := (mkF m 14 #[.val (.int p0), .val (.int p1), .val (.int p2), .val (.int p3), .val (.int p4), .val (.int p5), .val (.int vk), .unset, .unset, .unset, .unset, .unset, .unset] [(.int p0), (.int (0 : Int32)), (.ref b4), (.ref b4)])) rfl rfl (hb hby at_14)
  have pre9 : ∀ t, Steps p.tables e below (T8.setTop (mkF m 15 #[.val (.int p0), .val (.int p1), .val (.int p2), .val (.int p3), .val (.int p4), .val (.int p5), .val (.int vk), .unset, .unset, .unset, .unset, .unset, .unset] [(.ref b4)])) t → Steps p.tables e below (s₁.setTop (entryFrame m #[(.int p0), (.int p1), (.int p2), (.int p3), (.int p4), (.int p5)] maxLocals)) t := fun t kt => pre6 t (st8 _ kt)
  clear pre6 st8
  have V8 : Arv Z h8 b4 k4 .int (8 : Int32) [(.int p0), (.int (0 : Int32)), (.int (0 : Int32)), (.int (0 : Int32)), (.int (0 : Int32)), (.int (0 : Int32)), (.int (0 : Int32)), (.int (0 : Int32))] (.int (0 : Int32)) := Arv.set Ar7 q7 S7 Ng7 H7 G7 rfl W8 0 rfl (Nat.le_of_ble_eq_true rfl)
  have K8 : Keep h0 h8 [] := K4.wr W8 (Or.inr sz4)
  have N8 := Fr.snoc X8 N0 gn4
  have Z8 : n0 ≤ h8.size := Nat.le_trans Z4 (Keep.of_wr W8).1
  have pre10 : ∀ t, Steps p.tables e below (T8.setTop (mkF m 18 #[.val (.int p0), .val (.int p1), .val (.int p2), .val (.int p3), .val (.int p4), .val (.int p5), .val (.int vk), .unset, .unset, .unset, .unset, .unset, .unset] [(.int p1), (.int (1 : Int32)), (.ref b4), (.ref b4)])) t → Steps p.tables e below (s₁.setTop (entryFrame m #[(.int p0), (.int p1), (.int p2), (.int p3), (.int p4), (.int p5)] maxLocals)) t := fun t kt => pre9 t (by
    show Steps p.tables e below (T8.setTop (mkF m 15 #[.val (.int p0), .val (.int p1), .val (.int p2), .val (.int p3), .val (.int p4), .val (.int p5), .val (.int vk), .unset, .unset, .unset, .unset, .unset, .unset] [(.ref b4)])) _
    refine XS.dup X8.here hx rfl (hb hby at_15) rfl rfl ?_
    show Steps p.tables e below (T8.setTop (mkF m 16 #[.val (.int p0), .val (.int p1), .val (.int p2), .val (.int p3), .val (.int p4), .val (.int p5), .val (.int vk), .unset, .unset, .unset, .unset, .unset, .unset] [(.ref b4), (.ref b4)])) _
    refine XS.iconst X8.here hx rfl (hb hby at_16) ?_
    show Steps p.tables e below (T8.setTop (mkF m 17 #[.val (.int p0), .val (.int p1), .val (.int p2), .val (.int p3), .val (.int p4), .val (.int p5), .val (.int vk), .unset, .unset, .unset, .unset, .unset, .unset] [(.int (1 : Int32)), (.ref b4), (.ref b4)])) _
    refine XS.iloadN X8.here hx rfl (hb hby at_17) rfl ?_
    exact kt)
  clear pre9
  have tv11 := V8
  obtain ⟨cl11, Ar11, q11, S11, Ng11, H11, G11⟩ := tv11
  have hin11 : ¬ ((1 : Int32) < 0 ∨ cl11.slots.size ≤ ((1 : Int32)).toNatClampNeg) := inb_of S11 ⟨by decide, by decide⟩
  obtain ⟨T12, h12, X12, e12, W12, st12⟩ := stI X8 hx hZ e8 Ar11 (j := (1 : Int32)) hin11 (g := (mkF m 18 #[.val (.int p0), .val (.int p1), .val (.int p2), .val (.int p3), .val (.int p4), .val (.int p5), .val (.int vk), .unset, .unset, .unset, .unset, .unset, .unset] [(.int p1), (.int (1 : Int32)), (.ref b4), (.ref b4)])) rfl rfl (hb hby at_18)
  have pre13 : ∀ t, Steps p.tables e below (T12.setTop (mkF m 19 #[.val (.int p0), .val (.int p1), .val (.int p2), .val (.int p3), .val (.int p4), .val (.int p5), .val (.int vk), .unset, .unset, .unset, .unset, .unset, .unset] [(.ref b4)])) t → Steps p.tables e below (s₁.setTop (entryFrame m #[(.int p0), (.int p1), (.int p2), (.int p3), (.int p4), (.int p5)] maxLocals)) t := fun t kt => pre10 t (st12 _ kt)
  clear pre10 st12
  have V12 : Arv Z h12 b4 k4 .int (8 : Int32) [(.int p0), (.int p1), (.int (0 : Int32)), (.int (0 : Int32)), (.int (0 : Int32)), (.int (0 : Int32)), (.int (0 : Int32)), (.int (0 : Int32))] (.int (0 : Int32)) := Arv.set Ar11 q11 S11 Ng11 H11 G11 rfl W12 1 rfl (Nat.le_of_ble_eq_true rfl)
  have K12 : Keep h0 h12 [] := K8.wr W12 (Or.inr sz4)
  have N12 := Fr.snoc X12 N8 gn4
  have Z12 : n0 ≤ h12.size := Nat.le_trans Z8 (Keep.of_wr W12).1
  have pre14 : ∀ t, Steps p.tables e below (T12.setTop (mkF m 22 #[.val (.int p0), .val (.int p1), .val (.int p2), .val (.int p3), .val (.int p4), .val (.int p5), .val (.int vk), .unset, .unset, .unset, .unset, .unset, .unset] [(.int p2), (.int (2 : Int32)), (.ref b4), (.ref b4)])) t → Steps p.tables e below (s₁.setTop (entryFrame m #[(.int p0), (.int p1), (.int p2), (.int p3), (.int p4), (.int p5)] maxLocals)) t := fun t kt => pre13 t (by
    show Steps p.tables e below (T12.setTop (mkF m 19 #[.val (.int p0), .val (.int p1), .val (.int p2), .val (.int p3), .val (.int p4), .val (.int p5), .val (.int vk), .unset, .unset, .unset, .unset, .unset, .unset] [(.ref b4)])) _
    refine XS.dup X12.here hx rfl (hb hby at_19) rfl rfl ?_
    show Steps p.tables e below (T12.setTop (mkF m 20 #[.val (.int p0), .val (.int p1), .val (.int p2), .val (.int p3), .val (.int p4), .val (.int p5), .val (.int vk), .unset, .unset, .unset, .unset, .unset, .unset] [(.ref b4), (.ref b4)])) _
    refine XS.iconst X12.here hx rfl (hb hby at_20) ?_
    show Steps p.tables e below (T12.setTop (mkF m 21 #[.val (.int p0), .val (.int p1), .val (.int p2), .val (.int p3), .val (.int p4), .val (.int p5), .val (.int vk), .unset, .unset, .unset, .unset, .unset, .unset] [(.int (2 : Int32)), (.ref b4), (.ref b4)])) _
    refine XS.iloadN X12.here hx rfl (hb hby at_21) rfl ?_
    exact kt)
  clear pre13
  have tv15 := V12
  obtain ⟨cl15, Ar15, q15, S15, Ng15, H15, G15⟩ := tv15
  have hin15 : ¬ ((2 : Int32) < 0 ∨ cl15.slots.size ≤ ((2 : Int32)).toNatClampNeg) := inb_of S15 ⟨by decide, by decide⟩
  obtain ⟨T16, h16, X16, e16, W16, st16⟩ := stI X12 hx hZ e12 Ar15 (j := (2 : Int32)) hin15 (g := (mkF m 22 #[.val (.int p0), .val (.int p1), .val (.int p2), .val (.int p3), .val (.int p4), .val (.int p5), .val (.int vk), .unset, .unset, .unset, .unset, .unset, .unset] [(.int p2), (.int (2 : Int32)), (.ref b4), (.ref b4)])) rfl rfl (hb hby at_22)
  have pre17 : ∀ t, Steps p.tables e below (T16.setTop (mkF m 23 #[.val (.int p0), .val (.int p1), .val (.int p2), .val (.int p3), .val (.int p4), .val (.int p5), .val (.int vk), .unset, .unset, .unset, .unset, .unset, .unset] [(.ref b4)])) t → Steps p.tables e below (s₁.setTop (entryFrame m #[(.int p0), (.int p1), (.int p2), (.int p3), (.int p4), (.int p5)] maxLocals)) t := fun t kt => pre14 t (st16 _ kt)
  clear pre14 st16
  have V16 : Arv Z h16 b4 k4 .int (8 : Int32) [(.int p0), (.int p1), (.int p2), (.int (0 : Int32)), (.int (0 : Int32)), (.int (0 : Int32)), (.int (0 : Int32)), (.int (0 : Int32))] (.int (0 : Int32)) := Arv.set Ar15 q15 S15 Ng15 H15 G15 rfl W16 2 rfl (Nat.le_of_ble_eq_true rfl)
  have K16 : Keep h0 h16 [] := K12.wr W16 (Or.inr sz4)
  have N16 := Fr.snoc X16 N12 gn4
  have Z16 : n0 ≤ h16.size := Nat.le_trans Z12 (Keep.of_wr W16).1
  have pre18 : ∀ t, Steps p.tables e below (T16.setTop (mkF m 26 #[.val (.int p0), .val (.int p1), .val (.int p2), .val (.int p3), .val (.int p4), .val (.int p5), .val (.int vk), .unset, .unset, .unset, .unset, .unset, .unset] [(.int p3), (.int (3 : Int32)), (.ref b4), (.ref b4)])) t → Steps p.tables e below (s₁.setTop (entryFrame m #[(.int p0), (.int p1), (.int p2), (.int p3), (.int p4), (.int p5)] maxLocals)) t := fun t kt => pre17 t (by
    show Steps p.tables e below (T16.setTop (mkF m 23 #[.val (.int p0), .val (.int p1), .val (.int p2), .val (.int p3), .val (.int p4), .val (.int p5), .val (.int vk), .unset, .unset, .unset, .unset, .unset, .unset] [(.ref b4)])) _
    refine XS.dup X16.here hx rfl (hb hby at_23) rfl rfl ?_
    show Steps p.tables e below (T16.setTop (mkF m 24 #[.val (.int p0), .val (.int p1), .val (.int p2), .val (.int p3), .val (.int p4), .val (.int p5), .val (.int vk), .unset, .unset, .unset, .unset, .unset, .unset] [(.ref b4), (.ref b4)])) _
    refine XS.iconst X16.here hx rfl (hb hby at_24) ?_
    show Steps p.tables e below (T16.setTop (mkF m 25 #[.val (.int p0), .val (.int p1), .val (.int p2), .val (.int p3), .val (.int p4), .val (.int p5), .val (.int vk), .unset, .unset, .unset, .unset, .unset, .unset] [(.int (3 : Int32)), (.ref b4), (.ref b4)])) _
    refine XS.iloadN X16.here hx rfl (hb hby at_25) rfl ?_
    exact kt)
  clear pre17
  have tv19 := V16
  obtain ⟨cl19, Ar19, q19, S19, Ng19, H19, G19⟩ := tv19
  have hin19 : ¬ ((3 : Int32) < 0 ∨ cl19.slots.size ≤ ((3 : Int32)).toNatClampNeg) := inb_of S19 ⟨by decide, by decide⟩
  obtain ⟨T20, h20, X20, e20, W20, st20⟩ := stI X16 hx hZ e16 Ar19 (j := (3 : Int32)) hin19 (g := (mkF m 26 #[.val (.int p0), .val (.int p1), .val (.int p2), .val (.int p3), .val (.int p4), .val (.int p5), .val (.int vk), .unset, .unset, .unset, .unset, .unset, .unset] [(.int p3), (.int (3 : Int32)), (.ref b4), (.ref b4)])) rfl rfl (hb hby at_26)
  have pre21 : ∀ t, Steps p.tables e below (T20.setTop (mkF m 27 #[.val (.int p0), .val (.int p1), .val (.int p2), .val (.int p3), .val (.int p4), .val (.int p5), .val (.int vk), .unset, .unset, .unset, .unset, .unset, .unset] [(.ref b4)])) t → Steps p.tables e below (s₁.setTop (entryFrame m #[(.int p0), (.int p1), (.int p2), (.int p3), (.int p4), (.int p5)] maxLocals)) t := fun t kt => pre18 t (st20 _ kt)
  clear pre18 st20
  have V20 : Arv Z h20 b4 k4 .int (8 : Int32) [(.int p0), (.int p1), (.int p2), (.int p3), (.int (0 : Int32)), (.int (0 : Int32)), (.int (0 : Int32)), (.int (0 : Int32))] (.int (0 : Int32)) := Arv.set Ar19 q19 S19 Ng19 H19 G19 rfl W20 3 rfl (Nat.le_of_ble_eq_true rfl)
  have K20 : Keep h0 h20 [] := K16.wr W20 (Or.inr sz4)
  have N20 := Fr.snoc X20 N16 gn4
  have Z20 : n0 ≤ h20.size := Nat.le_trans Z16 (Keep.of_wr W20).1
  have pre22 : ∀ t, Steps p.tables e below (T20.setTop (mkF m 32 #[.val (.int p0), .val (.int p1), .val (.int p2), .val (.int p3), .val (.int p4), .val (.int p5), .val (.int vk), .unset, .unset, .unset, .unset, .unset, .unset] [(.int (p0 ^^^ p2)), (.int (4 : Int32)), (.ref b4), (.ref b4)])) t → Steps p.tables e below (s₁.setTop (entryFrame m #[(.int p0), (.int p1), (.int p2), (.int p3), (.int p4), (.int p5)] maxLocals)) t := fun t kt => pre21 t (by
    show Steps p.tables e below (T20.setTop (mkF m 27 #[.val (.int p0), .val (.int p1), .val (.int p2), .val (.int p3), .val (.int p4), .val (.int p5), .val (.int vk), .unset, .unset, .unset, .unset, .unset, .unset] [(.ref b4)])) _
    refine XS.dup X20.here hx rfl (hb hby at_27) rfl rfl ?_
    show Steps p.tables e below (T20.setTop (mkF m 28 #[.val (.int p0), .val (.int p1), .val (.int p2), .val (.int p3), .val (.int p4), .val (.int p5), .val (.int vk), .unset, .unset, .unset, .unset, .unset, .unset] [(.ref b4), (.ref b4)])) _
    refine XS.iconst X20.here hx rfl (hb hby at_28) ?_
    show Steps p.tables e below (T20.setTop (mkF m 29 #[.val (.int p0), .val (.int p1), .val (.int p2), .val (.int p3), .val (.int p4), .val (.int p5), .val (.int vk), .unset, .unset, .unset, .unset, .unset, .unset] [(.int (4 : Int32)), (.ref b4), (.ref b4)])) _
    refine XS.iloadN X20.here hx rfl (hb hby at_29) rfl ?_
    show Steps p.tables e below (T20.setTop (mkF m 30 #[.val (.int p0), .val (.int p1), .val (.int p2), .val (.int p3), .val (.int p4), .val (.int p5), .val (.int vk), .unset, .unset, .unset, .unset, .unset, .unset] [(.int p0), (.int (4 : Int32)), (.ref b4), (.ref b4)])) _
    refine XS.iloadN X20.here hx rfl (hb hby at_30) rfl ?_
    show Steps p.tables e below (T20.setTop (mkF m 31 #[.val (.int p0), .val (.int p1), .val (.int p2), .val (.int p3), .val (.int p4), .val (.int p5), .val (.int vk), .unset, .unset, .unset, .unset, .unset, .unset] [(.int p2), (.int p0), (.int (4 : Int32)), (.ref b4), (.ref b4)])) _
    refine XS.ixor X20.here hx rfl (hb hby at_31) rfl ?_
    exact kt)
  clear pre21
  have tv23 := V20
  obtain ⟨cl23, Ar23, q23, S23, Ng23, H23, G23⟩ := tv23
  have hin23 : ¬ ((4 : Int32) < 0 ∨ cl23.slots.size ≤ ((4 : Int32)).toNatClampNeg) := inb_of S23 ⟨by decide, by decide⟩
  obtain ⟨T24, h24, X24, e24, W24, st24⟩ := stI X20 hx hZ e20 Ar23 (j := (4 : Int32)) hin23 (g := (mkF m 32 #[.val (.int p0), .val (.int p1), .val (.int p2), .val (.int p3), .val (.int p4), .val (.int p5), .val (.int vk), .unset, .unset, .unset, .unset, .unset, .unset] [(.int (p0 ^^^ p2)), (.int (4 : Int32)), (.ref b4), (.ref b4)])) rfl rfl (hb hby at_32)
  have pre25 : ∀ t, Steps p.tables e below (T24.setTop (mkF m 33 #[.val (.int p0), .val (.int p1), .val (.int p2), .val (.int p3), .val (.int p4), .val (.int p5), .val (.int vk), .unset, .unset, .unset, .unset, .unset, .unset] [(.ref b4)])) t → Steps p.tables e below (s₁.setTop (entryFrame m #[(.int p0), (.int p1), (.int p2), (.int p3), (.int p4), (.int p5)] maxLocals)) t := fun t kt => pre22 t (st24 _ kt)
  clear pre22 st24
  have V24 : Arv Z h24 b4 k4 .int (8 : Int32) [(.int p0), (.int p1), (.int p2), (.int p3), (.int (p0 ^^^ p2)), (.int (0 : Int32)), (.int (0 : Int32)), (.int (0 : Int32))] (.int (0 : Int32)) := Arv.set Ar23 q23 S23 Ng23 H23 G23 rfl W24 4 rfl (Nat.le_of_ble_eq_true rfl)
  have K24 : Keep h0 h24 [] := K20.wr W24 (Or.inr sz4)
  have N24 := Fr.snoc X24 N20 gn4
  have Z24 : n0 ≤ h24.size := Nat.le_trans Z20 (Keep.of_wr W24).1
  have pre26 : ∀ t, Steps p.tables e below (T24.setTop (mkF m 38 #[.val (.int p0), .val (.int p1), .val (.int p2), .val (.int p3), .val (.int p4), .val (.int p5), .val (.int vk), .unset, .unset, .unset, .unset, .unset, .unset] [(.int (p1 - p3)), (.int (5 : Int32)), (.ref b4), (.ref b4)])) t → Steps p.tables e below (s₁.setTop (entryFrame m #[(.int p0), (.int p1), (.int p2), (.int p3), (.int p4), (.int p5)] maxLocals)) t := fun t kt => pre25 t (by
    show Steps p.tables e below (T24.setTop (mkF m 33 #[.val (.int p0), .val (.int p1), .val (.int p2), .val (.int p3), .val (.int p4), .val (.int p5), .val (.int vk), .unset, .unset, .unset, .unset, .unset, .unset] [(.ref b4)])) _
    refine XS.dup X24.here hx rfl (hb hby at_33) rfl rfl ?_
    show Steps p.tables e below (T24.setTop (mkF m 34 #[.val (.int p0), .val (.int p1), .val (.int p2), .val (.int p3), .val (.int p4), .val (.int p5), .val (.int vk), .unset, .unset, .unset, .unset, .unset, .unset] [(.ref b4), (.ref b4)])) _
    refine XS.iconst X24.here hx rfl (hb hby at_34) ?_
    show Steps p.tables e below (T24.setTop (mkF m 35 #[.val (.int p0), .val (.int p1), .val (.int p2), .val (.int p3), .val (.int p4), .val (.int p5), .val (.int vk), .unset, .unset, .unset, .unset, .unset, .unset] [(.int (5 : Int32)), (.ref b4), (.ref b4)])) _
    refine XS.iloadN X24.here hx rfl (hb hby at_35) rfl ?_
    show Steps p.tables e below (T24.setTop (mkF m 36 #[.val (.int p0), .val (.int p1), .val (.int p2), .val (.int p3), .val (.int p4), .val (.int p5), .val (.int vk), .unset, .unset, .unset, .unset, .unset, .unset] [(.int p1), (.int (5 : Int32)), (.ref b4), (.ref b4)])) _
    refine XS.iloadN X24.here hx rfl (hb hby at_36) rfl ?_
    show Steps p.tables e below (T24.setTop (mkF m 37 #[.val (.int p0), .val (.int p1), .val (.int p2), .val (.int p3), .val (.int p4), .val (.int p5), .val (.int vk), .unset, .unset, .unset, .unset, .unset, .unset] [(.int p3), (.int p1), (.int (5 : Int32)), (.ref b4), (.ref b4)])) _
    refine XS.isub X24.here hx rfl (hb hby at_37) rfl ?_
    exact kt)
  clear pre25
  have tv27 := V24
  obtain ⟨cl27, Ar27, q27, S27, Ng27, H27, G27⟩ := tv27
  have hin27 : ¬ ((5 : Int32) < 0 ∨ cl27.slots.size ≤ ((5 : Int32)).toNatClampNeg) := inb_of S27 ⟨by decide, by decide⟩
  obtain ⟨T28, h28, X28, e28, W28, st28⟩ := stI X24 hx hZ e24 Ar27 (j := (5 : Int32)) hin27 (g := (mkF m 38 #[.val (.int p0), .val (.int p1), .val (.int p2), .val (.int p3), .val (.int p4), .val (.int p5), .val (.int vk), .unset, .unset, .unset, .unset, .unset, .unset] [(.int (p1 - p3)), (.int (5 : Int32)), (.ref b4), (.ref b4)])) rfl rfl (hb hby at_38)
  have pre29 : ∀ t, Steps p.tables e below (T28.setTop (mkF m 39 #[.val (.int p0), .val (.int p1), .val (.int p2), .val (.int p3), .val (.int p4), .val (.int p5), .val (.int vk), .unset, .unset, .unset, .unset, .unset, .unset] [(.ref b4)])) t → Steps p.tables e below (s₁.setTop (entryFrame m #[(.int p0), (.int p1), (.int p2), (.int p3), (.int p4), (.int p5)] maxLocals)) t := fun t kt => pre26 t (st28 _ kt)
  clear pre26 st28
  have V28 : Arv Z h28 b4 k4 .int (8 : Int32) [(.int p0), (.int p1), (.int p2), (.int p3), (.int (p0 ^^^ p2)), (.int (p1 - p3)), (.int (0 : Int32)), (.int (0 : Int32))] (.int (0 : Int32)) := Arv.set Ar27 q27 S27 Ng27 H27 G27 rfl W28 5 rfl (Nat.le_of_ble_eq_true rfl)
  have K28 : Keep h0 h28 [] := K24.wr W28 (Or.inr sz4)
  have N28 := Fr.snoc X28 N24 gn4
  have Z28 : n0 ≤ h28.size := Nat.le_trans Z24 (Keep.of_wr W28).1
  have pre30 : ∀ t, Steps p.tables e below (T28.setTop (mkF m 45 #[.val (.int p0), .val (.int p1), .val (.int p2), .val (.int p3), .val (.int p4), .val (.int p5), .val (.int vk), .unset, .unset, .unset, .unset, .unset, .unset] [(.int (p0 + p1)), (.int (6 : Int32)), (.ref b4), (.ref b4)])) t → Steps p.tables e below (s₁.setTop (entryFrame m #[(.int p0), (.int p1), (.int p2), (.int p3), (.int p4), (.int p5)] maxLocals)) t := fun t kt => pre29 t (by
    show Steps p.tables e below (T28.setTop (mkF m 39 #[.val (.int p0), .val (.int p1), .val (.int p2), .val (.int p3), .val (.int p4), .val (.int p5), .val (.int vk), .unset, .unset, .unset, .unset, .unset, .unset] [(.ref b4)])) _
    refine XS.dup X28.here hx rfl (hb hby at_39) rfl rfl ?_
    show Steps p.tables e below (T28.setTop (mkF m 40 #[.val (.int p0), .val (.int p1), .val (.int p2), .val (.int p3), .val (.int p4), .val (.int p5), .val (.int vk), .unset, .unset, .unset, .unset, .unset, .unset] [(.ref b4), (.ref b4)])) _
    refine XS.bipush X28.here hx rfl (hb hby at_40) ?_
    show Steps p.tables e below (T28.setTop (mkF m 42 #[.val (.int p0), .val (.int p1), .val (.int p2), .val (.int p3), .val (.int p4), .val (.int p5), .val (.int vk), .unset, .unset, .unset, .unset, .unset, .unset] [(.int (6 : Int32)), (.ref b4), (.ref b4)])) _
    refine XS.iloadN X28.here hx rfl (hb hby at_42) rfl ?_
    show Steps p.tables e below (T28.setTop (mkF m 43 #[.val (.int p0), .val (.int p1), .val (.int p2), .val (.int p3), .val (.int p4), .val (.int p5), .val (.int vk), .unset, .unset, .unset, .unset, .unset, .unset] [(.int p0), (.int (6 : Int32)), (.ref b4), (.ref b4)])) _
    refine XS.iloadN X28.here hx rfl (hb hby at_43) rfl ?_
    show Steps p.tables e below (T28.setTop (mkF m 44 #[.val (.int p0), .val (.int p1), .val (.int p2), .val (.int p3), .val (.int p4), .val (.int p5), .val (.int vk), .unset, .unset, .unset, .unset, .unset, .unset] [(.int p1), (.int p0), (.int (6 : Int32)), (.ref b4), (.ref b4)])) _
    refine XS.iadd X28.here hx rfl (hb hby at_44) rfl ?_
    exact kt)
  clear pre29
  have tv31 := V28
  obtain ⟨cl31, Ar31, q31, S31, Ng31, H31, G31⟩ := tv31
  have hin31 : ¬ ((6 : Int32) < 0 ∨ cl31.slots.size ≤ ((6 : Int32)).toNatClampNeg) := inb_of S31 ⟨by decide, by decide⟩
  obtain ⟨T32, h32, X32, e32, W32, st32⟩ := stI X28 hx hZ e28 Ar31 (j := (6 : Int32)) hin31 (g := (mkF m 45 #[.val (.int p0), .val (.int p1), .val (.int p2), .val (.int p3), .val (.int p4), .val (.int p5), .val (.int vk), .unset, .unset, .unset, .unset, .unset, .unset] [(.int (p0 + p1)), (.int (6 : Int32)), (.ref b4), (.ref b4)])) rfl rfl (hb hby at_45)
  have pre33 : ∀ t, Steps p.tables e below (T32.setTop (mkF m 46 #[.val (.int p0), .val (.int p1), .val (.int p2), .val (.int p3), .val (.int p4), .val (.int p5), .val (.int vk), .unset, .unset, .unset, .unset, .unset, .unset] [(.ref b4)])) t → Steps p.tables e below (s₁.setTop (entryFrame m #[(.int p0), (.int p1), (.int p2), (.int p3), (.int p4), (.int p5)] maxLocals)) t := fun t kt => pre30 t (st32 _ kt)
  clear pre30 st32
  have V32 : Arv Z h32 b4 k4 .int (8 : Int32) [(.int p0), (.int p1), (.int p2), (.int p3), (.int (p0 ^^^ p2)), (.int (p1 - p3)), (.int (p0 + p1)), (.int (0 : Int32))] (.int (0 : Int32)) := Arv.set Ar31 q31 S31 Ng31 H31 G31 rfl W32 6 rfl (Nat.le_of_ble_eq_true rfl)
  have K32 : Keep h0 h32 [] := K28.wr W32 (Or.inr sz4)
  have N32 := Fr.snoc X32 N28 gn4
  have Z32 : n0 ≤ h32.size := Nat.le_trans Z28 (Keep.of_wr W32).1
  have pre34 : ∀ t, Steps p.tables e below (T32.setTop (mkF m 52 #[.val (.int p0), .val (.int p1), .val (.int p2), .val (.int p3), .val (.int p4), .val (.int p5), .val (.int vk), .unset, .unset, .unset, .unset, .unset, .unset] [(.int (p2 * p3)), (.int (7 : Int32)), (.ref b4), (.ref b4)])) t → Steps p.tables e below (s₁.setTop (entryFrame m #[(.int p0), (.int p1), (.int p2), (.int p3), (.int p4), (.int p5)] maxLocals)) t := fun t kt => pre33 t (by
    show Steps p.tables e below (T32.setTop (mkF m 46 #[.val (.int p0), .val (.int p1), .val (.int p2), .val (.int p3), .val (.int p4), .val (.int p5), .val (.int vk), .unset, .unset, .unset, .unset, .unset, .unset] [(.ref b4)])) _
    refine XS.dup X32.here hx rfl (hb hby at_46) rfl rfl ?_
    show Steps p.tables e below (T32.setTop (mkF m 47 #[.val (.int p0), .val (.int p1), .val (.int p2), .val (.int p3), .val (.int p4), .val (.int p5), .val (.int vk), .unset, .unset, .unset, .unset, .unset, .unset] [(.ref b4), (.ref b4)])) _
    refine XS.bipush X32.here hx rfl (hb hby at_47) ?_
    show Steps p.tables e below (T32.setTop (mkF m 49 #[.val (.int p0), .val (.int p1), .val (.int p2), .val (.int p3), .val (.int p4), .val (.int p5), .val (.int vk), .unset, .unset, .unset, .unset, .unset, .unset] [(.int (7 : Int32)), (.ref b4), (.ref b4)])) _
    refine XS.iloadN X32.here hx rfl (hb hby at_49) rfl ?_
    show Steps p.tables e below (T32.setTop (mkF m 50 #[.val (.int p0), .val (.int p1), .val (.int p2), .val (.int p3), .val (.int p4), .val (.int p5), .val (.int vk), .unset, .unset, .unset, .unset, .unset, .unset] [(.int p2), (.int (7 : Int32)), (.ref b4), (.ref b4)])) _
    refine XS.iloadN X32.here hx rfl (hb hby at_50) rfl ?_
    show Steps p.tables e below (T32.setTop (mkF m 51 #[.val (.int p0), .val (.int p1), .val (.int p2), .val (.int p3), .val (.int p4), .val (.int p5), .val (.int vk), .unset, .unset, .unset, .unset, .unset, .unset] [(.int p3), (.int p2), (.int (7 : Int32)), (.ref b4), (.ref b4)])) _
    refine XS.imul X32.here hx rfl (hb hby at_51) rfl ?_
    exact kt)
  clear pre33
  have tv35 := V32
  obtain ⟨cl35, Ar35, q35, S35, Ng35, H35, G35⟩ := tv35
  have hin35 : ¬ ((7 : Int32) < 0 ∨ cl35.slots.size ≤ ((7 : Int32)).toNatClampNeg) := inb_of S35 ⟨by decide, by decide⟩
  obtain ⟨T36, h36, X36, e36, W36, st36⟩ := stI X32 hx hZ e32 Ar35 (j := (7 : Int32)) hin35 (g := (mkF m 52 #[.val (.int p0), .val (.int p1), .val (.int p2), .val (.int p3), .val (.int p4), .val (.int p5), .val (.int vk), .unset, .unset, .unset, .unset, .unset, .unset] [(.int (p2 * p3)), (.int (7 : Int32)), (.ref b4), (.ref b4)])) rfl rfl (hb hby at_52)
  have pre37 : ∀ t, Steps p.tables e below (T36.setTop (mkF m 53 #[.val (.int p0), .val (.int p1), .val (.int p2), .val (.int p3), .val (.int p4), .val (.int p5), .val (.int vk), .unset, .unset, .unset, .unset, .unset, .unset] [(.ref b4)])) t → Steps p.tables e below (s₁.setTop (entryFrame m #[(.int p0), (.int p1), (.int p2), (.int p3), (.int p4), (.int p5)] maxLocals)) t := fun t kt => pre34 t (st36 _ kt)
  clear pre34 st36
  have V36 : Arv Z h36 b4 k4 .int (8 : Int32) [(.int p0), (.int p1), (.int p2), (.int p3), (.int (p0 ^^^ p2)), (.int (p1 - p3)), (.int (p0 + p1)), (.int (p2 * p3))] (.int (0 : Int32)) := Arv.set Ar35 q35 S35 Ng35 H35 G35 rfl W36 7 rfl (Nat.le_of_ble_eq_true rfl)
  have K36 : Keep h0 h36 [] := K32.wr W36 (Or.inr sz4)
  have N36 := Fr.snoc X36 N32 gn4
  have Z36 : n0 ≤ h36.size := Nat.le_trans Z32 (Keep.of_wr W36).1
  have pre38 : ∀ t, Steps p.tables e below (T36.setTop (mkF m 55 #[.val (.int p0), .val (.int p1), .val (.int p2), .val (.int p3), .val (.int p4), .val (.int p5), .val (.int vk), .val (.ref b4), .unset, .unset, .unset, .unset, .unset] [])) t → Steps p.tables e below (s₁.setTop (entryFrame m #[(.int p0), (.int p1), (.int p2), (.int p3), (.int p4), (.int p5)] maxLocals)) t := fun t kt => pre37 t (by
    show Steps p.tables e below (T36.setTop (mkF m 53 #[.val (.int p0), .val (.int p1), .val (.int p2), .val (.int p3), .val (.int p4), .val (.int p5), .val (.int vk), .unset, .unset, .unset, .unset, .unset, .unset] [(.ref b4)])) _
    refine XS.astore X36.here hx rfl (hb hby at_53) rfl rfl (l' := #[.val (.int p0), .val (.int p1), .val (.int p2), .val (.int p3), .val (.int p4), .val (.int p5), .val (.int vk), .val (.ref b4), .unset, .unset, .unset, .unset, .unset]) rfl ?_
    exact kt)
  clear pre37
  obtain ⟨T39, h39, X39, e39, E39, A39, D39, -, st39⟩ := newO X36 hx hZ hown (hw _ (List.mem_of_getElem? (i := 1) rfl)) (hw _ (List.mem_of_getElem? (i := 2) rfl)) (hw _ (List.mem_of_getElem? (i := 3) rfl)) e36 (g := (mkF m 55 #[.val (.int p0), .val (.int p1), .val (.int p2), .val (.int p3), .val (.int p4), .val (.int p5), .val (.int vk), .val (.ref b4), .unset, .unset, .unset, .unset, .unset] [])) rfl (hb hby at_55) (by decide) (by decide)
  obtain ⟨b39, g39⟩ : ∃ z, z = h36.size := ⟨_, rfl⟩
  rw [← g39] at A39 D39 st39
  have ne_b4_b39 : b4 ≠ b39 := Nat.ne_of_lt (Nat.lt_of_lt_of_le V36.lt (Nat.le_of_eq g39.symm))
  have pre40 : ∀ t, Steps p.tables e below (T39.setTop (mkF m 58 #[.val (.int p0), .val (.int p1), .val (.int p2), .val (.int p3), .val (.int p4), .val (.int p5), .val (.int vk), .val (.ref b4), .unset, .unset, .unset, .unset, .unset] [(.ref b39)])) t → Steps p.tables e below (s₁.setTop (entryFrame m #[(.int p0), (.int p1), (.int p2), (.int p3), (.int p4), (.int p5)] maxLocals)) t := fun t kt => pre38 t (st39 _ kt)
  clear pre38 st39
  have F41 : Arv Z h39 b4 k4 .int (8 : Int32) [(.int p0), (.int p1), (.int p2), (.int p3), (.int (p0 ^^^ p2)), (.int (p1 - p3)), (.int (p0 + p1)), (.int (p2 * p3))] (.int (0 : Int32)) := V36.ext E39
  have gn39 : n0 ≤ b39 := Nat.le_trans Z36 (Nat.le_of_eq g39.symm)
  have sz39 : h0.size ≤ b39 := Nat.le_trans K36.1 (Nat.le_of_eq g39.symm)
  have K39 : Keep h0 h39 [] := K36.ext E39
  have Z39 : n0 ≤ h39.size := Nat.le_trans Z36 E39.1
  have Fn39_blue : Fld Z h39 b39 "com/example/heptapolis/heptapolis/duel/Score" "blue" "I" (.int (0 : Int32)) := D39 (Or.inr (hw _ (List.mem_of_getElem? (i := 16) rfl))) (ty := .int) (by decide)
  have Fn39_green : Fld Z h39 b39 "com/example/heptapolis/heptapolis/duel/Score" "green" "I" (.int (0 : Int32)) := D39 (Or.inr (hw _ (List.mem_of_getElem? (i := 18) rfl))) (ty := .int) (by decide)
  have Fn39_yellow : Fld Z h39 b39 "com/example/heptapolis/heptapolis/duel/Score" "yellow" "I" (.int (0 : Int32)) := D39 (Or.inr (hw _ (List.mem_of_getElem? (i := 20) rfl))) (ty := .int) (by decide)
  have Fn39_purple : Fld Z h39 b39 "com/example/heptapolis/heptapolis/duel/Score" "purple" "I" (.int (0 : Int32)) := D39 (Or.inr (hw _ (List.mem_of_getElem? (i := 22) rfl))) (ty := .int) (by decide)
  have Fn39_wonders : Fld Z h39 b39 "com/example/heptapolis/heptapolis/duel/Score" "wonders" "I" (.int (0 : Int32)) := D39 (Or.inr (hw _ (List.mem_of_getElem? (i := 24) rfl))) (ty := .int) (by decide)
  have Fn39_progress : Fld Z h39 b39 "com/example/heptapolis/heptapolis/duel/Score" "progress" "I" (.int (0 : Int32)) := D39 (Or.inr (hw _ (List.mem_of_getElem? (i := 26) rfl))) (ty := .int) (by decide)
  have Fn39_coins : Fld Z h39 b39 "com/example/heptapolis/heptapolis/duel/Score" "coins" "I" (.int (0 : Int32)) := D39 (Or.inr (hw _ (List.mem_of_getElem? (i := 28) rfl))) (ty := .int) (by decide)
  have Fn39_military : Fld Z h39 b39 "com/example/heptapolis/heptapolis/duel/Score" "military" "I" (.int (0 : Int32)) := D39 (Or.inr (hw _ (List.mem_of_getElem? (i := 30) rfl))) (ty := .int) (by decide)
  have pre42 : ∀ t, Steps p.tables e below (T39.setTop (mkF m 62 #[.val (.int p0), .val (.int p1), .val (.int p2), .val (.int p3), .val (.int p4), .val (.int p5), .val (.int vk), .val (.ref b4), .unset, .unset, .unset, .unset, .unset] [(.int (0 : Int32)), (.ref b4), (.ref b39), (.ref b39)])) t → Steps p.tables e below (s₁.setTop (entryFrame m #[(.int p0), (.int p1), (.int p2), (.int p3), (.int p4), (.int p5)] maxLocals)) t := fun t kt => pre40 t (by
    show Steps p.tables e below (T39.setTop (mkF m 58 #[.val (.int p0), .val (.int p1), .val (.int p2), .val (.int p3), .val (.int p4), .val (.int p5), .val (.int vk), .val (.ref b4), .unset, .unset, .unset, .unset, .unset] [(.ref b39)])) _
    refine XS.dup X39.here hx rfl (hb hby at_58) rfl rfl ?_
    show Steps p.tables e below (T39.setTop (mkF m 59 #[.val (.int p0), .val (.int p1), .val (.int p2), .val (.int p3), .val (.int p4), .val (.int p5), .val (.int vk), .val (.ref b4), .unset, .unset, .unset, .unset, .unset] [(.ref b39), (.ref b39)])) _
    refine XS.aload X39.here hx rfl (hb hby at_59) rfl rfl ?_
    show Steps p.tables e below (T39.setTop (mkF m 61 #[.val (.int p0), .val (.int p1), .val (.int p2), .val (.int p3), .val (.int p4), .val (.int p5), .val (.int vk), .val (.ref b4), .unset, .unset, .unset, .unset, .unset] [(.ref b4), (.ref b39), (.ref b39)])) _
    refine XS.iconst X39.here hx rfl (hb hby at_61) ?_
    exact kt)
  clear pre40
  have tv43 := F41
  obtain ⟨cl43, Ar43, q43, S43, Ng43, H43, G43⟩ := tv43
  have hin43 : ¬ ((0 : Int32) < 0 ∨ cl43.slots.size ≤ ((0 : Int32)).toNatClampNeg) := inb_of S43 ⟨by decide, by decide⟩
  have hat43 : cl43.slots[((0 : Int32)).toNatClampNeg]? = some (.int p0) := Has.at H43 hin43 rfl
  have pre44 : ∀ t, Steps p.tables e below (T39.setTop (mkF m 66 #[.val (.int p0), .val (.int p1), .val (.int p2), .val (.int p3), .val (.int p4), .val (.int p5), .val (.int vk), .val (.ref b4), .unset, .unset, .unset, .unset, .unset] [(.int (1 : Int32)), (.ref b4), (.int p0), (.ref b39), (.ref b39)])) t → Steps p.tables e below (s₁.setTop (entryFrame m #[(.int p0), (.int p1), (.int p2), (.int p3), (.int p4), (.int p5)] maxLocals)) t := fun t kt => pre42 t (by
    show Steps p.tables e below (T39.setTop (mkF m 62 #[.val (.int p0), .val (.int p1), .val (.int p2), .val (.int p3), .val (.int p4), .val (.int p5), .val (.int vk), .val (.ref b4), .unset, .unset, .unset, .unset, .unset] [(.int (0 : Int32)), (.ref b4), (.ref b39), (.ref b39)])) _
    refine X39.iaload hx (j := (0 : Int32)) (v := (.int p0)) (by rw [e39]; exact Ar43.1) (State.isArrayOf_alike hZ.alike Ar43.2.1) Ar43.2.2 hin43 hat43 (g := (mkF m 62 #[.val (.int p0), .val (.int p1), .val (.int p2), .val (.int p3), .val (.int p4), .val (.int p5), .val (.int vk), .val (.ref b4), .unset, .unset, .unset, .unset, .unset] [(.int (0 : Int32)), (.ref b4), (.ref b39), (.ref b39)])) rfl rfl (hb hby at_62) _ ?_
    show Steps p.tables e below (T39.setTop (mkF m 63 #[.val (.int p0), .val (.int p1), .val (.int p2), .val (.int p3), .val (.int p4), .val (.int p5), .val (.int vk), .val (.ref b4), .unset, .unset, .unset, .unset, .unset] [(.int p0), (.ref b39), (.ref b39)])) _
    refine XS.aload X39.here hx rfl (hb hby at_63) rfl rfl ?_
    show Steps p.tables e below (T39.setTop (mkF m 65 #[.val (.int p0), .val (.int p1), .val (.int p2), .val (.int p3), .val (.int p4), .val (.int p5), .val (.int vk), .val (.ref b4), .unset, .unset, .unset, .unset, .unset] [(.ref b4), (.int p0), (.ref b39), (.ref b39)])) _
    refine XS.iconst X39.here hx rfl (hb hby at_65) ?_
    exact kt)
  clear pre42
  have tv45 := F41
  obtain ⟨cl45, Ar45, q45, S45, Ng45, H45, G45⟩ := tv45
  have hin45 : ¬ ((1 : Int32) < 0 ∨ cl45.slots.size ≤ ((1 : Int32)).toNatClampNeg) := inb_of S45 ⟨by decide, by decide⟩
  have hat45 : cl45.slots[((1 : Int32)).toNatClampNeg]? = some (.int p1) := Has.at H45 hin45 rfl
  have pre46 : ∀ t, Steps p.tables e below (T39.setTop (mkF m 70 #[.val (.int p0), .val (.int p1), .val (.int p2), .val (.int p3), .val (.int p4), .val (.int p5), .val (.int vk), .val (.ref b4), .unset, .unset, .unset, .unset, .unset] [(.int (2 : Int32)), (.ref b4), (.int p1), (.int p0), (.ref b39), (.ref b39)])) t → Steps p.tables e below (s₁.setTop (entryFrame m #[(.int p0), (.int p1), (.int p2), (.int p3), (.int p4), (.int p5)] maxLocals)) t := fun t kt => pre44 t (by
    show Steps p.tables e below (T39.setTop (mkF m 66 #[.val (.int p0), .val (.int p1), .val (.int p2), .val (.int p3), .val (.int p4), .val (.int p5), .val (.int vk), .val (.ref b4), .unset, .unset, .unset, .unset, .unset] [(.int (1 : Int32)), (.ref b4), (.int p0), (.ref b39), (.ref b39)])) _
    refine X39.iaload hx (j := (1 : Int32)) (v := (.int p1)) (by rw [e39]; exact Ar45.1) (State.isArrayOf_alike hZ.alike Ar45.2.1) Ar45.2.2 hin45 hat45 (g := (mkF m 66 #[.val (.int p0), .val (.int p1), .val (.int p2), .val (.int p3), .val (.int p4), .val (.int p5), .val (.int vk), .val (.ref b4), .unset, .unset, .unset, .unset, .unset] [(.int (1 : Int32)), (.ref b4), (.int p0), (.ref b39), (.ref b39)])) rfl rfl (hb hby at_66) _ ?_
    show Steps p.tables e below (T39.setTop (mkF m 67 #[.val (.int p0), .val (.int p1), .val (.int p2), .val (.int p3), .val (.int p4), .val (.int p5), .val (.int vk), .val (.ref b4), .unset, .unset, .unset, .unset, .unset] [(.int p1), (.int p0), (.ref b39), (.ref b39)])) _
    refine XS.aload X39.here hx rfl (hb hby at_67) rfl rfl ?_
    show Steps p.tables e below (T39.setTop (mkF m 69 #[.val (.int p0), .val (.int p1), .val (.int p2), .val (.int p3), .val (.int p4), .val (.int p5), .val (.int vk), .val (.ref b4), .unset, .unset, .unset, .unset, .unset] [(.ref b4), (.int p1), (.int p0), (.ref b39), (.ref b39)])) _
    refine XS.iconst X39.here hx rfl (hb hby at_69) ?_
    exact kt)
  clear pre44
  have tv47 := F41
  obtain ⟨cl47, Ar47, q47, S47, Ng47, H47, G47⟩ := tv47
  have hin47 : ¬ ((2 : Int32) < 0 ∨ cl47.slots.size ≤ ((2 : Int32)).toNatClampNeg) := inb_of S47 ⟨by decide, by decide⟩
  have hat47 : cl47.slots[((2 : Int32)).toNatClampNeg]? = some (.int p2) := Has.at H47 hin47 rfl
  have pre48 : ∀ t, Steps p.tables e below (T39.setTop (mkF m 74 #[.val (.int p0), .val (.int p1), .val (.int p2), .val (.int p3), .val (.int p4), .val (.int p5), .val (.int vk), .val (.ref b4), .unset, .unset, .unset, .unset, .unset] [(.int (3 : Int32)), (.ref b4), (.int p2), (.int p1), (.int p0), (.ref b39), (.ref b39)])) t → Steps p.tables e below (s₁.setTop (entryFrame m #[(.int p0), (.int p1), (.int p2), (.int p3), (.int p4), (.int p5)] maxLocals)) t := fun t kt => pre46 t (by
    show Steps p.tables e below (T39.setTop (mkF m 70 #[.val (.int p0), .val (.int p1), .val (.int p2), .val (.int p3), .val (.int p4), .val (.int p5), .val (.int vk), .val (.ref b4), .unset, .unset, .unset, .unset, .unset] [(.int (2 : Int32)), (.ref b4), (.int p1), (.int p0), (.ref b39), (.ref b39)])) _
    refine X39.iaload hx (j := (2 : Int32)) (v := (.int p2)) (by rw [e39]; exact Ar47.1) (State.isArrayOf_alike hZ.alike Ar47.2.1) Ar47.2.2 hin47 hat47 (g := (mkF m 70 #[.val (.int p0), .val (.int p1), .val (.int p2), .val (.int p3), .val (.int p4), .val (.int p5), .val (.int vk), .val (.ref b4), .unset, .unset, .unset, .unset, .unset] [(.int (2 : Int32)), (.ref b4), (.int p1), (.int p0), (.ref b39), (.ref b39)])) rfl rfl (hb hby at_70) _ ?_
    show Steps p.tables e below (T39.setTop (mkF m 71 #[.val (.int p0), .val (.int p1), .val (.int p2), .val (.int p3), .val (.int p4), .val (.int p5), .val (.int vk), .val (.ref b4), .unset, .unset, .unset, .unset, .unset] [(.int p2), (.int p1), (.int p0), (.ref b39), (.ref b39)])) _
    refine XS.aload X39.here hx rfl (hb hby at_71) rfl rfl ?_
    show Steps p.tables e below (T39.setTop (mkF m 73 #[.val (.int p0), .val (.int p1), .val (.int p2), .val (.int p3), .val (.int p4), .val (.int p5), .val (.int vk), .val (.ref b4), .unset, .unset, .unset, .unset, .unset] [(.ref b4), (.int p2), (.int p1), (.int p0), (.ref b39), (.ref b39)])) _
    refine XS.iconst X39.here hx rfl (hb hby at_73) ?_
    exact kt)
  clear pre46
  have tv49 := F41
  obtain ⟨cl49, Ar49, q49, S49, Ng49, H49, G49⟩ := tv49
  have hin49 : ¬ ((3 : Int32) < 0 ∨ cl49.slots.size ≤ ((3 : Int32)).toNatClampNeg) := inb_of S49 ⟨by decide, by decide⟩
  have hat49 : cl49.slots[((3 : Int32)).toNatClampNeg]? = some (.int p3) := Has.at H49 hin49 rfl
  have pre50 : ∀ t, Steps p.tables e below (T39.setTop (mkF m 78 #[.val (.int p0), .val (.int p1), .val (.int p2), .val (.int p3), .val (.int p4), .val (.int p5), .val (.int vk), .val (.ref b4), .unset, .unset, .unset, .unset, .unset] [(.int (4 : Int32)), (.ref b4), (.int p3), (.int p2), (.int p1), (.int p0), (.ref b39), (.ref b39)])) t → Steps p.tables e below (s₁.setTop (entryFrame m #[(.int p0), (.int p1), (.int p2), (.int p3), (.int p4), (.int p5)] maxLocals)) t := fun t kt => pre48 t (by
    show Steps p.tables e below (T39.setTop (mkF m 74 #[.val (.int p0), .val (.int p1), .val (.int p2), .val (.int p3), .val (.int p4), .val (.int p5), .val (.int vk), .val (.ref b4), .unset, .unset, .unset, .unset, .unset] [(.int (3 : Int32)), (.ref b4), (.int p2), (.int p1), (.int p0), (.ref b39), (.ref b39)])) _
    refine X39.iaload hx (j := (3 : Int32)) (v := (.int p3)) (by rw [e39]; exact Ar49.1) (State.isArrayOf_alike hZ.alike Ar49.2.1) Ar49.2.2 hin49 hat49 (g := (mkF m 74 #[.val (.int p0), .val (.int p1), .val (.int p2), .val (.int p3), .val (.int p4), .val (.int p5), .val (.int vk), .val (.ref b4), .unset, .unset, .unset, .unset, .unset] [(.int (3 : Int32)), (.ref b4), (.int p2), (.int p1), (.int p0), (.ref b39), (.ref b39)])) rfl rfl (hb hby at_74) _ ?_
    show Steps p.tables e below (T39.setTop (mkF m 75 #[.val (.int p0), .val (.int p1), .val (.int p2), .val (.int p3), .val (.int p4), .val (.int p5), .val (.int vk), .val (.ref b4), .unset, .unset, .unset, .unset, .unset] [(.int p3), (.int p2), (.int p1), (.int p0), (.ref b39), (.ref b39)])) _
    refine XS.aload X39.here hx rfl (hb hby at_75) rfl rfl ?_
    show Steps p.tables e below (T39.setTop (mkF m 77 #[.val (.int p0), .val (.int p1), .val (.int p2), .val (.int p3), .val (.int p4), .val (.int p5), .val (.int vk), .val (.ref b4), .unset, .unset, .unset, .unset, .unset] [(.ref b4), (.int p3), (.int p2), (.int p1), (.int p0), (.ref b39), (.ref b39)])) _
    refine XS.iconst X39.here hx rfl (hb hby at_77) ?_
    exact kt)
  clear pre48
  have tv51 := F41
  obtain ⟨cl51, Ar51, q51, S51, Ng51, H51, G51⟩ := tv51
  have hin51 : ¬ ((4 : Int32) < 0 ∨ cl51.slots.size ≤ ((4 : Int32)).toNatClampNeg) := inb_of S51 ⟨by decide, by decide⟩
  have hat51 : cl51.slots[((4 : Int32)).toNatClampNeg]? = some (.int (p0 ^^^ p2)) := Has.at H51 hin51 rfl
  have pre52 : ∀ t, Steps p.tables e below (T39.setTop (mkF m 82 #[.val (.int p0), .val (.int p1), .val (.int p2), .val (.int p3), .val (.int p4), .val (.int p5), .val (.int vk), .val (.ref b4), .unset, .unset, .unset, .unset, .unset] [(.int (5 : Int32)), (.ref b4), (.int (p0 ^^^ p2)), (.int p3), (.int p2), (.int p1), (.int p0), (.ref b39), (.ref b39)])) t → Steps p.tables e below (s₁.setTop (entryFrame m #[(.int p0), (.int p1), (.int p2), (.int p3), (.int p4), (.int p5)] maxLocals)) t := fun t kt => pre50 t (by
    show Steps p.tables e below (T39.setTop (mkF m 78 #[.val (.int p0), .val (.int p1), .val (.int p2), .val (.int p3), .val (.int p4), .val (.int p5), .val (.int vk), .val (.ref b4), .unset, .unset, .unset, .unset, .unset] [(.int (4 : Int32)), (.ref b4), (.int p3), (.int p2), (.int p1), (.int p0), (.ref b39), (.ref b39)])) _
    refine X39.iaload hx (j := (4 : Int32)) (v := (.int (p0 ^^^ p2))) (by rw [e39]; exact Ar51.1) (State.isArrayOf_alike hZ.alike Ar51.2.1) Ar51.2.2 hin51 hat51 (g := (mkF m 78 #[.val (.int p0), .val (.int p1), .val (.int p2), .val (.int p3), .val (.int p4), .val (.int p5), .val (.int vk), .val (.ref b4), .unset, .unset, .unset, .unset, .unset] [(.int (4 : Int32)), (.ref b4), (.int p3), (.int p2), (.int p1), (.int p0), (.ref b39), (.ref b39)])) rfl rfl (hb hby at_78) _ ?_
    show Steps p.tables e below (T39.setTop (mkF m 79 #[.val (.int p0), .val (.int p1), .val (.int p2), .val (.int p3), .val (.int p4), .val (.int p5), .val (.int vk), .val (.ref b4), .unset, .unset, .unset, .unset, .unset] [(.int (p0 ^^^ p2)), (.int p3), (.int p2), (.int p1), (.int p0), (.ref b39), (.ref b39)])) _
    refine XS.aload X39.here hx rfl (hb hby at_79) rfl rfl ?_
    show Steps p.tables e below (T39.setTop (mkF m 81 #[.val (.int p0), .val (.int p1), .val (.int p2), .val (.int p3), .val (.int p4), .val (.int p5), .val (.int vk), .val (.ref b4), .unset, .unset, .unset, .unset, .unset] [(.ref b4), (.int (p0 ^^^ p2)), (.int p3), (.int p2), (.int p1), (.int p0), (.ref b39), (.ref b39)])) _
    refine XS.iconst X39.here hx rfl (hb hby at_81) ?_
    exact kt)
  clear pre50
  have tv53 := F41
  obtain ⟨cl53, Ar53, q53, S53, Ng53, H53, G53⟩ := tv53
  have hin53 : ¬ ((5 : Int32) < 0 ∨ cl53.slots.size ≤ ((5 : Int32)).toNatClampNeg) := inb_of S53 ⟨by decide, by decide⟩
  have hat53 : cl53.slots[((5 : Int32)).toNatClampNeg]? = some (.int (p1 - p3)) := Has.at H53 hin53 rfl
  have pre54 : ∀ t, Steps p.tables e below (T39.setTop (mkF m 87 #[.val (.int p0), .val (.int p1), .val (.int p2), .val (.int p3), .val (.int p4), .val (.int p5), .val (.int vk), .val (.ref b4), .unset, .unset, .unset, .unset, .unset] [(.int (6 : Int32)), (.ref b4), (.int (p1 - p3)), (.int (p0 ^^^ p2)), (.int p3), (.int p2), (.int p1), (.int p0), (.ref b39), (.ref b39)])) t → Steps p.tables e below (s₁.setTop (entryFrame m #[(.int p0), (.int p1), (.int p2), (.int p3), (.int p4), (.int p5)] maxLocals)) t := fun t kt => pre52 t (by
    show Steps p.tables e below (T39.setTop (mkF m 82 #[.val (.int p0), .val (.int p1), .val (.int p2), .val (.int p3), .val (.int p4), .val (.int p5), .val (.int vk), .val (.ref b4), .unset, .unset, .unset, .unset, .unset] [(.int (5 : Int32)), (.ref b4), (.int (p0 ^^^ p2)), (.int p3), (.int p2), (.int p1), (.int p0), (.ref b39), (.ref b39)])) _
    refine X39.iaload hx (j := (5 : Int32)) (v := (.int (p1 - p3))) (by rw [e39]; exact Ar53.1) (State.isArrayOf_alike hZ.alike Ar53.2.1) Ar53.2.2 hin53 hat53 (g := (mkF m 82 #[.val (.int p0), .val (.int p1), .val (.int p2), .val (.int p3), .val (.int p4), .val (.int p5), .val (.int vk), .val (.ref b4), .unset, .unset, .unset, .unset, .unset] [(.int (5 : Int32)), (.ref b4), (.int (p0 ^^^ p2)), (.int p3), (.int p2), (.int p1), (.int p0), (.ref b39), (.ref b39)])) rfl rfl (hb hby at_82) _ ?_
    show Steps p.tables e below (T39.setTop (mkF m 83 #[.val (.int p0), .val (.int p1), .val (.int p2), .val (.int p3), .val (.int p4), .val (.int p5), .val (.int vk), .val (.ref b4), .unset, .unset, .unset, .unset, .unset] [(.int (p1 - p3)), (.int (p0 ^^^ p2)), (.int p3), (.int p2), (.int p1), (.int p0), (.ref b39), (.ref b39)])) _
    refine XS.aload X39.here hx rfl (hb hby at_83) rfl rfl ?_
    show Steps p.tables e below (T39.setTop (mkF m 85 #[.val (.int p0), .val (.int p1), .val (.int p2), .val (.int p3), .val (.int p4), .val (.int p5), .val (.int vk), .val (.ref b4), .unset, .unset, .unset, .unset, .unset] [(.ref b4), (.int (p1 - p3)), (.int (p0 ^^^ p2)), (.int p3), (.int p2), (.int p1), (.int p0), (.ref b39), (.ref b39)])) _
    refine XS.bipush X39.here hx rfl (hb hby at_85) ?_
    exact kt)
  clear pre52
  have tv55 := F41
  obtain ⟨cl55, Ar55, q55, S55, Ng55, H55, G55⟩ := tv55
  have hin55 : ¬ ((6 : Int32) < 0 ∨ cl55.slots.size ≤ ((6 : Int32)).toNatClampNeg) := inb_of S55 ⟨by decide, by decide⟩
  have hat55 : cl55.slots[((6 : Int32)).toNatClampNeg]? = some (.int (p0 + p1)) := Has.at H55 hin55 rfl
  have pre56 : ∀ t, Steps p.tables e below (T39.setTop (mkF m 92 #[.val (.int p0), .val (.int p1), .val (.int p2), .val (.int p3), .val (.int p4), .val (.int p5), .val (.int vk), .val (.ref b4), .unset, .unset, .unset, .unset, .unset] [(.int (7 : Int32)), (.ref b4), (.int (p0 + p1)), (.int (p1 - p3)), (.int (p0 ^^^ p2)), (.int p3), (.int p2), (.int p1), (.int p0), (.ref b39), (.ref b39)])) t → Steps p.tables e below (s₁.setTop (entryFrame m #[(.int p0), (.int p1), (.int p2), (.int p3), (.int p4), (.int p5)] maxLocals)) t := fun t kt => pre54 t (by
    show Steps p.tables e below (T39.setTop (mkF m 87 #[.val (.int p0), .val (.int p1), .val (.int p2), .val (.int p3), .val (.int p4), .val (.int p5), .val (.int vk), .val (.ref b4), .unset, .unset, .unset, .unset, .unset] [(.int (6 : Int32)), (.ref b4), (.int (p1 - p3)), (.int (p0 ^^^ p2)), (.int p3), (.int p2), (.int p1), (.int p0), (.ref b39), (.ref b39)])) _
    refine X39.iaload hx (j := (6 : Int32)) (v := (.int (p0 + p1))) (by rw [e39]; exact Ar55.1) (State.isArrayOf_alike hZ.alike Ar55.2.1) Ar55.2.2 hin55 hat55 (g := (mkF m 87 #[.val (.int p0), .val (.int p1), .val (.int p2), .val (.int p3), .val (.int p4), .val (.int p5), .val (.int vk), .val (.ref b4), .unset, .unset, .unset, .unset, .unset] [(.int (6 : Int32)), (.ref b4), (.int (p1 - p3)), (.int (p0 ^^^ p2)), (.int p3), (.int p2), (.int p1), (.int p0), (.ref b39), (.ref b39)])) rfl rfl (hb hby at_87) _ ?_
    show Steps p.tables e below (T39.setTop (mkF m 88 #[.val (.int p0), .val (.int p1), .val (.int p2), .val (.int p3), .val (.int p4), .val (.int p5), .val (.int vk), .val (.ref b4), .unset, .unset, .unset, .unset, .unset] [(.int (p0 + p1)), (.int (p1 - p3)), (.int (p0 ^^^ p2)), (.int p3), (.int p2), (.int p1), (.int p0), (.ref b39), (.ref b39)])) _
    refine XS.aload X39.here hx rfl (hb hby at_88) rfl rfl ?_
    show Steps p.tables e below (T39.setTop (mkF m 90 #[.val (.int p0), .val (.int p1), .val (.int p2), .val (.int p3), .val (.int p4), .val (.int p5), .val (.int vk), .val (.ref b4), .unset, .unset, .unset, .unset, .unset] [(.ref b4), (.int (p0 + p1)), (.int (p1 - p3)), (.int (p0 ^^^ p2)), (.int p3), (.int p2), (.int p1), (.int p0), (.ref b39), (.ref b39)])) _
    refine XS.bipush X39.here hx rfl (hb hby at_90) ?_
    exact kt)
  clear pre54
  have tv57 := F41
  obtain ⟨cl57, Ar57, q57, S57, Ng57, H57, G57⟩ := tv57
  have hin57 : ¬ ((7 : Int32) < 0 ∨ cl57.slots.size ≤ ((7 : Int32)).toNatClampNeg) := inb_of S57 ⟨by decide, by decide⟩
  have hat57 : cl57.slots[((7 : Int32)).toNatClampNeg]? = some (.int (p2 * p3)) := Has.at H57 hin57 rfl
  have pre58 : ∀ t, Steps p.tables e below (T39.setTop (mkF m 93 #[.val (.int p0), .val (.int p1), .val (.int p2), .val (.int p3), .val (.int p4), .val (.int p5), .val (.int vk), .val (.ref b4), .unset, .unset, .unset, .unset, .unset] [(.int (p2 * p3)), (.int (p0 + p1)), (.int (p1 - p3)), (.int (p0 ^^^ p2)), (.int p3), (.int p2), (.int p1), (.int p0), (.ref b39), (.ref b39)])) t → Steps p.tables e below (s₁.setTop (entryFrame m #[(.int p0), (.int p1), (.int p2), (.int p3), (.int p4), (.int p5)] maxLocals)) t := fun t kt => pre56 t (by
    show Steps p.tables e below (T39.setTop (mkF m 92 #[.val (.int p0), .val (.int p1), .val (.int p2), .val (.int p3), .val (.int p4), .val (.int p5), .val (.int vk), .val (.ref b4), .unset, .unset, .unset, .unset, .unset] [(.int (7 : Int32)), (.ref b4), (.int (p0 + p1)), (.int (p1 - p3)), (.int (p0 ^^^ p2)), (.int p3), (.int p2), (.int p1), (.int p0), (.ref b39), (.ref b39)])) _
    refine X39.iaload hx (j := (7 : Int32)) (v := (.int (p2 * p3))) (by rw [e39]; exact Ar57.1) (State.isArrayOf_alike hZ.alike Ar57.2.1) Ar57.2.2 hin57 hat57 (g := (mkF m 92 #[.val (.int p0), .val (.int p1), .val (.int p2), .val (.int p3), .val (.int p4), .val (.int p5), .val (.int vk), .val (.ref b4), .unset, .unset, .unset, .unset, .unset] [(.int (7 : Int32)), (.ref b4), (.int (p0 + p1)), (.int (p1 - p3)), (.int (p0 ^^^ p2)), (.int p3), (.int p2), (.int p1), (.int p0), (.ref b39), (.ref b39)])) rfl rfl (hb hby at_92) _ ?_
    exact kt)
  clear pre56
  obtain ⟨_, _, ⟨T59, L59, k59, n59⟩, -, X59, ⟨Lc59, hQ59, l59, y59, z59⟩, st59⟩ := X39.specialBack hx (y := (⟨"com/example/heptapolis/heptapolis/duel/Score", "<init>", "(IIIIIIII)V"⟩ : MethodName)) rfl hown (mvT hZ (hw _ (List.mem_of_getElem? (i := 4) rfl))) (mvT hZ (hw _ (List.mem_of_getElem? (i := 5) rfl))) (mvT hZ (hw _ (List.mem_of_getElem? (i := 6) rfl))) (by decide) (backOf (W := 1) (rm1 l Z av hw [] b39 p0 p1 p2 p3 (p0 ^^^ p2) (p1 - p3) (p0 + p1) (p2 * p3)  h39 n0 Z39 A39 gn39 Fn39_blue Fn39_green Fn39_yellow Fn39_purple Fn39_wonders Fn39_progress Fn39_coins Fn39_military) hZ (hw _ (List.mem_of_getElem? (i := 6) rfl)) (hw _ (List.mem_of_getElem? (i := 3) rfl)) (by decide) (by decide)) (g := (mkF m 93 #[.val (.int p0), .val (.int p1), .val (.int p2), .val (.int p3), .val (.int p4), .val (.int p5), .val (.int vk), .val (.ref b4), .unset, .unset, .unset, .unset, .unset] [(.int (p2 * p3)), (.int (p0 + p1)), (.int (p1 - p3)), (.int (p0 ^^^ p2)), (.int p3), (.int p2), (.int p1), (.int p0), (.ref b39), (.ref b39)])) rfl (by rw [hml]; rfl) (Steps.refl _) (a := b39) (argsL := [(.int p0), (.int p1), (.int p2), (.int p3), (.int (p0 ^^^ p2)), (.int (p1 - p3)), (.int (p0 + p1)), (.int (p2 * p3))]) (rest := [(.ref b39)]) (lenOf pd__IIIIIIII_V rfl) rfl (by show 2 * 0 + _ ≤ _; exact Nat.le_of_eq rfl) (hb hby at_93) (fun _ _ => ⟨rfl, e39, (by decide : 2 + 0 ≤ _), (by decide : 16 + 0 ≤ _)⟩)
  dsimp only [Pt.U, Pt.locs, Pt.cells, Pt.slots] at X59 l59 y59 z59 st59 hQ59
  rw [l59, y59, z59] at X59
  clear l59 y59 z59
  obtain ⟨rfl, N59q, Kq59, Fq59_0, Fq59_1, Fq59_2, Fq59_3, Fq59_4, Fq59_5, Fq59_6, Fq59_7, Fq59_8⟩ := hQ59
  have N59 := Fr.app N36 N59q
  have F60 : Arv Z T59.heap b4 k4 .int (8 : Int32) [(.int p0), (.int p1), (.int p2), (.int p3), (.int (p0 ^^^ p2)), (.int (p1 - p3)), (.int (p0 + p1)), (.int (p2 * p3))] (.int (0 : Int32)) := F41.keep Kq59 (ninS ne_b4_b39 nin0)
  have K59 : Keep h0 T59.heap [] := K39.trans Kq59 (allS (Or.inr sz39) all0)
  have Z59 : n0 ≤ T59.heap.size := Nat.le_trans Z39 Kq59.1
  have Fq59_0' : Exa Z T59.heap b39 "com/example/heptapolis/heptapolis/duel/Score" := Fq59_0
  have Fq59_1' : Fld Z T59.heap b39 "com/example/heptapolis/heptapolis/duel/Score" "blue" "I" (.int p0) := Fq59_1
  have Fq59_2' : Fld Z T59.heap b39 "com/example/heptapolis/heptapolis/duel/Score" "green" "I" (.int p1) := Fq59_2
  have Fq59_3' : Fld Z T59.heap b39 "com/example/heptapolis/heptapolis/duel/Score" "yellow" "I" (.int p2) := Fq59_3
  have Fq59_4' : Fld Z T59.heap b39 "com/example/heptapolis/heptapolis/duel/Score" "purple" "I" (.int p3) := Fq59_4
  have Fq59_5' : Fld Z T59.heap b39 "com/example/heptapolis/heptapolis/duel/Score" "wonders" "I" (.int (p0 ^^^ p2)) := Fq59_5
  have Fq59_6' : Fld Z T59.heap b39 "com/example/heptapolis/heptapolis/duel/Score" "progress" "I" (.int (p1 - p3)) := Fq59_6
  have Fq59_7' : Fld Z T59.heap b39 "com/example/heptapolis/heptapolis/duel/Score" "coins" "I" (.int (p0 + p1)) := Fq59_7
  have Fq59_8' : Fld Z T59.heap b39 "com/example/heptapolis/heptapolis/duel/Score" "military" "I" (.int (p2 * p3)) := Fq59_8
  have pre61 : ∀ t, Steps p.tables e below (T59.setTop (mkF m 96 #[.val (.int p0), .val (.int p1), .val (.int p2), .val (.int p3), .val (.int p4), .val (.int p5), .val (.int vk), .val (.ref b4), .unset, .unset, .unset, .unset, .unset] [(.ref b39)])) t → Steps p.tables e below (s₁.setTop (entryFrame m #[(.int p0), (.int p1), (.int p2), (.int p3), (.int p4), (.int p5)] maxLocals)) t := fun t kt => pre58 t (st59.trans kt)
  clear pre58 st59
  have pre62 : ∀ t, Steps p.tables e below (T59.setTop (mkF m 98 #[.val (.int p0), .val (.int p1), .val (.int p2), .val (.int p3), .val (.int p4), .val (.int p5), .val (.int vk), .val (.ref b4), .val (.ref b39), .unset, .unset, .unset, .unset] [])) t → Steps p.tables e below (s₁.setTop (entryFrame m #[(.int p0), (.int p1), (.int p2), (.int p3), (.int p4), (.int p5)] maxLocals)) t := fun t kt => pre61 t (by
    show Steps p.tables e below (T59.setTop (mkF m 96 #[.val (.int p0), .val (.int p1), .val (.int p2), .val (.int p3), .val (.int p4), .val (.int p5), .val (.int vk), .val (.ref b4), .unset, .unset, .unset, .unset, .unset] [(.ref b39)])) _
    refine XS.astore X59.here hx rfl (hb hby at_96) rfl rfl (l' := #[.val (.int p0), .val (.int p1), .val (.int p2), .val (.int p3), .val (.int p4), .val (.int p5), .val (.int vk), .val (.ref b4), .val (.ref b39), .unset, .unset, .unset, .unset]) rfl ?_
    exact kt)
  clear pre61
  obtain ⟨T63, h63, X63, e63, E63, A63, D63, -, st63⟩ := newO X59 hx hZ hown (hw _ (List.mem_of_getElem? (i := 1) rfl)) (hw _ (List.mem_of_getElem? (i := 2) rfl)) (hw _ (List.mem_of_getElem? (i := 3) rfl)) rfl (g := (mkF m 98 #[.val (.int p0), .val (.int p1), .val (.int p2), .val (.int p3), .val (.int p4), .val (.int p5), .val (.int vk), .val (.ref b4), .val (.ref b39), .unset, .unset, .unset, .unset] [])) rfl (hb hby at_98) (by decide) (by decide)
  obtain ⟨b63, g63⟩ : ∃ z, z = T59.heap.size := ⟨_, rfl⟩
  rw [← g63] at A63 D63 st63
  have ne_b4_b63 : b4 ≠ b63 := Nat.ne_of_lt (Nat.lt_of_lt_of_le F60.lt (Nat.le_of_eq g63.symm))
  have ne_b39_b63 : b39 ≠ b63 := Nat.ne_of_lt (Nat.lt_of_lt_of_le Fq59_0'.lt (Nat.le_of_eq g63.symm))
  have pre64 : ∀ t, Steps p.tables e below (T63.setTop (mkF m 101 #[.val (.int p0), .val (.int p1), .val (.int p2), .val (.int p3), .val (.int p4), .val (.int p5), .val (.int vk), .val (.ref b4), .val (.ref b39), .unset, .unset, .unset, .unset] [(.ref b63)])) t → Steps p.tables e below (s₁.setTop (entryFrame m #[(.int p0), (.int p1), (.int p2), (.int p3), (.int p4), (.int p5)] maxLocals)) t := fun t kt => pre62 t (st63 _ kt)
  clear pre62 st63
  have F65 : Arv Z h63 b4 k4 .int (8 : Int32) [(.int p0), (.int p1), (.int p2), (.int p3), (.int (p0 ^^^ p2)), (.int (p1 - p3)), (.int (p0 + p1)), (.int (p2 * p3))] (.int (0 : Int32)) := F60.ext E63
  have F66 : Exa Z h63 b39 "com/example/heptapolis/heptapolis/duel/Score" := Fq59_0'.ext E63
  have F67 : Fld Z h63 b39 "com/example/heptapolis/heptapolis/duel/Score" "blue" "I" (.int p0) := Fq59_1'.ext E63
  have F68 : Fld Z h63 b39 "com/example/heptapolis/heptapolis/duel/Score" "green" "I" (.int p1) := Fq59_2'.ext E63
  have F69 : Fld Z h63 b39 "com/example/heptapolis/heptapolis/duel/Score" "yellow" "I" (.int p2) := Fq59_3'.ext E63
  have F70 : Fld Z h63 b39 "com/example/heptapolis/heptapolis/duel/Score" "purple" "I" (.int p3) := Fq59_4'.ext E63
  have F71 : Fld Z h63 b39 "com/example/heptapolis/heptapolis/duel/Score" "wonders" "I" (.int (p0 ^^^ p2)) := Fq59_5'.ext E63
  have F72 : Fld Z h63 b39 "com/example/heptapolis/heptapolis/duel/Score" "progress" "I" (.int (p1 - p3)) := Fq59_6'.ext E63
  have F73 : Fld Z h63 b39 "com/example/heptapolis/heptapolis/duel/Score" "coins" "I" (.int (p0 + p1)) := Fq59_7'.ext E63
  have F74 : Fld Z h63 b39 "com/example/heptapolis/heptapolis/duel/Score" "military" "I" (.int (p2 * p3)) := Fq59_8'.ext E63
  have gn63 : n0 ≤ b63 := Nat.le_trans Z59 (Nat.le_of_eq g63.symm)
  have sz63 : h0.size ≤ b63 := Nat.le_trans K59.1 (Nat.le_of_eq g63.symm)
  have K63 : Keep h0 h63 [] := K59.ext E63
  have Z63 : n0 ≤ h63.size := Nat.le_trans Z59 E63.1
  have Fn63_blue : Fld Z h63 b63 "com/example/heptapolis/heptapolis/duel/Score" "blue" "I" (.int (0 : Int32)) := D63 (Or.inr (hw _ (List.mem_of_getElem? (i := 16) rfl))) (ty := .int) (by decide)
  have Fn63_green : Fld Z h63 b63 "com/example/heptapolis/heptapolis/duel/Score" "green" "I" (.int (0 : Int32)) := D63 (Or.inr (hw _ (List.mem_of_getElem? (i := 18) rfl))) (ty := .int) (by decide)
  have Fn63_yellow : Fld Z h63 b63 "com/example/heptapolis/heptapolis/duel/Score" "yellow" "I" (.int (0 : Int32)) := D63 (Or.inr (hw _ (List.mem_of_getElem? (i := 20) rfl))) (ty := .int) (by decide)
  have Fn63_purple : Fld Z h63 b63 "com/example/heptapolis/heptapolis/duel/Score" "purple" "I" (.int (0 : Int32)) := D63 (Or.inr (hw _ (List.mem_of_getElem? (i := 22) rfl))) (ty := .int) (by decide)
  have Fn63_wonders : Fld Z h63 b63 "com/example/heptapolis/heptapolis/duel/Score" "wonders" "I" (.int (0 : Int32)) := D63 (Or.inr (hw _ (List.mem_of_getElem? (i := 24) rfl))) (ty := .int) (by decide)
  have Fn63_progress : Fld Z h63 b63 "com/example/heptapolis/heptapolis/duel/Score" "progress" "I" (.int (0 : Int32)) := D63 (Or.inr (hw _ (List.mem_of_getElem? (i := 26) rfl))) (ty := .int) (by decide)
  have Fn63_coins : Fld Z h63 b63 "com/example/heptapolis/heptapolis/duel/Score" "coins" "I" (.int (0 : Int32)) := D63 (Or.inr (hw _ (List.mem_of_getElem? (i := 28) rfl))) (ty := .int) (by decide)
  have Fn63_military : Fld Z h63 b63 "com/example/heptapolis/heptapolis/duel/Score" "military" "I" (.int (0 : Int32)) := D63 (Or.inr (hw _ (List.mem_of_getElem? (i := 30) rfl))) (ty := .int) (by decide)
  have pre75 : ∀ t, Steps p.tables e below (T63.setTop (mkF m 105 #[.val (.int p0), .val (.int p1), .val (.int p2), .val (.int p3), .val (.int p4), .val (.int p5), .val (.int vk), .val (.ref b4), .val (.ref b39), .unset, .unset, .unset, .unset] [(.int (0 : Int32)), (.ref b4), (.ref b63), (.ref b63)])) t → Steps p.tables e below (s₁.setTop (entryFrame m #[(.int p0), (.int p1), (.int p2), (.int p3), (.int p4), (.int p5)] maxLocals)) t := fun t kt => pre64 t (by
    show Steps p.tables e below (T63.setTop (mkF m 101 #[.val (.int p0), .val (.int p1), .val (.int p2), .val (.int p3), .val (.int p4), .val (.int p5), .val (.int vk), .val (.ref b4), .val (.ref b39), .unset, .unset, .unset, .unset] [(.ref b63)])) _
    refine XS.dup X63.here hx rfl (hb hby at_101) rfl rfl ?_
    show Steps p.tables e below (T63.setTop (mkF m 102 #[.val (.int p0), .val (.int p1), .val (.int p2), .val (.int p3), .val (.int p4), .val (.int p5), .val (.int vk), .val (.ref b4), .val (.ref b39), .unset, .unset, .unset, .unset] [(.ref b63), (.ref b63)])) _
    refine XS.aload X63.here hx rfl (hb hby at_102) rfl rfl ?_
    show Steps p.tables e below (T63.setTop (mkF m 104 #[.val (.int p0), .val (.int p1), .val (.int p2), .val (.int p3), .val (.int p4), .val (.int p5), .val (.int vk), .val (.ref b4), .val (.ref b39), .unset, .unset, .unset, .unset] [(.ref b4), (.ref b63), (.ref b63)])) _
    refine XS.iconst X63.here hx rfl (hb hby at_104) ?_
    exact kt)
  clear pre64
  have tv76 := F65
  obtain ⟨cl76, Ar76, q76, S76, Ng76, H76, G76⟩ := tv76
  have hin76 : ¬ ((0 : Int32) < 0 ∨ cl76.slots.size ≤ ((0 : Int32)).toNatClampNeg) := inb_of S76 ⟨by decide, by decide⟩
  have hat76 : cl76.slots[((0 : Int32)).toNatClampNeg]? = some (.int p0) := Has.at H76 hin76 rfl
  have pre77 : ∀ t, Steps p.tables e below (T63.setTop (mkF m 111 #[.val (.int p0), .val (.int p1), .val (.int p2), .val (.int p3), .val (.int p4), .val (.int p5), .val (.int vk), .val (.ref b4), .val (.ref b39), .unset, .unset, .unset, .unset] [(.int p5), (.int (0 : Int32)), (.int vk), (.int p0), (.ref b63), (.ref b63)])) t → Steps p.tables e below (s₁.setTop (entryFrame m #[(.int p0), (.int p1), (.int p2), (.int p3), (.int p4), (.int p5)] maxLocals)) t := fun t kt => pre75 t (by
    show Steps p.tables e below (T63.setTop (mkF m 105 #[.val (.int p0), .val (.int p1), .val (.int p2), .val (.int p3), .val (.int p4), .val (.int p5), .val (.int vk), .val (.ref b4), .val (.ref b39), .unset, .unset, .unset, .unset] [(.int (0 : Int32)), (.ref b4), (.ref b63), (.ref b63)])) _
    refine X63.iaload hx (j := (0 : Int32)) (v := (.int p0)) (by rw [e63]; exact Ar76.1) (State.isArrayOf_alike hZ.alike Ar76.2.1) Ar76.2.2 hin76 hat76 (g := (mkF m 105 #[.val (.int p0), .val (.int p1), .val (.int p2), .val (.int p3), .val (.int p4), .val (.int p5), .val (.int vk), .val (.ref b4), .val (.ref b39), .unset, .unset, .unset, .unset] [(.int (0 : Int32)), (.ref b4), (.ref b63), (.ref b63)])) rfl rfl (hb hby at_105) _ ?_
    show Steps p.tables e below (T63.setTop (mkF m 106 #[.val (.int p0), .val (.int p1), .val (.int p2), .val (.int p3), .val (.int p4), .val (.int p5), .val (.int vk), .val (.ref b4), .val (.ref b39), .unset, .unset, .unset, .unset] [(.int p0), (.ref b63), (.ref b63)])) _
    refine XS.iload X63.here hx rfl (hb hby at_106) rfl ?_
    show Steps p.tables e below (T63.setTop (mkF m 108 #[.val (.int p0), .val (.int p1), .val (.int p2), .val (.int p3), .val (.int p4), .val (.int p5), .val (.int vk), .val (.ref b4), .val (.ref b39), .unset, .unset, .unset, .unset] [(.int vk), (.int p0), (.ref b63), (.ref b63)])) _
    refine XS.iconst X63.here hx rfl (hb hby at_108) ?_
    show Steps p.tables e below (T63.setTop (mkF m 109 #[.val (.int p0), .val (.int p1), .val (.int p2), .val (.int p3), .val (.int p4), .val (.int p5), .val (.int vk), .val (.ref b4), .val (.ref b39), .unset, .unset, .unset, .unset] [(.int (0 : Int32)), (.int vk), (.int p0), (.ref b63), (.ref b63)])) _
    refine XS.iload X63.here hx rfl (hb hby at_109) rfl ?_
    exact kt)
  clear pre75
  obtain ⟨_, _, ⟨T78, L78, k78, n78⟩, -, X78, ⟨Lc78, hQ78, l78, y78, z78⟩, st78⟩ := Jvm.LawKit.callS X63 hx (y := (⟨"com/example/heptapolis/heptapolis/duel/ScoreTotalPinLaw", "e", "(III)I"⟩ : MethodName)) hown (mvT hZ (hw _ (List.mem_of_getElem? (i := 31) rfl))) (mvT hZ (hw _ (List.mem_of_getElem? (i := 32) rfl))) (mvT hZ (hw _ (List.mem_of_getElem? (i := 33) rfl))) (mvT hZ (hw _ (List.mem_of_getElem? (i := 34) rfl))) (by decide) (backOf (W := 3) (rm4 l Z av hw [] vk (0 : Int32) p5  h63 n0 Z63 ) hZ (hw _ (List.mem_of_getElem? (i := 34) rfl)) (hw _ (List.mem_of_getElem? (i := 33) rfl)) (by decide) (by decide)) (g := (mkF m 111 #[.val (.int p0), .val (.int p1), .val (.int p2), .val (.int p3), .val (.int p4), .val (.int p5), .val (.int vk), .val (.ref b4), .val (.ref b39), .unset, .unset, .unset, .unset] [(.int p5), (.int (0 : Int32)), (.int vk), (.int p0), (.ref b63), (.ref b63)])) rfl (by rw [hml]; rfl) (argsL := [(.int vk), (.int (0 : Int32)), (.int p5)]) (rest := [(.int p0), (.ref b63), (.ref b63)]) (lenOf pd__III_I rfl) rfl (by show 2 * 0 + _ ≤ _; exact Nat.le_of_eq rfl) (hb hby at_111) (fun _ _ => ⟨rfl, e63, (by decide : 3 + 0 ≤ _), (by decide : 24 + 0 ≤ _)⟩)
  dsimp only [Pt.U, Pt.locs, Pt.cells, Pt.slots] at X78 l78 y78 z78 st78 hQ78
  rw [l78, y78, z78] at X78
  clear l78 y78 z78
  obtain ⟨rfl, N78q, e78⟩ := hQ78
  have N78 := Fr.app N59 N78q
  have pre79 : ∀ t, Steps p.tables e below (T78.setTop (mkF m 114 #[.val (.int p0), .val (.int p1), .val (.int p2), .val (.int p3), .val (.int p4), .val (.int p5), .val (.int vk), .val (.ref b4), .val (.ref b39), .unset, .unset, .unset, .unset] [(.int (f_e vk (0 : Int32) p5)), (.int p0), (.ref b63), (.ref b63)])) t → Steps p.tables e below (s₁.setTop (entryFrame m #[(.int p0), (.int p1), (.int p2), (.int p3), (.int p4), (.int p5)] maxLocals)) t := fun t kt => pre77 t (st78 _ kt)
  clear pre77 st78
  obtain ⟨ee80, hm81, pre81⟩ : ∃ (ee80 : Int32), (ee80 = (f_e vk (0 : Int32) p5)) ∧ ∀ t, Steps p.tables e below (T78.setTop (mkF m 114 #[.val (.int p0), .val (.int p1), .val (.int p2), .val (.int p3), .val (.int p4), .val (.int p5), .val (.int vk), .val (.ref b4), .val (.ref b39), .unset, .unset, .unset, .unset] [(.int ee80), (.int p0), (.ref b63), (.ref b63)])) t → Steps p.tables e below (s₁.setTop (entryFrame m #[(.int p0), (.int p1), (.int p2), (.int p3), (.int p4), (.int p5)] maxLocals)) t := ⟨(f_e vk (0 : Int32) p5), rfl, pre79⟩
  clear pre79
  have pre82 : ∀ t, Steps p.tables e below (T78.setTop (mkF m 118 #[.val (.int p0), .val (.int p1), .val (.int p2), .val (.int p3), .val (.int p4), .val (.int p5), .val (.int vk), .val (.ref b4), .val (.ref b39), .unset, .unset, .unset, .unset] [(.int (1 : Int32)), (.ref b4), (.int (p0 + ee80)), (.ref b63), (.ref b63)])) t → Steps p.tables e below (s₁.setTop (entryFrame m #[(.int p0), (.int p1), (.int p2), (.int p3), (.int p4), (.int p5)] maxLocals)) t := fun t kt => pre81 t (by
    show Steps p.tables e below (T78.setTop (mkF m 114 #[.val (.int p0), .val (.int p1), .val (.int p2), .val (.int p3), .val (.int p4), .val (.int p5), .val (.int vk), .val (.ref b4), .val (.ref b39), .unset, .unset, .unset, .unset] [(.int ee80), (.int p0), (.ref b63), (.ref b63)])) _
    refine XS.iadd X78.here hx rfl (hb hby at_114) rfl ?_
    show Steps p.tables e below (T78.setTop (mkF m 115 #[.val (.int p0), .val (.int p1), .val (.int p2), .val (.int p3), .val (.int p4), .val (.int p5), .val (.int vk), .val (.ref b4), .val (.ref b39), .unset, .unset, .unset, .unset] [(.int (p0 + ee80)), (.ref b63), (.ref b63)])) _
    refine XS.aload X78.here hx rfl (hb hby at_115) rfl rfl ?_
    show Steps p.tables e below (T78.setTop (mkF m 117 #[.val (.int p0), .val (.int p1), .val (.int p2), .val (.int p3), .val (.int p4), .val (.int p5), .val (.int vk), .val (.ref b4), .val (.ref b39), .unset, .unset, .unset, .unset] [(.ref b4), (.int (p0 + ee80)), (.ref b63), (.ref b63)])) _
    refine XS.iconst X78.here hx rfl (hb hby at_117) ?_
    exact kt)
  clear pre81
  have tv83 := F65
  obtain ⟨cl83, Ar83, q83, S83, Ng83, H83, G83⟩ := tv83
  have hin83 : ¬ ((1 : Int32) < 0 ∨ cl83.slots.size ≤ ((1 : Int32)).toNatClampNeg) := inb_of S83 ⟨by decide, by decide⟩
  have hat83 : cl83.slots[((1 : Int32)).toNatClampNeg]? = some (.int p1) := Has.at H83 hin83 rfl
  have pre84 : ∀ t, Steps p.tables e below (T78.setTop (mkF m 124 #[.val (.int p0), .val (.int p1), .val (.int p2), .val (.int p3), .val (.int p4), .val (.int p5), .val (.int vk), .val (.ref b4), .val (.ref b39), .unset, .unset, .unset, .unset] [(.int p5), (.int (1 : Int32)), (.int vk), (.int p1), (.int (p0 + ee80)), (.ref b63), (.ref b63)])) t → Steps p.tables e below (s₁.setTop (entryFrame m #[(.int p0), (.int p1), (.int p2), (.int p3), (.int p4), (.int p5)] maxLocals)) t := fun t kt => pre82 t (by
    show Steps p.tables e below (T78.setTop (mkF m 118 #[.val (.int p0), .val (.int p1), .val (.int p2), .val (.int p3), .val (.int p4), .val (.int p5), .val (.int vk), .val (.ref b4), .val (.ref b39), .unset, .unset, .unset, .unset] [(.int (1 : Int32)), (.ref b4), (.int (p0 + ee80)), (.ref b63), (.ref b63)])) _
    refine X78.iaload hx (j := (1 : Int32)) (v := (.int p1)) (by rw [e78]; exact Ar83.1) (State.isArrayOf_alike hZ.alike Ar83.2.1) Ar83.2.2 hin83 hat83 (g := (mkF m 118 #[.val (.int p0), .val (.int p1), .val (.int p2), .val (.int p3), .val (.int p4), .val (.int p5), .val (.int vk), .val (.ref b4), .val (.ref b39), .unset, .unset, .unset, .unset] [(.int (1 : Int32)), (.ref b4), (.int (p0 + ee80)), (.ref b63), (.ref b63)])) rfl rfl (hb hby at_118) _ ?_
    show Steps p.tables e below (T78.setTop (mkF m 119 #[.val (.int p0), .val (.int p1), .val (.int p2), .val (.int p3), .val (.int p4), .val (.int p5), .val (.int vk), .val (.ref b4), .val (.ref b39), .unset, .unset, .unset, .unset] [(.int p1), (.int (p0 + ee80)), (.ref b63), (.ref b63)])) _
    refine XS.iload X78.here hx rfl (hb hby at_119) rfl ?_
    show Steps p.tables e below (T78.setTop (mkF m 121 #[.val (.int p0), .val (.int p1), .val (.int p2), .val (.int p3), .val (.int p4), .val (.int p5), .val (.int vk), .val (.ref b4), .val (.ref b39), .unset, .unset, .unset, .unset] [(.int vk), (.int p1), (.int (p0 + ee80)), (.ref b63), (.ref b63)])) _
    refine XS.iconst X78.here hx rfl (hb hby at_121) ?_
    show Steps p.tables e below (T78.setTop (mkF m 122 #[.val (.int p0), .val (.int p1), .val (.int p2), .val (.int p3), .val (.int p4), .val (.int p5), .val (.int vk), .val (.ref b4), .val (.ref b39), .unset, .unset, .unset, .unset] [(.int (1 : Int32)), (.int vk), (.int p1), (.int (p0 + ee80)), (.ref b63), (.ref b63)])) _
    refine XS.iload X78.here hx rfl (hb hby at_122) rfl ?_
    exact kt)
  clear pre82
  obtain ⟨_, _, ⟨T85, L85, k85, n85⟩, -, X85, ⟨Lc85, hQ85, l85, y85, z85⟩, st85⟩ := Jvm.LawKit.callS X78 hx (y := (⟨"com/example/heptapolis/heptapolis/duel/ScoreTotalPinLaw", "e", "(III)I"⟩ : MethodName)) hown (mvT hZ (hw _ (List.mem_of_getElem? (i := 31) rfl))) (mvT hZ (hw _ (List.mem_of_getElem? (i := 32) rfl))) (mvT hZ (hw _ (List.mem_of_getElem? (i := 33) rfl))) (mvT hZ (hw _ (List.mem_of_getElem? (i := 34) rfl))) (by decide) (backOf (W := 4) (rm4 l Z av hw [] vk (1 : Int32) p5  h63 n0 Z63 ) hZ (hw _ (List.mem_of_getElem? (i := 34) rfl)) (hw _ (List.mem_of_getElem? (i := 33) rfl)) (by decide) (by decide)) (g := (mkF m 124 #[.val (.int p0), .val (.int p1), .val (.int p2), .val (.int p3), .val (.int p4), .val (.int p5), .val (.int vk), .val (.ref b4), .val (.ref b39), .unset, .unset, .unset, .unset] [(.int p5), (.int (1 : Int32)), (.int vk), (.int p1), (.int (p0 + ee80)), (.ref b63), (.ref b63)])) rfl (by rw [hml]; rfl) (argsL := [(.int vk), (.int (1 : Int32)), (.int p5)]) (rest := [(.int p1), (.int (p0 + ee80)), (.ref b63), (.ref b63)]) (lenOf pd__III_I rfl) rfl (by show 2 * 0 + _ ≤ _; exact Nat.le_of_eq rfl) (hb hby at_124) (fun _ _ => ⟨rfl, e78, (by decide : 3 + 0 ≤ _), (by decide : 24 + 0 ≤ _)⟩)
  dsimp only [Pt.U, Pt.locs, Pt.cells, Pt.slots] at X85 l85 y85 z85 st85 hQ85
  rw [l85, y85, z85] at X85
  clear l85 y85 z85
  obtain ⟨rfl, N85q, e85⟩ := hQ85
  have N85 := Fr.app N78 N85q
  have pre86 : ∀ t, Steps p.tables e below (T85.setTop (mkF m 127 #[.val (.int p0), .val (.int p1), .val (.int p2), .val (.int p3), .val (.int p4), .val (.int p5), .val (.int vk), .val (.ref b4), .val (.ref b39), .unset, .unset, .unset, .unset] [(.int (f_e vk (1 : Int32) p5)), (.int p1), (.int (p0 + ee80)), (.ref b63), (.ref b63)])) t → Steps p.tables e below (s₁.setTop (entryFrame m #[(.int p0), (.int p1), (.int p2), (.int p3), (.int p4), (.int p5)] maxLocals)) t := fun t kt => pre84 t (st85 _ kt)
  clear pre84 st85
  obtain ⟨ee87, hm88, pre88⟩ : ∃ (ee87 : Int32), (ee87 = (f_e vk (1 : Int32) p5)) ∧ ∀ t, Steps p.tables e below (T85.setTop (mkF m 127 #[.val (.int p0), .val (.int p1), .val (.int p2), .val (.int p3), .val (.int p4), .val (.int p5), .val (.int vk), .val (.ref b4), .val (.ref b39), .unset, .unset, .unset, .unset] [(.int ee87), (.int p1), (.int (p0 + ee80)), (.ref b63), (.ref b63)])) t → Steps p.tables e below (s₁.setTop (entryFrame m #[(.int p0), (.int p1), (.int p2), (.int p3), (.int p4), (.int p5)] maxLocals)) t := ⟨(f_e vk (1 : Int32) p5), rfl, pre86⟩
  clear pre86
  have pre89 : ∀ t, Steps p.tables e below (T85.setTop (mkF m 131 #[.val (.int p0), .val (.int p1), .val (.int p2), .val (.int p3), .val (.int p4), .val (.int p5), .val (.int vk), .val (.ref b4), .val (.ref b39), .unset, .unset, .unset, .unset] [(.int (2 : Int32)), (.ref b4), (.int (p1 + ee87)), (.int (p0 + ee80)), (.ref b63), (.ref b63)])) t → Steps p.tables e below (s₁.setTop (entryFrame m #[(.int p0), (.int p1), (.int p2), (.int p3), (.int p4), (.int p5)] maxLocals)) t := fun t kt => pre88 t (by
    show Steps p.tables e below (T85.setTop (mkF m 127 #[.val (.int p0), .val (.int p1), .val (.int p2), .val (.int p3), .val (.int p4), .val (.int p5), .val (.int vk), .val (.ref b4), .val (.ref b39), .unset, .unset, .unset, .unset] [(.int ee87), (.int p1), (.int (p0 + ee80)), (.ref b63), (.ref b63)])) _
    refine XS.iadd X85.here hx rfl (hb hby at_127) rfl ?_
    show Steps p.tables e below (T85.setTop (mkF m 128 #[.val (.int p0), .val (.int p1), .val (.int p2), .val (.int p3), .val (.int p4), .val (.int p5), .val (.int vk), .val (.ref b4), .val (.ref b39), .unset, .unset, .unset, .unset] [(.int (p1 + ee87)), (.int (p0 + ee80)), (.ref b63), (.ref b63)])) _
    refine XS.aload X85.here hx rfl (hb hby at_128) rfl rfl ?_
    show Steps p.tables e below (T85.setTop (mkF m 130 #[.val (.int p0), .val (.int p1), .val (.int p2), .val (.int p3), .val (.int p4), .val (.int p5), .val (.int vk), .val (.ref b4), .val (.ref b39), .unset, .unset, .unset, .unset] [(.ref b4), (.int (p1 + ee87)), (.int (p0 + ee80)), (.ref b63), (.ref b63)])) _
    refine XS.iconst X85.here hx rfl (hb hby at_130) ?_
    exact kt)
  clear pre88
  have tv90 := F65
  obtain ⟨cl90, Ar90, q90, S90, Ng90, H90, G90⟩ := tv90
  have hin90 : ¬ ((2 : Int32) < 0 ∨ cl90.slots.size ≤ ((2 : Int32)).toNatClampNeg) := inb_of S90 ⟨by decide, by decide⟩
  have hat90 : cl90.slots[((2 : Int32)).toNatClampNeg]? = some (.int p2) := Has.at H90 hin90 rfl
  have pre91 : ∀ t, Steps p.tables e below (T85.setTop (mkF m 137 #[.val (.int p0), .val (.int p1), .val (.int p2), .val (.int p3), .val (.int p4), .val (.int p5), .val (.int vk), .val (.ref b4), .val (.ref b39), .unset, .unset, .unset, .unset] [(.int p5), (.int (2 : Int32)), (.int vk), (.int p2), (.int (p1 + ee87)), (.int (p0 + ee80)), (.ref b63), (.ref b63)])) t → Steps p.tables e below (s₁.setTop (entryFrame m #[(.int p0), (.int p1), (.int p2), (.int p3), (.int p4), (.int p5)] maxLocals)) t := fun t kt => pre89 t (by
    show Steps p.tables e below (T85.setTop (mkF m 131 #[.val (.int p0), .val (.int p1), .val (.int p2), .val (.int p3), .val (.int p4), .val (.int p5), .val (.int vk), .val (.ref b4), .val (.ref b39), .unset, .unset, .unset, .unset] [(.int (2 : Int32)), (.ref b4), (.int (p1 + ee87)), (.int (p0 + ee80)), (.ref b63), (.ref b63)])) _
    refine X85.iaload hx (j := (2 : Int32)) (v := (.int p2)) (by rw [e85]; exact Ar90.1) (State.isArrayOf_alike hZ.alike Ar90.2.1) Ar90.2.2 hin90 hat90 (g := (mkF m 131 #[.val (.int p0), .val (.int p1), .val (.int p2), .val (.int p3), .val (.int p4), .val (.int p5), .val (.int vk), .val (.ref b4), .val (.ref b39), .unset, .unset, .unset, .unset] [(.int (2 : Int32)), (.ref b4), (.int (p1 + ee87)), (.int (p0 + ee80)), (.ref b63), (.ref b63)])) rfl rfl (hb hby at_131) _ ?_
    show Steps p.tables e below (T85.setTop (mkF m 132 #[.val (.int p0), .val (.int p1), .val (.int p2), .val (.int p3), .val (.int p4), .val (.int p5), .val (.int vk), .val (.ref b4), .val (.ref b39), .unset, .unset, .unset, .unset] [(.int p2), (.int (p1 + ee87)), (.int (p0 + ee80)), (.ref b63), (.ref b63)])) _
    refine XS.iload X85.here hx rfl (hb hby at_132) rfl ?_
    show Steps p.tables e below (T85.setTop (mkF m 134 #[.val (.int p0), .val (.int p1), .val (.int p2), .val (.int p3), .val (.int p4), .val (.int p5), .val (.int vk), .val (.ref b4), .val (.ref b39), .unset, .unset, .unset, .unset] [(.int vk), (.int p2), (.int (p1 + ee87)), (.int (p0 + ee80)), (.ref b63), (.ref b63)])) _
    refine XS.iconst X85.here hx rfl (hb hby at_134) ?_
    show Steps p.tables e below (T85.setTop (mkF m 135 #[.val (.int p0), .val (.int p1), .val (.int p2), .val (.int p3), .val (.int p4), .val (.int p5), .val (.int vk), .val (.ref b4), .val (.ref b39), .unset, .unset, .unset, .unset] [(.int (2 : Int32)), (.int vk), (.int p2), (.int (p1 + ee87)), (.int (p0 + ee80)), (.ref b63), (.ref b63)])) _
    refine XS.iload X85.here hx rfl (hb hby at_135) rfl ?_
    exact kt)
  clear pre89
  obtain ⟨_, _, ⟨T92, L92, k92, n92⟩, -, X92, ⟨Lc92, hQ92, l92, y92, z92⟩, st92⟩ := Jvm.LawKit.callS X85 hx (y := (⟨"com/example/heptapolis/heptapolis/duel/ScoreTotalPinLaw", "e", "(III)I"⟩ : MethodName)) hown (mvT hZ (hw _ (List.mem_of_getElem? (i := 31) rfl))) (mvT hZ (hw _ (List.mem_of_getElem? (i := 32) rfl))) (mvT hZ (hw _ (List.mem_of_getElem? (i := 33) rfl))) (mvT hZ (hw _ (List.mem_of_getElem? (i := 34) rfl))) (by decide) (backOf (W := 5) (rm4 l Z av hw [] vk (2 : Int32) p5  h63 n0 Z63 ) hZ (hw _ (List.mem_of_getElem? (i := 34) rfl)) (hw _ (List.mem_of_getElem? (i := 33) rfl)) (by decide) (by decide)) (g := (mkF m 137 #[.val (.int p0), .val (.int p1), .val (.int p2), .val (.int p3), .val (.int p4), .val (.int p5), .val (.int vk), .val (.ref b4), .val (.ref b39), .unset, .unset, .unset, .unset] [(.int p5), (.int (2 : Int32)), (.int vk), (.int p2), (.int (p1 + ee87)), (.int (p0 + ee80)), (.ref b63), (.ref b63)])) rfl (by rw [hml]; rfl) (argsL := [(.int vk), (.int (2 : Int32)), (.int p5)]) (rest := [(.int p2), (.int (p1 + ee87)), (.int (p0 + ee80)), (.ref b63), (.ref b63)]) (lenOf pd__III_I rfl) rfl (by show 2 * 0 + _ ≤ _; exact Nat.le_of_eq rfl) (hb hby at_137) (fun _ _ => ⟨rfl, e85, (by decide : 3 + 0 ≤ _), (by decide : 24 + 0 ≤ _)⟩)
  dsimp only [Pt.U, Pt.locs, Pt.cells, Pt.slots] at X92 l92 y92 z92 st92 hQ92
  rw [l92, y92, z92] at X92
  clear l92 y92 z92
  obtain ⟨rfl, N92q, e92⟩ := hQ92
  have N92 := Fr.app N85 N92q
  have pre93 : ∀ t, Steps p.tables e below (T92.setTop (mkF m 140 #[.val (.int p0), .val (.int p1), .val (.int p2), .val (.int p3), .val (.int p4), .val (.int p5), .val (.int vk), .val (.ref b4), .val (.ref b39), .unset, .unset, .unset, .unset] [(.int (f_e vk (2 : Int32) p5)), (.int p2), (.int (p1 + ee87)), (.int (p0 + ee80)), (.ref b63), (.ref b63)])) t → Steps p.tables e below (s₁.setTop (entryFrame m #[(.int p0), (.int p1), (.int p2), (.int p3), (.int p4), (.int p5)] maxLocals)) t := fun t kt => pre91 t (st92 _ kt)
  clear pre91 st92
  obtain ⟨ee94, hm95, pre95⟩ : ∃ (ee94 : Int32), (ee94 = (f_e vk (2 : Int32) p5)) ∧ ∀ t, Steps p.tables e below (T92.setTop (mkF m 140 #[.val (.int p0), .val (.int p1), .val (.int p2), .val (.int p3), .val (.int p4), .val (.int p5), .val (.int vk), .val (.ref b4), .val (.ref b39), .unset, .unset, .unset, .unset] [(.int ee94), (.int p2), (.int (p1 + ee87)), (.int (p0 + ee80)), (.ref b63), (.ref b63)])) t → Steps p.tables e below (s₁.setTop (entryFrame m #[(.int p0), (.int p1), (.int p2), (.int p3), (.int p4), (.int p5)] maxLocals)) t := ⟨(f_e vk (2 : Int32) p5), rfl, pre93⟩
  clear pre93
  have pre96 : ∀ t, Steps p.tables e below (T92.setTop (mkF m 144 #[.val (.int p0), .val (.int p1), .val (.int p2), .val (.int p3), .val (.int p4), .val (.int p5), .val (.int vk), .val (.ref b4), .val (.ref b39), .unset, .unset, .unset, .unset] [(.int (3 : Int32)), (.ref b4), (.int (p2 + ee94)), (.int (p1 + ee87)), (.int (p0 + ee80)), (.ref b63), (.ref b63)])) t → Steps p.tables e below (s₁.setTop (entryFrame m #[(.int p0), (.int p1), (.int p2), (.int p3), (.int p4), (.int p5)] maxLocals)) t := fun t kt => pre95 t (by
    show Steps p.tables e below (T92.setTop (mkF m 140 #[.val (.int p0), .val (.int p1), .val (.int p2), .val (.int p3), .val (.int p4), .val (.int p5), .val (.int vk), .val (.ref b4), .val (.ref b39), .unset, .unset, .unset, .unset] [(.int ee94), (.int p2), (.int (p1 + ee87)), (.int (p0 + ee80)), (.ref b63), (.ref b63)])) _
    refine XS.iadd X92.here hx rfl (hb hby at_140) rfl ?_
    show Steps p.tables e below (T92.setTop (mkF m 141 #[.val (.int p0), .val (.int p1), .val (.int p2), .val (.int p3), .val (.int p4), .val (.int p5), .val (.int vk), .val (.ref b4), .val (.ref b39), .unset, .unset, .unset, .unset] [(.int (p2 + ee94)), (.int (p1 + ee87)), (.int (p0 + ee80)), (.ref b63), (.ref b63)])) _
    refine XS.aload X92.here hx rfl (hb hby at_141) rfl rfl ?_
    show Steps p.tables e below (T92.setTop (mkF m 143 #[.val (.int p0), .val (.int p1), .val (.int p2), .val (.int p3), .val (.int p4), .val (.int p5), .val (.int vk), .val (.ref b4), .val (.ref b39), .unset, .unset, .unset, .unset] [(.ref b4), (.int (p2 + ee94)), (.int (p1 + ee87)), (.int (p0 + ee80)), (.ref b63), (.ref b63)])) _
    refine XS.iconst X92.here hx rfl (hb hby at_143) ?_
    exact kt)
  clear pre95
  have tv97 := F65
  obtain ⟨cl97, Ar97, q97, S97, Ng97, H97, G97⟩ := tv97
  have hin97 : ¬ ((3 : Int32) < 0 ∨ cl97.slots.size ≤ ((3 : Int32)).toNatClampNeg) := inb_of S97 ⟨by decide, by decide⟩
  have hat97 : cl97.slots[((3 : Int32)).toNatClampNeg]? = some (.int p3) := Has.at H97 hin97 rfl
  have pre98 : ∀ t, Steps p.tables e below (T92.setTop (mkF m 150 #[.val (.int p0), .val (.int p1), .val (.int p2), .val (.int p3), .val (.int p4), .val (.int p5), .val (.int vk), .val (.ref b4), .val (.ref b39), .unset, .unset, .unset, .unset] [(.int p5), (.int (3 : Int32)), (.int vk), (.int p3), (.int (p2 + ee94)), (.int (p1 + ee87)), (.int (p0 + ee80)), (.ref b63), (.ref b63)])) t → Steps p.tables e below (s₁.setTop (entryFrame m #[(.int p0), (.int p1), (.int p2), (.int p3), (.int p4), (.int p5)] maxLocals)) t := fun t kt => pre96 t (by
    show Steps p.tables e below (T92.setTop (mkF m 144 #[.val (.int p0), .val (.int p1), .val (.int p2), .val (.int p3), .val (.int p4), .val (.int p5), .val (.int vk), .val (.ref b4), .val (.ref b39), .unset, .unset, .unset, .unset] [(.int (3 : Int32)), (.ref b4), (.int (p2 + ee94)), (.int (p1 + ee87)), (.int (p0 + ee80)), (.ref b63), (.ref b63)])) _
    refine X92.iaload hx (j := (3 : Int32)) (v := (.int p3)) (by rw [e92]; exact Ar97.1) (State.isArrayOf_alike hZ.alike Ar97.2.1) Ar97.2.2 hin97 hat97 (g := (mkF m 144 #[.val (.int p0), .val (.int p1), .val (.int p2), .val (.int p3), .val (.int p4), .val (.int p5), .val (.int vk), .val (.ref b4), .val (.ref b39), .unset, .unset, .unset, .unset] [(.int (3 : Int32)), (.ref b4), (.int (p2 + ee94)), (.int (p1 + ee87)), (.int (p0 + ee80)), (.ref b63), (.ref b63)])) rfl rfl (hb hby at_144) _ ?_
    show Steps p.tables e below (T92.setTop (mkF m 145 #[.val (.int p0), .val (.int p1), .val (.int p2), .val (.int p3), .val (.int p4), .val (.int p5), .val (.int vk), .val (.ref b4), .val (.ref b39), .unset, .unset, .unset, .unset] [(.int p3), (.int (p2 + ee94)), (.int (p1 + ee87)), (.int (p0 + ee80)), (.ref b63), (.ref b63)])) _
    refine XS.iload X92.here hx rfl (hb hby at_145) rfl ?_
    show Steps p.tables e below (T92.setTop (mkF m 147 #[.val (.int p0), .val (.int p1), .val (.int p2), .val (.int p3), .val (.int p4), .val (.int p5), .val (.int vk), .val (.ref b4), .val (.ref b39), .unset, .unset, .unset, .unset] [(.int vk), (.int p3), (.int (p2 + ee94)), (.int (p1 + ee87)), (.int (p0 + ee80)), (.ref b63), (.ref b63)])) _
    refine XS.iconst X92.here hx rfl (hb hby at_147) ?_
    show Steps p.tables e below (T92.setTop (mkF m 148 #[.val (.int p0), .val (.int p1), .val (.int p2), .val (.int p3), .val (.int p4), .val (.int p5), .val (.int vk), .val (.ref b4), .val (.ref b39), .unset, .unset, .unset, .unset] [(.int (3 : Int32)), (.int vk), (.int p3), (.int (p2 + ee94)), (.int (p1 + ee87)), (.int (p0 + ee80)), (.ref b63), (.ref b63)])) _
    refine XS.iload X92.here hx rfl (hb hby at_148) rfl ?_
    exact kt)
  clear pre96
  obtain ⟨_, _, ⟨T99, L99, k99, n99⟩, -, X99, ⟨Lc99, hQ99, l99, y99, z99⟩, st99⟩ := Jvm.LawKit.callS X92 hx (y := (⟨"com/example/heptapolis/heptapolis/duel/ScoreTotalPinLaw", "e", "(III)I"⟩ : MethodName)) hown (mvT hZ (hw _ (List.mem_of_getElem? (i := 31) rfl))) (mvT hZ (hw _ (List.mem_of_getElem? (i := 32) rfl))) (mvT hZ (hw _ (List.mem_of_getElem? (i := 33) rfl))) (mvT hZ (hw _ (List.mem_of_getElem? (i := 34) rfl))) (by decide) (backOf (W := 6) (rm4 l Z av hw [] vk (3 : Int32) p5  h63 n0 Z63 ) hZ (hw _ (List.mem_of_getElem? (i := 34) rfl)) (hw _ (List.mem_of_getElem? (i := 33) rfl)) (by decide) (by decide)) (g := (mkF m 150 #[.val (.int p0), .val (.int p1), .val (.int p2), .val (.int p3), .val (.int p4), .val (.int p5), .val (.int vk), .val (.ref b4), .val (.ref b39), .unset, .unset, .unset, .unset] [(.int p5), (.int (3 : Int32)), (.int vk), (.int p3), (.int (p2 + ee94)), (.int (p1 + ee87)), (.int (p0 + ee80)), (.ref b63), (.ref b63)])) rfl (by rw [hml]; rfl) (argsL := [(.int vk), (.int (3 : Int32)), (.int p5)]) (rest := [(.int p3), (.int (p2 + ee94)), (.int (p1 + ee87)), (.int (p0 + ee80)), (.ref b63), (.ref b63)]) (lenOf pd__III_I rfl) rfl (by show 2 * 0 + _ ≤ _; exact Nat.le_of_eq rfl) (hb hby at_150) (fun _ _ => ⟨rfl, e92, (by decide : 3 + 0 ≤ _), (by decide : 24 + 0 ≤ _)⟩)
  dsimp only [Pt.U, Pt.locs, Pt.cells, Pt.slots] at X99 l99 y99 z99 st99 hQ99
  rw [l99, y99, z99] at X99
  clear l99 y99 z99
  obtain ⟨rfl, N99q, e99⟩ := hQ99
  have N99 := Fr.app N92 N99q
  have pre100 : ∀ t, Steps p.tables e below (T99.setTop (mkF m 153 #[.val (.int p0), .val (.int p1), .val (.int p2), .val (.int p3), .val (.int p4), .val (.int p5), .val (.int vk), .val (.ref b4), .val (.ref b39), .unset, .unset, .unset, .unset] [(.int (f_e vk (3 : Int32) p5)), (.int p3), (.int (p2 + ee94)), (.int (p1 + ee87)), (.int (p0 + ee80)), (.ref b63), (.ref b63)])) t → Steps p.tables e below (s₁.setTop (entryFrame m #[(.int p0), (.int p1), (.int p2), (.int p3), (.int p4), (.int p5)] maxLocals)) t := fun t kt => pre98 t (st99 _ kt)
  clear pre98 st99
  obtain ⟨ee101, hm102, pre102⟩ : ∃ (ee101 : Int32), (ee101 = (f_e vk (3 : Int32) p5)) ∧ ∀ t, Steps p.tables e below (T99.setTop (mkF m 153 #[.val (.int p0), .val (.int p1), .val (.int p2), .val (.int p3), .val (.int p4), .val (.int p5), .val (.int vk), .val (.ref b4), .val (.ref b39), .unset, .unset, .unset, .unset] [(.int ee101), (.int p3), (.int (p2 + ee94)), (.int (p1 + ee87)), (.int (p0 + ee80)), (.ref b63), (.ref b63)])) t → Steps p.tables e below (s₁.setTop (entryFrame m #[(.int p0), (.int p1), (.int p2), (.int p3), (.int p4), (.int p5)] maxLocals)) t := ⟨(f_e vk (3 : Int32) p5), rfl, pre100⟩
  clear pre100
  have pre103 : ∀ t, Steps p.tables e below (T99.setTop (mkF m 157 #[.val (.int p0), .val (.int p1), .val (.int p2), .val (.int p3), .val (.int p4), .val (.int p5), .val (.int vk), .val (.ref b4), .val (.ref b39), .unset, .unset, .unset, .unset] [(.int (4 : Int32)), (.ref b4), (.int (p3 + ee101)), (.int (p2 + ee94)), (.int (p1 + ee87)), (.int (p0 + ee80)), (.ref b63), (.ref b63)])) t → Steps p.tables e below (s₁.setTop (entryFrame m #[(.int p0), (.int p1), (.int p2), (.int p3), (.int p4), (.int p5)] maxLocals)) t := fun t kt => pre102 t (by
    show Steps p.tables e below (T99.setTop (mkF m 153 #[.val (.int p0), .val (.int p1), .val (.int p2), .val (.int p3), .val (.int p4), .val (.int p5), .val (.int vk), .val (.ref b4), .val (.ref b39), .unset, .unset, .unset, .unset] [(.int ee101), (.int p3), (.int (p2 + ee94)), (.int (p1 + ee87)), (.int (p0 + ee80)), (.ref b63), (.ref b63)])) _
    refine XS.iadd X99.here hx rfl (hb hby at_153) rfl ?_
    show Steps p.tables e below (T99.setTop (mkF m 154 #[.val (.int p0), .val (.int p1), .val (.int p2), .val (.int p3), .val (.int p4), .val (.int p5), .val (.int vk), .val (.ref b4), .val (.ref b39), .unset, .unset, .unset, .unset] [(.int (p3 + ee101)), (.int (p2 + ee94)), (.int (p1 + ee87)), (.int (p0 + ee80)), (.ref b63), (.ref b63)])) _
    refine XS.aload X99.here hx rfl (hb hby at_154) rfl rfl ?_
    show Steps p.tables e below (T99.setTop (mkF m 156 #[.val (.int p0), .val (.int p1), .val (.int p2), .val (.int p3), .val (.int p4), .val (.int p5), .val (.int vk), .val (.ref b4), .val (.ref b39), .unset, .unset, .unset, .unset] [(.ref b4), (.int (p3 + ee101)), (.int (p2 + ee94)), (.int (p1 + ee87)), (.int (p0 + ee80)), (.ref b63), (.ref b63)])) _
    refine XS.iconst X99.here hx rfl (hb hby at_156) ?_
    exact kt)
  clear pre102
  have tv104 := F65
  obtain ⟨cl104, Ar104, q104, S104, Ng104, H104, G104⟩ := tv104
  have hin104 : ¬ ((4 : Int32) < 0 ∨ cl104.slots.size ≤ ((4 : Int32)).toNatClampNeg) := inb_of S104 ⟨by decide, by decide⟩
  have hat104 : cl104.slots[((4 : Int32)).toNatClampNeg]? = some (.int (p0 ^^^ p2)) := Has.at H104 hin104 rfl
  have pre105 : ∀ t, Steps p.tables e below (T99.setTop (mkF m 163 #[.val (.int p0), .val (.int p1), .val (.int p2), .val (.int p3), .val (.int p4), .val (.int p5), .val (.int vk), .val (.ref b4), .val (.ref b39), .unset, .unset, .unset, .unset] [(.int p5), (.int (4 : Int32)), (.int vk), (.int (p0 ^^^ p2)), (.int (p3 + ee101)), (.int (p2 + ee94)), (.int (p1 + ee87)), (.int (p0 + ee80)), (.ref b63), (.ref b63)])) t → Steps p.tables e below (s₁.setTop (entryFrame m #[(.int p0), (.int p1), (.int p2), (.int p3), (.int p4), (.int p5)] maxLocals)) t := fun t kt => pre103 t (by
    show Steps p.tables e below (T99.setTop (mkF m 157 #[.val (.int p0), .val (.int p1), .val (.int p2), .val (.int p3), .val (.int p4), .val (.int p5), .val (.int vk), .val (.ref b4), .val (.ref b39), .unset, .unset, .unset, .unset] [(.int (4 : Int32)), (.ref b4), (.int (p3 + ee101)), (.int (p2 + ee94)), (.int (p1 + ee87)), (.int (p0 + ee80)), (.ref b63), (.ref b63)])) _
    refine X99.iaload hx (j := (4 : Int32)) (v := (.int (p0 ^^^ p2))) (by rw [e99]; exact Ar104.1) (State.isArrayOf_alike hZ.alike Ar104.2.1) Ar104.2.2 hin104 hat104 (g := (mkF m 157 #[.val (.int p0), .val (.int p1), .val (.int p2), .val (.int p3), .val (.int p4), .val (.int p5), .val (.int vk), .val (.ref b4), .val (.ref b39), .unset, .unset, .unset, .unset] [(.int (4 : Int32)), (.ref b4), (.int (p3 + ee101)), (.int (p2 + ee94)), (.int (p1 + ee87)), (.int (p0 + ee80)), (.ref b63), (.ref b63)])) rfl rfl (hb hby at_157) _ ?_
    show Steps p.tables e below (T99.setTop (mkF m 158 #[.val (.int p0), .val (.int p1), .val (.int p2), .val (.int p3), .val (.int p4), .val (.int p5), .val (.int vk), .val (.ref b4), .val (.ref b39), .unset, .unset, .unset, .unset] [(.int (p0 ^^^ p2)), (.int (p3 + ee101)), (.int (p2 + ee94)), (.int (p1 + ee87)), (.int (p0 + ee80)), (.ref b63), (.ref b63)])) _
    refine XS.iload X99.here hx rfl (hb hby at_158) rfl ?_
    show Steps p.tables e below (T99.setTop (mkF m 160 #[.val (.int p0), .val (.int p1), .val (.int p2), .val (.int p3), .val (.int p4), .val (.int p5), .val (.int vk), .val (.ref b4), .val (.ref b39), .unset, .unset, .unset, .unset] [(.int vk), (.int (p0 ^^^ p2)), (.int (p3 + ee101)), (.int (p2 + ee94)), (.int (p1 + ee87)), (.int (p0 + ee80)), (.ref b63), (.ref b63)])) _
    refine XS.iconst X99.here hx rfl (hb hby at_160) ?_
    show Steps p.tables e below (T99.setTop (mkF m 161 #[.val (.int p0), .val (.int p1), .val (.int p2), .val (.int p3), .val (.int p4), .val (.int p5), .val (.int vk), .val (.ref b4), .val (.ref b39), .unset, .unset, .unset, .unset] [(.int (4 : Int32)), (.int vk), (.int (p0 ^^^ p2)), (.int (p3 + ee101)), (.int (p2 + ee94)), (.int (p1 + ee87)), (.int (p0 + ee80)), (.ref b63), (.ref b63)])) _
    refine XS.iload X99.here hx rfl (hb hby at_161) rfl ?_
    exact kt)
  clear pre103
  obtain ⟨_, _, ⟨T106, L106, k106, n106⟩, -, X106, ⟨Lc106, hQ106, l106, y106, z106⟩, st106⟩ := Jvm.LawKit.callS X99 hx (y := (⟨"com/example/heptapolis/heptapolis/duel/ScoreTotalPinLaw", "e", "(III)I"⟩ : MethodName)) hown (mvT hZ (hw _ (List.mem_of_getElem? (i := 31) rfl))) (mvT hZ (hw _ (List.mem_of_getElem? (i := 32) rfl))) (mvT hZ (hw _ (List.mem_of_getElem? (i := 33) rfl))) (mvT hZ (hw _ (List.mem_of_getElem? (i := 34) rfl))) (by decide) (backOf (W := 7) (rm4 l Z av hw [] vk (4 : Int32) p5  h63 n0 Z63 ) hZ (hw _ (List.mem_of_getElem? (i := 34) rfl)) (hw _ (List.mem_of_getElem? (i := 33) rfl)) (by decide) (by decide)) (g := (mkF m 163 #[.val (.int p0), .val (.int p1), .val (.int p2), .val (.int p3), .val (.int p4), .val (.int p5), .val (.int vk), .val (.ref b4), .val (.ref b39), .unset, .unset, .unset, .unset] [(.int p5), (.int (4 : Int32)), (.int vk), (.int (p0 ^^^ p2)), (.int (p3 + ee101)), (.int (p2 + ee94)), (.int (p1 + ee87)), (.int (p0 + ee80)), (.ref b63), (.ref b63)])) rfl (by rw [hml]; rfl) (argsL := [(.int vk), (.int (4 : Int32)), (.int p5)]) (rest := [(.int (p0 ^^^ p2)), (.int (p3 + ee101)), (.int (p2 + ee94)), (.int (p1 + ee87)), (.int (p0 + ee80)), (.ref b63), (.ref b63)]) (lenOf pd__III_I rfl) rfl (by show 2 * 0 + _ ≤ _; exact Nat.le_of_eq rfl) (hb hby at_163) (fun _ _ => ⟨rfl, e99, (by decide : 3 + 0 ≤ _), (by decide : 24 + 0 ≤ _)⟩)
  dsimp only [Pt.U, Pt.locs, Pt.cells, Pt.slots] at X106 l106 y106 z106 st106 hQ106
  rw [l106, y106, z106] at X106
  clear l106 y106 z106
  obtain ⟨rfl, N106q, e106⟩ := hQ106
  have N106 := Fr.app N99 N106q
  have pre107 : ∀ t, Steps p.tables e below (T106.setTop (mkF m 166 #[.val (.int p0), .val (.int p1), .val (.int p2), .val (.int p3), .val (.int p4), .val (.int p5), .val (.int vk), .val (.ref b4), .val (.ref b39), .unset, .unset, .unset, .unset] [(.int (f_e vk (4 : Int32) p5)), (.int (p0 ^^^ p2)), (.int (p3 + ee101)), (.int (p2 + ee94)), (.int (p1 + ee87)), (.int (p0 + ee80)), (.ref b63), (.ref b63)])) t → Steps p.tables e below (s₁.setTop (entryFrame m #[(.int p0), (.int p1), (.int p2), (.int p3), (.int p4), (.int p5)] maxLocals)) t := fun t kt => pre105 t (st106 _ kt)
  clear pre105 st106
  obtain ⟨ee108, hm109, pre109⟩ : ∃ (ee108 : Int32), (ee108 = (f_e vk (4 : Int32) p5)) ∧ ∀ t, Steps p.tables e below (T106.setTop (mkF m 166 #[.val (.int p0), .val (.int p1), .val (.int p2), .val (.int p3), .val (.int p4), .val (.int p5), .val (.int vk), .val (.ref b4), .val (.ref b39), .unset, .unset, .unset, .unset] [(.int ee108), (.int (p0 ^^^ p2)), (.int (p3 + ee101)), (.int (p2 + ee94)), (.int (p1 + ee87)), (.int (p0 + ee80)), (.ref b63), (.ref b63)])) t → Steps p.tables e below (s₁.setTop (entryFrame m #[(.int p0), (.int p1), (.int p2), (.int p3), (.int p4), (.int p5)] maxLocals)) t := ⟨(f_e vk (4 : Int32) p5), rfl, pre107⟩
  clear pre107
  have pre110 : ∀ t, Steps p.tables e below (T106.setTop (mkF m 170 #[.val (.int p0), .val (.int p1), .val (.int p2), .val (.int p3), .val (.int p4), .val (.int p5), .val (.int vk), .val (.ref b4), .val (.ref b39), .unset, .unset, .unset, .unset] [(.int (5 : Int32)), (.ref b4), (.int ((p0 ^^^ p2) + ee108)), (.int (p3 + ee101)), (.int (p2 + ee94)), (.int (p1 + ee87)), (.int (p0 + ee80)), (.ref b63), (.ref b63)])) t → Steps p.tables e below (s₁.setTop (entryFrame m #[(.int p0), (.int p1), (.int p2), (.int p3), (.int p4), (.int p5)] maxLocals)) t := fun t kt => pre109 t (by
    show Steps p.tables e below (T106.setTop (mkF m 166 #[.val (.int p0), .val (.int p1), .val (.int p2), .val (.int p3), .val (.int p4), .val (.int p5), .val (.int vk), .val (.ref b4), .val (.ref b39), .unset, .unset, .unset, .unset] [(.int ee108), (.int (p0 ^^^ p2)), (.int (p3 + ee101)), (.int (p2 + ee94)), (.int (p1 + ee87)), (.int (p0 + ee80)), (.ref b63), (.ref b63)])) _
    refine XS.iadd X106.here hx rfl (hb hby at_166) rfl ?_
    show Steps p.tables e below (T106.setTop (mkF m 167 #[.val (.int p0), .val (.int p1), .val (.int p2), .val (.int p3), .val (.int p4), .val (.int p5), .val (.int vk), .val (.ref b4), .val (.ref b39), .unset, .unset, .unset, .unset] [(.int ((p0 ^^^ p2) + ee108)), (.int (p3 + ee101)), (.int (p2 + ee94)), (.int (p1 + ee87)), (.int (p0 + ee80)), (.ref b63), (.ref b63)])) _
    refine XS.aload X106.here hx rfl (hb hby at_167) rfl rfl ?_
    show Steps p.tables e below (T106.setTop (mkF m 169 #[.val (.int p0), .val (.int p1), .val (.int p2), .val (.int p3), .val (.int p4), .val (.int p5), .val (.int vk), .val (.ref b4), .val (.ref b39), .unset, .unset, .unset, .unset] [(.ref b4), (.int ((p0 ^^^ p2) + ee108)), (.int (p3 + ee101)), (.int (p2 + ee94)), (.int (p1 + ee87)), (.int (p0 + ee80)), (.ref b63), (.ref b63)])) _
    refine XS.iconst X106.here hx rfl (hb hby at_169) ?_
    exact kt)
  clear pre109
  have tv111 := F65
  obtain ⟨cl111, Ar111, q111, S111, Ng111, H111, G111⟩ := tv111
  have hin111 : ¬ ((5 : Int32) < 0 ∨ cl111.slots.size ≤ ((5 : Int32)).toNatClampNeg) := inb_of S111 ⟨by decide, by decide⟩
  have hat111 : cl111.slots[((5 : Int32)).toNatClampNeg]? = some (.int (p1 - p3)) := Has.at H111 hin111 rfl
  have pre112 : ∀ t, Steps p.tables e below (T106.setTop (mkF m 176 #[.val (.int p0), .val (.int p1), .val (.int p2), .val (.int p3), .val (.int p4), .val (.int p5), .val (.int vk), .val (.ref b4), .val (.ref b39), .unset, .unset, .unset, .unset] [(.int p5), (.int (5 : Int32)), (.int vk), (.int (p1 - p3)), (.int ((p0 ^^^ p2) + ee108)), (.int (p3 + ee101)), (.int (p2 + ee94)), (.int (p1 + ee87)), (.int (p0 + ee80)), (.ref b63), (.ref b63)])) t → Steps p.tables e below (s₁.setTop (entryFrame m #[(.int p0), (.int p1), (.int p2), (.int p3), (.int p4), (.int p5)] maxLocals)) t := fun t kt => pre110 t (by
    show Steps p.tables e below (T106.setTop (mkF m 170 #[.val (.int p0), .val (.int p1), .val (.int p2), .val (.int p3), .val (.int p4), .val (.int p5), .val (.int vk), .val (.ref b4), .val (.ref b39), .unset, .unset, .unset, .unset] [(.int (5 : Int32)), (.ref b4), (.int ((p0 ^^^ p2) + ee108)), (.int (p3 + ee101)), (.int (p2 + ee94)), (.int (p1 + ee87)), (.int (p0 + ee80)), (.ref b63), (.ref b63)])) _
    refine X106.iaload hx (j := (5 : Int32)) (v := (.int (p1 - p3))) (by rw [e106]; exact Ar111.1) (State.isArrayOf_alike hZ.alike Ar111.2.1) Ar111.2.2 hin111 hat111 (g := (mkF m 170 #[.val (.int p0), .val (.int p1), .val (.int p2), .val (.int p3), .val (.int p4), .val (.int p5), .val (.int vk), .val (.ref b4), .val (.ref b39), .unset, .unset, .unset, .unset] [(.int (5 : Int32)), (.ref b4), (.int ((p0 ^^^ p2) + ee108)), (.int (p3 + ee101)), (.int (p2 + ee94)), (.int (p1 + ee87)), (.int (p0 + ee80)), (.ref b63), (.ref b63)])) rfl rfl (hb hby at_170) _ ?_
    show Steps p.tables e below (T106.setTop (mkF m 171 #[.val (.int p0), .val (.int p1), .val (.int p2), .val (.int p3), .val (.int p4), .val (.int p5), .val (.int vk), .val (.ref b4), .val (.ref b39), .unset, .unset, .unset, .unset] [(.int (p1 - p3)), (.int ((p0 ^^^ p2) + ee108)), (.int (p3 + ee101)), (.int (p2 + ee94)), (.int (p1 + ee87)), (.int (p0 + ee80)), (.ref b63), (.ref b63)])) _
    refine XS.iload X106.here hx rfl (hb hby at_171) rfl ?_
    show Steps p.tables e below (T106.setTop (mkF m 173 #[.val (.int p0), .val (.int p1), .val (.int p2), .val (.int p3), .val (.int p4), .val (.int p5), .val (.int vk), .val (.ref b4), .val (.ref b39), .unset, .unset, .unset, .unset] [(.int vk), (.int (p1 - p3)), (.int ((p0 ^^^ p2) + ee108)), (.int (p3 + ee101)), (.int (p2 + ee94)), (.int (p1 + ee87)), (.int (p0 + ee80)), (.ref b63), (.ref b63)])) _
    refine XS.iconst X106.here hx rfl (hb hby at_173) ?_
    show Steps p.tables e below (T106.setTop (mkF m 174 #[.val (.int p0), .val (.int p1), .val (.int p2), .val (.int p3), .val (.int p4), .val (.int p5), .val (.int vk), .val (.ref b4), .val (.ref b39), .unset, .unset, .unset, .unset] [(.int (5 : Int32)), (.int vk), (.int (p1 - p3)), (.int ((p0 ^^^ p2) + ee108)), (.int (p3 + ee101)), (.int (p2 + ee94)), (.int (p1 + ee87)), (.int (p0 + ee80)), (.ref b63), (.ref b63)])) _
    refine XS.iload X106.here hx rfl (hb hby at_174) rfl ?_
    exact kt)
  clear pre110
  obtain ⟨_, _, ⟨T113, L113, k113, n113⟩, -, X113, ⟨Lc113, hQ113, l113, y113, z113⟩, st113⟩ := Jvm.LawKit.callS X106 hx (y := (⟨"com/example/heptapolis/heptapolis/duel/ScoreTotalPinLaw", "e", "(III)I"⟩ : MethodName)) hown (mvT hZ (hw _ (List.mem_of_getElem? (i := 31) rfl))) (mvT hZ (hw _ (List.mem_of_getElem? (i := 32) rfl))) (mvT hZ (hw _ (List.mem_of_getElem? (i := 33) rfl))) (mvT hZ (hw _ (List.mem_of_getElem? (i := 34) rfl))) (by decide) (backOf (W := 8) (rm4 l Z av hw [] vk (5 : Int32) p5  h63 n0 Z63 ) hZ (hw _ (List.mem_of_getElem? (i := 34) rfl)) (hw _ (List.mem_of_getElem? (i := 33) rfl)) (by decide) (by decide)) (g := (mkF m 176 #[.val (.int p0), .val (.int p1), .val (.int p2), .val (.int p3), .val (.int p4), .val (.int p5), .val (.int vk), .val (.ref b4), .val (.ref b39), .unset, .unset, .unset, .unset] [(.int p5), (.int (5 : Int32)), (.int vk), (.int (p1 - p3)), (.int ((p0 ^^^ p2) + ee108)), (.int (p3 + ee101)), (.int (p2 + ee94)), (.int (p1 + ee87)), (.int (p0 + ee80)), (.ref b63), (.ref b63)])) rfl (by rw [hml]; rfl) (argsL := [(.int vk), (.int (5 : Int32)), (.int p5)]) (rest := [(.int (p1 - p3)), (.int ((p0 ^^^ p2) + ee108)), (.int (p3 + ee101)), (.int (p2 + ee94)), (.int (p1 + ee87)), (.int (p0 + ee80)), (.ref b63), (.ref b63)]) (lenOf pd__III_I rfl) rfl (by show 2 * 0 + _ ≤ _; exact Nat.le_of_eq rfl) (hb hby at_176) (fun _ _ => ⟨rfl, e106, (by decide : 3 + 0 ≤ _), (by decide : 24 + 0 ≤ _)⟩)
  dsimp only [Pt.U, Pt.locs, Pt.cells, Pt.slots] at X113 l113 y113 z113 st113 hQ113
  rw [l113, y113, z113] at X113
  clear l113 y113 z113
  obtain ⟨rfl, N113q, e113⟩ := hQ113
  have N113 := Fr.app N106 N113q
  have pre114 : ∀ t, Steps p.tables e below (T113.setTop (mkF m 179 #[.val (.int p0), .val (.int p1), .val (.int p2), .val (.int p3), .val (.int p4), .val (.int p5), .val (.int vk), .val (.ref b4), .val (.ref b39), .unset, .unset, .unset, .unset] [(.int (f_e vk (5 : Int32) p5)), (.int (p1 - p3)), (.int ((p0 ^^^ p2) + ee108)), (.int (p3 + ee101)), (.int (p2 + ee94)), (.int (p1 + ee87)), (.int (p0 + ee80)), (.ref b63), (.ref b63)])) t → Steps p.tables e below (s₁.setTop (entryFrame m #[(.int p0), (.int p1), (.int p2), (.int p3), (.int p4), (.int p5)] maxLocals)) t := fun t kt => pre112 t (st113 _ kt)
  clear pre112 st113
  obtain ⟨ee115, hm116, pre116⟩ : ∃ (ee115 : Int32), (ee115 = (f_e vk (5 : Int32) p5)) ∧ ∀ t, Steps p.tables e below (T113.setTop (mkF m 179 #[.val (.int p0), .val (.int p1), .val (.int p2), .val (.int p3), .val (.int p4), .val (.int p5), .val (.int vk), .val (.ref b4), .val (.ref b39), .unset, .unset, .unset, .unset] [(.int ee115), (.int (p1 - p3)), (.int ((p0 ^^^ p2) + ee108)), (.int (p3 + ee101)), (.int (p2 + ee94)), (.int (p1 + ee87)), (.int (p0 + ee80)), (.ref b63), (.ref b63)])) t → Steps p.tables e below (s₁.setTop (entryFrame m #[(.int p0), (.int p1), (.int p2), (.int p3), (.int p4), (.int p5)] maxLocals)) t := ⟨(f_e vk (5 : Int32) p5), rfl, pre114⟩
  clear pre114
  have pre117 : ∀ t, Steps p.tables e below (T113.setTop (mkF m 184 #[.val (.int p0), .val (.int p1), .val (.int p2), .val (.int p3), .val (.int p4), .val (.int p5), .val (.int vk), .val (.ref b4), .val (.ref b39), .unset, .unset, .unset, .unset] [(.int (6 : Int32)), (.ref b4), (.int ((p1 - p3) + ee115)), (.int ((p0 ^^^ p2) + ee108)), (.int (p3 + ee101)), (.int (p2 + ee94)), (.int (p1 + ee87)), (.int (p0 + ee80)), (.ref b63), (.ref b63)])) t → Steps p.tables e below (s₁.setTop (entryFrame m #[(.int p0), (.int p1), (.int p2), (.int p3), (.int p4), (.int p5)] maxLocals)) t := fun t kt => pre116 t (by
    show Steps p.tables e below (T113.setTop (mkF m 179 #[.val (.int p0), .val (.int p1), .val (.int p2), .val (.int p3), .val (.int p4), .val (.int p5), .val (.int vk), .val (.ref b4), .val (.ref b39), .unset, .unset, .unset, .unset] [(.int ee115), (.int (p1 - p3)), (.int ((p0 ^^^ p2) + ee108)), (.int (p3 + ee101)), (.int (p2 + ee94)), (.int (p1 + ee87)), (.int (p0 + ee80)), (.ref b63), (.ref b63)])) _
    refine XS.iadd X113.here hx rfl (hb hby at_179) rfl ?_
    show Steps p.tables e below (T113.setTop (mkF m 180 #[.val (.int p0), .val (.int p1), .val (.int p2), .val (.int p3), .val (.int p4), .val (.int p5), .val (.int vk), .val (.ref b4), .val (.ref b39), .unset, .unset, .unset, .unset] [(.int ((p1 - p3) + ee115)), (.int ((p0 ^^^ p2) + ee108)), (.int (p3 + ee101)), (.int (p2 + ee94)), (.int (p1 + ee87)), (.int (p0 + ee80)), (.ref b63), (.ref b63)])) _
    refine XS.aload X113.here hx rfl (hb hby at_180) rfl rfl ?_
    show Steps p.tables e below (T113.setTop (mkF m 182 #[.val (.int p0), .val (.int p1), .val (.int p2), .val (.int p3), .val (.int p4), .val (.int p5), .val (.int vk), .val (.ref b4), .val (.ref b39), .unset, .unset, .unset, .unset] [(.ref b4), (.int ((p1 - p3) + ee115)), (.int ((p0 ^^^ p2) + ee108)), (.int (p3 + ee101)), (.int (p2 + ee94)), (.int (p1 + ee87)), (.int (p0 + ee80)), (.ref b63), (.ref b63)])) _
    refine XS.bipush X113.here hx rfl (hb hby at_182) ?_
    exact kt)
  clear pre116
  have tv118 := F65
  obtain ⟨cl118, Ar118, q118, S118, Ng118, H118, G118⟩ := tv118
  have hin118 : ¬ ((6 : Int32) < 0 ∨ cl118.slots.size ≤ ((6 : Int32)).toNatClampNeg) := inb_of S118 ⟨by decide, by decide⟩
  have hat118 : cl118.slots[((6 : Int32)).toNatClampNeg]? = some (.int (p0 + p1)) := Has.at H118 hin118 rfl
  have pre119 : ∀ t, Steps p.tables e below (T113.setTop (mkF m 191 #[.val (.int p0), .val (.int p1), .val (.int p2), .val (.int p3), .val (.int p4), .val (.int p5), .val (.int vk), .val (.ref b4), .val (.ref b39), .unset, .unset, .unset, .unset] [(.int p5), (.int (6 : Int32)), (.int vk), (.int (p0 + p1)), (.int ((p1 - p3) + ee115)), (.int ((p0 ^^^ p2) + ee108)), (.int (p3 + ee101)), (.int (p2 + ee94)), (.int (p1 + ee87)), (.int (p0 + ee80)), (.ref b63), (.ref b63)])) t → Steps p.tables e below (s₁.setTop (entryFrame m #[(.int p0), (.int p1), (.int p2), (.int p3), (.int p4), (.int p5)] maxLocals)) t := fun t kt => pre117 t (by
    show Steps p.tables e below (T113.setTop (mkF m 184 #[.val (.int p0), .val (.int p1), .val (.int p2), .val (.int p3), .val (.int p4), .val (.int p5), .val (.int vk), .val (.ref b4), .val (.ref b39), .unset, .unset, .unset, .unset] [(.int (6 : Int32)), (.ref b4), (.int ((p1 - p3) + ee115)), (.int ((p0 ^^^ p2) + ee108)), (.int (p3 + ee101)), (.int (p2 + ee94)), (.int (p1 + ee87)), (.int (p0 + ee80)), (.ref b63), (.ref b63)])) _
    refine X113.iaload hx (j := (6 : Int32)) (v := (.int (p0 + p1))) (by rw [e113]; exact Ar118.1) (State.isArrayOf_alike hZ.alike Ar118.2.1) Ar118.2.2 hin118 hat118 (g := (mkF m 184 #[.val (.int p0), .val (.int p1), .val (.int p2), .val (.int p3), .val (.int p4), .val (.int p5), .val (.int vk), .val (.ref b4), .val (.ref b39), .unset, .unset, .unset, .unset] [(.int (6 : Int32)), (.ref b4), (.int ((p1 - p3) + ee115)), (.int ((p0 ^^^ p2) + ee108)), (.int (p3 + ee101)), (.int (p2 + ee94)), (.int (p1 + ee87)), (.int (p0 + ee80)), (.ref b63), (.ref b63)])) rfl rfl (hb hby at_184) _ ?_
    show Steps p.tables e below (T113.setTop (mkF m 185 #[.val (.int p0), .val (.int p1), .val (.int p2), .val (.int p3), .val (.int p4), .val (.int p5), .val (.int vk), .val (.ref b4), .val (.ref b39), .unset, .unset, .unset, .unset] [(.int (p0 + p1)), (.int ((p1 - p3) + ee115)), (.int ((p0 ^^^ p2) + ee108)), (.int (p3 + ee101)), (.int (p2 + ee94)), (.int (p1 + ee87)), (.int (p0 + ee80)), (.ref b63), (.ref b63)])) _
    refine XS.iload X113.here hx rfl (hb hby at_185) rfl ?_
    show Steps p.tables e below (T113.setTop (mkF m 187 #[.val (.int p0), .val (.int p1), .val (.int p2), .val (.int p3), .val (.int p4), .val (.int p5), .val (.int vk), .val (.ref b4), .val (.ref b39), .unset, .unset, .unset, .unset] [(.int vk), (.int (p0 + p1)), (.int ((p1 - p3) + ee115)), (.int ((p0 ^^^ p2) + ee108)), (.int (p3 + ee101)), (.int (p2 + ee94)), (.int (p1 + ee87)), (.int (p0 + ee80)), (.ref b63), (.ref b63)])) _
    refine XS.bipush X113.here hx rfl (hb hby at_187) ?_
    show Steps p.tables e below (T113.setTop (mkF m 189 #[.val (.int p0), .val (.int p1), .val (.int p2), .val (.int p3), .val (.int p4), .val (.int p5), .val (.int vk), .val (.ref b4), .val (.ref b39), .unset, .unset, .unset, .unset] [(.int (6 : Int32)), (.int vk), (.int (p0 + p1)), (.int ((p1 - p3) + ee115)), (.int ((p0 ^^^ p2) + ee108)), (.int (p3 + ee101)), (.int (p2 + ee94)), (.int (p1 + ee87)), (.int (p0 + ee80)), (.ref b63), (.ref b63)])) _
    refine XS.iload X113.here hx rfl (hb hby at_189) rfl ?_
    exact kt)
  clear pre117
  obtain ⟨_, _, ⟨T120, L120, k120, n120⟩, -, X120, ⟨Lc120, hQ120, l120, y120, z120⟩, st120⟩ := Jvm.LawKit.callS X113 hx (y := (⟨"com/example/heptapolis/heptapolis/duel/ScoreTotalPinLaw", "e", "(III)I"⟩ : MethodName)) hown (mvT hZ (hw _ (List.mem_of_getElem? (i := 31) rfl))) (mvT hZ (hw _ (List.mem_of_getElem? (i := 32) rfl))) (mvT hZ (hw _ (List.mem_of_getElem? (i := 33) rfl))) (mvT hZ (hw _ (List.mem_of_getElem? (i := 34) rfl))) (by decide) (backOf (W := 9) (rm4 l Z av hw [] vk (6 : Int32) p5  h63 n0 Z63 ) hZ (hw _ (List.mem_of_getElem? (i := 34) rfl)) (hw _ (List.mem_of_getElem? (i := 33) rfl)) (by decide) (by decide)) (g := (mkF m 191 #[.val (.int p0), .val (.int p1), .val (.int p2), .val (.int p3), .val (.int p4), .val (.int p5), .val (.int vk), .val (.ref b4), .val (.ref b39), .unset, .unset, .unset, .unset] [(.int p5), (.int (6 : Int32)), (.int vk), (.int (p0 + p1)), (.int ((p1 - p3) + ee115)), (.int ((p0 ^^^ p2) + ee108)), (.int (p3 + ee101)), (.int (p2 + ee94)), (.int (p1 + ee87)), (.int (p0 + ee80)), (.ref b63), (.ref b63)])) rfl (by rw [hml]; rfl) (argsL := [(.int vk), (.int (6 : Int32)), (.int p5)]) (rest := [(.int (p0 + p1)), (.int ((p1 - p3) + ee115)), (.int ((p0 ^^^ p2) + ee108)), (.int (p3 + ee101)), (.int (p2 + ee94)), (.int (p1 + ee87)), (.int (p0 + ee80)), (.ref b63), (.ref b63)]) (lenOf pd__III_I rfl) rfl (by show 2 * 0 + _ ≤ _; exact Nat.le_of_eq rfl) (hb hby at_191) (fun _ _ => ⟨rfl, e113, (by decide : 3 + 0 ≤ _), (by decide : 24 + 0 ≤ _)⟩)
  dsimp only [Pt.U, Pt.locs, Pt.cells, Pt.slots] at X120 l120 y120 z120 st120 hQ120
  rw [l120, y120, z120] at X120
  clear l120 y120 z120
  obtain ⟨rfl, N120q, e120⟩ := hQ120
  have N120 := Fr.app N113 N120q
  have pre121 : ∀ t, Steps p.tables e below (T120.setTop (mkF m 194 #[.val (.int p0), .val (.int p1), .val (.int p2), .val (.int p3), .val (.int p4), .val (.int p5), .val (.int vk), .val (.ref b4), .val (.ref b39), .unset, .unset, .unset, .unset] [(.int (f_e vk (6 : Int32) p5)), (.int (p0 + p1)), (.int ((p1 - p3) + ee115)), (.int ((p0 ^^^ p2) + ee108)), (.int (p3 + ee101)), (.int (p2 + ee94)), (.int (p1 + ee87)), (.int (p0 + ee80)), (.ref b63), (.ref b63)])) t → Steps p.tables e below (s₁.setTop (entryFrame m #[(.int p0), (.int p1), (.int p2), (.int p3), (.int p4), (.int p5)] maxLocals)) t := fun t kt => pre119 t (st120 _ kt)
  clear pre119 st120
  obtain ⟨ee122, hm123, pre123⟩ : ∃ (ee122 : Int32), (ee122 = (f_e vk (6 : Int32) p5)) ∧ ∀ t, Steps p.tables e below (T120.setTop (mkF m 194 #[.val (.int p0), .val (.int p1), .val (.int p2), .val (.int p3), .val (.int p4), .val (.int p5), .val (.int vk), .val (.ref b4), .val (.ref b39), .unset, .unset, .unset, .unset] [(.int ee122), (.int (p0 + p1)), (.int ((p1 - p3) + ee115)), (.int ((p0 ^^^ p2) + ee108)), (.int (p3 + ee101)), (.int (p2 + ee94)), (.int (p1 + ee87)), (.int (p0 + ee80)), (.ref b63), (.ref b63)])) t → Steps p.tables e below (s₁.setTop (entryFrame m #[(.int p0), (.int p1), (.int p2), (.int p3), (.int p4), (.int p5)] maxLocals)) t := ⟨(f_e vk (6 : Int32) p5), rfl, pre121⟩
  clear pre121
  have pre124 : ∀ t, Steps p.tables e below (T120.setTop (mkF m 199 #[.val (.int p0), .val (.int p1), .val (.int p2), .val (.int p3), .val (.int p4), .val (.int p5), .val (.int vk), .val (.ref b4), .val (.ref b39), .unset, .unset, .unset, .unset] [(.int (7 : Int32)), (.ref b4), (.int ((p0 + p1) + ee122)), (.int ((p1 - p3) + ee115)), (.int ((p0 ^^^ p2) + ee108)), (.int (p3 + ee101)), (.int (p2 + ee94)), (.int (p1 + ee87)), (.int (p0 + ee80)), (.ref b63), (.ref b63)])) t → Steps p.tables e below (s₁.setTop (entryFrame m #[(.int p0), (.int p1), (.int p2), (.int p3), (.int p4), (.int p5)] maxLocals)) t := fun t kt => pre123 t (by
    show Steps p.tables e below (T120.setTop (mkF m 194 #[.val (.int p0), .val (.int p1), .val (.int p2), .val (.int p3), .val (.int p4), .val (.int p5), .val (.int vk), .val (.ref b4), .val (.ref b39), .unset, .unset, .unset, .unset] [(.int ee122), (.int (p0 + p1)), (.int ((p1 - p3) + ee115)), (.int ((p0 ^^^ p2) + ee108)), (.int (p3 + ee101)), (.int (p2 + ee94)), (.int (p1 + ee87)), (.int (p0 + ee80)), (.ref b63), (.ref b63)])) _
    refine XS.iadd X120.here hx rfl (hb hby at_194) rfl ?_
    show Steps p.tables e below (T120.setTop (mkF m 195 #[.val (.int p0), .val (.int p1), .val (.int p2), .val (.int p3), .val (.int p4), .val (.int p5), .val (.int vk), .val (.ref b4), .val (.ref b39), .unset, .unset, .unset, .unset] [(.int ((p0 + p1) + ee122)), (.int ((p1 - p3) + ee115)), (.int ((p0 ^^^ p2) + ee108)), (.int (p3 + ee101)), (.int (p2 + ee94)), (.int (p1 + ee87)), (.int (p0 + ee80)), (.ref b63), (.ref b63)])) _
    refine XS.aload X120.here hx rfl (hb hby at_195) rfl rfl ?_
    show Steps p.tables e below (T120.setTop (mkF m 197 #[.val (.int p0), .val (.int p1), .val (.int p2), .val (.int p3), .val (.int p4), .val (.int p5), .val (.int vk), .val (.ref b4), .val (.ref b39), .unset, .unset, .unset, .unset] [(.ref b4), (.int ((p0 + p1) + ee122)), (.int ((p1 - p3) + ee115)), (.int ((p0 ^^^ p2) + ee108)), (.int (p3 + ee101)), (.int (p2 + ee94)), (.int (p1 + ee87)), (.int (p0 + ee80)), (.ref b63), (.ref b63)])) _
    refine XS.bipush X120.here hx rfl (hb hby at_197) ?_
    exact kt)
  clear pre123
  have tv125 := F65
  obtain ⟨cl125, Ar125, q125, S125, Ng125, H125, G125⟩ := tv125
  have hin125 : ¬ ((7 : Int32) < 0 ∨ cl125.slots.size ≤ ((7 : Int32)).toNatClampNeg) := inb_of S125 ⟨by decide, by decide⟩
  have hat125 : cl125.slots[((7 : Int32)).toNatClampNeg]? = some (.int (p2 * p3)) := Has.at H125 hin125 rfl
  have pre126 : ∀ t, Steps p.tables e below (T120.setTop (mkF m 206 #[.val (.int p0), .val (.int p1), .val (.int p2), .val (.int p3), .val (.int p4), .val (.int p5), .val (.int vk), .val (.ref b4), .val (.ref b39), .unset, .unset, .unset, .unset] [(.int p5), (.int (7 : Int32)), (.int vk), (.int (p2 * p3)), (.int ((p0 + p1) + ee122)), (.int ((p1 - p3) + ee115)), (.int ((p0 ^^^ p2) + ee108)), (.int (p3 + ee101)), (.int (p2 + ee94)), (.int (p1 + ee87)), (.int (p0 + ee80)), (.ref b63), (.ref b63)])) t → Steps p.tables e below (s₁.setTop (entryFrame m #[(.int p0), (.int p1), (.int p2), (.int p3), (.int p4), (.int p5)] maxLocals)) t := fun t kt => pre124 t (by
    show Steps p.tables e below (T120.setTop (mkF m 199 #[.val (.int p0), .val (.int p1), .val (.int p2), .val (.int p3), .val (.int p4), .val (.int p5), .val (.int vk), .val (.ref b4), .val (.ref b39), .unset, .unset, .unset, .unset] [(.int (7 : Int32)), (.ref b4), (.int ((p0 + p1) + ee122)), (.int ((p1 - p3) + ee115)), (.int ((p0 ^^^ p2) + ee108)), (.int (p3 + ee101)), (.int (p2 + ee94)), (.int (p1 + ee87)), (.int (p0 + ee80)), (.ref b63), (.ref b63)])) _
    refine X120.iaload hx (j := (7 : Int32)) (v := (.int (p2 * p3))) (by rw [e120]; exact Ar125.1) (State.isArrayOf_alike hZ.alike Ar125.2.1) Ar125.2.2 hin125 hat125 (g := (mkF m 199 #[.val (.int p0), .val (.int p1), .val (.int p2), .val (.int p3), .val (.int p4), .val (.int p5), .val (.int vk), .val (.ref b4), .val (.ref b39), .unset, .unset, .unset, .unset] [(.int (7 : Int32)), (.ref b4), (.int ((p0 + p1) + ee122)), (.int ((p1 - p3) + ee115)), (.int ((p0 ^^^ p2) + ee108)), (.int (p3 + ee101)), (.int (p2 + ee94)), (.int (p1 + ee87)), (.int (p0 + ee80)), (.ref b63), (.ref b63)])) rfl rfl (hb hby at_199) _ ?_
    show Steps p.tables e below (T120.setTop (mkF m 200 #[.val (.int p0), .val (.int p1), .val (.int p2), .val (.int p3), .val (.int p4), .val (.int p5), .val (.int vk), .val (.ref b4), .val (.ref b39), .unset, .unset, .unset, .unset] [(.int (p2 * p3)), (.int ((p0 + p1) + ee122)), (.int ((p1 - p3) + ee115)), (.int ((p0 ^^^ p2) + ee108)), (.int (p3 + ee101)), (.int (p2 + ee94)), (.int (p1 + ee87)), (.int (p0 + ee80)), (.ref b63), (.ref b63)])) _
    refine XS.iload X120.here hx rfl (hb hby at_200) rfl ?_
    show Steps p.tables e below (T120.setTop (mkF m 202 #[.val (.int p0), .val (.int p1), .val (.int p2), .val (.int p3), .val (.int p4), .val (.int p5), .val (.int vk), .val (.ref b4), .val (.ref b39), .unset, .unset, .unset, .unset] [(.int vk), (.int (p2 * p3)), (.int ((p0 + p1) + ee122)), (.int ((p1 - p3) + ee115)), (.int ((p0 ^^^ p2) + ee108)), (.int (p3 + ee101)), (.int (p2 + ee94)), (.int (p1 + ee87)), (.int (p0 + ee80)), (.ref b63), (.ref b63)])) _
    refine XS.bipush X120.here hx rfl (hb hby at_202) ?_
    show Steps p.tables e below (T120.setTop (mkF m 204 #[.val (.int p0), .val (.int p1), .val (.int p2), .val (.int p3), .val (.int p4), .val (.int p5), .val (.int vk), .val (.ref b4), .val (.ref b39), .unset, .unset, .unset, .unset] [(.int (7 : Int32)), (.int vk), (.int (p2 * p3)), (.int ((p0 + p1) + ee122)), (.int ((p1 - p3) + ee115)), (.int ((p0 ^^^ p2) + ee108)), (.int (p3 + ee101)), (.int (p2 + ee94)), (.int (p1 + ee87)), (.int (p0 + ee80)), (.ref b63), (.ref b63)])) _
    refine XS.iload X120.here hx rfl (hb hby at_204) rfl ?_
    exact kt)
  clear pre124
  obtain ⟨_, _, ⟨T127, L127, k127, n127⟩, -, X127, ⟨Lc127, hQ127, l127, y127, z127⟩, st127⟩ := Jvm.LawKit.callS X120 hx (y := (⟨"com/example/heptapolis/heptapolis/duel/ScoreTotalPinLaw", "e", "(III)I"⟩ : MethodName)) hown (mvT hZ (hw _ (List.mem_of_getElem? (i := 31) rfl))) (mvT hZ (hw _ (List.mem_of_getElem? (i := 32) rfl))) (mvT hZ (hw _ (List.mem_of_getElem? (i := 33) rfl))) (mvT hZ (hw _ (List.mem_of_getElem? (i := 34) rfl))) (by decide) (backOf (W := 10) (rm4 l Z av hw [] vk (7 : Int32) p5  h63 n0 Z63 ) hZ (hw _ (List.mem_of_getElem? (i := 34) rfl)) (hw _ (List.mem_of_getElem? (i := 33) rfl)) (by decide) (by decide)) (g := (mkF m 206 #[.val (.int p0), .val (.int p1), .val (.int p2), .val (.int p3), .val (.int p4), .val (.int p5), .val (.int vk), .val (.ref b4), .val (.ref b39), .unset, .unset, .unset, .unset] [(.int p5), (.int (7 : Int32)), (.int vk), (.int (p2 * p3)), (.int ((p0 + p1) + ee122)), (.int ((p1 - p3) + ee115)), (.int ((p0 ^^^ p2) + ee108)), (.int (p3 + ee101)), (.int (p2 + ee94)), (.int (p1 + ee87)), (.int (p0 + ee80)), (.ref b63), (.ref b63)])) rfl (by rw [hml]; rfl) (argsL := [(.int vk), (.int (7 : Int32)), (.int p5)]) (rest := [(.int (p2 * p3)), (.int ((p0 + p1) + ee122)), (.int ((p1 - p3) + ee115)), (.int ((p0 ^^^ p2) + ee108)), (.int (p3 + ee101)), (.int (p2 + ee94)), (.int (p1 + ee87)), (.int (p0 + ee80)), (.ref b63), (.ref b63)]) (lenOf pd__III_I rfl) rfl (by show 2 * 0 + _ ≤ _; exact Nat.le_of_eq rfl) (hb hby at_206) (fun _ _ => ⟨rfl, e120, (by decide : 3 + 0 ≤ _), (by decide : 24 + 0 ≤ _)⟩)
  dsimp only [Pt.U, Pt.locs, Pt.cells, Pt.slots] at X127 l127 y127 z127 st127 hQ127
  rw [l127, y127, z127] at X127
  clear l127 y127 z127
  obtain ⟨rfl, N127q, e127⟩ := hQ127
  have N127 := Fr.app N120 N127q
  have pre128 : ∀ t, Steps p.tables e below (T127.setTop (mkF m 209 #[.val (.int p0), .val (.int p1), .val (.int p2), .val (.int p3), .val (.int p4), .val (.int p5), .val (.int vk), .val (.ref b4), .val (.ref b39), .unset, .unset, .unset, .unset] [(.int (f_e vk (7 : Int32) p5)), (.int (p2 * p3)), (.int ((p0 + p1) + ee122)), (.int ((p1 - p3) + ee115)), (.int ((p0 ^^^ p2) + ee108)), (.int (p3 + ee101)), (.int (p2 + ee94)), (.int (p1 + ee87)), (.int (p0 + ee80)), (.ref b63), (.ref b63)])) t → Steps p.tables e below (s₁.setTop (entryFrame m #[(.int p0), (.int p1), (.int p2), (.int p3), (.int p4), (.int p5)] maxLocals)) t := fun t kt => pre126 t (st127 _ kt)
  clear pre126 st127
  obtain ⟨ee129, hm130, pre130⟩ : ∃ (ee129 : Int32), (ee129 = (f_e vk (7 : Int32) p5)) ∧ ∀ t, Steps p.tables e below (T127.setTop (mkF m 209 #[.val (.int p0), .val (.int p1), .val (.int p2), .val (.int p3), .val (.int p4), .val (.int p5), .val (.int vk), .val (.ref b4), .val (.ref b39), .unset, .unset, .unset, .unset] [(.int ee129), (.int (p2 * p3)), (.int ((p0 + p1) + ee122)), (.int ((p1 - p3) + ee115)), (.int ((p0 ^^^ p2) + ee108)), (.int (p3 + ee101)), (.int (p2 + ee94)), (.int (p1 + ee87)), (.int (p0 + ee80)), (.ref b63), (.ref b63)])) t → Steps p.tables e below (s₁.setTop (entryFrame m #[(.int p0), (.int p1), (.int p2), (.int p3), (.int p4), (.int p5)] maxLocals)) t := ⟨(f_e vk (7 : Int32) p5), rfl, pre128⟩
  clear pre128
  have pre131 : ∀ t, Steps p.tables e below (T127.setTop (mkF m 210 #[.val (.int p0), .val (.int p1), .val (.int p2), .val (.int p3), .val (.int p4), .val (.int p5), .val (.int vk), .val (.ref b4), .val (.ref b39), .unset, .unset, .unset, .unset] [(.int ((p2 * p3) + ee129)), (.int ((p0 + p1) + ee122)), (.int ((p1 - p3) + ee115)), (.int ((p0 ^^^ p2) + ee108)), (.int (p3 + ee101)), (.int (p2 + ee94)), (.int (p1 + ee87)), (.int (p0 + ee80)), (.ref b63), (.ref b63)])) t → Steps p.tables e below (s₁.setTop (entryFrame m #[(.int p0), (.int p1), (.int p2), (.int p3), (.int p4), (.int p5)] maxLocals)) t := fun t kt => pre130 t (by
    show Steps p.tables e below (T127.setTop (mkF m 209 #[.val (.int p0), .val (.int p1), .val (.int p2), .val (.int p3), .val (.int p4), .val (.int p5), .val (.int vk), .val (.ref b4), .val (.ref b39), .unset, .unset, .unset, .unset] [(.int ee129), (.int (p2 * p3)), (.int ((p0 + p1) + ee122)), (.int ((p1 - p3) + ee115)), (.int ((p0 ^^^ p2) + ee108)), (.int (p3 + ee101)), (.int (p2 + ee94)), (.int (p1 + ee87)), (.int (p0 + ee80)), (.ref b63), (.ref b63)])) _
    refine XS.iadd X127.here hx rfl (hb hby at_209) rfl ?_
    exact kt)
  clear pre130
  obtain ⟨_, _, ⟨T132, L132, k132, n132⟩, -, X132, ⟨Lc132, hQ132, l132, y132, z132⟩, st132⟩ := X127.specialBack hx (y := (⟨"com/example/heptapolis/heptapolis/duel/Score", "<init>", "(IIIIIIII)V"⟩ : MethodName)) rfl hown (mvT hZ (hw _ (List.mem_of_getElem? (i := 4) rfl))) (mvT hZ (hw _ (List.mem_of_getElem? (i := 5) rfl))) (mvT hZ (hw _ (List.mem_of_getElem? (i := 6) rfl))) (by decide) (backOf (W := 1) (rm1 l Z av hw [] b63 (p0 + ee80) (p1 + ee87) (p2 + ee94) (p3 + ee101) ((p0 ^^^ p2) + ee108) ((p1 - p3) + ee115) ((p0 + p1) + ee122) ((p2 * p3) + ee129)  h63 n0 Z63 A63 gn63 Fn63_blue Fn63_green Fn63_yellow Fn63_purple Fn63_wonders Fn63_progress Fn63_coins Fn63_military) hZ (hw _ (List.mem_of_getElem? (i := 6) rfl)) (hw _ (List.mem_of_getElem? (i := 3) rfl)) (by decide) (by decide)) (g := (mkF m 210 #[.val (.int p0), .val (.int p1), .val (.int p2), .val (.int p3), .val (.int p4), .val (.int p5), .val (.int vk), .val (.ref b4), .val (.ref b39), .unset, .unset, .unset, .unset] [(.int ((p2 * p3) + ee129)), (.int ((p0 + p1) + ee122)), (.int ((p1 - p3) + ee115)), (.int ((p0 ^^^ p2) + ee108)), (.int (p3 + ee101)), (.int (p2 + ee94)), (.int (p1 + ee87)), (.int (p0 + ee80)), (.ref b63), (.ref b63)])) rfl (by rw [hml]; rfl) (Steps.refl _) (a := b63) (argsL := [(.int (p0 + ee80)), (.int (p1 + ee87)), (.int (p2 + ee94)), (.int (p3 + ee101)), (.int ((p0 ^^^ p2) + ee108)), (.int ((p1 - p3) + ee115)), (.int ((p0 + p1) + ee122)), (.int ((p2 * p3) + ee129))]) (rest := [(.ref b63)]) (lenOf pd__IIIIIIII_V rfl) rfl (by show 2 * 0 + _ ≤ _; exact Nat.le_of_eq rfl) (hb hby at_210) (fun _ _ => ⟨rfl, e127, (by decide : 3 + 0 ≤ _), (by decide : 24 + 0 ≤ _)⟩)
  dsimp only [Pt.U, Pt.locs, Pt.cells, Pt.slots] at X132 l132 y132 z132 st132 hQ132
  rw [l132, y132, z132] at X132
  clear l132 y132 z132
  obtain ⟨rfl, N132q, Kq132, Fq132_0, Fq132_1, Fq132_2, Fq132_3, Fq132_4, Fq132_5, Fq132_6, Fq132_7, Fq132_8⟩ := hQ132
  have N132 := Fr.app N127 N132q
  have F133 : Arv Z T132.heap b4 k4 .int (8 : Int32) [(.int p0), (.int p1), (.int p2), (.int p3), (.int (p0 ^^^ p2)), (.int (p1 - p3)), (.int (p0 + p1)), (.int (p2 * p3))] (.int (0 : Int32)) := F65.keep Kq132 (ninS ne_b4_b63 nin0)
  have F134 : Exa Z T132.heap b39 "com/example/heptapolis/heptapolis/duel/Score" := F66.keep Kq132
  have F135 : Fld Z T132.heap b39 "com/example/heptapolis/heptapolis/duel/Score" "blue" "I" (.int p0) := F67.keep Kq132 (ninS ne_b39_b63 nin0)
  have F136 : Fld Z T132.heap b39 "com/example/heptapolis/heptapolis/duel/Score" "green" "I" (.int p1) := F68.keep Kq132 (ninS ne_b39_b63 nin0)
  have F137 : Fld Z T132.heap b39 "com/example/heptapolis/heptapolis/duel/Score" "yellow" "I" (.int p2) := F69.keep Kq132 (ninS ne_b39_b63 nin0)
  have F138 : Fld Z T132.heap b39 "com/example/heptapolis/heptapolis/duel/Score" "purple" "I" (.int p3) := F70.keep Kq132 (ninS ne_b39_b63 nin0)
  have F139 : Fld Z T132.heap b39 "com/example/heptapolis/heptapolis/duel/Score" "wonders" "I" (.int (p0 ^^^ p2)) := F71.keep Kq132 (ninS ne_b39_b63 nin0)
  have F140 : Fld Z T132.heap b39 "com/example/heptapolis/heptapolis/duel/Score" "progress" "I" (.int (p1 - p3)) := F72.keep Kq132 (ninS ne_b39_b63 nin0)
  have F141 : Fld Z T132.heap b39 "com/example/heptapolis/heptapolis/duel/Score" "coins" "I" (.int (p0 + p1)) := F73.keep Kq132 (ninS ne_b39_b63 nin0)
  have F142 : Fld Z T132.heap b39 "com/example/heptapolis/heptapolis/duel/Score" "military" "I" (.int (p2 * p3)) := F74.keep Kq132 (ninS ne_b39_b63 nin0)
  have K132 : Keep h0 T132.heap [] := K63.trans Kq132 (allS (Or.inr sz63) all0)
  have Z132 : n0 ≤ T132.heap.size := Nat.le_trans Z63 Kq132.1
  have Fq132_0' : Exa Z T132.heap b63 "com/example/heptapolis/heptapolis/duel/Score" := Fq132_0
  have Fq132_1' : Fld Z T132.heap b63 "com/example/heptapolis/heptapolis/duel/Score" "blue" "I" (.int (p0 + ee80)) := Fq132_1
  have Fq132_2' : Fld Z T132.heap b63 "com/example/heptapolis/heptapolis/duel/Score" "green" "I" (.int (p1 + ee87)) := Fq132_2
  have Fq132_3' : Fld Z T132.heap b63 "com/example/heptapolis/heptapolis/duel/Score" "yellow" "I" (.int (p2 + ee94)) := Fq132_3
  have Fq132_4' : Fld Z T132.heap b63 "com/example/heptapolis/heptapolis/duel/Score" "purple" "I" (.int (p3 + ee101)) := Fq132_4
  have Fq132_5' : Fld Z T132.heap b63 "com/example/heptapolis/heptapolis/duel/Score" "wonders" "I" (.int ((p0 ^^^ p2) + ee108)) := Fq132_5
  have Fq132_6' : Fld Z T132.heap b63 "com/example/heptapolis/heptapolis/duel/Score" "progress" "I" (.int ((p1 - p3) + ee115)) := Fq132_6
  have Fq132_7' : Fld Z T132.heap b63 "com/example/heptapolis/heptapolis/duel/Score" "coins" "I" (.int ((p0 + p1) + ee122)) := Fq132_7
  have Fq132_8' : Fld Z T132.heap b63 "com/example/heptapolis/heptapolis/duel/Score" "military" "I" (.int ((p2 * p3) + ee129)) := Fq132_8
  have pre143 : ∀ t, Steps p.tables e below (T132.setTop (mkF m 213 #[.val (.int p0), .val (.int p1), .val (.int p2), .val (.int p3), .val (.int p4), .val (.int p5), .val (.int vk), .val (.ref b4), .val (.ref b39), .unset, .unset, .unset, .unset] [(.ref b63)])) t → Steps p.tables e below (s₁.setTop (entryFrame m #[(.int p0), (.int p1), (.int p2), (.int p3), (.int p4), (.int p5)] maxLocals)) t := fun t kt => pre131 t (st132.trans kt)
  clear pre131 st132
  have pre144 : ∀ t, Steps p.tables e below (T132.setTop (mkF m 215 #[.val (.int p0), .val (.int p1), .val (.int p2), .val (.int p3), .val (.int p4), .val (.int p5), .val (.int vk), .val (.ref b4), .val (.ref b39), .val (.ref b63), .unset, .unset, .unset] [])) t → Steps p.tables e below (s₁.setTop (entryFrame m #[(.int p0), (.int p1), (.int p2), (.int p3), (.int p4), (.int p5)] maxLocals)) t := fun t kt => pre143 t (by
    show Steps p.tables e below (T132.setTop (mkF m 213 #[.val (.int p0), .val (.int p1), .val (.int p2), .val (.int p3), .val (.int p4), .val (.int p5), .val (.int vk), .val (.ref b4), .val (.ref b39), .unset, .unset, .unset, .unset] [(.ref b63)])) _
    refine XS.astore X132.here hx rfl (hb hby at_213) rfl rfl (l' := #[.val (.int p0), .val (.int p1), .val (.int p2), .val (.int p3), .val (.int p4), .val (.int p5), .val (.int vk), .val (.ref b4), .val (.ref b39), .val (.ref b63), .unset, .unset, .unset]) rfl ?_
    exact kt)
  clear pre143
  obtain ⟨T145, h145, X145, e145, E145, A145, D145, -, st145⟩ := newO X132 hx hZ hown (hw _ (List.mem_of_getElem? (i := 1) rfl)) (hw _ (List.mem_of_getElem? (i := 2) rfl)) (hw _ (List.mem_of_getElem? (i := 3) rfl)) rfl (g := (mkF m 215 #[.val (.int p0), .val (.int p1), .val (.int p2), .val (.int p3), .val (.int p4), .val (.int p5), .val (.int vk), .val (.ref b4), .val (.ref b39), .val (.ref b63), .unset, .unset, .unset] [])) rfl (hb hby at_215) (by decide) (by decide)
  obtain ⟨b145, g145⟩ : ∃ z, z = T132.heap.size := ⟨_, rfl⟩
  rw [← g145] at A145 D145 st145
  have ne_b4_b145 : b4 ≠ b145 := Nat.ne_of_lt (Nat.lt_of_lt_of_le F133.lt (Nat.le_of_eq g145.symm))
  have ne_b39_b145 : b39 ≠ b145 := Nat.ne_of_lt (Nat.lt_of_lt_of_le F134.lt (Nat.le_of_eq g145.symm))
  have ne_b63_b145 : b63 ≠ b145 := Nat.ne_of_lt (Nat.lt_of_lt_of_le Fq132_0'.lt (Nat.le_of_eq g145.symm))
  have pre146 : ∀ t, Steps p.tables e below (T145.setTop (mkF m 218 #[.val (.int p0), .val (.int p1), .val (.int p2), .val (.int p3), .val (.int p4), .val (.int p5), .val (.int vk), .val (.ref b4), .val (.ref b39), .val (.ref b63), .unset, .unset, .unset] [(.ref b145)])) t → Steps p.tables e below (s₁.setTop (entryFrame m #[(.int p0), (.int p1), (.int p2), (.int p3), (.int p4), (.int p5)] maxLocals)) t := fun t kt => pre144 t (st145 _ kt)
  clear pre144 st145
  have F147 : Arv Z h145 b4 k4 .int (8 : Int32) [(.int p0), (.int p1), (.int p2), (.int p3), (.int (p0 ^^^ p2)), (.int (p1 - p3)), (.int (p0 + p1)), (.int (p2 * p3))] (.int (0 : Int32)) := F133.ext E145
  have F148 : Exa Z h145 b39 "com/example/heptapolis/heptapolis/duel/Score" := F134.ext E145
  have F149 : Fld Z h145 b39 "com/example/heptapolis/heptapolis/duel/Score" "blue" "I" (.int p0) := F135.ext E145
  have F150 : Fld Z h145 b39 "com/example/heptapolis/heptapolis/duel/Score" "green" "I" (.int p1) := F136.ext E145
  have F151 : Fld Z h145 b39 "com/example/heptapolis/heptapolis/duel/Score" "yellow" "I" (.int p2) := F137.ext E145
  have F152 : Fld Z h145 b39 "com/example/heptapolis/heptapolis/duel/Score" "purple" "I" (.int p3) := F138.ext E145
  have F153 : Fld Z h145 b39 "com/example/heptapolis/heptapolis/duel/Score" "wonders" "I" (.int (p0 ^^^ p2)) := F139.ext E145
  have F154 : Fld Z h145 b39 "com/example/heptapolis/heptapolis/duel/Score" "progress" "I" (.int (p1 - p3)) := F140.ext E145
  have F155 : Fld Z h145 b39 "com/example/heptapolis/heptapolis/duel/Score" "coins" "I" (.int (p0 + p1)) := F141.ext E145
  have F156 : Fld Z h145 b39 "com/example/heptapolis/heptapolis/duel/Score" "military" "I" (.int (p2 * p3)) := F142.ext E145
  have F157 : Exa Z h145 b63 "com/example/heptapolis/heptapolis/duel/Score" := Fq132_0'.ext E145
  have F158 : Fld Z h145 b63 "com/example/heptapolis/heptapolis/duel/Score" "blue" "I" (.int (p0 + ee80)) := Fq132_1'.ext E145
  have F159 : Fld Z h145 b63 "com/example/heptapolis/heptapolis/duel/Score" "green" "I" (.int (p1 + ee87)) := Fq132_2'.ext E145
  have F160 : Fld Z h145 b63 "com/example/heptapolis/heptapolis/duel/Score" "yellow" "I" (.int (p2 + ee94)) := Fq132_3'.ext E145
  have F161 : Fld Z h145 b63 "com/example/heptapolis/heptapolis/duel/Score" "purple" "I" (.int (p3 + ee101)) := Fq132_4'.ext E145
  have F162 : Fld Z h145 b63 "com/example/heptapolis/heptapolis/duel/Score" "wonders" "I" (.int ((p0 ^^^ p2) + ee108)) := Fq132_5'.ext E145
  have F163 : Fld Z h145 b63 "com/example/heptapolis/heptapolis/duel/Score" "progress" "I" (.int ((p1 - p3) + ee115)) := Fq132_6'.ext E145
  have F164 : Fld Z h145 b63 "com/example/heptapolis/heptapolis/duel/Score" "coins" "I" (.int ((p0 + p1) + ee122)) := Fq132_7'.ext E145
  have F165 : Fld Z h145 b63 "com/example/heptapolis/heptapolis/duel/Score" "military" "I" (.int ((p2 * p3) + ee129)) := Fq132_8'.ext E145
  have gn145 : n0 ≤ b145 := Nat.le_trans Z132 (Nat.le_of_eq g145.symm)
  have sz145 : h0.size ≤ b145 := Nat.le_trans K132.1 (Nat.le_of_eq g145.symm)
  have K145 : Keep h0 h145 [] := K132.ext E145
  have Z145 : n0 ≤ h145.size := Nat.le_trans Z132 E145.1
  have Fn145_blue : Fld Z h145 b145 "com/example/heptapolis/heptapolis/duel/Score" "blue" "I" (.int (0 : Int32)) := D145 (Or.inr (hw _ (List.mem_of_getElem? (i := 16) rfl))) (ty := .int) (by decide)
  have Fn145_green : Fld Z h145 b145 "com/example/heptapolis/heptapolis/duel/Score" "green" "I" (.int (0 : Int32)) := D145 (Or.inr (hw _ (List.mem_of_getElem? (i := 18) rfl))) (ty := .int) (by decide)
  have Fn145_yellow : Fld Z h145 b145 "com/example/heptapolis/heptapolis/duel/Score" "yellow" "I" (.int (0 : Int32)) := D145 (Or.inr (hw _ (List.mem_of_getElem? (i := 20) rfl))) (ty := .int) (by decide)
  have Fn145_purple : Fld Z h145 b145 "com/example/heptapolis/heptapolis/duel/Score" "purple" "I" (.int (0 : Int32)) := D145 (Or.inr (hw _ (List.mem_of_getElem? (i := 22) rfl))) (ty := .int) (by decide)
  have Fn145_wonders : Fld Z h145 b145 "com/example/heptapolis/heptapolis/duel/Score" "wonders" "I" (.int (0 : Int32)) := D145 (Or.inr (hw _ (List.mem_of_getElem? (i := 24) rfl))) (ty := .int) (by decide)
  have Fn145_progress : Fld Z h145 b145 "com/example/heptapolis/heptapolis/duel/Score" "progress" "I" (.int (0 : Int32)) := D145 (Or.inr (hw _ (List.mem_of_getElem? (i := 26) rfl))) (ty := .int) (by decide)
  have Fn145_coins : Fld Z h145 b145 "com/example/heptapolis/heptapolis/duel/Score" "coins" "I" (.int (0 : Int32)) := D145 (Or.inr (hw _ (List.mem_of_getElem? (i := 28) rfl))) (ty := .int) (by decide)
  have Fn145_military : Fld Z h145 b145 "com/example/heptapolis/heptapolis/duel/Score" "military" "I" (.int (0 : Int32)) := D145 (Or.inr (hw _ (List.mem_of_getElem? (i := 30) rfl))) (ty := .int) (by decide)
  have pre166 : ∀ t, Steps p.tables e below (T145.setTop (mkF m 224 #[.val (.int p0), .val (.int p1), .val (.int p2), .val (.int p3), .val (.int p4), .val (.int p5), .val (.int vk), .val (.ref b4), .val (.ref b39), .val (.ref b63), .unset, .unset, .unset] [(.int p5), (.int (0 : Int32)), (.int vk), (.ref b145), (.ref b145)])) t → Steps p.tables e below (s₁.setTop (entryFrame m #[(.int p0), (.int p1), (.int p2), (.int p3), (.int p4), (.int p5)] maxLocals)) t := fun t kt => pre146 t (by
    show Steps p.tables e below (T145.setTop (mkF m 218 #[.val (.int p0), .val (.int p1), .val (.int p2), .val (.int p3), .val (.int p4), .val (.int p5), .val (.int vk), .val (.ref b4), .val (.ref b39), .val (.ref b63), .unset, .unset, .unset] [(.ref b145)])) _
    refine XS.dup X145.here hx rfl (hb hby at_218) rfl rfl ?_
    show Steps p.tables e below (T145.setTop (mkF m 219 #[.val (.int p0), .val (.int p1), .val (.int p2), .val (.int p3), .val (.int p4), .val (.int p5), .val (.int vk), .val (.ref b4), .val (.ref b39), .val (.ref b63), .unset, .unset, .unset] [(.ref b145), (.ref b145)])) _
    refine XS.iload X145.here hx rfl (hb hby at_219) rfl ?_
    show Steps p.tables e below (T145.setTop (mkF m 221 #[.val (.int p0), .val (.int p1), .val (.int p2), .val (.int p3), .val (.int p4), .val (.int p5), .val (.int vk), .val (.ref b4), .val (.ref b39), .val (.ref b63), .unset, .unset, .unset] [(.int vk), (.ref b145), (.ref b145)])) _
    refine XS.iconst X145.here hx rfl (hb hby at_221) ?_
    show Steps p.tables e below (T145.setTop (mkF m 222 #[.val (.int p0), .val (.int p1), .val (.int p2), .val (.int p3), .val (.int p4), .val (.int p5), .val (.int vk), .val (.ref b4), .val (.ref b39), .val (.ref b63), .unset, .unset, .unset] [(.int (0 : Int32)), (.int vk), (.ref b145), (.ref b145)])) _
    refine XS.iload X145.here hx rfl (hb hby at_222) rfl ?_
    exact kt)
  clear pre146
  obtain ⟨_, _, ⟨T167, L167, k167, n167⟩, -, X167, ⟨Lc167, hQ167, l167, y167, z167⟩, st167⟩ := Jvm.LawKit.callS X145 hx (y := (⟨"com/example/heptapolis/heptapolis/duel/ScoreTotalPinLaw", "e", "(III)I"⟩ : MethodName)) hown (mvT hZ (hw _ (List.mem_of_getElem? (i := 31) rfl))) (mvT hZ (hw _ (List.mem_of_getElem? (i := 32) rfl))) (mvT hZ (hw _ (List.mem_of_getElem? (i := 33) rfl))) (mvT hZ (hw _ (List.mem_of_getElem? (i := 34) rfl))) (by decide) (backOf (W := 2) (rm4 l Z av hw [] vk (0 : Int32) p5  h145 n0 Z145 ) hZ (hw _ (List.mem_of_getElem? (i := 34) rfl)) (hw _ (List.mem_of_getElem? (i := 33) rfl)) (by decide) (by decide)) (g := (mkF m 224 #[.val (.int p0), .val (.int p1), .val (.int p2), .val (.int p3), .val (.int p4), .val (.int p5), .val (.int vk), .val (.ref b4), .val (.ref b39), .val (.ref b63), .unset, .unset, .unset] [(.int p5), (.int (0 : Int32)), (.int vk), (.ref b145), (.ref b145)])) rfl (by rw [hml]; rfl) (argsL := [(.int vk), (.int (0 : Int32)), (.int p5)]) (rest := [(.ref b145), (.ref b145)]) (lenOf pd__III_I rfl) rfl (by show 2 * 0 + _ ≤ _; exact Nat.le_of_eq rfl) (hb hby at_224) (fun _ _ => ⟨rfl, e145, (by decide : 4 + 0 ≤ _), (by decide : 32 + 0 ≤ _)⟩)
  dsimp only [Pt.U, Pt.locs, Pt.cells, Pt.slots] at X167 l167 y167 z167 st167 hQ167
  rw [l167, y167, z167] at X167
  clear l167 y167 z167
  obtain ⟨rfl, N167q, e167⟩ := hQ167
  have N167 := Fr.app N132 N167q
  have pre168 : ∀ t, Steps p.tables e below (T167.setTop (mkF m 227 #[.val (.int p0), .val (.int p1), .val (.int p2), .val (.int p3), .val (.int p4), .val (.int p5), .val (.int vk), .val (.ref b4), .val (.ref b39), .val (.ref b63), .unset, .unset, .unset] [(.int (f_e vk (0 : Int32) p5)), (.ref b145), (.ref b145)])) t → Steps p.tables e below (s₁.setTop (entryFrame m #[(.int p0), (.int p1), (.int p2), (.int p3), (.int p4), (.int p5)] maxLocals)) t := fun t kt => pre166 t (st167 _ kt)
  clear pre166 st167
  obtain ⟨ee169, hm170, pre170⟩ : ∃ (ee169 : Int32), (ee169 = (f_e vk (0 : Int32) p5)) ∧ ∀ t, Steps p.tables e below (T167.setTop (mkF m 227 #[.val (.int p0), .val (.int p1), .val (.int p2), .val (.int p3), .val (.int p4), .val (.int p5), .val (.int vk), .val (.ref b4), .val (.ref b39), .val (.ref b63), .unset, .unset, .unset] [(.int ee169), (.ref b145), (.ref b145)])) t → Steps p.tables e below (s₁.setTop (entryFrame m #[(.int p0), (.int p1), (.int p2), (.int p3), (.int p4), (.int p5)] maxLocals)) t := ⟨(f_e vk (0 : Int32) p5), rfl, pre168⟩
  clear pre168
  have pre171 : ∀ t, Steps p.tables e below (T167.setTop (mkF m 232 #[.val (.int p0), .val (.int p1), .val (.int p2), .val (.int p3), .val (.int p4), .val (.int p5), .val (.int vk), .val (.ref b4), .val (.ref b39), .val (.ref b63), .unset, .unset, .unset] [(.int p5), (.int (1 : Int32)), (.int vk), (.int ee169), (.ref b145), (.ref b145)])) t → Steps p.tables e below (s₁.setTop (entryFrame m #[(.int p0), (.int p1), (.int p2), (.int p3), (.int p4), (.int p5)] maxLocals)) t := fun t kt => pre170 t (by
    show Steps p.tables e below (T167.setTop (mkF m 227 #[.val (.int p0), .val (.int p1), .val (.int p2), .val (.int p3), .val (.int p4), .val (.int p5), .val (.int vk), .val (.ref b4), .val (.ref b39), .val (.ref b63), .unset, .unset, .unset] [(.int ee169), (.ref b145), (.ref b145)])) _
    refine XS.iload X167.here hx rfl (hb hby at_227) rfl ?_
    show Steps p.tables e below (T167.setTop (mkF m 229 #[.val (.int p0), .val (.int p1), .val (.int p2), .val (.int p3), .val (.int p4), .val (.int p5), .val (.int vk), .val (.ref b4), .val (.ref b39), .val (.ref b63), .unset, .unset, .unset] [(.int vk), (.int ee169), (.ref b145), (.ref b145)])) _
    refine XS.iconst X167.here hx rfl (hb hby at_229) ?_
    show Steps p.tables e below (T167.setTop (mkF m 230 #[.val (.int p0), .val (.int p1), .val (.int p2), .val (.int p3), .val (.int p4), .val (.int p5), .val (.int vk), .val (.ref b4), .val (.ref b39), .val (.ref b63), .unset, .unset, .unset] [(.int (1 : Int32)), (.int vk), (.int ee169), (.ref b145), (.ref b145)])) _
    refine XS.iload X167.here hx rfl (hb hby at_230) rfl ?_
    exact kt)
  clear pre170
  obtain ⟨_, _, ⟨T172, L172, k172, n172⟩, -, X172, ⟨Lc172, hQ172, l172, y172, z172⟩, st172⟩ := Jvm.LawKit.callS X167 hx (y := (⟨"com/example/heptapolis/heptapolis/duel/ScoreTotalPinLaw", "e", "(III)I"⟩ : MethodName)) hown (mvT hZ (hw _ (List.mem_of_getElem? (i := 31) rfl))) (mvT hZ (hw _ (List.mem_of_getElem? (i := 32) rfl))) (mvT hZ (hw _ (List.mem_of_getElem? (i := 33) rfl))) (mvT hZ (hw _ (List.mem_of_getElem? (i := 34) rfl))) (by decide) (backOf (W := 3) (rm4 l Z av hw [] vk (1 : Int32) p5  h145 n0 Z145 ) hZ (hw _ (List.mem_of_getElem? (i := 34) rfl)) (hw _ (List.mem_of_getElem? (i := 33) rfl)) (by decide) (by decide)) (g := (mkF m 232 #[.val (.int p0), .val (.int p1), .val (.int p2), .val (.int p3), .val (.int p4), .val (.int p5), .val (.int vk), .val (.ref b4), .val (.ref b39), .val (.ref b63), .unset, .unset, .unset] [(.int p5), (.int (1 : Int32)), (.int vk), (.int ee169), (.ref b145), (.ref b145)])) rfl (by rw [hml]; rfl) (argsL := [(.int vk), (.int (1 : Int32)), (.int p5)]) (rest := [(.int ee169), (.ref b145), (.ref b145)]) (lenOf pd__III_I rfl) rfl (by show 2 * 0 + _ ≤ _; exact Nat.le_of_eq rfl) (hb hby at_232) (fun _ _ => ⟨rfl, e167, (by decide : 4 + 0 ≤ _), (by decide : 32 + 0 ≤ _)⟩)
  dsimp only [Pt.U, Pt.locs, Pt.cells, Pt.slots] at X172 l172 y172 z172 st172 hQ172
  rw [l172, y172, z172] at X172
  clear l172 y172 z172
  obtain ⟨rfl, N172q, e172⟩ := hQ172
  have N172 := Fr.app N167 N172q
  have pre173 : ∀ t, Steps p.tables e below (T172.setTop (mkF m 235 #[.val (.int p0), .val (.int p1), .val (.int p2), .val (.int p3), .val (.int p4), .val (.int p5), .val (.int vk), .val (.ref b4), .val (.ref b39), .val (.ref b63), .unset, .unset, .unset] [(.int (f_e vk (1 : Int32) p5)), (.int ee169), (.ref b145), (.ref b145)])) t → Steps p.tables e below (s₁.setTop (entryFrame m #[(.int p0), (.int p1), (.int p2), (.int p3), (.int p4), (.int p5)] maxLocals)) t := fun t kt => pre171 t (st172 _ kt)
  clear pre171 st172
  obtain ⟨ee174, hm175, pre175⟩ : ∃ (ee174 : Int32), (ee174 = (f_e vk (1 : Int32) p5)) ∧ ∀ t, Steps p.tables e below (T172.setTop (mkF m 235 #[.val (.int p0), .val (.int p1), .val (.int p2), .val (.int p3), .val (.int p4), .val (.int p5), .val (.int vk), .val (.ref b4), .val (.ref b39), .val (.ref b63), .unset, .unset, .unset] [(.int ee174), (.int ee169), (.ref b145), (.ref b145)])) t → Steps p.tables e below (s₁.setTop (entryFrame m #[(.int p0), (.int p1), (.int p2), (.int p3), (.int p4), (.int p5)] maxLocals)) t := ⟨(f_e vk (1 : Int32) p5), rfl, pre173⟩
  clear pre173
  have pre176 : ∀ t, Steps p.tables e below (T172.setTop (mkF m 240 #[.val (.int p0), .val (.int p1), .val (.int p2), .val (.int p3), .val (.int p4), .val (.int p5), .val (.int vk), .val (.ref b4), .val (.ref b39), .val (.ref b63), .unset, .unset, .unset] [(.int p5), (.int (2 : Int32)), (.int vk), (.int ee174), (.int ee169), (.ref b145), (.ref b145)])) t → Steps p.tables e below (s₁.setTop (entryFrame m #[(.int p0), (.int p1), (.int p2), (.int p3), (.int p4), (.int p5)] maxLocals)) t := fun t kt => pre175 t (by
    show Steps p.tables e below (T172.setTop (mkF m 235 #[.val (.int p0), .val (.int p1), .val (.int p2), .val (.int p3), .val (.int p4), .val (.int p5), .val (.int vk), .val (.ref b4), .val (.ref b39), .val (.ref b63), .unset, .unset, .unset] [(.int ee174), (.int ee169), (.ref b145), (.ref b145)])) _
    refine XS.iload X172.here hx rfl (hb hby at_235) rfl ?_
    show Steps p.tables e below (T172.setTop (mkF m 237 #[.val (.int p0), .val (.int p1), .val (.int p2), .val (.int p3), .val (.int p4), .val (.int p5), .val (.int vk), .val (.ref b4), .val (.ref b39), .val (.ref b63), .unset, .unset, .unset] [(.int vk), (.int ee174), (.int ee169), (.ref b145), (.ref b145)])) _
    refine XS.iconst X172.here hx rfl (hb hby at_237) ?_
    show Steps p.tables e below (T172.setTop (mkF m 238 #[.val (.int p0), .val (.int p1), .val (.int p2), .val (.int p3), .val (.int p4), .val (.int p5), .val (.int vk), .val (.ref b4), .val (.ref b39), .val (.ref b63), .unset, .unset, .unset] [(.int (2 : Int32)), (.int vk), (.int ee174), (.int ee169), (.ref b145), (.ref b145)])) _
    refine XS.iload X172.here hx rfl (hb hby at_238) rfl ?_
    exact kt)
  clear pre175
  obtain ⟨_, _, ⟨T177, L177, k177, n177⟩, -, X177, ⟨Lc177, hQ177, l177, y177, z177⟩, st177⟩ := Jvm.LawKit.callS X172 hx (y := (⟨"com/example/heptapolis/heptapolis/duel/ScoreTotalPinLaw", "e", "(III)I"⟩ : MethodName)) hown (mvT hZ (hw _ (List.mem_of_getElem? (i := 31) rfl))) (mvT hZ (hw _ (List.mem_of_getElem? (i := 32) rfl))) (mvT hZ (hw _ (List.mem_of_getElem? (i := 33) rfl))) (mvT hZ (hw _ (List.mem_of_getElem? (i := 34) rfl))) (by decide) (backOf (W := 4) (rm4 l Z av hw [] vk (2 : Int32) p5  h145 n0 Z145 ) hZ (hw _ (List.mem_of_getElem? (i := 34) rfl)) (hw _ (List.mem_of_getElem? (i := 33) rfl)) (by decide) (by decide)) (g := (mkF m 240 #[.val (.int p0), .val (.int p1), .val (.int p2), .val (.int p3), .val (.int p4), .val (.int p5), .val (.int vk), .val (.ref b4), .val (.ref b39), .val (.ref b63), .unset, .unset, .unset] [(.int p5), (.int (2 : Int32)), (.int vk), (.int ee174), (.int ee169), (.ref b145), (.ref b145)])) rfl (by rw [hml]; rfl) (argsL := [(.int vk), (.int (2 : Int32)), (.int p5)]) (rest := [(.int ee174), (.int ee169), (.ref b145), (.ref b145)]) (lenOf pd__III_I rfl) rfl (by show 2 * 0 + _ ≤ _; exact Nat.le_of_eq rfl) (hb hby at_240) (fun _ _ => ⟨rfl, e172, (by decide : 4 + 0 ≤ _), (by decide : 32 + 0 ≤ _)⟩)
  dsimp only [Pt.U, Pt.locs, Pt.cells, Pt.slots] at X177 l177 y177 z177 st177 hQ177
  rw [l177, y177, z177] at X177
  clear l177 y177 z177
  obtain ⟨rfl, N177q, e177⟩ := hQ177
  have N177 := Fr.app N172 N177q
  have pre178 : ∀ t, Steps p.tables e below (T177.setTop (mkF m 243 #[.val (.int p0), .val (.int p1), .val (.int p2), .val (.int p3), .val (.int p4), .val (.int p5), .val (.int vk), .val (.ref b4), .val (.ref b39), .val (.ref b63), .unset, .unset, .unset] [(.int (f_e vk (2 : Int32) p5)), (.int ee174), (.int ee169), (.ref b145), (.ref b145)])) t → Steps p.tables e below (s₁.setTop (entryFrame m #[(.int p0), (.int p1), (.int p2), (.int p3), (.int p4), (.int p5)] maxLocals)) t := fun t kt => pre176 t (st177 _ kt)
  clear pre176 st177
  obtain ⟨ee179, hm180, pre180⟩ : ∃ (ee179 : Int32), (ee179 = (f_e vk (2 : Int32) p5)) ∧ ∀ t, Steps p.tables e below (T177.setTop (mkF m 243 #[.val (.int p0), .val (.int p1), .val (.int p2), .val (.int p3), .val (.int p4), .val (.int p5), .val (.int vk), .val (.ref b4), .val (.ref b39), .val (.ref b63), .unset, .unset, .unset] [(.int ee179), (.int ee174), (.int ee169), (.ref b145), (.ref b145)])) t → Steps p.tables e below (s₁.setTop (entryFrame m #[(.int p0), (.int p1), (.int p2), (.int p3), (.int p4), (.int p5)] maxLocals)) t := ⟨(f_e vk (2 : Int32) p5), rfl, pre178⟩
  clear pre178
  have pre181 : ∀ t, Steps p.tables e below (T177.setTop (mkF m 248 #[.val (.int p0), .val (.int p1), .val (.int p2), .val (.int p3), .val (.int p4), .val (.int p5), .val (.int vk), .val (.ref b4), .val (.ref b39), .val (.ref b63), .unset, .unset, .unset] [(.int p5), (.int (3 : Int32)), (.int vk), (.int ee179), (.int ee174), (.int ee169), (.ref b145), (.ref b145)])) t → Steps p.tables e below (s₁.setTop (entryFrame m #[(.int p0), (.int p1), (.int p2), (.int p3), (.int p4), (.int p5)] maxLocals)) t := fun t kt => pre180 t (by
    show Steps p.tables e below (T177.setTop (mkF m 243 #[.val (.int p0), .val (.int p1), .val (.int p2), .val (.int p3), .val (.int p4), .val (.int p5), .val (.int vk), .val (.ref b4), .val (.ref b39), .val (.ref b63), .unset, .unset, .unset] [(.int ee179), (.int ee174), (.int ee169), (.ref b145), (.ref b145)])) _
    refine XS.iload X177.here hx rfl (hb hby at_243) rfl ?_
    show Steps p.tables e below (T177.setTop (mkF m 245 #[.val (.int p0), .val (.int p1), .val (.int p2), .val (.int p3), .val (.int p4), .val (.int p5), .val (.int vk), .val (.ref b4), .val (.ref b39), .val (.ref b63), .unset, .unset, .unset] [(.int vk), (.int ee179), (.int ee174), (.int ee169), (.ref b145), (.ref b145)])) _
    refine XS.iconst X177.here hx rfl (hb hby at_245) ?_
    show Steps p.tables e below (T177.setTop (mkF m 246 #[.val (.int p0), .val (.int p1), .val (.int p2), .val (.int p3), .val (.int p4), .val (.int p5), .val (.int vk), .val (.ref b4), .val (.ref b39), .val (.ref b63), .unset, .unset, .unset] [(.int (3 : Int32)), (.int vk), (.int ee179), (.int ee174), (.int ee169), (.ref b145), (.ref b145)])) _
    refine XS.iload X177.here hx rfl (hb hby at_246) rfl ?_
    exact kt)
  clear pre180
  obtain ⟨_, _, ⟨T182, L182, k182, n182⟩, -, X182, ⟨Lc182, hQ182, l182, y182, z182⟩, st182⟩ := Jvm.LawKit.callS X177 hx (y := (⟨"com/example/heptapolis/heptapolis/duel/ScoreTotalPinLaw", "e", "(III)I"⟩ : MethodName)) hown (mvT hZ (hw _ (List.mem_of_getElem? (i := 31) rfl))) (mvT hZ (hw _ (List.mem_of_getElem? (i := 32) rfl))) (mvT hZ (hw _ (List.mem_of_getElem? (i := 33) rfl))) (mvT hZ (hw _ (List.mem_of_getElem? (i := 34) rfl))) (by decide) (backOf (W := 5) (rm4 l Z av hw [] vk (3 : Int32) p5  h145 n0 Z145 ) hZ (hw _ (List.mem_of_getElem? (i := 34) rfl)) (hw _ (List.mem_of_getElem? (i := 33) rfl)) (by decide) (by decide)) (g := (mkF m 248 #[.val (.int p0), .val (.int p1), .val (.int p2), .val (.int p3), .val (.int p4), .val (.int p5), .val (.int vk), .val (.ref b4), .val (.ref b39), .val (.ref b63), .unset, .unset, .unset] [(.int p5), (.int (3 : Int32)), (.int vk), (.int ee179), (.int ee174), (.int ee169), (.ref b145), (.ref b145)])) rfl (by rw [hml]; rfl) (argsL := [(.int vk), (.int (3 : Int32)), (.int p5)]) (rest := [(.int ee179), (.int ee174), (.int ee169), (.ref b145), (.ref b145)]) (lenOf pd__III_I rfl) rfl (by show 2 * 0 + _ ≤ _; exact Nat.le_of_eq rfl) (hb hby at_248) (fun _ _ => ⟨rfl, e177, (by decide : 4 + 0 ≤ _), (by decide : 32 + 0 ≤ _)⟩)
  dsimp only [Pt.U, Pt.locs, Pt.cells, Pt.slots] at X182 l182 y182 z182 st182 hQ182
  rw [l182, y182, z182] at X182
  clear l182 y182 z182
  obtain ⟨rfl, N182q, e182⟩ := hQ182
  have N182 := Fr.app N177 N182q
  have pre183 : ∀ t, Steps p.tables e below (T182.setTop (mkF m 251 #[.val (.int p0), .val (.int p1), .val (.int p2), .val (.int p3), .val (.int p4), .val (.int p5), .val (.int vk), .val (.ref b4), .val (.ref b39), .val (.ref b63), .unset, .unset, .unset] [(.int (f_e vk (3 : Int32) p5)), (.int ee179), (.int ee174), (.int ee169), (.ref b145), (.ref b145)])) t → Steps p.tables e below (s₁.setTop (entryFrame m #[(.int p0), (.int p1), (.int p2), (.int p3), (.int p4), (.int p5)] maxLocals)) t := fun t kt => pre181 t (st182 _ kt)
  clear pre181 st182
  obtain ⟨ee184, hm185, pre185⟩ : ∃ (ee184 : Int32), (ee184 = (f_e vk (3 : Int32) p5)) ∧ ∀ t, Steps p.tables e below (T182.setTop (mkF m 251 #[.val (.int p0), .val (.int p1), .val (.int p2), .val (.int p3), .val (.int p4), .val (.int p5), .val (.int vk), .val (.ref b4), .val (.ref b39), .val (.ref b63), .unset, .unset, .unset] [(.int ee184), (.int ee179), (.int ee174), (.int ee169), (.ref b145), (.ref b145)])) t → Steps p.tables e below (s₁.setTop (entryFrame m #[(.int p0), (.int p1), (.int p2), (.int p3), (.int p4), (.int p5)] maxLocals)) t := ⟨(f_e vk (3 : Int32) p5), rfl, pre183⟩
  clear pre183
  have pre186 : ∀ t, Steps p.tables e below (T182.setTop (mkF m 256 #[.val (.int p0), .val (.int p1), .val (.int p2), .val (.int p3), .val (.int p4), .val (.int p5), .val (.int vk), .val (.ref b4), .val (.ref b39), .val (.ref b63), .unset, .unset, .unset] [(.int p5), (.int (4 : Int32)), (.int vk), (.int ee184), (.int ee179), (.int ee174), (.int ee169), (.ref b145), (.ref b145)])) t → Steps p.tables e below (s₁.setTop (entryFrame m #[(.int p0), (.int p1), (.int p2), (.int p3), (.int p4), (.int p5)] maxLocals)) t := fun t kt => pre185 t (by
    show Steps p.tables e below (T182.setTop (mkF m 251 #[.val (.int p0), .val (.int p1), .val (.int p2), .val (.int p3), .val (.int p4), .val (.int p5), .val (.int vk), .val (.ref b4), .val (.ref b39), .val (.ref b63), .unset, .unset, .unset] [(.int ee184), (.int ee179), (.int ee174), (.int ee169), (.ref b145), (.ref b145)])) _
    refine XS.iload X182.here hx rfl (hb hby at_251) rfl ?_
    show Steps p.tables e below (T182.setTop (mkF m 253 #[.val (.int p0), .val (.int p1), .val (.int p2), .val (.int p3), .val (.int p4), .val (.int p5), .val (.int vk), .val (.ref b4), .val (.ref b39), .val (.ref b63), .unset, .unset, .unset] [(.int vk), (.int ee184), (.int ee179), (.int ee174), (.int ee169), (.ref b145), (.ref b145)])) _
    refine XS.iconst X182.here hx rfl (hb hby at_253) ?_
    show Steps p.tables e below (T182.setTop (mkF m 254 #[.val (.int p0), .val (.int p1), .val (.int p2), .val (.int p3), .val (.int p4), .val (.int p5), .val (.int vk), .val (.ref b4), .val (.ref b39), .val (.ref b63), .unset, .unset, .unset] [(.int (4 : Int32)), (.int vk), (.int ee184), (.int ee179), (.int ee174), (.int ee169), (.ref b145), (.ref b145)])) _
    refine XS.iload X182.here hx rfl (hb hby at_254) rfl ?_
    exact kt)
  clear pre185
  obtain ⟨_, _, ⟨T187, L187, k187, n187⟩, -, X187, ⟨Lc187, hQ187, l187, y187, z187⟩, st187⟩ := Jvm.LawKit.callS X182 hx (y := (⟨"com/example/heptapolis/heptapolis/duel/ScoreTotalPinLaw", "e", "(III)I"⟩ : MethodName)) hown (mvT hZ (hw _ (List.mem_of_getElem? (i := 31) rfl))) (mvT hZ (hw _ (List.mem_of_getElem? (i := 32) rfl))) (mvT hZ (hw _ (List.mem_of_getElem? (i := 33) rfl))) (mvT hZ (hw _ (List.mem_of_getElem? (i := 34) rfl))) (by decide) (backOf (W := 6) (rm4 l Z av hw [] vk (4 : Int32) p5  h145 n0 Z145 ) hZ (hw _ (List.mem_of_getElem? (i := 34) rfl)) (hw _ (List.mem_of_getElem? (i := 33) rfl)) (by decide) (by decide)) (g := (mkF m 256 #[.val (.int p0), .val (.int p1), .val (.int p2), .val (.int p3), .val (.int p4), .val (.int p5), .val (.int vk), .val (.ref b4), .val (.ref b39), .val (.ref b63), .unset, .unset, .unset] [(.int p5), (.int (4 : Int32)), (.int vk), (.int ee184), (.int ee179), (.int ee174), (.int ee169), (.ref b145), (.ref b145)])) rfl (by rw [hml]; rfl) (argsL := [(.int vk), (.int (4 : Int32)), (.int p5)]) (rest := [(.int ee184), (.int ee179), (.int ee174), (.int ee169), (.ref b145), (.ref b145)]) (lenOf pd__III_I rfl) rfl (by show 2 * 0 + _ ≤ _; exact Nat.le_of_eq rfl) (hb hby at_256) (fun _ _ => ⟨rfl, e182, (by decide : 4 + 0 ≤ _), (by decide : 32 + 0 ≤ _)⟩)
  dsimp only [Pt.U, Pt.locs, Pt.cells, Pt.slots] at X187 l187 y187 z187 st187 hQ187
  rw [l187, y187, z187] at X187
  clear l187 y187 z187
  obtain ⟨rfl, N187q, e187⟩ := hQ187
  have N187 := Fr.app N182 N187q
  have pre188 : ∀ t, Steps p.tables e below (T187.setTop (mkF m 259 #[.val (.int p0), .val (.int p1), .val (.int p2), .val (.int p3), .val (.int p4), .val (.int p5), .val (.int vk), .val (.ref b4), .val (.ref b39), .val (.ref b63), .unset, .unset, .unset] [(.int (f_e vk (4 : Int32) p5)), (.int ee184), (.int ee179), (.int ee174), (.int ee169), (.ref b145), (.ref b145)])) t → Steps p.tables e below (s₁.setTop (entryFrame m #[(.int p0), (.int p1), (.int p2), (.int p3), (.int p4), (.int p5)] maxLocals)) t := fun t kt => pre186 t (st187 _ kt)
  clear pre186 st187
  obtain ⟨ee189, hm190, pre190⟩ : ∃ (ee189 : Int32), (ee189 = (f_e vk (4 : Int32) p5)) ∧ ∀ t, Steps p.tables e below (T187.setTop (mkF m 259 #[.val (.int p0), .val (.int p1), .val (.int p2), .val (.int p3), .val (.int p4), .val (.int p5), .val (.int vk), .val (.ref b4), .val (.ref b39), .val (.ref b63), .unset, .unset, .unset] [(.int ee189), (.int ee184), (.int ee179), (.int ee174), (.int ee169), (.ref b145), (.ref b145)])) t → Steps p.tables e below (s₁.setTop (entryFrame m #[(.int p0), (.int p1), (.int p2), (.int p3), (.int p4), (.int p5)] maxLocals)) t := ⟨(f_e vk (4 : Int32) p5), rfl, pre188⟩
  clear pre188
  have pre191 : ∀ t, Steps p.tables e below (T187.setTop (mkF m 264 #[.val (.int p0), .val (.int p1), .val (.int p2), .val (.int p3), .val (.int p4), .val (.int p5), .val (.int vk), .val (.ref b4), .val (.ref b39), .val (.ref b63), .unset, .unset, .unset] [(.int p5), (.int (5 : Int32)), (.int vk), (.int ee189), (.int ee184), (.int ee179), (.int ee174), (.int ee169), (.ref b145), (.ref b145)])) t → Steps p.tables e below (s₁.setTop (entryFrame m #[(.int p0), (.int p1), (.int p2), (.int p3), (.int p4), (.int p5)] maxLocals)) t := fun t kt => pre190 t (by
    show Steps p.tables e below (T187.setTop (mkF m 259 #[.val (.int p0), .val (.int p1), .val (.int p2), .val (.int p3), .val (.int p4), .val (.int p5), .val (.int vk), .val (.ref b4), .val (.ref b39), .val (.ref b63), .unset, .unset, .unset] [(.int ee189), (.int ee184), (.int ee179), (.int ee174), (.int ee169), (.ref b145), (.ref b145)])) _
    refine XS.iload X187.here hx rfl (hb hby at_259) rfl ?_
    show Steps p.tables e below (T187.setTop (mkF m 261 #[.val (.int p0), .val (.int p1), .val (.int p2), .val (.int p3), .val (.int p4), .val (.int p5), .val (.int vk), .val (.ref b4), .val (.ref b39), .val (.ref b63), .unset, .unset, .unset] [(.int vk), (.int ee189), (.int ee184), (.int ee179), (.int ee174), (.int ee169), (.ref b145), (.ref b145)])) _
    refine XS.iconst X187.here hx rfl (hb hby at_261) ?_
    show Steps p.tables e below (T187.setTop (mkF m 262 #[.val (.int p0), .val (.int p1), .val (.int p2), .val (.int p3), .val (.int p4), .val (.int p5), .val (.int vk), .val (.ref b4), .val (.ref b39), .val (.ref b63), .unset, .unset, .unset] [(.int (5 : Int32)), (.int vk), (.int ee189), (.int ee184), (.int ee179), (.int ee174), (.int ee169), (.ref b145), (.ref b145)])) _
    refine XS.iload X187.here hx rfl (hb hby at_262) rfl ?_
    exact kt)
  clear pre190
  obtain ⟨_, _, ⟨T192, L192, k192, n192⟩, -, X192, ⟨Lc192, hQ192, l192, y192, z192⟩, st192⟩ := Jvm.LawKit.callS X187 hx (y := (⟨"com/example/heptapolis/heptapolis/duel/ScoreTotalPinLaw", "e", "(III)I"⟩ : MethodName)) hown (mvT hZ (hw _ (List.mem_of_getElem? (i := 31) rfl))) (mvT hZ (hw _ (List.mem_of_getElem? (i := 32) rfl))) (mvT hZ (hw _ (List.mem_of_getElem? (i := 33) rfl))) (mvT hZ (hw _ (List.mem_of_getElem? (i := 34) rfl))) (by decide) (backOf (W := 7) (rm4 l Z av hw [] vk (5 : Int32) p5  h145 n0 Z145 ) hZ (hw _ (List.mem_of_getElem? (i := 34) rfl)) (hw _ (List.mem_of_getElem? (i := 33) rfl)) (by decide) (by decide)) (g := (mkF m 264 #[.val (.int p0), .val (.int p1), .val (.int p2), .val (.int p3), .val (.int p4), .val (.int p5), .val (.int vk), .val (.ref b4), .val (.ref b39), .val (.ref b63), .unset, .unset, .unset] [(.int p5), (.int (5 : Int32)), (.int vk), (.int ee189), (.int ee184), (.int ee179), (.int ee174), (.int ee169), (.ref b145), (.ref b145)])) rfl (by rw [hml]; rfl) (argsL := [(.int vk), (.int (5 : Int32)), (.int p5)]) (rest := [(.int ee189), (.int ee184), (.int ee179), (.int ee174), (.int ee169), (.ref b145), (.ref b145)]) (lenOf pd__III_I rfl) rfl (by show 2 * 0 + _ ≤ _; exact Nat.le_of_eq rfl) (hb hby at_264) (fun _ _ => ⟨rfl, e187, (by decide : 4 + 0 ≤ _), (by decide : 32 + 0 ≤ _)⟩)
  dsimp only [Pt.U, Pt.locs, Pt.cells, Pt.slots] at X192 l192 y192 z192 st192 hQ192
  rw [l192, y192, z192] at X192
  clear l192 y192 z192
  obtain ⟨rfl, N192q, e192⟩ := hQ192
  have N192 := Fr.app N187 N192q
  have pre193 : ∀ t, Steps p.tables e below (T192.setTop (mkF m 267 #[.val (.int p0), .val (.int p1), .val (.int p2), .val (.int p3), .val (.int p4), .val (.int p5), .val (.int vk), .val (.ref b4), .val (.ref b39), .val (.ref b63), .unset, .unset, .unset] [(.int (f_e vk (5 : Int32) p5)), (.int ee189), (.int ee184), (.int ee179), (.int ee174), (.int ee169), (.ref b145), (.ref b145)])) t → Steps p.tables e below (s₁.setTop (entryFrame m #[(.int p0), (.int p1), (.int p2), (.int p3), (.int p4), (.int p5)] maxLocals)) t := fun t kt => pre191 t (st192 _ kt)
  clear pre191 st192
  obtain ⟨ee194, hm195, pre195⟩ : ∃ (ee194 : Int32), (ee194 = (f_e vk (5 : Int32) p5)) ∧ ∀ t, Steps p.tables e below (T192.setTop (mkF m 267 #[.val (.int p0), .val (.int p1), .val (.int p2), .val (.int p3), .val (.int p4), .val (.int p5), .val (.int vk), .val (.ref b4), .val (.ref b39), .val (.ref b63), .unset, .unset, .unset] [(.int ee194), (.int ee189), (.int ee184), (.int ee179), (.int ee174), (.int ee169), (.ref b145), (.ref b145)])) t → Steps p.tables e below (s₁.setTop (entryFrame m #[(.int p0), (.int p1), (.int p2), (.int p3), (.int p4), (.int p5)] maxLocals)) t := ⟨(f_e vk (5 : Int32) p5), rfl, pre193⟩
  clear pre193
  have pre196 : ∀ t, Steps p.tables e below (T192.setTop (mkF m 273 #[.val (.int p0), .val (.int p1), .val (.int p2), .val (.int p3), .val (.int p4), .val (.int p5), .val (.int vk), .val (.ref b4), .val (.ref b39), .val (.ref b63), .unset, .unset, .unset] [(.int p5), (.int (6 : Int32)), (.int vk), (.int ee194), (.int ee189), (.int ee184), (.int ee179), (.int ee174), (.int ee169), (.ref b145), (.ref b145)])) t → Steps p.tables e below (s₁.setTop (entryFrame m #[(.int p0), (.int p1), (.int p2), (.int p3), (.int p4), (.int p5)] maxLocals)) t := fun t kt => pre195 t (by
    show Steps p.tables e below (T192.setTop (mkF m 267 #[.val (.int p0), .val (.int p1), .val (.int p2), .val (.int p3), .val (.int p4), .val (.int p5), .val (.int vk), .val (.ref b4), .val (.ref b39), .val (.ref b63), .unset, .unset, .unset] [(.int ee194), (.int ee189), (.int ee184), (.int ee179), (.int ee174), (.int ee169), (.ref b145), (.ref b145)])) _
    refine XS.iload X192.here hx rfl (hb hby at_267) rfl ?_
    show Steps p.tables e below (T192.setTop (mkF m 269 #[.val (.int p0), .val (.int p1), .val (.int p2), .val (.int p3), .val (.int p4), .val (.int p5), .val (.int vk), .val (.ref b4), .val (.ref b39), .val (.ref b63), .unset, .unset, .unset] [(.int vk), (.int ee194), (.int ee189), (.int ee184), (.int ee179), (.int ee174), (.int ee169), (.ref b145), (.ref b145)])) _
    refine XS.bipush X192.here hx rfl (hb hby at_269) ?_
    show Steps p.tables e below (T192.setTop (mkF m 271 #[.val (.int p0), .val (.int p1), .val (.int p2), .val (.int p3), .val (.int p4), .val (.int p5), .val (.int vk), .val (.ref b4), .val (.ref b39), .val (.ref b63), .unset, .unset, .unset] [(.int (6 : Int32)), (.int vk), (.int ee194), (.int ee189), (.int ee184), (.int ee179), (.int ee174), (.int ee169), (.ref b145), (.ref b145)])) _
    refine XS.iload X192.here hx rfl (hb hby at_271) rfl ?_
    exact kt)
  clear pre195
  obtain ⟨_, _, ⟨T197, L197, k197, n197⟩, -, X197, ⟨Lc197, hQ197, l197, y197, z197⟩, st197⟩ := Jvm.LawKit.callS X192 hx (y := (⟨"com/example/heptapolis/heptapolis/duel/ScoreTotalPinLaw", "e", "(III)I"⟩ : MethodName)) hown (mvT hZ (hw _ (List.mem_of_getElem? (i := 31) rfl))) (mvT hZ (hw _ (List.mem_of_getElem? (i := 32) rfl))) (mvT hZ (hw _ (List.mem_of_getElem? (i := 33) rfl))) (mvT hZ (hw _ (List.mem_of_getElem? (i := 34) rfl))) (by decide) (backOf (W := 8) (rm4 l Z av hw [] vk (6 : Int32) p5  h145 n0 Z145 ) hZ (hw _ (List.mem_of_getElem? (i := 34) rfl)) (hw _ (List.mem_of_getElem? (i := 33) rfl)) (by decide) (by decide)) (g := (mkF m 273 #[.val (.int p0), .val (.int p1), .val (.int p2), .val (.int p3), .val (.int p4), .val (.int p5), .val (.int vk), .val (.ref b4), .val (.ref b39), .val (.ref b63), .unset, .unset, .unset] [(.int p5), (.int (6 : Int32)), (.int vk), (.int ee194), (.int ee189), (.int ee184), (.int ee179), (.int ee174), (.int ee169), (.ref b145), (.ref b145)])) rfl (by rw [hml]; rfl) (argsL := [(.int vk), (.int (6 : Int32)), (.int p5)]) (rest := [(.int ee194), (.int ee189), (.int ee184), (.int ee179), (.int ee174), (.int ee169), (.ref b145), (.ref b145)]) (lenOf pd__III_I rfl) rfl (by show 2 * 0 + _ ≤ _; exact Nat.le_of_eq rfl) (hb hby at_273) (fun _ _ => ⟨rfl, e192, (by decide : 4 + 0 ≤ _), (by decide : 32 + 0 ≤ _)⟩)
  dsimp only [Pt.U, Pt.locs, Pt.cells, Pt.slots] at X197 l197 y197 z197 st197 hQ197
  rw [l197, y197, z197] at X197
  clear l197 y197 z197
  obtain ⟨rfl, N197q, e197⟩ := hQ197
  have N197 := Fr.app N192 N197q
  have pre198 : ∀ t, Steps p.tables e below (T197.setTop (mkF m 276 #[.val (.int p0), .val (.int p1), .val (.int p2), .val (.int p3), .val (.int p4), .val (.int p5), .val (.int vk), .val (.ref b4), .val (.ref b39), .val (.ref b63), .unset, .unset, .unset] [(.int (f_e vk (6 : Int32) p5)), (.int ee194), (.int ee189), (.int ee184), (.int ee179), (.int ee174), (.int ee169), (.ref b145), (.ref b145)])) t → Steps p.tables e below (s₁.setTop (entryFrame m #[(.int p0), (.int p1), (.int p2), (.int p3), (.int p4), (.int p5)] maxLocals)) t := fun t kt => pre196 t (st197 _ kt)
  clear pre196 st197
  obtain ⟨ee199, hm200, pre200⟩ : ∃ (ee199 : Int32), (ee199 = (f_e vk (6 : Int32) p5)) ∧ ∀ t, Steps p.tables e below (T197.setTop (mkF m 276 #[.val (.int p0), .val (.int p1), .val (.int p2), .val (.int p3), .val (.int p4), .val (.int p5), .val (.int vk), .val (.ref b4), .val (.ref b39), .val (.ref b63), .unset, .unset, .unset] [(.int ee199), (.int ee194), (.int ee189), (.int ee184), (.int ee179), (.int ee174), (.int ee169), (.ref b145), (.ref b145)])) t → Steps p.tables e below (s₁.setTop (entryFrame m #[(.int p0), (.int p1), (.int p2), (.int p3), (.int p4), (.int p5)] maxLocals)) t := ⟨(f_e vk (6 : Int32) p5), rfl, pre198⟩
  clear pre198
  have pre201 : ∀ t, Steps p.tables e below (T197.setTop (mkF m 282 #[.val (.int p0), .val (.int p1), .val (.int p2), .val (.int p3), .val (.int p4), .val (.int p5), .val (.int vk), .val (.ref b4), .val (.ref b39), .val (.ref b63), .unset, .unset, .unset] [(.int p5), (.int (7 : Int32)), (.int vk), (.int ee199), (.int ee194), (.int ee189), (.int ee184), (.int ee179), (.int ee174), (.int ee169), (.ref b145), (.ref b145)])) t → Steps p.tables e below (s₁.setTop (entryFrame m #[(.int p0), (.int p1), (.int p2), (.int p3), (.int p4), (.int p5)] maxLocals)) t := fun t kt => pre200 t (by
    show Steps p.tables e below (T197.setTop (mkF m 276 #[.val (.int p0), .val (.int p1), .val (.int p2), .val (.int p3), .val (.int p4), .val (.int p5), .val (.int vk), .val (.ref b4), .val (.ref b39), .val (.ref b63), .unset, .unset, .unset] [(.int ee199), (.int ee194), (.int ee189), (.int ee184), (.int ee179), (.int ee174), (.int ee169), (.ref b145), (.ref b145)])) _
    refine XS.iload X197.here hx rfl (hb hby at_276) rfl ?_
    show Steps p.tables e below (T197.setTop (mkF m 278 #[.val (.int p0), .val (.int p1), .val (.int p2), .val (.int p3), .val (.int p4), .val (.int p5), .val (.int vk), .val (.ref b4), .val (.ref b39), .val (.ref b63), .unset, .unset, .unset] [(.int vk), (.int ee199), (.int ee194), (.int ee189), (.int ee184), (.int ee179), (.int ee174), (.int ee169), (.ref b145), (.ref b145)])) _
    refine XS.bipush X197.here hx rfl (hb hby at_278) ?_
    show Steps p.tables e below (T197.setTop (mkF m 280 #[.val (.int p0), .val (.int p1), .val (.int p2), .val (.int p3), .val (.int p4), .val (.int p5), .val (.int vk), .val (.ref b4), .val (.ref b39), .val (.ref b63), .unset, .unset, .unset] [(.int (7 : Int32)), (.int vk), (.int ee199), (.int ee194), (.int ee189), (.int ee184), (.int ee179), (.int ee174), (.int ee169), (.ref b145), (.ref b145)])) _
    refine XS.iload X197.here hx rfl (hb hby at_280) rfl ?_
    exact kt)
  clear pre200
  obtain ⟨_, _, ⟨T202, L202, k202, n202⟩, -, X202, ⟨Lc202, hQ202, l202, y202, z202⟩, st202⟩ := Jvm.LawKit.callS X197 hx (y := (⟨"com/example/heptapolis/heptapolis/duel/ScoreTotalPinLaw", "e", "(III)I"⟩ : MethodName)) hown (mvT hZ (hw _ (List.mem_of_getElem? (i := 31) rfl))) (mvT hZ (hw _ (List.mem_of_getElem? (i := 32) rfl))) (mvT hZ (hw _ (List.mem_of_getElem? (i := 33) rfl))) (mvT hZ (hw _ (List.mem_of_getElem? (i := 34) rfl))) (by decide) (backOf (W := 9) (rm4 l Z av hw [] vk (7 : Int32) p5  h145 n0 Z145 ) hZ (hw _ (List.mem_of_getElem? (i := 34) rfl)) (hw _ (List.mem_of_getElem? (i := 33) rfl)) (by decide) (by decide)) (g := (mkF m 282 #[.val (.int p0), .val (.int p1), .val (.int p2), .val (.int p3), .val (.int p4), .val (.int p5), .val (.int vk), .val (.ref b4), .val (.ref b39), .val (.ref b63), .unset, .unset, .unset] [(.int p5), (.int (7 : Int32)), (.int vk), (.int ee199), (.int ee194), (.int ee189), (.int ee184), (.int ee179), (.int ee174), (.int ee169), (.ref b145), (.ref b145)])) rfl (by rw [hml]; rfl) (argsL := [(.int vk), (.int (7 : Int32)), (.int p5)]) (rest := [(.int ee199), (.int ee194), (.int ee189), (.int ee184), (.int ee179), (.int ee174), (.int ee169), (.ref b145), (.ref b145)]) (lenOf pd__III_I rfl) rfl (by show 2 * 0 + _ ≤ _; exact Nat.le_of_eq rfl) (hb hby at_282) (fun _ _ => ⟨rfl, e197, (by decide : 4 + 0 ≤ _), (by decide : 32 + 0 ≤ _)⟩)
  dsimp only [Pt.U, Pt.locs, Pt.cells, Pt.slots] at X202 l202 y202 z202 st202 hQ202
  rw [l202, y202, z202] at X202
  clear l202 y202 z202
  obtain ⟨rfl, N202q, e202⟩ := hQ202
  have N202 := Fr.app N197 N202q
  have pre203 : ∀ t, Steps p.tables e below (T202.setTop (mkF m 285 #[.val (.int p0), .val (.int p1), .val (.int p2), .val (.int p3), .val (.int p4), .val (.int p5), .val (.int vk), .val (.ref b4), .val (.ref b39), .val (.ref b63), .unset, .unset, .unset] [(.int (f_e vk (7 : Int32) p5)), (.int ee199), (.int ee194), (.int ee189), (.int ee184), (.int ee179), (.int ee174), (.int ee169), (.ref b145), (.ref b145)])) t → Steps p.tables e below (s₁.setTop (entryFrame m #[(.int p0), (.int p1), (.int p2), (.int p3), (.int p4), (.int p5)] maxLocals)) t := fun t kt => pre201 t (st202 _ kt)
  clear pre201 st202
  obtain ⟨ee204, hm205, pre205⟩ : ∃ (ee204 : Int32), (ee204 = (f_e vk (7 : Int32) p5)) ∧ ∀ t, Steps p.tables e below (T202.setTop (mkF m 285 #[.val (.int p0), .val (.int p1), .val (.int p2), .val (.int p3), .val (.int p4), .val (.int p5), .val (.int vk), .val (.ref b4), .val (.ref b39), .val (.ref b63), .unset, .unset, .unset] [(.int ee204), (.int ee199), (.int ee194), (.int ee189), (.int ee184), (.int ee179), (.int ee174), (.int ee169), (.ref b145), (.ref b145)])) t → Steps p.tables e below (s₁.setTop (entryFrame m #[(.int p0), (.int p1), (.int p2), (.int p3), (.int p4), (.int p5)] maxLocals)) t := ⟨(f_e vk (7 : Int32) p5), rfl, pre203⟩
  clear pre203
  obtain ⟨_, _, ⟨T206, L206, k206, n206⟩, -, X206, ⟨Lc206, hQ206, l206, y206, z206⟩, st206⟩ := X202.specialBack hx (y := (⟨"com/example/heptapolis/heptapolis/duel/Score", "<init>", "(IIIIIIII)V"⟩ : MethodName)) rfl hown (mvT hZ (hw _ (List.mem_of_getElem? (i := 4) rfl))) (mvT hZ (hw _ (List.mem_of_getElem? (i := 5) rfl))) (mvT hZ (hw _ (List.mem_of_getElem? (i := 6) rfl))) (by decide) (backOf (W := 1) (rm1 l Z av hw [] b145 ee169 ee174 ee179 ee184 ee189 ee194 ee199 ee204  h145 n0 Z145 A145 gn145 Fn145_blue Fn145_green Fn145_yellow Fn145_purple Fn145_wonders Fn145_progress Fn145_coins Fn145_military) hZ (hw _ (List.mem_of_getElem? (i := 6) rfl)) (hw _ (List.mem_of_getElem? (i := 3) rfl)) (by decide) (by decide)) (g := (mkF m 285 #[.val (.int p0), .val (.int p1), .val (.int p2), .val (.int p3), .val (.int p4), .val (.int p5), .val (.int vk), .val (.ref b4), .val (.ref b39), .val (.ref b63), .unset, .unset, .unset] [(.int ee204), (.int ee199), (.int ee194), (.int ee189), (.int ee184), (.int ee179), (.int ee174), (.int ee169), (.ref b145), (.ref b145)])) rfl (by rw [hml]; rfl) (Steps.refl _) (a := b145) (argsL := [(.int ee169), (.int ee174), (.int ee179), (.int ee184), (.int ee189), (.int ee194), (.int ee199), (.int ee204)]) (rest := [(.ref b145)]) (lenOf pd__IIIIIIII_V rfl) rfl (by show 2 * 0 + _ ≤ _; exact Nat.le_of_eq rfl) (hb hby at_285) (fun _ _ => ⟨rfl, e202, (by decide : 4 + 0 ≤ _), (by decide : 32 + 0 ≤ _)⟩)
  dsimp only [Pt.U, Pt.locs, Pt.cells, Pt.slots] at X206 l206 y206 z206 st206 hQ206
  rw [l206, y206, z206] at X206
  clear l206 y206 z206
  obtain ⟨rfl, N206q, Kq206, Fq206_0, Fq206_1, Fq206_2, Fq206_3, Fq206_4, Fq206_5, Fq206_6, Fq206_7, Fq206_8⟩ := hQ206
  have N206 := Fr.app N202 N206q
  have F207 : Arv Z T206.heap b4 k4 .int (8 : Int32) [(.int p0), (.int p1), (.int p2), (.int p3), (.int (p0 ^^^ p2)), (.int (p1 - p3)), (.int (p0 + p1)), (.int (p2 * p3))] (.int (0 : Int32)) := F147.keep Kq206 (ninS ne_b4_b145 nin0)
  have F208 : Exa Z T206.heap b39 "com/example/heptapolis/heptapolis/duel/Score" := F148.keep Kq206
  have F209 : Fld Z T206.heap b39 "com/example/heptapolis/heptapolis/duel/Score" "blue" "I" (.int p0) := F149.keep Kq206 (ninS ne_b39_b145 nin0)
  have F210 : Fld Z T206.heap b39 "com/example/heptapolis/heptapolis/duel/Score" "green" "I" (.int p1) := F150.keep Kq206 (ninS ne_b39_b145 nin0)
  have F211 : Fld Z T206.heap b39 "com/example/heptapolis/heptapolis/duel/Score" "yellow" "I" (.int p2) := F151.keep Kq206 (ninS ne_b39_b145 nin0)
  have F212 : Fld Z T206.heap b39 "com/example/heptapolis/heptapolis/duel/Score" "purple" "I" (.int p3) := F152.keep Kq206 (ninS ne_b39_b145 nin0)
  have F213 : Fld Z T206.heap b39 "com/example/heptapolis/heptapolis/duel/Score" "wonders" "I" (.int (p0 ^^^ p2)) := F153.keep Kq206 (ninS ne_b39_b145 nin0)
  have F214 : Fld Z T206.heap b39 "com/example/heptapolis/heptapolis/duel/Score" "progress" "I" (.int (p1 - p3)) := F154.keep Kq206 (ninS ne_b39_b145 nin0)
  have F215 : Fld Z T206.heap b39 "com/example/heptapolis/heptapolis/duel/Score" "coins" "I" (.int (p0 + p1)) := F155.keep Kq206 (ninS ne_b39_b145 nin0)
  have F216 : Fld Z T206.heap b39 "com/example/heptapolis/heptapolis/duel/Score" "military" "I" (.int (p2 * p3)) := F156.keep Kq206 (ninS ne_b39_b145 nin0)
  have F217 : Exa Z T206.heap b63 "com/example/heptapolis/heptapolis/duel/Score" := F157.keep Kq206
  have F218 : Fld Z T206.heap b63 "com/example/heptapolis/heptapolis/duel/Score" "blue" "I" (.int (p0 + ee80)) := F158.keep Kq206 (ninS ne_b63_b145 nin0)
  have F219 : Fld Z T206.heap b63 "com/example/heptapolis/heptapolis/duel/Score" "green" "I" (.int (p1 + ee87)) := F159.keep Kq206 (ninS ne_b63_b145 nin0)
  have F220 : Fld Z T206.heap b63 "com/example/heptapolis/heptapolis/duel/Score" "yellow" "I" (.int (p2 + ee94)) := F160.keep Kq206 (ninS ne_b63_b145 nin0)
  have F221 : Fld Z T206.heap b63 "com/example/heptapolis/heptapolis/duel/Score" "purple" "I" (.int (p3 + ee101)) := F161.keep Kq206 (ninS ne_b63_b145 nin0)
  have F222 : Fld Z T206.heap b63 "com/example/heptapolis/heptapolis/duel/Score" "wonders" "I" (.int ((p0 ^^^ p2) + ee108)) := F162.keep Kq206 (ninS ne_b63_b145 nin0)
  have F223 : Fld Z T206.heap b63 "com/example/heptapolis/heptapolis/duel/Score" "progress" "I" (.int ((p1 - p3) + ee115)) := F163.keep Kq206 (ninS ne_b63_b145 nin0)
  have F224 : Fld Z T206.heap b63 "com/example/heptapolis/heptapolis/duel/Score" "coins" "I" (.int ((p0 + p1) + ee122)) := F164.keep Kq206 (ninS ne_b63_b145 nin0)
  have F225 : Fld Z T206.heap b63 "com/example/heptapolis/heptapolis/duel/Score" "military" "I" (.int ((p2 * p3) + ee129)) := F165.keep Kq206 (ninS ne_b63_b145 nin0)
  have K206 : Keep h0 T206.heap [] := K145.trans Kq206 (allS (Or.inr sz145) all0)
  have Z206 : n0 ≤ T206.heap.size := Nat.le_trans Z145 Kq206.1
  have Fq206_0' : Exa Z T206.heap b145 "com/example/heptapolis/heptapolis/duel/Score" := Fq206_0
  have Fq206_1' : Fld Z T206.heap b145 "com/example/heptapolis/heptapolis/duel/Score" "blue" "I" (.int ee169) := Fq206_1
  have Fq206_2' : Fld Z T206.heap b145 "com/example/heptapolis/heptapolis/duel/Score" "green" "I" (.int ee174) := Fq206_2
  have Fq206_3' : Fld Z T206.heap b145 "com/example/heptapolis/heptapolis/duel/Score" "yellow" "I" (.int ee179) := Fq206_3
  have Fq206_4' : Fld Z T206.heap b145 "com/example/heptapolis/heptapolis/duel/Score" "purple" "I" (.int ee184) := Fq206_4
  have Fq206_5' : Fld Z T206.heap b145 "com/example/heptapolis/heptapolis/duel/Score" "wonders" "I" (.int ee189) := Fq206_5
  have Fq206_6' : Fld Z T206.heap b145 "com/example/heptapolis/heptapolis/duel/Score" "progress" "I" (.int ee194) := Fq206_6
  have Fq206_7' : Fld Z T206.heap b145 "com/example/heptapolis/heptapolis/duel/Score" "coins" "I" (.int ee199) := Fq206_7
  have Fq206_8' : Fld Z T206.heap b145 "com/example/heptapolis/heptapolis/duel/Score" "military" "I" (.int ee204) := Fq206_8
  have pre226 : ∀ t, Steps p.tables e below (T206.setTop (mkF m 288 #[.val (.int p0), .val (.int p1), .val (.int p2), .val (.int p3), .val (.int p4), .val (.int p5), .val (.int vk), .val (.ref b4), .val (.ref b39), .val (.ref b63), .unset, .unset, .unset] [(.ref b145)])) t → Steps p.tables e below (s₁.setTop (entryFrame m #[(.int p0), (.int p1), (.int p2), (.int p3), (.int p4), (.int p5)] maxLocals)) t := fun t kt => pre205 t (st206.trans kt)
  clear pre205 st206
  have pre227 : ∀ t, Steps p.tables e below (T206.setTop (mkF m 292 #[.val (.int p0), .val (.int p1), .val (.int p2), .val (.int p3), .val (.int p4), .val (.int p5), .val (.int vk), .val (.ref b4), .val (.ref b39), .val (.ref b63), .val (.ref b145), .unset, .unset] [(.ref b145)])) t → Steps p.tables e below (s₁.setTop (entryFrame m #[(.int p0), (.int p1), (.int p2), (.int p3), (.int p4), (.int p5)] maxLocals)) t := fun t kt => pre226 t (by
    show Steps p.tables e below (T206.setTop (mkF m 288 #[.val (.int p0), .val (.int p1), .val (.int p2), .val (.int p3), .val (.int p4), .val (.int p5), .val (.int vk), .val (.ref b4), .val (.ref b39), .val (.ref b63), .unset, .unset, .unset] [(.ref b145)])) _
    refine XS.astore X206.here hx rfl (hb hby at_288) rfl rfl (l' := #[.val (.int p0), .val (.int p1), .val (.int p2), .val (.int p3), .val (.int p4), .val (.int p5), .val (.int vk), .val (.ref b4), .val (.ref b39), .val (.ref b63), .val (.ref b145), .unset, .unset]) rfl ?_
    show Steps p.tables e below (T206.setTop (mkF m 290 #[.val (.int p0), .val (.int p1), .val (.int p2), .val (.int p3), .val (.int p4), .val (.int p5), .val (.int vk), .val (.ref b4), .val (.ref b39), .val (.ref b63), .val (.ref b145), .unset, .unset] [])) _
    refine XS.aload X206.here hx rfl (hb hby at_290) rfl rfl ?_
    exact kt)
  clear pre226
  obtain ⟨cq228, kq228, q228a, q228b, q228c⟩ := isOf hZ rfl Fq206_0'
  obtain ⟨_, _, ⟨T229, L229, k229, n229⟩, -, X229, ⟨Lc229, hQ229, l229, y229, z229⟩, st229⟩ := X206.virtualBack hx (y := (⟨"com/example/heptapolis/heptapolis/duel/Score", "total", "()I"⟩ : MethodName)) (z := (⟨"com/example/heptapolis/heptapolis/duel/Score", "total", "()I"⟩ : MethodName)) hown (mvT hZ (hw _ (List.mem_of_getElem? (i := 35) rfl))) (mvT hZ (hw _ (List.mem_of_getElem? (i := 36) rfl))) (notFace_of_selects (args := #[]) (mvT hZ (hw _ (List.mem_of_getElem? (i := 38) rfl)))) (mvT hZ (hw _ (List.mem_of_getElem? (i := 38) rfl))) (mvT hZ (hw _ (List.mem_of_getElem? (i := 37) rfl))) (by decide) (backOf (W := 0) (rm5 l Z av hw [] b145 ee169 ee174 ee179 ee184 ee189 ee194 ee199 ee204 T206.heap n0 Z206 Fq206_1' Fq206_2' Fq206_3' Fq206_4' Fq206_5' Fq206_6' Fq206_7' Fq206_8') hZ (hw _ (List.mem_of_getElem? (i := 39) rfl)) (hw _ (List.mem_of_getElem? (i := 3) rfl)) (by decide) (by decide)) q228a q228c (g := (mkF m 292 #[.val (.int p0), .val (.int p1), .val (.int p2), .val (.int p3), .val (.int p4), .val (.int p5), .val (.int vk), .val (.ref b4), .val (.ref b39), .val (.ref b63), .val (.ref b145), .unset, .unset] [(.ref b145)])) rfl (by rw [hml]; rfl) (Steps.refl _) (argsL := []) (rest := []) (lenOf pd___I rfl) rfl (by show 2 * 0 + _ ≤ _; exact Nat.le_of_eq rfl) (hb hby at_292) (fun _ _ => ⟨rfl, rfl, (by decide : 4 + 0 ≤ _), (by decide : 32 + 0 ≤ _)⟩)
  dsimp only [Pt.U, Pt.locs, Pt.cells, Pt.slots] at X229 l229 y229 z229 st229 hQ229
  rw [l229, y229, z229] at X229
  clear l229 y229 z229
  obtain ⟨rfl, N229q, e229⟩ := hQ229
  have N229 := Fr.app N206 N229q
  have pre230 : ∀ t, Steps p.tables e below (T229.setTop (mkF m 295 #[.val (.int p0), .val (.int p1), .val (.int p2), .val (.int p3), .val (.int p4), .val (.int p5), .val (.int vk), .val (.ref b4), .val (.ref b39), .val (.ref b63), .val (.ref b145), .unset, .unset] [(.int (f_total ee169 ee174 ee179 ee184 ee189 ee194 ee199 ee204))])) t → Steps p.tables e below (s₁.setTop (entryFrame m #[(.int p0), (.int p1), (.int p2), (.int p3), (.int p4), (.int p5)] maxLocals)) t := fun t kt => pre227 t (st229.trans kt)
  clear pre227 st229
  obtain ⟨tt231, hm232, pre232⟩ : ∃ (tt231 : Int32), (tt231 = (f_total ee169 ee174 ee179 ee184 ee189 ee194 ee199 ee204)) ∧ ∀ t, Steps p.tables e below (T229.setTop (mkF m 295 #[.val (.int p0), .val (.int p1), .val (.int p2), .val (.int p3), .val (.int p4), .val (.int p5), .val (.int vk), .val (.ref b4), .val (.ref b39), .val (.ref b63), .val (.ref b145), .unset, .unset] [(.int tt231)])) t → Steps p.tables e below (s₁.setTop (entryFrame m #[(.int p0), (.int p1), (.int p2), (.int p3), (.int p4), (.int p5)] maxLocals)) t := ⟨(f_total ee169 ee174 ee179 ee184 ee189 ee194 ee199 ee204), rfl, pre230⟩
  clear pre230
  have pre233 : ∀ t, Steps p.tables e below (T229.setTop (mkF m 309 #[.val (.int p0), .val (.int p1), .val (.int p2), .val (.int p3), .val (.int p4), .val (.int p5), .val (.int vk), .val (.ref b4), .val (.ref b39), .val (.ref b63), .val (.ref b145), .val (.int (1 : Int32)), .unset] [(.ref b63)])) t → Steps p.tables e below (s₁.setTop (entryFrame m #[(.int p0), (.int p1), (.int p2), (.int p3), (.int p4), (.int p5)] maxLocals)) t := fun t kt => pre232 t (by
    show Steps p.tables e below (T229.setTop (mkF m 295 #[.val (.int p0), .val (.int p1), .val (.int p2), .val (.int p3), .val (.int p4), .val (.int p5), .val (.int vk), .val (.ref b4), .val (.ref b39), .val (.ref b63), .val (.ref b145), .unset, .unset] [(.int tt231)])) _
    refine XS.iload X229.here hx rfl (hb hby at_295) rfl ?_
    show Steps p.tables e below (T229.setTop (mkF m 297 #[.val (.int p0), .val (.int p1), .val (.int p2), .val (.int p3), .val (.int p4), .val (.int p5), .val (.int vk), .val (.ref b4), .val (.ref b39), .val (.ref b63), .val (.ref b145), .unset, .unset] [(.int p5), (.int tt231)])) _
    refine XS.icmpNo X229.here hx rfl (hb hby at_297) rfl (teq (by rw [hm232, hm170, hm175, hm180, hm185, hm190, hm195, hm200, hm205]; exact own_unit vk p5 hm2 : tt231 = p5)).2 ?_
    show Steps p.tables e below (T229.setTop (mkF m 300 #[.val (.int p0), .val (.int p1), .val (.int p2), .val (.int p3), .val (.int p4), .val (.int p5), .val (.int vk), .val (.ref b4), .val (.ref b39), .val (.ref b63), .val (.ref b145), .unset, .unset] [])) _
    refine XS.iconst X229.here hx rfl (hb hby at_300) ?_
    show Steps p.tables e below (T229.setTop (mkF m 301 #[.val (.int p0), .val (.int p1), .val (.int p2), .val (.int p3), .val (.int p4), .val (.int p5), .val (.int vk), .val (.ref b4), .val (.ref b39), .val (.ref b63), .val (.ref b145), .unset, .unset] [(.int (1 : Int32))])) _
    refine XS.goto X229.here hx rfl (pc0 := 301) (pc' := 305) rfl (hb hby at_301) (by decide) (by decide) ?_
    show Steps p.tables e below (T229.setTop (mkF m 305 #[.val (.int p0), .val (.int p1), .val (.int p2), .val (.int p3), .val (.int p4), .val (.int p5), .val (.int vk), .val (.ref b4), .val (.ref b39), .val (.ref b63), .val (.ref b145), .unset, .unset] [(.int (1 : Int32))])) _
    refine XS.istore X229.here hx rfl (hb hby at_305) rfl (l' := #[.val (.int p0), .val (.int p1), .val (.int p2), .val (.int p3), .val (.int p4), .val (.int p5), .val (.int vk), .val (.ref b4), .val (.ref b39), .val (.ref b63), .val (.ref b145), .val (.int (1 : Int32)), .unset]) rfl ?_
    show Steps p.tables e below (T229.setTop (mkF m 307 #[.val (.int p0), .val (.int p1), .val (.int p2), .val (.int p3), .val (.int p4), .val (.int p5), .val (.int vk), .val (.ref b4), .val (.ref b39), .val (.ref b63), .val (.ref b145), .val (.int (1 : Int32)), .unset] [])) _
    refine XS.aload X229.here hx rfl (hb hby at_307) rfl rfl ?_
    exact kt)
  clear pre232
  obtain ⟨cq234, kq234, q234a, q234b, q234c⟩ := isOf hZ e229 F217
  obtain ⟨_, _, ⟨T235, L235, k235, n235⟩, -, X235, ⟨Lc235, hQ235, l235, y235, z235⟩, st235⟩ := X229.virtualBack hx (y := (⟨"com/example/heptapolis/heptapolis/duel/Score", "total", "()I"⟩ : MethodName)) (z := (⟨"com/example/heptapolis/heptapolis/duel/Score", "total", "()I"⟩ : MethodName)) hown (mvT hZ (hw _ (List.mem_of_getElem? (i := 35) rfl))) (mvT hZ (hw _ (List.mem_of_getElem? (i := 36) rfl))) (notFace_of_selects (args := #[]) (mvT hZ (hw _ (List.mem_of_getElem? (i := 38) rfl)))) (mvT hZ (hw _ (List.mem_of_getElem? (i := 38) rfl))) (mvT hZ (hw _ (List.mem_of_getElem? (i := 37) rfl))) (by decide) (backOf (W := 0) (rm5 l Z av hw [] b63 (p0 + ee80) (p1 + ee87) (p2 + ee94) (p3 + ee101) ((p0 ^^^ p2) + ee108) ((p1 - p3) + ee115) ((p0 + p1) + ee122) ((p2 * p3) + ee129) T206.heap n0 Z206 F218 F219 F220 F221 F222 F223 F224 F225) hZ (hw _ (List.mem_of_getElem? (i := 39) rfl)) (hw _ (List.mem_of_getElem? (i := 3) rfl)) (by decide) (by decide)) q234a q234c (g := (mkF m 309 #[.val (.int p0), .val (.int p1), .val (.int p2), .val (.int p3), .val (.int p4), .val (.int p5), .val (.int vk), .val (.ref b4), .val (.ref b39), .val (.ref b63), .val (.ref b145), .val (.int (1 : Int32)), .unset] [(.ref b63)])) rfl (by rw [hml]; rfl) (Steps.refl _) (argsL := []) (rest := []) (lenOf pd___I rfl) rfl (by show 2 * 0 + _ ≤ _; exact Nat.le_of_eq rfl) (hb hby at_309) (fun _ _ => ⟨rfl, e229, (by decide : 4 + 0 ≤ _), (by decide : 32 + 0 ≤ _)⟩)
  dsimp only [Pt.U, Pt.locs, Pt.cells, Pt.slots] at X235 l235 y235 z235 st235 hQ235
  rw [l235, y235, z235] at X235
  clear l235 y235 z235
  obtain ⟨rfl, N235q, e235⟩ := hQ235
  have N235 := Fr.app N229 N235q
  have pre236 : ∀ t, Steps p.tables e below (T235.setTop (mkF m 312 #[.val (.int p0), .val (.int p1), .val (.int p2), .val (.int p3), .val (.int p4), .val (.int p5), .val (.int vk), .val (.ref b4), .val (.ref b39), .val (.ref b63), .val (.ref b145), .val (.int (1 : Int32)), .unset] [(.int (f_total (p0 + ee80) (p1 + ee87) (p2 + ee94) (p3 + ee101) ((p0 ^^^ p2) + ee108) ((p1 - p3) + ee115) ((p0 + p1) + ee122) ((p2 * p3) + ee129)))])) t → Steps p.tables e below (s₁.setTop (entryFrame m #[(.int p0), (.int p1), (.int p2), (.int p3), (.int p4), (.int p5)] maxLocals)) t := fun t kt => pre233 t (st235.trans kt)
  clear pre233 st235
  obtain ⟨tt237, hm238, pre238⟩ : ∃ (tt237 : Int32), (tt237 = (f_total (p0 + ee80) (p1 + ee87) (p2 + ee94) (p3 + ee101) ((p0 ^^^ p2) + ee108) ((p1 - p3) + ee115) ((p0 + p1) + ee122) ((p2 * p3) + ee129))) ∧ ∀ t, Steps p.tables e below (T235.setTop (mkF m 312 #[.val (.int p0), .val (.int p1), .val (.int p2), .val (.int p3), .val (.int p4), .val (.int p5), .val (.int vk), .val (.ref b4), .val (.ref b39), .val (.ref b63), .val (.ref b145), .val (.int (1 : Int32)), .unset] [(.int tt237)])) t → Steps p.tables e below (s₁.setTop (entryFrame m #[(.int p0), (.int p1), (.int p2), (.int p3), (.int p4), (.int p5)] maxLocals)) t := ⟨(f_total (p0 + ee80) (p1 + ee87) (p2 + ee94) (p3 + ee101) ((p0 ^^^ p2) + ee108) ((p1 - p3) + ee115) ((p0 + p1) + ee122) ((p2 * p3) + ee129)), rfl, pre236⟩
  clear pre236
  have pre239 : ∀ t, Steps p.tables e below (T235.setTop (mkF m 314 #[.val (.int p0), .val (.int p1), .val (.int p2), .val (.int p3), .val (.int p4), .val (.int p5), .val (.int vk), .val (.ref b4), .val (.ref b39), .val (.ref b63), .val (.ref b145), .val (.int (1 : Int32)), .unset] [(.ref b39), (.int tt237)])) t → Steps p.tables e below (s₁.setTop (entryFrame m #[(.int p0), (.int p1), (.int p2), (.int p3), (.int p4), (.int p5)] maxLocals)) t := fun t kt => pre238 t (by
    show Steps p.tables e below (T235.setTop (mkF m 312 #[.val (.int p0), .val (.int p1), .val (.int p2), .val (.int p3), .val (.int p4), .val (.int p5), .val (.int vk), .val (.ref b4), .val (.ref b39), .val (.ref b63), .val (.ref b145), .val (.int (1 : Int32)), .unset] [(.int tt237)])) _
    refine XS.aload X235.here hx rfl (hb hby at_312) rfl rfl ?_
    exact kt)
  clear pre238
  obtain ⟨cq240, kq240, q240a, q240b, q240c⟩ := isOf hZ e235 F208
  obtain ⟨_, _, ⟨T241, L241, k241, n241⟩, -, X241, ⟨Lc241, hQ241, l241, y241, z241⟩, st241⟩ := X235.virtualBack hx (y := (⟨"com/example/heptapolis/heptapolis/duel/Score", "total", "()I"⟩ : MethodName)) (z := (⟨"com/example/heptapolis/heptapolis/duel/Score", "total", "()I"⟩ : MethodName)) hown (mvT hZ (hw _ (List.mem_of_getElem? (i := 35) rfl))) (mvT hZ (hw _ (List.mem_of_getElem? (i := 36) rfl))) (notFace_of_selects (args := #[]) (mvT hZ (hw _ (List.mem_of_getElem? (i := 38) rfl)))) (mvT hZ (hw _ (List.mem_of_getElem? (i := 38) rfl))) (mvT hZ (hw _ (List.mem_of_getElem? (i := 37) rfl))) (by decide) (backOf (W := 1) (rm5 l Z av hw [] b39 p0 p1 p2 p3 (p0 ^^^ p2) (p1 - p3) (p0 + p1) (p2 * p3) T206.heap n0 Z206 F209 F210 F211 F212 F213 F214 F215 F216) hZ (hw _ (List.mem_of_getElem? (i := 39) rfl)) (hw _ (List.mem_of_getElem? (i := 3) rfl)) (by decide) (by decide)) q240a q240c (g := (mkF m 314 #[.val (.int p0), .val (.int p1), .val (.int p2), .val (.int p3), .val (.int p4), .val (.int p5), .val (.int vk), .val (.ref b4), .val (.ref b39), .val (.ref b63), .val (.ref b145), .val (.int (1 : Int32)), .unset] [(.ref b39), (.int tt237)])) rfl (by rw [hml]; rfl) (Steps.refl _) (argsL := []) (rest := [(.int tt237)]) (lenOf pd___I rfl) rfl (by show 2 * 0 + _ ≤ _; exact Nat.le_of_eq rfl) (hb hby at_314) (fun _ _ => ⟨rfl, e235, (by decide : 4 + 0 ≤ _), (by decide : 32 + 0 ≤ _)⟩)
  dsimp only [Pt.U, Pt.locs, Pt.cells, Pt.slots] at X241 l241 y241 z241 st241 hQ241
  rw [l241, y241, z241] at X241
  clear l241 y241 z241
  obtain ⟨rfl, N241q, e241⟩ := hQ241
  have N241 := Fr.app N235 N241q
  have pre242 : ∀ t, Steps p.tables e below (T241.setTop (mkF m 317 #[.val (.int p0), .val (.int p1), .val (.int p2), .val (.int p3), .val (.int p4), .val (.int p5), .val (.int vk), .val (.ref b4), .val (.ref b39), .val (.ref b63), .val (.ref b145), .val (.int (1 : Int32)), .unset] [(.int (f_total p0 p1 p2 p3 (p0 ^^^ p2) (p1 - p3) (p0 + p1) (p2 * p3))), (.int tt237)])) t → Steps p.tables e below (s₁.setTop (entryFrame m #[(.int p0), (.int p1), (.int p2), (.int p3), (.int p4), (.int p5)] maxLocals)) t := fun t kt => pre239 t (st241.trans kt)
  clear pre239 st241
  obtain ⟨tt243, hm244, pre244⟩ : ∃ (tt243 : Int32), (tt243 = (f_total p0 p1 p2 p3 (p0 ^^^ p2) (p1 - p3) (p0 + p1) (p2 * p3))) ∧ ∀ t, Steps p.tables e below (T241.setTop (mkF m 317 #[.val (.int p0), .val (.int p1), .val (.int p2), .val (.int p3), .val (.int p4), .val (.int p5), .val (.int vk), .val (.ref b4), .val (.ref b39), .val (.ref b63), .val (.ref b145), .val (.int (1 : Int32)), .unset] [(.int tt243), (.int tt237)])) t → Steps p.tables e below (s₁.setTop (entryFrame m #[(.int p0), (.int p1), (.int p2), (.int p3), (.int p4), (.int p5)] maxLocals)) t := ⟨(f_total p0 p1 p2 p3 (p0 ^^^ p2) (p1 - p3) (p0 + p1) (p2 * p3)), rfl, pre242⟩
  clear pre242
  have pre245 : ∀ t, Steps p.tables e below (T241.setTop (mkF m 345 #[.val (.int p0), .val (.int p1), .val (.int p2), .val (.int p3), .val (.int p4), .val (.int p5), .val (.int vk), .val (.ref b4), .val (.ref b39), .val (.ref b63), .val (.ref b145), .val (.int (1 : Int32)), .val (.int (1 : Int32))] [(.int (1 : Int32))])) t → Steps p.tables e below (s₁.setTop (entryFrame m #[(.int p0), (.int p1), (.int p2), (.int p3), (.int p4), (.int p5)] maxLocals)) t := fun t kt => pre244 t (by
    show Steps p.tables e below (T241.setTop (mkF m 317 #[.val (.int p0), .val (.int p1), .val (.int p2), .val (.int p3), .val (.int p4), .val (.int p5), .val (.int vk), .val (.ref b4), .val (.ref b39), .val (.ref b63), .val (.ref b145), .val (.int (1 : Int32)), .unset] [(.int tt243), (.int tt237)])) _
    refine XS.isub X241.here hx rfl (hb hby at_317) rfl ?_
    show Steps p.tables e below (T241.setTop (mkF m 318 #[.val (.int p0), .val (.int p1), .val (.int p2), .val (.int p3), .val (.int p4), .val (.int p5), .val (.int vk), .val (.ref b4), .val (.ref b39), .val (.ref b63), .val (.ref b145), .val (.int (1 : Int32)), .unset] [(.int (tt237 - tt243))])) _
    refine XS.iload X241.here hx rfl (hb hby at_318) rfl ?_
    show Steps p.tables e below (T241.setTop (mkF m 320 #[.val (.int p0), .val (.int p1), .val (.int p2), .val (.int p3), .val (.int p4), .val (.int p5), .val (.int vk), .val (.ref b4), .val (.ref b39), .val (.ref b63), .val (.ref b145), .val (.int (1 : Int32)), .unset] [(.int p5), (.int (tt237 - tt243))])) _
    refine XS.icmpNo X241.here hx rfl (hb hby at_320) rfl (teq (by rw [hm238, hm244, hm81, hm88, hm95, hm102, hm109, hm116, hm123, hm130]; exact own_add vk p5 _ _ _ _ _ _ _ _ hm2 : (tt237 - tt243) = p5)).2 ?_
    show Steps p.tables e below (T241.setTop (mkF m 323 #[.val (.int p0), .val (.int p1), .val (.int p2), .val (.int p3), .val (.int p4), .val (.int p5), .val (.int vk), .val (.ref b4), .val (.ref b39), .val (.ref b63), .val (.ref b145), .val (.int (1 : Int32)), .unset] [])) _
    refine XS.iconst X241.here hx rfl (hb hby at_323) ?_
    show Steps p.tables e below (T241.setTop (mkF m 324 #[.val (.int p0), .val (.int p1), .val (.int p2), .val (.int p3), .val (.int p4), .val (.int p5), .val (.int vk), .val (.ref b4), .val (.ref b39), .val (.ref b63), .val (.ref b145), .val (.int (1 : Int32)), .unset] [(.int (1 : Int32))])) _
    refine XS.goto X241.here hx rfl (pc0 := 324) (pc' := 328) rfl (hb hby at_324) (by decide) (by decide) ?_
    show Steps p.tables e below (T241.setTop (mkF m 328 #[.val (.int p0), .val (.int p1), .val (.int p2), .val (.int p3), .val (.int p4), .val (.int p5), .val (.int vk), .val (.ref b4), .val (.ref b39), .val (.ref b63), .val (.ref b145), .val (.int (1 : Int32)), .unset] [(.int (1 : Int32))])) _
    refine XS.istore X241.here hx rfl (hb hby at_328) rfl (l' := #[.val (.int p0), .val (.int p1), .val (.int p2), .val (.int p3), .val (.int p4), .val (.int p5), .val (.int vk), .val (.ref b4), .val (.ref b39), .val (.ref b63), .val (.ref b145), .val (.int (1 : Int32)), .val (.int (1 : Int32))]) rfl ?_
    show Steps p.tables e below (T241.setTop (mkF m 330 #[.val (.int p0), .val (.int p1), .val (.int p2), .val (.int p3), .val (.int p4), .val (.int p5), .val (.int vk), .val (.ref b4), .val (.ref b39), .val (.ref b63), .val (.ref b145), .val (.int (1 : Int32)), .val (.int (1 : Int32))] [])) _
    refine XS.iload X241.here hx rfl (hb hby at_330) rfl ?_
    show Steps p.tables e below (T241.setTop (mkF m 332 #[.val (.int p0), .val (.int p1), .val (.int p2), .val (.int p3), .val (.int p4), .val (.int p5), .val (.int vk), .val (.ref b4), .val (.ref b39), .val (.ref b63), .val (.ref b145), .val (.int (1 : Int32)), .val (.int (1 : Int32))] [(.int (1 : Int32))])) _
    refine XS.ifNo X241.here hx rfl (hb hby at_332) rfl ((if0 _ _).trans (feq (by decide : ¬ ((1 : Int32) = (0 : Int32)))).1) ?_
    show Steps p.tables e below (T241.setTop (mkF m 335 #[.val (.int p0), .val (.int p1), .val (.int p2), .val (.int p3), .val (.int p4), .val (.int p5), .val (.int vk), .val (.ref b4), .val (.ref b39), .val (.ref b63), .val (.ref b145), .val (.int (1 : Int32)), .val (.int (1 : Int32))] [])) _
    refine XS.iload X241.here hx rfl (hb hby at_335) rfl ?_
    show Steps p.tables e below (T241.setTop (mkF m 337 #[.val (.int p0), .val (.int p1), .val (.int p2), .val (.int p3), .val (.int p4), .val (.int p5), .val (.int vk), .val (.ref b4), .val (.ref b39), .val (.ref b63), .val (.ref b145), .val (.int (1 : Int32)), .val (.int (1 : Int32))] [(.int (1 : Int32))])) _
    refine XS.ifNo X241.here hx rfl (hb hby at_337) rfl ((if0 _ _).trans (feq (by decide : ¬ ((1 : Int32) = (0 : Int32)))).1) ?_
    show Steps p.tables e below (T241.setTop (mkF m 340 #[.val (.int p0), .val (.int p1), .val (.int p2), .val (.int p3), .val (.int p4), .val (.int p5), .val (.int vk), .val (.ref b4), .val (.ref b39), .val (.ref b63), .val (.ref b145), .val (.int (1 : Int32)), .val (.int (1 : Int32))] [])) _
    refine XS.iconst X241.here hx rfl (hb hby at_340) ?_
    show Steps p.tables e below (T241.setTop (mkF m 341 #[.val (.int p0), .val (.int p1), .val (.int p2), .val (.int p3), .val (.int p4), .val (.int p5), .val (.int vk), .val (.ref b4), .val (.ref b39), .val (.ref b63), .val (.ref b145), .val (.int (1 : Int32)), .val (.int (1 : Int32))] [(.int (1 : Int32))])) _
    refine XS.goto X241.here hx rfl (pc0 := 341) (pc' := 345) rfl (hb hby at_341) (by decide) (by decide) ?_
    exact kt)
  clear pre244
  obtain ⟨fs, hr, hrun, hended, hW, hsame⟩ := X241.leave (v := some (.int (1 : Int32))) (fun h => by rw [Bd.returns] at h; cases h)
  refine ⟨_, _, pre245 _ ?_, hrun, hended, _, _, rfl, ?_, ⟨_, rfl⟩, hW, hsame.mono (by decide) (by decide)⟩
  · show Steps p.tables e below (T241.setTop (mkF m 345 #[.val (.int p0), .val (.int p1), .val (.int p2), .val (.int p3), .val (.int p4), .val (.int p5), .val (.int vk), .val (.ref b4), .val (.ref b39), .val (.ref b63), .val (.ref b145), .val (.int (1 : Int32)), .val (.int (1 : Int32))] [(.int (1 : Int32))])) _
    exact retN X241 hx (t := .boolean) Bd.returns (by simp) (hb hby at_345) hr
  · show Q0 Z p0 p1 p2 p3 p4 p5 h0 n0 _ T241.heap _
    rw [e241]
    exact ⟨rfl, N241⟩
set_option maxRecDepth 65536 in
set_option maxHeartbeats 40000000 in
theorem comes_1 {Post : Tables → Env → Array Value → State → Outcome → State → Prop} (hpost : ∀ tb e args s v u, (limb_1_1.after args s (.returned v) u = true ∧ limb_1_2.after args s (.returned v) u = true ∧ True) → FrameEnd s (.returned v) u (Jvm.fieldLocs frame_1_writes args s ++ Jvm.arrayLocs frame_1_arrays args s ++ Jvm.staticLocs frame_1_statics s) 16 128 → Post tb e args s (.returned v) u) :
    ArmFor flags0 classFile x code maxLocals ret World_1 tables_1 room_1 Calls_1 rest_1 Pre_1 Post := by
  intro l hfl _ _ p e ha hc hk s m args below hf hA hF happ hP
  obtain ⟨hcalls, hrest, hpre⟩ := hP
  obtain ⟨-, -, -, hnamed, -, -, -, hat⟩ := (Spec.applies_iff hf).mp happ
  obtain ⟨hg, hn⟩ := and_e (Cond.before_iff.mp (show (Jvm.Cond.and given_1 narrow_1).before args s = true from hpre))
  obtain ⟨g1, g2⟩ := and_e hg
  obtain ⟨g3, g4⟩ := and_e g2
  obtain ⟨g5, g6⟩ := and_e g4
  obtain ⟨g7, g8⟩ := and_e g6
  obtain ⟨g9, g10⟩ := and_e g8
  obtain ⟨g11, g12⟩ := and_e g10
  obtain ⟨w0, w1, w2, w3, w4, w5, rfl⟩ : ∃ w0 w1 w2 w3 w4 w5 : Value, args = #[w0, w1, w2, w3, w4, w5] := by
    have hs : args.size = 6 := by simpa [Cond.value, given_1] using g1
    obtain ⟨L⟩ := args
    match L, hs with
    | [w0, w1, w2, w3, w4, w5], _ => exact ⟨w0, w1, w2, w3, w4, w5, rfl⟩
  have hw := fun d (hd : d ∈ tables_1) => atoms_spec (ws := Jvm.Cond.code x code maxLocals ret :: tables_1) hat d (List.mem_cons_of_mem _ hd)
  obtain ⟨i0, ei0⟩ := is_v g3
  obtain rfl : w0 = (.int i0) := Option.some.inj ei0
  obtain ⟨i1, ei1⟩ := is_v g5
  obtain rfl : w1 = (.int i1) := Option.some.inj ei1
  obtain ⟨i2, ei2⟩ := is_v g7
  obtain rfl : w2 = (.int i2) := Option.some.inj ei2
  obtain ⟨i3, ei3⟩ := is_v g9
  obtain rfl : w3 = (.int i3) := Option.some.inj ei3
  obtain ⟨i4, ei4⟩ := is_v g11
  obtain rfl : w4 = (.int i4) := Option.some.inj ei4
  obtain ⟨i5, ei5⟩ := is_v g12
  obtain rfl : w5 = (.int i5) := Option.some.inj ei5
  obtain ⟨n, o, h1, h2, h3, _, L, rfl, ⟨rfl, N⟩, hq⟩ := rm0 l s _ hw tables_1 i0 i1 i2 i3 i4 i5 s.heap s.heap.size (Nat.le_refl _) p e ha hc hk s m _ below hf ((Spec.applies_iff_loose hf).mp happ).1 ⟨rfl, State.Warmed39.refl s, rfl⟩ trivial
  refine ⟨n, _, h1, h2, h3, hpost _ _ _ _ _ _ ⟨Cond.after_iff.mpr rfl, Cond.after_iff.mpr (eq_i res_at (Term.int_eval (1)) rfl), trivial⟩ ⟨hq.1, hq.2.1, (hq.2.2.sift fun y hy => Or.inr (N y hy)).mono (by decide) (by decide)⟩⟩
theorem main_1_1 : Claimed_1_1 := comes_1 fun _ _ _ _ _ _ h hF => ⟨h.1, hF⟩
theorem main_1_2 : Claimed_1_2 := comes_1 fun _ _ _ _ _ _ h hF => ⟨h.2.1, hF⟩
end Jvm.Pilot.@@N@@
namespace Jvm.Pilot.@@N@@
open Jvm Jvm.ClassFile Sem Op Lib Jvm.Free Jvm.Stand Jvm.Pilot.@@N@@.Jvm.D
/-! MADE BY PROGRAM (witnessworld.py) out of the Statement's table words and the real class files: 10 classes; the members and pool entries that the words name. The judged class is class 1, her method 2. -/
namespace start1
open Jvm.ClassFile
def u (s : String) : CpInfo := .utf8 (stringToUtf16 s)
/-- a pool by its gaps: so many unusable entries, then the entry; so many at the end -/
def gap : Nat → List CpInfo → List CpInfo
  | 0, r => r
  | n + 1, r => .unusable :: gap n r
def poolList (es : List (Nat × CpInfo)) (last : Nat) : List CpInfo := es.foldr (fun e r => gap e.1 (e.2 :: r)) (gap last [])
def pool (es : List (Nat × CpInfo)) (last : Nat) : Array CpInfo := ⟨poolList es last⟩
def fileOf (pool : Array CpInfo) (this : Nat) (attrs : Array Attribute := #[]) (ms : Array MethodInfo := #[]) (fl : Nat := 33) (sup : Nat := 0) (ifs : Array Nat := #[]) (fds : Array FieldInfo := #[]) : ClassFile where
  minorVersion := 0
  majorVersion := 65
  constantPool := pool
  accessFlags := fl
  thisClass := this
  superClass := sup
  interfaces := ifs
  fields := fds
  methods := ms
  attributes := attrs
def plain (name : String) (sup : Option ClassId) : Class where
  name := name
  kind := .ordinary
  loader := none
  accessFlags := 33
  super := sup
  interfaces := #[]
  cf := none
  fields := #[]
  methods := #[]
  instanceTypes := #[]
  staticTypes := #[]
  resolved := #[]
  callSites := []
  init := .initialized
  statics := none
  mirror := none

def pool0 : Array CpInfo := pool [(5, u "<init>"), (0, u "()V"), (1, .class_ 10), (1, u "java/lang/Object")] 113

def k0c0 : Code := { maxStack := 0, maxLocals := 1, code := object_method_1_code, exceptionTable := #[], attributes := #[] }
def k0m0 : Method := { name := "<init>", desc := "()V", sig := { parameters := [], returnType := none }, accessFlags := 1, code := some k0c0 }
/-- java/lang/Object -/
def k0 : Class := { plain "java/lang/Object" none with
  accessFlags := 33
  interfaces := #[]
  cf := some (fileOf pool0 8 #[] #[{ accessFlags := 1, nameIndex := 5, descriptorIndex := 6, attributes := #[] }] 33 0 #[] #[])
  fields := #[]
  methods := #[k0m0]
  instanceTypes := #[]
  staticTypes := #[]
  resolved := Array.replicate 124 none
  statics := none }

def pool1 : Array CpInfo := pool [(2, .class_ 4), (1, u "java/lang/Object"), (0, u "<init>"), (0, u "()V"), (0, .class_ 8), (0, u "com/example/heptapolis/heptapolis/duel/Score"), (0, .methodref 7 10), (0, .nameAndType 5 11), (0, u "(IIIIIIII)V"), (0, .methodref 13 14), (0, .class_ 15), (0, .nameAndType 16 17), (0, u "com/example/heptapolis/heptapolis/duel/ScoreTotalPinLaw"), (0, u "e"), (0, u "(III)I"), (0, .methodref 7 19), (0, .nameAndType 20 21), (0, u "total"), (0, u "()I"), (3, u "law"), (0, u "(IIIIII)Z")] 4

def k1m0 : Method := { name := "<init>", desc := "()V", sig := { parameters := [], returnType := none }, accessFlags := 2, code := none }
def k1c1 : Code := { maxStack := 2, maxLocals := 3, code := method_2_code, exceptionTable := #[], attributes := #[] }
def k1m1 : Method := { name := "e", desc := "(III)I", sig := { parameters := [.int, .int, .int], returnType := some .int }, accessFlags := 10, code := some k1c1 }
def k1c2 : Code := { maxStack := 13, maxLocals := 13, code := code, exceptionTable := #[], attributes := #[] }
def k1m2 : Method := { name := "law", desc := "(IIIIII)Z", sig := { parameters := [.int, .int, .int, .int, .int, .int], returnType := some .boolean }, accessFlags := 9, code := some k1c2 }
/-- com/example/heptapolis/heptapolis/duel/ScoreTotalPinLaw -/
def k1 : Class := { plain "com/example/heptapolis/heptapolis/duel/ScoreTotalPinLaw" (some 0) with
  accessFlags := 49
  interfaces := #[]
  cf := some (fileOf pool1 13 #[] #[{ accessFlags := 2, nameIndex := 5, descriptorIndex := 6, attributes := #[] }, { accessFlags := 10, nameIndex := 16, descriptorIndex := 17, attributes := #[] }, { accessFlags := 9, nameIndex := 25, descriptorIndex := 26, attributes := #[] }] 49 2 #[] #[])
  fields := #[]
  methods := #[k1m0, k1m1, k1m2]
  instanceTypes := #[]
  staticTypes := #[]
  resolved := Array.replicate 31 none
  statics := none }

def pool2 : Array CpInfo := pool [(1, .methodref 2 3), (0, .class_ 4), (0, .nameAndType 5 6), (0, u "java/lang/Object"), (0, u "<init>"), (0, u "()V"), (0, .class_ 8), (0, u "java/lang/Record")] 13

def k2c0 : Code := { maxStack := 1, maxLocals := 1, code := jdk_30_method_1_code, exceptionTable := #[], attributes := #[] }
def k2m0 : Method := { name := "<init>", desc := "()V", sig := { parameters := [], returnType := none }, accessFlags := 4, code := some k2c0 }
/-- java/lang/Record -/
def k2 : Class := { plain "java/lang/Record" (some 0) with
  accessFlags := 1057
  interfaces := #[]
  cf := some (fileOf pool2 7 #[] #[{ accessFlags := 4, nameIndex := 5, descriptorIndex := 6, attributes := #[] }] 1057 2 #[] #[])
  fields := #[]
  methods := #[k2m0]
  instanceTypes := #[]
  staticTypes := #[]
  resolved := Array.replicate 22 none
  statics := none }

def pool3 : Array CpInfo := pool [(1, .methodref 2 3), (0, .class_ 4), (0, .nameAndType 5 6), (0, u "java/lang/Record"), (0, u "<init>"), (0, u "()V"), (0, .fieldref 8 9), (0, .class_ 10), (0, .nameAndType 11 12), (0, u "com/example/heptapolis/heptapolis/duel/Score"), (0, u "blue"), (0, u "I"), (0, .fieldref 8 14), (0, .nameAndType 15 12), (0, u "green"), (0, .fieldref 8 17), (0, .nameAndType 18 12), (0, u "yellow"), (0, .fieldref 8 20), (0, .nameAndType 21 12), (0, u "purple"), (0, .fieldref 8 23), (0, .nameAndType 24 12), (0, u "wonders"), (0, .fieldref 8 26), (0, .nameAndType 27 12), (0, u "progress"), (0, .fieldref 8 29), (0, .nameAndType 30 12), (0, u "coins"), (0, .fieldref 8 32), (0, .nameAndType 33 12), (0, u "military"), (25, u "()I"), (19, u "(IIIIIIII)V"), (2, u "MILITARY_POINTS"), (0, u "[I"), (23, u "total")] 30

def k3c0 : Code := { maxStack := 2, maxLocals := 9, code := prog_93_method_1_code, exceptionTable := #[], attributes := #[] }
def k3m0 : Method := { name := "<init>", desc := "(IIIIIIII)V", sig := { parameters := [.int, .int, .int, .int, .int, .int, .int, .int], returnType := none }, accessFlags := 1, code := some k3c0 }
def k3c1 : Code := { maxStack := 2, maxLocals := 1, code := prog_93_method_4_code, exceptionTable := #[], attributes := #[] }
def k3m1 : Method := { name := "total", desc := "()I", sig := { parameters := [], returnType := some .int }, accessFlags := 1, code := some k3c1 }
/-- com/example/heptapolis/heptapolis/duel/Score -/
def k3 : Class := { plain "com/example/heptapolis/heptapolis/duel/Score" (some 2) with
  accessFlags := 49
  interfaces := #[]
  cf := some (fileOf pool3 8 #[] #[{ accessFlags := 1, nameIndex := 5, descriptorIndex := 79, attributes := #[] }, { accessFlags := 1, nameIndex := 107, descriptorIndex := 59, attributes := #[] }] 49 2 #[] #[{ accessFlags := 18, nameIndex := 11, descriptorIndex := 12, attributes := #[] }, { accessFlags := 18, nameIndex := 15, descriptorIndex := 12, attributes := #[] }, { accessFlags := 18, nameIndex := 18, descriptorIndex := 12, attributes := #[] }, { accessFlags := 18, nameIndex := 21, descriptorIndex := 12, attributes := #[] }, { accessFlags := 18, nameIndex := 24, descriptorIndex := 12, attributes := #[] }, { accessFlags := 18, nameIndex := 27, descriptorIndex := 12, attributes := #[] }, { accessFlags := 18, nameIndex := 30, descriptorIndex := 12, attributes := #[] }, { accessFlags := 18, nameIndex := 33, descriptorIndex := 12, attributes := #[] }, { accessFlags := 26, nameIndex := 82, descriptorIndex := 83, attributes := #[] }])
  fields := #[{ name := "blue", type := .int, accessFlags := 18, slot := 0, constantValue := 0 }, { name := "green", type := .int, accessFlags := 18, slot := 1, constantValue := 0 }, { name := "yellow", type := .int, accessFlags := 18, slot := 2, constantValue := 0 }, { name := "purple", type := .int, accessFlags := 18, slot := 3, constantValue := 0 }, { name := "wonders", type := .int, accessFlags := 18, slot := 4, constantValue := 0 }, { name := "progress", type := .int, accessFlags := 18, slot := 5, constantValue := 0 }, { name := "coins", type := .int, accessFlags := 18, slot := 6, constantValue := 0 }, { name := "military", type := .int, accessFlags := 18, slot := 7, constantValue := 0 }, { name := "MILITARY_POINTS", type := (.array .int), accessFlags := 26, slot := 0, constantValue := 0 }]
  methods := #[k3m0, k3m1]
  instanceTypes := #[.int, .int, .int, .int, .int, .int, .int, .int]
  staticTypes := #[(.array .int)]
  resolved := Array.replicate 138 none
  statics := none }

def pool4 : Array CpInfo := pool [(1, u "java/lang/Cloneable"), (0, .class_ 1), (0, u "java/lang/Object"), (0, .class_ 3)] 3

/-- java/lang/Cloneable -/
def k4 : Class := { plain "java/lang/Cloneable" (some 0) with
  accessFlags := 1537
  interfaces := #[]
  cf := some (fileOf pool4 2 #[] #[] 1537 4 #[] #[])
  fields := #[]
  methods := #[]
  instanceTypes := #[]
  staticTypes := #[]
  resolved := Array.replicate 8 none
  statics := none }

def pool5 : Array CpInfo := pool [(1, u "java/io/Serializable"), (0, .class_ 1), (0, u "java/lang/Object"), (0, .class_ 3)] 3

/-- java/io/Serializable -/
def k5 : Class := { plain "java/io/Serializable" (some 0) with
  accessFlags := 1537
  interfaces := #[]
  cf := some (fileOf pool5 2 #[] #[] 1537 4 #[] #[])
  fields := #[]
  methods := #[]
  instanceTypes := #[]
  staticTypes := #[]
  resolved := Array.replicate 8 none
  statics := none }

/-- the primitive byte -/
def k6 : Class := { plain "byte" none with kind := .primitive 'B', accessFlags := 0x411 }
/-- [B -/
def k7 : Class := { plain "[B" (some 0) with kind := .array 6 .byte, interfaces := #[4, 5], accessFlags := 1041 }

/-- the primitive int -/
def k8 : Class := { plain "int" none with kind := .primitive 'I', accessFlags := 0x411 }
/-- [I -/
def k9 : Class := { plain "[I" (some 0) with kind := .array 8 .int, interfaces := #[4, 5], accessFlags := 1041 }

def heap : Heap := #[]
def classes : Array Class := #[k0, k1, k2, k3, k4, k5, k6, k7, k8, k9]
def interned : List (Array UInt16 × Addr) := []
def slotsUsed : Nat := 0
def theMethod : MethodId := ⟨1, 2⟩
def args0 : Array Value := #[.int 5, .int 5, .int 5, .int 5, .int 5, .int 5]
def aboutOver (below : List Frame) : State where
  vm := { classes := classes, interned := interned.toArray }
  heap := heap
  slotsUsed := slotsUsed
  threads := #[{ frames := .invoking theMethod args0 :: below }]
def below0 : List Frame := [.native { method := ⟨0, 0⟩, args := #[] }]
def about1 : State := aboutOver below0
def p0 : Program := .bare "" "" ""
def e0 : Env := launch0.env 0 0 0
theorem w_frames : about1.frames = Frame.invoking theMethod args0 :: below0 := rfl
set_option maxRecDepth 65536 in
theorem w_args : argsFit about1.vm theMethod args0 = true := by decide +kernel
set_option maxRecDepth 65536 in
theorem w_heap : heapFits about1 = true := by decide +kernel
set_option maxRecDepth 65536 in
theorem w_runnable : about1.curStatus? = some .runnable := by decide +kernel
set_option maxRecDepth 65536 in
theorem w_alone : about1.alone = true := by decide +kernel
set_option maxRecDepth 65536 in
theorem w_named : about1.methodNamed? x = some theMethod := by decide +kernel
set_option maxRecDepth 65536 in
theorem w_hears : about1.hears theMethod below0 = true := by decide +kernel
set_option maxRecDepth 65536 in
theorem w_ripe : about1.ripe theMethod args0 below0 = true := by decide +kernel
theorem w_running : about1.status = .running := rfl
set_option maxRecDepth 65536 in
theorem w_room : about1.hasRoom e0.platform room_1 = true :=
  launch0.hasRoom_least _ room_1 (by decide +kernel) (by decide +kernel) (by decide +kernel) (by decide +kernel) (by decide +kernel) (by decide +kernel)
theorem allAtoms_all (ts : List Jvm.Cond) (a : Array Jvm.Value) (st : Jvm.State) : (allAtoms ts).before a st = ts.all (fun c => c.before a st) := by
  induction ts with
  | nil => rfl
  | cons c t ih =>
    show (Jvm.Cond.and c (allAtoms t)).before a st = _
    rw [Jvm.Cond.before_and, ih, List.all_cons]
def words1 : List Jvm.Cond := Jvm.Cond.code x code maxLocals ret :: tables_1
/-- a 'code' word, met by the world's own term for the bytes: nothing is compared byte by byte -/
theorem code_word {y : MethodName} {bytes : ByteArray} {mx : Nat} {rt : Option FieldType} {a : Array Value} {s : State} {m : MethodId} {meth : Method} {c : Code} (h1 : s.methodNamed? y = some m) (h2 : s.vm.method? m = some meth) (h3 : meth.code = some c) (h4 : c.code = bytes)
    (h5 : (c.maxLocals == mx && c.exceptionTable.isEmpty && decide (c.maxStack ≤ mostOperands) && decide (meth.sig.returnType = rt) && !meth.locks && decide (parseMethodDescriptor y.desc = some meth.sig)) = true) : (Jvm.Cond.code y bytes mx rt).before a s = true := by
  simp only [Bool.and_eq_true, beq_iff_eq, Bool.not_eq_true', decide_eq_true_eq] at h5
  obtain ⟨⟨⟨⟨⟨g1, g2⟩, g3⟩, g4⟩, g5⟩, g6⟩ := h5
  simp [Cond.before, Cond.holds, Cond.value, h1, h2, h3, h4, g1, g2, g3, g4, g5, g6]
def isCode : Jvm.Cond → Bool
  | .code _ _ _ _ => true
  | _ => false
theorem all_split {L : List Jvm.Cond} {P : Jvm.Cond → Bool} (h1 : L.all (fun c => isCode c || P c) = true) (h2 : ∀ c ∈ L.filter isCode, P c = true) : L.all P = true := by
  refine List.all_eq_true.mpr fun c hc => ?_
  have h := List.all_eq_true.mp h1 c hc
  rcases Bool.eq_false_or_eq_true (isCode c) with hi | hi
  · exact h2 c (List.mem_filter.mpr ⟨hc, hi⟩)
  · simpa [hi] using h
set_option maxRecDepth 65536 in
theorem w_c0 : (Jvm.Cond.code x code maxLocals ret).before args0 about1 = true := code_word (m := ⟨1, 2⟩) (meth := k1m2) (c := k1c2) (by decide +kernel) rfl rfl rfl (by decide +kernel)
set_option maxRecDepth 65536 in
theorem w_c1 : (Jvm.Cond.code ({ cls := "com/example/heptapolis/heptapolis/duel/Score", name := "<init>", desc := "(IIIIIIII)V" } : Jvm.MethodName) prog_93_method_1_code (9 : Nat) (Option.none : Option Jvm.ClassFile.FieldType)).before args0 about1 = true := code_word (m := ⟨3, 0⟩) (meth := k3m0) (c := k3c0) (by decide +kernel) rfl rfl rfl (by decide +kernel)
set_option maxRecDepth 65536 in
theorem w_c2 : (Jvm.Cond.code ({ cls := "java/lang/Record", name := "<init>", desc := "()V" } : Jvm.MethodName) jdk_30_method_1_code (1 : Nat) (Option.none : Option Jvm.ClassFile.FieldType)).before args0 about1 = true := code_word (m := ⟨2, 0⟩) (meth := k2m0) (c := k2c0) (by decide +kernel) rfl rfl rfl (by decide +kernel)
set_option maxRecDepth 65536 in
theorem w_c3 : (Jvm.Cond.code ({ cls := "java/lang/Object", name := "<init>", desc := "()V" } : Jvm.MethodName) object_method_1_code (1 : Nat) (Option.none : Option Jvm.ClassFile.FieldType)).before args0 about1 = true := code_word (m := ⟨0, 0⟩) (meth := k0m0) (c := k0c0) (by decide +kernel) rfl rfl rfl (by decide +kernel)
set_option maxRecDepth 65536 in
theorem w_c4 : (Jvm.Cond.code ({ cls := "com/example/heptapolis/heptapolis/duel/ScoreTotalPinLaw", name := "e", desc := "(III)I" } : Jvm.MethodName) method_2_code (3 : Nat) (Option.some Jvm.ClassFile.FieldType.int)).before args0 about1 = true := code_word (m := ⟨1, 1⟩) (meth := k1m1) (c := k1c1) (by decide +kernel) rfl rfl rfl (by decide +kernel)
set_option maxRecDepth 65536 in
theorem w_c5 : (Jvm.Cond.code ({ cls := "com/example/heptapolis/heptapolis/duel/Score", name := "total", desc := "()I" } : Jvm.MethodName) prog_93_method_4_code (1 : Nat) (Option.some Jvm.ClassFile.FieldType.int)).before args0 about1 = true := code_word (m := ⟨3, 1⟩) (meth := k3m1) (c := k3c1) (by decide +kernel) rfl rfl rfl (by decide +kernel)
def codes1 : List Jvm.Cond := [Jvm.Cond.code x code maxLocals ret, Jvm.Cond.code ({ cls := "com/example/heptapolis/heptapolis/duel/Score", name := "<init>", desc := "(IIIIIIII)V" } : Jvm.MethodName) prog_93_method_1_code (9 : Nat) (Option.none : Option Jvm.ClassFile.FieldType), Jvm.Cond.code ({ cls := "java/lang/Record", name := "<init>", desc := "()V" } : Jvm.MethodName) jdk_30_method_1_code (1 : Nat) (Option.none : Option Jvm.ClassFile.FieldType), Jvm.Cond.code ({ cls := "java/lang/Object", name := "<init>", desc := "()V" } : Jvm.MethodName) object_method_1_code (1 : Nat) (Option.none : Option Jvm.ClassFile.FieldType), Jvm.Cond.code ({ cls := "com/example/heptapolis/heptapolis/duel/ScoreTotalPinLaw", name := "e", desc := "(III)I" } : Jvm.MethodName) method_2_code (3 : Nat) (Option.some Jvm.ClassFile.FieldType.int), Jvm.Cond.code ({ cls := "com/example/heptapolis/heptapolis/duel/Score", name := "total", desc := "()I" } : Jvm.MethodName) prog_93_method_4_code (1 : Nat) (Option.some Jvm.ClassFile.FieldType.int)]
set_option maxRecDepth 65536 in
theorem codes_eq : words1.filter isCode = codes1 := rfl
theorem w_codes : ∀ c ∈ words1.filter isCode, c.before args0 about1 = true := by
  rw [codes_eq]
  intro c hc
  simp only [codes1, List.mem_cons, List.not_mem_nil, or_false] at hc
  rcases hc with rfl | rfl | rfl | rfl | rfl | rfl
  · exact w_c0
  · exact w_c1
  · exact w_c2
  · exact w_c3
  · exact w_c4
  · exact w_c5
set_option maxRecDepth 65536 in
theorem w_t1 : (words1.take 24).all (fun c => isCode c || c.before args0 about1) = true := by decide +kernel
set_option maxRecDepth 65536 in
theorem w_t2 : (words1.drop 24).all (fun c => isCode c || c.before args0 about1) = true := by decide +kernel
theorem w_tables : (allAtoms (Jvm.Cond.code x code maxLocals ret :: tables_1)).before args0 about1 = true := by
  rw [allAtoms_all]
  show words1.all (fun c => c.before args0 about1) = true
  refine all_split ?_ w_codes
  rw [← List.take_append_drop 24 words1, List.all_append, w_t1, w_t2]
  rfl
set_option maxRecDepth 65536 in
theorem w_case : (Jvm.Cond.and given_1 narrow_1).before args0 about1 = true := by decide +kernel
theorem w_applies : (headSpec (Jvm.Cond.code x code maxLocals ret :: tables_1) room_1).applies x e0.platform about1 = true :=
  (Spec.applies_iff w_frames).mpr ⟨w_running, w_runnable, w_alone, w_named, w_hears, w_ripe, w_room, w_tables⟩
theorem atStart : AtStart classFile x code maxLocals ret World_1 tables_1 room_1 Calls_1 rest_1 Pre_1 launch0 p0 e0 about1 theMethod args0 below0 :=
  ⟨lists_1, trivial, launch0.admits_env _ _ _, launch0.least_env, fairChoices_fair.cas, fairChoices_fair.clock, w_frames, w_args, w_heap, w_applies, trivial, trivial, w_case⟩
end start1
theorem witness_1 : WitnessClaimed_1 := ⟨start1.p0, start1.e0, start1.about1, start1.theMethod, start1.args0, start1.below0, start1.atStart⟩
end Jvm.Pilot.@@N@@
