import JvmDerived
import JvmDerived.Pilot.@@N@@Statement
import JvmDerived.Pilot.@@N@@Code
set_option linter.unusedVariables false
set_option linter.unusedSimpArgs false
namespace Jvm.RoadKit
open Sem ClassFile Op Lib Jvm.Stand Jvm.Free Jvm.LawKit
section New
variable {p : Program} {l : Launch} {e : Env} {R : Room} {s : State} {m : MethodId} {args : Array Value} {below : List Frame} {meth : Method} {c : Code} {T : State} {locs : List Loc} {cells slots : Nat}
theorem retI (X : Stand p l e R s m args below meth c T locs cells slots) (hx : p.tables.exec = Jvm.exec) {pc : Nat} {Ls : Array Slot} {z : Int32} {rest : List Value} (hret : meth.sig.returnType = some .int) (hd : decode c.code pc = .ok (.ireturn, 1)) {fs : List Frame}
    (hl : ∀ (f : JFrame) (acts : List Action), f.method = m → f.locked = none → f.entered = [] → (doReturn e (T.setTop f) acts (some (.int z))).1 = T.setFrames fs) : Steps p.tables e below (T.setTop (mkF m pc Ls (.int z :: rest))) (T.setFrames fs) := by
  have hm' : T.vm.method? m = some meth := X.method'
  have hn : narrow .int (.int z) = .int z := rfl
  show Steps p.tables e below (T.setTop { method := m, pc := pc, locals := Ls, stack := _ :: rest, locked := none }) _
  jvm_step X.here [X.here.top, hx, hd, hm', hret, hn]
  first | (intro acts; rw [hl _ acts rfl rfl rfl]) | rw [hl _ _ rfl rfl rfl]
  exact Steps.refl _
end New
end Jvm.RoadKit
namespace Jvm.Pilot.@@N@@
open Jvm Jvm.ClassFile Sem Op Lib Jvm.Free Jvm.Stand Jvm.LawKit Jvm.RoadKit Bundle Jvm.Pilot.@@N@@.Jvm.D
theorem pn_com_example_baton_baton_core_PositionRangeStartsInPinLaw : plainName "com/example/baton/baton/core/PositionRangeStartsInPinLaw" = true := by first | (simp [plainName, overriddenIn]; done) | decide +kernel
theorem pn_com_example_baton_baton_core_PositionRange : plainName "com/example/baton/baton/core/PositionRange" = true := by first | (simp [plainName, overriddenIn]; done) | decide +kernel
theorem pn_java_lang_Record : plainName "java/lang/Record" = true := by first | (simp [plainName, overriddenIn]; done) | decide +kernel
theorem d2_0 : decode jdk_30_method_1_code 0 = .ok (.aload_n 0, 1) := by decide +kernel
theorem d2_1 : decode jdk_30_method_1_code 1 = .ok (.invokespecial 1, 3) := by decide +kernel
theorem d2_4 : decode jdk_30_method_1_code 4 = .ok (.return_, 1) := by decide +kernel
theorem ef2 (m : MethodId) (x0 : Addr) : entryFrame m #[(.ref x0)] 1 = mkF m 0 #[.val (.ref x0)] [] := by first | (simp [entryFrame, mkF, argsToLocals, Value.category]; done) | rfl
def Q2 (Z : State) (a0 : Addr) (h0 : Heap) (n0 : Nat) (v : Option Value) (h : Heap) (L : List Loc) : Prop := v = none ∧ Fr n0 L ∧ h = h0
set_option maxRecDepth 65536 in
set_option maxHeartbeats 40000000 in
theorem rm2 (l : Launch) (Z : State) (av : Array Value) (hw : ∀ d ∈ tables_1, d.before av Z = true) (ws : List Jvm.Cond) (a0 : Addr) (h0 : Heap) (n0 : Nat) (Z0 : n0 ≤ h0.size) :
    MetFree l (⟨"java/lang/Record", "<init>", "()V"⟩ : MethodName) (head1 (Jvm.Cond.code (⟨"java/lang/Record", "<init>", "()V"⟩ : MethodName) jdk_30_method_1_code 1 none :: ws) ({ frames := 1, cells := 0, slots := 0, locals := 12 } : Room)) (fun a U => a = #[(.ref a0)] ∧ Z.Warmed39 U.vm ∧ U.heap = h0) (fun _ _ _ _ _ => True) (fun _ U o U' => ∃ v L, o = .returned v ∧ Q2 Z a0 h0 n0 v U'.heap L ∧ FrameEnd U o U' L ({ frames := 1, cells := 0, slots := 0, locals := 12 } : Room).cells ({ frames := 1, cells := 0, slots := 0, locals := 12 } : Room).slots) := by
  refine MetFree.of_bodySF (plainFor_of_name pn_java_lang_Record) hisR ?_
  intro p e s m args below meth c s₁ Bd hml0 hP hK
  obtain ⟨rfl, hZ, hh⟩ := hP
  have hx := Bd.exec
  have hby := Bd.bytes
  have hml : c.maxLocals = 1 := hml0
  have hown : s.vm.findClass "java/lang/Record" = some m.cls := findClass_of_methodNamed Bd.named
  have hnm := (name_of_methodNamed Bd.named Bd.method).1
  have X0 : Stand p l e ({ frames := 1, cells := 0, slots := 0, locals := 12 } : Room) s m #[(.ref a0)] below meth c s₁ [] 0 0 := Stand.of_body Bd
  have e0 : s₁.heap = h0 := by rw [← hh, Bd.state]; rfl
  have N0 := Fr.nil n0
  have K0 : Keep h0 h0 [] := Keep.refl h0 []
  have pre0 : ∀ t, Steps p.tables e below (s₁.setTop (mkF m 0 #[.val (.ref a0)] [])) t → Steps p.tables e below (s₁.setTop (entryFrame m #[(.ref a0)] 1)) t := fun t k => castTop (ef2 m a0) k
  have pre1 : ∀ t, Steps p.tables e below (s₁.setTop (mkF m 1 #[.val (.ref a0)] [(.ref a0)])) t → Steps p.tables e below (s₁.setTop (entryFrame m #[(.ref a0)] 1)) t := fun t kt => pre0 t (by
    show Steps p.tables e below (s₁.setTop (mkF m 0 #[.val (.ref a0)] [])) _
    refine XS.aloadN X0.here hx rfl (hb hby d2_0) rfl rfl ?_
    exact kt)
  obtain ⟨T2, X2, e2, st2⟩ := initO X0 hx hZ hown (hw _ (List.mem_of_getElem? (i := 12) rfl)) (hw _ (List.mem_of_getElem? (i := 13) rfl)) (hw _ (List.mem_of_getElem? (i := 14) rfl)) e0 (g := (mkF m 1 #[.val (.ref a0)] [(.ref a0)])) rfl (by rw [hml]; rfl) rfl (hb hby d2_1) (by decide) (W := 0) (by show 2 * 0 + _ ≤ _; exact Nat.le_of_eq rfl) (by decide)
  have pre3 : ∀ t, Steps p.tables e below (T2.setTop (mkF m 4 #[.val (.ref a0)] [])) t → Steps p.tables e below (s₁.setTop (entryFrame m #[(.ref a0)] 1)) t := fun t kt => pre1 t (st2 _ kt)
  obtain ⟨fs, hr, hrun, hended, hW, hsame⟩ := X2.leave (v := none) (fun _ => rfl)
  refine ⟨_, _, pre3 _ ?_, hrun, hended, _, _, rfl, ?_, ⟨_, rfl⟩, hW, hsame.mono (by decide) (by decide)⟩
  · show Steps p.tables e below (T2.setTop (mkF m 4 #[.val (.ref a0)] [])) _
    exact X2.returnOut hx Bd.returns (hb hby d2_4) hr
  · show Q2 Z a0 h0 n0 _ T2.heap _
    rw [e2]
    exact ⟨rfl, N0, rfl⟩
theorem d1_0 : decode prog_27_method_1_code 0 = .ok (.aload_n 0, 1) := by decide +kernel
theorem pd___V : parseMethodDescriptor "()V" = some ⟨[], none⟩ := by decide +kernel
theorem d1_1 : decode prog_27_method_1_code 1 = .ok (.invokespecial 3, 3) := by decide +kernel
theorem d1_4 : decode prog_27_method_1_code 4 = .ok (.iload_n 1, 1) := by decide +kernel
theorem d1_5 : decode prog_27_method_1_code 5 = .ok (.ifCond .lt 8, 3) := by decide +kernel
theorem d1_8 : decode prog_27_method_1_code 8 = .ok (.iload_n 2, 1) := by decide +kernel
theorem d1_9 : decode prog_27_method_1_code 9 = .ok (.iload_n 1, 1) := by decide +kernel
theorem d1_10 : decode prog_27_method_1_code 10 = .ok (.if_icmp .ge 18, 3) := by decide +kernel
theorem d1_28 : decode prog_27_method_1_code 28 = .ok (.aload_n 0, 1) := by decide +kernel
theorem d1_29 : decode prog_27_method_1_code 29 = .ok (.iload_n 1, 1) := by decide +kernel
theorem d1_30 : decode prog_27_method_1_code 30 = .ok (.putfield 18, 3) := by decide +kernel
theorem d1_33 : decode prog_27_method_1_code 33 = .ok (.aload_n 0, 1) := by decide +kernel
theorem d1_34 : decode prog_27_method_1_code 34 = .ok (.iload_n 2, 1) := by decide +kernel
theorem d1_35 : decode prog_27_method_1_code 35 = .ok (.putfield 24, 3) := by decide +kernel
theorem d1_38 : decode prog_27_method_1_code 38 = .ok (.return_, 1) := by decide +kernel
theorem ef1 (m : MethodId) (x0 : Addr) (x1 : Int32) (x2 : Int32) : entryFrame m #[(.ref x0), (.int x1), (.int x2)] 3 = mkF m 0 #[.val (.ref x0), .val (.int x1), .val (.int x2)] [] := by first | (simp [entryFrame, mkF, argsToLocals, Value.category]; done) | rfl
def Q1 (Z : State) (a0 : Addr) (p1 : Int32) (p2 : Int32) (h0 : Heap) (n0 : Nat) (v : Option Value) (h : Heap) (L : List Loc) : Prop := v = none ∧ Fr n0 L ∧ Keep h0 h [a0] ∧ Exa Z h a0 "com/example/baton/baton/core/PositionRange" ∧ Fld Z h a0 "com/example/baton/baton/core/PositionRange" "start" "I" (.int p1) ∧ Fld Z h a0 "com/example/baton/baton/core/PositionRange" "end" "I" (.int p2)
set_option maxRecDepth 65536 in
set_option maxHeartbeats 40000000 in
theorem rm1 (l : Launch) (Z : State) (av : Array Value) (hw : ∀ d ∈ tables_1, d.before av Z = true) (ws : List Jvm.Cond) (a0 : Addr) (p1 : Int32) (p2 : Int32) (h0 : Heap) (n0 : Nat) (Z0 : n0 ≤ h0.size) (E_a0 : Exa Z h0 a0 "com/example/baton/baton/core/PositionRange") (g_a0 : n0 ≤ a0) (I_start : Fld Z h0 a0 "com/example/baton/baton/core/PositionRange" "start" "I" (.int (0 : Int32))) (I_end : Fld Z h0 a0 "com/example/baton/baton/core/PositionRange" "end" "I" (.int (0 : Int32))) (hs0 : ¬ (p1 < (0 : Int32))) (hse : ¬ (p2 < p1)) :
    MetFree l (⟨"com/example/baton/baton/core/PositionRange", "<init>", "(II)V"⟩ : MethodName) (head1 (Jvm.Cond.code (⟨"com/example/baton/baton/core/PositionRange", "<init>", "(II)V"⟩ : MethodName) prog_27_method_1_code 3 none :: ws) ({ frames := 2, cells := 0, slots := 0, locals := 24 } : Room)) (fun a U => a = #[(.ref a0), (.int p1), (.int p2)] ∧ Z.Warmed39 U.vm ∧ U.heap = h0) (fun _ _ _ _ _ => True) (fun _ U o U' => ∃ v L, o = .returned v ∧ Q1 Z a0 p1 p2 h0 n0 v U'.heap L ∧ FrameEnd U o U' L ({ frames := 2, cells := 0, slots := 0, locals := 24 } : Room).cells ({ frames := 2, cells := 0, slots := 0, locals := 24 } : Room).slots) := by
  refine MetFree.of_bodySF (plainFor_of_name pn_com_example_baton_baton_core_PositionRange) hisR ?_
  intro p e s m args below meth c s₁ Bd hml0 hP hK
  obtain ⟨rfl, hZ, hh⟩ := hP
  have hx := Bd.exec
  have hby := Bd.bytes
  have hml : c.maxLocals = 3 := hml0
  have hown : s.vm.findClass "com/example/baton/baton/core/PositionRange" = some m.cls := findClass_of_methodNamed Bd.named
  have hnm := (name_of_methodNamed Bd.named Bd.method).1
  have X0 : Stand p l e ({ frames := 2, cells := 0, slots := 0, locals := 24 } : Room) s m #[(.ref a0), (.int p1), (.int p2)] below meth c s₁ [] 0 0 := Stand.of_body Bd
  have e0 : s₁.heap = h0 := by rw [← hh, Bd.state]; rfl
  have N0 := Fr.nil n0
  have K0 : Keep h0 h0 [a0] := Keep.refl h0 [a0]
  have pre0 : ∀ t, Steps p.tables e below (s₁.setTop (mkF m 0 #[.val (.ref a0), .val (.int p1), .val (.int p2)] [])) t → Steps p.tables e below (s₁.setTop (entryFrame m #[(.ref a0), (.int p1), (.int p2)] 3)) t := fun t k => castTop (ef1 m a0 p1 p2) k
  have pre1 : ∀ t, Steps p.tables e below (s₁.setTop (mkF m 1 #[.val (.ref a0), .val (.int p1), .val (.int p2)] [(.ref a0)])) t → Steps p.tables e below (s₁.setTop (entryFrame m #[(.ref a0), (.int p1), (.int p2)] 3)) t := fun t kt => pre0 t (by
    show Steps p.tables e below (s₁.setTop (mkF m 0 #[.val (.ref a0), .val (.int p1), .val (.int p2)] [])) _
    refine XS.aloadN X0.here hx rfl (hb hby d1_0) rfl rfl ?_
    exact kt)
  obtain ⟨_, _, ⟨T2, L2, k2, n2⟩, -, X2, ⟨Lc2, hQ2, l2, y2, z2⟩, st2⟩ := X0.specialBack hx (y := (⟨"java/lang/Record", "<init>", "()V"⟩ : MethodName)) rfl hown (mvT hZ (hw _ (List.mem_of_getElem? (i := 7) rfl))) (mvT hZ (hw _ (List.mem_of_getElem? (i := 8) rfl))) (mvT hZ (hw _ (List.mem_of_getElem? (i := 11) rfl))) (by decide) (backOf (W := 0) (rm2 l Z av hw [] a0  h0 n0 Z0 ) hZ (hw _ (List.mem_of_getElem? (i := 11) rfl)) (hw _ (List.mem_of_getElem? (i := 10) rfl)) (by decide) (by decide)) (g := (mkF m 1 #[.val (.ref a0), .val (.int p1), .val (.int p2)] [(.ref a0)])) rfl (by rw [hml]; rfl) (Steps.refl _) (a := a0) (argsL := []) (rest := []) (lenOf pd___V rfl) rfl (by show 2 * 0 + _ ≤ _; exact Nat.le_of_eq rfl) (hb hby d1_1) (fun _ _ => ⟨rfl, e0, (by decide : 0 + 0 ≤ _), (by decide : 0 + 0 ≤ _)⟩)
  dsimp only [Pt.U, Pt.locs, Pt.cells, Pt.slots] at X2 l2 y2 z2 st2 hQ2
  subst l2 y2 z2
  obtain ⟨rfl, N2q, e2⟩ := hQ2
  have N2 := Fr.app N0 N2q
  have pre3 : ∀ t, Steps p.tables e below (T2.setTop (mkF m 4 #[.val (.ref a0), .val (.int p1), .val (.int p2)] [])) t → Steps p.tables e below (s₁.setTop (entryFrame m #[(.ref a0), (.int p1), (.int p2)] 3)) t := fun t kt => pre1 t (st2.trans kt)
  have pre4 : ∀ t, Steps p.tables e below (T2.setTop (mkF m 30 #[.val (.ref a0), .val (.int p1), .val (.int p2)] [(.int p1), (.ref a0)])) t → Steps p.tables e below (s₁.setTop (entryFrame m #[(.ref a0), (.int p1), (.int p2)] 3)) t := fun t kt => pre3 t (by
    show Steps p.tables e below (T2.setTop (mkF m 4 #[.val (.ref a0), .val (.int p1), .val (.int p2)] [])) _
    refine XS.iloadN X2.here hx rfl (hb hby d1_4) rfl ?_
    show Steps p.tables e below (T2.setTop (mkF m 5 #[.val (.ref a0), .val (.int p1), .val (.int p2)] [(.int p1)])) _
    refine XS.ifNo X2.here hx rfl (hb hby d1_5) rfl ((if0 _ _).trans (flt hs0).1) ?_
    show Steps p.tables e below (T2.setTop (mkF m 8 #[.val (.ref a0), .val (.int p1), .val (.int p2)] [])) _
    refine XS.iloadN X2.here hx rfl (hb hby d1_8) rfl ?_
    show Steps p.tables e below (T2.setTop (mkF m 9 #[.val (.ref a0), .val (.int p1), .val (.int p2)] [(.int p2)])) _
    refine XS.iloadN X2.here hx rfl (hb hby d1_9) rfl ?_
    show Steps p.tables e below (T2.setTop (mkF m 10 #[.val (.ref a0), .val (.int p1), .val (.int p2)] [(.int p1), (.int p2)])) _
    refine XS.icmpYes X2.here hx rfl (pc0 := 10) (pc' := 28) rfl (hb hby d1_10) rfl (flt hse).2.1 (by decide) (by decide) ?_
    show Steps p.tables e below (T2.setTop (mkF m 28 #[.val (.ref a0), .val (.int p1), .val (.int p2)] [])) _
    refine XS.aloadN X2.here hx rfl (hb hby d1_28) rfl rfl ?_
    show Steps p.tables e below (T2.setTop (mkF m 29 #[.val (.ref a0), .val (.int p1), .val (.int p2)] [(.ref a0)])) _
    refine XS.iloadN X2.here hx rfl (hb hby d1_29) rfl ?_
    exact kt)
  obtain ⟨T5, h5, X5, e5, W5, st5⟩ := putF X2 hx hZ hown (host := "") (Or.inl (hw _ (List.mem_of_getElem? (i := 15) rfl))) Via.refl e2 I_start E_a0 (Or.inr ⟨(hw _ (List.mem_of_getElem? (i := 16) rfl)), rfl, hnm⟩) (hw _ (List.mem_of_getElem? (i := 2) rfl)) (ty := .int) (by decide) rfl rfl (g := (mkF m 30 #[.val (.ref a0), .val (.int p1), .val (.int p2)] [(.int p1), (.ref a0)])) rfl rfl (hb hby d1_30)
  have pre6 : ∀ t, Steps p.tables e below (T5.setTop (mkF m 33 #[.val (.ref a0), .val (.int p1), .val (.int p2)] [])) t → Steps p.tables e below (s₁.setTop (entryFrame m #[(.ref a0), (.int p1), (.int p2)] 3)) t := fun t kt => pre4 t (st5 _ kt)
  have Fw5 : Fld Z h5 a0 "com/example/baton/baton/core/PositionRange" "start" "I" (.int p1) := I_start.same W5
  have F7 : Exa Z h5 a0 "com/example/baton/baton/core/PositionRange" := E_a0.wr W5
  have F8 : Fld Z h5 a0 "com/example/baton/baton/core/PositionRange" "end" "I" (.int (0 : Int32)) := I_end.other W5 (Or.inr (slot_ne (Or.inr (hw _ (List.mem_of_getElem? (i := 18) rfl))) (Or.inr (hw _ (List.mem_of_getElem? (i := 16) rfl))) (by decide) (t := .int) (t' := .int) (by decide) (by decide)))
  have K5 : Keep h0 h5 [a0] := K0.wr W5 (Or.inl (List.mem_of_getElem? (i := 0) rfl))
  have N5 := Fr.snoc X5 N2 g_a0
  have Z5 : n0 ≤ h5.size := Nat.le_trans Z0 (Keep.of_wr W5).1
  have pre9 : ∀ t, Steps p.tables e below (T5.setTop (mkF m 35 #[.val (.ref a0), .val (.int p1), .val (.int p2)] [(.int p2), (.ref a0)])) t → Steps p.tables e below (s₁.setTop (entryFrame m #[(.ref a0), (.int p1), (.int p2)] 3)) t := fun t kt => pre6 t (by
    show Steps p.tables e below (T5.setTop (mkF m 33 #[.val (.ref a0), .val (.int p1), .val (.int p2)] [])) _
    refine XS.aloadN X5.here hx rfl (hb hby d1_33) rfl rfl ?_
    show Steps p.tables e below (T5.setTop (mkF m 34 #[.val (.ref a0), .val (.int p1), .val (.int p2)] [(.ref a0)])) _
    refine XS.iloadN X5.here hx rfl (hb hby d1_34) rfl ?_
    exact kt)
  obtain ⟨T10, h10, X10, e10, W10, st10⟩ := putF X5 hx hZ hown (host := "") (Or.inl (hw _ (List.mem_of_getElem? (i := 17) rfl))) Via.refl e5 F8 F7 (Or.inr ⟨(hw _ (List.mem_of_getElem? (i := 18) rfl)), rfl, hnm⟩) (hw _ (List.mem_of_getElem? (i := 2) rfl)) (ty := .int) (by decide) rfl rfl (g := (mkF m 35 #[.val (.ref a0), .val (.int p1), .val (.int p2)] [(.int p2), (.ref a0)])) rfl rfl (hb hby d1_35)
  have pre11 : ∀ t, Steps p.tables e below (T10.setTop (mkF m 38 #[.val (.ref a0), .val (.int p1), .val (.int p2)] [])) t → Steps p.tables e below (s₁.setTop (entryFrame m #[(.ref a0), (.int p1), (.int p2)] 3)) t := fun t kt => pre9 t (st10 _ kt)
  have Fw10 : Fld Z h10 a0 "com/example/baton/baton/core/PositionRange" "end" "I" (.int p2) := F8.same W10
  have F12 : Exa Z h10 a0 "com/example/baton/baton/core/PositionRange" := F7.wr W10
  have F13 : Fld Z h10 a0 "com/example/baton/baton/core/PositionRange" "start" "I" (.int p1) := Fw5.other W10 (Or.inr (slot_ne (Or.inr (hw _ (List.mem_of_getElem? (i := 16) rfl))) (Or.inr (hw _ (List.mem_of_getElem? (i := 18) rfl))) (by decide) (t := .int) (t' := .int) (by decide) (by decide)))
  have K10 : Keep h0 h10 [a0] := K5.wr W10 (Or.inl (List.mem_of_getElem? (i := 0) rfl))
  have N10 := Fr.snoc X10 N5 g_a0
  have Z10 : n0 ≤ h10.size := Nat.le_trans Z5 (Keep.of_wr W10).1
  obtain ⟨fs, hr, hrun, hended, hW, hsame⟩ := X10.leave (v := none) (fun _ => rfl)
  refine ⟨_, _, pre11 _ ?_, hrun, hended, _, _, rfl, ?_, ⟨_, rfl⟩, hW, hsame.mono (by decide) (by decide)⟩
  · show Steps p.tables e below (T10.setTop (mkF m 38 #[.val (.ref a0), .val (.int p1), .val (.int p2)] [])) _
    exact X10.returnOut hx Bd.returns (hb hby d1_38) hr
  · show Q1 Z a0 p1 p2 h0 n0 _ T10.heap _
    rw [e10]
    exact ⟨rfl, N10, K10, F12, F13, Fw10⟩
theorem d4_0 : decode prog_27_method_2_code 0 = .ok (.aload_n 0, 1) := by decide +kernel
theorem d4_1 : decode prog_27_method_2_code 1 = .ok (.getfield 18, 3) := by decide +kernel
theorem d4_4 : decode prog_27_method_2_code 4 = .ok (.iload_n 1, 1) := by decide +kernel
theorem d4_5 : decode prog_27_method_2_code 5 = .ok (.if_icmp .lt 28, 3) := by decide +kernel
theorem d4_33 : decode prog_27_method_2_code 33 = .ok (.iconst 1, 1) := by decide +kernel
theorem d4_34 : decode prog_27_method_2_code 34 = .ok (.goto 4, 3) := by decide +kernel
theorem d4_38 : decode prog_27_method_2_code 38 = .ok (.ireturn, 1) := by decide +kernel
theorem d4_8 : decode prog_27_method_2_code 8 = .ok (.aload_n 0, 1) := by decide +kernel
theorem d4_9 : decode prog_27_method_2_code 9 = .ok (.getfield 18, 3) := by decide +kernel
theorem d4_12 : decode prog_27_method_2_code 12 = .ok (.iload_n 1, 1) := by decide +kernel
theorem d4_13 : decode prog_27_method_2_code 13 = .ok (.if_icmp .ne 24, 3) := by decide +kernel
theorem d4_16 : decode prog_27_method_2_code 16 = .ok (.aload_n 0, 1) := by decide +kernel
theorem d4_17 : decode prog_27_method_2_code 17 = .ok (.getfield 24, 3) := by decide +kernel
theorem d4_20 : decode prog_27_method_2_code 20 = .ok (.iload_n 1, 1) := by decide +kernel
theorem d4_21 : decode prog_27_method_2_code 21 = .ok (.if_icmp .eq 12, 3) := by decide +kernel
theorem d4_24 : decode prog_27_method_2_code 24 = .ok (.aload_n 0, 1) := by decide +kernel
theorem d4_25 : decode prog_27_method_2_code 25 = .ok (.getfield 24, 3) := by decide +kernel
theorem d4_28 : decode prog_27_method_2_code 28 = .ok (.ldc 27, 2) := by decide +kernel
theorem d4_30 : decode prog_27_method_2_code 30 = .ok (.if_icmp .ne 7, 3) := by decide +kernel
theorem d4_37 : decode prog_27_method_2_code 37 = .ok (.iconst 0, 1) := by decide +kernel
theorem ef4 (m : MethodId) (x0 : Addr) (x1 : Int32) : entryFrame m #[(.ref x0), (.int x1)] 2 = mkF m 0 #[.val (.ref x0), .val (.int x1)] [] := by first | (simp [entryFrame, mkF, argsToLocals, Value.category]; done) | rfl
def f_in (p1 : Int32) (w_start : Int32) (w_end : Int32) : Int32 :=
  if w_start < p1 then
    (1 : Int32)
  else
    if w_start = p1 then
      if w_end = p1 then
        (1 : Int32)
      else
        if w_end = (2147483647 : Int32) then
          (1 : Int32)
        else
          (0 : Int32)
    else
      (0 : Int32)
def Q4 (Z : State) (a0 : Addr) (p1 : Int32) (w_start : Int32) (w_end : Int32) (h0 : Heap) (n0 : Nat) (v : Option Value) (h : Heap) (L : List Loc) : Prop := v = some (.int (f_in p1 w_start w_end)) ∧ Fr n0 L ∧ h = h0
set_option maxRecDepth 65536 in
set_option maxHeartbeats 40000000 in
theorem rm4 (l : Launch) (Z : State) (av : Array Value) (hw : ∀ d ∈ tables_1, d.before av Z = true) (ws : List Jvm.Cond) (a0 : Addr) (p1 : Int32) (w_start : Int32) (w_end : Int32) (h0 : Heap) (n0 : Nat) (Z0 : n0 ≤ h0.size) (F_start : Fld Z h0 a0 "com/example/baton/baton/core/PositionRange" "start" "I" (.int w_start)) (F_end : Fld Z h0 a0 "com/example/baton/baton/core/PositionRange" "end" "I" (.int w_end)) :
    MetFree l (⟨"com/example/baton/baton/core/PositionRange", "startsIn", "(I)Z"⟩ : MethodName) (head1 (Jvm.Cond.code (⟨"com/example/baton/baton/core/PositionRange", "startsIn", "(I)Z"⟩ : MethodName) prog_27_method_2_code 2 (some .boolean) :: ws) ({ frames := 0, cells := 0, slots := 0, locals := 0 } : Room)) (fun a U => a = #[(.ref a0), (.int p1)] ∧ Z.Warmed39 U.vm ∧ U.heap = h0) (fun _ _ _ _ _ => True) (fun _ U o U' => ∃ v L, o = .returned v ∧ Q4 Z a0 p1 w_start w_end h0 n0 v U'.heap L ∧ FrameEnd U o U' L ({ frames := 0, cells := 0, slots := 0, locals := 0 } : Room).cells ({ frames := 0, cells := 0, slots := 0, locals := 0 } : Room).slots) := by
  refine MetFree.of_bodySF (plainFor_of_name pn_com_example_baton_baton_core_PositionRange) hisR ?_
  intro p e s m args below meth c s₁ Bd hml0 hP hK
  obtain ⟨rfl, hZ, hh⟩ := hP
  have hx := Bd.exec
  have hby := Bd.bytes
  have hml : c.maxLocals = 2 := hml0
  have hown : s.vm.findClass "com/example/baton/baton/core/PositionRange" = some m.cls := findClass_of_methodNamed Bd.named
  have hnm := (name_of_methodNamed Bd.named Bd.method).1
  have X0 : Stand p l e ({ frames := 0, cells := 0, slots := 0, locals := 0 } : Room) s m #[(.ref a0), (.int p1)] below meth c s₁ [] 0 0 := Stand.of_body Bd
  have e0 : s₁.heap = h0 := by rw [← hh, Bd.state]; rfl
  have N0 := Fr.nil n0
  have K0 : Keep h0 h0 [] := Keep.refl h0 []
  have pre0 : ∀ t, Steps p.tables e below (s₁.setTop (mkF m 0 #[.val (.ref a0), .val (.int p1)] [])) t → Steps p.tables e below (s₁.setTop (entryFrame m #[(.ref a0), (.int p1)] 2)) t := fun t k => castTop (ef4 m a0 p1) k
  have pre1 : ∀ t, Steps p.tables e below (s₁.setTop (mkF m 1 #[.val (.ref a0), .val (.int p1)] [(.ref a0)])) t → Steps p.tables e below (s₁.setTop (entryFrame m #[(.ref a0), (.int p1)] 2)) t := fun t kt => pre0 t (by
    show Steps p.tables e below (s₁.setTop (mkF m 0 #[.val (.ref a0), .val (.int p1)] [])) _
    refine XS.aloadN X0.here hx rfl (hb hby d4_0) rfl rfl ?_
    exact kt)
  obtain ⟨T2, X2, e2, st2⟩ := getF X0 hx hZ hown (host := "") (Or.inl (hw _ (List.mem_of_getElem? (i := 15) rfl))) Via.refl e0 F_start (g := (mkF m 1 #[.val (.ref a0), .val (.int p1)] [(.ref a0)])) rfl rfl (hb hby d4_1)
  have pre3 : ∀ t, Steps p.tables e below (T2.setTop (mkF m 4 #[.val (.ref a0), .val (.int p1)] [(.int w_start)])) t → Steps p.tables e below (s₁.setTop (entryFrame m #[(.ref a0), (.int p1)] 2)) t := fun t kt => pre1 t (st2 _ kt)
  have pre4 : ∀ t, Steps p.tables e below (T2.setTop (mkF m 5 #[.val (.ref a0), .val (.int p1)] [(.int p1), (.int w_start)])) t → Steps p.tables e below (s₁.setTop (entryFrame m #[(.ref a0), (.int p1)] 2)) t := fun t kt => pre3 t (by
    show Steps p.tables e below (T2.setTop (mkF m 4 #[.val (.ref a0), .val (.int p1)] [(.int w_start)])) _
    refine XS.iloadN X2.here hx rfl (hb hby d4_4) rfl ?_
    exact kt)
  by_cases hc5_5 : w_start < p1
  · have pre6 : ∀ t, Steps p.tables e below (T2.setTop (mkF m 38 #[.val (.ref a0), .val (.int p1)] [(.int (1 : Int32))])) t → Steps p.tables e below (s₁.setTop (entryFrame m #[(.ref a0), (.int p1)] 2)) t := fun t kt => pre4 t (by
      show Steps p.tables e below (T2.setTop (mkF m 5 #[.val (.ref a0), .val (.int p1)] [(.int p1), (.int w_start)])) _
      refine XS.icmpYes X2.here hx rfl (pc0 := 5) (pc' := 33) rfl (hb hby d4_5) rfl (tlt hc5_5).1 (by decide) (by decide) ?_
      show Steps p.tables e below (T2.setTop (mkF m 33 #[.val (.ref a0), .val (.int p1)] [])) _
      refine XS.iconst X2.here hx rfl (hb hby d4_33) ?_
      show Steps p.tables e below (T2.setTop (mkF m 34 #[.val (.ref a0), .val (.int p1)] [(.int (1 : Int32))])) _
      refine XS.goto X2.here hx rfl (pc0 := 34) (pc' := 38) rfl (hb hby d4_34) (by decide) (by decide) ?_
      exact kt)
    have hv : f_in p1 w_start w_end = (1 : Int32) := by
      unfold f_in
      rw [if_pos hc5_5]
    obtain ⟨fs, hr, hrun, hended, hW, hsame⟩ := X2.leave (v := some (.int (f_in p1 w_start w_end))) (fun h => by rw [Bd.returns] at h; cases h)
    refine ⟨_, _, pre6 _ ?_, hrun, hended, _, _, rfl, ?_, ⟨_, rfl⟩, hW, hsame.mono (by decide) (by decide)⟩
    · rw [hv] at hr
      show Steps p.tables e below (T2.setTop (mkF m 38 #[.val (.ref a0), .val (.int p1)] [(.int (1 : Int32))])) _
      exact retN X2 hx (t := .boolean) Bd.returns (by simp) (hb hby d4_38) hr
    · show Q4 Z a0 p1 w_start w_end h0 n0 _ T2.heap _
      rw [e2]
      exact ⟨rfl, N0, rfl⟩
  · have pre7 : ∀ t, Steps p.tables e below (T2.setTop (mkF m 9 #[.val (.ref a0), .val (.int p1)] [(.ref a0)])) t → Steps p.tables e below (s₁.setTop (entryFrame m #[(.ref a0), (.int p1)] 2)) t := fun t kt => pre4 t (by
      show Steps p.tables e below (T2.setTop (mkF m 5 #[.val (.ref a0), .val (.int p1)] [(.int p1), (.int w_start)])) _
      refine XS.icmpNo X2.here hx rfl (hb hby d4_5) rfl (flt hc5_5).1 ?_
      show Steps p.tables e below (T2.setTop (mkF m 8 #[.val (.ref a0), .val (.int p1)] [])) _
      refine XS.aloadN X2.here hx rfl (hb hby d4_8) rfl rfl ?_
      exact kt)
    obtain ⟨T8, X8, e8, st8⟩ := getF X2 hx hZ hown (host := "") (Or.inl (hw _ (List.mem_of_getElem? (i := 15) rfl))) Via.refl e2 F_start (g := (mkF m 9 #[.val (.ref a0), .val (.int p1)] [(.ref a0)])) rfl rfl (hb hby d4_9)
    have pre9 : ∀ t, Steps p.tables e below (T8.setTop (mkF m 12 #[.val (.ref a0), .val (.int p1)] [(.int w_start)])) t → Steps p.tables e below (s₁.setTop (entryFrame m #[(.ref a0), (.int p1)] 2)) t := fun t kt => pre7 t (st8 _ kt)
    have pre10 : ∀ t, Steps p.tables e below (T8.setTop (mkF m 13 #[.val (.ref a0), .val (.int p1)] [(.int p1), (.int w_start)])) t → Steps p.tables e below (s₁.setTop (entryFrame m #[(.ref a0), (.int p1)] 2)) t := fun t kt => pre9 t (by
      show Steps p.tables e below (T8.setTop (mkF m 12 #[.val (.ref a0), .val (.int p1)] [(.int w_start)])) _
      refine XS.iloadN X8.here hx rfl (hb hby d4_12) rfl ?_
      exact kt)
    by_cases hc13_11 : w_start = p1
    · have pre12 : ∀ t, Steps p.tables e below (T8.setTop (mkF m 17 #[.val (.ref a0), .val (.int p1)] [(.ref a0)])) t → Steps p.tables e below (s₁.setTop (entryFrame m #[(.ref a0), (.int p1)] 2)) t := fun t kt => pre10 t (by
        show Steps p.tables e below (T8.setTop (mkF m 13 #[.val (.ref a0), .val (.int p1)] [(.int p1), (.int w_start)])) _
        refine XS.icmpNo X8.here hx rfl (hb hby d4_13) rfl (teq hc13_11).2 ?_
        show Steps p.tables e below (T8.setTop (mkF m 16 #[.val (.ref a0), .val (.int p1)] [])) _
        refine XS.aloadN X8.here hx rfl (hb hby d4_16) rfl rfl ?_
        exact kt)
      obtain ⟨T13, X13, e13, st13⟩ := getF X8 hx hZ hown (host := "") (Or.inl (hw _ (List.mem_of_getElem? (i := 17) rfl))) Via.refl e8 F_end (g := (mkF m 17 #[.val (.ref a0), .val (.int p1)] [(.ref a0)])) rfl rfl (hb hby d4_17)
      have pre14 : ∀ t, Steps p.tables e below (T13.setTop (mkF m 20 #[.val (.ref a0), .val (.int p1)] [(.int w_end)])) t → Steps p.tables e below (s₁.setTop (entryFrame m #[(.ref a0), (.int p1)] 2)) t := fun t kt => pre12 t (st13 _ kt)
      have pre15 : ∀ t, Steps p.tables e below (T13.setTop (mkF m 21 #[.val (.ref a0), .val (.int p1)] [(.int p1), (.int w_end)])) t → Steps p.tables e below (s₁.setTop (entryFrame m #[(.ref a0), (.int p1)] 2)) t := fun t kt => pre14 t (by
        show Steps p.tables e below (T13.setTop (mkF m 20 #[.val (.ref a0), .val (.int p1)] [(.int w_end)])) _
        refine XS.iloadN X13.here hx rfl (hb hby d4_20) rfl ?_
        exact kt)
      by_cases hc21_16 : w_end = p1
      · have pre17 : ∀ t, Steps p.tables e below (T13.setTop (mkF m 38 #[.val (.ref a0), .val (.int p1)] [(.int (1 : Int32))])) t → Steps p.tables e below (s₁.setTop (entryFrame m #[(.ref a0), (.int p1)] 2)) t := fun t kt => pre15 t (by
          show Steps p.tables e below (T13.setTop (mkF m 21 #[.val (.ref a0), .val (.int p1)] [(.int p1), (.int w_end)])) _
          refine XS.icmpYes X13.here hx rfl (pc0 := 21) (pc' := 33) rfl (hb hby d4_21) rfl (teq hc21_16).1 (by decide) (by decide) ?_
          show Steps p.tables e below (T13.setTop (mkF m 33 #[.val (.ref a0), .val (.int p1)] [])) _
          refine XS.iconst X13.here hx rfl (hb hby d4_33) ?_
          show Steps p.tables e below (T13.setTop (mkF m 34 #[.val (.ref a0), .val (.int p1)] [(.int (1 : Int32))])) _
          refine XS.goto X13.here hx rfl (pc0 := 34) (pc' := 38) rfl (hb hby d4_34) (by decide) (by decide) ?_
          exact kt)
        have hv : f_in p1 w_start w_end = (1 : Int32) := by
          unfold f_in
          rw [if_neg hc5_5, if_pos hc13_11, if_pos hc21_16]
        obtain ⟨fs, hr, hrun, hended, hW, hsame⟩ := X13.leave (v := some (.int (f_in p1 w_start w_end))) (fun h => by rw [Bd.returns] at h; cases h)
        refine ⟨_, _, pre17 _ ?_, hrun, hended, _, _, rfl, ?_, ⟨_, rfl⟩, hW, hsame.mono (by decide) (by decide)⟩
        · rw [hv] at hr
          show Steps p.tables e below (T13.setTop (mkF m 38 #[.val (.ref a0), .val (.int p1)] [(.int (1 : Int32))])) _
          exact retN X13 hx (t := .boolean) Bd.returns (by simp) (hb hby d4_38) hr
        · show Q4 Z a0 p1 w_start w_end h0 n0 _ T13.heap _
          rw [e13]
          exact ⟨rfl, N0, rfl⟩
      · have pre18 : ∀ t, Steps p.tables e below (T13.setTop (mkF m 25 #[.val (.ref a0), .val (.int p1)] [(.ref a0)])) t → Steps p.tables e below (s₁.setTop (entryFrame m #[(.ref a0), (.int p1)] 2)) t := fun t kt => pre15 t (by
          show Steps p.tables e below (T13.setTop (mkF m 21 #[.val (.ref a0), .val (.int p1)] [(.int p1), (.int w_end)])) _
          refine XS.icmpNo X13.here hx rfl (hb hby d4_21) rfl (feq hc21_16).1 ?_
          show Steps p.tables e below (T13.setTop (mkF m 24 #[.val (.ref a0), .val (.int p1)] [])) _
          refine XS.aloadN X13.here hx rfl (hb hby d4_24) rfl rfl ?_
          exact kt)
        obtain ⟨T19, X19, e19, st19⟩ := getF X13 hx hZ hown (host := "") (Or.inl (hw _ (List.mem_of_getElem? (i := 17) rfl))) Via.refl e13 F_end (g := (mkF m 25 #[.val (.ref a0), .val (.int p1)] [(.ref a0)])) rfl rfl (hb hby d4_25)
        have pre20 : ∀ t, Steps p.tables e below (T19.setTop (mkF m 28 #[.val (.ref a0), .val (.int p1)] [(.int w_end)])) t → Steps p.tables e below (s₁.setTop (entryFrame m #[(.ref a0), (.int p1)] 2)) t := fun t kt => pre18 t (st19 _ kt)
        have pre21 : ∀ t, Steps p.tables e below (T19.setTop (mkF m 30 #[.val (.ref a0), .val (.int p1)] [(.int (2147483647 : Int32)), (.int w_end)])) t → Steps p.tables e below (s₁.setTop (entryFrame m #[(.ref a0), (.int p1)] 2)) t := fun t kt => pre20 t (by
          show Steps p.tables e below (T19.setTop (mkF m 28 #[.val (.ref a0), .val (.int p1)] [(.int w_end)])) _
          refine X19.ldcInt hx hown (mvT hZ (hw _ (List.mem_of_getElem? (i := 24) rfl))) (g := (mkF m 28 #[.val (.ref a0), .val (.int p1)] [(.int w_end)])) rfl (hb hby d4_28) _ ?_
          exact kt)
        by_cases hc30_22 : w_end = (2147483647 : Int32)
        · have pre23 : ∀ t, Steps p.tables e below (T19.setTop (mkF m 38 #[.val (.ref a0), .val (.int p1)] [(.int (1 : Int32))])) t → Steps p.tables e below (s₁.setTop (entryFrame m #[(.ref a0), (.int p1)] 2)) t := fun t kt => pre21 t (by
            show Steps p.tables e below (T19.setTop (mkF m 30 #[.val (.ref a0), .val (.int p1)] [(.int (2147483647 : Int32)), (.int w_end)])) _
            refine XS.icmpNo X19.here hx rfl (hb hby d4_30) rfl (teq hc30_22).2 ?_
            show Steps p.tables e below (T19.setTop (mkF m 33 #[.val (.ref a0), .val (.int p1)] [])) _
            refine XS.iconst X19.here hx rfl (hb hby d4_33) ?_
            show Steps p.tables e below (T19.setTop (mkF m 34 #[.val (.ref a0), .val (.int p1)] [(.int (1 : Int32))])) _
            refine XS.goto X19.here hx rfl (pc0 := 34) (pc' := 38) rfl (hb hby d4_34) (by decide) (by decide) ?_
            exact kt)
          have hv : f_in p1 w_start w_end = (1 : Int32) := by
            unfold f_in
            rw [if_neg hc5_5, if_pos hc13_11, if_neg hc21_16, if_pos hc30_22]
          obtain ⟨fs, hr, hrun, hended, hW, hsame⟩ := X19.leave (v := some (.int (f_in p1 w_start w_end))) (fun h => by rw [Bd.returns] at h; cases h)
          refine ⟨_, _, pre23 _ ?_, hrun, hended, _, _, rfl, ?_, ⟨_, rfl⟩, hW, hsame.mono (by decide) (by decide)⟩
          · rw [hv] at hr
            show Steps p.tables e below (T19.setTop (mkF m 38 #[.val (.ref a0), .val (.int p1)] [(.int (1 : Int32))])) _
            exact retN X19 hx (t := .boolean) Bd.returns (by simp) (hb hby d4_38) hr
          · show Q4 Z a0 p1 w_start w_end h0 n0 _ T19.heap _
            rw [e19]
            exact ⟨rfl, N0, rfl⟩
        · have pre24 : ∀ t, Steps p.tables e below (T19.setTop (mkF m 38 #[.val (.ref a0), .val (.int p1)] [(.int (0 : Int32))])) t → Steps p.tables e below (s₁.setTop (entryFrame m #[(.ref a0), (.int p1)] 2)) t := fun t kt => pre21 t (by
            show Steps p.tables e below (T19.setTop (mkF m 30 #[.val (.ref a0), .val (.int p1)] [(.int (2147483647 : Int32)), (.int w_end)])) _
            refine XS.icmpYes X19.here hx rfl (pc0 := 30) (pc' := 37) rfl (hb hby d4_30) rfl (feq hc30_22).2 (by decide) (by decide) ?_
            show Steps p.tables e below (T19.setTop (mkF m 37 #[.val (.ref a0), .val (.int p1)] [])) _
            refine XS.iconst X19.here hx rfl (hb hby d4_37) ?_
            exact kt)
          have hv : f_in p1 w_start w_end = (0 : Int32) := by
            unfold f_in
            rw [if_neg hc5_5, if_pos hc13_11, if_neg hc21_16, if_neg hc30_22]
          obtain ⟨fs, hr, hrun, hended, hW, hsame⟩ := X19.leave (v := some (.int (f_in p1 w_start w_end))) (fun h => by rw [Bd.returns] at h; cases h)
          refine ⟨_, _, pre24 _ ?_, hrun, hended, _, _, rfl, ?_, ⟨_, rfl⟩, hW, hsame.mono (by decide) (by decide)⟩
          · rw [hv] at hr
            show Steps p.tables e below (T19.setTop (mkF m 38 #[.val (.ref a0), .val (.int p1)] [(.int (0 : Int32))])) _
            exact retN X19 hx (t := .boolean) Bd.returns (by simp) (hb hby d4_38) hr
          · show Q4 Z a0 p1 w_start w_end h0 n0 _ T19.heap _
            rw [e19]
            exact ⟨rfl, N0, rfl⟩
    · have pre25 : ∀ t, Steps p.tables e below (T8.setTop (mkF m 38 #[.val (.ref a0), .val (.int p1)] [(.int (0 : Int32))])) t → Steps p.tables e below (s₁.setTop (entryFrame m #[(.ref a0), (.int p1)] 2)) t := fun t kt => pre10 t (by
        show Steps p.tables e below (T8.setTop (mkF m 13 #[.val (.ref a0), .val (.int p1)] [(.int p1), (.int w_start)])) _
        refine XS.icmpYes X8.here hx rfl (pc0 := 13) (pc' := 37) rfl (hb hby d4_13) rfl (feq hc13_11).2 (by decide) (by decide) ?_
        show Steps p.tables e below (T8.setTop (mkF m 37 #[.val (.ref a0), .val (.int p1)] [])) _
        refine XS.iconst X8.here hx rfl (hb hby d4_37) ?_
        exact kt)
      have hv : f_in p1 w_start w_end = (0 : Int32) := by
        unfold f_in
        rw [if_neg hc5_5, if_neg hc13_11]
      obtain ⟨fs, hr, hrun, hended, hW, hsame⟩ := X8.leave (v := some (.int (f_in p1 w_start w_end))) (fun h => by rw [Bd.returns] at h; cases h)
      refine ⟨_, _, pre25 _ ?_, hrun, hended, _, _, rfl, ?_, ⟨_, rfl⟩, hW, hsame.mono (by decide) (by decide)⟩
      · rw [hv] at hr
        show Steps p.tables e below (T8.setTop (mkF m 38 #[.val (.ref a0), .val (.int p1)] [(.int (0 : Int32))])) _
        exact retN X8 hx (t := .boolean) Bd.returns (by simp) (hb hby d4_38) hr
      · show Q4 Z a0 p1 w_start w_end h0 n0 _ T8.heap _
        rw [e8]
        exact ⟨rfl, N0, rfl⟩
theorem own_in (n s e : Int32) : f_in n s e = if s.toInt < n.toInt then (1 : Int32) else if s.toInt = n.toInt ∧ (e.toInt = n.toInt ∨ e.toInt = 2147483647) then (1 : Int32) else (0 : Int32) := by
  unfold f_in
  simp only [← Int32.toInt_inj, Int32.lt_iff_toInt_lt, Int32.reduceToInt]
  repeat' split
  all_goals first | rfl | (exfalso; omega)
theorem own_nn (x : Int32) : 0 ≤ (x &&& (2147483647 : Int32)).toInt := by
  have := c_mask x (2147483647 : Int32) 31 (by decide) (by decide)
  omega
theorem own_room (s : Int32) (h : 0 ≤ s.toInt) : ((((2147483647 : Int32).toInt64) - (s.toInt64)) + (1 : Int64)).toInt = 2147483647 - s.toInt + 1 := by
  have r := rng32 s
  have e1 := c_lsub ((2147483647 : Int32).toInt64) s.toInt64
  have r1 := rng64 (((2147483647 : Int32).toInt64) - s.toInt64)
  have e2 := c_ladd (((2147483647 : Int32).toInt64) - s.toInt64) (1 : Int64)
  have r2 := rng64 ((((2147483647 : Int32).toInt64) - s.toInt64) + (1 : Int64))
  have e3 := c_i2l s
  have e4 := c_i2l (2147483647 : Int32)
  simp only [Int64.reduceToInt, Int32.reduceToInt] at *
  omega
theorem own_rnz (s : Int32) (h : 0 ≤ s.toInt) : ((((2147483647 : Int32).toInt64) - (s.toInt64)) + (1 : Int64)) ≠ 0 := by
  intro q
  have e := own_room s h
  have r := rng32 s
  rw [q] at e
  simp only [Int64.reduceToInt] at e
  omega
theorem own_e (s b : Int32) (R : Int64) (h : 0 ≤ s.toInt) (hR : R.toInt = 2147483647 - s.toInt + 1) : s.toInt ≤ (((s.toInt64) + (((b &&& (2147483647 : Int32)).toInt64) % R)).toInt32).toInt := by
  have hb := own_nn b
  have rs := rng32 s
  have e1 := c_i2l (b &&& (2147483647 : Int32))
  have e2 := (c_lrem ((b &&& (2147483647 : Int32)).toInt64) R R.toInt rfl).1 (by omega)
  rw [lrem_mod] at e2
  have hp : 0 < R.toInt := by omega
  have m1 := Int.emod_nonneg ((b &&& (2147483647 : Int32)).toInt64).toInt (Int.ne_of_gt hp)
  have m2 := Int.emod_lt_of_pos ((b &&& (2147483647 : Int32)).toInt64).toInt hp
  rw [← e2] at m1 m2
  generalize (((b &&& (2147483647 : Int32)).toInt64) % R) = o at *
  have e3 := c_i2l s
  have e4 := c_ladd s.toInt64 o
  have r4 := rng64 (s.toInt64 + o)
  have e5 := c_l2i (s.toInt64 + o)
  have r5 := rng32 (s.toInt64 + o).toInt32
  omega
theorem own_d (n s : Int32) : ((n.toInt64) - (s.toInt64)).toInt = n.toInt - s.toInt := by
  have r1 := rng32 n
  have r2 := rng32 s
  have e1 := c_i2l n
  have e2 := c_i2l s
  have e3 := c_lsub n.toInt64 s.toInt64
  have r3 := rng64 (n.toInt64 - s.toInt64)
  omega
theorem own_lt0 {s : Int32} (h : 0 ≤ s.toInt) : ¬ (s < (0 : Int32)) := by
  simp only [Int32.lt_iff_toInt_lt, Int32.reduceToInt]; omega
theorem own_lt1 {s e : Int32} (h : s.toInt ≤ e.toInt) : ¬ (e < s) := by
  simp only [Int32.lt_iff_toInt_lt]; omega
theorem pd__II_V : parseMethodDescriptor "(II)V" = some ⟨[.int, .int], none⟩ := by decide +kernel
theorem pd__I_Z : parseMethodDescriptor "(I)Z" = some ⟨[.int], some .boolean⟩ := by decide +kernel
theorem ef0 (m : MethodId) (x0 : Int32) (x1 : Int32) (x2 : Int32) (x3 : Int32) : entryFrame m #[(.int x0), (.int x1), (.int x2), (.int x3)] maxLocals = mkF m 0 #[.val (.int x0), .val (.int x1), .val (.int x2), .val (.int x3), .unset, .unset, .unset, .unset, .unset, .unset, .unset, .unset, .unset, .unset, .unset] [] := by first | (simp [entryFrame, mkF, argsToLocals, Value.category, maxLocals]; done) | rfl
def Q0 (Z : State) (p0 : Int32) (p1 : Int32) (p2 : Int32) (p3 : Int32) (h0 : Heap) (n0 : Nat) (v : Option Value) (h : Heap) (L : List Loc) : Prop := v = some (.int 1) ∧ Fr n0 L
set_option maxRecDepth 65536 in
set_option maxHeartbeats 40000000 in
theorem rm0 (l : Launch) (Z : State) (av : Array Value) (hw : ∀ d ∈ tables_1, d.before av Z = true) (ws : List Jvm.Cond) (p0 : Int32) (p1 : Int32) (p2 : Int32) (p3 : Int32) (h0 : Heap) (n0 : Nat) (Z0 : n0 ≤ h0.size) :
    MetFree l x (head1 (Jvm.Cond.code x code maxLocals ret :: ws) room_1) (fun a U => a = #[(.int p0), (.int p1), (.int p2), (.int p3)] ∧ Z.Warmed39 U.vm ∧ U.heap = h0) (fun _ _ _ _ _ => True) (fun _ U o U' => ∃ v L, o = .returned v ∧ Q0 Z p0 p1 p2 p3 h0 n0 v U'.heap L ∧ FrameEnd U o U' L room_1.cells room_1.slots) := by
  refine MetFree.of_bodySF (plainFor_of_name pn_com_example_baton_baton_core_PositionRangeStartsInPinLaw) hisR ?_
  intro p e s m args below meth c s₁ Bd hml0 hP hK
  obtain ⟨rfl, hZ, hh⟩ := hP
  have hx := Bd.exec
  have hby := Bd.bytes
  have hml : c.maxLocals = 15 := hml0
  have hown : s.vm.findClass "com/example/baton/baton/core/PositionRangeStartsInPinLaw" = some m.cls := findClass_of_methodNamed Bd.named
  have hnm := (name_of_methodNamed Bd.named Bd.method).1
  have X0 : Stand p l e room_1 s m #[(.int p0), (.int p1), (.int p2), (.int p3)] below meth c s₁ [] 0 0 := Stand.of_body Bd
  have e0 : s₁.heap = h0 := by rw [← hh, Bd.state]; rfl
  have N0 := Fr.nil n0
  have K0 : Keep h0 h0 [] := Keep.refl h0 []
  have pre0 : ∀ t, Steps p.tables e below (s₁.setTop (mkF m 0 #[.val (.int p0), .val (.int p1), .val (.int p2), .val (.int p3), .unset, .unset, .unset, .unset, .unset, .unset, .unset, .unset, .unset, .unset, .unset] [])) t → Steps p.tables e below (s₁.setTop (entryFrame m #[(.int p0), (.int p1), (.int p2), (.int p3)] maxLocals)) t := fun t k => castTop (ef0 m p0 p1 p2 p3) k
  have pre1 : ∀ t, Steps p.tables e below (s₁.setTop (mkF m 10 #[.val (.int p0), .val (.int p1), .val (.int p2), .val (.int p3), .val (.int (2147483647 : Int32)), .val (.int (p0 &&& (2147483647 : Int32))), .unset, .unset, .unset, .unset, .unset, .unset, .unset, .unset, .unset] [])) t → Steps p.tables e below (s₁.setTop (entryFrame m #[(.int p0), (.int p1), (.int p2), (.int p3)] maxLocals)) t := fun t kt => pre0 t (by
    show Steps p.tables e below (s₁.setTop (mkF m 0 #[.val (.int p0), .val (.int p1), .val (.int p2), .val (.int p3), .unset, .unset, .unset, .unset, .unset, .unset, .unset, .unset, .unset, .unset, .unset] [])) _
    refine X0.ldcInt hx hown (mvT hZ (hw _ (List.mem_of_getElem? (i := 0) rfl))) (g := (mkF m 0 #[.val (.int p0), .val (.int p1), .val (.int p2), .val (.int p3), .unset, .unset, .unset, .unset, .unset, .unset, .unset, .unset, .unset, .unset, .unset] [])) rfl (hb hby at_0) _ ?_
    show Steps p.tables e below (s₁.setTop (mkF m 2 #[.val (.int p0), .val (.int p1), .val (.int p2), .val (.int p3), .unset, .unset, .unset, .unset, .unset, .unset, .unset, .unset, .unset, .unset, .unset] [(.int (2147483647 : Int32))])) _
    refine XS.istore X0.here hx rfl (hb hby at_2) rfl (l' := #[.val (.int p0), .val (.int p1), .val (.int p2), .val (.int p3), .val (.int (2147483647 : Int32)), .unset, .unset, .unset, .unset, .unset, .unset, .unset, .unset, .unset, .unset]) rfl ?_
    show Steps p.tables e below (s₁.setTop (mkF m 4 #[.val (.int p0), .val (.int p1), .val (.int p2), .val (.int p3), .val (.int (2147483647 : Int32)), .unset, .unset, .unset, .unset, .unset, .unset, .unset, .unset, .unset, .unset] [])) _
    refine XS.iloadN X0.here hx rfl (hb hby at_4) rfl ?_
    show Steps p.tables e below (s₁.setTop (mkF m 5 #[.val (.int p0), .val (.int p1), .val (.int p2), .val (.int p3), .val (.int (2147483647 : Int32)), .unset, .unset, .unset, .unset, .unset, .unset, .unset, .unset, .unset, .unset] [(.int p0)])) _
    refine X0.ldcInt hx hown (mvT hZ (hw _ (List.mem_of_getElem? (i := 0) rfl))) (g := (mkF m 5 #[.val (.int p0), .val (.int p1), .val (.int p2), .val (.int p3), .val (.int (2147483647 : Int32)), .unset, .unset, .unset, .unset, .unset, .unset, .unset, .unset, .unset, .unset] [(.int p0)])) rfl (hb hby at_5) _ ?_
    show Steps p.tables e below (s₁.setTop (mkF m 7 #[.val (.int p0), .val (.int p1), .val (.int p2), .val (.int p3), .val (.int (2147483647 : Int32)), .unset, .unset, .unset, .unset, .unset, .unset, .unset, .unset, .unset, .unset] [(.int (2147483647 : Int32)), (.int p0)])) _
    refine XS.iand X0.here hx rfl (hb hby at_7) rfl ?_
    show Steps p.tables e below (s₁.setTop (mkF m 8 #[.val (.int p0), .val (.int p1), .val (.int p2), .val (.int p3), .val (.int (2147483647 : Int32)), .unset, .unset, .unset, .unset, .unset, .unset, .unset, .unset, .unset, .unset] [(.int (p0 &&& (2147483647 : Int32)))])) _
    refine XS.istore X0.here hx rfl (hb hby at_8) rfl (l' := #[.val (.int p0), .val (.int p1), .val (.int p2), .val (.int p3), .val (.int (2147483647 : Int32)), .val (.int (p0 &&& (2147483647 : Int32))), .unset, .unset, .unset, .unset, .unset, .unset, .unset, .unset, .unset]) rfl ?_
    exact kt)
  obtain ⟨vs, hm2, pre2⟩ : ∃ (vs : Int32), (0 ≤ vs.toInt) ∧ ∀ t, Steps p.tables e below (s₁.setTop (mkF m 10 #[.val (.int p0), .val (.int p1), .val (.int p2), .val (.int p3), .val (.int (2147483647 : Int32)), .val (.int vs), .unset, .unset, .unset, .unset, .unset, .unset, .unset, .unset, .unset] [])) t → Steps p.tables e below (s₁.setTop (entryFrame m #[(.int p0), (.int p1), (.int p2), (.int p3)] maxLocals)) t := ⟨(p0 &&& (2147483647 : Int32)), own_nn p0, pre1⟩
  have pre3 : ∀ t, Steps p.tables e below (s₁.setTop (mkF m 15 #[.val (.int p0), .val (.int p1), .val (.int p2), .val (.int p3), .val (.int (2147483647 : Int32)), .val (.int vs), .val (.int (p3 &&& (3 : Int32))), .unset, .unset, .unset, .unset, .unset, .unset, .unset, .unset] [])) t → Steps p.tables e below (s₁.setTop (entryFrame m #[(.int p0), (.int p1), (.int p2), (.int p3)] maxLocals)) t := fun t kt => pre2 t (by
    show Steps p.tables e below (s₁.setTop (mkF m 10 #[.val (.int p0), .val (.int p1), .val (.int p2), .val (.int p3), .val (.int (2147483647 : Int32)), .val (.int vs), .unset, .unset, .unset, .unset, .unset, .unset, .unset, .unset, .unset] [])) _
    refine XS.iloadN X0.here hx rfl (hb hby at_10) rfl ?_
    show Steps p.tables e below (s₁.setTop (mkF m 11 #[.val (.int p0), .val (.int p1), .val (.int p2), .val (.int p3), .val (.int (2147483647 : Int32)), .val (.int vs), .unset, .unset, .unset, .unset, .unset, .unset, .unset, .unset, .unset] [(.int p3)])) _
    refine XS.iconst X0.here hx rfl (hb hby at_11) ?_
    show Steps p.tables e below (s₁.setTop (mkF m 12 #[.val (.int p0), .val (.int p1), .val (.int p2), .val (.int p3), .val (.int (2147483647 : Int32)), .val (.int vs), .unset, .unset, .unset, .unset, .unset, .unset, .unset, .unset, .unset] [(.int (3 : Int32)), (.int p3)])) _
    refine XS.iand X0.here hx rfl (hb hby at_12) rfl ?_
    show Steps p.tables e below (s₁.setTop (mkF m 13 #[.val (.int p0), .val (.int p1), .val (.int p2), .val (.int p3), .val (.int (2147483647 : Int32)), .val (.int vs), .unset, .unset, .unset, .unset, .unset, .unset, .unset, .unset, .unset] [(.int (p3 &&& (3 : Int32)))])) _
    refine XS.istore X0.here hx rfl (hb hby at_13) rfl (l' := #[.val (.int p0), .val (.int p1), .val (.int p2), .val (.int p3), .val (.int (2147483647 : Int32)), .val (.int vs), .val (.int (p3 &&& (3 : Int32))), .unset, .unset, .unset, .unset, .unset, .unset, .unset, .unset]) rfl ?_
    exact kt)
  obtain ⟨em, hm4, pre4⟩ : ∃ (em : Int32), (True) ∧ ∀ t, Steps p.tables e below (s₁.setTop (mkF m 15 #[.val (.int p0), .val (.int p1), .val (.int p2), .val (.int p3), .val (.int (2147483647 : Int32)), .val (.int vs), .val (.int em), .unset, .unset, .unset, .unset, .unset, .unset, .unset, .unset] [])) t → Steps p.tables e below (s₁.setTop (entryFrame m #[(.int p0), (.int p1), (.int p2), (.int p3)] maxLocals)) t := ⟨(p3 &&& (3 : Int32)), trivial, pre3⟩
  have pre5 : ∀ t, Steps p.tables e below (s₁.setTop (mkF m 17 #[.val (.int p0), .val (.int p1), .val (.int p2), .val (.int p3), .val (.int (2147483647 : Int32)), .val (.int vs), .val (.int em), .unset, .unset, .unset, .unset, .unset, .unset, .unset, .unset] [(.int em)])) t → Steps p.tables e below (s₁.setTop (entryFrame m #[(.int p0), (.int p1), (.int p2), (.int p3)] maxLocals)) t := fun t kt => pre4 t (by
    show Steps p.tables e below (s₁.setTop (mkF m 15 #[.val (.int p0), .val (.int p1), .val (.int p2), .val (.int p3), .val (.int (2147483647 : Int32)), .val (.int vs), .val (.int em), .unset, .unset, .unset, .unset, .unset, .unset, .unset, .unset] [])) _
    refine XS.iload X0.here hx rfl (hb hby at_15) rfl ?_
    exact kt)
  by_cases hc17_6 : em = (0 : Int32)
  · have pre7 : ∀ t, Steps p.tables e below (s₁.setTop (mkF m 70 #[.val (.int p0), .val (.int p1), .val (.int p2), .val (.int p3), .val (.int (2147483647 : Int32)), .val (.int vs), .val (.int em), .val (.int vs), .unset, .unset, .unset, .unset, .unset, .unset, .unset] [])) t → Steps p.tables e below (s₁.setTop (entryFrame m #[(.int p0), (.int p1), (.int p2), (.int p3)] maxLocals)) t := fun t kt => pre5 t (by
      show Steps p.tables e below (s₁.setTop (mkF m 17 #[.val (.int p0), .val (.int p1), .val (.int p2), .val (.int p3), .val (.int (2147483647 : Int32)), .val (.int vs), .val (.int em), .unset, .unset, .unset, .unset, .unset, .unset, .unset, .unset] [(.int em)])) _
      refine XS.ifNo X0.here hx rfl (hb hby at_17) rfl ((if0 _ _).trans (teq hc17_6).2) ?_
      show Steps p.tables e below (s₁.setTop (mkF m 20 #[.val (.int p0), .val (.int p1), .val (.int p2), .val (.int p3), .val (.int (2147483647 : Int32)), .val (.int vs), .val (.int em), .unset, .unset, .unset, .unset, .unset, .unset, .unset, .unset] [])) _
      refine XS.iload X0.here hx rfl (hb hby at_20) rfl ?_
      show Steps p.tables e below (s₁.setTop (mkF m 22 #[.val (.int p0), .val (.int p1), .val (.int p2), .val (.int p3), .val (.int (2147483647 : Int32)), .val (.int vs), .val (.int em), .unset, .unset, .unset, .unset, .unset, .unset, .unset, .unset] [(.int vs)])) _
      refine XS.istore X0.here hx rfl (hb hby at_22) rfl (l' := #[.val (.int p0), .val (.int p1), .val (.int p2), .val (.int p3), .val (.int (2147483647 : Int32)), .val (.int vs), .val (.int em), .val (.int vs), .unset, .unset, .unset, .unset, .unset, .unset, .unset]) rfl ?_
      show Steps p.tables e below (s₁.setTop (mkF m 24 #[.val (.int p0), .val (.int p1), .val (.int p2), .val (.int p3), .val (.int (2147483647 : Int32)), .val (.int vs), .val (.int em), .val (.int vs), .unset, .unset, .unset, .unset, .unset, .unset, .unset] [])) _
      refine XS.goto X0.here hx rfl (pc0 := 24) (pc' := 70) rfl (hb hby at_24) (by decide) (by decide) ?_
      exact kt)
    obtain ⟨ve, hm8, pre8⟩ : ∃ (ve : Int32), (vs.toInt ≤ ve.toInt) ∧ ∀ t, Steps p.tables e below (s₁.setTop (mkF m 70 #[.val (.int p0), .val (.int p1), .val (.int p2), .val (.int p3), .val (.int (2147483647 : Int32)), .val (.int vs), .val (.int em), .val (.int ve), .unset, .unset, .unset, .unset, .unset, .unset, .unset] [])) t → Steps p.tables e below (s₁.setTop (entryFrame m #[(.int p0), (.int p1), (.int p2), (.int p3)] maxLocals)) t := ⟨vs, Int.le_refl _, pre7⟩
    have pre9 : ∀ t, Steps p.tables e below (s₁.setTop (mkF m 77 #[.val (.int p0), .val (.int p1), .val (.int p2), .val (.int p3), .val (.int (2147483647 : Int32)), .val (.int vs), .val (.int em), .val (.int ve), .val (.int (((p3.toUInt32 >>> ((2 : Int32) &&& 31).toUInt32).toInt32) &&& (3 : Int32))), .unset, .unset, .unset, .unset, .unset, .unset] [])) t → Steps p.tables e below (s₁.setTop (entryFrame m #[(.int p0), (.int p1), (.int p2), (.int p3)] maxLocals)) t := fun t kt => pre8 t (by
      show Steps p.tables e below (s₁.setTop (mkF m 70 #[.val (.int p0), .val (.int p1), .val (.int p2), .val (.int p3), .val (.int (2147483647 : Int32)), .val (.int vs), .val (.int em), .val (.int ve), .unset, .unset, .unset, .unset, .unset, .unset, .unset] [])) _
      refine XS.iloadN X0.here hx rfl (hb hby at_70) rfl ?_
      show Steps p.tables e below (s₁.setTop (mkF m 71 #[.val (.int p0), .val (.int p1), .val (.int p2), .val (.int p3), .val (.int (2147483647 : Int32)), .val (.int vs), .val (.int em), .val (.int ve), .unset, .unset, .unset, .unset, .unset, .unset, .unset] [(.int p3)])) _
      refine XS.iconst X0.here hx rfl (hb hby at_71) ?_
      show Steps p.tables e below (s₁.setTop (mkF m 72 #[.val (.int p0), .val (.int p1), .val (.int p2), .val (.int p3), .val (.int (2147483647 : Int32)), .val (.int vs), .val (.int em), .val (.int ve), .unset, .unset, .unset, .unset, .unset, .unset, .unset] [(.int (2 : Int32)), (.int p3)])) _
      refine XS.iushr X0.here hx rfl (hb hby at_72) rfl ?_
      show Steps p.tables e below (s₁.setTop (mkF m 73 #[.val (.int p0), .val (.int p1), .val (.int p2), .val (.int p3), .val (.int (2147483647 : Int32)), .val (.int vs), .val (.int em), .val (.int ve), .unset, .unset, .unset, .unset, .unset, .unset, .unset] [(.int ((p3.toUInt32 >>> ((2 : Int32) &&& 31).toUInt32).toInt32))])) _
      refine XS.iconst X0.here hx rfl (hb hby at_73) ?_
      show Steps p.tables e below (s₁.setTop (mkF m 74 #[.val (.int p0), .val (.int p1), .val (.int p2), .val (.int p3), .val (.int (2147483647 : Int32)), .val (.int vs), .val (.int em), .val (.int ve), .unset, .unset, .unset, .unset, .unset, .unset, .unset] [(.int (3 : Int32)), (.int ((p3.toUInt32 >>> ((2 : Int32) &&& 31).toUInt32).toInt32))])) _
      refine XS.iand X0.here hx rfl (hb hby at_74) rfl ?_
      show Steps p.tables e below (s₁.setTop (mkF m 75 #[.val (.int p0), .val (.int p1), .val (.int p2), .val (.int p3), .val (.int (2147483647 : Int32)), .val (.int vs), .val (.int em), .val (.int ve), .unset, .unset, .unset, .unset, .unset, .unset, .unset] [(.int (((p3.toUInt32 >>> ((2 : Int32) &&& 31).toUInt32).toInt32) &&& (3 : Int32)))])) _
      refine XS.istore X0.here hx rfl (hb hby at_75) rfl (l' := #[.val (.int p0), .val (.int p1), .val (.int p2), .val (.int p3), .val (.int (2147483647 : Int32)), .val (.int vs), .val (.int em), .val (.int ve), .val (.int (((p3.toUInt32 >>> ((2 : Int32) &&& 31).toUInt32).toInt32) &&& (3 : Int32))), .unset, .unset, .unset, .unset, .unset, .unset]) rfl ?_
      exact kt)
    obtain ⟨lm, hm10, pre10⟩ : ∃ (lm : Int32), (True) ∧ ∀ t, Steps p.tables e below (s₁.setTop (mkF m 77 #[.val (.int p0), .val (.int p1), .val (.int p2), .val (.int p3), .val (.int (2147483647 : Int32)), .val (.int vs), .val (.int em), .val (.int ve), .val (.int lm), .unset, .unset, .unset, .unset, .unset, .unset] [])) t → Steps p.tables e below (s₁.setTop (entryFrame m #[(.int p0), (.int p1), (.int p2), (.int p3)] maxLocals)) t := ⟨(((p3.toUInt32 >>> ((2 : Int32) &&& 31).toUInt32).toInt32) &&& (3 : Int32)), trivial, pre9⟩
    obtain ⟨vn, hm11, pre11⟩ : ∃ (vn : Int32), (True) ∧ ∀ t, Steps p.tables e below (s₁.setTop (mkF m 122 #[.val (.int p0), .val (.int p1), .val (.int p2), .val (.int p3), .val (.int (2147483647 : Int32)), .val (.int vs), .val (.int em), .val (.int ve), .val (.int lm), .val (.int vn), .unset, .unset, .unset, .unset, .unset] [])) t → Steps p.tables e below (s₁.setTop (entryFrame m #[(.int p0), (.int p1), (.int p2), (.int p3)] maxLocals)) t := by
      have pre12 : ∀ t, Steps p.tables e below (s₁.setTop (mkF m 79 #[.val (.int p0), .val (.int p1), .val (.int p2), .val (.int p3), .val (.int (2147483647 : Int32)), .val (.int vs), .val (.int em), .val (.int ve), .val (.int lm), .unset, .unset, .unset, .unset, .unset, .unset] [(.int lm)])) t → Steps p.tables e below (s₁.setTop (entryFrame m #[(.int p0), (.int p1), (.int p2), (.int p3)] maxLocals)) t := fun t kt => pre10 t (by
        show Steps p.tables e below (s₁.setTop (mkF m 77 #[.val (.int p0), .val (.int p1), .val (.int p2), .val (.int p3), .val (.int (2147483647 : Int32)), .val (.int vs), .val (.int em), .val (.int ve), .val (.int lm), .unset, .unset, .unset, .unset, .unset, .unset] [])) _
        refine XS.iload X0.here hx rfl (hb hby at_77) rfl ?_
        exact kt)
      by_cases hc79_13 : lm = (0 : Int32)
      · have pre14 : ∀ t, Steps p.tables e below (s₁.setTop (mkF m 122 #[.val (.int p0), .val (.int p1), .val (.int p2), .val (.int p3), .val (.int (2147483647 : Int32)), .val (.int vs), .val (.int em), .val (.int ve), .val (.int lm), .val (.int p2), .unset, .unset, .unset, .unset, .unset] [])) t → Steps p.tables e below (s₁.setTop (entryFrame m #[(.int p0), (.int p1), (.int p2), (.int p3)] maxLocals)) t := fun t kt => pre12 t (by
          show Steps p.tables e below (s₁.setTop (mkF m 79 #[.val (.int p0), .val (.int p1), .val (.int p2), .val (.int p3), .val (.int (2147483647 : Int32)), .val (.int vs), .val (.int em), .val (.int ve), .val (.int lm), .unset, .unset, .unset, .unset, .unset, .unset] [(.int lm)])) _
          refine XS.ifNo X0.here hx rfl (hb hby at_79) rfl ((if0 _ _).trans (teq hc79_13).2) ?_
          show Steps p.tables e below (s₁.setTop (mkF m 82 #[.val (.int p0), .val (.int p1), .val (.int p2), .val (.int p3), .val (.int (2147483647 : Int32)), .val (.int vs), .val (.int em), .val (.int ve), .val (.int lm), .unset, .unset, .unset, .unset, .unset, .unset] [])) _
          refine XS.iloadN X0.here hx rfl (hb hby at_82) rfl ?_
          show Steps p.tables e below (s₁.setTop (mkF m 83 #[.val (.int p0), .val (.int p1), .val (.int p2), .val (.int p3), .val (.int (2147483647 : Int32)), .val (.int vs), .val (.int em), .val (.int ve), .val (.int lm), .unset, .unset, .unset, .unset, .unset, .unset] [(.int p2)])) _
          refine XS.istore X0.here hx rfl (hb hby at_83) rfl (l' := #[.val (.int p0), .val (.int p1), .val (.int p2), .val (.int p3), .val (.int (2147483647 : Int32)), .val (.int vs), .val (.int em), .val (.int ve), .val (.int lm), .val (.int p2), .unset, .unset, .unset, .unset, .unset]) rfl ?_
          show Steps p.tables e below (s₁.setTop (mkF m 85 #[.val (.int p0), .val (.int p1), .val (.int p2), .val (.int p3), .val (.int (2147483647 : Int32)), .val (.int vs), .val (.int em), .val (.int ve), .val (.int lm), .val (.int p2), .unset, .unset, .unset, .unset, .unset] [])) _
          refine XS.goto X0.here hx rfl (pc0 := 85) (pc' := 122) rfl (hb hby at_85) (by decide) (by decide) ?_
          exact kt)
        exact ⟨p2, trivial, pre14⟩
      · have pre15 : ∀ t, Steps p.tables e below (s₁.setTop (mkF m 91 #[.val (.int p0), .val (.int p1), .val (.int p2), .val (.int p3), .val (.int (2147483647 : Int32)), .val (.int vs), .val (.int em), .val (.int ve), .val (.int lm), .unset, .unset, .unset, .unset, .unset, .unset] [(.int (1 : Int32)), (.int lm)])) t → Steps p.tables e below (s₁.setTop (entryFrame m #[(.int p0), (.int p1), (.int p2), (.int p3)] maxLocals)) t := fun t kt => pre12 t (by
          show Steps p.tables e below (s₁.setTop (mkF m 79 #[.val (.int p0), .val (.int p1), .val (.int p2), .val (.int p3), .val (.int (2147483647 : Int32)), .val (.int vs), .val (.int em), .val (.int ve), .val (.int lm), .unset, .unset, .unset, .unset, .unset, .unset] [(.int lm)])) _
          refine XS.ifYes X0.here hx rfl (pc0 := 79) (pc' := 88) rfl (hb hby at_79) rfl ((if0 _ _).trans (feq hc79_13).2) (by decide) (by decide) ?_
          show Steps p.tables e below (s₁.setTop (mkF m 88 #[.val (.int p0), .val (.int p1), .val (.int p2), .val (.int p3), .val (.int (2147483647 : Int32)), .val (.int vs), .val (.int em), .val (.int ve), .val (.int lm), .unset, .unset, .unset, .unset, .unset, .unset] [])) _
          refine XS.iload X0.here hx rfl (hb hby at_88) rfl ?_
          show Steps p.tables e below (s₁.setTop (mkF m 90 #[.val (.int p0), .val (.int p1), .val (.int p2), .val (.int p3), .val (.int (2147483647 : Int32)), .val (.int vs), .val (.int em), .val (.int ve), .val (.int lm), .unset, .unset, .unset, .unset, .unset, .unset] [(.int lm)])) _
          refine XS.iconst X0.here hx rfl (hb hby at_90) ?_
          exact kt)
        by_cases hc91_16 : lm = (1 : Int32)
        · have pre17 : ∀ t, Steps p.tables e below (s₁.setTop (mkF m 122 #[.val (.int p0), .val (.int p1), .val (.int p2), .val (.int p3), .val (.int (2147483647 : Int32)), .val (.int vs), .val (.int em), .val (.int ve), .val (.int lm), .val (.int vs), .unset, .unset, .unset, .unset, .unset] [])) t → Steps p.tables e below (s₁.setTop (entryFrame m #[(.int p0), (.int p1), (.int p2), (.int p3)] maxLocals)) t := fun t kt => pre15 t (by
            show Steps p.tables e below (s₁.setTop (mkF m 91 #[.val (.int p0), .val (.int p1), .val (.int p2), .val (.int p3), .val (.int (2147483647 : Int32)), .val (.int vs), .val (.int em), .val (.int ve), .val (.int lm), .unset, .unset, .unset, .unset, .unset, .unset] [(.int (1 : Int32)), (.int lm)])) _
            refine XS.icmpNo X0.here hx rfl (hb hby at_91) rfl (teq hc91_16).2 ?_
            show Steps p.tables e below (s₁.setTop (mkF m 94 #[.val (.int p0), .val (.int p1), .val (.int p2), .val (.int p3), .val (.int (2147483647 : Int32)), .val (.int vs), .val (.int em), .val (.int ve), .val (.int lm), .unset, .unset, .unset, .unset, .unset, .unset] [])) _
            refine XS.iload X0.here hx rfl (hb hby at_94) rfl ?_
            show Steps p.tables e below (s₁.setTop (mkF m 96 #[.val (.int p0), .val (.int p1), .val (.int p2), .val (.int p3), .val (.int (2147483647 : Int32)), .val (.int vs), .val (.int em), .val (.int ve), .val (.int lm), .unset, .unset, .unset, .unset, .unset, .unset] [(.int vs)])) _
            refine XS.istore X0.here hx rfl (hb hby at_96) rfl (l' := #[.val (.int p0), .val (.int p1), .val (.int p2), .val (.int p3), .val (.int (2147483647 : Int32)), .val (.int vs), .val (.int em), .val (.int ve), .val (.int lm), .val (.int vs), .unset, .unset, .unset, .unset, .unset]) rfl ?_
            show Steps p.tables e below (s₁.setTop (mkF m 98 #[.val (.int p0), .val (.int p1), .val (.int p2), .val (.int p3), .val (.int (2147483647 : Int32)), .val (.int vs), .val (.int em), .val (.int ve), .val (.int lm), .val (.int vs), .unset, .unset, .unset, .unset, .unset] [])) _
            refine XS.goto X0.here hx rfl (pc0 := 98) (pc' := 122) rfl (hb hby at_98) (by decide) (by decide) ?_
            exact kt)
          exact ⟨vs, trivial, pre17⟩
        · have pre18 : ∀ t, Steps p.tables e below (s₁.setTop (mkF m 104 #[.val (.int p0), .val (.int p1), .val (.int p2), .val (.int p3), .val (.int (2147483647 : Int32)), .val (.int vs), .val (.int em), .val (.int ve), .val (.int lm), .unset, .unset, .unset, .unset, .unset, .unset] [(.int (2 : Int32)), (.int lm)])) t → Steps p.tables e below (s₁.setTop (entryFrame m #[(.int p0), (.int p1), (.int p2), (.int p3)] maxLocals)) t := fun t kt => pre15 t (by
            show Steps p.tables e below (s₁.setTop (mkF m 91 #[.val (.int p0), .val (.int p1), .val (.int p2), .val (.int p3), .val (.int (2147483647 : Int32)), .val (.int vs), .val (.int em), .val (.int ve), .val (.int lm), .unset, .unset, .unset, .unset, .unset, .unset] [(.int (1 : Int32)), (.int lm)])) _
            refine XS.icmpYes X0.here hx rfl (pc0 := 91) (pc' := 101) rfl (hb hby at_91) rfl (feq hc91_16).2 (by decide) (by decide) ?_
            show Steps p.tables e below (s₁.setTop (mkF m 101 #[.val (.int p0), .val (.int p1), .val (.int p2), .val (.int p3), .val (.int (2147483647 : Int32)), .val (.int vs), .val (.int em), .val (.int ve), .val (.int lm), .unset, .unset, .unset, .unset, .unset, .unset] [])) _
            refine XS.iload X0.here hx rfl (hb hby at_101) rfl ?_
            show Steps p.tables e below (s₁.setTop (mkF m 103 #[.val (.int p0), .val (.int p1), .val (.int p2), .val (.int p3), .val (.int (2147483647 : Int32)), .val (.int vs), .val (.int em), .val (.int ve), .val (.int lm), .unset, .unset, .unset, .unset, .unset, .unset] [(.int lm)])) _
            refine XS.iconst X0.here hx rfl (hb hby at_103) ?_
            exact kt)
          by_cases hc104_19 : lm = (2 : Int32)
          · have pre20 : ∀ t, Steps p.tables e below (s₁.setTop (mkF m 122 #[.val (.int p0), .val (.int p1), .val (.int p2), .val (.int p3), .val (.int (2147483647 : Int32)), .val (.int vs), .val (.int em), .val (.int ve), .val (.int lm), .val (.int (vs - (1 : Int32))), .unset, .unset, .unset, .unset, .unset] [])) t → Steps p.tables e below (s₁.setTop (entryFrame m #[(.int p0), (.int p1), (.int p2), (.int p3)] maxLocals)) t := fun t kt => pre18 t (by
              show Steps p.tables e below (s₁.setTop (mkF m 104 #[.val (.int p0), .val (.int p1), .val (.int p2), .val (.int p3), .val (.int (2147483647 : Int32)), .val (.int vs), .val (.int em), .val (.int ve), .val (.int lm), .unset, .unset, .unset, .unset, .unset, .unset] [(.int (2 : Int32)), (.int lm)])) _
              refine XS.icmpNo X0.here hx rfl (hb hby at_104) rfl (teq hc104_19).2 ?_
              show Steps p.tables e below (s₁.setTop (mkF m 107 #[.val (.int p0), .val (.int p1), .val (.int p2), .val (.int p3), .val (.int (2147483647 : Int32)), .val (.int vs), .val (.int em), .val (.int ve), .val (.int lm), .unset, .unset, .unset, .unset, .unset, .unset] [])) _
              refine XS.iload X0.here hx rfl (hb hby at_107) rfl ?_
              show Steps p.tables e below (s₁.setTop (mkF m 109 #[.val (.int p0), .val (.int p1), .val (.int p2), .val (.int p3), .val (.int (2147483647 : Int32)), .val (.int vs), .val (.int em), .val (.int ve), .val (.int lm), .unset, .unset, .unset, .unset, .unset, .unset] [(.int vs)])) _
              refine XS.iconst X0.here hx rfl (hb hby at_109) ?_
              show Steps p.tables e below (s₁.setTop (mkF m 110 #[.val (.int p0), .val (.int p1), .val (.int p2), .val (.int p3), .val (.int (2147483647 : Int32)), .val (.int vs), .val (.int em), .val (.int ve), .val (.int lm), .unset, .unset, .unset, .unset, .unset, .unset] [(.int (1 : Int32)), (.int vs)])) _
              refine XS.isub X0.here hx rfl (hb hby at_110) rfl ?_
              show Steps p.tables e below (s₁.setTop (mkF m 111 #[.val (.int p0), .val (.int p1), .val (.int p2), .val (.int p3), .val (.int (2147483647 : Int32)), .val (.int vs), .val (.int em), .val (.int ve), .val (.int lm), .unset, .unset, .unset, .unset, .unset, .unset] [(.int (vs - (1 : Int32)))])) _
              refine XS.istore X0.here hx rfl (hb hby at_111) rfl (l' := #[.val (.int p0), .val (.int p1), .val (.int p2), .val (.int p3), .val (.int (2147483647 : Int32)), .val (.int vs), .val (.int em), .val (.int ve), .val (.int lm), .val (.int (vs - (1 : Int32))), .unset, .unset, .unset, .unset, .unset]) rfl ?_
              show Steps p.tables e below (s₁.setTop (mkF m 113 #[.val (.int p0), .val (.int p1), .val (.int p2), .val (.int p3), .val (.int (2147483647 : Int32)), .val (.int vs), .val (.int em), .val (.int ve), .val (.int lm), .val (.int (vs - (1 : Int32))), .unset, .unset, .unset, .unset, .unset] [])) _
              refine XS.goto X0.here hx rfl (pc0 := 113) (pc' := 122) rfl (hb hby at_113) (by decide) (by decide) ?_
              exact kt)
            exact ⟨(vs - (1 : Int32)), trivial, pre20⟩
          · have pre21 : ∀ t, Steps p.tables e below (s₁.setTop (mkF m 122 #[.val (.int p0), .val (.int p1), .val (.int p2), .val (.int p3), .val (.int (2147483647 : Int32)), .val (.int vs), .val (.int em), .val (.int ve), .val (.int lm), .val (.int (vs + (1 : Int32))), .unset, .unset, .unset, .unset, .unset] [])) t → Steps p.tables e below (s₁.setTop (entryFrame m #[(.int p0), (.int p1), (.int p2), (.int p3)] maxLocals)) t := fun t kt => pre18 t (by
              show Steps p.tables e below (s₁.setTop (mkF m 104 #[.val (.int p0), .val (.int p1), .val (.int p2), .val (.int p3), .val (.int (2147483647 : Int32)), .val (.int vs), .val (.int em), .val (.int ve), .val (.int lm), .unset, .unset, .unset, .unset, .unset, .unset] [(.int (2 : Int32)), (.int lm)])) _
              refine XS.icmpYes X0.here hx rfl (pc0 := 104) (pc' := 116) rfl (hb hby at_104) rfl (feq hc104_19).2 (by decide) (by decide) ?_
              show Steps p.tables e below (s₁.setTop (mkF m 116 #[.val (.int p0), .val (.int p1), .val (.int p2), .val (.int p3), .val (.int (2147483647 : Int32)), .val (.int vs), .val (.int em), .val (.int ve), .val (.int lm), .unset, .unset, .unset, .unset, .unset, .unset] [])) _
              refine XS.iload X0.here hx rfl (hb hby at_116) rfl ?_
              show Steps p.tables e below (s₁.setTop (mkF m 118 #[.val (.int p0), .val (.int p1), .val (.int p2), .val (.int p3), .val (.int (2147483647 : Int32)), .val (.int vs), .val (.int em), .val (.int ve), .val (.int lm), .unset, .unset, .unset, .unset, .unset, .unset] [(.int vs)])) _
              refine XS.iconst X0.here hx rfl (hb hby at_118) ?_
              show Steps p.tables e below (s₁.setTop (mkF m 119 #[.val (.int p0), .val (.int p1), .val (.int p2), .val (.int p3), .val (.int (2147483647 : Int32)), .val (.int vs), .val (.int em), .val (.int ve), .val (.int lm), .unset, .unset, .unset, .unset, .unset, .unset] [(.int (1 : Int32)), (.int vs)])) _
              refine XS.iadd X0.here hx rfl (hb hby at_119) rfl ?_
              show Steps p.tables e below (s₁.setTop (mkF m 120 #[.val (.int p0), .val (.int p1), .val (.int p2), .val (.int p3), .val (.int (2147483647 : Int32)), .val (.int vs), .val (.int em), .val (.int ve), .val (.int lm), .unset, .unset, .unset, .unset, .unset, .unset] [(.int (vs + (1 : Int32)))])) _
              refine XS.istore X0.here hx rfl (hb hby at_120) rfl (l' := #[.val (.int p0), .val (.int p1), .val (.int p2), .val (.int p3), .val (.int (2147483647 : Int32)), .val (.int vs), .val (.int em), .val (.int ve), .val (.int lm), .val (.int (vs + (1 : Int32))), .unset, .unset, .unset, .unset, .unset]) rfl ?_
              exact kt)
            exact ⟨(vs + (1 : Int32)), trivial, pre21⟩
    obtain ⟨T22, h22, X22, e22, E22, A22, D22, -, st22⟩ := newO X0 hx hZ hown (hw _ (List.mem_of_getElem? (i := 1) rfl)) (hw _ (List.mem_of_getElem? (i := 2) rfl)) (hw _ (List.mem_of_getElem? (i := 3) rfl)) e0 (g := (mkF m 122 #[.val (.int p0), .val (.int p1), .val (.int p2), .val (.int p3), .val (.int (2147483647 : Int32)), .val (.int vs), .val (.int em), .val (.int ve), .val (.int lm), .val (.int vn), .unset, .unset, .unset, .unset, .unset] [])) rfl (hb hby at_122) (by decide) (by decide)
    obtain ⟨b22, g22⟩ : ∃ z, z = h0.size := ⟨_, rfl⟩
    rw [← g22] at A22 D22 st22
    have pre23 : ∀ t, Steps p.tables e below (T22.setTop (mkF m 125 #[.val (.int p0), .val (.int p1), .val (.int p2), .val (.int p3), .val (.int (2147483647 : Int32)), .val (.int vs), .val (.int em), .val (.int ve), .val (.int lm), .val (.int vn), .unset, .unset, .unset, .unset, .unset] [(.ref b22)])) t → Steps p.tables e below (s₁.setTop (entryFrame m #[(.int p0), (.int p1), (.int p2), (.int p3)] maxLocals)) t := fun t kt => pre11 t (st22 _ kt)
    have gn22 : n0 ≤ b22 := Nat.le_trans Z0 (Nat.le_of_eq g22.symm)
    have sz22 : h0.size ≤ b22 := Nat.le_trans K0.1 (Nat.le_of_eq g22.symm)
    have K22 : Keep h0 h22 [] := K0.ext E22
    have Z22 : n0 ≤ h22.size := Nat.le_trans Z0 E22.1
    have Fn22_start : Fld Z h22 b22 "com/example/baton/baton/core/PositionRange" "start" "I" (.int (0 : Int32)) := D22 (Or.inr (hw _ (List.mem_of_getElem? (i := 16) rfl))) (ty := .int) (by decide)
    have Fn22_end : Fld Z h22 b22 "com/example/baton/baton/core/PositionRange" "end" "I" (.int (0 : Int32)) := D22 (Or.inr (hw _ (List.mem_of_getElem? (i := 18) rfl))) (ty := .int) (by decide)
    have pre24 : ∀ t, Steps p.tables e below (T22.setTop (mkF m 130 #[.val (.int p0), .val (.int p1), .val (.int p2), .val (.int p3), .val (.int (2147483647 : Int32)), .val (.int vs), .val (.int em), .val (.int ve), .val (.int lm), .val (.int vn), .unset, .unset, .unset, .unset, .unset] [(.int ve), (.int vs), (.ref b22), (.ref b22)])) t → Steps p.tables e below (s₁.setTop (entryFrame m #[(.int p0), (.int p1), (.int p2), (.int p3)] maxLocals)) t := fun t kt => pre23 t (by
      show Steps p.tables e below (T22.setTop (mkF m 125 #[.val (.int p0), .val (.int p1), .val (.int p2), .val (.int p3), .val (.int (2147483647 : Int32)), .val (.int vs), .val (.int em), .val (.int ve), .val (.int lm), .val (.int vn), .unset, .unset, .unset, .unset, .unset] [(.ref b22)])) _
      refine XS.dup X22.here hx rfl (hb hby at_125) rfl rfl ?_
      show Steps p.tables e below (T22.setTop (mkF m 126 #[.val (.int p0), .val (.int p1), .val (.int p2), .val (.int p3), .val (.int (2147483647 : Int32)), .val (.int vs), .val (.int em), .val (.int ve), .val (.int lm), .val (.int vn), .unset, .unset, .unset, .unset, .unset] [(.ref b22), (.ref b22)])) _
      refine XS.iload X22.here hx rfl (hb hby at_126) rfl ?_
      show Steps p.tables e below (T22.setTop (mkF m 128 #[.val (.int p0), .val (.int p1), .val (.int p2), .val (.int p3), .val (.int (2147483647 : Int32)), .val (.int vs), .val (.int em), .val (.int ve), .val (.int lm), .val (.int vn), .unset, .unset, .unset, .unset, .unset] [(.int vs), (.ref b22), (.ref b22)])) _
      refine XS.iload X22.here hx rfl (hb hby at_128) rfl ?_
      exact kt)
    obtain ⟨_, _, ⟨T25, L25, k25, n25⟩, -, X25, ⟨Lc25, hQ25, l25, y25, z25⟩, st25⟩ := X22.specialBack hx (y := (⟨"com/example/baton/baton/core/PositionRange", "<init>", "(II)V"⟩ : MethodName)) rfl hown (mvT hZ (hw _ (List.mem_of_getElem? (i := 4) rfl))) (mvT hZ (hw _ (List.mem_of_getElem? (i := 5) rfl))) (mvT hZ (hw _ (List.mem_of_getElem? (i := 6) rfl))) (by decide) (backOf (W := 1) (rm1 l Z av hw [] b22 vs ve  h22 n0 Z22 A22 gn22 Fn22_start Fn22_end (own_lt0 hm2) (own_lt1 hm8)) hZ (hw _ (List.mem_of_getElem? (i := 6) rfl)) (hw _ (List.mem_of_getElem? (i := 3) rfl)) (by decide) (by decide)) (g := (mkF m 130 #[.val (.int p0), .val (.int p1), .val (.int p2), .val (.int p3), .val (.int (2147483647 : Int32)), .val (.int vs), .val (.int em), .val (.int ve), .val (.int lm), .val (.int vn), .unset, .unset, .unset, .unset, .unset] [(.int ve), (.int vs), (.ref b22), (.ref b22)])) rfl (by rw [hml]; rfl) (Steps.refl _) (a := b22) (argsL := [(.int vs), (.int ve)]) (rest := [(.ref b22)]) (lenOf pd__II_V rfl) rfl (by show 2 * 0 + _ ≤ _; exact Nat.le_of_eq rfl) (hb hby at_130) (fun _ _ => ⟨rfl, e22, (by decide : 1 + 0 ≤ _), (by decide : 2 + 0 ≤ _)⟩)
    dsimp only [Pt.U, Pt.locs, Pt.cells, Pt.slots] at X25 l25 y25 z25 st25 hQ25
    subst l25 y25 z25
    obtain ⟨rfl, N25q, Kq25, Fq25_0, Fq25_1, Fq25_2⟩ := hQ25
    have N25 := Fr.app N0 N25q
    have K25 : Keep h0 T25.heap [] := K22.trans Kq25 (allS (Or.inr sz22) all0)
    have Z25 : n0 ≤ T25.heap.size := Nat.le_trans Z22 Kq25.1
    have Fq25_0' : Exa Z T25.heap b22 "com/example/baton/baton/core/PositionRange" := Fq25_0
    have Fq25_1' : Fld Z T25.heap b22 "com/example/baton/baton/core/PositionRange" "start" "I" (.int vs) := Fq25_1
    have Fq25_2' : Fld Z T25.heap b22 "com/example/baton/baton/core/PositionRange" "end" "I" (.int ve) := Fq25_2
    have pre26 : ∀ t, Steps p.tables e below (T25.setTop (mkF m 133 #[.val (.int p0), .val (.int p1), .val (.int p2), .val (.int p3), .val (.int (2147483647 : Int32)), .val (.int vs), .val (.int em), .val (.int ve), .val (.int lm), .val (.int vn), .unset, .unset, .unset, .unset, .unset] [(.ref b22)])) t → Steps p.tables e below (s₁.setTop (entryFrame m #[(.int p0), (.int p1), (.int p2), (.int p3)] maxLocals)) t := fun t kt => pre24 t (st25.trans kt)
    have pre27 : ∀ t, Steps p.tables e below (T25.setTop (mkF m 139 #[.val (.int p0), .val (.int p1), .val (.int p2), .val (.int p3), .val (.int (2147483647 : Int32)), .val (.int vs), .val (.int em), .val (.int ve), .val (.int lm), .val (.int vn), .val (.ref b22), .unset, .unset, .unset, .unset] [(.int vn), (.ref b22)])) t → Steps p.tables e below (s₁.setTop (entryFrame m #[(.int p0), (.int p1), (.int p2), (.int p3)] maxLocals)) t := fun t kt => pre26 t (by
      show Steps p.tables e below (T25.setTop (mkF m 133 #[.val (.int p0), .val (.int p1), .val (.int p2), .val (.int p3), .val (.int (2147483647 : Int32)), .val (.int vs), .val (.int em), .val (.int ve), .val (.int lm), .val (.int vn), .unset, .unset, .unset, .unset, .unset] [(.ref b22)])) _
      refine XS.astore X25.here hx rfl (hb hby at_133) rfl rfl (l' := #[.val (.int p0), .val (.int p1), .val (.int p2), .val (.int p3), .val (.int (2147483647 : Int32)), .val (.int vs), .val (.int em), .val (.int ve), .val (.int lm), .val (.int vn), .val (.ref b22), .unset, .unset, .unset, .unset]) rfl ?_
      show Steps p.tables e below (T25.setTop (mkF m 135 #[.val (.int p0), .val (.int p1), .val (.int p2), .val (.int p3), .val (.int (2147483647 : Int32)), .val (.int vs), .val (.int em), .val (.int ve), .val (.int lm), .val (.int vn), .val (.ref b22), .unset, .unset, .unset, .unset] [])) _
      refine XS.aload X25.here hx rfl (hb hby at_135) rfl rfl ?_
      show Steps p.tables e below (T25.setTop (mkF m 137 #[.val (.int p0), .val (.int p1), .val (.int p2), .val (.int p3), .val (.int (2147483647 : Int32)), .val (.int vs), .val (.int em), .val (.int ve), .val (.int lm), .val (.int vn), .val (.ref b22), .unset, .unset, .unset, .unset] [(.ref b22)])) _
      refine XS.iload X25.here hx rfl (hb hby at_137) rfl ?_
      exact kt)
    obtain ⟨cq28, kq28, q28a, q28b, q28c⟩ := isOf hZ rfl Fq25_0'
    obtain ⟨_, _, ⟨T29, L29, k29, n29⟩, -, X29, ⟨Lc29, hQ29, l29, y29, z29⟩, st29⟩ := X25.virtualBack hx (y := (⟨"com/example/baton/baton/core/PositionRange", "startsIn", "(I)Z"⟩ : MethodName)) (z := (⟨"com/example/baton/baton/core/PositionRange", "startsIn", "(I)Z"⟩ : MethodName)) hown (mvT hZ (hw _ (List.mem_of_getElem? (i := 19) rfl))) (mvT hZ (hw _ (List.mem_of_getElem? (i := 20) rfl))) (notFace_of_selects (args := #[]) (mvT hZ (hw _ (List.mem_of_getElem? (i := 22) rfl)))) (mvT hZ (hw _ (List.mem_of_getElem? (i := 22) rfl))) (mvT hZ (hw _ (List.mem_of_getElem? (i := 21) rfl))) (by decide) (backOf (W := 0) (rm4 l Z av hw [] b22 vn vs ve T25.heap n0 Z25 Fq25_1' Fq25_2') hZ (hw _ (List.mem_of_getElem? (i := 23) rfl)) (hw _ (List.mem_of_getElem? (i := 3) rfl)) (by decide) (by decide)) q28a q28c (g := (mkF m 139 #[.val (.int p0), .val (.int p1), .val (.int p2), .val (.int p3), .val (.int (2147483647 : Int32)), .val (.int vs), .val (.int em), .val (.int ve), .val (.int lm), .val (.int vn), .val (.ref b22), .unset, .unset, .unset, .unset] [(.int vn), (.ref b22)])) rfl (by rw [hml]; rfl) (Steps.refl _) (argsL := [(.int vn)]) (rest := []) (lenOf pd__I_Z rfl) rfl (by show 2 * 0 + _ ≤ _; exact Nat.le_of_eq rfl) (hb hby at_139) (fun _ _ => ⟨rfl, rfl, (by decide : 1 + 0 ≤ _), (by decide : 2 + 0 ≤ _)⟩)
    dsimp only [Pt.U, Pt.locs, Pt.cells, Pt.slots] at X29 l29 y29 z29 st29 hQ29
    subst l29 y29 z29
    obtain ⟨rfl, N29q, e29⟩ := hQ29
    have N29 := Fr.app N25 N29q
    have pre30 : ∀ t, Steps p.tables e below (T29.setTop (mkF m 142 #[.val (.int p0), .val (.int p1), .val (.int p2), .val (.int p3), .val (.int (2147483647 : Int32)), .val (.int vs), .val (.int em), .val (.int ve), .val (.int lm), .val (.int vn), .val (.ref b22), .unset, .unset, .unset, .unset] [(.int (f_in vn vs ve))])) t → Steps p.tables e below (s₁.setTop (entryFrame m #[(.int p0), (.int p1), (.int p2), (.int p3)] maxLocals)) t := fun t kt => pre27 t (st29.trans kt)
    have pre31 : ∀ t, Steps p.tables e below (T29.setTop (mkF m 153 #[.val (.int p0), .val (.int p1), .val (.int p2), .val (.int p3), .val (.int (2147483647 : Int32)), .val (.int vs), .val (.int em), .val (.int ve), .val (.int lm), .val (.int vn), .val (.ref b22), .val (.int (f_in vn vs ve)), .val (.long ((vn.toInt64) - (vs.toInt64))), .second, .unset] [])) t → Steps p.tables e below (s₁.setTop (entryFrame m #[(.int p0), (.int p1), (.int p2), (.int p3)] maxLocals)) t := fun t kt => pre30 t (by
      show Steps p.tables e below (T29.setTop (mkF m 142 #[.val (.int p0), .val (.int p1), .val (.int p2), .val (.int p3), .val (.int (2147483647 : Int32)), .val (.int vs), .val (.int em), .val (.int ve), .val (.int lm), .val (.int vn), .val (.ref b22), .unset, .unset, .unset, .unset] [(.int (f_in vn vs ve))])) _
      refine XS.istore X29.here hx rfl (hb hby at_142) rfl (l' := #[.val (.int p0), .val (.int p1), .val (.int p2), .val (.int p3), .val (.int (2147483647 : Int32)), .val (.int vs), .val (.int em), .val (.int ve), .val (.int lm), .val (.int vn), .val (.ref b22), .val (.int (f_in vn vs ve)), .unset, .unset, .unset]) rfl ?_
      show Steps p.tables e below (T29.setTop (mkF m 144 #[.val (.int p0), .val (.int p1), .val (.int p2), .val (.int p3), .val (.int (2147483647 : Int32)), .val (.int vs), .val (.int em), .val (.int ve), .val (.int lm), .val (.int vn), .val (.ref b22), .val (.int (f_in vn vs ve)), .unset, .unset, .unset] [])) _
      refine XS.iload X29.here hx rfl (hb hby at_144) rfl ?_
      show Steps p.tables e below (T29.setTop (mkF m 146 #[.val (.int p0), .val (.int p1), .val (.int p2), .val (.int p3), .val (.int (2147483647 : Int32)), .val (.int vs), .val (.int em), .val (.int ve), .val (.int lm), .val (.int vn), .val (.ref b22), .val (.int (f_in vn vs ve)), .unset, .unset, .unset] [(.int vn)])) _
      refine XS.i2l X29.here hx rfl (hb hby at_146) rfl ?_
      show Steps p.tables e below (T29.setTop (mkF m 147 #[.val (.int p0), .val (.int p1), .val (.int p2), .val (.int p3), .val (.int (2147483647 : Int32)), .val (.int vs), .val (.int em), .val (.int ve), .val (.int lm), .val (.int vn), .val (.ref b22), .val (.int (f_in vn vs ve)), .unset, .unset, .unset] [(.long (vn.toInt64))])) _
      refine XS.iload X29.here hx rfl (hb hby at_147) rfl ?_
      show Steps p.tables e below (T29.setTop (mkF m 149 #[.val (.int p0), .val (.int p1), .val (.int p2), .val (.int p3), .val (.int (2147483647 : Int32)), .val (.int vs), .val (.int em), .val (.int ve), .val (.int lm), .val (.int vn), .val (.ref b22), .val (.int (f_in vn vs ve)), .unset, .unset, .unset] [(.int vs), (.long (vn.toInt64))])) _
      refine XS.i2l X29.here hx rfl (hb hby at_149) rfl ?_
      show Steps p.tables e below (T29.setTop (mkF m 150 #[.val (.int p0), .val (.int p1), .val (.int p2), .val (.int p3), .val (.int (2147483647 : Int32)), .val (.int vs), .val (.int em), .val (.int ve), .val (.int lm), .val (.int vn), .val (.ref b22), .val (.int (f_in vn vs ve)), .unset, .unset, .unset] [(.long (vs.toInt64)), (.long (vn.toInt64))])) _
      refine XS.lsub X29.here hx rfl (hb hby at_150) rfl ?_
      show Steps p.tables e below (T29.setTop (mkF m 151 #[.val (.int p0), .val (.int p1), .val (.int p2), .val (.int p3), .val (.int (2147483647 : Int32)), .val (.int vs), .val (.int em), .val (.int ve), .val (.int lm), .val (.int vn), .val (.ref b22), .val (.int (f_in vn vs ve)), .unset, .unset, .unset] [(.long ((vn.toInt64) - (vs.toInt64)))])) _
      refine XS.lstore X29.here hx rfl (hb hby at_151) rfl (l' := #[.val (.int p0), .val (.int p1), .val (.int p2), .val (.int p3), .val (.int (2147483647 : Int32)), .val (.int vs), .val (.int em), .val (.int ve), .val (.int lm), .val (.int vn), .val (.ref b22), .val (.int (f_in vn vs ve)), .val (.long ((vn.toInt64) - (vs.toInt64))), .second, .unset]) rfl ?_
      exact kt)
    obtain ⟨vd, hm32, pre32⟩ : ∃ (vd : Int64), (vd.toInt = vn.toInt - vs.toInt) ∧ ∀ t, Steps p.tables e below (T29.setTop (mkF m 153 #[.val (.int p0), .val (.int p1), .val (.int p2), .val (.int p3), .val (.int (2147483647 : Int32)), .val (.int vs), .val (.int em), .val (.int ve), .val (.int lm), .val (.int vn), .val (.ref b22), .val (.int (f_in vn vs ve)), .val (.long vd), .second, .unset] [])) t → Steps p.tables e below (s₁.setTop (entryFrame m #[(.int p0), (.int p1), (.int p2), (.int p3)] maxLocals)) t := ⟨((vn.toInt64) - (vs.toInt64)), own_d vn vs, pre31⟩
    have pre33 : ∀ t, Steps p.tables e below (T29.setTop (mkF m 157 #[.val (.int p0), .val (.int p1), .val (.int p2), .val (.int p3), .val (.int (2147483647 : Int32)), .val (.int vs), .val (.int em), .val (.int ve), .val (.int lm), .val (.int vn), .val (.ref b22), .val (.int (f_in vn vs ve)), .val (.long vd), .second, .unset] [(.int (lcmpW vd (0 : Int64)))])) t → Steps p.tables e below (s₁.setTop (entryFrame m #[(.int p0), (.int p1), (.int p2), (.int p3)] maxLocals)) t := fun t kt => pre32 t (by
      show Steps p.tables e below (T29.setTop (mkF m 153 #[.val (.int p0), .val (.int p1), .val (.int p2), .val (.int p3), .val (.int (2147483647 : Int32)), .val (.int vs), .val (.int em), .val (.int ve), .val (.int lm), .val (.int vn), .val (.ref b22), .val (.int (f_in vn vs ve)), .val (.long vd), .second, .unset] [])) _
      refine XS.lload X29.here hx rfl (hb hby at_153) rfl ?_
      show Steps p.tables e below (T29.setTop (mkF m 155 #[.val (.int p0), .val (.int p1), .val (.int p2), .val (.int p3), .val (.int (2147483647 : Int32)), .val (.int vs), .val (.int em), .val (.int ve), .val (.int lm), .val (.int vn), .val (.ref b22), .val (.int (f_in vn vs ve)), .val (.long vd), .second, .unset] [(.long vd)])) _
      refine XS.lconst X29.here hx rfl (hb hby at_155) ?_
      show Steps p.tables e below (T29.setTop (mkF m 156 #[.val (.int p0), .val (.int p1), .val (.int p2), .val (.int p3), .val (.int (2147483647 : Int32)), .val (.int vs), .val (.int em), .val (.int ve), .val (.int lm), .val (.int vn), .val (.ref b22), .val (.int (f_in vn vs ve)), .val (.long vd), .second, .unset] [(.long (0 : Int64)), (.long vd)])) _
      refine XS.lcmp X29.here hx rfl (hb hby at_156) rfl ?_
      exact kt)
    by_cases hc157_34 : (0 : Int64) < vd
    · have pre35 : ∀ t, Steps p.tables e below (T29.setTop (mkF m 220 #[.val (.int p0), .val (.int p1), .val (.int p2), .val (.int p3), .val (.int (2147483647 : Int32)), .val (.int vs), .val (.int em), .val (.int ve), .val (.int lm), .val (.int vn), .val (.ref b22), .val (.int (f_in vn vs ve)), .val (.long vd), .second, .val (.int (1 : Int32))] [(.int (1 : Int32))])) t → Steps p.tables e below (s₁.setTop (entryFrame m #[(.int p0), (.int p1), (.int p2), (.int p3)] maxLocals)) t := fun t kt => pre33 t (by
        show Steps p.tables e below (T29.setTop (mkF m 157 #[.val (.int p0), .val (.int p1), .val (.int p2), .val (.int p3), .val (.int (2147483647 : Int32)), .val (.int vs), .val (.int em), .val (.int ve), .val (.int lm), .val (.int vn), .val (.ref b22), .val (.int (f_in vn vs ve)), .val (.long vd), .second, .unset] [(.int (lcmpW vd (0 : Int64)))])) _
        refine XS.ifNo X29.here hx rfl (hb hby at_157) rfl (Jvm.Free.XT.ll_le_f hc157_34) ?_
        show Steps p.tables e below (T29.setTop (mkF m 160 #[.val (.int p0), .val (.int p1), .val (.int p2), .val (.int p3), .val (.int (2147483647 : Int32)), .val (.int vs), .val (.int em), .val (.int ve), .val (.int lm), .val (.int vn), .val (.ref b22), .val (.int (f_in vn vs ve)), .val (.long vd), .second, .unset] [])) _
        refine XS.iconst X29.here hx rfl (hb hby at_160) ?_
        show Steps p.tables e below (T29.setTop (mkF m 161 #[.val (.int p0), .val (.int p1), .val (.int p2), .val (.int p3), .val (.int (2147483647 : Int32)), .val (.int vs), .val (.int em), .val (.int ve), .val (.int lm), .val (.int vn), .val (.ref b22), .val (.int (f_in vn vs ve)), .val (.long vd), .second, .unset] [(.int (1 : Int32))])) _
        refine XS.istore X29.here hx rfl (hb hby at_161) rfl (l' := #[.val (.int p0), .val (.int p1), .val (.int p2), .val (.int p3), .val (.int (2147483647 : Int32)), .val (.int vs), .val (.int em), .val (.int ve), .val (.int lm), .val (.int vn), .val (.ref b22), .val (.int (f_in vn vs ve)), .val (.long vd), .second, .val (.int (1 : Int32))]) rfl ?_
        show Steps p.tables e below (T29.setTop (mkF m 163 #[.val (.int p0), .val (.int p1), .val (.int p2), .val (.int p3), .val (.int (2147483647 : Int32)), .val (.int vs), .val (.int em), .val (.int ve), .val (.int lm), .val (.int vn), .val (.ref b22), .val (.int (f_in vn vs ve)), .val (.long vd), .second, .val (.int (1 : Int32))] [])) _
        refine XS.goto X29.here hx rfl (pc0 := 163) (pc' := 208) rfl (hb hby at_163) (by decide) (by decide) ?_
        show Steps p.tables e below (T29.setTop (mkF m 208 #[.val (.int p0), .val (.int p1), .val (.int p2), .val (.int p3), .val (.int (2147483647 : Int32)), .val (.int vs), .val (.int em), .val (.int ve), .val (.int lm), .val (.int vn), .val (.ref b22), .val (.int (f_in vn vs ve)), .val (.long vd), .second, .val (.int (1 : Int32))] [])) _
        refine XS.iload X29.here hx rfl (hb hby at_208) rfl ?_
        show Steps p.tables e below (T29.setTop (mkF m 210 #[.val (.int p0), .val (.int p1), .val (.int p2), .val (.int p3), .val (.int (2147483647 : Int32)), .val (.int vs), .val (.int em), .val (.int ve), .val (.int lm), .val (.int vn), .val (.ref b22), .val (.int (f_in vn vs ve)), .val (.long vd), .second, .val (.int (1 : Int32))] [(.int (f_in vn vs ve))])) _
        refine XS.iload X29.here hx rfl (hb hby at_210) rfl ?_
        show Steps p.tables e below (T29.setTop (mkF m 212 #[.val (.int p0), .val (.int p1), .val (.int p2), .val (.int p3), .val (.int (2147483647 : Int32)), .val (.int vs), .val (.int em), .val (.int ve), .val (.int lm), .val (.int vn), .val (.ref b22), .val (.int (f_in vn vs ve)), .val (.long vd), .second, .val (.int (1 : Int32))] [(.int (1 : Int32)), (.int (f_in vn vs ve))])) _
        refine XS.icmpNo X29.here hx rfl (hb hby at_212) rfl (teq (by
            have hd := hm32
            rw [own_in]
            simp only [← Int32.toInt_inj, Int64.lt_iff_toInt_lt, Int64.reduceToInt, Int32.reduceToInt] at hc157_34
            repeat' split
            all_goals first | rfl | (exfalso; omega) : (f_in vn vs ve) = (1 : Int32))).2 ?_
        show Steps p.tables e below (T29.setTop (mkF m 215 #[.val (.int p0), .val (.int p1), .val (.int p2), .val (.int p3), .val (.int (2147483647 : Int32)), .val (.int vs), .val (.int em), .val (.int ve), .val (.int lm), .val (.int vn), .val (.ref b22), .val (.int (f_in vn vs ve)), .val (.long vd), .second, .val (.int (1 : Int32))] [])) _
        refine XS.iconst X29.here hx rfl (hb hby at_215) ?_
        show Steps p.tables e below (T29.setTop (mkF m 216 #[.val (.int p0), .val (.int p1), .val (.int p2), .val (.int p3), .val (.int (2147483647 : Int32)), .val (.int vs), .val (.int em), .val (.int ve), .val (.int lm), .val (.int vn), .val (.ref b22), .val (.int (f_in vn vs ve)), .val (.long vd), .second, .val (.int (1 : Int32))] [(.int (1 : Int32))])) _
        refine XS.goto X29.here hx rfl (pc0 := 216) (pc' := 220) rfl (hb hby at_216) (by decide) (by decide) ?_
        exact kt)
      obtain ⟨fs, hr, hrun, hended, hW, hsame⟩ := X29.leave (v := some (.int (1 : Int32))) (fun h => by rw [Bd.returns] at h; cases h)
      refine ⟨_, _, pre35 _ ?_, hrun, hended, _, _, rfl, ?_, ⟨_, rfl⟩, hW, hsame.mono (by decide) (by decide)⟩
      · show Steps p.tables e below (T29.setTop (mkF m 220 #[.val (.int p0), .val (.int p1), .val (.int p2), .val (.int p3), .val (.int (2147483647 : Int32)), .val (.int vs), .val (.int em), .val (.int ve), .val (.int lm), .val (.int vn), .val (.ref b22), .val (.int (f_in vn vs ve)), .val (.long vd), .second, .val (.int (1 : Int32))] [(.int (1 : Int32))])) _
        exact retN X29 hx (t := .boolean) Bd.returns (by simp) (hb hby at_220) hr
      · show Q0 Z p0 p1 p2 p3 h0 n0 _ T29.heap _
        rw [e29]
        exact ⟨rfl, N29⟩
    · have pre36 : ∀ t, Steps p.tables e below (T29.setTop (mkF m 170 #[.val (.int p0), .val (.int p1), .val (.int p2), .val (.int p3), .val (.int (2147483647 : Int32)), .val (.int vs), .val (.int em), .val (.int ve), .val (.int lm), .val (.int vn), .val (.ref b22), .val (.int (f_in vn vs ve)), .val (.long vd), .second, .unset] [(.int (lcmpW vd (0 : Int64)))])) t → Steps p.tables e below (s₁.setTop (entryFrame m #[(.int p0), (.int p1), (.int p2), (.int p3)] maxLocals)) t := fun t kt => pre33 t (by
        show Steps p.tables e below (T29.setTop (mkF m 157 #[.val (.int p0), .val (.int p1), .val (.int p2), .val (.int p3), .val (.int (2147483647 : Int32)), .val (.int vs), .val (.int em), .val (.int ve), .val (.int lm), .val (.int vn), .val (.ref b22), .val (.int (f_in vn vs ve)), .val (.long vd), .second, .unset] [(.int (lcmpW vd (0 : Int64)))])) _
        refine XS.ifYes X29.here hx rfl (pc0 := 157) (pc' := 166) rfl (hb hby at_157) rfl (Jvm.Free.XT.ll_le_t hc157_34) (by decide) (by decide) ?_
        show Steps p.tables e below (T29.setTop (mkF m 166 #[.val (.int p0), .val (.int p1), .val (.int p2), .val (.int p3), .val (.int (2147483647 : Int32)), .val (.int vs), .val (.int em), .val (.int ve), .val (.int lm), .val (.int vn), .val (.ref b22), .val (.int (f_in vn vs ve)), .val (.long vd), .second, .unset] [])) _
        refine XS.lload X29.here hx rfl (hb hby at_166) rfl ?_
        show Steps p.tables e below (T29.setTop (mkF m 168 #[.val (.int p0), .val (.int p1), .val (.int p2), .val (.int p3), .val (.int (2147483647 : Int32)), .val (.int vs), .val (.int em), .val (.int ve), .val (.int lm), .val (.int vn), .val (.ref b22), .val (.int (f_in vn vs ve)), .val (.long vd), .second, .unset] [(.long vd)])) _
        refine XS.lconst X29.here hx rfl (hb hby at_168) ?_
        show Steps p.tables e below (T29.setTop (mkF m 169 #[.val (.int p0), .val (.int p1), .val (.int p2), .val (.int p3), .val (.int (2147483647 : Int32)), .val (.int vs), .val (.int em), .val (.int ve), .val (.int lm), .val (.int vn), .val (.ref b22), .val (.int (f_in vn vs ve)), .val (.long vd), .second, .unset] [(.long (0 : Int64)), (.long vd)])) _
        refine XS.lcmp X29.here hx rfl (hb hby at_169) rfl ?_
        exact kt)
      by_cases hc170_37 : vd < (0 : Int64)
      · have pre38 : ∀ t, Steps p.tables e below (T29.setTop (mkF m 220 #[.val (.int p0), .val (.int p1), .val (.int p2), .val (.int p3), .val (.int (2147483647 : Int32)), .val (.int vs), .val (.int em), .val (.int ve), .val (.int lm), .val (.int vn), .val (.ref b22), .val (.int (f_in vn vs ve)), .val (.long vd), .second, .val (.int (0 : Int32))] [(.int (1 : Int32))])) t → Steps p.tables e below (s₁.setTop (entryFrame m #[(.int p0), (.int p1), (.int p2), (.int p3)] maxLocals)) t := fun t kt => pre36 t (by
          show Steps p.tables e below (T29.setTop (mkF m 170 #[.val (.int p0), .val (.int p1), .val (.int p2), .val (.int p3), .val (.int (2147483647 : Int32)), .val (.int vs), .val (.int em), .val (.int ve), .val (.int lm), .val (.int vn), .val (.ref b22), .val (.int (f_in vn vs ve)), .val (.long vd), .second, .unset] [(.int (lcmpW vd (0 : Int64)))])) _
          refine XS.ifNo X29.here hx rfl (hb hby at_170) rfl (Jvm.Free.XT.ll_ge_f hc170_37) ?_
          show Steps p.tables e below (T29.setTop (mkF m 173 #[.val (.int p0), .val (.int p1), .val (.int p2), .val (.int p3), .val (.int (2147483647 : Int32)), .val (.int vs), .val (.int em), .val (.int ve), .val (.int lm), .val (.int vn), .val (.ref b22), .val (.int (f_in vn vs ve)), .val (.long vd), .second, .unset] [])) _
          refine XS.iconst X29.here hx rfl (hb hby at_173) ?_
          show Steps p.tables e below (T29.setTop (mkF m 174 #[.val (.int p0), .val (.int p1), .val (.int p2), .val (.int p3), .val (.int (2147483647 : Int32)), .val (.int vs), .val (.int em), .val (.int ve), .val (.int lm), .val (.int vn), .val (.ref b22), .val (.int (f_in vn vs ve)), .val (.long vd), .second, .unset] [(.int (0 : Int32))])) _
          refine XS.istore X29.here hx rfl (hb hby at_174) rfl (l' := #[.val (.int p0), .val (.int p1), .val (.int p2), .val (.int p3), .val (.int (2147483647 : Int32)), .val (.int vs), .val (.int em), .val (.int ve), .val (.int lm), .val (.int vn), .val (.ref b22), .val (.int (f_in vn vs ve)), .val (.long vd), .second, .val (.int (0 : Int32))]) rfl ?_
          show Steps p.tables e below (T29.setTop (mkF m 176 #[.val (.int p0), .val (.int p1), .val (.int p2), .val (.int p3), .val (.int (2147483647 : Int32)), .val (.int vs), .val (.int em), .val (.int ve), .val (.int lm), .val (.int vn), .val (.ref b22), .val (.int (f_in vn vs ve)), .val (.long vd), .second, .val (.int (0 : Int32))] [])) _
          refine XS.goto X29.here hx rfl (pc0 := 176) (pc' := 208) rfl (hb hby at_176) (by decide) (by decide) ?_
          show Steps p.tables e below (T29.setTop (mkF m 208 #[.val (.int p0), .val (.int p1), .val (.int p2), .val (.int p3), .val (.int (2147483647 : Int32)), .val (.int vs), .val (.int em), .val (.int ve), .val (.int lm), .val (.int vn), .val (.ref b22), .val (.int (f_in vn vs ve)), .val (.long vd), .second, .val (.int (0 : Int32))] [])) _
          refine XS.iload X29.here hx rfl (hb hby at_208) rfl ?_
          show Steps p.tables e below (T29.setTop (mkF m 210 #[.val (.int p0), .val (.int p1), .val (.int p2), .val (.int p3), .val (.int (2147483647 : Int32)), .val (.int vs), .val (.int em), .val (.int ve), .val (.int lm), .val (.int vn), .val (.ref b22), .val (.int (f_in vn vs ve)), .val (.long vd), .second, .val (.int (0 : Int32))] [(.int (f_in vn vs ve))])) _
          refine XS.iload X29.here hx rfl (hb hby at_210) rfl ?_
          show Steps p.tables e below (T29.setTop (mkF m 212 #[.val (.int p0), .val (.int p1), .val (.int p2), .val (.int p3), .val (.int (2147483647 : Int32)), .val (.int vs), .val (.int em), .val (.int ve), .val (.int lm), .val (.int vn), .val (.ref b22), .val (.int (f_in vn vs ve)), .val (.long vd), .second, .val (.int (0 : Int32))] [(.int (0 : Int32)), (.int (f_in vn vs ve))])) _
          refine XS.icmpNo X29.here hx rfl (hb hby at_212) rfl (teq (by
              have hd := hm32
              rw [own_in]
              simp only [← Int32.toInt_inj, Int64.lt_iff_toInt_lt, Int64.reduceToInt, Int32.reduceToInt] at hc157_34 hc170_37
              repeat' split
              all_goals first | rfl | (exfalso; omega) : (f_in vn vs ve) = (0 : Int32))).2 ?_
          show Steps p.tables e below (T29.setTop (mkF m 215 #[.val (.int p0), .val (.int p1), .val (.int p2), .val (.int p3), .val (.int (2147483647 : Int32)), .val (.int vs), .val (.int em), .val (.int ve), .val (.int lm), .val (.int vn), .val (.ref b22), .val (.int (f_in vn vs ve)), .val (.long vd), .second, .val (.int (0 : Int32))] [])) _
          refine XS.iconst X29.here hx rfl (hb hby at_215) ?_
          show Steps p.tables e below (T29.setTop (mkF m 216 #[.val (.int p0), .val (.int p1), .val (.int p2), .val (.int p3), .val (.int (2147483647 : Int32)), .val (.int vs), .val (.int em), .val (.int ve), .val (.int lm), .val (.int vn), .val (.ref b22), .val (.int (f_in vn vs ve)), .val (.long vd), .second, .val (.int (0 : Int32))] [(.int (1 : Int32))])) _
          refine XS.goto X29.here hx rfl (pc0 := 216) (pc' := 220) rfl (hb hby at_216) (by decide) (by decide) ?_
          exact kt)
        obtain ⟨fs, hr, hrun, hended, hW, hsame⟩ := X29.leave (v := some (.int (1 : Int32))) (fun h => by rw [Bd.returns] at h; cases h)
        refine ⟨_, _, pre38 _ ?_, hrun, hended, _, _, rfl, ?_, ⟨_, rfl⟩, hW, hsame.mono (by decide) (by decide)⟩
        · show Steps p.tables e below (T29.setTop (mkF m 220 #[.val (.int p0), .val (.int p1), .val (.int p2), .val (.int p3), .val (.int (2147483647 : Int32)), .val (.int vs), .val (.int em), .val (.int ve), .val (.int lm), .val (.int vn), .val (.ref b22), .val (.int (f_in vn vs ve)), .val (.long vd), .second, .val (.int (0 : Int32))] [(.int (1 : Int32))])) _
          exact retN X29 hx (t := .boolean) Bd.returns (by simp) (hb hby at_220) hr
        · show Q0 Z p0 p1 p2 p3 h0 n0 _ T29.heap _
          rw [e29]
          exact ⟨rfl, N29⟩
      · have pre39 : ∀ t, Steps p.tables e below (T29.setTop (mkF m 183 #[.val (.int p0), .val (.int p1), .val (.int p2), .val (.int p3), .val (.int (2147483647 : Int32)), .val (.int vs), .val (.int em), .val (.int ve), .val (.int lm), .val (.int vn), .val (.ref b22), .val (.int (f_in vn vs ve)), .val (.long vd), .second, .unset] [(.int vs), (.int ve)])) t → Steps p.tables e below (s₁.setTop (entryFrame m #[(.int p0), (.int p1), (.int p2), (.int p3)] maxLocals)) t := fun t kt => pre36 t (by
          show Steps p.tables e below (T29.setTop (mkF m 170 #[.val (.int p0), .val (.int p1), .val (.int p2), .val (.int p3), .val (.int (2147483647 : Int32)), .val (.int vs), .val (.int em), .val (.int ve), .val (.int lm), .val (.int vn), .val (.ref b22), .val (.int (f_in vn vs ve)), .val (.long vd), .second, .unset] [(.int (lcmpW vd (0 : Int64)))])) _
          refine XS.ifYes X29.here hx rfl (pc0 := 170) (pc' := 179) rfl (hb hby at_170) rfl (Jvm.Free.XT.ll_ge_t hc170_37) (by decide) (by decide) ?_
          show Steps p.tables e below (T29.setTop (mkF m 179 #[.val (.int p0), .val (.int p1), .val (.int p2), .val (.int p3), .val (.int (2147483647 : Int32)), .val (.int vs), .val (.int em), .val (.int ve), .val (.int lm), .val (.int vn), .val (.ref b22), .val (.int (f_in vn vs ve)), .val (.long vd), .second, .unset] [])) _
          refine XS.iload X29.here hx rfl (hb hby at_179) rfl ?_
          show Steps p.tables e below (T29.setTop (mkF m 181 #[.val (.int p0), .val (.int p1), .val (.int p2), .val (.int p3), .val (.int (2147483647 : Int32)), .val (.int vs), .val (.int em), .val (.int ve), .val (.int lm), .val (.int vn), .val (.ref b22), .val (.int (f_in vn vs ve)), .val (.long vd), .second, .unset] [(.int ve)])) _
          refine XS.iload X29.here hx rfl (hb hby at_181) rfl ?_
          exact kt)
        by_cases hc183_40 : ve = vs
        · have pre41 : ∀ t, Steps p.tables e below (T29.setTop (mkF m 220 #[.val (.int p0), .val (.int p1), .val (.int p2), .val (.int p3), .val (.int (2147483647 : Int32)), .val (.int vs), .val (.int em), .val (.int ve), .val (.int lm), .val (.int vn), .val (.ref b22), .val (.int (f_in vn vs ve)), .val (.long vd), .second, .val (.int (1 : Int32))] [(.int (1 : Int32))])) t → Steps p.tables e below (s₁.setTop (entryFrame m #[(.int p0), (.int p1), (.int p2), (.int p3)] maxLocals)) t := fun t kt => pre39 t (by
            show Steps p.tables e below (T29.setTop (mkF m 183 #[.val (.int p0), .val (.int p1), .val (.int p2), .val (.int p3), .val (.int (2147483647 : Int32)), .val (.int vs), .val (.int em), .val (.int ve), .val (.int lm), .val (.int vn), .val (.ref b22), .val (.int (f_in vn vs ve)), .val (.long vd), .second, .unset] [(.int vs), (.int ve)])) _
            refine XS.icmpNo X29.here hx rfl (hb hby at_183) rfl (teq hc183_40).2 ?_
            show Steps p.tables e below (T29.setTop (mkF m 186 #[.val (.int p0), .val (.int p1), .val (.int p2), .val (.int p3), .val (.int (2147483647 : Int32)), .val (.int vs), .val (.int em), .val (.int ve), .val (.int lm), .val (.int vn), .val (.ref b22), .val (.int (f_in vn vs ve)), .val (.long vd), .second, .unset] [])) _
            refine XS.iconst X29.here hx rfl (hb hby at_186) ?_
            show Steps p.tables e below (T29.setTop (mkF m 187 #[.val (.int p0), .val (.int p1), .val (.int p2), .val (.int p3), .val (.int (2147483647 : Int32)), .val (.int vs), .val (.int em), .val (.int ve), .val (.int lm), .val (.int vn), .val (.ref b22), .val (.int (f_in vn vs ve)), .val (.long vd), .second, .unset] [(.int (1 : Int32))])) _
            refine XS.istore X29.here hx rfl (hb hby at_187) rfl (l' := #[.val (.int p0), .val (.int p1), .val (.int p2), .val (.int p3), .val (.int (2147483647 : Int32)), .val (.int vs), .val (.int em), .val (.int ve), .val (.int lm), .val (.int vn), .val (.ref b22), .val (.int (f_in vn vs ve)), .val (.long vd), .second, .val (.int (1 : Int32))]) rfl ?_
            show Steps p.tables e below (T29.setTop (mkF m 189 #[.val (.int p0), .val (.int p1), .val (.int p2), .val (.int p3), .val (.int (2147483647 : Int32)), .val (.int vs), .val (.int em), .val (.int ve), .val (.int lm), .val (.int vn), .val (.ref b22), .val (.int (f_in vn vs ve)), .val (.long vd), .second, .val (.int (1 : Int32))] [])) _
            refine XS.goto X29.here hx rfl (pc0 := 189) (pc' := 208) rfl (hb hby at_189) (by decide) (by decide) ?_
            show Steps p.tables e below (T29.setTop (mkF m 208 #[.val (.int p0), .val (.int p1), .val (.int p2), .val (.int p3), .val (.int (2147483647 : Int32)), .val (.int vs), .val (.int em), .val (.int ve), .val (.int lm), .val (.int vn), .val (.ref b22), .val (.int (f_in vn vs ve)), .val (.long vd), .second, .val (.int (1 : Int32))] [])) _
            refine XS.iload X29.here hx rfl (hb hby at_208) rfl ?_
            show Steps p.tables e below (T29.setTop (mkF m 210 #[.val (.int p0), .val (.int p1), .val (.int p2), .val (.int p3), .val (.int (2147483647 : Int32)), .val (.int vs), .val (.int em), .val (.int ve), .val (.int lm), .val (.int vn), .val (.ref b22), .val (.int (f_in vn vs ve)), .val (.long vd), .second, .val (.int (1 : Int32))] [(.int (f_in vn vs ve))])) _
            refine XS.iload X29.here hx rfl (hb hby at_210) rfl ?_
            show Steps p.tables e below (T29.setTop (mkF m 212 #[.val (.int p0), .val (.int p1), .val (.int p2), .val (.int p3), .val (.int (2147483647 : Int32)), .val (.int vs), .val (.int em), .val (.int ve), .val (.int lm), .val (.int vn), .val (.ref b22), .val (.int (f_in vn vs ve)), .val (.long vd), .second, .val (.int (1 : Int32))] [(.int (1 : Int32)), (.int (f_in vn vs ve))])) _
            refine XS.icmpNo X29.here hx rfl (hb hby at_212) rfl (teq (by
                have hd := hm32
                rw [own_in]
                simp only [← Int32.toInt_inj, Int64.lt_iff_toInt_lt, Int64.reduceToInt, Int32.reduceToInt] at hc157_34 hc170_37 hc183_40
                repeat' split
                all_goals first | rfl | (exfalso; omega) : (f_in vn vs ve) = (1 : Int32))).2 ?_
            show Steps p.tables e below (T29.setTop (mkF m 215 #[.val (.int p0), .val (.int p1), .val (.int p2), .val (.int p3), .val (.int (2147483647 : Int32)), .val (.int vs), .val (.int em), .val (.int ve), .val (.int lm), .val (.int vn), .val (.ref b22), .val (.int (f_in vn vs ve)), .val (.long vd), .second, .val (.int (1 : Int32))] [])) _
            refine XS.iconst X29.here hx rfl (hb hby at_215) ?_
            show Steps p.tables e below (T29.setTop (mkF m 216 #[.val (.int p0), .val (.int p1), .val (.int p2), .val (.int p3), .val (.int (2147483647 : Int32)), .val (.int vs), .val (.int em), .val (.int ve), .val (.int lm), .val (.int vn), .val (.ref b22), .val (.int (f_in vn vs ve)), .val (.long vd), .second, .val (.int (1 : Int32))] [(.int (1 : Int32))])) _
            refine XS.goto X29.here hx rfl (pc0 := 216) (pc' := 220) rfl (hb hby at_216) (by decide) (by decide) ?_
            exact kt)
          obtain ⟨fs, hr, hrun, hended, hW, hsame⟩ := X29.leave (v := some (.int (1 : Int32))) (fun h => by rw [Bd.returns] at h; cases h)
          refine ⟨_, _, pre41 _ ?_, hrun, hended, _, _, rfl, ?_, ⟨_, rfl⟩, hW, hsame.mono (by decide) (by decide)⟩
          · show Steps p.tables e below (T29.setTop (mkF m 220 #[.val (.int p0), .val (.int p1), .val (.int p2), .val (.int p3), .val (.int (2147483647 : Int32)), .val (.int vs), .val (.int em), .val (.int ve), .val (.int lm), .val (.int vn), .val (.ref b22), .val (.int (f_in vn vs ve)), .val (.long vd), .second, .val (.int (1 : Int32))] [(.int (1 : Int32))])) _
            exact retN X29 hx (t := .boolean) Bd.returns (by simp) (hb hby at_220) hr
          · show Q0 Z p0 p1 p2 p3 h0 n0 _ T29.heap _
            rw [e29]
            exact ⟨rfl, N29⟩
        · have pre42 : ∀ t, Steps p.tables e below (T29.setTop (mkF m 196 #[.val (.int p0), .val (.int p1), .val (.int p2), .val (.int p3), .val (.int (2147483647 : Int32)), .val (.int vs), .val (.int em), .val (.int ve), .val (.int lm), .val (.int vn), .val (.ref b22), .val (.int (f_in vn vs ve)), .val (.long vd), .second, .unset] [(.int (2147483647 : Int32)), (.int ve)])) t → Steps p.tables e below (s₁.setTop (entryFrame m #[(.int p0), (.int p1), (.int p2), (.int p3)] maxLocals)) t := fun t kt => pre39 t (by
            show Steps p.tables e below (T29.setTop (mkF m 183 #[.val (.int p0), .val (.int p1), .val (.int p2), .val (.int p3), .val (.int (2147483647 : Int32)), .val (.int vs), .val (.int em), .val (.int ve), .val (.int lm), .val (.int vn), .val (.ref b22), .val (.int (f_in vn vs ve)), .val (.long vd), .second, .unset] [(.int vs), (.int ve)])) _
            refine XS.icmpYes X29.here hx rfl (pc0 := 183) (pc' := 192) rfl (hb hby at_183) rfl (feq hc183_40).2 (by decide) (by decide) ?_
            show Steps p.tables e below (T29.setTop (mkF m 192 #[.val (.int p0), .val (.int p1), .val (.int p2), .val (.int p3), .val (.int (2147483647 : Int32)), .val (.int vs), .val (.int em), .val (.int ve), .val (.int lm), .val (.int vn), .val (.ref b22), .val (.int (f_in vn vs ve)), .val (.long vd), .second, .unset] [])) _
            refine XS.iload X29.here hx rfl (hb hby at_192) rfl ?_
            show Steps p.tables e below (T29.setTop (mkF m 194 #[.val (.int p0), .val (.int p1), .val (.int p2), .val (.int p3), .val (.int (2147483647 : Int32)), .val (.int vs), .val (.int em), .val (.int ve), .val (.int lm), .val (.int vn), .val (.ref b22), .val (.int (f_in vn vs ve)), .val (.long vd), .second, .unset] [(.int ve)])) _
            refine XS.iload X29.here hx rfl (hb hby at_194) rfl ?_
            exact kt)
          by_cases hc196_43 : ve = (2147483647 : Int32)
          · have pre44 : ∀ t, Steps p.tables e below (T29.setTop (mkF m 220 #[.val (.int p0), .val (.int p1), .val (.int p2), .val (.int p3), .val (.int (2147483647 : Int32)), .val (.int vs), .val (.int em), .val (.int ve), .val (.int lm), .val (.int vn), .val (.ref b22), .val (.int (f_in vn vs ve)), .val (.long vd), .second, .val (.int (1 : Int32))] [(.int (1 : Int32))])) t → Steps p.tables e below (s₁.setTop (entryFrame m #[(.int p0), (.int p1), (.int p2), (.int p3)] maxLocals)) t := fun t kt => pre42 t (by
              show Steps p.tables e below (T29.setTop (mkF m 196 #[.val (.int p0), .val (.int p1), .val (.int p2), .val (.int p3), .val (.int (2147483647 : Int32)), .val (.int vs), .val (.int em), .val (.int ve), .val (.int lm), .val (.int vn), .val (.ref b22), .val (.int (f_in vn vs ve)), .val (.long vd), .second, .unset] [(.int (2147483647 : Int32)), (.int ve)])) _
              refine XS.icmpNo X29.here hx rfl (hb hby at_196) rfl (teq hc196_43).2 ?_
              show Steps p.tables e below (T29.setTop (mkF m 199 #[.val (.int p0), .val (.int p1), .val (.int p2), .val (.int p3), .val (.int (2147483647 : Int32)), .val (.int vs), .val (.int em), .val (.int ve), .val (.int lm), .val (.int vn), .val (.ref b22), .val (.int (f_in vn vs ve)), .val (.long vd), .second, .unset] [])) _
              refine XS.iconst X29.here hx rfl (hb hby at_199) ?_
              show Steps p.tables e below (T29.setTop (mkF m 200 #[.val (.int p0), .val (.int p1), .val (.int p2), .val (.int p3), .val (.int (2147483647 : Int32)), .val (.int vs), .val (.int em), .val (.int ve), .val (.int lm), .val (.int vn), .val (.ref b22), .val (.int (f_in vn vs ve)), .val (.long vd), .second, .unset] [(.int (1 : Int32))])) _
              refine XS.istore X29.here hx rfl (hb hby at_200) rfl (l' := #[.val (.int p0), .val (.int p1), .val (.int p2), .val (.int p3), .val (.int (2147483647 : Int32)), .val (.int vs), .val (.int em), .val (.int ve), .val (.int lm), .val (.int vn), .val (.ref b22), .val (.int (f_in vn vs ve)), .val (.long vd), .second, .val (.int (1 : Int32))]) rfl ?_
              show Steps p.tables e below (T29.setTop (mkF m 202 #[.val (.int p0), .val (.int p1), .val (.int p2), .val (.int p3), .val (.int (2147483647 : Int32)), .val (.int vs), .val (.int em), .val (.int ve), .val (.int lm), .val (.int vn), .val (.ref b22), .val (.int (f_in vn vs ve)), .val (.long vd), .second, .val (.int (1 : Int32))] [])) _
              refine XS.goto X29.here hx rfl (pc0 := 202) (pc' := 208) rfl (hb hby at_202) (by decide) (by decide) ?_
              show Steps p.tables e below (T29.setTop (mkF m 208 #[.val (.int p0), .val (.int p1), .val (.int p2), .val (.int p3), .val (.int (2147483647 : Int32)), .val (.int vs), .val (.int em), .val (.int ve), .val (.int lm), .val (.int vn), .val (.ref b22), .val (.int (f_in vn vs ve)), .val (.long vd), .second, .val (.int (1 : Int32))] [])) _
              refine XS.iload X29.here hx rfl (hb hby at_208) rfl ?_
              show Steps p.tables e below (T29.setTop (mkF m 210 #[.val (.int p0), .val (.int p1), .val (.int p2), .val (.int p3), .val (.int (2147483647 : Int32)), .val (.int vs), .val (.int em), .val (.int ve), .val (.int lm), .val (.int vn), .val (.ref b22), .val (.int (f_in vn vs ve)), .val (.long vd), .second, .val (.int (1 : Int32))] [(.int (f_in vn vs ve))])) _
              refine XS.iload X29.here hx rfl (hb hby at_210) rfl ?_
              show Steps p.tables e below (T29.setTop (mkF m 212 #[.val (.int p0), .val (.int p1), .val (.int p2), .val (.int p3), .val (.int (2147483647 : Int32)), .val (.int vs), .val (.int em), .val (.int ve), .val (.int lm), .val (.int vn), .val (.ref b22), .val (.int (f_in vn vs ve)), .val (.long vd), .second, .val (.int (1 : Int32))] [(.int (1 : Int32)), (.int (f_in vn vs ve))])) _
              refine XS.icmpNo X29.here hx rfl (hb hby at_212) rfl (teq (by
                  have hd := hm32
                  rw [own_in]
                  simp only [← Int32.toInt_inj, Int64.lt_iff_toInt_lt, Int64.reduceToInt, Int32.reduceToInt] at hc157_34 hc170_37 hc183_40 hc196_43
                  repeat' split
                  all_goals first | rfl | (exfalso; omega) : (f_in vn vs ve) = (1 : Int32))).2 ?_
              show Steps p.tables e below (T29.setTop (mkF m 215 #[.val (.int p0), .val (.int p1), .val (.int p2), .val (.int p3), .val (.int (2147483647 : Int32)), .val (.int vs), .val (.int em), .val (.int ve), .val (.int lm), .val (.int vn), .val (.ref b22), .val (.int (f_in vn vs ve)), .val (.long vd), .second, .val (.int (1 : Int32))] [])) _
              refine XS.iconst X29.here hx rfl (hb hby at_215) ?_
              show Steps p.tables e below (T29.setTop (mkF m 216 #[.val (.int p0), .val (.int p1), .val (.int p2), .val (.int p3), .val (.int (2147483647 : Int32)), .val (.int vs), .val (.int em), .val (.int ve), .val (.int lm), .val (.int vn), .val (.ref b22), .val (.int (f_in vn vs ve)), .val (.long vd), .second, .val (.int (1 : Int32))] [(.int (1 : Int32))])) _
              refine XS.goto X29.here hx rfl (pc0 := 216) (pc' := 220) rfl (hb hby at_216) (by decide) (by decide) ?_
              exact kt)
            obtain ⟨fs, hr, hrun, hended, hW, hsame⟩ := X29.leave (v := some (.int (1 : Int32))) (fun h => by rw [Bd.returns] at h; cases h)
            refine ⟨_, _, pre44 _ ?_, hrun, hended, _, _, rfl, ?_, ⟨_, rfl⟩, hW, hsame.mono (by decide) (by decide)⟩
            · show Steps p.tables e below (T29.setTop (mkF m 220 #[.val (.int p0), .val (.int p1), .val (.int p2), .val (.int p3), .val (.int (2147483647 : Int32)), .val (.int vs), .val (.int em), .val (.int ve), .val (.int lm), .val (.int vn), .val (.ref b22), .val (.int (f_in vn vs ve)), .val (.long vd), .second, .val (.int (1 : Int32))] [(.int (1 : Int32))])) _
              exact retN X29 hx (t := .boolean) Bd.returns (by simp) (hb hby at_220) hr
            · show Q0 Z p0 p1 p2 p3 h0 n0 _ T29.heap _
              rw [e29]
              exact ⟨rfl, N29⟩
          · have pre45 : ∀ t, Steps p.tables e below (T29.setTop (mkF m 220 #[.val (.int p0), .val (.int p1), .val (.int p2), .val (.int p3), .val (.int (2147483647 : Int32)), .val (.int vs), .val (.int em), .val (.int ve), .val (.int lm), .val (.int vn), .val (.ref b22), .val (.int (f_in vn vs ve)), .val (.long vd), .second, .val (.int (0 : Int32))] [(.int (1 : Int32))])) t → Steps p.tables e below (s₁.setTop (entryFrame m #[(.int p0), (.int p1), (.int p2), (.int p3)] maxLocals)) t := fun t kt => pre42 t (by
              show Steps p.tables e below (T29.setTop (mkF m 196 #[.val (.int p0), .val (.int p1), .val (.int p2), .val (.int p3), .val (.int (2147483647 : Int32)), .val (.int vs), .val (.int em), .val (.int ve), .val (.int lm), .val (.int vn), .val (.ref b22), .val (.int (f_in vn vs ve)), .val (.long vd), .second, .unset] [(.int (2147483647 : Int32)), (.int ve)])) _
              refine XS.icmpYes X29.here hx rfl (pc0 := 196) (pc' := 205) rfl (hb hby at_196) rfl (feq hc196_43).2 (by decide) (by decide) ?_
              show Steps p.tables e below (T29.setTop (mkF m 205 #[.val (.int p0), .val (.int p1), .val (.int p2), .val (.int p3), .val (.int (2147483647 : Int32)), .val (.int vs), .val (.int em), .val (.int ve), .val (.int lm), .val (.int vn), .val (.ref b22), .val (.int (f_in vn vs ve)), .val (.long vd), .second, .unset] [])) _
              refine XS.iconst X29.here hx rfl (hb hby at_205) ?_
              show Steps p.tables e below (T29.setTop (mkF m 206 #[.val (.int p0), .val (.int p1), .val (.int p2), .val (.int p3), .val (.int (2147483647 : Int32)), .val (.int vs), .val (.int em), .val (.int ve), .val (.int lm), .val (.int vn), .val (.ref b22), .val (.int (f_in vn vs ve)), .val (.long vd), .second, .unset] [(.int (0 : Int32))])) _
              refine XS.istore X29.here hx rfl (hb hby at_206) rfl (l' := #[.val (.int p0), .val (.int p1), .val (.int p2), .val (.int p3), .val (.int (2147483647 : Int32)), .val (.int vs), .val (.int em), .val (.int ve), .val (.int lm), .val (.int vn), .val (.ref b22), .val (.int (f_in vn vs ve)), .val (.long vd), .second, .val (.int (0 : Int32))]) rfl ?_
              show Steps p.tables e below (T29.setTop (mkF m 208 #[.val (.int p0), .val (.int p1), .val (.int p2), .val (.int p3), .val (.int (2147483647 : Int32)), .val (.int vs), .val (.int em), .val (.int ve), .val (.int lm), .val (.int vn), .val (.ref b22), .val (.int (f_in vn vs ve)), .val (.long vd), .second, .val (.int (0 : Int32))] [])) _
              refine XS.iload X29.here hx rfl (hb hby at_208) rfl ?_
              show Steps p.tables e below (T29.setTop (mkF m 210 #[.val (.int p0), .val (.int p1), .val (.int p2), .val (.int p3), .val (.int (2147483647 : Int32)), .val (.int vs), .val (.int em), .val (.int ve), .val (.int lm), .val (.int vn), .val (.ref b22), .val (.int (f_in vn vs ve)), .val (.long vd), .second, .val (.int (0 : Int32))] [(.int (f_in vn vs ve))])) _
              refine XS.iload X29.here hx rfl (hb hby at_210) rfl ?_
              show Steps p.tables e below (T29.setTop (mkF m 212 #[.val (.int p0), .val (.int p1), .val (.int p2), .val (.int p3), .val (.int (2147483647 : Int32)), .val (.int vs), .val (.int em), .val (.int ve), .val (.int lm), .val (.int vn), .val (.ref b22), .val (.int (f_in vn vs ve)), .val (.long vd), .second, .val (.int (0 : Int32))] [(.int (0 : Int32)), (.int (f_in vn vs ve))])) _
              refine XS.icmpNo X29.here hx rfl (hb hby at_212) rfl (teq (by
                  have hd := hm32
                  rw [own_in]
                  simp only [← Int32.toInt_inj, Int64.lt_iff_toInt_lt, Int64.reduceToInt, Int32.reduceToInt] at hc157_34 hc170_37 hc183_40 hc196_43
                  repeat' split
                  all_goals first | rfl | (exfalso; omega) : (f_in vn vs ve) = (0 : Int32))).2 ?_
              show Steps p.tables e below (T29.setTop (mkF m 215 #[.val (.int p0), .val (.int p1), .val (.int p2), .val (.int p3), .val (.int (2147483647 : Int32)), .val (.int vs), .val (.int em), .val (.int ve), .val (.int lm), .val (.int vn), .val (.ref b22), .val (.int (f_in vn vs ve)), .val (.long vd), .second, .val (.int (0 : Int32))] [])) _
              refine XS.iconst X29.here hx rfl (hb hby at_215) ?_
              show Steps p.tables e below (T29.setTop (mkF m 216 #[.val (.int p0), .val (.int p1), .val (.int p2), .val (.int p3), .val (.int (2147483647 : Int32)), .val (.int vs), .val (.int em), .val (.int ve), .val (.int lm), .val (.int vn), .val (.ref b22), .val (.int (f_in vn vs ve)), .val (.long vd), .second, .val (.int (0 : Int32))] [(.int (1 : Int32))])) _
              refine XS.goto X29.here hx rfl (pc0 := 216) (pc' := 220) rfl (hb hby at_216) (by decide) (by decide) ?_
              exact kt)
            obtain ⟨fs, hr, hrun, hended, hW, hsame⟩ := X29.leave (v := some (.int (1 : Int32))) (fun h => by rw [Bd.returns] at h; cases h)
            refine ⟨_, _, pre45 _ ?_, hrun, hended, _, _, rfl, ?_, ⟨_, rfl⟩, hW, hsame.mono (by decide) (by decide)⟩
            · show Steps p.tables e below (T29.setTop (mkF m 220 #[.val (.int p0), .val (.int p1), .val (.int p2), .val (.int p3), .val (.int (2147483647 : Int32)), .val (.int vs), .val (.int em), .val (.int ve), .val (.int lm), .val (.int vn), .val (.ref b22), .val (.int (f_in vn vs ve)), .val (.long vd), .second, .val (.int (0 : Int32))] [(.int (1 : Int32))])) _
              exact retN X29 hx (t := .boolean) Bd.returns (by simp) (hb hby at_220) hr
            · show Q0 Z p0 p1 p2 p3 h0 n0 _ T29.heap _
              rw [e29]
              exact ⟨rfl, N29⟩
  · have pre46 : ∀ t, Steps p.tables e below (s₁.setTop (mkF m 30 #[.val (.int p0), .val (.int p1), .val (.int p2), .val (.int p3), .val (.int (2147483647 : Int32)), .val (.int vs), .val (.int em), .unset, .unset, .unset, .unset, .unset, .unset, .unset, .unset] [(.int (1 : Int32)), (.int em)])) t → Steps p.tables e below (s₁.setTop (entryFrame m #[(.int p0), (.int p1), (.int p2), (.int p3)] maxLocals)) t := fun t kt => pre5 t (by
      show Steps p.tables e below (s₁.setTop (mkF m 17 #[.val (.int p0), .val (.int p1), .val (.int p2), .val (.int p3), .val (.int (2147483647 : Int32)), .val (.int vs), .val (.int em), .unset, .unset, .unset, .unset, .unset, .unset, .unset, .unset] [(.int em)])) _
      refine XS.ifYes X0.here hx rfl (pc0 := 17) (pc' := 27) rfl (hb hby at_17) rfl ((if0 _ _).trans (feq hc17_6).2) (by decide) (by decide) ?_
      show Steps p.tables e below (s₁.setTop (mkF m 27 #[.val (.int p0), .val (.int p1), .val (.int p2), .val (.int p3), .val (.int (2147483647 : Int32)), .val (.int vs), .val (.int em), .unset, .unset, .unset, .unset, .unset, .unset, .unset, .unset] [])) _
      refine XS.iload X0.here hx rfl (hb hby at_27) rfl ?_
      show Steps p.tables e below (s₁.setTop (mkF m 29 #[.val (.int p0), .val (.int p1), .val (.int p2), .val (.int p3), .val (.int (2147483647 : Int32)), .val (.int vs), .val (.int em), .unset, .unset, .unset, .unset, .unset, .unset, .unset, .unset] [(.int em)])) _
      refine XS.iconst X0.here hx rfl (hb hby at_29) ?_
      exact kt)
    by_cases hc30_47 : em = (1 : Int32)
    · have pre48 : ∀ t, Steps p.tables e below (s₁.setTop (mkF m 70 #[.val (.int p0), .val (.int p1), .val (.int p2), .val (.int p3), .val (.int (2147483647 : Int32)), .val (.int vs), .val (.int em), .val (.int (2147483647 : Int32)), .unset, .unset, .unset, .unset, .unset, .unset, .unset] [])) t → Steps p.tables e below (s₁.setTop (entryFrame m #[(.int p0), (.int p1), (.int p2), (.int p3)] maxLocals)) t := fun t kt => pre46 t (by
        show Steps p.tables e below (s₁.setTop (mkF m 30 #[.val (.int p0), .val (.int p1), .val (.int p2), .val (.int p3), .val (.int (2147483647 : Int32)), .val (.int vs), .val (.int em), .unset, .unset, .unset, .unset, .unset, .unset, .unset, .unset] [(.int (1 : Int32)), (.int em)])) _
        refine XS.icmpNo X0.here hx rfl (hb hby at_30) rfl (teq hc30_47).2 ?_
        show Steps p.tables e below (s₁.setTop (mkF m 33 #[.val (.int p0), .val (.int p1), .val (.int p2), .val (.int p3), .val (.int (2147483647 : Int32)), .val (.int vs), .val (.int em), .unset, .unset, .unset, .unset, .unset, .unset, .unset, .unset] [])) _
        refine XS.iload X0.here hx rfl (hb hby at_33) rfl ?_
        show Steps p.tables e below (s₁.setTop (mkF m 35 #[.val (.int p0), .val (.int p1), .val (.int p2), .val (.int p3), .val (.int (2147483647 : Int32)), .val (.int vs), .val (.int em), .unset, .unset, .unset, .unset, .unset, .unset, .unset, .unset] [(.int (2147483647 : Int32))])) _
        refine XS.istore X0.here hx rfl (hb hby at_35) rfl (l' := #[.val (.int p0), .val (.int p1), .val (.int p2), .val (.int p3), .val (.int (2147483647 : Int32)), .val (.int vs), .val (.int em), .val (.int (2147483647 : Int32)), .unset, .unset, .unset, .unset, .unset, .unset, .unset]) rfl ?_
        show Steps p.tables e below (s₁.setTop (mkF m 37 #[.val (.int p0), .val (.int p1), .val (.int p2), .val (.int p3), .val (.int (2147483647 : Int32)), .val (.int vs), .val (.int em), .val (.int (2147483647 : Int32)), .unset, .unset, .unset, .unset, .unset, .unset, .unset] [])) _
        refine XS.goto X0.here hx rfl (pc0 := 37) (pc' := 70) rfl (hb hby at_37) (by decide) (by decide) ?_
        exact kt)
      obtain ⟨ve, hm49, pre49⟩ : ∃ (ve : Int32), (vs.toInt ≤ ve.toInt) ∧ ∀ t, Steps p.tables e below (s₁.setTop (mkF m 70 #[.val (.int p0), .val (.int p1), .val (.int p2), .val (.int p3), .val (.int (2147483647 : Int32)), .val (.int vs), .val (.int em), .val (.int ve), .unset, .unset, .unset, .unset, .unset, .unset, .unset] [])) t → Steps p.tables e below (s₁.setTop (entryFrame m #[(.int p0), (.int p1), (.int p2), (.int p3)] maxLocals)) t := ⟨(2147483647 : Int32), (by have := rng32 vs; simp only [Int32.reduceToInt]; omega), pre48⟩
      have pre50 : ∀ t, Steps p.tables e below (s₁.setTop (mkF m 77 #[.val (.int p0), .val (.int p1), .val (.int p2), .val (.int p3), .val (.int (2147483647 : Int32)), .val (.int vs), .val (.int em), .val (.int ve), .val (.int (((p3.toUInt32 >>> ((2 : Int32) &&& 31).toUInt32).toInt32) &&& (3 : Int32))), .unset, .unset, .unset, .unset, .unset, .unset] [])) t → Steps p.tables e below (s₁.setTop (entryFrame m #[(.int p0), (.int p1), (.int p2), (.int p3)] maxLocals)) t := fun t kt => pre49 t (by
        show Steps p.tables e below (s₁.setTop (mkF m 70 #[.val (.int p0), .val (.int p1), .val (.int p2), .val (.int p3), .val (.int (2147483647 : Int32)), .val (.int vs), .val (.int em), .val (.int ve), .unset, .unset, .unset, .unset, .unset, .unset, .unset] [])) _
        refine XS.iloadN X0.here hx rfl (hb hby at_70) rfl ?_
        show Steps p.tables e below (s₁.setTop (mkF m 71 #[.val (.int p0), .val (.int p1), .val (.int p2), .val (.int p3), .val (.int (2147483647 : Int32)), .val (.int vs), .val (.int em), .val (.int ve), .unset, .unset, .unset, .unset, .unset, .unset, .unset] [(.int p3)])) _
        refine XS.iconst X0.here hx rfl (hb hby at_71) ?_
        show Steps p.tables e below (s₁.setTop (mkF m 72 #[.val (.int p0), .val (.int p1), .val (.int p2), .val (.int p3), .val (.int (2147483647 : Int32)), .val (.int vs), .val (.int em), .val (.int ve), .unset, .unset, .unset, .unset, .unset, .unset, .unset] [(.int (2 : Int32)), (.int p3)])) _
        refine XS.iushr X0.here hx rfl (hb hby at_72) rfl ?_
        show Steps p.tables e below (s₁.setTop (mkF m 73 #[.val (.int p0), .val (.int p1), .val (.int p2), .val (.int p3), .val (.int (2147483647 : Int32)), .val (.int vs), .val (.int em), .val (.int ve), .unset, .unset, .unset, .unset, .unset, .unset, .unset] [(.int ((p3.toUInt32 >>> ((2 : Int32) &&& 31).toUInt32).toInt32))])) _
        refine XS.iconst X0.here hx rfl (hb hby at_73) ?_
        show Steps p.tables e below (s₁.setTop (mkF m 74 #[.val (.int p0), .val (.int p1), .val (.int p2), .val (.int p3), .val (.int (2147483647 : Int32)), .val (.int vs), .val (.int em), .val (.int ve), .unset, .unset, .unset, .unset, .unset, .unset, .unset] [(.int (3 : Int32)), (.int ((p3.toUInt32 >>> ((2 : Int32) &&& 31).toUInt32).toInt32))])) _
        refine XS.iand X0.here hx rfl (hb hby at_74) rfl ?_
        show Steps p.tables e below (s₁.setTop (mkF m 75 #[.val (.int p0), .val (.int p1), .val (.int p2), .val (.int p3), .val (.int (2147483647 : Int32)), .val (.int vs), .val (.int em), .val (.int ve), .unset, .unset, .unset, .unset, .unset, .unset, .unset] [(.int (((p3.toUInt32 >>> ((2 : Int32) &&& 31).toUInt32).toInt32) &&& (3 : Int32)))])) _
        refine XS.istore X0.here hx rfl (hb hby at_75) rfl (l' := #[.val (.int p0), .val (.int p1), .val (.int p2), .val (.int p3), .val (.int (2147483647 : Int32)), .val (.int vs), .val (.int em), .val (.int ve), .val (.int (((p3.toUInt32 >>> ((2 : Int32) &&& 31).toUInt32).toInt32) &&& (3 : Int32))), .unset, .unset, .unset, .unset, .unset, .unset]) rfl ?_
        exact kt)
      obtain ⟨lm, hm51, pre51⟩ : ∃ (lm : Int32), (True) ∧ ∀ t, Steps p.tables e below (s₁.setTop (mkF m 77 #[.val (.int p0), .val (.int p1), .val (.int p2), .val (.int p3), .val (.int (2147483647 : Int32)), .val (.int vs), .val (.int em), .val (.int ve), .val (.int lm), .unset, .unset, .unset, .unset, .unset, .unset] [])) t → Steps p.tables e below (s₁.setTop (entryFrame m #[(.int p0), (.int p1), (.int p2), (.int p3)] maxLocals)) t := ⟨(((p3.toUInt32 >>> ((2 : Int32) &&& 31).toUInt32).toInt32) &&& (3 : Int32)), trivial, pre50⟩
      obtain ⟨vn, hm52, pre52⟩ : ∃ (vn : Int32), (True) ∧ ∀ t, Steps p.tables e below (s₁.setTop (mkF m 122 #[.val (.int p0), .val (.int p1), .val (.int p2), .val (.int p3), .val (.int (2147483647 : Int32)), .val (.int vs), .val (.int em), .val (.int ve), .val (.int lm), .val (.int vn), .unset, .unset, .unset, .unset, .unset] [])) t → Steps p.tables e below (s₁.setTop (entryFrame m #[(.int p0), (.int p1), (.int p2), (.int p3)] maxLocals)) t := by
        have pre53 : ∀ t, Steps p.tables e below (s₁.setTop (mkF m 79 #[.val (.int p0), .val (.int p1), .val (.int p2), .val (.int p3), .val (.int (2147483647 : Int32)), .val (.int vs), .val (.int em), .val (.int ve), .val (.int lm), .unset, .unset, .unset, .unset, .unset, .unset] [(.int lm)])) t → Steps p.tables e below (s₁.setTop (entryFrame m #[(.int p0), (.int p1), (.int p2), (.int p3)] maxLocals)) t := fun t kt => pre51 t (by
          show Steps p.tables e below (s₁.setTop (mkF m 77 #[.val (.int p0), .val (.int p1), .val (.int p2), .val (.int p3), .val (.int (2147483647 : Int32)), .val (.int vs), .val (.int em), .val (.int ve), .val (.int lm), .unset, .unset, .unset, .unset, .unset, .unset] [])) _
          refine XS.iload X0.here hx rfl (hb hby at_77) rfl ?_
          exact kt)
        by_cases hc79_54 : lm = (0 : Int32)
        · have pre55 : ∀ t, Steps p.tables e below (s₁.setTop (mkF m 122 #[.val (.int p0), .val (.int p1), .val (.int p2), .val (.int p3), .val (.int (2147483647 : Int32)), .val (.int vs), .val (.int em), .val (.int ve), .val (.int lm), .val (.int p2), .unset, .unset, .unset, .unset, .unset] [])) t → Steps p.tables e below (s₁.setTop (entryFrame m #[(.int p0), (.int p1), (.int p2), (.int p3)] maxLocals)) t := fun t kt => pre53 t (by
            show Steps p.tables e below (s₁.setTop (mkF m 79 #[.val (.int p0), .val (.int p1), .val (.int p2), .val (.int p3), .val (.int (2147483647 : Int32)), .val (.int vs), .val (.int em), .val (.int ve), .val (.int lm), .unset, .unset, .unset, .unset, .unset, .unset] [(.int lm)])) _
            refine XS.ifNo X0.here hx rfl (hb hby at_79) rfl ((if0 _ _).trans (teq hc79_54).2) ?_
            show Steps p.tables e below (s₁.setTop (mkF m 82 #[.val (.int p0), .val (.int p1), .val (.int p2), .val (.int p3), .val (.int (2147483647 : Int32)), .val (.int vs), .val (.int em), .val (.int ve), .val (.int lm), .unset, .unset, .unset, .unset, .unset, .unset] [])) _
            refine XS.iloadN X0.here hx rfl (hb hby at_82) rfl ?_
            show Steps p.tables e below (s₁.setTop (mkF m 83 #[.val (.int p0), .val (.int p1), .val (.int p2), .val (.int p3), .val (.int (2147483647 : Int32)), .val (.int vs), .val (.int em), .val (.int ve), .val (.int lm), .unset, .unset, .unset, .unset, .unset, .unset] [(.int p2)])) _
            refine XS.istore X0.here hx rfl (hb hby at_83) rfl (l' := #[.val (.int p0), .val (.int p1), .val (.int p2), .val (.int p3), .val (.int (2147483647 : Int32)), .val (.int vs), .val (.int em), .val (.int ve), .val (.int lm), .val (.int p2), .unset, .unset, .unset, .unset, .unset]) rfl ?_
            show Steps p.tables e below (s₁.setTop (mkF m 85 #[.val (.int p0), .val (.int p1), .val (.int p2), .val (.int p3), .val (.int (2147483647 : Int32)), .val (.int vs), .val (.int em), .val (.int ve), .val (.int lm), .val (.int p2), .unset, .unset, .unset, .unset, .unset] [])) _
            refine XS.goto X0.here hx rfl (pc0 := 85) (pc' := 122) rfl (hb hby at_85) (by decide) (by decide) ?_
            exact kt)
          exact ⟨p2, trivial, pre55⟩
        · have pre56 : ∀ t, Steps p.tables e below (s₁.setTop (mkF m 91 #[.val (.int p0), .val (.int p1), .val (.int p2), .val (.int p3), .val (.int (2147483647 : Int32)), .val (.int vs), .val (.int em), .val (.int ve), .val (.int lm), .unset, .unset, .unset, .unset, .unset, .unset] [(.int (1 : Int32)), (.int lm)])) t → Steps p.tables e below (s₁.setTop (entryFrame m #[(.int p0), (.int p1), (.int p2), (.int p3)] maxLocals)) t := fun t kt => pre53 t (by
            show Steps p.tables e below (s₁.setTop (mkF m 79 #[.val (.int p0), .val (.int p1), .val (.int p2), .val (.int p3), .val (.int (2147483647 : Int32)), .val (.int vs), .val (.int em), .val (.int ve), .val (.int lm), .unset, .unset, .unset, .unset, .unset, .unset] [(.int lm)])) _
            refine XS.ifYes X0.here hx rfl (pc0 := 79) (pc' := 88) rfl (hb hby at_79) rfl ((if0 _ _).trans (feq hc79_54).2) (by decide) (by decide) ?_
            show Steps p.tables e below (s₁.setTop (mkF m 88 #[.val (.int p0), .val (.int p1), .val (.int p2), .val (.int p3), .val (.int (2147483647 : Int32)), .val (.int vs), .val (.int em), .val (.int ve), .val (.int lm), .unset, .unset, .unset, .unset, .unset, .unset] [])) _
            refine XS.iload X0.here hx rfl (hb hby at_88) rfl ?_
            show Steps p.tables e below (s₁.setTop (mkF m 90 #[.val (.int p0), .val (.int p1), .val (.int p2), .val (.int p3), .val (.int (2147483647 : Int32)), .val (.int vs), .val (.int em), .val (.int ve), .val (.int lm), .unset, .unset, .unset, .unset, .unset, .unset] [(.int lm)])) _
            refine XS.iconst X0.here hx rfl (hb hby at_90) ?_
            exact kt)
          by_cases hc91_57 : lm = (1 : Int32)
          · have pre58 : ∀ t, Steps p.tables e below (s₁.setTop (mkF m 122 #[.val (.int p0), .val (.int p1), .val (.int p2), .val (.int p3), .val (.int (2147483647 : Int32)), .val (.int vs), .val (.int em), .val (.int ve), .val (.int lm), .val (.int vs), .unset, .unset, .unset, .unset, .unset] [])) t → Steps p.tables e below (s₁.setTop (entryFrame m #[(.int p0), (.int p1), (.int p2), (.int p3)] maxLocals)) t := fun t kt => pre56 t (by
              show Steps p.tables e below (s₁.setTop (mkF m 91 #[.val (.int p0), .val (.int p1), .val (.int p2), .val (.int p3), .val (.int (2147483647 : Int32)), .val (.int vs), .val (.int em), .val (.int ve), .val (.int lm), .unset, .unset, .unset, .unset, .unset, .unset] [(.int (1 : Int32)), (.int lm)])) _
              refine XS.icmpNo X0.here hx rfl (hb hby at_91) rfl (teq hc91_57).2 ?_
              show Steps p.tables e below (s₁.setTop (mkF m 94 #[.val (.int p0), .val (.int p1), .val (.int p2), .val (.int p3), .val (.int (2147483647 : Int32)), .val (.int vs), .val (.int em), .val (.int ve), .val (.int lm), .unset, .unset, .unset, .unset, .unset, .unset] [])) _
              refine XS.iload X0.here hx rfl (hb hby at_94) rfl ?_
              show Steps p.tables e below (s₁.setTop (mkF m 96 #[.val (.int p0), .val (.int p1), .val (.int p2), .val (.int p3), .val (.int (2147483647 : Int32)), .val (.int vs), .val (.int em), .val (.int ve), .val (.int lm), .unset, .unset, .unset, .unset, .unset, .unset] [(.int vs)])) _
              refine XS.istore X0.here hx rfl (hb hby at_96) rfl (l' := #[.val (.int p0), .val (.int p1), .val (.int p2), .val (.int p3), .val (.int (2147483647 : Int32)), .val (.int vs), .val (.int em), .val (.int ve), .val (.int lm), .val (.int vs), .unset, .unset, .unset, .unset, .unset]) rfl ?_
              show Steps p.tables e below (s₁.setTop (mkF m 98 #[.val (.int p0), .val (.int p1), .val (.int p2), .val (.int p3), .val (.int (2147483647 : Int32)), .val (.int vs), .val (.int em), .val (.int ve), .val (.int lm), .val (.int vs), .unset, .unset, .unset, .unset, .unset] [])) _
              refine XS.goto X0.here hx rfl (pc0 := 98) (pc' := 122) rfl (hb hby at_98) (by decide) (by decide) ?_
              exact kt)
            exact ⟨vs, trivial, pre58⟩
          · have pre59 : ∀ t, Steps p.tables e below (s₁.setTop (mkF m 104 #[.val (.int p0), .val (.int p1), .val (.int p2), .val (.int p3), .val (.int (2147483647 : Int32)), .val (.int vs), .val (.int em), .val (.int ve), .val (.int lm), .unset, .unset, .unset, .unset, .unset, .unset] [(.int (2 : Int32)), (.int lm)])) t → Steps p.tables e below (s₁.setTop (entryFrame m #[(.int p0), (.int p1), (.int p2), (.int p3)] maxLocals)) t := fun t kt => pre56 t (by
              show Steps p.tables e below (s₁.setTop (mkF m 91 #[.val (.int p0), .val (.int p1), .val (.int p2), .val (.int p3), .val (.int (2147483647 : Int32)), .val (.int vs), .val (.int em), .val (.int ve), .val (.int lm), .unset, .unset, .unset, .unset, .unset, .unset] [(.int (1 : Int32)), (.int lm)])) _
              refine XS.icmpYes X0.here hx rfl (pc0 := 91) (pc' := 101) rfl (hb hby at_91) rfl (feq hc91_57).2 (by decide) (by decide) ?_
              show Steps p.tables e below (s₁.setTop (mkF m 101 #[.val (.int p0), .val (.int p1), .val (.int p2), .val (.int p3), .val (.int (2147483647 : Int32)), .val (.int vs), .val (.int em), .val (.int ve), .val (.int lm), .unset, .unset, .unset, .unset, .unset, .unset] [])) _
              refine XS.iload X0.here hx rfl (hb hby at_101) rfl ?_
              show Steps p.tables e below (s₁.setTop (mkF m 103 #[.val (.int p0), .val (.int p1), .val (.int p2), .val (.int p3), .val (.int (2147483647 : Int32)), .val (.int vs), .val (.int em), .val (.int ve), .val (.int lm), .unset, .unset, .unset, .unset, .unset, .unset] [(.int lm)])) _
              refine XS.iconst X0.here hx rfl (hb hby at_103) ?_
              exact kt)
            by_cases hc104_60 : lm = (2 : Int32)
            · have pre61 : ∀ t, Steps p.tables e below (s₁.setTop (mkF m 122 #[.val (.int p0), .val (.int p1), .val (.int p2), .val (.int p3), .val (.int (2147483647 : Int32)), .val (.int vs), .val (.int em), .val (.int ve), .val (.int lm), .val (.int (vs - (1 : Int32))), .unset, .unset, .unset, .unset, .unset] [])) t → Steps p.tables e below (s₁.setTop (entryFrame m #[(.int p0), (.int p1), (.int p2), (.int p3)] maxLocals)) t := fun t kt => pre59 t (by
                show Steps p.tables e below (s₁.setTop (mkF m 104 #[.val (.int p0), .val (.int p1), .val (.int p2), .val (.int p3), .val (.int (2147483647 : Int32)), .val (.int vs), .val (.int em), .val (.int ve), .val (.int lm), .unset, .unset, .unset, .unset, .unset, .unset] [(.int (2 : Int32)), (.int lm)])) _
                refine XS.icmpNo X0.here hx rfl (hb hby at_104) rfl (teq hc104_60).2 ?_
                show Steps p.tables e below (s₁.setTop (mkF m 107 #[.val (.int p0), .val (.int p1), .val (.int p2), .val (.int p3), .val (.int (2147483647 : Int32)), .val (.int vs), .val (.int em), .val (.int ve), .val (.int lm), .unset, .unset, .unset, .unset, .unset, .unset] [])) _
                refine XS.iload X0.here hx rfl (hb hby at_107) rfl ?_
                show Steps p.tables e below (s₁.setTop (mkF m 109 #[.val (.int p0), .val (.int p1), .val (.int p2), .val (.int p3), .val (.int (2147483647 : Int32)), .val (.int vs), .val (.int em), .val (.int ve), .val (.int lm), .unset, .unset, .unset, .unset, .unset, .unset] [(.int vs)])) _
                refine XS.iconst X0.here hx rfl (hb hby at_109) ?_
                show Steps p.tables e below (s₁.setTop (mkF m 110 #[.val (.int p0), .val (.int p1), .val (.int p2), .val (.int p3), .val (.int (2147483647 : Int32)), .val (.int vs), .val (.int em), .val (.int ve), .val (.int lm), .unset, .unset, .unset, .unset, .unset, .unset] [(.int (1 : Int32)), (.int vs)])) _
                refine XS.isub X0.here hx rfl (hb hby at_110) rfl ?_
                show Steps p.tables e below (s₁.setTop (mkF m 111 #[.val (.int p0), .val (.int p1), .val (.int p2), .val (.int p3), .val (.int (2147483647 : Int32)), .val (.int vs), .val (.int em), .val (.int ve), .val (.int lm), .unset, .unset, .unset, .unset, .unset, .unset] [(.int (vs - (1 : Int32)))])) _
                refine XS.istore X0.here hx rfl (hb hby at_111) rfl (l' := #[.val (.int p0), .val (.int p1), .val (.int p2), .val (.int p3), .val (.int (2147483647 : Int32)), .val (.int vs), .val (.int em), .val (.int ve), .val (.int lm), .val (.int (vs - (1 : Int32))), .unset, .unset, .unset, .unset, .unset]) rfl ?_
                show Steps p.tables e below (s₁.setTop (mkF m 113 #[.val (.int p0), .val (.int p1), .val (.int p2), .val (.int p3), .val (.int (2147483647 : Int32)), .val (.int vs), .val (.int em), .val (.int ve), .val (.int lm), .val (.int (vs - (1 : Int32))), .unset, .unset, .unset, .unset, .unset] [])) _
                refine XS.goto X0.here hx rfl (pc0 := 113) (pc' := 122) rfl (hb hby at_113) (by decide) (by decide) ?_
                exact kt)
              exact ⟨(vs - (1 : Int32)), trivial, pre61⟩
            · have pre62 : ∀ t, Steps p.tables e below (s₁.setTop (mkF m 122 #[.val (.int p0), .val (.int p1), .val (.int p2), .val (.int p3), .val (.int (2147483647 : Int32)), .val (.int vs), .val (.int em), .val (.int ve), .val (.int lm), .val (.int (vs + (1 : Int32))), .unset, .unset, .unset, .unset, .unset] [])) t → Steps p.tables e below (s₁.setTop (entryFrame m #[(.int p0), (.int p1), (.int p2), (.int p3)] maxLocals)) t := fun t kt => pre59 t (by
                show Steps p.tables e below (s₁.setTop (mkF m 104 #[.val (.int p0), .val (.int p1), .val (.int p2), .val (.int p3), .val (.int (2147483647 : Int32)), .val (.int vs), .val (.int em), .val (.int ve), .val (.int lm), .unset, .unset, .unset, .unset, .unset, .unset] [(.int (2 : Int32)), (.int lm)])) _
                refine XS.icmpYes X0.here hx rfl (pc0 := 104) (pc' := 116) rfl (hb hby at_104) rfl (feq hc104_60).2 (by decide) (by decide) ?_
                show Steps p.tables e below (s₁.setTop (mkF m 116 #[.val (.int p0), .val (.int p1), .val (.int p2), .val (.int p3), .val (.int (2147483647 : Int32)), .val (.int vs), .val (.int em), .val (.int ve), .val (.int lm), .unset, .unset, .unset, .unset, .unset, .unset] [])) _
                refine XS.iload X0.here hx rfl (hb hby at_116) rfl ?_
                show Steps p.tables e below (s₁.setTop (mkF m 118 #[.val (.int p0), .val (.int p1), .val (.int p2), .val (.int p3), .val (.int (2147483647 : Int32)), .val (.int vs), .val (.int em), .val (.int ve), .val (.int lm), .unset, .unset, .unset, .unset, .unset, .unset] [(.int vs)])) _
                refine XS.iconst X0.here hx rfl (hb hby at_118) ?_
                show Steps p.tables e below (s₁.setTop (mkF m 119 #[.val (.int p0), .val (.int p1), .val (.int p2), .val (.int p3), .val (.int (2147483647 : Int32)), .val (.int vs), .val (.int em), .val (.int ve), .val (.int lm), .unset, .unset, .unset, .unset, .unset, .unset] [(.int (1 : Int32)), (.int vs)])) _
                refine XS.iadd X0.here hx rfl (hb hby at_119) rfl ?_
                show Steps p.tables e below (s₁.setTop (mkF m 120 #[.val (.int p0), .val (.int p1), .val (.int p2), .val (.int p3), .val (.int (2147483647 : Int32)), .val (.int vs), .val (.int em), .val (.int ve), .val (.int lm), .unset, .unset, .unset, .unset, .unset, .unset] [(.int (vs + (1 : Int32)))])) _
                refine XS.istore X0.here hx rfl (hb hby at_120) rfl (l' := #[.val (.int p0), .val (.int p1), .val (.int p2), .val (.int p3), .val (.int (2147483647 : Int32)), .val (.int vs), .val (.int em), .val (.int ve), .val (.int lm), .val (.int (vs + (1 : Int32))), .unset, .unset, .unset, .unset, .unset]) rfl ?_
                exact kt)
              exact ⟨(vs + (1 : Int32)), trivial, pre62⟩
      obtain ⟨T63, h63, X63, e63, E63, A63, D63, -, st63⟩ := newO X0 hx hZ hown (hw _ (List.mem_of_getElem? (i := 1) rfl)) (hw _ (List.mem_of_getElem? (i := 2) rfl)) (hw _ (List.mem_of_getElem? (i := 3) rfl)) e0 (g := (mkF m 122 #[.val (.int p0), .val (.int p1), .val (.int p2), .val (.int p3), .val (.int (2147483647 : Int32)), .val (.int vs), .val (.int em), .val (.int ve), .val (.int lm), .val (.int vn), .unset, .unset, .unset, .unset, .unset] [])) rfl (hb hby at_122) (by decide) (by decide)
      obtain ⟨b63, g63⟩ : ∃ z, z = h0.size := ⟨_, rfl⟩
      rw [← g63] at A63 D63 st63
      have pre64 : ∀ t, Steps p.tables e below (T63.setTop (mkF m 125 #[.val (.int p0), .val (.int p1), .val (.int p2), .val (.int p3), .val (.int (2147483647 : Int32)), .val (.int vs), .val (.int em), .val (.int ve), .val (.int lm), .val (.int vn), .unset, .unset, .unset, .unset, .unset] [(.ref b63)])) t → Steps p.tables e below (s₁.setTop (entryFrame m #[(.int p0), (.int p1), (.int p2), (.int p3)] maxLocals)) t := fun t kt => pre52 t (st63 _ kt)
      have gn63 : n0 ≤ b63 := Nat.le_trans Z0 (Nat.le_of_eq g63.symm)
      have sz63 : h0.size ≤ b63 := Nat.le_trans K0.1 (Nat.le_of_eq g63.symm)
      have K63 : Keep h0 h63 [] := K0.ext E63
      have Z63 : n0 ≤ h63.size := Nat.le_trans Z0 E63.1
      have Fn63_start : Fld Z h63 b63 "com/example/baton/baton/core/PositionRange" "start" "I" (.int (0 : Int32)) := D63 (Or.inr (hw _ (List.mem_of_getElem? (i := 16) rfl))) (ty := .int) (by decide)
      have Fn63_end : Fld Z h63 b63 "com/example/baton/baton/core/PositionRange" "end" "I" (.int (0 : Int32)) := D63 (Or.inr (hw _ (List.mem_of_getElem? (i := 18) rfl))) (ty := .int) (by decide)
      have pre65 : ∀ t, Steps p.tables e below (T63.setTop (mkF m 130 #[.val (.int p0), .val (.int p1), .val (.int p2), .val (.int p3), .val (.int (2147483647 : Int32)), .val (.int vs), .val (.int em), .val (.int ve), .val (.int lm), .val (.int vn), .unset, .unset, .unset, .unset, .unset] [(.int ve), (.int vs), (.ref b63), (.ref b63)])) t → Steps p.tables e below (s₁.setTop (entryFrame m #[(.int p0), (.int p1), (.int p2), (.int p3)] maxLocals)) t := fun t kt => pre64 t (by
        show Steps p.tables e below (T63.setTop (mkF m 125 #[.val (.int p0), .val (.int p1), .val (.int p2), .val (.int p3), .val (.int (2147483647 : Int32)), .val (.int vs), .val (.int em), .val (.int ve), .val (.int lm), .val (.int vn), .unset, .unset, .unset, .unset, .unset] [(.ref b63)])) _
        refine XS.dup X63.here hx rfl (hb hby at_125) rfl rfl ?_
        show Steps p.tables e below (T63.setTop (mkF m 126 #[.val (.int p0), .val (.int p1), .val (.int p2), .val (.int p3), .val (.int (2147483647 : Int32)), .val (.int vs), .val (.int em), .val (.int ve), .val (.int lm), .val (.int vn), .unset, .unset, .unset, .unset, .unset] [(.ref b63), (.ref b63)])) _
        refine XS.iload X63.here hx rfl (hb hby at_126) rfl ?_
        show Steps p.tables e below (T63.setTop (mkF m 128 #[.val (.int p0), .val (.int p1), .val (.int p2), .val (.int p3), .val (.int (2147483647 : Int32)), .val (.int vs), .val (.int em), .val (.int ve), .val (.int lm), .val (.int vn), .unset, .unset, .unset, .unset, .unset] [(.int vs), (.ref b63), (.ref b63)])) _
        refine XS.iload X63.here hx rfl (hb hby at_128) rfl ?_
        exact kt)
      obtain ⟨_, _, ⟨T66, L66, k66, n66⟩, -, X66, ⟨Lc66, hQ66, l66, y66, z66⟩, st66⟩ := X63.specialBack hx (y := (⟨"com/example/baton/baton/core/PositionRange", "<init>", "(II)V"⟩ : MethodName)) rfl hown (mvT hZ (hw _ (List.mem_of_getElem? (i := 4) rfl))) (mvT hZ (hw _ (List.mem_of_getElem? (i := 5) rfl))) (mvT hZ (hw _ (List.mem_of_getElem? (i := 6) rfl))) (by decide) (backOf (W := 1) (rm1 l Z av hw [] b63 vs ve  h63 n0 Z63 A63 gn63 Fn63_start Fn63_end (own_lt0 hm2) (own_lt1 hm49)) hZ (hw _ (List.mem_of_getElem? (i := 6) rfl)) (hw _ (List.mem_of_getElem? (i := 3) rfl)) (by decide) (by decide)) (g := (mkF m 130 #[.val (.int p0), .val (.int p1), .val (.int p2), .val (.int p3), .val (.int (2147483647 : Int32)), .val (.int vs), .val (.int em), .val (.int ve), .val (.int lm), .val (.int vn), .unset, .unset, .unset, .unset, .unset] [(.int ve), (.int vs), (.ref b63), (.ref b63)])) rfl (by rw [hml]; rfl) (Steps.refl _) (a := b63) (argsL := [(.int vs), (.int ve)]) (rest := [(.ref b63)]) (lenOf pd__II_V rfl) rfl (by show 2 * 0 + _ ≤ _; exact Nat.le_of_eq rfl) (hb hby at_130) (fun _ _ => ⟨rfl, e63, (by decide : 1 + 0 ≤ _), (by decide : 2 + 0 ≤ _)⟩)
      dsimp only [Pt.U, Pt.locs, Pt.cells, Pt.slots] at X66 l66 y66 z66 st66 hQ66
      subst l66 y66 z66
      obtain ⟨rfl, N66q, Kq66, Fq66_0, Fq66_1, Fq66_2⟩ := hQ66
      have N66 := Fr.app N0 N66q
      have K66 : Keep h0 T66.heap [] := K63.trans Kq66 (allS (Or.inr sz63) all0)
      have Z66 : n0 ≤ T66.heap.size := Nat.le_trans Z63 Kq66.1
      have Fq66_0' : Exa Z T66.heap b63 "com/example/baton/baton/core/PositionRange" := Fq66_0
      have Fq66_1' : Fld Z T66.heap b63 "com/example/baton/baton/core/PositionRange" "start" "I" (.int vs) := Fq66_1
      have Fq66_2' : Fld Z T66.heap b63 "com/example/baton/baton/core/PositionRange" "end" "I" (.int ve) := Fq66_2
      have pre67 : ∀ t, Steps p.tables e below (T66.setTop (mkF m 133 #[.val (.int p0), .val (.int p1), .val (.int p2), .val (.int p3), .val (.int (2147483647 : Int32)), .val (.int vs), .val (.int em), .val (.int ve), .val (.int lm), .val (.int vn), .unset, .unset, .unset, .unset, .unset] [(.ref b63)])) t → Steps p.tables e below (s₁.setTop (entryFrame m #[(.int p0), (.int p1), (.int p2), (.int p3)] maxLocals)) t := fun t kt => pre65 t (st66.trans kt)
      have pre68 : ∀ t, Steps p.tables e below (T66.setTop (mkF m 139 #[.val (.int p0), .val (.int p1), .val (.int p2), .val (.int p3), .val (.int (2147483647 : Int32)), .val (.int vs), .val (.int em), .val (.int ve), .val (.int lm), .val (.int vn), .val (.ref b63), .unset, .unset, .unset, .unset] [(.int vn), (.ref b63)])) t → Steps p.tables e below (s₁.setTop (entryFrame m #[(.int p0), (.int p1), (.int p2), (.int p3)] maxLocals)) t := fun t kt => pre67 t (by
        show Steps p.tables e below (T66.setTop (mkF m 133 #[.val (.int p0), .val (.int p1), .val (.int p2), .val (.int p3), .val (.int (2147483647 : Int32)), .val (.int vs), .val (.int em), .val (.int ve), .val (.int lm), .val (.int vn), .unset, .unset, .unset, .unset, .unset] [(.ref b63)])) _
        refine XS.astore X66.here hx rfl (hb hby at_133) rfl rfl (l' := #[.val (.int p0), .val (.int p1), .val (.int p2), .val (.int p3), .val (.int (2147483647 : Int32)), .val (.int vs), .val (.int em), .val (.int ve), .val (.int lm), .val (.int vn), .val (.ref b63), .unset, .unset, .unset, .unset]) rfl ?_
        show Steps p.tables e below (T66.setTop (mkF m 135 #[.val (.int p0), .val (.int p1), .val (.int p2), .val (.int p3), .val (.int (2147483647 : Int32)), .val (.int vs), .val (.int em), .val (.int ve), .val (.int lm), .val (.int vn), .val (.ref b63), .unset, .unset, .unset, .unset] [])) _
        refine XS.aload X66.here hx rfl (hb hby at_135) rfl rfl ?_
        show Steps p.tables e below (T66.setTop (mkF m 137 #[.val (.int p0), .val (.int p1), .val (.int p2), .val (.int p3), .val (.int (2147483647 : Int32)), .val (.int vs), .val (.int em), .val (.int ve), .val (.int lm), .val (.int vn), .val (.ref b63), .unset, .unset, .unset, .unset] [(.ref b63)])) _
        refine XS.iload X66.here hx rfl (hb hby at_137) rfl ?_
        exact kt)
      obtain ⟨cq69, kq69, q69a, q69b, q69c⟩ := isOf hZ rfl Fq66_0'
      obtain ⟨_, _, ⟨T70, L70, k70, n70⟩, -, X70, ⟨Lc70, hQ70, l70, y70, z70⟩, st70⟩ := X66.virtualBack hx (y := (⟨"com/example/baton/baton/core/PositionRange", "startsIn", "(I)Z"⟩ : MethodName)) (z := (⟨"com/example/baton/baton/core/PositionRange", "startsIn", "(I)Z"⟩ : MethodName)) hown (mvT hZ (hw _ (List.mem_of_getElem? (i := 19) rfl))) (mvT hZ (hw _ (List.mem_of_getElem? (i := 20) rfl))) (notFace_of_selects (args := #[]) (mvT hZ (hw _ (List.mem_of_getElem? (i := 22) rfl)))) (mvT hZ (hw _ (List.mem_of_getElem? (i := 22) rfl))) (mvT hZ (hw _ (List.mem_of_getElem? (i := 21) rfl))) (by decide) (backOf (W := 0) (rm4 l Z av hw [] b63 vn vs ve T66.heap n0 Z66 Fq66_1' Fq66_2') hZ (hw _ (List.mem_of_getElem? (i := 23) rfl)) (hw _ (List.mem_of_getElem? (i := 3) rfl)) (by decide) (by decide)) q69a q69c (g := (mkF m 139 #[.val (.int p0), .val (.int p1), .val (.int p2), .val (.int p3), .val (.int (2147483647 : Int32)), .val (.int vs), .val (.int em), .val (.int ve), .val (.int lm), .val (.int vn), .val (.ref b63), .unset, .unset, .unset, .unset] [(.int vn), (.ref b63)])) rfl (by rw [hml]; rfl) (Steps.refl _) (argsL := [(.int vn)]) (rest := []) (lenOf pd__I_Z rfl) rfl (by show 2 * 0 + _ ≤ _; exact Nat.le_of_eq rfl) (hb hby at_139) (fun _ _ => ⟨rfl, rfl, (by decide : 1 + 0 ≤ _), (by decide : 2 + 0 ≤ _)⟩)
      dsimp only [Pt.U, Pt.locs, Pt.cells, Pt.slots] at X70 l70 y70 z70 st70 hQ70
      subst l70 y70 z70
      obtain ⟨rfl, N70q, e70⟩ := hQ70
      have N70 := Fr.app N66 N70q
      have pre71 : ∀ t, Steps p.tables e below (T70.setTop (mkF m 142 #[.val (.int p0), .val (.int p1), .val (.int p2), .val (.int p3), .val (.int (2147483647 : Int32)), .val (.int vs), .val (.int em), .val (.int ve), .val (.int lm), .val (.int vn), .val (.ref b63), .unset, .unset, .unset, .unset] [(.int (f_in vn vs ve))])) t → Steps p.tables e below (s₁.setTop (entryFrame m #[(.int p0), (.int p1), (.int p2), (.int p3)] maxLocals)) t := fun t kt => pre68 t (st70.trans kt)
      have pre72 : ∀ t, Steps p.tables e below (T70.setTop (mkF m 153 #[.val (.int p0), .val (.int p1), .val (.int p2), .val (.int p3), .val (.int (2147483647 : Int32)), .val (.int vs), .val (.int em), .val (.int ve), .val (.int lm), .val (.int vn), .val (.ref b63), .val (.int (f_in vn vs ve)), .val (.long ((vn.toInt64) - (vs.toInt64))), .second, .unset] [])) t → Steps p.tables e below (s₁.setTop (entryFrame m #[(.int p0), (.int p1), (.int p2), (.int p3)] maxLocals)) t := fun t kt => pre71 t (by
        show Steps p.tables e below (T70.setTop (mkF m 142 #[.val (.int p0), .val (.int p1), .val (.int p2), .val (.int p3), .val (.int (2147483647 : Int32)), .val (.int vs), .val (.int em), .val (.int ve), .val (.int lm), .val (.int vn), .val (.ref b63), .unset, .unset, .unset, .unset] [(.int (f_in vn vs ve))])) _
        refine XS.istore X70.here hx rfl (hb hby at_142) rfl (l' := #[.val (.int p0), .val (.int p1), .val (.int p2), .val (.int p3), .val (.int (2147483647 : Int32)), .val (.int vs), .val (.int em), .val (.int ve), .val (.int lm), .val (.int vn), .val (.ref b63), .val (.int (f_in vn vs ve)), .unset, .unset, .unset]) rfl ?_
        show Steps p.tables e below (T70.setTop (mkF m 144 #[.val (.int p0), .val (.int p1), .val (.int p2), .val (.int p3), .val (.int (2147483647 : Int32)), .val (.int vs), .val (.int em), .val (.int ve), .val (.int lm), .val (.int vn), .val (.ref b63), .val (.int (f_in vn vs ve)), .unset, .unset, .unset] [])) _
        refine XS.iload X70.here hx rfl (hb hby at_144) rfl ?_
        show Steps p.tables e below (T70.setTop (mkF m 146 #[.val (.int p0), .val (.int p1), .val (.int p2), .val (.int p3), .val (.int (2147483647 : Int32)), .val (.int vs), .val (.int em), .val (.int ve), .val (.int lm), .val (.int vn), .val (.ref b63), .val (.int (f_in vn vs ve)), .unset, .unset, .unset] [(.int vn)])) _
        refine XS.i2l X70.here hx rfl (hb hby at_146) rfl ?_
        show Steps p.tables e below (T70.setTop (mkF m 147 #[.val (.int p0), .val (.int p1), .val (.int p2), .val (.int p3), .val (.int (2147483647 : Int32)), .val (.int vs), .val (.int em), .val (.int ve), .val (.int lm), .val (.int vn), .val (.ref b63), .val (.int (f_in vn vs ve)), .unset, .unset, .unset] [(.long (vn.toInt64))])) _
        refine XS.iload X70.here hx rfl (hb hby at_147) rfl ?_
        show Steps p.tables e below (T70.setTop (mkF m 149 #[.val (.int p0), .val (.int p1), .val (.int p2), .val (.int p3), .val (.int (2147483647 : Int32)), .val (.int vs), .val (.int em), .val (.int ve), .val (.int lm), .val (.int vn), .val (.ref b63), .val (.int (f_in vn vs ve)), .unset, .unset, .unset] [(.int vs), (.long (vn.toInt64))])) _
        refine XS.i2l X70.here hx rfl (hb hby at_149) rfl ?_
        show Steps p.tables e below (T70.setTop (mkF m 150 #[.val (.int p0), .val (.int p1), .val (.int p2), .val (.int p3), .val (.int (2147483647 : Int32)), .val (.int vs), .val (.int em), .val (.int ve), .val (.int lm), .val (.int vn), .val (.ref b63), .val (.int (f_in vn vs ve)), .unset, .unset, .unset] [(.long (vs.toInt64)), (.long (vn.toInt64))])) _
        refine XS.lsub X70.here hx rfl (hb hby at_150) rfl ?_
        show Steps p.tables e below (T70.setTop (mkF m 151 #[.val (.int p0), .val (.int p1), .val (.int p2), .val (.int p3), .val (.int (2147483647 : Int32)), .val (.int vs), .val (.int em), .val (.int ve), .val (.int lm), .val (.int vn), .val (.ref b63), .val (.int (f_in vn vs ve)), .unset, .unset, .unset] [(.long ((vn.toInt64) - (vs.toInt64)))])) _
        refine XS.lstore X70.here hx rfl (hb hby at_151) rfl (l' := #[.val (.int p0), .val (.int p1), .val (.int p2), .val (.int p3), .val (.int (2147483647 : Int32)), .val (.int vs), .val (.int em), .val (.int ve), .val (.int lm), .val (.int vn), .val (.ref b63), .val (.int (f_in vn vs ve)), .val (.long ((vn.toInt64) - (vs.toInt64))), .second, .unset]) rfl ?_
        exact kt)
      obtain ⟨vd, hm73, pre73⟩ : ∃ (vd : Int64), (vd.toInt = vn.toInt - vs.toInt) ∧ ∀ t, Steps p.tables e below (T70.setTop (mkF m 153 #[.val (.int p0), .val (.int p1), .val (.int p2), .val (.int p3), .val (.int (2147483647 : Int32)), .val (.int vs), .val (.int em), .val (.int ve), .val (.int lm), .val (.int vn), .val (.ref b63), .val (.int (f_in vn vs ve)), .val (.long vd), .second, .unset] [])) t → Steps p.tables e below (s₁.setTop (entryFrame m #[(.int p0), (.int p1), (.int p2), (.int p3)] maxLocals)) t := ⟨((vn.toInt64) - (vs.toInt64)), own_d vn vs, pre72⟩
      have pre74 : ∀ t, Steps p.tables e below (T70.setTop (mkF m 157 #[.val (.int p0), .val (.int p1), .val (.int p2), .val (.int p3), .val (.int (2147483647 : Int32)), .val (.int vs), .val (.int em), .val (.int ve), .val (.int lm), .val (.int vn), .val (.ref b63), .val (.int (f_in vn vs ve)), .val (.long vd), .second, .unset] [(.int (lcmpW vd (0 : Int64)))])) t → Steps p.tables e below (s₁.setTop (entryFrame m #[(.int p0), (.int p1), (.int p2), (.int p3)] maxLocals)) t := fun t kt => pre73 t (by
        show Steps p.tables e below (T70.setTop (mkF m 153 #[.val (.int p0), .val (.int p1), .val (.int p2), .val (.int p3), .val (.int (2147483647 : Int32)), .val (.int vs), .val (.int em), .val (.int ve), .val (.int lm), .val (.int vn), .val (.ref b63), .val (.int (f_in vn vs ve)), .val (.long vd), .second, .unset] [])) _
        refine XS.lload X70.here hx rfl (hb hby at_153) rfl ?_
        show Steps p.tables e below (T70.setTop (mkF m 155 #[.val (.int p0), .val (.int p1), .val (.int p2), .val (.int p3), .val (.int (2147483647 : Int32)), .val (.int vs), .val (.int em), .val (.int ve), .val (.int lm), .val (.int vn), .val (.ref b63), .val (.int (f_in vn vs ve)), .val (.long vd), .second, .unset] [(.long vd)])) _
        refine XS.lconst X70.here hx rfl (hb hby at_155) ?_
        show Steps p.tables e below (T70.setTop (mkF m 156 #[.val (.int p0), .val (.int p1), .val (.int p2), .val (.int p3), .val (.int (2147483647 : Int32)), .val (.int vs), .val (.int em), .val (.int ve), .val (.int lm), .val (.int vn), .val (.ref b63), .val (.int (f_in vn vs ve)), .val (.long vd), .second, .unset] [(.long (0 : Int64)), (.long vd)])) _
        refine XS.lcmp X70.here hx rfl (hb hby at_156) rfl ?_
        exact kt)
      by_cases hc157_75 : (0 : Int64) < vd
      · have pre76 : ∀ t, Steps p.tables e below (T70.setTop (mkF m 220 #[.val (.int p0), .val (.int p1), .val (.int p2), .val (.int p3), .val (.int (2147483647 : Int32)), .val (.int vs), .val (.int em), .val (.int ve), .val (.int lm), .val (.int vn), .val (.ref b63), .val (.int (f_in vn vs ve)), .val (.long vd), .second, .val (.int (1 : Int32))] [(.int (1 : Int32))])) t → Steps p.tables e below (s₁.setTop (entryFrame m #[(.int p0), (.int p1), (.int p2), (.int p3)] maxLocals)) t := fun t kt => pre74 t (by
          show Steps p.tables e below (T70.setTop (mkF m 157 #[.val (.int p0), .val (.int p1), .val (.int p2), .val (.int p3), .val (.int (2147483647 : Int32)), .val (.int vs), .val (.int em), .val (.int ve), .val (.int lm), .val (.int vn), .val (.ref b63), .val (.int (f_in vn vs ve)), .val (.long vd), .second, .unset] [(.int (lcmpW vd (0 : Int64)))])) _
          refine XS.ifNo X70.here hx rfl (hb hby at_157) rfl (Jvm.Free.XT.ll_le_f hc157_75) ?_
          show Steps p.tables e below (T70.setTop (mkF m 160 #[.val (.int p0), .val (.int p1), .val (.int p2), .val (.int p3), .val (.int (2147483647 : Int32)), .val (.int vs), .val (.int em), .val (.int ve), .val (.int lm), .val (.int vn), .val (.ref b63), .val (.int (f_in vn vs ve)), .val (.long vd), .second, .unset] [])) _
          refine XS.iconst X70.here hx rfl (hb hby at_160) ?_
          show Steps p.tables e below (T70.setTop (mkF m 161 #[.val (.int p0), .val (.int p1), .val (.int p2), .val (.int p3), .val (.int (2147483647 : Int32)), .val (.int vs), .val (.int em), .val (.int ve), .val (.int lm), .val (.int vn), .val (.ref b63), .val (.int (f_in vn vs ve)), .val (.long vd), .second, .unset] [(.int (1 : Int32))])) _
          refine XS.istore X70.here hx rfl (hb hby at_161) rfl (l' := #[.val (.int p0), .val (.int p1), .val (.int p2), .val (.int p3), .val (.int (2147483647 : Int32)), .val (.int vs), .val (.int em), .val (.int ve), .val (.int lm), .val (.int vn), .val (.ref b63), .val (.int (f_in vn vs ve)), .val (.long vd), .second, .val (.int (1 : Int32))]) rfl ?_
          show Steps p.tables e below (T70.setTop (mkF m 163 #[.val (.int p0), .val (.int p1), .val (.int p2), .val (.int p3), .val (.int (2147483647 : Int32)), .val (.int vs), .val (.int em), .val (.int ve), .val (.int lm), .val (.int vn), .val (.ref b63), .val (.int (f_in vn vs ve)), .val (.long vd), .second, .val (.int (1 : Int32))] [])) _
          refine XS.goto X70.here hx rfl (pc0 := 163) (pc' := 208) rfl (hb hby at_163) (by decide) (by decide) ?_
          show Steps p.tables e below (T70.setTop (mkF m 208 #[.val (.int p0), .val (.int p1), .val (.int p2), .val (.int p3), .val (.int (2147483647 : Int32)), .val (.int vs), .val (.int em), .val (.int ve), .val (.int lm), .val (.int vn), .val (.ref b63), .val (.int (f_in vn vs ve)), .val (.long vd), .second, .val (.int (1 : Int32))] [])) _
          refine XS.iload X70.here hx rfl (hb hby at_208) rfl ?_
          show Steps p.tables e below (T70.setTop (mkF m 210 #[.val (.int p0), .val (.int p1), .val (.int p2), .val (.int p3), .val (.int (2147483647 : Int32)), .val (.int vs), .val (.int em), .val (.int ve), .val (.int lm), .val (.int vn), .val (.ref b63), .val (.int (f_in vn vs ve)), .val (.long vd), .second, .val (.int (1 : Int32))] [(.int (f_in vn vs ve))])) _
          refine XS.iload X70.here hx rfl (hb hby at_210) rfl ?_
          show Steps p.tables e below (T70.setTop (mkF m 212 #[.val (.int p0), .val (.int p1), .val (.int p2), .val (.int p3), .val (.int (2147483647 : Int32)), .val (.int vs), .val (.int em), .val (.int ve), .val (.int lm), .val (.int vn), .val (.ref b63), .val (.int (f_in vn vs ve)), .val (.long vd), .second, .val (.int (1 : Int32))] [(.int (1 : Int32)), (.int (f_in vn vs ve))])) _
          refine XS.icmpNo X70.here hx rfl (hb hby at_212) rfl (teq (by
              have hd := hm73
              rw [own_in]
              simp only [← Int32.toInt_inj, Int64.lt_iff_toInt_lt, Int64.reduceToInt, Int32.reduceToInt] at hc157_75
              repeat' split
              all_goals first | rfl | (exfalso; omega) : (f_in vn vs ve) = (1 : Int32))).2 ?_
          show Steps p.tables e below (T70.setTop (mkF m 215 #[.val (.int p0), .val (.int p1), .val (.int p2), .val (.int p3), .val (.int (2147483647 : Int32)), .val (.int vs), .val (.int em), .val (.int ve), .val (.int lm), .val (.int vn), .val (.ref b63), .val (.int (f_in vn vs ve)), .val (.long vd), .second, .val (.int (1 : Int32))] [])) _
          refine XS.iconst X70.here hx rfl (hb hby at_215) ?_
          show Steps p.tables e below (T70.setTop (mkF m 216 #[.val (.int p0), .val (.int p1), .val (.int p2), .val (.int p3), .val (.int (2147483647 : Int32)), .val (.int vs), .val (.int em), .val (.int ve), .val (.int lm), .val (.int vn), .val (.ref b63), .val (.int (f_in vn vs ve)), .val (.long vd), .second, .val (.int (1 : Int32))] [(.int (1 : Int32))])) _
          refine XS.goto X70.here hx rfl (pc0 := 216) (pc' := 220) rfl (hb hby at_216) (by decide) (by decide) ?_
          exact kt)
        obtain ⟨fs, hr, hrun, hended, hW, hsame⟩ := X70.leave (v := some (.int (1 : Int32))) (fun h => by rw [Bd.returns] at h; cases h)
        refine ⟨_, _, pre76 _ ?_, hrun, hended, _, _, rfl, ?_, ⟨_, rfl⟩, hW, hsame.mono (by decide) (by decide)⟩
        · show Steps p.tables e below (T70.setTop (mkF m 220 #[.val (.int p0), .val (.int p1), .val (.int p2), .val (.int p3), .val (.int (2147483647 : Int32)), .val (.int vs), .val (.int em), .val (.int ve), .val (.int lm), .val (.int vn), .val (.ref b63), .val (.int (f_in vn vs ve)), .val (.long vd), .second, .val (.int (1 : Int32))] [(.int (1 : Int32))])) _
          exact retN X70 hx (t := .boolean) Bd.returns (by simp) (hb hby at_220) hr
        · show Q0 Z p0 p1 p2 p3 h0 n0 _ T70.heap _
          rw [e70]
          exact ⟨rfl, N70⟩
      · have pre77 : ∀ t, Steps p.tables e below (T70.setTop (mkF m 170 #[.val (.int p0), .val (.int p1), .val (.int p2), .val (.int p3), .val (.int (2147483647 : Int32)), .val (.int vs), .val (.int em), .val (.int ve), .val (.int lm), .val (.int vn), .val (.ref b63), .val (.int (f_in vn vs ve)), .val (.long vd), .second, .unset] [(.int (lcmpW vd (0 : Int64)))])) t → Steps p.tables e below (s₁.setTop (entryFrame m #[(.int p0), (.int p1), (.int p2), (.int p3)] maxLocals)) t := fun t kt => pre74 t (by
          show Steps p.tables e below (T70.setTop (mkF m 157 #[.val (.int p0), .val (.int p1), .val (.int p2), .val (.int p3), .val (.int (2147483647 : Int32)), .val (.int vs), .val (.int em), .val (.int ve), .val (.int lm), .val (.int vn), .val (.ref b63), .val (.int (f_in vn vs ve)), .val (.long vd), .second, .unset] [(.int (lcmpW vd (0 : Int64)))])) _
          refine XS.ifYes X70.here hx rfl (pc0 := 157) (pc' := 166) rfl (hb hby at_157) rfl (Jvm.Free.XT.ll_le_t hc157_75) (by decide) (by decide) ?_
          show Steps p.tables e below (T70.setTop (mkF m 166 #[.val (.int p0), .val (.int p1), .val (.int p2), .val (.int p3), .val (.int (2147483647 : Int32)), .val (.int vs), .val (.int em), .val (.int ve), .val (.int lm), .val (.int vn), .val (.ref b63), .val (.int (f_in vn vs ve)), .val (.long vd), .second, .unset] [])) _
          refine XS.lload X70.here hx rfl (hb hby at_166) rfl ?_
          show Steps p.tables e below (T70.setTop (mkF m 168 #[.val (.int p0), .val (.int p1), .val (.int p2), .val (.int p3), .val (.int (2147483647 : Int32)), .val (.int vs), .val (.int em), .val (.int ve), .val (.int lm), .val (.int vn), .val (.ref b63), .val (.int (f_in vn vs ve)), .val (.long vd), .second, .unset] [(.long vd)])) _
          refine XS.lconst X70.here hx rfl (hb hby at_168) ?_
          show Steps p.tables e below (T70.setTop (mkF m 169 #[.val (.int p0), .val (.int p1), .val (.int p2), .val (.int p3), .val (.int (2147483647 : Int32)), .val (.int vs), .val (.int em), .val (.int ve), .val (.int lm), .val (.int vn), .val (.ref b63), .val (.int (f_in vn vs ve)), .val (.long vd), .second, .unset] [(.long (0 : Int64)), (.long vd)])) _
          refine XS.lcmp X70.here hx rfl (hb hby at_169) rfl ?_
          exact kt)
        by_cases hc170_78 : vd < (0 : Int64)
        · have pre79 : ∀ t, Steps p.tables e below (T70.setTop (mkF m 220 #[.val (.int p0), .val (.int p1), .val (.int p2), .val (.int p3), .val (.int (2147483647 : Int32)), .val (.int vs), .val (.int em), .val (.int ve), .val (.int lm), .val (.int vn), .val (.ref b63), .val (.int (f_in vn vs ve)), .val (.long vd), .second, .val (.int (0 : Int32))] [(.int (1 : Int32))])) t → Steps p.tables e below (s₁.setTop (entryFrame m #[(.int p0), (.int p1), (.int p2), (.int p3)] maxLocals)) t := fun t kt => pre77 t (by
            show Steps p.tables e below (T70.setTop (mkF m 170 #[.val (.int p0), .val (.int p1), .val (.int p2), .val (.int p3), .val (.int (2147483647 : Int32)), .val (.int vs), .val (.int em), .val (.int ve), .val (.int lm), .val (.int vn), .val (.ref b63), .val (.int (f_in vn vs ve)), .val (.long vd), .second, .unset] [(.int (lcmpW vd (0 : Int64)))])) _
            refine XS.ifNo X70.here hx rfl (hb hby at_170) rfl (Jvm.Free.XT.ll_ge_f hc170_78) ?_
            show Steps p.tables e below (T70.setTop (mkF m 173 #[.val (.int p0), .val (.int p1), .val (.int p2), .val (.int p3), .val (.int (2147483647 : Int32)), .val (.int vs), .val (.int em), .val (.int ve), .val (.int lm), .val (.int vn), .val (.ref b63), .val (.int (f_in vn vs ve)), .val (.long vd), .second, .unset] [])) _
            refine XS.iconst X70.here hx rfl (hb hby at_173) ?_
            show Steps p.tables e below (T70.setTop (mkF m 174 #[.val (.int p0), .val (.int p1), .val (.int p2), .val (.int p3), .val (.int (2147483647 : Int32)), .val (.int vs), .val (.int em), .val (.int ve), .val (.int lm), .val (.int vn), .val (.ref b63), .val (.int (f_in vn vs ve)), .val (.long vd), .second, .unset] [(.int (0 : Int32))])) _
            refine XS.istore X70.here hx rfl (hb hby at_174) rfl (l' := #[.val (.int p0), .val (.int p1), .val (.int p2), .val (.int p3), .val (.int (2147483647 : Int32)), .val (.int vs), .val (.int em), .val (.int ve), .val (.int lm), .val (.int vn), .val (.ref b63), .val (.int (f_in vn vs ve)), .val (.long vd), .second, .val (.int (0 : Int32))]) rfl ?_
            show Steps p.tables e below (T70.setTop (mkF m 176 #[.val (.int p0), .val (.int p1), .val (.int p2), .val (.int p3), .val (.int (2147483647 : Int32)), .val (.int vs), .val (.int em), .val (.int ve), .val (.int lm), .val (.int vn), .val (.ref b63), .val (.int (f_in vn vs ve)), .val (.long vd), .second, .val (.int (0 : Int32))] [])) _
            refine XS.goto X70.here hx rfl (pc0 := 176) (pc' := 208) rfl (hb hby at_176) (by decide) (by decide) ?_
            show Steps p.tables e below (T70.setTop (mkF m 208 #[.val (.int p0), .val (.int p1), .val (.int p2), .val (.int p3), .val (.int (2147483647 : Int32)), .val (.int vs), .val (.int em), .val (.int ve), .val (.int lm), .val (.int vn), .val (.ref b63), .val (.int (f_in vn vs ve)), .val (.long vd), .second, .val (.int (0 : Int32))] [])) _
            refine XS.iload X70.here hx rfl (hb hby at_208) rfl ?_
            show Steps p.tables e below (T70.setTop (mkF m 210 #[.val (.int p0), .val (.int p1), .val (.int p2), .val (.int p3), .val (.int (2147483647 : Int32)), .val (.int vs), .val (.int em), .val (.int ve), .val (.int lm), .val (.int vn), .val (.ref b63), .val (.int (f_in vn vs ve)), .val (.long vd), .second, .val (.int (0 : Int32))] [(.int (f_in vn vs ve))])) _
            refine XS.iload X70.here hx rfl (hb hby at_210) rfl ?_
            show Steps p.tables e below (T70.setTop (mkF m 212 #[.val (.int p0), .val (.int p1), .val (.int p2), .val (.int p3), .val (.int (2147483647 : Int32)), .val (.int vs), .val (.int em), .val (.int ve), .val (.int lm), .val (.int vn), .val (.ref b63), .val (.int (f_in vn vs ve)), .val (.long vd), .second, .val (.int (0 : Int32))] [(.int (0 : Int32)), (.int (f_in vn vs ve))])) _
            refine XS.icmpNo X70.here hx rfl (hb hby at_212) rfl (teq (by
                have hd := hm73
                rw [own_in]
                simp only [← Int32.toInt_inj, Int64.lt_iff_toInt_lt, Int64.reduceToInt, Int32.reduceToInt] at hc157_75 hc170_78
                repeat' split
                all_goals first | rfl | (exfalso; omega) : (f_in vn vs ve) = (0 : Int32))).2 ?_
            show Steps p.tables e below (T70.setTop (mkF m 215 #[.val (.int p0), .val (.int p1), .val (.int p2), .val (.int p3), .val (.int (2147483647 : Int32)), .val (.int vs), .val (.int em), .val (.int ve), .val (.int lm), .val (.int vn), .val (.ref b63), .val (.int (f_in vn vs ve)), .val (.long vd), .second, .val (.int (0 : Int32))] [])) _
            refine XS.iconst X70.here hx rfl (hb hby at_215) ?_
            show Steps p.tables e below (T70.setTop (mkF m 216 #[.val (.int p0), .val (.int p1), .val (.int p2), .val (.int p3), .val (.int (2147483647 : Int32)), .val (.int vs), .val (.int em), .val (.int ve), .val (.int lm), .val (.int vn), .val (.ref b63), .val (.int (f_in vn vs ve)), .val (.long vd), .second, .val (.int (0 : Int32))] [(.int (1 : Int32))])) _
            refine XS.goto X70.here hx rfl (pc0 := 216) (pc' := 220) rfl (hb hby at_216) (by decide) (by decide) ?_
            exact kt)
          obtain ⟨fs, hr, hrun, hended, hW, hsame⟩ := X70.leave (v := some (.int (1 : Int32))) (fun h => by rw [Bd.returns] at h; cases h)
          refine ⟨_, _, pre79 _ ?_, hrun, hended, _, _, rfl, ?_, ⟨_, rfl⟩, hW, hsame.mono (by decide) (by decide)⟩
          · show Steps p.tables e below (T70.setTop (mkF m 220 #[.val (.int p0), .val (.int p1), .val (.int p2), .val (.int p3), .val (.int (2147483647 : Int32)), .val (.int vs), .val (.int em), .val (.int ve), .val (.int lm), .val (.int vn), .val (.ref b63), .val (.int (f_in vn vs ve)), .val (.long vd), .second, .val (.int (0 : Int32))] [(.int (1 : Int32))])) _
            exact retN X70 hx (t := .boolean) Bd.returns (by simp) (hb hby at_220) hr
          · show Q0 Z p0 p1 p2 p3 h0 n0 _ T70.heap _
            rw [e70]
            exact ⟨rfl, N70⟩
        · have pre80 : ∀ t, Steps p.tables e below (T70.setTop (mkF m 183 #[.val (.int p0), .val (.int p1), .val (.int p2), .val (.int p3), .val (.int (2147483647 : Int32)), .val (.int vs), .val (.int em), .val (.int ve), .val (.int lm), .val (.int vn), .val (.ref b63), .val (.int (f_in vn vs ve)), .val (.long vd), .second, .unset] [(.int vs), (.int ve)])) t → Steps p.tables e below (s₁.setTop (entryFrame m #[(.int p0), (.int p1), (.int p2), (.int p3)] maxLocals)) t := fun t kt => pre77 t (by
            show Steps p.tables e below (T70.setTop (mkF m 170 #[.val (.int p0), .val (.int p1), .val (.int p2), .val (.int p3), .val (.int (2147483647 : Int32)), .val (.int vs), .val (.int em), .val (.int ve), .val (.int lm), .val (.int vn), .val (.ref b63), .val (.int (f_in vn vs ve)), .val (.long vd), .second, .unset] [(.int (lcmpW vd (0 : Int64)))])) _
            refine XS.ifYes X70.here hx rfl (pc0 := 170) (pc' := 179) rfl (hb hby at_170) rfl (Jvm.Free.XT.ll_ge_t hc170_78) (by decide) (by decide) ?_
            show Steps p.tables e below (T70.setTop (mkF m 179 #[.val (.int p0), .val (.int p1), .val (.int p2), .val (.int p3), .val (.int (2147483647 : Int32)), .val (.int vs), .val (.int em), .val (.int ve), .val (.int lm), .val (.int vn), .val (.ref b63), .val (.int (f_in vn vs ve)), .val (.long vd), .second, .unset] [])) _
            refine XS.iload X70.here hx rfl (hb hby at_179) rfl ?_
            show Steps p.tables e below (T70.setTop (mkF m 181 #[.val (.int p0), .val (.int p1), .val (.int p2), .val (.int p3), .val (.int (2147483647 : Int32)), .val (.int vs), .val (.int em), .val (.int ve), .val (.int lm), .val (.int vn), .val (.ref b63), .val (.int (f_in vn vs ve)), .val (.long vd), .second, .unset] [(.int ve)])) _
            refine XS.iload X70.here hx rfl (hb hby at_181) rfl ?_
            exact kt)
          by_cases hc183_81 : ve = vs
          · have pre82 : ∀ t, Steps p.tables e below (T70.setTop (mkF m 220 #[.val (.int p0), .val (.int p1), .val (.int p2), .val (.int p3), .val (.int (2147483647 : Int32)), .val (.int vs), .val (.int em), .val (.int ve), .val (.int lm), .val (.int vn), .val (.ref b63), .val (.int (f_in vn vs ve)), .val (.long vd), .second, .val (.int (1 : Int32))] [(.int (1 : Int32))])) t → Steps p.tables e below (s₁.setTop (entryFrame m #[(.int p0), (.int p1), (.int p2), (.int p3)] maxLocals)) t := fun t kt => pre80 t (by
              show Steps p.tables e below (T70.setTop (mkF m 183 #[.val (.int p0), .val (.int p1), .val (.int p2), .val (.int p3), .val (.int (2147483647 : Int32)), .val (.int vs), .val (.int em), .val (.int ve), .val (.int lm), .val (.int vn), .val (.ref b63), .val (.int (f_in vn vs ve)), .val (.long vd), .second, .unset] [(.int vs), (.int ve)])) _
              refine XS.icmpNo X70.here hx rfl (hb hby at_183) rfl (teq hc183_81).2 ?_
              show Steps p.tables e below (T70.setTop (mkF m 186 #[.val (.int p0), .val (.int p1), .val (.int p2), .val (.int p3), .val (.int (2147483647 : Int32)), .val (.int vs), .val (.int em), .val (.int ve), .val (.int lm), .val (.int vn), .val (.ref b63), .val (.int (f_in vn vs ve)), .val (.long vd), .second, .unset] [])) _
              refine XS.iconst X70.here hx rfl (hb hby at_186) ?_
              show Steps p.tables e below (T70.setTop (mkF m 187 #[.val (.int p0), .val (.int p1), .val (.int p2), .val (.int p3), .val (.int (2147483647 : Int32)), .val (.int vs), .val (.int em), .val (.int ve), .val (.int lm), .val (.int vn), .val (.ref b63), .val (.int (f_in vn vs ve)), .val (.long vd), .second, .unset] [(.int (1 : Int32))])) _
              refine XS.istore X70.here hx rfl (hb hby at_187) rfl (l' := #[.val (.int p0), .val (.int p1), .val (.int p2), .val (.int p3), .val (.int (2147483647 : Int32)), .val (.int vs), .val (.int em), .val (.int ve), .val (.int lm), .val (.int vn), .val (.ref b63), .val (.int (f_in vn vs ve)), .val (.long vd), .second, .val (.int (1 : Int32))]) rfl ?_
              show Steps p.tables e below (T70.setTop (mkF m 189 #[.val (.int p0), .val (.int p1), .val (.int p2), .val (.int p3), .val (.int (2147483647 : Int32)), .val (.int vs), .val (.int em), .val (.int ve), .val (.int lm), .val (.int vn), .val (.ref b63), .val (.int (f_in vn vs ve)), .val (.long vd), .second, .val (.int (1 : Int32))] [])) _
              refine XS.goto X70.here hx rfl (pc0 := 189) (pc' := 208) rfl (hb hby at_189) (by decide) (by decide) ?_
              show Steps p.tables e below (T70.setTop (mkF m 208 #[.val (.int p0), .val (.int p1), .val (.int p2), .val (.int p3), .val (.int (2147483647 : Int32)), .val (.int vs), .val (.int em), .val (.int ve), .val (.int lm), .val (.int vn), .val (.ref b63), .val (.int (f_in vn vs ve)), .val (.long vd), .second, .val (.int (1 : Int32))] [])) _
              refine XS.iload X70.here hx rfl (hb hby at_208) rfl ?_
              show Steps p.tables e below (T70.setTop (mkF m 210 #[.val (.int p0), .val (.int p1), .val (.int p2), .val (.int p3), .val (.int (2147483647 : Int32)), .val (.int vs), .val (.int em), .val (.int ve), .val (.int lm), .val (.int vn), .val (.ref b63), .val (.int (f_in vn vs ve)), .val (.long vd), .second, .val (.int (1 : Int32))] [(.int (f_in vn vs ve))])) _
              refine XS.iload X70.here hx rfl (hb hby at_210) rfl ?_
              show Steps p.tables e below (T70.setTop (mkF m 212 #[.val (.int p0), .val (.int p1), .val (.int p2), .val (.int p3), .val (.int (2147483647 : Int32)), .val (.int vs), .val (.int em), .val (.int ve), .val (.int lm), .val (.int vn), .val (.ref b63), .val (.int (f_in vn vs ve)), .val (.long vd), .second, .val (.int (1 : Int32))] [(.int (1 : Int32)), (.int (f_in vn vs ve))])) _
              refine XS.icmpNo X70.here hx rfl (hb hby at_212) rfl (teq (by
                  have hd := hm73
                  rw [own_in]
                  simp only [← Int32.toInt_inj, Int64.lt_iff_toInt_lt, Int64.reduceToInt, Int32.reduceToInt] at hc157_75 hc170_78 hc183_81
                  repeat' split
                  all_goals first | rfl | (exfalso; omega) : (f_in vn vs ve) = (1 : Int32))).2 ?_
              show Steps p.tables e below (T70.setTop (mkF m 215 #[.val (.int p0), .val (.int p1), .val (.int p2), .val (.int p3), .val (.int (2147483647 : Int32)), .val (.int vs), .val (.int em), .val (.int ve), .val (.int lm), .val (.int vn), .val (.ref b63), .val (.int (f_in vn vs ve)), .val (.long vd), .second, .val (.int (1 : Int32))] [])) _
              refine XS.iconst X70.here hx rfl (hb hby at_215) ?_
              show Steps p.tables e below (T70.setTop (mkF m 216 #[.val (.int p0), .val (.int p1), .val (.int p2), .val (.int p3), .val (.int (2147483647 : Int32)), .val (.int vs), .val (.int em), .val (.int ve), .val (.int lm), .val (.int vn), .val (.ref b63), .val (.int (f_in vn vs ve)), .val (.long vd), .second, .val (.int (1 : Int32))] [(.int (1 : Int32))])) _
              refine XS.goto X70.here hx rfl (pc0 := 216) (pc' := 220) rfl (hb hby at_216) (by decide) (by decide) ?_
              exact kt)
            obtain ⟨fs, hr, hrun, hended, hW, hsame⟩ := X70.leave (v := some (.int (1 : Int32))) (fun h => by rw [Bd.returns] at h; cases h)
            refine ⟨_, _, pre82 _ ?_, hrun, hended, _, _, rfl, ?_, ⟨_, rfl⟩, hW, hsame.mono (by decide) (by decide)⟩
            · show Steps p.tables e below (T70.setTop (mkF m 220 #[.val (.int p0), .val (.int p1), .val (.int p2), .val (.int p3), .val (.int (2147483647 : Int32)), .val (.int vs), .val (.int em), .val (.int ve), .val (.int lm), .val (.int vn), .val (.ref b63), .val (.int (f_in vn vs ve)), .val (.long vd), .second, .val (.int (1 : Int32))] [(.int (1 : Int32))])) _
              exact retN X70 hx (t := .boolean) Bd.returns (by simp) (hb hby at_220) hr
            · show Q0 Z p0 p1 p2 p3 h0 n0 _ T70.heap _
              rw [e70]
              exact ⟨rfl, N70⟩
          · have pre83 : ∀ t, Steps p.tables e below (T70.setTop (mkF m 196 #[.val (.int p0), .val (.int p1), .val (.int p2), .val (.int p3), .val (.int (2147483647 : Int32)), .val (.int vs), .val (.int em), .val (.int ve), .val (.int lm), .val (.int vn), .val (.ref b63), .val (.int (f_in vn vs ve)), .val (.long vd), .second, .unset] [(.int (2147483647 : Int32)), (.int ve)])) t → Steps p.tables e below (s₁.setTop (entryFrame m #[(.int p0), (.int p1), (.int p2), (.int p3)] maxLocals)) t := fun t kt => pre80 t (by
              show Steps p.tables e below (T70.setTop (mkF m 183 #[.val (.int p0), .val (.int p1), .val (.int p2), .val (.int p3), .val (.int (2147483647 : Int32)), .val (.int vs), .val (.int em), .val (.int ve), .val (.int lm), .val (.int vn), .val (.ref b63), .val (.int (f_in vn vs ve)), .val (.long vd), .second, .unset] [(.int vs), (.int ve)])) _
              refine XS.icmpYes X70.here hx rfl (pc0 := 183) (pc' := 192) rfl (hb hby at_183) rfl (feq hc183_81).2 (by decide) (by decide) ?_
              show Steps p.tables e below (T70.setTop (mkF m 192 #[.val (.int p0), .val (.int p1), .val (.int p2), .val (.int p3), .val (.int (2147483647 : Int32)), .val (.int vs), .val (.int em), .val (.int ve), .val (.int lm), .val (.int vn), .val (.ref b63), .val (.int (f_in vn vs ve)), .val (.long vd), .second, .unset] [])) _
              refine XS.iload X70.here hx rfl (hb hby at_192) rfl ?_
              show Steps p.tables e below (T70.setTop (mkF m 194 #[.val (.int p0), .val (.int p1), .val (.int p2), .val (.int p3), .val (.int (2147483647 : Int32)), .val (.int vs), .val (.int em), .val (.int ve), .val (.int lm), .val (.int vn), .val (.ref b63), .val (.int (f_in vn vs ve)), .val (.long vd), .second, .unset] [(.int ve)])) _
              refine XS.iload X70.here hx rfl (hb hby at_194) rfl ?_
              exact kt)
            by_cases hc196_84 : ve = (2147483647 : Int32)
            · have pre85 : ∀ t, Steps p.tables e below (T70.setTop (mkF m 220 #[.val (.int p0), .val (.int p1), .val (.int p2), .val (.int p3), .val (.int (2147483647 : Int32)), .val (.int vs), .val (.int em), .val (.int ve), .val (.int lm), .val (.int vn), .val (.ref b63), .val (.int (f_in vn vs ve)), .val (.long vd), .second, .val (.int (1 : Int32))] [(.int (1 : Int32))])) t → Steps p.tables e below (s₁.setTop (entryFrame m #[(.int p0), (.int p1), (.int p2), (.int p3)] maxLocals)) t := fun t kt => pre83 t (by
                show Steps p.tables e below (T70.setTop (mkF m 196 #[.val (.int p0), .val (.int p1), .val (.int p2), .val (.int p3), .val (.int (2147483647 : Int32)), .val (.int vs), .val (.int em), .val (.int ve), .val (.int lm), .val (.int vn), .val (.ref b63), .val (.int (f_in vn vs ve)), .val (.long vd), .second, .unset] [(.int (2147483647 : Int32)), (.int ve)])) _
                refine XS.icmpNo X70.here hx rfl (hb hby at_196) rfl (teq hc196_84).2 ?_
                show Steps p.tables e below (T70.setTop (mkF m 199 #[.val (.int p0), .val (.int p1), .val (.int p2), .val (.int p3), .val (.int (2147483647 : Int32)), .val (.int vs), .val (.int em), .val (.int ve), .val (.int lm), .val (.int vn), .val (.ref b63), .val (.int (f_in vn vs ve)), .val (.long vd), .second, .unset] [])) _
                refine XS.iconst X70.here hx rfl (hb hby at_199) ?_
                show Steps p.tables e below (T70.setTop (mkF m 200 #[.val (.int p0), .val (.int p1), .val (.int p2), .val (.int p3), .val (.int (2147483647 : Int32)), .val (.int vs), .val (.int em), .val (.int ve), .val (.int lm), .val (.int vn), .val (.ref b63), .val (.int (f_in vn vs ve)), .val (.long vd), .second, .unset] [(.int (1 : Int32))])) _
                refine XS.istore X70.here hx rfl (hb hby at_200) rfl (l' := #[.val (.int p0), .val (.int p1), .val (.int p2), .val (.int p3), .val (.int (2147483647 : Int32)), .val (.int vs), .val (.int em), .val (.int ve), .val (.int lm), .val (.int vn), .val (.ref b63), .val (.int (f_in vn vs ve)), .val (.long vd), .second, .val (.int (1 : Int32))]) rfl ?_
                show Steps p.tables e below (T70.setTop (mkF m 202 #[.val (.int p0), .val (.int p1), .val (.int p2), .val (.int p3), .val (.int (2147483647 : Int32)), .val (.int vs), .val (.int em), .val (.int ve), .val (.int lm), .val (.int vn), .val (.ref b63), .val (.int (f_in vn vs ve)), .val (.long vd), .second, .val (.int (1 : Int32))] [])) _
                refine XS.goto X70.here hx rfl (pc0 := 202) (pc' := 208) rfl (hb hby at_202) (by decide) (by decide) ?_
                show Steps p.tables e below (T70.setTop (mkF m 208 #[.val (.int p0), .val (.int p1), .val (.int p2), .val (.int p3), .val (.int (2147483647 : Int32)), .val (.int vs), .val (.int em), .val (.int ve), .val (.int lm), .val (.int vn), .val (.ref b63), .val (.int (f_in vn vs ve)), .val (.long vd), .second, .val (.int (1 : Int32))] [])) _
                refine XS.iload X70.here hx rfl (hb hby at_208) rfl ?_
                show Steps p.tables e below (T70.setTop (mkF m 210 #[.val (.int p0), .val (.int p1), .val (.int p2), .val (.int p3), .val (.int (2147483647 : Int32)), .val (.int vs), .val (.int em), .val (.int ve), .val (.int lm), .val (.int vn), .val (.ref b63), .val (.int (f_in vn vs ve)), .val (.long vd), .second, .val (.int (1 : Int32))] [(.int (f_in vn vs ve))])) _
                refine XS.iload X70.here hx rfl (hb hby at_210) rfl ?_
                show Steps p.tables e below (T70.setTop (mkF m 212 #[.val (.int p0), .val (.int p1), .val (.int p2), .val (.int p3), .val (.int (2147483647 : Int32)), .val (.int vs), .val (.int em), .val (.int ve), .val (.int lm), .val (.int vn), .val (.ref b63), .val (.int (f_in vn vs ve)), .val (.long vd), .second, .val (.int (1 : Int32))] [(.int (1 : Int32)), (.int (f_in vn vs ve))])) _
                refine XS.icmpNo X70.here hx rfl (hb hby at_212) rfl (teq (by
                    have hd := hm73
                    rw [own_in]
                    simp only [← Int32.toInt_inj, Int64.lt_iff_toInt_lt, Int64.reduceToInt, Int32.reduceToInt] at hc157_75 hc170_78 hc183_81 hc196_84
                    repeat' split
                    all_goals first | rfl | (exfalso; omega) : (f_in vn vs ve) = (1 : Int32))).2 ?_
                show Steps p.tables e below (T70.setTop (mkF m 215 #[.val (.int p0), .val (.int p1), .val (.int p2), .val (.int p3), .val (.int (2147483647 : Int32)), .val (.int vs), .val (.int em), .val (.int ve), .val (.int lm), .val (.int vn), .val (.ref b63), .val (.int (f_in vn vs ve)), .val (.long vd), .second, .val (.int (1 : Int32))] [])) _
                refine XS.iconst X70.here hx rfl (hb hby at_215) ?_
                show Steps p.tables e below (T70.setTop (mkF m 216 #[.val (.int p0), .val (.int p1), .val (.int p2), .val (.int p3), .val (.int (2147483647 : Int32)), .val (.int vs), .val (.int em), .val (.int ve), .val (.int lm), .val (.int vn), .val (.ref b63), .val (.int (f_in vn vs ve)), .val (.long vd), .second, .val (.int (1 : Int32))] [(.int (1 : Int32))])) _
                refine XS.goto X70.here hx rfl (pc0 := 216) (pc' := 220) rfl (hb hby at_216) (by decide) (by decide) ?_
                exact kt)
              obtain ⟨fs, hr, hrun, hended, hW, hsame⟩ := X70.leave (v := some (.int (1 : Int32))) (fun h => by rw [Bd.returns] at h; cases h)
              refine ⟨_, _, pre85 _ ?_, hrun, hended, _, _, rfl, ?_, ⟨_, rfl⟩, hW, hsame.mono (by decide) (by decide)⟩
              · show Steps p.tables e below (T70.setTop (mkF m 220 #[.val (.int p0), .val (.int p1), .val (.int p2), .val (.int p3), .val (.int (2147483647 : Int32)), .val (.int vs), .val (.int em), .val (.int ve), .val (.int lm), .val (.int vn), .val (.ref b63), .val (.int (f_in vn vs ve)), .val (.long vd), .second, .val (.int (1 : Int32))] [(.int (1 : Int32))])) _
                exact retN X70 hx (t := .boolean) Bd.returns (by simp) (hb hby at_220) hr
              · show Q0 Z p0 p1 p2 p3 h0 n0 _ T70.heap _
                rw [e70]
                exact ⟨rfl, N70⟩
            · have pre86 : ∀ t, Steps p.tables e below (T70.setTop (mkF m 220 #[.val (.int p0), .val (.int p1), .val (.int p2), .val (.int p3), .val (.int (2147483647 : Int32)), .val (.int vs), .val (.int em), .val (.int ve), .val (.int lm), .val (.int vn), .val (.ref b63), .val (.int (f_in vn vs ve)), .val (.long vd), .second, .val (.int (0 : Int32))] [(.int (1 : Int32))])) t → Steps p.tables e below (s₁.setTop (entryFrame m #[(.int p0), (.int p1), (.int p2), (.int p3)] maxLocals)) t := fun t kt => pre83 t (by
                show Steps p.tables e below (T70.setTop (mkF m 196 #[.val (.int p0), .val (.int p1), .val (.int p2), .val (.int p3), .val (.int (2147483647 : Int32)), .val (.int vs), .val (.int em), .val (.int ve), .val (.int lm), .val (.int vn), .val (.ref b63), .val (.int (f_in vn vs ve)), .val (.long vd), .second, .unset] [(.int (2147483647 : Int32)), (.int ve)])) _
                refine XS.icmpYes X70.here hx rfl (pc0 := 196) (pc' := 205) rfl (hb hby at_196) rfl (feq hc196_84).2 (by decide) (by decide) ?_
                show Steps p.tables e below (T70.setTop (mkF m 205 #[.val (.int p0), .val (.int p1), .val (.int p2), .val (.int p3), .val (.int (2147483647 : Int32)), .val (.int vs), .val (.int em), .val (.int ve), .val (.int lm), .val (.int vn), .val (.ref b63), .val (.int (f_in vn vs ve)), .val (.long vd), .second, .unset] [])) _
                refine XS.iconst X70.here hx rfl (hb hby at_205) ?_
                show Steps p.tables e below (T70.setTop (mkF m 206 #[.val (.int p0), .val (.int p1), .val (.int p2), .val (.int p3), .val (.int (2147483647 : Int32)), .val (.int vs), .val (.int em), .val (.int ve), .val (.int lm), .val (.int vn), .val (.ref b63), .val (.int (f_in vn vs ve)), .val (.long vd), .second, .unset] [(.int (0 : Int32))])) _
                refine XS.istore X70.here hx rfl (hb hby at_206) rfl (l' := #[.val (.int p0), .val (.int p1), .val (.int p2), .val (.int p3), .val (.int (2147483647 : Int32)), .val (.int vs), .val (.int em), .val (.int ve), .val (.int lm), .val (.int vn), .val (.ref b63), .val (.int (f_in vn vs ve)), .val (.long vd), .second, .val (.int (0 : Int32))]) rfl ?_
                show Steps p.tables e below (T70.setTop (mkF m 208 #[.val (.int p0), .val (.int p1), .val (.int p2), .val (.int p3), .val (.int (2147483647 : Int32)), .val (.int vs), .val (.int em), .val (.int ve), .val (.int lm), .val (.int vn), .val (.ref b63), .val (.int (f_in vn vs ve)), .val (.long vd), .second, .val (.int (0 : Int32))] [])) _
                refine XS.iload X70.here hx rfl (hb hby at_208) rfl ?_
                show Steps p.tables e below (T70.setTop (mkF m 210 #[.val (.int p0), .val (.int p1), .val (.int p2), .val (.int p3), .val (.int (2147483647 : Int32)), .val (.int vs), .val (.int em), .val (.int ve), .val (.int lm), .val (.int vn), .val (.ref b63), .val (.int (f_in vn vs ve)), .val (.long vd), .second, .val (.int (0 : Int32))] [(.int (f_in vn vs ve))])) _
                refine XS.iload X70.here hx rfl (hb hby at_210) rfl ?_
                show Steps p.tables e below (T70.setTop (mkF m 212 #[.val (.int p0), .val (.int p1), .val (.int p2), .val (.int p3), .val (.int (2147483647 : Int32)), .val (.int vs), .val (.int em), .val (.int ve), .val (.int lm), .val (.int vn), .val (.ref b63), .val (.int (f_in vn vs ve)), .val (.long vd), .second, .val (.int (0 : Int32))] [(.int (0 : Int32)), (.int (f_in vn vs ve))])) _
                refine XS.icmpNo X70.here hx rfl (hb hby at_212) rfl (teq (by
                    have hd := hm73
                    rw [own_in]
                    simp only [← Int32.toInt_inj, Int64.lt_iff_toInt_lt, Int64.reduceToInt, Int32.reduceToInt] at hc157_75 hc170_78 hc183_81 hc196_84
                    repeat' split
                    all_goals first | rfl | (exfalso; omega) : (f_in vn vs ve) = (0 : Int32))).2 ?_
                show Steps p.tables e below (T70.setTop (mkF m 215 #[.val (.int p0), .val (.int p1), .val (.int p2), .val (.int p3), .val (.int (2147483647 : Int32)), .val (.int vs), .val (.int em), .val (.int ve), .val (.int lm), .val (.int vn), .val (.ref b63), .val (.int (f_in vn vs ve)), .val (.long vd), .second, .val (.int (0 : Int32))] [])) _
                refine XS.iconst X70.here hx rfl (hb hby at_215) ?_
                show Steps p.tables e below (T70.setTop (mkF m 216 #[.val (.int p0), .val (.int p1), .val (.int p2), .val (.int p3), .val (.int (2147483647 : Int32)), .val (.int vs), .val (.int em), .val (.int ve), .val (.int lm), .val (.int vn), .val (.ref b63), .val (.int (f_in vn vs ve)), .val (.long vd), .second, .val (.int (0 : Int32))] [(.int (1 : Int32))])) _
                refine XS.goto X70.here hx rfl (pc0 := 216) (pc' := 220) rfl (hb hby at_216) (by decide) (by decide) ?_
                exact kt)
              obtain ⟨fs, hr, hrun, hended, hW, hsame⟩ := X70.leave (v := some (.int (1 : Int32))) (fun h => by rw [Bd.returns] at h; cases h)
              refine ⟨_, _, pre86 _ ?_, hrun, hended, _, _, rfl, ?_, ⟨_, rfl⟩, hW, hsame.mono (by decide) (by decide)⟩
              · show Steps p.tables e below (T70.setTop (mkF m 220 #[.val (.int p0), .val (.int p1), .val (.int p2), .val (.int p3), .val (.int (2147483647 : Int32)), .val (.int vs), .val (.int em), .val (.int ve), .val (.int lm), .val (.int vn), .val (.ref b63), .val (.int (f_in vn vs ve)), .val (.long vd), .second, .val (.int (0 : Int32))] [(.int (1 : Int32))])) _
                exact retN X70 hx (t := .boolean) Bd.returns (by simp) (hb hby at_220) hr
              · show Q0 Z p0 p1 p2 p3 h0 n0 _ T70.heap _
                rw [e70]
                exact ⟨rfl, N70⟩
    · have pre87 : ∀ t, Steps p.tables e below (s₁.setTop (mkF m 51 #[.val (.int p0), .val (.int p1), .val (.int p2), .val (.int p3), .val (.int (2147483647 : Int32)), .val (.int vs), .val (.int em), .unset, .val (.long ((((2147483647 : Int32).toInt64) - (vs.toInt64)) + (1 : Int64))), .second, .unset, .unset, .unset, .unset, .unset] [])) t → Steps p.tables e below (s₁.setTop (entryFrame m #[(.int p0), (.int p1), (.int p2), (.int p3)] maxLocals)) t := fun t kt => pre46 t (by
        show Steps p.tables e below (s₁.setTop (mkF m 30 #[.val (.int p0), .val (.int p1), .val (.int p2), .val (.int p3), .val (.int (2147483647 : Int32)), .val (.int vs), .val (.int em), .unset, .unset, .unset, .unset, .unset, .unset, .unset, .unset] [(.int (1 : Int32)), (.int em)])) _
        refine XS.icmpYes X0.here hx rfl (pc0 := 30) (pc' := 40) rfl (hb hby at_30) rfl (feq hc30_47).2 (by decide) (by decide) ?_
        show Steps p.tables e below (s₁.setTop (mkF m 40 #[.val (.int p0), .val (.int p1), .val (.int p2), .val (.int p3), .val (.int (2147483647 : Int32)), .val (.int vs), .val (.int em), .unset, .unset, .unset, .unset, .unset, .unset, .unset, .unset] [])) _
        refine XS.iload X0.here hx rfl (hb hby at_40) rfl ?_
        show Steps p.tables e below (s₁.setTop (mkF m 42 #[.val (.int p0), .val (.int p1), .val (.int p2), .val (.int p3), .val (.int (2147483647 : Int32)), .val (.int vs), .val (.int em), .unset, .unset, .unset, .unset, .unset, .unset, .unset, .unset] [(.int (2147483647 : Int32))])) _
        refine XS.i2l X0.here hx rfl (hb hby at_42) rfl ?_
        show Steps p.tables e below (s₁.setTop (mkF m 43 #[.val (.int p0), .val (.int p1), .val (.int p2), .val (.int p3), .val (.int (2147483647 : Int32)), .val (.int vs), .val (.int em), .unset, .unset, .unset, .unset, .unset, .unset, .unset, .unset] [(.long ((2147483647 : Int32).toInt64))])) _
        refine XS.iload X0.here hx rfl (hb hby at_43) rfl ?_
        show Steps p.tables e below (s₁.setTop (mkF m 45 #[.val (.int p0), .val (.int p1), .val (.int p2), .val (.int p3), .val (.int (2147483647 : Int32)), .val (.int vs), .val (.int em), .unset, .unset, .unset, .unset, .unset, .unset, .unset, .unset] [(.int vs), (.long ((2147483647 : Int32).toInt64))])) _
        refine XS.i2l X0.here hx rfl (hb hby at_45) rfl ?_
        show Steps p.tables e below (s₁.setTop (mkF m 46 #[.val (.int p0), .val (.int p1), .val (.int p2), .val (.int p3), .val (.int (2147483647 : Int32)), .val (.int vs), .val (.int em), .unset, .unset, .unset, .unset, .unset, .unset, .unset, .unset] [(.long (vs.toInt64)), (.long ((2147483647 : Int32).toInt64))])) _
        refine XS.lsub X0.here hx rfl (hb hby at_46) rfl ?_
        show Steps p.tables e below (s₁.setTop (mkF m 47 #[.val (.int p0), .val (.int p1), .val (.int p2), .val (.int p3), .val (.int (2147483647 : Int32)), .val (.int vs), .val (.int em), .unset, .unset, .unset, .unset, .unset, .unset, .unset, .unset] [(.long (((2147483647 : Int32).toInt64) - (vs.toInt64)))])) _
        refine XS.lconst X0.here hx rfl (hb hby at_47) ?_
        show Steps p.tables e below (s₁.setTop (mkF m 48 #[.val (.int p0), .val (.int p1), .val (.int p2), .val (.int p3), .val (.int (2147483647 : Int32)), .val (.int vs), .val (.int em), .unset, .unset, .unset, .unset, .unset, .unset, .unset, .unset] [(.long (1 : Int64)), (.long (((2147483647 : Int32).toInt64) - (vs.toInt64)))])) _
        refine XS.ladd X0.here hx rfl (hb hby at_48) rfl ?_
        show Steps p.tables e below (s₁.setTop (mkF m 49 #[.val (.int p0), .val (.int p1), .val (.int p2), .val (.int p3), .val (.int (2147483647 : Int32)), .val (.int vs), .val (.int em), .unset, .unset, .unset, .unset, .unset, .unset, .unset, .unset] [(.long ((((2147483647 : Int32).toInt64) - (vs.toInt64)) + (1 : Int64)))])) _
        refine XS.lstore X0.here hx rfl (hb hby at_49) rfl (l' := #[.val (.int p0), .val (.int p1), .val (.int p2), .val (.int p3), .val (.int (2147483647 : Int32)), .val (.int vs), .val (.int em), .unset, .val (.long ((((2147483647 : Int32).toInt64) - (vs.toInt64)) + (1 : Int64))), .second, .unset, .unset, .unset, .unset, .unset]) rfl ?_
        exact kt)
      obtain ⟨vr, hm88, pre88⟩ : ∃ (vr : Int64), (vr.toInt = 2147483647 - vs.toInt + 1 ∧ vr ≠ 0) ∧ ∀ t, Steps p.tables e below (s₁.setTop (mkF m 51 #[.val (.int p0), .val (.int p1), .val (.int p2), .val (.int p3), .val (.int (2147483647 : Int32)), .val (.int vs), .val (.int em), .unset, .val (.long vr), .second, .unset, .unset, .unset, .unset, .unset] [])) t → Steps p.tables e below (s₁.setTop (entryFrame m #[(.int p0), (.int p1), (.int p2), (.int p3)] maxLocals)) t := ⟨((((2147483647 : Int32).toInt64) - (vs.toInt64)) + (1 : Int64)), ⟨own_room vs hm2, own_rnz vs hm2⟩, pre87⟩
      have pre89 : ∀ t, Steps p.tables e below (s₁.setTop (mkF m 70 #[.val (.int p0), .val (.int p1), .val (.int p2), .val (.int p3), .val (.int (2147483647 : Int32)), .val (.int vs), .val (.int em), .val (.int (((vs.toInt64) + (((p1 &&& (2147483647 : Int32)).toInt64) % vr)).toInt32)), .val (.long vr), .second, .val (.long (((p1 &&& (2147483647 : Int32)).toInt64) % vr)), .second, .unset, .unset, .unset] [])) t → Steps p.tables e below (s₁.setTop (entryFrame m #[(.int p0), (.int p1), (.int p2), (.int p3)] maxLocals)) t := fun t kt => pre88 t (by
        show Steps p.tables e below (s₁.setTop (mkF m 51 #[.val (.int p0), .val (.int p1), .val (.int p2), .val (.int p3), .val (.int (2147483647 : Int32)), .val (.int vs), .val (.int em), .unset, .val (.long vr), .second, .unset, .unset, .unset, .unset, .unset] [])) _
        refine XS.iloadN X0.here hx rfl (hb hby at_51) rfl ?_
        show Steps p.tables e below (s₁.setTop (mkF m 52 #[.val (.int p0), .val (.int p1), .val (.int p2), .val (.int p3), .val (.int (2147483647 : Int32)), .val (.int vs), .val (.int em), .unset, .val (.long vr), .second, .unset, .unset, .unset, .unset, .unset] [(.int p1)])) _
        refine X0.ldcInt hx hown (mvT hZ (hw _ (List.mem_of_getElem? (i := 0) rfl))) (g := (mkF m 52 #[.val (.int p0), .val (.int p1), .val (.int p2), .val (.int p3), .val (.int (2147483647 : Int32)), .val (.int vs), .val (.int em), .unset, .val (.long vr), .second, .unset, .unset, .unset, .unset, .unset] [(.int p1)])) rfl (hb hby at_52) _ ?_
        show Steps p.tables e below (s₁.setTop (mkF m 54 #[.val (.int p0), .val (.int p1), .val (.int p2), .val (.int p3), .val (.int (2147483647 : Int32)), .val (.int vs), .val (.int em), .unset, .val (.long vr), .second, .unset, .unset, .unset, .unset, .unset] [(.int (2147483647 : Int32)), (.int p1)])) _
        refine XS.iand X0.here hx rfl (hb hby at_54) rfl ?_
        show Steps p.tables e below (s₁.setTop (mkF m 55 #[.val (.int p0), .val (.int p1), .val (.int p2), .val (.int p3), .val (.int (2147483647 : Int32)), .val (.int vs), .val (.int em), .unset, .val (.long vr), .second, .unset, .unset, .unset, .unset, .unset] [(.int (p1 &&& (2147483647 : Int32)))])) _
        refine XS.i2l X0.here hx rfl (hb hby at_55) rfl ?_
        show Steps p.tables e below (s₁.setTop (mkF m 56 #[.val (.int p0), .val (.int p1), .val (.int p2), .val (.int p3), .val (.int (2147483647 : Int32)), .val (.int vs), .val (.int em), .unset, .val (.long vr), .second, .unset, .unset, .unset, .unset, .unset] [(.long ((p1 &&& (2147483647 : Int32)).toInt64))])) _
        refine XS.lload X0.here hx rfl (hb hby at_56) rfl ?_
        show Steps p.tables e below (s₁.setTop (mkF m 58 #[.val (.int p0), .val (.int p1), .val (.int p2), .val (.int p3), .val (.int (2147483647 : Int32)), .val (.int vs), .val (.int em), .unset, .val (.long vr), .second, .unset, .unset, .unset, .unset, .unset] [(.long vr), (.long ((p1 &&& (2147483647 : Int32)).toInt64))])) _
        refine XS.lrem X0.here hx rfl (hb hby at_58) rfl hm88.2 ?_
        rw [lrem_mod]
        show Steps p.tables e below (s₁.setTop (mkF m 59 #[.val (.int p0), .val (.int p1), .val (.int p2), .val (.int p3), .val (.int (2147483647 : Int32)), .val (.int vs), .val (.int em), .unset, .val (.long vr), .second, .unset, .unset, .unset, .unset, .unset] [(.long (((p1 &&& (2147483647 : Int32)).toInt64) % vr))])) _
        refine XS.lstore X0.here hx rfl (hb hby at_59) rfl (l' := #[.val (.int p0), .val (.int p1), .val (.int p2), .val (.int p3), .val (.int (2147483647 : Int32)), .val (.int vs), .val (.int em), .unset, .val (.long vr), .second, .val (.long (((p1 &&& (2147483647 : Int32)).toInt64) % vr)), .second, .unset, .unset, .unset]) rfl ?_
        show Steps p.tables e below (s₁.setTop (mkF m 61 #[.val (.int p0), .val (.int p1), .val (.int p2), .val (.int p3), .val (.int (2147483647 : Int32)), .val (.int vs), .val (.int em), .unset, .val (.long vr), .second, .val (.long (((p1 &&& (2147483647 : Int32)).toInt64) % vr)), .second, .unset, .unset, .unset] [])) _
        refine XS.iload X0.here hx rfl (hb hby at_61) rfl ?_
        show Steps p.tables e below (s₁.setTop (mkF m 63 #[.val (.int p0), .val (.int p1), .val (.int p2), .val (.int p3), .val (.int (2147483647 : Int32)), .val (.int vs), .val (.int em), .unset, .val (.long vr), .second, .val (.long (((p1 &&& (2147483647 : Int32)).toInt64) % vr)), .second, .unset, .unset, .unset] [(.int vs)])) _
        refine XS.i2l X0.here hx rfl (hb hby at_63) rfl ?_
        show Steps p.tables e below (s₁.setTop (mkF m 64 #[.val (.int p0), .val (.int p1), .val (.int p2), .val (.int p3), .val (.int (2147483647 : Int32)), .val (.int vs), .val (.int em), .unset, .val (.long vr), .second, .val (.long (((p1 &&& (2147483647 : Int32)).toInt64) % vr)), .second, .unset, .unset, .unset] [(.long (vs.toInt64))])) _
        refine XS.lload X0.here hx rfl (hb hby at_64) rfl ?_
        show Steps p.tables e below (s₁.setTop (mkF m 66 #[.val (.int p0), .val (.int p1), .val (.int p2), .val (.int p3), .val (.int (2147483647 : Int32)), .val (.int vs), .val (.int em), .unset, .val (.long vr), .second, .val (.long (((p1 &&& (2147483647 : Int32)).toInt64) % vr)), .second, .unset, .unset, .unset] [(.long (((p1 &&& (2147483647 : Int32)).toInt64) % vr)), (.long (vs.toInt64))])) _
        refine XS.ladd X0.here hx rfl (hb hby at_66) rfl ?_
        show Steps p.tables e below (s₁.setTop (mkF m 67 #[.val (.int p0), .val (.int p1), .val (.int p2), .val (.int p3), .val (.int (2147483647 : Int32)), .val (.int vs), .val (.int em), .unset, .val (.long vr), .second, .val (.long (((p1 &&& (2147483647 : Int32)).toInt64) % vr)), .second, .unset, .unset, .unset] [(.long ((vs.toInt64) + (((p1 &&& (2147483647 : Int32)).toInt64) % vr)))])) _
        refine XS.l2i X0.here hx rfl (hb hby at_67) rfl ?_
        show Steps p.tables e below (s₁.setTop (mkF m 68 #[.val (.int p0), .val (.int p1), .val (.int p2), .val (.int p3), .val (.int (2147483647 : Int32)), .val (.int vs), .val (.int em), .unset, .val (.long vr), .second, .val (.long (((p1 &&& (2147483647 : Int32)).toInt64) % vr)), .second, .unset, .unset, .unset] [(.int (((vs.toInt64) + (((p1 &&& (2147483647 : Int32)).toInt64) % vr)).toInt32))])) _
        refine XS.istore X0.here hx rfl (hb hby at_68) rfl (l' := #[.val (.int p0), .val (.int p1), .val (.int p2), .val (.int p3), .val (.int (2147483647 : Int32)), .val (.int vs), .val (.int em), .val (.int (((vs.toInt64) + (((p1 &&& (2147483647 : Int32)).toInt64) % vr)).toInt32)), .val (.long vr), .second, .val (.long (((p1 &&& (2147483647 : Int32)).toInt64) % vr)), .second, .unset, .unset, .unset]) rfl ?_
        exact kt)
      obtain ⟨ve, hm90, pre90⟩ : ∃ (ve : Int32), (vs.toInt ≤ ve.toInt) ∧ ∀ t, Steps p.tables e below (s₁.setTop (mkF m 70 #[.val (.int p0), .val (.int p1), .val (.int p2), .val (.int p3), .val (.int (2147483647 : Int32)), .val (.int vs), .val (.int em), .val (.int ve), .val (.long vr), .second, .val (.long (((p1 &&& (2147483647 : Int32)).toInt64) % vr)), .second, .unset, .unset, .unset] [])) t → Steps p.tables e below (s₁.setTop (entryFrame m #[(.int p0), (.int p1), (.int p2), (.int p3)] maxLocals)) t := ⟨(((vs.toInt64) + (((p1 &&& (2147483647 : Int32)).toInt64) % vr)).toInt32), own_e vs p1 vr hm2 hm88.1, pre89⟩
      have pre91 : ∀ t, Steps p.tables e below (s₁.setTop (mkF m 77 #[.val (.int p0), .val (.int p1), .val (.int p2), .val (.int p3), .val (.int (2147483647 : Int32)), .val (.int vs), .val (.int em), .val (.int ve), .val (.int (((p3.toUInt32 >>> ((2 : Int32) &&& 31).toUInt32).toInt32) &&& (3 : Int32))), .unset, .val (.long (((p1 &&& (2147483647 : Int32)).toInt64) % vr)), .second, .unset, .unset, .unset] [])) t → Steps p.tables e below (s₁.setTop (entryFrame m #[(.int p0), (.int p1), (.int p2), (.int p3)] maxLocals)) t := fun t kt => pre90 t (by
        show Steps p.tables e below (s₁.setTop (mkF m 70 #[.val (.int p0), .val (.int p1), .val (.int p2), .val (.int p3), .val (.int (2147483647 : Int32)), .val (.int vs), .val (.int em), .val (.int ve), .val (.long vr), .second, .val (.long (((p1 &&& (2147483647 : Int32)).toInt64) % vr)), .second, .unset, .unset, .unset] [])) _
        refine XS.iloadN X0.here hx rfl (hb hby at_70) rfl ?_
        show Steps p.tables e below (s₁.setTop (mkF m 71 #[.val (.int p0), .val (.int p1), .val (.int p2), .val (.int p3), .val (.int (2147483647 : Int32)), .val (.int vs), .val (.int em), .val (.int ve), .val (.long vr), .second, .val (.long (((p1 &&& (2147483647 : Int32)).toInt64) % vr)), .second, .unset, .unset, .unset] [(.int p3)])) _
        refine XS.iconst X0.here hx rfl (hb hby at_71) ?_
        show Steps p.tables e below (s₁.setTop (mkF m 72 #[.val (.int p0), .val (.int p1), .val (.int p2), .val (.int p3), .val (.int (2147483647 : Int32)), .val (.int vs), .val (.int em), .val (.int ve), .val (.long vr), .second, .val (.long (((p1 &&& (2147483647 : Int32)).toInt64) % vr)), .second, .unset, .unset, .unset] [(.int (2 : Int32)), (.int p3)])) _
        refine XS.iushr X0.here hx rfl (hb hby at_72) rfl ?_
        show Steps p.tables e below (s₁.setTop (mkF m 73 #[.val (.int p0), .val (.int p1), .val (.int p2), .val (.int p3), .val (.int (2147483647 : Int32)), .val (.int vs), .val (.int em), .val (.int ve), .val (.long vr), .second, .val (.long (((p1 &&& (2147483647 : Int32)).toInt64) % vr)), .second, .unset, .unset, .unset] [(.int ((p3.toUInt32 >>> ((2 : Int32) &&& 31).toUInt32).toInt32))])) _
        refine XS.iconst X0.here hx rfl (hb hby at_73) ?_
        show Steps p.tables e below (s₁.setTop (mkF m 74 #[.val (.int p0), .val (.int p1), .val (.int p2), .val (.int p3), .val (.int (2147483647 : Int32)), .val (.int vs), .val (.int em), .val (.int ve), .val (.long vr), .second, .val (.long (((p1 &&& (2147483647 : Int32)).toInt64) % vr)), .second, .unset, .unset, .unset] [(.int (3 : Int32)), (.int ((p3.toUInt32 >>> ((2 : Int32) &&& 31).toUInt32).toInt32))])) _
        refine XS.iand X0.here hx rfl (hb hby at_74) rfl ?_
        show Steps p.tables e below (s₁.setTop (mkF m 75 #[.val (.int p0), .val (.int p1), .val (.int p2), .val (.int p3), .val (.int (2147483647 : Int32)), .val (.int vs), .val (.int em), .val (.int ve), .val (.long vr), .second, .val (.long (((p1 &&& (2147483647 : Int32)).toInt64) % vr)), .second, .unset, .unset, .unset] [(.int (((p3.toUInt32 >>> ((2 : Int32) &&& 31).toUInt32).toInt32) &&& (3 : Int32)))])) _
        refine XS.istore X0.here hx rfl (hb hby at_75) rfl (l' := #[.val (.int p0), .val (.int p1), .val (.int p2), .val (.int p3), .val (.int (2147483647 : Int32)), .val (.int vs), .val (.int em), .val (.int ve), .val (.int (((p3.toUInt32 >>> ((2 : Int32) &&& 31).toUInt32).toInt32) &&& (3 : Int32))), .unset, .val (.long (((p1 &&& (2147483647 : Int32)).toInt64) % vr)), .second, .unset, .unset, .unset]) rfl ?_
        exact kt)
      obtain ⟨lm, hm92, pre92⟩ : ∃ (lm : Int32), (True) ∧ ∀ t, Steps p.tables e below (s₁.setTop (mkF m 77 #[.val (.int p0), .val (.int p1), .val (.int p2), .val (.int p3), .val (.int (2147483647 : Int32)), .val (.int vs), .val (.int em), .val (.int ve), .val (.int lm), .unset, .val (.long (((p1 &&& (2147483647 : Int32)).toInt64) % vr)), .second, .unset, .unset, .unset] [])) t → Steps p.tables e below (s₁.setTop (entryFrame m #[(.int p0), (.int p1), (.int p2), (.int p3)] maxLocals)) t := ⟨(((p3.toUInt32 >>> ((2 : Int32) &&& 31).toUInt32).toInt32) &&& (3 : Int32)), trivial, pre91⟩
      obtain ⟨vn, hm93, pre93⟩ : ∃ (vn : Int32), (True) ∧ ∀ t, Steps p.tables e below (s₁.setTop (mkF m 122 #[.val (.int p0), .val (.int p1), .val (.int p2), .val (.int p3), .val (.int (2147483647 : Int32)), .val (.int vs), .val (.int em), .val (.int ve), .val (.int lm), .val (.int vn), .val (.long (((p1 &&& (2147483647 : Int32)).toInt64) % vr)), .second, .unset, .unset, .unset] [])) t → Steps p.tables e below (s₁.setTop (entryFrame m #[(.int p0), (.int p1), (.int p2), (.int p3)] maxLocals)) t := by
        have pre94 : ∀ t, Steps p.tables e below (s₁.setTop (mkF m 79 #[.val (.int p0), .val (.int p1), .val (.int p2), .val (.int p3), .val (.int (2147483647 : Int32)), .val (.int vs), .val (.int em), .val (.int ve), .val (.int lm), .unset, .val (.long (((p1 &&& (2147483647 : Int32)).toInt64) % vr)), .second, .unset, .unset, .unset] [(.int lm)])) t → Steps p.tables e below (s₁.setTop (entryFrame m #[(.int p0), (.int p1), (.int p2), (.int p3)] maxLocals)) t := fun t kt => pre92 t (by
          show Steps p.tables e below (s₁.setTop (mkF m 77 #[.val (.int p0), .val (.int p1), .val (.int p2), .val (.int p3), .val (.int (2147483647 : Int32)), .val (.int vs), .val (.int em), .val (.int ve), .val (.int lm), .unset, .val (.long (((p1 &&& (2147483647 : Int32)).toInt64) % vr)), .second, .unset, .unset, .unset] [])) _
          refine XS.iload X0.here hx rfl (hb hby at_77) rfl ?_
          exact kt)
        by_cases hc79_95 : lm = (0 : Int32)
        · have pre96 : ∀ t, Steps p.tables e below (s₁.setTop (mkF m 122 #[.val (.int p0), .val (.int p1), .val (.int p2), .val (.int p3), .val (.int (2147483647 : Int32)), .val (.int vs), .val (.int em), .val (.int ve), .val (.int lm), .val (.int p2), .val (.long (((p1 &&& (2147483647 : Int32)).toInt64) % vr)), .second, .unset, .unset, .unset] [])) t → Steps p.tables e below (s₁.setTop (entryFrame m #[(.int p0), (.int p1), (.int p2), (.int p3)] maxLocals)) t := fun t kt => pre94 t (by
            show Steps p.tables e below (s₁.setTop (mkF m 79 #[.val (.int p0), .val (.int p1), .val (.int p2), .val (.int p3), .val (.int (2147483647 : Int32)), .val (.int vs), .val (.int em), .val (.int ve), .val (.int lm), .unset, .val (.long (((p1 &&& (2147483647 : Int32)).toInt64) % vr)), .second, .unset, .unset, .unset] [(.int lm)])) _
            refine XS.ifNo X0.here hx rfl (hb hby at_79) rfl ((if0 _ _).trans (teq hc79_95).2) ?_
            show Steps p.tables e below (s₁.setTop (mkF m 82 #[.val (.int p0), .val (.int p1), .val (.int p2), .val (.int p3), .val (.int (2147483647 : Int32)), .val (.int vs), .val (.int em), .val (.int ve), .val (.int lm), .unset, .val (.long (((p1 &&& (2147483647 : Int32)).toInt64) % vr)), .second, .unset, .unset, .unset] [])) _
            refine XS.iloadN X0.here hx rfl (hb hby at_82) rfl ?_
            show Steps p.tables e below (s₁.setTop (mkF m 83 #[.val (.int p0), .val (.int p1), .val (.int p2), .val (.int p3), .val (.int (2147483647 : Int32)), .val (.int vs), .val (.int em), .val (.int ve), .val (.int lm), .unset, .val (.long (((p1 &&& (2147483647 : Int32)).toInt64) % vr)), .second, .unset, .unset, .unset] [(.int p2)])) _
            refine XS.istore X0.here hx rfl (hb hby at_83) rfl (l' := #[.val (.int p0), .val (.int p1), .val (.int p2), .val (.int p3), .val (.int (2147483647 : Int32)), .val (.int vs), .val (.int em), .val (.int ve), .val (.int lm), .val (.int p2), .val (.long (((p1 &&& (2147483647 : Int32)).toInt64) % vr)), .second, .unset, .unset, .unset]) rfl ?_
            show Steps p.tables e below (s₁.setTop (mkF m 85 #[.val (.int p0), .val (.int p1), .val (.int p2), .val (.int p3), .val (.int (2147483647 : Int32)), .val (.int vs), .val (.int em), .val (.int ve), .val (.int lm), .val (.int p2), .val (.long (((p1 &&& (2147483647 : Int32)).toInt64) % vr)), .second, .unset, .unset, .unset] [])) _
            refine XS.goto X0.here hx rfl (pc0 := 85) (pc' := 122) rfl (hb hby at_85) (by decide) (by decide) ?_
            exact kt)
          exact ⟨p2, trivial, pre96⟩
        · have pre97 : ∀ t, Steps p.tables e below (s₁.setTop (mkF m 91 #[.val (.int p0), .val (.int p1), .val (.int p2), .val (.int p3), .val (.int (2147483647 : Int32)), .val (.int vs), .val (.int em), .val (.int ve), .val (.int lm), .unset, .val (.long (((p1 &&& (2147483647 : Int32)).toInt64) % vr)), .second, .unset, .unset, .unset] [(.int (1 : Int32)), (.int lm)])) t → Steps p.tables e below (s₁.setTop (entryFrame m #[(.int p0), (.int p1), (.int p2), (.int p3)] maxLocals)) t := fun t kt => pre94 t (by
            show Steps p.tables e below (s₁.setTop (mkF m 79 #[.val (.int p0), .val (.int p1), .val (.int p2), .val (.int p3), .val (.int (2147483647 : Int32)), .val (.int vs), .val (.int em), .val (.int ve), .val (.int lm), .unset, .val (.long (((p1 &&& (2147483647 : Int32)).toInt64) % vr)), .second, .unset, .unset, .unset] [(.int lm)])) _
            refine XS.ifYes X0.here hx rfl (pc0 := 79) (pc' := 88) rfl (hb hby at_79) rfl ((if0 _ _).trans (feq hc79_95).2) (by decide) (by decide) ?_
            show Steps p.tables e below (s₁.setTop (mkF m 88 #[.val (.int p0), .val (.int p1), .val (.int p2), .val (.int p3), .val (.int (2147483647 : Int32)), .val (.int vs), .val (.int em), .val (.int ve), .val (.int lm), .unset, .val (.long (((p1 &&& (2147483647 : Int32)).toInt64) % vr)), .second, .unset, .unset, .unset] [])) _
            refine XS.iload X0.here hx rfl (hb hby at_88) rfl ?_
            show Steps p.tables e below (s₁.setTop (mkF m 90 #[.val (.int p0), .val (.int p1), .val (.int p2), .val (.int p3), .val (.int (2147483647 : Int32)), .val (.int vs), .val (.int em), .val (.int ve), .val (.int lm), .unset, .val (.long (((p1 &&& (2147483647 : Int32)).toInt64) % vr)), .second, .unset, .unset, .unset] [(.int lm)])) _
            refine XS.iconst X0.here hx rfl (hb hby at_90) ?_
            exact kt)
          by_cases hc91_98 : lm = (1 : Int32)
          · have pre99 : ∀ t, Steps p.tables e below (s₁.setTop (mkF m 122 #[.val (.int p0), .val (.int p1), .val (.int p2), .val (.int p3), .val (.int (2147483647 : Int32)), .val (.int vs), .val (.int em), .val (.int ve), .val (.int lm), .val (.int vs), .val (.long (((p1 &&& (2147483647 : Int32)).toInt64) % vr)), .second, .unset, .unset, .unset] [])) t → Steps p.tables e below (s₁.setTop (entryFrame m #[(.int p0), (.int p1), (.int p2), (.int p3)] maxLocals)) t := fun t kt => pre97 t (by
              show Steps p.tables e below (s₁.setTop (mkF m 91 #[.val (.int p0), .val (.int p1), .val (.int p2), .val (.int p3), .val (.int (2147483647 : Int32)), .val (.int vs), .val (.int em), .val (.int ve), .val (.int lm), .unset, .val (.long (((p1 &&& (2147483647 : Int32)).toInt64) % vr)), .second, .unset, .unset, .unset] [(.int (1 : Int32)), (.int lm)])) _
              refine XS.icmpNo X0.here hx rfl (hb hby at_91) rfl (teq hc91_98).2 ?_
              show Steps p.tables e below (s₁.setTop (mkF m 94 #[.val (.int p0), .val (.int p1), .val (.int p2), .val (.int p3), .val (.int (2147483647 : Int32)), .val (.int vs), .val (.int em), .val (.int ve), .val (.int lm), .unset, .val (.long (((p1 &&& (2147483647 : Int32)).toInt64) % vr)), .second, .unset, .unset, .unset] [])) _
              refine XS.iload X0.here hx rfl (hb hby at_94) rfl ?_
              show Steps p.tables e below (s₁.setTop (mkF m 96 #[.val (.int p0), .val (.int p1), .val (.int p2), .val (.int p3), .val (.int (2147483647 : Int32)), .val (.int vs), .val (.int em), .val (.int ve), .val (.int lm), .unset, .val (.long (((p1 &&& (2147483647 : Int32)).toInt64) % vr)), .second, .unset, .unset, .unset] [(.int vs)])) _
              refine XS.istore X0.here hx rfl (hb hby at_96) rfl (l' := #[.val (.int p0), .val (.int p1), .val (.int p2), .val (.int p3), .val (.int (2147483647 : Int32)), .val (.int vs), .val (.int em), .val (.int ve), .val (.int lm), .val (.int vs), .val (.long (((p1 &&& (2147483647 : Int32)).toInt64) % vr)), .second, .unset, .unset, .unset]) rfl ?_
              show Steps p.tables e below (s₁.setTop (mkF m 98 #[.val (.int p0), .val (.int p1), .val (.int p2), .val (.int p3), .val (.int (2147483647 : Int32)), .val (.int vs), .val (.int em), .val (.int ve), .val (.int lm), .val (.int vs), .val (.long (((p1 &&& (2147483647 : Int32)).toInt64) % vr)), .second, .unset, .unset, .unset] [])) _
              refine XS.goto X0.here hx rfl (pc0 := 98) (pc' := 122) rfl (hb hby at_98) (by decide) (by decide) ?_
              exact kt)
            exact ⟨vs, trivial, pre99⟩
          · have pre100 : ∀ t, Steps p.tables e below (s₁.setTop (mkF m 104 #[.val (.int p0), .val (.int p1), .val (.int p2), .val (.int p3), .val (.int (2147483647 : Int32)), .val (.int vs), .val (.int em), .val (.int ve), .val (.int lm), .unset, .val (.long (((p1 &&& (2147483647 : Int32)).toInt64) % vr)), .second, .unset, .unset, .unset] [(.int (2 : Int32)), (.int lm)])) t → Steps p.tables e below (s₁.setTop (entryFrame m #[(.int p0), (.int p1), (.int p2), (.int p3)] maxLocals)) t := fun t kt => pre97 t (by
              show Steps p.tables e below (s₁.setTop (mkF m 91 #[.val (.int p0), .val (.int p1), .val (.int p2), .val (.int p3), .val (.int (2147483647 : Int32)), .val (.int vs), .val (.int em), .val (.int ve), .val (.int lm), .unset, .val (.long (((p1 &&& (2147483647 : Int32)).toInt64) % vr)), .second, .unset, .unset, .unset] [(.int (1 : Int32)), (.int lm)])) _
              refine XS.icmpYes X0.here hx rfl (pc0 := 91) (pc' := 101) rfl (hb hby at_91) rfl (feq hc91_98).2 (by decide) (by decide) ?_
              show Steps p.tables e below (s₁.setTop (mkF m 101 #[.val (.int p0), .val (.int p1), .val (.int p2), .val (.int p3), .val (.int (2147483647 : Int32)), .val (.int vs), .val (.int em), .val (.int ve), .val (.int lm), .unset, .val (.long (((p1 &&& (2147483647 : Int32)).toInt64) % vr)), .second, .unset, .unset, .unset] [])) _
              refine XS.iload X0.here hx rfl (hb hby at_101) rfl ?_
              show Steps p.tables e below (s₁.setTop (mkF m 103 #[.val (.int p0), .val (.int p1), .val (.int p2), .val (.int p3), .val (.int (2147483647 : Int32)), .val (.int vs), .val (.int em), .val (.int ve), .val (.int lm), .unset, .val (.long (((p1 &&& (2147483647 : Int32)).toInt64) % vr)), .second, .unset, .unset, .unset] [(.int lm)])) _
              refine XS.iconst X0.here hx rfl (hb hby at_103) ?_
              exact kt)
            by_cases hc104_101 : lm = (2 : Int32)
            · have pre102 : ∀ t, Steps p.tables e below (s₁.setTop (mkF m 122 #[.val (.int p0), .val (.int p1), .val (.int p2), .val (.int p3), .val (.int (2147483647 : Int32)), .val (.int vs), .val (.int em), .val (.int ve), .val (.int lm), .val (.int (vs - (1 : Int32))), .val (.long (((p1 &&& (2147483647 : Int32)).toInt64) % vr)), .second, .unset, .unset, .unset] [])) t → Steps p.tables e below (s₁.setTop (entryFrame m #[(.int p0), (.int p1), (.int p2), (.int p3)] maxLocals)) t := fun t kt => pre100 t (by
                show Steps p.tables e below (s₁.setTop (mkF m 104 #[.val (.int p0), .val (.int p1), .val (.int p2), .val (.int p3), .val (.int (2147483647 : Int32)), .val (.int vs), .val (.int em), .val (.int ve), .val (.int lm), .unset, .val (.long (((p1 &&& (2147483647 : Int32)).toInt64) % vr)), .second, .unset, .unset, .unset] [(.int (2 : Int32)), (.int lm)])) _
                refine XS.icmpNo X0.here hx rfl (hb hby at_104) rfl (teq hc104_101).2 ?_
                show Steps p.tables e below (s₁.setTop (mkF m 107 #[.val (.int p0), .val (.int p1), .val (.int p2), .val (.int p3), .val (.int (2147483647 : Int32)), .val (.int vs), .val (.int em), .val (.int ve), .val (.int lm), .unset, .val (.long (((p1 &&& (2147483647 : Int32)).toInt64) % vr)), .second, .unset, .unset, .unset] [])) _
                refine XS.iload X0.here hx rfl (hb hby at_107) rfl ?_
                show Steps p.tables e below (s₁.setTop (mkF m 109 #[.val (.int p0), .val (.int p1), .val (.int p2), .val (.int p3), .val (.int (2147483647 : Int32)), .val (.int vs), .val (.int em), .val (.int ve), .val (.int lm), .unset, .val (.long (((p1 &&& (2147483647 : Int32)).toInt64) % vr)), .second, .unset, .unset, .unset] [(.int vs)])) _
                refine XS.iconst X0.here hx rfl (hb hby at_109) ?_
                show Steps p.tables e below (s₁.setTop (mkF m 110 #[.val (.int p0), .val (.int p1), .val (.int p2), .val (.int p3), .val (.int (2147483647 : Int32)), .val (.int vs), .val (.int em), .val (.int ve), .val (.int lm), .unset, .val (.long (((p1 &&& (2147483647 : Int32)).toInt64) % vr)), .second, .unset, .unset, .unset] [(.int (1 : Int32)), (.int vs)])) _
                refine XS.isub X0.here hx rfl (hb hby at_110) rfl ?_
                show Steps p.tables e below (s₁.setTop (mkF m 111 #[.val (.int p0), .val (.int p1), .val (.int p2), .val (.int p3), .val (.int (2147483647 : Int32)), .val (.int vs), .val (.int em), .val (.int ve), .val (.int lm), .unset, .val (.long (((p1 &&& (2147483647 : Int32)).toInt64) % vr)), .second, .unset, .unset, .unset] [(.int (vs - (1 : Int32)))])) _
                refine XS.istore X0.here hx rfl (hb hby at_111) rfl (l' := #[.val (.int p0), .val (.int p1), .val (.int p2), .val (.int p3), .val (.int (2147483647 : Int32)), .val (.int vs), .val (.int em), .val (.int ve), .val (.int lm), .val (.int (vs - (1 : Int32))), .val (.long (((p1 &&& (2147483647 : Int32)).toInt64) % vr)), .second, .unset, .unset, .unset]) rfl ?_
                show Steps p.tables e below (s₁.setTop (mkF m 113 #[.val (.int p0), .val (.int p1), .val (.int p2), .val (.int p3), .val (.int (2147483647 : Int32)), .val (.int vs), .val (.int em), .val (.int ve), .val (.int lm), .val (.int (vs - (1 : Int32))), .val (.long (((p1 &&& (2147483647 : Int32)).toInt64) % vr)), .second, .unset, .unset, .unset] [])) _
                refine XS.goto X0.here hx rfl (pc0 := 113) (pc' := 122) rfl (hb hby at_113) (by decide) (by decide) ?_
                exact kt)
              exact ⟨(vs - (1 : Int32)), trivial, pre102⟩
            · have pre103 : ∀ t, Steps p.tables e below (s₁.setTop (mkF m 122 #[.val (.int p0), .val (.int p1), .val (.int p2), .val (.int p3), .val (.int (2147483647 : Int32)), .val (.int vs), .val (.int em), .val (.int ve), .val (.int lm), .val (.int (vs + (1 : Int32))), .val (.long (((p1 &&& (2147483647 : Int32)).toInt64) % vr)), .second, .unset, .unset, .unset] [])) t → Steps p.tables e below (s₁.setTop (entryFrame m #[(.int p0), (.int p1), (.int p2), (.int p3)] maxLocals)) t := fun t kt => pre100 t (by
                show Steps p.tables e below (s₁.setTop (mkF m 104 #[.val (.int p0), .val (.int p1), .val (.int p2), .val (.int p3), .val (.int (2147483647 : Int32)), .val (.int vs), .val (.int em), .val (.int ve), .val (.int lm), .unset, .val (.long (((p1 &&& (2147483647 : Int32)).toInt64) % vr)), .second, .unset, .unset, .unset] [(.int (2 : Int32)), (.int lm)])) _
                refine XS.icmpYes X0.here hx rfl (pc0 := 104) (pc' := 116) rfl (hb hby at_104) rfl (feq hc104_101).2 (by decide) (by decide) ?_
                show Steps p.tables e below (s₁.setTop (mkF m 116 #[.val (.int p0), .val (.int p1), .val (.int p2), .val (.int p3), .val (.int (2147483647 : Int32)), .val (.int vs), .val (.int em), .val (.int ve), .val (.int lm), .unset, .val (.long (((p1 &&& (2147483647 : Int32)).toInt64) % vr)), .second, .unset, .unset, .unset] [])) _
                refine XS.iload X0.here hx rfl (hb hby at_116) rfl ?_
                show Steps p.tables e below (s₁.setTop (mkF m 118 #[.val (.int p0), .val (.int p1), .val (.int p2), .val (.int p3), .val (.int (2147483647 : Int32)), .val (.int vs), .val (.int em), .val (.int ve), .val (.int lm), .unset, .val (.long (((p1 &&& (2147483647 : Int32)).toInt64) % vr)), .second, .unset, .unset, .unset] [(.int vs)])) _
                refine XS.iconst X0.here hx rfl (hb hby at_118) ?_
                show Steps p.tables e below (s₁.setTop (mkF m 119 #[.val (.int p0), .val (.int p1), .val (.int p2), .val (.int p3), .val (.int (2147483647 : Int32)), .val (.int vs), .val (.int em), .val (.int ve), .val (.int lm), .unset, .val (.long (((p1 &&& (2147483647 : Int32)).toInt64) % vr)), .second, .unset, .unset, .unset] [(.int (1 : Int32)), (.int vs)])) _
                refine XS.iadd X0.here hx rfl (hb hby at_119) rfl ?_
                show Steps p.tables e below (s₁.setTop (mkF m 120 #[.val (.int p0), .val (.int p1), .val (.int p2), .val (.int p3), .val (.int (2147483647 : Int32)), .val (.int vs), .val (.int em), .val (.int ve), .val (.int lm), .unset, .val (.long (((p1 &&& (2147483647 : Int32)).toInt64) % vr)), .second, .unset, .unset, .unset] [(.int (vs + (1 : Int32)))])) _
                refine XS.istore X0.here hx rfl (hb hby at_120) rfl (l' := #[.val (.int p0), .val (.int p1), .val (.int p2), .val (.int p3), .val (.int (2147483647 : Int32)), .val (.int vs), .val (.int em), .val (.int ve), .val (.int lm), .val (.int (vs + (1 : Int32))), .val (.long (((p1 &&& (2147483647 : Int32)).toInt64) % vr)), .second, .unset, .unset, .unset]) rfl ?_
                exact kt)
              exact ⟨(vs + (1 : Int32)), trivial, pre103⟩
      obtain ⟨T104, h104, X104, e104, E104, A104, D104, -, st104⟩ := newO X0 hx hZ hown (hw _ (List.mem_of_getElem? (i := 1) rfl)) (hw _ (List.mem_of_getElem? (i := 2) rfl)) (hw _ (List.mem_of_getElem? (i := 3) rfl)) e0 (g := (mkF m 122 #[.val (.int p0), .val (.int p1), .val (.int p2), .val (.int p3), .val (.int (2147483647 : Int32)), .val (.int vs), .val (.int em), .val (.int ve), .val (.int lm), .val (.int vn), .val (.long (((p1 &&& (2147483647 : Int32)).toInt64) % vr)), .second, .unset, .unset, .unset] [])) rfl (hb hby at_122) (by decide) (by decide)
      obtain ⟨b104, g104⟩ : ∃ z, z = h0.size := ⟨_, rfl⟩
      rw [← g104] at A104 D104 st104
      have pre105 : ∀ t, Steps p.tables e below (T104.setTop (mkF m 125 #[.val (.int p0), .val (.int p1), .val (.int p2), .val (.int p3), .val (.int (2147483647 : Int32)), .val (.int vs), .val (.int em), .val (.int ve), .val (.int lm), .val (.int vn), .val (.long (((p1 &&& (2147483647 : Int32)).toInt64) % vr)), .second, .unset, .unset, .unset] [(.ref b104)])) t → Steps p.tables e below (s₁.setTop (entryFrame m #[(.int p0), (.int p1), (.int p2), (.int p3)] maxLocals)) t := fun t kt => pre93 t (st104 _ kt)
      have gn104 : n0 ≤ b104 := Nat.le_trans Z0 (Nat.le_of_eq g104.symm)
      have sz104 : h0.size ≤ b104 := Nat.le_trans K0.1 (Nat.le_of_eq g104.symm)
      have K104 : Keep h0 h104 [] := K0.ext E104
      have Z104 : n0 ≤ h104.size := Nat.le_trans Z0 E104.1
      have Fn104_start : Fld Z h104 b104 "com/example/baton/baton/core/PositionRange" "start" "I" (.int (0 : Int32)) := D104 (Or.inr (hw _ (List.mem_of_getElem? (i := 16) rfl))) (ty := .int) (by decide)
      have Fn104_end : Fld Z h104 b104 "com/example/baton/baton/core/PositionRange" "end" "I" (.int (0 : Int32)) := D104 (Or.inr (hw _ (List.mem_of_getElem? (i := 18) rfl))) (ty := .int) (by decide)
      have pre106 : ∀ t, Steps p.tables e below (T104.setTop (mkF m 130 #[.val (.int p0), .val (.int p1), .val (.int p2), .val (.int p3), .val (.int (2147483647 : Int32)), .val (.int vs), .val (.int em), .val (.int ve), .val (.int lm), .val (.int vn), .val (.long (((p1 &&& (2147483647 : Int32)).toInt64) % vr)), .second, .unset, .unset, .unset] [(.int ve), (.int vs), (.ref b104), (.ref b104)])) t → Steps p.tables e below (s₁.setTop (entryFrame m #[(.int p0), (.int p1), (.int p2), (.int p3)] maxLocals)) t := fun t kt => pre105 t (by
        show Steps p.tables e below (T104.setTop (mkF m 125 #[.val (.int p0), .val (.int p1), .val (.int p2), .val (.int p3), .val (.int (2147483647 : Int32)), .val (.int vs), .val (.int em), .val (.int ve), .val (.int lm), .val (.int vn), .val (.long (((p1 &&& (2147483647 : Int32)).toInt64) % vr)), .second, .unset, .unset, .unset] [(.ref b104)])) _
        refine XS.dup X104.here hx rfl (hb hby at_125) rfl rfl ?_
        show Steps p.tables e below (T104.setTop (mkF m 126 #[.val (.int p0), .val (.int p1), .val (.int p2), .val (.int p3), .val (.int (2147483647 : Int32)), .val (.int vs), .val (.int em), .val (.int ve), .val (.int lm), .val (.int vn), .val (.long (((p1 &&& (2147483647 : Int32)).toInt64) % vr)), .second, .unset, .unset, .unset] [(.ref b104), (.ref b104)])) _
        refine XS.iload X104.here hx rfl (hb hby at_126) rfl ?_
        show Steps p.tables e below (T104.setTop (mkF m 128 #[.val (.int p0), .val (.int p1), .val (.int p2), .val (.int p3), .val (.int (2147483647 : Int32)), .val (.int vs), .val (.int em), .val (.int ve), .val (.int lm), .val (.int vn), .val (.long (((p1 &&& (2147483647 : Int32)).toInt64) % vr)), .second, .unset, .unset, .unset] [(.int vs), (.ref b104), (.ref b104)])) _
        refine XS.iload X104.here hx rfl (hb hby at_128) rfl ?_
        exact kt)
      obtain ⟨_, _, ⟨T107, L107, k107, n107⟩, -, X107, ⟨Lc107, hQ107, l107, y107, z107⟩, st107⟩ := X104.specialBack hx (y := (⟨"com/example/baton/baton/core/PositionRange", "<init>", "(II)V"⟩ : MethodName)) rfl hown (mvT hZ (hw _ (List.mem_of_getElem? (i := 4) rfl))) (mvT hZ (hw _ (List.mem_of_getElem? (i := 5) rfl))) (mvT hZ (hw _ (List.mem_of_getElem? (i := 6) rfl))) (by decide) (backOf (W := 1) (rm1 l Z av hw [] b104 vs ve  h104 n0 Z104 A104 gn104 Fn104_start Fn104_end (own_lt0 hm2) (own_lt1 hm90)) hZ (hw _ (List.mem_of_getElem? (i := 6) rfl)) (hw _ (List.mem_of_getElem? (i := 3) rfl)) (by decide) (by decide)) (g := (mkF m 130 #[.val (.int p0), .val (.int p1), .val (.int p2), .val (.int p3), .val (.int (2147483647 : Int32)), .val (.int vs), .val (.int em), .val (.int ve), .val (.int lm), .val (.int vn), .val (.long (((p1 &&& (2147483647 : Int32)).toInt64) % vr)), .second, .unset, .unset, .unset] [(.int ve), (.int vs), (.ref b104), (.ref b104)])) rfl (by rw [hml]; rfl) (Steps.refl _) (a := b104) (argsL := [(.int vs), (.int ve)]) (rest := [(.ref b104)]) (lenOf pd__II_V rfl) rfl (by show 2 * 0 + _ ≤ _; exact Nat.le_of_eq rfl) (hb hby at_130) (fun _ _ => ⟨rfl, e104, (by decide : 1 + 0 ≤ _), (by decide : 2 + 0 ≤ _)⟩)
      dsimp only [Pt.U, Pt.locs, Pt.cells, Pt.slots] at X107 l107 y107 z107 st107 hQ107
      subst l107 y107 z107
      obtain ⟨rfl, N107q, Kq107, Fq107_0, Fq107_1, Fq107_2⟩ := hQ107
      have N107 := Fr.app N0 N107q
      have K107 : Keep h0 T107.heap [] := K104.trans Kq107 (allS (Or.inr sz104) all0)
      have Z107 : n0 ≤ T107.heap.size := Nat.le_trans Z104 Kq107.1
      have Fq107_0' : Exa Z T107.heap b104 "com/example/baton/baton/core/PositionRange" := Fq107_0
      have Fq107_1' : Fld Z T107.heap b104 "com/example/baton/baton/core/PositionRange" "start" "I" (.int vs) := Fq107_1
      have Fq107_2' : Fld Z T107.heap b104 "com/example/baton/baton/core/PositionRange" "end" "I" (.int ve) := Fq107_2
      have pre108 : ∀ t, Steps p.tables e below (T107.setTop (mkF m 133 #[.val (.int p0), .val (.int p1), .val (.int p2), .val (.int p3), .val (.int (2147483647 : Int32)), .val (.int vs), .val (.int em), .val (.int ve), .val (.int lm), .val (.int vn), .val (.long (((p1 &&& (2147483647 : Int32)).toInt64) % vr)), .second, .unset, .unset, .unset] [(.ref b104)])) t → Steps p.tables e below (s₁.setTop (entryFrame m #[(.int p0), (.int p1), (.int p2), (.int p3)] maxLocals)) t := fun t kt => pre106 t (st107.trans kt)
      have pre109 : ∀ t, Steps p.tables e below (T107.setTop (mkF m 139 #[.val (.int p0), .val (.int p1), .val (.int p2), .val (.int p3), .val (.int (2147483647 : Int32)), .val (.int vs), .val (.int em), .val (.int ve), .val (.int lm), .val (.int vn), .val (.ref b104), .unset, .unset, .unset, .unset] [(.int vn), (.ref b104)])) t → Steps p.tables e below (s₁.setTop (entryFrame m #[(.int p0), (.int p1), (.int p2), (.int p3)] maxLocals)) t := fun t kt => pre108 t (by
        show Steps p.tables e below (T107.setTop (mkF m 133 #[.val (.int p0), .val (.int p1), .val (.int p2), .val (.int p3), .val (.int (2147483647 : Int32)), .val (.int vs), .val (.int em), .val (.int ve), .val (.int lm), .val (.int vn), .val (.long (((p1 &&& (2147483647 : Int32)).toInt64) % vr)), .second, .unset, .unset, .unset] [(.ref b104)])) _
        refine XS.astore X107.here hx rfl (hb hby at_133) rfl rfl (l' := #[.val (.int p0), .val (.int p1), .val (.int p2), .val (.int p3), .val (.int (2147483647 : Int32)), .val (.int vs), .val (.int em), .val (.int ve), .val (.int lm), .val (.int vn), .val (.ref b104), .unset, .unset, .unset, .unset]) rfl ?_
        show Steps p.tables e below (T107.setTop (mkF m 135 #[.val (.int p0), .val (.int p1), .val (.int p2), .val (.int p3), .val (.int (2147483647 : Int32)), .val (.int vs), .val (.int em), .val (.int ve), .val (.int lm), .val (.int vn), .val (.ref b104), .unset, .unset, .unset, .unset] [])) _
        refine XS.aload X107.here hx rfl (hb hby at_135) rfl rfl ?_
        show Steps p.tables e below (T107.setTop (mkF m 137 #[.val (.int p0), .val (.int p1), .val (.int p2), .val (.int p3), .val (.int (2147483647 : Int32)), .val (.int vs), .val (.int em), .val (.int ve), .val (.int lm), .val (.int vn), .val (.ref b104), .unset, .unset, .unset, .unset] [(.ref b104)])) _
        refine XS.iload X107.here hx rfl (hb hby at_137) rfl ?_
        exact kt)
      obtain ⟨cq110, kq110, q110a, q110b, q110c⟩ := isOf hZ rfl Fq107_0'
      obtain ⟨_, _, ⟨T111, L111, k111, n111⟩, -, X111, ⟨Lc111, hQ111, l111, y111, z111⟩, st111⟩ := X107.virtualBack hx (y := (⟨"com/example/baton/baton/core/PositionRange", "startsIn", "(I)Z"⟩ : MethodName)) (z := (⟨"com/example/baton/baton/core/PositionRange", "startsIn", "(I)Z"⟩ : MethodName)) hown (mvT hZ (hw _ (List.mem_of_getElem? (i := 19) rfl))) (mvT hZ (hw _ (List.mem_of_getElem? (i := 20) rfl))) (notFace_of_selects (args := #[]) (mvT hZ (hw _ (List.mem_of_getElem? (i := 22) rfl)))) (mvT hZ (hw _ (List.mem_of_getElem? (i := 22) rfl))) (mvT hZ (hw _ (List.mem_of_getElem? (i := 21) rfl))) (by decide) (backOf (W := 0) (rm4 l Z av hw [] b104 vn vs ve T107.heap n0 Z107 Fq107_1' Fq107_2') hZ (hw _ (List.mem_of_getElem? (i := 23) rfl)) (hw _ (List.mem_of_getElem? (i := 3) rfl)) (by decide) (by decide)) q110a q110c (g := (mkF m 139 #[.val (.int p0), .val (.int p1), .val (.int p2), .val (.int p3), .val (.int (2147483647 : Int32)), .val (.int vs), .val (.int em), .val (.int ve), .val (.int lm), .val (.int vn), .val (.ref b104), .unset, .unset, .unset, .unset] [(.int vn), (.ref b104)])) rfl (by rw [hml]; rfl) (Steps.refl _) (argsL := [(.int vn)]) (rest := []) (lenOf pd__I_Z rfl) rfl (by show 2 * 0 + _ ≤ _; exact Nat.le_of_eq rfl) (hb hby at_139) (fun _ _ => ⟨rfl, rfl, (by decide : 1 + 0 ≤ _), (by decide : 2 + 0 ≤ _)⟩)
      dsimp only [Pt.U, Pt.locs, Pt.cells, Pt.slots] at X111 l111 y111 z111 st111 hQ111
      subst l111 y111 z111
      obtain ⟨rfl, N111q, e111⟩ := hQ111
      have N111 := Fr.app N107 N111q
      have pre112 : ∀ t, Steps p.tables e below (T111.setTop (mkF m 142 #[.val (.int p0), .val (.int p1), .val (.int p2), .val (.int p3), .val (.int (2147483647 : Int32)), .val (.int vs), .val (.int em), .val (.int ve), .val (.int lm), .val (.int vn), .val (.ref b104), .unset, .unset, .unset, .unset] [(.int (f_in vn vs ve))])) t → Steps p.tables e below (s₁.setTop (entryFrame m #[(.int p0), (.int p1), (.int p2), (.int p3)] maxLocals)) t := fun t kt => pre109 t (st111.trans kt)
      have pre113 : ∀ t, Steps p.tables e below (T111.setTop (mkF m 153 #[.val (.int p0), .val (.int p1), .val (.int p2), .val (.int p3), .val (.int (2147483647 : Int32)), .val (.int vs), .val (.int em), .val (.int ve), .val (.int lm), .val (.int vn), .val (.ref b104), .val (.int (f_in vn vs ve)), .val (.long ((vn.toInt64) - (vs.toInt64))), .second, .unset] [])) t → Steps p.tables e below (s₁.setTop (entryFrame m #[(.int p0), (.int p1), (.int p2), (.int p3)] maxLocals)) t := fun t kt => pre112 t (by
        show Steps p.tables e below (T111.setTop (mkF m 142 #[.val (.int p0), .val (.int p1), .val (.int p2), .val (.int p3), .val (.int (2147483647 : Int32)), .val (.int vs), .val (.int em), .val (.int ve), .val (.int lm), .val (.int vn), .val (.ref b104), .unset, .unset, .unset, .unset] [(.int (f_in vn vs ve))])) _
        refine XS.istore X111.here hx rfl (hb hby at_142) rfl (l' := #[.val (.int p0), .val (.int p1), .val (.int p2), .val (.int p3), .val (.int (2147483647 : Int32)), .val (.int vs), .val (.int em), .val (.int ve), .val (.int lm), .val (.int vn), .val (.ref b104), .val (.int (f_in vn vs ve)), .unset, .unset, .unset]) rfl ?_
        show Steps p.tables e below (T111.setTop (mkF m 144 #[.val (.int p0), .val (.int p1), .val (.int p2), .val (.int p3), .val (.int (2147483647 : Int32)), .val (.int vs), .val (.int em), .val (.int ve), .val (.int lm), .val (.int vn), .val (.ref b104), .val (.int (f_in vn vs ve)), .unset, .unset, .unset] [])) _
        refine XS.iload X111.here hx rfl (hb hby at_144) rfl ?_
        show Steps p.tables e below (T111.setTop (mkF m 146 #[.val (.int p0), .val (.int p1), .val (.int p2), .val (.int p3), .val (.int (2147483647 : Int32)), .val (.int vs), .val (.int em), .val (.int ve), .val (.int lm), .val (.int vn), .val (.ref b104), .val (.int (f_in vn vs ve)), .unset, .unset, .unset] [(.int vn)])) _
        refine XS.i2l X111.here hx rfl (hb hby at_146) rfl ?_
        show Steps p.tables e below (T111.setTop (mkF m 147 #[.val (.int p0), .val (.int p1), .val (.int p2), .val (.int p3), .val (.int (2147483647 : Int32)), .val (.int vs), .val (.int em), .val (.int ve), .val (.int lm), .val (.int vn), .val (.ref b104), .val (.int (f_in vn vs ve)), .unset, .unset, .unset] [(.long (vn.toInt64))])) _
        refine XS.iload X111.here hx rfl (hb hby at_147) rfl ?_
        show Steps p.tables e below (T111.setTop (mkF m 149 #[.val (.int p0), .val (.int p1), .val (.int p2), .val (.int p3), .val (.int (2147483647 : Int32)), .val (.int vs), .val (.int em), .val (.int ve), .val (.int lm), .val (.int vn), .val (.ref b104), .val (.int (f_in vn vs ve)), .unset, .unset, .unset] [(.int vs), (.long (vn.toInt64))])) _
        refine XS.i2l X111.here hx rfl (hb hby at_149) rfl ?_
        show Steps p.tables e below (T111.setTop (mkF m 150 #[.val (.int p0), .val (.int p1), .val (.int p2), .val (.int p3), .val (.int (2147483647 : Int32)), .val (.int vs), .val (.int em), .val (.int ve), .val (.int lm), .val (.int vn), .val (.ref b104), .val (.int (f_in vn vs ve)), .unset, .unset, .unset] [(.long (vs.toInt64)), (.long (vn.toInt64))])) _
        refine XS.lsub X111.here hx rfl (hb hby at_150) rfl ?_
        show Steps p.tables e below (T111.setTop (mkF m 151 #[.val (.int p0), .val (.int p1), .val (.int p2), .val (.int p3), .val (.int (2147483647 : Int32)), .val (.int vs), .val (.int em), .val (.int ve), .val (.int lm), .val (.int vn), .val (.ref b104), .val (.int (f_in vn vs ve)), .unset, .unset, .unset] [(.long ((vn.toInt64) - (vs.toInt64)))])) _
        refine XS.lstore X111.here hx rfl (hb hby at_151) rfl (l' := #[.val (.int p0), .val (.int p1), .val (.int p2), .val (.int p3), .val (.int (2147483647 : Int32)), .val (.int vs), .val (.int em), .val (.int ve), .val (.int lm), .val (.int vn), .val (.ref b104), .val (.int (f_in vn vs ve)), .val (.long ((vn.toInt64) - (vs.toInt64))), .second, .unset]) rfl ?_
        exact kt)
      obtain ⟨vd, hm114, pre114⟩ : ∃ (vd : Int64), (vd.toInt = vn.toInt - vs.toInt) ∧ ∀ t, Steps p.tables e below (T111.setTop (mkF m 153 #[.val (.int p0), .val (.int p1), .val (.int p2), .val (.int p3), .val (.int (2147483647 : Int32)), .val (.int vs), .val (.int em), .val (.int ve), .val (.int lm), .val (.int vn), .val (.ref b104), .val (.int (f_in vn vs ve)), .val (.long vd), .second, .unset] [])) t → Steps p.tables e below (s₁.setTop (entryFrame m #[(.int p0), (.int p1), (.int p2), (.int p3)] maxLocals)) t := ⟨((vn.toInt64) - (vs.toInt64)), own_d vn vs, pre113⟩
      have pre115 : ∀ t, Steps p.tables e below (T111.setTop (mkF m 157 #[.val (.int p0), .val (.int p1), .val (.int p2), .val (.int p3), .val (.int (2147483647 : Int32)), .val (.int vs), .val (.int em), .val (.int ve), .val (.int lm), .val (.int vn), .val (.ref b104), .val (.int (f_in vn vs ve)), .val (.long vd), .second, .unset] [(.int (lcmpW vd (0 : Int64)))])) t → Steps p.tables e below (s₁.setTop (entryFrame m #[(.int p0), (.int p1), (.int p2), (.int p3)] maxLocals)) t := fun t kt => pre114 t (by
        show Steps p.tables e below (T111.setTop (mkF m 153 #[.val (.int p0), .val (.int p1), .val (.int p2), .val (.int p3), .val (.int (2147483647 : Int32)), .val (.int vs), .val (.int em), .val (.int ve), .val (.int lm), .val (.int vn), .val (.ref b104), .val (.int (f_in vn vs ve)), .val (.long vd), .second, .unset] [])) _
        refine XS.lload X111.here hx rfl (hb hby at_153) rfl ?_
        show Steps p.tables e below (T111.setTop (mkF m 155 #[.val (.int p0), .val (.int p1), .val (.int p2), .val (.int p3), .val (.int (2147483647 : Int32)), .val (.int vs), .val (.int em), .val (.int ve), .val (.int lm), .val (.int vn), .val (.ref b104), .val (.int (f_in vn vs ve)), .val (.long vd), .second, .unset] [(.long vd)])) _
        refine XS.lconst X111.here hx rfl (hb hby at_155) ?_
        show Steps p.tables e below (T111.setTop (mkF m 156 #[.val (.int p0), .val (.int p1), .val (.int p2), .val (.int p3), .val (.int (2147483647 : Int32)), .val (.int vs), .val (.int em), .val (.int ve), .val (.int lm), .val (.int vn), .val (.ref b104), .val (.int (f_in vn vs ve)), .val (.long vd), .second, .unset] [(.long (0 : Int64)), (.long vd)])) _
        refine XS.lcmp X111.here hx rfl (hb hby at_156) rfl ?_
        exact kt)
      by_cases hc157_116 : (0 : Int64) < vd
      · have pre117 : ∀ t, Steps p.tables e below (T111.setTop (mkF m 220 #[.val (.int p0), .val (.int p1), .val (.int p2), .val (.int p3), .val (.int (2147483647 : Int32)), .val (.int vs), .val (.int em), .val (.int ve), .val (.int lm), .val (.int vn), .val (.ref b104), .val (.int (f_in vn vs ve)), .val (.long vd), .second, .val (.int (1 : Int32))] [(.int (1 : Int32))])) t → Steps p.tables e below (s₁.setTop (entryFrame m #[(.int p0), (.int p1), (.int p2), (.int p3)] maxLocals)) t := fun t kt => pre115 t (by
          show Steps p.tables e below (T111.setTop (mkF m 157 #[.val (.int p0), .val (.int p1), .val (.int p2), .val (.int p3), .val (.int (2147483647 : Int32)), .val (.int vs), .val (.int em), .val (.int ve), .val (.int lm), .val (.int vn), .val (.ref b104), .val (.int (f_in vn vs ve)), .val (.long vd), .second, .unset] [(.int (lcmpW vd (0 : Int64)))])) _
          refine XS.ifNo X111.here hx rfl (hb hby at_157) rfl (Jvm.Free.XT.ll_le_f hc157_116) ?_
          show Steps p.tables e below (T111.setTop (mkF m 160 #[.val (.int p0), .val (.int p1), .val (.int p2), .val (.int p3), .val (.int (2147483647 : Int32)), .val (.int vs), .val (.int em), .val (.int ve), .val (.int lm), .val (.int vn), .val (.ref b104), .val (.int (f_in vn vs ve)), .val (.long vd), .second, .unset] [])) _
          refine XS.iconst X111.here hx rfl (hb hby at_160) ?_
          show Steps p.tables e below (T111.setTop (mkF m 161 #[.val (.int p0), .val (.int p1), .val (.int p2), .val (.int p3), .val (.int (2147483647 : Int32)), .val (.int vs), .val (.int em), .val (.int ve), .val (.int lm), .val (.int vn), .val (.ref b104), .val (.int (f_in vn vs ve)), .val (.long vd), .second, .unset] [(.int (1 : Int32))])) _
          refine XS.istore X111.here hx rfl (hb hby at_161) rfl (l' := #[.val (.int p0), .val (.int p1), .val (.int p2), .val (.int p3), .val (.int (2147483647 : Int32)), .val (.int vs), .val (.int em), .val (.int ve), .val (.int lm), .val (.int vn), .val (.ref b104), .val (.int (f_in vn vs ve)), .val (.long vd), .second, .val (.int (1 : Int32))]) rfl ?_
          show Steps p.tables e below (T111.setTop (mkF m 163 #[.val (.int p0), .val (.int p1), .val (.int p2), .val (.int p3), .val (.int (2147483647 : Int32)), .val (.int vs), .val (.int em), .val (.int ve), .val (.int lm), .val (.int vn), .val (.ref b104), .val (.int (f_in vn vs ve)), .val (.long vd), .second, .val (.int (1 : Int32))] [])) _
          refine XS.goto X111.here hx rfl (pc0 := 163) (pc' := 208) rfl (hb hby at_163) (by decide) (by decide) ?_
          show Steps p.tables e below (T111.setTop (mkF m 208 #[.val (.int p0), .val (.int p1), .val (.int p2), .val (.int p3), .val (.int (2147483647 : Int32)), .val (.int vs), .val (.int em), .val (.int ve), .val (.int lm), .val (.int vn), .val (.ref b104), .val (.int (f_in vn vs ve)), .val (.long vd), .second, .val (.int (1 : Int32))] [])) _
          refine XS.iload X111.here hx rfl (hb hby at_208) rfl ?_
          show Steps p.tables e below (T111.setTop (mkF m 210 #[.val (.int p0), .val (.int p1), .val (.int p2), .val (.int p3), .val (.int (2147483647 : Int32)), .val (.int vs), .val (.int em), .val (.int ve), .val (.int lm), .val (.int vn), .val (.ref b104), .val (.int (f_in vn vs ve)), .val (.long vd), .second, .val (.int (1 : Int32))] [(.int (f_in vn vs ve))])) _
          refine XS.iload X111.here hx rfl (hb hby at_210) rfl ?_
          show Steps p.tables e below (T111.setTop (mkF m 212 #[.val (.int p0), .val (.int p1), .val (.int p2), .val (.int p3), .val (.int (2147483647 : Int32)), .val (.int vs), .val (.int em), .val (.int ve), .val (.int lm), .val (.int vn), .val (.ref b104), .val (.int (f_in vn vs ve)), .val (.long vd), .second, .val (.int (1 : Int32))] [(.int (1 : Int32)), (.int (f_in vn vs ve))])) _
          refine XS.icmpNo X111.here hx rfl (hb hby at_212) rfl (teq (by
              have hd := hm114
              rw [own_in]
              simp only [← Int32.toInt_inj, Int64.lt_iff_toInt_lt, Int64.reduceToInt, Int32.reduceToInt] at hc157_116
              repeat' split
              all_goals first | rfl | (exfalso; omega) : (f_in vn vs ve) = (1 : Int32))).2 ?_
          show Steps p.tables e below (T111.setTop (mkF m 215 #[.val (.int p0), .val (.int p1), .val (.int p2), .val (.int p3), .val (.int (2147483647 : Int32)), .val (.int vs), .val (.int em), .val (.int ve), .val (.int lm), .val (.int vn), .val (.ref b104), .val (.int (f_in vn vs ve)), .val (.long vd), .second, .val (.int (1 : Int32))] [])) _
          refine XS.iconst X111.here hx rfl (hb hby at_215) ?_
          show Steps p.tables e below (T111.setTop (mkF m 216 #[.val (.int p0), .val (.int p1), .val (.int p2), .val (.int p3), .val (.int (2147483647 : Int32)), .val (.int vs), .val (.int em), .val (.int ve), .val (.int lm), .val (.int vn), .val (.ref b104), .val (.int (f_in vn vs ve)), .val (.long vd), .second, .val (.int (1 : Int32))] [(.int (1 : Int32))])) _
          refine XS.goto X111.here hx rfl (pc0 := 216) (pc' := 220) rfl (hb hby at_216) (by decide) (by decide) ?_
          exact kt)
        obtain ⟨fs, hr, hrun, hended, hW, hsame⟩ := X111.leave (v := some (.int (1 : Int32))) (fun h => by rw [Bd.returns] at h; cases h)
        refine ⟨_, _, pre117 _ ?_, hrun, hended, _, _, rfl, ?_, ⟨_, rfl⟩, hW, hsame.mono (by decide) (by decide)⟩
        · show Steps p.tables e below (T111.setTop (mkF m 220 #[.val (.int p0), .val (.int p1), .val (.int p2), .val (.int p3), .val (.int (2147483647 : Int32)), .val (.int vs), .val (.int em), .val (.int ve), .val (.int lm), .val (.int vn), .val (.ref b104), .val (.int (f_in vn vs ve)), .val (.long vd), .second, .val (.int (1 : Int32))] [(.int (1 : Int32))])) _
          exact retN X111 hx (t := .boolean) Bd.returns (by simp) (hb hby at_220) hr
        · show Q0 Z p0 p1 p2 p3 h0 n0 _ T111.heap _
          rw [e111]
          exact ⟨rfl, N111⟩
      · have pre118 : ∀ t, Steps p.tables e below (T111.setTop (mkF m 170 #[.val (.int p0), .val (.int p1), .val (.int p2), .val (.int p3), .val (.int (2147483647 : Int32)), .val (.int vs), .val (.int em), .val (.int ve), .val (.int lm), .val (.int vn), .val (.ref b104), .val (.int (f_in vn vs ve)), .val (.long vd), .second, .unset] [(.int (lcmpW vd (0 : Int64)))])) t → Steps p.tables e below (s₁.setTop (entryFrame m #[(.int p0), (.int p1), (.int p2), (.int p3)] maxLocals)) t := fun t kt => pre115 t (by
          show Steps p.tables e below (T111.setTop (mkF m 157 #[.val (.int p0), .val (.int p1), .val (.int p2), .val (.int p3), .val (.int (2147483647 : Int32)), .val (.int vs), .val (.int em), .val (.int ve), .val (.int lm), .val (.int vn), .val (.ref b104), .val (.int (f_in vn vs ve)), .val (.long vd), .second, .unset] [(.int (lcmpW vd (0 : Int64)))])) _
          refine XS.ifYes X111.here hx rfl (pc0 := 157) (pc' := 166) rfl (hb hby at_157) rfl (Jvm.Free.XT.ll_le_t hc157_116) (by decide) (by decide) ?_
          show Steps p.tables e below (T111.setTop (mkF m 166 #[.val (.int p0), .val (.int p1), .val (.int p2), .val (.int p3), .val (.int (2147483647 : Int32)), .val (.int vs), .val (.int em), .val (.int ve), .val (.int lm), .val (.int vn), .val (.ref b104), .val (.int (f_in vn vs ve)), .val (.long vd), .second, .unset] [])) _
          refine XS.lload X111.here hx rfl (hb hby at_166) rfl ?_
          show Steps p.tables e below (T111.setTop (mkF m 168 #[.val (.int p0), .val (.int p1), .val (.int p2), .val (.int p3), .val (.int (2147483647 : Int32)), .val (.int vs), .val (.int em), .val (.int ve), .val (.int lm), .val (.int vn), .val (.ref b104), .val (.int (f_in vn vs ve)), .val (.long vd), .second, .unset] [(.long vd)])) _
          refine XS.lconst X111.here hx rfl (hb hby at_168) ?_
          show Steps p.tables e below (T111.setTop (mkF m 169 #[.val (.int p0), .val (.int p1), .val (.int p2), .val (.int p3), .val (.int (2147483647 : Int32)), .val (.int vs), .val (.int em), .val (.int ve), .val (.int lm), .val (.int vn), .val (.ref b104), .val (.int (f_in vn vs ve)), .val (.long vd), .second, .unset] [(.long (0 : Int64)), (.long vd)])) _
          refine XS.lcmp X111.here hx rfl (hb hby at_169) rfl ?_
          exact kt)
        by_cases hc170_119 : vd < (0 : Int64)
        · have pre120 : ∀ t, Steps p.tables e below (T111.setTop (mkF m 220 #[.val (.int p0), .val (.int p1), .val (.int p2), .val (.int p3), .val (.int (2147483647 : Int32)), .val (.int vs), .val (.int em), .val (.int ve), .val (.int lm), .val (.int vn), .val (.ref b104), .val (.int (f_in vn vs ve)), .val (.long vd), .second, .val (.int (0 : Int32))] [(.int (1 : Int32))])) t → Steps p.tables e below (s₁.setTop (entryFrame m #[(.int p0), (.int p1), (.int p2), (.int p3)] maxLocals)) t := fun t kt => pre118 t (by
            show Steps p.tables e below (T111.setTop (mkF m 170 #[.val (.int p0), .val (.int p1), .val (.int p2), .val (.int p3), .val (.int (2147483647 : Int32)), .val (.int vs), .val (.int em), .val (.int ve), .val (.int lm), .val (.int vn), .val (.ref b104), .val (.int (f_in vn vs ve)), .val (.long vd), .second, .unset] [(.int (lcmpW vd (0 : Int64)))])) _
            refine XS.ifNo X111.here hx rfl (hb hby at_170) rfl (Jvm.Free.XT.ll_ge_f hc170_119) ?_
            show Steps p.tables e below (T111.setTop (mkF m 173 #[.val (.int p0), .val (.int p1), .val (.int p2), .val (.int p3), .val (.int (2147483647 : Int32)), .val (.int vs), .val (.int em), .val (.int ve), .val (.int lm), .val (.int vn), .val (.ref b104), .val (.int (f_in vn vs ve)), .val (.long vd), .second, .unset] [])) _
            refine XS.iconst X111.here hx rfl (hb hby at_173) ?_
            show Steps p.tables e below (T111.setTop (mkF m 174 #[.val (.int p0), .val (.int p1), .val (.int p2), .val (.int p3), .val (.int (2147483647 : Int32)), .val (.int vs), .val (.int em), .val (.int ve), .val (.int lm), .val (.int vn), .val (.ref b104), .val (.int (f_in vn vs ve)), .val (.long vd), .second, .unset] [(.int (0 : Int32))])) _
            refine XS.istore X111.here hx rfl (hb hby at_174) rfl (l' := #[.val (.int p0), .val (.int p1), .val (.int p2), .val (.int p3), .val (.int (2147483647 : Int32)), .val (.int vs), .val (.int em), .val (.int ve), .val (.int lm), .val (.int vn), .val (.ref b104), .val (.int (f_in vn vs ve)), .val (.long vd), .second, .val (.int (0 : Int32))]) rfl ?_
            show Steps p.tables e below (T111.setTop (mkF m 176 #[.val (.int p0), .val (.int p1), .val (.int p2), .val (.int p3), .val (.int (2147483647 : Int32)), .val (.int vs), .val (.int em), .val (.int ve), .val (.int lm), .val (.int vn), .val (.ref b104), .val (.int (f_in vn vs ve)), .val (.long vd), .second, .val (.int (0 : Int32))] [])) _
            refine XS.goto X111.here hx rfl (pc0 := 176) (pc' := 208) rfl (hb hby at_176) (by decide) (by decide) ?_
            show Steps p.tables e below (T111.setTop (mkF m 208 #[.val (.int p0), .val (.int p1), .val (.int p2), .val (.int p3), .val (.int (2147483647 : Int32)), .val (.int vs), .val (.int em), .val (.int ve), .val (.int lm), .val (.int vn), .val (.ref b104), .val (.int (f_in vn vs ve)), .val (.long vd), .second, .val (.int (0 : Int32))] [])) _
            refine XS.iload X111.here hx rfl (hb hby at_208) rfl ?_
            show Steps p.tables e below (T111.setTop (mkF m 210 #[.val (.int p0), .val (.int p1), .val (.int p2), .val (.int p3), .val (.int (2147483647 : Int32)), .val (.int vs), .val (.int em), .val (.int ve), .val (.int lm), .val (.int vn), .val (.ref b104), .val (.int (f_in vn vs ve)), .val (.long vd), .second, .val (.int (0 : Int32))] [(.int (f_in vn vs ve))])) _
            refine XS.iload X111.here hx rfl (hb hby at_210) rfl ?_
            show Steps p.tables e below (T111.setTop (mkF m 212 #[.val (.int p0), .val (.int p1), .val (.int p2), .val (.int p3), .val (.int (2147483647 : Int32)), .val (.int vs), .val (.int em), .val (.int ve), .val (.int lm), .val (.int vn), .val (.ref b104), .val (.int (f_in vn vs ve)), .val (.long vd), .second, .val (.int (0 : Int32))] [(.int (0 : Int32)), (.int (f_in vn vs ve))])) _
            refine XS.icmpNo X111.here hx rfl (hb hby at_212) rfl (teq (by
                have hd := hm114
                rw [own_in]
                simp only [← Int32.toInt_inj, Int64.lt_iff_toInt_lt, Int64.reduceToInt, Int32.reduceToInt] at hc157_116 hc170_119
                repeat' split
                all_goals first | rfl | (exfalso; omega) : (f_in vn vs ve) = (0 : Int32))).2 ?_
            show Steps p.tables e below (T111.setTop (mkF m 215 #[.val (.int p0), .val (.int p1), .val (.int p2), .val (.int p3), .val (.int (2147483647 : Int32)), .val (.int vs), .val (.int em), .val (.int ve), .val (.int lm), .val (.int vn), .val (.ref b104), .val (.int (f_in vn vs ve)), .val (.long vd), .second, .val (.int (0 : Int32))] [])) _
            refine XS.iconst X111.here hx rfl (hb hby at_215) ?_
            show Steps p.tables e below (T111.setTop (mkF m 216 #[.val (.int p0), .val (.int p1), .val (.int p2), .val (.int p3), .val (.int (2147483647 : Int32)), .val (.int vs), .val (.int em), .val (.int ve), .val (.int lm), .val (.int vn), .val (.ref b104), .val (.int (f_in vn vs ve)), .val (.long vd), .second, .val (.int (0 : Int32))] [(.int (1 : Int32))])) _
            refine XS.goto X111.here hx rfl (pc0 := 216) (pc' := 220) rfl (hb hby at_216) (by decide) (by decide) ?_
            exact kt)
          obtain ⟨fs, hr, hrun, hended, hW, hsame⟩ := X111.leave (v := some (.int (1 : Int32))) (fun h => by rw [Bd.returns] at h; cases h)
          refine ⟨_, _, pre120 _ ?_, hrun, hended, _, _, rfl, ?_, ⟨_, rfl⟩, hW, hsame.mono (by decide) (by decide)⟩
          · show Steps p.tables e below (T111.setTop (mkF m 220 #[.val (.int p0), .val (.int p1), .val (.int p2), .val (.int p3), .val (.int (2147483647 : Int32)), .val (.int vs), .val (.int em), .val (.int ve), .val (.int lm), .val (.int vn), .val (.ref b104), .val (.int (f_in vn vs ve)), .val (.long vd), .second, .val (.int (0 : Int32))] [(.int (1 : Int32))])) _
            exact retN X111 hx (t := .boolean) Bd.returns (by simp) (hb hby at_220) hr
          · show Q0 Z p0 p1 p2 p3 h0 n0 _ T111.heap _
            rw [e111]
            exact ⟨rfl, N111⟩
        · have pre121 : ∀ t, Steps p.tables e below (T111.setTop (mkF m 183 #[.val (.int p0), .val (.int p1), .val (.int p2), .val (.int p3), .val (.int (2147483647 : Int32)), .val (.int vs), .val (.int em), .val (.int ve), .val (.int lm), .val (.int vn), .val (.ref b104), .val (.int (f_in vn vs ve)), .val (.long vd), .second, .unset] [(.int vs), (.int ve)])) t → Steps p.tables e below (s₁.setTop (entryFrame m #[(.int p0), (.int p1), (.int p2), (.int p3)] maxLocals)) t := fun t kt => pre118 t (by
            show Steps p.tables e below (T111.setTop (mkF m 170 #[.val (.int p0), .val (.int p1), .val (.int p2), .val (.int p3), .val (.int (2147483647 : Int32)), .val (.int vs), .val (.int em), .val (.int ve), .val (.int lm), .val (.int vn), .val (.ref b104), .val (.int (f_in vn vs ve)), .val (.long vd), .second, .unset] [(.int (lcmpW vd (0 : Int64)))])) _
            refine XS.ifYes X111.here hx rfl (pc0 := 170) (pc' := 179) rfl (hb hby at_170) rfl (Jvm.Free.XT.ll_ge_t hc170_119) (by decide) (by decide) ?_
            show Steps p.tables e below (T111.setTop (mkF m 179 #[.val (.int p0), .val (.int p1), .val (.int p2), .val (.int p3), .val (.int (2147483647 : Int32)), .val (.int vs), .val (.int em), .val (.int ve), .val (.int lm), .val (.int vn), .val (.ref b104), .val (.int (f_in vn vs ve)), .val (.long vd), .second, .unset] [])) _
            refine XS.iload X111.here hx rfl (hb hby at_179) rfl ?_
            show Steps p.tables e below (T111.setTop (mkF m 181 #[.val (.int p0), .val (.int p1), .val (.int p2), .val (.int p3), .val (.int (2147483647 : Int32)), .val (.int vs), .val (.int em), .val (.int ve), .val (.int lm), .val (.int vn), .val (.ref b104), .val (.int (f_in vn vs ve)), .val (.long vd), .second, .unset] [(.int ve)])) _
            refine XS.iload X111.here hx rfl (hb hby at_181) rfl ?_
            exact kt)
          by_cases hc183_122 : ve = vs
          · have pre123 : ∀ t, Steps p.tables e below (T111.setTop (mkF m 220 #[.val (.int p0), .val (.int p1), .val (.int p2), .val (.int p3), .val (.int (2147483647 : Int32)), .val (.int vs), .val (.int em), .val (.int ve), .val (.int lm), .val (.int vn), .val (.ref b104), .val (.int (f_in vn vs ve)), .val (.long vd), .second, .val (.int (1 : Int32))] [(.int (1 : Int32))])) t → Steps p.tables e below (s₁.setTop (entryFrame m #[(.int p0), (.int p1), (.int p2), (.int p3)] maxLocals)) t := fun t kt => pre121 t (by
              show Steps p.tables e below (T111.setTop (mkF m 183 #[.val (.int p0), .val (.int p1), .val (.int p2), .val (.int p3), .val (.int (2147483647 : Int32)), .val (.int vs), .val (.int em), .val (.int ve), .val (.int lm), .val (.int vn), .val (.ref b104), .val (.int (f_in vn vs ve)), .val (.long vd), .second, .unset] [(.int vs), (.int ve)])) _
              refine XS.icmpNo X111.here hx rfl (hb hby at_183) rfl (teq hc183_122).2 ?_
              show Steps p.tables e below (T111.setTop (mkF m 186 #[.val (.int p0), .val (.int p1), .val (.int p2), .val (.int p3), .val (.int (2147483647 : Int32)), .val (.int vs), .val (.int em), .val (.int ve), .val (.int lm), .val (.int vn), .val (.ref b104), .val (.int (f_in vn vs ve)), .val (.long vd), .second, .unset] [])) _
              refine XS.iconst X111.here hx rfl (hb hby at_186) ?_
              show Steps p.tables e below (T111.setTop (mkF m 187 #[.val (.int p0), .val (.int p1), .val (.int p2), .val (.int p3), .val (.int (2147483647 : Int32)), .val (.int vs), .val (.int em), .val (.int ve), .val (.int lm), .val (.int vn), .val (.ref b104), .val (.int (f_in vn vs ve)), .val (.long vd), .second, .unset] [(.int (1 : Int32))])) _
              refine XS.istore X111.here hx rfl (hb hby at_187) rfl (l' := #[.val (.int p0), .val (.int p1), .val (.int p2), .val (.int p3), .val (.int (2147483647 : Int32)), .val (.int vs), .val (.int em), .val (.int ve), .val (.int lm), .val (.int vn), .val (.ref b104), .val (.int (f_in vn vs ve)), .val (.long vd), .second, .val (.int (1 : Int32))]) rfl ?_
              show Steps p.tables e below (T111.setTop (mkF m 189 #[.val (.int p0), .val (.int p1), .val (.int p2), .val (.int p3), .val (.int (2147483647 : Int32)), .val (.int vs), .val (.int em), .val (.int ve), .val (.int lm), .val (.int vn), .val (.ref b104), .val (.int (f_in vn vs ve)), .val (.long vd), .second, .val (.int (1 : Int32))] [])) _
              refine XS.goto X111.here hx rfl (pc0 := 189) (pc' := 208) rfl (hb hby at_189) (by decide) (by decide) ?_
              show Steps p.tables e below (T111.setTop (mkF m 208 #[.val (.int p0), .val (.int p1), .val (.int p2), .val (.int p3), .val (.int (2147483647 : Int32)), .val (.int vs), .val (.int em), .val (.int ve), .val (.int lm), .val (.int vn), .val (.ref b104), .val (.int (f_in vn vs ve)), .val (.long vd), .second, .val (.int (1 : Int32))] [])) _
              refine XS.iload X111.here hx rfl (hb hby at_208) rfl ?_
              show Steps p.tables e below (T111.setTop (mkF m 210 #[.val (.int p0), .val (.int p1), .val (.int p2), .val (.int p3), .val (.int (2147483647 : Int32)), .val (.int vs), .val (.int em), .val (.int ve), .val (.int lm), .val (.int vn), .val (.ref b104), .val (.int (f_in vn vs ve)), .val (.long vd), .second, .val (.int (1 : Int32))] [(.int (f_in vn vs ve))])) _
              refine XS.iload X111.here hx rfl (hb hby at_210) rfl ?_
              show Steps p.tables e below (T111.setTop (mkF m 212 #[.val (.int p0), .val (.int p1), .val (.int p2), .val (.int p3), .val (.int (2147483647 : Int32)), .val (.int vs), .val (.int em), .val (.int ve), .val (.int lm), .val (.int vn), .val (.ref b104), .val (.int (f_in vn vs ve)), .val (.long vd), .second, .val (.int (1 : Int32))] [(.int (1 : Int32)), (.int (f_in vn vs ve))])) _
              refine XS.icmpNo X111.here hx rfl (hb hby at_212) rfl (teq (by
                  have hd := hm114
                  rw [own_in]
                  simp only [← Int32.toInt_inj, Int64.lt_iff_toInt_lt, Int64.reduceToInt, Int32.reduceToInt] at hc157_116 hc170_119 hc183_122
                  repeat' split
                  all_goals first | rfl | (exfalso; omega) : (f_in vn vs ve) = (1 : Int32))).2 ?_
              show Steps p.tables e below (T111.setTop (mkF m 215 #[.val (.int p0), .val (.int p1), .val (.int p2), .val (.int p3), .val (.int (2147483647 : Int32)), .val (.int vs), .val (.int em), .val (.int ve), .val (.int lm), .val (.int vn), .val (.ref b104), .val (.int (f_in vn vs ve)), .val (.long vd), .second, .val (.int (1 : Int32))] [])) _
              refine XS.iconst X111.here hx rfl (hb hby at_215) ?_
              show Steps p.tables e below (T111.setTop (mkF m 216 #[.val (.int p0), .val (.int p1), .val (.int p2), .val (.int p3), .val (.int (2147483647 : Int32)), .val (.int vs), .val (.int em), .val (.int ve), .val (.int lm), .val (.int vn), .val (.ref b104), .val (.int (f_in vn vs ve)), .val (.long vd), .second, .val (.int (1 : Int32))] [(.int (1 : Int32))])) _
              refine XS.goto X111.here hx rfl (pc0 := 216) (pc' := 220) rfl (hb hby at_216) (by decide) (by decide) ?_
              exact kt)
            obtain ⟨fs, hr, hrun, hended, hW, hsame⟩ := X111.leave (v := some (.int (1 : Int32))) (fun h => by rw [Bd.returns] at h; cases h)
            refine ⟨_, _, pre123 _ ?_, hrun, hended, _, _, rfl, ?_, ⟨_, rfl⟩, hW, hsame.mono (by decide) (by decide)⟩
            · show Steps p.tables e below (T111.setTop (mkF m 220 #[.val (.int p0), .val (.int p1), .val (.int p2), .val (.int p3), .val (.int (2147483647 : Int32)), .val (.int vs), .val (.int em), .val (.int ve), .val (.int lm), .val (.int vn), .val (.ref b104), .val (.int (f_in vn vs ve)), .val (.long vd), .second, .val (.int (1 : Int32))] [(.int (1 : Int32))])) _
              exact retN X111 hx (t := .boolean) Bd.returns (by simp) (hb hby at_220) hr
            · show Q0 Z p0 p1 p2 p3 h0 n0 _ T111.heap _
              rw [e111]
              exact ⟨rfl, N111⟩
          · have pre124 : ∀ t, Steps p.tables e below (T111.setTop (mkF m 196 #[.val (.int p0), .val (.int p1), .val (.int p2), .val (.int p3), .val (.int (2147483647 : Int32)), .val (.int vs), .val (.int em), .val (.int ve), .val (.int lm), .val (.int vn), .val (.ref b104), .val (.int (f_in vn vs ve)), .val (.long vd), .second, .unset] [(.int (2147483647 : Int32)), (.int ve)])) t → Steps p.tables e below (s₁.setTop (entryFrame m #[(.int p0), (.int p1), (.int p2), (.int p3)] maxLocals)) t := fun t kt => pre121 t (by
              show Steps p.tables e below (T111.setTop (mkF m 183 #[.val (.int p0), .val (.int p1), .val (.int p2), .val (.int p3), .val (.int (2147483647 : Int32)), .val (.int vs), .val (.int em), .val (.int ve), .val (.int lm), .val (.int vn), .val (.ref b104), .val (.int (f_in vn vs ve)), .val (.long vd), .second, .unset] [(.int vs), (.int ve)])) _
              refine XS.icmpYes X111.here hx rfl (pc0 := 183) (pc' := 192) rfl (hb hby at_183) rfl (feq hc183_122).2 (by decide) (by decide) ?_
              show Steps p.tables e below (T111.setTop (mkF m 192 #[.val (.int p0), .val (.int p1), .val (.int p2), .val (.int p3), .val (.int (2147483647 : Int32)), .val (.int vs), .val (.int em), .val (.int ve), .val (.int lm), .val (.int vn), .val (.ref b104), .val (.int (f_in vn vs ve)), .val (.long vd), .second, .unset] [])) _
              refine XS.iload X111.here hx rfl (hb hby at_192) rfl ?_
              show Steps p.tables e below (T111.setTop (mkF m 194 #[.val (.int p0), .val (.int p1), .val (.int p2), .val (.int p3), .val (.int (2147483647 : Int32)), .val (.int vs), .val (.int em), .val (.int ve), .val (.int lm), .val (.int vn), .val (.ref b104), .val (.int (f_in vn vs ve)), .val (.long vd), .second, .unset] [(.int ve)])) _
              refine XS.iload X111.here hx rfl (hb hby at_194) rfl ?_
              exact kt)
            by_cases hc196_125 : ve = (2147483647 : Int32)
            · have pre126 : ∀ t, Steps p.tables e below (T111.setTop (mkF m 220 #[.val (.int p0), .val (.int p1), .val (.int p2), .val (.int p3), .val (.int (2147483647 : Int32)), .val (.int vs), .val (.int em), .val (.int ve), .val (.int lm), .val (.int vn), .val (.ref b104), .val (.int (f_in vn vs ve)), .val (.long vd), .second, .val (.int (1 : Int32))] [(.int (1 : Int32))])) t → Steps p.tables e below (s₁.setTop (entryFrame m #[(.int p0), (.int p1), (.int p2), (.int p3)] maxLocals)) t := fun t kt => pre124 t (by
                show Steps p.tables e below (T111.setTop (mkF m 196 #[.val (.int p0), .val (.int p1), .val (.int p2), .val (.int p3), .val (.int (2147483647 : Int32)), .val (.int vs), .val (.int em), .val (.int ve), .val (.int lm), .val (.int vn), .val (.ref b104), .val (.int (f_in vn vs ve)), .val (.long vd), .second, .unset] [(.int (2147483647 : Int32)), (.int ve)])) _
                refine XS.icmpNo X111.here hx rfl (hb hby at_196) rfl (teq hc196_125).2 ?_
                show Steps p.tables e below (T111.setTop (mkF m 199 #[.val (.int p0), .val (.int p1), .val (.int p2), .val (.int p3), .val (.int (2147483647 : Int32)), .val (.int vs), .val (.int em), .val (.int ve), .val (.int lm), .val (.int vn), .val (.ref b104), .val (.int (f_in vn vs ve)), .val (.long vd), .second, .unset] [])) _
                refine XS.iconst X111.here hx rfl (hb hby at_199) ?_
                show Steps p.tables e below (T111.setTop (mkF m 200 #[.val (.int p0), .val (.int p1), .val (.int p2), .val (.int p3), .val (.int (2147483647 : Int32)), .val (.int vs), .val (.int em), .val (.int ve), .val (.int lm), .val (.int vn), .val (.ref b104), .val (.int (f_in vn vs ve)), .val (.long vd), .second, .unset] [(.int (1 : Int32))])) _
                refine XS.istore X111.here hx rfl (hb hby at_200) rfl (l' := #[.val (.int p0), .val (.int p1), .val (.int p2), .val (.int p3), .val (.int (2147483647 : Int32)), .val (.int vs), .val (.int em), .val (.int ve), .val (.int lm), .val (.int vn), .val (.ref b104), .val (.int (f_in vn vs ve)), .val (.long vd), .second, .val (.int (1 : Int32))]) rfl ?_
                show Steps p.tables e below (T111.setTop (mkF m 202 #[.val (.int p0), .val (.int p1), .val (.int p2), .val (.int p3), .val (.int (2147483647 : Int32)), .val (.int vs), .val (.int em), .val (.int ve), .val (.int lm), .val (.int vn), .val (.ref b104), .val (.int (f_in vn vs ve)), .val (.long vd), .second, .val (.int (1 : Int32))] [])) _
                refine XS.goto X111.here hx rfl (pc0 := 202) (pc' := 208) rfl (hb hby at_202) (by decide) (by decide) ?_
                show Steps p.tables e below (T111.setTop (mkF m 208 #[.val (.int p0), .val (.int p1), .val (.int p2), .val (.int p3), .val (.int (2147483647 : Int32)), .val (.int vs), .val (.int em), .val (.int ve), .val (.int lm), .val (.int vn), .val (.ref b104), .val (.int (f_in vn vs ve)), .val (.long vd), .second, .val (.int (1 : Int32))] [])) _
                refine XS.iload X111.here hx rfl (hb hby at_208) rfl ?_
                show Steps p.tables e below (T111.setTop (mkF m 210 #[.val (.int p0), .val (.int p1), .val (.int p2), .val (.int p3), .val (.int (2147483647 : Int32)), .val (.int vs), .val (.int em), .val (.int ve), .val (.int lm), .val (.int vn), .val (.ref b104), .val (.int (f_in vn vs ve)), .val (.long vd), .second, .val (.int (1 : Int32))] [(.int (f_in vn vs ve))])) _
                refine XS.iload X111.here hx rfl (hb hby at_210) rfl ?_
                show Steps p.tables e below (T111.setTop (mkF m 212 #[.val (.int p0), .val (.int p1), .val (.int p2), .val (.int p3), .val (.int (2147483647 : Int32)), .val (.int vs), .val (.int em), .val (.int ve), .val (.int lm), .val (.int vn), .val (.ref b104), .val (.int (f_in vn vs ve)), .val (.long vd), .second, .val (.int (1 : Int32))] [(.int (1 : Int32)), (.int (f_in vn vs ve))])) _
                refine XS.icmpNo X111.here hx rfl (hb hby at_212) rfl (teq (by
                    have hd := hm114
                    rw [own_in]
                    simp only [← Int32.toInt_inj, Int64.lt_iff_toInt_lt, Int64.reduceToInt, Int32.reduceToInt] at hc157_116 hc170_119 hc183_122 hc196_125
                    repeat' split
                    all_goals first | rfl | (exfalso; omega) : (f_in vn vs ve) = (1 : Int32))).2 ?_
                show Steps p.tables e below (T111.setTop (mkF m 215 #[.val (.int p0), .val (.int p1), .val (.int p2), .val (.int p3), .val (.int (2147483647 : Int32)), .val (.int vs), .val (.int em), .val (.int ve), .val (.int lm), .val (.int vn), .val (.ref b104), .val (.int (f_in vn vs ve)), .val (.long vd), .second, .val (.int (1 : Int32))] [])) _
                refine XS.iconst X111.here hx rfl (hb hby at_215) ?_
                show Steps p.tables e below (T111.setTop (mkF m 216 #[.val (.int p0), .val (.int p1), .val (.int p2), .val (.int p3), .val (.int (2147483647 : Int32)), .val (.int vs), .val (.int em), .val (.int ve), .val (.int lm), .val (.int vn), .val (.ref b104), .val (.int (f_in vn vs ve)), .val (.long vd), .second, .val (.int (1 : Int32))] [(.int (1 : Int32))])) _
                refine XS.goto X111.here hx rfl (pc0 := 216) (pc' := 220) rfl (hb hby at_216) (by decide) (by decide) ?_
                exact kt)
              obtain ⟨fs, hr, hrun, hended, hW, hsame⟩ := X111.leave (v := some (.int (1 : Int32))) (fun h => by rw [Bd.returns] at h; cases h)
              refine ⟨_, _, pre126 _ ?_, hrun, hended, _, _, rfl, ?_, ⟨_, rfl⟩, hW, hsame.mono (by decide) (by decide)⟩
              · show Steps p.tables e below (T111.setTop (mkF m 220 #[.val (.int p0), .val (.int p1), .val (.int p2), .val (.int p3), .val (.int (2147483647 : Int32)), .val (.int vs), .val (.int em), .val (.int ve), .val (.int lm), .val (.int vn), .val (.ref b104), .val (.int (f_in vn vs ve)), .val (.long vd), .second, .val (.int (1 : Int32))] [(.int (1 : Int32))])) _
                exact retN X111 hx (t := .boolean) Bd.returns (by simp) (hb hby at_220) hr
              · show Q0 Z p0 p1 p2 p3 h0 n0 _ T111.heap _
                rw [e111]
                exact ⟨rfl, N111⟩
            · have pre127 : ∀ t, Steps p.tables e below (T111.setTop (mkF m 220 #[.val (.int p0), .val (.int p1), .val (.int p2), .val (.int p3), .val (.int (2147483647 : Int32)), .val (.int vs), .val (.int em), .val (.int ve), .val (.int lm), .val (.int vn), .val (.ref b104), .val (.int (f_in vn vs ve)), .val (.long vd), .second, .val (.int (0 : Int32))] [(.int (1 : Int32))])) t → Steps p.tables e below (s₁.setTop (entryFrame m #[(.int p0), (.int p1), (.int p2), (.int p3)] maxLocals)) t := fun t kt => pre124 t (by
                show Steps p.tables e below (T111.setTop (mkF m 196 #[.val (.int p0), .val (.int p1), .val (.int p2), .val (.int p3), .val (.int (2147483647 : Int32)), .val (.int vs), .val (.int em), .val (.int ve), .val (.int lm), .val (.int vn), .val (.ref b104), .val (.int (f_in vn vs ve)), .val (.long vd), .second, .unset] [(.int (2147483647 : Int32)), (.int ve)])) _
                refine XS.icmpYes X111.here hx rfl (pc0 := 196) (pc' := 205) rfl (hb hby at_196) rfl (feq hc196_125).2 (by decide) (by decide) ?_
                show Steps p.tables e below (T111.setTop (mkF m 205 #[.val (.int p0), .val (.int p1), .val (.int p2), .val (.int p3), .val (.int (2147483647 : Int32)), .val (.int vs), .val (.int em), .val (.int ve), .val (.int lm), .val (.int vn), .val (.ref b104), .val (.int (f_in vn vs ve)), .val (.long vd), .second, .unset] [])) _
                refine XS.iconst X111.here hx rfl (hb hby at_205) ?_
                show Steps p.tables e below (T111.setTop (mkF m 206 #[.val (.int p0), .val (.int p1), .val (.int p2), .val (.int p3), .val (.int (2147483647 : Int32)), .val (.int vs), .val (.int em), .val (.int ve), .val (.int lm), .val (.int vn), .val (.ref b104), .val (.int (f_in vn vs ve)), .val (.long vd), .second, .unset] [(.int (0 : Int32))])) _
                refine XS.istore X111.here hx rfl (hb hby at_206) rfl (l' := #[.val (.int p0), .val (.int p1), .val (.int p2), .val (.int p3), .val (.int (2147483647 : Int32)), .val (.int vs), .val (.int em), .val (.int ve), .val (.int lm), .val (.int vn), .val (.ref b104), .val (.int (f_in vn vs ve)), .val (.long vd), .second, .val (.int (0 : Int32))]) rfl ?_
                show Steps p.tables e below (T111.setTop (mkF m 208 #[.val (.int p0), .val (.int p1), .val (.int p2), .val (.int p3), .val (.int (2147483647 : Int32)), .val (.int vs), .val (.int em), .val (.int ve), .val (.int lm), .val (.int vn), .val (.ref b104), .val (.int (f_in vn vs ve)), .val (.long vd), .second, .val (.int (0 : Int32))] [])) _
                refine XS.iload X111.here hx rfl (hb hby at_208) rfl ?_
                show Steps p.tables e below (T111.setTop (mkF m 210 #[.val (.int p0), .val (.int p1), .val (.int p2), .val (.int p3), .val (.int (2147483647 : Int32)), .val (.int vs), .val (.int em), .val (.int ve), .val (.int lm), .val (.int vn), .val (.ref b104), .val (.int (f_in vn vs ve)), .val (.long vd), .second, .val (.int (0 : Int32))] [(.int (f_in vn vs ve))])) _
                refine XS.iload X111.here hx rfl (hb hby at_210) rfl ?_
                show Steps p.tables e below (T111.setTop (mkF m 212 #[.val (.int p0), .val (.int p1), .val (.int p2), .val (.int p3), .val (.int (2147483647 : Int32)), .val (.int vs), .val (.int em), .val (.int ve), .val (.int lm), .val (.int vn), .val (.ref b104), .val (.int (f_in vn vs ve)), .val (.long vd), .second, .val (.int (0 : Int32))] [(.int (0 : Int32)), (.int (f_in vn vs ve))])) _
                refine XS.icmpNo X111.here hx rfl (hb hby at_212) rfl (teq (by
                    have hd := hm114
                    rw [own_in]
                    simp only [← Int32.toInt_inj, Int64.lt_iff_toInt_lt, Int64.reduceToInt, Int32.reduceToInt] at hc157_116 hc170_119 hc183_122 hc196_125
                    repeat' split
                    all_goals first | rfl | (exfalso; omega) : (f_in vn vs ve) = (0 : Int32))).2 ?_
                show Steps p.tables e below (T111.setTop (mkF m 215 #[.val (.int p0), .val (.int p1), .val (.int p2), .val (.int p3), .val (.int (2147483647 : Int32)), .val (.int vs), .val (.int em), .val (.int ve), .val (.int lm), .val (.int vn), .val (.ref b104), .val (.int (f_in vn vs ve)), .val (.long vd), .second, .val (.int (0 : Int32))] [])) _
                refine XS.iconst X111.here hx rfl (hb hby at_215) ?_
                show Steps p.tables e below (T111.setTop (mkF m 216 #[.val (.int p0), .val (.int p1), .val (.int p2), .val (.int p3), .val (.int (2147483647 : Int32)), .val (.int vs), .val (.int em), .val (.int ve), .val (.int lm), .val (.int vn), .val (.ref b104), .val (.int (f_in vn vs ve)), .val (.long vd), .second, .val (.int (0 : Int32))] [(.int (1 : Int32))])) _
                refine XS.goto X111.here hx rfl (pc0 := 216) (pc' := 220) rfl (hb hby at_216) (by decide) (by decide) ?_
                exact kt)
              obtain ⟨fs, hr, hrun, hended, hW, hsame⟩ := X111.leave (v := some (.int (1 : Int32))) (fun h => by rw [Bd.returns] at h; cases h)
              refine ⟨_, _, pre127 _ ?_, hrun, hended, _, _, rfl, ?_, ⟨_, rfl⟩, hW, hsame.mono (by decide) (by decide)⟩
              · show Steps p.tables e below (T111.setTop (mkF m 220 #[.val (.int p0), .val (.int p1), .val (.int p2), .val (.int p3), .val (.int (2147483647 : Int32)), .val (.int vs), .val (.int em), .val (.int ve), .val (.int lm), .val (.int vn), .val (.ref b104), .val (.int (f_in vn vs ve)), .val (.long vd), .second, .val (.int (0 : Int32))] [(.int (1 : Int32))])) _
                exact retN X111 hx (t := .boolean) Bd.returns (by simp) (hb hby at_220) hr
              · show Q0 Z p0 p1 p2 p3 h0 n0 _ T111.heap _
                rw [e111]
                exact ⟨rfl, N111⟩
set_option maxRecDepth 65536 in
set_option maxHeartbeats 40000000 in
theorem comes_1 {Post : Tables → Env → Array Value → State → Outcome → State → Prop} (hpost : ∀ tb e args s v u, (limb_1_1.after args s (.returned v) u = true ∧ limb_1_2.after args s (.returned v) u = true ∧ True) → FrameEnd s (.returned v) u (Jvm.fieldLocs frame_1_writes args s ++ Jvm.arrayLocs frame_1_arrays args s ++ Jvm.staticLocs frame_1_statics s) 16 128 → Post tb e args s (.returned v) u) :
    ArmFor flags0 classFile x code maxLocals ret World_1 tables_1 room_1 Calls_1 rest_1 Pre_1 Post := by
  intro l hfl _ _ p e ha hc hk s m args below hf hA hF happ hP
  obtain ⟨hcalls, hrest, hpre⟩ := hP
  obtain ⟨-, -, -, hnamed, -, -, -, hat⟩ := (Spec.applies_iff hf).mp happ
  obtain ⟨hg, hn⟩ := and_e (Cond.before_iff.mp (show (Jvm.Cond.and given_1 narrow_1).before args s = true from hpre))
  obtain ⟨g1, g2⟩ := and_e hg
  obtain ⟨g3, g4⟩ := and_e g2
  obtain ⟨g5, g6⟩ := and_e g4
  obtain ⟨g7, g8⟩ := and_e g6
  obtain ⟨w0, w1, w2, w3, rfl⟩ : ∃ w0 w1 w2 w3 : Value, args = #[w0, w1, w2, w3] := by
    have hs : args.size = 4 := by simpa [Cond.value, given_1] using g1
    obtain ⟨L⟩ := args
    match L, hs with
    | [w0, w1, w2, w3], _ => exact ⟨w0, w1, w2, w3, rfl⟩
  have hw := fun d (hd : d ∈ tables_1) => atoms_spec (ws := Jvm.Cond.code x code maxLocals ret :: tables_1) hat d (List.mem_cons_of_mem _ hd)
  obtain ⟨i0, ei0⟩ := is_v g3
  obtain rfl : w0 = (.int i0) := Option.some.inj ei0
  obtain ⟨i1, ei1⟩ := is_v g5
  obtain rfl : w1 = (.int i1) := Option.some.inj ei1
  obtain ⟨i2, ei2⟩ := is_v g7
  obtain rfl : w2 = (.int i2) := Option.some.inj ei2
  obtain ⟨i3, ei3⟩ := is_v g8
  obtain rfl : w3 = (.int i3) := Option.some.inj ei3
  obtain ⟨n, o, h1, h2, h3, _, L, rfl, ⟨rfl, N⟩, hq⟩ := rm0 l s _ hw tables_1 i0 i1 i2 i3 s.heap s.heap.size (Nat.le_refl _) p e ha hc hk s m _ below hf ((Spec.applies_iff_loose hf).mp happ).1 ⟨rfl, State.Warmed39.refl s, rfl⟩ trivial
  refine ⟨n, _, h1, h2, h3, hpost _ _ _ _ _ _ ⟨Cond.after_iff.mpr rfl, Cond.after_iff.mpr (eq_i res_at (Term.int_eval (1)) rfl), trivial⟩ ⟨hq.1, hq.2.1, (hq.2.2.sift fun y hy => Or.inr (N y hy)).mono (by decide) (by decide)⟩⟩
theorem main_1_1 : Claimed_1_1 := comes_1 fun _ _ _ _ _ _ h hF => ⟨h.1, hF⟩
theorem main_1_2 : Claimed_1_2 := comes_1 fun _ _ _ _ _ _ h hF => ⟨h.2.1, hF⟩
end Jvm.Pilot.@@N@@
namespace Jvm.Pilot.@@N@@
open Jvm Jvm.ClassFile Sem Op Lib Jvm.Free Jvm.Stand Jvm.Pilot.@@N@@.Jvm.D
/-! MADE BY PROGRAM (witnessworld.py) out of the Statement's table words and the real class files: 10 classes; the members and pool entries that the words name. The judged class is class 1, her method 1. -/
namespace start1
open Jvm.ClassFile
def u (s : String) : CpInfo := .utf8 (stringToUtf16 s)
/-- a pool by its gaps: so many unusable entries, then the entry; so many at the end -/
def gap : Nat → List CpInfo → List CpInfo
  | 0, r => r
  | n + 1, r => .unusable :: gap n r
def poolList (es : List (Nat × CpInfo)) (last : Nat) : List CpInfo := es.foldr (fun e r => gap e.1 (e.2 :: r)) (gap last [])
def pool (es : List (Nat × CpInfo)) (last : Nat) : Array CpInfo := ⟨poolList es last⟩
def fileOf (pool : Array CpInfo) (this : Nat) (attrs : Array Attribute := #[]) (ms : Array MethodInfo := #[]) (fl : Nat := 33) (sup : Nat := 0) (ifs : Array Nat := #[]) (fds : Array FieldInfo := #[]) : ClassFile where
  minorVersion := 0
  majorVersion := 65
  constantPool := pool
  accessFlags := fl
  thisClass := this
  superClass := sup
  interfaces := ifs
  fields := fds
  methods := ms
  attributes := attrs
def plain (name : String) (sup : Option ClassId) : Class where
  name := name
  kind := .ordinary
  loader := none
  accessFlags := 33
  super := sup
  interfaces := #[]
  cf := none
  fields := #[]
  methods := #[]
  instanceTypes := #[]
  staticTypes := #[]
  resolved := #[]
  callSites := []
  init := .initialized
  statics := none
  mirror := none

def pool0 : Array CpInfo := pool [(5, u "<init>"), (0, u "()V"), (1, .class_ 10), (1, u "java/lang/Object")] 113

def k0c0 : Code := { maxStack := 0, maxLocals := 1, code := object_method_1_code, exceptionTable := #[], attributes := #[] }
def k0m0 : Method := { name := "<init>", desc := "()V", sig := { parameters := [], returnType := none }, accessFlags := 1, code := some k0c0 }
/-- java/lang/Object -/
def k0 : Class := { plain "java/lang/Object" none with
  accessFlags := 33
  interfaces := #[]
  cf := some (fileOf pool0 8 #[] #[{ accessFlags := 1, nameIndex := 5, descriptorIndex := 6, attributes := #[] }] 33 0 #[] #[])
  fields := #[]
  methods := #[k0m0]
  instanceTypes := #[]
  staticTypes := #[]
  resolved := Array.replicate 124 none
  statics := none }

def pool1 : Array CpInfo := pool [(2, .class_ 4), (1, u "java/lang/Object"), (0, u "<init>"), (0, u "()V"), (0, .integer 2147483647), (0, .class_ 9), (0, u "com/example/baton/baton/core/PositionRange"), (0, .methodref 8 11), (0, .nameAndType 5 12), (0, u "(II)V"), (0, .methodref 8 14), (0, .nameAndType 15 16), (0, u "startsIn"), (0, u "(I)Z"), (0, .class_ 18), (0, u "com/example/baton/baton/core/PositionRangeStartsInPinLaw"), (2, u "law"), (0, u "(IIII)Z")] 3

def k1m0 : Method := { name := "<init>", desc := "()V", sig := { parameters := [], returnType := none }, accessFlags := 1, code := none }
def k1c1 : Code := { maxStack := 4, maxLocals := 15, code := code, exceptionTable := #[], attributes := #[] }
def k1m1 : Method := { name := "law", desc := "(IIII)Z", sig := { parameters := [.int, .int, .int, .int], returnType := some .boolean }, accessFlags := 9, code := some k1c1 }
/-- com/example/baton/baton/core/PositionRangeStartsInPinLaw -/
def k1 : Class := { plain "com/example/baton/baton/core/PositionRangeStartsInPinLaw" (some 0) with
  accessFlags := 49
  interfaces := #[]
  cf := some (fileOf pool1 17 #[] #[{ accessFlags := 1, nameIndex := 5, descriptorIndex := 6, attributes := #[] }, { accessFlags := 9, nameIndex := 21, descriptorIndex := 22, attributes := #[] }] 49 2 #[] #[])
  fields := #[]
  methods := #[k1m0, k1m1]
  instanceTypes := #[]
  staticTypes := #[]
  resolved := Array.replicate 26 none
  statics := none }

def pool2 : Array CpInfo := pool [(1, .methodref 2 3), (0, .class_ 4), (0, .nameAndType 5 6), (0, u "java/lang/Object"), (0, u "<init>"), (0, u "()V"), (0, .class_ 8), (0, u "java/lang/Record")] 13

def k2c0 : Code := { maxStack := 1, maxLocals := 1, code := jdk_30_method_1_code, exceptionTable := #[], attributes := #[] }
def k2m0 : Method := { name := "<init>", desc := "()V", sig := { parameters := [], returnType := none }, accessFlags := 4, code := some k2c0 }
/-- java/lang/Record -/
def k2 : Class := { plain "java/lang/Record" (some 0) with
  accessFlags := 1057
  interfaces := #[]
  cf := some (fileOf pool2 7 #[] #[{ accessFlags := 4, nameIndex := 5, descriptorIndex := 6, attributes := #[] }] 1057 2 #[] #[])
  fields := #[]
  methods := #[k2m0]
  instanceTypes := #[]
  staticTypes := #[]
  resolved := Array.replicate 22 none
  statics := none }

def pool3 : Array CpInfo := pool [(3, .methodref 4 5), (0, .class_ 6), (0, .nameAndType 7 8), (0, u "java/lang/Record"), (0, u "<init>"), (0, u "()V"), (9, .fieldref 19 20), (0, .class_ 21), (0, .nameAndType 22 23), (0, u "com/example/baton/baton/core/PositionRange"), (0, u "start"), (0, u "I"), (0, .fieldref 19 25), (0, .nameAndType 26 23), (0, u "end"), (0, .integer 2147483647), (30, u "(II)V"), (2, u "ALL"), (0, u "Lcom/example/baton/baton/core/PositionRange;"), (0, u "TO_THE_END"), (5, u "startsIn"), (0, u "(I)Z")] 38

def k3c0 : Code := { maxStack := 4, maxLocals := 3, code := prog_27_method_1_code, exceptionTable := #[], attributes := #[] }
def k3m0 : Method := { name := "<init>", desc := "(II)V", sig := { parameters := [.int, .int], returnType := none }, accessFlags := 1, code := some k3c0 }
def k3c1 : Code := { maxStack := 2, maxLocals := 2, code := prog_27_method_2_code, exceptionTable := #[], attributes := #[] }
def k3m1 : Method := { name := "startsIn", desc := "(I)Z", sig := { parameters := [.int], returnType := some .boolean }, accessFlags := 1, code := some k3c1 }
/-- com/example/baton/baton/core/PositionRange -/
def k3 : Class := { plain "com/example/baton/baton/core/PositionRange" (some 2) with
  accessFlags := 49
  interfaces := #[]
  cf := some (fileOf pool3 19 #[] #[{ accessFlags := 1, nameIndex := 7, descriptorIndex := 58, attributes := #[] }, { accessFlags := 1, nameIndex := 69, descriptorIndex := 70, attributes := #[] }] 49 4 #[] #[{ accessFlags := 18, nameIndex := 22, descriptorIndex := 23, attributes := #[] }, { accessFlags := 18, nameIndex := 26, descriptorIndex := 23, attributes := #[] }, { accessFlags := 25, nameIndex := 63, descriptorIndex := 23, attributes := #[] }, { accessFlags := 25, nameIndex := 61, descriptorIndex := 62, attributes := #[] }])
  fields := #[{ name := "start", type := .int, accessFlags := 18, slot := 0, constantValue := 0 }, { name := "end", type := .int, accessFlags := 18, slot := 1, constantValue := 0 }, { name := "TO_THE_END", type := .int, accessFlags := 25, slot := 0, constantValue := 0 }, { name := "ALL", type := (.object "com/example/baton/baton/core/PositionRange"), accessFlags := 25, slot := 1, constantValue := 0 }]
  methods := #[k3m0, k3m1]
  instanceTypes := #[.int, .int]
  staticTypes := #[.int, (.object "com/example/baton/baton/core/PositionRange")]
  resolved := Array.replicate 109 none
  statics := none }

def pool4 : Array CpInfo := pool [(1, u "java/lang/Cloneable"), (0, .class_ 1), (0, u "java/lang/Object"), (0, .class_ 3)] 3

/-- java/lang/Cloneable -/
def k4 : Class := { plain "java/lang/Cloneable" (some 0) with
  accessFlags := 1537
  interfaces := #[]
  cf := some (fileOf pool4 2 #[] #[] 1537 4 #[] #[])
  fields := #[]
  methods := #[]
  instanceTypes := #[]
  staticTypes := #[]
  resolved := Array.replicate 8 none
  statics := none }

def pool5 : Array CpInfo := pool [(1, u "java/io/Serializable"), (0, .class_ 1), (0, u "java/lang/Object"), (0, .class_ 3)] 3

/-- java/io/Serializable -/
def k5 : Class := { plain "java/io/Serializable" (some 0) with
  accessFlags := 1537
  interfaces := #[]
  cf := some (fileOf pool5 2 #[] #[] 1537 4 #[] #[])
  fields := #[]
  methods := #[]
  instanceTypes := #[]
  staticTypes := #[]
  resolved := Array.replicate 8 none
  statics := none }

/-- the primitive byte -/
def k6 : Class := { plain "byte" none with kind := .primitive 'B', accessFlags := 0x411 }
/-- [B -/
def k7 : Class := { plain "[B" (some 0) with kind := .array 6 .byte, interfaces := #[4, 5], accessFlags := 1041 }

/-- the primitive int -/
def k8 : Class := { plain "int" none with kind := .primitive 'I', accessFlags := 0x411 }
/-- [I -/
def k9 : Class := { plain "[I" (some 0) with kind := .array 8 .int, interfaces := #[4, 5], accessFlags := 1041 }

def heap : Heap := #[]
def classes : Array Class := #[k0, k1, k2, k3, k4, k5, k6, k7, k8, k9]
def interned : List (Array UInt16 × Addr) := []
def slotsUsed : Nat := 0
def theMethod : MethodId := ⟨1, 1⟩
def args0 : Array Value := #[.int 5, .int 5, .int 5, .int 5]
def aboutOver (below : List Frame) : State where
  vm := { classes := classes, interned := interned.toArray }
  heap := heap
  slotsUsed := slotsUsed
  threads := #[{ frames := .invoking theMethod args0 :: below }]
def below0 : List Frame := [.native { method := ⟨0, 0⟩, args := #[] }]
def about1 : State := aboutOver below0
def p0 : Program := .bare "" "" ""
def e0 : Env := launch0.env 0 0 0
theorem w_frames : about1.frames = Frame.invoking theMethod args0 :: below0 := rfl
set_option maxRecDepth 65536 in
theorem w_args : argsFit about1.vm theMethod args0 = true := by decide +kernel
set_option maxRecDepth 65536 in
theorem w_heap : heapFits about1 = true := by decide +kernel
set_option maxRecDepth 65536 in
theorem w_runnable : about1.curStatus? = some .runnable := by decide +kernel
set_option maxRecDepth 65536 in
theorem w_alone : about1.alone = true := by decide +kernel
set_option maxRecDepth 65536 in
theorem w_named : about1.methodNamed? x = some theMethod := by decide +kernel
set_option maxRecDepth 65536 in
theorem w_hears : about1.hears theMethod below0 = true := by decide +kernel
set_option maxRecDepth 65536 in
theorem w_ripe : about1.ripe theMethod args0 below0 = true := by decide +kernel
theorem w_running : about1.status = .running := rfl
set_option maxRecDepth 65536 in
theorem w_room : about1.hasRoom e0.platform room_1 = true :=
  launch0.hasRoom_least _ room_1 (by decide +kernel) (by decide +kernel) (by decide +kernel) (by decide +kernel) (by decide +kernel) (by decide +kernel)
theorem allAtoms_all (ts : List Jvm.Cond) (a : Array Jvm.Value) (st : Jvm.State) : (allAtoms ts).before a st = ts.all (fun c => c.before a st) := by
  induction ts with
  | nil => rfl
  | cons c t ih =>
    show (Jvm.Cond.and c (allAtoms t)).before a st = _
    rw [Jvm.Cond.before_and, ih, List.all_cons]
def words1 : List Jvm.Cond := Jvm.Cond.code x code maxLocals ret :: tables_1
/-- a 'code' word, met by the world's own term for the bytes: nothing is compared byte by byte -/
theorem code_word {y : MethodName} {bytes : ByteArray} {mx : Nat} {rt : Option FieldType} {a : Array Value} {s : State} {m : MethodId} {meth : Method} {c : Code} (h1 : s.methodNamed? y = some m) (h2 : s.vm.method? m = some meth) (h3 : meth.code = some c) (h4 : c.code = bytes)
    (h5 : (c.maxLocals == mx && c.exceptionTable.isEmpty && decide (c.maxStack ≤ mostOperands) && decide (meth.sig.returnType = rt) && !meth.locks && decide (parseMethodDescriptor y.desc = some meth.sig)) = true) : (Jvm.Cond.code y bytes mx rt).before a s = true := by
  simp only [Bool.and_eq_true, beq_iff_eq, Bool.not_eq_true', decide_eq_true_eq] at h5
  obtain ⟨⟨⟨⟨⟨g1, g2⟩, g3⟩, g4⟩, g5⟩, g6⟩ := h5
  simp [Cond.before, Cond.holds, Cond.value, h1, h2, h3, h4, g1, g2, g3, g4, g5, g6]
def isCode : Jvm.Cond → Bool
  | .code _ _ _ _ => true
  | _ => false
theorem all_split {L : List Jvm.Cond} {P : Jvm.Cond → Bool} (h1 : L.all (fun c => isCode c || P c) = true) (h2 : ∀ c ∈ L.filter isCode, P c = true) : L.all P = true := by
  refine List.all_eq_true.mpr fun c hc => ?_
  have h := List.all_eq_true.mp h1 c hc
  rcases Bool.eq_false_or_eq_true (isCode c) with hi | hi
  · exact h2 c (List.mem_filter.mpr ⟨hc, hi⟩)
  · simpa [hi] using h
set_option maxRecDepth 65536 in
theorem w_c0 : (Jvm.Cond.code x code maxLocals ret).before args0 about1 = true := code_word (m := ⟨1, 1⟩) (meth := k1m1) (c := k1c1) (by decide +kernel) rfl rfl rfl (by decide +kernel)
set_option maxRecDepth 65536 in
theorem w_c1 : (Jvm.Cond.code ({ cls := "com/example/baton/baton/core/PositionRange", name := "<init>", desc := "(II)V" } : Jvm.MethodName) prog_27_method_1_code (3 : Nat) (Option.none : Option Jvm.ClassFile.FieldType)).before args0 about1 = true := code_word (m := ⟨3, 0⟩) (meth := k3m0) (c := k3c0) (by decide +kernel) rfl rfl rfl (by decide +kernel)
set_option maxRecDepth 65536 in
theorem w_c2 : (Jvm.Cond.code ({ cls := "java/lang/Record", name := "<init>", desc := "()V" } : Jvm.MethodName) jdk_30_method_1_code (1 : Nat) (Option.none : Option Jvm.ClassFile.FieldType)).before args0 about1 = true := code_word (m := ⟨2, 0⟩) (meth := k2m0) (c := k2c0) (by decide +kernel) rfl rfl rfl (by decide +kernel)
set_option maxRecDepth 65536 in
theorem w_c3 : (Jvm.Cond.code ({ cls := "java/lang/Object", name := "<init>", desc := "()V" } : Jvm.MethodName) object_method_1_code (1 : Nat) (Option.none : Option Jvm.ClassFile.FieldType)).before args0 about1 = true := code_word (m := ⟨0, 0⟩) (meth := k0m0) (c := k0c0) (by decide +kernel) rfl rfl rfl (by decide +kernel)
set_option maxRecDepth 65536 in
theorem w_c4 : (Jvm.Cond.code ({ cls := "com/example/baton/baton/core/PositionRange", name := "startsIn", desc := "(I)Z" } : Jvm.MethodName) prog_27_method_2_code (2 : Nat) (Option.some Jvm.ClassFile.FieldType.boolean)).before args0 about1 = true := code_word (m := ⟨3, 1⟩) (meth := k3m1) (c := k3c1) (by decide +kernel) rfl rfl rfl (by decide +kernel)
def codes1 : List Jvm.Cond := [Jvm.Cond.code x code maxLocals ret, Jvm.Cond.code ({ cls := "com/example/baton/baton/core/PositionRange", name := "<init>", desc := "(II)V" } : Jvm.MethodName) prog_27_method_1_code (3 : Nat) (Option.none : Option Jvm.ClassFile.FieldType), Jvm.Cond.code ({ cls := "java/lang/Record", name := "<init>", desc := "()V" } : Jvm.MethodName) jdk_30_method_1_code (1 : Nat) (Option.none : Option Jvm.ClassFile.FieldType), Jvm.Cond.code ({ cls := "java/lang/Object", name := "<init>", desc := "()V" } : Jvm.MethodName) object_method_1_code (1 : Nat) (Option.none : Option Jvm.ClassFile.FieldType), Jvm.Cond.code ({ cls := "com/example/baton/baton/core/PositionRange", name := "startsIn", desc := "(I)Z" } : Jvm.MethodName) prog_27_method_2_code (2 : Nat) (Option.some Jvm.ClassFile.FieldType.boolean)]
set_option maxRecDepth 65536 in
theorem codes_eq : words1.filter isCode = codes1 := rfl
theorem w_codes : ∀ c ∈ words1.filter isCode, c.before args0 about1 = true := by
  rw [codes_eq]
  intro c hc
  simp only [codes1, List.mem_cons, List.not_mem_nil, or_false] at hc
  rcases hc with rfl | rfl | rfl | rfl | rfl
  · exact w_c0
  · exact w_c1
  · exact w_c2
  · exact w_c3
  · exact w_c4
set_option maxRecDepth 65536 in
theorem w_t1 : (words1.take 24).all (fun c => isCode c || c.before args0 about1) = true := by decide +kernel
set_option maxRecDepth 65536 in
theorem w_t2 : (words1.drop 24).all (fun c => isCode c || c.before args0 about1) = true := by decide +kernel
theorem w_tables : (allAtoms (Jvm.Cond.code x code maxLocals ret :: tables_1)).before args0 about1 = true := by
  rw [allAtoms_all]
  show words1.all (fun c => c.before args0 about1) = true
  refine all_split ?_ w_codes
  rw [← List.take_append_drop 24 words1, List.all_append, w_t1, w_t2]
  rfl
set_option maxRecDepth 65536 in
theorem w_case : (Jvm.Cond.and given_1 narrow_1).before args0 about1 = true := by decide +kernel
theorem w_applies : (headSpec (Jvm.Cond.code x code maxLocals ret :: tables_1) room_1).applies x e0.platform about1 = true :=
  (Spec.applies_iff w_frames).mpr ⟨w_running, w_runnable, w_alone, w_named, w_hears, w_ripe, w_room, w_tables⟩
theorem atStart : AtStart classFile x code maxLocals ret World_1 tables_1 room_1 Calls_1 rest_1 Pre_1 launch0 p0 e0 about1 theMethod args0 below0 :=
  ⟨lists_1, trivial, launch0.admits_env _ _ _, launch0.least_env, fairChoices_fair.cas, fairChoices_fair.clock, w_frames, w_args, w_heap, w_applies, trivial, trivial, w_case⟩
end start1
theorem witness_1 : WitnessClaimed_1 := ⟨start1.p0, start1.e0, start1.about1, start1.theMethod, start1.args0, start1.below0, start1.atStart⟩
end Jvm.Pilot.@@N@@
