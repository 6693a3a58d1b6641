import JvmDerived
import JvmDerived.Pilot.@@N@@Statement
import JvmDerived.Pilot.@@N@@Code
set_option linter.unusedVariables false
set_option linter.unusedSimpArgs false
namespace Jvm.RoadKit
open Sem ClassFile Op Lib Jvm.Stand Jvm.Free Jvm.LawKit
section New
variable {p : Program} {l : Launch} {e : Env} {R : Room} {s : State} {m : MethodId} {args : Array Value} {below : List Frame} {meth : Method} {c : Code} {T : State} {locs : List Loc} {cells slots : Nat}
theorem retI (X : Stand p l e R s m args below meth c T locs cells slots) (hx : p.tables.exec = Jvm.exec) {pc : Nat} {Ls : Array Slot} {z : Int32} {rest : List Value} (hret : meth.sig.returnType = some .int) (hd : decode c.code pc = .ok (.ireturn, 1)) {fs : List Frame}
    (hl : ∀ (f : JFrame) (acts : List Action), f.method = m → f.locked = none → f.entered = [] → (doReturn e (T.setTop f) acts (some (.int z))).1 = T.setFrames fs) : Steps p.tables e below (T.setTop (mkF m pc Ls (.int z :: rest))) (T.setFrames fs) := by
  have hm' : T.vm.method? m = some meth := X.method'
  have hn : narrow .int (.int z) = .int z := rfl
  show Steps p.tables e below (T.setTop { method := m, pc := pc, locals := Ls, stack := _ :: rest, locked := none }) _
  jvm_step X.here [X.here.top, hx, hd, hm', hret, hn]
  first | (intro acts; rw [hl _ acts rfl rfl rfl]) | rw [hl _ _ rfl rfl rfl]
  exact Steps.refl _
theorem retL (X : Stand p l e R s m args below meth c T locs cells slots) (hx : p.tables.exec = Jvm.exec) {pc : Nat} {Ls : Array Slot} {z : Int64} {rest : List Value} (hret : meth.sig.returnType = some .long) (hd : decode c.code pc = .ok (.lreturn, 1)) {fs : List Frame}
    (hl : ∀ (f : JFrame) (acts : List Action), f.method = m → f.locked = none → f.entered = [] → (doReturn e (T.setTop f) acts (some (.long z))).1 = T.setFrames fs) : Steps p.tables e below (T.setTop (mkF m pc Ls (.long z :: rest))) (T.setFrames fs) := by
  have hm' : T.vm.method? m = some meth := X.method'
  have hn : narrow .long (.long z) = .long z := rfl
  show Steps p.tables e below (T.setTop { method := m, pc := pc, locals := Ls, stack := _ :: rest, locked := none }) _
  jvm_step X.here [X.here.top, hx, hd, hm', hret, hn]
  first | (intro acts; rw [hl _ acts rfl rfl rfl]) | rw [hl _ _ rfl rfl rfl]
  exact Steps.refl _
end New
end Jvm.RoadKit
namespace Jvm.Pilot.@@N@@
open Jvm Jvm.ClassFile Sem Op Lib Jvm.Free Jvm.Stand Jvm.LawKit Jvm.RoadKit Bundle Jvm.Pilot.@@N@@.Jvm.D
theorem pn_com_example_baton_baton_support_SkippedMarkedPinLaw : plainName "com/example/baton/baton/support/SkippedMarkedPinLaw" = true := by first | (simp [plainName, overriddenIn]; done) | decide +kernel
theorem pn_com_example_baton_baton_support_Skipped : plainName "com/example/baton/baton/support/Skipped" = true := by first | (simp [plainName, overriddenIn]; done) | decide +kernel
theorem d1_0 : decode prog_26_method_2_code 0 = .ok (.aload_n 0, 1) := by decide +kernel
theorem d1_1 : decode prog_26_method_2_code 1 = .ok (.astore_n 3, 1) := by decide +kernel
theorem d1_2 : decode prog_26_method_2_code 2 = .ok (.aload_n 3, 1) := by decide +kernel
theorem d1_3 : decode prog_26_method_2_code 3 = .ok (.ifnonnull 7, 3) := by decide +kernel
theorem d1_6 : decode prog_26_method_2_code 6 = .ok (.iload_n 2, 1) := by decide +kernel
theorem d1_7 : decode prog_26_method_2_code 7 = .ok (.newarray .boolean, 2) := by decide +kernel
theorem d1_9 : decode prog_26_method_2_code 9 = .ok (.astore_n 3, 1) := by decide +kernel
theorem d1_10 : decode prog_26_method_2_code 10 = .ok (.aload_n 3, 1) := by decide +kernel
theorem d1_11 : decode prog_26_method_2_code 11 = .ok (.iload_n 1, 1) := by decide +kernel
theorem d1_12 : decode prog_26_method_2_code 12 = .ok (.iconst 1, 1) := by decide +kernel
theorem d1_13 : decode prog_26_method_2_code 13 = .ok (.bastore, 1) := by decide +kernel
theorem d1_14 : decode prog_26_method_2_code 14 = .ok (.aload_n 3, 1) := by decide +kernel
theorem d1_15 : decode prog_26_method_2_code 15 = .ok (.areturn, 1) := by decide +kernel
theorem ef1n (m : MethodId) (x1 : Int32) (x2 : Int32) : entryFrame m #[.null, (.int x1), (.int x2)] 4 = mkF m 0 #[.val .null, .val (.int x1), .val (.int x2), .unset] [] := by first | (simp [entryFrame, mkF, argsToLocals, Value.category]; done) | rfl
def Q1n (Z : State) (p1 : Int32) (p2 : Int32) (h0 : Heap) (n0 : Nat) (v : Option Value) (h : Heap) (L : List Loc) : Prop := v = some (.ref (h0.size)) ∧ Fr n0 L ∧ Keep h0 h [] ∧ ∃ k, Arh Z h h0.size k .boolean p2 [(p1, (.int (1 : Int32)))] [] (.int (0 : Int32))
set_option maxRecDepth 65536 in
set_option maxHeartbeats 40000000 in
theorem rm1n (l : Launch) (Z : State) (av : Array Value) (hw : ∀ d ∈ tables_1, d.before av Z = true) (ws : List Jvm.Cond) (p1 : Int32) (p2 : Int32) (h0 : Heap) (n0 : Nat) (Z0 : n0 ≤ h0.size) (hpi : ¬ p1 < 0 ∧ p1 < p2) (hn0 : ¬ p2 < 0) (hcap : p2.toNatClampNeg ≤ 256) :
    MetFree l (⟨"com/example/baton/baton/support/Skipped", "marked", "([ZII)[Z"⟩ : MethodName) (head1 (Jvm.Cond.code (⟨"com/example/baton/baton/support/Skipped", "marked", "([ZII)[Z"⟩ : MethodName) prog_26_method_2_code 4 (some (.array .boolean)) :: ws) ({ frames := 0, cells := 1, slots := 256, locals := 0 } : Room)) (fun a U => a = #[.null, (.int p1), (.int p2)] ∧ Z.Warmed39 U.vm ∧ U.heap = h0) (fun _ _ _ _ _ => True) (fun _ U o U' => ∃ v L, o = .returned v ∧ Q1n Z p1 p2 h0 n0 v U'.heap L ∧ FrameEnd U o U' L ({ frames := 0, cells := 1, slots := 256, locals := 0 } : Room).cells ({ frames := 0, cells := 1, slots := 256, locals := 0 } : Room).slots) := by
  refine MetFree.of_bodySF (plainFor_of_name pn_com_example_baton_baton_support_Skipped) hisR ?_
  intro p e s m args below meth c s₁ Bd hml0 hP hK
  obtain ⟨rfl, hZ, hh⟩ := hP
  have hx := Bd.exec
  have hby := Bd.bytes
  have hml : c.maxLocals = 4 := hml0
  have hown : s.vm.findClass "com/example/baton/baton/support/Skipped" = some m.cls := findClass_of_methodNamed Bd.named
  have hnm := (name_of_methodNamed Bd.named Bd.method).1
  have X0 : Stand p l e ({ frames := 0, cells := 1, slots := 256, locals := 0 } : Room) s m #[.null, (.int p1), (.int p2)] below meth c s₁ [] 0 0 := Stand.of_body Bd
  have e0 : s₁.heap = h0 := by rw [← hh, Bd.state]; rfl
  have N0 := Fr.nil n0
  have K0 : Keep h0 h0 [] := Keep.refl h0 []
  have pre0 : ∀ t, Steps p.tables e below (s₁.setTop (mkF m 0 #[.val .null, .val (.int p1), .val (.int p2), .unset] [])) t → Steps p.tables e below (s₁.setTop (entryFrame m #[.null, (.int p1), (.int p2)] 4)) t := fun t k => castTop (ef1n m p1 p2) k
  have pre1 : ∀ t, Steps p.tables e below (s₁.setTop (mkF m 7 #[.val .null, .val (.int p1), .val (.int p2), .val .null] [(.int p2)])) t → Steps p.tables e below (s₁.setTop (entryFrame m #[.null, (.int p1), (.int p2)] 4)) t := fun t kt => pre0 t (by
    show Steps p.tables e below (s₁.setTop (mkF m 0 #[.val .null, .val (.int p1), .val (.int p2), .unset] [])) _
    refine XS.aloadN X0.here hx rfl (hb hby d1_0) rfl rfl ?_
    show Steps p.tables e below (s₁.setTop (mkF m 1 #[.val .null, .val (.int p1), .val (.int p2), .unset] [.null])) _
    refine XS.astoreN X0.here hx rfl (hb hby d1_1) rfl rfl (l' := #[.val .null, .val (.int p1), .val (.int p2), .val .null]) rfl ?_
    show Steps p.tables e below (s₁.setTop (mkF m 2 #[.val .null, .val (.int p1), .val (.int p2), .val .null] [])) _
    refine XS.aloadN X0.here hx rfl (hb hby d1_2) rfl rfl ?_
    show Steps p.tables e below (s₁.setTop (mkF m 3 #[.val .null, .val (.int p1), .val (.int p2), .val .null] [.null])) _
    refine XS.ifnonnullNo X0.here hx rfl (hb hby d1_3) rfl ?_
    show Steps p.tables e below (s₁.setTop (mkF m 6 #[.val .null, .val (.int p1), .val (.int p2), .val .null] [])) _
    refine XS.iloadN X0.here hx rfl (hb hby d1_6) rfl ?_
    exact kt)
  obtain ⟨T2, h2, k2, X2, e2, E2, A2, st2⟩ := newP X0 hx hZ (hw _ (List.mem_of_getElem? (i := 0) rfl)) e0 (g := (mkF m 7 #[.val .null, .val (.int p1), .val (.int p2), .val .null] [(.int p2)])) rfl (hb hby d1_7) rfl hn0 (cap := 256) hcap (by decide) (by decide) (by decide)
  obtain ⟨b2, g2⟩ : ∃ z, z = h0.size := ⟨_, rfl⟩
  rw [← g2] at A2 st2
  have pre3 : ∀ t, Steps p.tables e below (T2.setTop (mkF m 9 #[.val .null, .val (.int p1), .val (.int p2), .val .null] [(.ref b2)])) t → Steps p.tables e below (s₁.setTop (entryFrame m #[.null, (.int p1), (.int p2)] 4)) t := fun t kt => pre1 t (st2 _ kt)
  have gn2 : n0 ≤ b2 := Nat.le_trans Z0 (Nat.le_of_eq g2.symm)
  have sz2 : h0.size ≤ b2 := Nat.le_trans K0.1 (Nat.le_of_eq g2.symm)
  have K2 : Keep h0 h2 [] := K0.ext E2
  have Z2 : n0 ≤ h2.size := Nat.le_trans Z0 E2.1
  have V2 : Arh Z h2 b2 k2 .boolean p2 [] [] (.int (0 : Int32)) := (Arv.new A2 hn0).arh
  have pre4 : ∀ t, Steps p.tables e below (T2.setTop (mkF m 13 #[.val .null, .val (.int p1), .val (.int p2), .val (.ref b2)] [(.int (1 : Int32)), (.int p1), (.ref b2)])) t → Steps p.tables e below (s₁.setTop (entryFrame m #[.null, (.int p1), (.int p2)] 4)) t := fun t kt => pre3 t (by
    show Steps p.tables e below (T2.setTop (mkF m 9 #[.val .null, .val (.int p1), .val (.int p2), .val .null] [(.ref b2)])) _
    refine XS.astoreN X2.here hx rfl (hb hby d1_9) rfl rfl (l' := #[.val .null, .val (.int p1), .val (.int p2), .val (.ref b2)]) rfl ?_
    show Steps p.tables e below (T2.setTop (mkF m 10 #[.val .null, .val (.int p1), .val (.int p2), .val (.ref b2)] [])) _
    refine XS.aloadN X2.here hx rfl (hb hby d1_10) rfl rfl ?_
    show Steps p.tables e below (T2.setTop (mkF m 11 #[.val .null, .val (.int p1), .val (.int p2), .val (.ref b2)] [(.ref b2)])) _
    refine XS.iloadN X2.here hx rfl (hb hby d1_11) rfl ?_
    show Steps p.tables e below (T2.setTop (mkF m 12 #[.val .null, .val (.int p1), .val (.int p2), .val (.ref b2)] [(.int p1), (.ref b2)])) _
    refine XS.iconst X2.here hx rfl (hb hby d1_12) ?_
    exact kt)
  have tv5 := V2
  obtain ⟨cl5, Ar5, q5, S5, Ng5, H5, G5⟩ := tv5
  have hin5 : ¬ (p1 < 0 ∨ cl5.slots.size ≤ (p1).toNatClampNeg) := inb_of S5 hpi
  obtain ⟨T6, h6, X6, e6, W6, st6⟩ := stZ X2 hx hZ e2 Ar5 (j := p1) hin5 (g := (mkF m 13 #[.val .null, .val (.int p1), .val (.int p2), .val (.ref b2)] [(.int (1 : Int32)), (.int p1), (.ref b2)])) rfl rfl (hb hby d1_13)
  have pre7 : ∀ t, Steps p.tables e below (T6.setTop (mkF m 14 #[.val .null, .val (.int p1), .val (.int p2), .val (.ref b2)] [])) t → Steps p.tables e below (s₁.setTop (entryFrame m #[.null, (.int p1), (.int p2)] 4)) t := fun t kt => pre4 t (st6 _ kt)
  have V6 : Arh Z h6 b2 k2 .boolean p2 [(p1, (.int (1 : Int32)))] [] (.int (0 : Int32)) := Arh.push Ar5 q5 S5 Ng5 H5 G5 (fits_nar_bool (1 : Int32)) W6 hin5
  have K6 : Keep h0 h6 [] := K2.wr W6 (Or.inr sz2)
  have N6 := Fr.snoc X6 N0 gn2
  have Z6 : n0 ≤ h6.size := Nat.le_trans Z2 (Keep.of_wr W6).1
  have pre8 : ∀ t, Steps p.tables e below (T6.setTop (mkF m 15 #[.val .null, .val (.int p1), .val (.int p2), .val (.ref b2)] [(.ref b2)])) t → Steps p.tables e below (s₁.setTop (entryFrame m #[.null, (.int p1), (.int p2)] 4)) t := fun t kt => pre7 t (by
    show Steps p.tables e below (T6.setTop (mkF m 14 #[.val .null, .val (.int p1), .val (.int p2), .val (.ref b2)] [])) _
    refine XS.aloadN X6.here hx rfl (hb hby d1_14) rfl rfl ?_
    exact kt)
  obtain ⟨fs, hr, hrun, hended, hW, hsame⟩ := X6.leave (v := some (.ref b2)) (fun h => by rw [Bd.returns] at h; cases h)
  refine ⟨_, _, pre8 _ ?_, hrun, hended, _, _, rfl, ?_, ⟨_, rfl⟩, hW, hsame.mono (by decide) (by decide)⟩
  · show Steps p.tables e below (T6.setTop (mkF m 15 #[.val .null, .val (.int p1), .val (.int p2), .val (.ref b2)] [(.ref b2)])) _
    jvm_step X6.here [X6.here.top, hx, (hb hby d1_15), X6.method', Bd.returns, Value.isRef, FieldType.isReference]
    first | (intro acts; rw [hr _ acts rfl rfl rfl]) | rw [hr _ _ rfl rfl rfl]
    exact Steps.refl _
  · show Q1n Z p1 p2 h0 n0 _ T6.heap _
    rw [e6]
    exact ⟨(congrArg (fun z => some (Value.ref z)) g2), N6, K6, by rw [← g2]; exact ⟨_, V6⟩⟩
theorem ef1a (m : MethodId) (x0 : Addr) (x1 : Int32) (x2 : Int32) : entryFrame m #[(.ref x0), (.int x1), (.int x2)] 4 = mkF m 0 #[.val (.ref x0), .val (.int x1), .val (.int x2), .unset] [] := by first | (simp [entryFrame, mkF, argsToLocals, Value.category]; done) | rfl
def Q1a (Z : State) (a0 : Addr) (p1 : Int32) (p2 : Int32) (kk : ClassId) (nn : Int32) (hs : List (Int32 × Value)) (vs : List Value) (h0 : Heap) (n0 : Nat) (v : Option Value) (h : Heap) (L : List Loc) : Prop := v = some (.ref (a0)) ∧ Fr n0 L ∧ Keep h0 h [a0] ∧ Arh Z h a0 kk .boolean nn ((p1, (.int (1 : Int32))) :: hs) vs (.int (0 : Int32))
set_option maxRecDepth 65536 in
set_option maxHeartbeats 40000000 in
theorem rm1a (l : Launch) (Z : State) (av : Array Value) (hw : ∀ d ∈ tables_1, d.before av Z = true) (ws : List Jvm.Cond) (a0 : Addr) (p1 : Int32) (p2 : Int32) (kk : ClassId) (nn : Int32) (hs : List (Int32 × Value)) (vs : List Value) (h0 : Heap) (n0 : Nat) (Z0 : n0 ≤ h0.size) (V0 : Arh Z h0 a0 kk .boolean nn hs vs (.int (0 : Int32))) (hpi : ¬ p1 < 0 ∧ p1 < nn) (g_a0 : n0 ≤ a0) :
    MetFree l (⟨"com/example/baton/baton/support/Skipped", "marked", "([ZII)[Z"⟩ : MethodName) (head1 (Jvm.Cond.code (⟨"com/example/baton/baton/support/Skipped", "marked", "([ZII)[Z"⟩ : MethodName) prog_26_method_2_code 4 (some (.array .boolean)) :: ws) ({ frames := 0, cells := 0, slots := 0, locals := 0 } : Room)) (fun a U => a = #[(.ref a0), (.int p1), (.int p2)] ∧ Z.Warmed39 U.vm ∧ U.heap = h0) (fun _ _ _ _ _ => True) (fun _ U o U' => ∃ v L, o = .returned v ∧ Q1a Z a0 p1 p2 kk nn hs vs h0 n0 v U'.heap L ∧ FrameEnd U o U' L ({ frames := 0, cells := 0, slots := 0, locals := 0 } : Room).cells ({ frames := 0, cells := 0, slots := 0, locals := 0 } : Room).slots) := by
  refine MetFree.of_bodySF (plainFor_of_name pn_com_example_baton_baton_support_Skipped) hisR ?_
  intro p e s m args below meth c s₁ Bd hml0 hP hK
  obtain ⟨rfl, hZ, hh⟩ := hP
  have hx := Bd.exec
  have hby := Bd.bytes
  have hml : c.maxLocals = 4 := hml0
  have hown : s.vm.findClass "com/example/baton/baton/support/Skipped" = some m.cls := findClass_of_methodNamed Bd.named
  have hnm := (name_of_methodNamed Bd.named Bd.method).1
  have X0 : Stand p l e ({ frames := 0, cells := 0, slots := 0, locals := 0 } : Room) s m #[(.ref a0), (.int p1), (.int p2)] below meth c s₁ [] 0 0 := Stand.of_body Bd
  have e0 : s₁.heap = h0 := by rw [← hh, Bd.state]; rfl
  have N0 := Fr.nil n0
  have K0 : Keep h0 h0 [a0] := Keep.refl h0 [a0]
  have pre0 : ∀ t, Steps p.tables e below (s₁.setTop (mkF m 0 #[.val (.ref a0), .val (.int p1), .val (.int p2), .unset] [])) t → Steps p.tables e below (s₁.setTop (entryFrame m #[(.ref a0), (.int p1), (.int p2)] 4)) t := fun t k => castTop (ef1a m a0 p1 p2) k
  have pre1 : ∀ t, Steps p.tables e below (s₁.setTop (mkF m 13 #[.val (.ref a0), .val (.int p1), .val (.int p2), .val (.ref a0)] [(.int (1 : Int32)), (.int p1), (.ref a0)])) t → Steps p.tables e below (s₁.setTop (entryFrame m #[(.ref a0), (.int p1), (.int p2)] 4)) t := fun t kt => pre0 t (by
    show Steps p.tables e below (s₁.setTop (mkF m 0 #[.val (.ref a0), .val (.int p1), .val (.int p2), .unset] [])) _
    refine XS.aloadN X0.here hx rfl (hb hby d1_0) rfl rfl ?_
    show Steps p.tables e below (s₁.setTop (mkF m 1 #[.val (.ref a0), .val (.int p1), .val (.int p2), .unset] [(.ref a0)])) _
    refine XS.astoreN X0.here hx rfl (hb hby d1_1) rfl rfl (l' := #[.val (.ref a0), .val (.int p1), .val (.int p2), .val (.ref a0)]) rfl ?_
    show Steps p.tables e below (s₁.setTop (mkF m 2 #[.val (.ref a0), .val (.int p1), .val (.int p2), .val (.ref a0)] [])) _
    refine XS.aloadN X0.here hx rfl (hb hby d1_2) rfl rfl ?_
    show Steps p.tables e below (s₁.setTop (mkF m 3 #[.val (.ref a0), .val (.int p1), .val (.int p2), .val (.ref a0)] [(.ref a0)])) _
    refine XS.ifnonnullYes X0.here hx rfl (pc0 := 3) (pc' := 10) rfl (hb hby d1_3) rfl (by decide) (by decide) ?_
    show Steps p.tables e below (s₁.setTop (mkF m 10 #[.val (.ref a0), .val (.int p1), .val (.int p2), .val (.ref a0)] [])) _
    refine XS.aloadN X0.here hx rfl (hb hby d1_10) rfl rfl ?_
    show Steps p.tables e below (s₁.setTop (mkF m 11 #[.val (.ref a0), .val (.int p1), .val (.int p2), .val (.ref a0)] [(.ref a0)])) _
    refine XS.iloadN X0.here hx rfl (hb hby d1_11) rfl ?_
    show Steps p.tables e below (s₁.setTop (mkF m 12 #[.val (.ref a0), .val (.int p1), .val (.int p2), .val (.ref a0)] [(.int p1), (.ref a0)])) _
    refine XS.iconst X0.here hx rfl (hb hby d1_12) ?_
    exact kt)
  have tv2 := V0
  obtain ⟨cl2, Ar2, q2, S2, Ng2, H2, G2⟩ := tv2
  have hin2 : ¬ (p1 < 0 ∨ cl2.slots.size ≤ (p1).toNatClampNeg) := inb_of S2 hpi
  obtain ⟨T3, h3, X3, e3, W3, st3⟩ := stZ X0 hx hZ e0 Ar2 (j := p1) hin2 (g := (mkF m 13 #[.val (.ref a0), .val (.int p1), .val (.int p2), .val (.ref a0)] [(.int (1 : Int32)), (.int p1), (.ref a0)])) rfl rfl (hb hby d1_13)
  have pre4 : ∀ t, Steps p.tables e below (T3.setTop (mkF m 14 #[.val (.ref a0), .val (.int p1), .val (.int p2), .val (.ref a0)] [])) t → Steps p.tables e below (s₁.setTop (entryFrame m #[(.ref a0), (.int p1), (.int p2)] 4)) t := fun t kt => pre1 t (st3 _ kt)
  have V3 : Arh Z h3 a0 kk .boolean nn ((p1, (.int (1 : Int32))) :: hs) vs (.int (0 : Int32)) := Arh.push Ar2 q2 S2 Ng2 H2 G2 (fits_nar_bool (1 : Int32)) W3 hin2
  have K3 : Keep h0 h3 [a0] := K0.wr W3 (Or.inl (List.mem_of_getElem? (i := 0) rfl))
  have N3 := Fr.snoc X3 N0 g_a0
  have Z3 : n0 ≤ h3.size := Nat.le_trans Z0 (Keep.of_wr W3).1
  have pre5 : ∀ t, Steps p.tables e below (T3.setTop (mkF m 15 #[.val (.ref a0), .val (.int p1), .val (.int p2), .val (.ref a0)] [(.ref a0)])) t → Steps p.tables e below (s₁.setTop (entryFrame m #[(.ref a0), (.int p1), (.int p2)] 4)) t := fun t kt => pre4 t (by
    show Steps p.tables e below (T3.setTop (mkF m 14 #[.val (.ref a0), .val (.int p1), .val (.int p2), .val (.ref a0)] [])) _
    refine XS.aloadN X3.here hx rfl (hb hby d1_14) rfl rfl ?_
    exact kt)
  obtain ⟨fs, hr, hrun, hended, hW, hsame⟩ := X3.leave (v := some (.ref a0)) (fun h => by rw [Bd.returns] at h; cases h)
  refine ⟨_, _, pre5 _ ?_, hrun, hended, _, _, rfl, ?_, ⟨_, rfl⟩, hW, hsame.mono (by decide) (by decide)⟩
  · show Steps p.tables e below (T3.setTop (mkF m 15 #[.val (.ref a0), .val (.int p1), .val (.int p2), .val (.ref a0)] [(.ref a0)])) _
    jvm_step X3.here [X3.here.top, hx, (hb hby d1_15), X3.method', Bd.returns, Value.isRef, FieldType.isReference]
    first | (intro acts; rw [hr _ acts rfl rfl rfl]) | rw [hr _ _ rfl rfl rfl]
    exact Steps.refl _
  · show Q1a Z a0 p1 p2 kk nn hs vs h0 n0 _ T3.heap _
    rw [e3]
    exact ⟨rfl, N3, K3, V3⟩
theorem d2_0 : decode method_3_code 0 = .ok (.iload_n 2, 1) := by decide +kernel
theorem d2_1 : decode method_3_code 1 = .ok (.iload_n 1, 1) := by decide +kernel
theorem d2_2 : decode method_3_code 2 = .ok (.ishr, 1) := by decide +kernel
theorem d2_3 : decode method_3_code 3 = .ok (.iconst 1, 1) := by decide +kernel
theorem d2_4 : decode method_3_code 4 = .ok (.iand, 1) := by decide +kernel
theorem d2_5 : decode method_3_code 5 = .ok (.ifCond .ne 8, 3) := by decide +kernel
theorem d2_8 : decode method_3_code 8 = .ok (.iload_n 1, 1) := by decide +kernel
theorem d2_9 : decode method_3_code 9 = .ok (.iload_n 3, 1) := by decide +kernel
theorem d2_10 : decode method_3_code 10 = .ok (.if_icmp .ne 7, 3) := by decide +kernel
theorem d2_13 : decode method_3_code 13 = .ok (.iconst 1, 1) := by decide +kernel
theorem d2_14 : decode method_3_code 14 = .ok (.goto 4, 3) := by decide +kernel
theorem d2_18 : decode method_3_code 18 = .ok (.istore 4, 2) := by decide +kernel
theorem d2_20 : decode method_3_code 20 = .ok (.aload_n 0, 1) := by decide +kernel
theorem d2_21 : decode method_3_code 21 = .ok (.iload_n 1, 1) := by decide +kernel
theorem d2_22 : decode method_3_code 22 = .ok (.baload, 1) := by decide +kernel
theorem d2_23 : decode method_3_code 23 = .ok (.iload 4, 2) := by decide +kernel
theorem d2_25 : decode method_3_code 25 = .ok (.if_icmp .ne 7, 3) := by decide +kernel
theorem d2_28 : decode method_3_code 28 = .ok (.iconst 1, 1) := by decide +kernel
theorem d2_29 : decode method_3_code 29 = .ok (.goto 4, 3) := by decide +kernel
theorem d2_33 : decode method_3_code 33 = .ok (.ireturn, 1) := by decide +kernel
theorem d2_17 : decode method_3_code 17 = .ok (.iconst 0, 1) := by decide +kernel
theorem ef2 (m : MethodId) (x0 : Addr) (x1 : Int32) (x2 : Int32) (x3 : Int32) : entryFrame m #[(.ref x0), (.int x1), (.int x2), (.int x3)] 5 = mkF m 0 #[.val (.ref x0), .val (.int x1), .val (.int x2), .val (.int x3), .unset] [] := by first | (simp [entryFrame, mkF, argsToLocals, Value.category]; done) | rfl
def Q2 (Z : State) (a0 : Addr) (p1 : Int32) (p2 : Int32) (p3 : Int32) (cl0 : Cell) (bb : Int32) (h0 : Heap) (n0 : Nat) (v : Option Value) (h : Heap) (L : List Loc) : Prop := v = some (.int ((1 : Int32))) ∧ Fr n0 L ∧ h = h0
set_option maxRecDepth 65536 in
set_option maxHeartbeats 40000000 in
theorem rm2 (l : Launch) (Z : State) (av : Array Value) (hw : ∀ d ∈ tables_1, d.before av Z = true) (ws : List Jvm.Cond) (a0 : Addr) (p1 : Int32) (p2 : Int32) (p3 : Int32) (cl0 : Cell) (bb : Int32) (h0 : Heap) (n0 : Nat) (Z0 : n0 ≤ h0.size) (Ar0 : Arr Z h0 a0 cl0 .boolean) (hin0 : ¬ (p1 < 0 ∨ cl0.slots.size ≤ p1.toNatClampNeg)) (hat0 : cl0.slots[p1.toNatClampNeg]? = some (.int bb)) (hbb : bb = if ((p2 >>> (p1 &&& 31)) &&& (1 : Int32)) = (0 : Int32) then (if p1 = p3 then (1 : Int32) else (0 : Int32)) else (1 : Int32)) :
    MetFree l (⟨"com/example/baton/baton/support/SkippedMarkedPinLaw", "kept", "([ZIII)Z"⟩ : MethodName) (head1 (Jvm.Cond.code (⟨"com/example/baton/baton/support/SkippedMarkedPinLaw", "kept", "([ZIII)Z"⟩ : MethodName) method_3_code 5 (some .boolean) :: ws) ({ frames := 0, cells := 0, slots := 0, locals := 0 } : Room)) (fun a U => a = #[(.ref a0), (.int p1), (.int p2), (.int p3)] ∧ Z.Warmed39 U.vm ∧ U.heap = h0) (fun _ _ _ _ _ => True) (fun _ U o U' => ∃ v L, o = .returned v ∧ Q2 Z a0 p1 p2 p3 cl0 bb h0 n0 v U'.heap L ∧ FrameEnd U o U' L ({ frames := 0, cells := 0, slots := 0, locals := 0 } : Room).cells ({ frames := 0, cells := 0, slots := 0, locals := 0 } : Room).slots) := by
  refine MetFree.of_bodySF (plainFor_of_name pn_com_example_baton_baton_support_SkippedMarkedPinLaw) hisR ?_
  intro p e s m args below meth c s₁ Bd hml0 hP hK
  obtain ⟨rfl, hZ, hh⟩ := hP
  have hx := Bd.exec
  have hby := Bd.bytes
  have hml : c.maxLocals = 5 := hml0
  have hown : s.vm.findClass "com/example/baton/baton/support/SkippedMarkedPinLaw" = some m.cls := findClass_of_methodNamed Bd.named
  have hnm := (name_of_methodNamed Bd.named Bd.method).1
  have X0 : Stand p l e ({ frames := 0, cells := 0, slots := 0, locals := 0 } : Room) s m #[(.ref a0), (.int p1), (.int p2), (.int p3)] below meth c s₁ [] 0 0 := Stand.of_body Bd
  have e0 : s₁.heap = h0 := by rw [← hh, Bd.state]; rfl
  have N0 := Fr.nil n0
  have K0 : Keep h0 h0 [] := Keep.refl h0 []
  have pre0 : ∀ t, Steps p.tables e below (s₁.setTop (mkF m 0 #[.val (.ref a0), .val (.int p1), .val (.int p2), .val (.int p3), .unset] [])) t → Steps p.tables e below (s₁.setTop (entryFrame m #[(.ref a0), (.int p1), (.int p2), (.int p3)] 5)) t := fun t k => castTop (ef2 m a0 p1 p2 p3) k
  have pre1 : ∀ t, Steps p.tables e below (s₁.setTop (mkF m 5 #[.val (.ref a0), .val (.int p1), .val (.int p2), .val (.int p3), .unset] [(.int ((p2 >>> (p1 &&& 31)) &&& (1 : Int32)))])) t → Steps p.tables e below (s₁.setTop (entryFrame m #[(.ref a0), (.int p1), (.int p2), (.int p3)] 5)) t := fun t kt => pre0 t (by
    show Steps p.tables e below (s₁.setTop (mkF m 0 #[.val (.ref a0), .val (.int p1), .val (.int p2), .val (.int p3), .unset] [])) _
    refine XS.iloadN X0.here hx rfl (hb hby d2_0) rfl ?_
    show Steps p.tables e below (s₁.setTop (mkF m 1 #[.val (.ref a0), .val (.int p1), .val (.int p2), .val (.int p3), .unset] [(.int p2)])) _
    refine XS.iloadN X0.here hx rfl (hb hby d2_1) rfl ?_
    show Steps p.tables e below (s₁.setTop (mkF m 2 #[.val (.ref a0), .val (.int p1), .val (.int p2), .val (.int p3), .unset] [(.int p1), (.int p2)])) _
    refine XS.ishr X0.here hx rfl (hb hby d2_2) rfl ?_
    show Steps p.tables e below (s₁.setTop (mkF m 3 #[.val (.ref a0), .val (.int p1), .val (.int p2), .val (.int p3), .unset] [(.int (p2 >>> (p1 &&& 31)))])) _
    refine XS.iconst X0.here hx rfl (hb hby d2_3) ?_
    show Steps p.tables e below (s₁.setTop (mkF m 4 #[.val (.ref a0), .val (.int p1), .val (.int p2), .val (.int p3), .unset] [(.int (1 : Int32)), (.int (p2 >>> (p1 &&& 31)))])) _
    refine XS.iand X0.here hx rfl (hb hby d2_4) rfl ?_
    exact kt)
  by_cases hc5_2 : ((p2 >>> (p1 &&& 31)) &&& (1 : Int32)) = (0 : Int32)
  · have pre3 : ∀ t, Steps p.tables e below (s₁.setTop (mkF m 10 #[.val (.ref a0), .val (.int p1), .val (.int p2), .val (.int p3), .unset] [(.int p3), (.int p1)])) t → Steps p.tables e below (s₁.setTop (entryFrame m #[(.ref a0), (.int p1), (.int p2), (.int p3)] 5)) t := fun t kt => pre1 t (by
      show Steps p.tables e below (s₁.setTop (mkF m 5 #[.val (.ref a0), .val (.int p1), .val (.int p2), .val (.int p3), .unset] [(.int ((p2 >>> (p1 &&& 31)) &&& (1 : Int32)))])) _
      refine XS.ifNo X0.here hx rfl (hb hby d2_5) rfl ((if0 _ _).trans (teq hc5_2).2) ?_
      show Steps p.tables e below (s₁.setTop (mkF m 8 #[.val (.ref a0), .val (.int p1), .val (.int p2), .val (.int p3), .unset] [])) _
      refine XS.iloadN X0.here hx rfl (hb hby d2_8) rfl ?_
      show Steps p.tables e below (s₁.setTop (mkF m 9 #[.val (.ref a0), .val (.int p1), .val (.int p2), .val (.int p3), .unset] [(.int p1)])) _
      refine XS.iloadN X0.here hx rfl (hb hby d2_9) rfl ?_
      exact kt)
    by_cases hc10_4 : p1 = p3
    · have pre5 : ∀ t, Steps p.tables e below (s₁.setTop (mkF m 22 #[.val (.ref a0), .val (.int p1), .val (.int p2), .val (.int p3), .val (.int (1 : Int32))] [(.int p1), (.ref a0)])) t → Steps p.tables e below (s₁.setTop (entryFrame m #[(.ref a0), (.int p1), (.int p2), (.int p3)] 5)) t := fun t kt => pre3 t (by
        show Steps p.tables e below (s₁.setTop (mkF m 10 #[.val (.ref a0), .val (.int p1), .val (.int p2), .val (.int p3), .unset] [(.int p3), (.int p1)])) _
        refine XS.icmpNo X0.here hx rfl (hb hby d2_10) rfl (teq hc10_4).2 ?_
        show Steps p.tables e below (s₁.setTop (mkF m 13 #[.val (.ref a0), .val (.int p1), .val (.int p2), .val (.int p3), .unset] [])) _
        refine XS.iconst X0.here hx rfl (hb hby d2_13) ?_
        show Steps p.tables e below (s₁.setTop (mkF m 14 #[.val (.ref a0), .val (.int p1), .val (.int p2), .val (.int p3), .unset] [(.int (1 : Int32))])) _
        refine XS.goto X0.here hx rfl (pc0 := 14) (pc' := 18) rfl (hb hby d2_14) (by decide) (by decide) ?_
        show Steps p.tables e below (s₁.setTop (mkF m 18 #[.val (.ref a0), .val (.int p1), .val (.int p2), .val (.int p3), .unset] [(.int (1 : Int32))])) _
        refine XS.istore X0.here hx rfl (hb hby d2_18) rfl (l' := #[.val (.ref a0), .val (.int p1), .val (.int p2), .val (.int p3), .val (.int (1 : Int32))]) rfl ?_
        show Steps p.tables e below (s₁.setTop (mkF m 20 #[.val (.ref a0), .val (.int p1), .val (.int p2), .val (.int p3), .val (.int (1 : Int32))] [])) _
        refine XS.aloadN X0.here hx rfl (hb hby d2_20) rfl rfl ?_
        show Steps p.tables e below (s₁.setTop (mkF m 21 #[.val (.ref a0), .val (.int p1), .val (.int p2), .val (.int p3), .val (.int (1 : Int32))] [(.ref a0)])) _
        refine XS.iloadN X0.here hx rfl (hb hby d2_21) rfl ?_
        exact kt)
      have pre6 : ∀ t, Steps p.tables e below (s₁.setTop (mkF m 33 #[.val (.ref a0), .val (.int p1), .val (.int p2), .val (.int p3), .val (.int (1 : Int32))] [(.int (1 : Int32))])) t → Steps p.tables e below (s₁.setTop (entryFrame m #[(.ref a0), (.int p1), (.int p2), (.int p3)] 5)) t := fun t kt => pre5 t (by
        show Steps p.tables e below (s₁.setTop (mkF m 22 #[.val (.ref a0), .val (.int p1), .val (.int p2), .val (.int p3), .val (.int (1 : Int32))] [(.int p1), (.ref a0)])) _
        refine X0.baloadBooleans hx (j := p1) (v := (.int bb)) (by rw [e0]; exact Ar0.1) (State.isArrayOf_alike hZ.alike Ar0.2.1) Ar0.2.2 hin0 hat0 (g := (mkF m 22 #[.val (.ref a0), .val (.int p1), .val (.int p2), .val (.int p3), .val (.int (1 : Int32))] [(.int p1), (.ref a0)])) rfl rfl (hb hby d2_22) _ ?_
        show Steps p.tables e below (s₁.setTop (mkF m 23 #[.val (.ref a0), .val (.int p1), .val (.int p2), .val (.int p3), .val (.int (1 : Int32))] [(.int bb)])) _
        refine XS.iload X0.here hx rfl (hb hby d2_23) rfl ?_
        show Steps p.tables e below (s₁.setTop (mkF m 25 #[.val (.ref a0), .val (.int p1), .val (.int p2), .val (.int p3), .val (.int (1 : Int32))] [(.int (1 : Int32)), (.int bb)])) _
        refine XS.icmpNo X0.here hx rfl (hb hby d2_25) rfl (teq (by rw [hbb, if_pos hc5_2, if_pos hc10_4] : bb = (1 : Int32))).2 ?_
        show Steps p.tables e below (s₁.setTop (mkF m 28 #[.val (.ref a0), .val (.int p1), .val (.int p2), .val (.int p3), .val (.int (1 : Int32))] [])) _
        refine XS.iconst X0.here hx rfl (hb hby d2_28) ?_
        show Steps p.tables e below (s₁.setTop (mkF m 29 #[.val (.ref a0), .val (.int p1), .val (.int p2), .val (.int p3), .val (.int (1 : Int32))] [(.int (1 : Int32))])) _
        refine XS.goto X0.here hx rfl (pc0 := 29) (pc' := 33) rfl (hb hby d2_29) (by decide) (by decide) ?_
        exact kt)
      obtain ⟨fs, hr, hrun, hended, hW, hsame⟩ := X0.leave (v := some (.int (1 : Int32))) (fun h => by rw [Bd.returns] at h; cases h)
      refine ⟨_, _, pre6 _ ?_, hrun, hended, _, _, rfl, ?_, ⟨_, rfl⟩, hW, hsame.mono (by decide) (by decide)⟩
      · show Steps p.tables e below (s₁.setTop (mkF m 33 #[.val (.ref a0), .val (.int p1), .val (.int p2), .val (.int p3), .val (.int (1 : Int32))] [(.int (1 : Int32))])) _
        exact retN X0 hx (t := .boolean) Bd.returns (by simp) (hb hby d2_33) hr
      · show Q2 Z a0 p1 p2 p3 cl0 bb h0 n0 _ s₁.heap _
        rw [e0]
        exact ⟨rfl, N0, rfl⟩
    · have pre7 : ∀ t, Steps p.tables e below (s₁.setTop (mkF m 22 #[.val (.ref a0), .val (.int p1), .val (.int p2), .val (.int p3), .val (.int (0 : Int32))] [(.int p1), (.ref a0)])) t → Steps p.tables e below (s₁.setTop (entryFrame m #[(.ref a0), (.int p1), (.int p2), (.int p3)] 5)) t := fun t kt => pre3 t (by
        show Steps p.tables e below (s₁.setTop (mkF m 10 #[.val (.ref a0), .val (.int p1), .val (.int p2), .val (.int p3), .unset] [(.int p3), (.int p1)])) _
        refine XS.icmpYes X0.here hx rfl (pc0 := 10) (pc' := 17) rfl (hb hby d2_10) rfl (feq hc10_4).2 (by decide) (by decide) ?_
        show Steps p.tables e below (s₁.setTop (mkF m 17 #[.val (.ref a0), .val (.int p1), .val (.int p2), .val (.int p3), .unset] [])) _
        refine XS.iconst X0.here hx rfl (hb hby d2_17) ?_
        show Steps p.tables e below (s₁.setTop (mkF m 18 #[.val (.ref a0), .val (.int p1), .val (.int p2), .val (.int p3), .unset] [(.int (0 : Int32))])) _
        refine XS.istore X0.here hx rfl (hb hby d2_18) rfl (l' := #[.val (.ref a0), .val (.int p1), .val (.int p2), .val (.int p3), .val (.int (0 : Int32))]) rfl ?_
        show Steps p.tables e below (s₁.setTop (mkF m 20 #[.val (.ref a0), .val (.int p1), .val (.int p2), .val (.int p3), .val (.int (0 : Int32))] [])) _
        refine XS.aloadN X0.here hx rfl (hb hby d2_20) rfl rfl ?_
        show Steps p.tables e below (s₁.setTop (mkF m 21 #[.val (.ref a0), .val (.int p1), .val (.int p2), .val (.int p3), .val (.int (0 : Int32))] [(.ref a0)])) _
        refine XS.iloadN X0.here hx rfl (hb hby d2_21) rfl ?_
        exact kt)
      have pre8 : ∀ t, Steps p.tables e below (s₁.setTop (mkF m 33 #[.val (.ref a0), .val (.int p1), .val (.int p2), .val (.int p3), .val (.int (0 : Int32))] [(.int (1 : Int32))])) t → Steps p.tables e below (s₁.setTop (entryFrame m #[(.ref a0), (.int p1), (.int p2), (.int p3)] 5)) t := fun t kt => pre7 t (by
        show Steps p.tables e below (s₁.setTop (mkF m 22 #[.val (.ref a0), .val (.int p1), .val (.int p2), .val (.int p3), .val (.int (0 : Int32))] [(.int p1), (.ref a0)])) _
        refine X0.baloadBooleans hx (j := p1) (v := (.int bb)) (by rw [e0]; exact Ar0.1) (State.isArrayOf_alike hZ.alike Ar0.2.1) Ar0.2.2 hin0 hat0 (g := (mkF m 22 #[.val (.ref a0), .val (.int p1), .val (.int p2), .val (.int p3), .val (.int (0 : Int32))] [(.int p1), (.ref a0)])) rfl rfl (hb hby d2_22) _ ?_
        show Steps p.tables e below (s₁.setTop (mkF m 23 #[.val (.ref a0), .val (.int p1), .val (.int p2), .val (.int p3), .val (.int (0 : Int32))] [(.int bb)])) _
        refine XS.iload X0.here hx rfl (hb hby d2_23) rfl ?_
        show Steps p.tables e below (s₁.setTop (mkF m 25 #[.val (.ref a0), .val (.int p1), .val (.int p2), .val (.int p3), .val (.int (0 : Int32))] [(.int (0 : Int32)), (.int bb)])) _
        refine XS.icmpNo X0.here hx rfl (hb hby d2_25) rfl (teq (by rw [hbb, if_pos hc5_2, if_neg hc10_4] : bb = (0 : Int32))).2 ?_
        show Steps p.tables e below (s₁.setTop (mkF m 28 #[.val (.ref a0), .val (.int p1), .val (.int p2), .val (.int p3), .val (.int (0 : Int32))] [])) _
        refine XS.iconst X0.here hx rfl (hb hby d2_28) ?_
        show Steps p.tables e below (s₁.setTop (mkF m 29 #[.val (.ref a0), .val (.int p1), .val (.int p2), .val (.int p3), .val (.int (0 : Int32))] [(.int (1 : Int32))])) _
        refine XS.goto X0.here hx rfl (pc0 := 29) (pc' := 33) rfl (hb hby d2_29) (by decide) (by decide) ?_
        exact kt)
      obtain ⟨fs, hr, hrun, hended, hW, hsame⟩ := X0.leave (v := some (.int (1 : Int32))) (fun h => by rw [Bd.returns] at h; cases h)
      refine ⟨_, _, pre8 _ ?_, hrun, hended, _, _, rfl, ?_, ⟨_, rfl⟩, hW, hsame.mono (by decide) (by decide)⟩
      · show Steps p.tables e below (s₁.setTop (mkF m 33 #[.val (.ref a0), .val (.int p1), .val (.int p2), .val (.int p3), .val (.int (0 : Int32))] [(.int (1 : Int32))])) _
        exact retN X0 hx (t := .boolean) Bd.returns (by simp) (hb hby d2_33) hr
      · show Q2 Z a0 p1 p2 p3 cl0 bb h0 n0 _ s₁.heap _
        rw [e0]
        exact ⟨rfl, N0, rfl⟩
  · have pre9 : ∀ t, Steps p.tables e below (s₁.setTop (mkF m 22 #[.val (.ref a0), .val (.int p1), .val (.int p2), .val (.int p3), .val (.int (1 : Int32))] [(.int p1), (.ref a0)])) t → Steps p.tables e below (s₁.setTop (entryFrame m #[(.ref a0), (.int p1), (.int p2), (.int p3)] 5)) t := fun t kt => pre1 t (by
      show Steps p.tables e below (s₁.setTop (mkF m 5 #[.val (.ref a0), .val (.int p1), .val (.int p2), .val (.int p3), .unset] [(.int ((p2 >>> (p1 &&& 31)) &&& (1 : Int32)))])) _
      refine XS.ifYes X0.here hx rfl (pc0 := 5) (pc' := 13) rfl (hb hby d2_5) rfl ((if0 _ _).trans (feq hc5_2).2) (by decide) (by decide) ?_
      show Steps p.tables e below (s₁.setTop (mkF m 13 #[.val (.ref a0), .val (.int p1), .val (.int p2), .val (.int p3), .unset] [])) _
      refine XS.iconst X0.here hx rfl (hb hby d2_13) ?_
      show Steps p.tables e below (s₁.setTop (mkF m 14 #[.val (.ref a0), .val (.int p1), .val (.int p2), .val (.int p3), .unset] [(.int (1 : Int32))])) _
      refine XS.goto X0.here hx rfl (pc0 := 14) (pc' := 18) rfl (hb hby d2_14) (by decide) (by decide) ?_
      show Steps p.tables e below (s₁.setTop (mkF m 18 #[.val (.ref a0), .val (.int p1), .val (.int p2), .val (.int p3), .unset] [(.int (1 : Int32))])) _
      refine XS.istore X0.here hx rfl (hb hby d2_18) rfl (l' := #[.val (.ref a0), .val (.int p1), .val (.int p2), .val (.int p3), .val (.int (1 : Int32))]) rfl ?_
      show Steps p.tables e below (s₁.setTop (mkF m 20 #[.val (.ref a0), .val (.int p1), .val (.int p2), .val (.int p3), .val (.int (1 : Int32))] [])) _
      refine XS.aloadN X0.here hx rfl (hb hby d2_20) rfl rfl ?_
      show Steps p.tables e below (s₁.setTop (mkF m 21 #[.val (.ref a0), .val (.int p1), .val (.int p2), .val (.int p3), .val (.int (1 : Int32))] [(.ref a0)])) _
      refine XS.iloadN X0.here hx rfl (hb hby d2_21) rfl ?_
      exact kt)
    have pre10 : ∀ t, Steps p.tables e below (s₁.setTop (mkF m 33 #[.val (.ref a0), .val (.int p1), .val (.int p2), .val (.int p3), .val (.int (1 : Int32))] [(.int (1 : Int32))])) t → Steps p.tables e below (s₁.setTop (entryFrame m #[(.ref a0), (.int p1), (.int p2), (.int p3)] 5)) t := fun t kt => pre9 t (by
      show Steps p.tables e below (s₁.setTop (mkF m 22 #[.val (.ref a0), .val (.int p1), .val (.int p2), .val (.int p3), .val (.int (1 : Int32))] [(.int p1), (.ref a0)])) _
      refine X0.baloadBooleans hx (j := p1) (v := (.int bb)) (by rw [e0]; exact Ar0.1) (State.isArrayOf_alike hZ.alike Ar0.2.1) Ar0.2.2 hin0 hat0 (g := (mkF m 22 #[.val (.ref a0), .val (.int p1), .val (.int p2), .val (.int p3), .val (.int (1 : Int32))] [(.int p1), (.ref a0)])) rfl rfl (hb hby d2_22) _ ?_
      show Steps p.tables e below (s₁.setTop (mkF m 23 #[.val (.ref a0), .val (.int p1), .val (.int p2), .val (.int p3), .val (.int (1 : Int32))] [(.int bb)])) _
      refine XS.iload X0.here hx rfl (hb hby d2_23) rfl ?_
      show Steps p.tables e below (s₁.setTop (mkF m 25 #[.val (.ref a0), .val (.int p1), .val (.int p2), .val (.int p3), .val (.int (1 : Int32))] [(.int (1 : Int32)), (.int bb)])) _
      refine XS.icmpNo X0.here hx rfl (hb hby d2_25) rfl (teq (by rw [hbb, if_neg hc5_2] : bb = (1 : Int32))).2 ?_
      show Steps p.tables e below (s₁.setTop (mkF m 28 #[.val (.ref a0), .val (.int p1), .val (.int p2), .val (.int p3), .val (.int (1 : Int32))] [])) _
      refine XS.iconst X0.here hx rfl (hb hby d2_28) ?_
      show Steps p.tables e below (s₁.setTop (mkF m 29 #[.val (.ref a0), .val (.int p1), .val (.int p2), .val (.int p3), .val (.int (1 : Int32))] [(.int (1 : Int32))])) _
      refine XS.goto X0.here hx rfl (pc0 := 29) (pc' := 33) rfl (hb hby d2_29) (by decide) (by decide) ?_
      exact kt)
    obtain ⟨fs, hr, hrun, hended, hW, hsame⟩ := X0.leave (v := some (.int (1 : Int32))) (fun h => by rw [Bd.returns] at h; cases h)
    refine ⟨_, _, pre10 _ ?_, hrun, hended, _, _, rfl, ?_, ⟨_, rfl⟩, hW, hsame.mono (by decide) (by decide)⟩
    · show Steps p.tables e below (s₁.setTop (mkF m 33 #[.val (.ref a0), .val (.int p1), .val (.int p2), .val (.int p3), .val (.int (1 : Int32))] [(.int (1 : Int32))])) _
      exact retN X0 hx (t := .boolean) Bd.returns (by simp) (hb hby d2_33) hr
    · show Q2 Z a0 p1 p2 p3 cl0 bb h0 n0 _ s₁.heap _
      rw [e0]
      exact ⟨rfl, N0, rfl⟩
theorem d3_0 : decode method_2_code 0 = .ok (.iload_n 1, 1) := by decide +kernel
theorem d3_1 : decode method_2_code 1 = .ok (.ifCond .lt 9, 3) := by decide +kernel
theorem d3_10 : decode method_2_code 10 = .ok (.iconst 1, 1) := by decide +kernel
theorem d3_11 : decode method_2_code 11 = .ok (.ireturn, 1) := by decide +kernel
theorem d3_4 : decode method_2_code 4 = .ok (.iload_n 1, 1) := by decide +kernel
theorem d3_5 : decode method_2_code 5 = .ok (.aload_n 0, 1) := by decide +kernel
theorem d3_6 : decode method_2_code 6 = .ok (.arraylength, 1) := by decide +kernel
theorem d3_7 : decode method_2_code 7 = .ok (.if_icmp .lt 5, 3) := by decide +kernel
theorem d3_12 : decode method_2_code 12 = .ok (.aload_n 0, 1) := by decide +kernel
theorem d3_13 : decode method_2_code 13 = .ok (.iload_n 1, 1) := by decide +kernel
theorem d3_14 : decode method_2_code 14 = .ok (.baload, 1) := by decide +kernel
theorem d3_15 : decode method_2_code 15 = .ok (.iload_n 1, 1) := by decide +kernel
theorem d3_16 : decode method_2_code 16 = .ok (.iload_n 2, 1) := by decide +kernel
theorem d3_17 : decode method_2_code 17 = .ok (.if_icmp .ne 7, 3) := by decide +kernel
theorem d3_20 : decode method_2_code 20 = .ok (.iconst 1, 1) := by decide +kernel
theorem d3_21 : decode method_2_code 21 = .ok (.goto 4, 3) := by decide +kernel
theorem d3_25 : decode method_2_code 25 = .ok (.if_icmp .ne 7, 3) := by decide +kernel
theorem d3_28 : decode method_2_code 28 = .ok (.iconst 1, 1) := by decide +kernel
theorem d3_29 : decode method_2_code 29 = .ok (.goto 4, 3) := by decide +kernel
theorem d3_33 : decode method_2_code 33 = .ok (.ireturn, 1) := by decide +kernel
theorem d3_24 : decode method_2_code 24 = .ok (.iconst 0, 1) := by decide +kernel
theorem ef3 (m : MethodId) (x0 : Addr) (x1 : Int32) (x2 : Int32) : entryFrame m #[(.ref x0), (.int x1), (.int x2)] 3 = mkF m 0 #[.val (.ref x0), .val (.int x1), .val (.int x2)] [] := by first | (simp [entryFrame, mkF, argsToLocals, Value.category]; done) | rfl
def Q3 (Z : State) (a0 : Addr) (p1 : Int32) (p2 : Int32) (kk : ClassId) (nn : Int32) (h0 : Heap) (n0 : Nat) (v : Option Value) (h : Heap) (L : List Loc) : Prop := v = some (.int ((1 : Int32))) ∧ Fr n0 L ∧ h = h0
set_option maxRecDepth 65536 in
set_option maxHeartbeats 40000000 in
theorem rm3 (l : Launch) (Z : State) (av : Array Value) (hw : ∀ d ∈ tables_1, d.before av Z = true) (ws : List Jvm.Cond) (a0 : Addr) (p1 : Int32) (p2 : Int32) (kk : ClassId) (nn : Int32) (h0 : Heap) (n0 : Nat) (Z0 : n0 ≤ h0.size) (V0 : Arh Z h0 a0 kk .boolean nn [(p2, (.int (1 : Int32)))] [] (.int (0 : Int32))) :
    MetFree l (⟨"com/example/baton/baton/support/SkippedMarkedPinLaw", "off", "([ZII)Z"⟩ : MethodName) (head1 (Jvm.Cond.code (⟨"com/example/baton/baton/support/SkippedMarkedPinLaw", "off", "([ZII)Z"⟩ : MethodName) method_2_code 3 (some .boolean) :: ws) ({ frames := 0, cells := 0, slots := 0, locals := 0 } : Room)) (fun a U => a = #[(.ref a0), (.int p1), (.int p2)] ∧ Z.Warmed39 U.vm ∧ U.heap = h0) (fun _ _ _ _ _ => True) (fun _ U o U' => ∃ v L, o = .returned v ∧ Q3 Z a0 p1 p2 kk nn h0 n0 v U'.heap L ∧ FrameEnd U o U' L ({ frames := 0, cells := 0, slots := 0, locals := 0 } : Room).cells ({ frames := 0, cells := 0, slots := 0, locals := 0 } : Room).slots) := by
  refine MetFree.of_bodySF (plainFor_of_name pn_com_example_baton_baton_support_SkippedMarkedPinLaw) hisR ?_
  intro p e s m args below meth c s₁ Bd hml0 hP hK
  obtain ⟨rfl, hZ, hh⟩ := hP
  have hx := Bd.exec
  have hby := Bd.bytes
  have hml : c.maxLocals = 3 := hml0
  have hown : s.vm.findClass "com/example/baton/baton/support/SkippedMarkedPinLaw" = some m.cls := findClass_of_methodNamed Bd.named
  have hnm := (name_of_methodNamed Bd.named Bd.method).1
  have X0 : Stand p l e ({ frames := 0, cells := 0, slots := 0, locals := 0 } : Room) s m #[(.ref a0), (.int p1), (.int p2)] below meth c s₁ [] 0 0 := Stand.of_body Bd
  have e0 : s₁.heap = h0 := by rw [← hh, Bd.state]; rfl
  have N0 := Fr.nil n0
  have K0 : Keep h0 h0 [] := Keep.refl h0 []
  have pre0 : ∀ t, Steps p.tables e below (s₁.setTop (mkF m 0 #[.val (.ref a0), .val (.int p1), .val (.int p2)] [])) t → Steps p.tables e below (s₁.setTop (entryFrame m #[(.ref a0), (.int p1), (.int p2)] 3)) t := fun t k => castTop (ef3 m a0 p1 p2) k
  have pre1 : ∀ t, Steps p.tables e below (s₁.setTop (mkF m 1 #[.val (.ref a0), .val (.int p1), .val (.int p2)] [(.int p1)])) t → Steps p.tables e below (s₁.setTop (entryFrame m #[(.ref a0), (.int p1), (.int p2)] 3)) t := fun t kt => pre0 t (by
    show Steps p.tables e below (s₁.setTop (mkF m 0 #[.val (.ref a0), .val (.int p1), .val (.int p2)] [])) _
    refine XS.iloadN X0.here hx rfl (hb hby d3_0) rfl ?_
    exact kt)
  by_cases hc1_2 : p1 < (0 : Int32)
  · have pre3 : ∀ t, Steps p.tables e below (s₁.setTop (mkF m 11 #[.val (.ref a0), .val (.int p1), .val (.int p2)] [(.int (1 : Int32))])) t → Steps p.tables e below (s₁.setTop (entryFrame m #[(.ref a0), (.int p1), (.int p2)] 3)) t := fun t kt => pre1 t (by
      show Steps p.tables e below (s₁.setTop (mkF m 1 #[.val (.ref a0), .val (.int p1), .val (.int p2)] [(.int p1)])) _
      refine XS.ifYes X0.here hx rfl (pc0 := 1) (pc' := 10) rfl (hb hby d3_1) rfl ((if0 _ _).trans (tlt hc1_2).1) (by decide) (by decide) ?_
      show Steps p.tables e below (s₁.setTop (mkF m 10 #[.val (.ref a0), .val (.int p1), .val (.int p2)] [])) _
      refine XS.iconst X0.here hx rfl (hb hby d3_10) ?_
      exact kt)
    obtain ⟨fs, hr, hrun, hended, hW, hsame⟩ := X0.leave (v := some (.int (1 : Int32))) (fun h => by rw [Bd.returns] at h; cases h)
    refine ⟨_, _, pre3 _ ?_, hrun, hended, _, _, rfl, ?_, ⟨_, rfl⟩, hW, hsame.mono (by decide) (by decide)⟩
    · show Steps p.tables e below (s₁.setTop (mkF m 11 #[.val (.ref a0), .val (.int p1), .val (.int p2)] [(.int (1 : Int32))])) _
      exact retN X0 hx (t := .boolean) Bd.returns (by simp) (hb hby d3_11) hr
    · show Q3 Z a0 p1 p2 kk nn h0 n0 _ s₁.heap _
      rw [e0]
      exact ⟨rfl, N0, rfl⟩
  · have pre4 : ∀ t, Steps p.tables e below (s₁.setTop (mkF m 6 #[.val (.ref a0), .val (.int p1), .val (.int p2)] [(.ref a0), (.int p1)])) t → Steps p.tables e below (s₁.setTop (entryFrame m #[(.ref a0), (.int p1), (.int p2)] 3)) t := fun t kt => pre1 t (by
      show Steps p.tables e below (s₁.setTop (mkF m 1 #[.val (.ref a0), .val (.int p1), .val (.int p2)] [(.int p1)])) _
      refine XS.ifNo X0.here hx rfl (hb hby d3_1) rfl ((if0 _ _).trans (flt hc1_2).1) ?_
      show Steps p.tables e below (s₁.setTop (mkF m 4 #[.val (.ref a0), .val (.int p1), .val (.int p2)] [])) _
      refine XS.iloadN X0.here hx rfl (hb hby d3_4) rfl ?_
      show Steps p.tables e below (s₁.setTop (mkF m 5 #[.val (.ref a0), .val (.int p1), .val (.int p2)] [(.int p1)])) _
      refine XS.aloadN X0.here hx rfl (hb hby d3_5) rfl rfl ?_
      exact kt)
    have tv5 := V0
    obtain ⟨cl5, Ar5, q5, S5, Ng5, H5, G5⟩ := tv5
    have pre6 : ∀ t, Steps p.tables e below (s₁.setTop (mkF m 7 #[.val (.ref a0), .val (.int p1), .val (.int p2)] [(.int nn), (.int p1)])) t → Steps p.tables e below (s₁.setTop (entryFrame m #[(.ref a0), (.int p1), (.int p2)] 3)) t := fun t kt => pre4 t (by
      show Steps p.tables e below (s₁.setTop (mkF m 6 #[.val (.ref a0), .val (.int p1), .val (.int p2)] [(.ref a0), (.int p1)])) _
      refine X0.arraylength hx (by rw [e0]; exact Ar5.1) (State.isArrayOf_alike hZ.alike Ar5.2.1) (g := (mkF m 6 #[.val (.ref a0), .val (.int p1), .val (.int p2)] [(.ref a0), (.int p1)])) rfl rfl (hb hby d3_6) _ ?_
      rw [len_of S5 Ng5]
      exact kt)
    by_cases hc7_7 : p1 < nn
    · have pre8 : ∀ t, Steps p.tables e below (s₁.setTop (mkF m 12 #[.val (.ref a0), .val (.int p1), .val (.int p2)] [])) t → Steps p.tables e below (s₁.setTop (entryFrame m #[(.ref a0), (.int p1), (.int p2)] 3)) t := fun t kt => pre6 t (by
        show Steps p.tables e below (s₁.setTop (mkF m 7 #[.val (.ref a0), .val (.int p1), .val (.int p2)] [(.int nn), (.int p1)])) _
        refine XS.icmpYes X0.here hx rfl (pc0 := 7) (pc' := 12) rfl (hb hby d3_7) rfl (tlt hc7_7).1 (by decide) (by decide) ?_
        exact kt)
      by_cases hc12_9 : p1 = p2
      · have pre10 : ∀ t, Steps p.tables e below (s₁.setTop (mkF m 14 #[.val (.ref a0), .val (.int p1), .val (.int p2)] [(.int p1), (.ref a0)])) t → Steps p.tables e below (s₁.setTop (entryFrame m #[(.ref a0), (.int p1), (.int p2)] 3)) t := fun t kt => pre8 t (by
          show Steps p.tables e below (s₁.setTop (mkF m 12 #[.val (.ref a0), .val (.int p1), .val (.int p2)] [])) _
          refine XS.aloadN X0.here hx rfl (hb hby d3_12) rfl rfl ?_
          show Steps p.tables e below (s₁.setTop (mkF m 13 #[.val (.ref a0), .val (.int p1), .val (.int p2)] [(.ref a0)])) _
          refine XS.iloadN X0.here hx rfl (hb hby d3_13) rfl ?_
          exact kt)
        have tv11 := V0
        obtain ⟨cl11, Ar11, q11, S11, Ng11, H11, G11⟩ := tv11
        have hin11 : ¬ (p1 < 0 ∨ cl11.slots.size ≤ (p1).toNatClampNeg) := inb_of S11 ⟨hc1_2, hc7_7⟩
        have hat11 : cl11.slots[(p1).toNatClampNeg]? = some (.int (1 : Int32)) := atH H11 hin11 (getH_hit hc1_2 hc12_9)
        have pre12 : ∀ t, Steps p.tables e below (s₁.setTop (mkF m 33 #[.val (.ref a0), .val (.int p1), .val (.int p2)] [(.int (1 : Int32))])) t → Steps p.tables e below (s₁.setTop (entryFrame m #[(.ref a0), (.int p1), (.int p2)] 3)) t := fun t kt => pre10 t (by
          show Steps p.tables e below (s₁.setTop (mkF m 14 #[.val (.ref a0), .val (.int p1), .val (.int p2)] [(.int p1), (.ref a0)])) _
          refine X0.baloadBooleans hx (j := p1) (v := (.int (1 : Int32))) (by rw [e0]; exact Ar11.1) (State.isArrayOf_alike hZ.alike Ar11.2.1) Ar11.2.2 hin11 hat11 (g := (mkF m 14 #[.val (.ref a0), .val (.int p1), .val (.int p2)] [(.int p1), (.ref a0)])) rfl rfl (hb hby d3_14) _ ?_
          show Steps p.tables e below (s₁.setTop (mkF m 15 #[.val (.ref a0), .val (.int p1), .val (.int p2)] [(.int (1 : Int32))])) _
          refine XS.iloadN X0.here hx rfl (hb hby d3_15) rfl ?_
          show Steps p.tables e below (s₁.setTop (mkF m 16 #[.val (.ref a0), .val (.int p1), .val (.int p2)] [(.int p1), (.int (1 : Int32))])) _
          refine XS.iloadN X0.here hx rfl (hb hby d3_16) rfl ?_
          show Steps p.tables e below (s₁.setTop (mkF m 17 #[.val (.ref a0), .val (.int p1), .val (.int p2)] [(.int p2), (.int p1), (.int (1 : Int32))])) _
          refine XS.icmpNo X0.here hx rfl (hb hby d3_17) rfl (teq hc12_9).2 ?_
          show Steps p.tables e below (s₁.setTop (mkF m 20 #[.val (.ref a0), .val (.int p1), .val (.int p2)] [(.int (1 : Int32))])) _
          refine XS.iconst X0.here hx rfl (hb hby d3_20) ?_
          show Steps p.tables e below (s₁.setTop (mkF m 21 #[.val (.ref a0), .val (.int p1), .val (.int p2)] [(.int (1 : Int32)), (.int (1 : Int32))])) _
          refine XS.goto X0.here hx rfl (pc0 := 21) (pc' := 25) rfl (hb hby d3_21) (by decide) (by decide) ?_
          show Steps p.tables e below (s₁.setTop (mkF m 25 #[.val (.ref a0), .val (.int p1), .val (.int p2)] [(.int (1 : Int32)), (.int (1 : Int32))])) _
          refine XS.icmpNo X0.here hx rfl (hb hby d3_25) rfl (teq (by decide : (1 : Int32) = (1 : Int32))).2 ?_
          show Steps p.tables e below (s₁.setTop (mkF m 28 #[.val (.ref a0), .val (.int p1), .val (.int p2)] [])) _
          refine XS.iconst X0.here hx rfl (hb hby d3_28) ?_
          show Steps p.tables e below (s₁.setTop (mkF m 29 #[.val (.ref a0), .val (.int p1), .val (.int p2)] [(.int (1 : Int32))])) _
          refine XS.goto X0.here hx rfl (pc0 := 29) (pc' := 33) rfl (hb hby d3_29) (by decide) (by decide) ?_
          exact kt)
        obtain ⟨fs, hr, hrun, hended, hW, hsame⟩ := X0.leave (v := some (.int (1 : Int32))) (fun h => by rw [Bd.returns] at h; cases h)
        refine ⟨_, _, pre12 _ ?_, hrun, hended, _, _, rfl, ?_, ⟨_, rfl⟩, hW, hsame.mono (by decide) (by decide)⟩
        · show Steps p.tables e below (s₁.setTop (mkF m 33 #[.val (.ref a0), .val (.int p1), .val (.int p2)] [(.int (1 : Int32))])) _
          exact retN X0 hx (t := .boolean) Bd.returns (by simp) (hb hby d3_33) hr
        · show Q3 Z a0 p1 p2 kk nn h0 n0 _ s₁.heap _
          rw [e0]
          exact ⟨rfl, N0, rfl⟩
      · have pre13 : ∀ t, Steps p.tables e below (s₁.setTop (mkF m 14 #[.val (.ref a0), .val (.int p1), .val (.int p2)] [(.int p1), (.ref a0)])) t → Steps p.tables e below (s₁.setTop (entryFrame m #[(.ref a0), (.int p1), (.int p2)] 3)) t := fun t kt => pre8 t (by
          show Steps p.tables e below (s₁.setTop (mkF m 12 #[.val (.ref a0), .val (.int p1), .val (.int p2)] [])) _
          refine XS.aloadN X0.here hx rfl (hb hby d3_12) rfl rfl ?_
          show Steps p.tables e below (s₁.setTop (mkF m 13 #[.val (.ref a0), .val (.int p1), .val (.int p2)] [(.ref a0)])) _
          refine XS.iloadN X0.here hx rfl (hb hby d3_13) rfl ?_
          exact kt)
        have tv14 := V0
        obtain ⟨cl14, Ar14, q14, S14, Ng14, H14, G14⟩ := tv14
        have hin14 : ¬ (p1 < 0 ∨ cl14.slots.size ≤ (p1).toNatClampNeg) := inb_of S14 ⟨hc1_2, hc7_7⟩
        have hat14 : cl14.slots[(p1).toNatClampNeg]? = some (.int (0 : Int32)) := atH H14 hin14 (getH_miss hc1_2 hc12_9 rfl)
        have pre15 : ∀ t, Steps p.tables e below (s₁.setTop (mkF m 33 #[.val (.ref a0), .val (.int p1), .val (.int p2)] [(.int (1 : Int32))])) t → Steps p.tables e below (s₁.setTop (entryFrame m #[(.ref a0), (.int p1), (.int p2)] 3)) t := fun t kt => pre13 t (by
          show Steps p.tables e below (s₁.setTop (mkF m 14 #[.val (.ref a0), .val (.int p1), .val (.int p2)] [(.int p1), (.ref a0)])) _
          refine X0.baloadBooleans hx (j := p1) (v := (.int (0 : Int32))) (by rw [e0]; exact Ar14.1) (State.isArrayOf_alike hZ.alike Ar14.2.1) Ar14.2.2 hin14 hat14 (g := (mkF m 14 #[.val (.ref a0), .val (.int p1), .val (.int p2)] [(.int p1), (.ref a0)])) rfl rfl (hb hby d3_14) _ ?_
          show Steps p.tables e below (s₁.setTop (mkF m 15 #[.val (.ref a0), .val (.int p1), .val (.int p2)] [(.int (0 : Int32))])) _
          refine XS.iloadN X0.here hx rfl (hb hby d3_15) rfl ?_
          show Steps p.tables e below (s₁.setTop (mkF m 16 #[.val (.ref a0), .val (.int p1), .val (.int p2)] [(.int p1), (.int (0 : Int32))])) _
          refine XS.iloadN X0.here hx rfl (hb hby d3_16) rfl ?_
          show Steps p.tables e below (s₁.setTop (mkF m 17 #[.val (.ref a0), .val (.int p1), .val (.int p2)] [(.int p2), (.int p1), (.int (0 : Int32))])) _
          refine XS.icmpYes X0.here hx rfl (pc0 := 17) (pc' := 24) rfl (hb hby d3_17) rfl (feq hc12_9).2 (by decide) (by decide) ?_
          show Steps p.tables e below (s₁.setTop (mkF m 24 #[.val (.ref a0), .val (.int p1), .val (.int p2)] [(.int (0 : Int32))])) _
          refine XS.iconst X0.here hx rfl (hb hby d3_24) ?_
          show Steps p.tables e below (s₁.setTop (mkF m 25 #[.val (.ref a0), .val (.int p1), .val (.int p2)] [(.int (0 : Int32)), (.int (0 : Int32))])) _
          refine XS.icmpNo X0.here hx rfl (hb hby d3_25) rfl (teq (by decide : (0 : Int32) = (0 : Int32))).2 ?_
          show Steps p.tables e below (s₁.setTop (mkF m 28 #[.val (.ref a0), .val (.int p1), .val (.int p2)] [])) _
          refine XS.iconst X0.here hx rfl (hb hby d3_28) ?_
          show Steps p.tables e below (s₁.setTop (mkF m 29 #[.val (.ref a0), .val (.int p1), .val (.int p2)] [(.int (1 : Int32))])) _
          refine XS.goto X0.here hx rfl (pc0 := 29) (pc' := 33) rfl (hb hby d3_29) (by decide) (by decide) ?_
          exact kt)
        obtain ⟨fs, hr, hrun, hended, hW, hsame⟩ := X0.leave (v := some (.int (1 : Int32))) (fun h => by rw [Bd.returns] at h; cases h)
        refine ⟨_, _, pre15 _ ?_, hrun, hended, _, _, rfl, ?_, ⟨_, rfl⟩, hW, hsame.mono (by decide) (by decide)⟩
        · show Steps p.tables e below (s₁.setTop (mkF m 33 #[.val (.ref a0), .val (.int p1), .val (.int p2)] [(.int (1 : Int32))])) _
          exact retN X0 hx (t := .boolean) Bd.returns (by simp) (hb hby d3_33) hr
        · show Q3 Z a0 p1 p2 kk nn h0 n0 _ s₁.heap _
          rw [e0]
          exact ⟨rfl, N0, rfl⟩
    · have pre16 : ∀ t, Steps p.tables e below (s₁.setTop (mkF m 11 #[.val (.ref a0), .val (.int p1), .val (.int p2)] [(.int (1 : Int32))])) t → Steps p.tables e below (s₁.setTop (entryFrame m #[(.ref a0), (.int p1), (.int p2)] 3)) t := fun t kt => pre6 t (by
        show Steps p.tables e below (s₁.setTop (mkF m 7 #[.val (.ref a0), .val (.int p1), .val (.int p2)] [(.int nn), (.int p1)])) _
        refine XS.icmpNo X0.here hx rfl (hb hby d3_7) rfl (flt hc7_7).1 ?_
        show Steps p.tables e below (s₁.setTop (mkF m 10 #[.val (.ref a0), .val (.int p1), .val (.int p2)] [])) _
        refine XS.iconst X0.here hx rfl (hb hby d3_10) ?_
        exact kt)
      obtain ⟨fs, hr, hrun, hended, hW, hsame⟩ := X0.leave (v := some (.int (1 : Int32))) (fun h => by rw [Bd.returns] at h; cases h)
      refine ⟨_, _, pre16 _ ?_, hrun, hended, _, _, rfl, ?_, ⟨_, rfl⟩, hW, hsame.mono (by decide) (by decide)⟩
      · show Steps p.tables e below (s₁.setTop (mkF m 11 #[.val (.ref a0), .val (.int p1), .val (.int p2)] [(.int (1 : Int32))])) _
        exact retN X0 hx (t := .boolean) Bd.returns (by simp) (hb hby d3_11) hr
      · show Q3 Z a0 p1 p2 kk nn h0 n0 _ s₁.heap _
        rw [e0]
        exact ⟨rfl, N0, rfl⟩
theorem own_n (x : Int32) : 1 ≤ ((1 : Int32) + (x &&& (255 : Int32))).toInt ∧ ((1 : Int32) + (x &&& (255 : Int32))).toInt ≤ 256 := by
  have h := c_mask x (255 : Int32) 8 (by decide) (by decide)
  have e1 := c_iadd (1 : Int32) (x &&& (255 : Int32))
  have r1 := rng32 ((1 : Int32) + (x &&& (255 : Int32)))
  simp only [Int32.reduceToInt] at *
  omega
theorem own_nz (n : Int32) (h : 1 ≤ n.toInt ∧ n.toInt ≤ 256) : n ≠ 0 := by
  intro q
  rw [q] at h
  simp only [Int32.reduceToInt] at h
  omega
theorem own_p (m n : Int32) (h : 1 ≤ n.toInt ∧ n.toInt ≤ 256) : ¬ ((m &&& (2147483647 : Int32)) % n) < 0 ∧ ((m &&& (2147483647 : Int32)) % n) < n := by
  have hm := c_mask m (2147483647 : Int32) 31 (by decide) (by decide)
  have hr := (c_iremV (m &&& (2147483647 : Int32)) n).1 (by omega) (by omega)
  simp only [Int32.lt_iff_toInt_lt, Int32.reduceToInt] at *
  omega
theorem own_n0 (n : Int32) (h : 1 ≤ n.toInt ∧ n.toInt ≤ 256) : ¬ n < 0 := by
  simp only [Int32.lt_iff_toInt_lt, Int32.reduceToInt]
  omega
theorem own_ncap (n : Int32) (h : 1 ≤ n.toInt ∧ n.toInt ≤ 256) : n.toNatClampNeg ≤ 256 := by
  simp only [Int32.toNatClampNeg]
  omega
theorem own_p7 (x : Int32) : ¬ (x &&& (7 : Int32)) < 0 ∧ (x &&& (7 : Int32)) < (8 : Int32) := by
  have h := c_mask x (7 : Int32) 3 (by decide) (by decide)
  simp only [Int32.lt_iff_toInt_lt, Int32.reduceToInt]
  omega
theorem own_nar {P : Prop} [Decidable P] {z : Int32} (h : z = if P then (0 : Int32) else (1 : Int32)) : nar .boolean z = z := by
  subst h
  split <;> rfl
theorem own_hit (j p : Int32) (zs : List Value) (z : Int32) (hj : ¬ j < 0) (hz : getH [] zs (.int (0 : Int32)) j.toNatClampNeg = .int z) : getH [(p, (.int (1 : Int32)))] zs (.int (0 : Int32)) j.toNatClampNeg = .int (if j = p then (1 : Int32) else z) := by
  by_cases h : j = p
  · rw [if_pos h]
    exact getH_hit hj h
  · rw [if_neg h]
    exact getH_miss hj h hz
theorem own_bi (b : BitVec 32) (i : Nat) (hi : i < 32) : ((b.sshiftRight i) &&& 1#32) = 0#32 ↔ (b &&& BitVec.twoPow 32 i) = 0#32 := by
  rw [BitVec.and_one_eq_setWidth_ofBool_getLsbD, BitVec.getLsbD_sshiftRight, BitVec.and_twoPow]
  simp only [Nat.add_zero, hi, if_true]
  cases hb : b.getLsbD i
  · simp
  · simp only [if_true]
    constructor
    · intro h
      exact absurd h (by decide)
    · intro h
      have h2 := congrArg (fun z => z.getLsbD i) h
      simp [hi] at h2
theorem own_bj (x q w : Int32) (k : Nat) (hk : q.toBitVec.toNat % 32 = k) (hw : w.toBitVec = BitVec.twoPow 32 k) : ((x >>> (q &&& 31)) &&& (1 : Int32)) = (0 : Int32) ↔ (x &&& w) = (0 : Int32) := by
  rw [← Int32.toBitVec_inj, ← Int32.toBitVec_inj, Int32.toBitVec_and, Int32.toBitVec_and, hw]
  show ((x.toBitVec.sshiftRight ((q &&& 31).toBitVec.smod 32).toNat) &&& 1#32) = 0#32 ↔ _
  rw [sm32 q k hk]
  exact own_bi _ k (by omega)
theorem own_kept (x q w p z : Int32) (k : Nat) (hk : q.toBitVec.toNat % 32 = k) (hw : w.toBitVec = BitVec.twoPow 32 k) (hz : z = if (x &&& w) = (0 : Int32) then (0 : Int32) else (1 : Int32)) : (if q = p then (1 : Int32) else z) = if ((x >>> (q &&& 31)) &&& (1 : Int32)) = (0 : Int32) then (if q = p then (1 : Int32) else (0 : Int32)) else (1 : Int32) := by
  subst hz
  have e := own_bj x q w k hk hw
  by_cases h : (x &&& w) = (0 : Int32)
  · rw [if_pos h, if_pos (e.mpr h)]
  · rw [if_neg h, if_neg (fun c => h (e.mp c))]
    split <;> rfl
theorem pd___ZII__Z : parseMethodDescriptor "([ZII)[Z" = some ⟨[(.array .boolean), .int, .int], some (.array .boolean)⟩ := by decide +kernel
theorem pd___ZIII_Z : parseMethodDescriptor "([ZIII)Z" = some ⟨[(.array .boolean), .int, .int, .int], some .boolean⟩ := by decide +kernel
theorem own_irem (x y : Int32) : x - (x / y) * y = x % y := by
  rw [← Int32.toInt_inj, Int32.toInt_sub, Int32.toInt_mul, Int32.toInt_div, Int.bmod_mul_bmod, Int.sub_bmod_bmod, Int.mul_comm, ← Int.tmod_def, ← Int32.toInt_mod]
  exact Int32.toInt_bmod _
theorem pd___ZII_Z : parseMethodDescriptor "([ZII)Z" = some ⟨[(.array .boolean), .int, .int], some .boolean⟩ := by decide +kernel
theorem ef0 (m : MethodId) (x0 : Int32) (x1 : Int32) (x2 : Int32) (x3 : Int32) : entryFrame m #[(.int x0), (.int x1), (.int x2), (.int x3)] maxLocals = mkF m 0 #[.val (.int x0), .val (.int x1), .val (.int x2), .val (.int x3), .unset, .unset, .unset, .unset] [] := by first | (simp [entryFrame, mkF, argsToLocals, Value.category, maxLocals]; done) | rfl
def Q0 (Z : State) (p0 : Int32) (p1 : Int32) (p2 : Int32) (p3 : Int32) (h0 : Heap) (n0 : Nat) (v : Option Value) (h : Heap) (L : List Loc) : Prop := v = some (.int 1) ∧ Fr n0 L
set_option maxRecDepth 65536 in
set_option maxHeartbeats 40000000 in
theorem rm0 (l : Launch) (Z : State) (av : Array Value) (hw : ∀ d ∈ tables_1, d.before av Z = true) (ws : List Jvm.Cond) (p0 : Int32) (p1 : Int32) (p2 : Int32) (p3 : Int32) (h0 : Heap) (n0 : Nat) (Z0 : n0 ≤ h0.size) :
    MetFree l x (head1 (Jvm.Cond.code x code maxLocals ret :: ws) room_1) (fun a U => a = #[(.int p0), (.int p1), (.int p2), (.int p3)] ∧ Z.Warmed39 U.vm ∧ U.heap = h0) (fun _ _ _ _ _ => True) (fun _ U o U' => ∃ v L, o = .returned v ∧ Q0 Z p0 p1 p2 p3 h0 n0 v U'.heap L ∧ FrameEnd U o U' L room_1.cells room_1.slots) := by
  refine MetFree.of_bodySF (plainFor_of_name pn_com_example_baton_baton_support_SkippedMarkedPinLaw) hisR ?_
  intro p e s m args below meth c s₁ Bd hml0 hP hK
  obtain ⟨rfl, hZ, hh⟩ := hP
  have hx := Bd.exec
  have hby := Bd.bytes
  have hml : c.maxLocals = 8 := hml0
  have hown : s.vm.findClass "com/example/baton/baton/support/SkippedMarkedPinLaw" = some m.cls := findClass_of_methodNamed Bd.named
  have hnm := (name_of_methodNamed Bd.named Bd.method).1
  have X0 : Stand p l e room_1 s m #[(.int p0), (.int p1), (.int p2), (.int p3)] below meth c s₁ [] 0 0 := Stand.of_body Bd
  have e0 : s₁.heap = h0 := by rw [← hh, Bd.state]; rfl
  have N0 := Fr.nil n0
  have K0 : Keep h0 h0 [] := Keep.refl h0 []
  have pre0 : ∀ t, Steps p.tables e below (s₁.setTop (mkF m 0 #[.val (.int p0), .val (.int p1), .val (.int p2), .val (.int p3), .unset, .unset, .unset, .unset] [])) t → Steps p.tables e below (s₁.setTop (entryFrame m #[(.int p0), (.int p1), (.int p2), (.int p3)] maxLocals)) t := fun t k => castTop (ef0 m p0 p1 p2 p3) k
  have pre1 : ∀ t, Steps p.tables e below (s₁.setTop (mkF m 3 #[.val (.int p0), .val (.int p1), .val (.int p2), .val (.int p3), .unset, .unset, .unset, .unset] [(.int (p0 &&& (1 : Int32)))])) t → Steps p.tables e below (s₁.setTop (entryFrame m #[(.int p0), (.int p1), (.int p2), (.int p3)] maxLocals)) t := fun t kt => pre0 t (by
    show Steps p.tables e below (s₁.setTop (mkF m 0 #[.val (.int p0), .val (.int p1), .val (.int p2), .val (.int p3), .unset, .unset, .unset, .unset] [])) _
    refine XS.iloadN X0.here hx rfl (hb hby at_0) rfl ?_
    show Steps p.tables e below (s₁.setTop (mkF m 1 #[.val (.int p0), .val (.int p1), .val (.int p2), .val (.int p3), .unset, .unset, .unset, .unset] [(.int p0)])) _
    refine XS.iconst X0.here hx rfl (hb hby at_1) ?_
    show Steps p.tables e below (s₁.setTop (mkF m 2 #[.val (.int p0), .val (.int p1), .val (.int p2), .val (.int p3), .unset, .unset, .unset, .unset] [(.int (1 : Int32)), (.int p0)])) _
    refine XS.iand X0.here hx rfl (hb hby at_2) rfl ?_
    exact kt)
  by_cases hc3_2 : (p0 &&& (1 : Int32)) = (0 : Int32)
  · have pre3 : ∀ t, Steps p.tables e below (s₁.setTop (mkF m 190 #[.val (.int p0), .val (.int p1), .val (.int p2), .val (.int p3), .val (.int (0 : Int32)), .unset, .unset, .unset] [(.int (8 : Int32))])) t → Steps p.tables e below (s₁.setTop (entryFrame m #[(.int p0), (.int p1), (.int p2), (.int p3)] maxLocals)) t := fun t kt => pre1 t (by
      show Steps p.tables e below (s₁.setTop (mkF m 3 #[.val (.int p0), .val (.int p1), .val (.int p2), .val (.int p3), .unset, .unset, .unset, .unset] [(.int (p0 &&& (1 : Int32)))])) _
      refine XS.ifYes X0.here hx rfl (pc0 := 3) (pc' := 10) rfl (hb hby at_3) rfl ((if0 _ _).trans (teq hc3_2).1) (by decide) (by decide) ?_
      show Steps p.tables e below (s₁.setTop (mkF m 10 #[.val (.int p0), .val (.int p1), .val (.int p2), .val (.int p3), .unset, .unset, .unset, .unset] [])) _
      refine XS.iconst X0.here hx rfl (hb hby at_10) ?_
      show Steps p.tables e below (s₁.setTop (mkF m 11 #[.val (.int p0), .val (.int p1), .val (.int p2), .val (.int p3), .unset, .unset, .unset, .unset] [(.int (0 : Int32))])) _
      refine XS.istore X0.here hx rfl (hb hby at_11) rfl (l' := #[.val (.int p0), .val (.int p1), .val (.int p2), .val (.int p3), .val (.int (0 : Int32)), .unset, .unset, .unset]) rfl ?_
      show Steps p.tables e below (s₁.setTop (mkF m 13 #[.val (.int p0), .val (.int p1), .val (.int p2), .val (.int p3), .val (.int (0 : Int32)), .unset, .unset, .unset] [])) _
      refine XS.iload X0.here hx rfl (hb hby at_13) rfl ?_
      show Steps p.tables e below (s₁.setTop (mkF m 15 #[.val (.int p0), .val (.int p1), .val (.int p2), .val (.int p3), .val (.int (0 : Int32)), .unset, .unset, .unset] [(.int (0 : Int32))])) _
      refine XS.ifYes X0.here hx rfl (pc0 := 15) (pc' := 188) rfl (hb hby at_15) rfl ((if0 _ _).trans (teq (by decide : (0 : Int32) = (0 : Int32))).1) (by decide) (by decide) ?_
      show Steps p.tables e below (s₁.setTop (mkF m 188 #[.val (.int p0), .val (.int p1), .val (.int p2), .val (.int p3), .val (.int (0 : Int32)), .unset, .unset, .unset] [])) _
      refine XS.bipush X0.here hx rfl (hb hby at_188) ?_
      exact kt)
    obtain ⟨T4, h4, k4, X4, e4, E4, A4, st4⟩ := newP X0 hx hZ (hw _ (List.mem_of_getElem? (i := 0) rfl)) e0 (g := (mkF m 190 #[.val (.int p0), .val (.int p1), .val (.int p2), .val (.int p3), .val (.int (0 : Int32)), .unset, .unset, .unset] [(.int (8 : Int32))])) rfl (hb hby at_190) rfl (by decide) (cap := 8) (by decide) (by decide) (by decide) (by decide)
    obtain ⟨b4, g4⟩ : ∃ z, z = h0.size := ⟨_, rfl⟩
    rw [← g4] at A4 st4
    have pre5 : ∀ t, Steps p.tables e below (T4.setTop (mkF m 192 #[.val (.int p0), .val (.int p1), .val (.int p2), .val (.int p3), .val (.int (0 : Int32)), .unset, .unset, .unset] [(.ref b4)])) t → Steps p.tables e below (s₁.setTop (entryFrame m #[(.int p0), (.int p1), (.int p2), (.int p3)] maxLocals)) t := fun t kt => pre3 t (st4 _ kt)
    have gn4 : n0 ≤ b4 := Nat.le_trans Z0 (Nat.le_of_eq g4.symm)
    have sz4 : h0.size ≤ b4 := Nat.le_trans K0.1 (Nat.le_of_eq g4.symm)
    have K4 : Keep h0 h4 [] := K0.ext E4
    have Z4 : n0 ≤ h4.size := Nat.le_trans Z0 E4.1
    have V4 : Arv Z h4 b4 k4 .boolean (8 : Int32) [(.int (0 : Int32)), (.int (0 : Int32)), (.int (0 : Int32)), (.int (0 : Int32)), (.int (0 : Int32)), (.int (0 : Int32)), (.int (0 : Int32)), (.int (0 : Int32))] (.int (0 : Int32)) := (Arv.new A4 (by decide)).pad (pad_rep [] (.int (0 : Int32)) 8)
    have pre6 : ∀ t, Steps p.tables e below (T4.setTop (mkF m 200 #[.val (.int p0), .val (.int p1), .val (.int p2), .val (.int p3), .val (.int (0 : Int32)), .val (.ref b4), .unset, .unset] [(.int (p1 &&& (1 : Int32))), (.int (0 : Int32)), (.ref b4)])) t → Steps p.tables e below (s₁.setTop (entryFrame m #[(.int p0), (.int p1), (.int p2), (.int p3)] maxLocals)) t := fun t kt => pre5 t (by
      show Steps p.tables e below (T4.setTop (mkF m 192 #[.val (.int p0), .val (.int p1), .val (.int p2), .val (.int p3), .val (.int (0 : Int32)), .unset, .unset, .unset] [(.ref b4)])) _
      refine XS.astore X4.here hx rfl (hb hby at_192) rfl rfl (l' := #[.val (.int p0), .val (.int p1), .val (.int p2), .val (.int p3), .val (.int (0 : Int32)), .val (.ref b4), .unset, .unset]) rfl ?_
      show Steps p.tables e below (T4.setTop (mkF m 194 #[.val (.int p0), .val (.int p1), .val (.int p2), .val (.int p3), .val (.int (0 : Int32)), .val (.ref b4), .unset, .unset] [])) _
      refine XS.aload X4.here hx rfl (hb hby at_194) rfl rfl ?_
      show Steps p.tables e below (T4.setTop (mkF m 196 #[.val (.int p0), .val (.int p1), .val (.int p2), .val (.int p3), .val (.int (0 : Int32)), .val (.ref b4), .unset, .unset] [(.ref b4)])) _
      refine XS.iconst X4.here hx rfl (hb hby at_196) ?_
      show Steps p.tables e below (T4.setTop (mkF m 197 #[.val (.int p0), .val (.int p1), .val (.int p2), .val (.int p3), .val (.int (0 : Int32)), .val (.ref b4), .unset, .unset] [(.int (0 : Int32)), (.ref b4)])) _
      refine XS.iloadN X4.here hx rfl (hb hby at_197) rfl ?_
      show Steps p.tables e below (T4.setTop (mkF m 198 #[.val (.int p0), .val (.int p1), .val (.int p2), .val (.int p3), .val (.int (0 : Int32)), .val (.ref b4), .unset, .unset] [(.int p1), (.int (0 : Int32)), (.ref b4)])) _
      refine XS.iconst X4.here hx rfl (hb hby at_198) ?_
      show Steps p.tables e below (T4.setTop (mkF m 199 #[.val (.int p0), .val (.int p1), .val (.int p2), .val (.int p3), .val (.int (0 : Int32)), .val (.ref b4), .unset, .unset] [(.int (1 : Int32)), (.int p1), (.int (0 : Int32)), (.ref b4)])) _
      refine XS.iand X4.here hx rfl (hb hby at_199) rfl ?_
      exact kt)
    obtain ⟨zz0, hm7, pre7⟩ : ∃ (zz0 : Int32), (zz0 = if (p1 &&& (1 : Int32)) = (0 : Int32) then (0 : Int32) else (1 : Int32)) ∧ ∀ t, Steps p.tables e below (T4.setTop (mkF m 208 #[.val (.int p0), .val (.int p1), .val (.int p2), .val (.int p3), .val (.int (0 : Int32)), .val (.ref b4), .unset, .unset] [(.int zz0), (.int (0 : Int32)), (.ref b4)])) t → Steps p.tables e below (s₁.setTop (entryFrame m #[(.int p0), (.int p1), (.int p2), (.int p3)] maxLocals)) t := by
      by_cases hc200_8 : (p1 &&& (1 : Int32)) = (0 : Int32)
      · have pre9 : ∀ t, Steps p.tables e below (T4.setTop (mkF m 208 #[.val (.int p0), .val (.int p1), .val (.int p2), .val (.int p3), .val (.int (0 : Int32)), .val (.ref b4), .unset, .unset] [(.int (0 : Int32)), (.int (0 : Int32)), (.ref b4)])) t → Steps p.tables e below (s₁.setTop (entryFrame m #[(.int p0), (.int p1), (.int p2), (.int p3)] maxLocals)) t := fun t kt => pre6 t (by
          show Steps p.tables e below (T4.setTop (mkF m 200 #[.val (.int p0), .val (.int p1), .val (.int p2), .val (.int p3), .val (.int (0 : Int32)), .val (.ref b4), .unset, .unset] [(.int (p1 &&& (1 : Int32))), (.int (0 : Int32)), (.ref b4)])) _
          refine XS.ifYes X4.here hx rfl (pc0 := 200) (pc' := 207) rfl (hb hby at_200) rfl ((if0 _ _).trans (teq hc200_8).1) (by decide) (by decide) ?_
          show Steps p.tables e below (T4.setTop (mkF m 207 #[.val (.int p0), .val (.int p1), .val (.int p2), .val (.int p3), .val (.int (0 : Int32)), .val (.ref b4), .unset, .unset] [(.int (0 : Int32)), (.ref b4)])) _
          refine XS.iconst X4.here hx rfl (hb hby at_207) ?_
          exact kt)
        exact ⟨(0 : Int32), (if_pos hc200_8).symm, pre9⟩
      · have pre10 : ∀ t, Steps p.tables e below (T4.setTop (mkF m 208 #[.val (.int p0), .val (.int p1), .val (.int p2), .val (.int p3), .val (.int (0 : Int32)), .val (.ref b4), .unset, .unset] [(.int (1 : Int32)), (.int (0 : Int32)), (.ref b4)])) t → Steps p.tables e below (s₁.setTop (entryFrame m #[(.int p0), (.int p1), (.int p2), (.int p3)] maxLocals)) t := fun t kt => pre6 t (by
          show Steps p.tables e below (T4.setTop (mkF m 200 #[.val (.int p0), .val (.int p1), .val (.int p2), .val (.int p3), .val (.int (0 : Int32)), .val (.ref b4), .unset, .unset] [(.int (p1 &&& (1 : Int32))), (.int (0 : Int32)), (.ref b4)])) _
          refine XS.ifNo X4.here hx rfl (hb hby at_200) rfl ((if0 _ _).trans (feq hc200_8).1) ?_
          show Steps p.tables e below (T4.setTop (mkF m 203 #[.val (.int p0), .val (.int p1), .val (.int p2), .val (.int p3), .val (.int (0 : Int32)), .val (.ref b4), .unset, .unset] [(.int (0 : Int32)), (.ref b4)])) _
          refine XS.iconst X4.here hx rfl (hb hby at_203) ?_
          show Steps p.tables e below (T4.setTop (mkF m 204 #[.val (.int p0), .val (.int p1), .val (.int p2), .val (.int p3), .val (.int (0 : Int32)), .val (.ref b4), .unset, .unset] [(.int (1 : Int32)), (.int (0 : Int32)), (.ref b4)])) _
          refine XS.goto X4.here hx rfl (pc0 := 204) (pc' := 208) rfl (hb hby at_204) (by decide) (by decide) ?_
          exact kt)
        exact ⟨(1 : Int32), (if_neg hc200_8).symm, pre10⟩
    have tv11 := V4
    obtain ⟨cl11, Ar11, q11, S11, Ng11, H11, G11⟩ := tv11
    have hin11 : ¬ ((0 : Int32) < 0 ∨ cl11.slots.size ≤ ((0 : Int32)).toNatClampNeg) := inb_of S11 ⟨by decide, by decide⟩
    obtain ⟨T12, h12, X12, e12, W12, st12⟩ := stZ X4 hx hZ e4 Ar11 (j := (0 : Int32)) hin11 (g := (mkF m 208 #[.val (.int p0), .val (.int p1), .val (.int p2), .val (.int p3), .val (.int (0 : Int32)), .val (.ref b4), .unset, .unset] [(.int zz0), (.int (0 : Int32)), (.ref b4)])) rfl rfl (hb hby at_208)
    have pre13 : ∀ t, Steps p.tables e below (T12.setTop (mkF m 209 #[.val (.int p0), .val (.int p1), .val (.int p2), .val (.int p3), .val (.int (0 : Int32)), .val (.ref b4), .unset, .unset] [])) t → Steps p.tables e below (s₁.setTop (entryFrame m #[(.int p0), (.int p1), (.int p2), (.int p3)] maxLocals)) t := fun t kt => pre7 t (st12 _ kt)
    have V12 : Arv Z h12 b4 k4 .boolean (8 : Int32) [(.int zz0), (.int (0 : Int32)), (.int (0 : Int32)), (.int (0 : Int32)), (.int (0 : Int32)), (.int (0 : Int32)), (.int (0 : Int32)), (.int (0 : Int32))] (.int (0 : Int32)) := (by
      have q := Arv.set Ar11 q11 S11 Ng11 H11 G11 (fits_nar_bool zz0) W12 0 rfl (Nat.le_of_ble_eq_true rfl)
      rw [own_nar hm7] at q
      exact q)
    have K12 : Keep h0 h12 [] := K4.wr W12 (Or.inr sz4)
    have N12 := Fr.snoc X12 N0 gn4
    have Z12 : n0 ≤ h12.size := Nat.le_trans Z4 (Keep.of_wr W12).1
    have pre14 : ∀ t, Steps p.tables e below (T12.setTop (mkF m 215 #[.val (.int p0), .val (.int p1), .val (.int p2), .val (.int p3), .val (.int (0 : Int32)), .val (.ref b4), .unset, .unset] [(.int (p1 &&& (2 : Int32))), (.int (1 : Int32)), (.ref b4)])) t → Steps p.tables e below (s₁.setTop (entryFrame m #[(.int p0), (.int p1), (.int p2), (.int p3)] maxLocals)) t := fun t kt => pre13 t (by
      show Steps p.tables e below (T12.setTop (mkF m 209 #[.val (.int p0), .val (.int p1), .val (.int p2), .val (.int p3), .val (.int (0 : Int32)), .val (.ref b4), .unset, .unset] [])) _
      refine XS.aload X12.here hx rfl (hb hby at_209) rfl rfl ?_
      show Steps p.tables e below (T12.setTop (mkF m 211 #[.val (.int p0), .val (.int p1), .val (.int p2), .val (.int p3), .val (.int (0 : Int32)), .val (.ref b4), .unset, .unset] [(.ref b4)])) _
      refine XS.iconst X12.here hx rfl (hb hby at_211) ?_
      show Steps p.tables e below (T12.setTop (mkF m 212 #[.val (.int p0), .val (.int p1), .val (.int p2), .val (.int p3), .val (.int (0 : Int32)), .val (.ref b4), .unset, .unset] [(.int (1 : Int32)), (.ref b4)])) _
      refine XS.iloadN X12.here hx rfl (hb hby at_212) rfl ?_
      show Steps p.tables e below (T12.setTop (mkF m 213 #[.val (.int p0), .val (.int p1), .val (.int p2), .val (.int p3), .val (.int (0 : Int32)), .val (.ref b4), .unset, .unset] [(.int p1), (.int (1 : Int32)), (.ref b4)])) _
      refine XS.iconst X12.here hx rfl (hb hby at_213) ?_
      show Steps p.tables e below (T12.setTop (mkF m 214 #[.val (.int p0), .val (.int p1), .val (.int p2), .val (.int p3), .val (.int (0 : Int32)), .val (.ref b4), .unset, .unset] [(.int (2 : Int32)), (.int p1), (.int (1 : Int32)), (.ref b4)])) _
      refine XS.iand X12.here hx rfl (hb hby at_214) rfl ?_
      exact kt)
    obtain ⟨zz1, hm15, pre15⟩ : ∃ (zz1 : Int32), (zz1 = if (p1 &&& (2 : Int32)) = (0 : Int32) then (0 : Int32) else (1 : Int32)) ∧ ∀ t, Steps p.tables e below (T12.setTop (mkF m 223 #[.val (.int p0), .val (.int p1), .val (.int p2), .val (.int p3), .val (.int (0 : Int32)), .val (.ref b4), .unset, .unset] [(.int zz1), (.int (1 : Int32)), (.ref b4)])) t → Steps p.tables e below (s₁.setTop (entryFrame m #[(.int p0), (.int p1), (.int p2), (.int p3)] maxLocals)) t := by
      by_cases hc215_16 : (p1 &&& (2 : Int32)) = (0 : Int32)
      · have pre17 : ∀ t, Steps p.tables e below (T12.setTop (mkF m 223 #[.val (.int p0), .val (.int p1), .val (.int p2), .val (.int p3), .val (.int (0 : Int32)), .val (.ref b4), .unset, .unset] [(.int (0 : Int32)), (.int (1 : Int32)), (.ref b4)])) t → Steps p.tables e below (s₁.setTop (entryFrame m #[(.int p0), (.int p1), (.int p2), (.int p3)] maxLocals)) t := fun t kt => pre14 t (by
          show Steps p.tables e below (T12.setTop (mkF m 215 #[.val (.int p0), .val (.int p1), .val (.int p2), .val (.int p3), .val (.int (0 : Int32)), .val (.ref b4), .unset, .unset] [(.int (p1 &&& (2 : Int32))), (.int (1 : Int32)), (.ref b4)])) _
          refine XS.ifYes X12.here hx rfl (pc0 := 215) (pc' := 222) rfl (hb hby at_215) rfl ((if0 _ _).trans (teq hc215_16).1) (by decide) (by decide) ?_
          show Steps p.tables e below (T12.setTop (mkF m 222 #[.val (.int p0), .val (.int p1), .val (.int p2), .val (.int p3), .val (.int (0 : Int32)), .val (.ref b4), .unset, .unset] [(.int (1 : Int32)), (.ref b4)])) _
          refine XS.iconst X12.here hx rfl (hb hby at_222) ?_
          exact kt)
        exact ⟨(0 : Int32), (if_pos hc215_16).symm, pre17⟩
      · have pre18 : ∀ t, Steps p.tables e below (T12.setTop (mkF m 223 #[.val (.int p0), .val (.int p1), .val (.int p2), .val (.int p3), .val (.int (0 : Int32)), .val (.ref b4), .unset, .unset] [(.int (1 : Int32)), (.int (1 : Int32)), (.ref b4)])) t → Steps p.tables e below (s₁.setTop (entryFrame m #[(.int p0), (.int p1), (.int p2), (.int p3)] maxLocals)) t := fun t kt => pre14 t (by
          show Steps p.tables e below (T12.setTop (mkF m 215 #[.val (.int p0), .val (.int p1), .val (.int p2), .val (.int p3), .val (.int (0 : Int32)), .val (.ref b4), .unset, .unset] [(.int (p1 &&& (2 : Int32))), (.int (1 : Int32)), (.ref b4)])) _
          refine XS.ifNo X12.here hx rfl (hb hby at_215) rfl ((if0 _ _).trans (feq hc215_16).1) ?_
          show Steps p.tables e below (T12.setTop (mkF m 218 #[.val (.int p0), .val (.int p1), .val (.int p2), .val (.int p3), .val (.int (0 : Int32)), .val (.ref b4), .unset, .unset] [(.int (1 : Int32)), (.ref b4)])) _
          refine XS.iconst X12.here hx rfl (hb hby at_218) ?_
          show Steps p.tables e below (T12.setTop (mkF m 219 #[.val (.int p0), .val (.int p1), .val (.int p2), .val (.int p3), .val (.int (0 : Int32)), .val (.ref b4), .unset, .unset] [(.int (1 : Int32)), (.int (1 : Int32)), (.ref b4)])) _
          refine XS.goto X12.here hx rfl (pc0 := 219) (pc' := 223) rfl (hb hby at_219) (by decide) (by decide) ?_
          exact kt)
        exact ⟨(1 : Int32), (if_neg hc215_16).symm, pre18⟩
    have tv19 := V12
    obtain ⟨cl19, Ar19, q19, S19, Ng19, H19, G19⟩ := tv19
    have hin19 : ¬ ((1 : Int32) < 0 ∨ cl19.slots.size ≤ ((1 : Int32)).toNatClampNeg) := inb_of S19 ⟨by decide, by decide⟩
    obtain ⟨T20, h20, X20, e20, W20, st20⟩ := stZ X12 hx hZ e12 Ar19 (j := (1 : Int32)) hin19 (g := (mkF m 223 #[.val (.int p0), .val (.int p1), .val (.int p2), .val (.int p3), .val (.int (0 : Int32)), .val (.ref b4), .unset, .unset] [(.int zz1), (.int (1 : Int32)), (.ref b4)])) rfl rfl (hb hby at_223)
    have pre21 : ∀ t, Steps p.tables e below (T20.setTop (mkF m 224 #[.val (.int p0), .val (.int p1), .val (.int p2), .val (.int p3), .val (.int (0 : Int32)), .val (.ref b4), .unset, .unset] [])) t → Steps p.tables e below (s₁.setTop (entryFrame m #[(.int p0), (.int p1), (.int p2), (.int p3)] maxLocals)) t := fun t kt => pre15 t (st20 _ kt)
    have V20 : Arv Z h20 b4 k4 .boolean (8 : Int32) [(.int zz0), (.int zz1), (.int (0 : Int32)), (.int (0 : Int32)), (.int (0 : Int32)), (.int (0 : Int32)), (.int (0 : Int32)), (.int (0 : Int32))] (.int (0 : Int32)) := (by
      have q := Arv.set Ar19 q19 S19 Ng19 H19 G19 (fits_nar_bool zz1) W20 1 rfl (Nat.le_of_ble_eq_true rfl)
      rw [own_nar hm15] at q
      exact q)
    have K20 : Keep h0 h20 [] := K12.wr W20 (Or.inr sz4)
    have N20 := Fr.snoc X20 N12 gn4
    have Z20 : n0 ≤ h20.size := Nat.le_trans Z12 (Keep.of_wr W20).1
    have pre22 : ∀ t, Steps p.tables e below (T20.setTop (mkF m 230 #[.val (.int p0), .val (.int p1), .val (.int p2), .val (.int p3), .val (.int (0 : Int32)), .val (.ref b4), .unset, .unset] [(.int (p1 &&& (4 : Int32))), (.int (2 : Int32)), (.ref b4)])) t → Steps p.tables e below (s₁.setTop (entryFrame m #[(.int p0), (.int p1), (.int p2), (.int p3)] maxLocals)) t := fun t kt => pre21 t (by
      show Steps p.tables e below (T20.setTop (mkF m 224 #[.val (.int p0), .val (.int p1), .val (.int p2), .val (.int p3), .val (.int (0 : Int32)), .val (.ref b4), .unset, .unset] [])) _
      refine XS.aload X20.here hx rfl (hb hby at_224) rfl rfl ?_
      show Steps p.tables e below (T20.setTop (mkF m 226 #[.val (.int p0), .val (.int p1), .val (.int p2), .val (.int p3), .val (.int (0 : Int32)), .val (.ref b4), .unset, .unset] [(.ref b4)])) _
      refine XS.iconst X20.here hx rfl (hb hby at_226) ?_
      show Steps p.tables e below (T20.setTop (mkF m 227 #[.val (.int p0), .val (.int p1), .val (.int p2), .val (.int p3), .val (.int (0 : Int32)), .val (.ref b4), .unset, .unset] [(.int (2 : Int32)), (.ref b4)])) _
      refine XS.iloadN X20.here hx rfl (hb hby at_227) rfl ?_
      show Steps p.tables e below (T20.setTop (mkF m 228 #[.val (.int p0), .val (.int p1), .val (.int p2), .val (.int p3), .val (.int (0 : Int32)), .val (.ref b4), .unset, .unset] [(.int p1), (.int (2 : Int32)), (.ref b4)])) _
      refine XS.iconst X20.here hx rfl (hb hby at_228) ?_
      show Steps p.tables e below (T20.setTop (mkF m 229 #[.val (.int p0), .val (.int p1), .val (.int p2), .val (.int p3), .val (.int (0 : Int32)), .val (.ref b4), .unset, .unset] [(.int (4 : Int32)), (.int p1), (.int (2 : Int32)), (.ref b4)])) _
      refine XS.iand X20.here hx rfl (hb hby at_229) rfl ?_
      exact kt)
    obtain ⟨zz2, hm23, pre23⟩ : ∃ (zz2 : Int32), (zz2 = if (p1 &&& (4 : Int32)) = (0 : Int32) then (0 : Int32) else (1 : Int32)) ∧ ∀ t, Steps p.tables e below (T20.setTop (mkF m 238 #[.val (.int p0), .val (.int p1), .val (.int p2), .val (.int p3), .val (.int (0 : Int32)), .val (.ref b4), .unset, .unset] [(.int zz2), (.int (2 : Int32)), (.ref b4)])) t → Steps p.tables e below (s₁.setTop (entryFrame m #[(.int p0), (.int p1), (.int p2), (.int p3)] maxLocals)) t := by
      by_cases hc230_24 : (p1 &&& (4 : Int32)) = (0 : Int32)
      · have pre25 : ∀ t, Steps p.tables e below (T20.setTop (mkF m 238 #[.val (.int p0), .val (.int p1), .val (.int p2), .val (.int p3), .val (.int (0 : Int32)), .val (.ref b4), .unset, .unset] [(.int (0 : Int32)), (.int (2 : Int32)), (.ref b4)])) t → Steps p.tables e below (s₁.setTop (entryFrame m #[(.int p0), (.int p1), (.int p2), (.int p3)] maxLocals)) t := fun t kt => pre22 t (by
          show Steps p.tables e below (T20.setTop (mkF m 230 #[.val (.int p0), .val (.int p1), .val (.int p2), .val (.int p3), .val (.int (0 : Int32)), .val (.ref b4), .unset, .unset] [(.int (p1 &&& (4 : Int32))), (.int (2 : Int32)), (.ref b4)])) _
          refine XS.ifYes X20.here hx rfl (pc0 := 230) (pc' := 237) rfl (hb hby at_230) rfl ((if0 _ _).trans (teq hc230_24).1) (by decide) (by decide) ?_
          show Steps p.tables e below (T20.setTop (mkF m 237 #[.val (.int p0), .val (.int p1), .val (.int p2), .val (.int p3), .val (.int (0 : Int32)), .val (.ref b4), .unset, .unset] [(.int (2 : Int32)), (.ref b4)])) _
          refine XS.iconst X20.here hx rfl (hb hby at_237) ?_
          exact kt)
        exact ⟨(0 : Int32), (if_pos hc230_24).symm, pre25⟩
      · have pre26 : ∀ t, Steps p.tables e below (T20.setTop (mkF m 238 #[.val (.int p0), .val (.int p1), .val (.int p2), .val (.int p3), .val (.int (0 : Int32)), .val (.ref b4), .unset, .unset] [(.int (1 : Int32)), (.int (2 : Int32)), (.ref b4)])) t → Steps p.tables e below (s₁.setTop (entryFrame m #[(.int p0), (.int p1), (.int p2), (.int p3)] maxLocals)) t := fun t kt => pre22 t (by
          show Steps p.tables e below (T20.setTop (mkF m 230 #[.val (.int p0), .val (.int p1), .val (.int p2), .val (.int p3), .val (.int (0 : Int32)), .val (.ref b4), .unset, .unset] [(.int (p1 &&& (4 : Int32))), (.int (2 : Int32)), (.ref b4)])) _
          refine XS.ifNo X20.here hx rfl (hb hby at_230) rfl ((if0 _ _).trans (feq hc230_24).1) ?_
          show Steps p.tables e below (T20.setTop (mkF m 233 #[.val (.int p0), .val (.int p1), .val (.int p2), .val (.int p3), .val (.int (0 : Int32)), .val (.ref b4), .unset, .unset] [(.int (2 : Int32)), (.ref b4)])) _
          refine XS.iconst X20.here hx rfl (hb hby at_233) ?_
          show Steps p.tables e below (T20.setTop (mkF m 234 #[.val (.int p0), .val (.int p1), .val (.int p2), .val (.int p3), .val (.int (0 : Int32)), .val (.ref b4), .unset, .unset] [(.int (1 : Int32)), (.int (2 : Int32)), (.ref b4)])) _
          refine XS.goto X20.here hx rfl (pc0 := 234) (pc' := 238) rfl (hb hby at_234) (by decide) (by decide) ?_
          exact kt)
        exact ⟨(1 : Int32), (if_neg hc230_24).symm, pre26⟩
    have tv27 := V20
    obtain ⟨cl27, Ar27, q27, S27, Ng27, H27, G27⟩ := tv27
    have hin27 : ¬ ((2 : Int32) < 0 ∨ cl27.slots.size ≤ ((2 : Int32)).toNatClampNeg) := inb_of S27 ⟨by decide, by decide⟩
    obtain ⟨T28, h28, X28, e28, W28, st28⟩ := stZ X20 hx hZ e20 Ar27 (j := (2 : Int32)) hin27 (g := (mkF m 238 #[.val (.int p0), .val (.int p1), .val (.int p2), .val (.int p3), .val (.int (0 : Int32)), .val (.ref b4), .unset, .unset] [(.int zz2), (.int (2 : Int32)), (.ref b4)])) rfl rfl (hb hby at_238)
    have pre29 : ∀ t, Steps p.tables e below (T28.setTop (mkF m 239 #[.val (.int p0), .val (.int p1), .val (.int p2), .val (.int p3), .val (.int (0 : Int32)), .val (.ref b4), .unset, .unset] [])) t → Steps p.tables e below (s₁.setTop (entryFrame m #[(.int p0), (.int p1), (.int p2), (.int p3)] maxLocals)) t := fun t kt => pre23 t (st28 _ kt)
    have V28 : Arv Z h28 b4 k4 .boolean (8 : Int32) [(.int zz0), (.int zz1), (.int zz2), (.int (0 : Int32)), (.int (0 : Int32)), (.int (0 : Int32)), (.int (0 : Int32)), (.int (0 : Int32))] (.int (0 : Int32)) := (by
      have q := Arv.set Ar27 q27 S27 Ng27 H27 G27 (fits_nar_bool zz2) W28 2 rfl (Nat.le_of_ble_eq_true rfl)
      rw [own_nar hm23] at q
      exact q)
    have K28 : Keep h0 h28 [] := K20.wr W28 (Or.inr sz4)
    have N28 := Fr.snoc X28 N20 gn4
    have Z28 : n0 ≤ h28.size := Nat.le_trans Z20 (Keep.of_wr W28).1
    have pre30 : ∀ t, Steps p.tables e below (T28.setTop (mkF m 246 #[.val (.int p0), .val (.int p1), .val (.int p2), .val (.int p3), .val (.int (0 : Int32)), .val (.ref b4), .unset, .unset] [(.int (p1 &&& (8 : Int32))), (.int (3 : Int32)), (.ref b4)])) t → Steps p.tables e below (s₁.setTop (entryFrame m #[(.int p0), (.int p1), (.int p2), (.int p3)] maxLocals)) t := fun t kt => pre29 t (by
      show Steps p.tables e below (T28.setTop (mkF m 239 #[.val (.int p0), .val (.int p1), .val (.int p2), .val (.int p3), .val (.int (0 : Int32)), .val (.ref b4), .unset, .unset] [])) _
      refine XS.aload X28.here hx rfl (hb hby at_239) rfl rfl ?_
      show Steps p.tables e below (T28.setTop (mkF m 241 #[.val (.int p0), .val (.int p1), .val (.int p2), .val (.int p3), .val (.int (0 : Int32)), .val (.ref b4), .unset, .unset] [(.ref b4)])) _
      refine XS.iconst X28.here hx rfl (hb hby at_241) ?_
      show Steps p.tables e below (T28.setTop (mkF m 242 #[.val (.int p0), .val (.int p1), .val (.int p2), .val (.int p3), .val (.int (0 : Int32)), .val (.ref b4), .unset, .unset] [(.int (3 : Int32)), (.ref b4)])) _
      refine XS.iloadN X28.here hx rfl (hb hby at_242) rfl ?_
      show Steps p.tables e below (T28.setTop (mkF m 243 #[.val (.int p0), .val (.int p1), .val (.int p2), .val (.int p3), .val (.int (0 : Int32)), .val (.ref b4), .unset, .unset] [(.int p1), (.int (3 : Int32)), (.ref b4)])) _
      refine XS.bipush X28.here hx rfl (hb hby at_243) ?_
      show Steps p.tables e below (T28.setTop (mkF m 245 #[.val (.int p0), .val (.int p1), .val (.int p2), .val (.int p3), .val (.int (0 : Int32)), .val (.ref b4), .unset, .unset] [(.int (8 : Int32)), (.int p1), (.int (3 : Int32)), (.ref b4)])) _
      refine XS.iand X28.here hx rfl (hb hby at_245) rfl ?_
      exact kt)
    obtain ⟨zz3, hm31, pre31⟩ : ∃ (zz3 : Int32), (zz3 = if (p1 &&& (8 : Int32)) = (0 : Int32) then (0 : Int32) else (1 : Int32)) ∧ ∀ t, Steps p.tables e below (T28.setTop (mkF m 254 #[.val (.int p0), .val (.int p1), .val (.int p2), .val (.int p3), .val (.int (0 : Int32)), .val (.ref b4), .unset, .unset] [(.int zz3), (.int (3 : Int32)), (.ref b4)])) t → Steps p.tables e below (s₁.setTop (entryFrame m #[(.int p0), (.int p1), (.int p2), (.int p3)] maxLocals)) t := by
      by_cases hc246_32 : (p1 &&& (8 : Int32)) = (0 : Int32)
      · have pre33 : ∀ t, Steps p.tables e below (T28.setTop (mkF m 254 #[.val (.int p0), .val (.int p1), .val (.int p2), .val (.int p3), .val (.int (0 : Int32)), .val (.ref b4), .unset, .unset] [(.int (0 : Int32)), (.int (3 : Int32)), (.ref b4)])) t → Steps p.tables e below (s₁.setTop (entryFrame m #[(.int p0), (.int p1), (.int p2), (.int p3)] maxLocals)) t := fun t kt => pre30 t (by
          show Steps p.tables e below (T28.setTop (mkF m 246 #[.val (.int p0), .val (.int p1), .val (.int p2), .val (.int p3), .val (.int (0 : Int32)), .val (.ref b4), .unset, .unset] [(.int (p1 &&& (8 : Int32))), (.int (3 : Int32)), (.ref b4)])) _
          refine XS.ifYes X28.here hx rfl (pc0 := 246) (pc' := 253) rfl (hb hby at_246) rfl ((if0 _ _).trans (teq hc246_32).1) (by decide) (by decide) ?_
          show Steps p.tables e below (T28.setTop (mkF m 253 #[.val (.int p0), .val (.int p1), .val (.int p2), .val (.int p3), .val (.int (0 : Int32)), .val (.ref b4), .unset, .unset] [(.int (3 : Int32)), (.ref b4)])) _
          refine XS.iconst X28.here hx rfl (hb hby at_253) ?_
          exact kt)
        exact ⟨(0 : Int32), (if_pos hc246_32).symm, pre33⟩
      · have pre34 : ∀ t, Steps p.tables e below (T28.setTop (mkF m 254 #[.val (.int p0), .val (.int p1), .val (.int p2), .val (.int p3), .val (.int (0 : Int32)), .val (.ref b4), .unset, .unset] [(.int (1 : Int32)), (.int (3 : Int32)), (.ref b4)])) t → Steps p.tables e below (s₁.setTop (entryFrame m #[(.int p0), (.int p1), (.int p2), (.int p3)] maxLocals)) t := fun t kt => pre30 t (by
          show Steps p.tables e below (T28.setTop (mkF m 246 #[.val (.int p0), .val (.int p1), .val (.int p2), .val (.int p3), .val (.int (0 : Int32)), .val (.ref b4), .unset, .unset] [(.int (p1 &&& (8 : Int32))), (.int (3 : Int32)), (.ref b4)])) _
          refine XS.ifNo X28.here hx rfl (hb hby at_246) rfl ((if0 _ _).trans (feq hc246_32).1) ?_
          show Steps p.tables e below (T28.setTop (mkF m 249 #[.val (.int p0), .val (.int p1), .val (.int p2), .val (.int p3), .val (.int (0 : Int32)), .val (.ref b4), .unset, .unset] [(.int (3 : Int32)), (.ref b4)])) _
          refine XS.iconst X28.here hx rfl (hb hby at_249) ?_
          show Steps p.tables e below (T28.setTop (mkF m 250 #[.val (.int p0), .val (.int p1), .val (.int p2), .val (.int p3), .val (.int (0 : Int32)), .val (.ref b4), .unset, .unset] [(.int (1 : Int32)), (.int (3 : Int32)), (.ref b4)])) _
          refine XS.goto X28.here hx rfl (pc0 := 250) (pc' := 254) rfl (hb hby at_250) (by decide) (by decide) ?_
          exact kt)
        exact ⟨(1 : Int32), (if_neg hc246_32).symm, pre34⟩
    have tv35 := V28
    obtain ⟨cl35, Ar35, q35, S35, Ng35, H35, G35⟩ := tv35
    have hin35 : ¬ ((3 : Int32) < 0 ∨ cl35.slots.size ≤ ((3 : Int32)).toNatClampNeg) := inb_of S35 ⟨by decide, by decide⟩
    obtain ⟨T36, h36, X36, e36, W36, st36⟩ := stZ X28 hx hZ e28 Ar35 (j := (3 : Int32)) hin35 (g := (mkF m 254 #[.val (.int p0), .val (.int p1), .val (.int p2), .val (.int p3), .val (.int (0 : Int32)), .val (.ref b4), .unset, .unset] [(.int zz3), (.int (3 : Int32)), (.ref b4)])) rfl rfl (hb hby at_254)
    have pre37 : ∀ t, Steps p.tables e below (T36.setTop (mkF m 255 #[.val (.int p0), .val (.int p1), .val (.int p2), .val (.int p3), .val (.int (0 : Int32)), .val (.ref b4), .unset, .unset] [])) t → Steps p.tables e below (s₁.setTop (entryFrame m #[(.int p0), (.int p1), (.int p2), (.int p3)] maxLocals)) t := fun t kt => pre31 t (st36 _ kt)
    have V36 : Arv Z h36 b4 k4 .boolean (8 : Int32) [(.int zz0), (.int zz1), (.int zz2), (.int zz3), (.int (0 : Int32)), (.int (0 : Int32)), (.int (0 : Int32)), (.int (0 : Int32))] (.int (0 : Int32)) := (by
      have q := Arv.set Ar35 q35 S35 Ng35 H35 G35 (fits_nar_bool zz3) W36 3 rfl (Nat.le_of_ble_eq_true rfl)
      rw [own_nar hm31] at q
      exact q)
    have K36 : Keep h0 h36 [] := K28.wr W36 (Or.inr sz4)
    have N36 := Fr.snoc X36 N28 gn4
    have Z36 : n0 ≤ h36.size := Nat.le_trans Z28 (Keep.of_wr W36).1
    have pre38 : ∀ t, Steps p.tables e below (T36.setTop (mkF m 262 #[.val (.int p0), .val (.int p1), .val (.int p2), .val (.int p3), .val (.int (0 : Int32)), .val (.ref b4), .unset, .unset] [(.int (p1 &&& (16 : Int32))), (.int (4 : Int32)), (.ref b4)])) t → Steps p.tables e below (s₁.setTop (entryFrame m #[(.int p0), (.int p1), (.int p2), (.int p3)] maxLocals)) t := fun t kt => pre37 t (by
      show Steps p.tables e below (T36.setTop (mkF m 255 #[.val (.int p0), .val (.int p1), .val (.int p2), .val (.int p3), .val (.int (0 : Int32)), .val (.ref b4), .unset, .unset] [])) _
      refine XS.aload X36.here hx rfl (hb hby at_255) rfl rfl ?_
      show Steps p.tables e below (T36.setTop (mkF m 257 #[.val (.int p0), .val (.int p1), .val (.int p2), .val (.int p3), .val (.int (0 : Int32)), .val (.ref b4), .unset, .unset] [(.ref b4)])) _
      refine XS.iconst X36.here hx rfl (hb hby at_257) ?_
      show Steps p.tables e below (T36.setTop (mkF m 258 #[.val (.int p0), .val (.int p1), .val (.int p2), .val (.int p3), .val (.int (0 : Int32)), .val (.ref b4), .unset, .unset] [(.int (4 : Int32)), (.ref b4)])) _
      refine XS.iloadN X36.here hx rfl (hb hby at_258) rfl ?_
      show Steps p.tables e below (T36.setTop (mkF m 259 #[.val (.int p0), .val (.int p1), .val (.int p2), .val (.int p3), .val (.int (0 : Int32)), .val (.ref b4), .unset, .unset] [(.int p1), (.int (4 : Int32)), (.ref b4)])) _
      refine XS.bipush X36.here hx rfl (hb hby at_259) ?_
      show Steps p.tables e below (T36.setTop (mkF m 261 #[.val (.int p0), .val (.int p1), .val (.int p2), .val (.int p3), .val (.int (0 : Int32)), .val (.ref b4), .unset, .unset] [(.int (16 : Int32)), (.int p1), (.int (4 : Int32)), (.ref b4)])) _
      refine XS.iand X36.here hx rfl (hb hby at_261) rfl ?_
      exact kt)
    obtain ⟨zz4, hm39, pre39⟩ : ∃ (zz4 : Int32), (zz4 = if (p1 &&& (16 : Int32)) = (0 : Int32) then (0 : Int32) else (1 : Int32)) ∧ ∀ t, Steps p.tables e below (T36.setTop (mkF m 270 #[.val (.int p0), .val (.int p1), .val (.int p2), .val (.int p3), .val (.int (0 : Int32)), .val (.ref b4), .unset, .unset] [(.int zz4), (.int (4 : Int32)), (.ref b4)])) t → Steps p.tables e below (s₁.setTop (entryFrame m #[(.int p0), (.int p1), (.int p2), (.int p3)] maxLocals)) t := by
      by_cases hc262_40 : (p1 &&& (16 : Int32)) = (0 : Int32)
      · have pre41 : ∀ t, Steps p.tables e below (T36.setTop (mkF m 270 #[.val (.int p0), .val (.int p1), .val (.int p2), .val (.int p3), .val (.int (0 : Int32)), .val (.ref b4), .unset, .unset] [(.int (0 : Int32)), (.int (4 : Int32)), (.ref b4)])) t → Steps p.tables e below (s₁.setTop (entryFrame m #[(.int p0), (.int p1), (.int p2), (.int p3)] maxLocals)) t := fun t kt => pre38 t (by
          show Steps p.tables e below (T36.setTop (mkF m 262 #[.val (.int p0), .val (.int p1), .val (.int p2), .val (.int p3), .val (.int (0 : Int32)), .val (.ref b4), .unset, .unset] [(.int (p1 &&& (16 : Int32))), (.int (4 : Int32)), (.ref b4)])) _
          refine XS.ifYes X36.here hx rfl (pc0 := 262) (pc' := 269) rfl (hb hby at_262) rfl ((if0 _ _).trans (teq hc262_40).1) (by decide) (by decide) ?_
          show Steps p.tables e below (T36.setTop (mkF m 269 #[.val (.int p0), .val (.int p1), .val (.int p2), .val (.int p3), .val (.int (0 : Int32)), .val (.ref b4), .unset, .unset] [(.int (4 : Int32)), (.ref b4)])) _
          refine XS.iconst X36.here hx rfl (hb hby at_269) ?_
          exact kt)
        exact ⟨(0 : Int32), (if_pos hc262_40).symm, pre41⟩
      · have pre42 : ∀ t, Steps p.tables e below (T36.setTop (mkF m 270 #[.val (.int p0), .val (.int p1), .val (.int p2), .val (.int p3), .val (.int (0 : Int32)), .val (.ref b4), .unset, .unset] [(.int (1 : Int32)), (.int (4 : Int32)), (.ref b4)])) t → Steps p.tables e below (s₁.setTop (entryFrame m #[(.int p0), (.int p1), (.int p2), (.int p3)] maxLocals)) t := fun t kt => pre38 t (by
          show Steps p.tables e below (T36.setTop (mkF m 262 #[.val (.int p0), .val (.int p1), .val (.int p2), .val (.int p3), .val (.int (0 : Int32)), .val (.ref b4), .unset, .unset] [(.int (p1 &&& (16 : Int32))), (.int (4 : Int32)), (.ref b4)])) _
          refine XS.ifNo X36.here hx rfl (hb hby at_262) rfl ((if0 _ _).trans (feq hc262_40).1) ?_
          show Steps p.tables e below (T36.setTop (mkF m 265 #[.val (.int p0), .val (.int p1), .val (.int p2), .val (.int p3), .val (.int (0 : Int32)), .val (.ref b4), .unset, .unset] [(.int (4 : Int32)), (.ref b4)])) _
          refine XS.iconst X36.here hx rfl (hb hby at_265) ?_
          show Steps p.tables e below (T36.setTop (mkF m 266 #[.val (.int p0), .val (.int p1), .val (.int p2), .val (.int p3), .val (.int (0 : Int32)), .val (.ref b4), .unset, .unset] [(.int (1 : Int32)), (.int (4 : Int32)), (.ref b4)])) _
          refine XS.goto X36.here hx rfl (pc0 := 266) (pc' := 270) rfl (hb hby at_266) (by decide) (by decide) ?_
          exact kt)
        exact ⟨(1 : Int32), (if_neg hc262_40).symm, pre42⟩
    have tv43 := V36
    obtain ⟨cl43, Ar43, q43, S43, Ng43, H43, G43⟩ := tv43
    have hin43 : ¬ ((4 : Int32) < 0 ∨ cl43.slots.size ≤ ((4 : Int32)).toNatClampNeg) := inb_of S43 ⟨by decide, by decide⟩
    obtain ⟨T44, h44, X44, e44, W44, st44⟩ := stZ X36 hx hZ e36 Ar43 (j := (4 : Int32)) hin43 (g := (mkF m 270 #[.val (.int p0), .val (.int p1), .val (.int p2), .val (.int p3), .val (.int (0 : Int32)), .val (.ref b4), .unset, .unset] [(.int zz4), (.int (4 : Int32)), (.ref b4)])) rfl rfl (hb hby at_270)
    have pre45 : ∀ t, Steps p.tables e below (T44.setTop (mkF m 271 #[.val (.int p0), .val (.int p1), .val (.int p2), .val (.int p3), .val (.int (0 : Int32)), .val (.ref b4), .unset, .unset] [])) t → Steps p.tables e below (s₁.setTop (entryFrame m #[(.int p0), (.int p1), (.int p2), (.int p3)] maxLocals)) t := fun t kt => pre39 t (st44 _ kt)
    have V44 : Arv Z h44 b4 k4 .boolean (8 : Int32) [(.int zz0), (.int zz1), (.int zz2), (.int zz3), (.int zz4), (.int (0 : Int32)), (.int (0 : Int32)), (.int (0 : Int32))] (.int (0 : Int32)) := (by
      have q := Arv.set Ar43 q43 S43 Ng43 H43 G43 (fits_nar_bool zz4) W44 4 rfl (Nat.le_of_ble_eq_true rfl)
      rw [own_nar hm39] at q
      exact q)
    have K44 : Keep h0 h44 [] := K36.wr W44 (Or.inr sz4)
    have N44 := Fr.snoc X44 N36 gn4
    have Z44 : n0 ≤ h44.size := Nat.le_trans Z36 (Keep.of_wr W44).1
    have pre46 : ∀ t, Steps p.tables e below (T44.setTop (mkF m 278 #[.val (.int p0), .val (.int p1), .val (.int p2), .val (.int p3), .val (.int (0 : Int32)), .val (.ref b4), .unset, .unset] [(.int (p1 &&& (32 : Int32))), (.int (5 : Int32)), (.ref b4)])) t → Steps p.tables e below (s₁.setTop (entryFrame m #[(.int p0), (.int p1), (.int p2), (.int p3)] maxLocals)) t := fun t kt => pre45 t (by
      show Steps p.tables e below (T44.setTop (mkF m 271 #[.val (.int p0), .val (.int p1), .val (.int p2), .val (.int p3), .val (.int (0 : Int32)), .val (.ref b4), .unset, .unset] [])) _
      refine XS.aload X44.here hx rfl (hb hby at_271) rfl rfl ?_
      show Steps p.tables e below (T44.setTop (mkF m 273 #[.val (.int p0), .val (.int p1), .val (.int p2), .val (.int p3), .val (.int (0 : Int32)), .val (.ref b4), .unset, .unset] [(.ref b4)])) _
      refine XS.iconst X44.here hx rfl (hb hby at_273) ?_
      show Steps p.tables e below (T44.setTop (mkF m 274 #[.val (.int p0), .val (.int p1), .val (.int p2), .val (.int p3), .val (.int (0 : Int32)), .val (.ref b4), .unset, .unset] [(.int (5 : Int32)), (.ref b4)])) _
      refine XS.iloadN X44.here hx rfl (hb hby at_274) rfl ?_
      show Steps p.tables e below (T44.setTop (mkF m 275 #[.val (.int p0), .val (.int p1), .val (.int p2), .val (.int p3), .val (.int (0 : Int32)), .val (.ref b4), .unset, .unset] [(.int p1), (.int (5 : Int32)), (.ref b4)])) _
      refine XS.bipush X44.here hx rfl (hb hby at_275) ?_
      show Steps p.tables e below (T44.setTop (mkF m 277 #[.val (.int p0), .val (.int p1), .val (.int p2), .val (.int p3), .val (.int (0 : Int32)), .val (.ref b4), .unset, .unset] [(.int (32 : Int32)), (.int p1), (.int (5 : Int32)), (.ref b4)])) _
      refine XS.iand X44.here hx rfl (hb hby at_277) rfl ?_
      exact kt)
    obtain ⟨zz5, hm47, pre47⟩ : ∃ (zz5 : Int32), (zz5 = if (p1 &&& (32 : Int32)) = (0 : Int32) then (0 : Int32) else (1 : Int32)) ∧ ∀ t, Steps p.tables e below (T44.setTop (mkF m 286 #[.val (.int p0), .val (.int p1), .val (.int p2), .val (.int p3), .val (.int (0 : Int32)), .val (.ref b4), .unset, .unset] [(.int zz5), (.int (5 : Int32)), (.ref b4)])) t → Steps p.tables e below (s₁.setTop (entryFrame m #[(.int p0), (.int p1), (.int p2), (.int p3)] maxLocals)) t := by
      by_cases hc278_48 : (p1 &&& (32 : Int32)) = (0 : Int32)
      · have pre49 : ∀ t, Steps p.tables e below (T44.setTop (mkF m 286 #[.val (.int p0), .val (.int p1), .val (.int p2), .val (.int p3), .val (.int (0 : Int32)), .val (.ref b4), .unset, .unset] [(.int (0 : Int32)), (.int (5 : Int32)), (.ref b4)])) t → Steps p.tables e below (s₁.setTop (entryFrame m #[(.int p0), (.int p1), (.int p2), (.int p3)] maxLocals)) t := fun t kt => pre46 t (by
          show Steps p.tables e below (T44.setTop (mkF m 278 #[.val (.int p0), .val (.int p1), .val (.int p2), .val (.int p3), .val (.int (0 : Int32)), .val (.ref b4), .unset, .unset] [(.int (p1 &&& (32 : Int32))), (.int (5 : Int32)), (.ref b4)])) _
          refine XS.ifYes X44.here hx rfl (pc0 := 278) (pc' := 285) rfl (hb hby at_278) rfl ((if0 _ _).trans (teq hc278_48).1) (by decide) (by decide) ?_
          show Steps p.tables e below (T44.setTop (mkF m 285 #[.val (.int p0), .val (.int p1), .val (.int p2), .val (.int p3), .val (.int (0 : Int32)), .val (.ref b4), .unset, .unset] [(.int (5 : Int32)), (.ref b4)])) _
          refine XS.iconst X44.here hx rfl (hb hby at_285) ?_
          exact kt)
        exact ⟨(0 : Int32), (if_pos hc278_48).symm, pre49⟩
      · have pre50 : ∀ t, Steps p.tables e below (T44.setTop (mkF m 286 #[.val (.int p0), .val (.int p1), .val (.int p2), .val (.int p3), .val (.int (0 : Int32)), .val (.ref b4), .unset, .unset] [(.int (1 : Int32)), (.int (5 : Int32)), (.ref b4)])) t → Steps p.tables e below (s₁.setTop (entryFrame m #[(.int p0), (.int p1), (.int p2), (.int p3)] maxLocals)) t := fun t kt => pre46 t (by
          show Steps p.tables e below (T44.setTop (mkF m 278 #[.val (.int p0), .val (.int p1), .val (.int p2), .val (.int p3), .val (.int (0 : Int32)), .val (.ref b4), .unset, .unset] [(.int (p1 &&& (32 : Int32))), (.int (5 : Int32)), (.ref b4)])) _
          refine XS.ifNo X44.here hx rfl (hb hby at_278) rfl ((if0 _ _).trans (feq hc278_48).1) ?_
          show Steps p.tables e below (T44.setTop (mkF m 281 #[.val (.int p0), .val (.int p1), .val (.int p2), .val (.int p3), .val (.int (0 : Int32)), .val (.ref b4), .unset, .unset] [(.int (5 : Int32)), (.ref b4)])) _
          refine XS.iconst X44.here hx rfl (hb hby at_281) ?_
          show Steps p.tables e below (T44.setTop (mkF m 282 #[.val (.int p0), .val (.int p1), .val (.int p2), .val (.int p3), .val (.int (0 : Int32)), .val (.ref b4), .unset, .unset] [(.int (1 : Int32)), (.int (5 : Int32)), (.ref b4)])) _
          refine XS.goto X44.here hx rfl (pc0 := 282) (pc' := 286) rfl (hb hby at_282) (by decide) (by decide) ?_
          exact kt)
        exact ⟨(1 : Int32), (if_neg hc278_48).symm, pre50⟩
    have tv51 := V44
    obtain ⟨cl51, Ar51, q51, S51, Ng51, H51, G51⟩ := tv51
    have hin51 : ¬ ((5 : Int32) < 0 ∨ cl51.slots.size ≤ ((5 : Int32)).toNatClampNeg) := inb_of S51 ⟨by decide, by decide⟩
    obtain ⟨T52, h52, X52, e52, W52, st52⟩ := stZ X44 hx hZ e44 Ar51 (j := (5 : Int32)) hin51 (g := (mkF m 286 #[.val (.int p0), .val (.int p1), .val (.int p2), .val (.int p3), .val (.int (0 : Int32)), .val (.ref b4), .unset, .unset] [(.int zz5), (.int (5 : Int32)), (.ref b4)])) rfl rfl (hb hby at_286)
    have pre53 : ∀ t, Steps p.tables e below (T52.setTop (mkF m 287 #[.val (.int p0), .val (.int p1), .val (.int p2), .val (.int p3), .val (.int (0 : Int32)), .val (.ref b4), .unset, .unset] [])) t → Steps p.tables e below (s₁.setTop (entryFrame m #[(.int p0), (.int p1), (.int p2), (.int p3)] maxLocals)) t := fun t kt => pre47 t (st52 _ kt)
    have V52 : Arv Z h52 b4 k4 .boolean (8 : Int32) [(.int zz0), (.int zz1), (.int zz2), (.int zz3), (.int zz4), (.int zz5), (.int (0 : Int32)), (.int (0 : Int32))] (.int (0 : Int32)) := (by
      have q := Arv.set Ar51 q51 S51 Ng51 H51 G51 (fits_nar_bool zz5) W52 5 rfl (Nat.le_of_ble_eq_true rfl)
      rw [own_nar hm47] at q
      exact q)
    have K52 : Keep h0 h52 [] := K44.wr W52 (Or.inr sz4)
    have N52 := Fr.snoc X52 N44 gn4
    have Z52 : n0 ≤ h52.size := Nat.le_trans Z44 (Keep.of_wr W52).1
    have pre54 : ∀ t, Steps p.tables e below (T52.setTop (mkF m 295 #[.val (.int p0), .val (.int p1), .val (.int p2), .val (.int p3), .val (.int (0 : Int32)), .val (.ref b4), .unset, .unset] [(.int (p1 &&& (64 : Int32))), (.int (6 : Int32)), (.ref b4)])) t → Steps p.tables e below (s₁.setTop (entryFrame m #[(.int p0), (.int p1), (.int p2), (.int p3)] maxLocals)) t := fun t kt => pre53 t (by
      show Steps p.tables e below (T52.setTop (mkF m 287 #[.val (.int p0), .val (.int p1), .val (.int p2), .val (.int p3), .val (.int (0 : Int32)), .val (.ref b4), .unset, .unset] [])) _
      refine XS.aload X52.here hx rfl (hb hby at_287) rfl rfl ?_
      show Steps p.tables e below (T52.setTop (mkF m 289 #[.val (.int p0), .val (.int p1), .val (.int p2), .val (.int p3), .val (.int (0 : Int32)), .val (.ref b4), .unset, .unset] [(.ref b4)])) _
      refine XS.bipush X52.here hx rfl (hb hby at_289) ?_
      show Steps p.tables e below (T52.setTop (mkF m 291 #[.val (.int p0), .val (.int p1), .val (.int p2), .val (.int p3), .val (.int (0 : Int32)), .val (.ref b4), .unset, .unset] [(.int (6 : Int32)), (.ref b4)])) _
      refine XS.iloadN X52.here hx rfl (hb hby at_291) rfl ?_
      show Steps p.tables e below (T52.setTop (mkF m 292 #[.val (.int p0), .val (.int p1), .val (.int p2), .val (.int p3), .val (.int (0 : Int32)), .val (.ref b4), .unset, .unset] [(.int p1), (.int (6 : Int32)), (.ref b4)])) _
      refine XS.bipush X52.here hx rfl (hb hby at_292) ?_
      show Steps p.tables e below (T52.setTop (mkF m 294 #[.val (.int p0), .val (.int p1), .val (.int p2), .val (.int p3), .val (.int (0 : Int32)), .val (.ref b4), .unset, .unset] [(.int (64 : Int32)), (.int p1), (.int (6 : Int32)), (.ref b4)])) _
      refine XS.iand X52.here hx rfl (hb hby at_294) rfl ?_
      exact kt)
    obtain ⟨zz6, hm55, pre55⟩ : ∃ (zz6 : Int32), (zz6 = if (p1 &&& (64 : Int32)) = (0 : Int32) then (0 : Int32) else (1 : Int32)) ∧ ∀ t, Steps p.tables e below (T52.setTop (mkF m 303 #[.val (.int p0), .val (.int p1), .val (.int p2), .val (.int p3), .val (.int (0 : Int32)), .val (.ref b4), .unset, .unset] [(.int zz6), (.int (6 : Int32)), (.ref b4)])) t → Steps p.tables e below (s₁.setTop (entryFrame m #[(.int p0), (.int p1), (.int p2), (.int p3)] maxLocals)) t := by
      by_cases hc295_56 : (p1 &&& (64 : Int32)) = (0 : Int32)
      · have pre57 : ∀ t, Steps p.tables e below (T52.setTop (mkF m 303 #[.val (.int p0), .val (.int p1), .val (.int p2), .val (.int p3), .val (.int (0 : Int32)), .val (.ref b4), .unset, .unset] [(.int (0 : Int32)), (.int (6 : Int32)), (.ref b4)])) t → Steps p.tables e below (s₁.setTop (entryFrame m #[(.int p0), (.int p1), (.int p2), (.int p3)] maxLocals)) t := fun t kt => pre54 t (by
          show Steps p.tables e below (T52.setTop (mkF m 295 #[.val (.int p0), .val (.int p1), .val (.int p2), .val (.int p3), .val (.int (0 : Int32)), .val (.ref b4), .unset, .unset] [(.int (p1 &&& (64 : Int32))), (.int (6 : Int32)), (.ref b4)])) _
          refine XS.ifYes X52.here hx rfl (pc0 := 295) (pc' := 302) rfl (hb hby at_295) rfl ((if0 _ _).trans (teq hc295_56).1) (by decide) (by decide) ?_
          show Steps p.tables e below (T52.setTop (mkF m 302 #[.val (.int p0), .val (.int p1), .val (.int p2), .val (.int p3), .val (.int (0 : Int32)), .val (.ref b4), .unset, .unset] [(.int (6 : Int32)), (.ref b4)])) _
          refine XS.iconst X52.here hx rfl (hb hby at_302) ?_
          exact kt)
        exact ⟨(0 : Int32), (if_pos hc295_56).symm, pre57⟩
      · have pre58 : ∀ t, Steps p.tables e below (T52.setTop (mkF m 303 #[.val (.int p0), .val (.int p1), .val (.int p2), .val (.int p3), .val (.int (0 : Int32)), .val (.ref b4), .unset, .unset] [(.int (1 : Int32)), (.int (6 : Int32)), (.ref b4)])) t → Steps p.tables e below (s₁.setTop (entryFrame m #[(.int p0), (.int p1), (.int p2), (.int p3)] maxLocals)) t := fun t kt => pre54 t (by
          show Steps p.tables e below (T52.setTop (mkF m 295 #[.val (.int p0), .val (.int p1), .val (.int p2), .val (.int p3), .val (.int (0 : Int32)), .val (.ref b4), .unset, .unset] [(.int (p1 &&& (64 : Int32))), (.int (6 : Int32)), (.ref b4)])) _
          refine XS.ifNo X52.here hx rfl (hb hby at_295) rfl ((if0 _ _).trans (feq hc295_56).1) ?_
          show Steps p.tables e below (T52.setTop (mkF m 298 #[.val (.int p0), .val (.int p1), .val (.int p2), .val (.int p3), .val (.int (0 : Int32)), .val (.ref b4), .unset, .unset] [(.int (6 : Int32)), (.ref b4)])) _
          refine XS.iconst X52.here hx rfl (hb hby at_298) ?_
          show Steps p.tables e below (T52.setTop (mkF m 299 #[.val (.int p0), .val (.int p1), .val (.int p2), .val (.int p3), .val (.int (0 : Int32)), .val (.ref b4), .unset, .unset] [(.int (1 : Int32)), (.int (6 : Int32)), (.ref b4)])) _
          refine XS.goto X52.here hx rfl (pc0 := 299) (pc' := 303) rfl (hb hby at_299) (by decide) (by decide) ?_
          exact kt)
        exact ⟨(1 : Int32), (if_neg hc295_56).symm, pre58⟩
    have tv59 := V52
    obtain ⟨cl59, Ar59, q59, S59, Ng59, H59, G59⟩ := tv59
    have hin59 : ¬ ((6 : Int32) < 0 ∨ cl59.slots.size ≤ ((6 : Int32)).toNatClampNeg) := inb_of S59 ⟨by decide, by decide⟩
    obtain ⟨T60, h60, X60, e60, W60, st60⟩ := stZ X52 hx hZ e52 Ar59 (j := (6 : Int32)) hin59 (g := (mkF m 303 #[.val (.int p0), .val (.int p1), .val (.int p2), .val (.int p3), .val (.int (0 : Int32)), .val (.ref b4), .unset, .unset] [(.int zz6), (.int (6 : Int32)), (.ref b4)])) rfl rfl (hb hby at_303)
    have pre61 : ∀ t, Steps p.tables e below (T60.setTop (mkF m 304 #[.val (.int p0), .val (.int p1), .val (.int p2), .val (.int p3), .val (.int (0 : Int32)), .val (.ref b4), .unset, .unset] [])) t → Steps p.tables e below (s₁.setTop (entryFrame m #[(.int p0), (.int p1), (.int p2), (.int p3)] maxLocals)) t := fun t kt => pre55 t (st60 _ kt)
    have V60 : Arv Z h60 b4 k4 .boolean (8 : Int32) [(.int zz0), (.int zz1), (.int zz2), (.int zz3), (.int zz4), (.int zz5), (.int zz6), (.int (0 : Int32))] (.int (0 : Int32)) := (by
      have q := Arv.set Ar59 q59 S59 Ng59 H59 G59 (fits_nar_bool zz6) W60 6 rfl (Nat.le_of_ble_eq_true rfl)
      rw [own_nar hm55] at q
      exact q)
    have K60 : Keep h0 h60 [] := K52.wr W60 (Or.inr sz4)
    have N60 := Fr.snoc X60 N52 gn4
    have Z60 : n0 ≤ h60.size := Nat.le_trans Z52 (Keep.of_wr W60).1
    have pre62 : ∀ t, Steps p.tables e below (T60.setTop (mkF m 313 #[.val (.int p0), .val (.int p1), .val (.int p2), .val (.int p3), .val (.int (0 : Int32)), .val (.ref b4), .unset, .unset] [(.int (p1 &&& (128 : Int32))), (.int (7 : Int32)), (.ref b4)])) t → Steps p.tables e below (s₁.setTop (entryFrame m #[(.int p0), (.int p1), (.int p2), (.int p3)] maxLocals)) t := fun t kt => pre61 t (by
      show Steps p.tables e below (T60.setTop (mkF m 304 #[.val (.int p0), .val (.int p1), .val (.int p2), .val (.int p3), .val (.int (0 : Int32)), .val (.ref b4), .unset, .unset] [])) _
      refine XS.aload X60.here hx rfl (hb hby at_304) rfl rfl ?_
      show Steps p.tables e below (T60.setTop (mkF m 306 #[.val (.int p0), .val (.int p1), .val (.int p2), .val (.int p3), .val (.int (0 : Int32)), .val (.ref b4), .unset, .unset] [(.ref b4)])) _
      refine XS.bipush X60.here hx rfl (hb hby at_306) ?_
      show Steps p.tables e below (T60.setTop (mkF m 308 #[.val (.int p0), .val (.int p1), .val (.int p2), .val (.int p3), .val (.int (0 : Int32)), .val (.ref b4), .unset, .unset] [(.int (7 : Int32)), (.ref b4)])) _
      refine XS.iloadN X60.here hx rfl (hb hby at_308) rfl ?_
      show Steps p.tables e below (T60.setTop (mkF m 309 #[.val (.int p0), .val (.int p1), .val (.int p2), .val (.int p3), .val (.int (0 : Int32)), .val (.ref b4), .unset, .unset] [(.int p1), (.int (7 : Int32)), (.ref b4)])) _
      refine XS.sipush X60.here hx rfl (hb hby at_309) ?_
      show Steps p.tables e below (T60.setTop (mkF m 312 #[.val (.int p0), .val (.int p1), .val (.int p2), .val (.int p3), .val (.int (0 : Int32)), .val (.ref b4), .unset, .unset] [(.int (128 : Int32)), (.int p1), (.int (7 : Int32)), (.ref b4)])) _
      refine XS.iand X60.here hx rfl (hb hby at_312) rfl ?_
      exact kt)
    obtain ⟨zz7, hm63, pre63⟩ : ∃ (zz7 : Int32), (zz7 = if (p1 &&& (128 : Int32)) = (0 : Int32) then (0 : Int32) else (1 : Int32)) ∧ ∀ t, Steps p.tables e below (T60.setTop (mkF m 321 #[.val (.int p0), .val (.int p1), .val (.int p2), .val (.int p3), .val (.int (0 : Int32)), .val (.ref b4), .unset, .unset] [(.int zz7), (.int (7 : Int32)), (.ref b4)])) t → Steps p.tables e below (s₁.setTop (entryFrame m #[(.int p0), (.int p1), (.int p2), (.int p3)] maxLocals)) t := by
      by_cases hc313_64 : (p1 &&& (128 : Int32)) = (0 : Int32)
      · have pre65 : ∀ t, Steps p.tables e below (T60.setTop (mkF m 321 #[.val (.int p0), .val (.int p1), .val (.int p2), .val (.int p3), .val (.int (0 : Int32)), .val (.ref b4), .unset, .unset] [(.int (0 : Int32)), (.int (7 : Int32)), (.ref b4)])) t → Steps p.tables e below (s₁.setTop (entryFrame m #[(.int p0), (.int p1), (.int p2), (.int p3)] maxLocals)) t := fun t kt => pre62 t (by
          show Steps p.tables e below (T60.setTop (mkF m 313 #[.val (.int p0), .val (.int p1), .val (.int p2), .val (.int p3), .val (.int (0 : Int32)), .val (.ref b4), .unset, .unset] [(.int (p1 &&& (128 : Int32))), (.int (7 : Int32)), (.ref b4)])) _
          refine XS.ifYes X60.here hx rfl (pc0 := 313) (pc' := 320) rfl (hb hby at_313) rfl ((if0 _ _).trans (teq hc313_64).1) (by decide) (by decide) ?_
          show Steps p.tables e below (T60.setTop (mkF m 320 #[.val (.int p0), .val (.int p1), .val (.int p2), .val (.int p3), .val (.int (0 : Int32)), .val (.ref b4), .unset, .unset] [(.int (7 : Int32)), (.ref b4)])) _
          refine XS.iconst X60.here hx rfl (hb hby at_320) ?_
          exact kt)
        exact ⟨(0 : Int32), (if_pos hc313_64).symm, pre65⟩
      · have pre66 : ∀ t, Steps p.tables e below (T60.setTop (mkF m 321 #[.val (.int p0), .val (.int p1), .val (.int p2), .val (.int p3), .val (.int (0 : Int32)), .val (.ref b4), .unset, .unset] [(.int (1 : Int32)), (.int (7 : Int32)), (.ref b4)])) t → Steps p.tables e below (s₁.setTop (entryFrame m #[(.int p0), (.int p1), (.int p2), (.int p3)] maxLocals)) t := fun t kt => pre62 t (by
          show Steps p.tables e below (T60.setTop (mkF m 313 #[.val (.int p0), .val (.int p1), .val (.int p2), .val (.int p3), .val (.int (0 : Int32)), .val (.ref b4), .unset, .unset] [(.int (p1 &&& (128 : Int32))), (.int (7 : Int32)), (.ref b4)])) _
          refine XS.ifNo X60.here hx rfl (hb hby at_313) rfl ((if0 _ _).trans (feq hc313_64).1) ?_
          show Steps p.tables e below (T60.setTop (mkF m 316 #[.val (.int p0), .val (.int p1), .val (.int p2), .val (.int p3), .val (.int (0 : Int32)), .val (.ref b4), .unset, .unset] [(.int (7 : Int32)), (.ref b4)])) _
          refine XS.iconst X60.here hx rfl (hb hby at_316) ?_
          show Steps p.tables e below (T60.setTop (mkF m 317 #[.val (.int p0), .val (.int p1), .val (.int p2), .val (.int p3), .val (.int (0 : Int32)), .val (.ref b4), .unset, .unset] [(.int (1 : Int32)), (.int (7 : Int32)), (.ref b4)])) _
          refine XS.goto X60.here hx rfl (pc0 := 317) (pc' := 321) rfl (hb hby at_317) (by decide) (by decide) ?_
          exact kt)
        exact ⟨(1 : Int32), (if_neg hc313_64).symm, pre66⟩
    have tv67 := V60
    obtain ⟨cl67, Ar67, q67, S67, Ng67, H67, G67⟩ := tv67
    have hin67 : ¬ ((7 : Int32) < 0 ∨ cl67.slots.size ≤ ((7 : Int32)).toNatClampNeg) := inb_of S67 ⟨by decide, by decide⟩
    obtain ⟨T68, h68, X68, e68, W68, st68⟩ := stZ X60 hx hZ e60 Ar67 (j := (7 : Int32)) hin67 (g := (mkF m 321 #[.val (.int p0), .val (.int p1), .val (.int p2), .val (.int p3), .val (.int (0 : Int32)), .val (.ref b4), .unset, .unset] [(.int zz7), (.int (7 : Int32)), (.ref b4)])) rfl rfl (hb hby at_321)
    have pre69 : ∀ t, Steps p.tables e below (T68.setTop (mkF m 322 #[.val (.int p0), .val (.int p1), .val (.int p2), .val (.int p3), .val (.int (0 : Int32)), .val (.ref b4), .unset, .unset] [])) t → Steps p.tables e below (s₁.setTop (entryFrame m #[(.int p0), (.int p1), (.int p2), (.int p3)] maxLocals)) t := fun t kt => pre63 t (st68 _ kt)
    have V68 : Arv Z h68 b4 k4 .boolean (8 : Int32) [(.int zz0), (.int zz1), (.int zz2), (.int zz3), (.int zz4), (.int zz5), (.int zz6), (.int zz7)] (.int (0 : Int32)) := (by
      have q := Arv.set Ar67 q67 S67 Ng67 H67 G67 (fits_nar_bool zz7) W68 7 rfl (Nat.le_of_ble_eq_true rfl)
      rw [own_nar hm63] at q
      exact q)
    have K68 : Keep h0 h68 [] := K60.wr W68 (Or.inr sz4)
    have N68 := Fr.snoc X68 N60 gn4
    have Z68 : n0 ≤ h68.size := Nat.le_trans Z60 (Keep.of_wr W68).1
    have pre70 : ∀ t, Steps p.tables e below (T68.setTop (mkF m 328 #[.val (.int p0), .val (.int p1), .val (.int p2), .val (.int p3), .val (.int (0 : Int32)), .val (.ref b4), .val (.int (p2 &&& (7 : Int32))), .unset] [])) t → Steps p.tables e below (s₁.setTop (entryFrame m #[(.int p0), (.int p1), (.int p2), (.int p3)] maxLocals)) t := fun t kt => pre69 t (by
      show Steps p.tables e below (T68.setTop (mkF m 322 #[.val (.int p0), .val (.int p1), .val (.int p2), .val (.int p3), .val (.int (0 : Int32)), .val (.ref b4), .unset, .unset] [])) _
      refine XS.iloadN X68.here hx rfl (hb hby at_322) rfl ?_
      show Steps p.tables e below (T68.setTop (mkF m 323 #[.val (.int p0), .val (.int p1), .val (.int p2), .val (.int p3), .val (.int (0 : Int32)), .val (.ref b4), .unset, .unset] [(.int p2)])) _
      refine XS.bipush X68.here hx rfl (hb hby at_323) ?_
      show Steps p.tables e below (T68.setTop (mkF m 325 #[.val (.int p0), .val (.int p1), .val (.int p2), .val (.int p3), .val (.int (0 : Int32)), .val (.ref b4), .unset, .unset] [(.int (7 : Int32)), (.int p2)])) _
      refine XS.iand X68.here hx rfl (hb hby at_325) rfl ?_
      show Steps p.tables e below (T68.setTop (mkF m 326 #[.val (.int p0), .val (.int p1), .val (.int p2), .val (.int p3), .val (.int (0 : Int32)), .val (.ref b4), .unset, .unset] [(.int (p2 &&& (7 : Int32)))])) _
      refine XS.istore X68.here hx rfl (hb hby at_326) rfl (l' := #[.val (.int p0), .val (.int p1), .val (.int p2), .val (.int p3), .val (.int (0 : Int32)), .val (.ref b4), .val (.int (p2 &&& (7 : Int32))), .unset]) rfl ?_
      exact kt)
    obtain ⟨pp, hm71, pre71⟩ : ∃ (pp : Int32), (¬ pp < 0 ∧ pp < (8 : Int32)) ∧ ∀ t, Steps p.tables e below (T68.setTop (mkF m 328 #[.val (.int p0), .val (.int p1), .val (.int p2), .val (.int p3), .val (.int (0 : Int32)), .val (.ref b4), .val (.int pp), .unset] [])) t → Steps p.tables e below (s₁.setTop (entryFrame m #[(.int p0), (.int p1), (.int p2), (.int p3)] maxLocals)) t := ⟨(p2 &&& (7 : Int32)), own_p7 p2, pre70⟩
    have pre72 : ∀ t, Steps p.tables e below (T68.setTop (mkF m 333 #[.val (.int p0), .val (.int p1), .val (.int p2), .val (.int p3), .val (.int (0 : Int32)), .val (.ref b4), .val (.int pp), .unset] [(.int p3), (.int pp), (.ref b4)])) t → Steps p.tables e below (s₁.setTop (entryFrame m #[(.int p0), (.int p1), (.int p2), (.int p3)] maxLocals)) t := fun t kt => pre71 t (by
      show Steps p.tables e below (T68.setTop (mkF m 328 #[.val (.int p0), .val (.int p1), .val (.int p2), .val (.int p3), .val (.int (0 : Int32)), .val (.ref b4), .val (.int pp), .unset] [])) _
      refine XS.aload X68.here hx rfl (hb hby at_328) rfl rfl ?_
      show Steps p.tables e below (T68.setTop (mkF m 330 #[.val (.int p0), .val (.int p1), .val (.int p2), .val (.int p3), .val (.int (0 : Int32)), .val (.ref b4), .val (.int pp), .unset] [(.ref b4)])) _
      refine XS.iload X68.here hx rfl (hb hby at_330) rfl ?_
      show Steps p.tables e below (T68.setTop (mkF m 332 #[.val (.int p0), .val (.int p1), .val (.int p2), .val (.int p3), .val (.int (0 : Int32)), .val (.ref b4), .val (.int pp), .unset] [(.int pp), (.ref b4)])) _
      refine XS.iloadN X68.here hx rfl (hb hby at_332) rfl ?_
      exact kt)
    obtain ⟨_, _, ⟨T73, L73, k73, n73⟩, -, X73, ⟨Lc73, hQ73, l73, y73, z73⟩, st73⟩ := Jvm.LawKit.callS X68 hx (y := (⟨"com/example/baton/baton/support/Skipped", "marked", "([ZII)[Z"⟩ : MethodName)) hown (mvT hZ (hw _ (List.mem_of_getElem? (i := 1) rfl))) (mvT hZ (hw _ (List.mem_of_getElem? (i := 2) rfl))) (mvT hZ (hw _ (List.mem_of_getElem? (i := 3) rfl))) (mvT hZ (hw _ (List.mem_of_getElem? (i := 4) rfl))) (by decide) (backOf (W := 0) (rm1a l Z av hw [] b4 pp p3 k4 (8 : Int32) [] [(.int zz0), (.int zz1), (.int zz2), (.int zz3), (.int zz4), (.int zz5), (.int zz6), (.int zz7)] h68 n0 Z68 V68.arh hm71 gn4) hZ (hw _ (List.mem_of_getElem? (i := 4) rfl)) (hw _ (List.mem_of_getElem? (i := 3) rfl)) (by decide) (by decide)) (g := (mkF m 333 #[.val (.int p0), .val (.int p1), .val (.int p2), .val (.int p3), .val (.int (0 : Int32)), .val (.ref b4), .val (.int pp), .unset] [(.int p3), (.int pp), (.ref b4)])) rfl (by rw [hml]; rfl) (argsL := [(.ref b4), (.int pp), (.int p3)]) (rest := []) (lenOf pd___ZII__Z rfl) rfl (by show 2 * 0 + _ ≤ _; exact Nat.le_of_eq rfl) (hb hby at_333) (fun _ _ => ⟨rfl, e68, (by decide : 1 + 0 ≤ _), (by decide : 8 + 0 ≤ _)⟩)
    dsimp only [Pt.U, Pt.locs, Pt.cells, Pt.slots] at X73 l73 y73 z73 st73 hQ73
    subst l73 y73 z73
    obtain ⟨rfl, N73q, Kq73, Fq73_0⟩ := hQ73
    have N73 := Fr.app N68 N73q
    have K73 : Keep h0 T73.heap [] := K68.trans Kq73 (allS (Or.inr sz4) all0)
    have Z73 : n0 ≤ T73.heap.size := Nat.le_trans Z68 Kq73.1
    have Fq73_0' : Arh Z T73.heap b4 k4 .boolean (8 : Int32) [(pp, (.int (1 : Int32)))] [(.int zz0), (.int zz1), (.int zz2), (.int zz3), (.int zz4), (.int zz5), (.int zz6), (.int zz7)] (.int (0 : Int32)) := Fq73_0
    have pre74 : ∀ t, Steps p.tables e below (T73.setTop (mkF m 336 #[.val (.int p0), .val (.int p1), .val (.int p2), .val (.int p3), .val (.int (0 : Int32)), .val (.ref b4), .val (.int pp), .unset] [(.ref b4)])) t → Steps p.tables e below (s₁.setTop (entryFrame m #[(.int p0), (.int p1), (.int p2), (.int p3)] maxLocals)) t := fun t kt => pre72 t (st73 _ kt)
    have pre75 : ∀ t, Steps p.tables e below (T73.setTop (mkF m 353 #[.val (.int p0), .val (.int p1), .val (.int p2), .val (.int p3), .val (.int (0 : Int32)), .val (.ref b4), .val (.int pp), .val (.ref b4)] [(.int pp), (.int p1), (.int (0 : Int32)), (.ref b4)])) t → Steps p.tables e below (s₁.setTop (entryFrame m #[(.int p0), (.int p1), (.int p2), (.int p3)] maxLocals)) t := fun t kt => pre74 t (by
      show Steps p.tables e below (T73.setTop (mkF m 336 #[.val (.int p0), .val (.int p1), .val (.int p2), .val (.int p3), .val (.int (0 : Int32)), .val (.ref b4), .val (.int pp), .unset] [(.ref b4)])) _
      refine XS.astore X73.here hx rfl (hb hby at_336) rfl rfl (l' := #[.val (.int p0), .val (.int p1), .val (.int p2), .val (.int p3), .val (.int (0 : Int32)), .val (.ref b4), .val (.int pp), .val (.ref b4)]) rfl ?_
      show Steps p.tables e below (T73.setTop (mkF m 338 #[.val (.int p0), .val (.int p1), .val (.int p2), .val (.int p3), .val (.int (0 : Int32)), .val (.ref b4), .val (.int pp), .val (.ref b4)] [])) _
      refine XS.aload X73.here hx rfl (hb hby at_338) rfl rfl ?_
      show Steps p.tables e below (T73.setTop (mkF m 340 #[.val (.int p0), .val (.int p1), .val (.int p2), .val (.int p3), .val (.int (0 : Int32)), .val (.ref b4), .val (.int pp), .val (.ref b4)] [(.ref b4)])) _
      refine XS.aload X73.here hx rfl (hb hby at_340) rfl rfl ?_
      show Steps p.tables e below (T73.setTop (mkF m 342 #[.val (.int p0), .val (.int p1), .val (.int p2), .val (.int p3), .val (.int (0 : Int32)), .val (.ref b4), .val (.int pp), .val (.ref b4)] [(.ref b4), (.ref b4)])) _
      refine Jvm.RoadKit.acmp (g := (mkF m 342 #[.val (.int p0), .val (.int p1), .val (.int p2), .val (.int p3), .val (.int (0 : Int32)), .val (.ref b4), .val (.int pp), .val (.ref b4)] [(.ref b4), (.ref b4)])) X73 hx rfl rfl rfl (pc0 := 342) (pc' := 347) (same := true) rfl (hb hby at_342) rfl (decide_eq_true rfl) (by decide) (by decide) ?_
      show Steps p.tables e below (T73.setTop (mkF m 347 #[.val (.int p0), .val (.int p1), .val (.int p2), .val (.int p3), .val (.int (0 : Int32)), .val (.ref b4), .val (.int pp), .val (.ref b4)] [])) _
      refine XS.aload X73.here hx rfl (hb hby at_347) rfl rfl ?_
      show Steps p.tables e below (T73.setTop (mkF m 349 #[.val (.int p0), .val (.int p1), .val (.int p2), .val (.int p3), .val (.int (0 : Int32)), .val (.ref b4), .val (.int pp), .val (.ref b4)] [(.ref b4)])) _
      refine XS.iconst X73.here hx rfl (hb hby at_349) ?_
      show Steps p.tables e below (T73.setTop (mkF m 350 #[.val (.int p0), .val (.int p1), .val (.int p2), .val (.int p3), .val (.int (0 : Int32)), .val (.ref b4), .val (.int pp), .val (.ref b4)] [(.int (0 : Int32)), (.ref b4)])) _
      refine XS.iloadN X73.here hx rfl (hb hby at_350) rfl ?_
      show Steps p.tables e below (T73.setTop (mkF m 351 #[.val (.int p0), .val (.int p1), .val (.int p2), .val (.int p3), .val (.int (0 : Int32)), .val (.ref b4), .val (.int pp), .val (.ref b4)] [(.int p1), (.int (0 : Int32)), (.ref b4)])) _
      refine XS.iload X73.here hx rfl (hb hby at_351) rfl ?_
      exact kt)
    have tv76 := Fq73_0'
    obtain ⟨cl76, Ar76, q76, S76, Ng76, H76, G76⟩ := tv76
    have hin76 : ¬ ((0 : Int32) < 0 ∨ cl76.slots.size ≤ ((0 : Int32)).toNatClampNeg) := inb_of S76 ⟨by decide, by decide⟩
    obtain ⟨_, _, ⟨T77, L77, k77, n77⟩, -, X77, ⟨Lc77, hQ77, l77, y77, z77⟩, st77⟩ := Jvm.LawKit.callS X73 hx (y := (⟨"com/example/baton/baton/support/SkippedMarkedPinLaw", "kept", "([ZIII)Z"⟩ : MethodName)) hown (mvT hZ (hw _ (List.mem_of_getElem? (i := 5) rfl))) (mvT hZ (hw _ (List.mem_of_getElem? (i := 6) rfl))) (mvT hZ (hw _ (List.mem_of_getElem? (i := 7) rfl))) (mvT hZ (hw _ (List.mem_of_getElem? (i := 8) rfl))) (by decide) (backOf (W := 0) (rm2 l Z av hw [] b4 (0 : Int32) p1 pp cl76 (if (0 : Int32) = pp then (1 : Int32) else zz0) T73.heap n0 Z73 Ar76 hin76 (atH H76 hin76 (own_hit (0 : Int32) pp _ zz0 (by decide) rfl)) (own_kept p1 (0 : Int32) (1 : Int32) pp zz0 0 (by decide) (by decide) hm7)) hZ (hw _ (List.mem_of_getElem? (i := 8) rfl)) (hw _ (List.mem_of_getElem? (i := 7) rfl)) (by decide) (by decide)) (g := (mkF m 353 #[.val (.int p0), .val (.int p1), .val (.int p2), .val (.int p3), .val (.int (0 : Int32)), .val (.ref b4), .val (.int pp), .val (.ref b4)] [(.int pp), (.int p1), (.int (0 : Int32)), (.ref b4)])) rfl (by rw [hml]; rfl) (argsL := [(.ref b4), (.int (0 : Int32)), (.int p1), (.int pp)]) (rest := []) (lenOf pd___ZIII_Z rfl) rfl (by show 2 * 0 + _ ≤ _; exact Nat.le_of_eq rfl) (hb hby at_353) (fun _ _ => ⟨rfl, rfl, (by decide : 1 + 0 ≤ _), (by decide : 8 + 0 ≤ _)⟩)
    dsimp only [Pt.U, Pt.locs, Pt.cells, Pt.slots] at X77 l77 y77 z77 st77 hQ77
    subst l77 y77 z77
    obtain ⟨rfl, N77q, e77⟩ := hQ77
    have N77 := Fr.app N73 N77q
    have pre78 : ∀ t, Steps p.tables e below (T77.setTop (mkF m 356 #[.val (.int p0), .val (.int p1), .val (.int p2), .val (.int p3), .val (.int (0 : Int32)), .val (.ref b4), .val (.int pp), .val (.ref b4)] [(.int (1 : Int32))])) t → Steps p.tables e below (s₁.setTop (entryFrame m #[(.int p0), (.int p1), (.int p2), (.int p3)] maxLocals)) t := fun t kt => pre75 t (st77 _ kt)
    have pre79 : ∀ t, Steps p.tables e below (T77.setTop (mkF m 365 #[.val (.int p0), .val (.int p1), .val (.int p2), .val (.int p3), .val (.int (0 : Int32)), .val (.ref b4), .val (.int pp), .val (.ref b4)] [(.int pp), (.int p1), (.int (1 : Int32)), (.ref b4)])) t → Steps p.tables e below (s₁.setTop (entryFrame m #[(.int p0), (.int p1), (.int p2), (.int p3)] maxLocals)) t := fun t kt => pre78 t (by
      show Steps p.tables e below (T77.setTop (mkF m 356 #[.val (.int p0), .val (.int p1), .val (.int p2), .val (.int p3), .val (.int (0 : Int32)), .val (.ref b4), .val (.int pp), .val (.ref b4)] [(.int (1 : Int32))])) _
      refine XS.ifNo X77.here hx rfl (hb hby at_356) rfl ((if0 _ _).trans (feq (by decide : ¬ ((1 : Int32) = (0 : Int32)))).1) ?_
      show Steps p.tables e below (T77.setTop (mkF m 359 #[.val (.int p0), .val (.int p1), .val (.int p2), .val (.int p3), .val (.int (0 : Int32)), .val (.ref b4), .val (.int pp), .val (.ref b4)] [])) _
      refine XS.aload X77.here hx rfl (hb hby at_359) rfl rfl ?_
      show Steps p.tables e below (T77.setTop (mkF m 361 #[.val (.int p0), .val (.int p1), .val (.int p2), .val (.int p3), .val (.int (0 : Int32)), .val (.ref b4), .val (.int pp), .val (.ref b4)] [(.ref b4)])) _
      refine XS.iconst X77.here hx rfl (hb hby at_361) ?_
      show Steps p.tables e below (T77.setTop (mkF m 362 #[.val (.int p0), .val (.int p1), .val (.int p2), .val (.int p3), .val (.int (0 : Int32)), .val (.ref b4), .val (.int pp), .val (.ref b4)] [(.int (1 : Int32)), (.ref b4)])) _
      refine XS.iloadN X77.here hx rfl (hb hby at_362) rfl ?_
      show Steps p.tables e below (T77.setTop (mkF m 363 #[.val (.int p0), .val (.int p1), .val (.int p2), .val (.int p3), .val (.int (0 : Int32)), .val (.ref b4), .val (.int pp), .val (.ref b4)] [(.int p1), (.int (1 : Int32)), (.ref b4)])) _
      refine XS.iload X77.here hx rfl (hb hby at_363) rfl ?_
      exact kt)
    have tv80 := Fq73_0'
    obtain ⟨cl80, Ar80, q80, S80, Ng80, H80, G80⟩ := tv80
    have hin80 : ¬ ((1 : Int32) < 0 ∨ cl80.slots.size ≤ ((1 : Int32)).toNatClampNeg) := inb_of S80 ⟨by decide, by decide⟩
    obtain ⟨_, _, ⟨T81, L81, k81, n81⟩, -, X81, ⟨Lc81, hQ81, l81, y81, z81⟩, st81⟩ := Jvm.LawKit.callS X77 hx (y := (⟨"com/example/baton/baton/support/SkippedMarkedPinLaw", "kept", "([ZIII)Z"⟩ : MethodName)) hown (mvT hZ (hw _ (List.mem_of_getElem? (i := 5) rfl))) (mvT hZ (hw _ (List.mem_of_getElem? (i := 6) rfl))) (mvT hZ (hw _ (List.mem_of_getElem? (i := 7) rfl))) (mvT hZ (hw _ (List.mem_of_getElem? (i := 8) rfl))) (by decide) (backOf (W := 0) (rm2 l Z av hw [] b4 (1 : Int32) p1 pp cl80 (if (1 : Int32) = pp then (1 : Int32) else zz1) T73.heap n0 Z73 Ar80 hin80 (atH H80 hin80 (own_hit (1 : Int32) pp _ zz1 (by decide) rfl)) (own_kept p1 (1 : Int32) (2 : Int32) pp zz1 1 (by decide) (by decide) hm15)) hZ (hw _ (List.mem_of_getElem? (i := 8) rfl)) (hw _ (List.mem_of_getElem? (i := 7) rfl)) (by decide) (by decide)) (g := (mkF m 365 #[.val (.int p0), .val (.int p1), .val (.int p2), .val (.int p3), .val (.int (0 : Int32)), .val (.ref b4), .val (.int pp), .val (.ref b4)] [(.int pp), (.int p1), (.int (1 : Int32)), (.ref b4)])) rfl (by rw [hml]; rfl) (argsL := [(.ref b4), (.int (1 : Int32)), (.int p1), (.int pp)]) (rest := []) (lenOf pd___ZIII_Z rfl) rfl (by show 2 * 0 + _ ≤ _; exact Nat.le_of_eq rfl) (hb hby at_365) (fun _ _ => ⟨rfl, e77, (by decide : 1 + 0 ≤ _), (by decide : 8 + 0 ≤ _)⟩)
    dsimp only [Pt.U, Pt.locs, Pt.cells, Pt.slots] at X81 l81 y81 z81 st81 hQ81
    subst l81 y81 z81
    obtain ⟨rfl, N81q, e81⟩ := hQ81
    have N81 := Fr.app N77 N81q
    have pre82 : ∀ t, Steps p.tables e below (T81.setTop (mkF m 368 #[.val (.int p0), .val (.int p1), .val (.int p2), .val (.int p3), .val (.int (0 : Int32)), .val (.ref b4), .val (.int pp), .val (.ref b4)] [(.int (1 : Int32))])) t → Steps p.tables e below (s₁.setTop (entryFrame m #[(.int p0), (.int p1), (.int p2), (.int p3)] maxLocals)) t := fun t kt => pre79 t (st81 _ kt)
    have pre83 : ∀ t, Steps p.tables e below (T81.setTop (mkF m 377 #[.val (.int p0), .val (.int p1), .val (.int p2), .val (.int p3), .val (.int (0 : Int32)), .val (.ref b4), .val (.int pp), .val (.ref b4)] [(.int pp), (.int p1), (.int (2 : Int32)), (.ref b4)])) t → Steps p.tables e below (s₁.setTop (entryFrame m #[(.int p0), (.int p1), (.int p2), (.int p3)] maxLocals)) t := fun t kt => pre82 t (by
      show Steps p.tables e below (T81.setTop (mkF m 368 #[.val (.int p0), .val (.int p1), .val (.int p2), .val (.int p3), .val (.int (0 : Int32)), .val (.ref b4), .val (.int pp), .val (.ref b4)] [(.int (1 : Int32))])) _
      refine XS.ifNo X81.here hx rfl (hb hby at_368) rfl ((if0 _ _).trans (feq (by decide : ¬ ((1 : Int32) = (0 : Int32)))).1) ?_
      show Steps p.tables e below (T81.setTop (mkF m 371 #[.val (.int p0), .val (.int p1), .val (.int p2), .val (.int p3), .val (.int (0 : Int32)), .val (.ref b4), .val (.int pp), .val (.ref b4)] [])) _
      refine XS.aload X81.here hx rfl (hb hby at_371) rfl rfl ?_
      show Steps p.tables e below (T81.setTop (mkF m 373 #[.val (.int p0), .val (.int p1), .val (.int p2), .val (.int p3), .val (.int (0 : Int32)), .val (.ref b4), .val (.int pp), .val (.ref b4)] [(.ref b4)])) _
      refine XS.iconst X81.here hx rfl (hb hby at_373) ?_
      show Steps p.tables e below (T81.setTop (mkF m 374 #[.val (.int p0), .val (.int p1), .val (.int p2), .val (.int p3), .val (.int (0 : Int32)), .val (.ref b4), .val (.int pp), .val (.ref b4)] [(.int (2 : Int32)), (.ref b4)])) _
      refine XS.iloadN X81.here hx rfl (hb hby at_374) rfl ?_
      show Steps p.tables e below (T81.setTop (mkF m 375 #[.val (.int p0), .val (.int p1), .val (.int p2), .val (.int p3), .val (.int (0 : Int32)), .val (.ref b4), .val (.int pp), .val (.ref b4)] [(.int p1), (.int (2 : Int32)), (.ref b4)])) _
      refine XS.iload X81.here hx rfl (hb hby at_375) rfl ?_
      exact kt)
    have tv84 := Fq73_0'
    obtain ⟨cl84, Ar84, q84, S84, Ng84, H84, G84⟩ := tv84
    have hin84 : ¬ ((2 : Int32) < 0 ∨ cl84.slots.size ≤ ((2 : Int32)).toNatClampNeg) := inb_of S84 ⟨by decide, by decide⟩
    obtain ⟨_, _, ⟨T85, L85, k85, n85⟩, -, X85, ⟨Lc85, hQ85, l85, y85, z85⟩, st85⟩ := Jvm.LawKit.callS X81 hx (y := (⟨"com/example/baton/baton/support/SkippedMarkedPinLaw", "kept", "([ZIII)Z"⟩ : MethodName)) hown (mvT hZ (hw _ (List.mem_of_getElem? (i := 5) rfl))) (mvT hZ (hw _ (List.mem_of_getElem? (i := 6) rfl))) (mvT hZ (hw _ (List.mem_of_getElem? (i := 7) rfl))) (mvT hZ (hw _ (List.mem_of_getElem? (i := 8) rfl))) (by decide) (backOf (W := 0) (rm2 l Z av hw [] b4 (2 : Int32) p1 pp cl84 (if (2 : Int32) = pp then (1 : Int32) else zz2) T73.heap n0 Z73 Ar84 hin84 (atH H84 hin84 (own_hit (2 : Int32) pp _ zz2 (by decide) rfl)) (own_kept p1 (2 : Int32) (4 : Int32) pp zz2 2 (by decide) (by decide) hm23)) hZ (hw _ (List.mem_of_getElem? (i := 8) rfl)) (hw _ (List.mem_of_getElem? (i := 7) rfl)) (by decide) (by decide)) (g := (mkF m 377 #[.val (.int p0), .val (.int p1), .val (.int p2), .val (.int p3), .val (.int (0 : Int32)), .val (.ref b4), .val (.int pp), .val (.ref b4)] [(.int pp), (.int p1), (.int (2 : Int32)), (.ref b4)])) rfl (by rw [hml]; rfl) (argsL := [(.ref b4), (.int (2 : Int32)), (.int p1), (.int pp)]) (rest := []) (lenOf pd___ZIII_Z rfl) rfl (by show 2 * 0 + _ ≤ _; exact Nat.le_of_eq rfl) (hb hby at_377) (fun _ _ => ⟨rfl, e81, (by decide : 1 + 0 ≤ _), (by decide : 8 + 0 ≤ _)⟩)
    dsimp only [Pt.U, Pt.locs, Pt.cells, Pt.slots] at X85 l85 y85 z85 st85 hQ85
    subst l85 y85 z85
    obtain ⟨rfl, N85q, e85⟩ := hQ85
    have N85 := Fr.app N81 N85q
    have pre86 : ∀ t, Steps p.tables e below (T85.setTop (mkF m 380 #[.val (.int p0), .val (.int p1), .val (.int p2), .val (.int p3), .val (.int (0 : Int32)), .val (.ref b4), .val (.int pp), .val (.ref b4)] [(.int (1 : Int32))])) t → Steps p.tables e below (s₁.setTop (entryFrame m #[(.int p0), (.int p1), (.int p2), (.int p3)] maxLocals)) t := fun t kt => pre83 t (st85 _ kt)
    have pre87 : ∀ t, Steps p.tables e below (T85.setTop (mkF m 389 #[.val (.int p0), .val (.int p1), .val (.int p2), .val (.int p3), .val (.int (0 : Int32)), .val (.ref b4), .val (.int pp), .val (.ref b4)] [(.int pp), (.int p1), (.int (3 : Int32)), (.ref b4)])) t → Steps p.tables e below (s₁.setTop (entryFrame m #[(.int p0), (.int p1), (.int p2), (.int p3)] maxLocals)) t := fun t kt => pre86 t (by
      show Steps p.tables e below (T85.setTop (mkF m 380 #[.val (.int p0), .val (.int p1), .val (.int p2), .val (.int p3), .val (.int (0 : Int32)), .val (.ref b4), .val (.int pp), .val (.ref b4)] [(.int (1 : Int32))])) _
      refine XS.ifNo X85.here hx rfl (hb hby at_380) rfl ((if0 _ _).trans (feq (by decide : ¬ ((1 : Int32) = (0 : Int32)))).1) ?_
      show Steps p.tables e below (T85.setTop (mkF m 383 #[.val (.int p0), .val (.int p1), .val (.int p2), .val (.int p3), .val (.int (0 : Int32)), .val (.ref b4), .val (.int pp), .val (.ref b4)] [])) _
      refine XS.aload X85.here hx rfl (hb hby at_383) rfl rfl ?_
      show Steps p.tables e below (T85.setTop (mkF m 385 #[.val (.int p0), .val (.int p1), .val (.int p2), .val (.int p3), .val (.int (0 : Int32)), .val (.ref b4), .val (.int pp), .val (.ref b4)] [(.ref b4)])) _
      refine XS.iconst X85.here hx rfl (hb hby at_385) ?_
      show Steps p.tables e below (T85.setTop (mkF m 386 #[.val (.int p0), .val (.int p1), .val (.int p2), .val (.int p3), .val (.int (0 : Int32)), .val (.ref b4), .val (.int pp), .val (.ref b4)] [(.int (3 : Int32)), (.ref b4)])) _
      refine XS.iloadN X85.here hx rfl (hb hby at_386) rfl ?_
      show Steps p.tables e below (T85.setTop (mkF m 387 #[.val (.int p0), .val (.int p1), .val (.int p2), .val (.int p3), .val (.int (0 : Int32)), .val (.ref b4), .val (.int pp), .val (.ref b4)] [(.int p1), (.int (3 : Int32)), (.ref b4)])) _
      refine XS.iload X85.here hx rfl (hb hby at_387) rfl ?_
      exact kt)
    have tv88 := Fq73_0'
    obtain ⟨cl88, Ar88, q88, S88, Ng88, H88, G88⟩ := tv88
    have hin88 : ¬ ((3 : Int32) < 0 ∨ cl88.slots.size ≤ ((3 : Int32)).toNatClampNeg) := inb_of S88 ⟨by decide, by decide⟩
    obtain ⟨_, _, ⟨T89, L89, k89, n89⟩, -, X89, ⟨Lc89, hQ89, l89, y89, z89⟩, st89⟩ := Jvm.LawKit.callS X85 hx (y := (⟨"com/example/baton/baton/support/SkippedMarkedPinLaw", "kept", "([ZIII)Z"⟩ : MethodName)) hown (mvT hZ (hw _ (List.mem_of_getElem? (i := 5) rfl))) (mvT hZ (hw _ (List.mem_of_getElem? (i := 6) rfl))) (mvT hZ (hw _ (List.mem_of_getElem? (i := 7) rfl))) (mvT hZ (hw _ (List.mem_of_getElem? (i := 8) rfl))) (by decide) (backOf (W := 0) (rm2 l Z av hw [] b4 (3 : Int32) p1 pp cl88 (if (3 : Int32) = pp then (1 : Int32) else zz3) T73.heap n0 Z73 Ar88 hin88 (atH H88 hin88 (own_hit (3 : Int32) pp _ zz3 (by decide) rfl)) (own_kept p1 (3 : Int32) (8 : Int32) pp zz3 3 (by decide) (by decide) hm31)) hZ (hw _ (List.mem_of_getElem? (i := 8) rfl)) (hw _ (List.mem_of_getElem? (i := 7) rfl)) (by decide) (by decide)) (g := (mkF m 389 #[.val (.int p0), .val (.int p1), .val (.int p2), .val (.int p3), .val (.int (0 : Int32)), .val (.ref b4), .val (.int pp), .val (.ref b4)] [(.int pp), (.int p1), (.int (3 : Int32)), (.ref b4)])) rfl (by rw [hml]; rfl) (argsL := [(.ref b4), (.int (3 : Int32)), (.int p1), (.int pp)]) (rest := []) (lenOf pd___ZIII_Z rfl) rfl (by show 2 * 0 + _ ≤ _; exact Nat.le_of_eq rfl) (hb hby at_389) (fun _ _ => ⟨rfl, e85, (by decide : 1 + 0 ≤ _), (by decide : 8 + 0 ≤ _)⟩)
    dsimp only [Pt.U, Pt.locs, Pt.cells, Pt.slots] at X89 l89 y89 z89 st89 hQ89
    subst l89 y89 z89
    obtain ⟨rfl, N89q, e89⟩ := hQ89
    have N89 := Fr.app N85 N89q
    have pre90 : ∀ t, Steps p.tables e below (T89.setTop (mkF m 392 #[.val (.int p0), .val (.int p1), .val (.int p2), .val (.int p3), .val (.int (0 : Int32)), .val (.ref b4), .val (.int pp), .val (.ref b4)] [(.int (1 : Int32))])) t → Steps p.tables e below (s₁.setTop (entryFrame m #[(.int p0), (.int p1), (.int p2), (.int p3)] maxLocals)) t := fun t kt => pre87 t (st89 _ kt)
    have pre91 : ∀ t, Steps p.tables e below (T89.setTop (mkF m 401 #[.val (.int p0), .val (.int p1), .val (.int p2), .val (.int p3), .val (.int (0 : Int32)), .val (.ref b4), .val (.int pp), .val (.ref b4)] [(.int pp), (.int p1), (.int (4 : Int32)), (.ref b4)])) t → Steps p.tables e below (s₁.setTop (entryFrame m #[(.int p0), (.int p1), (.int p2), (.int p3)] maxLocals)) t := fun t kt => pre90 t (by
      show Steps p.tables e below (T89.setTop (mkF m 392 #[.val (.int p0), .val (.int p1), .val (.int p2), .val (.int p3), .val (.int (0 : Int32)), .val (.ref b4), .val (.int pp), .val (.ref b4)] [(.int (1 : Int32))])) _
      refine XS.ifNo X89.here hx rfl (hb hby at_392) rfl ((if0 _ _).trans (feq (by decide : ¬ ((1 : Int32) = (0 : Int32)))).1) ?_
      show Steps p.tables e below (T89.setTop (mkF m 395 #[.val (.int p0), .val (.int p1), .val (.int p2), .val (.int p3), .val (.int (0 : Int32)), .val (.ref b4), .val (.int pp), .val (.ref b4)] [])) _
      refine XS.aload X89.here hx rfl (hb hby at_395) rfl rfl ?_
      show Steps p.tables e below (T89.setTop (mkF m 397 #[.val (.int p0), .val (.int p1), .val (.int p2), .val (.int p3), .val (.int (0 : Int32)), .val (.ref b4), .val (.int pp), .val (.ref b4)] [(.ref b4)])) _
      refine XS.iconst X89.here hx rfl (hb hby at_397) ?_
      show Steps p.tables e below (T89.setTop (mkF m 398 #[.val (.int p0), .val (.int p1), .val (.int p2), .val (.int p3), .val (.int (0 : Int32)), .val (.ref b4), .val (.int pp), .val (.ref b4)] [(.int (4 : Int32)), (.ref b4)])) _
      refine XS.iloadN X89.here hx rfl (hb hby at_398) rfl ?_
      show Steps p.tables e below (T89.setTop (mkF m 399 #[.val (.int p0), .val (.int p1), .val (.int p2), .val (.int p3), .val (.int (0 : Int32)), .val (.ref b4), .val (.int pp), .val (.ref b4)] [(.int p1), (.int (4 : Int32)), (.ref b4)])) _
      refine XS.iload X89.here hx rfl (hb hby at_399) rfl ?_
      exact kt)
    have tv92 := Fq73_0'
    obtain ⟨cl92, Ar92, q92, S92, Ng92, H92, G92⟩ := tv92
    have hin92 : ¬ ((4 : Int32) < 0 ∨ cl92.slots.size ≤ ((4 : Int32)).toNatClampNeg) := inb_of S92 ⟨by decide, by decide⟩
    obtain ⟨_, _, ⟨T93, L93, k93, n93⟩, -, X93, ⟨Lc93, hQ93, l93, y93, z93⟩, st93⟩ := Jvm.LawKit.callS X89 hx (y := (⟨"com/example/baton/baton/support/SkippedMarkedPinLaw", "kept", "([ZIII)Z"⟩ : MethodName)) hown (mvT hZ (hw _ (List.mem_of_getElem? (i := 5) rfl))) (mvT hZ (hw _ (List.mem_of_getElem? (i := 6) rfl))) (mvT hZ (hw _ (List.mem_of_getElem? (i := 7) rfl))) (mvT hZ (hw _ (List.mem_of_getElem? (i := 8) rfl))) (by decide) (backOf (W := 0) (rm2 l Z av hw [] b4 (4 : Int32) p1 pp cl92 (if (4 : Int32) = pp then (1 : Int32) else zz4) T73.heap n0 Z73 Ar92 hin92 (atH H92 hin92 (own_hit (4 : Int32) pp _ zz4 (by decide) rfl)) (own_kept p1 (4 : Int32) (16 : Int32) pp zz4 4 (by decide) (by decide) hm39)) hZ (hw _ (List.mem_of_getElem? (i := 8) rfl)) (hw _ (List.mem_of_getElem? (i := 7) rfl)) (by decide) (by decide)) (g := (mkF m 401 #[.val (.int p0), .val (.int p1), .val (.int p2), .val (.int p3), .val (.int (0 : Int32)), .val (.ref b4), .val (.int pp), .val (.ref b4)] [(.int pp), (.int p1), (.int (4 : Int32)), (.ref b4)])) rfl (by rw [hml]; rfl) (argsL := [(.ref b4), (.int (4 : Int32)), (.int p1), (.int pp)]) (rest := []) (lenOf pd___ZIII_Z rfl) rfl (by show 2 * 0 + _ ≤ _; exact Nat.le_of_eq rfl) (hb hby at_401) (fun _ _ => ⟨rfl, e89, (by decide : 1 + 0 ≤ _), (by decide : 8 + 0 ≤ _)⟩)
    dsimp only [Pt.U, Pt.locs, Pt.cells, Pt.slots] at X93 l93 y93 z93 st93 hQ93
    subst l93 y93 z93
    obtain ⟨rfl, N93q, e93⟩ := hQ93
    have N93 := Fr.app N89 N93q
    have pre94 : ∀ t, Steps p.tables e below (T93.setTop (mkF m 404 #[.val (.int p0), .val (.int p1), .val (.int p2), .val (.int p3), .val (.int (0 : Int32)), .val (.ref b4), .val (.int pp), .val (.ref b4)] [(.int (1 : Int32))])) t → Steps p.tables e below (s₁.setTop (entryFrame m #[(.int p0), (.int p1), (.int p2), (.int p3)] maxLocals)) t := fun t kt => pre91 t (st93 _ kt)
    have pre95 : ∀ t, Steps p.tables e below (T93.setTop (mkF m 413 #[.val (.int p0), .val (.int p1), .val (.int p2), .val (.int p3), .val (.int (0 : Int32)), .val (.ref b4), .val (.int pp), .val (.ref b4)] [(.int pp), (.int p1), (.int (5 : Int32)), (.ref b4)])) t → Steps p.tables e below (s₁.setTop (entryFrame m #[(.int p0), (.int p1), (.int p2), (.int p3)] maxLocals)) t := fun t kt => pre94 t (by
      show Steps p.tables e below (T93.setTop (mkF m 404 #[.val (.int p0), .val (.int p1), .val (.int p2), .val (.int p3), .val (.int (0 : Int32)), .val (.ref b4), .val (.int pp), .val (.ref b4)] [(.int (1 : Int32))])) _
      refine XS.ifNo X93.here hx rfl (hb hby at_404) rfl ((if0 _ _).trans (feq (by decide : ¬ ((1 : Int32) = (0 : Int32)))).1) ?_
      show Steps p.tables e below (T93.setTop (mkF m 407 #[.val (.int p0), .val (.int p1), .val (.int p2), .val (.int p3), .val (.int (0 : Int32)), .val (.ref b4), .val (.int pp), .val (.ref b4)] [])) _
      refine XS.aload X93.here hx rfl (hb hby at_407) rfl rfl ?_
      show Steps p.tables e below (T93.setTop (mkF m 409 #[.val (.int p0), .val (.int p1), .val (.int p2), .val (.int p3), .val (.int (0 : Int32)), .val (.ref b4), .val (.int pp), .val (.ref b4)] [(.ref b4)])) _
      refine XS.iconst X93.here hx rfl (hb hby at_409) ?_
      show Steps p.tables e below (T93.setTop (mkF m 410 #[.val (.int p0), .val (.int p1), .val (.int p2), .val (.int p3), .val (.int (0 : Int32)), .val (.ref b4), .val (.int pp), .val (.ref b4)] [(.int (5 : Int32)), (.ref b4)])) _
      refine XS.iloadN X93.here hx rfl (hb hby at_410) rfl ?_
      show Steps p.tables e below (T93.setTop (mkF m 411 #[.val (.int p0), .val (.int p1), .val (.int p2), .val (.int p3), .val (.int (0 : Int32)), .val (.ref b4), .val (.int pp), .val (.ref b4)] [(.int p1), (.int (5 : Int32)), (.ref b4)])) _
      refine XS.iload X93.here hx rfl (hb hby at_411) rfl ?_
      exact kt)
    have tv96 := Fq73_0'
    obtain ⟨cl96, Ar96, q96, S96, Ng96, H96, G96⟩ := tv96
    have hin96 : ¬ ((5 : Int32) < 0 ∨ cl96.slots.size ≤ ((5 : Int32)).toNatClampNeg) := inb_of S96 ⟨by decide, by decide⟩
    obtain ⟨_, _, ⟨T97, L97, k97, n97⟩, -, X97, ⟨Lc97, hQ97, l97, y97, z97⟩, st97⟩ := Jvm.LawKit.callS X93 hx (y := (⟨"com/example/baton/baton/support/SkippedMarkedPinLaw", "kept", "([ZIII)Z"⟩ : MethodName)) hown (mvT hZ (hw _ (List.mem_of_getElem? (i := 5) rfl))) (mvT hZ (hw _ (List.mem_of_getElem? (i := 6) rfl))) (mvT hZ (hw _ (List.mem_of_getElem? (i := 7) rfl))) (mvT hZ (hw _ (List.mem_of_getElem? (i := 8) rfl))) (by decide) (backOf (W := 0) (rm2 l Z av hw [] b4 (5 : Int32) p1 pp cl96 (if (5 : Int32) = pp then (1 : Int32) else zz5) T73.heap n0 Z73 Ar96 hin96 (atH H96 hin96 (own_hit (5 : Int32) pp _ zz5 (by decide) rfl)) (own_kept p1 (5 : Int32) (32 : Int32) pp zz5 5 (by decide) (by decide) hm47)) hZ (hw _ (List.mem_of_getElem? (i := 8) rfl)) (hw _ (List.mem_of_getElem? (i := 7) rfl)) (by decide) (by decide)) (g := (mkF m 413 #[.val (.int p0), .val (.int p1), .val (.int p2), .val (.int p3), .val (.int (0 : Int32)), .val (.ref b4), .val (.int pp), .val (.ref b4)] [(.int pp), (.int p1), (.int (5 : Int32)), (.ref b4)])) rfl (by rw [hml]; rfl) (argsL := [(.ref b4), (.int (5 : Int32)), (.int p1), (.int pp)]) (rest := []) (lenOf pd___ZIII_Z rfl) rfl (by show 2 * 0 + _ ≤ _; exact Nat.le_of_eq rfl) (hb hby at_413) (fun _ _ => ⟨rfl, e93, (by decide : 1 + 0 ≤ _), (by decide : 8 + 0 ≤ _)⟩)
    dsimp only [Pt.U, Pt.locs, Pt.cells, Pt.slots] at X97 l97 y97 z97 st97 hQ97
    subst l97 y97 z97
    obtain ⟨rfl, N97q, e97⟩ := hQ97
    have N97 := Fr.app N93 N97q
    have pre98 : ∀ t, Steps p.tables e below (T97.setTop (mkF m 416 #[.val (.int p0), .val (.int p1), .val (.int p2), .val (.int p3), .val (.int (0 : Int32)), .val (.ref b4), .val (.int pp), .val (.ref b4)] [(.int (1 : Int32))])) t → Steps p.tables e below (s₁.setTop (entryFrame m #[(.int p0), (.int p1), (.int p2), (.int p3)] maxLocals)) t := fun t kt => pre95 t (st97 _ kt)
    have pre99 : ∀ t, Steps p.tables e below (T97.setTop (mkF m 426 #[.val (.int p0), .val (.int p1), .val (.int p2), .val (.int p3), .val (.int (0 : Int32)), .val (.ref b4), .val (.int pp), .val (.ref b4)] [(.int pp), (.int p1), (.int (6 : Int32)), (.ref b4)])) t → Steps p.tables e below (s₁.setTop (entryFrame m #[(.int p0), (.int p1), (.int p2), (.int p3)] maxLocals)) t := fun t kt => pre98 t (by
      show Steps p.tables e below (T97.setTop (mkF m 416 #[.val (.int p0), .val (.int p1), .val (.int p2), .val (.int p3), .val (.int (0 : Int32)), .val (.ref b4), .val (.int pp), .val (.ref b4)] [(.int (1 : Int32))])) _
      refine XS.ifNo X97.here hx rfl (hb hby at_416) rfl ((if0 _ _).trans (feq (by decide : ¬ ((1 : Int32) = (0 : Int32)))).1) ?_
      show Steps p.tables e below (T97.setTop (mkF m 419 #[.val (.int p0), .val (.int p1), .val (.int p2), .val (.int p3), .val (.int (0 : Int32)), .val (.ref b4), .val (.int pp), .val (.ref b4)] [])) _
      refine XS.aload X97.here hx rfl (hb hby at_419) rfl rfl ?_
      show Steps p.tables e below (T97.setTop (mkF m 421 #[.val (.int p0), .val (.int p1), .val (.int p2), .val (.int p3), .val (.int (0 : Int32)), .val (.ref b4), .val (.int pp), .val (.ref b4)] [(.ref b4)])) _
      refine XS.bipush X97.here hx rfl (hb hby at_421) ?_
      show Steps p.tables e below (T97.setTop (mkF m 423 #[.val (.int p0), .val (.int p1), .val (.int p2), .val (.int p3), .val (.int (0 : Int32)), .val (.ref b4), .val (.int pp), .val (.ref b4)] [(.int (6 : Int32)), (.ref b4)])) _
      refine XS.iloadN X97.here hx rfl (hb hby at_423) rfl ?_
      show Steps p.tables e below (T97.setTop (mkF m 424 #[.val (.int p0), .val (.int p1), .val (.int p2), .val (.int p3), .val (.int (0 : Int32)), .val (.ref b4), .val (.int pp), .val (.ref b4)] [(.int p1), (.int (6 : Int32)), (.ref b4)])) _
      refine XS.iload X97.here hx rfl (hb hby at_424) rfl ?_
      exact kt)
    have tv100 := Fq73_0'
    obtain ⟨cl100, Ar100, q100, S100, Ng100, H100, G100⟩ := tv100
    have hin100 : ¬ ((6 : Int32) < 0 ∨ cl100.slots.size ≤ ((6 : Int32)).toNatClampNeg) := inb_of S100 ⟨by decide, by decide⟩
    obtain ⟨_, _, ⟨T101, L101, k101, n101⟩, -, X101, ⟨Lc101, hQ101, l101, y101, z101⟩, st101⟩ := Jvm.LawKit.callS X97 hx (y := (⟨"com/example/baton/baton/support/SkippedMarkedPinLaw", "kept", "([ZIII)Z"⟩ : MethodName)) hown (mvT hZ (hw _ (List.mem_of_getElem? (i := 5) rfl))) (mvT hZ (hw _ (List.mem_of_getElem? (i := 6) rfl))) (mvT hZ (hw _ (List.mem_of_getElem? (i := 7) rfl))) (mvT hZ (hw _ (List.mem_of_getElem? (i := 8) rfl))) (by decide) (backOf (W := 0) (rm2 l Z av hw [] b4 (6 : Int32) p1 pp cl100 (if (6 : Int32) = pp then (1 : Int32) else zz6) T73.heap n0 Z73 Ar100 hin100 (atH H100 hin100 (own_hit (6 : Int32) pp _ zz6 (by decide) rfl)) (own_kept p1 (6 : Int32) (64 : Int32) pp zz6 6 (by decide) (by decide) hm55)) hZ (hw _ (List.mem_of_getElem? (i := 8) rfl)) (hw _ (List.mem_of_getElem? (i := 7) rfl)) (by decide) (by decide)) (g := (mkF m 426 #[.val (.int p0), .val (.int p1), .val (.int p2), .val (.int p3), .val (.int (0 : Int32)), .val (.ref b4), .val (.int pp), .val (.ref b4)] [(.int pp), (.int p1), (.int (6 : Int32)), (.ref b4)])) rfl (by rw [hml]; rfl) (argsL := [(.ref b4), (.int (6 : Int32)), (.int p1), (.int pp)]) (rest := []) (lenOf pd___ZIII_Z rfl) rfl (by show 2 * 0 + _ ≤ _; exact Nat.le_of_eq rfl) (hb hby at_426) (fun _ _ => ⟨rfl, e97, (by decide : 1 + 0 ≤ _), (by decide : 8 + 0 ≤ _)⟩)
    dsimp only [Pt.U, Pt.locs, Pt.cells, Pt.slots] at X101 l101 y101 z101 st101 hQ101
    subst l101 y101 z101
    obtain ⟨rfl, N101q, e101⟩ := hQ101
    have N101 := Fr.app N97 N101q
    have pre102 : ∀ t, Steps p.tables e below (T101.setTop (mkF m 429 #[.val (.int p0), .val (.int p1), .val (.int p2), .val (.int p3), .val (.int (0 : Int32)), .val (.ref b4), .val (.int pp), .val (.ref b4)] [(.int (1 : Int32))])) t → Steps p.tables e below (s₁.setTop (entryFrame m #[(.int p0), (.int p1), (.int p2), (.int p3)] maxLocals)) t := fun t kt => pre99 t (st101 _ kt)
    have pre103 : ∀ t, Steps p.tables e below (T101.setTop (mkF m 439 #[.val (.int p0), .val (.int p1), .val (.int p2), .val (.int p3), .val (.int (0 : Int32)), .val (.ref b4), .val (.int pp), .val (.ref b4)] [(.int pp), (.int p1), (.int (7 : Int32)), (.ref b4)])) t → Steps p.tables e below (s₁.setTop (entryFrame m #[(.int p0), (.int p1), (.int p2), (.int p3)] maxLocals)) t := fun t kt => pre102 t (by
      show Steps p.tables e below (T101.setTop (mkF m 429 #[.val (.int p0), .val (.int p1), .val (.int p2), .val (.int p3), .val (.int (0 : Int32)), .val (.ref b4), .val (.int pp), .val (.ref b4)] [(.int (1 : Int32))])) _
      refine XS.ifNo X101.here hx rfl (hb hby at_429) rfl ((if0 _ _).trans (feq (by decide : ¬ ((1 : Int32) = (0 : Int32)))).1) ?_
      show Steps p.tables e below (T101.setTop (mkF m 432 #[.val (.int p0), .val (.int p1), .val (.int p2), .val (.int p3), .val (.int (0 : Int32)), .val (.ref b4), .val (.int pp), .val (.ref b4)] [])) _
      refine XS.aload X101.here hx rfl (hb hby at_432) rfl rfl ?_
      show Steps p.tables e below (T101.setTop (mkF m 434 #[.val (.int p0), .val (.int p1), .val (.int p2), .val (.int p3), .val (.int (0 : Int32)), .val (.ref b4), .val (.int pp), .val (.ref b4)] [(.ref b4)])) _
      refine XS.bipush X101.here hx rfl (hb hby at_434) ?_
      show Steps p.tables e below (T101.setTop (mkF m 436 #[.val (.int p0), .val (.int p1), .val (.int p2), .val (.int p3), .val (.int (0 : Int32)), .val (.ref b4), .val (.int pp), .val (.ref b4)] [(.int (7 : Int32)), (.ref b4)])) _
      refine XS.iloadN X101.here hx rfl (hb hby at_436) rfl ?_
      show Steps p.tables e below (T101.setTop (mkF m 437 #[.val (.int p0), .val (.int p1), .val (.int p2), .val (.int p3), .val (.int (0 : Int32)), .val (.ref b4), .val (.int pp), .val (.ref b4)] [(.int p1), (.int (7 : Int32)), (.ref b4)])) _
      refine XS.iload X101.here hx rfl (hb hby at_437) rfl ?_
      exact kt)
    have tv104 := Fq73_0'
    obtain ⟨cl104, Ar104, q104, S104, Ng104, H104, G104⟩ := tv104
    have hin104 : ¬ ((7 : Int32) < 0 ∨ cl104.slots.size ≤ ((7 : Int32)).toNatClampNeg) := inb_of S104 ⟨by decide, by decide⟩
    obtain ⟨_, _, ⟨T105, L105, k105, n105⟩, -, X105, ⟨Lc105, hQ105, l105, y105, z105⟩, st105⟩ := Jvm.LawKit.callS X101 hx (y := (⟨"com/example/baton/baton/support/SkippedMarkedPinLaw", "kept", "([ZIII)Z"⟩ : MethodName)) hown (mvT hZ (hw _ (List.mem_of_getElem? (i := 5) rfl))) (mvT hZ (hw _ (List.mem_of_getElem? (i := 6) rfl))) (mvT hZ (hw _ (List.mem_of_getElem? (i := 7) rfl))) (mvT hZ (hw _ (List.mem_of_getElem? (i := 8) rfl))) (by decide) (backOf (W := 0) (rm2 l Z av hw [] b4 (7 : Int32) p1 pp cl104 (if (7 : Int32) = pp then (1 : Int32) else zz7) T73.heap n0 Z73 Ar104 hin104 (atH H104 hin104 (own_hit (7 : Int32) pp _ zz7 (by decide) rfl)) (own_kept p1 (7 : Int32) (128 : Int32) pp zz7 7 (by decide) (by decide) hm63)) hZ (hw _ (List.mem_of_getElem? (i := 8) rfl)) (hw _ (List.mem_of_getElem? (i := 7) rfl)) (by decide) (by decide)) (g := (mkF m 439 #[.val (.int p0), .val (.int p1), .val (.int p2), .val (.int p3), .val (.int (0 : Int32)), .val (.ref b4), .val (.int pp), .val (.ref b4)] [(.int pp), (.int p1), (.int (7 : Int32)), (.ref b4)])) rfl (by rw [hml]; rfl) (argsL := [(.ref b4), (.int (7 : Int32)), (.int p1), (.int pp)]) (rest := []) (lenOf pd___ZIII_Z rfl) rfl (by show 2 * 0 + _ ≤ _; exact Nat.le_of_eq rfl) (hb hby at_439) (fun _ _ => ⟨rfl, e101, (by decide : 1 + 0 ≤ _), (by decide : 8 + 0 ≤ _)⟩)
    dsimp only [Pt.U, Pt.locs, Pt.cells, Pt.slots] at X105 l105 y105 z105 st105 hQ105
    subst l105 y105 z105
    obtain ⟨rfl, N105q, e105⟩ := hQ105
    have N105 := Fr.app N101 N105q
    have pre106 : ∀ t, Steps p.tables e below (T105.setTop (mkF m 442 #[.val (.int p0), .val (.int p1), .val (.int p2), .val (.int p3), .val (.int (0 : Int32)), .val (.ref b4), .val (.int pp), .val (.ref b4)] [(.int (1 : Int32))])) t → Steps p.tables e below (s₁.setTop (entryFrame m #[(.int p0), (.int p1), (.int p2), (.int p3)] maxLocals)) t := fun t kt => pre103 t (st105 _ kt)
    have pre107 : ∀ t, Steps p.tables e below (T105.setTop (mkF m 450 #[.val (.int p0), .val (.int p1), .val (.int p2), .val (.int p3), .val (.int (0 : Int32)), .val (.ref b4), .val (.int pp), .val (.ref b4)] [(.int (1 : Int32))])) t → Steps p.tables e below (s₁.setTop (entryFrame m #[(.int p0), (.int p1), (.int p2), (.int p3)] maxLocals)) t := fun t kt => pre106 t (by
      show Steps p.tables e below (T105.setTop (mkF m 442 #[.val (.int p0), .val (.int p1), .val (.int p2), .val (.int p3), .val (.int (0 : Int32)), .val (.ref b4), .val (.int pp), .val (.ref b4)] [(.int (1 : Int32))])) _
      refine XS.ifNo X105.here hx rfl (hb hby at_442) rfl ((if0 _ _).trans (feq (by decide : ¬ ((1 : Int32) = (0 : Int32)))).1) ?_
      show Steps p.tables e below (T105.setTop (mkF m 445 #[.val (.int p0), .val (.int p1), .val (.int p2), .val (.int p3), .val (.int (0 : Int32)), .val (.ref b4), .val (.int pp), .val (.ref b4)] [])) _
      refine XS.iconst X105.here hx rfl (hb hby at_445) ?_
      show Steps p.tables e below (T105.setTop (mkF m 446 #[.val (.int p0), .val (.int p1), .val (.int p2), .val (.int p3), .val (.int (0 : Int32)), .val (.ref b4), .val (.int pp), .val (.ref b4)] [(.int (1 : Int32))])) _
      refine XS.goto X105.here hx rfl (pc0 := 446) (pc' := 450) rfl (hb hby at_446) (by decide) (by decide) ?_
      exact kt)
    obtain ⟨fs, hr, hrun, hended, hW, hsame⟩ := X105.leave (v := some (.int (1 : Int32))) (fun h => by rw [Bd.returns] at h; cases h)
    refine ⟨_, _, pre107 _ ?_, hrun, hended, _, _, rfl, ?_, ⟨_, rfl⟩, hW, hsame.mono (by decide) (by decide)⟩
    · show Steps p.tables e below (T105.setTop (mkF m 450 #[.val (.int p0), .val (.int p1), .val (.int p2), .val (.int p3), .val (.int (0 : Int32)), .val (.ref b4), .val (.int pp), .val (.ref b4)] [(.int (1 : Int32))])) _
      exact retN X105 hx (t := .boolean) Bd.returns (by simp) (hb hby at_450) hr
    · show Q0 Z p0 p1 p2 p3 h0 n0 _ T105.heap _
      rw [e105]
      exact ⟨rfl, N105⟩
  · have pre108 : ∀ t, Steps p.tables e below (s₁.setTop (mkF m 27 #[.val (.int p0), .val (.int p1), .val (.int p2), .val (.int p3), .val (.int (1 : Int32)), .val (.int ((1 : Int32) + (p3 &&& (255 : Int32)))), .unset, .unset] [])) t → Steps p.tables e below (s₁.setTop (entryFrame m #[(.int p0), (.int p1), (.int p2), (.int p3)] maxLocals)) t := fun t kt => pre1 t (by
      show Steps p.tables e below (s₁.setTop (mkF m 3 #[.val (.int p0), .val (.int p1), .val (.int p2), .val (.int p3), .unset, .unset, .unset, .unset] [(.int (p0 &&& (1 : Int32)))])) _
      refine XS.ifNo X0.here hx rfl (hb hby at_3) rfl ((if0 _ _).trans (feq hc3_2).1) ?_
      show Steps p.tables e below (s₁.setTop (mkF m 6 #[.val (.int p0), .val (.int p1), .val (.int p2), .val (.int p3), .unset, .unset, .unset, .unset] [])) _
      refine XS.iconst X0.here hx rfl (hb hby at_6) ?_
      show Steps p.tables e below (s₁.setTop (mkF m 7 #[.val (.int p0), .val (.int p1), .val (.int p2), .val (.int p3), .unset, .unset, .unset, .unset] [(.int (1 : Int32))])) _
      refine XS.goto X0.here hx rfl (pc0 := 7) (pc' := 11) rfl (hb hby at_7) (by decide) (by decide) ?_
      show Steps p.tables e below (s₁.setTop (mkF m 11 #[.val (.int p0), .val (.int p1), .val (.int p2), .val (.int p3), .unset, .unset, .unset, .unset] [(.int (1 : Int32))])) _
      refine XS.istore X0.here hx rfl (hb hby at_11) rfl (l' := #[.val (.int p0), .val (.int p1), .val (.int p2), .val (.int p3), .val (.int (1 : Int32)), .unset, .unset, .unset]) rfl ?_
      show Steps p.tables e below (s₁.setTop (mkF m 13 #[.val (.int p0), .val (.int p1), .val (.int p2), .val (.int p3), .val (.int (1 : Int32)), .unset, .unset, .unset] [])) _
      refine XS.iload X0.here hx rfl (hb hby at_13) rfl ?_
      show Steps p.tables e below (s₁.setTop (mkF m 15 #[.val (.int p0), .val (.int p1), .val (.int p2), .val (.int p3), .val (.int (1 : Int32)), .unset, .unset, .unset] [(.int (1 : Int32))])) _
      refine XS.ifNo X0.here hx rfl (hb hby at_15) rfl ((if0 _ _).trans (feq (by decide : ¬ ((1 : Int32) = (0 : Int32)))).1) ?_
      show Steps p.tables e below (s₁.setTop (mkF m 18 #[.val (.int p0), .val (.int p1), .val (.int p2), .val (.int p3), .val (.int (1 : Int32)), .unset, .unset, .unset] [])) _
      refine XS.iconst X0.here hx rfl (hb hby at_18) ?_
      show Steps p.tables e below (s₁.setTop (mkF m 19 #[.val (.int p0), .val (.int p1), .val (.int p2), .val (.int p3), .val (.int (1 : Int32)), .unset, .unset, .unset] [(.int (1 : Int32))])) _
      refine XS.iloadN X0.here hx rfl (hb hby at_19) rfl ?_
      show Steps p.tables e below (s₁.setTop (mkF m 20 #[.val (.int p0), .val (.int p1), .val (.int p2), .val (.int p3), .val (.int (1 : Int32)), .unset, .unset, .unset] [(.int p3), (.int (1 : Int32))])) _
      refine XS.sipush X0.here hx rfl (hb hby at_20) ?_
      show Steps p.tables e below (s₁.setTop (mkF m 23 #[.val (.int p0), .val (.int p1), .val (.int p2), .val (.int p3), .val (.int (1 : Int32)), .unset, .unset, .unset] [(.int (255 : Int32)), (.int p3), (.int (1 : Int32))])) _
      refine XS.iand X0.here hx rfl (hb hby at_23) rfl ?_
      show Steps p.tables e below (s₁.setTop (mkF m 24 #[.val (.int p0), .val (.int p1), .val (.int p2), .val (.int p3), .val (.int (1 : Int32)), .unset, .unset, .unset] [(.int (p3 &&& (255 : Int32))), (.int (1 : Int32))])) _
      refine XS.iadd X0.here hx rfl (hb hby at_24) rfl ?_
      show Steps p.tables e below (s₁.setTop (mkF m 25 #[.val (.int p0), .val (.int p1), .val (.int p2), .val (.int p3), .val (.int (1 : Int32)), .unset, .unset, .unset] [(.int ((1 : Int32) + (p3 &&& (255 : Int32))))])) _
      refine XS.istore X0.here hx rfl (hb hby at_25) rfl (l' := #[.val (.int p0), .val (.int p1), .val (.int p2), .val (.int p3), .val (.int (1 : Int32)), .val (.int ((1 : Int32) + (p3 &&& (255 : Int32)))), .unset, .unset]) rfl ?_
      exact kt)
    obtain ⟨nn, hm109, pre109⟩ : ∃ (nn : Int32), (1 ≤ nn.toInt ∧ nn.toInt ≤ 256) ∧ ∀ t, Steps p.tables e below (s₁.setTop (mkF m 27 #[.val (.int p0), .val (.int p1), .val (.int p2), .val (.int p3), .val (.int (1 : Int32)), .val (.int nn), .unset, .unset] [])) t → Steps p.tables e below (s₁.setTop (entryFrame m #[(.int p0), (.int p1), (.int p2), (.int p3)] maxLocals)) t := ⟨((1 : Int32) + (p3 &&& (255 : Int32))), own_n p3, pre108⟩
    have pre110 : ∀ t, Steps p.tables e below (s₁.setTop (mkF m 36 #[.val (.int p0), .val (.int p1), .val (.int p2), .val (.int p3), .val (.int (1 : Int32)), .val (.int nn), .val (.int ((p2 &&& (2147483647 : Int32)) % nn)), .unset] [])) t → Steps p.tables e below (s₁.setTop (entryFrame m #[(.int p0), (.int p1), (.int p2), (.int p3)] maxLocals)) t := fun t kt => pre109 t (by
      show Steps p.tables e below (s₁.setTop (mkF m 27 #[.val (.int p0), .val (.int p1), .val (.int p2), .val (.int p3), .val (.int (1 : Int32)), .val (.int nn), .unset, .unset] [])) _
      refine XS.iloadN X0.here hx rfl (hb hby at_27) rfl ?_
      show Steps p.tables e below (s₁.setTop (mkF m 28 #[.val (.int p0), .val (.int p1), .val (.int p2), .val (.int p3), .val (.int (1 : Int32)), .val (.int nn), .unset, .unset] [(.int p2)])) _
      refine X0.ldcInt hx hown (mvT hZ (hw _ (List.mem_of_getElem? (i := 9) rfl))) (g := (mkF m 28 #[.val (.int p0), .val (.int p1), .val (.int p2), .val (.int p3), .val (.int (1 : Int32)), .val (.int nn), .unset, .unset] [(.int p2)])) rfl (hb hby at_28) _ ?_
      show Steps p.tables e below (s₁.setTop (mkF m 30 #[.val (.int p0), .val (.int p1), .val (.int p2), .val (.int p3), .val (.int (1 : Int32)), .val (.int nn), .unset, .unset] [(.int (2147483647 : Int32)), (.int p2)])) _
      refine XS.iand X0.here hx rfl (hb hby at_30) rfl ?_
      show Steps p.tables e below (s₁.setTop (mkF m 31 #[.val (.int p0), .val (.int p1), .val (.int p2), .val (.int p3), .val (.int (1 : Int32)), .val (.int nn), .unset, .unset] [(.int (p2 &&& (2147483647 : Int32)))])) _
      refine XS.iload X0.here hx rfl (hb hby at_31) rfl ?_
      show Steps p.tables e below (s₁.setTop (mkF m 33 #[.val (.int p0), .val (.int p1), .val (.int p2), .val (.int p3), .val (.int (1 : Int32)), .val (.int nn), .unset, .unset] [(.int nn), (.int (p2 &&& (2147483647 : Int32)))])) _
      refine XS.irem X0.here hx rfl (hb hby at_33) rfl (own_nz nn hm109) ?_
      rw [own_irem]
      show Steps p.tables e below (s₁.setTop (mkF m 34 #[.val (.int p0), .val (.int p1), .val (.int p2), .val (.int p3), .val (.int (1 : Int32)), .val (.int nn), .unset, .unset] [(.int ((p2 &&& (2147483647 : Int32)) % nn))])) _
      refine XS.istore X0.here hx rfl (hb hby at_34) rfl (l' := #[.val (.int p0), .val (.int p1), .val (.int p2), .val (.int p3), .val (.int (1 : Int32)), .val (.int nn), .val (.int ((p2 &&& (2147483647 : Int32)) % nn)), .unset]) rfl ?_
      exact kt)
    obtain ⟨pp, hm111, pre111⟩ : ∃ (pp : Int32), (¬ pp < 0 ∧ pp < nn) ∧ ∀ t, Steps p.tables e below (s₁.setTop (mkF m 36 #[.val (.int p0), .val (.int p1), .val (.int p2), .val (.int p3), .val (.int (1 : Int32)), .val (.int nn), .val (.int pp), .unset] [])) t → Steps p.tables e below (s₁.setTop (entryFrame m #[(.int p0), (.int p1), (.int p2), (.int p3)] maxLocals)) t := ⟨((p2 &&& (2147483647 : Int32)) % nn), own_p p2 nn hm109, pre110⟩
    have pre112 : ∀ t, Steps p.tables e below (s₁.setTop (mkF m 41 #[.val (.int p0), .val (.int p1), .val (.int p2), .val (.int p3), .val (.int (1 : Int32)), .val (.int nn), .val (.int pp), .unset] [(.int nn), (.int pp), .null])) t → Steps p.tables e below (s₁.setTop (entryFrame m #[(.int p0), (.int p1), (.int p2), (.int p3)] maxLocals)) t := fun t kt => pre111 t (by
      show Steps p.tables e below (s₁.setTop (mkF m 36 #[.val (.int p0), .val (.int p1), .val (.int p2), .val (.int p3), .val (.int (1 : Int32)), .val (.int nn), .val (.int pp), .unset] [])) _
      refine XS.aconstNull X0.here hx rfl (hb hby at_36) ?_
      show Steps p.tables e below (s₁.setTop (mkF m 37 #[.val (.int p0), .val (.int p1), .val (.int p2), .val (.int p3), .val (.int (1 : Int32)), .val (.int nn), .val (.int pp), .unset] [.null])) _
      refine XS.iload X0.here hx rfl (hb hby at_37) rfl ?_
      show Steps p.tables e below (s₁.setTop (mkF m 39 #[.val (.int p0), .val (.int p1), .val (.int p2), .val (.int p3), .val (.int (1 : Int32)), .val (.int nn), .val (.int pp), .unset] [(.int pp), .null])) _
      refine XS.iload X0.here hx rfl (hb hby at_39) rfl ?_
      exact kt)
    obtain ⟨_, _, ⟨T113, L113, k113, n113⟩, -, X113, ⟨Lc113, hQ113, l113, y113, z113⟩, st113⟩ := Jvm.LawKit.callS X0 hx (y := (⟨"com/example/baton/baton/support/Skipped", "marked", "([ZII)[Z"⟩ : MethodName)) hown (mvT hZ (hw _ (List.mem_of_getElem? (i := 1) rfl))) (mvT hZ (hw _ (List.mem_of_getElem? (i := 2) rfl))) (mvT hZ (hw _ (List.mem_of_getElem? (i := 3) rfl))) (mvT hZ (hw _ (List.mem_of_getElem? (i := 4) rfl))) (by decide) (backOf (W := 0) (rm1n l Z av hw [] pp nn  h0 n0 Z0 hm111 (own_n0 nn hm109) (own_ncap nn hm109)) hZ (hw _ (List.mem_of_getElem? (i := 4) rfl)) (hw _ (List.mem_of_getElem? (i := 3) rfl)) (by decide) (by decide)) (g := (mkF m 41 #[.val (.int p0), .val (.int p1), .val (.int p2), .val (.int p3), .val (.int (1 : Int32)), .val (.int nn), .val (.int pp), .unset] [(.int nn), (.int pp), .null])) rfl (by rw [hml]; rfl) (argsL := [.null, (.int pp), (.int nn)]) (rest := []) (lenOf pd___ZII__Z rfl) rfl (by show 2 * 0 + _ ≤ _; exact Nat.le_of_eq rfl) (hb hby at_41) (fun _ _ => ⟨rfl, e0, (by decide : 0 + 1 ≤ _), (by decide : 0 + 256 ≤ _)⟩)
    dsimp only [Pt.U, Pt.locs, Pt.cells, Pt.slots] at X113 l113 y113 z113 st113 hQ113
    subst l113 y113 z113
    obtain ⟨rfl, N113q, Kq113, kq113, Vq113⟩ := hQ113
    have N113 := Fr.app N0 N113q
    obtain ⟨b113, g113⟩ : ∃ z, z = h0.size := ⟨_, rfl⟩
    rw [← g113] at Vq113 st113
    have gn113 : n0 ≤ b113 := Nat.le_trans Z0 (Nat.le_of_eq g113.symm)
    have sz113 : h0.size ≤ b113 := Nat.le_trans K0.1 (Nat.le_of_eq g113.symm)
    have K113 : Keep h0 T113.heap [] := K0.trans Kq113 all0
    have Z113 : n0 ≤ T113.heap.size := Nat.le_trans Z0 Kq113.1
    have pre114 : ∀ t, Steps p.tables e below (T113.setTop (mkF m 44 #[.val (.int p0), .val (.int p1), .val (.int p2), .val (.int p3), .val (.int (1 : Int32)), .val (.int nn), .val (.int pp), .unset] [(.ref b113)])) t → Steps p.tables e below (s₁.setTop (entryFrame m #[(.int p0), (.int p1), (.int p2), (.int p3)] maxLocals)) t := fun t kt => pre112 t (st113 _ kt)
    have pre115 : ∀ t, Steps p.tables e below (T113.setTop (mkF m 53 #[.val (.int p0), .val (.int p1), .val (.int p2), .val (.int p3), .val (.int (1 : Int32)), .val (.int nn), .val (.int pp), .val (.ref b113)] [(.ref b113)])) t → Steps p.tables e below (s₁.setTop (entryFrame m #[(.int p0), (.int p1), (.int p2), (.int p3)] maxLocals)) t := fun t kt => pre114 t (by
      show Steps p.tables e below (T113.setTop (mkF m 44 #[.val (.int p0), .val (.int p1), .val (.int p2), .val (.int p3), .val (.int (1 : Int32)), .val (.int nn), .val (.int pp), .unset] [(.ref b113)])) _
      refine XS.astore X113.here hx rfl (hb hby at_44) rfl rfl (l' := #[.val (.int p0), .val (.int p1), .val (.int p2), .val (.int p3), .val (.int (1 : Int32)), .val (.int nn), .val (.int pp), .val (.ref b113)]) rfl ?_
      show Steps p.tables e below (T113.setTop (mkF m 46 #[.val (.int p0), .val (.int p1), .val (.int p2), .val (.int p3), .val (.int (1 : Int32)), .val (.int nn), .val (.int pp), .val (.ref b113)] [])) _
      refine XS.aload X113.here hx rfl (hb hby at_46) rfl rfl ?_
      show Steps p.tables e below (T113.setTop (mkF m 48 #[.val (.int p0), .val (.int p1), .val (.int p2), .val (.int p3), .val (.int (1 : Int32)), .val (.int nn), .val (.int pp), .val (.ref b113)] [(.ref b113)])) _
      refine XS.ifnullNo X113.here hx rfl (hb hby at_48) rfl ?_
      show Steps p.tables e below (T113.setTop (mkF m 51 #[.val (.int p0), .val (.int p1), .val (.int p2), .val (.int p3), .val (.int (1 : Int32)), .val (.int nn), .val (.int pp), .val (.ref b113)] [])) _
      refine XS.aload X113.here hx rfl (hb hby at_51) rfl rfl ?_
      exact kt)
    have tv116 := Vq113
    obtain ⟨cl116, Ar116, q116, S116, Ng116, H116, G116⟩ := tv116
    have pre117 : ∀ t, Steps p.tables e below (T113.setTop (mkF m 65 #[.val (.int p0), .val (.int p1), .val (.int p2), .val (.int p3), .val (.int (1 : Int32)), .val (.int nn), .val (.int pp), .val (.ref b113)] [(.int pp), (.ref b113)])) t → Steps p.tables e below (s₁.setTop (entryFrame m #[(.int p0), (.int p1), (.int p2), (.int p3)] maxLocals)) t := fun t kt => pre115 t (by
      show Steps p.tables e below (T113.setTop (mkF m 53 #[.val (.int p0), .val (.int p1), .val (.int p2), .val (.int p3), .val (.int (1 : Int32)), .val (.int nn), .val (.int pp), .val (.ref b113)] [(.ref b113)])) _
      refine X113.arraylength hx Ar116.1 (State.isArrayOf_alike hZ.alike Ar116.2.1) (g := (mkF m 53 #[.val (.int p0), .val (.int p1), .val (.int p2), .val (.int p3), .val (.int (1 : Int32)), .val (.int nn), .val (.int pp), .val (.ref b113)] [(.ref b113)])) rfl rfl (hb hby at_53) _ ?_
      rw [len_of S116 Ng116]
      show Steps p.tables e below (T113.setTop (mkF m 54 #[.val (.int p0), .val (.int p1), .val (.int p2), .val (.int p3), .val (.int (1 : Int32)), .val (.int nn), .val (.int pp), .val (.ref b113)] [(.int nn)])) _
      refine XS.iload X113.here hx rfl (hb hby at_54) rfl ?_
      show Steps p.tables e below (T113.setTop (mkF m 56 #[.val (.int p0), .val (.int p1), .val (.int p2), .val (.int p3), .val (.int (1 : Int32)), .val (.int nn), .val (.int pp), .val (.ref b113)] [(.int nn), (.int nn)])) _
      refine XS.icmpYes X113.here hx rfl (pc0 := 56) (pc' := 61) rfl (hb hby at_56) rfl (teq (rfl : nn = nn)).1 (by decide) (by decide) ?_
      show Steps p.tables e below (T113.setTop (mkF m 61 #[.val (.int p0), .val (.int p1), .val (.int p2), .val (.int p3), .val (.int (1 : Int32)), .val (.int nn), .val (.int pp), .val (.ref b113)] [])) _
      refine XS.aload X113.here hx rfl (hb hby at_61) rfl rfl ?_
      show Steps p.tables e below (T113.setTop (mkF m 63 #[.val (.int p0), .val (.int p1), .val (.int p2), .val (.int p3), .val (.int (1 : Int32)), .val (.int nn), .val (.int pp), .val (.ref b113)] [(.ref b113)])) _
      refine XS.iload X113.here hx rfl (hb hby at_63) rfl ?_
      exact kt)
    have tv118 := Vq113
    obtain ⟨cl118, Ar118, q118, S118, Ng118, H118, G118⟩ := tv118
    have hin118 : ¬ (pp < 0 ∨ cl118.slots.size ≤ (pp).toNatClampNeg) := inb_of S118 hm111
    have hat118 : cl118.slots[(pp).toNatClampNeg]? = some (.int (1 : Int32)) := atH H118 hin118 (getH_hit hm111.1 rfl)
    have pre119 : ∀ t, Steps p.tables e below (T113.setTop (mkF m 74 #[.val (.int p0), .val (.int p1), .val (.int p2), .val (.int p3), .val (.int (1 : Int32)), .val (.int nn), .val (.int pp), .val (.ref b113)] [(.int pp), (.int (0 : Int32)), (.ref b113)])) t → Steps p.tables e below (s₁.setTop (entryFrame m #[(.int p0), (.int p1), (.int p2), (.int p3)] maxLocals)) t := fun t kt => pre117 t (by
      show Steps p.tables e below (T113.setTop (mkF m 65 #[.val (.int p0), .val (.int p1), .val (.int p2), .val (.int p3), .val (.int (1 : Int32)), .val (.int nn), .val (.int pp), .val (.ref b113)] [(.int pp), (.ref b113)])) _
      refine X113.baloadBooleans hx (j := pp) (v := (.int (1 : Int32))) Ar118.1 (State.isArrayOf_alike hZ.alike Ar118.2.1) Ar118.2.2 hin118 hat118 (g := (mkF m 65 #[.val (.int p0), .val (.int p1), .val (.int p2), .val (.int p3), .val (.int (1 : Int32)), .val (.int nn), .val (.int pp), .val (.ref b113)] [(.int pp), (.ref b113)])) rfl rfl (hb hby at_65) _ ?_
      show Steps p.tables e below (T113.setTop (mkF m 66 #[.val (.int p0), .val (.int p1), .val (.int p2), .val (.int p3), .val (.int (1 : Int32)), .val (.int nn), .val (.int pp), .val (.ref b113)] [(.int (1 : Int32))])) _
      refine XS.ifNo X113.here hx rfl (hb hby at_66) rfl ((if0 _ _).trans (feq (by decide : ¬ ((1 : Int32) = (0 : Int32)))).1) ?_
      show Steps p.tables e below (T113.setTop (mkF m 69 #[.val (.int p0), .val (.int p1), .val (.int p2), .val (.int p3), .val (.int (1 : Int32)), .val (.int nn), .val (.int pp), .val (.ref b113)] [])) _
      refine XS.aload X113.here hx rfl (hb hby at_69) rfl rfl ?_
      show Steps p.tables e below (T113.setTop (mkF m 71 #[.val (.int p0), .val (.int p1), .val (.int p2), .val (.int p3), .val (.int (1 : Int32)), .val (.int nn), .val (.int pp), .val (.ref b113)] [(.ref b113)])) _
      refine XS.iconst X113.here hx rfl (hb hby at_71) ?_
      show Steps p.tables e below (T113.setTop (mkF m 72 #[.val (.int p0), .val (.int p1), .val (.int p2), .val (.int p3), .val (.int (1 : Int32)), .val (.int nn), .val (.int pp), .val (.ref b113)] [(.int (0 : Int32)), (.ref b113)])) _
      refine XS.iload X113.here hx rfl (hb hby at_72) rfl ?_
      exact kt)
    obtain ⟨_, _, ⟨T120, L120, k120, n120⟩, -, X120, ⟨Lc120, hQ120, l120, y120, z120⟩, st120⟩ := Jvm.LawKit.callS X113 hx (y := (⟨"com/example/baton/baton/support/SkippedMarkedPinLaw", "off", "([ZII)Z"⟩ : MethodName)) hown (mvT hZ (hw _ (List.mem_of_getElem? (i := 10) rfl))) (mvT hZ (hw _ (List.mem_of_getElem? (i := 11) rfl))) (mvT hZ (hw _ (List.mem_of_getElem? (i := 7) rfl))) (mvT hZ (hw _ (List.mem_of_getElem? (i := 12) rfl))) (by decide) (backOf (W := 0) (rm3 l Z av hw [] b113 (0 : Int32) pp kq113 nn T113.heap n0 Z113 Vq113) hZ (hw _ (List.mem_of_getElem? (i := 12) rfl)) (hw _ (List.mem_of_getElem? (i := 7) rfl)) (by decide) (by decide)) (g := (mkF m 74 #[.val (.int p0), .val (.int p1), .val (.int p2), .val (.int p3), .val (.int (1 : Int32)), .val (.int nn), .val (.int pp), .val (.ref b113)] [(.int pp), (.int (0 : Int32)), (.ref b113)])) rfl (by rw [hml]; rfl) (argsL := [(.ref b113), (.int (0 : Int32)), (.int pp)]) (rest := []) (lenOf pd___ZII_Z rfl) rfl (by show 2 * 0 + _ ≤ _; exact Nat.le_of_eq rfl) (hb hby at_74) (fun _ _ => ⟨rfl, rfl, (by decide : 1 + 0 ≤ _), (by decide : 256 + 0 ≤ _)⟩)
    dsimp only [Pt.U, Pt.locs, Pt.cells, Pt.slots] at X120 l120 y120 z120 st120 hQ120
    subst l120 y120 z120
    obtain ⟨rfl, N120q, e120⟩ := hQ120
    have N120 := Fr.app N113 N120q
    have pre121 : ∀ t, Steps p.tables e below (T120.setTop (mkF m 77 #[.val (.int p0), .val (.int p1), .val (.int p2), .val (.int p3), .val (.int (1 : Int32)), .val (.int nn), .val (.int pp), .val (.ref b113)] [(.int (1 : Int32))])) t → Steps p.tables e below (s₁.setTop (entryFrame m #[(.int p0), (.int p1), (.int p2), (.int p3)] maxLocals)) t := fun t kt => pre119 t (st120 _ kt)
    have pre122 : ∀ t, Steps p.tables e below (T120.setTop (mkF m 85 #[.val (.int p0), .val (.int p1), .val (.int p2), .val (.int p3), .val (.int (1 : Int32)), .val (.int nn), .val (.int pp), .val (.ref b113)] [(.int pp), (.int (1 : Int32)), (.ref b113)])) t → Steps p.tables e below (s₁.setTop (entryFrame m #[(.int p0), (.int p1), (.int p2), (.int p3)] maxLocals)) t := fun t kt => pre121 t (by
      show Steps p.tables e below (T120.setTop (mkF m 77 #[.val (.int p0), .val (.int p1), .val (.int p2), .val (.int p3), .val (.int (1 : Int32)), .val (.int nn), .val (.int pp), .val (.ref b113)] [(.int (1 : Int32))])) _
      refine XS.ifNo X120.here hx rfl (hb hby at_77) rfl ((if0 _ _).trans (feq (by decide : ¬ ((1 : Int32) = (0 : Int32)))).1) ?_
      show Steps p.tables e below (T120.setTop (mkF m 80 #[.val (.int p0), .val (.int p1), .val (.int p2), .val (.int p3), .val (.int (1 : Int32)), .val (.int nn), .val (.int pp), .val (.ref b113)] [])) _
      refine XS.aload X120.here hx rfl (hb hby at_80) rfl rfl ?_
      show Steps p.tables e below (T120.setTop (mkF m 82 #[.val (.int p0), .val (.int p1), .val (.int p2), .val (.int p3), .val (.int (1 : Int32)), .val (.int nn), .val (.int pp), .val (.ref b113)] [(.ref b113)])) _
      refine XS.iconst X120.here hx rfl (hb hby at_82) ?_
      show Steps p.tables e below (T120.setTop (mkF m 83 #[.val (.int p0), .val (.int p1), .val (.int p2), .val (.int p3), .val (.int (1 : Int32)), .val (.int nn), .val (.int pp), .val (.ref b113)] [(.int (1 : Int32)), (.ref b113)])) _
      refine XS.iload X120.here hx rfl (hb hby at_83) rfl ?_
      exact kt)
    obtain ⟨_, _, ⟨T123, L123, k123, n123⟩, -, X123, ⟨Lc123, hQ123, l123, y123, z123⟩, st123⟩ := Jvm.LawKit.callS X120 hx (y := (⟨"com/example/baton/baton/support/SkippedMarkedPinLaw", "off", "([ZII)Z"⟩ : MethodName)) hown (mvT hZ (hw _ (List.mem_of_getElem? (i := 10) rfl))) (mvT hZ (hw _ (List.mem_of_getElem? (i := 11) rfl))) (mvT hZ (hw _ (List.mem_of_getElem? (i := 7) rfl))) (mvT hZ (hw _ (List.mem_of_getElem? (i := 12) rfl))) (by decide) (backOf (W := 0) (rm3 l Z av hw [] b113 (1 : Int32) pp kq113 nn T113.heap n0 Z113 Vq113) hZ (hw _ (List.mem_of_getElem? (i := 12) rfl)) (hw _ (List.mem_of_getElem? (i := 7) rfl)) (by decide) (by decide)) (g := (mkF m 85 #[.val (.int p0), .val (.int p1), .val (.int p2), .val (.int p3), .val (.int (1 : Int32)), .val (.int nn), .val (.int pp), .val (.ref b113)] [(.int pp), (.int (1 : Int32)), (.ref b113)])) rfl (by rw [hml]; rfl) (argsL := [(.ref b113), (.int (1 : Int32)), (.int pp)]) (rest := []) (lenOf pd___ZII_Z rfl) rfl (by show 2 * 0 + _ ≤ _; exact Nat.le_of_eq rfl) (hb hby at_85) (fun _ _ => ⟨rfl, e120, (by decide : 1 + 0 ≤ _), (by decide : 256 + 0 ≤ _)⟩)
    dsimp only [Pt.U, Pt.locs, Pt.cells, Pt.slots] at X123 l123 y123 z123 st123 hQ123
    subst l123 y123 z123
    obtain ⟨rfl, N123q, e123⟩ := hQ123
    have N123 := Fr.app N120 N123q
    have pre124 : ∀ t, Steps p.tables e below (T123.setTop (mkF m 88 #[.val (.int p0), .val (.int p1), .val (.int p2), .val (.int p3), .val (.int (1 : Int32)), .val (.int nn), .val (.int pp), .val (.ref b113)] [(.int (1 : Int32))])) t → Steps p.tables e below (s₁.setTop (entryFrame m #[(.int p0), (.int p1), (.int p2), (.int p3)] maxLocals)) t := fun t kt => pre122 t (st123 _ kt)
    have pre125 : ∀ t, Steps p.tables e below (T123.setTop (mkF m 96 #[.val (.int p0), .val (.int p1), .val (.int p2), .val (.int p3), .val (.int (1 : Int32)), .val (.int nn), .val (.int pp), .val (.ref b113)] [(.int pp), (.int (2 : Int32)), (.ref b113)])) t → Steps p.tables e below (s₁.setTop (entryFrame m #[(.int p0), (.int p1), (.int p2), (.int p3)] maxLocals)) t := fun t kt => pre124 t (by
      show Steps p.tables e below (T123.setTop (mkF m 88 #[.val (.int p0), .val (.int p1), .val (.int p2), .val (.int p3), .val (.int (1 : Int32)), .val (.int nn), .val (.int pp), .val (.ref b113)] [(.int (1 : Int32))])) _
      refine XS.ifNo X123.here hx rfl (hb hby at_88) rfl ((if0 _ _).trans (feq (by decide : ¬ ((1 : Int32) = (0 : Int32)))).1) ?_
      show Steps p.tables e below (T123.setTop (mkF m 91 #[.val (.int p0), .val (.int p1), .val (.int p2), .val (.int p3), .val (.int (1 : Int32)), .val (.int nn), .val (.int pp), .val (.ref b113)] [])) _
      refine XS.aload X123.here hx rfl (hb hby at_91) rfl rfl ?_
      show Steps p.tables e below (T123.setTop (mkF m 93 #[.val (.int p0), .val (.int p1), .val (.int p2), .val (.int p3), .val (.int (1 : Int32)), .val (.int nn), .val (.int pp), .val (.ref b113)] [(.ref b113)])) _
      refine XS.iconst X123.here hx rfl (hb hby at_93) ?_
      show Steps p.tables e below (T123.setTop (mkF m 94 #[.val (.int p0), .val (.int p1), .val (.int p2), .val (.int p3), .val (.int (1 : Int32)), .val (.int nn), .val (.int pp), .val (.ref b113)] [(.int (2 : Int32)), (.ref b113)])) _
      refine XS.iload X123.here hx rfl (hb hby at_94) rfl ?_
      exact kt)
    obtain ⟨_, _, ⟨T126, L126, k126, n126⟩, -, X126, ⟨Lc126, hQ126, l126, y126, z126⟩, st126⟩ := Jvm.LawKit.callS X123 hx (y := (⟨"com/example/baton/baton/support/SkippedMarkedPinLaw", "off", "([ZII)Z"⟩ : MethodName)) hown (mvT hZ (hw _ (List.mem_of_getElem? (i := 10) rfl))) (mvT hZ (hw _ (List.mem_of_getElem? (i := 11) rfl))) (mvT hZ (hw _ (List.mem_of_getElem? (i := 7) rfl))) (mvT hZ (hw _ (List.mem_of_getElem? (i := 12) rfl))) (by decide) (backOf (W := 0) (rm3 l Z av hw [] b113 (2 : Int32) pp kq113 nn T113.heap n0 Z113 Vq113) hZ (hw _ (List.mem_of_getElem? (i := 12) rfl)) (hw _ (List.mem_of_getElem? (i := 7) rfl)) (by decide) (by decide)) (g := (mkF m 96 #[.val (.int p0), .val (.int p1), .val (.int p2), .val (.int p3), .val (.int (1 : Int32)), .val (.int nn), .val (.int pp), .val (.ref b113)] [(.int pp), (.int (2 : Int32)), (.ref b113)])) rfl (by rw [hml]; rfl) (argsL := [(.ref b113), (.int (2 : Int32)), (.int pp)]) (rest := []) (lenOf pd___ZII_Z rfl) rfl (by show 2 * 0 + _ ≤ _; exact Nat.le_of_eq rfl) (hb hby at_96) (fun _ _ => ⟨rfl, e123, (by decide : 1 + 0 ≤ _), (by decide : 256 + 0 ≤ _)⟩)
    dsimp only [Pt.U, Pt.locs, Pt.cells, Pt.slots] at X126 l126 y126 z126 st126 hQ126
    subst l126 y126 z126
    obtain ⟨rfl, N126q, e126⟩ := hQ126
    have N126 := Fr.app N123 N126q
    have pre127 : ∀ t, Steps p.tables e below (T126.setTop (mkF m 99 #[.val (.int p0), .val (.int p1), .val (.int p2), .val (.int p3), .val (.int (1 : Int32)), .val (.int nn), .val (.int pp), .val (.ref b113)] [(.int (1 : Int32))])) t → Steps p.tables e below (s₁.setTop (entryFrame m #[(.int p0), (.int p1), (.int p2), (.int p3)] maxLocals)) t := fun t kt => pre125 t (st126 _ kt)
    have pre128 : ∀ t, Steps p.tables e below (T126.setTop (mkF m 108 #[.val (.int p0), .val (.int p1), .val (.int p2), .val (.int p3), .val (.int (1 : Int32)), .val (.int nn), .val (.int pp), .val (.ref b113)] [(.int pp), (.int (127 : Int32)), (.ref b113)])) t → Steps p.tables e below (s₁.setTop (entryFrame m #[(.int p0), (.int p1), (.int p2), (.int p3)] maxLocals)) t := fun t kt => pre127 t (by
      show Steps p.tables e below (T126.setTop (mkF m 99 #[.val (.int p0), .val (.int p1), .val (.int p2), .val (.int p3), .val (.int (1 : Int32)), .val (.int nn), .val (.int pp), .val (.ref b113)] [(.int (1 : Int32))])) _
      refine XS.ifNo X126.here hx rfl (hb hby at_99) rfl ((if0 _ _).trans (feq (by decide : ¬ ((1 : Int32) = (0 : Int32)))).1) ?_
      show Steps p.tables e below (T126.setTop (mkF m 102 #[.val (.int p0), .val (.int p1), .val (.int p2), .val (.int p3), .val (.int (1 : Int32)), .val (.int nn), .val (.int pp), .val (.ref b113)] [])) _
      refine XS.aload X126.here hx rfl (hb hby at_102) rfl rfl ?_
      show Steps p.tables e below (T126.setTop (mkF m 104 #[.val (.int p0), .val (.int p1), .val (.int p2), .val (.int p3), .val (.int (1 : Int32)), .val (.int nn), .val (.int pp), .val (.ref b113)] [(.ref b113)])) _
      refine XS.bipush X126.here hx rfl (hb hby at_104) ?_
      show Steps p.tables e below (T126.setTop (mkF m 106 #[.val (.int p0), .val (.int p1), .val (.int p2), .val (.int p3), .val (.int (1 : Int32)), .val (.int nn), .val (.int pp), .val (.ref b113)] [(.int (127 : Int32)), (.ref b113)])) _
      refine XS.iload X126.here hx rfl (hb hby at_106) rfl ?_
      exact kt)
    obtain ⟨_, _, ⟨T129, L129, k129, n129⟩, -, X129, ⟨Lc129, hQ129, l129, y129, z129⟩, st129⟩ := Jvm.LawKit.callS X126 hx (y := (⟨"com/example/baton/baton/support/SkippedMarkedPinLaw", "off", "([ZII)Z"⟩ : MethodName)) hown (mvT hZ (hw _ (List.mem_of_getElem? (i := 10) rfl))) (mvT hZ (hw _ (List.mem_of_getElem? (i := 11) rfl))) (mvT hZ (hw _ (List.mem_of_getElem? (i := 7) rfl))) (mvT hZ (hw _ (List.mem_of_getElem? (i := 12) rfl))) (by decide) (backOf (W := 0) (rm3 l Z av hw [] b113 (127 : Int32) pp kq113 nn T113.heap n0 Z113 Vq113) hZ (hw _ (List.mem_of_getElem? (i := 12) rfl)) (hw _ (List.mem_of_getElem? (i := 7) rfl)) (by decide) (by decide)) (g := (mkF m 108 #[.val (.int p0), .val (.int p1), .val (.int p2), .val (.int p3), .val (.int (1 : Int32)), .val (.int nn), .val (.int pp), .val (.ref b113)] [(.int pp), (.int (127 : Int32)), (.ref b113)])) rfl (by rw [hml]; rfl) (argsL := [(.ref b113), (.int (127 : Int32)), (.int pp)]) (rest := []) (lenOf pd___ZII_Z rfl) rfl (by show 2 * 0 + _ ≤ _; exact Nat.le_of_eq rfl) (hb hby at_108) (fun _ _ => ⟨rfl, e126, (by decide : 1 + 0 ≤ _), (by decide : 256 + 0 ≤ _)⟩)
    dsimp only [Pt.U, Pt.locs, Pt.cells, Pt.slots] at X129 l129 y129 z129 st129 hQ129
    subst l129 y129 z129
    obtain ⟨rfl, N129q, e129⟩ := hQ129
    have N129 := Fr.app N126 N129q
    have pre130 : ∀ t, Steps p.tables e below (T129.setTop (mkF m 111 #[.val (.int p0), .val (.int p1), .val (.int p2), .val (.int p3), .val (.int (1 : Int32)), .val (.int nn), .val (.int pp), .val (.ref b113)] [(.int (1 : Int32))])) t → Steps p.tables e below (s₁.setTop (entryFrame m #[(.int p0), (.int p1), (.int p2), (.int p3)] maxLocals)) t := fun t kt => pre128 t (st129 _ kt)
    have pre131 : ∀ t, Steps p.tables e below (T129.setTop (mkF m 121 #[.val (.int p0), .val (.int p1), .val (.int p2), .val (.int p3), .val (.int (1 : Int32)), .val (.int nn), .val (.int pp), .val (.ref b113)] [(.int pp), (.int (128 : Int32)), (.ref b113)])) t → Steps p.tables e below (s₁.setTop (entryFrame m #[(.int p0), (.int p1), (.int p2), (.int p3)] maxLocals)) t := fun t kt => pre130 t (by
      show Steps p.tables e below (T129.setTop (mkF m 111 #[.val (.int p0), .val (.int p1), .val (.int p2), .val (.int p3), .val (.int (1 : Int32)), .val (.int nn), .val (.int pp), .val (.ref b113)] [(.int (1 : Int32))])) _
      refine XS.ifNo X129.here hx rfl (hb hby at_111) rfl ((if0 _ _).trans (feq (by decide : ¬ ((1 : Int32) = (0 : Int32)))).1) ?_
      show Steps p.tables e below (T129.setTop (mkF m 114 #[.val (.int p0), .val (.int p1), .val (.int p2), .val (.int p3), .val (.int (1 : Int32)), .val (.int nn), .val (.int pp), .val (.ref b113)] [])) _
      refine XS.aload X129.here hx rfl (hb hby at_114) rfl rfl ?_
      show Steps p.tables e below (T129.setTop (mkF m 116 #[.val (.int p0), .val (.int p1), .val (.int p2), .val (.int p3), .val (.int (1 : Int32)), .val (.int nn), .val (.int pp), .val (.ref b113)] [(.ref b113)])) _
      refine XS.sipush X129.here hx rfl (hb hby at_116) ?_
      show Steps p.tables e below (T129.setTop (mkF m 119 #[.val (.int p0), .val (.int p1), .val (.int p2), .val (.int p3), .val (.int (1 : Int32)), .val (.int nn), .val (.int pp), .val (.ref b113)] [(.int (128 : Int32)), (.ref b113)])) _
      refine XS.iload X129.here hx rfl (hb hby at_119) rfl ?_
      exact kt)
    obtain ⟨_, _, ⟨T132, L132, k132, n132⟩, -, X132, ⟨Lc132, hQ132, l132, y132, z132⟩, st132⟩ := Jvm.LawKit.callS X129 hx (y := (⟨"com/example/baton/baton/support/SkippedMarkedPinLaw", "off", "([ZII)Z"⟩ : MethodName)) hown (mvT hZ (hw _ (List.mem_of_getElem? (i := 10) rfl))) (mvT hZ (hw _ (List.mem_of_getElem? (i := 11) rfl))) (mvT hZ (hw _ (List.mem_of_getElem? (i := 7) rfl))) (mvT hZ (hw _ (List.mem_of_getElem? (i := 12) rfl))) (by decide) (backOf (W := 0) (rm3 l Z av hw [] b113 (128 : Int32) pp kq113 nn T113.heap n0 Z113 Vq113) hZ (hw _ (List.mem_of_getElem? (i := 12) rfl)) (hw _ (List.mem_of_getElem? (i := 7) rfl)) (by decide) (by decide)) (g := (mkF m 121 #[.val (.int p0), .val (.int p1), .val (.int p2), .val (.int p3), .val (.int (1 : Int32)), .val (.int nn), .val (.int pp), .val (.ref b113)] [(.int pp), (.int (128 : Int32)), (.ref b113)])) rfl (by rw [hml]; rfl) (argsL := [(.ref b113), (.int (128 : Int32)), (.int pp)]) (rest := []) (lenOf pd___ZII_Z rfl) rfl (by show 2 * 0 + _ ≤ _; exact Nat.le_of_eq rfl) (hb hby at_121) (fun _ _ => ⟨rfl, e129, (by decide : 1 + 0 ≤ _), (by decide : 256 + 0 ≤ _)⟩)
    dsimp only [Pt.U, Pt.locs, Pt.cells, Pt.slots] at X132 l132 y132 z132 st132 hQ132
    subst l132 y132 z132
    obtain ⟨rfl, N132q, e132⟩ := hQ132
    have N132 := Fr.app N129 N132q
    have pre133 : ∀ t, Steps p.tables e below (T132.setTop (mkF m 124 #[.val (.int p0), .val (.int p1), .val (.int p2), .val (.int p3), .val (.int (1 : Int32)), .val (.int nn), .val (.int pp), .val (.ref b113)] [(.int (1 : Int32))])) t → Steps p.tables e below (s₁.setTop (entryFrame m #[(.int p0), (.int p1), (.int p2), (.int p3)] maxLocals)) t := fun t kt => pre131 t (st132 _ kt)
    have pre134 : ∀ t, Steps p.tables e below (T132.setTop (mkF m 134 #[.val (.int p0), .val (.int p1), .val (.int p2), .val (.int p3), .val (.int (1 : Int32)), .val (.int nn), .val (.int pp), .val (.ref b113)] [(.int pp), (.int (129 : Int32)), (.ref b113)])) t → Steps p.tables e below (s₁.setTop (entryFrame m #[(.int p0), (.int p1), (.int p2), (.int p3)] maxLocals)) t := fun t kt => pre133 t (by
      show Steps p.tables e below (T132.setTop (mkF m 124 #[.val (.int p0), .val (.int p1), .val (.int p2), .val (.int p3), .val (.int (1 : Int32)), .val (.int nn), .val (.int pp), .val (.ref b113)] [(.int (1 : Int32))])) _
      refine XS.ifNo X132.here hx rfl (hb hby at_124) rfl ((if0 _ _).trans (feq (by decide : ¬ ((1 : Int32) = (0 : Int32)))).1) ?_
      show Steps p.tables e below (T132.setTop (mkF m 127 #[.val (.int p0), .val (.int p1), .val (.int p2), .val (.int p3), .val (.int (1 : Int32)), .val (.int nn), .val (.int pp), .val (.ref b113)] [])) _
      refine XS.aload X132.here hx rfl (hb hby at_127) rfl rfl ?_
      show Steps p.tables e below (T132.setTop (mkF m 129 #[.val (.int p0), .val (.int p1), .val (.int p2), .val (.int p3), .val (.int (1 : Int32)), .val (.int nn), .val (.int pp), .val (.ref b113)] [(.ref b113)])) _
      refine XS.sipush X132.here hx rfl (hb hby at_129) ?_
      show Steps p.tables e below (T132.setTop (mkF m 132 #[.val (.int p0), .val (.int p1), .val (.int p2), .val (.int p3), .val (.int (1 : Int32)), .val (.int nn), .val (.int pp), .val (.ref b113)] [(.int (129 : Int32)), (.ref b113)])) _
      refine XS.iload X132.here hx rfl (hb hby at_132) rfl ?_
      exact kt)
    obtain ⟨_, _, ⟨T135, L135, k135, n135⟩, -, X135, ⟨Lc135, hQ135, l135, y135, z135⟩, st135⟩ := Jvm.LawKit.callS X132 hx (y := (⟨"com/example/baton/baton/support/SkippedMarkedPinLaw", "off", "([ZII)Z"⟩ : MethodName)) hown (mvT hZ (hw _ (List.mem_of_getElem? (i := 10) rfl))) (mvT hZ (hw _ (List.mem_of_getElem? (i := 11) rfl))) (mvT hZ (hw _ (List.mem_of_getElem? (i := 7) rfl))) (mvT hZ (hw _ (List.mem_of_getElem? (i := 12) rfl))) (by decide) (backOf (W := 0) (rm3 l Z av hw [] b113 (129 : Int32) pp kq113 nn T113.heap n0 Z113 Vq113) hZ (hw _ (List.mem_of_getElem? (i := 12) rfl)) (hw _ (List.mem_of_getElem? (i := 7) rfl)) (by decide) (by decide)) (g := (mkF m 134 #[.val (.int p0), .val (.int p1), .val (.int p2), .val (.int p3), .val (.int (1 : Int32)), .val (.int nn), .val (.int pp), .val (.ref b113)] [(.int pp), (.int (129 : Int32)), (.ref b113)])) rfl (by rw [hml]; rfl) (argsL := [(.ref b113), (.int (129 : Int32)), (.int pp)]) (rest := []) (lenOf pd___ZII_Z rfl) rfl (by show 2 * 0 + _ ≤ _; exact Nat.le_of_eq rfl) (hb hby at_134) (fun _ _ => ⟨rfl, e132, (by decide : 1 + 0 ≤ _), (by decide : 256 + 0 ≤ _)⟩)
    dsimp only [Pt.U, Pt.locs, Pt.cells, Pt.slots] at X135 l135 y135 z135 st135 hQ135
    subst l135 y135 z135
    obtain ⟨rfl, N135q, e135⟩ := hQ135
    have N135 := Fr.app N132 N135q
    have pre136 : ∀ t, Steps p.tables e below (T135.setTop (mkF m 137 #[.val (.int p0), .val (.int p1), .val (.int p2), .val (.int p3), .val (.int (1 : Int32)), .val (.int nn), .val (.int pp), .val (.ref b113)] [(.int (1 : Int32))])) t → Steps p.tables e below (s₁.setTop (entryFrame m #[(.int p0), (.int p1), (.int p2), (.int p3)] maxLocals)) t := fun t kt => pre134 t (st135 _ kt)
    have pre137 : ∀ t, Steps p.tables e below (T135.setTop (mkF m 148 #[.val (.int p0), .val (.int p1), .val (.int p2), .val (.int p3), .val (.int (1 : Int32)), .val (.int nn), .val (.int pp), .val (.ref b113)] [(.int pp), (.int (pp - (1 : Int32))), (.ref b113)])) t → Steps p.tables e below (s₁.setTop (entryFrame m #[(.int p0), (.int p1), (.int p2), (.int p3)] maxLocals)) t := fun t kt => pre136 t (by
      show Steps p.tables e below (T135.setTop (mkF m 137 #[.val (.int p0), .val (.int p1), .val (.int p2), .val (.int p3), .val (.int (1 : Int32)), .val (.int nn), .val (.int pp), .val (.ref b113)] [(.int (1 : Int32))])) _
      refine XS.ifNo X135.here hx rfl (hb hby at_137) rfl ((if0 _ _).trans (feq (by decide : ¬ ((1 : Int32) = (0 : Int32)))).1) ?_
      show Steps p.tables e below (T135.setTop (mkF m 140 #[.val (.int p0), .val (.int p1), .val (.int p2), .val (.int p3), .val (.int (1 : Int32)), .val (.int nn), .val (.int pp), .val (.ref b113)] [])) _
      refine XS.aload X135.here hx rfl (hb hby at_140) rfl rfl ?_
      show Steps p.tables e below (T135.setTop (mkF m 142 #[.val (.int p0), .val (.int p1), .val (.int p2), .val (.int p3), .val (.int (1 : Int32)), .val (.int nn), .val (.int pp), .val (.ref b113)] [(.ref b113)])) _
      refine XS.iload X135.here hx rfl (hb hby at_142) rfl ?_
      show Steps p.tables e below (T135.setTop (mkF m 144 #[.val (.int p0), .val (.int p1), .val (.int p2), .val (.int p3), .val (.int (1 : Int32)), .val (.int nn), .val (.int pp), .val (.ref b113)] [(.int pp), (.ref b113)])) _
      refine XS.iconst X135.here hx rfl (hb hby at_144) ?_
      show Steps p.tables e below (T135.setTop (mkF m 145 #[.val (.int p0), .val (.int p1), .val (.int p2), .val (.int p3), .val (.int (1 : Int32)), .val (.int nn), .val (.int pp), .val (.ref b113)] [(.int (1 : Int32)), (.int pp), (.ref b113)])) _
      refine XS.isub X135.here hx rfl (hb hby at_145) rfl ?_
      show Steps p.tables e below (T135.setTop (mkF m 146 #[.val (.int p0), .val (.int p1), .val (.int p2), .val (.int p3), .val (.int (1 : Int32)), .val (.int nn), .val (.int pp), .val (.ref b113)] [(.int (pp - (1 : Int32))), (.ref b113)])) _
      refine XS.iload X135.here hx rfl (hb hby at_146) rfl ?_
      exact kt)
    obtain ⟨_, _, ⟨T138, L138, k138, n138⟩, -, X138, ⟨Lc138, hQ138, l138, y138, z138⟩, st138⟩ := Jvm.LawKit.callS X135 hx (y := (⟨"com/example/baton/baton/support/SkippedMarkedPinLaw", "off", "([ZII)Z"⟩ : MethodName)) hown (mvT hZ (hw _ (List.mem_of_getElem? (i := 10) rfl))) (mvT hZ (hw _ (List.mem_of_getElem? (i := 11) rfl))) (mvT hZ (hw _ (List.mem_of_getElem? (i := 7) rfl))) (mvT hZ (hw _ (List.mem_of_getElem? (i := 12) rfl))) (by decide) (backOf (W := 0) (rm3 l Z av hw [] b113 (pp - (1 : Int32)) pp kq113 nn T113.heap n0 Z113 Vq113) hZ (hw _ (List.mem_of_getElem? (i := 12) rfl)) (hw _ (List.mem_of_getElem? (i := 7) rfl)) (by decide) (by decide)) (g := (mkF m 148 #[.val (.int p0), .val (.int p1), .val (.int p2), .val (.int p3), .val (.int (1 : Int32)), .val (.int nn), .val (.int pp), .val (.ref b113)] [(.int pp), (.int (pp - (1 : Int32))), (.ref b113)])) rfl (by rw [hml]; rfl) (argsL := [(.ref b113), (.int (pp - (1 : Int32))), (.int pp)]) (rest := []) (lenOf pd___ZII_Z rfl) rfl (by show 2 * 0 + _ ≤ _; exact Nat.le_of_eq rfl) (hb hby at_148) (fun _ _ => ⟨rfl, e135, (by decide : 1 + 0 ≤ _), (by decide : 256 + 0 ≤ _)⟩)
    dsimp only [Pt.U, Pt.locs, Pt.cells, Pt.slots] at X138 l138 y138 z138 st138 hQ138
    subst l138 y138 z138
    obtain ⟨rfl, N138q, e138⟩ := hQ138
    have N138 := Fr.app N135 N138q
    have pre139 : ∀ t, Steps p.tables e below (T138.setTop (mkF m 151 #[.val (.int p0), .val (.int p1), .val (.int p2), .val (.int p3), .val (.int (1 : Int32)), .val (.int nn), .val (.int pp), .val (.ref b113)] [(.int (1 : Int32))])) t → Steps p.tables e below (s₁.setTop (entryFrame m #[(.int p0), (.int p1), (.int p2), (.int p3)] maxLocals)) t := fun t kt => pre137 t (st138 _ kt)
    have pre140 : ∀ t, Steps p.tables e below (T138.setTop (mkF m 162 #[.val (.int p0), .val (.int p1), .val (.int p2), .val (.int p3), .val (.int (1 : Int32)), .val (.int nn), .val (.int pp), .val (.ref b113)] [(.int pp), (.int (pp + (1 : Int32))), (.ref b113)])) t → Steps p.tables e below (s₁.setTop (entryFrame m #[(.int p0), (.int p1), (.int p2), (.int p3)] maxLocals)) t := fun t kt => pre139 t (by
      show Steps p.tables e below (T138.setTop (mkF m 151 #[.val (.int p0), .val (.int p1), .val (.int p2), .val (.int p3), .val (.int (1 : Int32)), .val (.int nn), .val (.int pp), .val (.ref b113)] [(.int (1 : Int32))])) _
      refine XS.ifNo X138.here hx rfl (hb hby at_151) rfl ((if0 _ _).trans (feq (by decide : ¬ ((1 : Int32) = (0 : Int32)))).1) ?_
      show Steps p.tables e below (T138.setTop (mkF m 154 #[.val (.int p0), .val (.int p1), .val (.int p2), .val (.int p3), .val (.int (1 : Int32)), .val (.int nn), .val (.int pp), .val (.ref b113)] [])) _
      refine XS.aload X138.here hx rfl (hb hby at_154) rfl rfl ?_
      show Steps p.tables e below (T138.setTop (mkF m 156 #[.val (.int p0), .val (.int p1), .val (.int p2), .val (.int p3), .val (.int (1 : Int32)), .val (.int nn), .val (.int pp), .val (.ref b113)] [(.ref b113)])) _
      refine XS.iload X138.here hx rfl (hb hby at_156) rfl ?_
      show Steps p.tables e below (T138.setTop (mkF m 158 #[.val (.int p0), .val (.int p1), .val (.int p2), .val (.int p3), .val (.int (1 : Int32)), .val (.int nn), .val (.int pp), .val (.ref b113)] [(.int pp), (.ref b113)])) _
      refine XS.iconst X138.here hx rfl (hb hby at_158) ?_
      show Steps p.tables e below (T138.setTop (mkF m 159 #[.val (.int p0), .val (.int p1), .val (.int p2), .val (.int p3), .val (.int (1 : Int32)), .val (.int nn), .val (.int pp), .val (.ref b113)] [(.int (1 : Int32)), (.int pp), (.ref b113)])) _
      refine XS.iadd X138.here hx rfl (hb hby at_159) rfl ?_
      show Steps p.tables e below (T138.setTop (mkF m 160 #[.val (.int p0), .val (.int p1), .val (.int p2), .val (.int p3), .val (.int (1 : Int32)), .val (.int nn), .val (.int pp), .val (.ref b113)] [(.int (pp + (1 : Int32))), (.ref b113)])) _
      refine XS.iload X138.here hx rfl (hb hby at_160) rfl ?_
      exact kt)
    obtain ⟨_, _, ⟨T141, L141, k141, n141⟩, -, X141, ⟨Lc141, hQ141, l141, y141, z141⟩, st141⟩ := Jvm.LawKit.callS X138 hx (y := (⟨"com/example/baton/baton/support/SkippedMarkedPinLaw", "off", "([ZII)Z"⟩ : MethodName)) hown (mvT hZ (hw _ (List.mem_of_getElem? (i := 10) rfl))) (mvT hZ (hw _ (List.mem_of_getElem? (i := 11) rfl))) (mvT hZ (hw _ (List.mem_of_getElem? (i := 7) rfl))) (mvT hZ (hw _ (List.mem_of_getElem? (i := 12) rfl))) (by decide) (backOf (W := 0) (rm3 l Z av hw [] b113 (pp + (1 : Int32)) pp kq113 nn T113.heap n0 Z113 Vq113) hZ (hw _ (List.mem_of_getElem? (i := 12) rfl)) (hw _ (List.mem_of_getElem? (i := 7) rfl)) (by decide) (by decide)) (g := (mkF m 162 #[.val (.int p0), .val (.int p1), .val (.int p2), .val (.int p3), .val (.int (1 : Int32)), .val (.int nn), .val (.int pp), .val (.ref b113)] [(.int pp), (.int (pp + (1 : Int32))), (.ref b113)])) rfl (by rw [hml]; rfl) (argsL := [(.ref b113), (.int (pp + (1 : Int32))), (.int pp)]) (rest := []) (lenOf pd___ZII_Z rfl) rfl (by show 2 * 0 + _ ≤ _; exact Nat.le_of_eq rfl) (hb hby at_162) (fun _ _ => ⟨rfl, e138, (by decide : 1 + 0 ≤ _), (by decide : 256 + 0 ≤ _)⟩)
    dsimp only [Pt.U, Pt.locs, Pt.cells, Pt.slots] at X141 l141 y141 z141 st141 hQ141
    subst l141 y141 z141
    obtain ⟨rfl, N141q, e141⟩ := hQ141
    have N141 := Fr.app N138 N141q
    have pre142 : ∀ t, Steps p.tables e below (T141.setTop (mkF m 165 #[.val (.int p0), .val (.int p1), .val (.int p2), .val (.int p3), .val (.int (1 : Int32)), .val (.int nn), .val (.int pp), .val (.ref b113)] [(.int (1 : Int32))])) t → Steps p.tables e below (s₁.setTop (entryFrame m #[(.int p0), (.int p1), (.int p2), (.int p3)] maxLocals)) t := fun t kt => pre140 t (st141 _ kt)
    have pre143 : ∀ t, Steps p.tables e below (T141.setTop (mkF m 176 #[.val (.int p0), .val (.int p1), .val (.int p2), .val (.int p3), .val (.int (1 : Int32)), .val (.int nn), .val (.int pp), .val (.ref b113)] [(.int pp), (.int (nn - (1 : Int32))), (.ref b113)])) t → Steps p.tables e below (s₁.setTop (entryFrame m #[(.int p0), (.int p1), (.int p2), (.int p3)] maxLocals)) t := fun t kt => pre142 t (by
      show Steps p.tables e below (T141.setTop (mkF m 165 #[.val (.int p0), .val (.int p1), .val (.int p2), .val (.int p3), .val (.int (1 : Int32)), .val (.int nn), .val (.int pp), .val (.ref b113)] [(.int (1 : Int32))])) _
      refine XS.ifNo X141.here hx rfl (hb hby at_165) rfl ((if0 _ _).trans (feq (by decide : ¬ ((1 : Int32) = (0 : Int32)))).1) ?_
      show Steps p.tables e below (T141.setTop (mkF m 168 #[.val (.int p0), .val (.int p1), .val (.int p2), .val (.int p3), .val (.int (1 : Int32)), .val (.int nn), .val (.int pp), .val (.ref b113)] [])) _
      refine XS.aload X141.here hx rfl (hb hby at_168) rfl rfl ?_
      show Steps p.tables e below (T141.setTop (mkF m 170 #[.val (.int p0), .val (.int p1), .val (.int p2), .val (.int p3), .val (.int (1 : Int32)), .val (.int nn), .val (.int pp), .val (.ref b113)] [(.ref b113)])) _
      refine XS.iload X141.here hx rfl (hb hby at_170) rfl ?_
      show Steps p.tables e below (T141.setTop (mkF m 172 #[.val (.int p0), .val (.int p1), .val (.int p2), .val (.int p3), .val (.int (1 : Int32)), .val (.int nn), .val (.int pp), .val (.ref b113)] [(.int nn), (.ref b113)])) _
      refine XS.iconst X141.here hx rfl (hb hby at_172) ?_
      show Steps p.tables e below (T141.setTop (mkF m 173 #[.val (.int p0), .val (.int p1), .val (.int p2), .val (.int p3), .val (.int (1 : Int32)), .val (.int nn), .val (.int pp), .val (.ref b113)] [(.int (1 : Int32)), (.int nn), (.ref b113)])) _
      refine XS.isub X141.here hx rfl (hb hby at_173) rfl ?_
      show Steps p.tables e below (T141.setTop (mkF m 174 #[.val (.int p0), .val (.int p1), .val (.int p2), .val (.int p3), .val (.int (1 : Int32)), .val (.int nn), .val (.int pp), .val (.ref b113)] [(.int (nn - (1 : Int32))), (.ref b113)])) _
      refine XS.iload X141.here hx rfl (hb hby at_174) rfl ?_
      exact kt)
    obtain ⟨_, _, ⟨T144, L144, k144, n144⟩, -, X144, ⟨Lc144, hQ144, l144, y144, z144⟩, st144⟩ := Jvm.LawKit.callS X141 hx (y := (⟨"com/example/baton/baton/support/SkippedMarkedPinLaw", "off", "([ZII)Z"⟩ : MethodName)) hown (mvT hZ (hw _ (List.mem_of_getElem? (i := 10) rfl))) (mvT hZ (hw _ (List.mem_of_getElem? (i := 11) rfl))) (mvT hZ (hw _ (List.mem_of_getElem? (i := 7) rfl))) (mvT hZ (hw _ (List.mem_of_getElem? (i := 12) rfl))) (by decide) (backOf (W := 0) (rm3 l Z av hw [] b113 (nn - (1 : Int32)) pp kq113 nn T113.heap n0 Z113 Vq113) hZ (hw _ (List.mem_of_getElem? (i := 12) rfl)) (hw _ (List.mem_of_getElem? (i := 7) rfl)) (by decide) (by decide)) (g := (mkF m 176 #[.val (.int p0), .val (.int p1), .val (.int p2), .val (.int p3), .val (.int (1 : Int32)), .val (.int nn), .val (.int pp), .val (.ref b113)] [(.int pp), (.int (nn - (1 : Int32))), (.ref b113)])) rfl (by rw [hml]; rfl) (argsL := [(.ref b113), (.int (nn - (1 : Int32))), (.int pp)]) (rest := []) (lenOf pd___ZII_Z rfl) rfl (by show 2 * 0 + _ ≤ _; exact Nat.le_of_eq rfl) (hb hby at_176) (fun _ _ => ⟨rfl, e141, (by decide : 1 + 0 ≤ _), (by decide : 256 + 0 ≤ _)⟩)
    dsimp only [Pt.U, Pt.locs, Pt.cells, Pt.slots] at X144 l144 y144 z144 st144 hQ144
    subst l144 y144 z144
    obtain ⟨rfl, N144q, e144⟩ := hQ144
    have N144 := Fr.app N141 N144q
    have pre145 : ∀ t, Steps p.tables e below (T144.setTop (mkF m 179 #[.val (.int p0), .val (.int p1), .val (.int p2), .val (.int p3), .val (.int (1 : Int32)), .val (.int nn), .val (.int pp), .val (.ref b113)] [(.int (1 : Int32))])) t → Steps p.tables e below (s₁.setTop (entryFrame m #[(.int p0), (.int p1), (.int p2), (.int p3)] maxLocals)) t := fun t kt => pre143 t (st144 _ kt)
    have pre146 : ∀ t, Steps p.tables e below (T144.setTop (mkF m 187 #[.val (.int p0), .val (.int p1), .val (.int p2), .val (.int p3), .val (.int (1 : Int32)), .val (.int nn), .val (.int pp), .val (.ref b113)] [(.int (1 : Int32))])) t → Steps p.tables e below (s₁.setTop (entryFrame m #[(.int p0), (.int p1), (.int p2), (.int p3)] maxLocals)) t := fun t kt => pre145 t (by
      show Steps p.tables e below (T144.setTop (mkF m 179 #[.val (.int p0), .val (.int p1), .val (.int p2), .val (.int p3), .val (.int (1 : Int32)), .val (.int nn), .val (.int pp), .val (.ref b113)] [(.int (1 : Int32))])) _
      refine XS.ifNo X144.here hx rfl (hb hby at_179) rfl ((if0 _ _).trans (feq (by decide : ¬ ((1 : Int32) = (0 : Int32)))).1) ?_
      show Steps p.tables e below (T144.setTop (mkF m 182 #[.val (.int p0), .val (.int p1), .val (.int p2), .val (.int p3), .val (.int (1 : Int32)), .val (.int nn), .val (.int pp), .val (.ref b113)] [])) _
      refine XS.iconst X144.here hx rfl (hb hby at_182) ?_
      show Steps p.tables e below (T144.setTop (mkF m 183 #[.val (.int p0), .val (.int p1), .val (.int p2), .val (.int p3), .val (.int (1 : Int32)), .val (.int nn), .val (.int pp), .val (.ref b113)] [(.int (1 : Int32))])) _
      refine XS.goto X144.here hx rfl (pc0 := 183) (pc' := 187) rfl (hb hby at_183) (by decide) (by decide) ?_
      exact kt)
    obtain ⟨fs, hr, hrun, hended, hW, hsame⟩ := X144.leave (v := some (.int (1 : Int32))) (fun h => by rw [Bd.returns] at h; cases h)
    refine ⟨_, _, pre146 _ ?_, hrun, hended, _, _, rfl, ?_, ⟨_, rfl⟩, hW, hsame.mono (by decide) (by decide)⟩
    · show Steps p.tables e below (T144.setTop (mkF m 187 #[.val (.int p0), .val (.int p1), .val (.int p2), .val (.int p3), .val (.int (1 : Int32)), .val (.int nn), .val (.int pp), .val (.ref b113)] [(.int (1 : Int32))])) _
      exact retN X144 hx (t := .boolean) Bd.returns (by simp) (hb hby at_187) hr
    · show Q0 Z p0 p1 p2 p3 h0 n0 _ T144.heap _
      rw [e144]
      exact ⟨rfl, N144⟩
set_option maxRecDepth 65536 in
set_option maxHeartbeats 40000000 in
theorem comes_1 {Post : Tables → Env → Array Value → State → Outcome → State → Prop} (hpost : ∀ tb e args s v u, (limb_1_1.after args s (.returned v) u = true ∧ limb_1_2.after args s (.returned v) u = true ∧ True) → FrameEnd s (.returned v) u (Jvm.fieldLocs frame_1_writes args s ++ Jvm.arrayLocs frame_1_arrays args s ++ Jvm.staticLocs frame_1_statics s) 16 576 → Post tb e args s (.returned v) u) :
    ArmFor flags0 classFile x code maxLocals ret World_1 tables_1 room_1 Calls_1 rest_1 Pre_1 Post := by
  intro l hfl _ _ p e ha hc hk s m args below hf hA hF happ hP
  obtain ⟨hcalls, hrest, hpre⟩ := hP
  obtain ⟨-, -, -, hnamed, -, -, -, hat⟩ := (Spec.applies_iff hf).mp happ
  obtain ⟨hg, hn⟩ := and_e (Cond.before_iff.mp (show (Jvm.Cond.and given_1 narrow_1).before args s = true from hpre))
  obtain ⟨g1, g2⟩ := and_e hg
  obtain ⟨g3, g4⟩ := and_e g2
  obtain ⟨g5, g6⟩ := and_e g4
  obtain ⟨g7, g8⟩ := and_e g6
  obtain ⟨w0, w1, w2, w3, rfl⟩ : ∃ w0 w1 w2 w3 : Value, args = #[w0, w1, w2, w3] := by
    have hs : args.size = 4 := by simpa [Cond.value, given_1] using g1
    obtain ⟨L⟩ := args
    match L, hs with
    | [w0, w1, w2, w3], _ => exact ⟨w0, w1, w2, w3, rfl⟩
  have hw := fun d (hd : d ∈ tables_1) => atoms_spec (ws := Jvm.Cond.code x code maxLocals ret :: tables_1) hat d (List.mem_cons_of_mem _ hd)
  obtain ⟨i0, ei0⟩ := is_v g3
  obtain rfl : w0 = (.int i0) := Option.some.inj ei0
  obtain ⟨i1, ei1⟩ := is_v g5
  obtain rfl : w1 = (.int i1) := Option.some.inj ei1
  obtain ⟨i2, ei2⟩ := is_v g7
  obtain rfl : w2 = (.int i2) := Option.some.inj ei2
  obtain ⟨i3, ei3⟩ := is_v g8
  obtain rfl : w3 = (.int i3) := Option.some.inj ei3
  obtain ⟨n, o, h1, h2, h3, _, L, rfl, ⟨rfl, N⟩, hq⟩ := rm0 l s _ hw tables_1 i0 i1 i2 i3 s.heap s.heap.size (Nat.le_refl _) p e ha hc hk s m _ below hf ((Spec.applies_iff_loose hf).mp happ).1 ⟨rfl, State.Warmed39.refl s, rfl⟩ trivial
  refine ⟨n, _, h1, h2, h3, hpost _ _ _ _ _ _ ⟨Cond.after_iff.mpr rfl, Cond.after_iff.mpr (eq_i res_at (Term.int_eval (1)) rfl), trivial⟩ ⟨hq.1, hq.2.1, (hq.2.2.sift fun y hy => Or.inr (N y hy)).mono (by decide) (by decide)⟩⟩
theorem main_1_1 : Claimed_1_1 := comes_1 fun _ _ _ _ _ _ h hF => ⟨h.1, hF⟩
theorem main_1_2 : Claimed_1_2 := comes_1 fun _ _ _ _ _ _ h hF => ⟨h.2.1, hF⟩
end Jvm.Pilot.@@N@@
namespace Jvm.Pilot.@@N@@
open Jvm Jvm.ClassFile Sem Op Lib Jvm.Free Jvm.Stand Jvm.Pilot.@@N@@.Jvm.D
/-! MADE BY PROGRAM (witnessworld.py) out of the Statement's table words and the real class files: 11 classes; the members and pool entries that the words name. The judged class is class 1, her method 3. -/
namespace start1
open Jvm.ClassFile
def u (s : String) : CpInfo := .utf8 (stringToUtf16 s)
/-- a pool by its gaps: so many unusable entries, then the entry; so many at the end -/
def gap : Nat → List CpInfo → List CpInfo
  | 0, r => r
  | n + 1, r => .unusable :: gap n r
def poolList (es : List (Nat × CpInfo)) (last : Nat) : List CpInfo := es.foldr (fun e r => gap e.1 (e.2 :: r)) (gap last [])
def pool (es : List (Nat × CpInfo)) (last : Nat) : Array CpInfo := ⟨poolList es last⟩
def fileOf (pool : Array CpInfo) (this : Nat) (attrs : Array Attribute := #[]) (ms : Array MethodInfo := #[]) (fl : Nat := 33) (sup : Nat := 0) (ifs : Array Nat := #[]) (fds : Array FieldInfo := #[]) : ClassFile where
  minorVersion := 0
  majorVersion := 65
  constantPool := pool
  accessFlags := fl
  thisClass := this
  superClass := sup
  interfaces := ifs
  fields := fds
  methods := ms
  attributes := attrs
def plain (name : String) (sup : Option ClassId) : Class where
  name := name
  kind := .ordinary
  loader := none
  accessFlags := 33
  super := sup
  interfaces := #[]
  cf := none
  fields := #[]
  methods := #[]
  instanceTypes := #[]
  staticTypes := #[]
  resolved := #[]
  callSites := []
  init := .initialized
  statics := none
  mirror := none

def pool0 : Array CpInfo := pool [(5, u "<init>"), (0, u "()V"), (1, .class_ 10), (1, u "java/lang/Object")] 113

def k0m0 : Method := { name := "<init>", desc := "()V", sig := { parameters := [], returnType := none }, accessFlags := 1, code := none }
/-- java/lang/Object -/
def k0 : Class := { plain "java/lang/Object" none with
  accessFlags := 33
  interfaces := #[]
  cf := some (fileOf pool0 8 #[] #[{ accessFlags := 1, nameIndex := 5, descriptorIndex := 6, attributes := #[] }] 33 0 #[] #[])
  fields := #[]
  methods := #[k0m0]
  instanceTypes := #[]
  staticTypes := #[]
  resolved := Array.replicate 124 none
  statics := none }

def pool1 : Array CpInfo := pool [(2, .class_ 4), (1, u "java/lang/Object"), (0, u "<init>"), (0, u "()V"), (0, .integer 2147483647), (0, .methodref 9 10), (0, .class_ 11), (0, .nameAndType 12 13), (0, u "com/example/baton/baton/support/Skipped"), (0, u "marked"), (0, u "([ZII)[Z"), (0, .methodref 15 16), (0, .class_ 17), (0, .nameAndType 18 19), (0, u "com/example/baton/baton/support/SkippedMarkedPinLaw"), (0, u "off"), (0, u "([ZII)Z"), (0, .methodref 15 21), (0, .nameAndType 22 23), (0, u "kept"), (0, u "([ZIII)Z"), (5, u "law"), (0, u "(IIII)Z")] 2

def k1m0 : Method := { name := "<init>", desc := "()V", sig := { parameters := [], returnType := none }, accessFlags := 1, code := none }
def k1c1 : Code := { maxStack := 3, maxLocals := 3, code := method_2_code, exceptionTable := #[], attributes := #[] }
def k1m1 : Method := { name := "off", desc := "([ZII)Z", sig := { parameters := [(.array .boolean), .int, .int], returnType := some .boolean }, accessFlags := 10, code := some k1c1 }
def k1c2 : Code := { maxStack := 2, maxLocals := 5, code := method_3_code, exceptionTable := #[], attributes := #[] }
def k1m2 : Method := { name := "kept", desc := "([ZIII)Z", sig := { parameters := [(.array .boolean), .int, .int, .int], returnType := some .boolean }, accessFlags := 10, code := some k1c2 }
def k1c3 : Code := { maxStack := 4, maxLocals := 8, code := code, exceptionTable := #[], attributes := #[] }
def k1m3 : Method := { name := "law", desc := "(IIII)Z", sig := { parameters := [.int, .int, .int, .int], returnType := some .boolean }, accessFlags := 9, code := some k1c3 }
/-- com/example/baton/baton/support/SkippedMarkedPinLaw -/
def k1 : Class := { plain "com/example/baton/baton/support/SkippedMarkedPinLaw" (some 0) with
  accessFlags := 49
  interfaces := #[]
  cf := some (fileOf pool1 15 #[] #[{ accessFlags := 1, nameIndex := 5, descriptorIndex := 6, attributes := #[] }, { accessFlags := 10, nameIndex := 18, descriptorIndex := 19, attributes := #[] }, { accessFlags := 10, nameIndex := 22, descriptorIndex := 23, attributes := #[] }, { accessFlags := 9, nameIndex := 29, descriptorIndex := 30, attributes := #[] }] 49 2 #[] #[])
  fields := #[]
  methods := #[k1m0, k1m1, k1m2, k1m3]
  instanceTypes := #[]
  staticTypes := #[]
  resolved := Array.replicate 33 none
  statics := none }

def pool2 : Array CpInfo := pool [(4, .class_ 6), (1, u "java/lang/Object"), (0, u "<init>"), (0, u "()V"), (0, .class_ 10), (0, u "com/example/baton/baton/support/Skipped"), (0, u "IN_WORDS"), (0, u "I"), (4, u "marked"), (0, u "([ZII)[Z")] 9

def k2m0 : Method := { name := "<init>", desc := "()V", sig := { parameters := [], returnType := none }, accessFlags := 2, code := none }
def k2c1 : Code := { maxStack := 3, maxLocals := 4, code := prog_26_method_2_code, exceptionTable := #[], attributes := #[] }
def k2m1 : Method := { name := "marked", desc := "([ZII)[Z", sig := { parameters := [(.array .boolean), .int, .int], returnType := some (.array .boolean) }, accessFlags := 9, code := some k2c1 }
/-- com/example/baton/baton/support/Skipped -/
def k2 : Class := { plain "com/example/baton/baton/support/Skipped" (some 0) with
  accessFlags := 49
  interfaces := #[]
  cf := some (fileOf pool2 9 #[] #[{ accessFlags := 2, nameIndex := 7, descriptorIndex := 8, attributes := #[] }, { accessFlags := 9, nameIndex := 17, descriptorIndex := 18, attributes := #[] }] 49 4 #[] #[{ accessFlags := 25, nameIndex := 11, descriptorIndex := 12, attributes := #[] }])
  fields := #[{ name := "IN_WORDS", type := .int, accessFlags := 25, slot := 0, constantValue := 0 }]
  methods := #[k2m0, k2m1]
  instanceTypes := #[]
  staticTypes := #[.int]
  resolved := Array.replicate 28 none
  statics := none }

def pool3 : Array CpInfo := pool [(1, u "java/lang/Cloneable"), (0, .class_ 1), (0, u "java/lang/Object"), (0, .class_ 3)] 3

/-- java/lang/Cloneable -/
def k3 : Class := { plain "java/lang/Cloneable" (some 0) with
  accessFlags := 1537
  interfaces := #[]
  cf := some (fileOf pool3 2 #[] #[] 1537 4 #[] #[])
  fields := #[]
  methods := #[]
  instanceTypes := #[]
  staticTypes := #[]
  resolved := Array.replicate 8 none
  statics := none }

def pool4 : Array CpInfo := pool [(1, u "java/io/Serializable"), (0, .class_ 1), (0, u "java/lang/Object"), (0, .class_ 3)] 3

/-- java/io/Serializable -/
def k4 : Class := { plain "java/io/Serializable" (some 0) with
  accessFlags := 1537
  interfaces := #[]
  cf := some (fileOf pool4 2 #[] #[] 1537 4 #[] #[])
  fields := #[]
  methods := #[]
  instanceTypes := #[]
  staticTypes := #[]
  resolved := Array.replicate 8 none
  statics := none }

/-- the primitive boolean -/
def k5 : Class := { plain "boolean" none with kind := .primitive 'Z', accessFlags := 0x411 }
/-- [Z -/
def k6 : Class := { plain "[Z" (some 0) with kind := .array 5 .boolean, interfaces := #[3, 4], accessFlags := 1041 }

/-- the primitive byte -/
def k7 : Class := { plain "byte" none with kind := .primitive 'B', accessFlags := 0x411 }
/-- [B -/
def k8 : Class := { plain "[B" (some 0) with kind := .array 7 .byte, interfaces := #[3, 4], accessFlags := 1041 }

/-- the primitive int -/
def k9 : Class := { plain "int" none with kind := .primitive 'I', accessFlags := 0x411 }
/-- [I -/
def k10 : Class := { plain "[I" (some 0) with kind := .array 9 .int, interfaces := #[3, 4], accessFlags := 1041 }

def heap : Heap := #[]
def classes : Array Class := #[k0, k1, k2, k3, k4, k5, k6, k7, k8, k9, k10]
def interned : List (Array UInt16 × Addr) := []
def slotsUsed : Nat := 0
def theMethod : MethodId := ⟨1, 3⟩
def args0 : Array Value := #[.int 5, .int 5, .int 5, .int 5]
def aboutOver (below : List Frame) : State where
  vm := { classes := classes, interned := interned.toArray }
  heap := heap
  slotsUsed := slotsUsed
  threads := #[{ frames := .invoking theMethod args0 :: below }]
def below0 : List Frame := [.native { method := ⟨0, 0⟩, args := #[] }]
def about1 : State := aboutOver below0
def p0 : Program := .bare "" "" ""
def e0 : Env := launch0.env 0 0 0
theorem w_frames : about1.frames = Frame.invoking theMethod args0 :: below0 := rfl
set_option maxRecDepth 65536 in
theorem w_args : argsFit about1.vm theMethod args0 = true := by decide +kernel
set_option maxRecDepth 65536 in
theorem w_heap : heapFits about1 = true := by decide +kernel
set_option maxRecDepth 65536 in
theorem w_runnable : about1.curStatus? = some .runnable := by decide +kernel
set_option maxRecDepth 65536 in
theorem w_alone : about1.alone = true := by decide +kernel
set_option maxRecDepth 65536 in
theorem w_named : about1.methodNamed? x = some theMethod := by decide +kernel
set_option maxRecDepth 65536 in
theorem w_hears : about1.hears theMethod below0 = true := by decide +kernel
set_option maxRecDepth 65536 in
theorem w_ripe : about1.ripe theMethod args0 below0 = true := by decide +kernel
theorem w_running : about1.status = .running := rfl
set_option maxRecDepth 65536 in
theorem w_room : about1.hasRoom e0.platform room_1 = true :=
  launch0.hasRoom_least _ room_1 (by decide +kernel) (by decide +kernel) (by decide +kernel) (by decide +kernel) (by decide +kernel) (by decide +kernel)
theorem allAtoms_all (ts : List Jvm.Cond) (a : Array Jvm.Value) (st : Jvm.State) : (allAtoms ts).before a st = ts.all (fun c => c.before a st) := by
  induction ts with
  | nil => rfl
  | cons c t ih =>
    show (Jvm.Cond.and c (allAtoms t)).before a st = _
    rw [Jvm.Cond.before_and, ih, List.all_cons]
def words1 : List Jvm.Cond := Jvm.Cond.code x code maxLocals ret :: tables_1
/-- a 'code' word, met by the world's own term for the bytes: nothing is compared byte by byte -/
theorem code_word {y : MethodName} {bytes : ByteArray} {mx : Nat} {rt : Option FieldType} {a : Array Value} {s : State} {m : MethodId} {meth : Method} {c : Code} (h1 : s.methodNamed? y = some m) (h2 : s.vm.method? m = some meth) (h3 : meth.code = some c) (h4 : c.code = bytes)
    (h5 : (c.maxLocals == mx && c.exceptionTable.isEmpty && decide (c.maxStack ≤ mostOperands) && decide (meth.sig.returnType = rt) && !meth.locks && decide (parseMethodDescriptor y.desc = some meth.sig)) = true) : (Jvm.Cond.code y bytes mx rt).before a s = true := by
  simp only [Bool.and_eq_true, beq_iff_eq, Bool.not_eq_true', decide_eq_true_eq] at h5
  obtain ⟨⟨⟨⟨⟨g1, g2⟩, g3⟩, g4⟩, g5⟩, g6⟩ := h5
  simp [Cond.before, Cond.holds, Cond.value, h1, h2, h3, h4, g1, g2, g3, g4, g5, g6]
def isCode : Jvm.Cond → Bool
  | .code _ _ _ _ => true
  | _ => false
theorem all_split {L : List Jvm.Cond} {P : Jvm.Cond → Bool} (h1 : L.all (fun c => isCode c || P c) = true) (h2 : ∀ c ∈ L.filter isCode, P c = true) : L.all P = true := by
  refine List.all_eq_true.mpr fun c hc => ?_
  have h := List.all_eq_true.mp h1 c hc
  rcases Bool.eq_false_or_eq_true (isCode c) with hi | hi
  · exact h2 c (List.mem_filter.mpr ⟨hc, hi⟩)
  · simpa [hi] using h
set_option maxRecDepth 65536 in
theorem w_c0 : (Jvm.Cond.code x code maxLocals ret).before args0 about1 = true := code_word (m := ⟨1, 3⟩) (meth := k1m3) (c := k1c3) (by decide +kernel) rfl rfl rfl (by decide +kernel)
set_option maxRecDepth 65536 in
theorem w_c1 : (Jvm.Cond.code ({ cls := "com/example/baton/baton/support/Skipped", name := "marked", desc := "([ZII)[Z" } : Jvm.MethodName) prog_26_method_2_code (4 : Nat) (Option.some (Jvm.ClassFile.FieldType.array Jvm.ClassFile.FieldType.boolean))).before args0 about1 = true := code_word (m := ⟨2, 1⟩) (meth := k2m1) (c := k2c1) (by decide +kernel) rfl rfl rfl (by decide +kernel)
set_option maxRecDepth 65536 in
theorem w_c2 : (Jvm.Cond.code ({ cls := "com/example/baton/baton/support/SkippedMarkedPinLaw", name := "kept", desc := "([ZIII)Z" } : Jvm.MethodName) method_3_code (5 : Nat) (Option.some Jvm.ClassFile.FieldType.boolean)).before args0 about1 = true := code_word (m := ⟨1, 2⟩) (meth := k1m2) (c := k1c2) (by decide +kernel) rfl rfl rfl (by decide +kernel)
set_option maxRecDepth 65536 in
theorem w_c3 : (Jvm.Cond.code ({ cls := "com/example/baton/baton/support/SkippedMarkedPinLaw", name := "off", desc := "([ZII)Z" } : Jvm.MethodName) method_2_code (3 : Nat) (Option.some Jvm.ClassFile.FieldType.boolean)).before args0 about1 = true := code_word (m := ⟨1, 1⟩) (meth := k1m1) (c := k1c1) (by decide +kernel) rfl rfl rfl (by decide +kernel)
def codes1 : List Jvm.Cond := [Jvm.Cond.code x code maxLocals ret, Jvm.Cond.code ({ cls := "com/example/baton/baton/support/Skipped", name := "marked", desc := "([ZII)[Z" } : Jvm.MethodName) prog_26_method_2_code (4 : Nat) (Option.some (Jvm.ClassFile.FieldType.array Jvm.ClassFile.FieldType.boolean)), Jvm.Cond.code ({ cls := "com/example/baton/baton/support/SkippedMarkedPinLaw", name := "kept", desc := "([ZIII)Z" } : Jvm.MethodName) method_3_code (5 : Nat) (Option.some Jvm.ClassFile.FieldType.boolean), Jvm.Cond.code ({ cls := "com/example/baton/baton/support/SkippedMarkedPinLaw", name := "off", desc := "([ZII)Z" } : Jvm.MethodName) method_2_code (3 : Nat) (Option.some Jvm.ClassFile.FieldType.boolean)]
set_option maxRecDepth 65536 in
theorem codes_eq : words1.filter isCode = codes1 := rfl
theorem w_codes : ∀ c ∈ words1.filter isCode, c.before args0 about1 = true := by
  rw [codes_eq]
  intro c hc
  simp only [codes1, List.mem_cons, List.not_mem_nil, or_false] at hc
  rcases hc with rfl | rfl | rfl | rfl
  · exact w_c0
  · exact w_c1
  · exact w_c2
  · exact w_c3
set_option maxRecDepth 65536 in
theorem w_t1 : words1.all (fun c => isCode c || c.before args0 about1) = true := by decide +kernel
theorem w_tables : (allAtoms (Jvm.Cond.code x code maxLocals ret :: tables_1)).before args0 about1 = true := by
  rw [allAtoms_all]
  show words1.all (fun c => c.before args0 about1) = true
  refine all_split ?_ w_codes
  rw [w_t1]
set_option maxRecDepth 65536 in
theorem w_case : (Jvm.Cond.and given_1 narrow_1).before args0 about1 = true := by decide +kernel
theorem w_applies : (headSpec (Jvm.Cond.code x code maxLocals ret :: tables_1) room_1).applies x e0.platform about1 = true :=
  (Spec.applies_iff w_frames).mpr ⟨w_running, w_runnable, w_alone, w_named, w_hears, w_ripe, w_room, w_tables⟩
theorem atStart : AtStart classFile x code maxLocals ret World_1 tables_1 room_1 Calls_1 rest_1 Pre_1 launch0 p0 e0 about1 theMethod args0 below0 :=
  ⟨lists_1, trivial, launch0.admits_env _ _ _, launch0.least_env, fairChoices_fair.cas, fairChoices_fair.clock, w_frames, w_args, w_heap, w_applies, trivial, trivial, w_case⟩
end start1
theorem witness_1 : WitnessClaimed_1 := ⟨start1.p0, start1.e0, start1.about1, start1.theMethod, start1.args0, start1.below0, start1.atStart⟩
end Jvm.Pilot.@@N@@
