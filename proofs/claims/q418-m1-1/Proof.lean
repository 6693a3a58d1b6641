import JvmDerived
import JvmDerived.Pilot.@@N@@Statement
import JvmDerived.Pilot.@@N@@Code
set_option linter.unusedVariables false
set_option linter.unusedSimpArgs false
namespace Jvm.RoadKit
open Sem ClassFile Op Lib Jvm.Stand Jvm.Free Jvm.LawKit
section New
variable {p : Program} {l : Launch} {e : Env} {R : Room} {s : State} {m : MethodId} {args : Array Value} {below : List Frame} {meth : Method} {c : Code} {T : State} {locs : List Loc} {cells slots : Nat}
theorem retI (X : Stand p l e R s m args below meth c T locs cells slots) (hx : p.tables.exec = Jvm.exec) {pc : Nat} {Ls : Array Slot} {z : Int32} {rest : List Value} (hret : meth.sig.returnType = some .int) (hd : decode c.code pc = .ok (.ireturn, 1)) {fs : List Frame}
    (hl : ∀ (f : JFrame) (acts : List Action), f.method = m → f.locked = none → f.entered = [] → (doReturn e (T.setTop f) acts (some (.int z))).1 = T.setFrames fs) : Steps p.tables e below (T.setTop (mkF m pc Ls (.int z :: rest))) (T.setFrames fs) := by
  have hm' : T.vm.method? m = some meth := X.method'
  have hn : narrow .int (.int z) = .int z := rfl
  show Steps p.tables e below (T.setTop { method := m, pc := pc, locals := Ls, stack := _ :: rest, locked := none }) _
  jvm_step X.here [X.here.top, hx, hd, hm', hret, hn]
  first | (intro acts; rw [hl _ acts rfl rfl rfl]) | rw [hl _ _ rfl rfl rfl]
  exact Steps.refl _
theorem retL (X : Stand p l e R s m args below meth c T locs cells slots) (hx : p.tables.exec = Jvm.exec) {pc : Nat} {Ls : Array Slot} {z : Int64} {rest : List Value} (hret : meth.sig.returnType = some .long) (hd : decode c.code pc = .ok (.lreturn, 1)) {fs : List Frame}
    (hl : ∀ (f : JFrame) (acts : List Action), f.method = m → f.locked = none → f.entered = [] → (doReturn e (T.setTop f) acts (some (.long z))).1 = T.setFrames fs) : Steps p.tables e below (T.setTop (mkF m pc Ls (.long z :: rest))) (T.setFrames fs) := by
  have hm' : T.vm.method? m = some meth := X.method'
  have hn : narrow .long (.long z) = .long z := rfl
  show Steps p.tables e below (T.setTop { method := m, pc := pc, locals := Ls, stack := _ :: rest, locked := none }) _
  jvm_step X.here [X.here.top, hx, hd, hm', hret, hn]
  first | (intro acts; rw [hl _ acts rfl rfl rfl]) | rw [hl _ _ rfl rfl rfl]
  exact Steps.refl _
end New
end Jvm.RoadKit
namespace Jvm.Pilot.@@N@@
open Jvm Jvm.ClassFile Sem Op Lib Jvm.Free Jvm.Stand Jvm.LawKit Jvm.RoadKit Bundle Jvm.Pilot.@@N@@.Jvm.D
abbrev vB : String := "com/example/baton/baton/core/format/VorbisBits"
theorem pn_com_example_baton_baton_core_format_VorbisBitsSkipPinLaw : plainName "com/example/baton/baton/core/format/VorbisBitsSkipPinLaw" = true := by first | (simp [plainName, overriddenIn]; done) | decide +kernel
theorem pn_com_example_baton_baton_core_format_VorbisBits : plainName vB = true := by first | (simp [plainName, overriddenIn]; done) | decide +kernel
abbrev jv (x : Int64) : Slot := .val (.long x)
abbrev un : Slot := .unset
abbrev sn : Slot := .second
abbrev oE (p : Program) (e : Env) (below : List Frame) (T : State) (m : MethodId) (A : Array Value) (k : Nat) (t : State) : Prop := Steps p.tables e below (T.setTop (entryFrame m A k)) t
abbrev oS (p : Program) (e : Env) (below : List Frame) (T : State) (m : MethodId) (pc : Nat) (L : Array Slot) (S : List Value) (t : State) : Prop := Steps p.tables e below (T.setTop (mkF m pc L S)) t
theorem d5_0 : decode jdk_29_method_69_code 0 = .ok (.iload_n 0, 1) := by decide +kernel
theorem d5_1 : decode jdk_29_method_69_code 1 = .ok (.iload_n 1, 1) := by decide +kernel
theorem d5_2 : decode jdk_29_method_69_code 2 = .ok (.if_icmp .gt 7, 3) := by decide +kernel
theorem d5_9 : decode jdk_29_method_69_code 9 = .ok (.iload_n 1, 1) := by decide +kernel
theorem d5_10 : decode jdk_29_method_69_code 10 = .ok (.ireturn, 1) := by decide +kernel
theorem d5_5 : decode jdk_29_method_69_code 5 = .ok (.iload_n 0, 1) := by decide +kernel
theorem d5_6 : decode jdk_29_method_69_code 6 = .ok (.goto 4, 3) := by decide +kernel
theorem ef5 (m : MethodId) (x0 : Int32) (x1 : Int32) : entryFrame m #[(.int x0), (.int x1)] 2 = mkF m 0 #[iv x0, iv x1] [] := by first | (simp [entryFrame, mkF, argsToLocals, Value.category]; done) | rfl
def f_min (p0 : Int32) (p1 : Int32) : Int32 :=
  if p1 < p0 then
    p1
  else
    p0
def Q5 (Z : State) (p0 : Int32) (p1 : Int32) (h0 : Heap) (n0 : Nat) (v : Option Value) (h : Heap) (L : List Loc) : Prop := v = some (.int (f_min p0 p1)) ∧ Fr n0 L ∧ h = h0
set_option maxRecDepth 65536 in
set_option maxHeartbeats 40000000 in
theorem rm5 (l : Launch) (Z : State) (av : Array Value) (hw : ∀ d ∈ tables_1, d.before av Z = true) (ws : List Jvm.Cond) (p0 : Int32) (p1 : Int32) (h0 : Heap) (n0 : Nat) (Z0 : n0 ≤ h0.size) :
    MetFree l (⟨"java/lang/Math", "min", "(II)I"⟩ : MethodName) (head1 (Jvm.Cond.code (⟨"java/lang/Math", "min", "(II)I"⟩ : MethodName) jdk_29_method_69_code 2 (some .int) :: ws) ({ frames := 0, cells := 0, slots := 0, locals := 0 } : Room)) (fun a U => a = #[(.int p0), (.int p1)] ∧ Z.Warmed39 U.vm ∧ U.heap = h0) (fun _ _ _ _ _ => True) (fun _ U o U' => ∃ v L, o = .returned v ∧ Q5 Z p0 p1 h0 n0 v U'.heap L ∧ FrameEnd U o U' L ({ frames := 0, cells := 0, slots := 0, locals := 0 } : Room).cells ({ frames := 0, cells := 0, slots := 0, locals := 0 } : Room).slots) := by
  refine MetFree.of_bodySF (Jvm.Free.JP.mathPlain rfl (by decide +kernel)) hisR ?_
  intro p e s m args below meth c s₁ Bd hml0 hP hK
  obtain ⟨rfl, hZ, hh⟩ := hP
  have hx := Bd.exec
  have hby := Bd.bytes
  have hml : c.maxLocals = 2 := hml0
  have hown : s.vm.findClass "java/lang/Math" = some m.cls := by have h := findClass_of_methodNamed Bd.named; exact h
  have hnm := (name_of_methodNamed Bd.named Bd.method).1
  have X0 : Stand p l e ({ frames := 0, cells := 0, slots := 0, locals := 0 } : Room) s m #[(.int p0), (.int p1)] below meth c s₁ [] 0 0 := Stand.of_body Bd
  have e0 : s₁.heap = h0 := by rw [← hh, Bd.state]; rfl
  have N0 := Fr.nil n0
  have K0 : Keep h0 h0 [] := Keep.refl h0 []
  have pre0 : ∀ t, Steps p.tables e below (s₁.setTop (mkF m 0 #[iv p0, iv p1] [])) t → Steps p.tables e below (s₁.setTop (entryFrame m #[(.int p0), (.int p1)] 2)) t := fun t k => castTop (ef5 m p0 p1) k
  have pre1 : ∀ t, oS p e below s₁ m 2 #[iv p0, iv p1] [(.int p1), (.int p0)] t → oE p e below s₁ m #[(.int p0), (.int p1)] 2 t := fun t kt => pre0 t (by
    show oS p e below s₁ m 0 #[iv p0, iv p1] [] _
    refine XS.iloadN X0.here hx rfl (hb hby d5_0) rfl ?_
    show oS p e below s₁ m 1 #[iv p0, iv p1] [(.int p0)] _
    refine XS.iloadN X0.here hx rfl (hb hby d5_1) rfl ?_
    exact kt)
  clear pre0
  by_cases hc2_2 : p1 < p0
  · have pre3 : ∀ t, oS p e below s₁ m 10 #[iv p0, iv p1] [(.int p1)] t → oE p e below s₁ m #[(.int p0), (.int p1)] 2 t := fun t kt => pre1 t (by
      show oS p e below s₁ m 2 #[iv p0, iv p1] [(.int p1), (.int p0)] _
      refine XS.icmpYes X0.here hx rfl (pc0 := 2) (pc' := 9) rfl (hb hby d5_2) rfl (tlt hc2_2).2.2.1 (by decide) (by decide) ?_
      show oS p e below s₁ m 9 #[iv p0, iv p1] [] _
      refine XS.iloadN X0.here hx rfl (hb hby d5_9) rfl ?_
      exact kt)
    clear pre1
    have hv : f_min p0 p1 = p1 := by
      unfold f_min
      rw [if_pos hc2_2]
    obtain ⟨fs, hr, hrun, hended, hW, hsame⟩ := X0.leave (v := some (.int (f_min p0 p1))) (fun h => by rw [Bd.returns] at h; cases h)
    refine ⟨_, _, pre3 _ ?_, hrun, hended, _, _, rfl, ?_, ⟨_, rfl⟩, hW, hsame.mono (by decide) (by decide)⟩
    · rw [hv] at hr
      show oS p e below s₁ m 10 #[iv p0, iv p1] [(.int p1)] _
      exact retI X0 hx Bd.returns (hb hby d5_10) hr
    · show Q5 Z p0 p1 h0 n0 _ s₁.heap _
      rw [e0]
      exact ⟨rfl, N0, rfl⟩
  · have pre4 : ∀ t, oS p e below s₁ m 10 #[iv p0, iv p1] [(.int p0)] t → oE p e below s₁ m #[(.int p0), (.int p1)] 2 t := fun t kt => pre1 t (by
      show oS p e below s₁ m 2 #[iv p0, iv p1] [(.int p1), (.int p0)] _
      refine XS.icmpNo X0.here hx rfl (hb hby d5_2) rfl (flt hc2_2).2.2.1 ?_
      show oS p e below s₁ m 5 #[iv p0, iv p1] [] _
      refine XS.iloadN X0.here hx rfl (hb hby d5_5) rfl ?_
      show oS p e below s₁ m 6 #[iv p0, iv p1] [(.int p0)] _
      refine XS.goto X0.here hx rfl (pc0 := 6) (pc' := 10) rfl (hb hby d5_6) (by decide) (by decide) ?_
      exact kt)
    clear pre1
    have hv : f_min p0 p1 = p0 := by
      unfold f_min
      rw [if_neg hc2_2]
    obtain ⟨fs, hr, hrun, hended, hW, hsame⟩ := X0.leave (v := some (.int (f_min p0 p1))) (fun h => by rw [Bd.returns] at h; cases h)
    refine ⟨_, _, pre4 _ ?_, hrun, hended, _, _, rfl, ?_, ⟨_, rfl⟩, hW, hsame.mono (by decide) (by decide)⟩
    · rw [hv] at hr
      show oS p e below s₁ m 10 #[iv p0, iv p1] [(.int p0)] _
      exact retI X0 hx Bd.returns (hb hby d5_10) hr
    · show Q5 Z p0 p1 h0 n0 _ s₁.heap _
      rw [e0]
      exact ⟨rfl, N0, rfl⟩
theorem d6_0 : decode prog_89_method_2_code 0 = .ok (.aload_n 0, 1) := by decide +kernel
theorem d6_1 : decode prog_89_method_2_code 1 = .ok (.getfield 19, 3) := by decide +kernel
theorem d6_4 : decode prog_89_method_2_code 4 = .ok (.ireturn, 1) := by decide +kernel
theorem ef6 (m : MethodId) (x0 : Addr) : entryFrame m #[(.ref x0)] 1 = mkF m 0 #[rv x0] [] := by first | (simp [entryFrame, mkF, argsToLocals, Value.category]; done) | rfl
def Q6 (Z : State) (a0 : Addr) (ab : Addr) (sz : Int64) (ps : Int64) (ed : Int32) (h0 : Heap) (n0 : Nat) (v : Option Value) (h : Heap) (L : List Loc) : Prop := v = some (.int (ed)) ∧ Fr n0 L ∧ h = h0
set_option maxRecDepth 65536 in
set_option maxHeartbeats 40000000 in
theorem rm6 (l : Launch) (Z : State) (av : Array Value) (hw : ∀ d ∈ tables_1, d.before av Z = true) (ws : List Jvm.Cond) (a0 : Addr) (ab : Addr) (sz : Int64) (ps : Int64) (ed : Int32) (h0 : Heap) (n0 : Nat) (Z0 : n0 ≤ h0.size) (E_a0 : Exa Z h0 a0 vB) (g_a0 : n0 ≤ a0) (I_data : Fld Z h0 a0 vB "data" "[B" (.ref ab)) (I_size : Fld Z h0 a0 vB "size" "J" (.long sz)) (I_position : Fld Z h0 a0 vB "position" "J" (.long ps)) (I_ended : Fld Z h0 a0 vB "ended" "Z" (.int ed)) (hed : nar .boolean ed = ed) :
    MetFree l (⟨vB, "ended", "()Z"⟩ : MethodName) (head1 (Jvm.Cond.code (⟨vB, "ended", "()Z"⟩ : MethodName) prog_89_method_2_code 1 (some .boolean) :: ws) ({ frames := 0, cells := 0, slots := 0, locals := 0 } : Room)) (fun a U => a = #[(.ref a0)] ∧ Z.Warmed39 U.vm ∧ U.heap = h0) (fun _ _ _ _ _ => True) (fun _ U o U' => ∃ v L, o = .returned v ∧ Q6 Z a0 ab sz ps ed h0 n0 v U'.heap L ∧ FrameEnd U o U' L ({ frames := 0, cells := 0, slots := 0, locals := 0 } : Room).cells ({ frames := 0, cells := 0, slots := 0, locals := 0 } : Room).slots) := by
  refine MetFree.of_bodySF (plainFor_of_name pn_com_example_baton_baton_core_format_VorbisBits) hisR ?_
  intro p e s m args below meth c s₁ Bd hml0 hP hK
  obtain ⟨rfl, hZ, hh⟩ := hP
  have hx := Bd.exec
  have hby := Bd.bytes
  have hml : c.maxLocals = 1 := hml0
  have hown : s.vm.findClass vB = some m.cls := by have h := findClass_of_methodNamed Bd.named; exact h
  have hnm := (name_of_methodNamed Bd.named Bd.method).1
  have X0 : Stand p l e ({ frames := 0, cells := 0, slots := 0, locals := 0 } : Room) s m #[(.ref a0)] below meth c s₁ [] 0 0 := Stand.of_body Bd
  have e0 : s₁.heap = h0 := by rw [← hh, Bd.state]; rfl
  have N0 := Fr.nil n0
  have K0 : Keep h0 h0 [] := Keep.refl h0 []
  have pre0 : ∀ t, Steps p.tables e below (s₁.setTop (mkF m 0 #[rv a0] [])) t → Steps p.tables e below (s₁.setTop (entryFrame m #[(.ref a0)] 1)) t := fun t k => castTop (ef6 m a0) k
  have pre1 : ∀ t, oS p e below s₁ m 1 #[rv a0] [(.ref a0)] t → oE p e below s₁ m #[(.ref a0)] 1 t := fun t kt => pre0 t (by
    show oS p e below s₁ m 0 #[rv a0] [] _
    refine XS.aloadN X0.here hx rfl (hb hby d6_0) rfl rfl ?_
    exact kt)
  clear pre0
  obtain ⟨T2, X2, e2, st2⟩ := getF X0 hx hZ hown (host := "") (Or.inl (hw _ (List.mem_of_getElem? (i := 25) rfl))) Via.refl e0 I_ended (g := (mkF m 1 #[rv a0] [(.ref a0)])) rfl rfl (hb hby d6_1)
  have pre3 : ∀ t, oS p e below T2 m 4 #[rv a0] [(.int ed)] t → oE p e below s₁ m #[(.ref a0)] 1 t := fun t kt => pre1 t (st2 _ kt)
  clear pre1 st2
  obtain ⟨fs, hr, hrun, hended, hW, hsame⟩ := X2.leave (v := some (.int ed)) (fun h => by rw [Bd.returns] at h; cases h)
  refine ⟨_, _, pre3 _ ?_, hrun, hended, _, _, rfl, ?_, ⟨_, rfl⟩, hW, hsame.mono (by decide) (by decide)⟩
  · show oS p e below T2 m 4 #[rv a0] [(.int ed)] _
    exact retN X2 hx (t := .boolean) Bd.returns (by simp) (hb hby d6_4) (by rw [hed]; exact hr)
  · show Q6 Z a0 ab sz ps ed h0 n0 _ T2.heap _
    rw [e2]
    exact ⟨rfl, N0, rfl⟩
theorem d3_0 : decode prog_89_method_6_code 0 = .ok (.aload_n 0, 1) := by decide +kernel
theorem d3_1 : decode prog_89_method_6_code 1 = .ok (.getfield 15, 3) := by decide +kernel
theorem d3_4 : decode prog_89_method_6_code 4 = .ok (.aload_n 0, 1) := by decide +kernel
theorem d3_5 : decode prog_89_method_6_code 5 = .ok (.getfield 34, 3) := by decide +kernel
theorem d3_8 : decode prog_89_method_6_code 8 = .ok (.lsub, 1) := by decide +kernel
theorem d3_9 : decode prog_89_method_6_code 9 = .ok (.iload_n 1, 1) := by decide +kernel
theorem d3_10 : decode prog_89_method_6_code 10 = .ok (.i2l, 1) := by decide +kernel
theorem d3_11 : decode prog_89_method_6_code 11 = .ok (.lcmp, 1) := by decide +kernel
theorem d3_12 : decode prog_89_method_6_code 12 = .ok (.ifCond .ge 18, 3) := by decide +kernel
theorem d3_15 : decode prog_89_method_6_code 15 = .ok (.aload_n 0, 1) := by decide +kernel
theorem d3_16 : decode prog_89_method_6_code 16 = .ok (.aload_n 0, 1) := by decide +kernel
theorem d3_17 : decode prog_89_method_6_code 17 = .ok (.getfield 15, 3) := by decide +kernel
theorem d3_20 : decode prog_89_method_6_code 20 = .ok (.putfield 34, 3) := by decide +kernel
theorem d3_23 : decode prog_89_method_6_code 23 = .ok (.aload_n 0, 1) := by decide +kernel
theorem d3_24 : decode prog_89_method_6_code 24 = .ok (.iconst 1, 1) := by decide +kernel
theorem d3_25 : decode prog_89_method_6_code 25 = .ok (.putfield 19, 3) := by decide +kernel
theorem d3_28 : decode prog_89_method_6_code 28 = .ok (.iconst 0, 1) := by decide +kernel
theorem d3_29 : decode prog_89_method_6_code 29 = .ok (.ireturn, 1) := by decide +kernel
theorem d3_30 : decode prog_89_method_6_code 30 = .ok (.aload_n 0, 1) := by decide +kernel
theorem d3_31 : decode prog_89_method_6_code 31 = .ok (.dup, 1) := by decide +kernel
theorem d3_32 : decode prog_89_method_6_code 32 = .ok (.getfield 34, 3) := by decide +kernel
theorem d3_35 : decode prog_89_method_6_code 35 = .ok (.iload_n 1, 1) := by decide +kernel
theorem d3_36 : decode prog_89_method_6_code 36 = .ok (.i2l, 1) := by decide +kernel
theorem d3_37 : decode prog_89_method_6_code 37 = .ok (.ladd, 1) := by decide +kernel
theorem d3_38 : decode prog_89_method_6_code 38 = .ok (.putfield 34, 3) := by decide +kernel
theorem d3_41 : decode prog_89_method_6_code 41 = .ok (.iconst 1, 1) := by decide +kernel
theorem d3_42 : decode prog_89_method_6_code 42 = .ok (.ireturn, 1) := by decide +kernel
theorem ef3 (m : MethodId) (x0 : Addr) (x1 : Int32) : entryFrame m #[(.ref x0), (.int x1)] 2 = mkF m 0 #[rv x0, iv x1] [] := by first | (simp [entryFrame, mkF, argsToLocals, Value.category]; done) | rfl
def Q3 (Z : State) (a0 : Addr) (p1 : Int32) (ab : Addr) (sz : Int64) (ps : Int64) (ed : Int32) (h0 : Heap) (n0 : Nat) (v : Option Value) (h : Heap) (L : List Loc) : Prop := ∃ (rv' : Int32) (ps' : Int64) (ed' : Int32), v = some (.int rv') ∧ Fr n0 L ∧ Keep h0 h [a0] ∧ (Exa Z h a0 vB ∧ Fld Z h a0 vB "data" "[B" (.ref ab) ∧ Fld Z h a0 vB "size" "J" (.long sz) ∧ Fld Z h a0 vB "position" "J" (.long ps') ∧ Fld Z h a0 vB "ended" "Z" (.int ed')) ∧ (((sz - ps) < (p1.toInt64) ∧ rv' = (0 : Int32) ∧ ps' = sz ∧ ed' = (1 : Int32)) ∨ (¬ (sz - ps) < (p1.toInt64) ∧ rv' = (1 : Int32) ∧ ps' = (ps + (p1.toInt64)) ∧ ed' = ed))
set_option maxRecDepth 65536 in
set_option maxHeartbeats 40000000 in
theorem rm3 (l : Launch) (Z : State) (av : Array Value) (hw : ∀ d ∈ tables_1, d.before av Z = true) (ws : List Jvm.Cond) (a0 : Addr) (p1 : Int32) (ab : Addr) (sz : Int64) (ps : Int64) (ed : Int32) (h0 : Heap) (n0 : Nat) (Z0 : n0 ≤ h0.size) (E_a0 : Exa Z h0 a0 vB) (g_a0 : n0 ≤ a0) (I_data : Fld Z h0 a0 vB "data" "[B" (.ref ab)) (I_size : Fld Z h0 a0 vB "size" "J" (.long sz)) (I_position : Fld Z h0 a0 vB "position" "J" (.long ps)) (I_ended : Fld Z h0 a0 vB "ended" "Z" (.int ed)) :
    MetFree l (⟨vB, "skip", "(I)Z"⟩ : MethodName) (head1 (Jvm.Cond.code (⟨vB, "skip", "(I)Z"⟩ : MethodName) prog_89_method_6_code 2 (some .boolean) :: ws) ({ frames := 0, cells := 0, slots := 0, locals := 0 } : Room)) (fun a U => a = #[(.ref a0), (.int p1)] ∧ Z.Warmed39 U.vm ∧ U.heap = h0) (fun _ _ _ _ _ => True) (fun _ U o U' => ∃ v L, o = .returned v ∧ Q3 Z a0 p1 ab sz ps ed h0 n0 v U'.heap L ∧ FrameEnd U o U' L ({ frames := 0, cells := 0, slots := 0, locals := 0 } : Room).cells ({ frames := 0, cells := 0, slots := 0, locals := 0 } : Room).slots) := by
  refine MetFree.of_bodySF (plainFor_of_name pn_com_example_baton_baton_core_format_VorbisBits) hisR ?_
  intro p e s m args below meth c s₁ Bd hml0 hP hK
  obtain ⟨rfl, hZ, hh⟩ := hP
  have hx := Bd.exec
  have hby := Bd.bytes
  have hml : c.maxLocals = 2 := hml0
  have hown : s.vm.findClass vB = some m.cls := by have h := findClass_of_methodNamed Bd.named; exact h
  have hnm := (name_of_methodNamed Bd.named Bd.method).1
  have X0 : Stand p l e ({ frames := 0, cells := 0, slots := 0, locals := 0 } : Room) s m #[(.ref a0), (.int p1)] below meth c s₁ [] 0 0 := Stand.of_body Bd
  have e0 : s₁.heap = h0 := by rw [← hh, Bd.state]; rfl
  have N0 := Fr.nil n0
  have K0 : Keep h0 h0 [a0] := Keep.refl h0 [a0]
  have pre0 : ∀ t, Steps p.tables e below (s₁.setTop (mkF m 0 #[rv a0, iv p1] [])) t → Steps p.tables e below (s₁.setTop (entryFrame m #[(.ref a0), (.int p1)] 2)) t := fun t k => castTop (ef3 m a0 p1) k
  have pre1 : ∀ t, oS p e below s₁ m 1 #[rv a0, iv p1] [(.ref a0)] t → oE p e below s₁ m #[(.ref a0), (.int p1)] 2 t := fun t kt => pre0 t (by
    show oS p e below s₁ m 0 #[rv a0, iv p1] [] _
    refine XS.aloadN X0.here hx rfl (hb hby d3_0) rfl rfl ?_
    exact kt)
  clear pre0
  obtain ⟨T2, X2, e2, st2⟩ := getF X0 hx hZ hown (host := "") (Or.inl (hw _ (List.mem_of_getElem? (i := 16) rfl))) Via.refl e0 I_size (g := (mkF m 1 #[rv a0, iv p1] [(.ref a0)])) rfl rfl (hb hby d3_1)
  have pre3 : ∀ t, oS p e below T2 m 4 #[rv a0, iv p1] [(.long sz)] t → oE p e below s₁ m #[(.ref a0), (.int p1)] 2 t := fun t kt => pre1 t (st2 _ kt)
  clear pre1 st2
  have pre4 : ∀ t, oS p e below T2 m 5 #[rv a0, iv p1] [(.ref a0), (.long sz)] t → oE p e below s₁ m #[(.ref a0), (.int p1)] 2 t := fun t kt => pre3 t (by
    show oS p e below T2 m 4 #[rv a0, iv p1] [(.long sz)] _
    refine XS.aloadN X2.here hx rfl (hb hby d3_4) rfl rfl ?_
    exact kt)
  clear pre3
  obtain ⟨T5, X5, e5, st5⟩ := getF X2 hx hZ hown (host := "") (Or.inl (hw _ (List.mem_of_getElem? (i := 23) rfl))) Via.refl e2 I_position (g := (mkF m 5 #[rv a0, iv p1] [(.ref a0), (.long sz)])) rfl rfl (hb hby d3_5)
  have pre6 : ∀ t, oS p e below T5 m 8 #[rv a0, iv p1] [(.long ps), (.long sz)] t → oE p e below s₁ m #[(.ref a0), (.int p1)] 2 t := fun t kt => pre4 t (st5 _ kt)
  clear pre4 st5
  have pre7 : ∀ t, oS p e below T5 m 12 #[rv a0, iv p1] [(.int (lcmpW (sz - ps) (p1.toInt64)))] t → oE p e below s₁ m #[(.ref a0), (.int p1)] 2 t := fun t kt => pre6 t (by
    show oS p e below T5 m 8 #[rv a0, iv p1] [(.long ps), (.long sz)] _
    refine XS.lsub X5.here hx rfl (hb hby d3_8) rfl ?_
    show oS p e below T5 m 9 #[rv a0, iv p1] [(.long (sz - ps))] _
    refine XS.iloadN X5.here hx rfl (hb hby d3_9) rfl ?_
    show oS p e below T5 m 10 #[rv a0, iv p1] [(.int p1), (.long (sz - ps))] _
    refine XS.i2l X5.here hx rfl (hb hby d3_10) rfl ?_
    show oS p e below T5 m 11 #[rv a0, iv p1] [(.long (p1.toInt64)), (.long (sz - ps))] _
    refine XS.lcmp X5.here hx rfl (hb hby d3_11) rfl ?_
    exact kt)
  clear pre6
  by_cases hc12_8 : (sz - ps) < (p1.toInt64)
  · have pre9 : ∀ t, oS p e below T5 m 17 #[rv a0, iv p1] [(.ref a0), (.ref a0)] t → oE p e below s₁ m #[(.ref a0), (.int p1)] 2 t := fun t kt => pre7 t (by
      show oS p e below T5 m 12 #[rv a0, iv p1] [(.int (lcmpW (sz - ps) (p1.toInt64)))] _
      refine XS.ifNo X5.here hx rfl (hb hby d3_12) rfl (Jvm.Free.XT.ll_ge_f hc12_8) ?_
      show oS p e below T5 m 15 #[rv a0, iv p1] [] _
      refine XS.aloadN X5.here hx rfl (hb hby d3_15) rfl rfl ?_
      show oS p e below T5 m 16 #[rv a0, iv p1] [(.ref a0)] _
      refine XS.aloadN X5.here hx rfl (hb hby d3_16) rfl rfl ?_
      exact kt)
    clear pre7
    obtain ⟨T10, X10, e10, st10⟩ := getF X5 hx hZ hown (host := "") (Or.inl (hw _ (List.mem_of_getElem? (i := 16) rfl))) Via.refl e5 I_size (g := (mkF m 17 #[rv a0, iv p1] [(.ref a0), (.ref a0)])) rfl rfl (hb hby d3_17)
    have pre11 : ∀ t, oS p e below T10 m 20 #[rv a0, iv p1] [(.long sz), (.ref a0)] t → oE p e below s₁ m #[(.ref a0), (.int p1)] 2 t := fun t kt => pre9 t (st10 _ kt)
    clear pre9 st10
    obtain ⟨T12, h12, X12, e12, W12, st12⟩ := putF X10 hx hZ hown (host := "") (Or.inl (hw _ (List.mem_of_getElem? (i := 23) rfl))) Via.refl e10 I_position E_a0 (Or.inl (hw _ (List.mem_of_getElem? (i := 24) rfl))) (hw _ (List.mem_of_getElem? (i := 5) rfl)) (ty := .long) (by decide) rfl rfl (g := (mkF m 20 #[rv a0, iv p1] [(.long sz), (.ref a0)])) rfl rfl (hb hby d3_20)
    have pre13 : ∀ t, oS p e below T12 m 23 #[rv a0, iv p1] [] t → oE p e below s₁ m #[(.ref a0), (.int p1)] 2 t := fun t kt => pre11 t (st12 _ kt)
    clear pre11 st12
    have Fw12 : Fld Z h12 a0 vB "position" "J" (.long sz) := I_position.same W12
    have F14 : Exa Z h12 a0 vB := E_a0.wr W12
    have F15 : Fld Z h12 a0 vB "data" "[B" (.ref ab) := I_data.other W12 (Or.inr (slot_ne (Or.inr (hw _ (List.mem_of_getElem? (i := 14) rfl))) (Or.inl (hw _ (List.mem_of_getElem? (i := 24) rfl))) (by decide) (t := (.array .byte)) (t' := .long) (by decide) (by decide)))
    have F16 : Fld Z h12 a0 vB "size" "J" (.long sz) := I_size.other W12 (Or.inr (slot_ne (Or.inr (hw _ (List.mem_of_getElem? (i := 17) rfl))) (Or.inl (hw _ (List.mem_of_getElem? (i := 24) rfl))) (by decide) (t := .long) (t' := .long) (by decide) (by decide)))
    have F17 : Fld Z h12 a0 vB "ended" "Z" (.int ed) := I_ended.other W12 (Or.inr (slot_ne (Or.inl (hw _ (List.mem_of_getElem? (i := 26) rfl))) (Or.inl (hw _ (List.mem_of_getElem? (i := 24) rfl))) (by decide) (t := .boolean) (t' := .long) (by decide) (by decide)))
    have K12 : Keep h0 h12 [a0] := K0.wr W12 (Or.inl (List.mem_of_getElem? (i := 0) rfl))
    have N12 := Fr.snoc X12 N0 g_a0
    have Z12 : n0 ≤ h12.size := Nat.le_trans Z0 (Keep.of_wr W12).1
    have pre18 : ∀ t, oS p e below T12 m 25 #[rv a0, iv p1] [(.int (1 : Int32)), (.ref a0)] t → oE p e below s₁ m #[(.ref a0), (.int p1)] 2 t := fun t kt => pre13 t (by
      show oS p e below T12 m 23 #[rv a0, iv p1] [] _
      refine XS.aloadN X12.here hx rfl (hb hby d3_23) rfl rfl ?_
      show oS p e below T12 m 24 #[rv a0, iv p1] [(.ref a0)] _
      refine XS.iconst X12.here hx rfl (hb hby d3_24) ?_
      exact kt)
    clear pre13
    obtain ⟨T19, h19, X19, e19, W19, st19⟩ := putFN X12 hx hZ hown (hw _ (List.mem_of_getElem? (i := 25) rfl)) Via.refl e12 F17 F14 (Or.inl (hw _ (List.mem_of_getElem? (i := 26) rfl))) (hw _ (List.mem_of_getElem? (i := 5) rfl)) (ty := .boolean) (v' := (.int (1 : Int32))) (by decide) rfl (fits_nar_bool (1 : Int32)) (g := (mkF m 25 #[rv a0, iv p1] [(.int (1 : Int32)), (.ref a0)])) rfl rfl (hb hby d3_25)
    have pre20 : ∀ t, oS p e below T19 m 28 #[rv a0, iv p1] [] t → oE p e below s₁ m #[(.ref a0), (.int p1)] 2 t := fun t kt => pre18 t (st19 _ kt)
    clear pre18 st19
    have Fw19 : Fld Z h19 a0 vB "ended" "Z" (.int (1 : Int32)) := F17.same W19
    have F21 : Exa Z h19 a0 vB := F14.wr W19
    have F22 : Fld Z h19 a0 vB "data" "[B" (.ref ab) := F15.other W19 (Or.inr (slot_ne (Or.inr (hw _ (List.mem_of_getElem? (i := 14) rfl))) (Or.inl (hw _ (List.mem_of_getElem? (i := 26) rfl))) (by decide) (t := (.array .byte)) (t' := .boolean) (by decide) (by decide)))
    have F23 : Fld Z h19 a0 vB "size" "J" (.long sz) := F16.other W19 (Or.inr (slot_ne (Or.inr (hw _ (List.mem_of_getElem? (i := 17) rfl))) (Or.inl (hw _ (List.mem_of_getElem? (i := 26) rfl))) (by decide) (t := .long) (t' := .boolean) (by decide) (by decide)))
    have F24 : Fld Z h19 a0 vB "position" "J" (.long sz) := Fw12.other W19 (Or.inr (slot_ne (Or.inl (hw _ (List.mem_of_getElem? (i := 24) rfl))) (Or.inl (hw _ (List.mem_of_getElem? (i := 26) rfl))) (by decide) (t := .long) (t' := .boolean) (by decide) (by decide)))
    have K19 : Keep h0 h19 [a0] := K12.wr W19 (Or.inl (List.mem_of_getElem? (i := 0) rfl))
    have N19 := Fr.snoc X19 N12 g_a0
    have Z19 : n0 ≤ h19.size := Nat.le_trans Z12 (Keep.of_wr W19).1
    have pre25 : ∀ t, oS p e below T19 m 29 #[rv a0, iv p1] [(.int (0 : Int32))] t → oE p e below s₁ m #[(.ref a0), (.int p1)] 2 t := fun t kt => pre20 t (by
      show oS p e below T19 m 28 #[rv a0, iv p1] [] _
      refine XS.iconst X19.here hx rfl (hb hby d3_28) ?_
      exact kt)
    clear pre20
    obtain ⟨fs, hr, hrun, hended, hW, hsame⟩ := X19.leave (v := some (.int (0 : Int32))) (fun h => by rw [Bd.returns] at h; cases h)
    refine ⟨_, _, pre25 _ ?_, hrun, hended, _, _, rfl, ?_, ⟨_, rfl⟩, hW, hsame.mono (by decide) (by decide)⟩
    · show oS p e below T19 m 29 #[rv a0, iv p1] [(.int (0 : Int32))] _
      exact retN X19 hx (t := .boolean) Bd.returns (by simp) (hb hby d3_29) hr
    · show Q3 Z a0 p1 ab sz ps ed h0 n0 _ T19.heap _
      rw [e19]
      exact ⟨(0 : Int32), sz, (1 : Int32), rfl, N19, K19, ⟨F21, F22, F23, F24, Fw19⟩, Or.inl ⟨hc12_8, rfl, rfl, rfl⟩⟩
  · have pre26 : ∀ t, oS p e below T5 m 32 #[rv a0, iv p1] [(.ref a0), (.ref a0)] t → oE p e below s₁ m #[(.ref a0), (.int p1)] 2 t := fun t kt => pre7 t (by
      show oS p e below T5 m 12 #[rv a0, iv p1] [(.int (lcmpW (sz - ps) (p1.toInt64)))] _
      refine XS.ifYes X5.here hx rfl (pc0 := 12) (pc' := 30) rfl (hb hby d3_12) rfl (Jvm.Free.XT.ll_ge_t hc12_8) (by decide) (by decide) ?_
      show oS p e below T5 m 30 #[rv a0, iv p1] [] _
      refine XS.aloadN X5.here hx rfl (hb hby d3_30) rfl rfl ?_
      show oS p e below T5 m 31 #[rv a0, iv p1] [(.ref a0)] _
      refine XS.dup X5.here hx rfl (hb hby d3_31) rfl rfl ?_
      exact kt)
    clear pre7
    obtain ⟨T27, X27, e27, st27⟩ := getF X5 hx hZ hown (host := "") (Or.inl (hw _ (List.mem_of_getElem? (i := 23) rfl))) Via.refl e5 I_position (g := (mkF m 32 #[rv a0, iv p1] [(.ref a0), (.ref a0)])) rfl rfl (hb hby d3_32)
    have pre28 : ∀ t, oS p e below T27 m 35 #[rv a0, iv p1] [(.long ps), (.ref a0)] t → oE p e below s₁ m #[(.ref a0), (.int p1)] 2 t := fun t kt => pre26 t (st27 _ kt)
    clear pre26 st27
    have pre29 : ∀ t, oS p e below T27 m 38 #[rv a0, iv p1] [(.long (ps + (p1.toInt64))), (.ref a0)] t → oE p e below s₁ m #[(.ref a0), (.int p1)] 2 t := fun t kt => pre28 t (by
      show oS p e below T27 m 35 #[rv a0, iv p1] [(.long ps), (.ref a0)] _
      refine XS.iloadN X27.here hx rfl (hb hby d3_35) rfl ?_
      show oS p e below T27 m 36 #[rv a0, iv p1] [(.int p1), (.long ps), (.ref a0)] _
      refine XS.i2l X27.here hx rfl (hb hby d3_36) rfl ?_
      show oS p e below T27 m 37 #[rv a0, iv p1] [(.long (p1.toInt64)), (.long ps), (.ref a0)] _
      refine XS.ladd X27.here hx rfl (hb hby d3_37) rfl ?_
      exact kt)
    clear pre28
    obtain ⟨T30, h30, X30, e30, W30, st30⟩ := putF X27 hx hZ hown (host := "") (Or.inl (hw _ (List.mem_of_getElem? (i := 23) rfl))) Via.refl e27 I_position E_a0 (Or.inl (hw _ (List.mem_of_getElem? (i := 24) rfl))) (hw _ (List.mem_of_getElem? (i := 5) rfl)) (ty := .long) (by decide) rfl rfl (g := (mkF m 38 #[rv a0, iv p1] [(.long (ps + (p1.toInt64))), (.ref a0)])) rfl rfl (hb hby d3_38)
    have pre31 : ∀ t, oS p e below T30 m 41 #[rv a0, iv p1] [] t → oE p e below s₁ m #[(.ref a0), (.int p1)] 2 t := fun t kt => pre29 t (st30 _ kt)
    clear pre29 st30
    have Fw30 : Fld Z h30 a0 vB "position" "J" (.long (ps + (p1.toInt64))) := I_position.same W30
    have F32 : Exa Z h30 a0 vB := E_a0.wr W30
    have F33 : Fld Z h30 a0 vB "data" "[B" (.ref ab) := I_data.other W30 (Or.inr (slot_ne (Or.inr (hw _ (List.mem_of_getElem? (i := 14) rfl))) (Or.inl (hw _ (List.mem_of_getElem? (i := 24) rfl))) (by decide) (t := (.array .byte)) (t' := .long) (by decide) (by decide)))
    have F34 : Fld Z h30 a0 vB "size" "J" (.long sz) := I_size.other W30 (Or.inr (slot_ne (Or.inr (hw _ (List.mem_of_getElem? (i := 17) rfl))) (Or.inl (hw _ (List.mem_of_getElem? (i := 24) rfl))) (by decide) (t := .long) (t' := .long) (by decide) (by decide)))
    have F35 : Fld Z h30 a0 vB "ended" "Z" (.int ed) := I_ended.other W30 (Or.inr (slot_ne (Or.inl (hw _ (List.mem_of_getElem? (i := 26) rfl))) (Or.inl (hw _ (List.mem_of_getElem? (i := 24) rfl))) (by decide) (t := .boolean) (t' := .long) (by decide) (by decide)))
    have K30 : Keep h0 h30 [a0] := K0.wr W30 (Or.inl (List.mem_of_getElem? (i := 0) rfl))
    have N30 := Fr.snoc X30 N0 g_a0
    have Z30 : n0 ≤ h30.size := Nat.le_trans Z0 (Keep.of_wr W30).1
    have pre36 : ∀ t, oS p e below T30 m 42 #[rv a0, iv p1] [(.int (1 : Int32))] t → oE p e below s₁ m #[(.ref a0), (.int p1)] 2 t := fun t kt => pre31 t (by
      show oS p e below T30 m 41 #[rv a0, iv p1] [] _
      refine XS.iconst X30.here hx rfl (hb hby d3_41) ?_
      exact kt)
    clear pre31
    obtain ⟨fs, hr, hrun, hended, hW, hsame⟩ := X30.leave (v := some (.int (1 : Int32))) (fun h => by rw [Bd.returns] at h; cases h)
    refine ⟨_, _, pre36 _ ?_, hrun, hended, _, _, rfl, ?_, ⟨_, rfl⟩, hW, hsame.mono (by decide) (by decide)⟩
    · show oS p e below T30 m 42 #[rv a0, iv p1] [(.int (1 : Int32))] _
      exact retN X30 hx (t := .boolean) Bd.returns (by simp) (hb hby d3_42) hr
    · show Q3 Z a0 p1 ab sz ps ed h0 n0 _ T30.heap _
      rw [e30]
      exact ⟨(1 : Int32), (ps + (p1.toInt64)), ed, rfl, N30, K30, ⟨F32, F33, F34, Fw30, F35⟩, Or.inr ⟨hc12_8, rfl, rfl, rfl⟩⟩
theorem d1_0 : decode prog_89_method_1_code 0 = .ok (.aload_n 0, 1) := by decide +kernel
theorem d1_1 : decode prog_89_method_1_code 1 = .ok (.invokespecial 1, 3) := by decide +kernel
theorem d1_4 : decode prog_89_method_1_code 4 = .ok (.aload_n 0, 1) := by decide +kernel
theorem d1_5 : decode prog_89_method_1_code 5 = .ok (.aload_n 1, 1) := by decide +kernel
theorem d1_6 : decode prog_89_method_1_code 6 = .ok (.putfield 7, 3) := by decide +kernel
theorem d1_9 : decode prog_89_method_1_code 9 = .ok (.aload_n 0, 1) := by decide +kernel
theorem d1_10 : decode prog_89_method_1_code 10 = .ok (.ldc2_w 13, 3) := by decide +kernel
theorem d1_13 : decode prog_89_method_1_code 13 = .ok (.aload_n 1, 1) := by decide +kernel
theorem d1_14 : decode prog_89_method_1_code 14 = .ok (.arraylength, 1) := by decide +kernel
theorem d1_15 : decode prog_89_method_1_code 15 = .ok (.i2l, 1) := by decide +kernel
theorem d1_16 : decode prog_89_method_1_code 16 = .ok (.lmul, 1) := by decide +kernel
theorem d1_17 : decode prog_89_method_1_code 17 = .ok (.putfield 15, 3) := by decide +kernel
theorem d1_20 : decode prog_89_method_1_code 20 = .ok (.return_, 1) := by decide +kernel
theorem ef1c0 (m : MethodId) (x0 : Addr) (x1 : Addr) : entryFrame m #[(.ref x0), (.ref x1)] 2 = mkF m 0 #[rv x0, rv x1] [] := by first | (simp [entryFrame, mkF, argsToLocals, Value.category]; done) | rfl
def Q1c0 (Z : State) (a0 : Addr) (a1 : Addr) (kb : ClassId) (h0 : Heap) (n0 : Nat) (v : Option Value) (h : Heap) (L : List Loc) : Prop := v = none ∧ Fr n0 L ∧ Keep h0 h [a0] ∧ Exa Z h a0 vB ∧ Fld Z h a0 vB "data" "[B" (.ref a1) ∧ Fld Z h a0 vB "size" "J" (.long ((8 : Int64) * ((0 : Int32).toInt64))) ∧ Fld Z h a0 vB "position" "J" (.long (0 : Int64)) ∧ Fld Z h a0 vB "ended" "Z" (.int (0 : Int32))
set_option maxRecDepth 65536 in
set_option maxHeartbeats 40000000 in
theorem rm1c0 (l : Launch) (Z : State) (av : Array Value) (hw : ∀ d ∈ tables_1, d.before av Z = true) (ws : List Jvm.Cond) (a0 : Addr) (a1 : Addr) (kb : ClassId) (h0 : Heap) (n0 : Nat) (Z0 : n0 ≤ h0.size) (E_a0 : Exa Z h0 a0 vB) (g_a0 : n0 ≤ a0) (I_data : Fld Z h0 a0 vB "data" "[B" .null) (I_size : Fld Z h0 a0 vB "size" "J" (.long (0 : Int64))) (I_position : Fld Z h0 a0 vB "position" "J" (.long (0 : Int64))) (I_ended : Fld Z h0 a0 vB "ended" "Z" (.int (0 : Int32))) (V1 : Arv Z h0 a1 kb .byte (0 : Int32) [] (.int (0 : Int32))) (ne1 : a0 ≠ a1) :
    MetFree l (⟨vB, "<init>", "([B)V"⟩ : MethodName) (head1 (Jvm.Cond.code (⟨vB, "<init>", "([B)V"⟩ : MethodName) prog_89_method_1_code 2 none :: ws) ({ frames := 1, cells := 0, slots := 0, locals := 12 } : Room)) (fun a U => a = #[(.ref a0), (.ref a1)] ∧ Z.Warmed39 U.vm ∧ U.heap = h0) (fun _ _ _ _ _ => True) (fun _ U o U' => ∃ v L, o = .returned v ∧ Q1c0 Z a0 a1 kb h0 n0 v U'.heap L ∧ FrameEnd U o U' L ({ frames := 1, cells := 0, slots := 0, locals := 12 } : Room).cells ({ frames := 1, cells := 0, slots := 0, locals := 12 } : Room).slots) := by
  refine MetFree.of_bodySF (plainFor_of_name pn_com_example_baton_baton_core_format_VorbisBits) hisR ?_
  intro p e s m args below meth c s₁ Bd hml0 hP hK
  obtain ⟨rfl, hZ, hh⟩ := hP
  have hx := Bd.exec
  have hby := Bd.bytes
  have hml : c.maxLocals = 2 := hml0
  have hown : s.vm.findClass vB = some m.cls := by have h := findClass_of_methodNamed Bd.named; exact h
  have hnm := (name_of_methodNamed Bd.named Bd.method).1
  have X0 : Stand p l e ({ frames := 1, cells := 0, slots := 0, locals := 12 } : Room) s m #[(.ref a0), (.ref a1)] below meth c s₁ [] 0 0 := Stand.of_body Bd
  have e0 : s₁.heap = h0 := by rw [← hh, Bd.state]; rfl
  have N0 := Fr.nil n0
  have K0 : Keep h0 h0 [a0] := Keep.refl h0 [a0]
  have pre0 : ∀ t, Steps p.tables e below (s₁.setTop (mkF m 0 #[rv a0, rv a1] [])) t → Steps p.tables e below (s₁.setTop (entryFrame m #[(.ref a0), (.ref a1)] 2)) t := fun t k => castTop (ef1c0 m a0 a1) k
  have pre1 : ∀ t, oS p e below s₁ m 1 #[rv a0, rv a1] [(.ref a0)] t → oE p e below s₁ m #[(.ref a0), (.ref a1)] 2 t := fun t kt => pre0 t (by
    show oS p e below s₁ m 0 #[rv a0, rv a1] [] _
    refine XS.aloadN X0.here hx rfl (hb hby d1_0) rfl rfl ?_
    exact kt)
  clear pre0
  obtain ⟨T2, X2, e2, st2⟩ := initO X0 hx hZ hown (hw _ (List.mem_of_getElem? (i := 10) rfl)) (hw _ (List.mem_of_getElem? (i := 11) rfl)) (hw _ (List.mem_of_getElem? (i := 12) rfl)) e0 (g := (mkF m 1 #[rv a0, rv a1] [(.ref a0)])) rfl (by rw [hml]; rfl) rfl (hb hby d1_1) (by decide) (W := 0) (by show 2 * 0 + _ ≤ _; exact Nat.le_of_eq rfl) (by decide)
  have pre3 : ∀ t, oS p e below T2 m 4 #[rv a0, rv a1] [] t → oE p e below s₁ m #[(.ref a0), (.ref a1)] 2 t := fun t kt => pre1 t (st2 _ kt)
  clear pre1 st2
  have pre4 : ∀ t, oS p e below T2 m 6 #[rv a0, rv a1] [(.ref a1), (.ref a0)] t → oE p e below s₁ m #[(.ref a0), (.ref a1)] 2 t := fun t kt => pre3 t (by
    show oS p e below T2 m 4 #[rv a0, rv a1] [] _
    refine XS.aloadN X2.here hx rfl (hb hby d1_4) rfl rfl ?_
    show oS p e below T2 m 5 #[rv a0, rv a1] [(.ref a0)] _
    refine XS.aloadN X2.here hx rfl (hb hby d1_5) rfl rfl ?_
    exact kt)
  clear pre3
  obtain ⟨T5, h5, X5, e5, W5, st5⟩ := putF X2 hx hZ hown (host := "") (Or.inl (hw _ (List.mem_of_getElem? (i := 13) rfl))) Via.refl e2 I_data E_a0 (Or.inr ⟨(hw _ (List.mem_of_getElem? (i := 14) rfl)), rfl, hnm⟩) (hw _ (List.mem_of_getElem? (i := 5) rfl)) (ty := (.array .byte)) (by decide) rfl rfl (g := (mkF m 6 #[rv a0, rv a1] [(.ref a1), (.ref a0)])) rfl rfl (hb hby d1_6)
  have pre6 : ∀ t, oS p e below T5 m 9 #[rv a0, rv a1] [] t → oE p e below s₁ m #[(.ref a0), (.ref a1)] 2 t := fun t kt => pre4 t (st5 _ kt)
  clear pre4 st5
  have Fw5 : Fld Z h5 a0 vB "data" "[B" (.ref a1) := I_data.same W5
  have F7 : Exa Z h5 a0 vB := E_a0.wr W5
  have F8 : Fld Z h5 a0 vB "size" "J" (.long (0 : Int64)) := I_size.other W5 (Or.inr (slot_ne (Or.inr (hw _ (List.mem_of_getElem? (i := 17) rfl))) (Or.inr (hw _ (List.mem_of_getElem? (i := 14) rfl))) (by decide) (t := .long) (t' := (.array .byte)) (by decide) (by decide)))
  have F9 : Fld Z h5 a0 vB "position" "J" (.long (0 : Int64)) := I_position.other W5 (Or.inr (slot_ne (Or.inl (hw _ (List.mem_of_getElem? (i := 24) rfl))) (Or.inr (hw _ (List.mem_of_getElem? (i := 14) rfl))) (by decide) (t := .long) (t' := (.array .byte)) (by decide) (by decide)))
  have F10 : Fld Z h5 a0 vB "ended" "Z" (.int (0 : Int32)) := I_ended.other W5 (Or.inr (slot_ne (Or.inl (hw _ (List.mem_of_getElem? (i := 26) rfl))) (Or.inr (hw _ (List.mem_of_getElem? (i := 14) rfl))) (by decide) (t := .boolean) (t' := (.array .byte)) (by decide) (by decide)))
  have F11 : Arv Z h5 a1 kb .byte (0 : Int32) [] (.int (0 : Int32)) := V1.other W5 (Ne.symm ne1)
  have K5 : Keep h0 h5 [a0] := K0.wr W5 (Or.inl (List.mem_of_getElem? (i := 0) rfl))
  have N5 := Fr.snoc X5 N0 g_a0
  have Z5 : n0 ≤ h5.size := Nat.le_trans Z0 (Keep.of_wr W5).1
  have pre12 : ∀ t, oS p e below T5 m 14 #[rv a0, rv a1] [(.ref a1), (.long (8 : Int64)), (.ref a0)] t → oE p e below s₁ m #[(.ref a0), (.ref a1)] 2 t := fun t kt => pre6 t (by
    show oS p e below T5 m 9 #[rv a0, rv a1] [] _
    refine XS.aloadN X5.here hx rfl (hb hby d1_9) rfl rfl ?_
    show oS p e below T5 m 10 #[rv a0, rv a1] [(.ref a0)] _
    refine X5.ldc2Long hx hown (mvT hZ (hw _ (List.mem_of_getElem? (i := 15) rfl))) (g := (mkF m 10 #[rv a0, rv a1] [(.ref a0)])) rfl (hb hby d1_10) _ ?_
    show oS p e below T5 m 13 #[rv a0, rv a1] [(.long (8 : Int64)), (.ref a0)] _
    refine XS.aloadN X5.here hx rfl (hb hby d1_13) rfl rfl ?_
    exact kt)
  clear pre6
  have tv13 := F11
  obtain ⟨cl13, Ar13, q13, S13, Ng13, H13, G13⟩ := tv13
  have pre14 : ∀ t, oS p e below T5 m 17 #[rv a0, rv a1] [(.long ((8 : Int64) * ((0 : Int32).toInt64))), (.ref a0)] t → oE p e below s₁ m #[(.ref a0), (.ref a1)] 2 t := fun t kt => pre12 t (by
    show oS p e below T5 m 14 #[rv a0, rv a1] [(.ref a1), (.long (8 : Int64)), (.ref a0)] _
    refine X5.arraylength hx (by rw [e5]; exact Ar13.1) (State.isArrayOf_alike hZ.alike Ar13.2.1) (g := (mkF m 14 #[rv a0, rv a1] [(.ref a1), (.long (8 : Int64)), (.ref a0)])) rfl rfl (hb hby d1_14) _ ?_
    rw [len_of S13 Ng13]
    show oS p e below T5 m 15 #[rv a0, rv a1] [(.int (0 : Int32)), (.long (8 : Int64)), (.ref a0)] _
    refine XS.i2l X5.here hx rfl (hb hby d1_15) rfl ?_
    show oS p e below T5 m 16 #[rv a0, rv a1] [(.long ((0 : Int32).toInt64)), (.long (8 : Int64)), (.ref a0)] _
    refine XS.lmul X5.here hx rfl (hb hby d1_16) rfl ?_
    exact kt)
  clear pre12
  obtain ⟨T15, h15, X15, e15, W15, st15⟩ := putF X5 hx hZ hown (host := "") (Or.inl (hw _ (List.mem_of_getElem? (i := 16) rfl))) Via.refl e5 F8 F7 (Or.inr ⟨(hw _ (List.mem_of_getElem? (i := 17) rfl)), rfl, hnm⟩) (hw _ (List.mem_of_getElem? (i := 5) rfl)) (ty := .long) (by decide) rfl rfl (g := (mkF m 17 #[rv a0, rv a1] [(.long ((8 : Int64) * ((0 : Int32).toInt64))), (.ref a0)])) rfl rfl (hb hby d1_17)
  have pre16 : ∀ t, oS p e below T15 m 20 #[rv a0, rv a1] [] t → oE p e below s₁ m #[(.ref a0), (.ref a1)] 2 t := fun t kt => pre14 t (st15 _ kt)
  clear pre14 st15
  have Fw15 : Fld Z h15 a0 vB "size" "J" (.long ((8 : Int64) * ((0 : Int32).toInt64))) := F8.same W15
  have F17 : Exa Z h15 a0 vB := F7.wr W15
  have F18 : Fld Z h15 a0 vB "position" "J" (.long (0 : Int64)) := F9.other W15 (Or.inr (slot_ne (Or.inl (hw _ (List.mem_of_getElem? (i := 24) rfl))) (Or.inr (hw _ (List.mem_of_getElem? (i := 17) rfl))) (by decide) (t := .long) (t' := .long) (by decide) (by decide)))
  have F19 : Fld Z h15 a0 vB "ended" "Z" (.int (0 : Int32)) := F10.other W15 (Or.inr (slot_ne (Or.inl (hw _ (List.mem_of_getElem? (i := 26) rfl))) (Or.inr (hw _ (List.mem_of_getElem? (i := 17) rfl))) (by decide) (t := .boolean) (t' := .long) (by decide) (by decide)))
  have F20 : Arv Z h15 a1 kb .byte (0 : Int32) [] (.int (0 : Int32)) := F11.other W15 (Ne.symm ne1)
  have F21 : Fld Z h15 a0 vB "data" "[B" (.ref a1) := Fw5.other W15 (Or.inr (slot_ne (Or.inr (hw _ (List.mem_of_getElem? (i := 14) rfl))) (Or.inr (hw _ (List.mem_of_getElem? (i := 17) rfl))) (by decide) (t := (.array .byte)) (t' := .long) (by decide) (by decide)))
  have K15 : Keep h0 h15 [a0] := K5.wr W15 (Or.inl (List.mem_of_getElem? (i := 0) rfl))
  have N15 := Fr.snoc X15 N5 g_a0
  have Z15 : n0 ≤ h15.size := Nat.le_trans Z5 (Keep.of_wr W15).1
  obtain ⟨fs, hr, hrun, hended, hW, hsame⟩ := X15.leave (v := none) (fun _ => rfl)
  refine ⟨_, _, pre16 _ ?_, hrun, hended, _, _, rfl, ?_, ⟨_, rfl⟩, hW, hsame.mono (by decide) (by decide)⟩
  · show oS p e below T15 m 20 #[rv a0, rv a1] [] _
    exact X15.returnOut hx Bd.returns (hb hby d1_20) hr
  · show Q1c0 Z a0 a1 kb h0 n0 _ T15.heap _
    rw [e15]
    exact ⟨rfl, N15, K15, F17, F21, Fw15, F18, F19⟩
theorem ef1c1 (m : MethodId) (x0 : Addr) (x1 : Addr) : entryFrame m #[(.ref x0), (.ref x1)] 2 = mkF m 0 #[rv x0, rv x1] [] := by first | (simp [entryFrame, mkF, argsToLocals, Value.category]; done) | rfl
def Q1c1 (Z : State) (a0 : Addr) (a1 : Addr) (kb : ClassId) (b0 : Int32) (h0 : Heap) (n0 : Nat) (v : Option Value) (h : Heap) (L : List Loc) : Prop := v = none ∧ Fr n0 L ∧ Keep h0 h [a0] ∧ Exa Z h a0 vB ∧ Fld Z h a0 vB "data" "[B" (.ref a1) ∧ Fld Z h a0 vB "size" "J" (.long ((8 : Int64) * ((1 : Int32).toInt64))) ∧ Fld Z h a0 vB "position" "J" (.long (0 : Int64)) ∧ Fld Z h a0 vB "ended" "Z" (.int (0 : Int32))
set_option maxRecDepth 65536 in
set_option maxHeartbeats 40000000 in
theorem rm1c1 (l : Launch) (Z : State) (av : Array Value) (hw : ∀ d ∈ tables_1, d.before av Z = true) (ws : List Jvm.Cond) (a0 : Addr) (a1 : Addr) (kb : ClassId) (b0 : Int32) (h0 : Heap) (n0 : Nat) (Z0 : n0 ≤ h0.size) (E_a0 : Exa Z h0 a0 vB) (g_a0 : n0 ≤ a0) (I_data : Fld Z h0 a0 vB "data" "[B" .null) (I_size : Fld Z h0 a0 vB "size" "J" (.long (0 : Int64))) (I_position : Fld Z h0 a0 vB "position" "J" (.long (0 : Int64))) (I_ended : Fld Z h0 a0 vB "ended" "Z" (.int (0 : Int32))) (V1 : Arv Z h0 a1 kb .byte (1 : Int32) [(.int b0)] (.int (0 : Int32))) (ne1 : a0 ≠ a1) :
    MetFree l (⟨vB, "<init>", "([B)V"⟩ : MethodName) (head1 (Jvm.Cond.code (⟨vB, "<init>", "([B)V"⟩ : MethodName) prog_89_method_1_code 2 none :: ws) ({ frames := 1, cells := 0, slots := 0, locals := 12 } : Room)) (fun a U => a = #[(.ref a0), (.ref a1)] ∧ Z.Warmed39 U.vm ∧ U.heap = h0) (fun _ _ _ _ _ => True) (fun _ U o U' => ∃ v L, o = .returned v ∧ Q1c1 Z a0 a1 kb b0 h0 n0 v U'.heap L ∧ FrameEnd U o U' L ({ frames := 1, cells := 0, slots := 0, locals := 12 } : Room).cells ({ frames := 1, cells := 0, slots := 0, locals := 12 } : Room).slots) := by
  refine MetFree.of_bodySF (plainFor_of_name pn_com_example_baton_baton_core_format_VorbisBits) hisR ?_
  intro p e s m args below meth c s₁ Bd hml0 hP hK
  obtain ⟨rfl, hZ, hh⟩ := hP
  have hx := Bd.exec
  have hby := Bd.bytes
  have hml : c.maxLocals = 2 := hml0
  have hown : s.vm.findClass vB = some m.cls := by have h := findClass_of_methodNamed Bd.named; exact h
  have hnm := (name_of_methodNamed Bd.named Bd.method).1
  have X0 : Stand p l e ({ frames := 1, cells := 0, slots := 0, locals := 12 } : Room) s m #[(.ref a0), (.ref a1)] below meth c s₁ [] 0 0 := Stand.of_body Bd
  have e0 : s₁.heap = h0 := by rw [← hh, Bd.state]; rfl
  have N0 := Fr.nil n0
  have K0 : Keep h0 h0 [a0] := Keep.refl h0 [a0]
  have pre0 : ∀ t, Steps p.tables e below (s₁.setTop (mkF m 0 #[rv a0, rv a1] [])) t → Steps p.tables e below (s₁.setTop (entryFrame m #[(.ref a0), (.ref a1)] 2)) t := fun t k => castTop (ef1c1 m a0 a1) k
  have pre1 : ∀ t, oS p e below s₁ m 1 #[rv a0, rv a1] [(.ref a0)] t → oE p e below s₁ m #[(.ref a0), (.ref a1)] 2 t := fun t kt => pre0 t (by
    show oS p e below s₁ m 0 #[rv a0, rv a1] [] _
    refine XS.aloadN X0.here hx rfl (hb hby d1_0) rfl rfl ?_
    exact kt)
  clear pre0
  obtain ⟨T2, X2, e2, st2⟩ := initO X0 hx hZ hown (hw _ (List.mem_of_getElem? (i := 10) rfl)) (hw _ (List.mem_of_getElem? (i := 11) rfl)) (hw _ (List.mem_of_getElem? (i := 12) rfl)) e0 (g := (mkF m 1 #[rv a0, rv a1] [(.ref a0)])) rfl (by rw [hml]; rfl) rfl (hb hby d1_1) (by decide) (W := 0) (by show 2 * 0 + _ ≤ _; exact Nat.le_of_eq rfl) (by decide)
  have pre3 : ∀ t, oS p e below T2 m 4 #[rv a0, rv a1] [] t → oE p e below s₁ m #[(.ref a0), (.ref a1)] 2 t := fun t kt => pre1 t (st2 _ kt)
  clear pre1 st2
  have pre4 : ∀ t, oS p e below T2 m 6 #[rv a0, rv a1] [(.ref a1), (.ref a0)] t → oE p e below s₁ m #[(.ref a0), (.ref a1)] 2 t := fun t kt => pre3 t (by
    show oS p e below T2 m 4 #[rv a0, rv a1] [] _
    refine XS.aloadN X2.here hx rfl (hb hby d1_4) rfl rfl ?_
    show oS p e below T2 m 5 #[rv a0, rv a1] [(.ref a0)] _
    refine XS.aloadN X2.here hx rfl (hb hby d1_5) rfl rfl ?_
    exact kt)
  clear pre3
  obtain ⟨T5, h5, X5, e5, W5, st5⟩ := putF X2 hx hZ hown (host := "") (Or.inl (hw _ (List.mem_of_getElem? (i := 13) rfl))) Via.refl e2 I_data E_a0 (Or.inr ⟨(hw _ (List.mem_of_getElem? (i := 14) rfl)), rfl, hnm⟩) (hw _ (List.mem_of_getElem? (i := 5) rfl)) (ty := (.array .byte)) (by decide) rfl rfl (g := (mkF m 6 #[rv a0, rv a1] [(.ref a1), (.ref a0)])) rfl rfl (hb hby d1_6)
  have pre6 : ∀ t, oS p e below T5 m 9 #[rv a0, rv a1] [] t → oE p e below s₁ m #[(.ref a0), (.ref a1)] 2 t := fun t kt => pre4 t (st5 _ kt)
  clear pre4 st5
  have Fw5 : Fld Z h5 a0 vB "data" "[B" (.ref a1) := I_data.same W5
  have F7 : Exa Z h5 a0 vB := E_a0.wr W5
  have F8 : Fld Z h5 a0 vB "size" "J" (.long (0 : Int64)) := I_size.other W5 (Or.inr (slot_ne (Or.inr (hw _ (List.mem_of_getElem? (i := 17) rfl))) (Or.inr (hw _ (List.mem_of_getElem? (i := 14) rfl))) (by decide) (t := .long) (t' := (.array .byte)) (by decide) (by decide)))
  have F9 : Fld Z h5 a0 vB "position" "J" (.long (0 : Int64)) := I_position.other W5 (Or.inr (slot_ne (Or.inl (hw _ (List.mem_of_getElem? (i := 24) rfl))) (Or.inr (hw _ (List.mem_of_getElem? (i := 14) rfl))) (by decide) (t := .long) (t' := (.array .byte)) (by decide) (by decide)))
  have F10 : Fld Z h5 a0 vB "ended" "Z" (.int (0 : Int32)) := I_ended.other W5 (Or.inr (slot_ne (Or.inl (hw _ (List.mem_of_getElem? (i := 26) rfl))) (Or.inr (hw _ (List.mem_of_getElem? (i := 14) rfl))) (by decide) (t := .boolean) (t' := (.array .byte)) (by decide) (by decide)))
  have F11 : Arv Z h5 a1 kb .byte (1 : Int32) [(.int b0)] (.int (0 : Int32)) := V1.other W5 (Ne.symm ne1)
  have K5 : Keep h0 h5 [a0] := K0.wr W5 (Or.inl (List.mem_of_getElem? (i := 0) rfl))
  have N5 := Fr.snoc X5 N0 g_a0
  have Z5 : n0 ≤ h5.size := Nat.le_trans Z0 (Keep.of_wr W5).1
  have pre12 : ∀ t, oS p e below T5 m 14 #[rv a0, rv a1] [(.ref a1), (.long (8 : Int64)), (.ref a0)] t → oE p e below s₁ m #[(.ref a0), (.ref a1)] 2 t := fun t kt => pre6 t (by
    show oS p e below T5 m 9 #[rv a0, rv a1] [] _
    refine XS.aloadN X5.here hx rfl (hb hby d1_9) rfl rfl ?_
    show oS p e below T5 m 10 #[rv a0, rv a1] [(.ref a0)] _
    refine X5.ldc2Long hx hown (mvT hZ (hw _ (List.mem_of_getElem? (i := 15) rfl))) (g := (mkF m 10 #[rv a0, rv a1] [(.ref a0)])) rfl (hb hby d1_10) _ ?_
    show oS p e below T5 m 13 #[rv a0, rv a1] [(.long (8 : Int64)), (.ref a0)] _
    refine XS.aloadN X5.here hx rfl (hb hby d1_13) rfl rfl ?_
    exact kt)
  clear pre6
  have tv13 := F11
  obtain ⟨cl13, Ar13, q13, S13, Ng13, H13, G13⟩ := tv13
  have pre14 : ∀ t, oS p e below T5 m 17 #[rv a0, rv a1] [(.long ((8 : Int64) * ((1 : Int32).toInt64))), (.ref a0)] t → oE p e below s₁ m #[(.ref a0), (.ref a1)] 2 t := fun t kt => pre12 t (by
    show oS p e below T5 m 14 #[rv a0, rv a1] [(.ref a1), (.long (8 : Int64)), (.ref a0)] _
    refine X5.arraylength hx (by rw [e5]; exact Ar13.1) (State.isArrayOf_alike hZ.alike Ar13.2.1) (g := (mkF m 14 #[rv a0, rv a1] [(.ref a1), (.long (8 : Int64)), (.ref a0)])) rfl rfl (hb hby d1_14) _ ?_
    rw [len_of S13 Ng13]
    show oS p e below T5 m 15 #[rv a0, rv a1] [(.int (1 : Int32)), (.long (8 : Int64)), (.ref a0)] _
    refine XS.i2l X5.here hx rfl (hb hby d1_15) rfl ?_
    show oS p e below T5 m 16 #[rv a0, rv a1] [(.long ((1 : Int32).toInt64)), (.long (8 : Int64)), (.ref a0)] _
    refine XS.lmul X5.here hx rfl (hb hby d1_16) rfl ?_
    exact kt)
  clear pre12
  obtain ⟨T15, h15, X15, e15, W15, st15⟩ := putF X5 hx hZ hown (host := "") (Or.inl (hw _ (List.mem_of_getElem? (i := 16) rfl))) Via.refl e5 F8 F7 (Or.inr ⟨(hw _ (List.mem_of_getElem? (i := 17) rfl)), rfl, hnm⟩) (hw _ (List.mem_of_getElem? (i := 5) rfl)) (ty := .long) (by decide) rfl rfl (g := (mkF m 17 #[rv a0, rv a1] [(.long ((8 : Int64) * ((1 : Int32).toInt64))), (.ref a0)])) rfl rfl (hb hby d1_17)
  have pre16 : ∀ t, oS p e below T15 m 20 #[rv a0, rv a1] [] t → oE p e below s₁ m #[(.ref a0), (.ref a1)] 2 t := fun t kt => pre14 t (st15 _ kt)
  clear pre14 st15
  have Fw15 : Fld Z h15 a0 vB "size" "J" (.long ((8 : Int64) * ((1 : Int32).toInt64))) := F8.same W15
  have F17 : Exa Z h15 a0 vB := F7.wr W15
  have F18 : Fld Z h15 a0 vB "position" "J" (.long (0 : Int64)) := F9.other W15 (Or.inr (slot_ne (Or.inl (hw _ (List.mem_of_getElem? (i := 24) rfl))) (Or.inr (hw _ (List.mem_of_getElem? (i := 17) rfl))) (by decide) (t := .long) (t' := .long) (by decide) (by decide)))
  have F19 : Fld Z h15 a0 vB "ended" "Z" (.int (0 : Int32)) := F10.other W15 (Or.inr (slot_ne (Or.inl (hw _ (List.mem_of_getElem? (i := 26) rfl))) (Or.inr (hw _ (List.mem_of_getElem? (i := 17) rfl))) (by decide) (t := .boolean) (t' := .long) (by decide) (by decide)))
  have F20 : Arv Z h15 a1 kb .byte (1 : Int32) [(.int b0)] (.int (0 : Int32)) := F11.other W15 (Ne.symm ne1)
  have F21 : Fld Z h15 a0 vB "data" "[B" (.ref a1) := Fw5.other W15 (Or.inr (slot_ne (Or.inr (hw _ (List.mem_of_getElem? (i := 14) rfl))) (Or.inr (hw _ (List.mem_of_getElem? (i := 17) rfl))) (by decide) (t := (.array .byte)) (t' := .long) (by decide) (by decide)))
  have K15 : Keep h0 h15 [a0] := K5.wr W15 (Or.inl (List.mem_of_getElem? (i := 0) rfl))
  have N15 := Fr.snoc X15 N5 g_a0
  have Z15 : n0 ≤ h15.size := Nat.le_trans Z5 (Keep.of_wr W15).1
  obtain ⟨fs, hr, hrun, hended, hW, hsame⟩ := X15.leave (v := none) (fun _ => rfl)
  refine ⟨_, _, pre16 _ ?_, hrun, hended, _, _, rfl, ?_, ⟨_, rfl⟩, hW, hsame.mono (by decide) (by decide)⟩
  · show oS p e below T15 m 20 #[rv a0, rv a1] [] _
    exact X15.returnOut hx Bd.returns (hb hby d1_20) hr
  · show Q1c1 Z a0 a1 kb b0 h0 n0 _ T15.heap _
    rw [e15]
    exact ⟨rfl, N15, K15, F17, F21, Fw15, F18, F19⟩
theorem ef1c2 (m : MethodId) (x0 : Addr) (x1 : Addr) : entryFrame m #[(.ref x0), (.ref x1)] 2 = mkF m 0 #[rv x0, rv x1] [] := by first | (simp [entryFrame, mkF, argsToLocals, Value.category]; done) | rfl
def Q1c2 (Z : State) (a0 : Addr) (a1 : Addr) (kb : ClassId) (b0 : Int32) (b1 : Int32) (h0 : Heap) (n0 : Nat) (v : Option Value) (h : Heap) (L : List Loc) : Prop := v = none ∧ Fr n0 L ∧ Keep h0 h [a0] ∧ Exa Z h a0 vB ∧ Fld Z h a0 vB "data" "[B" (.ref a1) ∧ Fld Z h a0 vB "size" "J" (.long ((8 : Int64) * ((2 : Int32).toInt64))) ∧ Fld Z h a0 vB "position" "J" (.long (0 : Int64)) ∧ Fld Z h a0 vB "ended" "Z" (.int (0 : Int32))
set_option maxRecDepth 65536 in
set_option maxHeartbeats 40000000 in
theorem rm1c2 (l : Launch) (Z : State) (av : Array Value) (hw : ∀ d ∈ tables_1, d.before av Z = true) (ws : List Jvm.Cond) (a0 : Addr) (a1 : Addr) (kb : ClassId) (b0 : Int32) (b1 : Int32) (h0 : Heap) (n0 : Nat) (Z0 : n0 ≤ h0.size) (E_a0 : Exa Z h0 a0 vB) (g_a0 : n0 ≤ a0) (I_data : Fld Z h0 a0 vB "data" "[B" .null) (I_size : Fld Z h0 a0 vB "size" "J" (.long (0 : Int64))) (I_position : Fld Z h0 a0 vB "position" "J" (.long (0 : Int64))) (I_ended : Fld Z h0 a0 vB "ended" "Z" (.int (0 : Int32))) (V1 : Arv Z h0 a1 kb .byte (2 : Int32) [(.int b0), (.int b1)] (.int (0 : Int32))) (ne1 : a0 ≠ a1) :
    MetFree l (⟨vB, "<init>", "([B)V"⟩ : MethodName) (head1 (Jvm.Cond.code (⟨vB, "<init>", "([B)V"⟩ : MethodName) prog_89_method_1_code 2 none :: ws) ({ frames := 1, cells := 0, slots := 0, locals := 12 } : Room)) (fun a U => a = #[(.ref a0), (.ref a1)] ∧ Z.Warmed39 U.vm ∧ U.heap = h0) (fun _ _ _ _ _ => True) (fun _ U o U' => ∃ v L, o = .returned v ∧ Q1c2 Z a0 a1 kb b0 b1 h0 n0 v U'.heap L ∧ FrameEnd U o U' L ({ frames := 1, cells := 0, slots := 0, locals := 12 } : Room).cells ({ frames := 1, cells := 0, slots := 0, locals := 12 } : Room).slots) := by
  refine MetFree.of_bodySF (plainFor_of_name pn_com_example_baton_baton_core_format_VorbisBits) hisR ?_
  intro p e s m args below meth c s₁ Bd hml0 hP hK
  obtain ⟨rfl, hZ, hh⟩ := hP
  have hx := Bd.exec
  have hby := Bd.bytes
  have hml : c.maxLocals = 2 := hml0
  have hown : s.vm.findClass vB = some m.cls := by have h := findClass_of_methodNamed Bd.named; exact h
  have hnm := (name_of_methodNamed Bd.named Bd.method).1
  have X0 : Stand p l e ({ frames := 1, cells := 0, slots := 0, locals := 12 } : Room) s m #[(.ref a0), (.ref a1)] below meth c s₁ [] 0 0 := Stand.of_body Bd
  have e0 : s₁.heap = h0 := by rw [← hh, Bd.state]; rfl
  have N0 := Fr.nil n0
  have K0 : Keep h0 h0 [a0] := Keep.refl h0 [a0]
  have pre0 : ∀ t, Steps p.tables e below (s₁.setTop (mkF m 0 #[rv a0, rv a1] [])) t → Steps p.tables e below (s₁.setTop (entryFrame m #[(.ref a0), (.ref a1)] 2)) t := fun t k => castTop (ef1c2 m a0 a1) k
  have pre1 : ∀ t, oS p e below s₁ m 1 #[rv a0, rv a1] [(.ref a0)] t → oE p e below s₁ m #[(.ref a0), (.ref a1)] 2 t := fun t kt => pre0 t (by
    show oS p e below s₁ m 0 #[rv a0, rv a1] [] _
    refine XS.aloadN X0.here hx rfl (hb hby d1_0) rfl rfl ?_
    exact kt)
  clear pre0
  obtain ⟨T2, X2, e2, st2⟩ := initO X0 hx hZ hown (hw _ (List.mem_of_getElem? (i := 10) rfl)) (hw _ (List.mem_of_getElem? (i := 11) rfl)) (hw _ (List.mem_of_getElem? (i := 12) rfl)) e0 (g := (mkF m 1 #[rv a0, rv a1] [(.ref a0)])) rfl (by rw [hml]; rfl) rfl (hb hby d1_1) (by decide) (W := 0) (by show 2 * 0 + _ ≤ _; exact Nat.le_of_eq rfl) (by decide)
  have pre3 : ∀ t, oS p e below T2 m 4 #[rv a0, rv a1] [] t → oE p e below s₁ m #[(.ref a0), (.ref a1)] 2 t := fun t kt => pre1 t (st2 _ kt)
  clear pre1 st2
  have pre4 : ∀ t, oS p e below T2 m 6 #[rv a0, rv a1] [(.ref a1), (.ref a0)] t → oE p e below s₁ m #[(.ref a0), (.ref a1)] 2 t := fun t kt => pre3 t (by
    show oS p e below T2 m 4 #[rv a0, rv a1] [] _
    refine XS.aloadN X2.here hx rfl (hb hby d1_4) rfl rfl ?_
    show oS p e below T2 m 5 #[rv a0, rv a1] [(.ref a0)] _
    refine XS.aloadN X2.here hx rfl (hb hby d1_5) rfl rfl ?_
    exact kt)
  clear pre3
  obtain ⟨T5, h5, X5, e5, W5, st5⟩ := putF X2 hx hZ hown (host := "") (Or.inl (hw _ (List.mem_of_getElem? (i := 13) rfl))) Via.refl e2 I_data E_a0 (Or.inr ⟨(hw _ (List.mem_of_getElem? (i := 14) rfl)), rfl, hnm⟩) (hw _ (List.mem_of_getElem? (i := 5) rfl)) (ty := (.array .byte)) (by decide) rfl rfl (g := (mkF m 6 #[rv a0, rv a1] [(.ref a1), (.ref a0)])) rfl rfl (hb hby d1_6)
  have pre6 : ∀ t, oS p e below T5 m 9 #[rv a0, rv a1] [] t → oE p e below s₁ m #[(.ref a0), (.ref a1)] 2 t := fun t kt => pre4 t (st5 _ kt)
  clear pre4 st5
  have Fw5 : Fld Z h5 a0 vB "data" "[B" (.ref a1) := I_data.same W5
  have F7 : Exa Z h5 a0 vB := E_a0.wr W5
  have F8 : Fld Z h5 a0 vB "size" "J" (.long (0 : Int64)) := I_size.other W5 (Or.inr (slot_ne (Or.inr (hw _ (List.mem_of_getElem? (i := 17) rfl))) (Or.inr (hw _ (List.mem_of_getElem? (i := 14) rfl))) (by decide) (t := .long) (t' := (.array .byte)) (by decide) (by decide)))
  have F9 : Fld Z h5 a0 vB "position" "J" (.long (0 : Int64)) := I_position.other W5 (Or.inr (slot_ne (Or.inl (hw _ (List.mem_of_getElem? (i := 24) rfl))) (Or.inr (hw _ (List.mem_of_getElem? (i := 14) rfl))) (by decide) (t := .long) (t' := (.array .byte)) (by decide) (by decide)))
  have F10 : Fld Z h5 a0 vB "ended" "Z" (.int (0 : Int32)) := I_ended.other W5 (Or.inr (slot_ne (Or.inl (hw _ (List.mem_of_getElem? (i := 26) rfl))) (Or.inr (hw _ (List.mem_of_getElem? (i := 14) rfl))) (by decide) (t := .boolean) (t' := (.array .byte)) (by decide) (by decide)))
  have F11 : Arv Z h5 a1 kb .byte (2 : Int32) [(.int b0), (.int b1)] (.int (0 : Int32)) := V1.other W5 (Ne.symm ne1)
  have K5 : Keep h0 h5 [a0] := K0.wr W5 (Or.inl (List.mem_of_getElem? (i := 0) rfl))
  have N5 := Fr.snoc X5 N0 g_a0
  have Z5 : n0 ≤ h5.size := Nat.le_trans Z0 (Keep.of_wr W5).1
  have pre12 : ∀ t, oS p e below T5 m 14 #[rv a0, rv a1] [(.ref a1), (.long (8 : Int64)), (.ref a0)] t → oE p e below s₁ m #[(.ref a0), (.ref a1)] 2 t := fun t kt => pre6 t (by
    show oS p e below T5 m 9 #[rv a0, rv a1] [] _
    refine XS.aloadN X5.here hx rfl (hb hby d1_9) rfl rfl ?_
    show oS p e below T5 m 10 #[rv a0, rv a1] [(.ref a0)] _
    refine X5.ldc2Long hx hown (mvT hZ (hw _ (List.mem_of_getElem? (i := 15) rfl))) (g := (mkF m 10 #[rv a0, rv a1] [(.ref a0)])) rfl (hb hby d1_10) _ ?_
    show oS p e below T5 m 13 #[rv a0, rv a1] [(.long (8 : Int64)), (.ref a0)] _
    refine XS.aloadN X5.here hx rfl (hb hby d1_13) rfl rfl ?_
    exact kt)
  clear pre6
  have tv13 := F11
  obtain ⟨cl13, Ar13, q13, S13, Ng13, H13, G13⟩ := tv13
  have pre14 : ∀ t, oS p e below T5 m 17 #[rv a0, rv a1] [(.long ((8 : Int64) * ((2 : Int32).toInt64))), (.ref a0)] t → oE p e below s₁ m #[(.ref a0), (.ref a1)] 2 t := fun t kt => pre12 t (by
    show oS p e below T5 m 14 #[rv a0, rv a1] [(.ref a1), (.long (8 : Int64)), (.ref a0)] _
    refine X5.arraylength hx (by rw [e5]; exact Ar13.1) (State.isArrayOf_alike hZ.alike Ar13.2.1) (g := (mkF m 14 #[rv a0, rv a1] [(.ref a1), (.long (8 : Int64)), (.ref a0)])) rfl rfl (hb hby d1_14) _ ?_
    rw [len_of S13 Ng13]
    show oS p e below T5 m 15 #[rv a0, rv a1] [(.int (2 : Int32)), (.long (8 : Int64)), (.ref a0)] _
    refine XS.i2l X5.here hx rfl (hb hby d1_15) rfl ?_
    show oS p e below T5 m 16 #[rv a0, rv a1] [(.long ((2 : Int32).toInt64)), (.long (8 : Int64)), (.ref a0)] _
    refine XS.lmul X5.here hx rfl (hb hby d1_16) rfl ?_
    exact kt)
  clear pre12
  obtain ⟨T15, h15, X15, e15, W15, st15⟩ := putF X5 hx hZ hown (host := "") (Or.inl (hw _ (List.mem_of_getElem? (i := 16) rfl))) Via.refl e5 F8 F7 (Or.inr ⟨(hw _ (List.mem_of_getElem? (i := 17) rfl)), rfl, hnm⟩) (hw _ (List.mem_of_getElem? (i := 5) rfl)) (ty := .long) (by decide) rfl rfl (g := (mkF m 17 #[rv a0, rv a1] [(.long ((8 : Int64) * ((2 : Int32).toInt64))), (.ref a0)])) rfl rfl (hb hby d1_17)
  have pre16 : ∀ t, oS p e below T15 m 20 #[rv a0, rv a1] [] t → oE p e below s₁ m #[(.ref a0), (.ref a1)] 2 t := fun t kt => pre14 t (st15 _ kt)
  clear pre14 st15
  have Fw15 : Fld Z h15 a0 vB "size" "J" (.long ((8 : Int64) * ((2 : Int32).toInt64))) := F8.same W15
  have F17 : Exa Z h15 a0 vB := F7.wr W15
  have F18 : Fld Z h15 a0 vB "position" "J" (.long (0 : Int64)) := F9.other W15 (Or.inr (slot_ne (Or.inl (hw _ (List.mem_of_getElem? (i := 24) rfl))) (Or.inr (hw _ (List.mem_of_getElem? (i := 17) rfl))) (by decide) (t := .long) (t' := .long) (by decide) (by decide)))
  have F19 : Fld Z h15 a0 vB "ended" "Z" (.int (0 : Int32)) := F10.other W15 (Or.inr (slot_ne (Or.inl (hw _ (List.mem_of_getElem? (i := 26) rfl))) (Or.inr (hw _ (List.mem_of_getElem? (i := 17) rfl))) (by decide) (t := .boolean) (t' := .long) (by decide) (by decide)))
  have F20 : Arv Z h15 a1 kb .byte (2 : Int32) [(.int b0), (.int b1)] (.int (0 : Int32)) := F11.other W15 (Ne.symm ne1)
  have F21 : Fld Z h15 a0 vB "data" "[B" (.ref a1) := Fw5.other W15 (Or.inr (slot_ne (Or.inr (hw _ (List.mem_of_getElem? (i := 14) rfl))) (Or.inr (hw _ (List.mem_of_getElem? (i := 17) rfl))) (by decide) (t := (.array .byte)) (t' := .long) (by decide) (by decide)))
  have K15 : Keep h0 h15 [a0] := K5.wr W15 (Or.inl (List.mem_of_getElem? (i := 0) rfl))
  have N15 := Fr.snoc X15 N5 g_a0
  have Z15 : n0 ≤ h15.size := Nat.le_trans Z5 (Keep.of_wr W15).1
  obtain ⟨fs, hr, hrun, hended, hW, hsame⟩ := X15.leave (v := none) (fun _ => rfl)
  refine ⟨_, _, pre16 _ ?_, hrun, hended, _, _, rfl, ?_, ⟨_, rfl⟩, hW, hsame.mono (by decide) (by decide)⟩
  · show oS p e below T15 m 20 #[rv a0, rv a1] [] _
    exact X15.returnOut hx Bd.returns (hb hby d1_20) hr
  · show Q1c2 Z a0 a1 kb b0 b1 h0 n0 _ T15.heap _
    rw [e15]
    exact ⟨rfl, N15, K15, F17, F21, Fw15, F18, F19⟩
theorem ef1c3 (m : MethodId) (x0 : Addr) (x1 : Addr) : entryFrame m #[(.ref x0), (.ref x1)] 2 = mkF m 0 #[rv x0, rv x1] [] := by first | (simp [entryFrame, mkF, argsToLocals, Value.category]; done) | rfl
def Q1c3 (Z : State) (a0 : Addr) (a1 : Addr) (kb : ClassId) (b0 : Int32) (b1 : Int32) (b2 : Int32) (h0 : Heap) (n0 : Nat) (v : Option Value) (h : Heap) (L : List Loc) : Prop := v = none ∧ Fr n0 L ∧ Keep h0 h [a0] ∧ Exa Z h a0 vB ∧ Fld Z h a0 vB "data" "[B" (.ref a1) ∧ Fld Z h a0 vB "size" "J" (.long ((8 : Int64) * ((3 : Int32).toInt64))) ∧ Fld Z h a0 vB "position" "J" (.long (0 : Int64)) ∧ Fld Z h a0 vB "ended" "Z" (.int (0 : Int32))
set_option maxRecDepth 65536 in
set_option maxHeartbeats 40000000 in
theorem rm1c3 (l : Launch) (Z : State) (av : Array Value) (hw : ∀ d ∈ tables_1, d.before av Z = true) (ws : List Jvm.Cond) (a0 : Addr) (a1 : Addr) (kb : ClassId) (b0 : Int32) (b1 : Int32) (b2 : Int32) (h0 : Heap) (n0 : Nat) (Z0 : n0 ≤ h0.size) (E_a0 : Exa Z h0 a0 vB) (g_a0 : n0 ≤ a0) (I_data : Fld Z h0 a0 vB "data" "[B" .null) (I_size : Fld Z h0 a0 vB "size" "J" (.long (0 : Int64))) (I_position : Fld Z h0 a0 vB "position" "J" (.long (0 : Int64))) (I_ended : Fld Z h0 a0 vB "ended" "Z" (.int (0 : Int32))) (V1 : Arv Z h0 a1 kb .byte (3 : Int32) [(.int b0), (.int b1), (.int b2)] (.int (0 : Int32))) (ne1 : a0 ≠ a1) :
    MetFree l (⟨vB, "<init>", "([B)V"⟩ : MethodName) (head1 (Jvm.Cond.code (⟨vB, "<init>", "([B)V"⟩ : MethodName) prog_89_method_1_code 2 none :: ws) ({ frames := 1, cells := 0, slots := 0, locals := 12 } : Room)) (fun a U => a = #[(.ref a0), (.ref a1)] ∧ Z.Warmed39 U.vm ∧ U.heap = h0) (fun _ _ _ _ _ => True) (fun _ U o U' => ∃ v L, o = .returned v ∧ Q1c3 Z a0 a1 kb b0 b1 b2 h0 n0 v U'.heap L ∧ FrameEnd U o U' L ({ frames := 1, cells := 0, slots := 0, locals := 12 } : Room).cells ({ frames := 1, cells := 0, slots := 0, locals := 12 } : Room).slots) := by
  refine MetFree.of_bodySF (plainFor_of_name pn_com_example_baton_baton_core_format_VorbisBits) hisR ?_
  intro p e s m args below meth c s₁ Bd hml0 hP hK
  obtain ⟨rfl, hZ, hh⟩ := hP
  have hx := Bd.exec
  have hby := Bd.bytes
  have hml : c.maxLocals = 2 := hml0
  have hown : s.vm.findClass vB = some m.cls := by have h := findClass_of_methodNamed Bd.named; exact h
  have hnm := (name_of_methodNamed Bd.named Bd.method).1
  have X0 : Stand p l e ({ frames := 1, cells := 0, slots := 0, locals := 12 } : Room) s m #[(.ref a0), (.ref a1)] below meth c s₁ [] 0 0 := Stand.of_body Bd
  have e0 : s₁.heap = h0 := by rw [← hh, Bd.state]; rfl
  have N0 := Fr.nil n0
  have K0 : Keep h0 h0 [a0] := Keep.refl h0 [a0]
  have pre0 : ∀ t, Steps p.tables e below (s₁.setTop (mkF m 0 #[rv a0, rv a1] [])) t → Steps p.tables e below (s₁.setTop (entryFrame m #[(.ref a0), (.ref a1)] 2)) t := fun t k => castTop (ef1c3 m a0 a1) k
  have pre1 : ∀ t, oS p e below s₁ m 1 #[rv a0, rv a1] [(.ref a0)] t → oE p e below s₁ m #[(.ref a0), (.ref a1)] 2 t := fun t kt => pre0 t (by
    show oS p e below s₁ m 0 #[rv a0, rv a1] [] _
    refine XS.aloadN X0.here hx rfl (hb hby d1_0) rfl rfl ?_
    exact kt)
  clear pre0
  obtain ⟨T2, X2, e2, st2⟩ := initO X0 hx hZ hown (hw _ (List.mem_of_getElem? (i := 10) rfl)) (hw _ (List.mem_of_getElem? (i := 11) rfl)) (hw _ (List.mem_of_getElem? (i := 12) rfl)) e0 (g := (mkF m 1 #[rv a0, rv a1] [(.ref a0)])) rfl (by rw [hml]; rfl) rfl (hb hby d1_1) (by decide) (W := 0) (by show 2 * 0 + _ ≤ _; exact Nat.le_of_eq rfl) (by decide)
  have pre3 : ∀ t, oS p e below T2 m 4 #[rv a0, rv a1] [] t → oE p e below s₁ m #[(.ref a0), (.ref a1)] 2 t := fun t kt => pre1 t (st2 _ kt)
  clear pre1 st2
  have pre4 : ∀ t, oS p e below T2 m 6 #[rv a0, rv a1] [(.ref a1), (.ref a0)] t → oE p e below s₁ m #[(.ref a0), (.ref a1)] 2 t := fun t kt => pre3 t (by
    show oS p e below T2 m 4 #[rv a0, rv a1] [] _
    refine XS.aloadN X2.here hx rfl (hb hby d1_4) rfl rfl ?_
    show oS p e below T2 m 5 #[rv a0, rv a1] [(.ref a0)] _
    refine XS.aloadN X2.here hx rfl (hb hby d1_5) rfl rfl ?_
    exact kt)
  clear pre3
  obtain ⟨T5, h5, X5, e5, W5, st5⟩ := putF X2 hx hZ hown (host := "") (Or.inl (hw _ (List.mem_of_getElem? (i := 13) rfl))) Via.refl e2 I_data E_a0 (Or.inr ⟨(hw _ (List.mem_of_getElem? (i := 14) rfl)), rfl, hnm⟩) (hw _ (List.mem_of_getElem? (i := 5) rfl)) (ty := (.array .byte)) (by decide) rfl rfl (g := (mkF m 6 #[rv a0, rv a1] [(.ref a1), (.ref a0)])) rfl rfl (hb hby d1_6)
  have pre6 : ∀ t, oS p e below T5 m 9 #[rv a0, rv a1] [] t → oE p e below s₁ m #[(.ref a0), (.ref a1)] 2 t := fun t kt => pre4 t (st5 _ kt)
  clear pre4 st5
  have Fw5 : Fld Z h5 a0 vB "data" "[B" (.ref a1) := I_data.same W5
  have F7 : Exa Z h5 a0 vB := E_a0.wr W5
  have F8 : Fld Z h5 a0 vB "size" "J" (.long (0 : Int64)) := I_size.other W5 (Or.inr (slot_ne (Or.inr (hw _ (List.mem_of_getElem? (i := 17) rfl))) (Or.inr (hw _ (List.mem_of_getElem? (i := 14) rfl))) (by decide) (t := .long) (t' := (.array .byte)) (by decide) (by decide)))
  have F9 : Fld Z h5 a0 vB "position" "J" (.long (0 : Int64)) := I_position.other W5 (Or.inr (slot_ne (Or.inl (hw _ (List.mem_of_getElem? (i := 24) rfl))) (Or.inr (hw _ (List.mem_of_getElem? (i := 14) rfl))) (by decide) (t := .long) (t' := (.array .byte)) (by decide) (by decide)))
  have F10 : Fld Z h5 a0 vB "ended" "Z" (.int (0 : Int32)) := I_ended.other W5 (Or.inr (slot_ne (Or.inl (hw _ (List.mem_of_getElem? (i := 26) rfl))) (Or.inr (hw _ (List.mem_of_getElem? (i := 14) rfl))) (by decide) (t := .boolean) (t' := (.array .byte)) (by decide) (by decide)))
  have F11 : Arv Z h5 a1 kb .byte (3 : Int32) [(.int b0), (.int b1), (.int b2)] (.int (0 : Int32)) := V1.other W5 (Ne.symm ne1)
  have K5 : Keep h0 h5 [a0] := K0.wr W5 (Or.inl (List.mem_of_getElem? (i := 0) rfl))
  have N5 := Fr.snoc X5 N0 g_a0
  have Z5 : n0 ≤ h5.size := Nat.le_trans Z0 (Keep.of_wr W5).1
  have pre12 : ∀ t, oS p e below T5 m 14 #[rv a0, rv a1] [(.ref a1), (.long (8 : Int64)), (.ref a0)] t → oE p e below s₁ m #[(.ref a0), (.ref a1)] 2 t := fun t kt => pre6 t (by
    show oS p e below T5 m 9 #[rv a0, rv a1] [] _
    refine XS.aloadN X5.here hx rfl (hb hby d1_9) rfl rfl ?_
    show oS p e below T5 m 10 #[rv a0, rv a1] [(.ref a0)] _
    refine X5.ldc2Long hx hown (mvT hZ (hw _ (List.mem_of_getElem? (i := 15) rfl))) (g := (mkF m 10 #[rv a0, rv a1] [(.ref a0)])) rfl (hb hby d1_10) _ ?_
    show oS p e below T5 m 13 #[rv a0, rv a1] [(.long (8 : Int64)), (.ref a0)] _
    refine XS.aloadN X5.here hx rfl (hb hby d1_13) rfl rfl ?_
    exact kt)
  clear pre6
  have tv13 := F11
  obtain ⟨cl13, Ar13, q13, S13, Ng13, H13, G13⟩ := tv13
  have pre14 : ∀ t, oS p e below T5 m 17 #[rv a0, rv a1] [(.long ((8 : Int64) * ((3 : Int32).toInt64))), (.ref a0)] t → oE p e below s₁ m #[(.ref a0), (.ref a1)] 2 t := fun t kt => pre12 t (by
    show oS p e below T5 m 14 #[rv a0, rv a1] [(.ref a1), (.long (8 : Int64)), (.ref a0)] _
    refine X5.arraylength hx (by rw [e5]; exact Ar13.1) (State.isArrayOf_alike hZ.alike Ar13.2.1) (g := (mkF m 14 #[rv a0, rv a1] [(.ref a1), (.long (8 : Int64)), (.ref a0)])) rfl rfl (hb hby d1_14) _ ?_
    rw [len_of S13 Ng13]
    show oS p e below T5 m 15 #[rv a0, rv a1] [(.int (3 : Int32)), (.long (8 : Int64)), (.ref a0)] _
    refine XS.i2l X5.here hx rfl (hb hby d1_15) rfl ?_
    show oS p e below T5 m 16 #[rv a0, rv a1] [(.long ((3 : Int32).toInt64)), (.long (8 : Int64)), (.ref a0)] _
    refine XS.lmul X5.here hx rfl (hb hby d1_16) rfl ?_
    exact kt)
  clear pre12
  obtain ⟨T15, h15, X15, e15, W15, st15⟩ := putF X5 hx hZ hown (host := "") (Or.inl (hw _ (List.mem_of_getElem? (i := 16) rfl))) Via.refl e5 F8 F7 (Or.inr ⟨(hw _ (List.mem_of_getElem? (i := 17) rfl)), rfl, hnm⟩) (hw _ (List.mem_of_getElem? (i := 5) rfl)) (ty := .long) (by decide) rfl rfl (g := (mkF m 17 #[rv a0, rv a1] [(.long ((8 : Int64) * ((3 : Int32).toInt64))), (.ref a0)])) rfl rfl (hb hby d1_17)
  have pre16 : ∀ t, oS p e below T15 m 20 #[rv a0, rv a1] [] t → oE p e below s₁ m #[(.ref a0), (.ref a1)] 2 t := fun t kt => pre14 t (st15 _ kt)
  clear pre14 st15
  have Fw15 : Fld Z h15 a0 vB "size" "J" (.long ((8 : Int64) * ((3 : Int32).toInt64))) := F8.same W15
  have F17 : Exa Z h15 a0 vB := F7.wr W15
  have F18 : Fld Z h15 a0 vB "position" "J" (.long (0 : Int64)) := F9.other W15 (Or.inr (slot_ne (Or.inl (hw _ (List.mem_of_getElem? (i := 24) rfl))) (Or.inr (hw _ (List.mem_of_getElem? (i := 17) rfl))) (by decide) (t := .long) (t' := .long) (by decide) (by decide)))
  have F19 : Fld Z h15 a0 vB "ended" "Z" (.int (0 : Int32)) := F10.other W15 (Or.inr (slot_ne (Or.inl (hw _ (List.mem_of_getElem? (i := 26) rfl))) (Or.inr (hw _ (List.mem_of_getElem? (i := 17) rfl))) (by decide) (t := .boolean) (t' := .long) (by decide) (by decide)))
  have F20 : Arv Z h15 a1 kb .byte (3 : Int32) [(.int b0), (.int b1), (.int b2)] (.int (0 : Int32)) := F11.other W15 (Ne.symm ne1)
  have F21 : Fld Z h15 a0 vB "data" "[B" (.ref a1) := Fw5.other W15 (Or.inr (slot_ne (Or.inr (hw _ (List.mem_of_getElem? (i := 14) rfl))) (Or.inr (hw _ (List.mem_of_getElem? (i := 17) rfl))) (by decide) (t := (.array .byte)) (t' := .long) (by decide) (by decide)))
  have K15 : Keep h0 h15 [a0] := K5.wr W15 (Or.inl (List.mem_of_getElem? (i := 0) rfl))
  have N15 := Fr.snoc X15 N5 g_a0
  have Z15 : n0 ≤ h15.size := Nat.le_trans Z5 (Keep.of_wr W15).1
  obtain ⟨fs, hr, hrun, hended, hW, hsame⟩ := X15.leave (v := none) (fun _ => rfl)
  refine ⟨_, _, pre16 _ ?_, hrun, hended, _, _, rfl, ?_, ⟨_, rfl⟩, hW, hsame.mono (by decide) (by decide)⟩
  · show oS p e below T15 m 20 #[rv a0, rv a1] [] _
    exact X15.returnOut hx Bd.returns (hb hby d1_20) hr
  · show Q1c3 Z a0 a1 kb b0 b1 b2 h0 n0 _ T15.heap _
    rw [e15]
    exact ⟨rfl, N15, K15, F17, F21, Fw15, F18, F19⟩
theorem ef1c4 (m : MethodId) (x0 : Addr) (x1 : Addr) : entryFrame m #[(.ref x0), (.ref x1)] 2 = mkF m 0 #[rv x0, rv x1] [] := by first | (simp [entryFrame, mkF, argsToLocals, Value.category]; done) | rfl
def Q1c4 (Z : State) (a0 : Addr) (a1 : Addr) (kb : ClassId) (b0 : Int32) (b1 : Int32) (b2 : Int32) (b3 : Int32) (h0 : Heap) (n0 : Nat) (v : Option Value) (h : Heap) (L : List Loc) : Prop := v = none ∧ Fr n0 L ∧ Keep h0 h [a0] ∧ Exa Z h a0 vB ∧ Fld Z h a0 vB "data" "[B" (.ref a1) ∧ Fld Z h a0 vB "size" "J" (.long ((8 : Int64) * ((4 : Int32).toInt64))) ∧ Fld Z h a0 vB "position" "J" (.long (0 : Int64)) ∧ Fld Z h a0 vB "ended" "Z" (.int (0 : Int32))
set_option maxRecDepth 65536 in
set_option maxHeartbeats 40000000 in
theorem rm1c4 (l : Launch) (Z : State) (av : Array Value) (hw : ∀ d ∈ tables_1, d.before av Z = true) (ws : List Jvm.Cond) (a0 : Addr) (a1 : Addr) (kb : ClassId) (b0 : Int32) (b1 : Int32) (b2 : Int32) (b3 : Int32) (h0 : Heap) (n0 : Nat) (Z0 : n0 ≤ h0.size) (E_a0 : Exa Z h0 a0 vB) (g_a0 : n0 ≤ a0) (I_data : Fld Z h0 a0 vB "data" "[B" .null) (I_size : Fld Z h0 a0 vB "size" "J" (.long (0 : Int64))) (I_position : Fld Z h0 a0 vB "position" "J" (.long (0 : Int64))) (I_ended : Fld Z h0 a0 vB "ended" "Z" (.int (0 : Int32))) (V1 : Arv Z h0 a1 kb .byte (4 : Int32) [(.int b0), (.int b1), (.int b2), (.int b3)] (.int (0 : Int32))) (ne1 : a0 ≠ a1) :
    MetFree l (⟨vB, "<init>", "([B)V"⟩ : MethodName) (head1 (Jvm.Cond.code (⟨vB, "<init>", "([B)V"⟩ : MethodName) prog_89_method_1_code 2 none :: ws) ({ frames := 1, cells := 0, slots := 0, locals := 12 } : Room)) (fun a U => a = #[(.ref a0), (.ref a1)] ∧ Z.Warmed39 U.vm ∧ U.heap = h0) (fun _ _ _ _ _ => True) (fun _ U o U' => ∃ v L, o = .returned v ∧ Q1c4 Z a0 a1 kb b0 b1 b2 b3 h0 n0 v U'.heap L ∧ FrameEnd U o U' L ({ frames := 1, cells := 0, slots := 0, locals := 12 } : Room).cells ({ frames := 1, cells := 0, slots := 0, locals := 12 } : Room).slots) := by
  refine MetFree.of_bodySF (plainFor_of_name pn_com_example_baton_baton_core_format_VorbisBits) hisR ?_
  intro p e s m args below meth c s₁ Bd hml0 hP hK
  obtain ⟨rfl, hZ, hh⟩ := hP
  have hx := Bd.exec
  have hby := Bd.bytes
  have hml : c.maxLocals = 2 := hml0
  have hown : s.vm.findClass vB = some m.cls := by have h := findClass_of_methodNamed Bd.named; exact h
  have hnm := (name_of_methodNamed Bd.named Bd.method).1
  have X0 : Stand p l e ({ frames := 1, cells := 0, slots := 0, locals := 12 } : Room) s m #[(.ref a0), (.ref a1)] below meth c s₁ [] 0 0 := Stand.of_body Bd
  have e0 : s₁.heap = h0 := by rw [← hh, Bd.state]; rfl
  have N0 := Fr.nil n0
  have K0 : Keep h0 h0 [a0] := Keep.refl h0 [a0]
  have pre0 : ∀ t, Steps p.tables e below (s₁.setTop (mkF m 0 #[rv a0, rv a1] [])) t → Steps p.tables e below (s₁.setTop (entryFrame m #[(.ref a0), (.ref a1)] 2)) t := fun t k => castTop (ef1c4 m a0 a1) k
  have pre1 : ∀ t, oS p e below s₁ m 1 #[rv a0, rv a1] [(.ref a0)] t → oE p e below s₁ m #[(.ref a0), (.ref a1)] 2 t := fun t kt => pre0 t (by
    show oS p e below s₁ m 0 #[rv a0, rv a1] [] _
    refine XS.aloadN X0.here hx rfl (hb hby d1_0) rfl rfl ?_
    exact kt)
  clear pre0
  obtain ⟨T2, X2, e2, st2⟩ := initO X0 hx hZ hown (hw _ (List.mem_of_getElem? (i := 10) rfl)) (hw _ (List.mem_of_getElem? (i := 11) rfl)) (hw _ (List.mem_of_getElem? (i := 12) rfl)) e0 (g := (mkF m 1 #[rv a0, rv a1] [(.ref a0)])) rfl (by rw [hml]; rfl) rfl (hb hby d1_1) (by decide) (W := 0) (by show 2 * 0 + _ ≤ _; exact Nat.le_of_eq rfl) (by decide)
  have pre3 : ∀ t, oS p e below T2 m 4 #[rv a0, rv a1] [] t → oE p e below s₁ m #[(.ref a0), (.ref a1)] 2 t := fun t kt => pre1 t (st2 _ kt)
  clear pre1 st2
  have pre4 : ∀ t, oS p e below T2 m 6 #[rv a0, rv a1] [(.ref a1), (.ref a0)] t → oE p e below s₁ m #[(.ref a0), (.ref a1)] 2 t := fun t kt => pre3 t (by
    show oS p e below T2 m 4 #[rv a0, rv a1] [] _
    refine XS.aloadN X2.here hx rfl (hb hby d1_4) rfl rfl ?_
    show oS p e below T2 m 5 #[rv a0, rv a1] [(.ref a0)] _
    refine XS.aloadN X2.here hx rfl (hb hby d1_5) rfl rfl ?_
    exact kt)
  clear pre3
  obtain ⟨T5, h5, X5, e5, W5, st5⟩ := putF X2 hx hZ hown (host := "") (Or.inl (hw _ (List.mem_of_getElem? (i := 13) rfl))) Via.refl e2 I_data E_a0 (Or.inr ⟨(hw _ (List.mem_of_getElem? (i := 14) rfl)), rfl, hnm⟩) (hw _ (List.mem_of_getElem? (i := 5) rfl)) (ty := (.array .byte)) (by decide) rfl rfl (g := (mkF m 6 #[rv a0, rv a1] [(.ref a1), (.ref a0)])) rfl rfl (hb hby d1_6)
  have pre6 : ∀ t, oS p e below T5 m 9 #[rv a0, rv a1] [] t → oE p e below s₁ m #[(.ref a0), (.ref a1)] 2 t := fun t kt => pre4 t (st5 _ kt)
  clear pre4 st5
  have Fw5 : Fld Z h5 a0 vB "data" "[B" (.ref a1) := I_data.same W5
  have F7 : Exa Z h5 a0 vB := E_a0.wr W5
  have F8 : Fld Z h5 a0 vB "size" "J" (.long (0 : Int64)) := I_size.other W5 (Or.inr (slot_ne (Or.inr (hw _ (List.mem_of_getElem? (i := 17) rfl))) (Or.inr (hw _ (List.mem_of_getElem? (i := 14) rfl))) (by decide) (t := .long) (t' := (.array .byte)) (by decide) (by decide)))
  have F9 : Fld Z h5 a0 vB "position" "J" (.long (0 : Int64)) := I_position.other W5 (Or.inr (slot_ne (Or.inl (hw _ (List.mem_of_getElem? (i := 24) rfl))) (Or.inr (hw _ (List.mem_of_getElem? (i := 14) rfl))) (by decide) (t := .long) (t' := (.array .byte)) (by decide) (by decide)))
  have F10 : Fld Z h5 a0 vB "ended" "Z" (.int (0 : Int32)) := I_ended.other W5 (Or.inr (slot_ne (Or.inl (hw _ (List.mem_of_getElem? (i := 26) rfl))) (Or.inr (hw _ (List.mem_of_getElem? (i := 14) rfl))) (by decide) (t := .boolean) (t' := (.array .byte)) (by decide) (by decide)))
  have F11 : Arv Z h5 a1 kb .byte (4 : Int32) [(.int b0), (.int b1), (.int b2), (.int b3)] (.int (0 : Int32)) := V1.other W5 (Ne.symm ne1)
  have K5 : Keep h0 h5 [a0] := K0.wr W5 (Or.inl (List.mem_of_getElem? (i := 0) rfl))
  have N5 := Fr.snoc X5 N0 g_a0
  have Z5 : n0 ≤ h5.size := Nat.le_trans Z0 (Keep.of_wr W5).1
  have pre12 : ∀ t, oS p e below T5 m 14 #[rv a0, rv a1] [(.ref a1), (.long (8 : Int64)), (.ref a0)] t → oE p e below s₁ m #[(.ref a0), (.ref a1)] 2 t := fun t kt => pre6 t (by
    show oS p e below T5 m 9 #[rv a0, rv a1] [] _
    refine XS.aloadN X5.here hx rfl (hb hby d1_9) rfl rfl ?_
    show oS p e below T5 m 10 #[rv a0, rv a1] [(.ref a0)] _
    refine X5.ldc2Long hx hown (mvT hZ (hw _ (List.mem_of_getElem? (i := 15) rfl))) (g := (mkF m 10 #[rv a0, rv a1] [(.ref a0)])) rfl (hb hby d1_10) _ ?_
    show oS p e below T5 m 13 #[rv a0, rv a1] [(.long (8 : Int64)), (.ref a0)] _
    refine XS.aloadN X5.here hx rfl (hb hby d1_13) rfl rfl ?_
    exact kt)
  clear pre6
  have tv13 := F11
  obtain ⟨cl13, Ar13, q13, S13, Ng13, H13, G13⟩ := tv13
  have pre14 : ∀ t, oS p e below T5 m 17 #[rv a0, rv a1] [(.long ((8 : Int64) * ((4 : Int32).toInt64))), (.ref a0)] t → oE p e below s₁ m #[(.ref a0), (.ref a1)] 2 t := fun t kt => pre12 t (by
    show oS p e below T5 m 14 #[rv a0, rv a1] [(.ref a1), (.long (8 : Int64)), (.ref a0)] _
    refine X5.arraylength hx (by rw [e5]; exact Ar13.1) (State.isArrayOf_alike hZ.alike Ar13.2.1) (g := (mkF m 14 #[rv a0, rv a1] [(.ref a1), (.long (8 : Int64)), (.ref a0)])) rfl rfl (hb hby d1_14) _ ?_
    rw [len_of S13 Ng13]
    show oS p e below T5 m 15 #[rv a0, rv a1] [(.int (4 : Int32)), (.long (8 : Int64)), (.ref a0)] _
    refine XS.i2l X5.here hx rfl (hb hby d1_15) rfl ?_
    show oS p e below T5 m 16 #[rv a0, rv a1] [(.long ((4 : Int32).toInt64)), (.long (8 : Int64)), (.ref a0)] _
    refine XS.lmul X5.here hx rfl (hb hby d1_16) rfl ?_
    exact kt)
  clear pre12
  obtain ⟨T15, h15, X15, e15, W15, st15⟩ := putF X5 hx hZ hown (host := "") (Or.inl (hw _ (List.mem_of_getElem? (i := 16) rfl))) Via.refl e5 F8 F7 (Or.inr ⟨(hw _ (List.mem_of_getElem? (i := 17) rfl)), rfl, hnm⟩) (hw _ (List.mem_of_getElem? (i := 5) rfl)) (ty := .long) (by decide) rfl rfl (g := (mkF m 17 #[rv a0, rv a1] [(.long ((8 : Int64) * ((4 : Int32).toInt64))), (.ref a0)])) rfl rfl (hb hby d1_17)
  have pre16 : ∀ t, oS p e below T15 m 20 #[rv a0, rv a1] [] t → oE p e below s₁ m #[(.ref a0), (.ref a1)] 2 t := fun t kt => pre14 t (st15 _ kt)
  clear pre14 st15
  have Fw15 : Fld Z h15 a0 vB "size" "J" (.long ((8 : Int64) * ((4 : Int32).toInt64))) := F8.same W15
  have F17 : Exa Z h15 a0 vB := F7.wr W15
  have F18 : Fld Z h15 a0 vB "position" "J" (.long (0 : Int64)) := F9.other W15 (Or.inr (slot_ne (Or.inl (hw _ (List.mem_of_getElem? (i := 24) rfl))) (Or.inr (hw _ (List.mem_of_getElem? (i := 17) rfl))) (by decide) (t := .long) (t' := .long) (by decide) (by decide)))
  have F19 : Fld Z h15 a0 vB "ended" "Z" (.int (0 : Int32)) := F10.other W15 (Or.inr (slot_ne (Or.inl (hw _ (List.mem_of_getElem? (i := 26) rfl))) (Or.inr (hw _ (List.mem_of_getElem? (i := 17) rfl))) (by decide) (t := .boolean) (t' := .long) (by decide) (by decide)))
  have F20 : Arv Z h15 a1 kb .byte (4 : Int32) [(.int b0), (.int b1), (.int b2), (.int b3)] (.int (0 : Int32)) := F11.other W15 (Ne.symm ne1)
  have F21 : Fld Z h15 a0 vB "data" "[B" (.ref a1) := Fw5.other W15 (Or.inr (slot_ne (Or.inr (hw _ (List.mem_of_getElem? (i := 14) rfl))) (Or.inr (hw _ (List.mem_of_getElem? (i := 17) rfl))) (by decide) (t := (.array .byte)) (t' := .long) (by decide) (by decide)))
  have K15 : Keep h0 h15 [a0] := K5.wr W15 (Or.inl (List.mem_of_getElem? (i := 0) rfl))
  have N15 := Fr.snoc X15 N5 g_a0
  have Z15 : n0 ≤ h15.size := Nat.le_trans Z5 (Keep.of_wr W15).1
  obtain ⟨fs, hr, hrun, hended, hW, hsame⟩ := X15.leave (v := none) (fun _ => rfl)
  refine ⟨_, _, pre16 _ ?_, hrun, hended, _, _, rfl, ?_, ⟨_, rfl⟩, hW, hsame.mono (by decide) (by decide)⟩
  · show oS p e below T15 m 20 #[rv a0, rv a1] [] _
    exact X15.returnOut hx Bd.returns (hb hby d1_20) hr
  · show Q1c4 Z a0 a1 kb b0 b1 b2 b3 h0 n0 _ T15.heap _
    rw [e15]
    exact ⟨rfl, N15, K15, F17, F21, Fw15, F18, F19⟩
theorem own_shl (x : Int64) (q : Int32) (k : Nat) (hk : q.toBitVec.toNat % 64 = k) : (x <<< (q &&& 0x3f).toInt64).toBitVec = x.toBitVec <<< k := by
  show x.toBitVec <<< ((q &&& 0x3f).toInt64.toBitVec.smod 64) = _
  rw [BitVec.shiftLeft_eq', (sm64 q k hk).1, smod64 k (sm64 q k hk).2]
theorem own_shr (x : Int64) (q : Int32) (k : Nat) (hk : q.toBitVec.toNat % 64 = k) : ((x.toUInt64 >>> (q &&& 0x3f).toInt64.toUInt64).toInt64).toBitVec = x.toBitVec >>> k := by
  have h5 := (sm64 q k hk).2
  show x.toBitVec >>> ((q &&& 0x3f).toInt64.toBitVec % 64) = _
  rw [BitVec.ushiftRight_eq', BitVec.toNat_umod, (sm64 q k hk).1, BitVec.toNat_ofNat]
  congr 1
  show k % 2 ^ 64 % 64 = k
  omega
theorem own_bitA (b : BitVec 64) (k : Nat) (hk : k < 64) : (b &&& (1#64 <<< k)) = 0#64 ↔ b.getLsbD k = false := by
  have e : 1#64 <<< k = BitVec.twoPow 64 k := rfl
  rw [e, BitVec.and_twoPow]
  constructor
  · intro h
    cases hb : b.getLsbD k
    · rfl
    · rw [hb] at h
      have h2 := congrArg (fun z => z.getLsbD k) h
      simp [hk] at h2
  · intro h
    rw [h]; rfl
theorem own_bitB (b : BitVec 64) (k : Nat) : ((b >>> k) &&& 1#64) = 1#64 ↔ b.getLsbD k = true := by
  rw [BitVec.and_one_eq_setWidth_ofBool_getLsbD, BitVec.getLsbD_ushiftRight, Nat.add_zero]
  cases b.getLsbD k <;> decide
theorem own_bit (x : Int64) (y z : Int32) (k : Nat) (hy : y.toBitVec.toNat % 64 = k) (hz : z.toBitVec.toNat % 64 = k) : (x &&& ((1 : Int64) <<< (y &&& 0x3f).toInt64)) = (0 : Int64) ↔ ¬ (((x.toUInt64 >>> (z &&& 0x3f).toInt64.toUInt64).toInt64) &&& (1 : Int64)) = (1 : Int64) := by
  have hk := (sm64 y k hy).2
  rw [← Int64.toBitVec_inj, ← Int64.toBitVec_inj, Int64.toBitVec_and, Int64.toBitVec_and, own_shl _ _ k hy, own_shr _ _ k hz]
  show (x.toBitVec &&& (1#64 <<< k)) = 0#64 ↔ ¬ ((x.toBitVec >>> k) &&& 1#64) = 1#64
  rw [own_bitA _ _ hk, own_bitB]
  cases x.toBitVec.getLsbD k <;> decide
theorem own_nat (x : Int32) (h : 0 ≤ x.toInt) : (x.toBitVec.toNat : Int) = x.toInt := by
  have e : x.toInt = x.toBitVec.toInt := rfl
  rw [BitVec.toInt_eq_toNat_cond] at e
  have b := x.toBitVec.isLt
  split at e <;> omega
theorem own_bx (ps : Int64) (h0 : 0 ≤ ps.toInt) (h1 : ps.toInt ≤ 32) : (((ps.toUInt64 >>> ((3 : Int32) &&& 0x3f).toInt64.toUInt64).toInt64).toInt32).toInt = ps.toInt / 8 := by
  have e := c_lushr ps (3 : Int32) 3 (by decide) (by decide)
  have e2 := c_l2i ((ps.toUInt64 >>> ((3 : Int32) &&& 0x3f).toInt64.toUInt64).toInt64)
  have r := rng32 ((ps.toUInt64 >>> ((3 : Int32) &&& 0x3f).toInt64.toUInt64).toInt64).toInt32
  have q : ((2 ^ 3 : Nat) : Int) = 8 := rfl
  rw [q] at e
  omega
theorem own_sh (ps : Int64) {K : Int} (h : 0 ≤ ps.toInt ∧ ps.toInt ≤ K) : ((ps &&& (7 : Int64)).toInt32).toInt = ps.toInt % 8 := by
  have e := c_maskL ps (7 : Int64) 3 (by decide) (by decide)
  have e2 := c_l2i (ps &&& (7 : Int64))
  have r := rng32 (ps &&& (7 : Int64)).toInt32
  have q : ((2 ^ 3 : Nat) : Int) = 8 := rfl
  rw [q] at e
  omega
theorem own_q (sh : Int32) (h : 0 ≤ sh.toInt ∧ sh.toInt < 8) : 4 ≤ (((sh + (32 : Int32)) + (7 : Int32)) / (8 : Int32)).toInt ∧ (((sh + (32 : Int32)) + (7 : Int32)) / (8 : Int32)).toInt ≤ 5 := by
  have e1 := c_iadd sh (32 : Int32)
  have r1 := rng32 (sh + (32 : Int32))
  have e2 := c_iadd (sh + (32 : Int32)) (7 : Int32)
  have r2 := rng32 ((sh + (32 : Int32)) + (7 : Int32))
  have e3 := (c_idiv ((sh + (32 : Int32)) + (7 : Int32)) (8 : Int32) 8 (by decide) (by decide)).1
  simp only [Int32.reduceToInt] at e1 e2
  have e4 := e3 (by omega)
  omega
theorem own_enG (n k sh : Int32) (hn : 0 ≤ n.toInt ∧ n.toInt ≤ 4) (hk : 0 ≤ k.toInt ∧ k.toInt ≤ 4) {x : Int} (hsh : sh.toInt = x % 8) : f_min n (k + (((sh + (32 : Int32)) + (7 : Int32)) / (8 : Int32))) = n := by
  have q := own_q sh (by omega)
  have e := c_iadd k (((sh + (32 : Int32)) + (7 : Int32)) / (8 : Int32))
  have r := rng32 (k + (((sh + (32 : Int32)) + (7 : Int32)) / (8 : Int32)))
  unfold f_min
  generalize k + (((sh + (32 : Int32)) + (7 : Int32)) / (8 : Int32)) = z at *
  split
  · rename_i h
    rw [Int32.lt_iff_toInt_lt] at h
    omega
  · rfl
theorem own_b255 (b : Int32) : ((b.toInt64) &&& (255 : Int64)).toInt = b.toInt % 256 := by
  have e := c_maskL b.toInt64 (255 : Int64) 8 (by decide) (by decide)
  have e2 := c_i2l b
  have q : ((2 ^ 8 : Nat) : Int) = 256 := rfl
  rw [q] at e
  omega
theorem own_ac0 (b : Int32) : ((0 : Int64) ||| (((b.toInt64) &&& (255 : Int64)) <<< ((0 : Int32) &&& 0x3f).toInt64)).toInt = 1 * (b.toInt % 256) := by
  have e := own_b255 b
  have z : (((b.toInt64) &&& (255 : Int64)) <<< ((0 : Int32) &&& 0x3f).toInt64) = ((b.toInt64) &&& (255 : Int64)) := by
    rw [← Int64.toBitVec_inj, own_shl _ _ 0 (by decide)]
    simp
  rw [z, Int64.zero_or]
  omega
theorem own_acG (ac : Int64) (b q : Int32) (k : Nat) (X P : Int) (hq : q.toBitVec.toNat % 64 = k) (hk : k ≤ 24) (hP : P = (2 ^ k : Nat)) (hac : ac.toInt = X) (hX : 0 ≤ X ∧ X < P) : (ac ||| (((b.toInt64) &&& (255 : Int64)) <<< (q &&& 0x3f).toInt64)).toInt = X + P * (b.toInt % 256) := by
  have e := own_b255 b
  have e2 := c_lshl ((b.toInt64) &&& (255 : Int64)) q k hq
  have r2 := rng64 (((b.toInt64) &&& (255 : Int64)) <<< (q &&& 0x3f).toInt64)
  rw [← hP, e] at e2
  have hP24 : P ≤ 16777216 := by
    rw [hP]
    have := Nat.pow_le_pow_right (show 0 < 2 by decide) hk
    have h3 : (2 : Nat) ^ 24 = 16777216 := rfl
    omega
  have hmul : 0 ≤ b.toInt % 256 * P ∧ b.toInt % 256 * P ≤ 255 * 16777216 := by
    have h1 : 0 ≤ b.toInt % 256 := by omega
    have h2 : b.toInt % 256 ≤ 255 := by omega
    have h3 : 0 ≤ P := by omega
    exact ⟨Int.mul_nonneg h1 h3, Int.mul_le_mul h2 hP24 h3 (by decide)⟩
  have ev : (((b.toInt64) &&& (255 : Int64)) <<< (q &&& 0x3f).toInt64).toInt = b.toInt % 256 * P := by omega
  have eo := c_orL' ac (((b.toInt64) &&& (255 : Int64)) <<< (q &&& 0x3f).toInt64) k (by omega) P hP (by rw [ev]; exact Int.mul_emod_left _ _) (by omega) (by omega)
  have ro := rng64 (ac ||| (((b.toInt64) &&& (255 : Int64)) <<< (q &&& 0x3f).toInt64))
  rw [ev, hac] at eo
  rw [Int.mul_comm P]
  omega
theorem own_ac1 (ac : Int64) (b : Int32) (X : Int) (hac : ac.toInt = X) (hX : 0 ≤ X ∧ X < 256) : (ac ||| (((b.toInt64) &&& (255 : Int64)) <<< ((8 : Int32) &&& 0x3f).toInt64)).toInt = X + 256 * (b.toInt % 256) := own_acG ac b 8 8 X 256 (by decide) (by decide) (by decide) hac hX
theorem own_ac2 (ac : Int64) (b : Int32) (X : Int) (hac : ac.toInt = X) (hX : 0 ≤ X ∧ X < 65536) : (ac ||| (((b.toInt64) &&& (255 : Int64)) <<< ((16 : Int32) &&& 0x3f).toInt64)).toInt = X + 65536 * (b.toInt % 256) := own_acG ac b 16 16 X 65536 (by decide) (by decide) (by decide) hac hX
theorem own_ac3 (ac : Int64) (b : Int32) (X : Int) (hac : ac.toInt = X) (hX : 0 ≤ X ∧ X < 16777216) : (ac ||| (((b.toInt64) &&& (255 : Int64)) <<< ((24 : Int32) &&& 0x3f).toInt64)).toInt = X + 16777216 * (b.toInt % 256) := own_acG ac b 24 24 X 16777216 (by decide) (by decide) (by decide) hac hX
theorem own_natL (x : Int64) (h : 0 ≤ x.toInt) : (x.toBitVec.toNat : Int) = x.toInt := by
  have e : x.toInt = x.toBitVec.toInt := rfl
  rw [BitVec.toInt_eq_toNat_cond] at e
  have b := x.toBitVec.isLt
  split at e <;> omega
theorem own_ushr (x : Int64) (q : Int32) (k : Nat) (hk : q.toBitVec.toNat % 64 = k) (h : 0 ≤ x.toInt) : ((x.toUInt64 >>> (q &&& 0x3f).toInt64.toUInt64).toInt64).toInt = x.toInt / (2 ^ k : Nat) := by
  by_cases h0 : 0 < k
  · have r := rng64 x
    rw [c_lushr x q k hk h0]
    congr 1
    omega
  · have hk0 : k = 0 := by omega
    have e := own_shr x q 0 (by omega)
    have e2 : ((x.toUInt64 >>> (q &&& 0x3f).toInt64.toUInt64).toInt64) = x := by
      rw [← Int64.toBitVec_inj, e]
      simp
    rw [e2, hk0]
    simp
theorem own_low (y : Int64) : ((y &&& (((1 : Int64) <<< ((32 : Int32) &&& 0x3f).toInt64) - (1 : Int64))).toInt32) = Int32.ofInt y.toInt := by
  have em : (((1 : Int64) <<< ((32 : Int32) &&& 0x3f).toInt64) - (1 : Int64)) = (4294967295 : Int64) := by decide
  rw [em, ← Int32.toInt_inj, Int32.toInt_ofInt, show Int32.size = 2 ^ 32 from rfl]
  have e := c_maskL y (4294967295 : Int64) 32 (by decide) (by decide)
  have q : ((2 ^ 32 : Nat) : Int) = 4294967296 := rfl
  rw [q] at e
  have e2 := c_l2i (y &&& (4294967295 : Int64))
  have r := rng32 (y &&& (4294967295 : Int64)).toInt32
  have e3 := bm32 y.toInt
  have r3 : -2147483648 ≤ y.toInt.bmod (2 ^ 32) ∧ y.toInt.bmod (2 ^ 32) < 2147483648 := by
    have a := Int.le_bmod (x := y.toInt) (m := 2 ^ 32) (by decide)
    have b := Int.bmod_lt (x := y.toInt) (m := 2 ^ 32) (by decide)
    omega
  have d : ((y &&& (4294967295 : Int64)).toInt32.toInt - y.toInt.bmod (2 ^ 32)) % 4294967296 = 0 := by
    rw [e] at e2
    generalize (y &&& (4294967295 : Int64)).toInt32.toInt = u at *
    generalize y.toInt.bmod (2 ^ 32) = w at *
    generalize y.toInt = z at *
    clear r r3 q em e
    omega
  omega
theorem own_fin (acc : Int64) (sh : Int32) (ps : Int64) (S : Int) (k : Nat) (P : Int) (hP : P = (2 ^ (8 * k) : Nat)) (h0 : 0 ≤ ps.toInt) (hk : ps.toInt / 8 = k) (hsh : sh.toInt = ps.toInt % 8) (hS : 0 ≤ S) (hacc : acc.toInt = S / P) : ((((acc.toUInt64 >>> (sh &&& 0x3f).toInt64.toUInt64).toInt64) &&& (((1 : Int64) <<< ((32 : Int32) &&& 0x3f).toInt64) - (1 : Int64))).toInt32) = Int32.ofInt (S / 2 ^ ps.toInt.toNat) := by
  rw [own_low]
  have hn := own_nat sh (by omega)
  have hP0 : 0 ≤ P := by rw [hP]; exact Int.natCast_nonneg _
  have ha : 0 ≤ acc.toInt := by rw [hacc]; exact Int.ediv_nonneg hS hP0
  rw [own_ushr acc sh sh.toBitVec.toNat (by omega) ha, hacc, hP]
  have hm : ps.toInt.toNat = 8 * k + sh.toBitVec.toNat := by omega
  rw [hm, Int.ediv_ediv_of_nonneg (Int.natCast_nonneg _)]
  congr 2
  rw [← Int.natCast_mul, ← Nat.pow_add]
  exact Int.natCast_pow 2 _
theorem own_cmp (wh P1 POS : Int64) (S : Int) (hw : wh.toInt = S) (hS : 0 ≤ S) (hp : POS.toInt = P1.toInt) (h1 : 0 ≤ P1.toInt) (h2 : P1.toInt ≤ 32) : Int32.ofInt (S / 2 ^ POS.toInt.toNat) = (((wh.toUInt64 >>> ((P1.toInt32) &&& 0x3f).toInt64.toUInt64).toInt64).toInt32) := by
  have e := c_l2i P1
  have r := rng32 P1.toInt32
  have hn := own_nat P1.toInt32 (by omega)
  have hu := own_ushr wh P1.toInt32 P1.toInt.toNat (by omega) (by omega)
  rw [← Int32.toInt_inj, Int32.toInt_ofInt, hp]
  have e2 := c_l2i ((wh.toUInt64 >>> ((P1.toInt32) &&& 0x3f).toInt64.toUInt64).toInt64)
  have r2 := rng32 ((wh.toUInt64 >>> ((P1.toInt32) &&& 0x3f).toInt64.toUInt64).toInt64).toInt32
  rw [hu, hw, Int.natCast_pow] at e2
  have q : ((2 : Nat) : Int) = 2 := rfl
  rw [q] at e2
  generalize S / 2 ^ P1.toInt.toNat = y at *
  have e3 := bm32 y
  have a := Int.le_bmod (x := y) (m := 2 ^ 32) (by decide)
  have b := Int.bmod_lt (x := y) (m := 2 ^ 32) (by decide)
  generalize ((wh.toUInt64 >>> ((P1.toInt32) &&& 0x3f).toInt64.toUInt64).toInt64).toInt32.toInt = u at *
  generalize y.bmod (2 ^ 32) = w at *
  have d : (u - w) % 4294967296 = 0 := by
    clear hu hn e r
    omega
  omega

theorem own_bi0 (ps : Int64) (h : 0 ≤ ps.toInt ∧ ps.toInt ≤ 0) : ps.toInt / 8 = (((ps.toUInt64 >>> ((3 : Int32) &&& 0x3f).toInt64.toUInt64).toInt64).toInt32).toInt ∧ ((((ps.toUInt64 >>> ((3 : Int32) &&& 0x3f).toInt64.toUInt64).toInt64).toInt32) = (0 : Int32)) := by
  have e := own_bx ps h.1 (by omega)
  refine ⟨e.symm, ?_⟩
  simp only [← Int32.toInt_inj, Int32.reduceToInt, e]
  omega
theorem own_bi1 (ps : Int64) (h : 0 ≤ ps.toInt ∧ ps.toInt ≤ 8) : ps.toInt / 8 = (((ps.toUInt64 >>> ((3 : Int32) &&& 0x3f).toInt64.toUInt64).toInt64).toInt32).toInt ∧ ((((ps.toUInt64 >>> ((3 : Int32) &&& 0x3f).toInt64.toUInt64).toInt64).toInt32) = (0 : Int32) ∨ (((ps.toUInt64 >>> ((3 : Int32) &&& 0x3f).toInt64.toUInt64).toInt64).toInt32) = (1 : Int32)) := by
  have e := own_bx ps h.1 (by omega)
  refine ⟨e.symm, ?_⟩
  simp only [← Int32.toInt_inj, Int32.reduceToInt, e]
  omega
theorem own_bi2 (ps : Int64) (h : 0 ≤ ps.toInt ∧ ps.toInt ≤ 16) : ps.toInt / 8 = (((ps.toUInt64 >>> ((3 : Int32) &&& 0x3f).toInt64.toUInt64).toInt64).toInt32).toInt ∧ ((((ps.toUInt64 >>> ((3 : Int32) &&& 0x3f).toInt64.toUInt64).toInt64).toInt32) = (0 : Int32) ∨ (((ps.toUInt64 >>> ((3 : Int32) &&& 0x3f).toInt64.toUInt64).toInt64).toInt32) = (1 : Int32) ∨ (((ps.toUInt64 >>> ((3 : Int32) &&& 0x3f).toInt64.toUInt64).toInt64).toInt32) = (2 : Int32)) := by
  have e := own_bx ps h.1 (by omega)
  refine ⟨e.symm, ?_⟩
  simp only [← Int32.toInt_inj, Int32.reduceToInt, e]
  omega
theorem own_bi3 (ps : Int64) (h : 0 ≤ ps.toInt ∧ ps.toInt ≤ 24) : ps.toInt / 8 = (((ps.toUInt64 >>> ((3 : Int32) &&& 0x3f).toInt64.toUInt64).toInt64).toInt32).toInt ∧ ((((ps.toUInt64 >>> ((3 : Int32) &&& 0x3f).toInt64.toUInt64).toInt64).toInt32) = (0 : Int32) ∨ (((ps.toUInt64 >>> ((3 : Int32) &&& 0x3f).toInt64.toUInt64).toInt64).toInt32) = (1 : Int32) ∨ (((ps.toUInt64 >>> ((3 : Int32) &&& 0x3f).toInt64.toUInt64).toInt64).toInt32) = (2 : Int32) ∨ (((ps.toUInt64 >>> ((3 : Int32) &&& 0x3f).toInt64.toUInt64).toInt64).toInt32) = (3 : Int32)) := by
  have e := own_bx ps h.1 (by omega)
  refine ⟨e.symm, ?_⟩
  simp only [← Int32.toInt_inj, Int32.reduceToInt, e]
  omega
theorem own_bi4 (ps : Int64) (h : 0 ≤ ps.toInt ∧ ps.toInt ≤ 32) : ps.toInt / 8 = (((ps.toUInt64 >>> ((3 : Int32) &&& 0x3f).toInt64.toUInt64).toInt64).toInt32).toInt ∧ ((((ps.toUInt64 >>> ((3 : Int32) &&& 0x3f).toInt64.toUInt64).toInt64).toInt32) = (0 : Int32) ∨ (((ps.toUInt64 >>> ((3 : Int32) &&& 0x3f).toInt64.toUInt64).toInt64).toInt32) = (1 : Int32) ∨ (((ps.toUInt64 >>> ((3 : Int32) &&& 0x3f).toInt64.toUInt64).toInt64).toInt32) = (2 : Int32) ∨ (((ps.toUInt64 >>> ((3 : Int32) &&& 0x3f).toInt64.toUInt64).toInt64).toInt32) = (3 : Int32) ∨ (((ps.toUInt64 >>> ((3 : Int32) &&& 0x3f).toInt64.toUInt64).toInt64).toInt32) = (4 : Int32)) := by
  have e := own_bx ps h.1 (by omega)
  refine ⟨e.symm, ?_⟩
  simp only [← Int32.toInt_inj, Int32.reduceToInt, e]
  omega
theorem d4_0 : decode prog_89_method_5_code 0 = .ok (.aload_n 0, 1) := by decide +kernel
theorem d4_1 : decode prog_89_method_5_code 1 = .ok (.getfield 34, 3) := by decide +kernel
theorem d4_4 : decode prog_89_method_5_code 4 = .ok (.iconst 3, 1) := by decide +kernel
theorem d4_5 : decode prog_89_method_5_code 5 = .ok (.lushr, 1) := by decide +kernel
theorem d4_6 : decode prog_89_method_5_code 6 = .ok (.l2i, 1) := by decide +kernel
theorem d4_7 : decode prog_89_method_5_code 7 = .ok (.istore_n 2, 1) := by decide +kernel
theorem d4_8 : decode prog_89_method_5_code 8 = .ok (.aload_n 0, 1) := by decide +kernel
theorem d4_9 : decode prog_89_method_5_code 9 = .ok (.getfield 34, 3) := by decide +kernel
theorem d4_12 : decode prog_89_method_5_code 12 = .ok (.ldc2_w 37, 3) := by decide +kernel
theorem d4_15 : decode prog_89_method_5_code 15 = .ok (.land, 1) := by decide +kernel
theorem d4_16 : decode prog_89_method_5_code 16 = .ok (.l2i, 1) := by decide +kernel
theorem d4_17 : decode prog_89_method_5_code 17 = .ok (.istore_n 3, 1) := by decide +kernel
theorem d4_18 : decode prog_89_method_5_code 18 = .ok (.aload_n 0, 1) := by decide +kernel
theorem d4_19 : decode prog_89_method_5_code 19 = .ok (.getfield 7, 3) := by decide +kernel
theorem d4_22 : decode prog_89_method_5_code 22 = .ok (.arraylength, 1) := by decide +kernel
theorem d4_23 : decode prog_89_method_5_code 23 = .ok (.iload_n 2, 1) := by decide +kernel
theorem d4_24 : decode prog_89_method_5_code 24 = .ok (.iload_n 3, 1) := by decide +kernel
theorem d4_25 : decode prog_89_method_5_code 25 = .ok (.iload_n 1, 1) := by decide +kernel
theorem d4_26 : decode prog_89_method_5_code 26 = .ok (.iadd, 1) := by decide +kernel
theorem d4_27 : decode prog_89_method_5_code 27 = .ok (.bipush 7, 2) := by decide +kernel
theorem d4_29 : decode prog_89_method_5_code 29 = .ok (.iadd, 1) := by decide +kernel
theorem d4_30 : decode prog_89_method_5_code 30 = .ok (.bipush 8, 2) := by decide +kernel
theorem d4_32 : decode prog_89_method_5_code 32 = .ok (.idiv, 1) := by decide +kernel
theorem d4_33 : decode prog_89_method_5_code 33 = .ok (.iadd, 1) := by decide +kernel
theorem pd__II_I : parseMethodDescriptor "(II)I" = some ⟨[.int, .int], some .int⟩ := by decide +kernel
theorem d4_34 : decode prog_89_method_5_code 34 = .ok (.invokestatic 39, 3) := by decide +kernel
theorem d4_37 : decode prog_89_method_5_code 37 = .ok (.istore 4, 2) := by decide +kernel
theorem d4_39 : decode prog_89_method_5_code 39 = .ok (.lconst 0, 1) := by decide +kernel
theorem d4_40 : decode prog_89_method_5_code 40 = .ok (.lstore 5, 2) := by decide +kernel
theorem d4_42 : decode prog_89_method_5_code 42 = .ok (.iload_n 2, 1) := by decide +kernel
theorem d4_43 : decode prog_89_method_5_code 43 = .ok (.istore 7, 2) := by decide +kernel
theorem d4_45 : decode prog_89_method_5_code 45 = .ok (.iload 7, 2) := by decide +kernel
theorem d4_47 : decode prog_89_method_5_code 47 = .ok (.iload 4, 2) := by decide +kernel
theorem d4_49 : decode prog_89_method_5_code 49 = .ok (.if_icmp .ge 34, 3) := by decide +kernel
theorem d4_83 : decode prog_89_method_5_code 83 = .ok (.lload 5, 2) := by decide +kernel
theorem d4_85 : decode prog_89_method_5_code 85 = .ok (.iload_n 3, 1) := by decide +kernel
theorem d4_86 : decode prog_89_method_5_code 86 = .ok (.lushr, 1) := by decide +kernel
theorem d4_87 : decode prog_89_method_5_code 87 = .ok (.lconst 1, 1) := by decide +kernel
theorem d4_88 : decode prog_89_method_5_code 88 = .ok (.iload_n 1, 1) := by decide +kernel
theorem d4_89 : decode prog_89_method_5_code 89 = .ok (.lshl, 1) := by decide +kernel
theorem d4_90 : decode prog_89_method_5_code 90 = .ok (.lconst 1, 1) := by decide +kernel
theorem d4_91 : decode prog_89_method_5_code 91 = .ok (.lsub, 1) := by decide +kernel
theorem d4_92 : decode prog_89_method_5_code 92 = .ok (.land, 1) := by decide +kernel
theorem d4_93 : decode prog_89_method_5_code 93 = .ok (.l2i, 1) := by decide +kernel
theorem d4_94 : decode prog_89_method_5_code 94 = .ok (.ireturn, 1) := by decide +kernel
theorem ef4p0 (m : MethodId) (x0 : Addr) : entryFrame m #[(.ref x0), (.int (32 : Int32))] 8 = mkF m 0 #[rv x0, iv 32, un, un, un, un, un, un] [] := by first | (simp [entryFrame, mkF, argsToLocals, Value.category]; done) | rfl
def Q4p0 (Z : State) (a0 : Addr) (ab : Addr) (sz : Int64) (ps : Int64) (ed : Int32) (kb : ClassId) (h0 : Heap) (n0 : Nat) (v : Option Value) (h : Heap) (L : List Loc) : Prop := v = some (.int (Int32.ofInt ((0) / 2 ^ ps.toInt.toNat))) ∧ Fr n0 L ∧ h = h0
set_option maxRecDepth 65536 in
set_option maxHeartbeats 40000000 in
theorem rm4p0 (l : Launch) (Z : State) (av : Array Value) (hw : ∀ d ∈ tables_1, d.before av Z = true) (ws : List Jvm.Cond) (a0 : Addr) (ab : Addr) (sz : Int64) (ps : Int64) (ed : Int32) (kb : ClassId) (h0 : Heap) (n0 : Nat) (Z0 : n0 ≤ h0.size) (E_a0 : Exa Z h0 a0 vB) (g_a0 : n0 ≤ a0) (I_data : Fld Z h0 a0 vB "data" "[B" (.ref ab)) (I_size : Fld Z h0 a0 vB "size" "J" (.long sz)) (I_position : Fld Z h0 a0 vB "position" "J" (.long ps)) (I_ended : Fld Z h0 a0 vB "ended" "Z" (.int ed)) (V1 : Arv Z h0 ab kb .byte (0 : Int32) [] (.int (0 : Int32))) (hps : 0 ≤ ps.toInt ∧ ps.toInt ≤ 0) :
    MetFree l (⟨vB, "peek", "(I)I"⟩ : MethodName) (head1 (Jvm.Cond.code (⟨vB, "peek", "(I)I"⟩ : MethodName) prog_89_method_5_code 8 (some .int) :: ws) ({ frames := 1, cells := 0, slots := 0, locals := 13 } : Room)) (fun a U => a = #[(.ref a0), (.int (32 : Int32))] ∧ Z.Warmed39 U.vm ∧ U.heap = h0) (fun _ _ _ _ _ => True) (fun _ U o U' => ∃ v L, o = .returned v ∧ Q4p0 Z a0 ab sz ps ed kb h0 n0 v U'.heap L ∧ FrameEnd U o U' L ({ frames := 1, cells := 0, slots := 0, locals := 13 } : Room).cells ({ frames := 1, cells := 0, slots := 0, locals := 13 } : Room).slots) := by
  refine MetFree.of_bodySF (plainFor_of_name pn_com_example_baton_baton_core_format_VorbisBits) hisR ?_
  intro p e s m args below meth c s₁ Bd hml0 hP hK
  obtain ⟨rfl, hZ, hh⟩ := hP
  have hx := Bd.exec
  have hby := Bd.bytes
  have hml : c.maxLocals = 8 := hml0
  have hown : s.vm.findClass vB = some m.cls := by have h := findClass_of_methodNamed Bd.named; exact h
  have hnm := (name_of_methodNamed Bd.named Bd.method).1
  have X0 : Stand p l e ({ frames := 1, cells := 0, slots := 0, locals := 13 } : Room) s m #[(.ref a0), (.int (32 : Int32))] below meth c s₁ [] 0 0 := Stand.of_body Bd
  have e0 : s₁.heap = h0 := by rw [← hh, Bd.state]; rfl
  have N0 := Fr.nil n0
  have K0 : Keep h0 h0 [] := Keep.refl h0 []
  have pre0 : ∀ t, Steps p.tables e below (s₁.setTop (mkF m 0 #[rv a0, iv 32, un, un, un, un, un, un] [])) t → Steps p.tables e below (s₁.setTop (entryFrame m #[(.ref a0), (.int (32 : Int32))] 8)) t := fun t k => castTop (ef4p0 m a0) k
  have pre1 : ∀ t, oS p e below s₁ m 1 #[rv a0, iv 32, un, un, un, un, un, un] [(.ref a0)] t → oE p e below s₁ m #[(.ref a0), (.int (32 : Int32))] 8 t := fun t kt => pre0 t (by
    show oS p e below s₁ m 0 #[rv a0, iv 32, un, un, un, un, un, un] [] _
    refine XS.aloadN X0.here hx rfl (hb hby d4_0) rfl rfl ?_
    exact kt)
  clear pre0
  obtain ⟨T2, X2, e2, st2⟩ := getF X0 hx hZ hown (host := "") (Or.inl (hw _ (List.mem_of_getElem? (i := 23) rfl))) Via.refl e0 I_position (g := (mkF m 1 #[rv a0, iv 32, un, un, un, un, un, un] [(.ref a0)])) rfl rfl (hb hby d4_1)
  have pre3 : ∀ t, oS p e below T2 m 4 #[rv a0, iv 32, un, un, un, un, un, un] [(.long ps)] t → oE p e below s₁ m #[(.ref a0), (.int (32 : Int32))] 8 t := fun t kt => pre1 t (st2 _ kt)
  clear pre1 st2
  have pre4 : ∀ t, oS p e below T2 m 8 #[rv a0, iv 32, iv (((ps.toUInt64 >>> ((3 : Int32) &&& 0x3f).toInt64.toUInt64).toInt64).toInt32), un, un, un, un, un] [] t → oE p e below s₁ m #[(.ref a0), (.int (32 : Int32))] 8 t := fun t kt => pre3 t (by
    show oS p e below T2 m 4 #[rv a0, iv 32, un, un, un, un, un, un] [(.long ps)] _
    refine XS.iconst X2.here hx rfl (hb hby d4_4) ?_
    show oS p e below T2 m 5 #[rv a0, iv 32, un, un, un, un, un, un] [(.int (3 : Int32)), (.long ps)] _
    refine XS.lushr X2.here hx rfl (hb hby d4_5) rfl ?_
    show oS p e below T2 m 6 #[rv a0, iv 32, un, un, un, un, un, un] [(.long ((ps.toUInt64 >>> ((3 : Int32) &&& 0x3f).toInt64.toUInt64).toInt64))] _
    refine XS.l2i X2.here hx rfl (hb hby d4_6) rfl ?_
    show oS p e below T2 m 7 #[rv a0, iv 32, un, un, un, un, un, un] [(.int (((ps.toUInt64 >>> ((3 : Int32) &&& 0x3f).toInt64.toUInt64).toInt64).toInt32))] _
    refine XS.istoreN X2.here hx rfl (hb hby d4_7) rfl (l' := #[rv a0, iv 32, iv (((ps.toUInt64 >>> ((3 : Int32) &&& 0x3f).toInt64.toUInt64).toInt64).toInt32), un, un, un, un, un]) rfl ?_
    exact kt)
  clear pre3
  obtain ⟨bi, hm5, pre5⟩ : ∃ (bi : Int32), (ps.toInt / 8 = bi.toInt ∧ (bi = (0 : Int32))) ∧ ∀ t, oS p e below T2 m 8 #[rv a0, iv 32, iv bi, un, un, un, un, un] [] t → oE p e below s₁ m #[(.ref a0), (.int (32 : Int32))] 8 t := ⟨(((ps.toUInt64 >>> ((3 : Int32) &&& 0x3f).toInt64.toUInt64).toInt64).toInt32), own_bi0 ps hps, pre4⟩
  clear pre4
  obtain ⟨hk0, hkc⟩ := hm5
  subst hkc
  · have hk0 : ps.toInt / 8 = 0 := hk0.trans (by decide)
    have pre6 : ∀ t, oS p e below T2 m 9 #[rv a0, iv 32, iv 0, un, un, un, un, un] [(.ref a0)] t → oE p e below s₁ m #[(.ref a0), (.int (32 : Int32))] 8 t := fun t kt => pre5 t (by
      show oS p e below T2 m 8 #[rv a0, iv 32, iv 0, un, un, un, un, un] [] _
      refine XS.aloadN X2.here hx rfl (hb hby d4_8) rfl rfl ?_
      exact kt)
    clear pre5
    obtain ⟨T7, X7, e7, st7⟩ := getF X2 hx hZ hown (host := "") (Or.inl (hw _ (List.mem_of_getElem? (i := 23) rfl))) Via.refl e2 I_position (g := (mkF m 9 #[rv a0, iv 32, iv 0, un, un, un, un, un] [(.ref a0)])) rfl rfl (hb hby d4_9)
    have pre8 : ∀ t, oS p e below T7 m 12 #[rv a0, iv 32, iv 0, un, un, un, un, un] [(.long ps)] t → oE p e below s₁ m #[(.ref a0), (.int (32 : Int32))] 8 t := fun t kt => pre6 t (st7 _ kt)
    clear pre6 st7
    have pre9 : ∀ t, oS p e below T7 m 18 #[rv a0, iv 32, iv 0, iv ((ps &&& (7 : Int64)).toInt32), un, un, un, un] [] t → oE p e below s₁ m #[(.ref a0), (.int (32 : Int32))] 8 t := fun t kt => pre8 t (by
      show oS p e below T7 m 12 #[rv a0, iv 32, iv 0, un, un, un, un, un] [(.long ps)] _
      refine X7.ldc2Long hx hown (mvT hZ (hw _ (List.mem_of_getElem? (i := 32) rfl))) (g := (mkF m 12 #[rv a0, iv 32, iv 0, un, un, un, un, un] [(.long ps)])) rfl (hb hby d4_12) _ ?_
      show oS p e below T7 m 15 #[rv a0, iv 32, iv 0, un, un, un, un, un] [(.long (7 : Int64)), (.long ps)] _
      refine XS.land X7.here hx rfl (hb hby d4_15) rfl ?_
      show oS p e below T7 m 16 #[rv a0, iv 32, iv 0, un, un, un, un, un] [(.long (ps &&& (7 : Int64)))] _
      refine XS.l2i X7.here hx rfl (hb hby d4_16) rfl ?_
      show oS p e below T7 m 17 #[rv a0, iv 32, iv 0, un, un, un, un, un] [(.int ((ps &&& (7 : Int64)).toInt32))] _
      refine XS.istoreN X7.here hx rfl (hb hby d4_17) rfl (l' := #[rv a0, iv 32, iv 0, iv ((ps &&& (7 : Int64)).toInt32), un, un, un, un]) rfl ?_
      exact kt)
    clear pre8
    obtain ⟨sh, hm10, pre10⟩ : ∃ (sh : Int32), (sh.toInt = ps.toInt % 8) ∧ ∀ t, oS p e below T7 m 18 #[rv a0, iv 32, iv 0, iv sh, un, un, un, un] [] t → oE p e below s₁ m #[(.ref a0), (.int (32 : Int32))] 8 t := ⟨((ps &&& (7 : Int64)).toInt32), own_sh ps hps, pre9⟩
    clear pre9
    have pre11 : ∀ t, oS p e below T7 m 19 #[rv a0, iv 32, iv 0, iv sh, un, un, un, un] [(.ref a0)] t → oE p e below s₁ m #[(.ref a0), (.int (32 : Int32))] 8 t := fun t kt => pre10 t (by
      show oS p e below T7 m 18 #[rv a0, iv 32, iv 0, iv sh, un, un, un, un] [] _
      refine XS.aloadN X7.here hx rfl (hb hby d4_18) rfl rfl ?_
      exact kt)
    clear pre10
    obtain ⟨T12, X12, e12, st12⟩ := getF X7 hx hZ hown (host := "") (Or.inl (hw _ (List.mem_of_getElem? (i := 13) rfl))) Via.refl e7 I_data (g := (mkF m 19 #[rv a0, iv 32, iv 0, iv sh, un, un, un, un] [(.ref a0)])) rfl rfl (hb hby d4_19)
    have pre13 : ∀ t, oS p e below T12 m 22 #[rv a0, iv 32, iv 0, iv sh, un, un, un, un] [(.ref ab)] t → oE p e below s₁ m #[(.ref a0), (.int (32 : Int32))] 8 t := fun t kt => pre11 t (st12 _ kt)
    clear pre11 st12
    have tv14 := V1
    obtain ⟨cl14, Ar14, q14, S14, Ng14, H14, G14⟩ := tv14
    have pre15 : ∀ t, oS p e below T12 m 34 #[rv a0, iv 32, iv 0, iv sh, un, un, un, un] [(.int ((0 : Int32) + (((sh + (32 : Int32)) + (7 : Int32)) / (8 : Int32)))), (.int (0 : Int32))] t → oE p e below s₁ m #[(.ref a0), (.int (32 : Int32))] 8 t := fun t kt => pre13 t (by
      show oS p e below T12 m 22 #[rv a0, iv 32, iv 0, iv sh, un, un, un, un] [(.ref ab)] _
      refine X12.arraylength hx (by rw [e12]; exact Ar14.1) (State.isArrayOf_alike hZ.alike Ar14.2.1) (g := (mkF m 22 #[rv a0, iv 32, iv 0, iv sh, un, un, un, un] [(.ref ab)])) rfl rfl (hb hby d4_22) _ ?_
      rw [len_of S14 Ng14]
      show oS p e below T12 m 23 #[rv a0, iv 32, iv 0, iv sh, un, un, un, un] [(.int (0 : Int32))] _
      refine XS.iloadN X12.here hx rfl (hb hby d4_23) rfl ?_
      show oS p e below T12 m 24 #[rv a0, iv 32, iv 0, iv sh, un, un, un, un] [(.int (0 : Int32)), (.int (0 : Int32))] _
      refine XS.iloadN X12.here hx rfl (hb hby d4_24) rfl ?_
      show oS p e below T12 m 25 #[rv a0, iv 32, iv 0, iv sh, un, un, un, un] [(.int sh), (.int (0 : Int32)), (.int (0 : Int32))] _
      refine XS.iloadN X12.here hx rfl (hb hby d4_25) rfl ?_
      show oS p e below T12 m 26 #[rv a0, iv 32, iv 0, iv sh, un, un, un, un] [(.int (32 : Int32)), (.int sh), (.int (0 : Int32)), (.int (0 : Int32))] _
      refine XS.iadd X12.here hx rfl (hb hby d4_26) rfl ?_
      show oS p e below T12 m 27 #[rv a0, iv 32, iv 0, iv sh, un, un, un, un] [(.int (sh + (32 : Int32))), (.int (0 : Int32)), (.int (0 : Int32))] _
      refine XS.bipush X12.here hx rfl (hb hby d4_27) ?_
      show oS p e below T12 m 29 #[rv a0, iv 32, iv 0, iv sh, un, un, un, un] [(.int (7 : Int32)), (.int (sh + (32 : Int32))), (.int (0 : Int32)), (.int (0 : Int32))] _
      refine XS.iadd X12.here hx rfl (hb hby d4_29) rfl ?_
      show oS p e below T12 m 30 #[rv a0, iv 32, iv 0, iv sh, un, un, un, un] [(.int ((sh + (32 : Int32)) + (7 : Int32))), (.int (0 : Int32)), (.int (0 : Int32))] _
      refine XS.bipush X12.here hx rfl (hb hby d4_30) ?_
      show oS p e below T12 m 32 #[rv a0, iv 32, iv 0, iv sh, un, un, un, un] [(.int (8 : Int32)), (.int ((sh + (32 : Int32)) + (7 : Int32))), (.int (0 : Int32)), (.int (0 : Int32))] _
      refine XS.idiv X12.here hx rfl (hb hby d4_32) rfl (by decide) ?_
      show oS p e below T12 m 33 #[rv a0, iv 32, iv 0, iv sh, un, un, un, un] [(.int (((sh + (32 : Int32)) + (7 : Int32)) / (8 : Int32))), (.int (0 : Int32)), (.int (0 : Int32))] _
      refine XS.iadd X12.here hx rfl (hb hby d4_33) rfl ?_
      exact kt)
    clear pre13
    obtain ⟨_, _, ⟨T16, L16, k16, n16⟩, -, X16, ⟨Lc16, hQ16, l16, y16, z16⟩, st16⟩ := Jvm.LawKit.callS X12 hx (y := (⟨"java/lang/Math", "min", "(II)I"⟩ : MethodName)) hown (mvT hZ (hw _ (List.mem_of_getElem? (i := 33) rfl))) (mvT hZ (hw _ (List.mem_of_getElem? (i := 34) rfl))) (mvT hZ (hw _ (List.mem_of_getElem? (i := 35) rfl))) (mvT hZ (hw _ (List.mem_of_getElem? (i := 36) rfl))) (by decide) (backOf (W := 0) (rm5 l Z av hw [] (0 : Int32) ((0 : Int32) + (((sh + (32 : Int32)) + (7 : Int32)) / (8 : Int32)))  h0 n0 Z0 ) hZ (hw _ (List.mem_of_getElem? (i := 36) rfl)) (hw _ (List.mem_of_getElem? (i := 35) rfl)) (by decide) (by decide)) (g := (mkF m 34 #[rv a0, iv 32, iv 0, iv sh, un, un, un, un] [(.int ((0 : Int32) + (((sh + (32 : Int32)) + (7 : Int32)) / (8 : Int32)))), (.int (0 : Int32))])) rfl (by rw [hml]; rfl) (argsL := [(.int (0 : Int32)), (.int ((0 : Int32) + (((sh + (32 : Int32)) + (7 : Int32)) / (8 : Int32))))]) (rest := []) (lenOf pd__II_I rfl) rfl (by show 2 * 0 + _ ≤ _; exact Nat.le_of_eq rfl) (hb hby d4_34) (fun _ _ => ⟨rfl, e12, (by decide : 0 + 0 ≤ _), (by decide : 0 + 0 ≤ _)⟩)
    dsimp only [Pt.U, Pt.locs, Pt.cells, Pt.slots] at X16 l16 y16 z16 st16 hQ16
    rw [l16, y16, z16] at X16
    clear l16 y16 z16
    obtain ⟨rfl, N16q, e16⟩ := hQ16
    have N16 := Fr.app N0 N16q
    have pre17 : ∀ t, oS p e below T16 m 37 #[rv a0, iv 32, iv 0, iv sh, un, un, un, un] [(.int (f_min (0 : Int32) ((0 : Int32) + (((sh + (32 : Int32)) + (7 : Int32)) / (8 : Int32)))))] t → oE p e below s₁ m #[(.ref a0), (.int (32 : Int32))] 8 t := fun t kt => pre15 t (st16 _ kt)
    clear pre15 st16
    have pre18 : ∀ t, oS p e below T16 m 39 #[rv a0, iv 32, iv 0, iv sh, iv (f_min (0 : Int32) ((0 : Int32) + (((sh + (32 : Int32)) + (7 : Int32)) / (8 : Int32)))), un, un, un] [] t → oE p e below s₁ m #[(.ref a0), (.int (32 : Int32))] 8 t := fun t kt => pre17 t (by
      show oS p e below T16 m 37 #[rv a0, iv 32, iv 0, iv sh, un, un, un, un] [(.int (f_min (0 : Int32) ((0 : Int32) + (((sh + (32 : Int32)) + (7 : Int32)) / (8 : Int32)))))] _
      refine XS.istore X16.here hx rfl (hb hby d4_37) rfl (l' := #[rv a0, iv 32, iv 0, iv sh, iv (f_min (0 : Int32) ((0 : Int32) + (((sh + (32 : Int32)) + (7 : Int32)) / (8 : Int32)))), un, un, un]) rfl ?_
      exact kt)
    clear pre17
    obtain ⟨en, hm19, pre19⟩ : ∃ (en : Int32), (en = (0 : Int32)) ∧ ∀ t, oS p e below T16 m 39 #[rv a0, iv 32, iv 0, iv sh, iv en, un, un, un] [] t → oE p e below s₁ m #[(.ref a0), (.int (32 : Int32))] 8 t := ⟨(f_min (0 : Int32) ((0 : Int32) + (((sh + (32 : Int32)) + (7 : Int32)) / (8 : Int32)))), own_enG (0 : Int32) (0 : Int32) sh (by decide) (by decide) hm10, pre18⟩
    clear pre18
    subst hm19
    have pre20 : ∀ t, oS p e below T16 m 94 #[rv a0, iv 32, iv 0, iv sh, iv 0, jv 0, sn, iv 0] [(.int (((((0 : Int64).toUInt64 >>> (sh &&& 0x3f).toInt64.toUInt64).toInt64) &&& (((1 : Int64) <<< ((32 : Int32) &&& 0x3f).toInt64) - (1 : Int64))).toInt32))] t → oE p e below s₁ m #[(.ref a0), (.int (32 : Int32))] 8 t := fun t kt => pre19 t (by
      show oS p e below T16 m 39 #[rv a0, iv 32, iv 0, iv sh, iv 0, un, un, un] [] _
      refine XS.lconst X16.here hx rfl (hb hby d4_39) ?_
      show oS p e below T16 m 40 #[rv a0, iv 32, iv 0, iv sh, iv 0, un, un, un] [(.long (0 : Int64))] _
      refine XS.lstore X16.here hx rfl (hb hby d4_40) rfl (l' := #[rv a0, iv 32, iv 0, iv sh, iv 0, jv 0, sn, un]) rfl ?_
      show oS p e below T16 m 42 #[rv a0, iv 32, iv 0, iv sh, iv 0, jv 0, sn, un] [] _
      refine XS.iloadN X16.here hx rfl (hb hby d4_42) rfl ?_
      show oS p e below T16 m 43 #[rv a0, iv 32, iv 0, iv sh, iv 0, jv 0, sn, un] [(.int (0 : Int32))] _
      refine XS.istore X16.here hx rfl (hb hby d4_43) rfl (l' := #[rv a0, iv 32, iv 0, iv sh, iv 0, jv 0, sn, iv 0]) rfl ?_
      show oS p e below T16 m 45 #[rv a0, iv 32, iv 0, iv sh, iv 0, jv 0, sn, iv 0] [] _
      refine XS.iload X16.here hx rfl (hb hby d4_45) rfl ?_
      show oS p e below T16 m 47 #[rv a0, iv 32, iv 0, iv sh, iv 0, jv 0, sn, iv 0] [(.int (0 : Int32))] _
      refine XS.iload X16.here hx rfl (hb hby d4_47) rfl ?_
      show oS p e below T16 m 49 #[rv a0, iv 32, iv 0, iv sh, iv 0, jv 0, sn, iv 0] [(.int (0 : Int32)), (.int (0 : Int32))] _
      refine XS.icmpYes X16.here hx rfl (pc0 := 49) (pc' := 83) rfl (hb hby d4_49) rfl (flt (by decide : ¬ ((0 : Int32) < (0 : Int32)))).2.1 (by decide) (by decide) ?_
      show oS p e below T16 m 83 #[rv a0, iv 32, iv 0, iv sh, iv 0, jv 0, sn, iv 0] [] _
      refine XS.lload X16.here hx rfl (hb hby d4_83) rfl ?_
      show oS p e below T16 m 85 #[rv a0, iv 32, iv 0, iv sh, iv 0, jv 0, sn, iv 0] [(.long (0 : Int64))] _
      refine XS.iloadN X16.here hx rfl (hb hby d4_85) rfl ?_
      show oS p e below T16 m 86 #[rv a0, iv 32, iv 0, iv sh, iv 0, jv 0, sn, iv 0] [(.int sh), (.long (0 : Int64))] _
      refine XS.lushr X16.here hx rfl (hb hby d4_86) rfl ?_
      show oS p e below T16 m 87 #[rv a0, iv 32, iv 0, iv sh, iv 0, jv 0, sn, iv 0] [(.long (((0 : Int64).toUInt64 >>> (sh &&& 0x3f).toInt64.toUInt64).toInt64))] _
      refine XS.lconst X16.here hx rfl (hb hby d4_87) ?_
      show oS p e below T16 m 88 #[rv a0, iv 32, iv 0, iv sh, iv 0, jv 0, sn, iv 0] [(.long (1 : Int64)), (.long (((0 : Int64).toUInt64 >>> (sh &&& 0x3f).toInt64.toUInt64).toInt64))] _
      refine XS.iloadN X16.here hx rfl (hb hby d4_88) rfl ?_
      show oS p e below T16 m 89 #[rv a0, iv 32, iv 0, iv sh, iv 0, jv 0, sn, iv 0] [(.int (32 : Int32)), (.long (1 : Int64)), (.long (((0 : Int64).toUInt64 >>> (sh &&& 0x3f).toInt64.toUInt64).toInt64))] _
      refine XS.lshl X16.here hx rfl (hb hby d4_89) rfl ?_
      show oS p e below T16 m 90 #[rv a0, iv 32, iv 0, iv sh, iv 0, jv 0, sn, iv 0] [(.long ((1 : Int64) <<< ((32 : Int32) &&& 0x3f).toInt64)), (.long (((0 : Int64).toUInt64 >>> (sh &&& 0x3f).toInt64.toUInt64).toInt64))] _
      refine XS.lconst X16.here hx rfl (hb hby d4_90) ?_
      show oS p e below T16 m 91 #[rv a0, iv 32, iv 0, iv sh, iv 0, jv 0, sn, iv 0] [(.long (1 : Int64)), (.long ((1 : Int64) <<< ((32 : Int32) &&& 0x3f).toInt64)), (.long (((0 : Int64).toUInt64 >>> (sh &&& 0x3f).toInt64.toUInt64).toInt64))] _
      refine XS.lsub X16.here hx rfl (hb hby d4_91) rfl ?_
      show oS p e below T16 m 92 #[rv a0, iv 32, iv 0, iv sh, iv 0, jv 0, sn, iv 0] [(.long (((1 : Int64) <<< ((32 : Int32) &&& 0x3f).toInt64) - (1 : Int64))), (.long (((0 : Int64).toUInt64 >>> (sh &&& 0x3f).toInt64.toUInt64).toInt64))] _
      refine XS.land X16.here hx rfl (hb hby d4_92) rfl ?_
      show oS p e below T16 m 93 #[rv a0, iv 32, iv 0, iv sh, iv 0, jv 0, sn, iv 0] [(.long ((((0 : Int64).toUInt64 >>> (sh &&& 0x3f).toInt64.toUInt64).toInt64) &&& (((1 : Int64) <<< ((32 : Int32) &&& 0x3f).toInt64) - (1 : Int64))))] _
      refine XS.l2i X16.here hx rfl (hb hby d4_93) rfl ?_
      exact kt)
    clear pre19
    have hr0 : (((((0 : Int64).toUInt64 >>> (sh &&& 0x3f).toInt64.toUInt64).toInt64) &&& (((1 : Int64) <<< ((32 : Int32) &&& 0x3f).toInt64) - (1 : Int64))).toInt32) = Int32.ofInt ((0) / 2 ^ ps.toInt.toNat) := own_fin (0 : Int64) sh ps (0) 0 1 (by decide) hps.1 hk0 hm10 (by omega) (by have q : (0 : Int64).toInt = 0 := (by decide); omega)
    rw [hr0] at pre20
    obtain ⟨fs, hr, hrun, hended, hW, hsame⟩ := X16.leave (v := some (.int (Int32.ofInt ((0) / 2 ^ ps.toInt.toNat)))) (fun h => by rw [Bd.returns] at h; cases h)
    refine ⟨_, _, pre20 _ ?_, hrun, hended, _, _, rfl, ?_, ⟨_, rfl⟩, hW, hsame.mono (by decide) (by decide)⟩
    · show oS p e below T16 m 94 #[rv a0, iv 32, iv 0, iv sh, iv 0, jv 0, sn, iv 0] [(.int (Int32.ofInt ((0) / 2 ^ ps.toInt.toNat)))] _
      exact retI X16 hx Bd.returns (hb hby d4_94) hr
    · show Q4p0 Z a0 ab sz ps ed kb h0 n0 _ T16.heap _
      rw [e16]
      exact ⟨rfl, N16, rfl⟩
theorem d4_52 : decode prog_89_method_5_code 52 = .ok (.lload 5, 2) := by decide +kernel
theorem d4_54 : decode prog_89_method_5_code 54 = .ok (.aload_n 0, 1) := by decide +kernel
theorem d4_55 : decode prog_89_method_5_code 55 = .ok (.getfield 7, 3) := by decide +kernel
theorem d4_58 : decode prog_89_method_5_code 58 = .ok (.iload 7, 2) := by decide +kernel
theorem d4_60 : decode prog_89_method_5_code 60 = .ok (.baload, 1) := by decide +kernel
theorem d4_61 : decode prog_89_method_5_code 61 = .ok (.i2l, 1) := by decide +kernel
theorem d4_62 : decode prog_89_method_5_code 62 = .ok (.ldc2_w 45, 3) := by decide +kernel
theorem d4_65 : decode prog_89_method_5_code 65 = .ok (.land, 1) := by decide +kernel
theorem d4_66 : decode prog_89_method_5_code 66 = .ok (.bipush 8, 2) := by decide +kernel
theorem d4_68 : decode prog_89_method_5_code 68 = .ok (.iload 7, 2) := by decide +kernel
theorem d4_70 : decode prog_89_method_5_code 70 = .ok (.iload_n 2, 1) := by decide +kernel
theorem d4_71 : decode prog_89_method_5_code 71 = .ok (.isub, 1) := by decide +kernel
theorem d4_72 : decode prog_89_method_5_code 72 = .ok (.imul, 1) := by decide +kernel
theorem d4_73 : decode prog_89_method_5_code 73 = .ok (.lshl, 1) := by decide +kernel
theorem d4_74 : decode prog_89_method_5_code 74 = .ok (.lor, 1) := by decide +kernel
theorem d4_75 : decode prog_89_method_5_code 75 = .ok (.lstore 5, 2) := by decide +kernel
theorem d4_77 : decode prog_89_method_5_code 77 = .ok (.iinc 7 1, 3) := by decide +kernel
theorem d4_80 : decode prog_89_method_5_code 80 = .ok (.goto (-35), 3) := by decide +kernel
theorem ef4p1 (m : MethodId) (x0 : Addr) : entryFrame m #[(.ref x0), (.int (32 : Int32))] 8 = mkF m 0 #[rv x0, iv 32, un, un, un, un, un, un] [] := by first | (simp [entryFrame, mkF, argsToLocals, Value.category]; done) | rfl
def Q4p1 (Z : State) (a0 : Addr) (ab : Addr) (sz : Int64) (ps : Int64) (ed : Int32) (kb : ClassId) (b0 : Int32) (h0 : Heap) (n0 : Nat) (v : Option Value) (h : Heap) (L : List Loc) : Prop := v = some (.int (Int32.ofInt ((1 * (b0.toInt % 256)) / 2 ^ ps.toInt.toNat))) ∧ Fr n0 L ∧ h = h0
set_option maxRecDepth 65536 in
set_option maxHeartbeats 40000000 in
theorem rm4p1 (l : Launch) (Z : State) (av : Array Value) (hw : ∀ d ∈ tables_1, d.before av Z = true) (ws : List Jvm.Cond) (a0 : Addr) (ab : Addr) (sz : Int64) (ps : Int64) (ed : Int32) (kb : ClassId) (b0 : Int32) (h0 : Heap) (n0 : Nat) (Z0 : n0 ≤ h0.size) (E_a0 : Exa Z h0 a0 vB) (g_a0 : n0 ≤ a0) (I_data : Fld Z h0 a0 vB "data" "[B" (.ref ab)) (I_size : Fld Z h0 a0 vB "size" "J" (.long sz)) (I_position : Fld Z h0 a0 vB "position" "J" (.long ps)) (I_ended : Fld Z h0 a0 vB "ended" "Z" (.int ed)) (V1 : Arv Z h0 ab kb .byte (1 : Int32) [(.int b0)] (.int (0 : Int32))) (hps : 0 ≤ ps.toInt ∧ ps.toInt ≤ 8) :
    MetFree l (⟨vB, "peek", "(I)I"⟩ : MethodName) (head1 (Jvm.Cond.code (⟨vB, "peek", "(I)I"⟩ : MethodName) prog_89_method_5_code 8 (some .int) :: ws) ({ frames := 1, cells := 0, slots := 0, locals := 13 } : Room)) (fun a U => a = #[(.ref a0), (.int (32 : Int32))] ∧ Z.Warmed39 U.vm ∧ U.heap = h0) (fun _ _ _ _ _ => True) (fun _ U o U' => ∃ v L, o = .returned v ∧ Q4p1 Z a0 ab sz ps ed kb b0 h0 n0 v U'.heap L ∧ FrameEnd U o U' L ({ frames := 1, cells := 0, slots := 0, locals := 13 } : Room).cells ({ frames := 1, cells := 0, slots := 0, locals := 13 } : Room).slots) := by
  refine MetFree.of_bodySF (plainFor_of_name pn_com_example_baton_baton_core_format_VorbisBits) hisR ?_
  intro p e s m args below meth c s₁ Bd hml0 hP hK
  obtain ⟨rfl, hZ, hh⟩ := hP
  have hx := Bd.exec
  have hby := Bd.bytes
  have hml : c.maxLocals = 8 := hml0
  have hown : s.vm.findClass vB = some m.cls := by have h := findClass_of_methodNamed Bd.named; exact h
  have hnm := (name_of_methodNamed Bd.named Bd.method).1
  have X0 : Stand p l e ({ frames := 1, cells := 0, slots := 0, locals := 13 } : Room) s m #[(.ref a0), (.int (32 : Int32))] below meth c s₁ [] 0 0 := Stand.of_body Bd
  have e0 : s₁.heap = h0 := by rw [← hh, Bd.state]; rfl
  have N0 := Fr.nil n0
  have K0 : Keep h0 h0 [] := Keep.refl h0 []
  have pre0 : ∀ t, Steps p.tables e below (s₁.setTop (mkF m 0 #[rv a0, iv 32, un, un, un, un, un, un] [])) t → Steps p.tables e below (s₁.setTop (entryFrame m #[(.ref a0), (.int (32 : Int32))] 8)) t := fun t k => castTop (ef4p1 m a0) k
  have pre1 : ∀ t, oS p e below s₁ m 1 #[rv a0, iv 32, un, un, un, un, un, un] [(.ref a0)] t → oE p e below s₁ m #[(.ref a0), (.int (32 : Int32))] 8 t := fun t kt => pre0 t (by
    show oS p e below s₁ m 0 #[rv a0, iv 32, un, un, un, un, un, un] [] _
    refine XS.aloadN X0.here hx rfl (hb hby d4_0) rfl rfl ?_
    exact kt)
  clear pre0
  obtain ⟨T2, X2, e2, st2⟩ := getF X0 hx hZ hown (host := "") (Or.inl (hw _ (List.mem_of_getElem? (i := 23) rfl))) Via.refl e0 I_position (g := (mkF m 1 #[rv a0, iv 32, un, un, un, un, un, un] [(.ref a0)])) rfl rfl (hb hby d4_1)
  have pre3 : ∀ t, oS p e below T2 m 4 #[rv a0, iv 32, un, un, un, un, un, un] [(.long ps)] t → oE p e below s₁ m #[(.ref a0), (.int (32 : Int32))] 8 t := fun t kt => pre1 t (st2 _ kt)
  clear pre1 st2
  have pre4 : ∀ t, oS p e below T2 m 8 #[rv a0, iv 32, iv (((ps.toUInt64 >>> ((3 : Int32) &&& 0x3f).toInt64.toUInt64).toInt64).toInt32), un, un, un, un, un] [] t → oE p e below s₁ m #[(.ref a0), (.int (32 : Int32))] 8 t := fun t kt => pre3 t (by
    show oS p e below T2 m 4 #[rv a0, iv 32, un, un, un, un, un, un] [(.long ps)] _
    refine XS.iconst X2.here hx rfl (hb hby d4_4) ?_
    show oS p e below T2 m 5 #[rv a0, iv 32, un, un, un, un, un, un] [(.int (3 : Int32)), (.long ps)] _
    refine XS.lushr X2.here hx rfl (hb hby d4_5) rfl ?_
    show oS p e below T2 m 6 #[rv a0, iv 32, un, un, un, un, un, un] [(.long ((ps.toUInt64 >>> ((3 : Int32) &&& 0x3f).toInt64.toUInt64).toInt64))] _
    refine XS.l2i X2.here hx rfl (hb hby d4_6) rfl ?_
    show oS p e below T2 m 7 #[rv a0, iv 32, un, un, un, un, un, un] [(.int (((ps.toUInt64 >>> ((3 : Int32) &&& 0x3f).toInt64.toUInt64).toInt64).toInt32))] _
    refine XS.istoreN X2.here hx rfl (hb hby d4_7) rfl (l' := #[rv a0, iv 32, iv (((ps.toUInt64 >>> ((3 : Int32) &&& 0x3f).toInt64.toUInt64).toInt64).toInt32), un, un, un, un, un]) rfl ?_
    exact kt)
  clear pre3
  obtain ⟨bi, hm5, pre5⟩ : ∃ (bi : Int32), (ps.toInt / 8 = bi.toInt ∧ (bi = (0 : Int32) ∨ bi = (1 : Int32))) ∧ ∀ t, oS p e below T2 m 8 #[rv a0, iv 32, iv bi, un, un, un, un, un] [] t → oE p e below s₁ m #[(.ref a0), (.int (32 : Int32))] 8 t := ⟨(((ps.toUInt64 >>> ((3 : Int32) &&& 0x3f).toInt64.toUInt64).toInt64).toInt32), own_bi1 ps hps, pre4⟩
  clear pre4
  obtain ⟨hk0, hkc⟩ := hm5
  rcases hkc with rfl | rfl
  · have hk0 : ps.toInt / 8 = 0 := hk0.trans (by decide)
    have pre6 : ∀ t, oS p e below T2 m 9 #[rv a0, iv 32, iv 0, un, un, un, un, un] [(.ref a0)] t → oE p e below s₁ m #[(.ref a0), (.int (32 : Int32))] 8 t := fun t kt => pre5 t (by
      show oS p e below T2 m 8 #[rv a0, iv 32, iv 0, un, un, un, un, un] [] _
      refine XS.aloadN X2.here hx rfl (hb hby d4_8) rfl rfl ?_
      exact kt)
    clear pre5
    obtain ⟨T7, X7, e7, st7⟩ := getF X2 hx hZ hown (host := "") (Or.inl (hw _ (List.mem_of_getElem? (i := 23) rfl))) Via.refl e2 I_position (g := (mkF m 9 #[rv a0, iv 32, iv 0, un, un, un, un, un] [(.ref a0)])) rfl rfl (hb hby d4_9)
    have pre8 : ∀ t, oS p e below T7 m 12 #[rv a0, iv 32, iv 0, un, un, un, un, un] [(.long ps)] t → oE p e below s₁ m #[(.ref a0), (.int (32 : Int32))] 8 t := fun t kt => pre6 t (st7 _ kt)
    clear pre6 st7
    have pre9 : ∀ t, oS p e below T7 m 18 #[rv a0, iv 32, iv 0, iv ((ps &&& (7 : Int64)).toInt32), un, un, un, un] [] t → oE p e below s₁ m #[(.ref a0), (.int (32 : Int32))] 8 t := fun t kt => pre8 t (by
      show oS p e below T7 m 12 #[rv a0, iv 32, iv 0, un, un, un, un, un] [(.long ps)] _
      refine X7.ldc2Long hx hown (mvT hZ (hw _ (List.mem_of_getElem? (i := 32) rfl))) (g := (mkF m 12 #[rv a0, iv 32, iv 0, un, un, un, un, un] [(.long ps)])) rfl (hb hby d4_12) _ ?_
      show oS p e below T7 m 15 #[rv a0, iv 32, iv 0, un, un, un, un, un] [(.long (7 : Int64)), (.long ps)] _
      refine XS.land X7.here hx rfl (hb hby d4_15) rfl ?_
      show oS p e below T7 m 16 #[rv a0, iv 32, iv 0, un, un, un, un, un] [(.long (ps &&& (7 : Int64)))] _
      refine XS.l2i X7.here hx rfl (hb hby d4_16) rfl ?_
      show oS p e below T7 m 17 #[rv a0, iv 32, iv 0, un, un, un, un, un] [(.int ((ps &&& (7 : Int64)).toInt32))] _
      refine XS.istoreN X7.here hx rfl (hb hby d4_17) rfl (l' := #[rv a0, iv 32, iv 0, iv ((ps &&& (7 : Int64)).toInt32), un, un, un, un]) rfl ?_
      exact kt)
    clear pre8
    obtain ⟨sh, hm10, pre10⟩ : ∃ (sh : Int32), (sh.toInt = ps.toInt % 8) ∧ ∀ t, oS p e below T7 m 18 #[rv a0, iv 32, iv 0, iv sh, un, un, un, un] [] t → oE p e below s₁ m #[(.ref a0), (.int (32 : Int32))] 8 t := ⟨((ps &&& (7 : Int64)).toInt32), own_sh ps hps, pre9⟩
    clear pre9
    have pre11 : ∀ t, oS p e below T7 m 19 #[rv a0, iv 32, iv 0, iv sh, un, un, un, un] [(.ref a0)] t → oE p e below s₁ m #[(.ref a0), (.int (32 : Int32))] 8 t := fun t kt => pre10 t (by
      show oS p e below T7 m 18 #[rv a0, iv 32, iv 0, iv sh, un, un, un, un] [] _
      refine XS.aloadN X7.here hx rfl (hb hby d4_18) rfl rfl ?_
      exact kt)
    clear pre10
    obtain ⟨T12, X12, e12, st12⟩ := getF X7 hx hZ hown (host := "") (Or.inl (hw _ (List.mem_of_getElem? (i := 13) rfl))) Via.refl e7 I_data (g := (mkF m 19 #[rv a0, iv 32, iv 0, iv sh, un, un, un, un] [(.ref a0)])) rfl rfl (hb hby d4_19)
    have pre13 : ∀ t, oS p e below T12 m 22 #[rv a0, iv 32, iv 0, iv sh, un, un, un, un] [(.ref ab)] t → oE p e below s₁ m #[(.ref a0), (.int (32 : Int32))] 8 t := fun t kt => pre11 t (st12 _ kt)
    clear pre11 st12
    have tv14 := V1
    obtain ⟨cl14, Ar14, q14, S14, Ng14, H14, G14⟩ := tv14
    have pre15 : ∀ t, oS p e below T12 m 34 #[rv a0, iv 32, iv 0, iv sh, un, un, un, un] [(.int ((0 : Int32) + (((sh + (32 : Int32)) + (7 : Int32)) / (8 : Int32)))), (.int (1 : Int32))] t → oE p e below s₁ m #[(.ref a0), (.int (32 : Int32))] 8 t := fun t kt => pre13 t (by
      show oS p e below T12 m 22 #[rv a0, iv 32, iv 0, iv sh, un, un, un, un] [(.ref ab)] _
      refine X12.arraylength hx (by rw [e12]; exact Ar14.1) (State.isArrayOf_alike hZ.alike Ar14.2.1) (g := (mkF m 22 #[rv a0, iv 32, iv 0, iv sh, un, un, un, un] [(.ref ab)])) rfl rfl (hb hby d4_22) _ ?_
      rw [len_of S14 Ng14]
      show oS p e below T12 m 23 #[rv a0, iv 32, iv 0, iv sh, un, un, un, un] [(.int (1 : Int32))] _
      refine XS.iloadN X12.here hx rfl (hb hby d4_23) rfl ?_
      show oS p e below T12 m 24 #[rv a0, iv 32, iv 0, iv sh, un, un, un, un] [(.int (0 : Int32)), (.int (1 : Int32))] _
      refine XS.iloadN X12.here hx rfl (hb hby d4_24) rfl ?_
      show oS p e below T12 m 25 #[rv a0, iv 32, iv 0, iv sh, un, un, un, un] [(.int sh), (.int (0 : Int32)), (.int (1 : Int32))] _
      refine XS.iloadN X12.here hx rfl (hb hby d4_25) rfl ?_
      show oS p e below T12 m 26 #[rv a0, iv 32, iv 0, iv sh, un, un, un, un] [(.int (32 : Int32)), (.int sh), (.int (0 : Int32)), (.int (1 : Int32))] _
      refine XS.iadd X12.here hx rfl (hb hby d4_26) rfl ?_
      show oS p e below T12 m 27 #[rv a0, iv 32, iv 0, iv sh, un, un, un, un] [(.int (sh + (32 : Int32))), (.int (0 : Int32)), (.int (1 : Int32))] _
      refine XS.bipush X12.here hx rfl (hb hby d4_27) ?_
      show oS p e below T12 m 29 #[rv a0, iv 32, iv 0, iv sh, un, un, un, un] [(.int (7 : Int32)), (.int (sh + (32 : Int32))), (.int (0 : Int32)), (.int (1 : Int32))] _
      refine XS.iadd X12.here hx rfl (hb hby d4_29) rfl ?_
      show oS p e below T12 m 30 #[rv a0, iv 32, iv 0, iv sh, un, un, un, un] [(.int ((sh + (32 : Int32)) + (7 : Int32))), (.int (0 : Int32)), (.int (1 : Int32))] _
      refine XS.bipush X12.here hx rfl (hb hby d4_30) ?_
      show oS p e below T12 m 32 #[rv a0, iv 32, iv 0, iv sh, un, un, un, un] [(.int (8 : Int32)), (.int ((sh + (32 : Int32)) + (7 : Int32))), (.int (0 : Int32)), (.int (1 : Int32))] _
      refine XS.idiv X12.here hx rfl (hb hby d4_32) rfl (by decide) ?_
      show oS p e below T12 m 33 #[rv a0, iv 32, iv 0, iv sh, un, un, un, un] [(.int (((sh + (32 : Int32)) + (7 : Int32)) / (8 : Int32))), (.int (0 : Int32)), (.int (1 : Int32))] _
      refine XS.iadd X12.here hx rfl (hb hby d4_33) rfl ?_
      exact kt)
    clear pre13
    obtain ⟨_, _, ⟨T16, L16, k16, n16⟩, -, X16, ⟨Lc16, hQ16, l16, y16, z16⟩, st16⟩ := Jvm.LawKit.callS X12 hx (y := (⟨"java/lang/Math", "min", "(II)I"⟩ : MethodName)) hown (mvT hZ (hw _ (List.mem_of_getElem? (i := 33) rfl))) (mvT hZ (hw _ (List.mem_of_getElem? (i := 34) rfl))) (mvT hZ (hw _ (List.mem_of_getElem? (i := 35) rfl))) (mvT hZ (hw _ (List.mem_of_getElem? (i := 36) rfl))) (by decide) (backOf (W := 0) (rm5 l Z av hw [] (1 : Int32) ((0 : Int32) + (((sh + (32 : Int32)) + (7 : Int32)) / (8 : Int32)))  h0 n0 Z0 ) hZ (hw _ (List.mem_of_getElem? (i := 36) rfl)) (hw _ (List.mem_of_getElem? (i := 35) rfl)) (by decide) (by decide)) (g := (mkF m 34 #[rv a0, iv 32, iv 0, iv sh, un, un, un, un] [(.int ((0 : Int32) + (((sh + (32 : Int32)) + (7 : Int32)) / (8 : Int32)))), (.int (1 : Int32))])) rfl (by rw [hml]; rfl) (argsL := [(.int (1 : Int32)), (.int ((0 : Int32) + (((sh + (32 : Int32)) + (7 : Int32)) / (8 : Int32))))]) (rest := []) (lenOf pd__II_I rfl) rfl (by show 2 * 0 + _ ≤ _; exact Nat.le_of_eq rfl) (hb hby d4_34) (fun _ _ => ⟨rfl, e12, (by decide : 0 + 0 ≤ _), (by decide : 0 + 0 ≤ _)⟩)
    dsimp only [Pt.U, Pt.locs, Pt.cells, Pt.slots] at X16 l16 y16 z16 st16 hQ16
    rw [l16, y16, z16] at X16
    clear l16 y16 z16
    obtain ⟨rfl, N16q, e16⟩ := hQ16
    have N16 := Fr.app N0 N16q
    have pre17 : ∀ t, oS p e below T16 m 37 #[rv a0, iv 32, iv 0, iv sh, un, un, un, un] [(.int (f_min (1 : Int32) ((0 : Int32) + (((sh + (32 : Int32)) + (7 : Int32)) / (8 : Int32)))))] t → oE p e below s₁ m #[(.ref a0), (.int (32 : Int32))] 8 t := fun t kt => pre15 t (st16 _ kt)
    clear pre15 st16
    have pre18 : ∀ t, oS p e below T16 m 39 #[rv a0, iv 32, iv 0, iv sh, iv (f_min (1 : Int32) ((0 : Int32) + (((sh + (32 : Int32)) + (7 : Int32)) / (8 : Int32)))), un, un, un] [] t → oE p e below s₁ m #[(.ref a0), (.int (32 : Int32))] 8 t := fun t kt => pre17 t (by
      show oS p e below T16 m 37 #[rv a0, iv 32, iv 0, iv sh, un, un, un, un] [(.int (f_min (1 : Int32) ((0 : Int32) + (((sh + (32 : Int32)) + (7 : Int32)) / (8 : Int32)))))] _
      refine XS.istore X16.here hx rfl (hb hby d4_37) rfl (l' := #[rv a0, iv 32, iv 0, iv sh, iv (f_min (1 : Int32) ((0 : Int32) + (((sh + (32 : Int32)) + (7 : Int32)) / (8 : Int32)))), un, un, un]) rfl ?_
      exact kt)
    clear pre17
    obtain ⟨en, hm19, pre19⟩ : ∃ (en : Int32), (en = (1 : Int32)) ∧ ∀ t, oS p e below T16 m 39 #[rv a0, iv 32, iv 0, iv sh, iv en, un, un, un] [] t → oE p e below s₁ m #[(.ref a0), (.int (32 : Int32))] 8 t := ⟨(f_min (1 : Int32) ((0 : Int32) + (((sh + (32 : Int32)) + (7 : Int32)) / (8 : Int32)))), own_enG (1 : Int32) (0 : Int32) sh (by decide) (by decide) hm10, pre18⟩
    clear pre18
    subst hm19
    have pre20 : ∀ t, oS p e below T16 m 55 #[rv a0, iv 32, iv 0, iv sh, iv 1, jv 0, sn, iv 0] [(.ref a0), (.long (0 : Int64))] t → oE p e below s₁ m #[(.ref a0), (.int (32 : Int32))] 8 t := fun t kt => pre19 t (by
      show oS p e below T16 m 39 #[rv a0, iv 32, iv 0, iv sh, iv 1, un, un, un] [] _
      refine XS.lconst X16.here hx rfl (hb hby d4_39) ?_
      show oS p e below T16 m 40 #[rv a0, iv 32, iv 0, iv sh, iv 1, un, un, un] [(.long (0 : Int64))] _
      refine XS.lstore X16.here hx rfl (hb hby d4_40) rfl (l' := #[rv a0, iv 32, iv 0, iv sh, iv 1, jv 0, sn, un]) rfl ?_
      show oS p e below T16 m 42 #[rv a0, iv 32, iv 0, iv sh, iv 1, jv 0, sn, un] [] _
      refine XS.iloadN X16.here hx rfl (hb hby d4_42) rfl ?_
      show oS p e below T16 m 43 #[rv a0, iv 32, iv 0, iv sh, iv 1, jv 0, sn, un] [(.int (0 : Int32))] _
      refine XS.istore X16.here hx rfl (hb hby d4_43) rfl (l' := #[rv a0, iv 32, iv 0, iv sh, iv 1, jv 0, sn, iv 0]) rfl ?_
      show oS p e below T16 m 45 #[rv a0, iv 32, iv 0, iv sh, iv 1, jv 0, sn, iv 0] [] _
      refine XS.iload X16.here hx rfl (hb hby d4_45) rfl ?_
      show oS p e below T16 m 47 #[rv a0, iv 32, iv 0, iv sh, iv 1, jv 0, sn, iv 0] [(.int (0 : Int32))] _
      refine XS.iload X16.here hx rfl (hb hby d4_47) rfl ?_
      show oS p e below T16 m 49 #[rv a0, iv 32, iv 0, iv sh, iv 1, jv 0, sn, iv 0] [(.int (1 : Int32)), (.int (0 : Int32))] _
      refine XS.icmpNo X16.here hx rfl (hb hby d4_49) rfl (tlt (by decide : (0 : Int32) < (1 : Int32))).2.1 ?_
      show oS p e below T16 m 52 #[rv a0, iv 32, iv 0, iv sh, iv 1, jv 0, sn, iv 0] [] _
      refine XS.lload X16.here hx rfl (hb hby d4_52) rfl ?_
      show oS p e below T16 m 54 #[rv a0, iv 32, iv 0, iv sh, iv 1, jv 0, sn, iv 0] [(.long (0 : Int64))] _
      refine XS.aloadN X16.here hx rfl (hb hby d4_54) rfl rfl ?_
      exact kt)
    clear pre19
    obtain ⟨T21, X21, e21, st21⟩ := getF X16 hx hZ hown (host := "") (Or.inl (hw _ (List.mem_of_getElem? (i := 13) rfl))) Via.refl e16 I_data (g := (mkF m 55 #[rv a0, iv 32, iv 0, iv sh, iv 1, jv 0, sn, iv 0] [(.ref a0), (.long (0 : Int64))])) rfl rfl (hb hby d4_55)
    have pre22 : ∀ t, oS p e below T21 m 58 #[rv a0, iv 32, iv 0, iv sh, iv 1, jv 0, sn, iv 0] [(.ref ab), (.long (0 : Int64))] t → oE p e below s₁ m #[(.ref a0), (.int (32 : Int32))] 8 t := fun t kt => pre20 t (st21 _ kt)
    clear pre20 st21
    have pre23 : ∀ t, oS p e below T21 m 60 #[rv a0, iv 32, iv 0, iv sh, iv 1, jv 0, sn, iv 0] [(.int (0 : Int32)), (.ref ab), (.long (0 : Int64))] t → oE p e below s₁ m #[(.ref a0), (.int (32 : Int32))] 8 t := fun t kt => pre22 t (by
      show oS p e below T21 m 58 #[rv a0, iv 32, iv 0, iv sh, iv 1, jv 0, sn, iv 0] [(.ref ab), (.long (0 : Int64))] _
      refine XS.iload X21.here hx rfl (hb hby d4_58) rfl ?_
      exact kt)
    clear pre22
    have tv24 := V1
    obtain ⟨cl24, Ar24, q24, S24, Ng24, H24, G24⟩ := tv24
    have hin24 : ¬ ((0 : Int32) < 0 ∨ cl24.slots.size ≤ ((0 : Int32)).toNatClampNeg) := inb_of S24 ⟨by decide, by decide⟩
    have hat24 : cl24.slots[((0 : Int32)).toNatClampNeg]? = some (.int b0) := Has.at H24 hin24 rfl
    have pre25 : ∀ t, oS p e below T21 m 77 #[rv a0, iv 32, iv 0, iv sh, iv 1, jv ((0 : Int64) ||| (((b0.toInt64) &&& (255 : Int64)) <<< ((0 : Int32) &&& 0x3f).toInt64)), sn, iv 0] [] t → oE p e below s₁ m #[(.ref a0), (.int (32 : Int32))] 8 t := fun t kt => pre23 t (by
      show oS p e below T21 m 60 #[rv a0, iv 32, iv 0, iv sh, iv 1, jv 0, sn, iv 0] [(.int (0 : Int32)), (.ref ab), (.long (0 : Int64))] _
      refine X21.baloadBytes hx (j := (0 : Int32)) (v := (.int b0)) (by rw [e21]; exact Ar24.1) (State.isArrayOf_alike hZ.alike Ar24.2.1) Ar24.2.2 hin24 hat24 (g := (mkF m 60 #[rv a0, iv 32, iv 0, iv sh, iv 1, jv 0, sn, iv 0] [(.int (0 : Int32)), (.ref ab), (.long (0 : Int64))])) rfl rfl (hb hby d4_60) _ ?_
      show oS p e below T21 m 61 #[rv a0, iv 32, iv 0, iv sh, iv 1, jv 0, sn, iv 0] [(.int b0), (.long (0 : Int64))] _
      refine XS.i2l X21.here hx rfl (hb hby d4_61) rfl ?_
      show oS p e below T21 m 62 #[rv a0, iv 32, iv 0, iv sh, iv 1, jv 0, sn, iv 0] [(.long (b0.toInt64)), (.long (0 : Int64))] _
      refine X21.ldc2Long hx hown (mvT hZ (hw _ (List.mem_of_getElem? (i := 42) rfl))) (g := (mkF m 62 #[rv a0, iv 32, iv 0, iv sh, iv 1, jv 0, sn, iv 0] [(.long (b0.toInt64)), (.long (0 : Int64))])) rfl (hb hby d4_62) _ ?_
      show oS p e below T21 m 65 #[rv a0, iv 32, iv 0, iv sh, iv 1, jv 0, sn, iv 0] [(.long (255 : Int64)), (.long (b0.toInt64)), (.long (0 : Int64))] _
      refine XS.land X21.here hx rfl (hb hby d4_65) rfl ?_
      show oS p e below T21 m 66 #[rv a0, iv 32, iv 0, iv sh, iv 1, jv 0, sn, iv 0] [(.long ((b0.toInt64) &&& (255 : Int64))), (.long (0 : Int64))] _
      refine XS.bipush X21.here hx rfl (hb hby d4_66) ?_
      show oS p e below T21 m 68 #[rv a0, iv 32, iv 0, iv sh, iv 1, jv 0, sn, iv 0] [(.int (8 : Int32)), (.long ((b0.toInt64) &&& (255 : Int64))), (.long (0 : Int64))] _
      refine XS.iload X21.here hx rfl (hb hby d4_68) rfl ?_
      show oS p e below T21 m 70 #[rv a0, iv 32, iv 0, iv sh, iv 1, jv 0, sn, iv 0] [(.int (0 : Int32)), (.int (8 : Int32)), (.long ((b0.toInt64) &&& (255 : Int64))), (.long (0 : Int64))] _
      refine XS.iloadN X21.here hx rfl (hb hby d4_70) rfl ?_
      show oS p e below T21 m 71 #[rv a0, iv 32, iv 0, iv sh, iv 1, jv 0, sn, iv 0] [(.int (0 : Int32)), (.int (0 : Int32)), (.int (8 : Int32)), (.long ((b0.toInt64) &&& (255 : Int64))), (.long (0 : Int64))] _
      refine XS.isub X21.here hx rfl (hb hby d4_71) rfl ?_
      show oS p e below T21 m 72 #[rv a0, iv 32, iv 0, iv sh, iv 1, jv 0, sn, iv 0] [(.int (0 : Int32)), (.int (8 : Int32)), (.long ((b0.toInt64) &&& (255 : Int64))), (.long (0 : Int64))] _
      refine XS.imul X21.here hx rfl (hb hby d4_72) rfl ?_
      show oS p e below T21 m 73 #[rv a0, iv 32, iv 0, iv sh, iv 1, jv 0, sn, iv 0] [(.int (0 : Int32)), (.long ((b0.toInt64) &&& (255 : Int64))), (.long (0 : Int64))] _
      refine XS.lshl X21.here hx rfl (hb hby d4_73) rfl ?_
      show oS p e below T21 m 74 #[rv a0, iv 32, iv 0, iv sh, iv 1, jv 0, sn, iv 0] [(.long (((b0.toInt64) &&& (255 : Int64)) <<< ((0 : Int32) &&& 0x3f).toInt64)), (.long (0 : Int64))] _
      refine XS.lor X21.here hx rfl (hb hby d4_74) rfl ?_
      show oS p e below T21 m 75 #[rv a0, iv 32, iv 0, iv sh, iv 1, jv 0, sn, iv 0] [(.long ((0 : Int64) ||| (((b0.toInt64) &&& (255 : Int64)) <<< ((0 : Int32) &&& 0x3f).toInt64)))] _
      refine XS.lstore X21.here hx rfl (hb hby d4_75) rfl (l' := #[rv a0, iv 32, iv 0, iv sh, iv 1, jv ((0 : Int64) ||| (((b0.toInt64) &&& (255 : Int64)) <<< ((0 : Int32) &&& 0x3f).toInt64)), sn, iv 0]) rfl ?_
      exact kt)
    clear pre23
    obtain ⟨ac0, hm26, pre26⟩ : ∃ (ac0 : Int64), (ac0.toInt = 1 * (b0.toInt % 256)) ∧ ∀ t, oS p e below T21 m 77 #[rv a0, iv 32, iv 0, iv sh, iv 1, jv ac0, sn, iv 0] [] t → oE p e below s₁ m #[(.ref a0), (.int (32 : Int32))] 8 t := ⟨((0 : Int64) ||| (((b0.toInt64) &&& (255 : Int64)) <<< ((0 : Int32) &&& 0x3f).toInt64)), own_ac0 b0, pre25⟩
    clear pre25
    have pre27 : ∀ t, oS p e below T21 m 94 #[rv a0, iv 32, iv 0, iv sh, iv 1, jv ac0, sn, iv 1] [(.int ((((ac0.toUInt64 >>> (sh &&& 0x3f).toInt64.toUInt64).toInt64) &&& (((1 : Int64) <<< ((32 : Int32) &&& 0x3f).toInt64) - (1 : Int64))).toInt32))] t → oE p e below s₁ m #[(.ref a0), (.int (32 : Int32))] 8 t := fun t kt => pre26 t (by
      show oS p e below T21 m 77 #[rv a0, iv 32, iv 0, iv sh, iv 1, jv ac0, sn, iv 0] [] _
      refine XS.iinc X21.here hx rfl (hb hby d4_77) rfl (l' := #[rv a0, iv 32, iv 0, iv sh, iv 1, jv ac0, sn, iv 1]) rfl ?_
      show oS p e below T21 m 80 #[rv a0, iv 32, iv 0, iv sh, iv 1, jv ac0, sn, iv 1] [] _
      refine XS.goto X21.here hx rfl (pc0 := 80) (pc' := 45) rfl (hb hby d4_80) (by decide) (by decide) ?_
      show oS p e below T21 m 45 #[rv a0, iv 32, iv 0, iv sh, iv 1, jv ac0, sn, iv 1] [] _
      refine XS.iload X21.here hx rfl (hb hby d4_45) rfl ?_
      show oS p e below T21 m 47 #[rv a0, iv 32, iv 0, iv sh, iv 1, jv ac0, sn, iv 1] [(.int (1 : Int32))] _
      refine XS.iload X21.here hx rfl (hb hby d4_47) rfl ?_
      show oS p e below T21 m 49 #[rv a0, iv 32, iv 0, iv sh, iv 1, jv ac0, sn, iv 1] [(.int (1 : Int32)), (.int (1 : Int32))] _
      refine XS.icmpYes X21.here hx rfl (pc0 := 49) (pc' := 83) rfl (hb hby d4_49) rfl (flt (by decide : ¬ ((1 : Int32) < (1 : Int32)))).2.1 (by decide) (by decide) ?_
      show oS p e below T21 m 83 #[rv a0, iv 32, iv 0, iv sh, iv 1, jv ac0, sn, iv 1] [] _
      refine XS.lload X21.here hx rfl (hb hby d4_83) rfl ?_
      show oS p e below T21 m 85 #[rv a0, iv 32, iv 0, iv sh, iv 1, jv ac0, sn, iv 1] [(.long ac0)] _
      refine XS.iloadN X21.here hx rfl (hb hby d4_85) rfl ?_
      show oS p e below T21 m 86 #[rv a0, iv 32, iv 0, iv sh, iv 1, jv ac0, sn, iv 1] [(.int sh), (.long ac0)] _
      refine XS.lushr X21.here hx rfl (hb hby d4_86) rfl ?_
      show oS p e below T21 m 87 #[rv a0, iv 32, iv 0, iv sh, iv 1, jv ac0, sn, iv 1] [(.long ((ac0.toUInt64 >>> (sh &&& 0x3f).toInt64.toUInt64).toInt64))] _
      refine XS.lconst X21.here hx rfl (hb hby d4_87) ?_
      show oS p e below T21 m 88 #[rv a0, iv 32, iv 0, iv sh, iv 1, jv ac0, sn, iv 1] [(.long (1 : Int64)), (.long ((ac0.toUInt64 >>> (sh &&& 0x3f).toInt64.toUInt64).toInt64))] _
      refine XS.iloadN X21.here hx rfl (hb hby d4_88) rfl ?_
      show oS p e below T21 m 89 #[rv a0, iv 32, iv 0, iv sh, iv 1, jv ac0, sn, iv 1] [(.int (32 : Int32)), (.long (1 : Int64)), (.long ((ac0.toUInt64 >>> (sh &&& 0x3f).toInt64.toUInt64).toInt64))] _
      refine XS.lshl X21.here hx rfl (hb hby d4_89) rfl ?_
      show oS p e below T21 m 90 #[rv a0, iv 32, iv 0, iv sh, iv 1, jv ac0, sn, iv 1] [(.long ((1 : Int64) <<< ((32 : Int32) &&& 0x3f).toInt64)), (.long ((ac0.toUInt64 >>> (sh &&& 0x3f).toInt64.toUInt64).toInt64))] _
      refine XS.lconst X21.here hx rfl (hb hby d4_90) ?_
      show oS p e below T21 m 91 #[rv a0, iv 32, iv 0, iv sh, iv 1, jv ac0, sn, iv 1] [(.long (1 : Int64)), (.long ((1 : Int64) <<< ((32 : Int32) &&& 0x3f).toInt64)), (.long ((ac0.toUInt64 >>> (sh &&& 0x3f).toInt64.toUInt64).toInt64))] _
      refine XS.lsub X21.here hx rfl (hb hby d4_91) rfl ?_
      show oS p e below T21 m 92 #[rv a0, iv 32, iv 0, iv sh, iv 1, jv ac0, sn, iv 1] [(.long (((1 : Int64) <<< ((32 : Int32) &&& 0x3f).toInt64) - (1 : Int64))), (.long ((ac0.toUInt64 >>> (sh &&& 0x3f).toInt64.toUInt64).toInt64))] _
      refine XS.land X21.here hx rfl (hb hby d4_92) rfl ?_
      show oS p e below T21 m 93 #[rv a0, iv 32, iv 0, iv sh, iv 1, jv ac0, sn, iv 1] [(.long (((ac0.toUInt64 >>> (sh &&& 0x3f).toInt64.toUInt64).toInt64) &&& (((1 : Int64) <<< ((32 : Int32) &&& 0x3f).toInt64) - (1 : Int64))))] _
      refine XS.l2i X21.here hx rfl (hb hby d4_93) rfl ?_
      exact kt)
    clear pre26
    have hr0 : ((((ac0.toUInt64 >>> (sh &&& 0x3f).toInt64.toUInt64).toInt64) &&& (((1 : Int64) <<< ((32 : Int32) &&& 0x3f).toInt64) - (1 : Int64))).toInt32) = Int32.ofInt ((1 * (b0.toInt % 256)) / 2 ^ ps.toInt.toNat) := own_fin ac0 sh ps (1 * (b0.toInt % 256)) 0 1 (by decide) hps.1 hk0 hm10 (by omega) (by have q := hm26; omega)
    rw [hr0] at pre27
    obtain ⟨fs, hr, hrun, hended, hW, hsame⟩ := X21.leave (v := some (.int (Int32.ofInt ((1 * (b0.toInt % 256)) / 2 ^ ps.toInt.toNat)))) (fun h => by rw [Bd.returns] at h; cases h)
    refine ⟨_, _, pre27 _ ?_, hrun, hended, _, _, rfl, ?_, ⟨_, rfl⟩, hW, hsame.mono (by decide) (by decide)⟩
    · show oS p e below T21 m 94 #[rv a0, iv 32, iv 0, iv sh, iv 1, jv ac0, sn, iv 1] [(.int (Int32.ofInt ((1 * (b0.toInt % 256)) / 2 ^ ps.toInt.toNat)))] _
      exact retI X21 hx Bd.returns (hb hby d4_94) hr
    · show Q4p1 Z a0 ab sz ps ed kb b0 h0 n0 _ T21.heap _
      rw [e21]
      exact ⟨rfl, N16, rfl⟩
  · have hk1 : ps.toInt / 8 = 1 := hk0.trans (by decide)
    have pre28 : ∀ t, oS p e below T2 m 9 #[rv a0, iv 32, iv 1, un, un, un, un, un] [(.ref a0)] t → oE p e below s₁ m #[(.ref a0), (.int (32 : Int32))] 8 t := fun t kt => pre5 t (by
      show oS p e below T2 m 8 #[rv a0, iv 32, iv 1, un, un, un, un, un] [] _
      refine XS.aloadN X2.here hx rfl (hb hby d4_8) rfl rfl ?_
      exact kt)
    clear pre5
    obtain ⟨T29, X29, e29, st29⟩ := getF X2 hx hZ hown (host := "") (Or.inl (hw _ (List.mem_of_getElem? (i := 23) rfl))) Via.refl e2 I_position (g := (mkF m 9 #[rv a0, iv 32, iv 1, un, un, un, un, un] [(.ref a0)])) rfl rfl (hb hby d4_9)
    have pre30 : ∀ t, oS p e below T29 m 12 #[rv a0, iv 32, iv 1, un, un, un, un, un] [(.long ps)] t → oE p e below s₁ m #[(.ref a0), (.int (32 : Int32))] 8 t := fun t kt => pre28 t (st29 _ kt)
    clear pre28 st29
    have pre31 : ∀ t, oS p e below T29 m 18 #[rv a0, iv 32, iv 1, iv ((ps &&& (7 : Int64)).toInt32), un, un, un, un] [] t → oE p e below s₁ m #[(.ref a0), (.int (32 : Int32))] 8 t := fun t kt => pre30 t (by
      show oS p e below T29 m 12 #[rv a0, iv 32, iv 1, un, un, un, un, un] [(.long ps)] _
      refine X29.ldc2Long hx hown (mvT hZ (hw _ (List.mem_of_getElem? (i := 32) rfl))) (g := (mkF m 12 #[rv a0, iv 32, iv 1, un, un, un, un, un] [(.long ps)])) rfl (hb hby d4_12) _ ?_
      show oS p e below T29 m 15 #[rv a0, iv 32, iv 1, un, un, un, un, un] [(.long (7 : Int64)), (.long ps)] _
      refine XS.land X29.here hx rfl (hb hby d4_15) rfl ?_
      show oS p e below T29 m 16 #[rv a0, iv 32, iv 1, un, un, un, un, un] [(.long (ps &&& (7 : Int64)))] _
      refine XS.l2i X29.here hx rfl (hb hby d4_16) rfl ?_
      show oS p e below T29 m 17 #[rv a0, iv 32, iv 1, un, un, un, un, un] [(.int ((ps &&& (7 : Int64)).toInt32))] _
      refine XS.istoreN X29.here hx rfl (hb hby d4_17) rfl (l' := #[rv a0, iv 32, iv 1, iv ((ps &&& (7 : Int64)).toInt32), un, un, un, un]) rfl ?_
      exact kt)
    clear pre30
    obtain ⟨sh, hm32, pre32⟩ : ∃ (sh : Int32), (sh.toInt = ps.toInt % 8) ∧ ∀ t, oS p e below T29 m 18 #[rv a0, iv 32, iv 1, iv sh, un, un, un, un] [] t → oE p e below s₁ m #[(.ref a0), (.int (32 : Int32))] 8 t := ⟨((ps &&& (7 : Int64)).toInt32), own_sh ps hps, pre31⟩
    clear pre31
    have pre33 : ∀ t, oS p e below T29 m 19 #[rv a0, iv 32, iv 1, iv sh, un, un, un, un] [(.ref a0)] t → oE p e below s₁ m #[(.ref a0), (.int (32 : Int32))] 8 t := fun t kt => pre32 t (by
      show oS p e below T29 m 18 #[rv a0, iv 32, iv 1, iv sh, un, un, un, un] [] _
      refine XS.aloadN X29.here hx rfl (hb hby d4_18) rfl rfl ?_
      exact kt)
    clear pre32
    obtain ⟨T34, X34, e34, st34⟩ := getF X29 hx hZ hown (host := "") (Or.inl (hw _ (List.mem_of_getElem? (i := 13) rfl))) Via.refl e29 I_data (g := (mkF m 19 #[rv a0, iv 32, iv 1, iv sh, un, un, un, un] [(.ref a0)])) rfl rfl (hb hby d4_19)
    have pre35 : ∀ t, oS p e below T34 m 22 #[rv a0, iv 32, iv 1, iv sh, un, un, un, un] [(.ref ab)] t → oE p e below s₁ m #[(.ref a0), (.int (32 : Int32))] 8 t := fun t kt => pre33 t (st34 _ kt)
    clear pre33 st34
    have tv36 := V1
    obtain ⟨cl36, Ar36, q36, S36, Ng36, H36, G36⟩ := tv36
    have pre37 : ∀ t, oS p e below T34 m 34 #[rv a0, iv 32, iv 1, iv sh, un, un, un, un] [(.int ((1 : Int32) + (((sh + (32 : Int32)) + (7 : Int32)) / (8 : Int32)))), (.int (1 : Int32))] t → oE p e below s₁ m #[(.ref a0), (.int (32 : Int32))] 8 t := fun t kt => pre35 t (by
      show oS p e below T34 m 22 #[rv a0, iv 32, iv 1, iv sh, un, un, un, un] [(.ref ab)] _
      refine X34.arraylength hx (by rw [e34]; exact Ar36.1) (State.isArrayOf_alike hZ.alike Ar36.2.1) (g := (mkF m 22 #[rv a0, iv 32, iv 1, iv sh, un, un, un, un] [(.ref ab)])) rfl rfl (hb hby d4_22) _ ?_
      rw [len_of S36 Ng36]
      show oS p e below T34 m 23 #[rv a0, iv 32, iv 1, iv sh, un, un, un, un] [(.int (1 : Int32))] _
      refine XS.iloadN X34.here hx rfl (hb hby d4_23) rfl ?_
      show oS p e below T34 m 24 #[rv a0, iv 32, iv 1, iv sh, un, un, un, un] [(.int (1 : Int32)), (.int (1 : Int32))] _
      refine XS.iloadN X34.here hx rfl (hb hby d4_24) rfl ?_
      show oS p e below T34 m 25 #[rv a0, iv 32, iv 1, iv sh, un, un, un, un] [(.int sh), (.int (1 : Int32)), (.int (1 : Int32))] _
      refine XS.iloadN X34.here hx rfl (hb hby d4_25) rfl ?_
      show oS p e below T34 m 26 #[rv a0, iv 32, iv 1, iv sh, un, un, un, un] [(.int (32 : Int32)), (.int sh), (.int (1 : Int32)), (.int (1 : Int32))] _
      refine XS.iadd X34.here hx rfl (hb hby d4_26) rfl ?_
      show oS p e below T34 m 27 #[rv a0, iv 32, iv 1, iv sh, un, un, un, un] [(.int (sh + (32 : Int32))), (.int (1 : Int32)), (.int (1 : Int32))] _
      refine XS.bipush X34.here hx rfl (hb hby d4_27) ?_
      show oS p e below T34 m 29 #[rv a0, iv 32, iv 1, iv sh, un, un, un, un] [(.int (7 : Int32)), (.int (sh + (32 : Int32))), (.int (1 : Int32)), (.int (1 : Int32))] _
      refine XS.iadd X34.here hx rfl (hb hby d4_29) rfl ?_
      show oS p e below T34 m 30 #[rv a0, iv 32, iv 1, iv sh, un, un, un, un] [(.int ((sh + (32 : Int32)) + (7 : Int32))), (.int (1 : Int32)), (.int (1 : Int32))] _
      refine XS.bipush X34.here hx rfl (hb hby d4_30) ?_
      show oS p e below T34 m 32 #[rv a0, iv 32, iv 1, iv sh, un, un, un, un] [(.int (8 : Int32)), (.int ((sh + (32 : Int32)) + (7 : Int32))), (.int (1 : Int32)), (.int (1 : Int32))] _
      refine XS.idiv X34.here hx rfl (hb hby d4_32) rfl (by decide) ?_
      show oS p e below T34 m 33 #[rv a0, iv 32, iv 1, iv sh, un, un, un, un] [(.int (((sh + (32 : Int32)) + (7 : Int32)) / (8 : Int32))), (.int (1 : Int32)), (.int (1 : Int32))] _
      refine XS.iadd X34.here hx rfl (hb hby d4_33) rfl ?_
      exact kt)
    clear pre35
    obtain ⟨_, _, ⟨T38, L38, k38, n38⟩, -, X38, ⟨Lc38, hQ38, l38, y38, z38⟩, st38⟩ := Jvm.LawKit.callS X34 hx (y := (⟨"java/lang/Math", "min", "(II)I"⟩ : MethodName)) hown (mvT hZ (hw _ (List.mem_of_getElem? (i := 33) rfl))) (mvT hZ (hw _ (List.mem_of_getElem? (i := 34) rfl))) (mvT hZ (hw _ (List.mem_of_getElem? (i := 35) rfl))) (mvT hZ (hw _ (List.mem_of_getElem? (i := 36) rfl))) (by decide) (backOf (W := 0) (rm5 l Z av hw [] (1 : Int32) ((1 : Int32) + (((sh + (32 : Int32)) + (7 : Int32)) / (8 : Int32)))  h0 n0 Z0 ) hZ (hw _ (List.mem_of_getElem? (i := 36) rfl)) (hw _ (List.mem_of_getElem? (i := 35) rfl)) (by decide) (by decide)) (g := (mkF m 34 #[rv a0, iv 32, iv 1, iv sh, un, un, un, un] [(.int ((1 : Int32) + (((sh + (32 : Int32)) + (7 : Int32)) / (8 : Int32)))), (.int (1 : Int32))])) rfl (by rw [hml]; rfl) (argsL := [(.int (1 : Int32)), (.int ((1 : Int32) + (((sh + (32 : Int32)) + (7 : Int32)) / (8 : Int32))))]) (rest := []) (lenOf pd__II_I rfl) rfl (by show 2 * 0 + _ ≤ _; exact Nat.le_of_eq rfl) (hb hby d4_34) (fun _ _ => ⟨rfl, e34, (by decide : 0 + 0 ≤ _), (by decide : 0 + 0 ≤ _)⟩)
    dsimp only [Pt.U, Pt.locs, Pt.cells, Pt.slots] at X38 l38 y38 z38 st38 hQ38
    rw [l38, y38, z38] at X38
    clear l38 y38 z38
    obtain ⟨rfl, N38q, e38⟩ := hQ38
    have N38 := Fr.app N0 N38q
    have pre39 : ∀ t, oS p e below T38 m 37 #[rv a0, iv 32, iv 1, iv sh, un, un, un, un] [(.int (f_min (1 : Int32) ((1 : Int32) + (((sh + (32 : Int32)) + (7 : Int32)) / (8 : Int32)))))] t → oE p e below s₁ m #[(.ref a0), (.int (32 : Int32))] 8 t := fun t kt => pre37 t (st38 _ kt)
    clear pre37 st38
    have pre40 : ∀ t, oS p e below T38 m 39 #[rv a0, iv 32, iv 1, iv sh, iv (f_min (1 : Int32) ((1 : Int32) + (((sh + (32 : Int32)) + (7 : Int32)) / (8 : Int32)))), un, un, un] [] t → oE p e below s₁ m #[(.ref a0), (.int (32 : Int32))] 8 t := fun t kt => pre39 t (by
      show oS p e below T38 m 37 #[rv a0, iv 32, iv 1, iv sh, un, un, un, un] [(.int (f_min (1 : Int32) ((1 : Int32) + (((sh + (32 : Int32)) + (7 : Int32)) / (8 : Int32)))))] _
      refine XS.istore X38.here hx rfl (hb hby d4_37) rfl (l' := #[rv a0, iv 32, iv 1, iv sh, iv (f_min (1 : Int32) ((1 : Int32) + (((sh + (32 : Int32)) + (7 : Int32)) / (8 : Int32)))), un, un, un]) rfl ?_
      exact kt)
    clear pre39
    obtain ⟨en, hm41, pre41⟩ : ∃ (en : Int32), (en = (1 : Int32)) ∧ ∀ t, oS p e below T38 m 39 #[rv a0, iv 32, iv 1, iv sh, iv en, un, un, un] [] t → oE p e below s₁ m #[(.ref a0), (.int (32 : Int32))] 8 t := ⟨(f_min (1 : Int32) ((1 : Int32) + (((sh + (32 : Int32)) + (7 : Int32)) / (8 : Int32)))), own_enG (1 : Int32) (1 : Int32) sh (by decide) (by decide) hm32, pre40⟩
    clear pre40
    subst hm41
    have pre42 : ∀ t, oS p e below T38 m 94 #[rv a0, iv 32, iv 1, iv sh, iv 1, jv 0, sn, iv 1] [(.int (((((0 : Int64).toUInt64 >>> (sh &&& 0x3f).toInt64.toUInt64).toInt64) &&& (((1 : Int64) <<< ((32 : Int32) &&& 0x3f).toInt64) - (1 : Int64))).toInt32))] t → oE p e below s₁ m #[(.ref a0), (.int (32 : Int32))] 8 t := fun t kt => pre41 t (by
      show oS p e below T38 m 39 #[rv a0, iv 32, iv 1, iv sh, iv 1, un, un, un] [] _
      refine XS.lconst X38.here hx rfl (hb hby d4_39) ?_
      show oS p e below T38 m 40 #[rv a0, iv 32, iv 1, iv sh, iv 1, un, un, un] [(.long (0 : Int64))] _
      refine XS.lstore X38.here hx rfl (hb hby d4_40) rfl (l' := #[rv a0, iv 32, iv 1, iv sh, iv 1, jv 0, sn, un]) rfl ?_
      show oS p e below T38 m 42 #[rv a0, iv 32, iv 1, iv sh, iv 1, jv 0, sn, un] [] _
      refine XS.iloadN X38.here hx rfl (hb hby d4_42) rfl ?_
      show oS p e below T38 m 43 #[rv a0, iv 32, iv 1, iv sh, iv 1, jv 0, sn, un] [(.int (1 : Int32))] _
      refine XS.istore X38.here hx rfl (hb hby d4_43) rfl (l' := #[rv a0, iv 32, iv 1, iv sh, iv 1, jv 0, sn, iv 1]) rfl ?_
      show oS p e below T38 m 45 #[rv a0, iv 32, iv 1, iv sh, iv 1, jv 0, sn, iv 1] [] _
      refine XS.iload X38.here hx rfl (hb hby d4_45) rfl ?_
      show oS p e below T38 m 47 #[rv a0, iv 32, iv 1, iv sh, iv 1, jv 0, sn, iv 1] [(.int (1 : Int32))] _
      refine XS.iload X38.here hx rfl (hb hby d4_47) rfl ?_
      show oS p e below T38 m 49 #[rv a0, iv 32, iv 1, iv sh, iv 1, jv 0, sn, iv 1] [(.int (1 : Int32)), (.int (1 : Int32))] _
      refine XS.icmpYes X38.here hx rfl (pc0 := 49) (pc' := 83) rfl (hb hby d4_49) rfl (flt (by decide : ¬ ((1 : Int32) < (1 : Int32)))).2.1 (by decide) (by decide) ?_
      show oS p e below T38 m 83 #[rv a0, iv 32, iv 1, iv sh, iv 1, jv 0, sn, iv 1] [] _
      refine XS.lload X38.here hx rfl (hb hby d4_83) rfl ?_
      show oS p e below T38 m 85 #[rv a0, iv 32, iv 1, iv sh, iv 1, jv 0, sn, iv 1] [(.long (0 : Int64))] _
      refine XS.iloadN X38.here hx rfl (hb hby d4_85) rfl ?_
      show oS p e below T38 m 86 #[rv a0, iv 32, iv 1, iv sh, iv 1, jv 0, sn, iv 1] [(.int sh), (.long (0 : Int64))] _
      refine XS.lushr X38.here hx rfl (hb hby d4_86) rfl ?_
      show oS p e below T38 m 87 #[rv a0, iv 32, iv 1, iv sh, iv 1, jv 0, sn, iv 1] [(.long (((0 : Int64).toUInt64 >>> (sh &&& 0x3f).toInt64.toUInt64).toInt64))] _
      refine XS.lconst X38.here hx rfl (hb hby d4_87) ?_
      show oS p e below T38 m 88 #[rv a0, iv 32, iv 1, iv sh, iv 1, jv 0, sn, iv 1] [(.long (1 : Int64)), (.long (((0 : Int64).toUInt64 >>> (sh &&& 0x3f).toInt64.toUInt64).toInt64))] _
      refine XS.iloadN X38.here hx rfl (hb hby d4_88) rfl ?_
      show oS p e below T38 m 89 #[rv a0, iv 32, iv 1, iv sh, iv 1, jv 0, sn, iv 1] [(.int (32 : Int32)), (.long (1 : Int64)), (.long (((0 : Int64).toUInt64 >>> (sh &&& 0x3f).toInt64.toUInt64).toInt64))] _
      refine XS.lshl X38.here hx rfl (hb hby d4_89) rfl ?_
      show oS p e below T38 m 90 #[rv a0, iv 32, iv 1, iv sh, iv 1, jv 0, sn, iv 1] [(.long ((1 : Int64) <<< ((32 : Int32) &&& 0x3f).toInt64)), (.long (((0 : Int64).toUInt64 >>> (sh &&& 0x3f).toInt64.toUInt64).toInt64))] _
      refine XS.lconst X38.here hx rfl (hb hby d4_90) ?_
      show oS p e below T38 m 91 #[rv a0, iv 32, iv 1, iv sh, iv 1, jv 0, sn, iv 1] [(.long (1 : Int64)), (.long ((1 : Int64) <<< ((32 : Int32) &&& 0x3f).toInt64)), (.long (((0 : Int64).toUInt64 >>> (sh &&& 0x3f).toInt64.toUInt64).toInt64))] _
      refine XS.lsub X38.here hx rfl (hb hby d4_91) rfl ?_
      show oS p e below T38 m 92 #[rv a0, iv 32, iv 1, iv sh, iv 1, jv 0, sn, iv 1] [(.long (((1 : Int64) <<< ((32 : Int32) &&& 0x3f).toInt64) - (1 : Int64))), (.long (((0 : Int64).toUInt64 >>> (sh &&& 0x3f).toInt64.toUInt64).toInt64))] _
      refine XS.land X38.here hx rfl (hb hby d4_92) rfl ?_
      show oS p e below T38 m 93 #[rv a0, iv 32, iv 1, iv sh, iv 1, jv 0, sn, iv 1] [(.long ((((0 : Int64).toUInt64 >>> (sh &&& 0x3f).toInt64.toUInt64).toInt64) &&& (((1 : Int64) <<< ((32 : Int32) &&& 0x3f).toInt64) - (1 : Int64))))] _
      refine XS.l2i X38.here hx rfl (hb hby d4_93) rfl ?_
      exact kt)
    clear pre41
    have hr0 : (((((0 : Int64).toUInt64 >>> (sh &&& 0x3f).toInt64.toUInt64).toInt64) &&& (((1 : Int64) <<< ((32 : Int32) &&& 0x3f).toInt64) - (1 : Int64))).toInt32) = Int32.ofInt ((1 * (b0.toInt % 256)) / 2 ^ ps.toInt.toNat) := own_fin (0 : Int64) sh ps (1 * (b0.toInt % 256)) 1 256 (by decide) hps.1 hk1 hm32 (by omega) (by have q : (0 : Int64).toInt = 0 := (by decide); omega)
    rw [hr0] at pre42
    obtain ⟨fs, hr, hrun, hended, hW, hsame⟩ := X38.leave (v := some (.int (Int32.ofInt ((1 * (b0.toInt % 256)) / 2 ^ ps.toInt.toNat)))) (fun h => by rw [Bd.returns] at h; cases h)
    refine ⟨_, _, pre42 _ ?_, hrun, hended, _, _, rfl, ?_, ⟨_, rfl⟩, hW, hsame.mono (by decide) (by decide)⟩
    · show oS p e below T38 m 94 #[rv a0, iv 32, iv 1, iv sh, iv 1, jv 0, sn, iv 1] [(.int (Int32.ofInt ((1 * (b0.toInt % 256)) / 2 ^ ps.toInt.toNat)))] _
      exact retI X38 hx Bd.returns (hb hby d4_94) hr
    · show Q4p1 Z a0 ab sz ps ed kb b0 h0 n0 _ T38.heap _
      rw [e38]
      exact ⟨rfl, N38, rfl⟩
theorem ef4p2 (m : MethodId) (x0 : Addr) : entryFrame m #[(.ref x0), (.int (32 : Int32))] 8 = mkF m 0 #[rv x0, iv 32, un, un, un, un, un, un] [] := by first | (simp [entryFrame, mkF, argsToLocals, Value.category]; done) | rfl
def Q4p2 (Z : State) (a0 : Addr) (ab : Addr) (sz : Int64) (ps : Int64) (ed : Int32) (kb : ClassId) (b0 : Int32) (b1 : Int32) (h0 : Heap) (n0 : Nat) (v : Option Value) (h : Heap) (L : List Loc) : Prop := v = some (.int (Int32.ofInt ((1 * (b0.toInt % 256) + 256 * (b1.toInt % 256)) / 2 ^ ps.toInt.toNat))) ∧ Fr n0 L ∧ h = h0
set_option maxRecDepth 65536 in
set_option maxHeartbeats 40000000 in
theorem rm4p2 (l : Launch) (Z : State) (av : Array Value) (hw : ∀ d ∈ tables_1, d.before av Z = true) (ws : List Jvm.Cond) (a0 : Addr) (ab : Addr) (sz : Int64) (ps : Int64) (ed : Int32) (kb : ClassId) (b0 : Int32) (b1 : Int32) (h0 : Heap) (n0 : Nat) (Z0 : n0 ≤ h0.size) (E_a0 : Exa Z h0 a0 vB) (g_a0 : n0 ≤ a0) (I_data : Fld Z h0 a0 vB "data" "[B" (.ref ab)) (I_size : Fld Z h0 a0 vB "size" "J" (.long sz)) (I_position : Fld Z h0 a0 vB "position" "J" (.long ps)) (I_ended : Fld Z h0 a0 vB "ended" "Z" (.int ed)) (V1 : Arv Z h0 ab kb .byte (2 : Int32) [(.int b0), (.int b1)] (.int (0 : Int32))) (hps : 0 ≤ ps.toInt ∧ ps.toInt ≤ 16) :
    MetFree l (⟨vB, "peek", "(I)I"⟩ : MethodName) (head1 (Jvm.Cond.code (⟨vB, "peek", "(I)I"⟩ : MethodName) prog_89_method_5_code 8 (some .int) :: ws) ({ frames := 1, cells := 0, slots := 0, locals := 13 } : Room)) (fun a U => a = #[(.ref a0), (.int (32 : Int32))] ∧ Z.Warmed39 U.vm ∧ U.heap = h0) (fun _ _ _ _ _ => True) (fun _ U o U' => ∃ v L, o = .returned v ∧ Q4p2 Z a0 ab sz ps ed kb b0 b1 h0 n0 v U'.heap L ∧ FrameEnd U o U' L ({ frames := 1, cells := 0, slots := 0, locals := 13 } : Room).cells ({ frames := 1, cells := 0, slots := 0, locals := 13 } : Room).slots) := by
  refine MetFree.of_bodySF (plainFor_of_name pn_com_example_baton_baton_core_format_VorbisBits) hisR ?_
  intro p e s m args below meth c s₁ Bd hml0 hP hK
  obtain ⟨rfl, hZ, hh⟩ := hP
  have hx := Bd.exec
  have hby := Bd.bytes
  have hml : c.maxLocals = 8 := hml0
  have hown : s.vm.findClass vB = some m.cls := by have h := findClass_of_methodNamed Bd.named; exact h
  have hnm := (name_of_methodNamed Bd.named Bd.method).1
  have X0 : Stand p l e ({ frames := 1, cells := 0, slots := 0, locals := 13 } : Room) s m #[(.ref a0), (.int (32 : Int32))] below meth c s₁ [] 0 0 := Stand.of_body Bd
  have e0 : s₁.heap = h0 := by rw [← hh, Bd.state]; rfl
  have N0 := Fr.nil n0
  have K0 : Keep h0 h0 [] := Keep.refl h0 []
  have pre0 : ∀ t, Steps p.tables e below (s₁.setTop (mkF m 0 #[rv a0, iv 32, un, un, un, un, un, un] [])) t → Steps p.tables e below (s₁.setTop (entryFrame m #[(.ref a0), (.int (32 : Int32))] 8)) t := fun t k => castTop (ef4p2 m a0) k
  have pre1 : ∀ t, oS p e below s₁ m 1 #[rv a0, iv 32, un, un, un, un, un, un] [(.ref a0)] t → oE p e below s₁ m #[(.ref a0), (.int (32 : Int32))] 8 t := fun t kt => pre0 t (by
    show oS p e below s₁ m 0 #[rv a0, iv 32, un, un, un, un, un, un] [] _
    refine XS.aloadN X0.here hx rfl (hb hby d4_0) rfl rfl ?_
    exact kt)
  clear pre0
  obtain ⟨T2, X2, e2, st2⟩ := getF X0 hx hZ hown (host := "") (Or.inl (hw _ (List.mem_of_getElem? (i := 23) rfl))) Via.refl e0 I_position (g := (mkF m 1 #[rv a0, iv 32, un, un, un, un, un, un] [(.ref a0)])) rfl rfl (hb hby d4_1)
  have pre3 : ∀ t, oS p e below T2 m 4 #[rv a0, iv 32, un, un, un, un, un, un] [(.long ps)] t → oE p e below s₁ m #[(.ref a0), (.int (32 : Int32))] 8 t := fun t kt => pre1 t (st2 _ kt)
  clear pre1 st2
  have pre4 : ∀ t, oS p e below T2 m 8 #[rv a0, iv 32, iv (((ps.toUInt64 >>> ((3 : Int32) &&& 0x3f).toInt64.toUInt64).toInt64).toInt32), un, un, un, un, un] [] t → oE p e below s₁ m #[(.ref a0), (.int (32 : Int32))] 8 t := fun t kt => pre3 t (by
    show oS p e below T2 m 4 #[rv a0, iv 32, un, un, un, un, un, un] [(.long ps)] _
    refine XS.iconst X2.here hx rfl (hb hby d4_4) ?_
    show oS p e below T2 m 5 #[rv a0, iv 32, un, un, un, un, un, un] [(.int (3 : Int32)), (.long ps)] _
    refine XS.lushr X2.here hx rfl (hb hby d4_5) rfl ?_
    show oS p e below T2 m 6 #[rv a0, iv 32, un, un, un, un, un, un] [(.long ((ps.toUInt64 >>> ((3 : Int32) &&& 0x3f).toInt64.toUInt64).toInt64))] _
    refine XS.l2i X2.here hx rfl (hb hby d4_6) rfl ?_
    show oS p e below T2 m 7 #[rv a0, iv 32, un, un, un, un, un, un] [(.int (((ps.toUInt64 >>> ((3 : Int32) &&& 0x3f).toInt64.toUInt64).toInt64).toInt32))] _
    refine XS.istoreN X2.here hx rfl (hb hby d4_7) rfl (l' := #[rv a0, iv 32, iv (((ps.toUInt64 >>> ((3 : Int32) &&& 0x3f).toInt64.toUInt64).toInt64).toInt32), un, un, un, un, un]) rfl ?_
    exact kt)
  clear pre3
  obtain ⟨bi, hm5, pre5⟩ : ∃ (bi : Int32), (ps.toInt / 8 = bi.toInt ∧ (bi = (0 : Int32) ∨ bi = (1 : Int32) ∨ bi = (2 : Int32))) ∧ ∀ t, oS p e below T2 m 8 #[rv a0, iv 32, iv bi, un, un, un, un, un] [] t → oE p e below s₁ m #[(.ref a0), (.int (32 : Int32))] 8 t := ⟨(((ps.toUInt64 >>> ((3 : Int32) &&& 0x3f).toInt64.toUInt64).toInt64).toInt32), own_bi2 ps hps, pre4⟩
  clear pre4
  obtain ⟨hk0, hkc⟩ := hm5
  rcases hkc with rfl | rfl | rfl
  · have hk0 : ps.toInt / 8 = 0 := hk0.trans (by decide)
    have pre6 : ∀ t, oS p e below T2 m 9 #[rv a0, iv 32, iv 0, un, un, un, un, un] [(.ref a0)] t → oE p e below s₁ m #[(.ref a0), (.int (32 : Int32))] 8 t := fun t kt => pre5 t (by
      show oS p e below T2 m 8 #[rv a0, iv 32, iv 0, un, un, un, un, un] [] _
      refine XS.aloadN X2.here hx rfl (hb hby d4_8) rfl rfl ?_
      exact kt)
    clear pre5
    obtain ⟨T7, X7, e7, st7⟩ := getF X2 hx hZ hown (host := "") (Or.inl (hw _ (List.mem_of_getElem? (i := 23) rfl))) Via.refl e2 I_position (g := (mkF m 9 #[rv a0, iv 32, iv 0, un, un, un, un, un] [(.ref a0)])) rfl rfl (hb hby d4_9)
    have pre8 : ∀ t, oS p e below T7 m 12 #[rv a0, iv 32, iv 0, un, un, un, un, un] [(.long ps)] t → oE p e below s₁ m #[(.ref a0), (.int (32 : Int32))] 8 t := fun t kt => pre6 t (st7 _ kt)
    clear pre6 st7
    have pre9 : ∀ t, oS p e below T7 m 18 #[rv a0, iv 32, iv 0, iv ((ps &&& (7 : Int64)).toInt32), un, un, un, un] [] t → oE p e below s₁ m #[(.ref a0), (.int (32 : Int32))] 8 t := fun t kt => pre8 t (by
      show oS p e below T7 m 12 #[rv a0, iv 32, iv 0, un, un, un, un, un] [(.long ps)] _
      refine X7.ldc2Long hx hown (mvT hZ (hw _ (List.mem_of_getElem? (i := 32) rfl))) (g := (mkF m 12 #[rv a0, iv 32, iv 0, un, un, un, un, un] [(.long ps)])) rfl (hb hby d4_12) _ ?_
      show oS p e below T7 m 15 #[rv a0, iv 32, iv 0, un, un, un, un, un] [(.long (7 : Int64)), (.long ps)] _
      refine XS.land X7.here hx rfl (hb hby d4_15) rfl ?_
      show oS p e below T7 m 16 #[rv a0, iv 32, iv 0, un, un, un, un, un] [(.long (ps &&& (7 : Int64)))] _
      refine XS.l2i X7.here hx rfl (hb hby d4_16) rfl ?_
      show oS p e below T7 m 17 #[rv a0, iv 32, iv 0, un, un, un, un, un] [(.int ((ps &&& (7 : Int64)).toInt32))] _
      refine XS.istoreN X7.here hx rfl (hb hby d4_17) rfl (l' := #[rv a0, iv 32, iv 0, iv ((ps &&& (7 : Int64)).toInt32), un, un, un, un]) rfl ?_
      exact kt)
    clear pre8
    obtain ⟨sh, hm10, pre10⟩ : ∃ (sh : Int32), (sh.toInt = ps.toInt % 8) ∧ ∀ t, oS p e below T7 m 18 #[rv a0, iv 32, iv 0, iv sh, un, un, un, un] [] t → oE p e below s₁ m #[(.ref a0), (.int (32 : Int32))] 8 t := ⟨((ps &&& (7 : Int64)).toInt32), own_sh ps hps, pre9⟩
    clear pre9
    have pre11 : ∀ t, oS p e below T7 m 19 #[rv a0, iv 32, iv 0, iv sh, un, un, un, un] [(.ref a0)] t → oE p e below s₁ m #[(.ref a0), (.int (32 : Int32))] 8 t := fun t kt => pre10 t (by
      show oS p e below T7 m 18 #[rv a0, iv 32, iv 0, iv sh, un, un, un, un] [] _
      refine XS.aloadN X7.here hx rfl (hb hby d4_18) rfl rfl ?_
      exact kt)
    clear pre10
    obtain ⟨T12, X12, e12, st12⟩ := getF X7 hx hZ hown (host := "") (Or.inl (hw _ (List.mem_of_getElem? (i := 13) rfl))) Via.refl e7 I_data (g := (mkF m 19 #[rv a0, iv 32, iv 0, iv sh, un, un, un, un] [(.ref a0)])) rfl rfl (hb hby d4_19)
    have pre13 : ∀ t, oS p e below T12 m 22 #[rv a0, iv 32, iv 0, iv sh, un, un, un, un] [(.ref ab)] t → oE p e below s₁ m #[(.ref a0), (.int (32 : Int32))] 8 t := fun t kt => pre11 t (st12 _ kt)
    clear pre11 st12
    have tv14 := V1
    obtain ⟨cl14, Ar14, q14, S14, Ng14, H14, G14⟩ := tv14
    have pre15 : ∀ t, oS p e below T12 m 34 #[rv a0, iv 32, iv 0, iv sh, un, un, un, un] [(.int ((0 : Int32) + (((sh + (32 : Int32)) + (7 : Int32)) / (8 : Int32)))), (.int (2 : Int32))] t → oE p e below s₁ m #[(.ref a0), (.int (32 : Int32))] 8 t := fun t kt => pre13 t (by
      show oS p e below T12 m 22 #[rv a0, iv 32, iv 0, iv sh, un, un, un, un] [(.ref ab)] _
      refine X12.arraylength hx (by rw [e12]; exact Ar14.1) (State.isArrayOf_alike hZ.alike Ar14.2.1) (g := (mkF m 22 #[rv a0, iv 32, iv 0, iv sh, un, un, un, un] [(.ref ab)])) rfl rfl (hb hby d4_22) _ ?_
      rw [len_of S14 Ng14]
      show oS p e below T12 m 23 #[rv a0, iv 32, iv 0, iv sh, un, un, un, un] [(.int (2 : Int32))] _
      refine XS.iloadN X12.here hx rfl (hb hby d4_23) rfl ?_
      show oS p e below T12 m 24 #[rv a0, iv 32, iv 0, iv sh, un, un, un, un] [(.int (0 : Int32)), (.int (2 : Int32))] _
      refine XS.iloadN X12.here hx rfl (hb hby d4_24) rfl ?_
      show oS p e below T12 m 25 #[rv a0, iv 32, iv 0, iv sh, un, un, un, un] [(.int sh), (.int (0 : Int32)), (.int (2 : Int32))] _
      refine XS.iloadN X12.here hx rfl (hb hby d4_25) rfl ?_
      show oS p e below T12 m 26 #[rv a0, iv 32, iv 0, iv sh, un, un, un, un] [(.int (32 : Int32)), (.int sh), (.int (0 : Int32)), (.int (2 : Int32))] _
      refine XS.iadd X12.here hx rfl (hb hby d4_26) rfl ?_
      show oS p e below T12 m 27 #[rv a0, iv 32, iv 0, iv sh, un, un, un, un] [(.int (sh + (32 : Int32))), (.int (0 : Int32)), (.int (2 : Int32))] _
      refine XS.bipush X12.here hx rfl (hb hby d4_27) ?_
      show oS p e below T12 m 29 #[rv a0, iv 32, iv 0, iv sh, un, un, un, un] [(.int (7 : Int32)), (.int (sh + (32 : Int32))), (.int (0 : Int32)), (.int (2 : Int32))] _
      refine XS.iadd X12.here hx rfl (hb hby d4_29) rfl ?_
      show oS p e below T12 m 30 #[rv a0, iv 32, iv 0, iv sh, un, un, un, un] [(.int ((sh + (32 : Int32)) + (7 : Int32))), (.int (0 : Int32)), (.int (2 : Int32))] _
      refine XS.bipush X12.here hx rfl (hb hby d4_30) ?_
      show oS p e below T12 m 32 #[rv a0, iv 32, iv 0, iv sh, un, un, un, un] [(.int (8 : Int32)), (.int ((sh + (32 : Int32)) + (7 : Int32))), (.int (0 : Int32)), (.int (2 : Int32))] _
      refine XS.idiv X12.here hx rfl (hb hby d4_32) rfl (by decide) ?_
      show oS p e below T12 m 33 #[rv a0, iv 32, iv 0, iv sh, un, un, un, un] [(.int (((sh + (32 : Int32)) + (7 : Int32)) / (8 : Int32))), (.int (0 : Int32)), (.int (2 : Int32))] _
      refine XS.iadd X12.here hx rfl (hb hby d4_33) rfl ?_
      exact kt)
    clear pre13
    obtain ⟨_, _, ⟨T16, L16, k16, n16⟩, -, X16, ⟨Lc16, hQ16, l16, y16, z16⟩, st16⟩ := Jvm.LawKit.callS X12 hx (y := (⟨"java/lang/Math", "min", "(II)I"⟩ : MethodName)) hown (mvT hZ (hw _ (List.mem_of_getElem? (i := 33) rfl))) (mvT hZ (hw _ (List.mem_of_getElem? (i := 34) rfl))) (mvT hZ (hw _ (List.mem_of_getElem? (i := 35) rfl))) (mvT hZ (hw _ (List.mem_of_getElem? (i := 36) rfl))) (by decide) (backOf (W := 0) (rm5 l Z av hw [] (2 : Int32) ((0 : Int32) + (((sh + (32 : Int32)) + (7 : Int32)) / (8 : Int32)))  h0 n0 Z0 ) hZ (hw _ (List.mem_of_getElem? (i := 36) rfl)) (hw _ (List.mem_of_getElem? (i := 35) rfl)) (by decide) (by decide)) (g := (mkF m 34 #[rv a0, iv 32, iv 0, iv sh, un, un, un, un] [(.int ((0 : Int32) + (((sh + (32 : Int32)) + (7 : Int32)) / (8 : Int32)))), (.int (2 : Int32))])) rfl (by rw [hml]; rfl) (argsL := [(.int (2 : Int32)), (.int ((0 : Int32) + (((sh + (32 : Int32)) + (7 : Int32)) / (8 : Int32))))]) (rest := []) (lenOf pd__II_I rfl) rfl (by show 2 * 0 + _ ≤ _; exact Nat.le_of_eq rfl) (hb hby d4_34) (fun _ _ => ⟨rfl, e12, (by decide : 0 + 0 ≤ _), (by decide : 0 + 0 ≤ _)⟩)
    dsimp only [Pt.U, Pt.locs, Pt.cells, Pt.slots] at X16 l16 y16 z16 st16 hQ16
    rw [l16, y16, z16] at X16
    clear l16 y16 z16
    obtain ⟨rfl, N16q, e16⟩ := hQ16
    have N16 := Fr.app N0 N16q
    have pre17 : ∀ t, oS p e below T16 m 37 #[rv a0, iv 32, iv 0, iv sh, un, un, un, un] [(.int (f_min (2 : Int32) ((0 : Int32) + (((sh + (32 : Int32)) + (7 : Int32)) / (8 : Int32)))))] t → oE p e below s₁ m #[(.ref a0), (.int (32 : Int32))] 8 t := fun t kt => pre15 t (st16 _ kt)
    clear pre15 st16
    have pre18 : ∀ t, oS p e below T16 m 39 #[rv a0, iv 32, iv 0, iv sh, iv (f_min (2 : Int32) ((0 : Int32) + (((sh + (32 : Int32)) + (7 : Int32)) / (8 : Int32)))), un, un, un] [] t → oE p e below s₁ m #[(.ref a0), (.int (32 : Int32))] 8 t := fun t kt => pre17 t (by
      show oS p e below T16 m 37 #[rv a0, iv 32, iv 0, iv sh, un, un, un, un] [(.int (f_min (2 : Int32) ((0 : Int32) + (((sh + (32 : Int32)) + (7 : Int32)) / (8 : Int32)))))] _
      refine XS.istore X16.here hx rfl (hb hby d4_37) rfl (l' := #[rv a0, iv 32, iv 0, iv sh, iv (f_min (2 : Int32) ((0 : Int32) + (((sh + (32 : Int32)) + (7 : Int32)) / (8 : Int32)))), un, un, un]) rfl ?_
      exact kt)
    clear pre17
    obtain ⟨en, hm19, pre19⟩ : ∃ (en : Int32), (en = (2 : Int32)) ∧ ∀ t, oS p e below T16 m 39 #[rv a0, iv 32, iv 0, iv sh, iv en, un, un, un] [] t → oE p e below s₁ m #[(.ref a0), (.int (32 : Int32))] 8 t := ⟨(f_min (2 : Int32) ((0 : Int32) + (((sh + (32 : Int32)) + (7 : Int32)) / (8 : Int32)))), own_enG (2 : Int32) (0 : Int32) sh (by decide) (by decide) hm10, pre18⟩
    clear pre18
    subst hm19
    have pre20 : ∀ t, oS p e below T16 m 55 #[rv a0, iv 32, iv 0, iv sh, iv 2, jv 0, sn, iv 0] [(.ref a0), (.long (0 : Int64))] t → oE p e below s₁ m #[(.ref a0), (.int (32 : Int32))] 8 t := fun t kt => pre19 t (by
      show oS p e below T16 m 39 #[rv a0, iv 32, iv 0, iv sh, iv 2, un, un, un] [] _
      refine XS.lconst X16.here hx rfl (hb hby d4_39) ?_
      show oS p e below T16 m 40 #[rv a0, iv 32, iv 0, iv sh, iv 2, un, un, un] [(.long (0 : Int64))] _
      refine XS.lstore X16.here hx rfl (hb hby d4_40) rfl (l' := #[rv a0, iv 32, iv 0, iv sh, iv 2, jv 0, sn, un]) rfl ?_
      show oS p e below T16 m 42 #[rv a0, iv 32, iv 0, iv sh, iv 2, jv 0, sn, un] [] _
      refine XS.iloadN X16.here hx rfl (hb hby d4_42) rfl ?_
      show oS p e below T16 m 43 #[rv a0, iv 32, iv 0, iv sh, iv 2, jv 0, sn, un] [(.int (0 : Int32))] _
      refine XS.istore X16.here hx rfl (hb hby d4_43) rfl (l' := #[rv a0, iv 32, iv 0, iv sh, iv 2, jv 0, sn, iv 0]) rfl ?_
      show oS p e below T16 m 45 #[rv a0, iv 32, iv 0, iv sh, iv 2, jv 0, sn, iv 0] [] _
      refine XS.iload X16.here hx rfl (hb hby d4_45) rfl ?_
      show oS p e below T16 m 47 #[rv a0, iv 32, iv 0, iv sh, iv 2, jv 0, sn, iv 0] [(.int (0 : Int32))] _
      refine XS.iload X16.here hx rfl (hb hby d4_47) rfl ?_
      show oS p e below T16 m 49 #[rv a0, iv 32, iv 0, iv sh, iv 2, jv 0, sn, iv 0] [(.int (2 : Int32)), (.int (0 : Int32))] _
      refine XS.icmpNo X16.here hx rfl (hb hby d4_49) rfl (tlt (by decide : (0 : Int32) < (2 : Int32))).2.1 ?_
      show oS p e below T16 m 52 #[rv a0, iv 32, iv 0, iv sh, iv 2, jv 0, sn, iv 0] [] _
      refine XS.lload X16.here hx rfl (hb hby d4_52) rfl ?_
      show oS p e below T16 m 54 #[rv a0, iv 32, iv 0, iv sh, iv 2, jv 0, sn, iv 0] [(.long (0 : Int64))] _
      refine XS.aloadN X16.here hx rfl (hb hby d4_54) rfl rfl ?_
      exact kt)
    clear pre19
    obtain ⟨T21, X21, e21, st21⟩ := getF X16 hx hZ hown (host := "") (Or.inl (hw _ (List.mem_of_getElem? (i := 13) rfl))) Via.refl e16 I_data (g := (mkF m 55 #[rv a0, iv 32, iv 0, iv sh, iv 2, jv 0, sn, iv 0] [(.ref a0), (.long (0 : Int64))])) rfl rfl (hb hby d4_55)
    have pre22 : ∀ t, oS p e below T21 m 58 #[rv a0, iv 32, iv 0, iv sh, iv 2, jv 0, sn, iv 0] [(.ref ab), (.long (0 : Int64))] t → oE p e below s₁ m #[(.ref a0), (.int (32 : Int32))] 8 t := fun t kt => pre20 t (st21 _ kt)
    clear pre20 st21
    have pre23 : ∀ t, oS p e below T21 m 60 #[rv a0, iv 32, iv 0, iv sh, iv 2, jv 0, sn, iv 0] [(.int (0 : Int32)), (.ref ab), (.long (0 : Int64))] t → oE p e below s₁ m #[(.ref a0), (.int (32 : Int32))] 8 t := fun t kt => pre22 t (by
      show oS p e below T21 m 58 #[rv a0, iv 32, iv 0, iv sh, iv 2, jv 0, sn, iv 0] [(.ref ab), (.long (0 : Int64))] _
      refine XS.iload X21.here hx rfl (hb hby d4_58) rfl ?_
      exact kt)
    clear pre22
    have tv24 := V1
    obtain ⟨cl24, Ar24, q24, S24, Ng24, H24, G24⟩ := tv24
    have hin24 : ¬ ((0 : Int32) < 0 ∨ cl24.slots.size ≤ ((0 : Int32)).toNatClampNeg) := inb_of S24 ⟨by decide, by decide⟩
    have hat24 : cl24.slots[((0 : Int32)).toNatClampNeg]? = some (.int b0) := Has.at H24 hin24 rfl
    have pre25 : ∀ t, oS p e below T21 m 77 #[rv a0, iv 32, iv 0, iv sh, iv 2, jv ((0 : Int64) ||| (((b0.toInt64) &&& (255 : Int64)) <<< ((0 : Int32) &&& 0x3f).toInt64)), sn, iv 0] [] t → oE p e below s₁ m #[(.ref a0), (.int (32 : Int32))] 8 t := fun t kt => pre23 t (by
      show oS p e below T21 m 60 #[rv a0, iv 32, iv 0, iv sh, iv 2, jv 0, sn, iv 0] [(.int (0 : Int32)), (.ref ab), (.long (0 : Int64))] _
      refine X21.baloadBytes hx (j := (0 : Int32)) (v := (.int b0)) (by rw [e21]; exact Ar24.1) (State.isArrayOf_alike hZ.alike Ar24.2.1) Ar24.2.2 hin24 hat24 (g := (mkF m 60 #[rv a0, iv 32, iv 0, iv sh, iv 2, jv 0, sn, iv 0] [(.int (0 : Int32)), (.ref ab), (.long (0 : Int64))])) rfl rfl (hb hby d4_60) _ ?_
      show oS p e below T21 m 61 #[rv a0, iv 32, iv 0, iv sh, iv 2, jv 0, sn, iv 0] [(.int b0), (.long (0 : Int64))] _
      refine XS.i2l X21.here hx rfl (hb hby d4_61) rfl ?_
      show oS p e below T21 m 62 #[rv a0, iv 32, iv 0, iv sh, iv 2, jv 0, sn, iv 0] [(.long (b0.toInt64)), (.long (0 : Int64))] _
      refine X21.ldc2Long hx hown (mvT hZ (hw _ (List.mem_of_getElem? (i := 42) rfl))) (g := (mkF m 62 #[rv a0, iv 32, iv 0, iv sh, iv 2, jv 0, sn, iv 0] [(.long (b0.toInt64)), (.long (0 : Int64))])) rfl (hb hby d4_62) _ ?_
      show oS p e below T21 m 65 #[rv a0, iv 32, iv 0, iv sh, iv 2, jv 0, sn, iv 0] [(.long (255 : Int64)), (.long (b0.toInt64)), (.long (0 : Int64))] _
      refine XS.land X21.here hx rfl (hb hby d4_65) rfl ?_
      show oS p e below T21 m 66 #[rv a0, iv 32, iv 0, iv sh, iv 2, jv 0, sn, iv 0] [(.long ((b0.toInt64) &&& (255 : Int64))), (.long (0 : Int64))] _
      refine XS.bipush X21.here hx rfl (hb hby d4_66) ?_
      show oS p e below T21 m 68 #[rv a0, iv 32, iv 0, iv sh, iv 2, jv 0, sn, iv 0] [(.int (8 : Int32)), (.long ((b0.toInt64) &&& (255 : Int64))), (.long (0 : Int64))] _
      refine XS.iload X21.here hx rfl (hb hby d4_68) rfl ?_
      show oS p e below T21 m 70 #[rv a0, iv 32, iv 0, iv sh, iv 2, jv 0, sn, iv 0] [(.int (0 : Int32)), (.int (8 : Int32)), (.long ((b0.toInt64) &&& (255 : Int64))), (.long (0 : Int64))] _
      refine XS.iloadN X21.here hx rfl (hb hby d4_70) rfl ?_
      show oS p e below T21 m 71 #[rv a0, iv 32, iv 0, iv sh, iv 2, jv 0, sn, iv 0] [(.int (0 : Int32)), (.int (0 : Int32)), (.int (8 : Int32)), (.long ((b0.toInt64) &&& (255 : Int64))), (.long (0 : Int64))] _
      refine XS.isub X21.here hx rfl (hb hby d4_71) rfl ?_
      show oS p e below T21 m 72 #[rv a0, iv 32, iv 0, iv sh, iv 2, jv 0, sn, iv 0] [(.int (0 : Int32)), (.int (8 : Int32)), (.long ((b0.toInt64) &&& (255 : Int64))), (.long (0 : Int64))] _
      refine XS.imul X21.here hx rfl (hb hby d4_72) rfl ?_
      show oS p e below T21 m 73 #[rv a0, iv 32, iv 0, iv sh, iv 2, jv 0, sn, iv 0] [(.int (0 : Int32)), (.long ((b0.toInt64) &&& (255 : Int64))), (.long (0 : Int64))] _
      refine XS.lshl X21.here hx rfl (hb hby d4_73) rfl ?_
      show oS p e below T21 m 74 #[rv a0, iv 32, iv 0, iv sh, iv 2, jv 0, sn, iv 0] [(.long (((b0.toInt64) &&& (255 : Int64)) <<< ((0 : Int32) &&& 0x3f).toInt64)), (.long (0 : Int64))] _
      refine XS.lor X21.here hx rfl (hb hby d4_74) rfl ?_
      show oS p e below T21 m 75 #[rv a0, iv 32, iv 0, iv sh, iv 2, jv 0, sn, iv 0] [(.long ((0 : Int64) ||| (((b0.toInt64) &&& (255 : Int64)) <<< ((0 : Int32) &&& 0x3f).toInt64)))] _
      refine XS.lstore X21.here hx rfl (hb hby d4_75) rfl (l' := #[rv a0, iv 32, iv 0, iv sh, iv 2, jv ((0 : Int64) ||| (((b0.toInt64) &&& (255 : Int64)) <<< ((0 : Int32) &&& 0x3f).toInt64)), sn, iv 0]) rfl ?_
      exact kt)
    clear pre23
    obtain ⟨ac0, hm26, pre26⟩ : ∃ (ac0 : Int64), (ac0.toInt = 1 * (b0.toInt % 256)) ∧ ∀ t, oS p e below T21 m 77 #[rv a0, iv 32, iv 0, iv sh, iv 2, jv ac0, sn, iv 0] [] t → oE p e below s₁ m #[(.ref a0), (.int (32 : Int32))] 8 t := ⟨((0 : Int64) ||| (((b0.toInt64) &&& (255 : Int64)) <<< ((0 : Int32) &&& 0x3f).toInt64)), own_ac0 b0, pre25⟩
    clear pre25
    have pre27 : ∀ t, oS p e below T21 m 55 #[rv a0, iv 32, iv 0, iv sh, iv 2, jv ac0, sn, iv 1] [(.ref a0), (.long ac0)] t → oE p e below s₁ m #[(.ref a0), (.int (32 : Int32))] 8 t := fun t kt => pre26 t (by
      show oS p e below T21 m 77 #[rv a0, iv 32, iv 0, iv sh, iv 2, jv ac0, sn, iv 0] [] _
      refine XS.iinc X21.here hx rfl (hb hby d4_77) rfl (l' := #[rv a0, iv 32, iv 0, iv sh, iv 2, jv ac0, sn, iv 1]) rfl ?_
      show oS p e below T21 m 80 #[rv a0, iv 32, iv 0, iv sh, iv 2, jv ac0, sn, iv 1] [] _
      refine XS.goto X21.here hx rfl (pc0 := 80) (pc' := 45) rfl (hb hby d4_80) (by decide) (by decide) ?_
      show oS p e below T21 m 45 #[rv a0, iv 32, iv 0, iv sh, iv 2, jv ac0, sn, iv 1] [] _
      refine XS.iload X21.here hx rfl (hb hby d4_45) rfl ?_
      show oS p e below T21 m 47 #[rv a0, iv 32, iv 0, iv sh, iv 2, jv ac0, sn, iv 1] [(.int (1 : Int32))] _
      refine XS.iload X21.here hx rfl (hb hby d4_47) rfl ?_
      show oS p e below T21 m 49 #[rv a0, iv 32, iv 0, iv sh, iv 2, jv ac0, sn, iv 1] [(.int (2 : Int32)), (.int (1 : Int32))] _
      refine XS.icmpNo X21.here hx rfl (hb hby d4_49) rfl (tlt (by decide : (1 : Int32) < (2 : Int32))).2.1 ?_
      show oS p e below T21 m 52 #[rv a0, iv 32, iv 0, iv sh, iv 2, jv ac0, sn, iv 1] [] _
      refine XS.lload X21.here hx rfl (hb hby d4_52) rfl ?_
      show oS p e below T21 m 54 #[rv a0, iv 32, iv 0, iv sh, iv 2, jv ac0, sn, iv 1] [(.long ac0)] _
      refine XS.aloadN X21.here hx rfl (hb hby d4_54) rfl rfl ?_
      exact kt)
    clear pre26
    obtain ⟨T28, X28, e28, st28⟩ := getF X21 hx hZ hown (host := "") (Or.inl (hw _ (List.mem_of_getElem? (i := 13) rfl))) Via.refl e21 I_data (g := (mkF m 55 #[rv a0, iv 32, iv 0, iv sh, iv 2, jv ac0, sn, iv 1] [(.ref a0), (.long ac0)])) rfl rfl (hb hby d4_55)
    have pre29 : ∀ t, oS p e below T28 m 58 #[rv a0, iv 32, iv 0, iv sh, iv 2, jv ac0, sn, iv 1] [(.ref ab), (.long ac0)] t → oE p e below s₁ m #[(.ref a0), (.int (32 : Int32))] 8 t := fun t kt => pre27 t (st28 _ kt)
    clear pre27 st28
    have pre30 : ∀ t, oS p e below T28 m 60 #[rv a0, iv 32, iv 0, iv sh, iv 2, jv ac0, sn, iv 1] [(.int (1 : Int32)), (.ref ab), (.long ac0)] t → oE p e below s₁ m #[(.ref a0), (.int (32 : Int32))] 8 t := fun t kt => pre29 t (by
      show oS p e below T28 m 58 #[rv a0, iv 32, iv 0, iv sh, iv 2, jv ac0, sn, iv 1] [(.ref ab), (.long ac0)] _
      refine XS.iload X28.here hx rfl (hb hby d4_58) rfl ?_
      exact kt)
    clear pre29
    have tv31 := V1
    obtain ⟨cl31, Ar31, q31, S31, Ng31, H31, G31⟩ := tv31
    have hin31 : ¬ ((1 : Int32) < 0 ∨ cl31.slots.size ≤ ((1 : Int32)).toNatClampNeg) := inb_of S31 ⟨by decide, by decide⟩
    have hat31 : cl31.slots[((1 : Int32)).toNatClampNeg]? = some (.int b1) := Has.at H31 hin31 rfl
    have pre32 : ∀ t, oS p e below T28 m 77 #[rv a0, iv 32, iv 0, iv sh, iv 2, jv (ac0 ||| (((b1.toInt64) &&& (255 : Int64)) <<< ((8 : Int32) &&& 0x3f).toInt64)), sn, iv 1] [] t → oE p e below s₁ m #[(.ref a0), (.int (32 : Int32))] 8 t := fun t kt => pre30 t (by
      show oS p e below T28 m 60 #[rv a0, iv 32, iv 0, iv sh, iv 2, jv ac0, sn, iv 1] [(.int (1 : Int32)), (.ref ab), (.long ac0)] _
      refine X28.baloadBytes hx (j := (1 : Int32)) (v := (.int b1)) (by rw [e28]; exact Ar31.1) (State.isArrayOf_alike hZ.alike Ar31.2.1) Ar31.2.2 hin31 hat31 (g := (mkF m 60 #[rv a0, iv 32, iv 0, iv sh, iv 2, jv ac0, sn, iv 1] [(.int (1 : Int32)), (.ref ab), (.long ac0)])) rfl rfl (hb hby d4_60) _ ?_
      show oS p e below T28 m 61 #[rv a0, iv 32, iv 0, iv sh, iv 2, jv ac0, sn, iv 1] [(.int b1), (.long ac0)] _
      refine XS.i2l X28.here hx rfl (hb hby d4_61) rfl ?_
      show oS p e below T28 m 62 #[rv a0, iv 32, iv 0, iv sh, iv 2, jv ac0, sn, iv 1] [(.long (b1.toInt64)), (.long ac0)] _
      refine X28.ldc2Long hx hown (mvT hZ (hw _ (List.mem_of_getElem? (i := 42) rfl))) (g := (mkF m 62 #[rv a0, iv 32, iv 0, iv sh, iv 2, jv ac0, sn, iv 1] [(.long (b1.toInt64)), (.long ac0)])) rfl (hb hby d4_62) _ ?_
      show oS p e below T28 m 65 #[rv a0, iv 32, iv 0, iv sh, iv 2, jv ac0, sn, iv 1] [(.long (255 : Int64)), (.long (b1.toInt64)), (.long ac0)] _
      refine XS.land X28.here hx rfl (hb hby d4_65) rfl ?_
      show oS p e below T28 m 66 #[rv a0, iv 32, iv 0, iv sh, iv 2, jv ac0, sn, iv 1] [(.long ((b1.toInt64) &&& (255 : Int64))), (.long ac0)] _
      refine XS.bipush X28.here hx rfl (hb hby d4_66) ?_
      show oS p e below T28 m 68 #[rv a0, iv 32, iv 0, iv sh, iv 2, jv ac0, sn, iv 1] [(.int (8 : Int32)), (.long ((b1.toInt64) &&& (255 : Int64))), (.long ac0)] _
      refine XS.iload X28.here hx rfl (hb hby d4_68) rfl ?_
      show oS p e below T28 m 70 #[rv a0, iv 32, iv 0, iv sh, iv 2, jv ac0, sn, iv 1] [(.int (1 : Int32)), (.int (8 : Int32)), (.long ((b1.toInt64) &&& (255 : Int64))), (.long ac0)] _
      refine XS.iloadN X28.here hx rfl (hb hby d4_70) rfl ?_
      show oS p e below T28 m 71 #[rv a0, iv 32, iv 0, iv sh, iv 2, jv ac0, sn, iv 1] [(.int (0 : Int32)), (.int (1 : Int32)), (.int (8 : Int32)), (.long ((b1.toInt64) &&& (255 : Int64))), (.long ac0)] _
      refine XS.isub X28.here hx rfl (hb hby d4_71) rfl ?_
      show oS p e below T28 m 72 #[rv a0, iv 32, iv 0, iv sh, iv 2, jv ac0, sn, iv 1] [(.int (1 : Int32)), (.int (8 : Int32)), (.long ((b1.toInt64) &&& (255 : Int64))), (.long ac0)] _
      refine XS.imul X28.here hx rfl (hb hby d4_72) rfl ?_
      show oS p e below T28 m 73 #[rv a0, iv 32, iv 0, iv sh, iv 2, jv ac0, sn, iv 1] [(.int (8 : Int32)), (.long ((b1.toInt64) &&& (255 : Int64))), (.long ac0)] _
      refine XS.lshl X28.here hx rfl (hb hby d4_73) rfl ?_
      show oS p e below T28 m 74 #[rv a0, iv 32, iv 0, iv sh, iv 2, jv ac0, sn, iv 1] [(.long (((b1.toInt64) &&& (255 : Int64)) <<< ((8 : Int32) &&& 0x3f).toInt64)), (.long ac0)] _
      refine XS.lor X28.here hx rfl (hb hby d4_74) rfl ?_
      show oS p e below T28 m 75 #[rv a0, iv 32, iv 0, iv sh, iv 2, jv ac0, sn, iv 1] [(.long (ac0 ||| (((b1.toInt64) &&& (255 : Int64)) <<< ((8 : Int32) &&& 0x3f).toInt64)))] _
      refine XS.lstore X28.here hx rfl (hb hby d4_75) rfl (l' := #[rv a0, iv 32, iv 0, iv sh, iv 2, jv (ac0 ||| (((b1.toInt64) &&& (255 : Int64)) <<< ((8 : Int32) &&& 0x3f).toInt64)), sn, iv 1]) rfl ?_
      exact kt)
    clear pre30
    obtain ⟨ac1, hm33, pre33⟩ : ∃ (ac1 : Int64), (ac1.toInt = 1 * (b0.toInt % 256) + 256 * (b1.toInt % 256)) ∧ ∀ t, oS p e below T28 m 77 #[rv a0, iv 32, iv 0, iv sh, iv 2, jv ac1, sn, iv 1] [] t → oE p e below s₁ m #[(.ref a0), (.int (32 : Int32))] 8 t := ⟨(ac0 ||| (((b1.toInt64) &&& (255 : Int64)) <<< ((8 : Int32) &&& 0x3f).toInt64)), own_ac1 ac0 b1 _ hm26 (by omega), pre32⟩
    clear pre32
    have pre34 : ∀ t, oS p e below T28 m 94 #[rv a0, iv 32, iv 0, iv sh, iv 2, jv ac1, sn, iv 2] [(.int ((((ac1.toUInt64 >>> (sh &&& 0x3f).toInt64.toUInt64).toInt64) &&& (((1 : Int64) <<< ((32 : Int32) &&& 0x3f).toInt64) - (1 : Int64))).toInt32))] t → oE p e below s₁ m #[(.ref a0), (.int (32 : Int32))] 8 t := fun t kt => pre33 t (by
      show oS p e below T28 m 77 #[rv a0, iv 32, iv 0, iv sh, iv 2, jv ac1, sn, iv 1] [] _
      refine XS.iinc X28.here hx rfl (hb hby d4_77) rfl (l' := #[rv a0, iv 32, iv 0, iv sh, iv 2, jv ac1, sn, iv 2]) rfl ?_
      show oS p e below T28 m 80 #[rv a0, iv 32, iv 0, iv sh, iv 2, jv ac1, sn, iv 2] [] _
      refine XS.goto X28.here hx rfl (pc0 := 80) (pc' := 45) rfl (hb hby d4_80) (by decide) (by decide) ?_
      show oS p e below T28 m 45 #[rv a0, iv 32, iv 0, iv sh, iv 2, jv ac1, sn, iv 2] [] _
      refine XS.iload X28.here hx rfl (hb hby d4_45) rfl ?_
      show oS p e below T28 m 47 #[rv a0, iv 32, iv 0, iv sh, iv 2, jv ac1, sn, iv 2] [(.int (2 : Int32))] _
      refine XS.iload X28.here hx rfl (hb hby d4_47) rfl ?_
      show oS p e below T28 m 49 #[rv a0, iv 32, iv 0, iv sh, iv 2, jv ac1, sn, iv 2] [(.int (2 : Int32)), (.int (2 : Int32))] _
      refine XS.icmpYes X28.here hx rfl (pc0 := 49) (pc' := 83) rfl (hb hby d4_49) rfl (flt (by decide : ¬ ((2 : Int32) < (2 : Int32)))).2.1 (by decide) (by decide) ?_
      show oS p e below T28 m 83 #[rv a0, iv 32, iv 0, iv sh, iv 2, jv ac1, sn, iv 2] [] _
      refine XS.lload X28.here hx rfl (hb hby d4_83) rfl ?_
      show oS p e below T28 m 85 #[rv a0, iv 32, iv 0, iv sh, iv 2, jv ac1, sn, iv 2] [(.long ac1)] _
      refine XS.iloadN X28.here hx rfl (hb hby d4_85) rfl ?_
      show oS p e below T28 m 86 #[rv a0, iv 32, iv 0, iv sh, iv 2, jv ac1, sn, iv 2] [(.int sh), (.long ac1)] _
      refine XS.lushr X28.here hx rfl (hb hby d4_86) rfl ?_
      show oS p e below T28 m 87 #[rv a0, iv 32, iv 0, iv sh, iv 2, jv ac1, sn, iv 2] [(.long ((ac1.toUInt64 >>> (sh &&& 0x3f).toInt64.toUInt64).toInt64))] _
      refine XS.lconst X28.here hx rfl (hb hby d4_87) ?_
      show oS p e below T28 m 88 #[rv a0, iv 32, iv 0, iv sh, iv 2, jv ac1, sn, iv 2] [(.long (1 : Int64)), (.long ((ac1.toUInt64 >>> (sh &&& 0x3f).toInt64.toUInt64).toInt64))] _
      refine XS.iloadN X28.here hx rfl (hb hby d4_88) rfl ?_
      show oS p e below T28 m 89 #[rv a0, iv 32, iv 0, iv sh, iv 2, jv ac1, sn, iv 2] [(.int (32 : Int32)), (.long (1 : Int64)), (.long ((ac1.toUInt64 >>> (sh &&& 0x3f).toInt64.toUInt64).toInt64))] _
      refine XS.lshl X28.here hx rfl (hb hby d4_89) rfl ?_
      show oS p e below T28 m 90 #[rv a0, iv 32, iv 0, iv sh, iv 2, jv ac1, sn, iv 2] [(.long ((1 : Int64) <<< ((32 : Int32) &&& 0x3f).toInt64)), (.long ((ac1.toUInt64 >>> (sh &&& 0x3f).toInt64.toUInt64).toInt64))] _
      refine XS.lconst X28.here hx rfl (hb hby d4_90) ?_
      show oS p e below T28 m 91 #[rv a0, iv 32, iv 0, iv sh, iv 2, jv ac1, sn, iv 2] [(.long (1 : Int64)), (.long ((1 : Int64) <<< ((32 : Int32) &&& 0x3f).toInt64)), (.long ((ac1.toUInt64 >>> (sh &&& 0x3f).toInt64.toUInt64).toInt64))] _
      refine XS.lsub X28.here hx rfl (hb hby d4_91) rfl ?_
      show oS p e below T28 m 92 #[rv a0, iv 32, iv 0, iv sh, iv 2, jv ac1, sn, iv 2] [(.long (((1 : Int64) <<< ((32 : Int32) &&& 0x3f).toInt64) - (1 : Int64))), (.long ((ac1.toUInt64 >>> (sh &&& 0x3f).toInt64.toUInt64).toInt64))] _
      refine XS.land X28.here hx rfl (hb hby d4_92) rfl ?_
      show oS p e below T28 m 93 #[rv a0, iv 32, iv 0, iv sh, iv 2, jv ac1, sn, iv 2] [(.long (((ac1.toUInt64 >>> (sh &&& 0x3f).toInt64.toUInt64).toInt64) &&& (((1 : Int64) <<< ((32 : Int32) &&& 0x3f).toInt64) - (1 : Int64))))] _
      refine XS.l2i X28.here hx rfl (hb hby d4_93) rfl ?_
      exact kt)
    clear pre33
    have hr0 : ((((ac1.toUInt64 >>> (sh &&& 0x3f).toInt64.toUInt64).toInt64) &&& (((1 : Int64) <<< ((32 : Int32) &&& 0x3f).toInt64) - (1 : Int64))).toInt32) = Int32.ofInt ((1 * (b0.toInt % 256) + 256 * (b1.toInt % 256)) / 2 ^ ps.toInt.toNat) := own_fin ac1 sh ps (1 * (b0.toInt % 256) + 256 * (b1.toInt % 256)) 0 1 (by decide) hps.1 hk0 hm10 (by omega) (by have q := hm33; omega)
    rw [hr0] at pre34
    obtain ⟨fs, hr, hrun, hended, hW, hsame⟩ := X28.leave (v := some (.int (Int32.ofInt ((1 * (b0.toInt % 256) + 256 * (b1.toInt % 256)) / 2 ^ ps.toInt.toNat)))) (fun h => by rw [Bd.returns] at h; cases h)
    refine ⟨_, _, pre34 _ ?_, hrun, hended, _, _, rfl, ?_, ⟨_, rfl⟩, hW, hsame.mono (by decide) (by decide)⟩
    · show oS p e below T28 m 94 #[rv a0, iv 32, iv 0, iv sh, iv 2, jv ac1, sn, iv 2] [(.int (Int32.ofInt ((1 * (b0.toInt % 256) + 256 * (b1.toInt % 256)) / 2 ^ ps.toInt.toNat)))] _
      exact retI X28 hx Bd.returns (hb hby d4_94) hr
    · show Q4p2 Z a0 ab sz ps ed kb b0 b1 h0 n0 _ T28.heap _
      rw [e28]
      exact ⟨rfl, N16, rfl⟩
  · have hk1 : ps.toInt / 8 = 1 := hk0.trans (by decide)
    have pre35 : ∀ t, oS p e below T2 m 9 #[rv a0, iv 32, iv 1, un, un, un, un, un] [(.ref a0)] t → oE p e below s₁ m #[(.ref a0), (.int (32 : Int32))] 8 t := fun t kt => pre5 t (by
      show oS p e below T2 m 8 #[rv a0, iv 32, iv 1, un, un, un, un, un] [] _
      refine XS.aloadN X2.here hx rfl (hb hby d4_8) rfl rfl ?_
      exact kt)
    clear pre5
    obtain ⟨T36, X36, e36, st36⟩ := getF X2 hx hZ hown (host := "") (Or.inl (hw _ (List.mem_of_getElem? (i := 23) rfl))) Via.refl e2 I_position (g := (mkF m 9 #[rv a0, iv 32, iv 1, un, un, un, un, un] [(.ref a0)])) rfl rfl (hb hby d4_9)
    have pre37 : ∀ t, oS p e below T36 m 12 #[rv a0, iv 32, iv 1, un, un, un, un, un] [(.long ps)] t → oE p e below s₁ m #[(.ref a0), (.int (32 : Int32))] 8 t := fun t kt => pre35 t (st36 _ kt)
    clear pre35 st36
    have pre38 : ∀ t, oS p e below T36 m 18 #[rv a0, iv 32, iv 1, iv ((ps &&& (7 : Int64)).toInt32), un, un, un, un] [] t → oE p e below s₁ m #[(.ref a0), (.int (32 : Int32))] 8 t := fun t kt => pre37 t (by
      show oS p e below T36 m 12 #[rv a0, iv 32, iv 1, un, un, un, un, un] [(.long ps)] _
      refine X36.ldc2Long hx hown (mvT hZ (hw _ (List.mem_of_getElem? (i := 32) rfl))) (g := (mkF m 12 #[rv a0, iv 32, iv 1, un, un, un, un, un] [(.long ps)])) rfl (hb hby d4_12) _ ?_
      show oS p e below T36 m 15 #[rv a0, iv 32, iv 1, un, un, un, un, un] [(.long (7 : Int64)), (.long ps)] _
      refine XS.land X36.here hx rfl (hb hby d4_15) rfl ?_
      show oS p e below T36 m 16 #[rv a0, iv 32, iv 1, un, un, un, un, un] [(.long (ps &&& (7 : Int64)))] _
      refine XS.l2i X36.here hx rfl (hb hby d4_16) rfl ?_
      show oS p e below T36 m 17 #[rv a0, iv 32, iv 1, un, un, un, un, un] [(.int ((ps &&& (7 : Int64)).toInt32))] _
      refine XS.istoreN X36.here hx rfl (hb hby d4_17) rfl (l' := #[rv a0, iv 32, iv 1, iv ((ps &&& (7 : Int64)).toInt32), un, un, un, un]) rfl ?_
      exact kt)
    clear pre37
    obtain ⟨sh, hm39, pre39⟩ : ∃ (sh : Int32), (sh.toInt = ps.toInt % 8) ∧ ∀ t, oS p e below T36 m 18 #[rv a0, iv 32, iv 1, iv sh, un, un, un, un] [] t → oE p e below s₁ m #[(.ref a0), (.int (32 : Int32))] 8 t := ⟨((ps &&& (7 : Int64)).toInt32), own_sh ps hps, pre38⟩
    clear pre38
    have pre40 : ∀ t, oS p e below T36 m 19 #[rv a0, iv 32, iv 1, iv sh, un, un, un, un] [(.ref a0)] t → oE p e below s₁ m #[(.ref a0), (.int (32 : Int32))] 8 t := fun t kt => pre39 t (by
      show oS p e below T36 m 18 #[rv a0, iv 32, iv 1, iv sh, un, un, un, un] [] _
      refine XS.aloadN X36.here hx rfl (hb hby d4_18) rfl rfl ?_
      exact kt)
    clear pre39
    obtain ⟨T41, X41, e41, st41⟩ := getF X36 hx hZ hown (host := "") (Or.inl (hw _ (List.mem_of_getElem? (i := 13) rfl))) Via.refl e36 I_data (g := (mkF m 19 #[rv a0, iv 32, iv 1, iv sh, un, un, un, un] [(.ref a0)])) rfl rfl (hb hby d4_19)
    have pre42 : ∀ t, oS p e below T41 m 22 #[rv a0, iv 32, iv 1, iv sh, un, un, un, un] [(.ref ab)] t → oE p e below s₁ m #[(.ref a0), (.int (32 : Int32))] 8 t := fun t kt => pre40 t (st41 _ kt)
    clear pre40 st41
    have tv43 := V1
    obtain ⟨cl43, Ar43, q43, S43, Ng43, H43, G43⟩ := tv43
    have pre44 : ∀ t, oS p e below T41 m 34 #[rv a0, iv 32, iv 1, iv sh, un, un, un, un] [(.int ((1 : Int32) + (((sh + (32 : Int32)) + (7 : Int32)) / (8 : Int32)))), (.int (2 : Int32))] t → oE p e below s₁ m #[(.ref a0), (.int (32 : Int32))] 8 t := fun t kt => pre42 t (by
      show oS p e below T41 m 22 #[rv a0, iv 32, iv 1, iv sh, un, un, un, un] [(.ref ab)] _
      refine X41.arraylength hx (by rw [e41]; exact Ar43.1) (State.isArrayOf_alike hZ.alike Ar43.2.1) (g := (mkF m 22 #[rv a0, iv 32, iv 1, iv sh, un, un, un, un] [(.ref ab)])) rfl rfl (hb hby d4_22) _ ?_
      rw [len_of S43 Ng43]
      show oS p e below T41 m 23 #[rv a0, iv 32, iv 1, iv sh, un, un, un, un] [(.int (2 : Int32))] _
      refine XS.iloadN X41.here hx rfl (hb hby d4_23) rfl ?_
      show oS p e below T41 m 24 #[rv a0, iv 32, iv 1, iv sh, un, un, un, un] [(.int (1 : Int32)), (.int (2 : Int32))] _
      refine XS.iloadN X41.here hx rfl (hb hby d4_24) rfl ?_
      show oS p e below T41 m 25 #[rv a0, iv 32, iv 1, iv sh, un, un, un, un] [(.int sh), (.int (1 : Int32)), (.int (2 : Int32))] _
      refine XS.iloadN X41.here hx rfl (hb hby d4_25) rfl ?_
      show oS p e below T41 m 26 #[rv a0, iv 32, iv 1, iv sh, un, un, un, un] [(.int (32 : Int32)), (.int sh), (.int (1 : Int32)), (.int (2 : Int32))] _
      refine XS.iadd X41.here hx rfl (hb hby d4_26) rfl ?_
      show oS p e below T41 m 27 #[rv a0, iv 32, iv 1, iv sh, un, un, un, un] [(.int (sh + (32 : Int32))), (.int (1 : Int32)), (.int (2 : Int32))] _
      refine XS.bipush X41.here hx rfl (hb hby d4_27) ?_
      show oS p e below T41 m 29 #[rv a0, iv 32, iv 1, iv sh, un, un, un, un] [(.int (7 : Int32)), (.int (sh + (32 : Int32))), (.int (1 : Int32)), (.int (2 : Int32))] _
      refine XS.iadd X41.here hx rfl (hb hby d4_29) rfl ?_
      show oS p e below T41 m 30 #[rv a0, iv 32, iv 1, iv sh, un, un, un, un] [(.int ((sh + (32 : Int32)) + (7 : Int32))), (.int (1 : Int32)), (.int (2 : Int32))] _
      refine XS.bipush X41.here hx rfl (hb hby d4_30) ?_
      show oS p e below T41 m 32 #[rv a0, iv 32, iv 1, iv sh, un, un, un, un] [(.int (8 : Int32)), (.int ((sh + (32 : Int32)) + (7 : Int32))), (.int (1 : Int32)), (.int (2 : Int32))] _
      refine XS.idiv X41.here hx rfl (hb hby d4_32) rfl (by decide) ?_
      show oS p e below T41 m 33 #[rv a0, iv 32, iv 1, iv sh, un, un, un, un] [(.int (((sh + (32 : Int32)) + (7 : Int32)) / (8 : Int32))), (.int (1 : Int32)), (.int (2 : Int32))] _
      refine XS.iadd X41.here hx rfl (hb hby d4_33) rfl ?_
      exact kt)
    clear pre42
    obtain ⟨_, _, ⟨T45, L45, k45, n45⟩, -, X45, ⟨Lc45, hQ45, l45, y45, z45⟩, st45⟩ := Jvm.LawKit.callS X41 hx (y := (⟨"java/lang/Math", "min", "(II)I"⟩ : MethodName)) hown (mvT hZ (hw _ (List.mem_of_getElem? (i := 33) rfl))) (mvT hZ (hw _ (List.mem_of_getElem? (i := 34) rfl))) (mvT hZ (hw _ (List.mem_of_getElem? (i := 35) rfl))) (mvT hZ (hw _ (List.mem_of_getElem? (i := 36) rfl))) (by decide) (backOf (W := 0) (rm5 l Z av hw [] (2 : Int32) ((1 : Int32) + (((sh + (32 : Int32)) + (7 : Int32)) / (8 : Int32)))  h0 n0 Z0 ) hZ (hw _ (List.mem_of_getElem? (i := 36) rfl)) (hw _ (List.mem_of_getElem? (i := 35) rfl)) (by decide) (by decide)) (g := (mkF m 34 #[rv a0, iv 32, iv 1, iv sh, un, un, un, un] [(.int ((1 : Int32) + (((sh + (32 : Int32)) + (7 : Int32)) / (8 : Int32)))), (.int (2 : Int32))])) rfl (by rw [hml]; rfl) (argsL := [(.int (2 : Int32)), (.int ((1 : Int32) + (((sh + (32 : Int32)) + (7 : Int32)) / (8 : Int32))))]) (rest := []) (lenOf pd__II_I rfl) rfl (by show 2 * 0 + _ ≤ _; exact Nat.le_of_eq rfl) (hb hby d4_34) (fun _ _ => ⟨rfl, e41, (by decide : 0 + 0 ≤ _), (by decide : 0 + 0 ≤ _)⟩)
    dsimp only [Pt.U, Pt.locs, Pt.cells, Pt.slots] at X45 l45 y45 z45 st45 hQ45
    rw [l45, y45, z45] at X45
    clear l45 y45 z45
    obtain ⟨rfl, N45q, e45⟩ := hQ45
    have N45 := Fr.app N0 N45q
    have pre46 : ∀ t, oS p e below T45 m 37 #[rv a0, iv 32, iv 1, iv sh, un, un, un, un] [(.int (f_min (2 : Int32) ((1 : Int32) + (((sh + (32 : Int32)) + (7 : Int32)) / (8 : Int32)))))] t → oE p e below s₁ m #[(.ref a0), (.int (32 : Int32))] 8 t := fun t kt => pre44 t (st45 _ kt)
    clear pre44 st45
    have pre47 : ∀ t, oS p e below T45 m 39 #[rv a0, iv 32, iv 1, iv sh, iv (f_min (2 : Int32) ((1 : Int32) + (((sh + (32 : Int32)) + (7 : Int32)) / (8 : Int32)))), un, un, un] [] t → oE p e below s₁ m #[(.ref a0), (.int (32 : Int32))] 8 t := fun t kt => pre46 t (by
      show oS p e below T45 m 37 #[rv a0, iv 32, iv 1, iv sh, un, un, un, un] [(.int (f_min (2 : Int32) ((1 : Int32) + (((sh + (32 : Int32)) + (7 : Int32)) / (8 : Int32)))))] _
      refine XS.istore X45.here hx rfl (hb hby d4_37) rfl (l' := #[rv a0, iv 32, iv 1, iv sh, iv (f_min (2 : Int32) ((1 : Int32) + (((sh + (32 : Int32)) + (7 : Int32)) / (8 : Int32)))), un, un, un]) rfl ?_
      exact kt)
    clear pre46
    obtain ⟨en, hm48, pre48⟩ : ∃ (en : Int32), (en = (2 : Int32)) ∧ ∀ t, oS p e below T45 m 39 #[rv a0, iv 32, iv 1, iv sh, iv en, un, un, un] [] t → oE p e below s₁ m #[(.ref a0), (.int (32 : Int32))] 8 t := ⟨(f_min (2 : Int32) ((1 : Int32) + (((sh + (32 : Int32)) + (7 : Int32)) / (8 : Int32)))), own_enG (2 : Int32) (1 : Int32) sh (by decide) (by decide) hm39, pre47⟩
    clear pre47
    subst hm48
    have pre49 : ∀ t, oS p e below T45 m 55 #[rv a0, iv 32, iv 1, iv sh, iv 2, jv 0, sn, iv 1] [(.ref a0), (.long (0 : Int64))] t → oE p e below s₁ m #[(.ref a0), (.int (32 : Int32))] 8 t := fun t kt => pre48 t (by
      show oS p e below T45 m 39 #[rv a0, iv 32, iv 1, iv sh, iv 2, un, un, un] [] _
      refine XS.lconst X45.here hx rfl (hb hby d4_39) ?_
      show oS p e below T45 m 40 #[rv a0, iv 32, iv 1, iv sh, iv 2, un, un, un] [(.long (0 : Int64))] _
      refine XS.lstore X45.here hx rfl (hb hby d4_40) rfl (l' := #[rv a0, iv 32, iv 1, iv sh, iv 2, jv 0, sn, un]) rfl ?_
      show oS p e below T45 m 42 #[rv a0, iv 32, iv 1, iv sh, iv 2, jv 0, sn, un] [] _
      refine XS.iloadN X45.here hx rfl (hb hby d4_42) rfl ?_
      show oS p e below T45 m 43 #[rv a0, iv 32, iv 1, iv sh, iv 2, jv 0, sn, un] [(.int (1 : Int32))] _
      refine XS.istore X45.here hx rfl (hb hby d4_43) rfl (l' := #[rv a0, iv 32, iv 1, iv sh, iv 2, jv 0, sn, iv 1]) rfl ?_
      show oS p e below T45 m 45 #[rv a0, iv 32, iv 1, iv sh, iv 2, jv 0, sn, iv 1] [] _
      refine XS.iload X45.here hx rfl (hb hby d4_45) rfl ?_
      show oS p e below T45 m 47 #[rv a0, iv 32, iv 1, iv sh, iv 2, jv 0, sn, iv 1] [(.int (1 : Int32))] _
      refine XS.iload X45.here hx rfl (hb hby d4_47) rfl ?_
      show oS p e below T45 m 49 #[rv a0, iv 32, iv 1, iv sh, iv 2, jv 0, sn, iv 1] [(.int (2 : Int32)), (.int (1 : Int32))] _
      refine XS.icmpNo X45.here hx rfl (hb hby d4_49) rfl (tlt (by decide : (1 : Int32) < (2 : Int32))).2.1 ?_
      show oS p e below T45 m 52 #[rv a0, iv 32, iv 1, iv sh, iv 2, jv 0, sn, iv 1] [] _
      refine XS.lload X45.here hx rfl (hb hby d4_52) rfl ?_
      show oS p e below T45 m 54 #[rv a0, iv 32, iv 1, iv sh, iv 2, jv 0, sn, iv 1] [(.long (0 : Int64))] _
      refine XS.aloadN X45.here hx rfl (hb hby d4_54) rfl rfl ?_
      exact kt)
    clear pre48
    obtain ⟨T50, X50, e50, st50⟩ := getF X45 hx hZ hown (host := "") (Or.inl (hw _ (List.mem_of_getElem? (i := 13) rfl))) Via.refl e45 I_data (g := (mkF m 55 #[rv a0, iv 32, iv 1, iv sh, iv 2, jv 0, sn, iv 1] [(.ref a0), (.long (0 : Int64))])) rfl rfl (hb hby d4_55)
    have pre51 : ∀ t, oS p e below T50 m 58 #[rv a0, iv 32, iv 1, iv sh, iv 2, jv 0, sn, iv 1] [(.ref ab), (.long (0 : Int64))] t → oE p e below s₁ m #[(.ref a0), (.int (32 : Int32))] 8 t := fun t kt => pre49 t (st50 _ kt)
    clear pre49 st50
    have pre52 : ∀ t, oS p e below T50 m 60 #[rv a0, iv 32, iv 1, iv sh, iv 2, jv 0, sn, iv 1] [(.int (1 : Int32)), (.ref ab), (.long (0 : Int64))] t → oE p e below s₁ m #[(.ref a0), (.int (32 : Int32))] 8 t := fun t kt => pre51 t (by
      show oS p e below T50 m 58 #[rv a0, iv 32, iv 1, iv sh, iv 2, jv 0, sn, iv 1] [(.ref ab), (.long (0 : Int64))] _
      refine XS.iload X50.here hx rfl (hb hby d4_58) rfl ?_
      exact kt)
    clear pre51
    have tv53 := V1
    obtain ⟨cl53, Ar53, q53, S53, Ng53, H53, G53⟩ := tv53
    have hin53 : ¬ ((1 : Int32) < 0 ∨ cl53.slots.size ≤ ((1 : Int32)).toNatClampNeg) := inb_of S53 ⟨by decide, by decide⟩
    have hat53 : cl53.slots[((1 : Int32)).toNatClampNeg]? = some (.int b1) := Has.at H53 hin53 rfl
    have pre54 : ∀ t, oS p e below T50 m 77 #[rv a0, iv 32, iv 1, iv sh, iv 2, jv ((0 : Int64) ||| (((b1.toInt64) &&& (255 : Int64)) <<< ((0 : Int32) &&& 0x3f).toInt64)), sn, iv 1] [] t → oE p e below s₁ m #[(.ref a0), (.int (32 : Int32))] 8 t := fun t kt => pre52 t (by
      show oS p e below T50 m 60 #[rv a0, iv 32, iv 1, iv sh, iv 2, jv 0, sn, iv 1] [(.int (1 : Int32)), (.ref ab), (.long (0 : Int64))] _
      refine X50.baloadBytes hx (j := (1 : Int32)) (v := (.int b1)) (by rw [e50]; exact Ar53.1) (State.isArrayOf_alike hZ.alike Ar53.2.1) Ar53.2.2 hin53 hat53 (g := (mkF m 60 #[rv a0, iv 32, iv 1, iv sh, iv 2, jv 0, sn, iv 1] [(.int (1 : Int32)), (.ref ab), (.long (0 : Int64))])) rfl rfl (hb hby d4_60) _ ?_
      show oS p e below T50 m 61 #[rv a0, iv 32, iv 1, iv sh, iv 2, jv 0, sn, iv 1] [(.int b1), (.long (0 : Int64))] _
      refine XS.i2l X50.here hx rfl (hb hby d4_61) rfl ?_
      show oS p e below T50 m 62 #[rv a0, iv 32, iv 1, iv sh, iv 2, jv 0, sn, iv 1] [(.long (b1.toInt64)), (.long (0 : Int64))] _
      refine X50.ldc2Long hx hown (mvT hZ (hw _ (List.mem_of_getElem? (i := 42) rfl))) (g := (mkF m 62 #[rv a0, iv 32, iv 1, iv sh, iv 2, jv 0, sn, iv 1] [(.long (b1.toInt64)), (.long (0 : Int64))])) rfl (hb hby d4_62) _ ?_
      show oS p e below T50 m 65 #[rv a0, iv 32, iv 1, iv sh, iv 2, jv 0, sn, iv 1] [(.long (255 : Int64)), (.long (b1.toInt64)), (.long (0 : Int64))] _
      refine XS.land X50.here hx rfl (hb hby d4_65) rfl ?_
      show oS p e below T50 m 66 #[rv a0, iv 32, iv 1, iv sh, iv 2, jv 0, sn, iv 1] [(.long ((b1.toInt64) &&& (255 : Int64))), (.long (0 : Int64))] _
      refine XS.bipush X50.here hx rfl (hb hby d4_66) ?_
      show oS p e below T50 m 68 #[rv a0, iv 32, iv 1, iv sh, iv 2, jv 0, sn, iv 1] [(.int (8 : Int32)), (.long ((b1.toInt64) &&& (255 : Int64))), (.long (0 : Int64))] _
      refine XS.iload X50.here hx rfl (hb hby d4_68) rfl ?_
      show oS p e below T50 m 70 #[rv a0, iv 32, iv 1, iv sh, iv 2, jv 0, sn, iv 1] [(.int (1 : Int32)), (.int (8 : Int32)), (.long ((b1.toInt64) &&& (255 : Int64))), (.long (0 : Int64))] _
      refine XS.iloadN X50.here hx rfl (hb hby d4_70) rfl ?_
      show oS p e below T50 m 71 #[rv a0, iv 32, iv 1, iv sh, iv 2, jv 0, sn, iv 1] [(.int (1 : Int32)), (.int (1 : Int32)), (.int (8 : Int32)), (.long ((b1.toInt64) &&& (255 : Int64))), (.long (0 : Int64))] _
      refine XS.isub X50.here hx rfl (hb hby d4_71) rfl ?_
      show oS p e below T50 m 72 #[rv a0, iv 32, iv 1, iv sh, iv 2, jv 0, sn, iv 1] [(.int (0 : Int32)), (.int (8 : Int32)), (.long ((b1.toInt64) &&& (255 : Int64))), (.long (0 : Int64))] _
      refine XS.imul X50.here hx rfl (hb hby d4_72) rfl ?_
      show oS p e below T50 m 73 #[rv a0, iv 32, iv 1, iv sh, iv 2, jv 0, sn, iv 1] [(.int (0 : Int32)), (.long ((b1.toInt64) &&& (255 : Int64))), (.long (0 : Int64))] _
      refine XS.lshl X50.here hx rfl (hb hby d4_73) rfl ?_
      show oS p e below T50 m 74 #[rv a0, iv 32, iv 1, iv sh, iv 2, jv 0, sn, iv 1] [(.long (((b1.toInt64) &&& (255 : Int64)) <<< ((0 : Int32) &&& 0x3f).toInt64)), (.long (0 : Int64))] _
      refine XS.lor X50.here hx rfl (hb hby d4_74) rfl ?_
      show oS p e below T50 m 75 #[rv a0, iv 32, iv 1, iv sh, iv 2, jv 0, sn, iv 1] [(.long ((0 : Int64) ||| (((b1.toInt64) &&& (255 : Int64)) <<< ((0 : Int32) &&& 0x3f).toInt64)))] _
      refine XS.lstore X50.here hx rfl (hb hby d4_75) rfl (l' := #[rv a0, iv 32, iv 1, iv sh, iv 2, jv ((0 : Int64) ||| (((b1.toInt64) &&& (255 : Int64)) <<< ((0 : Int32) &&& 0x3f).toInt64)), sn, iv 1]) rfl ?_
      exact kt)
    clear pre52
    obtain ⟨ac1, hm55, pre55⟩ : ∃ (ac1 : Int64), (ac1.toInt = 1 * (b1.toInt % 256)) ∧ ∀ t, oS p e below T50 m 77 #[rv a0, iv 32, iv 1, iv sh, iv 2, jv ac1, sn, iv 1] [] t → oE p e below s₁ m #[(.ref a0), (.int (32 : Int32))] 8 t := ⟨((0 : Int64) ||| (((b1.toInt64) &&& (255 : Int64)) <<< ((0 : Int32) &&& 0x3f).toInt64)), own_ac0 b1, pre54⟩
    clear pre54
    have pre56 : ∀ t, oS p e below T50 m 94 #[rv a0, iv 32, iv 1, iv sh, iv 2, jv ac1, sn, iv 2] [(.int ((((ac1.toUInt64 >>> (sh &&& 0x3f).toInt64.toUInt64).toInt64) &&& (((1 : Int64) <<< ((32 : Int32) &&& 0x3f).toInt64) - (1 : Int64))).toInt32))] t → oE p e below s₁ m #[(.ref a0), (.int (32 : Int32))] 8 t := fun t kt => pre55 t (by
      show oS p e below T50 m 77 #[rv a0, iv 32, iv 1, iv sh, iv 2, jv ac1, sn, iv 1] [] _
      refine XS.iinc X50.here hx rfl (hb hby d4_77) rfl (l' := #[rv a0, iv 32, iv 1, iv sh, iv 2, jv ac1, sn, iv 2]) rfl ?_
      show oS p e below T50 m 80 #[rv a0, iv 32, iv 1, iv sh, iv 2, jv ac1, sn, iv 2] [] _
      refine XS.goto X50.here hx rfl (pc0 := 80) (pc' := 45) rfl (hb hby d4_80) (by decide) (by decide) ?_
      show oS p e below T50 m 45 #[rv a0, iv 32, iv 1, iv sh, iv 2, jv ac1, sn, iv 2] [] _
      refine XS.iload X50.here hx rfl (hb hby d4_45) rfl ?_
      show oS p e below T50 m 47 #[rv a0, iv 32, iv 1, iv sh, iv 2, jv ac1, sn, iv 2] [(.int (2 : Int32))] _
      refine XS.iload X50.here hx rfl (hb hby d4_47) rfl ?_
      show oS p e below T50 m 49 #[rv a0, iv 32, iv 1, iv sh, iv 2, jv ac1, sn, iv 2] [(.int (2 : Int32)), (.int (2 : Int32))] _
      refine XS.icmpYes X50.here hx rfl (pc0 := 49) (pc' := 83) rfl (hb hby d4_49) rfl (flt (by decide : ¬ ((2 : Int32) < (2 : Int32)))).2.1 (by decide) (by decide) ?_
      show oS p e below T50 m 83 #[rv a0, iv 32, iv 1, iv sh, iv 2, jv ac1, sn, iv 2] [] _
      refine XS.lload X50.here hx rfl (hb hby d4_83) rfl ?_
      show oS p e below T50 m 85 #[rv a0, iv 32, iv 1, iv sh, iv 2, jv ac1, sn, iv 2] [(.long ac1)] _
      refine XS.iloadN X50.here hx rfl (hb hby d4_85) rfl ?_
      show oS p e below T50 m 86 #[rv a0, iv 32, iv 1, iv sh, iv 2, jv ac1, sn, iv 2] [(.int sh), (.long ac1)] _
      refine XS.lushr X50.here hx rfl (hb hby d4_86) rfl ?_
      show oS p e below T50 m 87 #[rv a0, iv 32, iv 1, iv sh, iv 2, jv ac1, sn, iv 2] [(.long ((ac1.toUInt64 >>> (sh &&& 0x3f).toInt64.toUInt64).toInt64))] _
      refine XS.lconst X50.here hx rfl (hb hby d4_87) ?_
      show oS p e below T50 m 88 #[rv a0, iv 32, iv 1, iv sh, iv 2, jv ac1, sn, iv 2] [(.long (1 : Int64)), (.long ((ac1.toUInt64 >>> (sh &&& 0x3f).toInt64.toUInt64).toInt64))] _
      refine XS.iloadN X50.here hx rfl (hb hby d4_88) rfl ?_
      show oS p e below T50 m 89 #[rv a0, iv 32, iv 1, iv sh, iv 2, jv ac1, sn, iv 2] [(.int (32 : Int32)), (.long (1 : Int64)), (.long ((ac1.toUInt64 >>> (sh &&& 0x3f).toInt64.toUInt64).toInt64))] _
      refine XS.lshl X50.here hx rfl (hb hby d4_89) rfl ?_
      show oS p e below T50 m 90 #[rv a0, iv 32, iv 1, iv sh, iv 2, jv ac1, sn, iv 2] [(.long ((1 : Int64) <<< ((32 : Int32) &&& 0x3f).toInt64)), (.long ((ac1.toUInt64 >>> (sh &&& 0x3f).toInt64.toUInt64).toInt64))] _
      refine XS.lconst X50.here hx rfl (hb hby d4_90) ?_
      show oS p e below T50 m 91 #[rv a0, iv 32, iv 1, iv sh, iv 2, jv ac1, sn, iv 2] [(.long (1 : Int64)), (.long ((1 : Int64) <<< ((32 : Int32) &&& 0x3f).toInt64)), (.long ((ac1.toUInt64 >>> (sh &&& 0x3f).toInt64.toUInt64).toInt64))] _
      refine XS.lsub X50.here hx rfl (hb hby d4_91) rfl ?_
      show oS p e below T50 m 92 #[rv a0, iv 32, iv 1, iv sh, iv 2, jv ac1, sn, iv 2] [(.long (((1 : Int64) <<< ((32 : Int32) &&& 0x3f).toInt64) - (1 : Int64))), (.long ((ac1.toUInt64 >>> (sh &&& 0x3f).toInt64.toUInt64).toInt64))] _
      refine XS.land X50.here hx rfl (hb hby d4_92) rfl ?_
      show oS p e below T50 m 93 #[rv a0, iv 32, iv 1, iv sh, iv 2, jv ac1, sn, iv 2] [(.long (((ac1.toUInt64 >>> (sh &&& 0x3f).toInt64.toUInt64).toInt64) &&& (((1 : Int64) <<< ((32 : Int32) &&& 0x3f).toInt64) - (1 : Int64))))] _
      refine XS.l2i X50.here hx rfl (hb hby d4_93) rfl ?_
      exact kt)
    clear pre55
    have hr0 : ((((ac1.toUInt64 >>> (sh &&& 0x3f).toInt64.toUInt64).toInt64) &&& (((1 : Int64) <<< ((32 : Int32) &&& 0x3f).toInt64) - (1 : Int64))).toInt32) = Int32.ofInt ((1 * (b0.toInt % 256) + 256 * (b1.toInt % 256)) / 2 ^ ps.toInt.toNat) := own_fin ac1 sh ps (1 * (b0.toInt % 256) + 256 * (b1.toInt % 256)) 1 256 (by decide) hps.1 hk1 hm39 (by omega) (by have q := hm55; omega)
    rw [hr0] at pre56
    obtain ⟨fs, hr, hrun, hended, hW, hsame⟩ := X50.leave (v := some (.int (Int32.ofInt ((1 * (b0.toInt % 256) + 256 * (b1.toInt % 256)) / 2 ^ ps.toInt.toNat)))) (fun h => by rw [Bd.returns] at h; cases h)
    refine ⟨_, _, pre56 _ ?_, hrun, hended, _, _, rfl, ?_, ⟨_, rfl⟩, hW, hsame.mono (by decide) (by decide)⟩
    · show oS p e below T50 m 94 #[rv a0, iv 32, iv 1, iv sh, iv 2, jv ac1, sn, iv 2] [(.int (Int32.ofInt ((1 * (b0.toInt % 256) + 256 * (b1.toInt % 256)) / 2 ^ ps.toInt.toNat)))] _
      exact retI X50 hx Bd.returns (hb hby d4_94) hr
    · show Q4p2 Z a0 ab sz ps ed kb b0 b1 h0 n0 _ T50.heap _
      rw [e50]
      exact ⟨rfl, N45, rfl⟩
  · have hk2 : ps.toInt / 8 = 2 := hk0.trans (by decide)
    have pre57 : ∀ t, oS p e below T2 m 9 #[rv a0, iv 32, iv 2, un, un, un, un, un] [(.ref a0)] t → oE p e below s₁ m #[(.ref a0), (.int (32 : Int32))] 8 t := fun t kt => pre5 t (by
      show oS p e below T2 m 8 #[rv a0, iv 32, iv 2, un, un, un, un, un] [] _
      refine XS.aloadN X2.here hx rfl (hb hby d4_8) rfl rfl ?_
      exact kt)
    clear pre5
    obtain ⟨T58, X58, e58, st58⟩ := getF X2 hx hZ hown (host := "") (Or.inl (hw _ (List.mem_of_getElem? (i := 23) rfl))) Via.refl e2 I_position (g := (mkF m 9 #[rv a0, iv 32, iv 2, un, un, un, un, un] [(.ref a0)])) rfl rfl (hb hby d4_9)
    have pre59 : ∀ t, oS p e below T58 m 12 #[rv a0, iv 32, iv 2, un, un, un, un, un] [(.long ps)] t → oE p e below s₁ m #[(.ref a0), (.int (32 : Int32))] 8 t := fun t kt => pre57 t (st58 _ kt)
    clear pre57 st58
    have pre60 : ∀ t, oS p e below T58 m 18 #[rv a0, iv 32, iv 2, iv ((ps &&& (7 : Int64)).toInt32), un, un, un, un] [] t → oE p e below s₁ m #[(.ref a0), (.int (32 : Int32))] 8 t := fun t kt => pre59 t (by
      show oS p e below T58 m 12 #[rv a0, iv 32, iv 2, un, un, un, un, un] [(.long ps)] _
      refine X58.ldc2Long hx hown (mvT hZ (hw _ (List.mem_of_getElem? (i := 32) rfl))) (g := (mkF m 12 #[rv a0, iv 32, iv 2, un, un, un, un, un] [(.long ps)])) rfl (hb hby d4_12) _ ?_
      show oS p e below T58 m 15 #[rv a0, iv 32, iv 2, un, un, un, un, un] [(.long (7 : Int64)), (.long ps)] _
      refine XS.land X58.here hx rfl (hb hby d4_15) rfl ?_
      show oS p e below T58 m 16 #[rv a0, iv 32, iv 2, un, un, un, un, un] [(.long (ps &&& (7 : Int64)))] _
      refine XS.l2i X58.here hx rfl (hb hby d4_16) rfl ?_
      show oS p e below T58 m 17 #[rv a0, iv 32, iv 2, un, un, un, un, un] [(.int ((ps &&& (7 : Int64)).toInt32))] _
      refine XS.istoreN X58.here hx rfl (hb hby d4_17) rfl (l' := #[rv a0, iv 32, iv 2, iv ((ps &&& (7 : Int64)).toInt32), un, un, un, un]) rfl ?_
      exact kt)
    clear pre59
    obtain ⟨sh, hm61, pre61⟩ : ∃ (sh : Int32), (sh.toInt = ps.toInt % 8) ∧ ∀ t, oS p e below T58 m 18 #[rv a0, iv 32, iv 2, iv sh, un, un, un, un] [] t → oE p e below s₁ m #[(.ref a0), (.int (32 : Int32))] 8 t := ⟨((ps &&& (7 : Int64)).toInt32), own_sh ps hps, pre60⟩
    clear pre60
    have pre62 : ∀ t, oS p e below T58 m 19 #[rv a0, iv 32, iv 2, iv sh, un, un, un, un] [(.ref a0)] t → oE p e below s₁ m #[(.ref a0), (.int (32 : Int32))] 8 t := fun t kt => pre61 t (by
      show oS p e below T58 m 18 #[rv a0, iv 32, iv 2, iv sh, un, un, un, un] [] _
      refine XS.aloadN X58.here hx rfl (hb hby d4_18) rfl rfl ?_
      exact kt)
    clear pre61
    obtain ⟨T63, X63, e63, st63⟩ := getF X58 hx hZ hown (host := "") (Or.inl (hw _ (List.mem_of_getElem? (i := 13) rfl))) Via.refl e58 I_data (g := (mkF m 19 #[rv a0, iv 32, iv 2, iv sh, un, un, un, un] [(.ref a0)])) rfl rfl (hb hby d4_19)
    have pre64 : ∀ t, oS p e below T63 m 22 #[rv a0, iv 32, iv 2, iv sh, un, un, un, un] [(.ref ab)] t → oE p e below s₁ m #[(.ref a0), (.int (32 : Int32))] 8 t := fun t kt => pre62 t (st63 _ kt)
    clear pre62 st63
    have tv65 := V1
    obtain ⟨cl65, Ar65, q65, S65, Ng65, H65, G65⟩ := tv65
    have pre66 : ∀ t, oS p e below T63 m 34 #[rv a0, iv 32, iv 2, iv sh, un, un, un, un] [(.int ((2 : Int32) + (((sh + (32 : Int32)) + (7 : Int32)) / (8 : Int32)))), (.int (2 : Int32))] t → oE p e below s₁ m #[(.ref a0), (.int (32 : Int32))] 8 t := fun t kt => pre64 t (by
      show oS p e below T63 m 22 #[rv a0, iv 32, iv 2, iv sh, un, un, un, un] [(.ref ab)] _
      refine X63.arraylength hx (by rw [e63]; exact Ar65.1) (State.isArrayOf_alike hZ.alike Ar65.2.1) (g := (mkF m 22 #[rv a0, iv 32, iv 2, iv sh, un, un, un, un] [(.ref ab)])) rfl rfl (hb hby d4_22) _ ?_
      rw [len_of S65 Ng65]
      show oS p e below T63 m 23 #[rv a0, iv 32, iv 2, iv sh, un, un, un, un] [(.int (2 : Int32))] _
      refine XS.iloadN X63.here hx rfl (hb hby d4_23) rfl ?_
      show oS p e below T63 m 24 #[rv a0, iv 32, iv 2, iv sh, un, un, un, un] [(.int (2 : Int32)), (.int (2 : Int32))] _
      refine XS.iloadN X63.here hx rfl (hb hby d4_24) rfl ?_
      show oS p e below T63 m 25 #[rv a0, iv 32, iv 2, iv sh, un, un, un, un] [(.int sh), (.int (2 : Int32)), (.int (2 : Int32))] _
      refine XS.iloadN X63.here hx rfl (hb hby d4_25) rfl ?_
      show oS p e below T63 m 26 #[rv a0, iv 32, iv 2, iv sh, un, un, un, un] [(.int (32 : Int32)), (.int sh), (.int (2 : Int32)), (.int (2 : Int32))] _
      refine XS.iadd X63.here hx rfl (hb hby d4_26) rfl ?_
      show oS p e below T63 m 27 #[rv a0, iv 32, iv 2, iv sh, un, un, un, un] [(.int (sh + (32 : Int32))), (.int (2 : Int32)), (.int (2 : Int32))] _
      refine XS.bipush X63.here hx rfl (hb hby d4_27) ?_
      show oS p e below T63 m 29 #[rv a0, iv 32, iv 2, iv sh, un, un, un, un] [(.int (7 : Int32)), (.int (sh + (32 : Int32))), (.int (2 : Int32)), (.int (2 : Int32))] _
      refine XS.iadd X63.here hx rfl (hb hby d4_29) rfl ?_
      show oS p e below T63 m 30 #[rv a0, iv 32, iv 2, iv sh, un, un, un, un] [(.int ((sh + (32 : Int32)) + (7 : Int32))), (.int (2 : Int32)), (.int (2 : Int32))] _
      refine XS.bipush X63.here hx rfl (hb hby d4_30) ?_
      show oS p e below T63 m 32 #[rv a0, iv 32, iv 2, iv sh, un, un, un, un] [(.int (8 : Int32)), (.int ((sh + (32 : Int32)) + (7 : Int32))), (.int (2 : Int32)), (.int (2 : Int32))] _
      refine XS.idiv X63.here hx rfl (hb hby d4_32) rfl (by decide) ?_
      show oS p e below T63 m 33 #[rv a0, iv 32, iv 2, iv sh, un, un, un, un] [(.int (((sh + (32 : Int32)) + (7 : Int32)) / (8 : Int32))), (.int (2 : Int32)), (.int (2 : Int32))] _
      refine XS.iadd X63.here hx rfl (hb hby d4_33) rfl ?_
      exact kt)
    clear pre64
    obtain ⟨_, _, ⟨T67, L67, k67, n67⟩, -, X67, ⟨Lc67, hQ67, l67, y67, z67⟩, st67⟩ := Jvm.LawKit.callS X63 hx (y := (⟨"java/lang/Math", "min", "(II)I"⟩ : MethodName)) hown (mvT hZ (hw _ (List.mem_of_getElem? (i := 33) rfl))) (mvT hZ (hw _ (List.mem_of_getElem? (i := 34) rfl))) (mvT hZ (hw _ (List.mem_of_getElem? (i := 35) rfl))) (mvT hZ (hw _ (List.mem_of_getElem? (i := 36) rfl))) (by decide) (backOf (W := 0) (rm5 l Z av hw [] (2 : Int32) ((2 : Int32) + (((sh + (32 : Int32)) + (7 : Int32)) / (8 : Int32)))  h0 n0 Z0 ) hZ (hw _ (List.mem_of_getElem? (i := 36) rfl)) (hw _ (List.mem_of_getElem? (i := 35) rfl)) (by decide) (by decide)) (g := (mkF m 34 #[rv a0, iv 32, iv 2, iv sh, un, un, un, un] [(.int ((2 : Int32) + (((sh + (32 : Int32)) + (7 : Int32)) / (8 : Int32)))), (.int (2 : Int32))])) rfl (by rw [hml]; rfl) (argsL := [(.int (2 : Int32)), (.int ((2 : Int32) + (((sh + (32 : Int32)) + (7 : Int32)) / (8 : Int32))))]) (rest := []) (lenOf pd__II_I rfl) rfl (by show 2 * 0 + _ ≤ _; exact Nat.le_of_eq rfl) (hb hby d4_34) (fun _ _ => ⟨rfl, e63, (by decide : 0 + 0 ≤ _), (by decide : 0 + 0 ≤ _)⟩)
    dsimp only [Pt.U, Pt.locs, Pt.cells, Pt.slots] at X67 l67 y67 z67 st67 hQ67
    rw [l67, y67, z67] at X67
    clear l67 y67 z67
    obtain ⟨rfl, N67q, e67⟩ := hQ67
    have N67 := Fr.app N0 N67q
    have pre68 : ∀ t, oS p e below T67 m 37 #[rv a0, iv 32, iv 2, iv sh, un, un, un, un] [(.int (f_min (2 : Int32) ((2 : Int32) + (((sh + (32 : Int32)) + (7 : Int32)) / (8 : Int32)))))] t → oE p e below s₁ m #[(.ref a0), (.int (32 : Int32))] 8 t := fun t kt => pre66 t (st67 _ kt)
    clear pre66 st67
    have pre69 : ∀ t, oS p e below T67 m 39 #[rv a0, iv 32, iv 2, iv sh, iv (f_min (2 : Int32) ((2 : Int32) + (((sh + (32 : Int32)) + (7 : Int32)) / (8 : Int32)))), un, un, un] [] t → oE p e below s₁ m #[(.ref a0), (.int (32 : Int32))] 8 t := fun t kt => pre68 t (by
      show oS p e below T67 m 37 #[rv a0, iv 32, iv 2, iv sh, un, un, un, un] [(.int (f_min (2 : Int32) ((2 : Int32) + (((sh + (32 : Int32)) + (7 : Int32)) / (8 : Int32)))))] _
      refine XS.istore X67.here hx rfl (hb hby d4_37) rfl (l' := #[rv a0, iv 32, iv 2, iv sh, iv (f_min (2 : Int32) ((2 : Int32) + (((sh + (32 : Int32)) + (7 : Int32)) / (8 : Int32)))), un, un, un]) rfl ?_
      exact kt)
    clear pre68
    obtain ⟨en, hm70, pre70⟩ : ∃ (en : Int32), (en = (2 : Int32)) ∧ ∀ t, oS p e below T67 m 39 #[rv a0, iv 32, iv 2, iv sh, iv en, un, un, un] [] t → oE p e below s₁ m #[(.ref a0), (.int (32 : Int32))] 8 t := ⟨(f_min (2 : Int32) ((2 : Int32) + (((sh + (32 : Int32)) + (7 : Int32)) / (8 : Int32)))), own_enG (2 : Int32) (2 : Int32) sh (by decide) (by decide) hm61, pre69⟩
    clear pre69
    subst hm70
    have pre71 : ∀ t, oS p e below T67 m 94 #[rv a0, iv 32, iv 2, iv sh, iv 2, jv 0, sn, iv 2] [(.int (((((0 : Int64).toUInt64 >>> (sh &&& 0x3f).toInt64.toUInt64).toInt64) &&& (((1 : Int64) <<< ((32 : Int32) &&& 0x3f).toInt64) - (1 : Int64))).toInt32))] t → oE p e below s₁ m #[(.ref a0), (.int (32 : Int32))] 8 t := fun t kt => pre70 t (by
      show oS p e below T67 m 39 #[rv a0, iv 32, iv 2, iv sh, iv 2, un, un, un] [] _
      refine XS.lconst X67.here hx rfl (hb hby d4_39) ?_
      show oS p e below T67 m 40 #[rv a0, iv 32, iv 2, iv sh, iv 2, un, un, un] [(.long (0 : Int64))] _
      refine XS.lstore X67.here hx rfl (hb hby d4_40) rfl (l' := #[rv a0, iv 32, iv 2, iv sh, iv 2, jv 0, sn, un]) rfl ?_
      show oS p e below T67 m 42 #[rv a0, iv 32, iv 2, iv sh, iv 2, jv 0, sn, un] [] _
      refine XS.iloadN X67.here hx rfl (hb hby d4_42) rfl ?_
      show oS p e below T67 m 43 #[rv a0, iv 32, iv 2, iv sh, iv 2, jv 0, sn, un] [(.int (2 : Int32))] _
      refine XS.istore X67.here hx rfl (hb hby d4_43) rfl (l' := #[rv a0, iv 32, iv 2, iv sh, iv 2, jv 0, sn, iv 2]) rfl ?_
      show oS p e below T67 m 45 #[rv a0, iv 32, iv 2, iv sh, iv 2, jv 0, sn, iv 2] [] _
      refine XS.iload X67.here hx rfl (hb hby d4_45) rfl ?_
      show oS p e below T67 m 47 #[rv a0, iv 32, iv 2, iv sh, iv 2, jv 0, sn, iv 2] [(.int (2 : Int32))] _
      refine XS.iload X67.here hx rfl (hb hby d4_47) rfl ?_
      show oS p e below T67 m 49 #[rv a0, iv 32, iv 2, iv sh, iv 2, jv 0, sn, iv 2] [(.int (2 : Int32)), (.int (2 : Int32))] _
      refine XS.icmpYes X67.here hx rfl (pc0 := 49) (pc' := 83) rfl (hb hby d4_49) rfl (flt (by decide : ¬ ((2 : Int32) < (2 : Int32)))).2.1 (by decide) (by decide) ?_
      show oS p e below T67 m 83 #[rv a0, iv 32, iv 2, iv sh, iv 2, jv 0, sn, iv 2] [] _
      refine XS.lload X67.here hx rfl (hb hby d4_83) rfl ?_
      show oS p e below T67 m 85 #[rv a0, iv 32, iv 2, iv sh, iv 2, jv 0, sn, iv 2] [(.long (0 : Int64))] _
      refine XS.iloadN X67.here hx rfl (hb hby d4_85) rfl ?_
      show oS p e below T67 m 86 #[rv a0, iv 32, iv 2, iv sh, iv 2, jv 0, sn, iv 2] [(.int sh), (.long (0 : Int64))] _
      refine XS.lushr X67.here hx rfl (hb hby d4_86) rfl ?_
      show oS p e below T67 m 87 #[rv a0, iv 32, iv 2, iv sh, iv 2, jv 0, sn, iv 2] [(.long (((0 : Int64).toUInt64 >>> (sh &&& 0x3f).toInt64.toUInt64).toInt64))] _
      refine XS.lconst X67.here hx rfl (hb hby d4_87) ?_
      show oS p e below T67 m 88 #[rv a0, iv 32, iv 2, iv sh, iv 2, jv 0, sn, iv 2] [(.long (1 : Int64)), (.long (((0 : Int64).toUInt64 >>> (sh &&& 0x3f).toInt64.toUInt64).toInt64))] _
      refine XS.iloadN X67.here hx rfl (hb hby d4_88) rfl ?_
      show oS p e below T67 m 89 #[rv a0, iv 32, iv 2, iv sh, iv 2, jv 0, sn, iv 2] [(.int (32 : Int32)), (.long (1 : Int64)), (.long (((0 : Int64).toUInt64 >>> (sh &&& 0x3f).toInt64.toUInt64).toInt64))] _
      refine XS.lshl X67.here hx rfl (hb hby d4_89) rfl ?_
      show oS p e below T67 m 90 #[rv a0, iv 32, iv 2, iv sh, iv 2, jv 0, sn, iv 2] [(.long ((1 : Int64) <<< ((32 : Int32) &&& 0x3f).toInt64)), (.long (((0 : Int64).toUInt64 >>> (sh &&& 0x3f).toInt64.toUInt64).toInt64))] _
      refine XS.lconst X67.here hx rfl (hb hby d4_90) ?_
      show oS p e below T67 m 91 #[rv a0, iv 32, iv 2, iv sh, iv 2, jv 0, sn, iv 2] [(.long (1 : Int64)), (.long ((1 : Int64) <<< ((32 : Int32) &&& 0x3f).toInt64)), (.long (((0 : Int64).toUInt64 >>> (sh &&& 0x3f).toInt64.toUInt64).toInt64))] _
      refine XS.lsub X67.here hx rfl (hb hby d4_91) rfl ?_
      show oS p e below T67 m 92 #[rv a0, iv 32, iv 2, iv sh, iv 2, jv 0, sn, iv 2] [(.long (((1 : Int64) <<< ((32 : Int32) &&& 0x3f).toInt64) - (1 : Int64))), (.long (((0 : Int64).toUInt64 >>> (sh &&& 0x3f).toInt64.toUInt64).toInt64))] _
      refine XS.land X67.here hx rfl (hb hby d4_92) rfl ?_
      show oS p e below T67 m 93 #[rv a0, iv 32, iv 2, iv sh, iv 2, jv 0, sn, iv 2] [(.long ((((0 : Int64).toUInt64 >>> (sh &&& 0x3f).toInt64.toUInt64).toInt64) &&& (((1 : Int64) <<< ((32 : Int32) &&& 0x3f).toInt64) - (1 : Int64))))] _
      refine XS.l2i X67.here hx rfl (hb hby d4_93) rfl ?_
      exact kt)
    clear pre70
    have hr0 : (((((0 : Int64).toUInt64 >>> (sh &&& 0x3f).toInt64.toUInt64).toInt64) &&& (((1 : Int64) <<< ((32 : Int32) &&& 0x3f).toInt64) - (1 : Int64))).toInt32) = Int32.ofInt ((1 * (b0.toInt % 256) + 256 * (b1.toInt % 256)) / 2 ^ ps.toInt.toNat) := own_fin (0 : Int64) sh ps (1 * (b0.toInt % 256) + 256 * (b1.toInt % 256)) 2 65536 (by decide) hps.1 hk2 hm61 (by omega) (by have q : (0 : Int64).toInt = 0 := (by decide); omega)
    rw [hr0] at pre71
    obtain ⟨fs, hr, hrun, hended, hW, hsame⟩ := X67.leave (v := some (.int (Int32.ofInt ((1 * (b0.toInt % 256) + 256 * (b1.toInt % 256)) / 2 ^ ps.toInt.toNat)))) (fun h => by rw [Bd.returns] at h; cases h)
    refine ⟨_, _, pre71 _ ?_, hrun, hended, _, _, rfl, ?_, ⟨_, rfl⟩, hW, hsame.mono (by decide) (by decide)⟩
    · show oS p e below T67 m 94 #[rv a0, iv 32, iv 2, iv sh, iv 2, jv 0, sn, iv 2] [(.int (Int32.ofInt ((1 * (b0.toInt % 256) + 256 * (b1.toInt % 256)) / 2 ^ ps.toInt.toNat)))] _
      exact retI X67 hx Bd.returns (hb hby d4_94) hr
    · show Q4p2 Z a0 ab sz ps ed kb b0 b1 h0 n0 _ T67.heap _
      rw [e67]
      exact ⟨rfl, N67, rfl⟩
theorem ef4p3 (m : MethodId) (x0 : Addr) : entryFrame m #[(.ref x0), (.int (32 : Int32))] 8 = mkF m 0 #[rv x0, iv 32, un, un, un, un, un, un] [] := by first | (simp [entryFrame, mkF, argsToLocals, Value.category]; done) | rfl
def Q4p3 (Z : State) (a0 : Addr) (ab : Addr) (sz : Int64) (ps : Int64) (ed : Int32) (kb : ClassId) (b0 : Int32) (b1 : Int32) (b2 : Int32) (h0 : Heap) (n0 : Nat) (v : Option Value) (h : Heap) (L : List Loc) : Prop := v = some (.int (Int32.ofInt ((1 * (b0.toInt % 256) + 256 * (b1.toInt % 256) + 65536 * (b2.toInt % 256)) / 2 ^ ps.toInt.toNat))) ∧ Fr n0 L ∧ h = h0
set_option maxRecDepth 65536 in
set_option maxHeartbeats 40000000 in
theorem rm4p3 (l : Launch) (Z : State) (av : Array Value) (hw : ∀ d ∈ tables_1, d.before av Z = true) (ws : List Jvm.Cond) (a0 : Addr) (ab : Addr) (sz : Int64) (ps : Int64) (ed : Int32) (kb : ClassId) (b0 : Int32) (b1 : Int32) (b2 : Int32) (h0 : Heap) (n0 : Nat) (Z0 : n0 ≤ h0.size) (E_a0 : Exa Z h0 a0 vB) (g_a0 : n0 ≤ a0) (I_data : Fld Z h0 a0 vB "data" "[B" (.ref ab)) (I_size : Fld Z h0 a0 vB "size" "J" (.long sz)) (I_position : Fld Z h0 a0 vB "position" "J" (.long ps)) (I_ended : Fld Z h0 a0 vB "ended" "Z" (.int ed)) (V1 : Arv Z h0 ab kb .byte (3 : Int32) [(.int b0), (.int b1), (.int b2)] (.int (0 : Int32))) (hps : 0 ≤ ps.toInt ∧ ps.toInt ≤ 24) :
    MetFree l (⟨vB, "peek", "(I)I"⟩ : MethodName) (head1 (Jvm.Cond.code (⟨vB, "peek", "(I)I"⟩ : MethodName) prog_89_method_5_code 8 (some .int) :: ws) ({ frames := 1, cells := 0, slots := 0, locals := 13 } : Room)) (fun a U => a = #[(.ref a0), (.int (32 : Int32))] ∧ Z.Warmed39 U.vm ∧ U.heap = h0) (fun _ _ _ _ _ => True) (fun _ U o U' => ∃ v L, o = .returned v ∧ Q4p3 Z a0 ab sz ps ed kb b0 b1 b2 h0 n0 v U'.heap L ∧ FrameEnd U o U' L ({ frames := 1, cells := 0, slots := 0, locals := 13 } : Room).cells ({ frames := 1, cells := 0, slots := 0, locals := 13 } : Room).slots) := by
  refine MetFree.of_bodySF (plainFor_of_name pn_com_example_baton_baton_core_format_VorbisBits) hisR ?_
  intro p e s m args below meth c s₁ Bd hml0 hP hK
  obtain ⟨rfl, hZ, hh⟩ := hP
  have hx := Bd.exec
  have hby := Bd.bytes
  have hml : c.maxLocals = 8 := hml0
  have hown : s.vm.findClass vB = some m.cls := by have h := findClass_of_methodNamed Bd.named; exact h
  have hnm := (name_of_methodNamed Bd.named Bd.method).1
  have X0 : Stand p l e ({ frames := 1, cells := 0, slots := 0, locals := 13 } : Room) s m #[(.ref a0), (.int (32 : Int32))] below meth c s₁ [] 0 0 := Stand.of_body Bd
  have e0 : s₁.heap = h0 := by rw [← hh, Bd.state]; rfl
  have N0 := Fr.nil n0
  have K0 : Keep h0 h0 [] := Keep.refl h0 []
  have pre0 : ∀ t, Steps p.tables e below (s₁.setTop (mkF m 0 #[rv a0, iv 32, un, un, un, un, un, un] [])) t → Steps p.tables e below (s₁.setTop (entryFrame m #[(.ref a0), (.int (32 : Int32))] 8)) t := fun t k => castTop (ef4p3 m a0) k
  have pre1 : ∀ t, oS p e below s₁ m 1 #[rv a0, iv 32, un, un, un, un, un, un] [(.ref a0)] t → oE p e below s₁ m #[(.ref a0), (.int (32 : Int32))] 8 t := fun t kt => pre0 t (by
    show oS p e below s₁ m 0 #[rv a0, iv 32, un, un, un, un, un, un] [] _
    refine XS.aloadN X0.here hx rfl (hb hby d4_0) rfl rfl ?_
    exact kt)
  clear pre0
  obtain ⟨T2, X2, e2, st2⟩ := getF X0 hx hZ hown (host := "") (Or.inl (hw _ (List.mem_of_getElem? (i := 23) rfl))) Via.refl e0 I_position (g := (mkF m 1 #[rv a0, iv 32, un, un, un, un, un, un] [(.ref a0)])) rfl rfl (hb hby d4_1)
  have pre3 : ∀ t, oS p e below T2 m 4 #[rv a0, iv 32, un, un, un, un, un, un] [(.long ps)] t → oE p e below s₁ m #[(.ref a0), (.int (32 : Int32))] 8 t := fun t kt => pre1 t (st2 _ kt)
  clear pre1 st2
  have pre4 : ∀ t, oS p e below T2 m 8 #[rv a0, iv 32, iv (((ps.toUInt64 >>> ((3 : Int32) &&& 0x3f).toInt64.toUInt64).toInt64).toInt32), un, un, un, un, un] [] t → oE p e below s₁ m #[(.ref a0), (.int (32 : Int32))] 8 t := fun t kt => pre3 t (by
    show oS p e below T2 m 4 #[rv a0, iv 32, un, un, un, un, un, un] [(.long ps)] _
    refine XS.iconst X2.here hx rfl (hb hby d4_4) ?_
    show oS p e below T2 m 5 #[rv a0, iv 32, un, un, un, un, un, un] [(.int (3 : Int32)), (.long ps)] _
    refine XS.lushr X2.here hx rfl (hb hby d4_5) rfl ?_
    show oS p e below T2 m 6 #[rv a0, iv 32, un, un, un, un, un, un] [(.long ((ps.toUInt64 >>> ((3 : Int32) &&& 0x3f).toInt64.toUInt64).toInt64))] _
    refine XS.l2i X2.here hx rfl (hb hby d4_6) rfl ?_
    show oS p e below T2 m 7 #[rv a0, iv 32, un, un, un, un, un, un] [(.int (((ps.toUInt64 >>> ((3 : Int32) &&& 0x3f).toInt64.toUInt64).toInt64).toInt32))] _
    refine XS.istoreN X2.here hx rfl (hb hby d4_7) rfl (l' := #[rv a0, iv 32, iv (((ps.toUInt64 >>> ((3 : Int32) &&& 0x3f).toInt64.toUInt64).toInt64).toInt32), un, un, un, un, un]) rfl ?_
    exact kt)
  clear pre3
  obtain ⟨bi, hm5, pre5⟩ : ∃ (bi : Int32), (ps.toInt / 8 = bi.toInt ∧ (bi = (0 : Int32) ∨ bi = (1 : Int32) ∨ bi = (2 : Int32) ∨ bi = (3 : Int32))) ∧ ∀ t, oS p e below T2 m 8 #[rv a0, iv 32, iv bi, un, un, un, un, un] [] t → oE p e below s₁ m #[(.ref a0), (.int (32 : Int32))] 8 t := ⟨(((ps.toUInt64 >>> ((3 : Int32) &&& 0x3f).toInt64.toUInt64).toInt64).toInt32), own_bi3 ps hps, pre4⟩
  clear pre4
  obtain ⟨hk0, hkc⟩ := hm5
  rcases hkc with rfl | rfl | rfl | rfl
  · have hk0 : ps.toInt / 8 = 0 := hk0.trans (by decide)
    have pre6 : ∀ t, oS p e below T2 m 9 #[rv a0, iv 32, iv 0, un, un, un, un, un] [(.ref a0)] t → oE p e below s₁ m #[(.ref a0), (.int (32 : Int32))] 8 t := fun t kt => pre5 t (by
      show oS p e below T2 m 8 #[rv a0, iv 32, iv 0, un, un, un, un, un] [] _
      refine XS.aloadN X2.here hx rfl (hb hby d4_8) rfl rfl ?_
      exact kt)
    clear pre5
    obtain ⟨T7, X7, e7, st7⟩ := getF X2 hx hZ hown (host := "") (Or.inl (hw _ (List.mem_of_getElem? (i := 23) rfl))) Via.refl e2 I_position (g := (mkF m 9 #[rv a0, iv 32, iv 0, un, un, un, un, un] [(.ref a0)])) rfl rfl (hb hby d4_9)
    have pre8 : ∀ t, oS p e below T7 m 12 #[rv a0, iv 32, iv 0, un, un, un, un, un] [(.long ps)] t → oE p e below s₁ m #[(.ref a0), (.int (32 : Int32))] 8 t := fun t kt => pre6 t (st7 _ kt)
    clear pre6 st7
    have pre9 : ∀ t, oS p e below T7 m 18 #[rv a0, iv 32, iv 0, iv ((ps &&& (7 : Int64)).toInt32), un, un, un, un] [] t → oE p e below s₁ m #[(.ref a0), (.int (32 : Int32))] 8 t := fun t kt => pre8 t (by
      show oS p e below T7 m 12 #[rv a0, iv 32, iv 0, un, un, un, un, un] [(.long ps)] _
      refine X7.ldc2Long hx hown (mvT hZ (hw _ (List.mem_of_getElem? (i := 32) rfl))) (g := (mkF m 12 #[rv a0, iv 32, iv 0, un, un, un, un, un] [(.long ps)])) rfl (hb hby d4_12) _ ?_
      show oS p e below T7 m 15 #[rv a0, iv 32, iv 0, un, un, un, un, un] [(.long (7 : Int64)), (.long ps)] _
      refine XS.land X7.here hx rfl (hb hby d4_15) rfl ?_
      show oS p e below T7 m 16 #[rv a0, iv 32, iv 0, un, un, un, un, un] [(.long (ps &&& (7 : Int64)))] _
      refine XS.l2i X7.here hx rfl (hb hby d4_16) rfl ?_
      show oS p e below T7 m 17 #[rv a0, iv 32, iv 0, un, un, un, un, un] [(.int ((ps &&& (7 : Int64)).toInt32))] _
      refine XS.istoreN X7.here hx rfl (hb hby d4_17) rfl (l' := #[rv a0, iv 32, iv 0, iv ((ps &&& (7 : Int64)).toInt32), un, un, un, un]) rfl ?_
      exact kt)
    clear pre8
    obtain ⟨sh, hm10, pre10⟩ : ∃ (sh : Int32), (sh.toInt = ps.toInt % 8) ∧ ∀ t, oS p e below T7 m 18 #[rv a0, iv 32, iv 0, iv sh, un, un, un, un] [] t → oE p e below s₁ m #[(.ref a0), (.int (32 : Int32))] 8 t := ⟨((ps &&& (7 : Int64)).toInt32), own_sh ps hps, pre9⟩
    clear pre9
    have pre11 : ∀ t, oS p e below T7 m 19 #[rv a0, iv 32, iv 0, iv sh, un, un, un, un] [(.ref a0)] t → oE p e below s₁ m #[(.ref a0), (.int (32 : Int32))] 8 t := fun t kt => pre10 t (by
      show oS p e below T7 m 18 #[rv a0, iv 32, iv 0, iv sh, un, un, un, un] [] _
      refine XS.aloadN X7.here hx rfl (hb hby d4_18) rfl rfl ?_
      exact kt)
    clear pre10
    obtain ⟨T12, X12, e12, st12⟩ := getF X7 hx hZ hown (host := "") (Or.inl (hw _ (List.mem_of_getElem? (i := 13) rfl))) Via.refl e7 I_data (g := (mkF m 19 #[rv a0, iv 32, iv 0, iv sh, un, un, un, un] [(.ref a0)])) rfl rfl (hb hby d4_19)
    have pre13 : ∀ t, oS p e below T12 m 22 #[rv a0, iv 32, iv 0, iv sh, un, un, un, un] [(.ref ab)] t → oE p e below s₁ m #[(.ref a0), (.int (32 : Int32))] 8 t := fun t kt => pre11 t (st12 _ kt)
    clear pre11 st12
    have tv14 := V1
    obtain ⟨cl14, Ar14, q14, S14, Ng14, H14, G14⟩ := tv14
    have pre15 : ∀ t, oS p e below T12 m 34 #[rv a0, iv 32, iv 0, iv sh, un, un, un, un] [(.int ((0 : Int32) + (((sh + (32 : Int32)) + (7 : Int32)) / (8 : Int32)))), (.int (3 : Int32))] t → oE p e below s₁ m #[(.ref a0), (.int (32 : Int32))] 8 t := fun t kt => pre13 t (by
      show oS p e below T12 m 22 #[rv a0, iv 32, iv 0, iv sh, un, un, un, un] [(.ref ab)] _
      refine X12.arraylength hx (by rw [e12]; exact Ar14.1) (State.isArrayOf_alike hZ.alike Ar14.2.1) (g := (mkF m 22 #[rv a0, iv 32, iv 0, iv sh, un, un, un, un] [(.ref ab)])) rfl rfl (hb hby d4_22) _ ?_
      rw [len_of S14 Ng14]
      show oS p e below T12 m 23 #[rv a0, iv 32, iv 0, iv sh, un, un, un, un] [(.int (3 : Int32))] _
      refine XS.iloadN X12.here hx rfl (hb hby d4_23) rfl ?_
      show oS p e below T12 m 24 #[rv a0, iv 32, iv 0, iv sh, un, un, un, un] [(.int (0 : Int32)), (.int (3 : Int32))] _
      refine XS.iloadN X12.here hx rfl (hb hby d4_24) rfl ?_
      show oS p e below T12 m 25 #[rv a0, iv 32, iv 0, iv sh, un, un, un, un] [(.int sh), (.int (0 : Int32)), (.int (3 : Int32))] _
      refine XS.iloadN X12.here hx rfl (hb hby d4_25) rfl ?_
      show oS p e below T12 m 26 #[rv a0, iv 32, iv 0, iv sh, un, un, un, un] [(.int (32 : Int32)), (.int sh), (.int (0 : Int32)), (.int (3 : Int32))] _
      refine XS.iadd X12.here hx rfl (hb hby d4_26) rfl ?_
      show oS p e below T12 m 27 #[rv a0, iv 32, iv 0, iv sh, un, un, un, un] [(.int (sh + (32 : Int32))), (.int (0 : Int32)), (.int (3 : Int32))] _
      refine XS.bipush X12.here hx rfl (hb hby d4_27) ?_
      show oS p e below T12 m 29 #[rv a0, iv 32, iv 0, iv sh, un, un, un, un] [(.int (7 : Int32)), (.int (sh + (32 : Int32))), (.int (0 : Int32)), (.int (3 : Int32))] _
      refine XS.iadd X12.here hx rfl (hb hby d4_29) rfl ?_
      show oS p e below T12 m 30 #[rv a0, iv 32, iv 0, iv sh, un, un, un, un] [(.int ((sh + (32 : Int32)) + (7 : Int32))), (.int (0 : Int32)), (.int (3 : Int32))] _
      refine XS.bipush X12.here hx rfl (hb hby d4_30) ?_
      show oS p e below T12 m 32 #[rv a0, iv 32, iv 0, iv sh, un, un, un, un] [(.int (8 : Int32)), (.int ((sh + (32 : Int32)) + (7 : Int32))), (.int (0 : Int32)), (.int (3 : Int32))] _
      refine XS.idiv X12.here hx rfl (hb hby d4_32) rfl (by decide) ?_
      show oS p e below T12 m 33 #[rv a0, iv 32, iv 0, iv sh, un, un, un, un] [(.int (((sh + (32 : Int32)) + (7 : Int32)) / (8 : Int32))), (.int (0 : Int32)), (.int (3 : Int32))] _
      refine XS.iadd X12.here hx rfl (hb hby d4_33) rfl ?_
      exact kt)
    clear pre13
    obtain ⟨_, _, ⟨T16, L16, k16, n16⟩, -, X16, ⟨Lc16, hQ16, l16, y16, z16⟩, st16⟩ := Jvm.LawKit.callS X12 hx (y := (⟨"java/lang/Math", "min", "(II)I"⟩ : MethodName)) hown (mvT hZ (hw _ (List.mem_of_getElem? (i := 33) rfl))) (mvT hZ (hw _ (List.mem_of_getElem? (i := 34) rfl))) (mvT hZ (hw _ (List.mem_of_getElem? (i := 35) rfl))) (mvT hZ (hw _ (List.mem_of_getElem? (i := 36) rfl))) (by decide) (backOf (W := 0) (rm5 l Z av hw [] (3 : Int32) ((0 : Int32) + (((sh + (32 : Int32)) + (7 : Int32)) / (8 : Int32)))  h0 n0 Z0 ) hZ (hw _ (List.mem_of_getElem? (i := 36) rfl)) (hw _ (List.mem_of_getElem? (i := 35) rfl)) (by decide) (by decide)) (g := (mkF m 34 #[rv a0, iv 32, iv 0, iv sh, un, un, un, un] [(.int ((0 : Int32) + (((sh + (32 : Int32)) + (7 : Int32)) / (8 : Int32)))), (.int (3 : Int32))])) rfl (by rw [hml]; rfl) (argsL := [(.int (3 : Int32)), (.int ((0 : Int32) + (((sh + (32 : Int32)) + (7 : Int32)) / (8 : Int32))))]) (rest := []) (lenOf pd__II_I rfl) rfl (by show 2 * 0 + _ ≤ _; exact Nat.le_of_eq rfl) (hb hby d4_34) (fun _ _ => ⟨rfl, e12, (by decide : 0 + 0 ≤ _), (by decide : 0 + 0 ≤ _)⟩)
    dsimp only [Pt.U, Pt.locs, Pt.cells, Pt.slots] at X16 l16 y16 z16 st16 hQ16
    rw [l16, y16, z16] at X16
    clear l16 y16 z16
    obtain ⟨rfl, N16q, e16⟩ := hQ16
    have N16 := Fr.app N0 N16q
    have pre17 : ∀ t, oS p e below T16 m 37 #[rv a0, iv 32, iv 0, iv sh, un, un, un, un] [(.int (f_min (3 : Int32) ((0 : Int32) + (((sh + (32 : Int32)) + (7 : Int32)) / (8 : Int32)))))] t → oE p e below s₁ m #[(.ref a0), (.int (32 : Int32))] 8 t := fun t kt => pre15 t (st16 _ kt)
    clear pre15 st16
    have pre18 : ∀ t, oS p e below T16 m 39 #[rv a0, iv 32, iv 0, iv sh, iv (f_min (3 : Int32) ((0 : Int32) + (((sh + (32 : Int32)) + (7 : Int32)) / (8 : Int32)))), un, un, un] [] t → oE p e below s₁ m #[(.ref a0), (.int (32 : Int32))] 8 t := fun t kt => pre17 t (by
      show oS p e below T16 m 37 #[rv a0, iv 32, iv 0, iv sh, un, un, un, un] [(.int (f_min (3 : Int32) ((0 : Int32) + (((sh + (32 : Int32)) + (7 : Int32)) / (8 : Int32)))))] _
      refine XS.istore X16.here hx rfl (hb hby d4_37) rfl (l' := #[rv a0, iv 32, iv 0, iv sh, iv (f_min (3 : Int32) ((0 : Int32) + (((sh + (32 : Int32)) + (7 : Int32)) / (8 : Int32)))), un, un, un]) rfl ?_
      exact kt)
    clear pre17
    obtain ⟨en, hm19, pre19⟩ : ∃ (en : Int32), (en = (3 : Int32)) ∧ ∀ t, oS p e below T16 m 39 #[rv a0, iv 32, iv 0, iv sh, iv en, un, un, un] [] t → oE p e below s₁ m #[(.ref a0), (.int (32 : Int32))] 8 t := ⟨(f_min (3 : Int32) ((0 : Int32) + (((sh + (32 : Int32)) + (7 : Int32)) / (8 : Int32)))), own_enG (3 : Int32) (0 : Int32) sh (by decide) (by decide) hm10, pre18⟩
    clear pre18
    subst hm19
    have pre20 : ∀ t, oS p e below T16 m 55 #[rv a0, iv 32, iv 0, iv sh, iv 3, jv 0, sn, iv 0] [(.ref a0), (.long (0 : Int64))] t → oE p e below s₁ m #[(.ref a0), (.int (32 : Int32))] 8 t := fun t kt => pre19 t (by
      show oS p e below T16 m 39 #[rv a0, iv 32, iv 0, iv sh, iv 3, un, un, un] [] _
      refine XS.lconst X16.here hx rfl (hb hby d4_39) ?_
      show oS p e below T16 m 40 #[rv a0, iv 32, iv 0, iv sh, iv 3, un, un, un] [(.long (0 : Int64))] _
      refine XS.lstore X16.here hx rfl (hb hby d4_40) rfl (l' := #[rv a0, iv 32, iv 0, iv sh, iv 3, jv 0, sn, un]) rfl ?_
      show oS p e below T16 m 42 #[rv a0, iv 32, iv 0, iv sh, iv 3, jv 0, sn, un] [] _
      refine XS.iloadN X16.here hx rfl (hb hby d4_42) rfl ?_
      show oS p e below T16 m 43 #[rv a0, iv 32, iv 0, iv sh, iv 3, jv 0, sn, un] [(.int (0 : Int32))] _
      refine XS.istore X16.here hx rfl (hb hby d4_43) rfl (l' := #[rv a0, iv 32, iv 0, iv sh, iv 3, jv 0, sn, iv 0]) rfl ?_
      show oS p e below T16 m 45 #[rv a0, iv 32, iv 0, iv sh, iv 3, jv 0, sn, iv 0] [] _
      refine XS.iload X16.here hx rfl (hb hby d4_45) rfl ?_
      show oS p e below T16 m 47 #[rv a0, iv 32, iv 0, iv sh, iv 3, jv 0, sn, iv 0] [(.int (0 : Int32))] _
      refine XS.iload X16.here hx rfl (hb hby d4_47) rfl ?_
      show oS p e below T16 m 49 #[rv a0, iv 32, iv 0, iv sh, iv 3, jv 0, sn, iv 0] [(.int (3 : Int32)), (.int (0 : Int32))] _
      refine XS.icmpNo X16.here hx rfl (hb hby d4_49) rfl (tlt (by decide : (0 : Int32) < (3 : Int32))).2.1 ?_
      show oS p e below T16 m 52 #[rv a0, iv 32, iv 0, iv sh, iv 3, jv 0, sn, iv 0] [] _
      refine XS.lload X16.here hx rfl (hb hby d4_52) rfl ?_
      show oS p e below T16 m 54 #[rv a0, iv 32, iv 0, iv sh, iv 3, jv 0, sn, iv 0] [(.long (0 : Int64))] _
      refine XS.aloadN X16.here hx rfl (hb hby d4_54) rfl rfl ?_
      exact kt)
    clear pre19
    obtain ⟨T21, X21, e21, st21⟩ := getF X16 hx hZ hown (host := "") (Or.inl (hw _ (List.mem_of_getElem? (i := 13) rfl))) Via.refl e16 I_data (g := (mkF m 55 #[rv a0, iv 32, iv 0, iv sh, iv 3, jv 0, sn, iv 0] [(.ref a0), (.long (0 : Int64))])) rfl rfl (hb hby d4_55)
    have pre22 : ∀ t, oS p e below T21 m 58 #[rv a0, iv 32, iv 0, iv sh, iv 3, jv 0, sn, iv 0] [(.ref ab), (.long (0 : Int64))] t → oE p e below s₁ m #[(.ref a0), (.int (32 : Int32))] 8 t := fun t kt => pre20 t (st21 _ kt)
    clear pre20 st21
    have pre23 : ∀ t, oS p e below T21 m 60 #[rv a0, iv 32, iv 0, iv sh, iv 3, jv 0, sn, iv 0] [(.int (0 : Int32)), (.ref ab), (.long (0 : Int64))] t → oE p e below s₁ m #[(.ref a0), (.int (32 : Int32))] 8 t := fun t kt => pre22 t (by
      show oS p e below T21 m 58 #[rv a0, iv 32, iv 0, iv sh, iv 3, jv 0, sn, iv 0] [(.ref ab), (.long (0 : Int64))] _
      refine XS.iload X21.here hx rfl (hb hby d4_58) rfl ?_
      exact kt)
    clear pre22
    have tv24 := V1
    obtain ⟨cl24, Ar24, q24, S24, Ng24, H24, G24⟩ := tv24
    have hin24 : ¬ ((0 : Int32) < 0 ∨ cl24.slots.size ≤ ((0 : Int32)).toNatClampNeg) := inb_of S24 ⟨by decide, by decide⟩
    have hat24 : cl24.slots[((0 : Int32)).toNatClampNeg]? = some (.int b0) := Has.at H24 hin24 rfl
    have pre25 : ∀ t, oS p e below T21 m 77 #[rv a0, iv 32, iv 0, iv sh, iv 3, jv ((0 : Int64) ||| (((b0.toInt64) &&& (255 : Int64)) <<< ((0 : Int32) &&& 0x3f).toInt64)), sn, iv 0] [] t → oE p e below s₁ m #[(.ref a0), (.int (32 : Int32))] 8 t := fun t kt => pre23 t (by
      show oS p e below T21 m 60 #[rv a0, iv 32, iv 0, iv sh, iv 3, jv 0, sn, iv 0] [(.int (0 : Int32)), (.ref ab), (.long (0 : Int64))] _
      refine X21.baloadBytes hx (j := (0 : Int32)) (v := (.int b0)) (by rw [e21]; exact Ar24.1) (State.isArrayOf_alike hZ.alike Ar24.2.1) Ar24.2.2 hin24 hat24 (g := (mkF m 60 #[rv a0, iv 32, iv 0, iv sh, iv 3, jv 0, sn, iv 0] [(.int (0 : Int32)), (.ref ab), (.long (0 : Int64))])) rfl rfl (hb hby d4_60) _ ?_
      show oS p e below T21 m 61 #[rv a0, iv 32, iv 0, iv sh, iv 3, jv 0, sn, iv 0] [(.int b0), (.long (0 : Int64))] _
      refine XS.i2l X21.here hx rfl (hb hby d4_61) rfl ?_
      show oS p e below T21 m 62 #[rv a0, iv 32, iv 0, iv sh, iv 3, jv 0, sn, iv 0] [(.long (b0.toInt64)), (.long (0 : Int64))] _
      refine X21.ldc2Long hx hown (mvT hZ (hw _ (List.mem_of_getElem? (i := 42) rfl))) (g := (mkF m 62 #[rv a0, iv 32, iv 0, iv sh, iv 3, jv 0, sn, iv 0] [(.long (b0.toInt64)), (.long (0 : Int64))])) rfl (hb hby d4_62) _ ?_
      show oS p e below T21 m 65 #[rv a0, iv 32, iv 0, iv sh, iv 3, jv 0, sn, iv 0] [(.long (255 : Int64)), (.long (b0.toInt64)), (.long (0 : Int64))] _
      refine XS.land X21.here hx rfl (hb hby d4_65) rfl ?_
      show oS p e below T21 m 66 #[rv a0, iv 32, iv 0, iv sh, iv 3, jv 0, sn, iv 0] [(.long ((b0.toInt64) &&& (255 : Int64))), (.long (0 : Int64))] _
      refine XS.bipush X21.here hx rfl (hb hby d4_66) ?_
      show oS p e below T21 m 68 #[rv a0, iv 32, iv 0, iv sh, iv 3, jv 0, sn, iv 0] [(.int (8 : Int32)), (.long ((b0.toInt64) &&& (255 : Int64))), (.long (0 : Int64))] _
      refine XS.iload X21.here hx rfl (hb hby d4_68) rfl ?_
      show oS p e below T21 m 70 #[rv a0, iv 32, iv 0, iv sh, iv 3, jv 0, sn, iv 0] [(.int (0 : Int32)), (.int (8 : Int32)), (.long ((b0.toInt64) &&& (255 : Int64))), (.long (0 : Int64))] _
      refine XS.iloadN X21.here hx rfl (hb hby d4_70) rfl ?_
      show oS p e below T21 m 71 #[rv a0, iv 32, iv 0, iv sh, iv 3, jv 0, sn, iv 0] [(.int (0 : Int32)), (.int (0 : Int32)), (.int (8 : Int32)), (.long ((b0.toInt64) &&& (255 : Int64))), (.long (0 : Int64))] _
      refine XS.isub X21.here hx rfl (hb hby d4_71) rfl ?_
      show oS p e below T21 m 72 #[rv a0, iv 32, iv 0, iv sh, iv 3, jv 0, sn, iv 0] [(.int (0 : Int32)), (.int (8 : Int32)), (.long ((b0.toInt64) &&& (255 : Int64))), (.long (0 : Int64))] _
      refine XS.imul X21.here hx rfl (hb hby d4_72) rfl ?_
      show oS p e below T21 m 73 #[rv a0, iv 32, iv 0, iv sh, iv 3, jv 0, sn, iv 0] [(.int (0 : Int32)), (.long ((b0.toInt64) &&& (255 : Int64))), (.long (0 : Int64))] _
      refine XS.lshl X21.here hx rfl (hb hby d4_73) rfl ?_
      show oS p e below T21 m 74 #[rv a0, iv 32, iv 0, iv sh, iv 3, jv 0, sn, iv 0] [(.long (((b0.toInt64) &&& (255 : Int64)) <<< ((0 : Int32) &&& 0x3f).toInt64)), (.long (0 : Int64))] _
      refine XS.lor X21.here hx rfl (hb hby d4_74) rfl ?_
      show oS p e below T21 m 75 #[rv a0, iv 32, iv 0, iv sh, iv 3, jv 0, sn, iv 0] [(.long ((0 : Int64) ||| (((b0.toInt64) &&& (255 : Int64)) <<< ((0 : Int32) &&& 0x3f).toInt64)))] _
      refine XS.lstore X21.here hx rfl (hb hby d4_75) rfl (l' := #[rv a0, iv 32, iv 0, iv sh, iv 3, jv ((0 : Int64) ||| (((b0.toInt64) &&& (255 : Int64)) <<< ((0 : Int32) &&& 0x3f).toInt64)), sn, iv 0]) rfl ?_
      exact kt)
    clear pre23
    obtain ⟨ac0, hm26, pre26⟩ : ∃ (ac0 : Int64), (ac0.toInt = 1 * (b0.toInt % 256)) ∧ ∀ t, oS p e below T21 m 77 #[rv a0, iv 32, iv 0, iv sh, iv 3, jv ac0, sn, iv 0] [] t → oE p e below s₁ m #[(.ref a0), (.int (32 : Int32))] 8 t := ⟨((0 : Int64) ||| (((b0.toInt64) &&& (255 : Int64)) <<< ((0 : Int32) &&& 0x3f).toInt64)), own_ac0 b0, pre25⟩
    clear pre25
    have pre27 : ∀ t, oS p e below T21 m 55 #[rv a0, iv 32, iv 0, iv sh, iv 3, jv ac0, sn, iv 1] [(.ref a0), (.long ac0)] t → oE p e below s₁ m #[(.ref a0), (.int (32 : Int32))] 8 t := fun t kt => pre26 t (by
      show oS p e below T21 m 77 #[rv a0, iv 32, iv 0, iv sh, iv 3, jv ac0, sn, iv 0] [] _
      refine XS.iinc X21.here hx rfl (hb hby d4_77) rfl (l' := #[rv a0, iv 32, iv 0, iv sh, iv 3, jv ac0, sn, iv 1]) rfl ?_
      show oS p e below T21 m 80 #[rv a0, iv 32, iv 0, iv sh, iv 3, jv ac0, sn, iv 1] [] _
      refine XS.goto X21.here hx rfl (pc0 := 80) (pc' := 45) rfl (hb hby d4_80) (by decide) (by decide) ?_
      show oS p e below T21 m 45 #[rv a0, iv 32, iv 0, iv sh, iv 3, jv ac0, sn, iv 1] [] _
      refine XS.iload X21.here hx rfl (hb hby d4_45) rfl ?_
      show oS p e below T21 m 47 #[rv a0, iv 32, iv 0, iv sh, iv 3, jv ac0, sn, iv 1] [(.int (1 : Int32))] _
      refine XS.iload X21.here hx rfl (hb hby d4_47) rfl ?_
      show oS p e below T21 m 49 #[rv a0, iv 32, iv 0, iv sh, iv 3, jv ac0, sn, iv 1] [(.int (3 : Int32)), (.int (1 : Int32))] _
      refine XS.icmpNo X21.here hx rfl (hb hby d4_49) rfl (tlt (by decide : (1 : Int32) < (3 : Int32))).2.1 ?_
      show oS p e below T21 m 52 #[rv a0, iv 32, iv 0, iv sh, iv 3, jv ac0, sn, iv 1] [] _
      refine XS.lload X21.here hx rfl (hb hby d4_52) rfl ?_
      show oS p e below T21 m 54 #[rv a0, iv 32, iv 0, iv sh, iv 3, jv ac0, sn, iv 1] [(.long ac0)] _
      refine XS.aloadN X21.here hx rfl (hb hby d4_54) rfl rfl ?_
      exact kt)
    clear pre26
    obtain ⟨T28, X28, e28, st28⟩ := getF X21 hx hZ hown (host := "") (Or.inl (hw _ (List.mem_of_getElem? (i := 13) rfl))) Via.refl e21 I_data (g := (mkF m 55 #[rv a0, iv 32, iv 0, iv sh, iv 3, jv ac0, sn, iv 1] [(.ref a0), (.long ac0)])) rfl rfl (hb hby d4_55)
    have pre29 : ∀ t, oS p e below T28 m 58 #[rv a0, iv 32, iv 0, iv sh, iv 3, jv ac0, sn, iv 1] [(.ref ab), (.long ac0)] t → oE p e below s₁ m #[(.ref a0), (.int (32 : Int32))] 8 t := fun t kt => pre27 t (st28 _ kt)
    clear pre27 st28
    have pre30 : ∀ t, oS p e below T28 m 60 #[rv a0, iv 32, iv 0, iv sh, iv 3, jv ac0, sn, iv 1] [(.int (1 : Int32)), (.ref ab), (.long ac0)] t → oE p e below s₁ m #[(.ref a0), (.int (32 : Int32))] 8 t := fun t kt => pre29 t (by
      show oS p e below T28 m 58 #[rv a0, iv 32, iv 0, iv sh, iv 3, jv ac0, sn, iv 1] [(.ref ab), (.long ac0)] _
      refine XS.iload X28.here hx rfl (hb hby d4_58) rfl ?_
      exact kt)
    clear pre29
    have tv31 := V1
    obtain ⟨cl31, Ar31, q31, S31, Ng31, H31, G31⟩ := tv31
    have hin31 : ¬ ((1 : Int32) < 0 ∨ cl31.slots.size ≤ ((1 : Int32)).toNatClampNeg) := inb_of S31 ⟨by decide, by decide⟩
    have hat31 : cl31.slots[((1 : Int32)).toNatClampNeg]? = some (.int b1) := Has.at H31 hin31 rfl
    have pre32 : ∀ t, oS p e below T28 m 77 #[rv a0, iv 32, iv 0, iv sh, iv 3, jv (ac0 ||| (((b1.toInt64) &&& (255 : Int64)) <<< ((8 : Int32) &&& 0x3f).toInt64)), sn, iv 1] [] t → oE p e below s₁ m #[(.ref a0), (.int (32 : Int32))] 8 t := fun t kt => pre30 t (by
      show oS p e below T28 m 60 #[rv a0, iv 32, iv 0, iv sh, iv 3, jv ac0, sn, iv 1] [(.int (1 : Int32)), (.ref ab), (.long ac0)] _
      refine X28.baloadBytes hx (j := (1 : Int32)) (v := (.int b1)) (by rw [e28]; exact Ar31.1) (State.isArrayOf_alike hZ.alike Ar31.2.1) Ar31.2.2 hin31 hat31 (g := (mkF m 60 #[rv a0, iv 32, iv 0, iv sh, iv 3, jv ac0, sn, iv 1] [(.int (1 : Int32)), (.ref ab), (.long ac0)])) rfl rfl (hb hby d4_60) _ ?_
      show oS p e below T28 m 61 #[rv a0, iv 32, iv 0, iv sh, iv 3, jv ac0, sn, iv 1] [(.int b1), (.long ac0)] _
      refine XS.i2l X28.here hx rfl (hb hby d4_61) rfl ?_
      show oS p e below T28 m 62 #[rv a0, iv 32, iv 0, iv sh, iv 3, jv ac0, sn, iv 1] [(.long (b1.toInt64)), (.long ac0)] _
      refine X28.ldc2Long hx hown (mvT hZ (hw _ (List.mem_of_getElem? (i := 42) rfl))) (g := (mkF m 62 #[rv a0, iv 32, iv 0, iv sh, iv 3, jv ac0, sn, iv 1] [(.long (b1.toInt64)), (.long ac0)])) rfl (hb hby d4_62) _ ?_
      show oS p e below T28 m 65 #[rv a0, iv 32, iv 0, iv sh, iv 3, jv ac0, sn, iv 1] [(.long (255 : Int64)), (.long (b1.toInt64)), (.long ac0)] _
      refine XS.land X28.here hx rfl (hb hby d4_65) rfl ?_
      show oS p e below T28 m 66 #[rv a0, iv 32, iv 0, iv sh, iv 3, jv ac0, sn, iv 1] [(.long ((b1.toInt64) &&& (255 : Int64))), (.long ac0)] _
      refine XS.bipush X28.here hx rfl (hb hby d4_66) ?_
      show oS p e below T28 m 68 #[rv a0, iv 32, iv 0, iv sh, iv 3, jv ac0, sn, iv 1] [(.int (8 : Int32)), (.long ((b1.toInt64) &&& (255 : Int64))), (.long ac0)] _
      refine XS.iload X28.here hx rfl (hb hby d4_68) rfl ?_
      show oS p e below T28 m 70 #[rv a0, iv 32, iv 0, iv sh, iv 3, jv ac0, sn, iv 1] [(.int (1 : Int32)), (.int (8 : Int32)), (.long ((b1.toInt64) &&& (255 : Int64))), (.long ac0)] _
      refine XS.iloadN X28.here hx rfl (hb hby d4_70) rfl ?_
      show oS p e below T28 m 71 #[rv a0, iv 32, iv 0, iv sh, iv 3, jv ac0, sn, iv 1] [(.int (0 : Int32)), (.int (1 : Int32)), (.int (8 : Int32)), (.long ((b1.toInt64) &&& (255 : Int64))), (.long ac0)] _
      refine XS.isub X28.here hx rfl (hb hby d4_71) rfl ?_
      show oS p e below T28 m 72 #[rv a0, iv 32, iv 0, iv sh, iv 3, jv ac0, sn, iv 1] [(.int (1 : Int32)), (.int (8 : Int32)), (.long ((b1.toInt64) &&& (255 : Int64))), (.long ac0)] _
      refine XS.imul X28.here hx rfl (hb hby d4_72) rfl ?_
      show oS p e below T28 m 73 #[rv a0, iv 32, iv 0, iv sh, iv 3, jv ac0, sn, iv 1] [(.int (8 : Int32)), (.long ((b1.toInt64) &&& (255 : Int64))), (.long ac0)] _
      refine XS.lshl X28.here hx rfl (hb hby d4_73) rfl ?_
      show oS p e below T28 m 74 #[rv a0, iv 32, iv 0, iv sh, iv 3, jv ac0, sn, iv 1] [(.long (((b1.toInt64) &&& (255 : Int64)) <<< ((8 : Int32) &&& 0x3f).toInt64)), (.long ac0)] _
      refine XS.lor X28.here hx rfl (hb hby d4_74) rfl ?_
      show oS p e below T28 m 75 #[rv a0, iv 32, iv 0, iv sh, iv 3, jv ac0, sn, iv 1] [(.long (ac0 ||| (((b1.toInt64) &&& (255 : Int64)) <<< ((8 : Int32) &&& 0x3f).toInt64)))] _
      refine XS.lstore X28.here hx rfl (hb hby d4_75) rfl (l' := #[rv a0, iv 32, iv 0, iv sh, iv 3, jv (ac0 ||| (((b1.toInt64) &&& (255 : Int64)) <<< ((8 : Int32) &&& 0x3f).toInt64)), sn, iv 1]) rfl ?_
      exact kt)
    clear pre30
    obtain ⟨ac1, hm33, pre33⟩ : ∃ (ac1 : Int64), (ac1.toInt = 1 * (b0.toInt % 256) + 256 * (b1.toInt % 256)) ∧ ∀ t, oS p e below T28 m 77 #[rv a0, iv 32, iv 0, iv sh, iv 3, jv ac1, sn, iv 1] [] t → oE p e below s₁ m #[(.ref a0), (.int (32 : Int32))] 8 t := ⟨(ac0 ||| (((b1.toInt64) &&& (255 : Int64)) <<< ((8 : Int32) &&& 0x3f).toInt64)), own_ac1 ac0 b1 _ hm26 (by omega), pre32⟩
    clear pre32
    have pre34 : ∀ t, oS p e below T28 m 55 #[rv a0, iv 32, iv 0, iv sh, iv 3, jv ac1, sn, iv 2] [(.ref a0), (.long ac1)] t → oE p e below s₁ m #[(.ref a0), (.int (32 : Int32))] 8 t := fun t kt => pre33 t (by
      show oS p e below T28 m 77 #[rv a0, iv 32, iv 0, iv sh, iv 3, jv ac1, sn, iv 1] [] _
      refine XS.iinc X28.here hx rfl (hb hby d4_77) rfl (l' := #[rv a0, iv 32, iv 0, iv sh, iv 3, jv ac1, sn, iv 2]) rfl ?_
      show oS p e below T28 m 80 #[rv a0, iv 32, iv 0, iv sh, iv 3, jv ac1, sn, iv 2] [] _
      refine XS.goto X28.here hx rfl (pc0 := 80) (pc' := 45) rfl (hb hby d4_80) (by decide) (by decide) ?_
      show oS p e below T28 m 45 #[rv a0, iv 32, iv 0, iv sh, iv 3, jv ac1, sn, iv 2] [] _
      refine XS.iload X28.here hx rfl (hb hby d4_45) rfl ?_
      show oS p e below T28 m 47 #[rv a0, iv 32, iv 0, iv sh, iv 3, jv ac1, sn, iv 2] [(.int (2 : Int32))] _
      refine XS.iload X28.here hx rfl (hb hby d4_47) rfl ?_
      show oS p e below T28 m 49 #[rv a0, iv 32, iv 0, iv sh, iv 3, jv ac1, sn, iv 2] [(.int (3 : Int32)), (.int (2 : Int32))] _
      refine XS.icmpNo X28.here hx rfl (hb hby d4_49) rfl (tlt (by decide : (2 : Int32) < (3 : Int32))).2.1 ?_
      show oS p e below T28 m 52 #[rv a0, iv 32, iv 0, iv sh, iv 3, jv ac1, sn, iv 2] [] _
      refine XS.lload X28.here hx rfl (hb hby d4_52) rfl ?_
      show oS p e below T28 m 54 #[rv a0, iv 32, iv 0, iv sh, iv 3, jv ac1, sn, iv 2] [(.long ac1)] _
      refine XS.aloadN X28.here hx rfl (hb hby d4_54) rfl rfl ?_
      exact kt)
    clear pre33
    obtain ⟨T35, X35, e35, st35⟩ := getF X28 hx hZ hown (host := "") (Or.inl (hw _ (List.mem_of_getElem? (i := 13) rfl))) Via.refl e28 I_data (g := (mkF m 55 #[rv a0, iv 32, iv 0, iv sh, iv 3, jv ac1, sn, iv 2] [(.ref a0), (.long ac1)])) rfl rfl (hb hby d4_55)
    have pre36 : ∀ t, oS p e below T35 m 58 #[rv a0, iv 32, iv 0, iv sh, iv 3, jv ac1, sn, iv 2] [(.ref ab), (.long ac1)] t → oE p e below s₁ m #[(.ref a0), (.int (32 : Int32))] 8 t := fun t kt => pre34 t (st35 _ kt)
    clear pre34 st35
    have pre37 : ∀ t, oS p e below T35 m 60 #[rv a0, iv 32, iv 0, iv sh, iv 3, jv ac1, sn, iv 2] [(.int (2 : Int32)), (.ref ab), (.long ac1)] t → oE p e below s₁ m #[(.ref a0), (.int (32 : Int32))] 8 t := fun t kt => pre36 t (by
      show oS p e below T35 m 58 #[rv a0, iv 32, iv 0, iv sh, iv 3, jv ac1, sn, iv 2] [(.ref ab), (.long ac1)] _
      refine XS.iload X35.here hx rfl (hb hby d4_58) rfl ?_
      exact kt)
    clear pre36
    have tv38 := V1
    obtain ⟨cl38, Ar38, q38, S38, Ng38, H38, G38⟩ := tv38
    have hin38 : ¬ ((2 : Int32) < 0 ∨ cl38.slots.size ≤ ((2 : Int32)).toNatClampNeg) := inb_of S38 ⟨by decide, by decide⟩
    have hat38 : cl38.slots[((2 : Int32)).toNatClampNeg]? = some (.int b2) := Has.at H38 hin38 rfl
    have pre39 : ∀ t, oS p e below T35 m 77 #[rv a0, iv 32, iv 0, iv sh, iv 3, jv (ac1 ||| (((b2.toInt64) &&& (255 : Int64)) <<< ((16 : Int32) &&& 0x3f).toInt64)), sn, iv 2] [] t → oE p e below s₁ m #[(.ref a0), (.int (32 : Int32))] 8 t := fun t kt => pre37 t (by
      show oS p e below T35 m 60 #[rv a0, iv 32, iv 0, iv sh, iv 3, jv ac1, sn, iv 2] [(.int (2 : Int32)), (.ref ab), (.long ac1)] _
      refine X35.baloadBytes hx (j := (2 : Int32)) (v := (.int b2)) (by rw [e35]; exact Ar38.1) (State.isArrayOf_alike hZ.alike Ar38.2.1) Ar38.2.2 hin38 hat38 (g := (mkF m 60 #[rv a0, iv 32, iv 0, iv sh, iv 3, jv ac1, sn, iv 2] [(.int (2 : Int32)), (.ref ab), (.long ac1)])) rfl rfl (hb hby d4_60) _ ?_
      show oS p e below T35 m 61 #[rv a0, iv 32, iv 0, iv sh, iv 3, jv ac1, sn, iv 2] [(.int b2), (.long ac1)] _
      refine XS.i2l X35.here hx rfl (hb hby d4_61) rfl ?_
      show oS p e below T35 m 62 #[rv a0, iv 32, iv 0, iv sh, iv 3, jv ac1, sn, iv 2] [(.long (b2.toInt64)), (.long ac1)] _
      refine X35.ldc2Long hx hown (mvT hZ (hw _ (List.mem_of_getElem? (i := 42) rfl))) (g := (mkF m 62 #[rv a0, iv 32, iv 0, iv sh, iv 3, jv ac1, sn, iv 2] [(.long (b2.toInt64)), (.long ac1)])) rfl (hb hby d4_62) _ ?_
      show oS p e below T35 m 65 #[rv a0, iv 32, iv 0, iv sh, iv 3, jv ac1, sn, iv 2] [(.long (255 : Int64)), (.long (b2.toInt64)), (.long ac1)] _
      refine XS.land X35.here hx rfl (hb hby d4_65) rfl ?_
      show oS p e below T35 m 66 #[rv a0, iv 32, iv 0, iv sh, iv 3, jv ac1, sn, iv 2] [(.long ((b2.toInt64) &&& (255 : Int64))), (.long ac1)] _
      refine XS.bipush X35.here hx rfl (hb hby d4_66) ?_
      show oS p e below T35 m 68 #[rv a0, iv 32, iv 0, iv sh, iv 3, jv ac1, sn, iv 2] [(.int (8 : Int32)), (.long ((b2.toInt64) &&& (255 : Int64))), (.long ac1)] _
      refine XS.iload X35.here hx rfl (hb hby d4_68) rfl ?_
      show oS p e below T35 m 70 #[rv a0, iv 32, iv 0, iv sh, iv 3, jv ac1, sn, iv 2] [(.int (2 : Int32)), (.int (8 : Int32)), (.long ((b2.toInt64) &&& (255 : Int64))), (.long ac1)] _
      refine XS.iloadN X35.here hx rfl (hb hby d4_70) rfl ?_
      show oS p e below T35 m 71 #[rv a0, iv 32, iv 0, iv sh, iv 3, jv ac1, sn, iv 2] [(.int (0 : Int32)), (.int (2 : Int32)), (.int (8 : Int32)), (.long ((b2.toInt64) &&& (255 : Int64))), (.long ac1)] _
      refine XS.isub X35.here hx rfl (hb hby d4_71) rfl ?_
      show oS p e below T35 m 72 #[rv a0, iv 32, iv 0, iv sh, iv 3, jv ac1, sn, iv 2] [(.int (2 : Int32)), (.int (8 : Int32)), (.long ((b2.toInt64) &&& (255 : Int64))), (.long ac1)] _
      refine XS.imul X35.here hx rfl (hb hby d4_72) rfl ?_
      show oS p e below T35 m 73 #[rv a0, iv 32, iv 0, iv sh, iv 3, jv ac1, sn, iv 2] [(.int (16 : Int32)), (.long ((b2.toInt64) &&& (255 : Int64))), (.long ac1)] _
      refine XS.lshl X35.here hx rfl (hb hby d4_73) rfl ?_
      show oS p e below T35 m 74 #[rv a0, iv 32, iv 0, iv sh, iv 3, jv ac1, sn, iv 2] [(.long (((b2.toInt64) &&& (255 : Int64)) <<< ((16 : Int32) &&& 0x3f).toInt64)), (.long ac1)] _
      refine XS.lor X35.here hx rfl (hb hby d4_74) rfl ?_
      show oS p e below T35 m 75 #[rv a0, iv 32, iv 0, iv sh, iv 3, jv ac1, sn, iv 2] [(.long (ac1 ||| (((b2.toInt64) &&& (255 : Int64)) <<< ((16 : Int32) &&& 0x3f).toInt64)))] _
      refine XS.lstore X35.here hx rfl (hb hby d4_75) rfl (l' := #[rv a0, iv 32, iv 0, iv sh, iv 3, jv (ac1 ||| (((b2.toInt64) &&& (255 : Int64)) <<< ((16 : Int32) &&& 0x3f).toInt64)), sn, iv 2]) rfl ?_
      exact kt)
    clear pre37
    obtain ⟨ac2, hm40, pre40⟩ : ∃ (ac2 : Int64), (ac2.toInt = 1 * (b0.toInt % 256) + 256 * (b1.toInt % 256) + 65536 * (b2.toInt % 256)) ∧ ∀ t, oS p e below T35 m 77 #[rv a0, iv 32, iv 0, iv sh, iv 3, jv ac2, sn, iv 2] [] t → oE p e below s₁ m #[(.ref a0), (.int (32 : Int32))] 8 t := ⟨(ac1 ||| (((b2.toInt64) &&& (255 : Int64)) <<< ((16 : Int32) &&& 0x3f).toInt64)), own_ac2 ac1 b2 _ hm33 (by omega), pre39⟩
    clear pre39
    have pre41 : ∀ t, oS p e below T35 m 94 #[rv a0, iv 32, iv 0, iv sh, iv 3, jv ac2, sn, iv 3] [(.int ((((ac2.toUInt64 >>> (sh &&& 0x3f).toInt64.toUInt64).toInt64) &&& (((1 : Int64) <<< ((32 : Int32) &&& 0x3f).toInt64) - (1 : Int64))).toInt32))] t → oE p e below s₁ m #[(.ref a0), (.int (32 : Int32))] 8 t := fun t kt => pre40 t (by
      show oS p e below T35 m 77 #[rv a0, iv 32, iv 0, iv sh, iv 3, jv ac2, sn, iv 2] [] _
      refine XS.iinc X35.here hx rfl (hb hby d4_77) rfl (l' := #[rv a0, iv 32, iv 0, iv sh, iv 3, jv ac2, sn, iv 3]) rfl ?_
      show oS p e below T35 m 80 #[rv a0, iv 32, iv 0, iv sh, iv 3, jv ac2, sn, iv 3] [] _
      refine XS.goto X35.here hx rfl (pc0 := 80) (pc' := 45) rfl (hb hby d4_80) (by decide) (by decide) ?_
      show oS p e below T35 m 45 #[rv a0, iv 32, iv 0, iv sh, iv 3, jv ac2, sn, iv 3] [] _
      refine XS.iload X35.here hx rfl (hb hby d4_45) rfl ?_
      show oS p e below T35 m 47 #[rv a0, iv 32, iv 0, iv sh, iv 3, jv ac2, sn, iv 3] [(.int (3 : Int32))] _
      refine XS.iload X35.here hx rfl (hb hby d4_47) rfl ?_
      show oS p e below T35 m 49 #[rv a0, iv 32, iv 0, iv sh, iv 3, jv ac2, sn, iv 3] [(.int (3 : Int32)), (.int (3 : Int32))] _
      refine XS.icmpYes X35.here hx rfl (pc0 := 49) (pc' := 83) rfl (hb hby d4_49) rfl (flt (by decide : ¬ ((3 : Int32) < (3 : Int32)))).2.1 (by decide) (by decide) ?_
      show oS p e below T35 m 83 #[rv a0, iv 32, iv 0, iv sh, iv 3, jv ac2, sn, iv 3] [] _
      refine XS.lload X35.here hx rfl (hb hby d4_83) rfl ?_
      show oS p e below T35 m 85 #[rv a0, iv 32, iv 0, iv sh, iv 3, jv ac2, sn, iv 3] [(.long ac2)] _
      refine XS.iloadN X35.here hx rfl (hb hby d4_85) rfl ?_
      show oS p e below T35 m 86 #[rv a0, iv 32, iv 0, iv sh, iv 3, jv ac2, sn, iv 3] [(.int sh), (.long ac2)] _
      refine XS.lushr X35.here hx rfl (hb hby d4_86) rfl ?_
      show oS p e below T35 m 87 #[rv a0, iv 32, iv 0, iv sh, iv 3, jv ac2, sn, iv 3] [(.long ((ac2.toUInt64 >>> (sh &&& 0x3f).toInt64.toUInt64).toInt64))] _
      refine XS.lconst X35.here hx rfl (hb hby d4_87) ?_
      show oS p e below T35 m 88 #[rv a0, iv 32, iv 0, iv sh, iv 3, jv ac2, sn, iv 3] [(.long (1 : Int64)), (.long ((ac2.toUInt64 >>> (sh &&& 0x3f).toInt64.toUInt64).toInt64))] _
      refine XS.iloadN X35.here hx rfl (hb hby d4_88) rfl ?_
      show oS p e below T35 m 89 #[rv a0, iv 32, iv 0, iv sh, iv 3, jv ac2, sn, iv 3] [(.int (32 : Int32)), (.long (1 : Int64)), (.long ((ac2.toUInt64 >>> (sh &&& 0x3f).toInt64.toUInt64).toInt64))] _
      refine XS.lshl X35.here hx rfl (hb hby d4_89) rfl ?_
      show oS p e below T35 m 90 #[rv a0, iv 32, iv 0, iv sh, iv 3, jv ac2, sn, iv 3] [(.long ((1 : Int64) <<< ((32 : Int32) &&& 0x3f).toInt64)), (.long ((ac2.toUInt64 >>> (sh &&& 0x3f).toInt64.toUInt64).toInt64))] _
      refine XS.lconst X35.here hx rfl (hb hby d4_90) ?_
      show oS p e below T35 m 91 #[rv a0, iv 32, iv 0, iv sh, iv 3, jv ac2, sn, iv 3] [(.long (1 : Int64)), (.long ((1 : Int64) <<< ((32 : Int32) &&& 0x3f).toInt64)), (.long ((ac2.toUInt64 >>> (sh &&& 0x3f).toInt64.toUInt64).toInt64))] _
      refine XS.lsub X35.here hx rfl (hb hby d4_91) rfl ?_
      show oS p e below T35 m 92 #[rv a0, iv 32, iv 0, iv sh, iv 3, jv ac2, sn, iv 3] [(.long (((1 : Int64) <<< ((32 : Int32) &&& 0x3f).toInt64) - (1 : Int64))), (.long ((ac2.toUInt64 >>> (sh &&& 0x3f).toInt64.toUInt64).toInt64))] _
      refine XS.land X35.here hx rfl (hb hby d4_92) rfl ?_
      show oS p e below T35 m 93 #[rv a0, iv 32, iv 0, iv sh, iv 3, jv ac2, sn, iv 3] [(.long (((ac2.toUInt64 >>> (sh &&& 0x3f).toInt64.toUInt64).toInt64) &&& (((1 : Int64) <<< ((32 : Int32) &&& 0x3f).toInt64) - (1 : Int64))))] _
      refine XS.l2i X35.here hx rfl (hb hby d4_93) rfl ?_
      exact kt)
    clear pre40
    have hr0 : ((((ac2.toUInt64 >>> (sh &&& 0x3f).toInt64.toUInt64).toInt64) &&& (((1 : Int64) <<< ((32 : Int32) &&& 0x3f).toInt64) - (1 : Int64))).toInt32) = Int32.ofInt ((1 * (b0.toInt % 256) + 256 * (b1.toInt % 256) + 65536 * (b2.toInt % 256)) / 2 ^ ps.toInt.toNat) := own_fin ac2 sh ps (1 * (b0.toInt % 256) + 256 * (b1.toInt % 256) + 65536 * (b2.toInt % 256)) 0 1 (by decide) hps.1 hk0 hm10 (by omega) (by have q := hm40; omega)
    rw [hr0] at pre41
    obtain ⟨fs, hr, hrun, hended, hW, hsame⟩ := X35.leave (v := some (.int (Int32.ofInt ((1 * (b0.toInt % 256) + 256 * (b1.toInt % 256) + 65536 * (b2.toInt % 256)) / 2 ^ ps.toInt.toNat)))) (fun h => by rw [Bd.returns] at h; cases h)
    refine ⟨_, _, pre41 _ ?_, hrun, hended, _, _, rfl, ?_, ⟨_, rfl⟩, hW, hsame.mono (by decide) (by decide)⟩
    · show oS p e below T35 m 94 #[rv a0, iv 32, iv 0, iv sh, iv 3, jv ac2, sn, iv 3] [(.int (Int32.ofInt ((1 * (b0.toInt % 256) + 256 * (b1.toInt % 256) + 65536 * (b2.toInt % 256)) / 2 ^ ps.toInt.toNat)))] _
      exact retI X35 hx Bd.returns (hb hby d4_94) hr
    · show Q4p3 Z a0 ab sz ps ed kb b0 b1 b2 h0 n0 _ T35.heap _
      rw [e35]
      exact ⟨rfl, N16, rfl⟩
  · have hk1 : ps.toInt / 8 = 1 := hk0.trans (by decide)
    have pre42 : ∀ t, oS p e below T2 m 9 #[rv a0, iv 32, iv 1, un, un, un, un, un] [(.ref a0)] t → oE p e below s₁ m #[(.ref a0), (.int (32 : Int32))] 8 t := fun t kt => pre5 t (by
      show oS p e below T2 m 8 #[rv a0, iv 32, iv 1, un, un, un, un, un] [] _
      refine XS.aloadN X2.here hx rfl (hb hby d4_8) rfl rfl ?_
      exact kt)
    clear pre5
    obtain ⟨T43, X43, e43, st43⟩ := getF X2 hx hZ hown (host := "") (Or.inl (hw _ (List.mem_of_getElem? (i := 23) rfl))) Via.refl e2 I_position (g := (mkF m 9 #[rv a0, iv 32, iv 1, un, un, un, un, un] [(.ref a0)])) rfl rfl (hb hby d4_9)
    have pre44 : ∀ t, oS p e below T43 m 12 #[rv a0, iv 32, iv 1, un, un, un, un, un] [(.long ps)] t → oE p e below s₁ m #[(.ref a0), (.int (32 : Int32))] 8 t := fun t kt => pre42 t (st43 _ kt)
    clear pre42 st43
    have pre45 : ∀ t, oS p e below T43 m 18 #[rv a0, iv 32, iv 1, iv ((ps &&& (7 : Int64)).toInt32), un, un, un, un] [] t → oE p e below s₁ m #[(.ref a0), (.int (32 : Int32))] 8 t := fun t kt => pre44 t (by
      show oS p e below T43 m 12 #[rv a0, iv 32, iv 1, un, un, un, un, un] [(.long ps)] _
      refine X43.ldc2Long hx hown (mvT hZ (hw _ (List.mem_of_getElem? (i := 32) rfl))) (g := (mkF m 12 #[rv a0, iv 32, iv 1, un, un, un, un, un] [(.long ps)])) rfl (hb hby d4_12) _ ?_
      show oS p e below T43 m 15 #[rv a0, iv 32, iv 1, un, un, un, un, un] [(.long (7 : Int64)), (.long ps)] _
      refine XS.land X43.here hx rfl (hb hby d4_15) rfl ?_
      show oS p e below T43 m 16 #[rv a0, iv 32, iv 1, un, un, un, un, un] [(.long (ps &&& (7 : Int64)))] _
      refine XS.l2i X43.here hx rfl (hb hby d4_16) rfl ?_
      show oS p e below T43 m 17 #[rv a0, iv 32, iv 1, un, un, un, un, un] [(.int ((ps &&& (7 : Int64)).toInt32))] _
      refine XS.istoreN X43.here hx rfl (hb hby d4_17) rfl (l' := #[rv a0, iv 32, iv 1, iv ((ps &&& (7 : Int64)).toInt32), un, un, un, un]) rfl ?_
      exact kt)
    clear pre44
    obtain ⟨sh, hm46, pre46⟩ : ∃ (sh : Int32), (sh.toInt = ps.toInt % 8) ∧ ∀ t, oS p e below T43 m 18 #[rv a0, iv 32, iv 1, iv sh, un, un, un, un] [] t → oE p e below s₁ m #[(.ref a0), (.int (32 : Int32))] 8 t := ⟨((ps &&& (7 : Int64)).toInt32), own_sh ps hps, pre45⟩
    clear pre45
    have pre47 : ∀ t, oS p e below T43 m 19 #[rv a0, iv 32, iv 1, iv sh, un, un, un, un] [(.ref a0)] t → oE p e below s₁ m #[(.ref a0), (.int (32 : Int32))] 8 t := fun t kt => pre46 t (by
      show oS p e below T43 m 18 #[rv a0, iv 32, iv 1, iv sh, un, un, un, un] [] _
      refine XS.aloadN X43.here hx rfl (hb hby d4_18) rfl rfl ?_
      exact kt)
    clear pre46
    obtain ⟨T48, X48, e48, st48⟩ := getF X43 hx hZ hown (host := "") (Or.inl (hw _ (List.mem_of_getElem? (i := 13) rfl))) Via.refl e43 I_data (g := (mkF m 19 #[rv a0, iv 32, iv 1, iv sh, un, un, un, un] [(.ref a0)])) rfl rfl (hb hby d4_19)
    have pre49 : ∀ t, oS p e below T48 m 22 #[rv a0, iv 32, iv 1, iv sh, un, un, un, un] [(.ref ab)] t → oE p e below s₁ m #[(.ref a0), (.int (32 : Int32))] 8 t := fun t kt => pre47 t (st48 _ kt)
    clear pre47 st48
    have tv50 := V1
    obtain ⟨cl50, Ar50, q50, S50, Ng50, H50, G50⟩ := tv50
    have pre51 : ∀ t, oS p e below T48 m 34 #[rv a0, iv 32, iv 1, iv sh, un, un, un, un] [(.int ((1 : Int32) + (((sh + (32 : Int32)) + (7 : Int32)) / (8 : Int32)))), (.int (3 : Int32))] t → oE p e below s₁ m #[(.ref a0), (.int (32 : Int32))] 8 t := fun t kt => pre49 t (by
      show oS p e below T48 m 22 #[rv a0, iv 32, iv 1, iv sh, un, un, un, un] [(.ref ab)] _
      refine X48.arraylength hx (by rw [e48]; exact Ar50.1) (State.isArrayOf_alike hZ.alike Ar50.2.1) (g := (mkF m 22 #[rv a0, iv 32, iv 1, iv sh, un, un, un, un] [(.ref ab)])) rfl rfl (hb hby d4_22) _ ?_
      rw [len_of S50 Ng50]
      show oS p e below T48 m 23 #[rv a0, iv 32, iv 1, iv sh, un, un, un, un] [(.int (3 : Int32))] _
      refine XS.iloadN X48.here hx rfl (hb hby d4_23) rfl ?_
      show oS p e below T48 m 24 #[rv a0, iv 32, iv 1, iv sh, un, un, un, un] [(.int (1 : Int32)), (.int (3 : Int32))] _
      refine XS.iloadN X48.here hx rfl (hb hby d4_24) rfl ?_
      show oS p e below T48 m 25 #[rv a0, iv 32, iv 1, iv sh, un, un, un, un] [(.int sh), (.int (1 : Int32)), (.int (3 : Int32))] _
      refine XS.iloadN X48.here hx rfl (hb hby d4_25) rfl ?_
      show oS p e below T48 m 26 #[rv a0, iv 32, iv 1, iv sh, un, un, un, un] [(.int (32 : Int32)), (.int sh), (.int (1 : Int32)), (.int (3 : Int32))] _
      refine XS.iadd X48.here hx rfl (hb hby d4_26) rfl ?_
      show oS p e below T48 m 27 #[rv a0, iv 32, iv 1, iv sh, un, un, un, un] [(.int (sh + (32 : Int32))), (.int (1 : Int32)), (.int (3 : Int32))] _
      refine XS.bipush X48.here hx rfl (hb hby d4_27) ?_
      show oS p e below T48 m 29 #[rv a0, iv 32, iv 1, iv sh, un, un, un, un] [(.int (7 : Int32)), (.int (sh + (32 : Int32))), (.int (1 : Int32)), (.int (3 : Int32))] _
      refine XS.iadd X48.here hx rfl (hb hby d4_29) rfl ?_
      show oS p e below T48 m 30 #[rv a0, iv 32, iv 1, iv sh, un, un, un, un] [(.int ((sh + (32 : Int32)) + (7 : Int32))), (.int (1 : Int32)), (.int (3 : Int32))] _
      refine XS.bipush X48.here hx rfl (hb hby d4_30) ?_
      show oS p e below T48 m 32 #[rv a0, iv 32, iv 1, iv sh, un, un, un, un] [(.int (8 : Int32)), (.int ((sh + (32 : Int32)) + (7 : Int32))), (.int (1 : Int32)), (.int (3 : Int32))] _
      refine XS.idiv X48.here hx rfl (hb hby d4_32) rfl (by decide) ?_
      show oS p e below T48 m 33 #[rv a0, iv 32, iv 1, iv sh, un, un, un, un] [(.int (((sh + (32 : Int32)) + (7 : Int32)) / (8 : Int32))), (.int (1 : Int32)), (.int (3 : Int32))] _
      refine XS.iadd X48.here hx rfl (hb hby d4_33) rfl ?_
      exact kt)
    clear pre49
    obtain ⟨_, _, ⟨T52, L52, k52, n52⟩, -, X52, ⟨Lc52, hQ52, l52, y52, z52⟩, st52⟩ := Jvm.LawKit.callS X48 hx (y := (⟨"java/lang/Math", "min", "(II)I"⟩ : MethodName)) hown (mvT hZ (hw _ (List.mem_of_getElem? (i := 33) rfl))) (mvT hZ (hw _ (List.mem_of_getElem? (i := 34) rfl))) (mvT hZ (hw _ (List.mem_of_getElem? (i := 35) rfl))) (mvT hZ (hw _ (List.mem_of_getElem? (i := 36) rfl))) (by decide) (backOf (W := 0) (rm5 l Z av hw [] (3 : Int32) ((1 : Int32) + (((sh + (32 : Int32)) + (7 : Int32)) / (8 : Int32)))  h0 n0 Z0 ) hZ (hw _ (List.mem_of_getElem? (i := 36) rfl)) (hw _ (List.mem_of_getElem? (i := 35) rfl)) (by decide) (by decide)) (g := (mkF m 34 #[rv a0, iv 32, iv 1, iv sh, un, un, un, un] [(.int ((1 : Int32) + (((sh + (32 : Int32)) + (7 : Int32)) / (8 : Int32)))), (.int (3 : Int32))])) rfl (by rw [hml]; rfl) (argsL := [(.int (3 : Int32)), (.int ((1 : Int32) + (((sh + (32 : Int32)) + (7 : Int32)) / (8 : Int32))))]) (rest := []) (lenOf pd__II_I rfl) rfl (by show 2 * 0 + _ ≤ _; exact Nat.le_of_eq rfl) (hb hby d4_34) (fun _ _ => ⟨rfl, e48, (by decide : 0 + 0 ≤ _), (by decide : 0 + 0 ≤ _)⟩)
    dsimp only [Pt.U, Pt.locs, Pt.cells, Pt.slots] at X52 l52 y52 z52 st52 hQ52
    rw [l52, y52, z52] at X52
    clear l52 y52 z52
    obtain ⟨rfl, N52q, e52⟩ := hQ52
    have N52 := Fr.app N0 N52q
    have pre53 : ∀ t, oS p e below T52 m 37 #[rv a0, iv 32, iv 1, iv sh, un, un, un, un] [(.int (f_min (3 : Int32) ((1 : Int32) + (((sh + (32 : Int32)) + (7 : Int32)) / (8 : Int32)))))] t → oE p e below s₁ m #[(.ref a0), (.int (32 : Int32))] 8 t := fun t kt => pre51 t (st52 _ kt)
    clear pre51 st52
    have pre54 : ∀ t, oS p e below T52 m 39 #[rv a0, iv 32, iv 1, iv sh, iv (f_min (3 : Int32) ((1 : Int32) + (((sh + (32 : Int32)) + (7 : Int32)) / (8 : Int32)))), un, un, un] [] t → oE p e below s₁ m #[(.ref a0), (.int (32 : Int32))] 8 t := fun t kt => pre53 t (by
      show oS p e below T52 m 37 #[rv a0, iv 32, iv 1, iv sh, un, un, un, un] [(.int (f_min (3 : Int32) ((1 : Int32) + (((sh + (32 : Int32)) + (7 : Int32)) / (8 : Int32)))))] _
      refine XS.istore X52.here hx rfl (hb hby d4_37) rfl (l' := #[rv a0, iv 32, iv 1, iv sh, iv (f_min (3 : Int32) ((1 : Int32) + (((sh + (32 : Int32)) + (7 : Int32)) / (8 : Int32)))), un, un, un]) rfl ?_
      exact kt)
    clear pre53
    obtain ⟨en, hm55, pre55⟩ : ∃ (en : Int32), (en = (3 : Int32)) ∧ ∀ t, oS p e below T52 m 39 #[rv a0, iv 32, iv 1, iv sh, iv en, un, un, un] [] t → oE p e below s₁ m #[(.ref a0), (.int (32 : Int32))] 8 t := ⟨(f_min (3 : Int32) ((1 : Int32) + (((sh + (32 : Int32)) + (7 : Int32)) / (8 : Int32)))), own_enG (3 : Int32) (1 : Int32) sh (by decide) (by decide) hm46, pre54⟩
    clear pre54
    subst hm55
    have pre56 : ∀ t, oS p e below T52 m 55 #[rv a0, iv 32, iv 1, iv sh, iv 3, jv 0, sn, iv 1] [(.ref a0), (.long (0 : Int64))] t → oE p e below s₁ m #[(.ref a0), (.int (32 : Int32))] 8 t := fun t kt => pre55 t (by
      show oS p e below T52 m 39 #[rv a0, iv 32, iv 1, iv sh, iv 3, un, un, un] [] _
      refine XS.lconst X52.here hx rfl (hb hby d4_39) ?_
      show oS p e below T52 m 40 #[rv a0, iv 32, iv 1, iv sh, iv 3, un, un, un] [(.long (0 : Int64))] _
      refine XS.lstore X52.here hx rfl (hb hby d4_40) rfl (l' := #[rv a0, iv 32, iv 1, iv sh, iv 3, jv 0, sn, un]) rfl ?_
      show oS p e below T52 m 42 #[rv a0, iv 32, iv 1, iv sh, iv 3, jv 0, sn, un] [] _
      refine XS.iloadN X52.here hx rfl (hb hby d4_42) rfl ?_
      show oS p e below T52 m 43 #[rv a0, iv 32, iv 1, iv sh, iv 3, jv 0, sn, un] [(.int (1 : Int32))] _
      refine XS.istore X52.here hx rfl (hb hby d4_43) rfl (l' := #[rv a0, iv 32, iv 1, iv sh, iv 3, jv 0, sn, iv 1]) rfl ?_
      show oS p e below T52 m 45 #[rv a0, iv 32, iv 1, iv sh, iv 3, jv 0, sn, iv 1] [] _
      refine XS.iload X52.here hx rfl (hb hby d4_45) rfl ?_
      show oS p e below T52 m 47 #[rv a0, iv 32, iv 1, iv sh, iv 3, jv 0, sn, iv 1] [(.int (1 : Int32))] _
      refine XS.iload X52.here hx rfl (hb hby d4_47) rfl ?_
      show oS p e below T52 m 49 #[rv a0, iv 32, iv 1, iv sh, iv 3, jv 0, sn, iv 1] [(.int (3 : Int32)), (.int (1 : Int32))] _
      refine XS.icmpNo X52.here hx rfl (hb hby d4_49) rfl (tlt (by decide : (1 : Int32) < (3 : Int32))).2.1 ?_
      show oS p e below T52 m 52 #[rv a0, iv 32, iv 1, iv sh, iv 3, jv 0, sn, iv 1] [] _
      refine XS.lload X52.here hx rfl (hb hby d4_52) rfl ?_
      show oS p e below T52 m 54 #[rv a0, iv 32, iv 1, iv sh, iv 3, jv 0, sn, iv 1] [(.long (0 : Int64))] _
      refine XS.aloadN X52.here hx rfl (hb hby d4_54) rfl rfl ?_
      exact kt)
    clear pre55
    obtain ⟨T57, X57, e57, st57⟩ := getF X52 hx hZ hown (host := "") (Or.inl (hw _ (List.mem_of_getElem? (i := 13) rfl))) Via.refl e52 I_data (g := (mkF m 55 #[rv a0, iv 32, iv 1, iv sh, iv 3, jv 0, sn, iv 1] [(.ref a0), (.long (0 : Int64))])) rfl rfl (hb hby d4_55)
    have pre58 : ∀ t, oS p e below T57 m 58 #[rv a0, iv 32, iv 1, iv sh, iv 3, jv 0, sn, iv 1] [(.ref ab), (.long (0 : Int64))] t → oE p e below s₁ m #[(.ref a0), (.int (32 : Int32))] 8 t := fun t kt => pre56 t (st57 _ kt)
    clear pre56 st57
    have pre59 : ∀ t, oS p e below T57 m 60 #[rv a0, iv 32, iv 1, iv sh, iv 3, jv 0, sn, iv 1] [(.int (1 : Int32)), (.ref ab), (.long (0 : Int64))] t → oE p e below s₁ m #[(.ref a0), (.int (32 : Int32))] 8 t := fun t kt => pre58 t (by
      show oS p e below T57 m 58 #[rv a0, iv 32, iv 1, iv sh, iv 3, jv 0, sn, iv 1] [(.ref ab), (.long (0 : Int64))] _
      refine XS.iload X57.here hx rfl (hb hby d4_58) rfl ?_
      exact kt)
    clear pre58
    have tv60 := V1
    obtain ⟨cl60, Ar60, q60, S60, Ng60, H60, G60⟩ := tv60
    have hin60 : ¬ ((1 : Int32) < 0 ∨ cl60.slots.size ≤ ((1 : Int32)).toNatClampNeg) := inb_of S60 ⟨by decide, by decide⟩
    have hat60 : cl60.slots[((1 : Int32)).toNatClampNeg]? = some (.int b1) := Has.at H60 hin60 rfl
    have pre61 : ∀ t, oS p e below T57 m 77 #[rv a0, iv 32, iv 1, iv sh, iv 3, jv ((0 : Int64) ||| (((b1.toInt64) &&& (255 : Int64)) <<< ((0 : Int32) &&& 0x3f).toInt64)), sn, iv 1] [] t → oE p e below s₁ m #[(.ref a0), (.int (32 : Int32))] 8 t := fun t kt => pre59 t (by
      show oS p e below T57 m 60 #[rv a0, iv 32, iv 1, iv sh, iv 3, jv 0, sn, iv 1] [(.int (1 : Int32)), (.ref ab), (.long (0 : Int64))] _
      refine X57.baloadBytes hx (j := (1 : Int32)) (v := (.int b1)) (by rw [e57]; exact Ar60.1) (State.isArrayOf_alike hZ.alike Ar60.2.1) Ar60.2.2 hin60 hat60 (g := (mkF m 60 #[rv a0, iv 32, iv 1, iv sh, iv 3, jv 0, sn, iv 1] [(.int (1 : Int32)), (.ref ab), (.long (0 : Int64))])) rfl rfl (hb hby d4_60) _ ?_
      show oS p e below T57 m 61 #[rv a0, iv 32, iv 1, iv sh, iv 3, jv 0, sn, iv 1] [(.int b1), (.long (0 : Int64))] _
      refine XS.i2l X57.here hx rfl (hb hby d4_61) rfl ?_
      show oS p e below T57 m 62 #[rv a0, iv 32, iv 1, iv sh, iv 3, jv 0, sn, iv 1] [(.long (b1.toInt64)), (.long (0 : Int64))] _
      refine X57.ldc2Long hx hown (mvT hZ (hw _ (List.mem_of_getElem? (i := 42) rfl))) (g := (mkF m 62 #[rv a0, iv 32, iv 1, iv sh, iv 3, jv 0, sn, iv 1] [(.long (b1.toInt64)), (.long (0 : Int64))])) rfl (hb hby d4_62) _ ?_
      show oS p e below T57 m 65 #[rv a0, iv 32, iv 1, iv sh, iv 3, jv 0, sn, iv 1] [(.long (255 : Int64)), (.long (b1.toInt64)), (.long (0 : Int64))] _
      refine XS.land X57.here hx rfl (hb hby d4_65) rfl ?_
      show oS p e below T57 m 66 #[rv a0, iv 32, iv 1, iv sh, iv 3, jv 0, sn, iv 1] [(.long ((b1.toInt64) &&& (255 : Int64))), (.long (0 : Int64))] _
      refine XS.bipush X57.here hx rfl (hb hby d4_66) ?_
      show oS p e below T57 m 68 #[rv a0, iv 32, iv 1, iv sh, iv 3, jv 0, sn, iv 1] [(.int (8 : Int32)), (.long ((b1.toInt64) &&& (255 : Int64))), (.long (0 : Int64))] _
      refine XS.iload X57.here hx rfl (hb hby d4_68) rfl ?_
      show oS p e below T57 m 70 #[rv a0, iv 32, iv 1, iv sh, iv 3, jv 0, sn, iv 1] [(.int (1 : Int32)), (.int (8 : Int32)), (.long ((b1.toInt64) &&& (255 : Int64))), (.long (0 : Int64))] _
      refine XS.iloadN X57.here hx rfl (hb hby d4_70) rfl ?_
      show oS p e below T57 m 71 #[rv a0, iv 32, iv 1, iv sh, iv 3, jv 0, sn, iv 1] [(.int (1 : Int32)), (.int (1 : Int32)), (.int (8 : Int32)), (.long ((b1.toInt64) &&& (255 : Int64))), (.long (0 : Int64))] _
      refine XS.isub X57.here hx rfl (hb hby d4_71) rfl ?_
      show oS p e below T57 m 72 #[rv a0, iv 32, iv 1, iv sh, iv 3, jv 0, sn, iv 1] [(.int (0 : Int32)), (.int (8 : Int32)), (.long ((b1.toInt64) &&& (255 : Int64))), (.long (0 : Int64))] _
      refine XS.imul X57.here hx rfl (hb hby d4_72) rfl ?_
      show oS p e below T57 m 73 #[rv a0, iv 32, iv 1, iv sh, iv 3, jv 0, sn, iv 1] [(.int (0 : Int32)), (.long ((b1.toInt64) &&& (255 : Int64))), (.long (0 : Int64))] _
      refine XS.lshl X57.here hx rfl (hb hby d4_73) rfl ?_
      show oS p e below T57 m 74 #[rv a0, iv 32, iv 1, iv sh, iv 3, jv 0, sn, iv 1] [(.long (((b1.toInt64) &&& (255 : Int64)) <<< ((0 : Int32) &&& 0x3f).toInt64)), (.long (0 : Int64))] _
      refine XS.lor X57.here hx rfl (hb hby d4_74) rfl ?_
      show oS p e below T57 m 75 #[rv a0, iv 32, iv 1, iv sh, iv 3, jv 0, sn, iv 1] [(.long ((0 : Int64) ||| (((b1.toInt64) &&& (255 : Int64)) <<< ((0 : Int32) &&& 0x3f).toInt64)))] _
      refine XS.lstore X57.here hx rfl (hb hby d4_75) rfl (l' := #[rv a0, iv 32, iv 1, iv sh, iv 3, jv ((0 : Int64) ||| (((b1.toInt64) &&& (255 : Int64)) <<< ((0 : Int32) &&& 0x3f).toInt64)), sn, iv 1]) rfl ?_
      exact kt)
    clear pre59
    obtain ⟨ac1, hm62, pre62⟩ : ∃ (ac1 : Int64), (ac1.toInt = 1 * (b1.toInt % 256)) ∧ ∀ t, oS p e below T57 m 77 #[rv a0, iv 32, iv 1, iv sh, iv 3, jv ac1, sn, iv 1] [] t → oE p e below s₁ m #[(.ref a0), (.int (32 : Int32))] 8 t := ⟨((0 : Int64) ||| (((b1.toInt64) &&& (255 : Int64)) <<< ((0 : Int32) &&& 0x3f).toInt64)), own_ac0 b1, pre61⟩
    clear pre61
    have pre63 : ∀ t, oS p e below T57 m 55 #[rv a0, iv 32, iv 1, iv sh, iv 3, jv ac1, sn, iv 2] [(.ref a0), (.long ac1)] t → oE p e below s₁ m #[(.ref a0), (.int (32 : Int32))] 8 t := fun t kt => pre62 t (by
      show oS p e below T57 m 77 #[rv a0, iv 32, iv 1, iv sh, iv 3, jv ac1, sn, iv 1] [] _
      refine XS.iinc X57.here hx rfl (hb hby d4_77) rfl (l' := #[rv a0, iv 32, iv 1, iv sh, iv 3, jv ac1, sn, iv 2]) rfl ?_
      show oS p e below T57 m 80 #[rv a0, iv 32, iv 1, iv sh, iv 3, jv ac1, sn, iv 2] [] _
      refine XS.goto X57.here hx rfl (pc0 := 80) (pc' := 45) rfl (hb hby d4_80) (by decide) (by decide) ?_
      show oS p e below T57 m 45 #[rv a0, iv 32, iv 1, iv sh, iv 3, jv ac1, sn, iv 2] [] _
      refine XS.iload X57.here hx rfl (hb hby d4_45) rfl ?_
      show oS p e below T57 m 47 #[rv a0, iv 32, iv 1, iv sh, iv 3, jv ac1, sn, iv 2] [(.int (2 : Int32))] _
      refine XS.iload X57.here hx rfl (hb hby d4_47) rfl ?_
      show oS p e below T57 m 49 #[rv a0, iv 32, iv 1, iv sh, iv 3, jv ac1, sn, iv 2] [(.int (3 : Int32)), (.int (2 : Int32))] _
      refine XS.icmpNo X57.here hx rfl (hb hby d4_49) rfl (tlt (by decide : (2 : Int32) < (3 : Int32))).2.1 ?_
      show oS p e below T57 m 52 #[rv a0, iv 32, iv 1, iv sh, iv 3, jv ac1, sn, iv 2] [] _
      refine XS.lload X57.here hx rfl (hb hby d4_52) rfl ?_
      show oS p e below T57 m 54 #[rv a0, iv 32, iv 1, iv sh, iv 3, jv ac1, sn, iv 2] [(.long ac1)] _
      refine XS.aloadN X57.here hx rfl (hb hby d4_54) rfl rfl ?_
      exact kt)
    clear pre62
    obtain ⟨T64, X64, e64, st64⟩ := getF X57 hx hZ hown (host := "") (Or.inl (hw _ (List.mem_of_getElem? (i := 13) rfl))) Via.refl e57 I_data (g := (mkF m 55 #[rv a0, iv 32, iv 1, iv sh, iv 3, jv ac1, sn, iv 2] [(.ref a0), (.long ac1)])) rfl rfl (hb hby d4_55)
    have pre65 : ∀ t, oS p e below T64 m 58 #[rv a0, iv 32, iv 1, iv sh, iv 3, jv ac1, sn, iv 2] [(.ref ab), (.long ac1)] t → oE p e below s₁ m #[(.ref a0), (.int (32 : Int32))] 8 t := fun t kt => pre63 t (st64 _ kt)
    clear pre63 st64
    have pre66 : ∀ t, oS p e below T64 m 60 #[rv a0, iv 32, iv 1, iv sh, iv 3, jv ac1, sn, iv 2] [(.int (2 : Int32)), (.ref ab), (.long ac1)] t → oE p e below s₁ m #[(.ref a0), (.int (32 : Int32))] 8 t := fun t kt => pre65 t (by
      show oS p e below T64 m 58 #[rv a0, iv 32, iv 1, iv sh, iv 3, jv ac1, sn, iv 2] [(.ref ab), (.long ac1)] _
      refine XS.iload X64.here hx rfl (hb hby d4_58) rfl ?_
      exact kt)
    clear pre65
    have tv67 := V1
    obtain ⟨cl67, Ar67, q67, S67, Ng67, H67, G67⟩ := tv67
    have hin67 : ¬ ((2 : Int32) < 0 ∨ cl67.slots.size ≤ ((2 : Int32)).toNatClampNeg) := inb_of S67 ⟨by decide, by decide⟩
    have hat67 : cl67.slots[((2 : Int32)).toNatClampNeg]? = some (.int b2) := Has.at H67 hin67 rfl
    have pre68 : ∀ t, oS p e below T64 m 77 #[rv a0, iv 32, iv 1, iv sh, iv 3, jv (ac1 ||| (((b2.toInt64) &&& (255 : Int64)) <<< ((8 : Int32) &&& 0x3f).toInt64)), sn, iv 2] [] t → oE p e below s₁ m #[(.ref a0), (.int (32 : Int32))] 8 t := fun t kt => pre66 t (by
      show oS p e below T64 m 60 #[rv a0, iv 32, iv 1, iv sh, iv 3, jv ac1, sn, iv 2] [(.int (2 : Int32)), (.ref ab), (.long ac1)] _
      refine X64.baloadBytes hx (j := (2 : Int32)) (v := (.int b2)) (by rw [e64]; exact Ar67.1) (State.isArrayOf_alike hZ.alike Ar67.2.1) Ar67.2.2 hin67 hat67 (g := (mkF m 60 #[rv a0, iv 32, iv 1, iv sh, iv 3, jv ac1, sn, iv 2] [(.int (2 : Int32)), (.ref ab), (.long ac1)])) rfl rfl (hb hby d4_60) _ ?_
      show oS p e below T64 m 61 #[rv a0, iv 32, iv 1, iv sh, iv 3, jv ac1, sn, iv 2] [(.int b2), (.long ac1)] _
      refine XS.i2l X64.here hx rfl (hb hby d4_61) rfl ?_
      show oS p e below T64 m 62 #[rv a0, iv 32, iv 1, iv sh, iv 3, jv ac1, sn, iv 2] [(.long (b2.toInt64)), (.long ac1)] _
      refine X64.ldc2Long hx hown (mvT hZ (hw _ (List.mem_of_getElem? (i := 42) rfl))) (g := (mkF m 62 #[rv a0, iv 32, iv 1, iv sh, iv 3, jv ac1, sn, iv 2] [(.long (b2.toInt64)), (.long ac1)])) rfl (hb hby d4_62) _ ?_
      show oS p e below T64 m 65 #[rv a0, iv 32, iv 1, iv sh, iv 3, jv ac1, sn, iv 2] [(.long (255 : Int64)), (.long (b2.toInt64)), (.long ac1)] _
      refine XS.land X64.here hx rfl (hb hby d4_65) rfl ?_
      show oS p e below T64 m 66 #[rv a0, iv 32, iv 1, iv sh, iv 3, jv ac1, sn, iv 2] [(.long ((b2.toInt64) &&& (255 : Int64))), (.long ac1)] _
      refine XS.bipush X64.here hx rfl (hb hby d4_66) ?_
      show oS p e below T64 m 68 #[rv a0, iv 32, iv 1, iv sh, iv 3, jv ac1, sn, iv 2] [(.int (8 : Int32)), (.long ((b2.toInt64) &&& (255 : Int64))), (.long ac1)] _
      refine XS.iload X64.here hx rfl (hb hby d4_68) rfl ?_
      show oS p e below T64 m 70 #[rv a0, iv 32, iv 1, iv sh, iv 3, jv ac1, sn, iv 2] [(.int (2 : Int32)), (.int (8 : Int32)), (.long ((b2.toInt64) &&& (255 : Int64))), (.long ac1)] _
      refine XS.iloadN X64.here hx rfl (hb hby d4_70) rfl ?_
      show oS p e below T64 m 71 #[rv a0, iv 32, iv 1, iv sh, iv 3, jv ac1, sn, iv 2] [(.int (1 : Int32)), (.int (2 : Int32)), (.int (8 : Int32)), (.long ((b2.toInt64) &&& (255 : Int64))), (.long ac1)] _
      refine XS.isub X64.here hx rfl (hb hby d4_71) rfl ?_
      show oS p e below T64 m 72 #[rv a0, iv 32, iv 1, iv sh, iv 3, jv ac1, sn, iv 2] [(.int (1 : Int32)), (.int (8 : Int32)), (.long ((b2.toInt64) &&& (255 : Int64))), (.long ac1)] _
      refine XS.imul X64.here hx rfl (hb hby d4_72) rfl ?_
      show oS p e below T64 m 73 #[rv a0, iv 32, iv 1, iv sh, iv 3, jv ac1, sn, iv 2] [(.int (8 : Int32)), (.long ((b2.toInt64) &&& (255 : Int64))), (.long ac1)] _
      refine XS.lshl X64.here hx rfl (hb hby d4_73) rfl ?_
      show oS p e below T64 m 74 #[rv a0, iv 32, iv 1, iv sh, iv 3, jv ac1, sn, iv 2] [(.long (((b2.toInt64) &&& (255 : Int64)) <<< ((8 : Int32) &&& 0x3f).toInt64)), (.long ac1)] _
      refine XS.lor X64.here hx rfl (hb hby d4_74) rfl ?_
      show oS p e below T64 m 75 #[rv a0, iv 32, iv 1, iv sh, iv 3, jv ac1, sn, iv 2] [(.long (ac1 ||| (((b2.toInt64) &&& (255 : Int64)) <<< ((8 : Int32) &&& 0x3f).toInt64)))] _
      refine XS.lstore X64.here hx rfl (hb hby d4_75) rfl (l' := #[rv a0, iv 32, iv 1, iv sh, iv 3, jv (ac1 ||| (((b2.toInt64) &&& (255 : Int64)) <<< ((8 : Int32) &&& 0x3f).toInt64)), sn, iv 2]) rfl ?_
      exact kt)
    clear pre66
    obtain ⟨ac2, hm69, pre69⟩ : ∃ (ac2 : Int64), (ac2.toInt = 1 * (b1.toInt % 256) + 256 * (b2.toInt % 256)) ∧ ∀ t, oS p e below T64 m 77 #[rv a0, iv 32, iv 1, iv sh, iv 3, jv ac2, sn, iv 2] [] t → oE p e below s₁ m #[(.ref a0), (.int (32 : Int32))] 8 t := ⟨(ac1 ||| (((b2.toInt64) &&& (255 : Int64)) <<< ((8 : Int32) &&& 0x3f).toInt64)), own_ac1 ac1 b2 _ hm62 (by omega), pre68⟩
    clear pre68
    have pre70 : ∀ t, oS p e below T64 m 94 #[rv a0, iv 32, iv 1, iv sh, iv 3, jv ac2, sn, iv 3] [(.int ((((ac2.toUInt64 >>> (sh &&& 0x3f).toInt64.toUInt64).toInt64) &&& (((1 : Int64) <<< ((32 : Int32) &&& 0x3f).toInt64) - (1 : Int64))).toInt32))] t → oE p e below s₁ m #[(.ref a0), (.int (32 : Int32))] 8 t := fun t kt => pre69 t (by
      show oS p e below T64 m 77 #[rv a0, iv 32, iv 1, iv sh, iv 3, jv ac2, sn, iv 2] [] _
      refine XS.iinc X64.here hx rfl (hb hby d4_77) rfl (l' := #[rv a0, iv 32, iv 1, iv sh, iv 3, jv ac2, sn, iv 3]) rfl ?_
      show oS p e below T64 m 80 #[rv a0, iv 32, iv 1, iv sh, iv 3, jv ac2, sn, iv 3] [] _
      refine XS.goto X64.here hx rfl (pc0 := 80) (pc' := 45) rfl (hb hby d4_80) (by decide) (by decide) ?_
      show oS p e below T64 m 45 #[rv a0, iv 32, iv 1, iv sh, iv 3, jv ac2, sn, iv 3] [] _
      refine XS.iload X64.here hx rfl (hb hby d4_45) rfl ?_
      show oS p e below T64 m 47 #[rv a0, iv 32, iv 1, iv sh, iv 3, jv ac2, sn, iv 3] [(.int (3 : Int32))] _
      refine XS.iload X64.here hx rfl (hb hby d4_47) rfl ?_
      show oS p e below T64 m 49 #[rv a0, iv 32, iv 1, iv sh, iv 3, jv ac2, sn, iv 3] [(.int (3 : Int32)), (.int (3 : Int32))] _
      refine XS.icmpYes X64.here hx rfl (pc0 := 49) (pc' := 83) rfl (hb hby d4_49) rfl (flt (by decide : ¬ ((3 : Int32) < (3 : Int32)))).2.1 (by decide) (by decide) ?_
      show oS p e below T64 m 83 #[rv a0, iv 32, iv 1, iv sh, iv 3, jv ac2, sn, iv 3] [] _
      refine XS.lload X64.here hx rfl (hb hby d4_83) rfl ?_
      show oS p e below T64 m 85 #[rv a0, iv 32, iv 1, iv sh, iv 3, jv ac2, sn, iv 3] [(.long ac2)] _
      refine XS.iloadN X64.here hx rfl (hb hby d4_85) rfl ?_
      show oS p e below T64 m 86 #[rv a0, iv 32, iv 1, iv sh, iv 3, jv ac2, sn, iv 3] [(.int sh), (.long ac2)] _
      refine XS.lushr X64.here hx rfl (hb hby d4_86) rfl ?_
      show oS p e below T64 m 87 #[rv a0, iv 32, iv 1, iv sh, iv 3, jv ac2, sn, iv 3] [(.long ((ac2.toUInt64 >>> (sh &&& 0x3f).toInt64.toUInt64).toInt64))] _
      refine XS.lconst X64.here hx rfl (hb hby d4_87) ?_
      show oS p e below T64 m 88 #[rv a0, iv 32, iv 1, iv sh, iv 3, jv ac2, sn, iv 3] [(.long (1 : Int64)), (.long ((ac2.toUInt64 >>> (sh &&& 0x3f).toInt64.toUInt64).toInt64))] _
      refine XS.iloadN X64.here hx rfl (hb hby d4_88) rfl ?_
      show oS p e below T64 m 89 #[rv a0, iv 32, iv 1, iv sh, iv 3, jv ac2, sn, iv 3] [(.int (32 : Int32)), (.long (1 : Int64)), (.long ((ac2.toUInt64 >>> (sh &&& 0x3f).toInt64.toUInt64).toInt64))] _
      refine XS.lshl X64.here hx rfl (hb hby d4_89) rfl ?_
      show oS p e below T64 m 90 #[rv a0, iv 32, iv 1, iv sh, iv 3, jv ac2, sn, iv 3] [(.long ((1 : Int64) <<< ((32 : Int32) &&& 0x3f).toInt64)), (.long ((ac2.toUInt64 >>> (sh &&& 0x3f).toInt64.toUInt64).toInt64))] _
      refine XS.lconst X64.here hx rfl (hb hby d4_90) ?_
      show oS p e below T64 m 91 #[rv a0, iv 32, iv 1, iv sh, iv 3, jv ac2, sn, iv 3] [(.long (1 : Int64)), (.long ((1 : Int64) <<< ((32 : Int32) &&& 0x3f).toInt64)), (.long ((ac2.toUInt64 >>> (sh &&& 0x3f).toInt64.toUInt64).toInt64))] _
      refine XS.lsub X64.here hx rfl (hb hby d4_91) rfl ?_
      show oS p e below T64 m 92 #[rv a0, iv 32, iv 1, iv sh, iv 3, jv ac2, sn, iv 3] [(.long (((1 : Int64) <<< ((32 : Int32) &&& 0x3f).toInt64) - (1 : Int64))), (.long ((ac2.toUInt64 >>> (sh &&& 0x3f).toInt64.toUInt64).toInt64))] _
      refine XS.land X64.here hx rfl (hb hby d4_92) rfl ?_
      show oS p e below T64 m 93 #[rv a0, iv 32, iv 1, iv sh, iv 3, jv ac2, sn, iv 3] [(.long (((ac2.toUInt64 >>> (sh &&& 0x3f).toInt64.toUInt64).toInt64) &&& (((1 : Int64) <<< ((32 : Int32) &&& 0x3f).toInt64) - (1 : Int64))))] _
      refine XS.l2i X64.here hx rfl (hb hby d4_93) rfl ?_
      exact kt)
    clear pre69
    have hr0 : ((((ac2.toUInt64 >>> (sh &&& 0x3f).toInt64.toUInt64).toInt64) &&& (((1 : Int64) <<< ((32 : Int32) &&& 0x3f).toInt64) - (1 : Int64))).toInt32) = Int32.ofInt ((1 * (b0.toInt % 256) + 256 * (b1.toInt % 256) + 65536 * (b2.toInt % 256)) / 2 ^ ps.toInt.toNat) := own_fin ac2 sh ps (1 * (b0.toInt % 256) + 256 * (b1.toInt % 256) + 65536 * (b2.toInt % 256)) 1 256 (by decide) hps.1 hk1 hm46 (by omega) (by have q := hm69; omega)
    rw [hr0] at pre70
    obtain ⟨fs, hr, hrun, hended, hW, hsame⟩ := X64.leave (v := some (.int (Int32.ofInt ((1 * (b0.toInt % 256) + 256 * (b1.toInt % 256) + 65536 * (b2.toInt % 256)) / 2 ^ ps.toInt.toNat)))) (fun h => by rw [Bd.returns] at h; cases h)
    refine ⟨_, _, pre70 _ ?_, hrun, hended, _, _, rfl, ?_, ⟨_, rfl⟩, hW, hsame.mono (by decide) (by decide)⟩
    · show oS p e below T64 m 94 #[rv a0, iv 32, iv 1, iv sh, iv 3, jv ac2, sn, iv 3] [(.int (Int32.ofInt ((1 * (b0.toInt % 256) + 256 * (b1.toInt % 256) + 65536 * (b2.toInt % 256)) / 2 ^ ps.toInt.toNat)))] _
      exact retI X64 hx Bd.returns (hb hby d4_94) hr
    · show Q4p3 Z a0 ab sz ps ed kb b0 b1 b2 h0 n0 _ T64.heap _
      rw [e64]
      exact ⟨rfl, N52, rfl⟩
  · have hk2 : ps.toInt / 8 = 2 := hk0.trans (by decide)
    have pre71 : ∀ t, oS p e below T2 m 9 #[rv a0, iv 32, iv 2, un, un, un, un, un] [(.ref a0)] t → oE p e below s₁ m #[(.ref a0), (.int (32 : Int32))] 8 t := fun t kt => pre5 t (by
      show oS p e below T2 m 8 #[rv a0, iv 32, iv 2, un, un, un, un, un] [] _
      refine XS.aloadN X2.here hx rfl (hb hby d4_8) rfl rfl ?_
      exact kt)
    clear pre5
    obtain ⟨T72, X72, e72, st72⟩ := getF X2 hx hZ hown (host := "") (Or.inl (hw _ (List.mem_of_getElem? (i := 23) rfl))) Via.refl e2 I_position (g := (mkF m 9 #[rv a0, iv 32, iv 2, un, un, un, un, un] [(.ref a0)])) rfl rfl (hb hby d4_9)
    have pre73 : ∀ t, oS p e below T72 m 12 #[rv a0, iv 32, iv 2, un, un, un, un, un] [(.long ps)] t → oE p e below s₁ m #[(.ref a0), (.int (32 : Int32))] 8 t := fun t kt => pre71 t (st72 _ kt)
    clear pre71 st72
    have pre74 : ∀ t, oS p e below T72 m 18 #[rv a0, iv 32, iv 2, iv ((ps &&& (7 : Int64)).toInt32), un, un, un, un] [] t → oE p e below s₁ m #[(.ref a0), (.int (32 : Int32))] 8 t := fun t kt => pre73 t (by
      show oS p e below T72 m 12 #[rv a0, iv 32, iv 2, un, un, un, un, un] [(.long ps)] _
      refine X72.ldc2Long hx hown (mvT hZ (hw _ (List.mem_of_getElem? (i := 32) rfl))) (g := (mkF m 12 #[rv a0, iv 32, iv 2, un, un, un, un, un] [(.long ps)])) rfl (hb hby d4_12) _ ?_
      show oS p e below T72 m 15 #[rv a0, iv 32, iv 2, un, un, un, un, un] [(.long (7 : Int64)), (.long ps)] _
      refine XS.land X72.here hx rfl (hb hby d4_15) rfl ?_
      show oS p e below T72 m 16 #[rv a0, iv 32, iv 2, un, un, un, un, un] [(.long (ps &&& (7 : Int64)))] _
      refine XS.l2i X72.here hx rfl (hb hby d4_16) rfl ?_
      show oS p e below T72 m 17 #[rv a0, iv 32, iv 2, un, un, un, un, un] [(.int ((ps &&& (7 : Int64)).toInt32))] _
      refine XS.istoreN X72.here hx rfl (hb hby d4_17) rfl (l' := #[rv a0, iv 32, iv 2, iv ((ps &&& (7 : Int64)).toInt32), un, un, un, un]) rfl ?_
      exact kt)
    clear pre73
    obtain ⟨sh, hm75, pre75⟩ : ∃ (sh : Int32), (sh.toInt = ps.toInt % 8) ∧ ∀ t, oS p e below T72 m 18 #[rv a0, iv 32, iv 2, iv sh, un, un, un, un] [] t → oE p e below s₁ m #[(.ref a0), (.int (32 : Int32))] 8 t := ⟨((ps &&& (7 : Int64)).toInt32), own_sh ps hps, pre74⟩
    clear pre74
    have pre76 : ∀ t, oS p e below T72 m 19 #[rv a0, iv 32, iv 2, iv sh, un, un, un, un] [(.ref a0)] t → oE p e below s₁ m #[(.ref a0), (.int (32 : Int32))] 8 t := fun t kt => pre75 t (by
      show oS p e below T72 m 18 #[rv a0, iv 32, iv 2, iv sh, un, un, un, un] [] _
      refine XS.aloadN X72.here hx rfl (hb hby d4_18) rfl rfl ?_
      exact kt)
    clear pre75
    obtain ⟨T77, X77, e77, st77⟩ := getF X72 hx hZ hown (host := "") (Or.inl (hw _ (List.mem_of_getElem? (i := 13) rfl))) Via.refl e72 I_data (g := (mkF m 19 #[rv a0, iv 32, iv 2, iv sh, un, un, un, un] [(.ref a0)])) rfl rfl (hb hby d4_19)
    have pre78 : ∀ t, oS p e below T77 m 22 #[rv a0, iv 32, iv 2, iv sh, un, un, un, un] [(.ref ab)] t → oE p e below s₁ m #[(.ref a0), (.int (32 : Int32))] 8 t := fun t kt => pre76 t (st77 _ kt)
    clear pre76 st77
    have tv79 := V1
    obtain ⟨cl79, Ar79, q79, S79, Ng79, H79, G79⟩ := tv79
    have pre80 : ∀ t, oS p e below T77 m 34 #[rv a0, iv 32, iv 2, iv sh, un, un, un, un] [(.int ((2 : Int32) + (((sh + (32 : Int32)) + (7 : Int32)) / (8 : Int32)))), (.int (3 : Int32))] t → oE p e below s₁ m #[(.ref a0), (.int (32 : Int32))] 8 t := fun t kt => pre78 t (by
      show oS p e below T77 m 22 #[rv a0, iv 32, iv 2, iv sh, un, un, un, un] [(.ref ab)] _
      refine X77.arraylength hx (by rw [e77]; exact Ar79.1) (State.isArrayOf_alike hZ.alike Ar79.2.1) (g := (mkF m 22 #[rv a0, iv 32, iv 2, iv sh, un, un, un, un] [(.ref ab)])) rfl rfl (hb hby d4_22) _ ?_
      rw [len_of S79 Ng79]
      show oS p e below T77 m 23 #[rv a0, iv 32, iv 2, iv sh, un, un, un, un] [(.int (3 : Int32))] _
      refine XS.iloadN X77.here hx rfl (hb hby d4_23) rfl ?_
      show oS p e below T77 m 24 #[rv a0, iv 32, iv 2, iv sh, un, un, un, un] [(.int (2 : Int32)), (.int (3 : Int32))] _
      refine XS.iloadN X77.here hx rfl (hb hby d4_24) rfl ?_
      show oS p e below T77 m 25 #[rv a0, iv 32, iv 2, iv sh, un, un, un, un] [(.int sh), (.int (2 : Int32)), (.int (3 : Int32))] _
      refine XS.iloadN X77.here hx rfl (hb hby d4_25) rfl ?_
      show oS p e below T77 m 26 #[rv a0, iv 32, iv 2, iv sh, un, un, un, un] [(.int (32 : Int32)), (.int sh), (.int (2 : Int32)), (.int (3 : Int32))] _
      refine XS.iadd X77.here hx rfl (hb hby d4_26) rfl ?_
      show oS p e below T77 m 27 #[rv a0, iv 32, iv 2, iv sh, un, un, un, un] [(.int (sh + (32 : Int32))), (.int (2 : Int32)), (.int (3 : Int32))] _
      refine XS.bipush X77.here hx rfl (hb hby d4_27) ?_
      show oS p e below T77 m 29 #[rv a0, iv 32, iv 2, iv sh, un, un, un, un] [(.int (7 : Int32)), (.int (sh + (32 : Int32))), (.int (2 : Int32)), (.int (3 : Int32))] _
      refine XS.iadd X77.here hx rfl (hb hby d4_29) rfl ?_
      show oS p e below T77 m 30 #[rv a0, iv 32, iv 2, iv sh, un, un, un, un] [(.int ((sh + (32 : Int32)) + (7 : Int32))), (.int (2 : Int32)), (.int (3 : Int32))] _
      refine XS.bipush X77.here hx rfl (hb hby d4_30) ?_
      show oS p e below T77 m 32 #[rv a0, iv 32, iv 2, iv sh, un, un, un, un] [(.int (8 : Int32)), (.int ((sh + (32 : Int32)) + (7 : Int32))), (.int (2 : Int32)), (.int (3 : Int32))] _
      refine XS.idiv X77.here hx rfl (hb hby d4_32) rfl (by decide) ?_
      show oS p e below T77 m 33 #[rv a0, iv 32, iv 2, iv sh, un, un, un, un] [(.int (((sh + (32 : Int32)) + (7 : Int32)) / (8 : Int32))), (.int (2 : Int32)), (.int (3 : Int32))] _
      refine XS.iadd X77.here hx rfl (hb hby d4_33) rfl ?_
      exact kt)
    clear pre78
    obtain ⟨_, _, ⟨T81, L81, k81, n81⟩, -, X81, ⟨Lc81, hQ81, l81, y81, z81⟩, st81⟩ := Jvm.LawKit.callS X77 hx (y := (⟨"java/lang/Math", "min", "(II)I"⟩ : MethodName)) hown (mvT hZ (hw _ (List.mem_of_getElem? (i := 33) rfl))) (mvT hZ (hw _ (List.mem_of_getElem? (i := 34) rfl))) (mvT hZ (hw _ (List.mem_of_getElem? (i := 35) rfl))) (mvT hZ (hw _ (List.mem_of_getElem? (i := 36) rfl))) (by decide) (backOf (W := 0) (rm5 l Z av hw [] (3 : Int32) ((2 : Int32) + (((sh + (32 : Int32)) + (7 : Int32)) / (8 : Int32)))  h0 n0 Z0 ) hZ (hw _ (List.mem_of_getElem? (i := 36) rfl)) (hw _ (List.mem_of_getElem? (i := 35) rfl)) (by decide) (by decide)) (g := (mkF m 34 #[rv a0, iv 32, iv 2, iv sh, un, un, un, un] [(.int ((2 : Int32) + (((sh + (32 : Int32)) + (7 : Int32)) / (8 : Int32)))), (.int (3 : Int32))])) rfl (by rw [hml]; rfl) (argsL := [(.int (3 : Int32)), (.int ((2 : Int32) + (((sh + (32 : Int32)) + (7 : Int32)) / (8 : Int32))))]) (rest := []) (lenOf pd__II_I rfl) rfl (by show 2 * 0 + _ ≤ _; exact Nat.le_of_eq rfl) (hb hby d4_34) (fun _ _ => ⟨rfl, e77, (by decide : 0 + 0 ≤ _), (by decide : 0 + 0 ≤ _)⟩)
    dsimp only [Pt.U, Pt.locs, Pt.cells, Pt.slots] at X81 l81 y81 z81 st81 hQ81
    rw [l81, y81, z81] at X81
    clear l81 y81 z81
    obtain ⟨rfl, N81q, e81⟩ := hQ81
    have N81 := Fr.app N0 N81q
    have pre82 : ∀ t, oS p e below T81 m 37 #[rv a0, iv 32, iv 2, iv sh, un, un, un, un] [(.int (f_min (3 : Int32) ((2 : Int32) + (((sh + (32 : Int32)) + (7 : Int32)) / (8 : Int32)))))] t → oE p e below s₁ m #[(.ref a0), (.int (32 : Int32))] 8 t := fun t kt => pre80 t (st81 _ kt)
    clear pre80 st81
    have pre83 : ∀ t, oS p e below T81 m 39 #[rv a0, iv 32, iv 2, iv sh, iv (f_min (3 : Int32) ((2 : Int32) + (((sh + (32 : Int32)) + (7 : Int32)) / (8 : Int32)))), un, un, un] [] t → oE p e below s₁ m #[(.ref a0), (.int (32 : Int32))] 8 t := fun t kt => pre82 t (by
      show oS p e below T81 m 37 #[rv a0, iv 32, iv 2, iv sh, un, un, un, un] [(.int (f_min (3 : Int32) ((2 : Int32) + (((sh + (32 : Int32)) + (7 : Int32)) / (8 : Int32)))))] _
      refine XS.istore X81.here hx rfl (hb hby d4_37) rfl (l' := #[rv a0, iv 32, iv 2, iv sh, iv (f_min (3 : Int32) ((2 : Int32) + (((sh + (32 : Int32)) + (7 : Int32)) / (8 : Int32)))), un, un, un]) rfl ?_
      exact kt)
    clear pre82
    obtain ⟨en, hm84, pre84⟩ : ∃ (en : Int32), (en = (3 : Int32)) ∧ ∀ t, oS p e below T81 m 39 #[rv a0, iv 32, iv 2, iv sh, iv en, un, un, un] [] t → oE p e below s₁ m #[(.ref a0), (.int (32 : Int32))] 8 t := ⟨(f_min (3 : Int32) ((2 : Int32) + (((sh + (32 : Int32)) + (7 : Int32)) / (8 : Int32)))), own_enG (3 : Int32) (2 : Int32) sh (by decide) (by decide) hm75, pre83⟩
    clear pre83
    subst hm84
    have pre85 : ∀ t, oS p e below T81 m 55 #[rv a0, iv 32, iv 2, iv sh, iv 3, jv 0, sn, iv 2] [(.ref a0), (.long (0 : Int64))] t → oE p e below s₁ m #[(.ref a0), (.int (32 : Int32))] 8 t := fun t kt => pre84 t (by
      show oS p e below T81 m 39 #[rv a0, iv 32, iv 2, iv sh, iv 3, un, un, un] [] _
      refine XS.lconst X81.here hx rfl (hb hby d4_39) ?_
      show oS p e below T81 m 40 #[rv a0, iv 32, iv 2, iv sh, iv 3, un, un, un] [(.long (0 : Int64))] _
      refine XS.lstore X81.here hx rfl (hb hby d4_40) rfl (l' := #[rv a0, iv 32, iv 2, iv sh, iv 3, jv 0, sn, un]) rfl ?_
      show oS p e below T81 m 42 #[rv a0, iv 32, iv 2, iv sh, iv 3, jv 0, sn, un] [] _
      refine XS.iloadN X81.here hx rfl (hb hby d4_42) rfl ?_
      show oS p e below T81 m 43 #[rv a0, iv 32, iv 2, iv sh, iv 3, jv 0, sn, un] [(.int (2 : Int32))] _
      refine XS.istore X81.here hx rfl (hb hby d4_43) rfl (l' := #[rv a0, iv 32, iv 2, iv sh, iv 3, jv 0, sn, iv 2]) rfl ?_
      show oS p e below T81 m 45 #[rv a0, iv 32, iv 2, iv sh, iv 3, jv 0, sn, iv 2] [] _
      refine XS.iload X81.here hx rfl (hb hby d4_45) rfl ?_
      show oS p e below T81 m 47 #[rv a0, iv 32, iv 2, iv sh, iv 3, jv 0, sn, iv 2] [(.int (2 : Int32))] _
      refine XS.iload X81.here hx rfl (hb hby d4_47) rfl ?_
      show oS p e below T81 m 49 #[rv a0, iv 32, iv 2, iv sh, iv 3, jv 0, sn, iv 2] [(.int (3 : Int32)), (.int (2 : Int32))] _
      refine XS.icmpNo X81.here hx rfl (hb hby d4_49) rfl (tlt (by decide : (2 : Int32) < (3 : Int32))).2.1 ?_
      show oS p e below T81 m 52 #[rv a0, iv 32, iv 2, iv sh, iv 3, jv 0, sn, iv 2] [] _
      refine XS.lload X81.here hx rfl (hb hby d4_52) rfl ?_
      show oS p e below T81 m 54 #[rv a0, iv 32, iv 2, iv sh, iv 3, jv 0, sn, iv 2] [(.long (0 : Int64))] _
      refine XS.aloadN X81.here hx rfl (hb hby d4_54) rfl rfl ?_
      exact kt)
    clear pre84
    obtain ⟨T86, X86, e86, st86⟩ := getF X81 hx hZ hown (host := "") (Or.inl (hw _ (List.mem_of_getElem? (i := 13) rfl))) Via.refl e81 I_data (g := (mkF m 55 #[rv a0, iv 32, iv 2, iv sh, iv 3, jv 0, sn, iv 2] [(.ref a0), (.long (0 : Int64))])) rfl rfl (hb hby d4_55)
    have pre87 : ∀ t, oS p e below T86 m 58 #[rv a0, iv 32, iv 2, iv sh, iv 3, jv 0, sn, iv 2] [(.ref ab), (.long (0 : Int64))] t → oE p e below s₁ m #[(.ref a0), (.int (32 : Int32))] 8 t := fun t kt => pre85 t (st86 _ kt)
    clear pre85 st86
    have pre88 : ∀ t, oS p e below T86 m 60 #[rv a0, iv 32, iv 2, iv sh, iv 3, jv 0, sn, iv 2] [(.int (2 : Int32)), (.ref ab), (.long (0 : Int64))] t → oE p e below s₁ m #[(.ref a0), (.int (32 : Int32))] 8 t := fun t kt => pre87 t (by
      show oS p e below T86 m 58 #[rv a0, iv 32, iv 2, iv sh, iv 3, jv 0, sn, iv 2] [(.ref ab), (.long (0 : Int64))] _
      refine XS.iload X86.here hx rfl (hb hby d4_58) rfl ?_
      exact kt)
    clear pre87
    have tv89 := V1
    obtain ⟨cl89, Ar89, q89, S89, Ng89, H89, G89⟩ := tv89
    have hin89 : ¬ ((2 : Int32) < 0 ∨ cl89.slots.size ≤ ((2 : Int32)).toNatClampNeg) := inb_of S89 ⟨by decide, by decide⟩
    have hat89 : cl89.slots[((2 : Int32)).toNatClampNeg]? = some (.int b2) := Has.at H89 hin89 rfl
    have pre90 : ∀ t, oS p e below T86 m 77 #[rv a0, iv 32, iv 2, iv sh, iv 3, jv ((0 : Int64) ||| (((b2.toInt64) &&& (255 : Int64)) <<< ((0 : Int32) &&& 0x3f).toInt64)), sn, iv 2] [] t → oE p e below s₁ m #[(.ref a0), (.int (32 : Int32))] 8 t := fun t kt => pre88 t (by
      show oS p e below T86 m 60 #[rv a0, iv 32, iv 2, iv sh, iv 3, jv 0, sn, iv 2] [(.int (2 : Int32)), (.ref ab), (.long (0 : Int64))] _
      refine X86.baloadBytes hx (j := (2 : Int32)) (v := (.int b2)) (by rw [e86]; exact Ar89.1) (State.isArrayOf_alike hZ.alike Ar89.2.1) Ar89.2.2 hin89 hat89 (g := (mkF m 60 #[rv a0, iv 32, iv 2, iv sh, iv 3, jv 0, sn, iv 2] [(.int (2 : Int32)), (.ref ab), (.long (0 : Int64))])) rfl rfl (hb hby d4_60) _ ?_
      show oS p e below T86 m 61 #[rv a0, iv 32, iv 2, iv sh, iv 3, jv 0, sn, iv 2] [(.int b2), (.long (0 : Int64))] _
      refine XS.i2l X86.here hx rfl (hb hby d4_61) rfl ?_
      show oS p e below T86 m 62 #[rv a0, iv 32, iv 2, iv sh, iv 3, jv 0, sn, iv 2] [(.long (b2.toInt64)), (.long (0 : Int64))] _
      refine X86.ldc2Long hx hown (mvT hZ (hw _ (List.mem_of_getElem? (i := 42) rfl))) (g := (mkF m 62 #[rv a0, iv 32, iv 2, iv sh, iv 3, jv 0, sn, iv 2] [(.long (b2.toInt64)), (.long (0 : Int64))])) rfl (hb hby d4_62) _ ?_
      show oS p e below T86 m 65 #[rv a0, iv 32, iv 2, iv sh, iv 3, jv 0, sn, iv 2] [(.long (255 : Int64)), (.long (b2.toInt64)), (.long (0 : Int64))] _
      refine XS.land X86.here hx rfl (hb hby d4_65) rfl ?_
      show oS p e below T86 m 66 #[rv a0, iv 32, iv 2, iv sh, iv 3, jv 0, sn, iv 2] [(.long ((b2.toInt64) &&& (255 : Int64))), (.long (0 : Int64))] _
      refine XS.bipush X86.here hx rfl (hb hby d4_66) ?_
      show oS p e below T86 m 68 #[rv a0, iv 32, iv 2, iv sh, iv 3, jv 0, sn, iv 2] [(.int (8 : Int32)), (.long ((b2.toInt64) &&& (255 : Int64))), (.long (0 : Int64))] _
      refine XS.iload X86.here hx rfl (hb hby d4_68) rfl ?_
      show oS p e below T86 m 70 #[rv a0, iv 32, iv 2, iv sh, iv 3, jv 0, sn, iv 2] [(.int (2 : Int32)), (.int (8 : Int32)), (.long ((b2.toInt64) &&& (255 : Int64))), (.long (0 : Int64))] _
      refine XS.iloadN X86.here hx rfl (hb hby d4_70) rfl ?_
      show oS p e below T86 m 71 #[rv a0, iv 32, iv 2, iv sh, iv 3, jv 0, sn, iv 2] [(.int (2 : Int32)), (.int (2 : Int32)), (.int (8 : Int32)), (.long ((b2.toInt64) &&& (255 : Int64))), (.long (0 : Int64))] _
      refine XS.isub X86.here hx rfl (hb hby d4_71) rfl ?_
      show oS p e below T86 m 72 #[rv a0, iv 32, iv 2, iv sh, iv 3, jv 0, sn, iv 2] [(.int (0 : Int32)), (.int (8 : Int32)), (.long ((b2.toInt64) &&& (255 : Int64))), (.long (0 : Int64))] _
      refine XS.imul X86.here hx rfl (hb hby d4_72) rfl ?_
      show oS p e below T86 m 73 #[rv a0, iv 32, iv 2, iv sh, iv 3, jv 0, sn, iv 2] [(.int (0 : Int32)), (.long ((b2.toInt64) &&& (255 : Int64))), (.long (0 : Int64))] _
      refine XS.lshl X86.here hx rfl (hb hby d4_73) rfl ?_
      show oS p e below T86 m 74 #[rv a0, iv 32, iv 2, iv sh, iv 3, jv 0, sn, iv 2] [(.long (((b2.toInt64) &&& (255 : Int64)) <<< ((0 : Int32) &&& 0x3f).toInt64)), (.long (0 : Int64))] _
      refine XS.lor X86.here hx rfl (hb hby d4_74) rfl ?_
      show oS p e below T86 m 75 #[rv a0, iv 32, iv 2, iv sh, iv 3, jv 0, sn, iv 2] [(.long ((0 : Int64) ||| (((b2.toInt64) &&& (255 : Int64)) <<< ((0 : Int32) &&& 0x3f).toInt64)))] _
      refine XS.lstore X86.here hx rfl (hb hby d4_75) rfl (l' := #[rv a0, iv 32, iv 2, iv sh, iv 3, jv ((0 : Int64) ||| (((b2.toInt64) &&& (255 : Int64)) <<< ((0 : Int32) &&& 0x3f).toInt64)), sn, iv 2]) rfl ?_
      exact kt)
    clear pre88
    obtain ⟨ac2, hm91, pre91⟩ : ∃ (ac2 : Int64), (ac2.toInt = 1 * (b2.toInt % 256)) ∧ ∀ t, oS p e below T86 m 77 #[rv a0, iv 32, iv 2, iv sh, iv 3, jv ac2, sn, iv 2] [] t → oE p e below s₁ m #[(.ref a0), (.int (32 : Int32))] 8 t := ⟨((0 : Int64) ||| (((b2.toInt64) &&& (255 : Int64)) <<< ((0 : Int32) &&& 0x3f).toInt64)), own_ac0 b2, pre90⟩
    clear pre90
    have pre92 : ∀ t, oS p e below T86 m 94 #[rv a0, iv 32, iv 2, iv sh, iv 3, jv ac2, sn, iv 3] [(.int ((((ac2.toUInt64 >>> (sh &&& 0x3f).toInt64.toUInt64).toInt64) &&& (((1 : Int64) <<< ((32 : Int32) &&& 0x3f).toInt64) - (1 : Int64))).toInt32))] t → oE p e below s₁ m #[(.ref a0), (.int (32 : Int32))] 8 t := fun t kt => pre91 t (by
      show oS p e below T86 m 77 #[rv a0, iv 32, iv 2, iv sh, iv 3, jv ac2, sn, iv 2] [] _
      refine XS.iinc X86.here hx rfl (hb hby d4_77) rfl (l' := #[rv a0, iv 32, iv 2, iv sh, iv 3, jv ac2, sn, iv 3]) rfl ?_
      show oS p e below T86 m 80 #[rv a0, iv 32, iv 2, iv sh, iv 3, jv ac2, sn, iv 3] [] _
      refine XS.goto X86.here hx rfl (pc0 := 80) (pc' := 45) rfl (hb hby d4_80) (by decide) (by decide) ?_
      show oS p e below T86 m 45 #[rv a0, iv 32, iv 2, iv sh, iv 3, jv ac2, sn, iv 3] [] _
      refine XS.iload X86.here hx rfl (hb hby d4_45) rfl ?_
      show oS p e below T86 m 47 #[rv a0, iv 32, iv 2, iv sh, iv 3, jv ac2, sn, iv 3] [(.int (3 : Int32))] _
      refine XS.iload X86.here hx rfl (hb hby d4_47) rfl ?_
      show oS p e below T86 m 49 #[rv a0, iv 32, iv 2, iv sh, iv 3, jv ac2, sn, iv 3] [(.int (3 : Int32)), (.int (3 : Int32))] _
      refine XS.icmpYes X86.here hx rfl (pc0 := 49) (pc' := 83) rfl (hb hby d4_49) rfl (flt (by decide : ¬ ((3 : Int32) < (3 : Int32)))).2.1 (by decide) (by decide) ?_
      show oS p e below T86 m 83 #[rv a0, iv 32, iv 2, iv sh, iv 3, jv ac2, sn, iv 3] [] _
      refine XS.lload X86.here hx rfl (hb hby d4_83) rfl ?_
      show oS p e below T86 m 85 #[rv a0, iv 32, iv 2, iv sh, iv 3, jv ac2, sn, iv 3] [(.long ac2)] _
      refine XS.iloadN X86.here hx rfl (hb hby d4_85) rfl ?_
      show oS p e below T86 m 86 #[rv a0, iv 32, iv 2, iv sh, iv 3, jv ac2, sn, iv 3] [(.int sh), (.long ac2)] _
      refine XS.lushr X86.here hx rfl (hb hby d4_86) rfl ?_
      show oS p e below T86 m 87 #[rv a0, iv 32, iv 2, iv sh, iv 3, jv ac2, sn, iv 3] [(.long ((ac2.toUInt64 >>> (sh &&& 0x3f).toInt64.toUInt64).toInt64))] _
      refine XS.lconst X86.here hx rfl (hb hby d4_87) ?_
      show oS p e below T86 m 88 #[rv a0, iv 32, iv 2, iv sh, iv 3, jv ac2, sn, iv 3] [(.long (1 : Int64)), (.long ((ac2.toUInt64 >>> (sh &&& 0x3f).toInt64.toUInt64).toInt64))] _
      refine XS.iloadN X86.here hx rfl (hb hby d4_88) rfl ?_
      show oS p e below T86 m 89 #[rv a0, iv 32, iv 2, iv sh, iv 3, jv ac2, sn, iv 3] [(.int (32 : Int32)), (.long (1 : Int64)), (.long ((ac2.toUInt64 >>> (sh &&& 0x3f).toInt64.toUInt64).toInt64))] _
      refine XS.lshl X86.here hx rfl (hb hby d4_89) rfl ?_
      show oS p e below T86 m 90 #[rv a0, iv 32, iv 2, iv sh, iv 3, jv ac2, sn, iv 3] [(.long ((1 : Int64) <<< ((32 : Int32) &&& 0x3f).toInt64)), (.long ((ac2.toUInt64 >>> (sh &&& 0x3f).toInt64.toUInt64).toInt64))] _
      refine XS.lconst X86.here hx rfl (hb hby d4_90) ?_
      show oS p e below T86 m 91 #[rv a0, iv 32, iv 2, iv sh, iv 3, jv ac2, sn, iv 3] [(.long (1 : Int64)), (.long ((1 : Int64) <<< ((32 : Int32) &&& 0x3f).toInt64)), (.long ((ac2.toUInt64 >>> (sh &&& 0x3f).toInt64.toUInt64).toInt64))] _
      refine XS.lsub X86.here hx rfl (hb hby d4_91) rfl ?_
      show oS p e below T86 m 92 #[rv a0, iv 32, iv 2, iv sh, iv 3, jv ac2, sn, iv 3] [(.long (((1 : Int64) <<< ((32 : Int32) &&& 0x3f).toInt64) - (1 : Int64))), (.long ((ac2.toUInt64 >>> (sh &&& 0x3f).toInt64.toUInt64).toInt64))] _
      refine XS.land X86.here hx rfl (hb hby d4_92) rfl ?_
      show oS p e below T86 m 93 #[rv a0, iv 32, iv 2, iv sh, iv 3, jv ac2, sn, iv 3] [(.long (((ac2.toUInt64 >>> (sh &&& 0x3f).toInt64.toUInt64).toInt64) &&& (((1 : Int64) <<< ((32 : Int32) &&& 0x3f).toInt64) - (1 : Int64))))] _
      refine XS.l2i X86.here hx rfl (hb hby d4_93) rfl ?_
      exact kt)
    clear pre91
    have hr0 : ((((ac2.toUInt64 >>> (sh &&& 0x3f).toInt64.toUInt64).toInt64) &&& (((1 : Int64) <<< ((32 : Int32) &&& 0x3f).toInt64) - (1 : Int64))).toInt32) = Int32.ofInt ((1 * (b0.toInt % 256) + 256 * (b1.toInt % 256) + 65536 * (b2.toInt % 256)) / 2 ^ ps.toInt.toNat) := own_fin ac2 sh ps (1 * (b0.toInt % 256) + 256 * (b1.toInt % 256) + 65536 * (b2.toInt % 256)) 2 65536 (by decide) hps.1 hk2 hm75 (by omega) (by have q := hm91; omega)
    rw [hr0] at pre92
    obtain ⟨fs, hr, hrun, hended, hW, hsame⟩ := X86.leave (v := some (.int (Int32.ofInt ((1 * (b0.toInt % 256) + 256 * (b1.toInt % 256) + 65536 * (b2.toInt % 256)) / 2 ^ ps.toInt.toNat)))) (fun h => by rw [Bd.returns] at h; cases h)
    refine ⟨_, _, pre92 _ ?_, hrun, hended, _, _, rfl, ?_, ⟨_, rfl⟩, hW, hsame.mono (by decide) (by decide)⟩
    · show oS p e below T86 m 94 #[rv a0, iv 32, iv 2, iv sh, iv 3, jv ac2, sn, iv 3] [(.int (Int32.ofInt ((1 * (b0.toInt % 256) + 256 * (b1.toInt % 256) + 65536 * (b2.toInt % 256)) / 2 ^ ps.toInt.toNat)))] _
      exact retI X86 hx Bd.returns (hb hby d4_94) hr
    · show Q4p3 Z a0 ab sz ps ed kb b0 b1 b2 h0 n0 _ T86.heap _
      rw [e86]
      exact ⟨rfl, N81, rfl⟩
  · have hk3 : ps.toInt / 8 = 3 := hk0.trans (by decide)
    have pre93 : ∀ t, oS p e below T2 m 9 #[rv a0, iv 32, iv 3, un, un, un, un, un] [(.ref a0)] t → oE p e below s₁ m #[(.ref a0), (.int (32 : Int32))] 8 t := fun t kt => pre5 t (by
      show oS p e below T2 m 8 #[rv a0, iv 32, iv 3, un, un, un, un, un] [] _
      refine XS.aloadN X2.here hx rfl (hb hby d4_8) rfl rfl ?_
      exact kt)
    clear pre5
    obtain ⟨T94, X94, e94, st94⟩ := getF X2 hx hZ hown (host := "") (Or.inl (hw _ (List.mem_of_getElem? (i := 23) rfl))) Via.refl e2 I_position (g := (mkF m 9 #[rv a0, iv 32, iv 3, un, un, un, un, un] [(.ref a0)])) rfl rfl (hb hby d4_9)
    have pre95 : ∀ t, oS p e below T94 m 12 #[rv a0, iv 32, iv 3, un, un, un, un, un] [(.long ps)] t → oE p e below s₁ m #[(.ref a0), (.int (32 : Int32))] 8 t := fun t kt => pre93 t (st94 _ kt)
    clear pre93 st94
    have pre96 : ∀ t, oS p e below T94 m 18 #[rv a0, iv 32, iv 3, iv ((ps &&& (7 : Int64)).toInt32), un, un, un, un] [] t → oE p e below s₁ m #[(.ref a0), (.int (32 : Int32))] 8 t := fun t kt => pre95 t (by
      show oS p e below T94 m 12 #[rv a0, iv 32, iv 3, un, un, un, un, un] [(.long ps)] _
      refine X94.ldc2Long hx hown (mvT hZ (hw _ (List.mem_of_getElem? (i := 32) rfl))) (g := (mkF m 12 #[rv a0, iv 32, iv 3, un, un, un, un, un] [(.long ps)])) rfl (hb hby d4_12) _ ?_
      show oS p e below T94 m 15 #[rv a0, iv 32, iv 3, un, un, un, un, un] [(.long (7 : Int64)), (.long ps)] _
      refine XS.land X94.here hx rfl (hb hby d4_15) rfl ?_
      show oS p e below T94 m 16 #[rv a0, iv 32, iv 3, un, un, un, un, un] [(.long (ps &&& (7 : Int64)))] _
      refine XS.l2i X94.here hx rfl (hb hby d4_16) rfl ?_
      show oS p e below T94 m 17 #[rv a0, iv 32, iv 3, un, un, un, un, un] [(.int ((ps &&& (7 : Int64)).toInt32))] _
      refine XS.istoreN X94.here hx rfl (hb hby d4_17) rfl (l' := #[rv a0, iv 32, iv 3, iv ((ps &&& (7 : Int64)).toInt32), un, un, un, un]) rfl ?_
      exact kt)
    clear pre95
    obtain ⟨sh, hm97, pre97⟩ : ∃ (sh : Int32), (sh.toInt = ps.toInt % 8) ∧ ∀ t, oS p e below T94 m 18 #[rv a0, iv 32, iv 3, iv sh, un, un, un, un] [] t → oE p e below s₁ m #[(.ref a0), (.int (32 : Int32))] 8 t := ⟨((ps &&& (7 : Int64)).toInt32), own_sh ps hps, pre96⟩
    clear pre96
    have pre98 : ∀ t, oS p e below T94 m 19 #[rv a0, iv 32, iv 3, iv sh, un, un, un, un] [(.ref a0)] t → oE p e below s₁ m #[(.ref a0), (.int (32 : Int32))] 8 t := fun t kt => pre97 t (by
      show oS p e below T94 m 18 #[rv a0, iv 32, iv 3, iv sh, un, un, un, un] [] _
      refine XS.aloadN X94.here hx rfl (hb hby d4_18) rfl rfl ?_
      exact kt)
    clear pre97
    obtain ⟨T99, X99, e99, st99⟩ := getF X94 hx hZ hown (host := "") (Or.inl (hw _ (List.mem_of_getElem? (i := 13) rfl))) Via.refl e94 I_data (g := (mkF m 19 #[rv a0, iv 32, iv 3, iv sh, un, un, un, un] [(.ref a0)])) rfl rfl (hb hby d4_19)
    have pre100 : ∀ t, oS p e below T99 m 22 #[rv a0, iv 32, iv 3, iv sh, un, un, un, un] [(.ref ab)] t → oE p e below s₁ m #[(.ref a0), (.int (32 : Int32))] 8 t := fun t kt => pre98 t (st99 _ kt)
    clear pre98 st99
    have tv101 := V1
    obtain ⟨cl101, Ar101, q101, S101, Ng101, H101, G101⟩ := tv101
    have pre102 : ∀ t, oS p e below T99 m 34 #[rv a0, iv 32, iv 3, iv sh, un, un, un, un] [(.int ((3 : Int32) + (((sh + (32 : Int32)) + (7 : Int32)) / (8 : Int32)))), (.int (3 : Int32))] t → oE p e below s₁ m #[(.ref a0), (.int (32 : Int32))] 8 t := fun t kt => pre100 t (by
      show oS p e below T99 m 22 #[rv a0, iv 32, iv 3, iv sh, un, un, un, un] [(.ref ab)] _
      refine X99.arraylength hx (by rw [e99]; exact Ar101.1) (State.isArrayOf_alike hZ.alike Ar101.2.1) (g := (mkF m 22 #[rv a0, iv 32, iv 3, iv sh, un, un, un, un] [(.ref ab)])) rfl rfl (hb hby d4_22) _ ?_
      rw [len_of S101 Ng101]
      show oS p e below T99 m 23 #[rv a0, iv 32, iv 3, iv sh, un, un, un, un] [(.int (3 : Int32))] _
      refine XS.iloadN X99.here hx rfl (hb hby d4_23) rfl ?_
      show oS p e below T99 m 24 #[rv a0, iv 32, iv 3, iv sh, un, un, un, un] [(.int (3 : Int32)), (.int (3 : Int32))] _
      refine XS.iloadN X99.here hx rfl (hb hby d4_24) rfl ?_
      show oS p e below T99 m 25 #[rv a0, iv 32, iv 3, iv sh, un, un, un, un] [(.int sh), (.int (3 : Int32)), (.int (3 : Int32))] _
      refine XS.iloadN X99.here hx rfl (hb hby d4_25) rfl ?_
      show oS p e below T99 m 26 #[rv a0, iv 32, iv 3, iv sh, un, un, un, un] [(.int (32 : Int32)), (.int sh), (.int (3 : Int32)), (.int (3 : Int32))] _
      refine XS.iadd X99.here hx rfl (hb hby d4_26) rfl ?_
      show oS p e below T99 m 27 #[rv a0, iv 32, iv 3, iv sh, un, un, un, un] [(.int (sh + (32 : Int32))), (.int (3 : Int32)), (.int (3 : Int32))] _
      refine XS.bipush X99.here hx rfl (hb hby d4_27) ?_
      show oS p e below T99 m 29 #[rv a0, iv 32, iv 3, iv sh, un, un, un, un] [(.int (7 : Int32)), (.int (sh + (32 : Int32))), (.int (3 : Int32)), (.int (3 : Int32))] _
      refine XS.iadd X99.here hx rfl (hb hby d4_29) rfl ?_
      show oS p e below T99 m 30 #[rv a0, iv 32, iv 3, iv sh, un, un, un, un] [(.int ((sh + (32 : Int32)) + (7 : Int32))), (.int (3 : Int32)), (.int (3 : Int32))] _
      refine XS.bipush X99.here hx rfl (hb hby d4_30) ?_
      show oS p e below T99 m 32 #[rv a0, iv 32, iv 3, iv sh, un, un, un, un] [(.int (8 : Int32)), (.int ((sh + (32 : Int32)) + (7 : Int32))), (.int (3 : Int32)), (.int (3 : Int32))] _
      refine XS.idiv X99.here hx rfl (hb hby d4_32) rfl (by decide) ?_
      show oS p e below T99 m 33 #[rv a0, iv 32, iv 3, iv sh, un, un, un, un] [(.int (((sh + (32 : Int32)) + (7 : Int32)) / (8 : Int32))), (.int (3 : Int32)), (.int (3 : Int32))] _
      refine XS.iadd X99.here hx rfl (hb hby d4_33) rfl ?_
      exact kt)
    clear pre100
    obtain ⟨_, _, ⟨T103, L103, k103, n103⟩, -, X103, ⟨Lc103, hQ103, l103, y103, z103⟩, st103⟩ := Jvm.LawKit.callS X99 hx (y := (⟨"java/lang/Math", "min", "(II)I"⟩ : MethodName)) hown (mvT hZ (hw _ (List.mem_of_getElem? (i := 33) rfl))) (mvT hZ (hw _ (List.mem_of_getElem? (i := 34) rfl))) (mvT hZ (hw _ (List.mem_of_getElem? (i := 35) rfl))) (mvT hZ (hw _ (List.mem_of_getElem? (i := 36) rfl))) (by decide) (backOf (W := 0) (rm5 l Z av hw [] (3 : Int32) ((3 : Int32) + (((sh + (32 : Int32)) + (7 : Int32)) / (8 : Int32)))  h0 n0 Z0 ) hZ (hw _ (List.mem_of_getElem? (i := 36) rfl)) (hw _ (List.mem_of_getElem? (i := 35) rfl)) (by decide) (by decide)) (g := (mkF m 34 #[rv a0, iv 32, iv 3, iv sh, un, un, un, un] [(.int ((3 : Int32) + (((sh + (32 : Int32)) + (7 : Int32)) / (8 : Int32)))), (.int (3 : Int32))])) rfl (by rw [hml]; rfl) (argsL := [(.int (3 : Int32)), (.int ((3 : Int32) + (((sh + (32 : Int32)) + (7 : Int32)) / (8 : Int32))))]) (rest := []) (lenOf pd__II_I rfl) rfl (by show 2 * 0 + _ ≤ _; exact Nat.le_of_eq rfl) (hb hby d4_34) (fun _ _ => ⟨rfl, e99, (by decide : 0 + 0 ≤ _), (by decide : 0 + 0 ≤ _)⟩)
    dsimp only [Pt.U, Pt.locs, Pt.cells, Pt.slots] at X103 l103 y103 z103 st103 hQ103
    rw [l103, y103, z103] at X103
    clear l103 y103 z103
    obtain ⟨rfl, N103q, e103⟩ := hQ103
    have N103 := Fr.app N0 N103q
    have pre104 : ∀ t, oS p e below T103 m 37 #[rv a0, iv 32, iv 3, iv sh, un, un, un, un] [(.int (f_min (3 : Int32) ((3 : Int32) + (((sh + (32 : Int32)) + (7 : Int32)) / (8 : Int32)))))] t → oE p e below s₁ m #[(.ref a0), (.int (32 : Int32))] 8 t := fun t kt => pre102 t (st103 _ kt)
    clear pre102 st103
    have pre105 : ∀ t, oS p e below T103 m 39 #[rv a0, iv 32, iv 3, iv sh, iv (f_min (3 : Int32) ((3 : Int32) + (((sh + (32 : Int32)) + (7 : Int32)) / (8 : Int32)))), un, un, un] [] t → oE p e below s₁ m #[(.ref a0), (.int (32 : Int32))] 8 t := fun t kt => pre104 t (by
      show oS p e below T103 m 37 #[rv a0, iv 32, iv 3, iv sh, un, un, un, un] [(.int (f_min (3 : Int32) ((3 : Int32) + (((sh + (32 : Int32)) + (7 : Int32)) / (8 : Int32)))))] _
      refine XS.istore X103.here hx rfl (hb hby d4_37) rfl (l' := #[rv a0, iv 32, iv 3, iv sh, iv (f_min (3 : Int32) ((3 : Int32) + (((sh + (32 : Int32)) + (7 : Int32)) / (8 : Int32)))), un, un, un]) rfl ?_
      exact kt)
    clear pre104
    obtain ⟨en, hm106, pre106⟩ : ∃ (en : Int32), (en = (3 : Int32)) ∧ ∀ t, oS p e below T103 m 39 #[rv a0, iv 32, iv 3, iv sh, iv en, un, un, un] [] t → oE p e below s₁ m #[(.ref a0), (.int (32 : Int32))] 8 t := ⟨(f_min (3 : Int32) ((3 : Int32) + (((sh + (32 : Int32)) + (7 : Int32)) / (8 : Int32)))), own_enG (3 : Int32) (3 : Int32) sh (by decide) (by decide) hm97, pre105⟩
    clear pre105
    subst hm106
    have pre107 : ∀ t, oS p e below T103 m 94 #[rv a0, iv 32, iv 3, iv sh, iv 3, jv 0, sn, iv 3] [(.int (((((0 : Int64).toUInt64 >>> (sh &&& 0x3f).toInt64.toUInt64).toInt64) &&& (((1 : Int64) <<< ((32 : Int32) &&& 0x3f).toInt64) - (1 : Int64))).toInt32))] t → oE p e below s₁ m #[(.ref a0), (.int (32 : Int32))] 8 t := fun t kt => pre106 t (by
      show oS p e below T103 m 39 #[rv a0, iv 32, iv 3, iv sh, iv 3, un, un, un] [] _
      refine XS.lconst X103.here hx rfl (hb hby d4_39) ?_
      show oS p e below T103 m 40 #[rv a0, iv 32, iv 3, iv sh, iv 3, un, un, un] [(.long (0 : Int64))] _
      refine XS.lstore X103.here hx rfl (hb hby d4_40) rfl (l' := #[rv a0, iv 32, iv 3, iv sh, iv 3, jv 0, sn, un]) rfl ?_
      show oS p e below T103 m 42 #[rv a0, iv 32, iv 3, iv sh, iv 3, jv 0, sn, un] [] _
      refine XS.iloadN X103.here hx rfl (hb hby d4_42) rfl ?_
      show oS p e below T103 m 43 #[rv a0, iv 32, iv 3, iv sh, iv 3, jv 0, sn, un] [(.int (3 : Int32))] _
      refine XS.istore X103.here hx rfl (hb hby d4_43) rfl (l' := #[rv a0, iv 32, iv 3, iv sh, iv 3, jv 0, sn, iv 3]) rfl ?_
      show oS p e below T103 m 45 #[rv a0, iv 32, iv 3, iv sh, iv 3, jv 0, sn, iv 3] [] _
      refine XS.iload X103.here hx rfl (hb hby d4_45) rfl ?_
      show oS p e below T103 m 47 #[rv a0, iv 32, iv 3, iv sh, iv 3, jv 0, sn, iv 3] [(.int (3 : Int32))] _
      refine XS.iload X103.here hx rfl (hb hby d4_47) rfl ?_
      show oS p e below T103 m 49 #[rv a0, iv 32, iv 3, iv sh, iv 3, jv 0, sn, iv 3] [(.int (3 : Int32)), (.int (3 : Int32))] _
      refine XS.icmpYes X103.here hx rfl (pc0 := 49) (pc' := 83) rfl (hb hby d4_49) rfl (flt (by decide : ¬ ((3 : Int32) < (3 : Int32)))).2.1 (by decide) (by decide) ?_
      show oS p e below T103 m 83 #[rv a0, iv 32, iv 3, iv sh, iv 3, jv 0, sn, iv 3] [] _
      refine XS.lload X103.here hx rfl (hb hby d4_83) rfl ?_
      show oS p e below T103 m 85 #[rv a0, iv 32, iv 3, iv sh, iv 3, jv 0, sn, iv 3] [(.long (0 : Int64))] _
      refine XS.iloadN X103.here hx rfl (hb hby d4_85) rfl ?_
      show oS p e below T103 m 86 #[rv a0, iv 32, iv 3, iv sh, iv 3, jv 0, sn, iv 3] [(.int sh), (.long (0 : Int64))] _
      refine XS.lushr X103.here hx rfl (hb hby d4_86) rfl ?_
      show oS p e below T103 m 87 #[rv a0, iv 32, iv 3, iv sh, iv 3, jv 0, sn, iv 3] [(.long (((0 : Int64).toUInt64 >>> (sh &&& 0x3f).toInt64.toUInt64).toInt64))] _
      refine XS.lconst X103.here hx rfl (hb hby d4_87) ?_
      show oS p e below T103 m 88 #[rv a0, iv 32, iv 3, iv sh, iv 3, jv 0, sn, iv 3] [(.long (1 : Int64)), (.long (((0 : Int64).toUInt64 >>> (sh &&& 0x3f).toInt64.toUInt64).toInt64))] _
      refine XS.iloadN X103.here hx rfl (hb hby d4_88) rfl ?_
      show oS p e below T103 m 89 #[rv a0, iv 32, iv 3, iv sh, iv 3, jv 0, sn, iv 3] [(.int (32 : Int32)), (.long (1 : Int64)), (.long (((0 : Int64).toUInt64 >>> (sh &&& 0x3f).toInt64.toUInt64).toInt64))] _
      refine XS.lshl X103.here hx rfl (hb hby d4_89) rfl ?_
      show oS p e below T103 m 90 #[rv a0, iv 32, iv 3, iv sh, iv 3, jv 0, sn, iv 3] [(.long ((1 : Int64) <<< ((32 : Int32) &&& 0x3f).toInt64)), (.long (((0 : Int64).toUInt64 >>> (sh &&& 0x3f).toInt64.toUInt64).toInt64))] _
      refine XS.lconst X103.here hx rfl (hb hby d4_90) ?_
      show oS p e below T103 m 91 #[rv a0, iv 32, iv 3, iv sh, iv 3, jv 0, sn, iv 3] [(.long (1 : Int64)), (.long ((1 : Int64) <<< ((32 : Int32) &&& 0x3f).toInt64)), (.long (((0 : Int64).toUInt64 >>> (sh &&& 0x3f).toInt64.toUInt64).toInt64))] _
      refine XS.lsub X103.here hx rfl (hb hby d4_91) rfl ?_
      show oS p e below T103 m 92 #[rv a0, iv 32, iv 3, iv sh, iv 3, jv 0, sn, iv 3] [(.long (((1 : Int64) <<< ((32 : Int32) &&& 0x3f).toInt64) - (1 : Int64))), (.long (((0 : Int64).toUInt64 >>> (sh &&& 0x3f).toInt64.toUInt64).toInt64))] _
      refine XS.land X103.here hx rfl (hb hby d4_92) rfl ?_
      show oS p e below T103 m 93 #[rv a0, iv 32, iv 3, iv sh, iv 3, jv 0, sn, iv 3] [(.long ((((0 : Int64).toUInt64 >>> (sh &&& 0x3f).toInt64.toUInt64).toInt64) &&& (((1 : Int64) <<< ((32 : Int32) &&& 0x3f).toInt64) - (1 : Int64))))] _
      refine XS.l2i X103.here hx rfl (hb hby d4_93) rfl ?_
      exact kt)
    clear pre106
    have hr0 : (((((0 : Int64).toUInt64 >>> (sh &&& 0x3f).toInt64.toUInt64).toInt64) &&& (((1 : Int64) <<< ((32 : Int32) &&& 0x3f).toInt64) - (1 : Int64))).toInt32) = Int32.ofInt ((1 * (b0.toInt % 256) + 256 * (b1.toInt % 256) + 65536 * (b2.toInt % 256)) / 2 ^ ps.toInt.toNat) := own_fin (0 : Int64) sh ps (1 * (b0.toInt % 256) + 256 * (b1.toInt % 256) + 65536 * (b2.toInt % 256)) 3 16777216 (by decide) hps.1 hk3 hm97 (by omega) (by have q : (0 : Int64).toInt = 0 := (by decide); omega)
    rw [hr0] at pre107
    obtain ⟨fs, hr, hrun, hended, hW, hsame⟩ := X103.leave (v := some (.int (Int32.ofInt ((1 * (b0.toInt % 256) + 256 * (b1.toInt % 256) + 65536 * (b2.toInt % 256)) / 2 ^ ps.toInt.toNat)))) (fun h => by rw [Bd.returns] at h; cases h)
    refine ⟨_, _, pre107 _ ?_, hrun, hended, _, _, rfl, ?_, ⟨_, rfl⟩, hW, hsame.mono (by decide) (by decide)⟩
    · show oS p e below T103 m 94 #[rv a0, iv 32, iv 3, iv sh, iv 3, jv 0, sn, iv 3] [(.int (Int32.ofInt ((1 * (b0.toInt % 256) + 256 * (b1.toInt % 256) + 65536 * (b2.toInt % 256)) / 2 ^ ps.toInt.toNat)))] _
      exact retI X103 hx Bd.returns (hb hby d4_94) hr
    · show Q4p3 Z a0 ab sz ps ed kb b0 b1 b2 h0 n0 _ T103.heap _
      rw [e103]
      exact ⟨rfl, N103, rfl⟩
theorem ef4p4 (m : MethodId) (x0 : Addr) : entryFrame m #[(.ref x0), (.int (32 : Int32))] 8 = mkF m 0 #[rv x0, iv 32, un, un, un, un, un, un] [] := by first | (simp [entryFrame, mkF, argsToLocals, Value.category]; done) | rfl
def Q4p4 (Z : State) (a0 : Addr) (ab : Addr) (sz : Int64) (ps : Int64) (ed : Int32) (kb : ClassId) (b0 : Int32) (b1 : Int32) (b2 : Int32) (b3 : Int32) (h0 : Heap) (n0 : Nat) (v : Option Value) (h : Heap) (L : List Loc) : Prop := v = some (.int (Int32.ofInt ((1 * (b0.toInt % 256) + 256 * (b1.toInt % 256) + 65536 * (b2.toInt % 256) + 16777216 * (b3.toInt % 256)) / 2 ^ ps.toInt.toNat))) ∧ Fr n0 L ∧ h = h0
set_option maxRecDepth 65536 in
set_option maxHeartbeats 40000000 in
theorem rm4p4 (l : Launch) (Z : State) (av : Array Value) (hw : ∀ d ∈ tables_1, d.before av Z = true) (ws : List Jvm.Cond) (a0 : Addr) (ab : Addr) (sz : Int64) (ps : Int64) (ed : Int32) (kb : ClassId) (b0 : Int32) (b1 : Int32) (b2 : Int32) (b3 : Int32) (h0 : Heap) (n0 : Nat) (Z0 : n0 ≤ h0.size) (E_a0 : Exa Z h0 a0 vB) (g_a0 : n0 ≤ a0) (I_data : Fld Z h0 a0 vB "data" "[B" (.ref ab)) (I_size : Fld Z h0 a0 vB "size" "J" (.long sz)) (I_position : Fld Z h0 a0 vB "position" "J" (.long ps)) (I_ended : Fld Z h0 a0 vB "ended" "Z" (.int ed)) (V1 : Arv Z h0 ab kb .byte (4 : Int32) [(.int b0), (.int b1), (.int b2), (.int b3)] (.int (0 : Int32))) (hps : 0 ≤ ps.toInt ∧ ps.toInt ≤ 32) :
    MetFree l (⟨vB, "peek", "(I)I"⟩ : MethodName) (head1 (Jvm.Cond.code (⟨vB, "peek", "(I)I"⟩ : MethodName) prog_89_method_5_code 8 (some .int) :: ws) ({ frames := 1, cells := 0, slots := 0, locals := 13 } : Room)) (fun a U => a = #[(.ref a0), (.int (32 : Int32))] ∧ Z.Warmed39 U.vm ∧ U.heap = h0) (fun _ _ _ _ _ => True) (fun _ U o U' => ∃ v L, o = .returned v ∧ Q4p4 Z a0 ab sz ps ed kb b0 b1 b2 b3 h0 n0 v U'.heap L ∧ FrameEnd U o U' L ({ frames := 1, cells := 0, slots := 0, locals := 13 } : Room).cells ({ frames := 1, cells := 0, slots := 0, locals := 13 } : Room).slots) := by
  refine MetFree.of_bodySF (plainFor_of_name pn_com_example_baton_baton_core_format_VorbisBits) hisR ?_
  intro p e s m args below meth c s₁ Bd hml0 hP hK
  obtain ⟨rfl, hZ, hh⟩ := hP
  have hx := Bd.exec
  have hby := Bd.bytes
  have hml : c.maxLocals = 8 := hml0
  have hown : s.vm.findClass vB = some m.cls := by have h := findClass_of_methodNamed Bd.named; exact h
  have hnm := (name_of_methodNamed Bd.named Bd.method).1
  have X0 : Stand p l e ({ frames := 1, cells := 0, slots := 0, locals := 13 } : Room) s m #[(.ref a0), (.int (32 : Int32))] below meth c s₁ [] 0 0 := Stand.of_body Bd
  have e0 : s₁.heap = h0 := by rw [← hh, Bd.state]; rfl
  have N0 := Fr.nil n0
  have K0 : Keep h0 h0 [] := Keep.refl h0 []
  have pre0 : ∀ t, Steps p.tables e below (s₁.setTop (mkF m 0 #[rv a0, iv 32, un, un, un, un, un, un] [])) t → Steps p.tables e below (s₁.setTop (entryFrame m #[(.ref a0), (.int (32 : Int32))] 8)) t := fun t k => castTop (ef4p4 m a0) k
  have pre1 : ∀ t, oS p e below s₁ m 1 #[rv a0, iv 32, un, un, un, un, un, un] [(.ref a0)] t → oE p e below s₁ m #[(.ref a0), (.int (32 : Int32))] 8 t := fun t kt => pre0 t (by
    show oS p e below s₁ m 0 #[rv a0, iv 32, un, un, un, un, un, un] [] _
    refine XS.aloadN X0.here hx rfl (hb hby d4_0) rfl rfl ?_
    exact kt)
  clear pre0
  obtain ⟨T2, X2, e2, st2⟩ := getF X0 hx hZ hown (host := "") (Or.inl (hw _ (List.mem_of_getElem? (i := 23) rfl))) Via.refl e0 I_position (g := (mkF m 1 #[rv a0, iv 32, un, un, un, un, un, un] [(.ref a0)])) rfl rfl (hb hby d4_1)
  have pre3 : ∀ t, oS p e below T2 m 4 #[rv a0, iv 32, un, un, un, un, un, un] [(.long ps)] t → oE p e below s₁ m #[(.ref a0), (.int (32 : Int32))] 8 t := fun t kt => pre1 t (st2 _ kt)
  clear pre1 st2
  have pre4 : ∀ t, oS p e below T2 m 8 #[rv a0, iv 32, iv (((ps.toUInt64 >>> ((3 : Int32) &&& 0x3f).toInt64.toUInt64).toInt64).toInt32), un, un, un, un, un] [] t → oE p e below s₁ m #[(.ref a0), (.int (32 : Int32))] 8 t := fun t kt => pre3 t (by
    show oS p e below T2 m 4 #[rv a0, iv 32, un, un, un, un, un, un] [(.long ps)] _
    refine XS.iconst X2.here hx rfl (hb hby d4_4) ?_
    show oS p e below T2 m 5 #[rv a0, iv 32, un, un, un, un, un, un] [(.int (3 : Int32)), (.long ps)] _
    refine XS.lushr X2.here hx rfl (hb hby d4_5) rfl ?_
    show oS p e below T2 m 6 #[rv a0, iv 32, un, un, un, un, un, un] [(.long ((ps.toUInt64 >>> ((3 : Int32) &&& 0x3f).toInt64.toUInt64).toInt64))] _
    refine XS.l2i X2.here hx rfl (hb hby d4_6) rfl ?_
    show oS p e below T2 m 7 #[rv a0, iv 32, un, un, un, un, un, un] [(.int (((ps.toUInt64 >>> ((3 : Int32) &&& 0x3f).toInt64.toUInt64).toInt64).toInt32))] _
    refine XS.istoreN X2.here hx rfl (hb hby d4_7) rfl (l' := #[rv a0, iv 32, iv (((ps.toUInt64 >>> ((3 : Int32) &&& 0x3f).toInt64.toUInt64).toInt64).toInt32), un, un, un, un, un]) rfl ?_
    exact kt)
  clear pre3
  obtain ⟨bi, hm5, pre5⟩ : ∃ (bi : Int32), (ps.toInt / 8 = bi.toInt ∧ (bi = (0 : Int32) ∨ bi = (1 : Int32) ∨ bi = (2 : Int32) ∨ bi = (3 : Int32) ∨ bi = (4 : Int32))) ∧ ∀ t, oS p e below T2 m 8 #[rv a0, iv 32, iv bi, un, un, un, un, un] [] t → oE p e below s₁ m #[(.ref a0), (.int (32 : Int32))] 8 t := ⟨(((ps.toUInt64 >>> ((3 : Int32) &&& 0x3f).toInt64.toUInt64).toInt64).toInt32), own_bi4 ps hps, pre4⟩
  clear pre4
  obtain ⟨hk0, hkc⟩ := hm5
  rcases hkc with rfl | rfl | rfl | rfl | rfl
  · have hk0 : ps.toInt / 8 = 0 := hk0.trans (by decide)
    have pre6 : ∀ t, oS p e below T2 m 9 #[rv a0, iv 32, iv 0, un, un, un, un, un] [(.ref a0)] t → oE p e below s₁ m #[(.ref a0), (.int (32 : Int32))] 8 t := fun t kt => pre5 t (by
      show oS p e below T2 m 8 #[rv a0, iv 32, iv 0, un, un, un, un, un] [] _
      refine XS.aloadN X2.here hx rfl (hb hby d4_8) rfl rfl ?_
      exact kt)
    clear pre5
    obtain ⟨T7, X7, e7, st7⟩ := getF X2 hx hZ hown (host := "") (Or.inl (hw _ (List.mem_of_getElem? (i := 23) rfl))) Via.refl e2 I_position (g := (mkF m 9 #[rv a0, iv 32, iv 0, un, un, un, un, un] [(.ref a0)])) rfl rfl (hb hby d4_9)
    have pre8 : ∀ t, oS p e below T7 m 12 #[rv a0, iv 32, iv 0, un, un, un, un, un] [(.long ps)] t → oE p e below s₁ m #[(.ref a0), (.int (32 : Int32))] 8 t := fun t kt => pre6 t (st7 _ kt)
    clear pre6 st7
    have pre9 : ∀ t, oS p e below T7 m 18 #[rv a0, iv 32, iv 0, iv ((ps &&& (7 : Int64)).toInt32), un, un, un, un] [] t → oE p e below s₁ m #[(.ref a0), (.int (32 : Int32))] 8 t := fun t kt => pre8 t (by
      show oS p e below T7 m 12 #[rv a0, iv 32, iv 0, un, un, un, un, un] [(.long ps)] _
      refine X7.ldc2Long hx hown (mvT hZ (hw _ (List.mem_of_getElem? (i := 32) rfl))) (g := (mkF m 12 #[rv a0, iv 32, iv 0, un, un, un, un, un] [(.long ps)])) rfl (hb hby d4_12) _ ?_
      show oS p e below T7 m 15 #[rv a0, iv 32, iv 0, un, un, un, un, un] [(.long (7 : Int64)), (.long ps)] _
      refine XS.land X7.here hx rfl (hb hby d4_15) rfl ?_
      show oS p e below T7 m 16 #[rv a0, iv 32, iv 0, un, un, un, un, un] [(.long (ps &&& (7 : Int64)))] _
      refine XS.l2i X7.here hx rfl (hb hby d4_16) rfl ?_
      show oS p e below T7 m 17 #[rv a0, iv 32, iv 0, un, un, un, un, un] [(.int ((ps &&& (7 : Int64)).toInt32))] _
      refine XS.istoreN X7.here hx rfl (hb hby d4_17) rfl (l' := #[rv a0, iv 32, iv 0, iv ((ps &&& (7 : Int64)).toInt32), un, un, un, un]) rfl ?_
      exact kt)
    clear pre8
    obtain ⟨sh, hm10, pre10⟩ : ∃ (sh : Int32), (sh.toInt = ps.toInt % 8) ∧ ∀ t, oS p e below T7 m 18 #[rv a0, iv 32, iv 0, iv sh, un, un, un, un] [] t → oE p e below s₁ m #[(.ref a0), (.int (32 : Int32))] 8 t := ⟨((ps &&& (7 : Int64)).toInt32), own_sh ps hps, pre9⟩
    clear pre9
    have pre11 : ∀ t, oS p e below T7 m 19 #[rv a0, iv 32, iv 0, iv sh, un, un, un, un] [(.ref a0)] t → oE p e below s₁ m #[(.ref a0), (.int (32 : Int32))] 8 t := fun t kt => pre10 t (by
      show oS p e below T7 m 18 #[rv a0, iv 32, iv 0, iv sh, un, un, un, un] [] _
      refine XS.aloadN X7.here hx rfl (hb hby d4_18) rfl rfl ?_
      exact kt)
    clear pre10
    obtain ⟨T12, X12, e12, st12⟩ := getF X7 hx hZ hown (host := "") (Or.inl (hw _ (List.mem_of_getElem? (i := 13) rfl))) Via.refl e7 I_data (g := (mkF m 19 #[rv a0, iv 32, iv 0, iv sh, un, un, un, un] [(.ref a0)])) rfl rfl (hb hby d4_19)
    have pre13 : ∀ t, oS p e below T12 m 22 #[rv a0, iv 32, iv 0, iv sh, un, un, un, un] [(.ref ab)] t → oE p e below s₁ m #[(.ref a0), (.int (32 : Int32))] 8 t := fun t kt => pre11 t (st12 _ kt)
    clear pre11 st12
    have tv14 := V1
    obtain ⟨cl14, Ar14, q14, S14, Ng14, H14, G14⟩ := tv14
    have pre15 : ∀ t, oS p e below T12 m 34 #[rv a0, iv 32, iv 0, iv sh, un, un, un, un] [(.int ((0 : Int32) + (((sh + (32 : Int32)) + (7 : Int32)) / (8 : Int32)))), (.int (4 : Int32))] t → oE p e below s₁ m #[(.ref a0), (.int (32 : Int32))] 8 t := fun t kt => pre13 t (by
      show oS p e below T12 m 22 #[rv a0, iv 32, iv 0, iv sh, un, un, un, un] [(.ref ab)] _
      refine X12.arraylength hx (by rw [e12]; exact Ar14.1) (State.isArrayOf_alike hZ.alike Ar14.2.1) (g := (mkF m 22 #[rv a0, iv 32, iv 0, iv sh, un, un, un, un] [(.ref ab)])) rfl rfl (hb hby d4_22) _ ?_
      rw [len_of S14 Ng14]
      show oS p e below T12 m 23 #[rv a0, iv 32, iv 0, iv sh, un, un, un, un] [(.int (4 : Int32))] _
      refine XS.iloadN X12.here hx rfl (hb hby d4_23) rfl ?_
      show oS p e below T12 m 24 #[rv a0, iv 32, iv 0, iv sh, un, un, un, un] [(.int (0 : Int32)), (.int (4 : Int32))] _
      refine XS.iloadN X12.here hx rfl (hb hby d4_24) rfl ?_
      show oS p e below T12 m 25 #[rv a0, iv 32, iv 0, iv sh, un, un, un, un] [(.int sh), (.int (0 : Int32)), (.int (4 : Int32))] _
      refine XS.iloadN X12.here hx rfl (hb hby d4_25) rfl ?_
      show oS p e below T12 m 26 #[rv a0, iv 32, iv 0, iv sh, un, un, un, un] [(.int (32 : Int32)), (.int sh), (.int (0 : Int32)), (.int (4 : Int32))] _
      refine XS.iadd X12.here hx rfl (hb hby d4_26) rfl ?_
      show oS p e below T12 m 27 #[rv a0, iv 32, iv 0, iv sh, un, un, un, un] [(.int (sh + (32 : Int32))), (.int (0 : Int32)), (.int (4 : Int32))] _
      refine XS.bipush X12.here hx rfl (hb hby d4_27) ?_
      show oS p e below T12 m 29 #[rv a0, iv 32, iv 0, iv sh, un, un, un, un] [(.int (7 : Int32)), (.int (sh + (32 : Int32))), (.int (0 : Int32)), (.int (4 : Int32))] _
      refine XS.iadd X12.here hx rfl (hb hby d4_29) rfl ?_
      show oS p e below T12 m 30 #[rv a0, iv 32, iv 0, iv sh, un, un, un, un] [(.int ((sh + (32 : Int32)) + (7 : Int32))), (.int (0 : Int32)), (.int (4 : Int32))] _
      refine XS.bipush X12.here hx rfl (hb hby d4_30) ?_
      show oS p e below T12 m 32 #[rv a0, iv 32, iv 0, iv sh, un, un, un, un] [(.int (8 : Int32)), (.int ((sh + (32 : Int32)) + (7 : Int32))), (.int (0 : Int32)), (.int (4 : Int32))] _
      refine XS.idiv X12.here hx rfl (hb hby d4_32) rfl (by decide) ?_
      show oS p e below T12 m 33 #[rv a0, iv 32, iv 0, iv sh, un, un, un, un] [(.int (((sh + (32 : Int32)) + (7 : Int32)) / (8 : Int32))), (.int (0 : Int32)), (.int (4 : Int32))] _
      refine XS.iadd X12.here hx rfl (hb hby d4_33) rfl ?_
      exact kt)
    clear pre13
    obtain ⟨_, _, ⟨T16, L16, k16, n16⟩, -, X16, ⟨Lc16, hQ16, l16, y16, z16⟩, st16⟩ := Jvm.LawKit.callS X12 hx (y := (⟨"java/lang/Math", "min", "(II)I"⟩ : MethodName)) hown (mvT hZ (hw _ (List.mem_of_getElem? (i := 33) rfl))) (mvT hZ (hw _ (List.mem_of_getElem? (i := 34) rfl))) (mvT hZ (hw _ (List.mem_of_getElem? (i := 35) rfl))) (mvT hZ (hw _ (List.mem_of_getElem? (i := 36) rfl))) (by decide) (backOf (W := 0) (rm5 l Z av hw [] (4 : Int32) ((0 : Int32) + (((sh + (32 : Int32)) + (7 : Int32)) / (8 : Int32)))  h0 n0 Z0 ) hZ (hw _ (List.mem_of_getElem? (i := 36) rfl)) (hw _ (List.mem_of_getElem? (i := 35) rfl)) (by decide) (by decide)) (g := (mkF m 34 #[rv a0, iv 32, iv 0, iv sh, un, un, un, un] [(.int ((0 : Int32) + (((sh + (32 : Int32)) + (7 : Int32)) / (8 : Int32)))), (.int (4 : Int32))])) rfl (by rw [hml]; rfl) (argsL := [(.int (4 : Int32)), (.int ((0 : Int32) + (((sh + (32 : Int32)) + (7 : Int32)) / (8 : Int32))))]) (rest := []) (lenOf pd__II_I rfl) rfl (by show 2 * 0 + _ ≤ _; exact Nat.le_of_eq rfl) (hb hby d4_34) (fun _ _ => ⟨rfl, e12, (by decide : 0 + 0 ≤ _), (by decide : 0 + 0 ≤ _)⟩)
    dsimp only [Pt.U, Pt.locs, Pt.cells, Pt.slots] at X16 l16 y16 z16 st16 hQ16
    rw [l16, y16, z16] at X16
    clear l16 y16 z16
    obtain ⟨rfl, N16q, e16⟩ := hQ16
    have N16 := Fr.app N0 N16q
    have pre17 : ∀ t, oS p e below T16 m 37 #[rv a0, iv 32, iv 0, iv sh, un, un, un, un] [(.int (f_min (4 : Int32) ((0 : Int32) + (((sh + (32 : Int32)) + (7 : Int32)) / (8 : Int32)))))] t → oE p e below s₁ m #[(.ref a0), (.int (32 : Int32))] 8 t := fun t kt => pre15 t (st16 _ kt)
    clear pre15 st16
    have pre18 : ∀ t, oS p e below T16 m 39 #[rv a0, iv 32, iv 0, iv sh, iv (f_min (4 : Int32) ((0 : Int32) + (((sh + (32 : Int32)) + (7 : Int32)) / (8 : Int32)))), un, un, un] [] t → oE p e below s₁ m #[(.ref a0), (.int (32 : Int32))] 8 t := fun t kt => pre17 t (by
      show oS p e below T16 m 37 #[rv a0, iv 32, iv 0, iv sh, un, un, un, un] [(.int (f_min (4 : Int32) ((0 : Int32) + (((sh + (32 : Int32)) + (7 : Int32)) / (8 : Int32)))))] _
      refine XS.istore X16.here hx rfl (hb hby d4_37) rfl (l' := #[rv a0, iv 32, iv 0, iv sh, iv (f_min (4 : Int32) ((0 : Int32) + (((sh + (32 : Int32)) + (7 : Int32)) / (8 : Int32)))), un, un, un]) rfl ?_
      exact kt)
    clear pre17
    obtain ⟨en, hm19, pre19⟩ : ∃ (en : Int32), (en = (4 : Int32)) ∧ ∀ t, oS p e below T16 m 39 #[rv a0, iv 32, iv 0, iv sh, iv en, un, un, un] [] t → oE p e below s₁ m #[(.ref a0), (.int (32 : Int32))] 8 t := ⟨(f_min (4 : Int32) ((0 : Int32) + (((sh + (32 : Int32)) + (7 : Int32)) / (8 : Int32)))), own_enG (4 : Int32) (0 : Int32) sh (by decide) (by decide) hm10, pre18⟩
    clear pre18
    subst hm19
    have pre20 : ∀ t, oS p e below T16 m 55 #[rv a0, iv 32, iv 0, iv sh, iv 4, jv 0, sn, iv 0] [(.ref a0), (.long (0 : Int64))] t → oE p e below s₁ m #[(.ref a0), (.int (32 : Int32))] 8 t := fun t kt => pre19 t (by
      show oS p e below T16 m 39 #[rv a0, iv 32, iv 0, iv sh, iv 4, un, un, un] [] _
      refine XS.lconst X16.here hx rfl (hb hby d4_39) ?_
      show oS p e below T16 m 40 #[rv a0, iv 32, iv 0, iv sh, iv 4, un, un, un] [(.long (0 : Int64))] _
      refine XS.lstore X16.here hx rfl (hb hby d4_40) rfl (l' := #[rv a0, iv 32, iv 0, iv sh, iv 4, jv 0, sn, un]) rfl ?_
      show oS p e below T16 m 42 #[rv a0, iv 32, iv 0, iv sh, iv 4, jv 0, sn, un] [] _
      refine XS.iloadN X16.here hx rfl (hb hby d4_42) rfl ?_
      show oS p e below T16 m 43 #[rv a0, iv 32, iv 0, iv sh, iv 4, jv 0, sn, un] [(.int (0 : Int32))] _
      refine XS.istore X16.here hx rfl (hb hby d4_43) rfl (l' := #[rv a0, iv 32, iv 0, iv sh, iv 4, jv 0, sn, iv 0]) rfl ?_
      show oS p e below T16 m 45 #[rv a0, iv 32, iv 0, iv sh, iv 4, jv 0, sn, iv 0] [] _
      refine XS.iload X16.here hx rfl (hb hby d4_45) rfl ?_
      show oS p e below T16 m 47 #[rv a0, iv 32, iv 0, iv sh, iv 4, jv 0, sn, iv 0] [(.int (0 : Int32))] _
      refine XS.iload X16.here hx rfl (hb hby d4_47) rfl ?_
      show oS p e below T16 m 49 #[rv a0, iv 32, iv 0, iv sh, iv 4, jv 0, sn, iv 0] [(.int (4 : Int32)), (.int (0 : Int32))] _
      refine XS.icmpNo X16.here hx rfl (hb hby d4_49) rfl (tlt (by decide : (0 : Int32) < (4 : Int32))).2.1 ?_
      show oS p e below T16 m 52 #[rv a0, iv 32, iv 0, iv sh, iv 4, jv 0, sn, iv 0] [] _
      refine XS.lload X16.here hx rfl (hb hby d4_52) rfl ?_
      show oS p e below T16 m 54 #[rv a0, iv 32, iv 0, iv sh, iv 4, jv 0, sn, iv 0] [(.long (0 : Int64))] _
      refine XS.aloadN X16.here hx rfl (hb hby d4_54) rfl rfl ?_
      exact kt)
    clear pre19
    obtain ⟨T21, X21, e21, st21⟩ := getF X16 hx hZ hown (host := "") (Or.inl (hw _ (List.mem_of_getElem? (i := 13) rfl))) Via.refl e16 I_data (g := (mkF m 55 #[rv a0, iv 32, iv 0, iv sh, iv 4, jv 0, sn, iv 0] [(.ref a0), (.long (0 : Int64))])) rfl rfl (hb hby d4_55)
    have pre22 : ∀ t, oS p e below T21 m 58 #[rv a0, iv 32, iv 0, iv sh, iv 4, jv 0, sn, iv 0] [(.ref ab), (.long (0 : Int64))] t → oE p e below s₁ m #[(.ref a0), (.int (32 : Int32))] 8 t := fun t kt => pre20 t (st21 _ kt)
    clear pre20 st21
    have pre23 : ∀ t, oS p e below T21 m 60 #[rv a0, iv 32, iv 0, iv sh, iv 4, jv 0, sn, iv 0] [(.int (0 : Int32)), (.ref ab), (.long (0 : Int64))] t → oE p e below s₁ m #[(.ref a0), (.int (32 : Int32))] 8 t := fun t kt => pre22 t (by
      show oS p e below T21 m 58 #[rv a0, iv 32, iv 0, iv sh, iv 4, jv 0, sn, iv 0] [(.ref ab), (.long (0 : Int64))] _
      refine XS.iload X21.here hx rfl (hb hby d4_58) rfl ?_
      exact kt)
    clear pre22
    have tv24 := V1
    obtain ⟨cl24, Ar24, q24, S24, Ng24, H24, G24⟩ := tv24
    have hin24 : ¬ ((0 : Int32) < 0 ∨ cl24.slots.size ≤ ((0 : Int32)).toNatClampNeg) := inb_of S24 ⟨by decide, by decide⟩
    have hat24 : cl24.slots[((0 : Int32)).toNatClampNeg]? = some (.int b0) := Has.at H24 hin24 rfl
    have pre25 : ∀ t, oS p e below T21 m 77 #[rv a0, iv 32, iv 0, iv sh, iv 4, jv ((0 : Int64) ||| (((b0.toInt64) &&& (255 : Int64)) <<< ((0 : Int32) &&& 0x3f).toInt64)), sn, iv 0] [] t → oE p e below s₁ m #[(.ref a0), (.int (32 : Int32))] 8 t := fun t kt => pre23 t (by
      show oS p e below T21 m 60 #[rv a0, iv 32, iv 0, iv sh, iv 4, jv 0, sn, iv 0] [(.int (0 : Int32)), (.ref ab), (.long (0 : Int64))] _
      refine X21.baloadBytes hx (j := (0 : Int32)) (v := (.int b0)) (by rw [e21]; exact Ar24.1) (State.isArrayOf_alike hZ.alike Ar24.2.1) Ar24.2.2 hin24 hat24 (g := (mkF m 60 #[rv a0, iv 32, iv 0, iv sh, iv 4, jv 0, sn, iv 0] [(.int (0 : Int32)), (.ref ab), (.long (0 : Int64))])) rfl rfl (hb hby d4_60) _ ?_
      show oS p e below T21 m 61 #[rv a0, iv 32, iv 0, iv sh, iv 4, jv 0, sn, iv 0] [(.int b0), (.long (0 : Int64))] _
      refine XS.i2l X21.here hx rfl (hb hby d4_61) rfl ?_
      show oS p e below T21 m 62 #[rv a0, iv 32, iv 0, iv sh, iv 4, jv 0, sn, iv 0] [(.long (b0.toInt64)), (.long (0 : Int64))] _
      refine X21.ldc2Long hx hown (mvT hZ (hw _ (List.mem_of_getElem? (i := 42) rfl))) (g := (mkF m 62 #[rv a0, iv 32, iv 0, iv sh, iv 4, jv 0, sn, iv 0] [(.long (b0.toInt64)), (.long (0 : Int64))])) rfl (hb hby d4_62) _ ?_
      show oS p e below T21 m 65 #[rv a0, iv 32, iv 0, iv sh, iv 4, jv 0, sn, iv 0] [(.long (255 : Int64)), (.long (b0.toInt64)), (.long (0 : Int64))] _
      refine XS.land X21.here hx rfl (hb hby d4_65) rfl ?_
      show oS p e below T21 m 66 #[rv a0, iv 32, iv 0, iv sh, iv 4, jv 0, sn, iv 0] [(.long ((b0.toInt64) &&& (255 : Int64))), (.long (0 : Int64))] _
      refine XS.bipush X21.here hx rfl (hb hby d4_66) ?_
      show oS p e below T21 m 68 #[rv a0, iv 32, iv 0, iv sh, iv 4, jv 0, sn, iv 0] [(.int (8 : Int32)), (.long ((b0.toInt64) &&& (255 : Int64))), (.long (0 : Int64))] _
      refine XS.iload X21.here hx rfl (hb hby d4_68) rfl ?_
      show oS p e below T21 m 70 #[rv a0, iv 32, iv 0, iv sh, iv 4, jv 0, sn, iv 0] [(.int (0 : Int32)), (.int (8 : Int32)), (.long ((b0.toInt64) &&& (255 : Int64))), (.long (0 : Int64))] _
      refine XS.iloadN X21.here hx rfl (hb hby d4_70) rfl ?_
      show oS p e below T21 m 71 #[rv a0, iv 32, iv 0, iv sh, iv 4, jv 0, sn, iv 0] [(.int (0 : Int32)), (.int (0 : Int32)), (.int (8 : Int32)), (.long ((b0.toInt64) &&& (255 : Int64))), (.long (0 : Int64))] _
      refine XS.isub X21.here hx rfl (hb hby d4_71) rfl ?_
      show oS p e below T21 m 72 #[rv a0, iv 32, iv 0, iv sh, iv 4, jv 0, sn, iv 0] [(.int (0 : Int32)), (.int (8 : Int32)), (.long ((b0.toInt64) &&& (255 : Int64))), (.long (0 : Int64))] _
      refine XS.imul X21.here hx rfl (hb hby d4_72) rfl ?_
      show oS p e below T21 m 73 #[rv a0, iv 32, iv 0, iv sh, iv 4, jv 0, sn, iv 0] [(.int (0 : Int32)), (.long ((b0.toInt64) &&& (255 : Int64))), (.long (0 : Int64))] _
      refine XS.lshl X21.here hx rfl (hb hby d4_73) rfl ?_
      show oS p e below T21 m 74 #[rv a0, iv 32, iv 0, iv sh, iv 4, jv 0, sn, iv 0] [(.long (((b0.toInt64) &&& (255 : Int64)) <<< ((0 : Int32) &&& 0x3f).toInt64)), (.long (0 : Int64))] _
      refine XS.lor X21.here hx rfl (hb hby d4_74) rfl ?_
      show oS p e below T21 m 75 #[rv a0, iv 32, iv 0, iv sh, iv 4, jv 0, sn, iv 0] [(.long ((0 : Int64) ||| (((b0.toInt64) &&& (255 : Int64)) <<< ((0 : Int32) &&& 0x3f).toInt64)))] _
      refine XS.lstore X21.here hx rfl (hb hby d4_75) rfl (l' := #[rv a0, iv 32, iv 0, iv sh, iv 4, jv ((0 : Int64) ||| (((b0.toInt64) &&& (255 : Int64)) <<< ((0 : Int32) &&& 0x3f).toInt64)), sn, iv 0]) rfl ?_
      exact kt)
    clear pre23
    obtain ⟨ac0, hm26, pre26⟩ : ∃ (ac0 : Int64), (ac0.toInt = 1 * (b0.toInt % 256)) ∧ ∀ t, oS p e below T21 m 77 #[rv a0, iv 32, iv 0, iv sh, iv 4, jv ac0, sn, iv 0] [] t → oE p e below s₁ m #[(.ref a0), (.int (32 : Int32))] 8 t := ⟨((0 : Int64) ||| (((b0.toInt64) &&& (255 : Int64)) <<< ((0 : Int32) &&& 0x3f).toInt64)), own_ac0 b0, pre25⟩
    clear pre25
    have pre27 : ∀ t, oS p e below T21 m 55 #[rv a0, iv 32, iv 0, iv sh, iv 4, jv ac0, sn, iv 1] [(.ref a0), (.long ac0)] t → oE p e below s₁ m #[(.ref a0), (.int (32 : Int32))] 8 t := fun t kt => pre26 t (by
      show oS p e below T21 m 77 #[rv a0, iv 32, iv 0, iv sh, iv 4, jv ac0, sn, iv 0] [] _
      refine XS.iinc X21.here hx rfl (hb hby d4_77) rfl (l' := #[rv a0, iv 32, iv 0, iv sh, iv 4, jv ac0, sn, iv 1]) rfl ?_
      show oS p e below T21 m 80 #[rv a0, iv 32, iv 0, iv sh, iv 4, jv ac0, sn, iv 1] [] _
      refine XS.goto X21.here hx rfl (pc0 := 80) (pc' := 45) rfl (hb hby d4_80) (by decide) (by decide) ?_
      show oS p e below T21 m 45 #[rv a0, iv 32, iv 0, iv sh, iv 4, jv ac0, sn, iv 1] [] _
      refine XS.iload X21.here hx rfl (hb hby d4_45) rfl ?_
      show oS p e below T21 m 47 #[rv a0, iv 32, iv 0, iv sh, iv 4, jv ac0, sn, iv 1] [(.int (1 : Int32))] _
      refine XS.iload X21.here hx rfl (hb hby d4_47) rfl ?_
      show oS p e below T21 m 49 #[rv a0, iv 32, iv 0, iv sh, iv 4, jv ac0, sn, iv 1] [(.int (4 : Int32)), (.int (1 : Int32))] _
      refine XS.icmpNo X21.here hx rfl (hb hby d4_49) rfl (tlt (by decide : (1 : Int32) < (4 : Int32))).2.1 ?_
      show oS p e below T21 m 52 #[rv a0, iv 32, iv 0, iv sh, iv 4, jv ac0, sn, iv 1] [] _
      refine XS.lload X21.here hx rfl (hb hby d4_52) rfl ?_
      show oS p e below T21 m 54 #[rv a0, iv 32, iv 0, iv sh, iv 4, jv ac0, sn, iv 1] [(.long ac0)] _
      refine XS.aloadN X21.here hx rfl (hb hby d4_54) rfl rfl ?_
      exact kt)
    clear pre26
    obtain ⟨T28, X28, e28, st28⟩ := getF X21 hx hZ hown (host := "") (Or.inl (hw _ (List.mem_of_getElem? (i := 13) rfl))) Via.refl e21 I_data (g := (mkF m 55 #[rv a0, iv 32, iv 0, iv sh, iv 4, jv ac0, sn, iv 1] [(.ref a0), (.long ac0)])) rfl rfl (hb hby d4_55)
    have pre29 : ∀ t, oS p e below T28 m 58 #[rv a0, iv 32, iv 0, iv sh, iv 4, jv ac0, sn, iv 1] [(.ref ab), (.long ac0)] t → oE p e below s₁ m #[(.ref a0), (.int (32 : Int32))] 8 t := fun t kt => pre27 t (st28 _ kt)
    clear pre27 st28
    have pre30 : ∀ t, oS p e below T28 m 60 #[rv a0, iv 32, iv 0, iv sh, iv 4, jv ac0, sn, iv 1] [(.int (1 : Int32)), (.ref ab), (.long ac0)] t → oE p e below s₁ m #[(.ref a0), (.int (32 : Int32))] 8 t := fun t kt => pre29 t (by
      show oS p e below T28 m 58 #[rv a0, iv 32, iv 0, iv sh, iv 4, jv ac0, sn, iv 1] [(.ref ab), (.long ac0)] _
      refine XS.iload X28.here hx rfl (hb hby d4_58) rfl ?_
      exact kt)
    clear pre29
    have tv31 := V1
    obtain ⟨cl31, Ar31, q31, S31, Ng31, H31, G31⟩ := tv31
    have hin31 : ¬ ((1 : Int32) < 0 ∨ cl31.slots.size ≤ ((1 : Int32)).toNatClampNeg) := inb_of S31 ⟨by decide, by decide⟩
    have hat31 : cl31.slots[((1 : Int32)).toNatClampNeg]? = some (.int b1) := Has.at H31 hin31 rfl
    have pre32 : ∀ t, oS p e below T28 m 77 #[rv a0, iv 32, iv 0, iv sh, iv 4, jv (ac0 ||| (((b1.toInt64) &&& (255 : Int64)) <<< ((8 : Int32) &&& 0x3f).toInt64)), sn, iv 1] [] t → oE p e below s₁ m #[(.ref a0), (.int (32 : Int32))] 8 t := fun t kt => pre30 t (by
      show oS p e below T28 m 60 #[rv a0, iv 32, iv 0, iv sh, iv 4, jv ac0, sn, iv 1] [(.int (1 : Int32)), (.ref ab), (.long ac0)] _
      refine X28.baloadBytes hx (j := (1 : Int32)) (v := (.int b1)) (by rw [e28]; exact Ar31.1) (State.isArrayOf_alike hZ.alike Ar31.2.1) Ar31.2.2 hin31 hat31 (g := (mkF m 60 #[rv a0, iv 32, iv 0, iv sh, iv 4, jv ac0, sn, iv 1] [(.int (1 : Int32)), (.ref ab), (.long ac0)])) rfl rfl (hb hby d4_60) _ ?_
      show oS p e below T28 m 61 #[rv a0, iv 32, iv 0, iv sh, iv 4, jv ac0, sn, iv 1] [(.int b1), (.long ac0)] _
      refine XS.i2l X28.here hx rfl (hb hby d4_61) rfl ?_
      show oS p e below T28 m 62 #[rv a0, iv 32, iv 0, iv sh, iv 4, jv ac0, sn, iv 1] [(.long (b1.toInt64)), (.long ac0)] _
      refine X28.ldc2Long hx hown (mvT hZ (hw _ (List.mem_of_getElem? (i := 42) rfl))) (g := (mkF m 62 #[rv a0, iv 32, iv 0, iv sh, iv 4, jv ac0, sn, iv 1] [(.long (b1.toInt64)), (.long ac0)])) rfl (hb hby d4_62) _ ?_
      show oS p e below T28 m 65 #[rv a0, iv 32, iv 0, iv sh, iv 4, jv ac0, sn, iv 1] [(.long (255 : Int64)), (.long (b1.toInt64)), (.long ac0)] _
      refine XS.land X28.here hx rfl (hb hby d4_65) rfl ?_
      show oS p e below T28 m 66 #[rv a0, iv 32, iv 0, iv sh, iv 4, jv ac0, sn, iv 1] [(.long ((b1.toInt64) &&& (255 : Int64))), (.long ac0)] _
      refine XS.bipush X28.here hx rfl (hb hby d4_66) ?_
      show oS p e below T28 m 68 #[rv a0, iv 32, iv 0, iv sh, iv 4, jv ac0, sn, iv 1] [(.int (8 : Int32)), (.long ((b1.toInt64) &&& (255 : Int64))), (.long ac0)] _
      refine XS.iload X28.here hx rfl (hb hby d4_68) rfl ?_
      show oS p e below T28 m 70 #[rv a0, iv 32, iv 0, iv sh, iv 4, jv ac0, sn, iv 1] [(.int (1 : Int32)), (.int (8 : Int32)), (.long ((b1.toInt64) &&& (255 : Int64))), (.long ac0)] _
      refine XS.iloadN X28.here hx rfl (hb hby d4_70) rfl ?_
      show oS p e below T28 m 71 #[rv a0, iv 32, iv 0, iv sh, iv 4, jv ac0, sn, iv 1] [(.int (0 : Int32)), (.int (1 : Int32)), (.int (8 : Int32)), (.long ((b1.toInt64) &&& (255 : Int64))), (.long ac0)] _
      refine XS.isub X28.here hx rfl (hb hby d4_71) rfl ?_
      show oS p e below T28 m 72 #[rv a0, iv 32, iv 0, iv sh, iv 4, jv ac0, sn, iv 1] [(.int (1 : Int32)), (.int (8 : Int32)), (.long ((b1.toInt64) &&& (255 : Int64))), (.long ac0)] _
      refine XS.imul X28.here hx rfl (hb hby d4_72) rfl ?_
      show oS p e below T28 m 73 #[rv a0, iv 32, iv 0, iv sh, iv 4, jv ac0, sn, iv 1] [(.int (8 : Int32)), (.long ((b1.toInt64) &&& (255 : Int64))), (.long ac0)] _
      refine XS.lshl X28.here hx rfl (hb hby d4_73) rfl ?_
      show oS p e below T28 m 74 #[rv a0, iv 32, iv 0, iv sh, iv 4, jv ac0, sn, iv 1] [(.long (((b1.toInt64) &&& (255 : Int64)) <<< ((8 : Int32) &&& 0x3f).toInt64)), (.long ac0)] _
      refine XS.lor X28.here hx rfl (hb hby d4_74) rfl ?_
      show oS p e below T28 m 75 #[rv a0, iv 32, iv 0, iv sh, iv 4, jv ac0, sn, iv 1] [(.long (ac0 ||| (((b1.toInt64) &&& (255 : Int64)) <<< ((8 : Int32) &&& 0x3f).toInt64)))] _
      refine XS.lstore X28.here hx rfl (hb hby d4_75) rfl (l' := #[rv a0, iv 32, iv 0, iv sh, iv 4, jv (ac0 ||| (((b1.toInt64) &&& (255 : Int64)) <<< ((8 : Int32) &&& 0x3f).toInt64)), sn, iv 1]) rfl ?_
      exact kt)
    clear pre30
    obtain ⟨ac1, hm33, pre33⟩ : ∃ (ac1 : Int64), (ac1.toInt = 1 * (b0.toInt % 256) + 256 * (b1.toInt % 256)) ∧ ∀ t, oS p e below T28 m 77 #[rv a0, iv 32, iv 0, iv sh, iv 4, jv ac1, sn, iv 1] [] t → oE p e below s₁ m #[(.ref a0), (.int (32 : Int32))] 8 t := ⟨(ac0 ||| (((b1.toInt64) &&& (255 : Int64)) <<< ((8 : Int32) &&& 0x3f).toInt64)), own_ac1 ac0 b1 _ hm26 (by omega), pre32⟩
    clear pre32
    have pre34 : ∀ t, oS p e below T28 m 55 #[rv a0, iv 32, iv 0, iv sh, iv 4, jv ac1, sn, iv 2] [(.ref a0), (.long ac1)] t → oE p e below s₁ m #[(.ref a0), (.int (32 : Int32))] 8 t := fun t kt => pre33 t (by
      show oS p e below T28 m 77 #[rv a0, iv 32, iv 0, iv sh, iv 4, jv ac1, sn, iv 1] [] _
      refine XS.iinc X28.here hx rfl (hb hby d4_77) rfl (l' := #[rv a0, iv 32, iv 0, iv sh, iv 4, jv ac1, sn, iv 2]) rfl ?_
      show oS p e below T28 m 80 #[rv a0, iv 32, iv 0, iv sh, iv 4, jv ac1, sn, iv 2] [] _
      refine XS.goto X28.here hx rfl (pc0 := 80) (pc' := 45) rfl (hb hby d4_80) (by decide) (by decide) ?_
      show oS p e below T28 m 45 #[rv a0, iv 32, iv 0, iv sh, iv 4, jv ac1, sn, iv 2] [] _
      refine XS.iload X28.here hx rfl (hb hby d4_45) rfl ?_
      show oS p e below T28 m 47 #[rv a0, iv 32, iv 0, iv sh, iv 4, jv ac1, sn, iv 2] [(.int (2 : Int32))] _
      refine XS.iload X28.here hx rfl (hb hby d4_47) rfl ?_
      show oS p e below T28 m 49 #[rv a0, iv 32, iv 0, iv sh, iv 4, jv ac1, sn, iv 2] [(.int (4 : Int32)), (.int (2 : Int32))] _
      refine XS.icmpNo X28.here hx rfl (hb hby d4_49) rfl (tlt (by decide : (2 : Int32) < (4 : Int32))).2.1 ?_
      show oS p e below T28 m 52 #[rv a0, iv 32, iv 0, iv sh, iv 4, jv ac1, sn, iv 2] [] _
      refine XS.lload X28.here hx rfl (hb hby d4_52) rfl ?_
      show oS p e below T28 m 54 #[rv a0, iv 32, iv 0, iv sh, iv 4, jv ac1, sn, iv 2] [(.long ac1)] _
      refine XS.aloadN X28.here hx rfl (hb hby d4_54) rfl rfl ?_
      exact kt)
    clear pre33
    obtain ⟨T35, X35, e35, st35⟩ := getF X28 hx hZ hown (host := "") (Or.inl (hw _ (List.mem_of_getElem? (i := 13) rfl))) Via.refl e28 I_data (g := (mkF m 55 #[rv a0, iv 32, iv 0, iv sh, iv 4, jv ac1, sn, iv 2] [(.ref a0), (.long ac1)])) rfl rfl (hb hby d4_55)
    have pre36 : ∀ t, oS p e below T35 m 58 #[rv a0, iv 32, iv 0, iv sh, iv 4, jv ac1, sn, iv 2] [(.ref ab), (.long ac1)] t → oE p e below s₁ m #[(.ref a0), (.int (32 : Int32))] 8 t := fun t kt => pre34 t (st35 _ kt)
    clear pre34 st35
    have pre37 : ∀ t, oS p e below T35 m 60 #[rv a0, iv 32, iv 0, iv sh, iv 4, jv ac1, sn, iv 2] [(.int (2 : Int32)), (.ref ab), (.long ac1)] t → oE p e below s₁ m #[(.ref a0), (.int (32 : Int32))] 8 t := fun t kt => pre36 t (by
      show oS p e below T35 m 58 #[rv a0, iv 32, iv 0, iv sh, iv 4, jv ac1, sn, iv 2] [(.ref ab), (.long ac1)] _
      refine XS.iload X35.here hx rfl (hb hby d4_58) rfl ?_
      exact kt)
    clear pre36
    have tv38 := V1
    obtain ⟨cl38, Ar38, q38, S38, Ng38, H38, G38⟩ := tv38
    have hin38 : ¬ ((2 : Int32) < 0 ∨ cl38.slots.size ≤ ((2 : Int32)).toNatClampNeg) := inb_of S38 ⟨by decide, by decide⟩
    have hat38 : cl38.slots[((2 : Int32)).toNatClampNeg]? = some (.int b2) := Has.at H38 hin38 rfl
    have pre39 : ∀ t, oS p e below T35 m 77 #[rv a0, iv 32, iv 0, iv sh, iv 4, jv (ac1 ||| (((b2.toInt64) &&& (255 : Int64)) <<< ((16 : Int32) &&& 0x3f).toInt64)), sn, iv 2] [] t → oE p e below s₁ m #[(.ref a0), (.int (32 : Int32))] 8 t := fun t kt => pre37 t (by
      show oS p e below T35 m 60 #[rv a0, iv 32, iv 0, iv sh, iv 4, jv ac1, sn, iv 2] [(.int (2 : Int32)), (.ref ab), (.long ac1)] _
      refine X35.baloadBytes hx (j := (2 : Int32)) (v := (.int b2)) (by rw [e35]; exact Ar38.1) (State.isArrayOf_alike hZ.alike Ar38.2.1) Ar38.2.2 hin38 hat38 (g := (mkF m 60 #[rv a0, iv 32, iv 0, iv sh, iv 4, jv ac1, sn, iv 2] [(.int (2 : Int32)), (.ref ab), (.long ac1)])) rfl rfl (hb hby d4_60) _ ?_
      show oS p e below T35 m 61 #[rv a0, iv 32, iv 0, iv sh, iv 4, jv ac1, sn, iv 2] [(.int b2), (.long ac1)] _
      refine XS.i2l X35.here hx rfl (hb hby d4_61) rfl ?_
      show oS p e below T35 m 62 #[rv a0, iv 32, iv 0, iv sh, iv 4, jv ac1, sn, iv 2] [(.long (b2.toInt64)), (.long ac1)] _
      refine X35.ldc2Long hx hown (mvT hZ (hw _ (List.mem_of_getElem? (i := 42) rfl))) (g := (mkF m 62 #[rv a0, iv 32, iv 0, iv sh, iv 4, jv ac1, sn, iv 2] [(.long (b2.toInt64)), (.long ac1)])) rfl (hb hby d4_62) _ ?_
      show oS p e below T35 m 65 #[rv a0, iv 32, iv 0, iv sh, iv 4, jv ac1, sn, iv 2] [(.long (255 : Int64)), (.long (b2.toInt64)), (.long ac1)] _
      refine XS.land X35.here hx rfl (hb hby d4_65) rfl ?_
      show oS p e below T35 m 66 #[rv a0, iv 32, iv 0, iv sh, iv 4, jv ac1, sn, iv 2] [(.long ((b2.toInt64) &&& (255 : Int64))), (.long ac1)] _
      refine XS.bipush X35.here hx rfl (hb hby d4_66) ?_
      show oS p e below T35 m 68 #[rv a0, iv 32, iv 0, iv sh, iv 4, jv ac1, sn, iv 2] [(.int (8 : Int32)), (.long ((b2.toInt64) &&& (255 : Int64))), (.long ac1)] _
      refine XS.iload X35.here hx rfl (hb hby d4_68) rfl ?_
      show oS p e below T35 m 70 #[rv a0, iv 32, iv 0, iv sh, iv 4, jv ac1, sn, iv 2] [(.int (2 : Int32)), (.int (8 : Int32)), (.long ((b2.toInt64) &&& (255 : Int64))), (.long ac1)] _
      refine XS.iloadN X35.here hx rfl (hb hby d4_70) rfl ?_
      show oS p e below T35 m 71 #[rv a0, iv 32, iv 0, iv sh, iv 4, jv ac1, sn, iv 2] [(.int (0 : Int32)), (.int (2 : Int32)), (.int (8 : Int32)), (.long ((b2.toInt64) &&& (255 : Int64))), (.long ac1)] _
      refine XS.isub X35.here hx rfl (hb hby d4_71) rfl ?_
      show oS p e below T35 m 72 #[rv a0, iv 32, iv 0, iv sh, iv 4, jv ac1, sn, iv 2] [(.int (2 : Int32)), (.int (8 : Int32)), (.long ((b2.toInt64) &&& (255 : Int64))), (.long ac1)] _
      refine XS.imul X35.here hx rfl (hb hby d4_72) rfl ?_
      show oS p e below T35 m 73 #[rv a0, iv 32, iv 0, iv sh, iv 4, jv ac1, sn, iv 2] [(.int (16 : Int32)), (.long ((b2.toInt64) &&& (255 : Int64))), (.long ac1)] _
      refine XS.lshl X35.here hx rfl (hb hby d4_73) rfl ?_
      show oS p e below T35 m 74 #[rv a0, iv 32, iv 0, iv sh, iv 4, jv ac1, sn, iv 2] [(.long (((b2.toInt64) &&& (255 : Int64)) <<< ((16 : Int32) &&& 0x3f).toInt64)), (.long ac1)] _
      refine XS.lor X35.here hx rfl (hb hby d4_74) rfl ?_
      show oS p e below T35 m 75 #[rv a0, iv 32, iv 0, iv sh, iv 4, jv ac1, sn, iv 2] [(.long (ac1 ||| (((b2.toInt64) &&& (255 : Int64)) <<< ((16 : Int32) &&& 0x3f).toInt64)))] _
      refine XS.lstore X35.here hx rfl (hb hby d4_75) rfl (l' := #[rv a0, iv 32, iv 0, iv sh, iv 4, jv (ac1 ||| (((b2.toInt64) &&& (255 : Int64)) <<< ((16 : Int32) &&& 0x3f).toInt64)), sn, iv 2]) rfl ?_
      exact kt)
    clear pre37
    obtain ⟨ac2, hm40, pre40⟩ : ∃ (ac2 : Int64), (ac2.toInt = 1 * (b0.toInt % 256) + 256 * (b1.toInt % 256) + 65536 * (b2.toInt % 256)) ∧ ∀ t, oS p e below T35 m 77 #[rv a0, iv 32, iv 0, iv sh, iv 4, jv ac2, sn, iv 2] [] t → oE p e below s₁ m #[(.ref a0), (.int (32 : Int32))] 8 t := ⟨(ac1 ||| (((b2.toInt64) &&& (255 : Int64)) <<< ((16 : Int32) &&& 0x3f).toInt64)), own_ac2 ac1 b2 _ hm33 (by omega), pre39⟩
    clear pre39
    have pre41 : ∀ t, oS p e below T35 m 55 #[rv a0, iv 32, iv 0, iv sh, iv 4, jv ac2, sn, iv 3] [(.ref a0), (.long ac2)] t → oE p e below s₁ m #[(.ref a0), (.int (32 : Int32))] 8 t := fun t kt => pre40 t (by
      show oS p e below T35 m 77 #[rv a0, iv 32, iv 0, iv sh, iv 4, jv ac2, sn, iv 2] [] _
      refine XS.iinc X35.here hx rfl (hb hby d4_77) rfl (l' := #[rv a0, iv 32, iv 0, iv sh, iv 4, jv ac2, sn, iv 3]) rfl ?_
      show oS p e below T35 m 80 #[rv a0, iv 32, iv 0, iv sh, iv 4, jv ac2, sn, iv 3] [] _
      refine XS.goto X35.here hx rfl (pc0 := 80) (pc' := 45) rfl (hb hby d4_80) (by decide) (by decide) ?_
      show oS p e below T35 m 45 #[rv a0, iv 32, iv 0, iv sh, iv 4, jv ac2, sn, iv 3] [] _
      refine XS.iload X35.here hx rfl (hb hby d4_45) rfl ?_
      show oS p e below T35 m 47 #[rv a0, iv 32, iv 0, iv sh, iv 4, jv ac2, sn, iv 3] [(.int (3 : Int32))] _
      refine XS.iload X35.here hx rfl (hb hby d4_47) rfl ?_
      show oS p e below T35 m 49 #[rv a0, iv 32, iv 0, iv sh, iv 4, jv ac2, sn, iv 3] [(.int (4 : Int32)), (.int (3 : Int32))] _
      refine XS.icmpNo X35.here hx rfl (hb hby d4_49) rfl (tlt (by decide : (3 : Int32) < (4 : Int32))).2.1 ?_
      show oS p e below T35 m 52 #[rv a0, iv 32, iv 0, iv sh, iv 4, jv ac2, sn, iv 3] [] _
      refine XS.lload X35.here hx rfl (hb hby d4_52) rfl ?_
      show oS p e below T35 m 54 #[rv a0, iv 32, iv 0, iv sh, iv 4, jv ac2, sn, iv 3] [(.long ac2)] _
      refine XS.aloadN X35.here hx rfl (hb hby d4_54) rfl rfl ?_
      exact kt)
    clear pre40
    obtain ⟨T42, X42, e42, st42⟩ := getF X35 hx hZ hown (host := "") (Or.inl (hw _ (List.mem_of_getElem? (i := 13) rfl))) Via.refl e35 I_data (g := (mkF m 55 #[rv a0, iv 32, iv 0, iv sh, iv 4, jv ac2, sn, iv 3] [(.ref a0), (.long ac2)])) rfl rfl (hb hby d4_55)
    have pre43 : ∀ t, oS p e below T42 m 58 #[rv a0, iv 32, iv 0, iv sh, iv 4, jv ac2, sn, iv 3] [(.ref ab), (.long ac2)] t → oE p e below s₁ m #[(.ref a0), (.int (32 : Int32))] 8 t := fun t kt => pre41 t (st42 _ kt)
    clear pre41 st42
    have pre44 : ∀ t, oS p e below T42 m 60 #[rv a0, iv 32, iv 0, iv sh, iv 4, jv ac2, sn, iv 3] [(.int (3 : Int32)), (.ref ab), (.long ac2)] t → oE p e below s₁ m #[(.ref a0), (.int (32 : Int32))] 8 t := fun t kt => pre43 t (by
      show oS p e below T42 m 58 #[rv a0, iv 32, iv 0, iv sh, iv 4, jv ac2, sn, iv 3] [(.ref ab), (.long ac2)] _
      refine XS.iload X42.here hx rfl (hb hby d4_58) rfl ?_
      exact kt)
    clear pre43
    have tv45 := V1
    obtain ⟨cl45, Ar45, q45, S45, Ng45, H45, G45⟩ := tv45
    have hin45 : ¬ ((3 : Int32) < 0 ∨ cl45.slots.size ≤ ((3 : Int32)).toNatClampNeg) := inb_of S45 ⟨by decide, by decide⟩
    have hat45 : cl45.slots[((3 : Int32)).toNatClampNeg]? = some (.int b3) := Has.at H45 hin45 rfl
    have pre46 : ∀ t, oS p e below T42 m 77 #[rv a0, iv 32, iv 0, iv sh, iv 4, jv (ac2 ||| (((b3.toInt64) &&& (255 : Int64)) <<< ((24 : Int32) &&& 0x3f).toInt64)), sn, iv 3] [] t → oE p e below s₁ m #[(.ref a0), (.int (32 : Int32))] 8 t := fun t kt => pre44 t (by
      show oS p e below T42 m 60 #[rv a0, iv 32, iv 0, iv sh, iv 4, jv ac2, sn, iv 3] [(.int (3 : Int32)), (.ref ab), (.long ac2)] _
      refine X42.baloadBytes hx (j := (3 : Int32)) (v := (.int b3)) (by rw [e42]; exact Ar45.1) (State.isArrayOf_alike hZ.alike Ar45.2.1) Ar45.2.2 hin45 hat45 (g := (mkF m 60 #[rv a0, iv 32, iv 0, iv sh, iv 4, jv ac2, sn, iv 3] [(.int (3 : Int32)), (.ref ab), (.long ac2)])) rfl rfl (hb hby d4_60) _ ?_
      show oS p e below T42 m 61 #[rv a0, iv 32, iv 0, iv sh, iv 4, jv ac2, sn, iv 3] [(.int b3), (.long ac2)] _
      refine XS.i2l X42.here hx rfl (hb hby d4_61) rfl ?_
      show oS p e below T42 m 62 #[rv a0, iv 32, iv 0, iv sh, iv 4, jv ac2, sn, iv 3] [(.long (b3.toInt64)), (.long ac2)] _
      refine X42.ldc2Long hx hown (mvT hZ (hw _ (List.mem_of_getElem? (i := 42) rfl))) (g := (mkF m 62 #[rv a0, iv 32, iv 0, iv sh, iv 4, jv ac2, sn, iv 3] [(.long (b3.toInt64)), (.long ac2)])) rfl (hb hby d4_62) _ ?_
      show oS p e below T42 m 65 #[rv a0, iv 32, iv 0, iv sh, iv 4, jv ac2, sn, iv 3] [(.long (255 : Int64)), (.long (b3.toInt64)), (.long ac2)] _
      refine XS.land X42.here hx rfl (hb hby d4_65) rfl ?_
      show oS p e below T42 m 66 #[rv a0, iv 32, iv 0, iv sh, iv 4, jv ac2, sn, iv 3] [(.long ((b3.toInt64) &&& (255 : Int64))), (.long ac2)] _
      refine XS.bipush X42.here hx rfl (hb hby d4_66) ?_
      show oS p e below T42 m 68 #[rv a0, iv 32, iv 0, iv sh, iv 4, jv ac2, sn, iv 3] [(.int (8 : Int32)), (.long ((b3.toInt64) &&& (255 : Int64))), (.long ac2)] _
      refine XS.iload X42.here hx rfl (hb hby d4_68) rfl ?_
      show oS p e below T42 m 70 #[rv a0, iv 32, iv 0, iv sh, iv 4, jv ac2, sn, iv 3] [(.int (3 : Int32)), (.int (8 : Int32)), (.long ((b3.toInt64) &&& (255 : Int64))), (.long ac2)] _
      refine XS.iloadN X42.here hx rfl (hb hby d4_70) rfl ?_
      show oS p e below T42 m 71 #[rv a0, iv 32, iv 0, iv sh, iv 4, jv ac2, sn, iv 3] [(.int (0 : Int32)), (.int (3 : Int32)), (.int (8 : Int32)), (.long ((b3.toInt64) &&& (255 : Int64))), (.long ac2)] _
      refine XS.isub X42.here hx rfl (hb hby d4_71) rfl ?_
      show oS p e below T42 m 72 #[rv a0, iv 32, iv 0, iv sh, iv 4, jv ac2, sn, iv 3] [(.int (3 : Int32)), (.int (8 : Int32)), (.long ((b3.toInt64) &&& (255 : Int64))), (.long ac2)] _
      refine XS.imul X42.here hx rfl (hb hby d4_72) rfl ?_
      show oS p e below T42 m 73 #[rv a0, iv 32, iv 0, iv sh, iv 4, jv ac2, sn, iv 3] [(.int (24 : Int32)), (.long ((b3.toInt64) &&& (255 : Int64))), (.long ac2)] _
      refine XS.lshl X42.here hx rfl (hb hby d4_73) rfl ?_
      show oS p e below T42 m 74 #[rv a0, iv 32, iv 0, iv sh, iv 4, jv ac2, sn, iv 3] [(.long (((b3.toInt64) &&& (255 : Int64)) <<< ((24 : Int32) &&& 0x3f).toInt64)), (.long ac2)] _
      refine XS.lor X42.here hx rfl (hb hby d4_74) rfl ?_
      show oS p e below T42 m 75 #[rv a0, iv 32, iv 0, iv sh, iv 4, jv ac2, sn, iv 3] [(.long (ac2 ||| (((b3.toInt64) &&& (255 : Int64)) <<< ((24 : Int32) &&& 0x3f).toInt64)))] _
      refine XS.lstore X42.here hx rfl (hb hby d4_75) rfl (l' := #[rv a0, iv 32, iv 0, iv sh, iv 4, jv (ac2 ||| (((b3.toInt64) &&& (255 : Int64)) <<< ((24 : Int32) &&& 0x3f).toInt64)), sn, iv 3]) rfl ?_
      exact kt)
    clear pre44
    obtain ⟨ac3, hm47, pre47⟩ : ∃ (ac3 : Int64), (ac3.toInt = 1 * (b0.toInt % 256) + 256 * (b1.toInt % 256) + 65536 * (b2.toInt % 256) + 16777216 * (b3.toInt % 256)) ∧ ∀ t, oS p e below T42 m 77 #[rv a0, iv 32, iv 0, iv sh, iv 4, jv ac3, sn, iv 3] [] t → oE p e below s₁ m #[(.ref a0), (.int (32 : Int32))] 8 t := ⟨(ac2 ||| (((b3.toInt64) &&& (255 : Int64)) <<< ((24 : Int32) &&& 0x3f).toInt64)), own_ac3 ac2 b3 _ hm40 (by omega), pre46⟩
    clear pre46
    have pre48 : ∀ t, oS p e below T42 m 94 #[rv a0, iv 32, iv 0, iv sh, iv 4, jv ac3, sn, iv 4] [(.int ((((ac3.toUInt64 >>> (sh &&& 0x3f).toInt64.toUInt64).toInt64) &&& (((1 : Int64) <<< ((32 : Int32) &&& 0x3f).toInt64) - (1 : Int64))).toInt32))] t → oE p e below s₁ m #[(.ref a0), (.int (32 : Int32))] 8 t := fun t kt => pre47 t (by
      show oS p e below T42 m 77 #[rv a0, iv 32, iv 0, iv sh, iv 4, jv ac3, sn, iv 3] [] _
      refine XS.iinc X42.here hx rfl (hb hby d4_77) rfl (l' := #[rv a0, iv 32, iv 0, iv sh, iv 4, jv ac3, sn, iv 4]) rfl ?_
      show oS p e below T42 m 80 #[rv a0, iv 32, iv 0, iv sh, iv 4, jv ac3, sn, iv 4] [] _
      refine XS.goto X42.here hx rfl (pc0 := 80) (pc' := 45) rfl (hb hby d4_80) (by decide) (by decide) ?_
      show oS p e below T42 m 45 #[rv a0, iv 32, iv 0, iv sh, iv 4, jv ac3, sn, iv 4] [] _
      refine XS.iload X42.here hx rfl (hb hby d4_45) rfl ?_
      show oS p e below T42 m 47 #[rv a0, iv 32, iv 0, iv sh, iv 4, jv ac3, sn, iv 4] [(.int (4 : Int32))] _
      refine XS.iload X42.here hx rfl (hb hby d4_47) rfl ?_
      show oS p e below T42 m 49 #[rv a0, iv 32, iv 0, iv sh, iv 4, jv ac3, sn, iv 4] [(.int (4 : Int32)), (.int (4 : Int32))] _
      refine XS.icmpYes X42.here hx rfl (pc0 := 49) (pc' := 83) rfl (hb hby d4_49) rfl (flt (by decide : ¬ ((4 : Int32) < (4 : Int32)))).2.1 (by decide) (by decide) ?_
      show oS p e below T42 m 83 #[rv a0, iv 32, iv 0, iv sh, iv 4, jv ac3, sn, iv 4] [] _
      refine XS.lload X42.here hx rfl (hb hby d4_83) rfl ?_
      show oS p e below T42 m 85 #[rv a0, iv 32, iv 0, iv sh, iv 4, jv ac3, sn, iv 4] [(.long ac3)] _
      refine XS.iloadN X42.here hx rfl (hb hby d4_85) rfl ?_
      show oS p e below T42 m 86 #[rv a0, iv 32, iv 0, iv sh, iv 4, jv ac3, sn, iv 4] [(.int sh), (.long ac3)] _
      refine XS.lushr X42.here hx rfl (hb hby d4_86) rfl ?_
      show oS p e below T42 m 87 #[rv a0, iv 32, iv 0, iv sh, iv 4, jv ac3, sn, iv 4] [(.long ((ac3.toUInt64 >>> (sh &&& 0x3f).toInt64.toUInt64).toInt64))] _
      refine XS.lconst X42.here hx rfl (hb hby d4_87) ?_
      show oS p e below T42 m 88 #[rv a0, iv 32, iv 0, iv sh, iv 4, jv ac3, sn, iv 4] [(.long (1 : Int64)), (.long ((ac3.toUInt64 >>> (sh &&& 0x3f).toInt64.toUInt64).toInt64))] _
      refine XS.iloadN X42.here hx rfl (hb hby d4_88) rfl ?_
      show oS p e below T42 m 89 #[rv a0, iv 32, iv 0, iv sh, iv 4, jv ac3, sn, iv 4] [(.int (32 : Int32)), (.long (1 : Int64)), (.long ((ac3.toUInt64 >>> (sh &&& 0x3f).toInt64.toUInt64).toInt64))] _
      refine XS.lshl X42.here hx rfl (hb hby d4_89) rfl ?_
      show oS p e below T42 m 90 #[rv a0, iv 32, iv 0, iv sh, iv 4, jv ac3, sn, iv 4] [(.long ((1 : Int64) <<< ((32 : Int32) &&& 0x3f).toInt64)), (.long ((ac3.toUInt64 >>> (sh &&& 0x3f).toInt64.toUInt64).toInt64))] _
      refine XS.lconst X42.here hx rfl (hb hby d4_90) ?_
      show oS p e below T42 m 91 #[rv a0, iv 32, iv 0, iv sh, iv 4, jv ac3, sn, iv 4] [(.long (1 : Int64)), (.long ((1 : Int64) <<< ((32 : Int32) &&& 0x3f).toInt64)), (.long ((ac3.toUInt64 >>> (sh &&& 0x3f).toInt64.toUInt64).toInt64))] _
      refine XS.lsub X42.here hx rfl (hb hby d4_91) rfl ?_
      show oS p e below T42 m 92 #[rv a0, iv 32, iv 0, iv sh, iv 4, jv ac3, sn, iv 4] [(.long (((1 : Int64) <<< ((32 : Int32) &&& 0x3f).toInt64) - (1 : Int64))), (.long ((ac3.toUInt64 >>> (sh &&& 0x3f).toInt64.toUInt64).toInt64))] _
      refine XS.land X42.here hx rfl (hb hby d4_92) rfl ?_
      show oS p e below T42 m 93 #[rv a0, iv 32, iv 0, iv sh, iv 4, jv ac3, sn, iv 4] [(.long (((ac3.toUInt64 >>> (sh &&& 0x3f).toInt64.toUInt64).toInt64) &&& (((1 : Int64) <<< ((32 : Int32) &&& 0x3f).toInt64) - (1 : Int64))))] _
      refine XS.l2i X42.here hx rfl (hb hby d4_93) rfl ?_
      exact kt)
    clear pre47
    have hr0 : ((((ac3.toUInt64 >>> (sh &&& 0x3f).toInt64.toUInt64).toInt64) &&& (((1 : Int64) <<< ((32 : Int32) &&& 0x3f).toInt64) - (1 : Int64))).toInt32) = Int32.ofInt ((1 * (b0.toInt % 256) + 256 * (b1.toInt % 256) + 65536 * (b2.toInt % 256) + 16777216 * (b3.toInt % 256)) / 2 ^ ps.toInt.toNat) := own_fin ac3 sh ps (1 * (b0.toInt % 256) + 256 * (b1.toInt % 256) + 65536 * (b2.toInt % 256) + 16777216 * (b3.toInt % 256)) 0 1 (by decide) hps.1 hk0 hm10 (by omega) (by have q := hm47; omega)
    rw [hr0] at pre48
    obtain ⟨fs, hr, hrun, hended, hW, hsame⟩ := X42.leave (v := some (.int (Int32.ofInt ((1 * (b0.toInt % 256) + 256 * (b1.toInt % 256) + 65536 * (b2.toInt % 256) + 16777216 * (b3.toInt % 256)) / 2 ^ ps.toInt.toNat)))) (fun h => by rw [Bd.returns] at h; cases h)
    refine ⟨_, _, pre48 _ ?_, hrun, hended, _, _, rfl, ?_, ⟨_, rfl⟩, hW, hsame.mono (by decide) (by decide)⟩
    · show oS p e below T42 m 94 #[rv a0, iv 32, iv 0, iv sh, iv 4, jv ac3, sn, iv 4] [(.int (Int32.ofInt ((1 * (b0.toInt % 256) + 256 * (b1.toInt % 256) + 65536 * (b2.toInt % 256) + 16777216 * (b3.toInt % 256)) / 2 ^ ps.toInt.toNat)))] _
      exact retI X42 hx Bd.returns (hb hby d4_94) hr
    · show Q4p4 Z a0 ab sz ps ed kb b0 b1 b2 b3 h0 n0 _ T42.heap _
      rw [e42]
      exact ⟨rfl, N16, rfl⟩
  · have hk1 : ps.toInt / 8 = 1 := hk0.trans (by decide)
    have pre49 : ∀ t, oS p e below T2 m 9 #[rv a0, iv 32, iv 1, un, un, un, un, un] [(.ref a0)] t → oE p e below s₁ m #[(.ref a0), (.int (32 : Int32))] 8 t := fun t kt => pre5 t (by
      show oS p e below T2 m 8 #[rv a0, iv 32, iv 1, un, un, un, un, un] [] _
      refine XS.aloadN X2.here hx rfl (hb hby d4_8) rfl rfl ?_
      exact kt)
    clear pre5
    obtain ⟨T50, X50, e50, st50⟩ := getF X2 hx hZ hown (host := "") (Or.inl (hw _ (List.mem_of_getElem? (i := 23) rfl))) Via.refl e2 I_position (g := (mkF m 9 #[rv a0, iv 32, iv 1, un, un, un, un, un] [(.ref a0)])) rfl rfl (hb hby d4_9)
    have pre51 : ∀ t, oS p e below T50 m 12 #[rv a0, iv 32, iv 1, un, un, un, un, un] [(.long ps)] t → oE p e below s₁ m #[(.ref a0), (.int (32 : Int32))] 8 t := fun t kt => pre49 t (st50 _ kt)
    clear pre49 st50
    have pre52 : ∀ t, oS p e below T50 m 18 #[rv a0, iv 32, iv 1, iv ((ps &&& (7 : Int64)).toInt32), un, un, un, un] [] t → oE p e below s₁ m #[(.ref a0), (.int (32 : Int32))] 8 t := fun t kt => pre51 t (by
      show oS p e below T50 m 12 #[rv a0, iv 32, iv 1, un, un, un, un, un] [(.long ps)] _
      refine X50.ldc2Long hx hown (mvT hZ (hw _ (List.mem_of_getElem? (i := 32) rfl))) (g := (mkF m 12 #[rv a0, iv 32, iv 1, un, un, un, un, un] [(.long ps)])) rfl (hb hby d4_12) _ ?_
      show oS p e below T50 m 15 #[rv a0, iv 32, iv 1, un, un, un, un, un] [(.long (7 : Int64)), (.long ps)] _
      refine XS.land X50.here hx rfl (hb hby d4_15) rfl ?_
      show oS p e below T50 m 16 #[rv a0, iv 32, iv 1, un, un, un, un, un] [(.long (ps &&& (7 : Int64)))] _
      refine XS.l2i X50.here hx rfl (hb hby d4_16) rfl ?_
      show oS p e below T50 m 17 #[rv a0, iv 32, iv 1, un, un, un, un, un] [(.int ((ps &&& (7 : Int64)).toInt32))] _
      refine XS.istoreN X50.here hx rfl (hb hby d4_17) rfl (l' := #[rv a0, iv 32, iv 1, iv ((ps &&& (7 : Int64)).toInt32), un, un, un, un]) rfl ?_
      exact kt)
    clear pre51
    obtain ⟨sh, hm53, pre53⟩ : ∃ (sh : Int32), (sh.toInt = ps.toInt % 8) ∧ ∀ t, oS p e below T50 m 18 #[rv a0, iv 32, iv 1, iv sh, un, un, un, un] [] t → oE p e below s₁ m #[(.ref a0), (.int (32 : Int32))] 8 t := ⟨((ps &&& (7 : Int64)).toInt32), own_sh ps hps, pre52⟩
    clear pre52
    have pre54 : ∀ t, oS p e below T50 m 19 #[rv a0, iv 32, iv 1, iv sh, un, un, un, un] [(.ref a0)] t → oE p e below s₁ m #[(.ref a0), (.int (32 : Int32))] 8 t := fun t kt => pre53 t (by
      show oS p e below T50 m 18 #[rv a0, iv 32, iv 1, iv sh, un, un, un, un] [] _
      refine XS.aloadN X50.here hx rfl (hb hby d4_18) rfl rfl ?_
      exact kt)
    clear pre53
    obtain ⟨T55, X55, e55, st55⟩ := getF X50 hx hZ hown (host := "") (Or.inl (hw _ (List.mem_of_getElem? (i := 13) rfl))) Via.refl e50 I_data (g := (mkF m 19 #[rv a0, iv 32, iv 1, iv sh, un, un, un, un] [(.ref a0)])) rfl rfl (hb hby d4_19)
    have pre56 : ∀ t, oS p e below T55 m 22 #[rv a0, iv 32, iv 1, iv sh, un, un, un, un] [(.ref ab)] t → oE p e below s₁ m #[(.ref a0), (.int (32 : Int32))] 8 t := fun t kt => pre54 t (st55 _ kt)
    clear pre54 st55
    have tv57 := V1
    obtain ⟨cl57, Ar57, q57, S57, Ng57, H57, G57⟩ := tv57
    have pre58 : ∀ t, oS p e below T55 m 34 #[rv a0, iv 32, iv 1, iv sh, un, un, un, un] [(.int ((1 : Int32) + (((sh + (32 : Int32)) + (7 : Int32)) / (8 : Int32)))), (.int (4 : Int32))] t → oE p e below s₁ m #[(.ref a0), (.int (32 : Int32))] 8 t := fun t kt => pre56 t (by
      show oS p e below T55 m 22 #[rv a0, iv 32, iv 1, iv sh, un, un, un, un] [(.ref ab)] _
      refine X55.arraylength hx (by rw [e55]; exact Ar57.1) (State.isArrayOf_alike hZ.alike Ar57.2.1) (g := (mkF m 22 #[rv a0, iv 32, iv 1, iv sh, un, un, un, un] [(.ref ab)])) rfl rfl (hb hby d4_22) _ ?_
      rw [len_of S57 Ng57]
      show oS p e below T55 m 23 #[rv a0, iv 32, iv 1, iv sh, un, un, un, un] [(.int (4 : Int32))] _
      refine XS.iloadN X55.here hx rfl (hb hby d4_23) rfl ?_
      show oS p e below T55 m 24 #[rv a0, iv 32, iv 1, iv sh, un, un, un, un] [(.int (1 : Int32)), (.int (4 : Int32))] _
      refine XS.iloadN X55.here hx rfl (hb hby d4_24) rfl ?_
      show oS p e below T55 m 25 #[rv a0, iv 32, iv 1, iv sh, un, un, un, un] [(.int sh), (.int (1 : Int32)), (.int (4 : Int32))] _
      refine XS.iloadN X55.here hx rfl (hb hby d4_25) rfl ?_
      show oS p e below T55 m 26 #[rv a0, iv 32, iv 1, iv sh, un, un, un, un] [(.int (32 : Int32)), (.int sh), (.int (1 : Int32)), (.int (4 : Int32))] _
      refine XS.iadd X55.here hx rfl (hb hby d4_26) rfl ?_
      show oS p e below T55 m 27 #[rv a0, iv 32, iv 1, iv sh, un, un, un, un] [(.int (sh + (32 : Int32))), (.int (1 : Int32)), (.int (4 : Int32))] _
      refine XS.bipush X55.here hx rfl (hb hby d4_27) ?_
      show oS p e below T55 m 29 #[rv a0, iv 32, iv 1, iv sh, un, un, un, un] [(.int (7 : Int32)), (.int (sh + (32 : Int32))), (.int (1 : Int32)), (.int (4 : Int32))] _
      refine XS.iadd X55.here hx rfl (hb hby d4_29) rfl ?_
      show oS p e below T55 m 30 #[rv a0, iv 32, iv 1, iv sh, un, un, un, un] [(.int ((sh + (32 : Int32)) + (7 : Int32))), (.int (1 : Int32)), (.int (4 : Int32))] _
      refine XS.bipush X55.here hx rfl (hb hby d4_30) ?_
      show oS p e below T55 m 32 #[rv a0, iv 32, iv 1, iv sh, un, un, un, un] [(.int (8 : Int32)), (.int ((sh + (32 : Int32)) + (7 : Int32))), (.int (1 : Int32)), (.int (4 : Int32))] _
      refine XS.idiv X55.here hx rfl (hb hby d4_32) rfl (by decide) ?_
      show oS p e below T55 m 33 #[rv a0, iv 32, iv 1, iv sh, un, un, un, un] [(.int (((sh + (32 : Int32)) + (7 : Int32)) / (8 : Int32))), (.int (1 : Int32)), (.int (4 : Int32))] _
      refine XS.iadd X55.here hx rfl (hb hby d4_33) rfl ?_
      exact kt)
    clear pre56
    obtain ⟨_, _, ⟨T59, L59, k59, n59⟩, -, X59, ⟨Lc59, hQ59, l59, y59, z59⟩, st59⟩ := Jvm.LawKit.callS X55 hx (y := (⟨"java/lang/Math", "min", "(II)I"⟩ : MethodName)) hown (mvT hZ (hw _ (List.mem_of_getElem? (i := 33) rfl))) (mvT hZ (hw _ (List.mem_of_getElem? (i := 34) rfl))) (mvT hZ (hw _ (List.mem_of_getElem? (i := 35) rfl))) (mvT hZ (hw _ (List.mem_of_getElem? (i := 36) rfl))) (by decide) (backOf (W := 0) (rm5 l Z av hw [] (4 : Int32) ((1 : Int32) + (((sh + (32 : Int32)) + (7 : Int32)) / (8 : Int32)))  h0 n0 Z0 ) hZ (hw _ (List.mem_of_getElem? (i := 36) rfl)) (hw _ (List.mem_of_getElem? (i := 35) rfl)) (by decide) (by decide)) (g := (mkF m 34 #[rv a0, iv 32, iv 1, iv sh, un, un, un, un] [(.int ((1 : Int32) + (((sh + (32 : Int32)) + (7 : Int32)) / (8 : Int32)))), (.int (4 : Int32))])) rfl (by rw [hml]; rfl) (argsL := [(.int (4 : Int32)), (.int ((1 : Int32) + (((sh + (32 : Int32)) + (7 : Int32)) / (8 : Int32))))]) (rest := []) (lenOf pd__II_I rfl) rfl (by show 2 * 0 + _ ≤ _; exact Nat.le_of_eq rfl) (hb hby d4_34) (fun _ _ => ⟨rfl, e55, (by decide : 0 + 0 ≤ _), (by decide : 0 + 0 ≤ _)⟩)
    dsimp only [Pt.U, Pt.locs, Pt.cells, Pt.slots] at X59 l59 y59 z59 st59 hQ59
    rw [l59, y59, z59] at X59
    clear l59 y59 z59
    obtain ⟨rfl, N59q, e59⟩ := hQ59
    have N59 := Fr.app N0 N59q
    have pre60 : ∀ t, oS p e below T59 m 37 #[rv a0, iv 32, iv 1, iv sh, un, un, un, un] [(.int (f_min (4 : Int32) ((1 : Int32) + (((sh + (32 : Int32)) + (7 : Int32)) / (8 : Int32)))))] t → oE p e below s₁ m #[(.ref a0), (.int (32 : Int32))] 8 t := fun t kt => pre58 t (st59 _ kt)
    clear pre58 st59
    have pre61 : ∀ t, oS p e below T59 m 39 #[rv a0, iv 32, iv 1, iv sh, iv (f_min (4 : Int32) ((1 : Int32) + (((sh + (32 : Int32)) + (7 : Int32)) / (8 : Int32)))), un, un, un] [] t → oE p e below s₁ m #[(.ref a0), (.int (32 : Int32))] 8 t := fun t kt => pre60 t (by
      show oS p e below T59 m 37 #[rv a0, iv 32, iv 1, iv sh, un, un, un, un] [(.int (f_min (4 : Int32) ((1 : Int32) + (((sh + (32 : Int32)) + (7 : Int32)) / (8 : Int32)))))] _
      refine XS.istore X59.here hx rfl (hb hby d4_37) rfl (l' := #[rv a0, iv 32, iv 1, iv sh, iv (f_min (4 : Int32) ((1 : Int32) + (((sh + (32 : Int32)) + (7 : Int32)) / (8 : Int32)))), un, un, un]) rfl ?_
      exact kt)
    clear pre60
    obtain ⟨en, hm62, pre62⟩ : ∃ (en : Int32), (en = (4 : Int32)) ∧ ∀ t, oS p e below T59 m 39 #[rv a0, iv 32, iv 1, iv sh, iv en, un, un, un] [] t → oE p e below s₁ m #[(.ref a0), (.int (32 : Int32))] 8 t := ⟨(f_min (4 : Int32) ((1 : Int32) + (((sh + (32 : Int32)) + (7 : Int32)) / (8 : Int32)))), own_enG (4 : Int32) (1 : Int32) sh (by decide) (by decide) hm53, pre61⟩
    clear pre61
    subst hm62
    have pre63 : ∀ t, oS p e below T59 m 55 #[rv a0, iv 32, iv 1, iv sh, iv 4, jv 0, sn, iv 1] [(.ref a0), (.long (0 : Int64))] t → oE p e below s₁ m #[(.ref a0), (.int (32 : Int32))] 8 t := fun t kt => pre62 t (by
      show oS p e below T59 m 39 #[rv a0, iv 32, iv 1, iv sh, iv 4, un, un, un] [] _
      refine XS.lconst X59.here hx rfl (hb hby d4_39) ?_
      show oS p e below T59 m 40 #[rv a0, iv 32, iv 1, iv sh, iv 4, un, un, un] [(.long (0 : Int64))] _
      refine XS.lstore X59.here hx rfl (hb hby d4_40) rfl (l' := #[rv a0, iv 32, iv 1, iv sh, iv 4, jv 0, sn, un]) rfl ?_
      show oS p e below T59 m 42 #[rv a0, iv 32, iv 1, iv sh, iv 4, jv 0, sn, un] [] _
      refine XS.iloadN X59.here hx rfl (hb hby d4_42) rfl ?_
      show oS p e below T59 m 43 #[rv a0, iv 32, iv 1, iv sh, iv 4, jv 0, sn, un] [(.int (1 : Int32))] _
      refine XS.istore X59.here hx rfl (hb hby d4_43) rfl (l' := #[rv a0, iv 32, iv 1, iv sh, iv 4, jv 0, sn, iv 1]) rfl ?_
      show oS p e below T59 m 45 #[rv a0, iv 32, iv 1, iv sh, iv 4, jv 0, sn, iv 1] [] _
      refine XS.iload X59.here hx rfl (hb hby d4_45) rfl ?_
      show oS p e below T59 m 47 #[rv a0, iv 32, iv 1, iv sh, iv 4, jv 0, sn, iv 1] [(.int (1 : Int32))] _
      refine XS.iload X59.here hx rfl (hb hby d4_47) rfl ?_
      show oS p e below T59 m 49 #[rv a0, iv 32, iv 1, iv sh, iv 4, jv 0, sn, iv 1] [(.int (4 : Int32)), (.int (1 : Int32))] _
      refine XS.icmpNo X59.here hx rfl (hb hby d4_49) rfl (tlt (by decide : (1 : Int32) < (4 : Int32))).2.1 ?_
      show oS p e below T59 m 52 #[rv a0, iv 32, iv 1, iv sh, iv 4, jv 0, sn, iv 1] [] _
      refine XS.lload X59.here hx rfl (hb hby d4_52) rfl ?_
      show oS p e below T59 m 54 #[rv a0, iv 32, iv 1, iv sh, iv 4, jv 0, sn, iv 1] [(.long (0 : Int64))] _
      refine XS.aloadN X59.here hx rfl (hb hby d4_54) rfl rfl ?_
      exact kt)
    clear pre62
    obtain ⟨T64, X64, e64, st64⟩ := getF X59 hx hZ hown (host := "") (Or.inl (hw _ (List.mem_of_getElem? (i := 13) rfl))) Via.refl e59 I_data (g := (mkF m 55 #[rv a0, iv 32, iv 1, iv sh, iv 4, jv 0, sn, iv 1] [(.ref a0), (.long (0 : Int64))])) rfl rfl (hb hby d4_55)
    have pre65 : ∀ t, oS p e below T64 m 58 #[rv a0, iv 32, iv 1, iv sh, iv 4, jv 0, sn, iv 1] [(.ref ab), (.long (0 : Int64))] t → oE p e below s₁ m #[(.ref a0), (.int (32 : Int32))] 8 t := fun t kt => pre63 t (st64 _ kt)
    clear pre63 st64
    have pre66 : ∀ t, oS p e below T64 m 60 #[rv a0, iv 32, iv 1, iv sh, iv 4, jv 0, sn, iv 1] [(.int (1 : Int32)), (.ref ab), (.long (0 : Int64))] t → oE p e below s₁ m #[(.ref a0), (.int (32 : Int32))] 8 t := fun t kt => pre65 t (by
      show oS p e below T64 m 58 #[rv a0, iv 32, iv 1, iv sh, iv 4, jv 0, sn, iv 1] [(.ref ab), (.long (0 : Int64))] _
      refine XS.iload X64.here hx rfl (hb hby d4_58) rfl ?_
      exact kt)
    clear pre65
    have tv67 := V1
    obtain ⟨cl67, Ar67, q67, S67, Ng67, H67, G67⟩ := tv67
    have hin67 : ¬ ((1 : Int32) < 0 ∨ cl67.slots.size ≤ ((1 : Int32)).toNatClampNeg) := inb_of S67 ⟨by decide, by decide⟩
    have hat67 : cl67.slots[((1 : Int32)).toNatClampNeg]? = some (.int b1) := Has.at H67 hin67 rfl
    have pre68 : ∀ t, oS p e below T64 m 77 #[rv a0, iv 32, iv 1, iv sh, iv 4, jv ((0 : Int64) ||| (((b1.toInt64) &&& (255 : Int64)) <<< ((0 : Int32) &&& 0x3f).toInt64)), sn, iv 1] [] t → oE p e below s₁ m #[(.ref a0), (.int (32 : Int32))] 8 t := fun t kt => pre66 t (by
      show oS p e below T64 m 60 #[rv a0, iv 32, iv 1, iv sh, iv 4, jv 0, sn, iv 1] [(.int (1 : Int32)), (.ref ab), (.long (0 : Int64))] _
      refine X64.baloadBytes hx (j := (1 : Int32)) (v := (.int b1)) (by rw [e64]; exact Ar67.1) (State.isArrayOf_alike hZ.alike Ar67.2.1) Ar67.2.2 hin67 hat67 (g := (mkF m 60 #[rv a0, iv 32, iv 1, iv sh, iv 4, jv 0, sn, iv 1] [(.int (1 : Int32)), (.ref ab), (.long (0 : Int64))])) rfl rfl (hb hby d4_60) _ ?_
      show oS p e below T64 m 61 #[rv a0, iv 32, iv 1, iv sh, iv 4, jv 0, sn, iv 1] [(.int b1), (.long (0 : Int64))] _
      refine XS.i2l X64.here hx rfl (hb hby d4_61) rfl ?_
      show oS p e below T64 m 62 #[rv a0, iv 32, iv 1, iv sh, iv 4, jv 0, sn, iv 1] [(.long (b1.toInt64)), (.long (0 : Int64))] _
      refine X64.ldc2Long hx hown (mvT hZ (hw _ (List.mem_of_getElem? (i := 42) rfl))) (g := (mkF m 62 #[rv a0, iv 32, iv 1, iv sh, iv 4, jv 0, sn, iv 1] [(.long (b1.toInt64)), (.long (0 : Int64))])) rfl (hb hby d4_62) _ ?_
      show oS p e below T64 m 65 #[rv a0, iv 32, iv 1, iv sh, iv 4, jv 0, sn, iv 1] [(.long (255 : Int64)), (.long (b1.toInt64)), (.long (0 : Int64))] _
      refine XS.land X64.here hx rfl (hb hby d4_65) rfl ?_
      show oS p e below T64 m 66 #[rv a0, iv 32, iv 1, iv sh, iv 4, jv 0, sn, iv 1] [(.long ((b1.toInt64) &&& (255 : Int64))), (.long (0 : Int64))] _
      refine XS.bipush X64.here hx rfl (hb hby d4_66) ?_
      show oS p e below T64 m 68 #[rv a0, iv 32, iv 1, iv sh, iv 4, jv 0, sn, iv 1] [(.int (8 : Int32)), (.long ((b1.toInt64) &&& (255 : Int64))), (.long (0 : Int64))] _
      refine XS.iload X64.here hx rfl (hb hby d4_68) rfl ?_
      show oS p e below T64 m 70 #[rv a0, iv 32, iv 1, iv sh, iv 4, jv 0, sn, iv 1] [(.int (1 : Int32)), (.int (8 : Int32)), (.long ((b1.toInt64) &&& (255 : Int64))), (.long (0 : Int64))] _
      refine XS.iloadN X64.here hx rfl (hb hby d4_70) rfl ?_
      show oS p e below T64 m 71 #[rv a0, iv 32, iv 1, iv sh, iv 4, jv 0, sn, iv 1] [(.int (1 : Int32)), (.int (1 : Int32)), (.int (8 : Int32)), (.long ((b1.toInt64) &&& (255 : Int64))), (.long (0 : Int64))] _
      refine XS.isub X64.here hx rfl (hb hby d4_71) rfl ?_
      show oS p e below T64 m 72 #[rv a0, iv 32, iv 1, iv sh, iv 4, jv 0, sn, iv 1] [(.int (0 : Int32)), (.int (8 : Int32)), (.long ((b1.toInt64) &&& (255 : Int64))), (.long (0 : Int64))] _
      refine XS.imul X64.here hx rfl (hb hby d4_72) rfl ?_
      show oS p e below T64 m 73 #[rv a0, iv 32, iv 1, iv sh, iv 4, jv 0, sn, iv 1] [(.int (0 : Int32)), (.long ((b1.toInt64) &&& (255 : Int64))), (.long (0 : Int64))] _
      refine XS.lshl X64.here hx rfl (hb hby d4_73) rfl ?_
      show oS p e below T64 m 74 #[rv a0, iv 32, iv 1, iv sh, iv 4, jv 0, sn, iv 1] [(.long (((b1.toInt64) &&& (255 : Int64)) <<< ((0 : Int32) &&& 0x3f).toInt64)), (.long (0 : Int64))] _
      refine XS.lor X64.here hx rfl (hb hby d4_74) rfl ?_
      show oS p e below T64 m 75 #[rv a0, iv 32, iv 1, iv sh, iv 4, jv 0, sn, iv 1] [(.long ((0 : Int64) ||| (((b1.toInt64) &&& (255 : Int64)) <<< ((0 : Int32) &&& 0x3f).toInt64)))] _
      refine XS.lstore X64.here hx rfl (hb hby d4_75) rfl (l' := #[rv a0, iv 32, iv 1, iv sh, iv 4, jv ((0 : Int64) ||| (((b1.toInt64) &&& (255 : Int64)) <<< ((0 : Int32) &&& 0x3f).toInt64)), sn, iv 1]) rfl ?_
      exact kt)
    clear pre66
    obtain ⟨ac1, hm69, pre69⟩ : ∃ (ac1 : Int64), (ac1.toInt = 1 * (b1.toInt % 256)) ∧ ∀ t, oS p e below T64 m 77 #[rv a0, iv 32, iv 1, iv sh, iv 4, jv ac1, sn, iv 1] [] t → oE p e below s₁ m #[(.ref a0), (.int (32 : Int32))] 8 t := ⟨((0 : Int64) ||| (((b1.toInt64) &&& (255 : Int64)) <<< ((0 : Int32) &&& 0x3f).toInt64)), own_ac0 b1, pre68⟩
    clear pre68
    have pre70 : ∀ t, oS p e below T64 m 55 #[rv a0, iv 32, iv 1, iv sh, iv 4, jv ac1, sn, iv 2] [(.ref a0), (.long ac1)] t → oE p e below s₁ m #[(.ref a0), (.int (32 : Int32))] 8 t := fun t kt => pre69 t (by
      show oS p e below T64 m 77 #[rv a0, iv 32, iv 1, iv sh, iv 4, jv ac1, sn, iv 1] [] _
      refine XS.iinc X64.here hx rfl (hb hby d4_77) rfl (l' := #[rv a0, iv 32, iv 1, iv sh, iv 4, jv ac1, sn, iv 2]) rfl ?_
      show oS p e below T64 m 80 #[rv a0, iv 32, iv 1, iv sh, iv 4, jv ac1, sn, iv 2] [] _
      refine XS.goto X64.here hx rfl (pc0 := 80) (pc' := 45) rfl (hb hby d4_80) (by decide) (by decide) ?_
      show oS p e below T64 m 45 #[rv a0, iv 32, iv 1, iv sh, iv 4, jv ac1, sn, iv 2] [] _
      refine XS.iload X64.here hx rfl (hb hby d4_45) rfl ?_
      show oS p e below T64 m 47 #[rv a0, iv 32, iv 1, iv sh, iv 4, jv ac1, sn, iv 2] [(.int (2 : Int32))] _
      refine XS.iload X64.here hx rfl (hb hby d4_47) rfl ?_
      show oS p e below T64 m 49 #[rv a0, iv 32, iv 1, iv sh, iv 4, jv ac1, sn, iv 2] [(.int (4 : Int32)), (.int (2 : Int32))] _
      refine XS.icmpNo X64.here hx rfl (hb hby d4_49) rfl (tlt (by decide : (2 : Int32) < (4 : Int32))).2.1 ?_
      show oS p e below T64 m 52 #[rv a0, iv 32, iv 1, iv sh, iv 4, jv ac1, sn, iv 2] [] _
      refine XS.lload X64.here hx rfl (hb hby d4_52) rfl ?_
      show oS p e below T64 m 54 #[rv a0, iv 32, iv 1, iv sh, iv 4, jv ac1, sn, iv 2] [(.long ac1)] _
      refine XS.aloadN X64.here hx rfl (hb hby d4_54) rfl rfl ?_
      exact kt)
    clear pre69
    obtain ⟨T71, X71, e71, st71⟩ := getF X64 hx hZ hown (host := "") (Or.inl (hw _ (List.mem_of_getElem? (i := 13) rfl))) Via.refl e64 I_data (g := (mkF m 55 #[rv a0, iv 32, iv 1, iv sh, iv 4, jv ac1, sn, iv 2] [(.ref a0), (.long ac1)])) rfl rfl (hb hby d4_55)
    have pre72 : ∀ t, oS p e below T71 m 58 #[rv a0, iv 32, iv 1, iv sh, iv 4, jv ac1, sn, iv 2] [(.ref ab), (.long ac1)] t → oE p e below s₁ m #[(.ref a0), (.int (32 : Int32))] 8 t := fun t kt => pre70 t (st71 _ kt)
    clear pre70 st71
    have pre73 : ∀ t, oS p e below T71 m 60 #[rv a0, iv 32, iv 1, iv sh, iv 4, jv ac1, sn, iv 2] [(.int (2 : Int32)), (.ref ab), (.long ac1)] t → oE p e below s₁ m #[(.ref a0), (.int (32 : Int32))] 8 t := fun t kt => pre72 t (by
      show oS p e below T71 m 58 #[rv a0, iv 32, iv 1, iv sh, iv 4, jv ac1, sn, iv 2] [(.ref ab), (.long ac1)] _
      refine XS.iload X71.here hx rfl (hb hby d4_58) rfl ?_
      exact kt)
    clear pre72
    have tv74 := V1
    obtain ⟨cl74, Ar74, q74, S74, Ng74, H74, G74⟩ := tv74
    have hin74 : ¬ ((2 : Int32) < 0 ∨ cl74.slots.size ≤ ((2 : Int32)).toNatClampNeg) := inb_of S74 ⟨by decide, by decide⟩
    have hat74 : cl74.slots[((2 : Int32)).toNatClampNeg]? = some (.int b2) := Has.at H74 hin74 rfl
    have pre75 : ∀ t, oS p e below T71 m 77 #[rv a0, iv 32, iv 1, iv sh, iv 4, jv (ac1 ||| (((b2.toInt64) &&& (255 : Int64)) <<< ((8 : Int32) &&& 0x3f).toInt64)), sn, iv 2] [] t → oE p e below s₁ m #[(.ref a0), (.int (32 : Int32))] 8 t := fun t kt => pre73 t (by
      show oS p e below T71 m 60 #[rv a0, iv 32, iv 1, iv sh, iv 4, jv ac1, sn, iv 2] [(.int (2 : Int32)), (.ref ab), (.long ac1)] _
      refine X71.baloadBytes hx (j := (2 : Int32)) (v := (.int b2)) (by rw [e71]; exact Ar74.1) (State.isArrayOf_alike hZ.alike Ar74.2.1) Ar74.2.2 hin74 hat74 (g := (mkF m 60 #[rv a0, iv 32, iv 1, iv sh, iv 4, jv ac1, sn, iv 2] [(.int (2 : Int32)), (.ref ab), (.long ac1)])) rfl rfl (hb hby d4_60) _ ?_
      show oS p e below T71 m 61 #[rv a0, iv 32, iv 1, iv sh, iv 4, jv ac1, sn, iv 2] [(.int b2), (.long ac1)] _
      refine XS.i2l X71.here hx rfl (hb hby d4_61) rfl ?_
      show oS p e below T71 m 62 #[rv a0, iv 32, iv 1, iv sh, iv 4, jv ac1, sn, iv 2] [(.long (b2.toInt64)), (.long ac1)] _
      refine X71.ldc2Long hx hown (mvT hZ (hw _ (List.mem_of_getElem? (i := 42) rfl))) (g := (mkF m 62 #[rv a0, iv 32, iv 1, iv sh, iv 4, jv ac1, sn, iv 2] [(.long (b2.toInt64)), (.long ac1)])) rfl (hb hby d4_62) _ ?_
      show oS p e below T71 m 65 #[rv a0, iv 32, iv 1, iv sh, iv 4, jv ac1, sn, iv 2] [(.long (255 : Int64)), (.long (b2.toInt64)), (.long ac1)] _
      refine XS.land X71.here hx rfl (hb hby d4_65) rfl ?_
      show oS p e below T71 m 66 #[rv a0, iv 32, iv 1, iv sh, iv 4, jv ac1, sn, iv 2] [(.long ((b2.toInt64) &&& (255 : Int64))), (.long ac1)] _
      refine XS.bipush X71.here hx rfl (hb hby d4_66) ?_
      show oS p e below T71 m 68 #[rv a0, iv 32, iv 1, iv sh, iv 4, jv ac1, sn, iv 2] [(.int (8 : Int32)), (.long ((b2.toInt64) &&& (255 : Int64))), (.long ac1)] _
      refine XS.iload X71.here hx rfl (hb hby d4_68) rfl ?_
      show oS p e below T71 m 70 #[rv a0, iv 32, iv 1, iv sh, iv 4, jv ac1, sn, iv 2] [(.int (2 : Int32)), (.int (8 : Int32)), (.long ((b2.toInt64) &&& (255 : Int64))), (.long ac1)] _
      refine XS.iloadN X71.here hx rfl (hb hby d4_70) rfl ?_
      show oS p e below T71 m 71 #[rv a0, iv 32, iv 1, iv sh, iv 4, jv ac1, sn, iv 2] [(.int (1 : Int32)), (.int (2 : Int32)), (.int (8 : Int32)), (.long ((b2.toInt64) &&& (255 : Int64))), (.long ac1)] _
      refine XS.isub X71.here hx rfl (hb hby d4_71) rfl ?_
      show oS p e below T71 m 72 #[rv a0, iv 32, iv 1, iv sh, iv 4, jv ac1, sn, iv 2] [(.int (1 : Int32)), (.int (8 : Int32)), (.long ((b2.toInt64) &&& (255 : Int64))), (.long ac1)] _
      refine XS.imul X71.here hx rfl (hb hby d4_72) rfl ?_
      show oS p e below T71 m 73 #[rv a0, iv 32, iv 1, iv sh, iv 4, jv ac1, sn, iv 2] [(.int (8 : Int32)), (.long ((b2.toInt64) &&& (255 : Int64))), (.long ac1)] _
      refine XS.lshl X71.here hx rfl (hb hby d4_73) rfl ?_
      show oS p e below T71 m 74 #[rv a0, iv 32, iv 1, iv sh, iv 4, jv ac1, sn, iv 2] [(.long (((b2.toInt64) &&& (255 : Int64)) <<< ((8 : Int32) &&& 0x3f).toInt64)), (.long ac1)] _
      refine XS.lor X71.here hx rfl (hb hby d4_74) rfl ?_
      show oS p e below T71 m 75 #[rv a0, iv 32, iv 1, iv sh, iv 4, jv ac1, sn, iv 2] [(.long (ac1 ||| (((b2.toInt64) &&& (255 : Int64)) <<< ((8 : Int32) &&& 0x3f).toInt64)))] _
      refine XS.lstore X71.here hx rfl (hb hby d4_75) rfl (l' := #[rv a0, iv 32, iv 1, iv sh, iv 4, jv (ac1 ||| (((b2.toInt64) &&& (255 : Int64)) <<< ((8 : Int32) &&& 0x3f).toInt64)), sn, iv 2]) rfl ?_
      exact kt)
    clear pre73
    obtain ⟨ac2, hm76, pre76⟩ : ∃ (ac2 : Int64), (ac2.toInt = 1 * (b1.toInt % 256) + 256 * (b2.toInt % 256)) ∧ ∀ t, oS p e below T71 m 77 #[rv a0, iv 32, iv 1, iv sh, iv 4, jv ac2, sn, iv 2] [] t → oE p e below s₁ m #[(.ref a0), (.int (32 : Int32))] 8 t := ⟨(ac1 ||| (((b2.toInt64) &&& (255 : Int64)) <<< ((8 : Int32) &&& 0x3f).toInt64)), own_ac1 ac1 b2 _ hm69 (by omega), pre75⟩
    clear pre75
    have pre77 : ∀ t, oS p e below T71 m 55 #[rv a0, iv 32, iv 1, iv sh, iv 4, jv ac2, sn, iv 3] [(.ref a0), (.long ac2)] t → oE p e below s₁ m #[(.ref a0), (.int (32 : Int32))] 8 t := fun t kt => pre76 t (by
      show oS p e below T71 m 77 #[rv a0, iv 32, iv 1, iv sh, iv 4, jv ac2, sn, iv 2] [] _
      refine XS.iinc X71.here hx rfl (hb hby d4_77) rfl (l' := #[rv a0, iv 32, iv 1, iv sh, iv 4, jv ac2, sn, iv 3]) rfl ?_
      show oS p e below T71 m 80 #[rv a0, iv 32, iv 1, iv sh, iv 4, jv ac2, sn, iv 3] [] _
      refine XS.goto X71.here hx rfl (pc0 := 80) (pc' := 45) rfl (hb hby d4_80) (by decide) (by decide) ?_
      show oS p e below T71 m 45 #[rv a0, iv 32, iv 1, iv sh, iv 4, jv ac2, sn, iv 3] [] _
      refine XS.iload X71.here hx rfl (hb hby d4_45) rfl ?_
      show oS p e below T71 m 47 #[rv a0, iv 32, iv 1, iv sh, iv 4, jv ac2, sn, iv 3] [(.int (3 : Int32))] _
      refine XS.iload X71.here hx rfl (hb hby d4_47) rfl ?_
      show oS p e below T71 m 49 #[rv a0, iv 32, iv 1, iv sh, iv 4, jv ac2, sn, iv 3] [(.int (4 : Int32)), (.int (3 : Int32))] _
      refine XS.icmpNo X71.here hx rfl (hb hby d4_49) rfl (tlt (by decide : (3 : Int32) < (4 : Int32))).2.1 ?_
      show oS p e below T71 m 52 #[rv a0, iv 32, iv 1, iv sh, iv 4, jv ac2, sn, iv 3] [] _
      refine XS.lload X71.here hx rfl (hb hby d4_52) rfl ?_
      show oS p e below T71 m 54 #[rv a0, iv 32, iv 1, iv sh, iv 4, jv ac2, sn, iv 3] [(.long ac2)] _
      refine XS.aloadN X71.here hx rfl (hb hby d4_54) rfl rfl ?_
      exact kt)
    clear pre76
    obtain ⟨T78, X78, e78, st78⟩ := getF X71 hx hZ hown (host := "") (Or.inl (hw _ (List.mem_of_getElem? (i := 13) rfl))) Via.refl e71 I_data (g := (mkF m 55 #[rv a0, iv 32, iv 1, iv sh, iv 4, jv ac2, sn, iv 3] [(.ref a0), (.long ac2)])) rfl rfl (hb hby d4_55)
    have pre79 : ∀ t, oS p e below T78 m 58 #[rv a0, iv 32, iv 1, iv sh, iv 4, jv ac2, sn, iv 3] [(.ref ab), (.long ac2)] t → oE p e below s₁ m #[(.ref a0), (.int (32 : Int32))] 8 t := fun t kt => pre77 t (st78 _ kt)
    clear pre77 st78
    have pre80 : ∀ t, oS p e below T78 m 60 #[rv a0, iv 32, iv 1, iv sh, iv 4, jv ac2, sn, iv 3] [(.int (3 : Int32)), (.ref ab), (.long ac2)] t → oE p e below s₁ m #[(.ref a0), (.int (32 : Int32))] 8 t := fun t kt => pre79 t (by
      show oS p e below T78 m 58 #[rv a0, iv 32, iv 1, iv sh, iv 4, jv ac2, sn, iv 3] [(.ref ab), (.long ac2)] _
      refine XS.iload X78.here hx rfl (hb hby d4_58) rfl ?_
      exact kt)
    clear pre79
    have tv81 := V1
    obtain ⟨cl81, Ar81, q81, S81, Ng81, H81, G81⟩ := tv81
    have hin81 : ¬ ((3 : Int32) < 0 ∨ cl81.slots.size ≤ ((3 : Int32)).toNatClampNeg) := inb_of S81 ⟨by decide, by decide⟩
    have hat81 : cl81.slots[((3 : Int32)).toNatClampNeg]? = some (.int b3) := Has.at H81 hin81 rfl
    have pre82 : ∀ t, oS p e below T78 m 77 #[rv a0, iv 32, iv 1, iv sh, iv 4, jv (ac2 ||| (((b3.toInt64) &&& (255 : Int64)) <<< ((16 : Int32) &&& 0x3f).toInt64)), sn, iv 3] [] t → oE p e below s₁ m #[(.ref a0), (.int (32 : Int32))] 8 t := fun t kt => pre80 t (by
      show oS p e below T78 m 60 #[rv a0, iv 32, iv 1, iv sh, iv 4, jv ac2, sn, iv 3] [(.int (3 : Int32)), (.ref ab), (.long ac2)] _
      refine X78.baloadBytes hx (j := (3 : Int32)) (v := (.int b3)) (by rw [e78]; exact Ar81.1) (State.isArrayOf_alike hZ.alike Ar81.2.1) Ar81.2.2 hin81 hat81 (g := (mkF m 60 #[rv a0, iv 32, iv 1, iv sh, iv 4, jv ac2, sn, iv 3] [(.int (3 : Int32)), (.ref ab), (.long ac2)])) rfl rfl (hb hby d4_60) _ ?_
      show oS p e below T78 m 61 #[rv a0, iv 32, iv 1, iv sh, iv 4, jv ac2, sn, iv 3] [(.int b3), (.long ac2)] _
      refine XS.i2l X78.here hx rfl (hb hby d4_61) rfl ?_
      show oS p e below T78 m 62 #[rv a0, iv 32, iv 1, iv sh, iv 4, jv ac2, sn, iv 3] [(.long (b3.toInt64)), (.long ac2)] _
      refine X78.ldc2Long hx hown (mvT hZ (hw _ (List.mem_of_getElem? (i := 42) rfl))) (g := (mkF m 62 #[rv a0, iv 32, iv 1, iv sh, iv 4, jv ac2, sn, iv 3] [(.long (b3.toInt64)), (.long ac2)])) rfl (hb hby d4_62) _ ?_
      show oS p e below T78 m 65 #[rv a0, iv 32, iv 1, iv sh, iv 4, jv ac2, sn, iv 3] [(.long (255 : Int64)), (.long (b3.toInt64)), (.long ac2)] _
      refine XS.land X78.here hx rfl (hb hby d4_65) rfl ?_
      show oS p e below T78 m 66 #[rv a0, iv 32, iv 1, iv sh, iv 4, jv ac2, sn, iv 3] [(.long ((b3.toInt64) &&& (255 : Int64))), (.long ac2)] _
      refine XS.bipush X78.here hx rfl (hb hby d4_66) ?_
      show oS p e below T78 m 68 #[rv a0, iv 32, iv 1, iv sh, iv 4, jv ac2, sn, iv 3] [(.int (8 : Int32)), (.long ((b3.toInt64) &&& (255 : Int64))), (.long ac2)] _
      refine XS.iload X78.here hx rfl (hb hby d4_68) rfl ?_
      show oS p e below T78 m 70 #[rv a0, iv 32, iv 1, iv sh, iv 4, jv ac2, sn, iv 3] [(.int (3 : Int32)), (.int (8 : Int32)), (.long ((b3.toInt64) &&& (255 : Int64))), (.long ac2)] _
      refine XS.iloadN X78.here hx rfl (hb hby d4_70) rfl ?_
      show oS p e below T78 m 71 #[rv a0, iv 32, iv 1, iv sh, iv 4, jv ac2, sn, iv 3] [(.int (1 : Int32)), (.int (3 : Int32)), (.int (8 : Int32)), (.long ((b3.toInt64) &&& (255 : Int64))), (.long ac2)] _
      refine XS.isub X78.here hx rfl (hb hby d4_71) rfl ?_
      show oS p e below T78 m 72 #[rv a0, iv 32, iv 1, iv sh, iv 4, jv ac2, sn, iv 3] [(.int (2 : Int32)), (.int (8 : Int32)), (.long ((b3.toInt64) &&& (255 : Int64))), (.long ac2)] _
      refine XS.imul X78.here hx rfl (hb hby d4_72) rfl ?_
      show oS p e below T78 m 73 #[rv a0, iv 32, iv 1, iv sh, iv 4, jv ac2, sn, iv 3] [(.int (16 : Int32)), (.long ((b3.toInt64) &&& (255 : Int64))), (.long ac2)] _
      refine XS.lshl X78.here hx rfl (hb hby d4_73) rfl ?_
      show oS p e below T78 m 74 #[rv a0, iv 32, iv 1, iv sh, iv 4, jv ac2, sn, iv 3] [(.long (((b3.toInt64) &&& (255 : Int64)) <<< ((16 : Int32) &&& 0x3f).toInt64)), (.long ac2)] _
      refine XS.lor X78.here hx rfl (hb hby d4_74) rfl ?_
      show oS p e below T78 m 75 #[rv a0, iv 32, iv 1, iv sh, iv 4, jv ac2, sn, iv 3] [(.long (ac2 ||| (((b3.toInt64) &&& (255 : Int64)) <<< ((16 : Int32) &&& 0x3f).toInt64)))] _
      refine XS.lstore X78.here hx rfl (hb hby d4_75) rfl (l' := #[rv a0, iv 32, iv 1, iv sh, iv 4, jv (ac2 ||| (((b3.toInt64) &&& (255 : Int64)) <<< ((16 : Int32) &&& 0x3f).toInt64)), sn, iv 3]) rfl ?_
      exact kt)
    clear pre80
    obtain ⟨ac3, hm83, pre83⟩ : ∃ (ac3 : Int64), (ac3.toInt = 1 * (b1.toInt % 256) + 256 * (b2.toInt % 256) + 65536 * (b3.toInt % 256)) ∧ ∀ t, oS p e below T78 m 77 #[rv a0, iv 32, iv 1, iv sh, iv 4, jv ac3, sn, iv 3] [] t → oE p e below s₁ m #[(.ref a0), (.int (32 : Int32))] 8 t := ⟨(ac2 ||| (((b3.toInt64) &&& (255 : Int64)) <<< ((16 : Int32) &&& 0x3f).toInt64)), own_ac2 ac2 b3 _ hm76 (by omega), pre82⟩
    clear pre82
    have pre84 : ∀ t, oS p e below T78 m 94 #[rv a0, iv 32, iv 1, iv sh, iv 4, jv ac3, sn, iv 4] [(.int ((((ac3.toUInt64 >>> (sh &&& 0x3f).toInt64.toUInt64).toInt64) &&& (((1 : Int64) <<< ((32 : Int32) &&& 0x3f).toInt64) - (1 : Int64))).toInt32))] t → oE p e below s₁ m #[(.ref a0), (.int (32 : Int32))] 8 t := fun t kt => pre83 t (by
      show oS p e below T78 m 77 #[rv a0, iv 32, iv 1, iv sh, iv 4, jv ac3, sn, iv 3] [] _
      refine XS.iinc X78.here hx rfl (hb hby d4_77) rfl (l' := #[rv a0, iv 32, iv 1, iv sh, iv 4, jv ac3, sn, iv 4]) rfl ?_
      show oS p e below T78 m 80 #[rv a0, iv 32, iv 1, iv sh, iv 4, jv ac3, sn, iv 4] [] _
      refine XS.goto X78.here hx rfl (pc0 := 80) (pc' := 45) rfl (hb hby d4_80) (by decide) (by decide) ?_
      show oS p e below T78 m 45 #[rv a0, iv 32, iv 1, iv sh, iv 4, jv ac3, sn, iv 4] [] _
      refine XS.iload X78.here hx rfl (hb hby d4_45) rfl ?_
      show oS p e below T78 m 47 #[rv a0, iv 32, iv 1, iv sh, iv 4, jv ac3, sn, iv 4] [(.int (4 : Int32))] _
      refine XS.iload X78.here hx rfl (hb hby d4_47) rfl ?_
      show oS p e below T78 m 49 #[rv a0, iv 32, iv 1, iv sh, iv 4, jv ac3, sn, iv 4] [(.int (4 : Int32)), (.int (4 : Int32))] _
      refine XS.icmpYes X78.here hx rfl (pc0 := 49) (pc' := 83) rfl (hb hby d4_49) rfl (flt (by decide : ¬ ((4 : Int32) < (4 : Int32)))).2.1 (by decide) (by decide) ?_
      show oS p e below T78 m 83 #[rv a0, iv 32, iv 1, iv sh, iv 4, jv ac3, sn, iv 4] [] _
      refine XS.lload X78.here hx rfl (hb hby d4_83) rfl ?_
      show oS p e below T78 m 85 #[rv a0, iv 32, iv 1, iv sh, iv 4, jv ac3, sn, iv 4] [(.long ac3)] _
      refine XS.iloadN X78.here hx rfl (hb hby d4_85) rfl ?_
      show oS p e below T78 m 86 #[rv a0, iv 32, iv 1, iv sh, iv 4, jv ac3, sn, iv 4] [(.int sh), (.long ac3)] _
      refine XS.lushr X78.here hx rfl (hb hby d4_86) rfl ?_
      show oS p e below T78 m 87 #[rv a0, iv 32, iv 1, iv sh, iv 4, jv ac3, sn, iv 4] [(.long ((ac3.toUInt64 >>> (sh &&& 0x3f).toInt64.toUInt64).toInt64))] _
      refine XS.lconst X78.here hx rfl (hb hby d4_87) ?_
      show oS p e below T78 m 88 #[rv a0, iv 32, iv 1, iv sh, iv 4, jv ac3, sn, iv 4] [(.long (1 : Int64)), (.long ((ac3.toUInt64 >>> (sh &&& 0x3f).toInt64.toUInt64).toInt64))] _
      refine XS.iloadN X78.here hx rfl (hb hby d4_88) rfl ?_
      show oS p e below T78 m 89 #[rv a0, iv 32, iv 1, iv sh, iv 4, jv ac3, sn, iv 4] [(.int (32 : Int32)), (.long (1 : Int64)), (.long ((ac3.toUInt64 >>> (sh &&& 0x3f).toInt64.toUInt64).toInt64))] _
      refine XS.lshl X78.here hx rfl (hb hby d4_89) rfl ?_
      show oS p e below T78 m 90 #[rv a0, iv 32, iv 1, iv sh, iv 4, jv ac3, sn, iv 4] [(.long ((1 : Int64) <<< ((32 : Int32) &&& 0x3f).toInt64)), (.long ((ac3.toUInt64 >>> (sh &&& 0x3f).toInt64.toUInt64).toInt64))] _
      refine XS.lconst X78.here hx rfl (hb hby d4_90) ?_
      show oS p e below T78 m 91 #[rv a0, iv 32, iv 1, iv sh, iv 4, jv ac3, sn, iv 4] [(.long (1 : Int64)), (.long ((1 : Int64) <<< ((32 : Int32) &&& 0x3f).toInt64)), (.long ((ac3.toUInt64 >>> (sh &&& 0x3f).toInt64.toUInt64).toInt64))] _
      refine XS.lsub X78.here hx rfl (hb hby d4_91) rfl ?_
      show oS p e below T78 m 92 #[rv a0, iv 32, iv 1, iv sh, iv 4, jv ac3, sn, iv 4] [(.long (((1 : Int64) <<< ((32 : Int32) &&& 0x3f).toInt64) - (1 : Int64))), (.long ((ac3.toUInt64 >>> (sh &&& 0x3f).toInt64.toUInt64).toInt64))] _
      refine XS.land X78.here hx rfl (hb hby d4_92) rfl ?_
      show oS p e below T78 m 93 #[rv a0, iv 32, iv 1, iv sh, iv 4, jv ac3, sn, iv 4] [(.long (((ac3.toUInt64 >>> (sh &&& 0x3f).toInt64.toUInt64).toInt64) &&& (((1 : Int64) <<< ((32 : Int32) &&& 0x3f).toInt64) - (1 : Int64))))] _
      refine XS.l2i X78.here hx rfl (hb hby d4_93) rfl ?_
      exact kt)
    clear pre83
    have hr0 : ((((ac3.toUInt64 >>> (sh &&& 0x3f).toInt64.toUInt64).toInt64) &&& (((1 : Int64) <<< ((32 : Int32) &&& 0x3f).toInt64) - (1 : Int64))).toInt32) = Int32.ofInt ((1 * (b0.toInt % 256) + 256 * (b1.toInt % 256) + 65536 * (b2.toInt % 256) + 16777216 * (b3.toInt % 256)) / 2 ^ ps.toInt.toNat) := own_fin ac3 sh ps (1 * (b0.toInt % 256) + 256 * (b1.toInt % 256) + 65536 * (b2.toInt % 256) + 16777216 * (b3.toInt % 256)) 1 256 (by decide) hps.1 hk1 hm53 (by omega) (by have q := hm83; omega)
    rw [hr0] at pre84
    obtain ⟨fs, hr, hrun, hended, hW, hsame⟩ := X78.leave (v := some (.int (Int32.ofInt ((1 * (b0.toInt % 256) + 256 * (b1.toInt % 256) + 65536 * (b2.toInt % 256) + 16777216 * (b3.toInt % 256)) / 2 ^ ps.toInt.toNat)))) (fun h => by rw [Bd.returns] at h; cases h)
    refine ⟨_, _, pre84 _ ?_, hrun, hended, _, _, rfl, ?_, ⟨_, rfl⟩, hW, hsame.mono (by decide) (by decide)⟩
    · show oS p e below T78 m 94 #[rv a0, iv 32, iv 1, iv sh, iv 4, jv ac3, sn, iv 4] [(.int (Int32.ofInt ((1 * (b0.toInt % 256) + 256 * (b1.toInt % 256) + 65536 * (b2.toInt % 256) + 16777216 * (b3.toInt % 256)) / 2 ^ ps.toInt.toNat)))] _
      exact retI X78 hx Bd.returns (hb hby d4_94) hr
    · show Q4p4 Z a0 ab sz ps ed kb b0 b1 b2 b3 h0 n0 _ T78.heap _
      rw [e78]
      exact ⟨rfl, N59, rfl⟩
  · have hk2 : ps.toInt / 8 = 2 := hk0.trans (by decide)
    have pre85 : ∀ t, oS p e below T2 m 9 #[rv a0, iv 32, iv 2, un, un, un, un, un] [(.ref a0)] t → oE p e below s₁ m #[(.ref a0), (.int (32 : Int32))] 8 t := fun t kt => pre5 t (by
      show oS p e below T2 m 8 #[rv a0, iv 32, iv 2, un, un, un, un, un] [] _
      refine XS.aloadN X2.here hx rfl (hb hby d4_8) rfl rfl ?_
      exact kt)
    clear pre5
    obtain ⟨T86, X86, e86, st86⟩ := getF X2 hx hZ hown (host := "") (Or.inl (hw _ (List.mem_of_getElem? (i := 23) rfl))) Via.refl e2 I_position (g := (mkF m 9 #[rv a0, iv 32, iv 2, un, un, un, un, un] [(.ref a0)])) rfl rfl (hb hby d4_9)
    have pre87 : ∀ t, oS p e below T86 m 12 #[rv a0, iv 32, iv 2, un, un, un, un, un] [(.long ps)] t → oE p e below s₁ m #[(.ref a0), (.int (32 : Int32))] 8 t := fun t kt => pre85 t (st86 _ kt)
    clear pre85 st86
    have pre88 : ∀ t, oS p e below T86 m 18 #[rv a0, iv 32, iv 2, iv ((ps &&& (7 : Int64)).toInt32), un, un, un, un] [] t → oE p e below s₁ m #[(.ref a0), (.int (32 : Int32))] 8 t := fun t kt => pre87 t (by
      show oS p e below T86 m 12 #[rv a0, iv 32, iv 2, un, un, un, un, un] [(.long ps)] _
      refine X86.ldc2Long hx hown (mvT hZ (hw _ (List.mem_of_getElem? (i := 32) rfl))) (g := (mkF m 12 #[rv a0, iv 32, iv 2, un, un, un, un, un] [(.long ps)])) rfl (hb hby d4_12) _ ?_
      show oS p e below T86 m 15 #[rv a0, iv 32, iv 2, un, un, un, un, un] [(.long (7 : Int64)), (.long ps)] _
      refine XS.land X86.here hx rfl (hb hby d4_15) rfl ?_
      show oS p e below T86 m 16 #[rv a0, iv 32, iv 2, un, un, un, un, un] [(.long (ps &&& (7 : Int64)))] _
      refine XS.l2i X86.here hx rfl (hb hby d4_16) rfl ?_
      show oS p e below T86 m 17 #[rv a0, iv 32, iv 2, un, un, un, un, un] [(.int ((ps &&& (7 : Int64)).toInt32))] _
      refine XS.istoreN X86.here hx rfl (hb hby d4_17) rfl (l' := #[rv a0, iv 32, iv 2, iv ((ps &&& (7 : Int64)).toInt32), un, un, un, un]) rfl ?_
      exact kt)
    clear pre87
    obtain ⟨sh, hm89, pre89⟩ : ∃ (sh : Int32), (sh.toInt = ps.toInt % 8) ∧ ∀ t, oS p e below T86 m 18 #[rv a0, iv 32, iv 2, iv sh, un, un, un, un] [] t → oE p e below s₁ m #[(.ref a0), (.int (32 : Int32))] 8 t := ⟨((ps &&& (7 : Int64)).toInt32), own_sh ps hps, pre88⟩
    clear pre88
    have pre90 : ∀ t, oS p e below T86 m 19 #[rv a0, iv 32, iv 2, iv sh, un, un, un, un] [(.ref a0)] t → oE p e below s₁ m #[(.ref a0), (.int (32 : Int32))] 8 t := fun t kt => pre89 t (by
      show oS p e below T86 m 18 #[rv a0, iv 32, iv 2, iv sh, un, un, un, un] [] _
      refine XS.aloadN X86.here hx rfl (hb hby d4_18) rfl rfl ?_
      exact kt)
    clear pre89
    obtain ⟨T91, X91, e91, st91⟩ := getF X86 hx hZ hown (host := "") (Or.inl (hw _ (List.mem_of_getElem? (i := 13) rfl))) Via.refl e86 I_data (g := (mkF m 19 #[rv a0, iv 32, iv 2, iv sh, un, un, un, un] [(.ref a0)])) rfl rfl (hb hby d4_19)
    have pre92 : ∀ t, oS p e below T91 m 22 #[rv a0, iv 32, iv 2, iv sh, un, un, un, un] [(.ref ab)] t → oE p e below s₁ m #[(.ref a0), (.int (32 : Int32))] 8 t := fun t kt => pre90 t (st91 _ kt)
    clear pre90 st91
    have tv93 := V1
    obtain ⟨cl93, Ar93, q93, S93, Ng93, H93, G93⟩ := tv93
    have pre94 : ∀ t, oS p e below T91 m 34 #[rv a0, iv 32, iv 2, iv sh, un, un, un, un] [(.int ((2 : Int32) + (((sh + (32 : Int32)) + (7 : Int32)) / (8 : Int32)))), (.int (4 : Int32))] t → oE p e below s₁ m #[(.ref a0), (.int (32 : Int32))] 8 t := fun t kt => pre92 t (by
      show oS p e below T91 m 22 #[rv a0, iv 32, iv 2, iv sh, un, un, un, un] [(.ref ab)] _
      refine X91.arraylength hx (by rw [e91]; exact Ar93.1) (State.isArrayOf_alike hZ.alike Ar93.2.1) (g := (mkF m 22 #[rv a0, iv 32, iv 2, iv sh, un, un, un, un] [(.ref ab)])) rfl rfl (hb hby d4_22) _ ?_
      rw [len_of S93 Ng93]
      show oS p e below T91 m 23 #[rv a0, iv 32, iv 2, iv sh, un, un, un, un] [(.int (4 : Int32))] _
      refine XS.iloadN X91.here hx rfl (hb hby d4_23) rfl ?_
      show oS p e below T91 m 24 #[rv a0, iv 32, iv 2, iv sh, un, un, un, un] [(.int (2 : Int32)), (.int (4 : Int32))] _
      refine XS.iloadN X91.here hx rfl (hb hby d4_24) rfl ?_
      show oS p e below T91 m 25 #[rv a0, iv 32, iv 2, iv sh, un, un, un, un] [(.int sh), (.int (2 : Int32)), (.int (4 : Int32))] _
      refine XS.iloadN X91.here hx rfl (hb hby d4_25) rfl ?_
      show oS p e below T91 m 26 #[rv a0, iv 32, iv 2, iv sh, un, un, un, un] [(.int (32 : Int32)), (.int sh), (.int (2 : Int32)), (.int (4 : Int32))] _
      refine XS.iadd X91.here hx rfl (hb hby d4_26) rfl ?_
      show oS p e below T91 m 27 #[rv a0, iv 32, iv 2, iv sh, un, un, un, un] [(.int (sh + (32 : Int32))), (.int (2 : Int32)), (.int (4 : Int32))] _
      refine XS.bipush X91.here hx rfl (hb hby d4_27) ?_
      show oS p e below T91 m 29 #[rv a0, iv 32, iv 2, iv sh, un, un, un, un] [(.int (7 : Int32)), (.int (sh + (32 : Int32))), (.int (2 : Int32)), (.int (4 : Int32))] _
      refine XS.iadd X91.here hx rfl (hb hby d4_29) rfl ?_
      show oS p e below T91 m 30 #[rv a0, iv 32, iv 2, iv sh, un, un, un, un] [(.int ((sh + (32 : Int32)) + (7 : Int32))), (.int (2 : Int32)), (.int (4 : Int32))] _
      refine XS.bipush X91.here hx rfl (hb hby d4_30) ?_
      show oS p e below T91 m 32 #[rv a0, iv 32, iv 2, iv sh, un, un, un, un] [(.int (8 : Int32)), (.int ((sh + (32 : Int32)) + (7 : Int32))), (.int (2 : Int32)), (.int (4 : Int32))] _
      refine XS.idiv X91.here hx rfl (hb hby d4_32) rfl (by decide) ?_
      show oS p e below T91 m 33 #[rv a0, iv 32, iv 2, iv sh, un, un, un, un] [(.int (((sh + (32 : Int32)) + (7 : Int32)) / (8 : Int32))), (.int (2 : Int32)), (.int (4 : Int32))] _
      refine XS.iadd X91.here hx rfl (hb hby d4_33) rfl ?_
      exact kt)
    clear pre92
    obtain ⟨_, _, ⟨T95, L95, k95, n95⟩, -, X95, ⟨Lc95, hQ95, l95, y95, z95⟩, st95⟩ := Jvm.LawKit.callS X91 hx (y := (⟨"java/lang/Math", "min", "(II)I"⟩ : MethodName)) hown (mvT hZ (hw _ (List.mem_of_getElem? (i := 33) rfl))) (mvT hZ (hw _ (List.mem_of_getElem? (i := 34) rfl))) (mvT hZ (hw _ (List.mem_of_getElem? (i := 35) rfl))) (mvT hZ (hw _ (List.mem_of_getElem? (i := 36) rfl))) (by decide) (backOf (W := 0) (rm5 l Z av hw [] (4 : Int32) ((2 : Int32) + (((sh + (32 : Int32)) + (7 : Int32)) / (8 : Int32)))  h0 n0 Z0 ) hZ (hw _ (List.mem_of_getElem? (i := 36) rfl)) (hw _ (List.mem_of_getElem? (i := 35) rfl)) (by decide) (by decide)) (g := (mkF m 34 #[rv a0, iv 32, iv 2, iv sh, un, un, un, un] [(.int ((2 : Int32) + (((sh + (32 : Int32)) + (7 : Int32)) / (8 : Int32)))), (.int (4 : Int32))])) rfl (by rw [hml]; rfl) (argsL := [(.int (4 : Int32)), (.int ((2 : Int32) + (((sh + (32 : Int32)) + (7 : Int32)) / (8 : Int32))))]) (rest := []) (lenOf pd__II_I rfl) rfl (by show 2 * 0 + _ ≤ _; exact Nat.le_of_eq rfl) (hb hby d4_34) (fun _ _ => ⟨rfl, e91, (by decide : 0 + 0 ≤ _), (by decide : 0 + 0 ≤ _)⟩)
    dsimp only [Pt.U, Pt.locs, Pt.cells, Pt.slots] at X95 l95 y95 z95 st95 hQ95
    rw [l95, y95, z95] at X95
    clear l95 y95 z95
    obtain ⟨rfl, N95q, e95⟩ := hQ95
    have N95 := Fr.app N0 N95q
    have pre96 : ∀ t, oS p e below T95 m 37 #[rv a0, iv 32, iv 2, iv sh, un, un, un, un] [(.int (f_min (4 : Int32) ((2 : Int32) + (((sh + (32 : Int32)) + (7 : Int32)) / (8 : Int32)))))] t → oE p e below s₁ m #[(.ref a0), (.int (32 : Int32))] 8 t := fun t kt => pre94 t (st95 _ kt)
    clear pre94 st95
    have pre97 : ∀ t, oS p e below T95 m 39 #[rv a0, iv 32, iv 2, iv sh, iv (f_min (4 : Int32) ((2 : Int32) + (((sh + (32 : Int32)) + (7 : Int32)) / (8 : Int32)))), un, un, un] [] t → oE p e below s₁ m #[(.ref a0), (.int (32 : Int32))] 8 t := fun t kt => pre96 t (by
      show oS p e below T95 m 37 #[rv a0, iv 32, iv 2, iv sh, un, un, un, un] [(.int (f_min (4 : Int32) ((2 : Int32) + (((sh + (32 : Int32)) + (7 : Int32)) / (8 : Int32)))))] _
      refine XS.istore X95.here hx rfl (hb hby d4_37) rfl (l' := #[rv a0, iv 32, iv 2, iv sh, iv (f_min (4 : Int32) ((2 : Int32) + (((sh + (32 : Int32)) + (7 : Int32)) / (8 : Int32)))), un, un, un]) rfl ?_
      exact kt)
    clear pre96
    obtain ⟨en, hm98, pre98⟩ : ∃ (en : Int32), (en = (4 : Int32)) ∧ ∀ t, oS p e below T95 m 39 #[rv a0, iv 32, iv 2, iv sh, iv en, un, un, un] [] t → oE p e below s₁ m #[(.ref a0), (.int (32 : Int32))] 8 t := ⟨(f_min (4 : Int32) ((2 : Int32) + (((sh + (32 : Int32)) + (7 : Int32)) / (8 : Int32)))), own_enG (4 : Int32) (2 : Int32) sh (by decide) (by decide) hm89, pre97⟩
    clear pre97
    subst hm98
    have pre99 : ∀ t, oS p e below T95 m 55 #[rv a0, iv 32, iv 2, iv sh, iv 4, jv 0, sn, iv 2] [(.ref a0), (.long (0 : Int64))] t → oE p e below s₁ m #[(.ref a0), (.int (32 : Int32))] 8 t := fun t kt => pre98 t (by
      show oS p e below T95 m 39 #[rv a0, iv 32, iv 2, iv sh, iv 4, un, un, un] [] _
      refine XS.lconst X95.here hx rfl (hb hby d4_39) ?_
      show oS p e below T95 m 40 #[rv a0, iv 32, iv 2, iv sh, iv 4, un, un, un] [(.long (0 : Int64))] _
      refine XS.lstore X95.here hx rfl (hb hby d4_40) rfl (l' := #[rv a0, iv 32, iv 2, iv sh, iv 4, jv 0, sn, un]) rfl ?_
      show oS p e below T95 m 42 #[rv a0, iv 32, iv 2, iv sh, iv 4, jv 0, sn, un] [] _
      refine XS.iloadN X95.here hx rfl (hb hby d4_42) rfl ?_
      show oS p e below T95 m 43 #[rv a0, iv 32, iv 2, iv sh, iv 4, jv 0, sn, un] [(.int (2 : Int32))] _
      refine XS.istore X95.here hx rfl (hb hby d4_43) rfl (l' := #[rv a0, iv 32, iv 2, iv sh, iv 4, jv 0, sn, iv 2]) rfl ?_
      show oS p e below T95 m 45 #[rv a0, iv 32, iv 2, iv sh, iv 4, jv 0, sn, iv 2] [] _
      refine XS.iload X95.here hx rfl (hb hby d4_45) rfl ?_
      show oS p e below T95 m 47 #[rv a0, iv 32, iv 2, iv sh, iv 4, jv 0, sn, iv 2] [(.int (2 : Int32))] _
      refine XS.iload X95.here hx rfl (hb hby d4_47) rfl ?_
      show oS p e below T95 m 49 #[rv a0, iv 32, iv 2, iv sh, iv 4, jv 0, sn, iv 2] [(.int (4 : Int32)), (.int (2 : Int32))] _
      refine XS.icmpNo X95.here hx rfl (hb hby d4_49) rfl (tlt (by decide : (2 : Int32) < (4 : Int32))).2.1 ?_
      show oS p e below T95 m 52 #[rv a0, iv 32, iv 2, iv sh, iv 4, jv 0, sn, iv 2] [] _
      refine XS.lload X95.here hx rfl (hb hby d4_52) rfl ?_
      show oS p e below T95 m 54 #[rv a0, iv 32, iv 2, iv sh, iv 4, jv 0, sn, iv 2] [(.long (0 : Int64))] _
      refine XS.aloadN X95.here hx rfl (hb hby d4_54) rfl rfl ?_
      exact kt)
    clear pre98
    obtain ⟨T100, X100, e100, st100⟩ := getF X95 hx hZ hown (host := "") (Or.inl (hw _ (List.mem_of_getElem? (i := 13) rfl))) Via.refl e95 I_data (g := (mkF m 55 #[rv a0, iv 32, iv 2, iv sh, iv 4, jv 0, sn, iv 2] [(.ref a0), (.long (0 : Int64))])) rfl rfl (hb hby d4_55)
    have pre101 : ∀ t, oS p e below T100 m 58 #[rv a0, iv 32, iv 2, iv sh, iv 4, jv 0, sn, iv 2] [(.ref ab), (.long (0 : Int64))] t → oE p e below s₁ m #[(.ref a0), (.int (32 : Int32))] 8 t := fun t kt => pre99 t (st100 _ kt)
    clear pre99 st100
    have pre102 : ∀ t, oS p e below T100 m 60 #[rv a0, iv 32, iv 2, iv sh, iv 4, jv 0, sn, iv 2] [(.int (2 : Int32)), (.ref ab), (.long (0 : Int64))] t → oE p e below s₁ m #[(.ref a0), (.int (32 : Int32))] 8 t := fun t kt => pre101 t (by
      show oS p e below T100 m 58 #[rv a0, iv 32, iv 2, iv sh, iv 4, jv 0, sn, iv 2] [(.ref ab), (.long (0 : Int64))] _
      refine XS.iload X100.here hx rfl (hb hby d4_58) rfl ?_
      exact kt)
    clear pre101
    have tv103 := V1
    obtain ⟨cl103, Ar103, q103, S103, Ng103, H103, G103⟩ := tv103
    have hin103 : ¬ ((2 : Int32) < 0 ∨ cl103.slots.size ≤ ((2 : Int32)).toNatClampNeg) := inb_of S103 ⟨by decide, by decide⟩
    have hat103 : cl103.slots[((2 : Int32)).toNatClampNeg]? = some (.int b2) := Has.at H103 hin103 rfl
    have pre104 : ∀ t, oS p e below T100 m 77 #[rv a0, iv 32, iv 2, iv sh, iv 4, jv ((0 : Int64) ||| (((b2.toInt64) &&& (255 : Int64)) <<< ((0 : Int32) &&& 0x3f).toInt64)), sn, iv 2] [] t → oE p e below s₁ m #[(.ref a0), (.int (32 : Int32))] 8 t := fun t kt => pre102 t (by
      show oS p e below T100 m 60 #[rv a0, iv 32, iv 2, iv sh, iv 4, jv 0, sn, iv 2] [(.int (2 : Int32)), (.ref ab), (.long (0 : Int64))] _
      refine X100.baloadBytes hx (j := (2 : Int32)) (v := (.int b2)) (by rw [e100]; exact Ar103.1) (State.isArrayOf_alike hZ.alike Ar103.2.1) Ar103.2.2 hin103 hat103 (g := (mkF m 60 #[rv a0, iv 32, iv 2, iv sh, iv 4, jv 0, sn, iv 2] [(.int (2 : Int32)), (.ref ab), (.long (0 : Int64))])) rfl rfl (hb hby d4_60) _ ?_
      show oS p e below T100 m 61 #[rv a0, iv 32, iv 2, iv sh, iv 4, jv 0, sn, iv 2] [(.int b2), (.long (0 : Int64))] _
      refine XS.i2l X100.here hx rfl (hb hby d4_61) rfl ?_
      show oS p e below T100 m 62 #[rv a0, iv 32, iv 2, iv sh, iv 4, jv 0, sn, iv 2] [(.long (b2.toInt64)), (.long (0 : Int64))] _
      refine X100.ldc2Long hx hown (mvT hZ (hw _ (List.mem_of_getElem? (i := 42) rfl))) (g := (mkF m 62 #[rv a0, iv 32, iv 2, iv sh, iv 4, jv 0, sn, iv 2] [(.long (b2.toInt64)), (.long (0 : Int64))])) rfl (hb hby d4_62) _ ?_
      show oS p e below T100 m 65 #[rv a0, iv 32, iv 2, iv sh, iv 4, jv 0, sn, iv 2] [(.long (255 : Int64)), (.long (b2.toInt64)), (.long (0 : Int64))] _
      refine XS.land X100.here hx rfl (hb hby d4_65) rfl ?_
      show oS p e below T100 m 66 #[rv a0, iv 32, iv 2, iv sh, iv 4, jv 0, sn, iv 2] [(.long ((b2.toInt64) &&& (255 : Int64))), (.long (0 : Int64))] _
      refine XS.bipush X100.here hx rfl (hb hby d4_66) ?_
      show oS p e below T100 m 68 #[rv a0, iv 32, iv 2, iv sh, iv 4, jv 0, sn, iv 2] [(.int (8 : Int32)), (.long ((b2.toInt64) &&& (255 : Int64))), (.long (0 : Int64))] _
      refine XS.iload X100.here hx rfl (hb hby d4_68) rfl ?_
      show oS p e below T100 m 70 #[rv a0, iv 32, iv 2, iv sh, iv 4, jv 0, sn, iv 2] [(.int (2 : Int32)), (.int (8 : Int32)), (.long ((b2.toInt64) &&& (255 : Int64))), (.long (0 : Int64))] _
      refine XS.iloadN X100.here hx rfl (hb hby d4_70) rfl ?_
      show oS p e below T100 m 71 #[rv a0, iv 32, iv 2, iv sh, iv 4, jv 0, sn, iv 2] [(.int (2 : Int32)), (.int (2 : Int32)), (.int (8 : Int32)), (.long ((b2.toInt64) &&& (255 : Int64))), (.long (0 : Int64))] _
      refine XS.isub X100.here hx rfl (hb hby d4_71) rfl ?_
      show oS p e below T100 m 72 #[rv a0, iv 32, iv 2, iv sh, iv 4, jv 0, sn, iv 2] [(.int (0 : Int32)), (.int (8 : Int32)), (.long ((b2.toInt64) &&& (255 : Int64))), (.long (0 : Int64))] _
      refine XS.imul X100.here hx rfl (hb hby d4_72) rfl ?_
      show oS p e below T100 m 73 #[rv a0, iv 32, iv 2, iv sh, iv 4, jv 0, sn, iv 2] [(.int (0 : Int32)), (.long ((b2.toInt64) &&& (255 : Int64))), (.long (0 : Int64))] _
      refine XS.lshl X100.here hx rfl (hb hby d4_73) rfl ?_
      show oS p e below T100 m 74 #[rv a0, iv 32, iv 2, iv sh, iv 4, jv 0, sn, iv 2] [(.long (((b2.toInt64) &&& (255 : Int64)) <<< ((0 : Int32) &&& 0x3f).toInt64)), (.long (0 : Int64))] _
      refine XS.lor X100.here hx rfl (hb hby d4_74) rfl ?_
      show oS p e below T100 m 75 #[rv a0, iv 32, iv 2, iv sh, iv 4, jv 0, sn, iv 2] [(.long ((0 : Int64) ||| (((b2.toInt64) &&& (255 : Int64)) <<< ((0 : Int32) &&& 0x3f).toInt64)))] _
      refine XS.lstore X100.here hx rfl (hb hby d4_75) rfl (l' := #[rv a0, iv 32, iv 2, iv sh, iv 4, jv ((0 : Int64) ||| (((b2.toInt64) &&& (255 : Int64)) <<< ((0 : Int32) &&& 0x3f).toInt64)), sn, iv 2]) rfl ?_
      exact kt)
    clear pre102
    obtain ⟨ac2, hm105, pre105⟩ : ∃ (ac2 : Int64), (ac2.toInt = 1 * (b2.toInt % 256)) ∧ ∀ t, oS p e below T100 m 77 #[rv a0, iv 32, iv 2, iv sh, iv 4, jv ac2, sn, iv 2] [] t → oE p e below s₁ m #[(.ref a0), (.int (32 : Int32))] 8 t := ⟨((0 : Int64) ||| (((b2.toInt64) &&& (255 : Int64)) <<< ((0 : Int32) &&& 0x3f).toInt64)), own_ac0 b2, pre104⟩
    clear pre104
    have pre106 : ∀ t, oS p e below T100 m 55 #[rv a0, iv 32, iv 2, iv sh, iv 4, jv ac2, sn, iv 3] [(.ref a0), (.long ac2)] t → oE p e below s₁ m #[(.ref a0), (.int (32 : Int32))] 8 t := fun t kt => pre105 t (by
      show oS p e below T100 m 77 #[rv a0, iv 32, iv 2, iv sh, iv 4, jv ac2, sn, iv 2] [] _
      refine XS.iinc X100.here hx rfl (hb hby d4_77) rfl (l' := #[rv a0, iv 32, iv 2, iv sh, iv 4, jv ac2, sn, iv 3]) rfl ?_
      show oS p e below T100 m 80 #[rv a0, iv 32, iv 2, iv sh, iv 4, jv ac2, sn, iv 3] [] _
      refine XS.goto X100.here hx rfl (pc0 := 80) (pc' := 45) rfl (hb hby d4_80) (by decide) (by decide) ?_
      show oS p e below T100 m 45 #[rv a0, iv 32, iv 2, iv sh, iv 4, jv ac2, sn, iv 3] [] _
      refine XS.iload X100.here hx rfl (hb hby d4_45) rfl ?_
      show oS p e below T100 m 47 #[rv a0, iv 32, iv 2, iv sh, iv 4, jv ac2, sn, iv 3] [(.int (3 : Int32))] _
      refine XS.iload X100.here hx rfl (hb hby d4_47) rfl ?_
      show oS p e below T100 m 49 #[rv a0, iv 32, iv 2, iv sh, iv 4, jv ac2, sn, iv 3] [(.int (4 : Int32)), (.int (3 : Int32))] _
      refine XS.icmpNo X100.here hx rfl (hb hby d4_49) rfl (tlt (by decide : (3 : Int32) < (4 : Int32))).2.1 ?_
      show oS p e below T100 m 52 #[rv a0, iv 32, iv 2, iv sh, iv 4, jv ac2, sn, iv 3] [] _
      refine XS.lload X100.here hx rfl (hb hby d4_52) rfl ?_
      show oS p e below T100 m 54 #[rv a0, iv 32, iv 2, iv sh, iv 4, jv ac2, sn, iv 3] [(.long ac2)] _
      refine XS.aloadN X100.here hx rfl (hb hby d4_54) rfl rfl ?_
      exact kt)
    clear pre105
    obtain ⟨T107, X107, e107, st107⟩ := getF X100 hx hZ hown (host := "") (Or.inl (hw _ (List.mem_of_getElem? (i := 13) rfl))) Via.refl e100 I_data (g := (mkF m 55 #[rv a0, iv 32, iv 2, iv sh, iv 4, jv ac2, sn, iv 3] [(.ref a0), (.long ac2)])) rfl rfl (hb hby d4_55)
    have pre108 : ∀ t, oS p e below T107 m 58 #[rv a0, iv 32, iv 2, iv sh, iv 4, jv ac2, sn, iv 3] [(.ref ab), (.long ac2)] t → oE p e below s₁ m #[(.ref a0), (.int (32 : Int32))] 8 t := fun t kt => pre106 t (st107 _ kt)
    clear pre106 st107
    have pre109 : ∀ t, oS p e below T107 m 60 #[rv a0, iv 32, iv 2, iv sh, iv 4, jv ac2, sn, iv 3] [(.int (3 : Int32)), (.ref ab), (.long ac2)] t → oE p e below s₁ m #[(.ref a0), (.int (32 : Int32))] 8 t := fun t kt => pre108 t (by
      show oS p e below T107 m 58 #[rv a0, iv 32, iv 2, iv sh, iv 4, jv ac2, sn, iv 3] [(.ref ab), (.long ac2)] _
      refine XS.iload X107.here hx rfl (hb hby d4_58) rfl ?_
      exact kt)
    clear pre108
    have tv110 := V1
    obtain ⟨cl110, Ar110, q110, S110, Ng110, H110, G110⟩ := tv110
    have hin110 : ¬ ((3 : Int32) < 0 ∨ cl110.slots.size ≤ ((3 : Int32)).toNatClampNeg) := inb_of S110 ⟨by decide, by decide⟩
    have hat110 : cl110.slots[((3 : Int32)).toNatClampNeg]? = some (.int b3) := Has.at H110 hin110 rfl
    have pre111 : ∀ t, oS p e below T107 m 77 #[rv a0, iv 32, iv 2, iv sh, iv 4, jv (ac2 ||| (((b3.toInt64) &&& (255 : Int64)) <<< ((8 : Int32) &&& 0x3f).toInt64)), sn, iv 3] [] t → oE p e below s₁ m #[(.ref a0), (.int (32 : Int32))] 8 t := fun t kt => pre109 t (by
      show oS p e below T107 m 60 #[rv a0, iv 32, iv 2, iv sh, iv 4, jv ac2, sn, iv 3] [(.int (3 : Int32)), (.ref ab), (.long ac2)] _
      refine X107.baloadBytes hx (j := (3 : Int32)) (v := (.int b3)) (by rw [e107]; exact Ar110.1) (State.isArrayOf_alike hZ.alike Ar110.2.1) Ar110.2.2 hin110 hat110 (g := (mkF m 60 #[rv a0, iv 32, iv 2, iv sh, iv 4, jv ac2, sn, iv 3] [(.int (3 : Int32)), (.ref ab), (.long ac2)])) rfl rfl (hb hby d4_60) _ ?_
      show oS p e below T107 m 61 #[rv a0, iv 32, iv 2, iv sh, iv 4, jv ac2, sn, iv 3] [(.int b3), (.long ac2)] _
      refine XS.i2l X107.here hx rfl (hb hby d4_61) rfl ?_
      show oS p e below T107 m 62 #[rv a0, iv 32, iv 2, iv sh, iv 4, jv ac2, sn, iv 3] [(.long (b3.toInt64)), (.long ac2)] _
      refine X107.ldc2Long hx hown (mvT hZ (hw _ (List.mem_of_getElem? (i := 42) rfl))) (g := (mkF m 62 #[rv a0, iv 32, iv 2, iv sh, iv 4, jv ac2, sn, iv 3] [(.long (b3.toInt64)), (.long ac2)])) rfl (hb hby d4_62) _ ?_
      show oS p e below T107 m 65 #[rv a0, iv 32, iv 2, iv sh, iv 4, jv ac2, sn, iv 3] [(.long (255 : Int64)), (.long (b3.toInt64)), (.long ac2)] _
      refine XS.land X107.here hx rfl (hb hby d4_65) rfl ?_
      show oS p e below T107 m 66 #[rv a0, iv 32, iv 2, iv sh, iv 4, jv ac2, sn, iv 3] [(.long ((b3.toInt64) &&& (255 : Int64))), (.long ac2)] _
      refine XS.bipush X107.here hx rfl (hb hby d4_66) ?_
      show oS p e below T107 m 68 #[rv a0, iv 32, iv 2, iv sh, iv 4, jv ac2, sn, iv 3] [(.int (8 : Int32)), (.long ((b3.toInt64) &&& (255 : Int64))), (.long ac2)] _
      refine XS.iload X107.here hx rfl (hb hby d4_68) rfl ?_
      show oS p e below T107 m 70 #[rv a0, iv 32, iv 2, iv sh, iv 4, jv ac2, sn, iv 3] [(.int (3 : Int32)), (.int (8 : Int32)), (.long ((b3.toInt64) &&& (255 : Int64))), (.long ac2)] _
      refine XS.iloadN X107.here hx rfl (hb hby d4_70) rfl ?_
      show oS p e below T107 m 71 #[rv a0, iv 32, iv 2, iv sh, iv 4, jv ac2, sn, iv 3] [(.int (2 : Int32)), (.int (3 : Int32)), (.int (8 : Int32)), (.long ((b3.toInt64) &&& (255 : Int64))), (.long ac2)] _
      refine XS.isub X107.here hx rfl (hb hby d4_71) rfl ?_
      show oS p e below T107 m 72 #[rv a0, iv 32, iv 2, iv sh, iv 4, jv ac2, sn, iv 3] [(.int (1 : Int32)), (.int (8 : Int32)), (.long ((b3.toInt64) &&& (255 : Int64))), (.long ac2)] _
      refine XS.imul X107.here hx rfl (hb hby d4_72) rfl ?_
      show oS p e below T107 m 73 #[rv a0, iv 32, iv 2, iv sh, iv 4, jv ac2, sn, iv 3] [(.int (8 : Int32)), (.long ((b3.toInt64) &&& (255 : Int64))), (.long ac2)] _
      refine XS.lshl X107.here hx rfl (hb hby d4_73) rfl ?_
      show oS p e below T107 m 74 #[rv a0, iv 32, iv 2, iv sh, iv 4, jv ac2, sn, iv 3] [(.long (((b3.toInt64) &&& (255 : Int64)) <<< ((8 : Int32) &&& 0x3f).toInt64)), (.long ac2)] _
      refine XS.lor X107.here hx rfl (hb hby d4_74) rfl ?_
      show oS p e below T107 m 75 #[rv a0, iv 32, iv 2, iv sh, iv 4, jv ac2, sn, iv 3] [(.long (ac2 ||| (((b3.toInt64) &&& (255 : Int64)) <<< ((8 : Int32) &&& 0x3f).toInt64)))] _
      refine XS.lstore X107.here hx rfl (hb hby d4_75) rfl (l' := #[rv a0, iv 32, iv 2, iv sh, iv 4, jv (ac2 ||| (((b3.toInt64) &&& (255 : Int64)) <<< ((8 : Int32) &&& 0x3f).toInt64)), sn, iv 3]) rfl ?_
      exact kt)
    clear pre109
    obtain ⟨ac3, hm112, pre112⟩ : ∃ (ac3 : Int64), (ac3.toInt = 1 * (b2.toInt % 256) + 256 * (b3.toInt % 256)) ∧ ∀ t, oS p e below T107 m 77 #[rv a0, iv 32, iv 2, iv sh, iv 4, jv ac3, sn, iv 3] [] t → oE p e below s₁ m #[(.ref a0), (.int (32 : Int32))] 8 t := ⟨(ac2 ||| (((b3.toInt64) &&& (255 : Int64)) <<< ((8 : Int32) &&& 0x3f).toInt64)), own_ac1 ac2 b3 _ hm105 (by omega), pre111⟩
    clear pre111
    have pre113 : ∀ t, oS p e below T107 m 94 #[rv a0, iv 32, iv 2, iv sh, iv 4, jv ac3, sn, iv 4] [(.int ((((ac3.toUInt64 >>> (sh &&& 0x3f).toInt64.toUInt64).toInt64) &&& (((1 : Int64) <<< ((32 : Int32) &&& 0x3f).toInt64) - (1 : Int64))).toInt32))] t → oE p e below s₁ m #[(.ref a0), (.int (32 : Int32))] 8 t := fun t kt => pre112 t (by
      show oS p e below T107 m 77 #[rv a0, iv 32, iv 2, iv sh, iv 4, jv ac3, sn, iv 3] [] _
      refine XS.iinc X107.here hx rfl (hb hby d4_77) rfl (l' := #[rv a0, iv 32, iv 2, iv sh, iv 4, jv ac3, sn, iv 4]) rfl ?_
      show oS p e below T107 m 80 #[rv a0, iv 32, iv 2, iv sh, iv 4, jv ac3, sn, iv 4] [] _
      refine XS.goto X107.here hx rfl (pc0 := 80) (pc' := 45) rfl (hb hby d4_80) (by decide) (by decide) ?_
      show oS p e below T107 m 45 #[rv a0, iv 32, iv 2, iv sh, iv 4, jv ac3, sn, iv 4] [] _
      refine XS.iload X107.here hx rfl (hb hby d4_45) rfl ?_
      show oS p e below T107 m 47 #[rv a0, iv 32, iv 2, iv sh, iv 4, jv ac3, sn, iv 4] [(.int (4 : Int32))] _
      refine XS.iload X107.here hx rfl (hb hby d4_47) rfl ?_
      show oS p e below T107 m 49 #[rv a0, iv 32, iv 2, iv sh, iv 4, jv ac3, sn, iv 4] [(.int (4 : Int32)), (.int (4 : Int32))] _
      refine XS.icmpYes X107.here hx rfl (pc0 := 49) (pc' := 83) rfl (hb hby d4_49) rfl (flt (by decide : ¬ ((4 : Int32) < (4 : Int32)))).2.1 (by decide) (by decide) ?_
      show oS p e below T107 m 83 #[rv a0, iv 32, iv 2, iv sh, iv 4, jv ac3, sn, iv 4] [] _
      refine XS.lload X107.here hx rfl (hb hby d4_83) rfl ?_
      show oS p e below T107 m 85 #[rv a0, iv 32, iv 2, iv sh, iv 4, jv ac3, sn, iv 4] [(.long ac3)] _
      refine XS.iloadN X107.here hx rfl (hb hby d4_85) rfl ?_
      show oS p e below T107 m 86 #[rv a0, iv 32, iv 2, iv sh, iv 4, jv ac3, sn, iv 4] [(.int sh), (.long ac3)] _
      refine XS.lushr X107.here hx rfl (hb hby d4_86) rfl ?_
      show oS p e below T107 m 87 #[rv a0, iv 32, iv 2, iv sh, iv 4, jv ac3, sn, iv 4] [(.long ((ac3.toUInt64 >>> (sh &&& 0x3f).toInt64.toUInt64).toInt64))] _
      refine XS.lconst X107.here hx rfl (hb hby d4_87) ?_
      show oS p e below T107 m 88 #[rv a0, iv 32, iv 2, iv sh, iv 4, jv ac3, sn, iv 4] [(.long (1 : Int64)), (.long ((ac3.toUInt64 >>> (sh &&& 0x3f).toInt64.toUInt64).toInt64))] _
      refine XS.iloadN X107.here hx rfl (hb hby d4_88) rfl ?_
      show oS p e below T107 m 89 #[rv a0, iv 32, iv 2, iv sh, iv 4, jv ac3, sn, iv 4] [(.int (32 : Int32)), (.long (1 : Int64)), (.long ((ac3.toUInt64 >>> (sh &&& 0x3f).toInt64.toUInt64).toInt64))] _
      refine XS.lshl X107.here hx rfl (hb hby d4_89) rfl ?_
      show oS p e below T107 m 90 #[rv a0, iv 32, iv 2, iv sh, iv 4, jv ac3, sn, iv 4] [(.long ((1 : Int64) <<< ((32 : Int32) &&& 0x3f).toInt64)), (.long ((ac3.toUInt64 >>> (sh &&& 0x3f).toInt64.toUInt64).toInt64))] _
      refine XS.lconst X107.here hx rfl (hb hby d4_90) ?_
      show oS p e below T107 m 91 #[rv a0, iv 32, iv 2, iv sh, iv 4, jv ac3, sn, iv 4] [(.long (1 : Int64)), (.long ((1 : Int64) <<< ((32 : Int32) &&& 0x3f).toInt64)), (.long ((ac3.toUInt64 >>> (sh &&& 0x3f).toInt64.toUInt64).toInt64))] _
      refine XS.lsub X107.here hx rfl (hb hby d4_91) rfl ?_
      show oS p e below T107 m 92 #[rv a0, iv 32, iv 2, iv sh, iv 4, jv ac3, sn, iv 4] [(.long (((1 : Int64) <<< ((32 : Int32) &&& 0x3f).toInt64) - (1 : Int64))), (.long ((ac3.toUInt64 >>> (sh &&& 0x3f).toInt64.toUInt64).toInt64))] _
      refine XS.land X107.here hx rfl (hb hby d4_92) rfl ?_
      show oS p e below T107 m 93 #[rv a0, iv 32, iv 2, iv sh, iv 4, jv ac3, sn, iv 4] [(.long (((ac3.toUInt64 >>> (sh &&& 0x3f).toInt64.toUInt64).toInt64) &&& (((1 : Int64) <<< ((32 : Int32) &&& 0x3f).toInt64) - (1 : Int64))))] _
      refine XS.l2i X107.here hx rfl (hb hby d4_93) rfl ?_
      exact kt)
    clear pre112
    have hr0 : ((((ac3.toUInt64 >>> (sh &&& 0x3f).toInt64.toUInt64).toInt64) &&& (((1 : Int64) <<< ((32 : Int32) &&& 0x3f).toInt64) - (1 : Int64))).toInt32) = Int32.ofInt ((1 * (b0.toInt % 256) + 256 * (b1.toInt % 256) + 65536 * (b2.toInt % 256) + 16777216 * (b3.toInt % 256)) / 2 ^ ps.toInt.toNat) := own_fin ac3 sh ps (1 * (b0.toInt % 256) + 256 * (b1.toInt % 256) + 65536 * (b2.toInt % 256) + 16777216 * (b3.toInt % 256)) 2 65536 (by decide) hps.1 hk2 hm89 (by omega) (by have q := hm112; omega)
    rw [hr0] at pre113
    obtain ⟨fs, hr, hrun, hended, hW, hsame⟩ := X107.leave (v := some (.int (Int32.ofInt ((1 * (b0.toInt % 256) + 256 * (b1.toInt % 256) + 65536 * (b2.toInt % 256) + 16777216 * (b3.toInt % 256)) / 2 ^ ps.toInt.toNat)))) (fun h => by rw [Bd.returns] at h; cases h)
    refine ⟨_, _, pre113 _ ?_, hrun, hended, _, _, rfl, ?_, ⟨_, rfl⟩, hW, hsame.mono (by decide) (by decide)⟩
    · show oS p e below T107 m 94 #[rv a0, iv 32, iv 2, iv sh, iv 4, jv ac3, sn, iv 4] [(.int (Int32.ofInt ((1 * (b0.toInt % 256) + 256 * (b1.toInt % 256) + 65536 * (b2.toInt % 256) + 16777216 * (b3.toInt % 256)) / 2 ^ ps.toInt.toNat)))] _
      exact retI X107 hx Bd.returns (hb hby d4_94) hr
    · show Q4p4 Z a0 ab sz ps ed kb b0 b1 b2 b3 h0 n0 _ T107.heap _
      rw [e107]
      exact ⟨rfl, N95, rfl⟩
  · have hk3 : ps.toInt / 8 = 3 := hk0.trans (by decide)
    have pre114 : ∀ t, oS p e below T2 m 9 #[rv a0, iv 32, iv 3, un, un, un, un, un] [(.ref a0)] t → oE p e below s₁ m #[(.ref a0), (.int (32 : Int32))] 8 t := fun t kt => pre5 t (by
      show oS p e below T2 m 8 #[rv a0, iv 32, iv 3, un, un, un, un, un] [] _
      refine XS.aloadN X2.here hx rfl (hb hby d4_8) rfl rfl ?_
      exact kt)
    clear pre5
    obtain ⟨T115, X115, e115, st115⟩ := getF X2 hx hZ hown (host := "") (Or.inl (hw _ (List.mem_of_getElem? (i := 23) rfl))) Via.refl e2 I_position (g := (mkF m 9 #[rv a0, iv 32, iv 3, un, un, un, un, un] [(.ref a0)])) rfl rfl (hb hby d4_9)
    have pre116 : ∀ t, oS p e below T115 m 12 #[rv a0, iv 32, iv 3, un, un, un, un, un] [(.long ps)] t → oE p e below s₁ m #[(.ref a0), (.int (32 : Int32))] 8 t := fun t kt => pre114 t (st115 _ kt)
    clear pre114 st115
    have pre117 : ∀ t, oS p e below T115 m 18 #[rv a0, iv 32, iv 3, iv ((ps &&& (7 : Int64)).toInt32), un, un, un, un] [] t → oE p e below s₁ m #[(.ref a0), (.int (32 : Int32))] 8 t := fun t kt => pre116 t (by
      show oS p e below T115 m 12 #[rv a0, iv 32, iv 3, un, un, un, un, un] [(.long ps)] _
      refine X115.ldc2Long hx hown (mvT hZ (hw _ (List.mem_of_getElem? (i := 32) rfl))) (g := (mkF m 12 #[rv a0, iv 32, iv 3, un, un, un, un, un] [(.long ps)])) rfl (hb hby d4_12) _ ?_
      show oS p e below T115 m 15 #[rv a0, iv 32, iv 3, un, un, un, un, un] [(.long (7 : Int64)), (.long ps)] _
      refine XS.land X115.here hx rfl (hb hby d4_15) rfl ?_
      show oS p e below T115 m 16 #[rv a0, iv 32, iv 3, un, un, un, un, un] [(.long (ps &&& (7 : Int64)))] _
      refine XS.l2i X115.here hx rfl (hb hby d4_16) rfl ?_
      show oS p e below T115 m 17 #[rv a0, iv 32, iv 3, un, un, un, un, un] [(.int ((ps &&& (7 : Int64)).toInt32))] _
      refine XS.istoreN X115.here hx rfl (hb hby d4_17) rfl (l' := #[rv a0, iv 32, iv 3, iv ((ps &&& (7 : Int64)).toInt32), un, un, un, un]) rfl ?_
      exact kt)
    clear pre116
    obtain ⟨sh, hm118, pre118⟩ : ∃ (sh : Int32), (sh.toInt = ps.toInt % 8) ∧ ∀ t, oS p e below T115 m 18 #[rv a0, iv 32, iv 3, iv sh, un, un, un, un] [] t → oE p e below s₁ m #[(.ref a0), (.int (32 : Int32))] 8 t := ⟨((ps &&& (7 : Int64)).toInt32), own_sh ps hps, pre117⟩
    clear pre117
    have pre119 : ∀ t, oS p e below T115 m 19 #[rv a0, iv 32, iv 3, iv sh, un, un, un, un] [(.ref a0)] t → oE p e below s₁ m #[(.ref a0), (.int (32 : Int32))] 8 t := fun t kt => pre118 t (by
      show oS p e below T115 m 18 #[rv a0, iv 32, iv 3, iv sh, un, un, un, un] [] _
      refine XS.aloadN X115.here hx rfl (hb hby d4_18) rfl rfl ?_
      exact kt)
    clear pre118
    obtain ⟨T120, X120, e120, st120⟩ := getF X115 hx hZ hown (host := "") (Or.inl (hw _ (List.mem_of_getElem? (i := 13) rfl))) Via.refl e115 I_data (g := (mkF m 19 #[rv a0, iv 32, iv 3, iv sh, un, un, un, un] [(.ref a0)])) rfl rfl (hb hby d4_19)
    have pre121 : ∀ t, oS p e below T120 m 22 #[rv a0, iv 32, iv 3, iv sh, un, un, un, un] [(.ref ab)] t → oE p e below s₁ m #[(.ref a0), (.int (32 : Int32))] 8 t := fun t kt => pre119 t (st120 _ kt)
    clear pre119 st120
    have tv122 := V1
    obtain ⟨cl122, Ar122, q122, S122, Ng122, H122, G122⟩ := tv122
    have pre123 : ∀ t, oS p e below T120 m 34 #[rv a0, iv 32, iv 3, iv sh, un, un, un, un] [(.int ((3 : Int32) + (((sh + (32 : Int32)) + (7 : Int32)) / (8 : Int32)))), (.int (4 : Int32))] t → oE p e below s₁ m #[(.ref a0), (.int (32 : Int32))] 8 t := fun t kt => pre121 t (by
      show oS p e below T120 m 22 #[rv a0, iv 32, iv 3, iv sh, un, un, un, un] [(.ref ab)] _
      refine X120.arraylength hx (by rw [e120]; exact Ar122.1) (State.isArrayOf_alike hZ.alike Ar122.2.1) (g := (mkF m 22 #[rv a0, iv 32, iv 3, iv sh, un, un, un, un] [(.ref ab)])) rfl rfl (hb hby d4_22) _ ?_
      rw [len_of S122 Ng122]
      show oS p e below T120 m 23 #[rv a0, iv 32, iv 3, iv sh, un, un, un, un] [(.int (4 : Int32))] _
      refine XS.iloadN X120.here hx rfl (hb hby d4_23) rfl ?_
      show oS p e below T120 m 24 #[rv a0, iv 32, iv 3, iv sh, un, un, un, un] [(.int (3 : Int32)), (.int (4 : Int32))] _
      refine XS.iloadN X120.here hx rfl (hb hby d4_24) rfl ?_
      show oS p e below T120 m 25 #[rv a0, iv 32, iv 3, iv sh, un, un, un, un] [(.int sh), (.int (3 : Int32)), (.int (4 : Int32))] _
      refine XS.iloadN X120.here hx rfl (hb hby d4_25) rfl ?_
      show oS p e below T120 m 26 #[rv a0, iv 32, iv 3, iv sh, un, un, un, un] [(.int (32 : Int32)), (.int sh), (.int (3 : Int32)), (.int (4 : Int32))] _
      refine XS.iadd X120.here hx rfl (hb hby d4_26) rfl ?_
      show oS p e below T120 m 27 #[rv a0, iv 32, iv 3, iv sh, un, un, un, un] [(.int (sh + (32 : Int32))), (.int (3 : Int32)), (.int (4 : Int32))] _
      refine XS.bipush X120.here hx rfl (hb hby d4_27) ?_
      show oS p e below T120 m 29 #[rv a0, iv 32, iv 3, iv sh, un, un, un, un] [(.int (7 : Int32)), (.int (sh + (32 : Int32))), (.int (3 : Int32)), (.int (4 : Int32))] _
      refine XS.iadd X120.here hx rfl (hb hby d4_29) rfl ?_
      show oS p e below T120 m 30 #[rv a0, iv 32, iv 3, iv sh, un, un, un, un] [(.int ((sh + (32 : Int32)) + (7 : Int32))), (.int (3 : Int32)), (.int (4 : Int32))] _
      refine XS.bipush X120.here hx rfl (hb hby d4_30) ?_
      show oS p e below T120 m 32 #[rv a0, iv 32, iv 3, iv sh, un, un, un, un] [(.int (8 : Int32)), (.int ((sh + (32 : Int32)) + (7 : Int32))), (.int (3 : Int32)), (.int (4 : Int32))] _
      refine XS.idiv X120.here hx rfl (hb hby d4_32) rfl (by decide) ?_
      show oS p e below T120 m 33 #[rv a0, iv 32, iv 3, iv sh, un, un, un, un] [(.int (((sh + (32 : Int32)) + (7 : Int32)) / (8 : Int32))), (.int (3 : Int32)), (.int (4 : Int32))] _
      refine XS.iadd X120.here hx rfl (hb hby d4_33) rfl ?_
      exact kt)
    clear pre121
    obtain ⟨_, _, ⟨T124, L124, k124, n124⟩, -, X124, ⟨Lc124, hQ124, l124, y124, z124⟩, st124⟩ := Jvm.LawKit.callS X120 hx (y := (⟨"java/lang/Math", "min", "(II)I"⟩ : MethodName)) hown (mvT hZ (hw _ (List.mem_of_getElem? (i := 33) rfl))) (mvT hZ (hw _ (List.mem_of_getElem? (i := 34) rfl))) (mvT hZ (hw _ (List.mem_of_getElem? (i := 35) rfl))) (mvT hZ (hw _ (List.mem_of_getElem? (i := 36) rfl))) (by decide) (backOf (W := 0) (rm5 l Z av hw [] (4 : Int32) ((3 : Int32) + (((sh + (32 : Int32)) + (7 : Int32)) / (8 : Int32)))  h0 n0 Z0 ) hZ (hw _ (List.mem_of_getElem? (i := 36) rfl)) (hw _ (List.mem_of_getElem? (i := 35) rfl)) (by decide) (by decide)) (g := (mkF m 34 #[rv a0, iv 32, iv 3, iv sh, un, un, un, un] [(.int ((3 : Int32) + (((sh + (32 : Int32)) + (7 : Int32)) / (8 : Int32)))), (.int (4 : Int32))])) rfl (by rw [hml]; rfl) (argsL := [(.int (4 : Int32)), (.int ((3 : Int32) + (((sh + (32 : Int32)) + (7 : Int32)) / (8 : Int32))))]) (rest := []) (lenOf pd__II_I rfl) rfl (by show 2 * 0 + _ ≤ _; exact Nat.le_of_eq rfl) (hb hby d4_34) (fun _ _ => ⟨rfl, e120, (by decide : 0 + 0 ≤ _), (by decide : 0 + 0 ≤ _)⟩)
    dsimp only [Pt.U, Pt.locs, Pt.cells, Pt.slots] at X124 l124 y124 z124 st124 hQ124
    rw [l124, y124, z124] at X124
    clear l124 y124 z124
    obtain ⟨rfl, N124q, e124⟩ := hQ124
    have N124 := Fr.app N0 N124q
    have pre125 : ∀ t, oS p e below T124 m 37 #[rv a0, iv 32, iv 3, iv sh, un, un, un, un] [(.int (f_min (4 : Int32) ((3 : Int32) + (((sh + (32 : Int32)) + (7 : Int32)) / (8 : Int32)))))] t → oE p e below s₁ m #[(.ref a0), (.int (32 : Int32))] 8 t := fun t kt => pre123 t (st124 _ kt)
    clear pre123 st124
    have pre126 : ∀ t, oS p e below T124 m 39 #[rv a0, iv 32, iv 3, iv sh, iv (f_min (4 : Int32) ((3 : Int32) + (((sh + (32 : Int32)) + (7 : Int32)) / (8 : Int32)))), un, un, un] [] t → oE p e below s₁ m #[(.ref a0), (.int (32 : Int32))] 8 t := fun t kt => pre125 t (by
      show oS p e below T124 m 37 #[rv a0, iv 32, iv 3, iv sh, un, un, un, un] [(.int (f_min (4 : Int32) ((3 : Int32) + (((sh + (32 : Int32)) + (7 : Int32)) / (8 : Int32)))))] _
      refine XS.istore X124.here hx rfl (hb hby d4_37) rfl (l' := #[rv a0, iv 32, iv 3, iv sh, iv (f_min (4 : Int32) ((3 : Int32) + (((sh + (32 : Int32)) + (7 : Int32)) / (8 : Int32)))), un, un, un]) rfl ?_
      exact kt)
    clear pre125
    obtain ⟨en, hm127, pre127⟩ : ∃ (en : Int32), (en = (4 : Int32)) ∧ ∀ t, oS p e below T124 m 39 #[rv a0, iv 32, iv 3, iv sh, iv en, un, un, un] [] t → oE p e below s₁ m #[(.ref a0), (.int (32 : Int32))] 8 t := ⟨(f_min (4 : Int32) ((3 : Int32) + (((sh + (32 : Int32)) + (7 : Int32)) / (8 : Int32)))), own_enG (4 : Int32) (3 : Int32) sh (by decide) (by decide) hm118, pre126⟩
    clear pre126
    subst hm127
    have pre128 : ∀ t, oS p e below T124 m 55 #[rv a0, iv 32, iv 3, iv sh, iv 4, jv 0, sn, iv 3] [(.ref a0), (.long (0 : Int64))] t → oE p e below s₁ m #[(.ref a0), (.int (32 : Int32))] 8 t := fun t kt => pre127 t (by
      show oS p e below T124 m 39 #[rv a0, iv 32, iv 3, iv sh, iv 4, un, un, un] [] _
      refine XS.lconst X124.here hx rfl (hb hby d4_39) ?_
      show oS p e below T124 m 40 #[rv a0, iv 32, iv 3, iv sh, iv 4, un, un, un] [(.long (0 : Int64))] _
      refine XS.lstore X124.here hx rfl (hb hby d4_40) rfl (l' := #[rv a0, iv 32, iv 3, iv sh, iv 4, jv 0, sn, un]) rfl ?_
      show oS p e below T124 m 42 #[rv a0, iv 32, iv 3, iv sh, iv 4, jv 0, sn, un] [] _
      refine XS.iloadN X124.here hx rfl (hb hby d4_42) rfl ?_
      show oS p e below T124 m 43 #[rv a0, iv 32, iv 3, iv sh, iv 4, jv 0, sn, un] [(.int (3 : Int32))] _
      refine XS.istore X124.here hx rfl (hb hby d4_43) rfl (l' := #[rv a0, iv 32, iv 3, iv sh, iv 4, jv 0, sn, iv 3]) rfl ?_
      show oS p e below T124 m 45 #[rv a0, iv 32, iv 3, iv sh, iv 4, jv 0, sn, iv 3] [] _
      refine XS.iload X124.here hx rfl (hb hby d4_45) rfl ?_
      show oS p e below T124 m 47 #[rv a0, iv 32, iv 3, iv sh, iv 4, jv 0, sn, iv 3] [(.int (3 : Int32))] _
      refine XS.iload X124.here hx rfl (hb hby d4_47) rfl ?_
      show oS p e below T124 m 49 #[rv a0, iv 32, iv 3, iv sh, iv 4, jv 0, sn, iv 3] [(.int (4 : Int32)), (.int (3 : Int32))] _
      refine XS.icmpNo X124.here hx rfl (hb hby d4_49) rfl (tlt (by decide : (3 : Int32) < (4 : Int32))).2.1 ?_
      show oS p e below T124 m 52 #[rv a0, iv 32, iv 3, iv sh, iv 4, jv 0, sn, iv 3] [] _
      refine XS.lload X124.here hx rfl (hb hby d4_52) rfl ?_
      show oS p e below T124 m 54 #[rv a0, iv 32, iv 3, iv sh, iv 4, jv 0, sn, iv 3] [(.long (0 : Int64))] _
      refine XS.aloadN X124.here hx rfl (hb hby d4_54) rfl rfl ?_
      exact kt)
    clear pre127
    obtain ⟨T129, X129, e129, st129⟩ := getF X124 hx hZ hown (host := "") (Or.inl (hw _ (List.mem_of_getElem? (i := 13) rfl))) Via.refl e124 I_data (g := (mkF m 55 #[rv a0, iv 32, iv 3, iv sh, iv 4, jv 0, sn, iv 3] [(.ref a0), (.long (0 : Int64))])) rfl rfl (hb hby d4_55)
    have pre130 : ∀ t, oS p e below T129 m 58 #[rv a0, iv 32, iv 3, iv sh, iv 4, jv 0, sn, iv 3] [(.ref ab), (.long (0 : Int64))] t → oE p e below s₁ m #[(.ref a0), (.int (32 : Int32))] 8 t := fun t kt => pre128 t (st129 _ kt)
    clear pre128 st129
    have pre131 : ∀ t, oS p e below T129 m 60 #[rv a0, iv 32, iv 3, iv sh, iv 4, jv 0, sn, iv 3] [(.int (3 : Int32)), (.ref ab), (.long (0 : Int64))] t → oE p e below s₁ m #[(.ref a0), (.int (32 : Int32))] 8 t := fun t kt => pre130 t (by
      show oS p e below T129 m 58 #[rv a0, iv 32, iv 3, iv sh, iv 4, jv 0, sn, iv 3] [(.ref ab), (.long (0 : Int64))] _
      refine XS.iload X129.here hx rfl (hb hby d4_58) rfl ?_
      exact kt)
    clear pre130
    have tv132 := V1
    obtain ⟨cl132, Ar132, q132, S132, Ng132, H132, G132⟩ := tv132
    have hin132 : ¬ ((3 : Int32) < 0 ∨ cl132.slots.size ≤ ((3 : Int32)).toNatClampNeg) := inb_of S132 ⟨by decide, by decide⟩
    have hat132 : cl132.slots[((3 : Int32)).toNatClampNeg]? = some (.int b3) := Has.at H132 hin132 rfl
    have pre133 : ∀ t, oS p e below T129 m 77 #[rv a0, iv 32, iv 3, iv sh, iv 4, jv ((0 : Int64) ||| (((b3.toInt64) &&& (255 : Int64)) <<< ((0 : Int32) &&& 0x3f).toInt64)), sn, iv 3] [] t → oE p e below s₁ m #[(.ref a0), (.int (32 : Int32))] 8 t := fun t kt => pre131 t (by
      show oS p e below T129 m 60 #[rv a0, iv 32, iv 3, iv sh, iv 4, jv 0, sn, iv 3] [(.int (3 : Int32)), (.ref ab), (.long (0 : Int64))] _
      refine X129.baloadBytes hx (j := (3 : Int32)) (v := (.int b3)) (by rw [e129]; exact Ar132.1) (State.isArrayOf_alike hZ.alike Ar132.2.1) Ar132.2.2 hin132 hat132 (g := (mkF m 60 #[rv a0, iv 32, iv 3, iv sh, iv 4, jv 0, sn, iv 3] [(.int (3 : Int32)), (.ref ab), (.long (0 : Int64))])) rfl rfl (hb hby d4_60) _ ?_
      show oS p e below T129 m 61 #[rv a0, iv 32, iv 3, iv sh, iv 4, jv 0, sn, iv 3] [(.int b3), (.long (0 : Int64))] _
      refine XS.i2l X129.here hx rfl (hb hby d4_61) rfl ?_
      show oS p e below T129 m 62 #[rv a0, iv 32, iv 3, iv sh, iv 4, jv 0, sn, iv 3] [(.long (b3.toInt64)), (.long (0 : Int64))] _
      refine X129.ldc2Long hx hown (mvT hZ (hw _ (List.mem_of_getElem? (i := 42) rfl))) (g := (mkF m 62 #[rv a0, iv 32, iv 3, iv sh, iv 4, jv 0, sn, iv 3] [(.long (b3.toInt64)), (.long (0 : Int64))])) rfl (hb hby d4_62) _ ?_
      show oS p e below T129 m 65 #[rv a0, iv 32, iv 3, iv sh, iv 4, jv 0, sn, iv 3] [(.long (255 : Int64)), (.long (b3.toInt64)), (.long (0 : Int64))] _
      refine XS.land X129.here hx rfl (hb hby d4_65) rfl ?_
      show oS p e below T129 m 66 #[rv a0, iv 32, iv 3, iv sh, iv 4, jv 0, sn, iv 3] [(.long ((b3.toInt64) &&& (255 : Int64))), (.long (0 : Int64))] _
      refine XS.bipush X129.here hx rfl (hb hby d4_66) ?_
      show oS p e below T129 m 68 #[rv a0, iv 32, iv 3, iv sh, iv 4, jv 0, sn, iv 3] [(.int (8 : Int32)), (.long ((b3.toInt64) &&& (255 : Int64))), (.long (0 : Int64))] _
      refine XS.iload X129.here hx rfl (hb hby d4_68) rfl ?_
      show oS p e below T129 m 70 #[rv a0, iv 32, iv 3, iv sh, iv 4, jv 0, sn, iv 3] [(.int (3 : Int32)), (.int (8 : Int32)), (.long ((b3.toInt64) &&& (255 : Int64))), (.long (0 : Int64))] _
      refine XS.iloadN X129.here hx rfl (hb hby d4_70) rfl ?_
      show oS p e below T129 m 71 #[rv a0, iv 32, iv 3, iv sh, iv 4, jv 0, sn, iv 3] [(.int (3 : Int32)), (.int (3 : Int32)), (.int (8 : Int32)), (.long ((b3.toInt64) &&& (255 : Int64))), (.long (0 : Int64))] _
      refine XS.isub X129.here hx rfl (hb hby d4_71) rfl ?_
      show oS p e below T129 m 72 #[rv a0, iv 32, iv 3, iv sh, iv 4, jv 0, sn, iv 3] [(.int (0 : Int32)), (.int (8 : Int32)), (.long ((b3.toInt64) &&& (255 : Int64))), (.long (0 : Int64))] _
      refine XS.imul X129.here hx rfl (hb hby d4_72) rfl ?_
      show oS p e below T129 m 73 #[rv a0, iv 32, iv 3, iv sh, iv 4, jv 0, sn, iv 3] [(.int (0 : Int32)), (.long ((b3.toInt64) &&& (255 : Int64))), (.long (0 : Int64))] _
      refine XS.lshl X129.here hx rfl (hb hby d4_73) rfl ?_
      show oS p e below T129 m 74 #[rv a0, iv 32, iv 3, iv sh, iv 4, jv 0, sn, iv 3] [(.long (((b3.toInt64) &&& (255 : Int64)) <<< ((0 : Int32) &&& 0x3f).toInt64)), (.long (0 : Int64))] _
      refine XS.lor X129.here hx rfl (hb hby d4_74) rfl ?_
      show oS p e below T129 m 75 #[rv a0, iv 32, iv 3, iv sh, iv 4, jv 0, sn, iv 3] [(.long ((0 : Int64) ||| (((b3.toInt64) &&& (255 : Int64)) <<< ((0 : Int32) &&& 0x3f).toInt64)))] _
      refine XS.lstore X129.here hx rfl (hb hby d4_75) rfl (l' := #[rv a0, iv 32, iv 3, iv sh, iv 4, jv ((0 : Int64) ||| (((b3.toInt64) &&& (255 : Int64)) <<< ((0 : Int32) &&& 0x3f).toInt64)), sn, iv 3]) rfl ?_
      exact kt)
    clear pre131
    obtain ⟨ac3, hm134, pre134⟩ : ∃ (ac3 : Int64), (ac3.toInt = 1 * (b3.toInt % 256)) ∧ ∀ t, oS p e below T129 m 77 #[rv a0, iv 32, iv 3, iv sh, iv 4, jv ac3, sn, iv 3] [] t → oE p e below s₁ m #[(.ref a0), (.int (32 : Int32))] 8 t := ⟨((0 : Int64) ||| (((b3.toInt64) &&& (255 : Int64)) <<< ((0 : Int32) &&& 0x3f).toInt64)), own_ac0 b3, pre133⟩
    clear pre133
    have pre135 : ∀ t, oS p e below T129 m 94 #[rv a0, iv 32, iv 3, iv sh, iv 4, jv ac3, sn, iv 4] [(.int ((((ac3.toUInt64 >>> (sh &&& 0x3f).toInt64.toUInt64).toInt64) &&& (((1 : Int64) <<< ((32 : Int32) &&& 0x3f).toInt64) - (1 : Int64))).toInt32))] t → oE p e below s₁ m #[(.ref a0), (.int (32 : Int32))] 8 t := fun t kt => pre134 t (by
      show oS p e below T129 m 77 #[rv a0, iv 32, iv 3, iv sh, iv 4, jv ac3, sn, iv 3] [] _
      refine XS.iinc X129.here hx rfl (hb hby d4_77) rfl (l' := #[rv a0, iv 32, iv 3, iv sh, iv 4, jv ac3, sn, iv 4]) rfl ?_
      show oS p e below T129 m 80 #[rv a0, iv 32, iv 3, iv sh, iv 4, jv ac3, sn, iv 4] [] _
      refine XS.goto X129.here hx rfl (pc0 := 80) (pc' := 45) rfl (hb hby d4_80) (by decide) (by decide) ?_
      show oS p e below T129 m 45 #[rv a0, iv 32, iv 3, iv sh, iv 4, jv ac3, sn, iv 4] [] _
      refine XS.iload X129.here hx rfl (hb hby d4_45) rfl ?_
      show oS p e below T129 m 47 #[rv a0, iv 32, iv 3, iv sh, iv 4, jv ac3, sn, iv 4] [(.int (4 : Int32))] _
      refine XS.iload X129.here hx rfl (hb hby d4_47) rfl ?_
      show oS p e below T129 m 49 #[rv a0, iv 32, iv 3, iv sh, iv 4, jv ac3, sn, iv 4] [(.int (4 : Int32)), (.int (4 : Int32))] _
      refine XS.icmpYes X129.here hx rfl (pc0 := 49) (pc' := 83) rfl (hb hby d4_49) rfl (flt (by decide : ¬ ((4 : Int32) < (4 : Int32)))).2.1 (by decide) (by decide) ?_
      show oS p e below T129 m 83 #[rv a0, iv 32, iv 3, iv sh, iv 4, jv ac3, sn, iv 4] [] _
      refine XS.lload X129.here hx rfl (hb hby d4_83) rfl ?_
      show oS p e below T129 m 85 #[rv a0, iv 32, iv 3, iv sh, iv 4, jv ac3, sn, iv 4] [(.long ac3)] _
      refine XS.iloadN X129.here hx rfl (hb hby d4_85) rfl ?_
      show oS p e below T129 m 86 #[rv a0, iv 32, iv 3, iv sh, iv 4, jv ac3, sn, iv 4] [(.int sh), (.long ac3)] _
      refine XS.lushr X129.here hx rfl (hb hby d4_86) rfl ?_
      show oS p e below T129 m 87 #[rv a0, iv 32, iv 3, iv sh, iv 4, jv ac3, sn, iv 4] [(.long ((ac3.toUInt64 >>> (sh &&& 0x3f).toInt64.toUInt64).toInt64))] _
      refine XS.lconst X129.here hx rfl (hb hby d4_87) ?_
      show oS p e below T129 m 88 #[rv a0, iv 32, iv 3, iv sh, iv 4, jv ac3, sn, iv 4] [(.long (1 : Int64)), (.long ((ac3.toUInt64 >>> (sh &&& 0x3f).toInt64.toUInt64).toInt64))] _
      refine XS.iloadN X129.here hx rfl (hb hby d4_88) rfl ?_
      show oS p e below T129 m 89 #[rv a0, iv 32, iv 3, iv sh, iv 4, jv ac3, sn, iv 4] [(.int (32 : Int32)), (.long (1 : Int64)), (.long ((ac3.toUInt64 >>> (sh &&& 0x3f).toInt64.toUInt64).toInt64))] _
      refine XS.lshl X129.here hx rfl (hb hby d4_89) rfl ?_
      show oS p e below T129 m 90 #[rv a0, iv 32, iv 3, iv sh, iv 4, jv ac3, sn, iv 4] [(.long ((1 : Int64) <<< ((32 : Int32) &&& 0x3f).toInt64)), (.long ((ac3.toUInt64 >>> (sh &&& 0x3f).toInt64.toUInt64).toInt64))] _
      refine XS.lconst X129.here hx rfl (hb hby d4_90) ?_
      show oS p e below T129 m 91 #[rv a0, iv 32, iv 3, iv sh, iv 4, jv ac3, sn, iv 4] [(.long (1 : Int64)), (.long ((1 : Int64) <<< ((32 : Int32) &&& 0x3f).toInt64)), (.long ((ac3.toUInt64 >>> (sh &&& 0x3f).toInt64.toUInt64).toInt64))] _
      refine XS.lsub X129.here hx rfl (hb hby d4_91) rfl ?_
      show oS p e below T129 m 92 #[rv a0, iv 32, iv 3, iv sh, iv 4, jv ac3, sn, iv 4] [(.long (((1 : Int64) <<< ((32 : Int32) &&& 0x3f).toInt64) - (1 : Int64))), (.long ((ac3.toUInt64 >>> (sh &&& 0x3f).toInt64.toUInt64).toInt64))] _
      refine XS.land X129.here hx rfl (hb hby d4_92) rfl ?_
      show oS p e below T129 m 93 #[rv a0, iv 32, iv 3, iv sh, iv 4, jv ac3, sn, iv 4] [(.long (((ac3.toUInt64 >>> (sh &&& 0x3f).toInt64.toUInt64).toInt64) &&& (((1 : Int64) <<< ((32 : Int32) &&& 0x3f).toInt64) - (1 : Int64))))] _
      refine XS.l2i X129.here hx rfl (hb hby d4_93) rfl ?_
      exact kt)
    clear pre134
    have hr0 : ((((ac3.toUInt64 >>> (sh &&& 0x3f).toInt64.toUInt64).toInt64) &&& (((1 : Int64) <<< ((32 : Int32) &&& 0x3f).toInt64) - (1 : Int64))).toInt32) = Int32.ofInt ((1 * (b0.toInt % 256) + 256 * (b1.toInt % 256) + 65536 * (b2.toInt % 256) + 16777216 * (b3.toInt % 256)) / 2 ^ ps.toInt.toNat) := own_fin ac3 sh ps (1 * (b0.toInt % 256) + 256 * (b1.toInt % 256) + 65536 * (b2.toInt % 256) + 16777216 * (b3.toInt % 256)) 3 16777216 (by decide) hps.1 hk3 hm118 (by omega) (by have q := hm134; omega)
    rw [hr0] at pre135
    obtain ⟨fs, hr, hrun, hended, hW, hsame⟩ := X129.leave (v := some (.int (Int32.ofInt ((1 * (b0.toInt % 256) + 256 * (b1.toInt % 256) + 65536 * (b2.toInt % 256) + 16777216 * (b3.toInt % 256)) / 2 ^ ps.toInt.toNat)))) (fun h => by rw [Bd.returns] at h; cases h)
    refine ⟨_, _, pre135 _ ?_, hrun, hended, _, _, rfl, ?_, ⟨_, rfl⟩, hW, hsame.mono (by decide) (by decide)⟩
    · show oS p e below T129 m 94 #[rv a0, iv 32, iv 3, iv sh, iv 4, jv ac3, sn, iv 4] [(.int (Int32.ofInt ((1 * (b0.toInt % 256) + 256 * (b1.toInt % 256) + 65536 * (b2.toInt % 256) + 16777216 * (b3.toInt % 256)) / 2 ^ ps.toInt.toNat)))] _
      exact retI X129 hx Bd.returns (hb hby d4_94) hr
    · show Q4p4 Z a0 ab sz ps ed kb b0 b1 b2 b3 h0 n0 _ T129.heap _
      rw [e129]
      exact ⟨rfl, N124, rfl⟩
  · have hk4 : ps.toInt / 8 = 4 := hk0.trans (by decide)
    have pre136 : ∀ t, oS p e below T2 m 9 #[rv a0, iv 32, iv 4, un, un, un, un, un] [(.ref a0)] t → oE p e below s₁ m #[(.ref a0), (.int (32 : Int32))] 8 t := fun t kt => pre5 t (by
      show oS p e below T2 m 8 #[rv a0, iv 32, iv 4, un, un, un, un, un] [] _
      refine XS.aloadN X2.here hx rfl (hb hby d4_8) rfl rfl ?_
      exact kt)
    clear pre5
    obtain ⟨T137, X137, e137, st137⟩ := getF X2 hx hZ hown (host := "") (Or.inl (hw _ (List.mem_of_getElem? (i := 23) rfl))) Via.refl e2 I_position (g := (mkF m 9 #[rv a0, iv 32, iv 4, un, un, un, un, un] [(.ref a0)])) rfl rfl (hb hby d4_9)
    have pre138 : ∀ t, oS p e below T137 m 12 #[rv a0, iv 32, iv 4, un, un, un, un, un] [(.long ps)] t → oE p e below s₁ m #[(.ref a0), (.int (32 : Int32))] 8 t := fun t kt => pre136 t (st137 _ kt)
    clear pre136 st137
    have pre139 : ∀ t, oS p e below T137 m 18 #[rv a0, iv 32, iv 4, iv ((ps &&& (7 : Int64)).toInt32), un, un, un, un] [] t → oE p e below s₁ m #[(.ref a0), (.int (32 : Int32))] 8 t := fun t kt => pre138 t (by
      show oS p e below T137 m 12 #[rv a0, iv 32, iv 4, un, un, un, un, un] [(.long ps)] _
      refine X137.ldc2Long hx hown (mvT hZ (hw _ (List.mem_of_getElem? (i := 32) rfl))) (g := (mkF m 12 #[rv a0, iv 32, iv 4, un, un, un, un, un] [(.long ps)])) rfl (hb hby d4_12) _ ?_
      show oS p e below T137 m 15 #[rv a0, iv 32, iv 4, un, un, un, un, un] [(.long (7 : Int64)), (.long ps)] _
      refine XS.land X137.here hx rfl (hb hby d4_15) rfl ?_
      show oS p e below T137 m 16 #[rv a0, iv 32, iv 4, un, un, un, un, un] [(.long (ps &&& (7 : Int64)))] _
      refine XS.l2i X137.here hx rfl (hb hby d4_16) rfl ?_
      show oS p e below T137 m 17 #[rv a0, iv 32, iv 4, un, un, un, un, un] [(.int ((ps &&& (7 : Int64)).toInt32))] _
      refine XS.istoreN X137.here hx rfl (hb hby d4_17) rfl (l' := #[rv a0, iv 32, iv 4, iv ((ps &&& (7 : Int64)).toInt32), un, un, un, un]) rfl ?_
      exact kt)
    clear pre138
    obtain ⟨sh, hm140, pre140⟩ : ∃ (sh : Int32), (sh.toInt = ps.toInt % 8) ∧ ∀ t, oS p e below T137 m 18 #[rv a0, iv 32, iv 4, iv sh, un, un, un, un] [] t → oE p e below s₁ m #[(.ref a0), (.int (32 : Int32))] 8 t := ⟨((ps &&& (7 : Int64)).toInt32), own_sh ps hps, pre139⟩
    clear pre139
    have pre141 : ∀ t, oS p e below T137 m 19 #[rv a0, iv 32, iv 4, iv sh, un, un, un, un] [(.ref a0)] t → oE p e below s₁ m #[(.ref a0), (.int (32 : Int32))] 8 t := fun t kt => pre140 t (by
      show oS p e below T137 m 18 #[rv a0, iv 32, iv 4, iv sh, un, un, un, un] [] _
      refine XS.aloadN X137.here hx rfl (hb hby d4_18) rfl rfl ?_
      exact kt)
    clear pre140
    obtain ⟨T142, X142, e142, st142⟩ := getF X137 hx hZ hown (host := "") (Or.inl (hw _ (List.mem_of_getElem? (i := 13) rfl))) Via.refl e137 I_data (g := (mkF m 19 #[rv a0, iv 32, iv 4, iv sh, un, un, un, un] [(.ref a0)])) rfl rfl (hb hby d4_19)
    have pre143 : ∀ t, oS p e below T142 m 22 #[rv a0, iv 32, iv 4, iv sh, un, un, un, un] [(.ref ab)] t → oE p e below s₁ m #[(.ref a0), (.int (32 : Int32))] 8 t := fun t kt => pre141 t (st142 _ kt)
    clear pre141 st142
    have tv144 := V1
    obtain ⟨cl144, Ar144, q144, S144, Ng144, H144, G144⟩ := tv144
    have pre145 : ∀ t, oS p e below T142 m 34 #[rv a0, iv 32, iv 4, iv sh, un, un, un, un] [(.int ((4 : Int32) + (((sh + (32 : Int32)) + (7 : Int32)) / (8 : Int32)))), (.int (4 : Int32))] t → oE p e below s₁ m #[(.ref a0), (.int (32 : Int32))] 8 t := fun t kt => pre143 t (by
      show oS p e below T142 m 22 #[rv a0, iv 32, iv 4, iv sh, un, un, un, un] [(.ref ab)] _
      refine X142.arraylength hx (by rw [e142]; exact Ar144.1) (State.isArrayOf_alike hZ.alike Ar144.2.1) (g := (mkF m 22 #[rv a0, iv 32, iv 4, iv sh, un, un, un, un] [(.ref ab)])) rfl rfl (hb hby d4_22) _ ?_
      rw [len_of S144 Ng144]
      show oS p e below T142 m 23 #[rv a0, iv 32, iv 4, iv sh, un, un, un, un] [(.int (4 : Int32))] _
      refine XS.iloadN X142.here hx rfl (hb hby d4_23) rfl ?_
      show oS p e below T142 m 24 #[rv a0, iv 32, iv 4, iv sh, un, un, un, un] [(.int (4 : Int32)), (.int (4 : Int32))] _
      refine XS.iloadN X142.here hx rfl (hb hby d4_24) rfl ?_
      show oS p e below T142 m 25 #[rv a0, iv 32, iv 4, iv sh, un, un, un, un] [(.int sh), (.int (4 : Int32)), (.int (4 : Int32))] _
      refine XS.iloadN X142.here hx rfl (hb hby d4_25) rfl ?_
      show oS p e below T142 m 26 #[rv a0, iv 32, iv 4, iv sh, un, un, un, un] [(.int (32 : Int32)), (.int sh), (.int (4 : Int32)), (.int (4 : Int32))] _
      refine XS.iadd X142.here hx rfl (hb hby d4_26) rfl ?_
      show oS p e below T142 m 27 #[rv a0, iv 32, iv 4, iv sh, un, un, un, un] [(.int (sh + (32 : Int32))), (.int (4 : Int32)), (.int (4 : Int32))] _
      refine XS.bipush X142.here hx rfl (hb hby d4_27) ?_
      show oS p e below T142 m 29 #[rv a0, iv 32, iv 4, iv sh, un, un, un, un] [(.int (7 : Int32)), (.int (sh + (32 : Int32))), (.int (4 : Int32)), (.int (4 : Int32))] _
      refine XS.iadd X142.here hx rfl (hb hby d4_29) rfl ?_
      show oS p e below T142 m 30 #[rv a0, iv 32, iv 4, iv sh, un, un, un, un] [(.int ((sh + (32 : Int32)) + (7 : Int32))), (.int (4 : Int32)), (.int (4 : Int32))] _
      refine XS.bipush X142.here hx rfl (hb hby d4_30) ?_
      show oS p e below T142 m 32 #[rv a0, iv 32, iv 4, iv sh, un, un, un, un] [(.int (8 : Int32)), (.int ((sh + (32 : Int32)) + (7 : Int32))), (.int (4 : Int32)), (.int (4 : Int32))] _
      refine XS.idiv X142.here hx rfl (hb hby d4_32) rfl (by decide) ?_
      show oS p e below T142 m 33 #[rv a0, iv 32, iv 4, iv sh, un, un, un, un] [(.int (((sh + (32 : Int32)) + (7 : Int32)) / (8 : Int32))), (.int (4 : Int32)), (.int (4 : Int32))] _
      refine XS.iadd X142.here hx rfl (hb hby d4_33) rfl ?_
      exact kt)
    clear pre143
    obtain ⟨_, _, ⟨T146, L146, k146, n146⟩, -, X146, ⟨Lc146, hQ146, l146, y146, z146⟩, st146⟩ := Jvm.LawKit.callS X142 hx (y := (⟨"java/lang/Math", "min", "(II)I"⟩ : MethodName)) hown (mvT hZ (hw _ (List.mem_of_getElem? (i := 33) rfl))) (mvT hZ (hw _ (List.mem_of_getElem? (i := 34) rfl))) (mvT hZ (hw _ (List.mem_of_getElem? (i := 35) rfl))) (mvT hZ (hw _ (List.mem_of_getElem? (i := 36) rfl))) (by decide) (backOf (W := 0) (rm5 l Z av hw [] (4 : Int32) ((4 : Int32) + (((sh + (32 : Int32)) + (7 : Int32)) / (8 : Int32)))  h0 n0 Z0 ) hZ (hw _ (List.mem_of_getElem? (i := 36) rfl)) (hw _ (List.mem_of_getElem? (i := 35) rfl)) (by decide) (by decide)) (g := (mkF m 34 #[rv a0, iv 32, iv 4, iv sh, un, un, un, un] [(.int ((4 : Int32) + (((sh + (32 : Int32)) + (7 : Int32)) / (8 : Int32)))), (.int (4 : Int32))])) rfl (by rw [hml]; rfl) (argsL := [(.int (4 : Int32)), (.int ((4 : Int32) + (((sh + (32 : Int32)) + (7 : Int32)) / (8 : Int32))))]) (rest := []) (lenOf pd__II_I rfl) rfl (by show 2 * 0 + _ ≤ _; exact Nat.le_of_eq rfl) (hb hby d4_34) (fun _ _ => ⟨rfl, e142, (by decide : 0 + 0 ≤ _), (by decide : 0 + 0 ≤ _)⟩)
    dsimp only [Pt.U, Pt.locs, Pt.cells, Pt.slots] at X146 l146 y146 z146 st146 hQ146
    rw [l146, y146, z146] at X146
    clear l146 y146 z146
    obtain ⟨rfl, N146q, e146⟩ := hQ146
    have N146 := Fr.app N0 N146q
    have pre147 : ∀ t, oS p e below T146 m 37 #[rv a0, iv 32, iv 4, iv sh, un, un, un, un] [(.int (f_min (4 : Int32) ((4 : Int32) + (((sh + (32 : Int32)) + (7 : Int32)) / (8 : Int32)))))] t → oE p e below s₁ m #[(.ref a0), (.int (32 : Int32))] 8 t := fun t kt => pre145 t (st146 _ kt)
    clear pre145 st146
    have pre148 : ∀ t, oS p e below T146 m 39 #[rv a0, iv 32, iv 4, iv sh, iv (f_min (4 : Int32) ((4 : Int32) + (((sh + (32 : Int32)) + (7 : Int32)) / (8 : Int32)))), un, un, un] [] t → oE p e below s₁ m #[(.ref a0), (.int (32 : Int32))] 8 t := fun t kt => pre147 t (by
      show oS p e below T146 m 37 #[rv a0, iv 32, iv 4, iv sh, un, un, un, un] [(.int (f_min (4 : Int32) ((4 : Int32) + (((sh + (32 : Int32)) + (7 : Int32)) / (8 : Int32)))))] _
      refine XS.istore X146.here hx rfl (hb hby d4_37) rfl (l' := #[rv a0, iv 32, iv 4, iv sh, iv (f_min (4 : Int32) ((4 : Int32) + (((sh + (32 : Int32)) + (7 : Int32)) / (8 : Int32)))), un, un, un]) rfl ?_
      exact kt)
    clear pre147
    obtain ⟨en, hm149, pre149⟩ : ∃ (en : Int32), (en = (4 : Int32)) ∧ ∀ t, oS p e below T146 m 39 #[rv a0, iv 32, iv 4, iv sh, iv en, un, un, un] [] t → oE p e below s₁ m #[(.ref a0), (.int (32 : Int32))] 8 t := ⟨(f_min (4 : Int32) ((4 : Int32) + (((sh + (32 : Int32)) + (7 : Int32)) / (8 : Int32)))), own_enG (4 : Int32) (4 : Int32) sh (by decide) (by decide) hm140, pre148⟩
    clear pre148
    subst hm149
    have pre150 : ∀ t, oS p e below T146 m 94 #[rv a0, iv 32, iv 4, iv sh, iv 4, jv 0, sn, iv 4] [(.int (((((0 : Int64).toUInt64 >>> (sh &&& 0x3f).toInt64.toUInt64).toInt64) &&& (((1 : Int64) <<< ((32 : Int32) &&& 0x3f).toInt64) - (1 : Int64))).toInt32))] t → oE p e below s₁ m #[(.ref a0), (.int (32 : Int32))] 8 t := fun t kt => pre149 t (by
      show oS p e below T146 m 39 #[rv a0, iv 32, iv 4, iv sh, iv 4, un, un, un] [] _
      refine XS.lconst X146.here hx rfl (hb hby d4_39) ?_
      show oS p e below T146 m 40 #[rv a0, iv 32, iv 4, iv sh, iv 4, un, un, un] [(.long (0 : Int64))] _
      refine XS.lstore X146.here hx rfl (hb hby d4_40) rfl (l' := #[rv a0, iv 32, iv 4, iv sh, iv 4, jv 0, sn, un]) rfl ?_
      show oS p e below T146 m 42 #[rv a0, iv 32, iv 4, iv sh, iv 4, jv 0, sn, un] [] _
      refine XS.iloadN X146.here hx rfl (hb hby d4_42) rfl ?_
      show oS p e below T146 m 43 #[rv a0, iv 32, iv 4, iv sh, iv 4, jv 0, sn, un] [(.int (4 : Int32))] _
      refine XS.istore X146.here hx rfl (hb hby d4_43) rfl (l' := #[rv a0, iv 32, iv 4, iv sh, iv 4, jv 0, sn, iv 4]) rfl ?_
      show oS p e below T146 m 45 #[rv a0, iv 32, iv 4, iv sh, iv 4, jv 0, sn, iv 4] [] _
      refine XS.iload X146.here hx rfl (hb hby d4_45) rfl ?_
      show oS p e below T146 m 47 #[rv a0, iv 32, iv 4, iv sh, iv 4, jv 0, sn, iv 4] [(.int (4 : Int32))] _
      refine XS.iload X146.here hx rfl (hb hby d4_47) rfl ?_
      show oS p e below T146 m 49 #[rv a0, iv 32, iv 4, iv sh, iv 4, jv 0, sn, iv 4] [(.int (4 : Int32)), (.int (4 : Int32))] _
      refine XS.icmpYes X146.here hx rfl (pc0 := 49) (pc' := 83) rfl (hb hby d4_49) rfl (flt (by decide : ¬ ((4 : Int32) < (4 : Int32)))).2.1 (by decide) (by decide) ?_
      show oS p e below T146 m 83 #[rv a0, iv 32, iv 4, iv sh, iv 4, jv 0, sn, iv 4] [] _
      refine XS.lload X146.here hx rfl (hb hby d4_83) rfl ?_
      show oS p e below T146 m 85 #[rv a0, iv 32, iv 4, iv sh, iv 4, jv 0, sn, iv 4] [(.long (0 : Int64))] _
      refine XS.iloadN X146.here hx rfl (hb hby d4_85) rfl ?_
      show oS p e below T146 m 86 #[rv a0, iv 32, iv 4, iv sh, iv 4, jv 0, sn, iv 4] [(.int sh), (.long (0 : Int64))] _
      refine XS.lushr X146.here hx rfl (hb hby d4_86) rfl ?_
      show oS p e below T146 m 87 #[rv a0, iv 32, iv 4, iv sh, iv 4, jv 0, sn, iv 4] [(.long (((0 : Int64).toUInt64 >>> (sh &&& 0x3f).toInt64.toUInt64).toInt64))] _
      refine XS.lconst X146.here hx rfl (hb hby d4_87) ?_
      show oS p e below T146 m 88 #[rv a0, iv 32, iv 4, iv sh, iv 4, jv 0, sn, iv 4] [(.long (1 : Int64)), (.long (((0 : Int64).toUInt64 >>> (sh &&& 0x3f).toInt64.toUInt64).toInt64))] _
      refine XS.iloadN X146.here hx rfl (hb hby d4_88) rfl ?_
      show oS p e below T146 m 89 #[rv a0, iv 32, iv 4, iv sh, iv 4, jv 0, sn, iv 4] [(.int (32 : Int32)), (.long (1 : Int64)), (.long (((0 : Int64).toUInt64 >>> (sh &&& 0x3f).toInt64.toUInt64).toInt64))] _
      refine XS.lshl X146.here hx rfl (hb hby d4_89) rfl ?_
      show oS p e below T146 m 90 #[rv a0, iv 32, iv 4, iv sh, iv 4, jv 0, sn, iv 4] [(.long ((1 : Int64) <<< ((32 : Int32) &&& 0x3f).toInt64)), (.long (((0 : Int64).toUInt64 >>> (sh &&& 0x3f).toInt64.toUInt64).toInt64))] _
      refine XS.lconst X146.here hx rfl (hb hby d4_90) ?_
      show oS p e below T146 m 91 #[rv a0, iv 32, iv 4, iv sh, iv 4, jv 0, sn, iv 4] [(.long (1 : Int64)), (.long ((1 : Int64) <<< ((32 : Int32) &&& 0x3f).toInt64)), (.long (((0 : Int64).toUInt64 >>> (sh &&& 0x3f).toInt64.toUInt64).toInt64))] _
      refine XS.lsub X146.here hx rfl (hb hby d4_91) rfl ?_
      show oS p e below T146 m 92 #[rv a0, iv 32, iv 4, iv sh, iv 4, jv 0, sn, iv 4] [(.long (((1 : Int64) <<< ((32 : Int32) &&& 0x3f).toInt64) - (1 : Int64))), (.long (((0 : Int64).toUInt64 >>> (sh &&& 0x3f).toInt64.toUInt64).toInt64))] _
      refine XS.land X146.here hx rfl (hb hby d4_92) rfl ?_
      show oS p e below T146 m 93 #[rv a0, iv 32, iv 4, iv sh, iv 4, jv 0, sn, iv 4] [(.long ((((0 : Int64).toUInt64 >>> (sh &&& 0x3f).toInt64.toUInt64).toInt64) &&& (((1 : Int64) <<< ((32 : Int32) &&& 0x3f).toInt64) - (1 : Int64))))] _
      refine XS.l2i X146.here hx rfl (hb hby d4_93) rfl ?_
      exact kt)
    clear pre149
    have hr0 : (((((0 : Int64).toUInt64 >>> (sh &&& 0x3f).toInt64.toUInt64).toInt64) &&& (((1 : Int64) <<< ((32 : Int32) &&& 0x3f).toInt64) - (1 : Int64))).toInt32) = Int32.ofInt ((1 * (b0.toInt % 256) + 256 * (b1.toInt % 256) + 65536 * (b2.toInt % 256) + 16777216 * (b3.toInt % 256)) / 2 ^ ps.toInt.toNat) := own_fin (0 : Int64) sh ps (1 * (b0.toInt % 256) + 256 * (b1.toInt % 256) + 65536 * (b2.toInt % 256) + 16777216 * (b3.toInt % 256)) 4 4294967296 (by decide) hps.1 hk4 hm140 (by omega) (by have q : (0 : Int64).toInt = 0 := (by decide); omega)
    rw [hr0] at pre150
    obtain ⟨fs, hr, hrun, hended, hW, hsame⟩ := X146.leave (v := some (.int (Int32.ofInt ((1 * (b0.toInt % 256) + 256 * (b1.toInt % 256) + 65536 * (b2.toInt % 256) + 16777216 * (b3.toInt % 256)) / 2 ^ ps.toInt.toNat)))) (fun h => by rw [Bd.returns] at h; cases h)
    refine ⟨_, _, pre150 _ ?_, hrun, hended, _, _, rfl, ?_, ⟨_, rfl⟩, hW, hsame.mono (by decide) (by decide)⟩
    · show oS p e below T146 m 94 #[rv a0, iv 32, iv 4, iv sh, iv 4, jv 0, sn, iv 4] [(.int (Int32.ofInt ((1 * (b0.toInt % 256) + 256 * (b1.toInt % 256) + 65536 * (b2.toInt % 256) + 16777216 * (b3.toInt % 256)) / 2 ^ ps.toInt.toNat)))] _
      exact retI X146 hx Bd.returns (hb hby d4_94) hr
    · show Q4p4 Z a0 ab sz ps ed kb b0 b1 b2 b3 h0 n0 _ T146.heap _
      rw [e146]
      exact ⟨rfl, N146, rfl⟩
theorem own_nn (x : Int32) : 0 ≤ (x &&& (2147483647 : Int32)).toInt := by
  have := c_mask x (2147483647 : Int32) 31 (by decide) (by decide)
  omega
theorem own_n5 (x : Int32) : ((x &&& (2147483647 : Int32)) % (5 : Int32)) = (0 : Int32) ∨ ((x &&& (2147483647 : Int32)) % (5 : Int32)) = (1 : Int32) ∨ ((x &&& (2147483647 : Int32)) % (5 : Int32)) = (2 : Int32) ∨ ((x &&& (2147483647 : Int32)) % (5 : Int32)) = (3 : Int32) ∨ ((x &&& (2147483647 : Int32)) % (5 : Int32)) = (4 : Int32) := by
  have h2 := (c_irem (x &&& (2147483647 : Int32)) (5 : Int32) 5 (by decide)).1 (own_nn x)
  simp only [← Int32.toInt_inj, Int32.reduceToInt]
  omega
theorem own_narb (y : Int32) : y.toInt8.toInt32.toInt8.toInt32 = y.toInt8.toInt32 := by simp
theorem own_63 (x : Int32) : 0 ≤ (x &&& (63 : Int32)).toInt ∧ (x &&& (63 : Int32)).toInt ≤ 63 := by
  have := c_mask x (63 : Int32) 6 (by decide) (by decide)
  omega
theorem own_by0 (p1 : Int32) : (p1.toInt8.toInt32).toInt % 256 = p1.toInt % 256 := by
  have d := c_i2b p1
  omega
theorem own_skr (n8 b : Int) (SZ ps ps' pv : Int64) (c rv rr ed ed' : Int32) (hSZ : SZ.toInt = n8) (hn : 0 ≤ n8 ∧ n8 ≤ 32) (hps : ps.toInt = b) (hb : 0 ≤ b ∧ b ≤ n8) (hc : 0 ≤ c.toInt)
    (hr : (rr = (1 : Int32) ∧ c.toInt ≤ n8 - b ∧ pv.toInt = b + c.toInt) ∨ (rr = (0 : Int32) ∧ n8 - b < c.toInt ∧ pv.toInt = n8))
    (R : ((SZ - ps) < (c.toInt64) ∧ rv = (0 : Int32) ∧ ps' = SZ ∧ ed' = (1 : Int32)) ∨ (¬ (SZ - ps) < (c.toInt64) ∧ rv = (1 : Int32) ∧ ps' = (ps + (c.toInt64)) ∧ ed' = ed)) :
    rv = rr ∧ ps'.toInt = pv.toInt ∧ (0 ≤ ps'.toInt ∧ ps'.toInt ≤ n8) ∧ ((rr = (1 : Int32) ∧ ed' = ed) ∨ (rr = (0 : Int32) ∧ ed' = (1 : Int32))) := by
  have e1 := c_i2l c
  have r1 := rng32 c
  have e2 : (SZ - ps).toInt = n8 - b := by
    have e := c_lsub SZ ps
    have r := rng64 (SZ - ps)
    omega
  have e3 : (ps + (c.toInt64)).toInt = b + c.toInt := by
    have e := c_ladd ps c.toInt64
    have r := rng64 (ps + c.toInt64)
    omega
  rw [Int64.lt_iff_toInt_lt, e1, e2] at R
  rcases hr with ⟨a1, a2, a3⟩ | ⟨a1, a2, a3⟩ <;> rcases R with ⟨b1, b2, b3, b4⟩ | ⟨b1, b2, b3, b4⟩
  · omega
  · rw [a1, b2, b3, b4, e3, a3]
    exact ⟨rfl, rfl, by omega, Or.inl ⟨rfl, rfl⟩⟩
  · rw [a1, b2, b3, b4, hSZ, a3]
    exact ⟨rfl, rfl, by omega, Or.inr ⟨rfl, rfl⟩⟩
  · omega
theorem own_r1a (c : Int32) (k : Int64) (n8 : Int) (hk : k.toInt = n8) (h : ¬ k < (c.toInt64)) : ((1 : Int32) = (1 : Int32) ∧ c.toInt ≤ n8 - 0 ∧ (c.toInt64).toInt = 0 + c.toInt) ∨ ((1 : Int32) = (0 : Int32) ∧ n8 - 0 < c.toInt ∧ (c.toInt64).toInt = n8) := by
  have e1 := c_i2l c
  rw [Int64.lt_iff_toInt_lt, e1, hk] at h
  exact Or.inl ⟨rfl, by omega, by omega⟩
theorem own_r1b (c : Int32) (k : Int64) (n8 : Int) (hk : k.toInt = n8) (h : k < (c.toInt64)) : ((0 : Int32) = (1 : Int32) ∧ c.toInt ≤ n8 - 0 ∧ k.toInt = 0 + c.toInt) ∨ ((0 : Int32) = (0 : Int32) ∧ n8 - 0 < c.toInt ∧ k.toInt = n8) := by
  have e1 := c_i2l c
  rw [Int64.lt_iff_toInt_lt, e1, hk] at h
  exact Or.inr ⟨rfl, by omega, hk⟩
theorem own_r2a (c : Int32) (k pv : Int64) (n8 : Int) (hk : k.toInt = n8) (hn : 0 ≤ n8 ∧ n8 ≤ 32) (hp : 0 ≤ pv.toInt ∧ pv.toInt ≤ n8) (hc : 0 ≤ c.toInt) (h : ¬ (k - pv) < (c.toInt64)) : ((1 : Int32) = (1 : Int32) ∧ c.toInt ≤ n8 - pv.toInt ∧ (pv + (c.toInt64)).toInt = pv.toInt + c.toInt) ∨ ((1 : Int32) = (0 : Int32) ∧ n8 - pv.toInt < c.toInt ∧ (pv + (c.toInt64)).toInt = n8) := by
  have e1 := c_i2l c
  have r1 := rng32 c
  have e2 : (k - pv).toInt = n8 - pv.toInt := by
    have e := c_lsub k pv
    have r := rng64 (k - pv)
    omega
  have e3 : (pv + (c.toInt64)).toInt = pv.toInt + c.toInt := by
    have e := c_ladd pv c.toInt64
    have r := rng64 (pv + c.toInt64)
    omega
  rw [Int64.lt_iff_toInt_lt, e1, e2] at h
  exact Or.inl ⟨rfl, by omega, e3⟩
theorem own_r2b (c : Int32) (k pv : Int64) (n8 : Int) (hk : k.toInt = n8) (hn : 0 ≤ n8 ∧ n8 ≤ 32) (hp : 0 ≤ pv.toInt ∧ pv.toInt ≤ n8) (hc : 0 ≤ c.toInt) (h : (k - pv) < (c.toInt64)) : ((0 : Int32) = (1 : Int32) ∧ c.toInt ≤ n8 - pv.toInt ∧ k.toInt = pv.toInt + c.toInt) ∨ ((0 : Int32) = (0 : Int32) ∧ n8 - pv.toInt < c.toInt ∧ k.toInt = n8) := by
  have e1 := c_i2l c
  have r1 := rng32 c
  have e2 : (k - pv).toInt = n8 - pv.toInt := by
    have e := c_lsub k pv
    have r := rng64 (k - pv)
    omega
  rw [Int64.lt_iff_toInt_lt, e1, e2] at h
  exact Or.inr ⟨rfl, by omega, hk⟩
theorem own_pb (n8 : Int) (r c : Int32) (pv : Int64) (hn : 0 ≤ n8 ∧ n8 ≤ 32) (hc : 0 ≤ c.toInt) (h : (r = (1 : Int32) ∧ c.toInt ≤ n8 - 0 ∧ pv.toInt = 0 + c.toInt) ∨ (r = (0 : Int32) ∧ n8 - 0 < c.toInt ∧ pv.toInt = n8)) : 0 ≤ pv.toInt ∧ pv.toInt ≤ n8 := by
  rcases h with ⟨a1, a2, a3⟩ | ⟨a1, a2, a3⟩ <;> omega
theorem own_nar1 (r d : Int32) (h : (r = (1 : Int32) ∧ d = (0 : Int32)) ∨ (r = (0 : Int32) ∧ d = (1 : Int32))) : nar .boolean d = d := by
  rcases h with ⟨_, rfl⟩ | ⟨_, rfl⟩ <;> rfl
theorem own_nar2 (r d r2 d2 : Int32) (h : (r = (1 : Int32) ∧ d = (0 : Int32)) ∨ (r = (0 : Int32) ∧ d = (1 : Int32))) (h2 : (r2 = (1 : Int32) ∧ d2 = d) ∨ (r2 = (0 : Int32) ∧ d2 = (1 : Int32))) : nar .boolean d2 = d2 := by
  rcases h with ⟨_, rfl⟩ | ⟨_, rfl⟩ <;> rcases h2 with ⟨_, rfl⟩ | ⟨_, rfl⟩ <;> rfl
theorem own_e1 (r d : Int32) (h : (r = (1 : Int32) ∧ d = (0 : Int32)) ∨ (r = (0 : Int32) ∧ d = (1 : Int32))) : d = (if r = (0 : Int32) then (1 : Int32) else (0 : Int32)) := by
  rcases h with ⟨rfl, rfl⟩ | ⟨rfl, rfl⟩ <;> rfl
theorem own_e2 (r d r2 d2 : Int32) (h : (r = (1 : Int32) ∧ d = (0 : Int32)) ∨ (r = (0 : Int32) ∧ d = (1 : Int32))) (h2 : (r2 = (1 : Int32) ∧ d2 = d) ∨ (r2 = (0 : Int32) ∧ d2 = (1 : Int32))) : d2 = (if r = (0 : Int32) then (1 : Int32) else if r2 = (0 : Int32) then (1 : Int32) else (0 : Int32)) := by
  rcases h with ⟨rfl, rfl⟩ | ⟨rfl, rfl⟩ <;> rcases h2 with ⟨rfl, rfl⟩ | ⟨rfl, rfl⟩ <;> rfl
theorem own_by1 (p1 : Int32) : (((p1.toUInt32 >>> ((8 : Int32) &&& 31).toUInt32).toInt32).toInt8.toInt32).toInt % 256 = ((p1.toInt % 4294967296) / 256) % 256 := by
  have u := c_iushr p1 (8 : Int32) 8 (by decide) (by decide)
  have d := c_i2b ((p1.toUInt32 >>> ((8 : Int32) &&& 31).toUInt32).toInt32)
  have q : ((2 ^ 8 : Nat) : Int) = 256 := rfl
  rw [q] at u
  rw [u] at d
  omega
theorem own_by2 (p1 : Int32) : (((p1.toUInt32 >>> ((16 : Int32) &&& 31).toUInt32).toInt32).toInt8.toInt32).toInt % 256 = ((p1.toInt % 4294967296) / 65536) % 256 := by
  have u := c_iushr p1 (16 : Int32) 16 (by decide) (by decide)
  have d := c_i2b ((p1.toUInt32 >>> ((16 : Int32) &&& 31).toUInt32).toInt32)
  have q : ((2 ^ 16 : Nat) : Int) = 65536 := rfl
  rw [q] at u
  rw [u] at d
  omega
theorem own_by3 (p1 : Int32) : (((p1.toUInt32 >>> ((24 : Int32) &&& 31).toUInt32).toInt32).toInt8.toInt32).toInt % 256 = ((p1.toInt % 4294967296) / 16777216) % 256 := by
  have u := c_iushr p1 (24 : Int32) 24 (by decide) (by decide)
  have d := c_i2b ((p1.toUInt32 >>> ((24 : Int32) &&& 31).toUInt32).toInt32)
  have q : ((2 ^ 24 : Nat) : Int) = 16777216 := rfl
  rw [q] at u
  rw [u] at d
  omega
theorem own_wh0 (p1 : Int32) : (((p1.toInt64) &&& (4294967295 : Int64)) &&& (((1 : Int64) <<< ((0 : Int32) &&& 0x3f).toInt64) - (1 : Int64))).toInt = p1.toInt % 4294967296 % 1 := by
  have a := c_maskL p1.toInt64 (4294967295 : Int64) 32 (by decide) (by decide)
  have b := c_maskL ((p1.toInt64) &&& (4294967295 : Int64)) (((1 : Int64) <<< ((0 : Int32) &&& 0x3f).toInt64) - (1 : Int64)) 0 (by decide) (by decide)
  have c := c_i2l p1
  have q : ((2 ^ 32 : Nat) : Int) = 4294967296 := rfl
  have q2 : ((2 ^ 0 : Nat) : Int) = 1 := rfl
  rw [q] at a
  rw [q2] at b
  rw [b, a, c]
theorem own_wh1 (p1 : Int32) : (((p1.toInt64) &&& (4294967295 : Int64)) &&& (((1 : Int64) <<< ((8 : Int32) &&& 0x3f).toInt64) - (1 : Int64))).toInt = p1.toInt % 4294967296 % 256 := by
  have a := c_maskL p1.toInt64 (4294967295 : Int64) 32 (by decide) (by decide)
  have b := c_maskL ((p1.toInt64) &&& (4294967295 : Int64)) (((1 : Int64) <<< ((8 : Int32) &&& 0x3f).toInt64) - (1 : Int64)) 8 (by decide) (by decide)
  have c := c_i2l p1
  have q : ((2 ^ 32 : Nat) : Int) = 4294967296 := rfl
  have q2 : ((2 ^ 8 : Nat) : Int) = 256 := rfl
  rw [q] at a
  rw [q2] at b
  rw [b, a, c]
theorem own_wh2 (p1 : Int32) : (((p1.toInt64) &&& (4294967295 : Int64)) &&& (((1 : Int64) <<< ((16 : Int32) &&& 0x3f).toInt64) - (1 : Int64))).toInt = p1.toInt % 4294967296 % 65536 := by
  have a := c_maskL p1.toInt64 (4294967295 : Int64) 32 (by decide) (by decide)
  have b := c_maskL ((p1.toInt64) &&& (4294967295 : Int64)) (((1 : Int64) <<< ((16 : Int32) &&& 0x3f).toInt64) - (1 : Int64)) 16 (by decide) (by decide)
  have c := c_i2l p1
  have q : ((2 ^ 32 : Nat) : Int) = 4294967296 := rfl
  have q2 : ((2 ^ 16 : Nat) : Int) = 65536 := rfl
  rw [q] at a
  rw [q2] at b
  rw [b, a, c]
theorem own_wh3 (p1 : Int32) : (((p1.toInt64) &&& (4294967295 : Int64)) &&& (((1 : Int64) <<< ((24 : Int32) &&& 0x3f).toInt64) - (1 : Int64))).toInt = p1.toInt % 4294967296 % 16777216 := by
  have a := c_maskL p1.toInt64 (4294967295 : Int64) 32 (by decide) (by decide)
  have b := c_maskL ((p1.toInt64) &&& (4294967295 : Int64)) (((1 : Int64) <<< ((24 : Int32) &&& 0x3f).toInt64) - (1 : Int64)) 24 (by decide) (by decide)
  have c := c_i2l p1
  have q : ((2 ^ 32 : Nat) : Int) = 4294967296 := rfl
  have q2 : ((2 ^ 24 : Nat) : Int) = 16777216 := rfl
  rw [q] at a
  rw [q2] at b
  rw [b, a, c]
theorem own_wh4 (p1 : Int32) : (((p1.toInt64) &&& (4294967295 : Int64)) &&& (((1 : Int64) <<< ((32 : Int32) &&& 0x3f).toInt64) - (1 : Int64))).toInt = p1.toInt % 4294967296 % 4294967296 := by
  have a := c_maskL p1.toInt64 (4294967295 : Int64) 32 (by decide) (by decide)
  have b := c_maskL ((p1.toInt64) &&& (4294967295 : Int64)) (((1 : Int64) <<< ((32 : Int32) &&& 0x3f).toInt64) - (1 : Int64)) 32 (by decide) (by decide)
  have c := c_i2l p1
  have q : ((2 ^ 32 : Nat) : Int) = 4294967296 := rfl
  have q2 : ((2 ^ 32 : Nat) : Int) = 4294967296 := rfl
  rw [q] at a
  rw [q2] at b
  rw [b, a, c]
theorem own_irem (x y : Int32) : x - (x / y) * y = x % y := by
  rw [← Int32.toInt_inj, Int32.toInt_sub, Int32.toInt_mul, Int32.toInt_div, Int.bmod_mul_bmod, Int.sub_bmod_bmod, Int.mul_comm, ← Int.tmod_def, ← Int32.toInt_mod]
  exact Int32.toInt_bmod _
theorem pd___B_V : parseMethodDescriptor "([B)V" = some ⟨[(.array .byte)], none⟩ := by decide +kernel
theorem pd__I_Z : parseMethodDescriptor "(I)Z" = some ⟨[.int], some .boolean⟩ := by decide +kernel
theorem pd__I_I : parseMethodDescriptor "(I)I" = some ⟨[.int], some .int⟩ := by decide +kernel
theorem pd___Z : parseMethodDescriptor "()Z" = some ⟨[], some .boolean⟩ := by decide +kernel
theorem ef0 (m : MethodId) (x0 : Int32) (x1 : Int32) (x2 : Int32) (x3 : Int32) : entryFrame m #[(.int x0), (.int x1), (.int x2), (.int x3)] maxLocals = mkF m 0 #[iv x0, iv x1, iv x2, iv x3, un, un, un, un, un, un, un, un, un, un, un, un, un, un, un, un, un, un, un, un, un] [] := by first | (simp [entryFrame, mkF, argsToLocals, Value.category, maxLocals]; done) | rfl
def Q0 (Z : State) (p0 : Int32) (p1 : Int32) (p2 : Int32) (p3 : Int32) (h0 : Heap) (n0 : Nat) (v : Option Value) (h : Heap) (L : List Loc) : Prop := v = some (.int 1) ∧ Fr n0 L
set_option maxRecDepth 65536 in
set_option maxHeartbeats 40000000 in
theorem rm0 (l : Launch) (Z : State) (av : Array Value) (hw : ∀ d ∈ tables_1, d.before av Z = true) (ws : List Jvm.Cond) (p0 : Int32) (p1 : Int32) (p2 : Int32) (p3 : Int32) (h0 : Heap) (n0 : Nat) (Z0 : n0 ≤ h0.size) :
    MetFree l x (head1 (Jvm.Cond.code x code maxLocals ret :: ws) room_1) (fun a U => a = #[(.int p0), (.int p1), (.int p2), (.int p3)] ∧ Z.Warmed39 U.vm ∧ U.heap = h0) (fun _ _ _ _ _ => True) (fun _ U o U' => ∃ v L, o = .returned v ∧ Q0 Z p0 p1 p2 p3 h0 n0 v U'.heap L ∧ FrameEnd U o U' L room_1.cells room_1.slots) := by
  refine MetFree.of_bodySF (plainFor_of_name pn_com_example_baton_baton_core_format_VorbisBitsSkipPinLaw) hisR ?_
  intro p e s m args below meth c s₁ Bd hml0 hP hK
  obtain ⟨rfl, hZ, hh⟩ := hP
  have hx := Bd.exec
  have hby := Bd.bytes
  have hml : c.maxLocals = 25 := hml0
  have hown : s.vm.findClass "com/example/baton/baton/core/format/VorbisBitsSkipPinLaw" = some m.cls := by have h := findClass_of_methodNamed Bd.named; exact h
  have hnm := (name_of_methodNamed Bd.named Bd.method).1
  have X0 : Stand p l e room_1 s m #[(.int p0), (.int p1), (.int p2), (.int p3)] below meth c s₁ [] 0 0 := Stand.of_body Bd
  have e0 : s₁.heap = h0 := by rw [← hh, Bd.state]; rfl
  have N0 := Fr.nil n0
  have K0 : Keep h0 h0 [] := Keep.refl h0 []
  have pre0 : ∀ t, Steps p.tables e below (s₁.setTop (mkF m 0 #[iv p0, iv p1, iv p2, iv p3, un, un, un, un, un, un, un, un, un, un, un, un, un, un, un, un, un, un, un, un, un] [])) t → Steps p.tables e below (s₁.setTop (entryFrame m #[(.int p0), (.int p1), (.int p2), (.int p3)] maxLocals)) t := fun t k => castTop (ef0 m p0 p1 p2 p3) k
  have pre1 : ∀ t, oS p e below s₁ m 8 #[iv p0, iv p1, iv p2, iv p3, iv ((p0 &&& (2147483647 : Int32)) % (5 : Int32)), un, un, un, un, un, un, un, un, un, un, un, un, un, un, un, un, un, un, un, un] [] t → oE p e below s₁ m #[(.int p0), (.int p1), (.int p2), (.int p3)] maxLocals t := fun t kt => pre0 t (by
    show oS p e below s₁ m 0 #[iv p0, iv p1, iv p2, iv p3, un, un, un, un, un, un, un, un, un, un, un, un, un, un, un, un, un, un, un, un, un] [] _
    refine XS.iloadN X0.here hx rfl (hb hby at_0) rfl ?_
    show oS p e below s₁ m 1 #[iv p0, iv p1, iv p2, iv p3, un, un, un, un, un, un, un, un, un, un, un, un, un, un, un, un, un, un, un, un, un] [(.int p0)] _
    refine X0.ldcInt hx hown (mvT hZ (hw _ (List.mem_of_getElem? (i := 0) rfl))) (g := (mkF m 1 #[iv p0, iv p1, iv p2, iv p3, un, un, un, un, un, un, un, un, un, un, un, un, un, un, un, un, un, un, un, un, un] [(.int p0)])) rfl (hb hby at_1) _ ?_
    show oS p e below s₁ m 3 #[iv p0, iv p1, iv p2, iv p3, un, un, un, un, un, un, un, un, un, un, un, un, un, un, un, un, un, un, un, un, un] [(.int (2147483647 : Int32)), (.int p0)] _
    refine XS.iand X0.here hx rfl (hb hby at_3) rfl ?_
    show oS p e below s₁ m 4 #[iv p0, iv p1, iv p2, iv p3, un, un, un, un, un, un, un, un, un, un, un, un, un, un, un, un, un, un, un, un, un] [(.int (p0 &&& (2147483647 : Int32)))] _
    refine XS.iconst X0.here hx rfl (hb hby at_4) ?_
    show oS p e below s₁ m 5 #[iv p0, iv p1, iv p2, iv p3, un, un, un, un, un, un, un, un, un, un, un, un, un, un, un, un, un, un, un, un, un] [(.int (5 : Int32)), (.int (p0 &&& (2147483647 : Int32)))] _
    refine XS.irem X0.here hx rfl (hb hby at_5) rfl (by decide) ?_
    rw [own_irem]
    show oS p e below s₁ m 6 #[iv p0, iv p1, iv p2, iv p3, un, un, un, un, un, un, un, un, un, un, un, un, un, un, un, un, un, un, un, un, un] [(.int ((p0 &&& (2147483647 : Int32)) % (5 : Int32)))] _
    refine XS.istore X0.here hx rfl (hb hby at_6) rfl (l' := #[iv p0, iv p1, iv p2, iv p3, iv ((p0 &&& (2147483647 : Int32)) % (5 : Int32)), un, un, un, un, un, un, un, un, un, un, un, un, un, un, un, un, un, un, un, un]) rfl ?_
    exact kt)
  clear pre0
  obtain ⟨vn, hm2, pre2⟩ : ∃ (vn : Int32), (vn = (0 : Int32) ∨ vn = (1 : Int32) ∨ vn = (2 : Int32) ∨ vn = (3 : Int32) ∨ vn = (4 : Int32)) ∧ ∀ t, oS p e below s₁ m 8 #[iv p0, iv p1, iv p2, iv p3, iv vn, un, un, un, un, un, un, un, un, un, un, un, un, un, un, un, un, un, un, un, un] [] t → oE p e below s₁ m #[(.int p0), (.int p1), (.int p2), (.int p3)] maxLocals t := ⟨((p0 &&& (2147483647 : Int32)) % (5 : Int32)), own_n5 p0, pre1⟩
  clear pre1
  rcases hm2 with rfl | rfl | rfl | rfl | rfl
  · skip
    have pre3 : ∀ t, oS p e below s₁ m 10 #[iv p0, iv p1, iv p2, iv p3, iv 0, un, un, un, un, un, un, un, un, un, un, un, un, un, un, un, un, un, un, un, un] [(.int (0 : Int32))] t → oE p e below s₁ m #[(.int p0), (.int p1), (.int p2), (.int p3)] maxLocals t := fun t kt => pre2 t (by
      show oS p e below s₁ m 8 #[iv p0, iv p1, iv p2, iv p3, iv 0, un, un, un, un, un, un, un, un, un, un, un, un, un, un, un, un, un, un, un, un] [] _
      refine XS.iload X0.here hx rfl (hb hby at_8) rfl ?_
      exact kt)
    clear pre2
    obtain ⟨T4, h4, k4, X4, e4, E4, A4, st4⟩ := newP X0 hx hZ (hw _ (List.mem_of_getElem? (i := 1) rfl)) e0 (g := (mkF m 10 #[iv p0, iv p1, iv p2, iv p3, iv 0, un, un, un, un, un, un, un, un, un, un, un, un, un, un, un, un, un, un, un, un] [(.int (0 : Int32))])) rfl (hb hby at_10) rfl (by decide) (cap := 0) (by decide) (by decide) (by decide) (by decide)
    obtain ⟨b4, g4⟩ : ∃ z, z = h0.size := ⟨_, rfl⟩
    rw [← g4] at A4 st4
    have pre5 : ∀ t, oS p e below T4 m 12 #[iv p0, iv p1, iv p2, iv p3, iv 0, un, un, un, un, un, un, un, un, un, un, un, un, un, un, un, un, un, un, un, un] [(.ref b4)] t → oE p e below s₁ m #[(.int p0), (.int p1), (.int p2), (.int p3)] maxLocals t := fun t kt => pre3 t (st4 _ kt)
    clear pre3 st4
    have gn4 : n0 ≤ b4 := Nat.le_trans Z0 (Nat.le_of_eq g4.symm)
    have sz4 : h0.size ≤ b4 := Nat.le_trans K0.1 (Nat.le_of_eq g4.symm)
    have K4 : Keep h0 h4 [] := K0.ext E4
    have Z4 : n0 ≤ h4.size := Nat.le_trans Z0 E4.1
    have V4 : Arv Z h4 b4 k4 .byte (0 : Int32) [] (.int (0 : Int32)) := (Arv.new A4 (by decide)).pad (pad_rep [] (.int (0 : Int32)) 0)
    have pre6 : ∀ t, oS p e below T4 m 88 #[iv p0, iv p1, iv p2, iv p3, iv 0, rv b4, jv (((p1.toInt64) &&& (4294967295 : Int64)) &&& (((1 : Int64) <<< ((0 : Int32) &&& 0x3f).toInt64) - (1 : Int64))), sn, un, un, un, un, un, un, un, un, un, un, un, un, un, un, un, un, un] [] t → oE p e below s₁ m #[(.int p0), (.int p1), (.int p2), (.int p3)] maxLocals t := fun t kt => pre5 t (by
      show oS p e below T4 m 12 #[iv p0, iv p1, iv p2, iv p3, iv 0, un, un, un, un, un, un, un, un, un, un, un, un, un, un, un, un, un, un, un, un] [(.ref b4)] _
      refine XS.astore X4.here hx rfl (hb hby at_12) rfl rfl (l' := #[iv p0, iv p1, iv p2, iv p3, iv 0, rv b4, un, un, un, un, un, un, un, un, un, un, un, un, un, un, un, un, un, un, un]) rfl ?_
      show oS p e below T4 m 14 #[iv p0, iv p1, iv p2, iv p3, iv 0, rv b4, un, un, un, un, un, un, un, un, un, un, un, un, un, un, un, un, un, un, un] [] _
      refine XS.iload X4.here hx rfl (hb hby at_14) rfl ?_
      show oS p e below T4 m 16 #[iv p0, iv p1, iv p2, iv p3, iv 0, rv b4, un, un, un, un, un, un, un, un, un, un, un, un, un, un, un, un, un, un, un] [(.int (0 : Int32))] _
      refine XS.ifYes X4.here hx rfl (pc0 := 16) (pc' := 25) rfl (hb hby at_16) rfl ((if0 _ _).trans (flt (by decide : ¬ ((0 : Int32) < (0 : Int32)))).2.2.2) (by decide) (by decide) ?_
      show oS p e below T4 m 25 #[iv p0, iv p1, iv p2, iv p3, iv 0, rv b4, un, un, un, un, un, un, un, un, un, un, un, un, un, un, un, un, un, un, un] [] _
      refine XS.iload X4.here hx rfl (hb hby at_25) rfl ?_
      show oS p e below T4 m 27 #[iv p0, iv p1, iv p2, iv p3, iv 0, rv b4, un, un, un, un, un, un, un, un, un, un, un, un, un, un, un, un, un, un, un] [(.int (0 : Int32))] _
      refine XS.iconst X4.here hx rfl (hb hby at_27) ?_
      show oS p e below T4 m 28 #[iv p0, iv p1, iv p2, iv p3, iv 0, rv b4, un, un, un, un, un, un, un, un, un, un, un, un, un, un, un, un, un, un, un] [(.int (1 : Int32)), (.int (0 : Int32))] _
      refine XS.icmpYes X4.here hx rfl (pc0 := 28) (pc' := 40) rfl (hb hby at_28) rfl (flt (by decide : ¬ ((1 : Int32) < (0 : Int32)))).2.2.2 (by decide) (by decide) ?_
      show oS p e below T4 m 40 #[iv p0, iv p1, iv p2, iv p3, iv 0, rv b4, un, un, un, un, un, un, un, un, un, un, un, un, un, un, un, un, un, un, un] [] _
      refine XS.iload X4.here hx rfl (hb hby at_40) rfl ?_
      show oS p e below T4 m 42 #[iv p0, iv p1, iv p2, iv p3, iv 0, rv b4, un, un, un, un, un, un, un, un, un, un, un, un, un, un, un, un, un, un, un] [(.int (0 : Int32))] _
      refine XS.iconst X4.here hx rfl (hb hby at_42) ?_
      show oS p e below T4 m 43 #[iv p0, iv p1, iv p2, iv p3, iv 0, rv b4, un, un, un, un, un, un, un, un, un, un, un, un, un, un, un, un, un, un, un] [(.int (2 : Int32)), (.int (0 : Int32))] _
      refine XS.icmpYes X4.here hx rfl (pc0 := 43) (pc' := 55) rfl (hb hby at_43) rfl (flt (by decide : ¬ ((2 : Int32) < (0 : Int32)))).2.2.2 (by decide) (by decide) ?_
      show oS p e below T4 m 55 #[iv p0, iv p1, iv p2, iv p3, iv 0, rv b4, un, un, un, un, un, un, un, un, un, un, un, un, un, un, un, un, un, un, un] [] _
      refine XS.iload X4.here hx rfl (hb hby at_55) rfl ?_
      show oS p e below T4 m 57 #[iv p0, iv p1, iv p2, iv p3, iv 0, rv b4, un, un, un, un, un, un, un, un, un, un, un, un, un, un, un, un, un, un, un] [(.int (0 : Int32))] _
      refine XS.iconst X4.here hx rfl (hb hby at_57) ?_
      show oS p e below T4 m 58 #[iv p0, iv p1, iv p2, iv p3, iv 0, rv b4, un, un, un, un, un, un, un, un, un, un, un, un, un, un, un, un, un, un, un] [(.int (3 : Int32)), (.int (0 : Int32))] _
      refine XS.icmpYes X4.here hx rfl (pc0 := 58) (pc' := 70) rfl (hb hby at_58) rfl (flt (by decide : ¬ ((3 : Int32) < (0 : Int32)))).2.2.2 (by decide) (by decide) ?_
      show oS p e below T4 m 70 #[iv p0, iv p1, iv p2, iv p3, iv 0, rv b4, un, un, un, un, un, un, un, un, un, un, un, un, un, un, un, un, un, un, un] [] _
      refine XS.iloadN X4.here hx rfl (hb hby at_70) rfl ?_
      show oS p e below T4 m 71 #[iv p0, iv p1, iv p2, iv p3, iv 0, rv b4, un, un, un, un, un, un, un, un, un, un, un, un, un, un, un, un, un, un, un] [(.int p1)] _
      refine XS.i2l X4.here hx rfl (hb hby at_71) rfl ?_
      show oS p e below T4 m 72 #[iv p0, iv p1, iv p2, iv p3, iv 0, rv b4, un, un, un, un, un, un, un, un, un, un, un, un, un, un, un, un, un, un, un] [(.long (p1.toInt64))] _
      refine X4.ldc2Long hx hown (mvT hZ (hw _ (List.mem_of_getElem? (i := 2) rfl))) (g := (mkF m 72 #[iv p0, iv p1, iv p2, iv p3, iv 0, rv b4, un, un, un, un, un, un, un, un, un, un, un, un, un, un, un, un, un, un, un] [(.long (p1.toInt64))])) rfl (hb hby at_72) _ ?_
      show oS p e below T4 m 75 #[iv p0, iv p1, iv p2, iv p3, iv 0, rv b4, un, un, un, un, un, un, un, un, un, un, un, un, un, un, un, un, un, un, un] [(.long (4294967295 : Int64)), (.long (p1.toInt64))] _
      refine XS.land X4.here hx rfl (hb hby at_75) rfl ?_
      show oS p e below T4 m 76 #[iv p0, iv p1, iv p2, iv p3, iv 0, rv b4, un, un, un, un, un, un, un, un, un, un, un, un, un, un, un, un, un, un, un] [(.long ((p1.toInt64) &&& (4294967295 : Int64)))] _
      refine XS.lconst X4.here hx rfl (hb hby at_76) ?_
      show oS p e below T4 m 77 #[iv p0, iv p1, iv p2, iv p3, iv 0, rv b4, un, un, un, un, un, un, un, un, un, un, un, un, un, un, un, un, un, un, un] [(.long (1 : Int64)), (.long ((p1.toInt64) &&& (4294967295 : Int64)))] _
      refine XS.bipush X4.here hx rfl (hb hby at_77) ?_
      show oS p e below T4 m 79 #[iv p0, iv p1, iv p2, iv p3, iv 0, rv b4, un, un, un, un, un, un, un, un, un, un, un, un, un, un, un, un, un, un, un] [(.int (8 : Int32)), (.long (1 : Int64)), (.long ((p1.toInt64) &&& (4294967295 : Int64)))] _
      refine XS.iload X4.here hx rfl (hb hby at_79) rfl ?_
      show oS p e below T4 m 81 #[iv p0, iv p1, iv p2, iv p3, iv 0, rv b4, un, un, un, un, un, un, un, un, un, un, un, un, un, un, un, un, un, un, un] [(.int (0 : Int32)), (.int (8 : Int32)), (.long (1 : Int64)), (.long ((p1.toInt64) &&& (4294967295 : Int64)))] _
      refine XS.imul X4.here hx rfl (hb hby at_81) rfl ?_
      show oS p e below T4 m 82 #[iv p0, iv p1, iv p2, iv p3, iv 0, rv b4, un, un, un, un, un, un, un, un, un, un, un, un, un, un, un, un, un, un, un] [(.int (0 : Int32)), (.long (1 : Int64)), (.long ((p1.toInt64) &&& (4294967295 : Int64)))] _
      refine XS.lshl X4.here hx rfl (hb hby at_82) rfl ?_
      show oS p e below T4 m 83 #[iv p0, iv p1, iv p2, iv p3, iv 0, rv b4, un, un, un, un, un, un, un, un, un, un, un, un, un, un, un, un, un, un, un] [(.long ((1 : Int64) <<< ((0 : Int32) &&& 0x3f).toInt64)), (.long ((p1.toInt64) &&& (4294967295 : Int64)))] _
      refine XS.lconst X4.here hx rfl (hb hby at_83) ?_
      show oS p e below T4 m 84 #[iv p0, iv p1, iv p2, iv p3, iv 0, rv b4, un, un, un, un, un, un, un, un, un, un, un, un, un, un, un, un, un, un, un] [(.long (1 : Int64)), (.long ((1 : Int64) <<< ((0 : Int32) &&& 0x3f).toInt64)), (.long ((p1.toInt64) &&& (4294967295 : Int64)))] _
      refine XS.lsub X4.here hx rfl (hb hby at_84) rfl ?_
      show oS p e below T4 m 85 #[iv p0, iv p1, iv p2, iv p3, iv 0, rv b4, un, un, un, un, un, un, un, un, un, un, un, un, un, un, un, un, un, un, un] [(.long (((1 : Int64) <<< ((0 : Int32) &&& 0x3f).toInt64) - (1 : Int64))), (.long ((p1.toInt64) &&& (4294967295 : Int64)))] _
      refine XS.land X4.here hx rfl (hb hby at_85) rfl ?_
      show oS p e below T4 m 86 #[iv p0, iv p1, iv p2, iv p3, iv 0, rv b4, un, un, un, un, un, un, un, un, un, un, un, un, un, un, un, un, un, un, un] [(.long (((p1.toInt64) &&& (4294967295 : Int64)) &&& (((1 : Int64) <<< ((0 : Int32) &&& 0x3f).toInt64) - (1 : Int64))))] _
      refine XS.lstore X4.here hx rfl (hb hby at_86) rfl (l' := #[iv p0, iv p1, iv p2, iv p3, iv 0, rv b4, jv (((p1.toInt64) &&& (4294967295 : Int64)) &&& (((1 : Int64) <<< ((0 : Int32) &&& 0x3f).toInt64) - (1 : Int64))), sn, un, un, un, un, un, un, un, un, un, un, un, un, un, un, un, un, un]) rfl ?_
      exact kt)
    clear pre5
    obtain ⟨wh, hm7, pre7⟩ : ∃ (wh : Int64), (wh.toInt = 0) ∧ ∀ t, oS p e below T4 m 88 #[iv p0, iv p1, iv p2, iv p3, iv 0, rv b4, jv wh, sn, un, un, un, un, un, un, un, un, un, un, un, un, un, un, un, un, un] [] t → oE p e below s₁ m #[(.int p0), (.int p1), (.int p2), (.int p3)] maxLocals t := ⟨(((p1.toInt64) &&& (4294967295 : Int64)) &&& (((1 : Int64) <<< ((0 : Int32) &&& 0x3f).toInt64) - (1 : Int64))), (by have qa := own_wh0 p1;  omega), pre6⟩
    clear pre6
    have pre8 : ∀ t, oS p e below T4 m 97 #[iv p0, iv p1, iv p2, iv p3, iv 0, rv b4, jv wh, sn, jv ((8 : Int64) * ((0 : Int32).toInt64)), sn, un, un, un, un, un, un, un, un, un, un, un, un, un, un, un] [] t → oE p e below s₁ m #[(.int p0), (.int p1), (.int p2), (.int p3)] maxLocals t := fun t kt => pre7 t (by
      show oS p e below T4 m 88 #[iv p0, iv p1, iv p2, iv p3, iv 0, rv b4, jv wh, sn, un, un, un, un, un, un, un, un, un, un, un, un, un, un, un, un, un] [] _
      refine X4.ldc2Long hx hown (mvT hZ (hw _ (List.mem_of_getElem? (i := 3) rfl))) (g := (mkF m 88 #[iv p0, iv p1, iv p2, iv p3, iv 0, rv b4, jv wh, sn, un, un, un, un, un, un, un, un, un, un, un, un, un, un, un, un, un] [])) rfl (hb hby at_88) _ ?_
      show oS p e below T4 m 91 #[iv p0, iv p1, iv p2, iv p3, iv 0, rv b4, jv wh, sn, un, un, un, un, un, un, un, un, un, un, un, un, un, un, un, un, un] [(.long (8 : Int64))] _
      refine XS.iload X4.here hx rfl (hb hby at_91) rfl ?_
      show oS p e below T4 m 93 #[iv p0, iv p1, iv p2, iv p3, iv 0, rv b4, jv wh, sn, un, un, un, un, un, un, un, un, un, un, un, un, un, un, un, un, un] [(.int (0 : Int32)), (.long (8 : Int64))] _
      refine XS.i2l X4.here hx rfl (hb hby at_93) rfl ?_
      show oS p e below T4 m 94 #[iv p0, iv p1, iv p2, iv p3, iv 0, rv b4, jv wh, sn, un, un, un, un, un, un, un, un, un, un, un, un, un, un, un, un, un] [(.long ((0 : Int32).toInt64)), (.long (8 : Int64))] _
      refine XS.lmul X4.here hx rfl (hb hby at_94) rfl ?_
      show oS p e below T4 m 95 #[iv p0, iv p1, iv p2, iv p3, iv 0, rv b4, jv wh, sn, un, un, un, un, un, un, un, un, un, un, un, un, un, un, un, un, un] [(.long ((8 : Int64) * ((0 : Int32).toInt64)))] _
      refine XS.lstore X4.here hx rfl (hb hby at_95) rfl (l' := #[iv p0, iv p1, iv p2, iv p3, iv 0, rv b4, jv wh, sn, jv ((8 : Int64) * ((0 : Int32).toInt64)), sn, un, un, un, un, un, un, un, un, un, un, un, un, un, un, un]) rfl ?_
      exact kt)
    clear pre7
    obtain ⟨sz, hm9, pre9⟩ : ∃ (sz : Int64), (sz = (0 : Int64)) ∧ ∀ t, oS p e below T4 m 97 #[iv p0, iv p1, iv p2, iv p3, iv 0, rv b4, jv wh, sn, jv sz, sn, un, un, un, un, un, un, un, un, un, un, un, un, un, un, un] [] t → oE p e below s₁ m #[(.int p0), (.int p1), (.int p2), (.int p3)] maxLocals t := ⟨((8 : Int64) * ((0 : Int32).toInt64)), (by decide), pre8⟩
    clear pre8
    subst hm9
    have pre10 : ∀ t, oS p e below T4 m 103 #[iv p0, iv p1, iv p2, iv p3, iv 0, rv b4, jv wh, sn, jv 0, sn, iv (p2 &&& (63 : Int32)), un, un, un, un, un, un, un, un, un, un, un, un, un, un] [] t → oE p e below s₁ m #[(.int p0), (.int p1), (.int p2), (.int p3)] maxLocals t := fun t kt => pre9 t (by
      show oS p e below T4 m 97 #[iv p0, iv p1, iv p2, iv p3, iv 0, rv b4, jv wh, sn, jv 0, sn, un, un, un, un, un, un, un, un, un, un, un, un, un, un, un] [] _
      refine XS.iloadN X4.here hx rfl (hb hby at_97) rfl ?_
      show oS p e below T4 m 98 #[iv p0, iv p1, iv p2, iv p3, iv 0, rv b4, jv wh, sn, jv 0, sn, un, un, un, un, un, un, un, un, un, un, un, un, un, un, un] [(.int p2)] _
      refine XS.bipush X4.here hx rfl (hb hby at_98) ?_
      show oS p e below T4 m 100 #[iv p0, iv p1, iv p2, iv p3, iv 0, rv b4, jv wh, sn, jv 0, sn, un, un, un, un, un, un, un, un, un, un, un, un, un, un, un] [(.int (63 : Int32)), (.int p2)] _
      refine XS.iand X4.here hx rfl (hb hby at_100) rfl ?_
      show oS p e below T4 m 101 #[iv p0, iv p1, iv p2, iv p3, iv 0, rv b4, jv wh, sn, jv 0, sn, un, un, un, un, un, un, un, un, un, un, un, un, un, un, un] [(.int (p2 &&& (63 : Int32)))] _
      refine XS.istore X4.here hx rfl (hb hby at_101) rfl (l' := #[iv p0, iv p1, iv p2, iv p3, iv 0, rv b4, jv wh, sn, jv 0, sn, iv (p2 &&& (63 : Int32)), un, un, un, un, un, un, un, un, un, un, un, un, un, un]) rfl ?_
      exact kt)
    clear pre9
    obtain ⟨c1, hm11, pre11⟩ : ∃ (c1 : Int32), (0 ≤ c1.toInt ∧ c1.toInt ≤ 63) ∧ ∀ t, oS p e below T4 m 103 #[iv p0, iv p1, iv p2, iv p3, iv 0, rv b4, jv wh, sn, jv 0, sn, iv c1, un, un, un, un, un, un, un, un, un, un, un, un, un, un] [] t → oE p e below s₁ m #[(.int p0), (.int p1), (.int p2), (.int p3)] maxLocals t := ⟨(p2 &&& (63 : Int32)), own_63 p2, pre10⟩
    clear pre10
    have pre12 : ∀ t, oS p e below T4 m 107 #[iv p0, iv p1, iv p2, iv p3, iv 0, rv b4, jv wh, sn, jv 0, sn, iv c1, un, un, un, un, un, un, un, un, un, un, un, un, un, un] [(.int (p2 &&& (64 : Int32)))] t → oE p e below s₁ m #[(.int p0), (.int p1), (.int p2), (.int p3)] maxLocals t := fun t kt => pre11 t (by
      show oS p e below T4 m 103 #[iv p0, iv p1, iv p2, iv p3, iv 0, rv b4, jv wh, sn, jv 0, sn, iv c1, un, un, un, un, un, un, un, un, un, un, un, un, un, un] [] _
      refine XS.iloadN X4.here hx rfl (hb hby at_103) rfl ?_
      show oS p e below T4 m 104 #[iv p0, iv p1, iv p2, iv p3, iv 0, rv b4, jv wh, sn, jv 0, sn, iv c1, un, un, un, un, un, un, un, un, un, un, un, un, un, un] [(.int p2)] _
      refine XS.bipush X4.here hx rfl (hb hby at_104) ?_
      show oS p e below T4 m 106 #[iv p0, iv p1, iv p2, iv p3, iv 0, rv b4, jv wh, sn, jv 0, sn, iv c1, un, un, un, un, un, un, un, un, un, un, un, un, un, un] [(.int (64 : Int32)), (.int p2)] _
      refine XS.iand X4.here hx rfl (hb hby at_106) rfl ?_
      exact kt)
    clear pre11
    obtain ⟨c2, hm13, pre13⟩ : ∃ (c2 : Int32), (0 ≤ c2.toInt) ∧ ∀ t, oS p e below T4 m 121 #[iv p0, iv p1, iv p2, iv p3, iv 0, rv b4, jv wh, sn, jv 0, sn, iv c1, un, un, un, un, un, un, un, un, un, un, un, un, un, un] [(.int c2)] t → oE p e below s₁ m #[(.int p0), (.int p1), (.int p2), (.int p3)] maxLocals t := by
      by_cases hc107_14 : (p2 &&& (64 : Int32)) = (0 : Int32)
      · have pre15 : ∀ t, oS p e below T4 m 121 #[iv p0, iv p1, iv p2, iv p3, iv 0, rv b4, jv wh, sn, jv 0, sn, iv c1, un, un, un, un, un, un, un, un, un, un, un, un, un, un] [(.int (p3 &&& (63 : Int32)))] t → oE p e below s₁ m #[(.int p0), (.int p1), (.int p2), (.int p3)] maxLocals t := fun t kt => pre12 t (by
          show oS p e below T4 m 107 #[iv p0, iv p1, iv p2, iv p3, iv 0, rv b4, jv wh, sn, jv 0, sn, iv c1, un, un, un, un, un, un, un, un, un, un, un, un, un, un] [(.int (p2 &&& (64 : Int32)))] _
          refine XS.ifYes X4.here hx rfl (pc0 := 107) (pc' := 117) rfl (hb hby at_107) rfl ((if0 _ _).trans (teq hc107_14).1) (by decide) (by decide) ?_
          show oS p e below T4 m 117 #[iv p0, iv p1, iv p2, iv p3, iv 0, rv b4, jv wh, sn, jv 0, sn, iv c1, un, un, un, un, un, un, un, un, un, un, un, un, un, un] [] _
          refine XS.iloadN X4.here hx rfl (hb hby at_117) rfl ?_
          show oS p e below T4 m 118 #[iv p0, iv p1, iv p2, iv p3, iv 0, rv b4, jv wh, sn, jv 0, sn, iv c1, un, un, un, un, un, un, un, un, un, un, un, un, un, un] [(.int p3)] _
          refine XS.bipush X4.here hx rfl (hb hby at_118) ?_
          show oS p e below T4 m 120 #[iv p0, iv p1, iv p2, iv p3, iv 0, rv b4, jv wh, sn, jv 0, sn, iv c1, un, un, un, un, un, un, un, un, un, un, un, un, un, un] [(.int (63 : Int32)), (.int p3)] _
          refine XS.iand X4.here hx rfl (hb hby at_120) rfl ?_
          exact kt)
        clear pre12
        exact ⟨(p3 &&& (63 : Int32)), (own_63 p3).1, pre15⟩
      · have pre16 : ∀ t, oS p e below T4 m 121 #[iv p0, iv p1, iv p2, iv p3, iv 0, rv b4, jv wh, sn, jv 0, sn, iv c1, un, un, un, un, un, un, un, un, un, un, un, un, un, un] [(.int (p3 &&& (2147483647 : Int32)))] t → oE p e below s₁ m #[(.int p0), (.int p1), (.int p2), (.int p3)] maxLocals t := fun t kt => pre12 t (by
          show oS p e below T4 m 107 #[iv p0, iv p1, iv p2, iv p3, iv 0, rv b4, jv wh, sn, jv 0, sn, iv c1, un, un, un, un, un, un, un, un, un, un, un, un, un, un] [(.int (p2 &&& (64 : Int32)))] _
          refine XS.ifNo X4.here hx rfl (hb hby at_107) rfl ((if0 _ _).trans (feq hc107_14).1) ?_
          show oS p e below T4 m 110 #[iv p0, iv p1, iv p2, iv p3, iv 0, rv b4, jv wh, sn, jv 0, sn, iv c1, un, un, un, un, un, un, un, un, un, un, un, un, un, un] [] _
          refine XS.iloadN X4.here hx rfl (hb hby at_110) rfl ?_
          show oS p e below T4 m 111 #[iv p0, iv p1, iv p2, iv p3, iv 0, rv b4, jv wh, sn, jv 0, sn, iv c1, un, un, un, un, un, un, un, un, un, un, un, un, un, un] [(.int p3)] _
          refine X4.ldcInt hx hown (mvT hZ (hw _ (List.mem_of_getElem? (i := 0) rfl))) (g := (mkF m 111 #[iv p0, iv p1, iv p2, iv p3, iv 0, rv b4, jv wh, sn, jv 0, sn, iv c1, un, un, un, un, un, un, un, un, un, un, un, un, un, un] [(.int p3)])) rfl (hb hby at_111) _ ?_
          show oS p e below T4 m 113 #[iv p0, iv p1, iv p2, iv p3, iv 0, rv b4, jv wh, sn, jv 0, sn, iv c1, un, un, un, un, un, un, un, un, un, un, un, un, un, un] [(.int (2147483647 : Int32)), (.int p3)] _
          refine XS.iand X4.here hx rfl (hb hby at_113) rfl ?_
          show oS p e below T4 m 114 #[iv p0, iv p1, iv p2, iv p3, iv 0, rv b4, jv wh, sn, jv 0, sn, iv c1, un, un, un, un, un, un, un, un, un, un, un, un, un, un] [(.int (p3 &&& (2147483647 : Int32)))] _
          refine XS.goto X4.here hx rfl (pc0 := 114) (pc' := 121) rfl (hb hby at_114) (by decide) (by decide) ?_
          exact kt)
        clear pre12
        exact ⟨(p3 &&& (2147483647 : Int32)), own_nn p3, pre16⟩
    clear pre12
    have pre17 : ∀ t, oS p e below T4 m 123 #[iv p0, iv p1, iv p2, iv p3, iv 0, rv b4, jv wh, sn, jv 0, sn, iv c1, iv c2, un, un, un, un, un, un, un, un, un, un, un, un, un] [] t → oE p e below s₁ m #[(.int p0), (.int p1), (.int p2), (.int p3)] maxLocals t := fun t kt => pre13 t (by
      show oS p e below T4 m 121 #[iv p0, iv p1, iv p2, iv p3, iv 0, rv b4, jv wh, sn, jv 0, sn, iv c1, un, un, un, un, un, un, un, un, un, un, un, un, un, un] [(.int c2)] _
      refine XS.istore X4.here hx rfl (hb hby at_121) rfl (l' := #[iv p0, iv p1, iv p2, iv p3, iv 0, rv b4, jv wh, sn, jv 0, sn, iv c1, iv c2, un, un, un, un, un, un, un, un, un, un, un, un, un]) rfl ?_
      exact kt)
    clear pre13
    obtain ⟨r1v, p1v, hm18, pre18⟩ : ∃ (r1v : Int32) (p1v : Int64), ((r1v = (1 : Int32) ∧ c1.toInt ≤ 0 - 0 ∧ p1v.toInt = 0 + c1.toInt) ∨ (r1v = (0 : Int32) ∧ 0 - 0 < c1.toInt ∧ p1v.toInt = 0)) ∧ ∀ t, oS p e below T4 m 154 #[iv p0, iv p1, iv p2, iv p3, iv 0, rv b4, jv wh, sn, jv 0, sn, iv c1, iv c2, iv r1v, jv p1v, sn, un, un, un, un, un, un, un, un, un, un] [] t → oE p e below s₁ m #[(.int p0), (.int p1), (.int p2), (.int p3)] maxLocals t := by
      have pre19 : ∀ t, oS p e below T4 m 129 #[iv p0, iv p1, iv p2, iv p3, iv 0, rv b4, jv wh, sn, jv 0, sn, iv c1, iv c2, un, un, un, un, un, un, un, un, un, un, un, un, un] [(.int (lcmpW (c1.toInt64) (0 : Int64)))] t → oE p e below s₁ m #[(.int p0), (.int p1), (.int p2), (.int p3)] maxLocals t := fun t kt => pre17 t (by
        show oS p e below T4 m 123 #[iv p0, iv p1, iv p2, iv p3, iv 0, rv b4, jv wh, sn, jv 0, sn, iv c1, iv c2, un, un, un, un, un, un, un, un, un, un, un, un, un] [] _
        refine XS.iload X4.here hx rfl (hb hby at_123) rfl ?_
        show oS p e below T4 m 125 #[iv p0, iv p1, iv p2, iv p3, iv 0, rv b4, jv wh, sn, jv 0, sn, iv c1, iv c2, un, un, un, un, un, un, un, un, un, un, un, un, un] [(.int c1)] _
        refine XS.i2l X4.here hx rfl (hb hby at_125) rfl ?_
        show oS p e below T4 m 126 #[iv p0, iv p1, iv p2, iv p3, iv 0, rv b4, jv wh, sn, jv 0, sn, iv c1, iv c2, un, un, un, un, un, un, un, un, un, un, un, un, un] [(.long (c1.toInt64))] _
        refine XS.lload X4.here hx rfl (hb hby at_126) rfl ?_
        show oS p e below T4 m 128 #[iv p0, iv p1, iv p2, iv p3, iv 0, rv b4, jv wh, sn, jv 0, sn, iv c1, iv c2, un, un, un, un, un, un, un, un, un, un, un, un, un] [(.long (0 : Int64)), (.long (c1.toInt64))] _
        refine XS.lcmp X4.here hx rfl (hb hby at_128) rfl ?_
        exact kt)
      clear pre17
      by_cases hc129_20 : (0 : Int64) < (c1.toInt64)
      · have pre21 : ∀ t, oS p e below T4 m 154 #[iv p0, iv p1, iv p2, iv p3, iv 0, rv b4, jv wh, sn, jv 0, sn, iv c1, iv c2, iv 0, jv 0, sn, un, un, un, un, un, un, un, un, un, un] [] t → oE p e below s₁ m #[(.int p0), (.int p1), (.int p2), (.int p3)] maxLocals t := fun t kt => pre19 t (by
          show oS p e below T4 m 129 #[iv p0, iv p1, iv p2, iv p3, iv 0, rv b4, jv wh, sn, jv 0, sn, iv c1, iv c2, un, un, un, un, un, un, un, un, un, un, un, un, un] [(.int (lcmpW (c1.toInt64) (0 : Int64)))] _
          refine XS.ifYes X4.here hx rfl (pc0 := 129) (pc' := 136) rfl (hb hby at_129) rfl (Jvm.Free.XT.ll_gt_t hc129_20) (by decide) (by decide) ?_
          show oS p e below T4 m 136 #[iv p0, iv p1, iv p2, iv p3, iv 0, rv b4, jv wh, sn, jv 0, sn, iv c1, iv c2, un, un, un, un, un, un, un, un, un, un, un, un, un] [] _
          refine XS.iconst X4.here hx rfl (hb hby at_136) ?_
          show oS p e below T4 m 137 #[iv p0, iv p1, iv p2, iv p3, iv 0, rv b4, jv wh, sn, jv 0, sn, iv c1, iv c2, un, un, un, un, un, un, un, un, un, un, un, un, un] [(.int (0 : Int32))] _
          refine XS.istore X4.here hx rfl (hb hby at_137) rfl (l' := #[iv p0, iv p1, iv p2, iv p3, iv 0, rv b4, jv wh, sn, jv 0, sn, iv c1, iv c2, iv 0, un, un, un, un, un, un, un, un, un, un, un, un]) rfl ?_
          show oS p e below T4 m 139 #[iv p0, iv p1, iv p2, iv p3, iv 0, rv b4, jv wh, sn, jv 0, sn, iv c1, iv c2, iv 0, un, un, un, un, un, un, un, un, un, un, un, un] [] _
          refine XS.iload X4.here hx rfl (hb hby at_139) rfl ?_
          show oS p e below T4 m 141 #[iv p0, iv p1, iv p2, iv p3, iv 0, rv b4, jv wh, sn, jv 0, sn, iv c1, iv c2, iv 0, un, un, un, un, un, un, un, un, un, un, un, un] [(.int (0 : Int32))] _
          refine XS.ifYes X4.here hx rfl (pc0 := 141) (pc' := 150) rfl (hb hby at_141) rfl ((if0 _ _).trans (teq (by decide : (0 : Int32) = (0 : Int32))).1) (by decide) (by decide) ?_
          show oS p e below T4 m 150 #[iv p0, iv p1, iv p2, iv p3, iv 0, rv b4, jv wh, sn, jv 0, sn, iv c1, iv c2, iv 0, un, un, un, un, un, un, un, un, un, un, un, un] [] _
          refine XS.lload X4.here hx rfl (hb hby at_150) rfl ?_
          show oS p e below T4 m 152 #[iv p0, iv p1, iv p2, iv p3, iv 0, rv b4, jv wh, sn, jv 0, sn, iv c1, iv c2, iv 0, un, un, un, un, un, un, un, un, un, un, un, un] [(.long (0 : Int64))] _
          refine XS.lstore X4.here hx rfl (hb hby at_152) rfl (l' := #[iv p0, iv p1, iv p2, iv p3, iv 0, rv b4, jv wh, sn, jv 0, sn, iv c1, iv c2, iv 0, jv 0, sn, un, un, un, un, un, un, un, un, un, un]) rfl ?_
          exact kt)
        clear pre19
        exact ⟨(0 : Int32), (0 : Int64), own_r1b c1 (0 : Int64) 0 (by decide) hc129_20, pre21⟩
      · have pre22 : ∀ t, oS p e below T4 m 154 #[iv p0, iv p1, iv p2, iv p3, iv 0, rv b4, jv wh, sn, jv 0, sn, iv c1, iv c2, iv 1, jv (c1.toInt64), sn, un, un, un, un, un, un, un, un, un, un] [] t → oE p e below s₁ m #[(.int p0), (.int p1), (.int p2), (.int p3)] maxLocals t := fun t kt => pre19 t (by
          show oS p e below T4 m 129 #[iv p0, iv p1, iv p2, iv p3, iv 0, rv b4, jv wh, sn, jv 0, sn, iv c1, iv c2, un, un, un, un, un, un, un, un, un, un, un, un, un] [(.int (lcmpW (c1.toInt64) (0 : Int64)))] _
          refine XS.ifNo X4.here hx rfl (hb hby at_129) rfl (Jvm.Free.XT.ll_gt_f hc129_20) ?_
          show oS p e below T4 m 132 #[iv p0, iv p1, iv p2, iv p3, iv 0, rv b4, jv wh, sn, jv 0, sn, iv c1, iv c2, un, un, un, un, un, un, un, un, un, un, un, un, un] [] _
          refine XS.iconst X4.here hx rfl (hb hby at_132) ?_
          show oS p e below T4 m 133 #[iv p0, iv p1, iv p2, iv p3, iv 0, rv b4, jv wh, sn, jv 0, sn, iv c1, iv c2, un, un, un, un, un, un, un, un, un, un, un, un, un] [(.int (1 : Int32))] _
          refine XS.goto X4.here hx rfl (pc0 := 133) (pc' := 137) rfl (hb hby at_133) (by decide) (by decide) ?_
          show oS p e below T4 m 137 #[iv p0, iv p1, iv p2, iv p3, iv 0, rv b4, jv wh, sn, jv 0, sn, iv c1, iv c2, un, un, un, un, un, un, un, un, un, un, un, un, un] [(.int (1 : Int32))] _
          refine XS.istore X4.here hx rfl (hb hby at_137) rfl (l' := #[iv p0, iv p1, iv p2, iv p3, iv 0, rv b4, jv wh, sn, jv 0, sn, iv c1, iv c2, iv 1, un, un, un, un, un, un, un, un, un, un, un, un]) rfl ?_
          show oS p e below T4 m 139 #[iv p0, iv p1, iv p2, iv p3, iv 0, rv b4, jv wh, sn, jv 0, sn, iv c1, iv c2, iv 1, un, un, un, un, un, un, un, un, un, un, un, un] [] _
          refine XS.iload X4.here hx rfl (hb hby at_139) rfl ?_
          show oS p e below T4 m 141 #[iv p0, iv p1, iv p2, iv p3, iv 0, rv b4, jv wh, sn, jv 0, sn, iv c1, iv c2, iv 1, un, un, un, un, un, un, un, un, un, un, un, un] [(.int (1 : Int32))] _
          refine XS.ifNo X4.here hx rfl (hb hby at_141) rfl ((if0 _ _).trans (feq (by decide : ¬ ((1 : Int32) = (0 : Int32)))).1) ?_
          show oS p e below T4 m 144 #[iv p0, iv p1, iv p2, iv p3, iv 0, rv b4, jv wh, sn, jv 0, sn, iv c1, iv c2, iv 1, un, un, un, un, un, un, un, un, un, un, un, un] [] _
          refine XS.iload X4.here hx rfl (hb hby at_144) rfl ?_
          show oS p e below T4 m 146 #[iv p0, iv p1, iv p2, iv p3, iv 0, rv b4, jv wh, sn, jv 0, sn, iv c1, iv c2, iv 1, un, un, un, un, un, un, un, un, un, un, un, un] [(.int c1)] _
          refine XS.i2l X4.here hx rfl (hb hby at_146) rfl ?_
          show oS p e below T4 m 147 #[iv p0, iv p1, iv p2, iv p3, iv 0, rv b4, jv wh, sn, jv 0, sn, iv c1, iv c2, iv 1, un, un, un, un, un, un, un, un, un, un, un, un] [(.long (c1.toInt64))] _
          refine XS.goto X4.here hx rfl (pc0 := 147) (pc' := 152) rfl (hb hby at_147) (by decide) (by decide) ?_
          show oS p e below T4 m 152 #[iv p0, iv p1, iv p2, iv p3, iv 0, rv b4, jv wh, sn, jv 0, sn, iv c1, iv c2, iv 1, un, un, un, un, un, un, un, un, un, un, un, un] [(.long (c1.toInt64))] _
          refine XS.lstore X4.here hx rfl (hb hby at_152) rfl (l' := #[iv p0, iv p1, iv p2, iv p3, iv 0, rv b4, jv wh, sn, jv 0, sn, iv c1, iv c2, iv 1, jv (c1.toInt64), sn, un, un, un, un, un, un, un, un, un, un]) rfl ?_
          exact kt)
        clear pre19
        exact ⟨(1 : Int32), (c1.toInt64), own_r1a c1 (0 : Int64) 0 (by decide) hc129_20, pre22⟩
    clear pre17
    obtain ⟨r2v, p2v, hm23, pre23⟩ : ∃ (r2v : Int32) (p2v : Int64), ((r2v = (1 : Int32) ∧ c2.toInt ≤ 0 - p1v.toInt ∧ p2v.toInt = p1v.toInt + c2.toInt) ∨ (r2v = (0 : Int32) ∧ 0 - p1v.toInt < c2.toInt ∧ p2v.toInt = 0)) ∧ ∀ t, oS p e below T4 m 191 #[iv p0, iv p1, iv p2, iv p3, iv 0, rv b4, jv wh, sn, jv 0, sn, iv c1, iv c2, iv r1v, jv p1v, sn, iv r2v, jv p2v, sn, un, un, un, un, un, un, un] [] t → oE p e below s₁ m #[(.int p0), (.int p1), (.int p2), (.int p3)] maxLocals t := by
      have pre24 : ∀ t, oS p e below T4 m 163 #[iv p0, iv p1, iv p2, iv p3, iv 0, rv b4, jv wh, sn, jv 0, sn, iv c1, iv c2, iv r1v, jv p1v, sn, un, un, un, un, un, un, un, un, un, un] [(.int (lcmpW (c2.toInt64) ((0 : Int64) - p1v)))] t → oE p e below s₁ m #[(.int p0), (.int p1), (.int p2), (.int p3)] maxLocals t := fun t kt => pre18 t (by
        show oS p e below T4 m 154 #[iv p0, iv p1, iv p2, iv p3, iv 0, rv b4, jv wh, sn, jv 0, sn, iv c1, iv c2, iv r1v, jv p1v, sn, un, un, un, un, un, un, un, un, un, un] [] _
        refine XS.iload X4.here hx rfl (hb hby at_154) rfl ?_
        show oS p e below T4 m 156 #[iv p0, iv p1, iv p2, iv p3, iv 0, rv b4, jv wh, sn, jv 0, sn, iv c1, iv c2, iv r1v, jv p1v, sn, un, un, un, un, un, un, un, un, un, un] [(.int c2)] _
        refine XS.i2l X4.here hx rfl (hb hby at_156) rfl ?_
        show oS p e below T4 m 157 #[iv p0, iv p1, iv p2, iv p3, iv 0, rv b4, jv wh, sn, jv 0, sn, iv c1, iv c2, iv r1v, jv p1v, sn, un, un, un, un, un, un, un, un, un, un] [(.long (c2.toInt64))] _
        refine XS.lload X4.here hx rfl (hb hby at_157) rfl ?_
        show oS p e below T4 m 159 #[iv p0, iv p1, iv p2, iv p3, iv 0, rv b4, jv wh, sn, jv 0, sn, iv c1, iv c2, iv r1v, jv p1v, sn, un, un, un, un, un, un, un, un, un, un] [(.long (0 : Int64)), (.long (c2.toInt64))] _
        refine XS.lload X4.here hx rfl (hb hby at_159) rfl ?_
        show oS p e below T4 m 161 #[iv p0, iv p1, iv p2, iv p3, iv 0, rv b4, jv wh, sn, jv 0, sn, iv c1, iv c2, iv r1v, jv p1v, sn, un, un, un, un, un, un, un, un, un, un] [(.long p1v), (.long (0 : Int64)), (.long (c2.toInt64))] _
        refine XS.lsub X4.here hx rfl (hb hby at_161) rfl ?_
        show oS p e below T4 m 162 #[iv p0, iv p1, iv p2, iv p3, iv 0, rv b4, jv wh, sn, jv 0, sn, iv c1, iv c2, iv r1v, jv p1v, sn, un, un, un, un, un, un, un, un, un, un] [(.long ((0 : Int64) - p1v)), (.long (c2.toInt64))] _
        refine XS.lcmp X4.here hx rfl (hb hby at_162) rfl ?_
        exact kt)
      clear pre18
      by_cases hc163_25 : ((0 : Int64) - p1v) < (c2.toInt64)
      · have pre26 : ∀ t, oS p e below T4 m 191 #[iv p0, iv p1, iv p2, iv p3, iv 0, rv b4, jv wh, sn, jv 0, sn, iv c1, iv c2, iv r1v, jv p1v, sn, iv 0, jv 0, sn, un, un, un, un, un, un, un] [] t → oE p e below s₁ m #[(.int p0), (.int p1), (.int p2), (.int p3)] maxLocals t := fun t kt => pre24 t (by
          show oS p e below T4 m 163 #[iv p0, iv p1, iv p2, iv p3, iv 0, rv b4, jv wh, sn, jv 0, sn, iv c1, iv c2, iv r1v, jv p1v, sn, un, un, un, un, un, un, un, un, un, un] [(.int (lcmpW (c2.toInt64) ((0 : Int64) - p1v)))] _
          refine XS.ifYes X4.here hx rfl (pc0 := 163) (pc' := 170) rfl (hb hby at_163) rfl (Jvm.Free.XT.ll_gt_t hc163_25) (by decide) (by decide) ?_
          show oS p e below T4 m 170 #[iv p0, iv p1, iv p2, iv p3, iv 0, rv b4, jv wh, sn, jv 0, sn, iv c1, iv c2, iv r1v, jv p1v, sn, un, un, un, un, un, un, un, un, un, un] [] _
          refine XS.iconst X4.here hx rfl (hb hby at_170) ?_
          show oS p e below T4 m 171 #[iv p0, iv p1, iv p2, iv p3, iv 0, rv b4, jv wh, sn, jv 0, sn, iv c1, iv c2, iv r1v, jv p1v, sn, un, un, un, un, un, un, un, un, un, un] [(.int (0 : Int32))] _
          refine XS.istore X4.here hx rfl (hb hby at_171) rfl (l' := #[iv p0, iv p1, iv p2, iv p3, iv 0, rv b4, jv wh, sn, jv 0, sn, iv c1, iv c2, iv r1v, jv p1v, sn, iv 0, un, un, un, un, un, un, un, un, un]) rfl ?_
          show oS p e below T4 m 173 #[iv p0, iv p1, iv p2, iv p3, iv 0, rv b4, jv wh, sn, jv 0, sn, iv c1, iv c2, iv r1v, jv p1v, sn, iv 0, un, un, un, un, un, un, un, un, un] [] _
          refine XS.iload X4.here hx rfl (hb hby at_173) rfl ?_
          show oS p e below T4 m 175 #[iv p0, iv p1, iv p2, iv p3, iv 0, rv b4, jv wh, sn, jv 0, sn, iv c1, iv c2, iv r1v, jv p1v, sn, iv 0, un, un, un, un, un, un, un, un, un] [(.int (0 : Int32))] _
          refine XS.ifYes X4.here hx rfl (pc0 := 175) (pc' := 187) rfl (hb hby at_175) rfl ((if0 _ _).trans (teq (by decide : (0 : Int32) = (0 : Int32))).1) (by decide) (by decide) ?_
          show oS p e below T4 m 187 #[iv p0, iv p1, iv p2, iv p3, iv 0, rv b4, jv wh, sn, jv 0, sn, iv c1, iv c2, iv r1v, jv p1v, sn, iv 0, un, un, un, un, un, un, un, un, un] [] _
          refine XS.lload X4.here hx rfl (hb hby at_187) rfl ?_
          show oS p e below T4 m 189 #[iv p0, iv p1, iv p2, iv p3, iv 0, rv b4, jv wh, sn, jv 0, sn, iv c1, iv c2, iv r1v, jv p1v, sn, iv 0, un, un, un, un, un, un, un, un, un] [(.long (0 : Int64))] _
          refine XS.lstore X4.here hx rfl (hb hby at_189) rfl (l' := #[iv p0, iv p1, iv p2, iv p3, iv 0, rv b4, jv wh, sn, jv 0, sn, iv c1, iv c2, iv r1v, jv p1v, sn, iv 0, jv 0, sn, un, un, un, un, un, un, un]) rfl ?_
          exact kt)
        clear pre24
        exact ⟨(0 : Int32), (0 : Int64), own_r2b c2 (0 : Int64) p1v 0 (by decide) (by decide) (own_pb 0 r1v c1 p1v (by decide) hm11.1 hm18) hm13 hc163_25, pre26⟩
      · have pre27 : ∀ t, oS p e below T4 m 191 #[iv p0, iv p1, iv p2, iv p3, iv 0, rv b4, jv wh, sn, jv 0, sn, iv c1, iv c2, iv r1v, jv p1v, sn, iv 1, jv (p1v + (c2.toInt64)), sn, un, un, un, un, un, un, un] [] t → oE p e below s₁ m #[(.int p0), (.int p1), (.int p2), (.int p3)] maxLocals t := fun t kt => pre24 t (by
          show oS p e below T4 m 163 #[iv p0, iv p1, iv p2, iv p3, iv 0, rv b4, jv wh, sn, jv 0, sn, iv c1, iv c2, iv r1v, jv p1v, sn, un, un, un, un, un, un, un, un, un, un] [(.int (lcmpW (c2.toInt64) ((0 : Int64) - p1v)))] _
          refine XS.ifNo X4.here hx rfl (hb hby at_163) rfl (Jvm.Free.XT.ll_gt_f hc163_25) ?_
          show oS p e below T4 m 166 #[iv p0, iv p1, iv p2, iv p3, iv 0, rv b4, jv wh, sn, jv 0, sn, iv c1, iv c2, iv r1v, jv p1v, sn, un, un, un, un, un, un, un, un, un, un] [] _
          refine XS.iconst X4.here hx rfl (hb hby at_166) ?_
          show oS p e below T4 m 167 #[iv p0, iv p1, iv p2, iv p3, iv 0, rv b4, jv wh, sn, jv 0, sn, iv c1, iv c2, iv r1v, jv p1v, sn, un, un, un, un, un, un, un, un, un, un] [(.int (1 : Int32))] _
          refine XS.goto X4.here hx rfl (pc0 := 167) (pc' := 171) rfl (hb hby at_167) (by decide) (by decide) ?_
          show oS p e below T4 m 171 #[iv p0, iv p1, iv p2, iv p3, iv 0, rv b4, jv wh, sn, jv 0, sn, iv c1, iv c2, iv r1v, jv p1v, sn, un, un, un, un, un, un, un, un, un, un] [(.int (1 : Int32))] _
          refine XS.istore X4.here hx rfl (hb hby at_171) rfl (l' := #[iv p0, iv p1, iv p2, iv p3, iv 0, rv b4, jv wh, sn, jv 0, sn, iv c1, iv c2, iv r1v, jv p1v, sn, iv 1, un, un, un, un, un, un, un, un, un]) rfl ?_
          show oS p e below T4 m 173 #[iv p0, iv p1, iv p2, iv p3, iv 0, rv b4, jv wh, sn, jv 0, sn, iv c1, iv c2, iv r1v, jv p1v, sn, iv 1, un, un, un, un, un, un, un, un, un] [] _
          refine XS.iload X4.here hx rfl (hb hby at_173) rfl ?_
          show oS p e below T4 m 175 #[iv p0, iv p1, iv p2, iv p3, iv 0, rv b4, jv wh, sn, jv 0, sn, iv c1, iv c2, iv r1v, jv p1v, sn, iv 1, un, un, un, un, un, un, un, un, un] [(.int (1 : Int32))] _
          refine XS.ifNo X4.here hx rfl (hb hby at_175) rfl ((if0 _ _).trans (feq (by decide : ¬ ((1 : Int32) = (0 : Int32)))).1) ?_
          show oS p e below T4 m 178 #[iv p0, iv p1, iv p2, iv p3, iv 0, rv b4, jv wh, sn, jv 0, sn, iv c1, iv c2, iv r1v, jv p1v, sn, iv 1, un, un, un, un, un, un, un, un, un] [] _
          refine XS.lload X4.here hx rfl (hb hby at_178) rfl ?_
          show oS p e below T4 m 180 #[iv p0, iv p1, iv p2, iv p3, iv 0, rv b4, jv wh, sn, jv 0, sn, iv c1, iv c2, iv r1v, jv p1v, sn, iv 1, un, un, un, un, un, un, un, un, un] [(.long p1v)] _
          refine XS.iload X4.here hx rfl (hb hby at_180) rfl ?_
          show oS p e below T4 m 182 #[iv p0, iv p1, iv p2, iv p3, iv 0, rv b4, jv wh, sn, jv 0, sn, iv c1, iv c2, iv r1v, jv p1v, sn, iv 1, un, un, un, un, un, un, un, un, un] [(.int c2), (.long p1v)] _
          refine XS.i2l X4.here hx rfl (hb hby at_182) rfl ?_
          show oS p e below T4 m 183 #[iv p0, iv p1, iv p2, iv p3, iv 0, rv b4, jv wh, sn, jv 0, sn, iv c1, iv c2, iv r1v, jv p1v, sn, iv 1, un, un, un, un, un, un, un, un, un] [(.long (c2.toInt64)), (.long p1v)] _
          refine XS.ladd X4.here hx rfl (hb hby at_183) rfl ?_
          show oS p e below T4 m 184 #[iv p0, iv p1, iv p2, iv p3, iv 0, rv b4, jv wh, sn, jv 0, sn, iv c1, iv c2, iv r1v, jv p1v, sn, iv 1, un, un, un, un, un, un, un, un, un] [(.long (p1v + (c2.toInt64)))] _
          refine XS.goto X4.here hx rfl (pc0 := 184) (pc' := 189) rfl (hb hby at_184) (by decide) (by decide) ?_
          show oS p e below T4 m 189 #[iv p0, iv p1, iv p2, iv p3, iv 0, rv b4, jv wh, sn, jv 0, sn, iv c1, iv c2, iv r1v, jv p1v, sn, iv 1, un, un, un, un, un, un, un, un, un] [(.long (p1v + (c2.toInt64)))] _
          refine XS.lstore X4.here hx rfl (hb hby at_189) rfl (l' := #[iv p0, iv p1, iv p2, iv p3, iv 0, rv b4, jv wh, sn, jv 0, sn, iv c1, iv c2, iv r1v, jv p1v, sn, iv 1, jv (p1v + (c2.toInt64)), sn, un, un, un, un, un, un, un]) rfl ?_
          exact kt)
        clear pre24
        exact ⟨(1 : Int32), (p1v + (c2.toInt64)), own_r2a c2 (0 : Int64) p1v 0 (by decide) (by decide) (own_pb 0 r1v c1 p1v (by decide) hm11.1 hm18) hm13 hc163_25, pre27⟩
    clear pre18
    obtain ⟨T28, h28, X28, e28, E28, A28, D28, -, st28⟩ := newO X4 hx hZ hown (hw _ (List.mem_of_getElem? (i := 4) rfl)) (hw _ (List.mem_of_getElem? (i := 5) rfl)) (hw _ (List.mem_of_getElem? (i := 6) rfl)) e4 (g := (mkF m 191 #[iv p0, iv p1, iv p2, iv p3, iv 0, rv b4, jv wh, sn, jv 0, sn, iv c1, iv c2, iv r1v, jv p1v, sn, iv r2v, jv p2v, sn, un, un, un, un, un, un, un] [])) rfl (hb hby at_191) (by decide) (by decide)
    obtain ⟨b28, g28⟩ : ∃ z, z = h4.size := ⟨_, rfl⟩
    rw [← g28] at A28 D28 st28
    have ne_b4_b28 : b4 ≠ b28 := Nat.ne_of_lt (Nat.lt_of_lt_of_le V4.lt (Nat.le_of_eq g28.symm))
    have pre29 : ∀ t, oS p e below T28 m 194 #[iv p0, iv p1, iv p2, iv p3, iv 0, rv b4, jv wh, sn, jv 0, sn, iv c1, iv c2, iv r1v, jv p1v, sn, iv r2v, jv p2v, sn, un, un, un, un, un, un, un] [(.ref b28)] t → oE p e below s₁ m #[(.int p0), (.int p1), (.int p2), (.int p3)] maxLocals t := fun t kt => pre23 t (st28 _ kt)
    clear pre23 st28
    have F30 : Arv Z h28 b4 k4 .byte (0 : Int32) [] (.int (0 : Int32)) := V4.ext E28
    have gn28 : n0 ≤ b28 := Nat.le_trans Z4 (Nat.le_of_eq g28.symm)
    have sz28 : h0.size ≤ b28 := Nat.le_trans K4.1 (Nat.le_of_eq g28.symm)
    have K28 : Keep h0 h28 [] := K4.ext E28
    have Z28 : n0 ≤ h28.size := Nat.le_trans Z4 E28.1
    have Fn28_data : Fld Z h28 b28 vB "data" "[B" .null := D28 (Or.inr (hw _ (List.mem_of_getElem? (i := 14) rfl))) (ty := (.array .byte)) (by decide)
    have Fn28_size : Fld Z h28 b28 vB "size" "J" (.long (0 : Int64)) := D28 (Or.inr (hw _ (List.mem_of_getElem? (i := 17) rfl))) (ty := .long) (by decide)
    have Fn28_position : Fld Z h28 b28 vB "position" "J" (.long (0 : Int64)) := D28 (Or.inl (hw _ (List.mem_of_getElem? (i := 24) rfl))) (ty := .long) (by decide)
    have Fn28_ended : Fld Z h28 b28 vB "ended" "Z" (.int (0 : Int32)) := D28 (Or.inl (hw _ (List.mem_of_getElem? (i := 26) rfl))) (ty := .boolean) (by decide)
    have pre31 : ∀ t, oS p e below T28 m 197 #[iv p0, iv p1, iv p2, iv p3, iv 0, rv b4, jv wh, sn, jv 0, sn, iv c1, iv c2, iv r1v, jv p1v, sn, iv r2v, jv p2v, sn, un, un, un, un, un, un, un] [(.ref b4), (.ref b28), (.ref b28)] t → oE p e below s₁ m #[(.int p0), (.int p1), (.int p2), (.int p3)] maxLocals t := fun t kt => pre29 t (by
      show oS p e below T28 m 194 #[iv p0, iv p1, iv p2, iv p3, iv 0, rv b4, jv wh, sn, jv 0, sn, iv c1, iv c2, iv r1v, jv p1v, sn, iv r2v, jv p2v, sn, un, un, un, un, un, un, un] [(.ref b28)] _
      refine XS.dup X28.here hx rfl (hb hby at_194) rfl rfl ?_
      show oS p e below T28 m 195 #[iv p0, iv p1, iv p2, iv p3, iv 0, rv b4, jv wh, sn, jv 0, sn, iv c1, iv c2, iv r1v, jv p1v, sn, iv r2v, jv p2v, sn, un, un, un, un, un, un, un] [(.ref b28), (.ref b28)] _
      refine XS.aload X28.here hx rfl (hb hby at_195) rfl rfl ?_
      exact kt)
    clear pre29
    obtain ⟨_, _, ⟨T32, L32, k32, n32⟩, -, X32, ⟨Lc32, hQ32, l32, y32, z32⟩, st32⟩ := X28.specialBack hx (y := (⟨vB, "<init>", "([B)V"⟩ : MethodName)) rfl hown (mvT hZ (hw _ (List.mem_of_getElem? (i := 7) rfl))) (mvT hZ (hw _ (List.mem_of_getElem? (i := 8) rfl))) (mvT hZ (hw _ (List.mem_of_getElem? (i := 9) rfl))) (by decide) (backOf (W := 1) (rm1c0 l Z av hw [] b28 b4 k4  h28 n0 Z28 A28 gn28 Fn28_data Fn28_size Fn28_position Fn28_ended F30 (Ne.symm ne_b4_b28)) hZ (hw _ (List.mem_of_getElem? (i := 9) rfl)) (hw _ (List.mem_of_getElem? (i := 6) rfl)) (by decide) (by decide)) (g := (mkF m 197 #[iv p0, iv p1, iv p2, iv p3, iv 0, rv b4, jv wh, sn, jv 0, sn, iv c1, iv c2, iv r1v, jv p1v, sn, iv r2v, jv p2v, sn, un, un, un, un, un, un, un] [(.ref b4), (.ref b28), (.ref b28)])) rfl (by rw [hml]; rfl) (Steps.refl _) (a := b28) (argsL := [(.ref b4)]) (rest := [(.ref b28)]) (lenOf pd___B_V rfl) rfl (by show 2 * 0 + _ ≤ _; exact Nat.le_of_eq rfl) (hb hby at_197) (fun _ _ => ⟨rfl, e28, (by decide : 2 + 0 ≤ _), (by decide : 4 + 0 ≤ _)⟩)
    dsimp only [Pt.U, Pt.locs, Pt.cells, Pt.slots] at X32 l32 y32 z32 st32 hQ32
    rw [l32, y32, z32] at X32
    clear l32 y32 z32
    obtain ⟨rfl, N32q, Kq32, Fq32_0, Fq32_1, Fq32_2, Fq32_3, Fq32_4⟩ := hQ32
    have N32 := Fr.app N0 N32q
    have F33 : Arv Z T32.heap b4 k4 .byte (0 : Int32) [] (.int (0 : Int32)) := F30.keep Kq32 (ninS ne_b4_b28 nin0)
    have K32 : Keep h0 T32.heap [] := K28.trans Kq32 (allS (Or.inr sz28) all0)
    have Z32 : n0 ≤ T32.heap.size := Nat.le_trans Z28 Kq32.1
    have Fq32_0' : Exa Z T32.heap b28 vB := Fq32_0
    have Fq32_1' : Fld Z T32.heap b28 vB "data" "[B" (.ref b4) := Fq32_1
    have Fq32_2' : Fld Z T32.heap b28 vB "size" "J" (.long ((8 : Int64) * ((0 : Int32).toInt64))) := Fq32_2
    have Fq32_3' : Fld Z T32.heap b28 vB "position" "J" (.long (0 : Int64)) := Fq32_3
    have Fq32_4' : Fld Z T32.heap b28 vB "ended" "Z" (.int (0 : Int32)) := Fq32_4
    have pre34 : ∀ t, oS p e below T32 m 200 #[iv p0, iv p1, iv p2, iv p3, iv 0, rv b4, jv wh, sn, jv 0, sn, iv c1, iv c2, iv r1v, jv p1v, sn, iv r2v, jv p2v, sn, un, un, un, un, un, un, un] [(.ref b28)] t → oE p e below s₁ m #[(.int p0), (.int p1), (.int p2), (.int p3)] maxLocals t := fun t kt => pre31 t (st32.trans kt)
    clear pre31 st32
    have pre35 : ∀ t, oS p e below T32 m 206 #[iv p0, iv p1, iv p2, iv p3, iv 0, rv b4, jv wh, sn, jv 0, sn, iv c1, iv c2, iv r1v, jv p1v, sn, iv r2v, jv p2v, sn, rv b28, un, un, un, un, un, un] [(.int c1), (.ref b28)] t → oE p e below s₁ m #[(.int p0), (.int p1), (.int p2), (.int p3)] maxLocals t := fun t kt => pre34 t (by
      show oS p e below T32 m 200 #[iv p0, iv p1, iv p2, iv p3, iv 0, rv b4, jv wh, sn, jv 0, sn, iv c1, iv c2, iv r1v, jv p1v, sn, iv r2v, jv p2v, sn, un, un, un, un, un, un, un] [(.ref b28)] _
      refine XS.astore X32.here hx rfl (hb hby at_200) rfl rfl (l' := #[iv p0, iv p1, iv p2, iv p3, iv 0, rv b4, jv wh, sn, jv 0, sn, iv c1, iv c2, iv r1v, jv p1v, sn, iv r2v, jv p2v, sn, rv b28, un, un, un, un, un, un]) rfl ?_
      show oS p e below T32 m 202 #[iv p0, iv p1, iv p2, iv p3, iv 0, rv b4, jv wh, sn, jv 0, sn, iv c1, iv c2, iv r1v, jv p1v, sn, iv r2v, jv p2v, sn, rv b28, un, un, un, un, un, un] [] _
      refine XS.aload X32.here hx rfl (hb hby at_202) rfl rfl ?_
      show oS p e below T32 m 204 #[iv p0, iv p1, iv p2, iv p3, iv 0, rv b4, jv wh, sn, jv 0, sn, iv c1, iv c2, iv r1v, jv p1v, sn, iv r2v, jv p2v, sn, rv b28, un, un, un, un, un, un] [(.ref b28)] _
      refine XS.iload X32.here hx rfl (hb hby at_204) rfl ?_
      exact kt)
    clear pre34
    obtain ⟨cq36, kq36, q36a, q36b, q36c⟩ := isOf hZ rfl Fq32_0'
    obtain ⟨_, _, ⟨T37, L37, k37, n37⟩, -, X37, ⟨Lc37, hQ37, l37, y37, z37⟩, st37⟩ := X32.virtualBack hx (y := (⟨vB, "skip", "(I)Z"⟩ : MethodName)) (z := (⟨vB, "skip", "(I)Z"⟩ : MethodName)) hown (mvT hZ (hw _ (List.mem_of_getElem? (i := 18) rfl))) (mvT hZ (hw _ (List.mem_of_getElem? (i := 19) rfl))) (notFace_of_selects (args := #[]) (mvT hZ (hw _ (List.mem_of_getElem? (i := 21) rfl)))) (mvT hZ (hw _ (List.mem_of_getElem? (i := 21) rfl))) (mvT hZ (hw _ (List.mem_of_getElem? (i := 20) rfl))) (by decide) (backOf (W := 0) (rm3 l Z av hw [] b28 c1 b4 ((8 : Int64) * ((0 : Int32).toInt64)) (0 : Int64) (0 : Int32) T32.heap n0 Z32 Fq32_0' gn28 Fq32_1' Fq32_2' Fq32_3' Fq32_4') hZ (hw _ (List.mem_of_getElem? (i := 22) rfl)) (hw _ (List.mem_of_getElem? (i := 6) rfl)) (by decide) (by decide)) q36a q36c (g := (mkF m 206 #[iv p0, iv p1, iv p2, iv p3, iv 0, rv b4, jv wh, sn, jv 0, sn, iv c1, iv c2, iv r1v, jv p1v, sn, iv r2v, jv p2v, sn, rv b28, un, un, un, un, un, un] [(.int c1), (.ref b28)])) rfl (by rw [hml]; rfl) (Steps.refl _) (argsL := [(.int c1)]) (rest := []) (lenOf pd__I_Z rfl) rfl (by show 2 * 0 + _ ≤ _; exact Nat.le_of_eq rfl) (hb hby at_206) (fun _ _ => ⟨rfl, rfl, (by decide : 2 + 0 ≤ _), (by decide : 4 + 0 ≤ _)⟩)
    dsimp only [Pt.U, Pt.locs, Pt.cells, Pt.slots] at X37 l37 y37 z37 st37 hQ37
    rw [l37, y37, z37] at X37
    clear l37 y37 z37
    obtain ⟨rv37, ps37, ed37, rfl, Nz37, Kz37, ⟨Gz0, Gz1, Gz2, Gz3, Gz4⟩, Rl37⟩ := hQ37
    have hQ37 := And.intro (rfl : (0 : Nat) = 0) (And.intro Nz37 (And.intro Kz37 (And.intro Gz0 (And.intro Gz1 (And.intro Gz2 (And.intro Gz3 Gz4))))))
    obtain ⟨-, N37q, Kq37, Fq37_0, Fq37_1, Fq37_2, Fq37_3, Fq37_4⟩ := hQ37
    have N37 := Fr.app N32 N37q
    have F38 : Arv Z T37.heap b4 k4 .byte (0 : Int32) [] (.int (0 : Int32)) := F33.keep Kq37 (ninS ne_b4_b28 nin0)
    have K37 : Keep h0 T37.heap [] := K32.trans Kq37 (allS (Or.inr sz28) all0)
    have Z37 : n0 ≤ T37.heap.size := Nat.le_trans Z32 Kq37.1
    have Fq37_0' : Exa Z T37.heap b28 vB := Fq37_0
    have Fq37_1' : Fld Z T37.heap b28 vB "data" "[B" (.ref b4) := Fq37_1
    have Fq37_2' : Fld Z T37.heap b28 vB "size" "J" (.long ((8 : Int64) * ((0 : Int32).toInt64))) := Fq37_2
    have Fq37_3' : Fld Z T37.heap b28 vB "position" "J" (.long ps37) := Fq37_3
    have Fq37_4' : Fld Z T37.heap b28 vB "ended" "Z" (.int ed37) := Fq37_4
    have pre39 : ∀ t, oS p e below T37 m 209 #[iv p0, iv p1, iv p2, iv p3, iv 0, rv b4, jv wh, sn, jv 0, sn, iv c1, iv c2, iv r1v, jv p1v, sn, iv r2v, jv p2v, sn, rv b28, un, un, un, un, un, un] [(.int rv37)] t → oE p e below s₁ m #[(.int p0), (.int p1), (.int p2), (.int p3)] maxLocals t := fun t kt => pre35 t (st37.trans kt)
    clear pre35 st37
    have pre40 : ∀ t, oS p e below T37 m 215 #[iv p0, iv p1, iv p2, iv p3, iv 0, rv b4, jv wh, sn, jv 0, sn, iv c1, iv c2, iv r1v, jv p1v, sn, iv r2v, jv p2v, sn, rv b28, iv rv37, un, un, un, un, un] [(.int (32 : Int32)), (.ref b28)] t → oE p e below s₁ m #[(.int p0), (.int p1), (.int p2), (.int p3)] maxLocals t := fun t kt => pre39 t (by
      show oS p e below T37 m 209 #[iv p0, iv p1, iv p2, iv p3, iv 0, rv b4, jv wh, sn, jv 0, sn, iv c1, iv c2, iv r1v, jv p1v, sn, iv r2v, jv p2v, sn, rv b28, un, un, un, un, un, un] [(.int rv37)] _
      refine XS.istore X37.here hx rfl (hb hby at_209) rfl (l' := #[iv p0, iv p1, iv p2, iv p3, iv 0, rv b4, jv wh, sn, jv 0, sn, iv c1, iv c2, iv r1v, jv p1v, sn, iv r2v, jv p2v, sn, rv b28, iv rv37, un, un, un, un, un]) rfl ?_
      show oS p e below T37 m 211 #[iv p0, iv p1, iv p2, iv p3, iv 0, rv b4, jv wh, sn, jv 0, sn, iv c1, iv c2, iv r1v, jv p1v, sn, iv r2v, jv p2v, sn, rv b28, iv rv37, un, un, un, un, un] [] _
      refine XS.aload X37.here hx rfl (hb hby at_211) rfl rfl ?_
      show oS p e below T37 m 213 #[iv p0, iv p1, iv p2, iv p3, iv 0, rv b4, jv wh, sn, jv 0, sn, iv c1, iv c2, iv r1v, jv p1v, sn, iv r2v, jv p2v, sn, rv b28, iv rv37, un, un, un, un, un] [(.ref b28)] _
      refine XS.bipush X37.here hx rfl (hb hby at_213) ?_
      exact kt)
    clear pre39
    have sk41 := own_skr 0 0 ((8 : Int64) * ((0 : Int32).toInt64)) (0 : Int64) ps37 p1v c1 rv37 r1v (0 : Int32) ed37 (by decide) (by decide) (by decide) (by decide) hm11.1 hm18 Rl37
    obtain ⟨cq42, kq42, q42a, q42b, q42c⟩ := isOf hZ rfl Fq37_0'
    obtain ⟨_, _, ⟨T43, L43, k43, n43⟩, -, X43, ⟨Lc43, hQ43, l43, y43, z43⟩, st43⟩ := X37.virtualBack hx (y := (⟨vB, "peek", "(I)I"⟩ : MethodName)) (z := (⟨vB, "peek", "(I)I"⟩ : MethodName)) hown (mvT hZ (hw _ (List.mem_of_getElem? (i := 27) rfl))) (mvT hZ (hw _ (List.mem_of_getElem? (i := 28) rfl))) (notFace_of_selects (args := #[]) (mvT hZ (hw _ (List.mem_of_getElem? (i := 30) rfl)))) (mvT hZ (hw _ (List.mem_of_getElem? (i := 30) rfl))) (mvT hZ (hw _ (List.mem_of_getElem? (i := 29) rfl))) (by decide) (backOf (W := 0) (rm4p0 l Z av hw [] b28 b4 ((8 : Int64) * ((0 : Int32).toInt64)) ps37 ed37 k4  T37.heap n0 Z37 Fq37_0' gn28 Fq37_1' Fq37_2' Fq37_3' Fq37_4' F38 sk41.2.2.1) hZ (hw _ (List.mem_of_getElem? (i := 31) rfl)) (hw _ (List.mem_of_getElem? (i := 6) rfl)) (by decide) (by decide)) q42a q42c (g := (mkF m 215 #[iv p0, iv p1, iv p2, iv p3, iv 0, rv b4, jv wh, sn, jv 0, sn, iv c1, iv c2, iv r1v, jv p1v, sn, iv r2v, jv p2v, sn, rv b28, iv rv37, un, un, un, un, un] [(.int (32 : Int32)), (.ref b28)])) rfl (by rw [hml]; rfl) (Steps.refl _) (argsL := [(.int (32 : Int32))]) (rest := []) (lenOf pd__I_I rfl) rfl (by show 2 * 0 + _ ≤ _; exact Nat.le_of_eq rfl) (hb hby at_215) (fun _ _ => ⟨rfl, rfl, (by decide : 2 + 0 ≤ _), (by decide : 4 + 0 ≤ _)⟩)
    dsimp only [Pt.U, Pt.locs, Pt.cells, Pt.slots] at X43 l43 y43 z43 st43 hQ43
    rw [l43, y43, z43] at X43
    clear l43 y43 z43
    obtain ⟨rfl, N43q, e43⟩ := hQ43
    have N43 := Fr.app N37 N43q
    have pre44 : ∀ t, oS p e below T43 m 218 #[iv p0, iv p1, iv p2, iv p3, iv 0, rv b4, jv wh, sn, jv 0, sn, iv c1, iv c2, iv r1v, jv p1v, sn, iv r2v, jv p2v, sn, rv b28, iv rv37, un, un, un, un, un] [(.int (Int32.ofInt ((0) / 2 ^ ps37.toInt.toNat)))] t → oE p e below s₁ m #[(.int p0), (.int p1), (.int p2), (.int p3)] maxLocals t := fun t kt => pre40 t (st43.trans kt)
    clear pre40 st43
    obtain ⟨kv218, hm45, pre45⟩ : ∃ (kv218 : Int32), (kv218 = (Int32.ofInt ((0) / 2 ^ ps37.toInt.toNat))) ∧ ∀ t, oS p e below T43 m 218 #[iv p0, iv p1, iv p2, iv p3, iv 0, rv b4, jv wh, sn, jv 0, sn, iv c1, iv c2, iv r1v, jv p1v, sn, iv r2v, jv p2v, sn, rv b28, iv rv37, un, un, un, un, un] [(.int kv218)] t → oE p e below s₁ m #[(.int p0), (.int p1), (.int p2), (.int p3)] maxLocals t := ⟨(Int32.ofInt ((0) / 2 ^ ps37.toInt.toNat)), rfl, pre44⟩
    clear pre44
    have pre46 : ∀ t, oS p e below T43 m 222 #[iv p0, iv p1, iv p2, iv p3, iv 0, rv b4, jv wh, sn, jv 0, sn, iv c1, iv c2, iv r1v, jv p1v, sn, iv r2v, jv p2v, sn, rv b28, iv rv37, iv kv218, un, un, un, un] [(.ref b28)] t → oE p e below s₁ m #[(.int p0), (.int p1), (.int p2), (.int p3)] maxLocals t := fun t kt => pre45 t (by
      show oS p e below T43 m 218 #[iv p0, iv p1, iv p2, iv p3, iv 0, rv b4, jv wh, sn, jv 0, sn, iv c1, iv c2, iv r1v, jv p1v, sn, iv r2v, jv p2v, sn, rv b28, iv rv37, un, un, un, un, un] [(.int kv218)] _
      refine XS.istore X43.here hx rfl (hb hby at_218) rfl (l' := #[iv p0, iv p1, iv p2, iv p3, iv 0, rv b4, jv wh, sn, jv 0, sn, iv c1, iv c2, iv r1v, jv p1v, sn, iv r2v, jv p2v, sn, rv b28, iv rv37, iv kv218, un, un, un, un]) rfl ?_
      show oS p e below T43 m 220 #[iv p0, iv p1, iv p2, iv p3, iv 0, rv b4, jv wh, sn, jv 0, sn, iv c1, iv c2, iv r1v, jv p1v, sn, iv r2v, jv p2v, sn, rv b28, iv rv37, iv kv218, un, un, un, un] [] _
      refine XS.aload X43.here hx rfl (hb hby at_220) rfl rfl ?_
      exact kt)
    clear pre45
    obtain ⟨cq47, kq47, q47a, q47b, q47c⟩ := isOf hZ e43 Fq37_0'
    obtain ⟨_, _, ⟨T48, L48, k48, n48⟩, -, X48, ⟨Lc48, hQ48, l48, y48, z48⟩, st48⟩ := X43.virtualBack hx (y := (⟨vB, "ended", "()Z"⟩ : MethodName)) (z := (⟨vB, "ended", "()Z"⟩ : MethodName)) hown (mvT hZ (hw _ (List.mem_of_getElem? (i := 37) rfl))) (mvT hZ (hw _ (List.mem_of_getElem? (i := 38) rfl))) (notFace_of_selects (args := #[]) (mvT hZ (hw _ (List.mem_of_getElem? (i := 40) rfl)))) (mvT hZ (hw _ (List.mem_of_getElem? (i := 40) rfl))) (mvT hZ (hw _ (List.mem_of_getElem? (i := 39) rfl))) (by decide) (backOf (W := 0) (rm6 l Z av hw [] b28 b4 ((8 : Int64) * ((0 : Int32).toInt64)) ps37 ed37 T37.heap n0 Z37 Fq37_0' gn28 Fq37_1' Fq37_2' Fq37_3' Fq37_4' (own_nar1 r1v ed37 sk41.2.2.2)) hZ (hw _ (List.mem_of_getElem? (i := 41) rfl)) (hw _ (List.mem_of_getElem? (i := 6) rfl)) (by decide) (by decide)) q47a q47c (g := (mkF m 222 #[iv p0, iv p1, iv p2, iv p3, iv 0, rv b4, jv wh, sn, jv 0, sn, iv c1, iv c2, iv r1v, jv p1v, sn, iv r2v, jv p2v, sn, rv b28, iv rv37, iv kv218, un, un, un, un] [(.ref b28)])) rfl (by rw [hml]; rfl) (Steps.refl _) (argsL := []) (rest := []) (lenOf pd___Z rfl) rfl (by show 2 * 0 + _ ≤ _; exact Nat.le_of_eq rfl) (hb hby at_222) (fun _ _ => ⟨rfl, e43, (by decide : 2 + 0 ≤ _), (by decide : 4 + 0 ≤ _)⟩)
    dsimp only [Pt.U, Pt.locs, Pt.cells, Pt.slots] at X48 l48 y48 z48 st48 hQ48
    rw [l48, y48, z48] at X48
    clear l48 y48 z48
    obtain ⟨rfl, N48q, e48⟩ := hQ48
    have N48 := Fr.app N43 N48q
    have pre49 : ∀ t, oS p e below T48 m 225 #[iv p0, iv p1, iv p2, iv p3, iv 0, rv b4, jv wh, sn, jv 0, sn, iv c1, iv c2, iv r1v, jv p1v, sn, iv r2v, jv p2v, sn, rv b28, iv rv37, iv kv218, un, un, un, un] [(.int ed37)] t → oE p e below s₁ m #[(.int p0), (.int p1), (.int p2), (.int p3)] maxLocals t := fun t kt => pre46 t (st48.trans kt)
    clear pre46 st48
    have pre50 : ∀ t, oS p e below T48 m 231 #[iv p0, iv p1, iv p2, iv p3, iv 0, rv b4, jv wh, sn, jv 0, sn, iv c1, iv c2, iv r1v, jv p1v, sn, iv r2v, jv p2v, sn, rv b28, iv rv37, iv kv218, iv ed37, un, un, un] [(.int c2), (.ref b28)] t → oE p e below s₁ m #[(.int p0), (.int p1), (.int p2), (.int p3)] maxLocals t := fun t kt => pre49 t (by
      show oS p e below T48 m 225 #[iv p0, iv p1, iv p2, iv p3, iv 0, rv b4, jv wh, sn, jv 0, sn, iv c1, iv c2, iv r1v, jv p1v, sn, iv r2v, jv p2v, sn, rv b28, iv rv37, iv kv218, un, un, un, un] [(.int ed37)] _
      refine XS.istore X48.here hx rfl (hb hby at_225) rfl (l' := #[iv p0, iv p1, iv p2, iv p3, iv 0, rv b4, jv wh, sn, jv 0, sn, iv c1, iv c2, iv r1v, jv p1v, sn, iv r2v, jv p2v, sn, rv b28, iv rv37, iv kv218, iv ed37, un, un, un]) rfl ?_
      show oS p e below T48 m 227 #[iv p0, iv p1, iv p2, iv p3, iv 0, rv b4, jv wh, sn, jv 0, sn, iv c1, iv c2, iv r1v, jv p1v, sn, iv r2v, jv p2v, sn, rv b28, iv rv37, iv kv218, iv ed37, un, un, un] [] _
      refine XS.aload X48.here hx rfl (hb hby at_227) rfl rfl ?_
      show oS p e below T48 m 229 #[iv p0, iv p1, iv p2, iv p3, iv 0, rv b4, jv wh, sn, jv 0, sn, iv c1, iv c2, iv r1v, jv p1v, sn, iv r2v, jv p2v, sn, rv b28, iv rv37, iv kv218, iv ed37, un, un, un] [(.ref b28)] _
      refine XS.iload X48.here hx rfl (hb hby at_229) rfl ?_
      exact kt)
    clear pre49
    obtain ⟨cq51, kq51, q51a, q51b, q51c⟩ := isOf hZ e48 Fq37_0'
    obtain ⟨_, _, ⟨T52, L52, k52, n52⟩, -, X52, ⟨Lc52, hQ52, l52, y52, z52⟩, st52⟩ := X48.virtualBack hx (y := (⟨vB, "skip", "(I)Z"⟩ : MethodName)) (z := (⟨vB, "skip", "(I)Z"⟩ : MethodName)) hown (mvT hZ (hw _ (List.mem_of_getElem? (i := 18) rfl))) (mvT hZ (hw _ (List.mem_of_getElem? (i := 19) rfl))) (notFace_of_selects (args := #[]) (mvT hZ (hw _ (List.mem_of_getElem? (i := 21) rfl)))) (mvT hZ (hw _ (List.mem_of_getElem? (i := 21) rfl))) (mvT hZ (hw _ (List.mem_of_getElem? (i := 20) rfl))) (by decide) (backOf (W := 0) (rm3 l Z av hw [] b28 c2 b4 ((8 : Int64) * ((0 : Int32).toInt64)) ps37 ed37 T37.heap n0 Z37 Fq37_0' gn28 Fq37_1' Fq37_2' Fq37_3' Fq37_4') hZ (hw _ (List.mem_of_getElem? (i := 22) rfl)) (hw _ (List.mem_of_getElem? (i := 6) rfl)) (by decide) (by decide)) q51a q51c (g := (mkF m 231 #[iv p0, iv p1, iv p2, iv p3, iv 0, rv b4, jv wh, sn, jv 0, sn, iv c1, iv c2, iv r1v, jv p1v, sn, iv r2v, jv p2v, sn, rv b28, iv rv37, iv kv218, iv ed37, un, un, un] [(.int c2), (.ref b28)])) rfl (by rw [hml]; rfl) (Steps.refl _) (argsL := [(.int c2)]) (rest := []) (lenOf pd__I_Z rfl) rfl (by show 2 * 0 + _ ≤ _; exact Nat.le_of_eq rfl) (hb hby at_231) (fun _ _ => ⟨rfl, e48, (by decide : 2 + 0 ≤ _), (by decide : 4 + 0 ≤ _)⟩)
    dsimp only [Pt.U, Pt.locs, Pt.cells, Pt.slots] at X52 l52 y52 z52 st52 hQ52
    rw [l52, y52, z52] at X52
    clear l52 y52 z52
    obtain ⟨rv52, ps52, ed52, rfl, Nz52, Kz52, ⟨Gz0, Gz1, Gz2, Gz3, Gz4⟩, Rl52⟩ := hQ52
    have hQ52 := And.intro (rfl : (0 : Nat) = 0) (And.intro Nz52 (And.intro Kz52 (And.intro Gz0 (And.intro Gz1 (And.intro Gz2 (And.intro Gz3 Gz4))))))
    obtain ⟨-, N52q, Kq52, Fq52_0, Fq52_1, Fq52_2, Fq52_3, Fq52_4⟩ := hQ52
    have N52 := Fr.app N48 N52q
    have F53 : Arv Z T52.heap b4 k4 .byte (0 : Int32) [] (.int (0 : Int32)) := F38.keep Kq52 (ninS ne_b4_b28 nin0)
    have K52 : Keep h0 T52.heap [] := K37.trans Kq52 (allS (Or.inr sz28) all0)
    have Z52 : n0 ≤ T52.heap.size := Nat.le_trans Z37 Kq52.1
    have Fq52_0' : Exa Z T52.heap b28 vB := Fq52_0
    have Fq52_1' : Fld Z T52.heap b28 vB "data" "[B" (.ref b4) := Fq52_1
    have Fq52_2' : Fld Z T52.heap b28 vB "size" "J" (.long ((8 : Int64) * ((0 : Int32).toInt64))) := Fq52_2
    have Fq52_3' : Fld Z T52.heap b28 vB "position" "J" (.long ps52) := Fq52_3
    have Fq52_4' : Fld Z T52.heap b28 vB "ended" "Z" (.int ed52) := Fq52_4
    have pre54 : ∀ t, oS p e below T52 m 234 #[iv p0, iv p1, iv p2, iv p3, iv 0, rv b4, jv wh, sn, jv 0, sn, iv c1, iv c2, iv r1v, jv p1v, sn, iv r2v, jv p2v, sn, rv b28, iv rv37, iv kv218, iv ed37, un, un, un] [(.int rv52)] t → oE p e below s₁ m #[(.int p0), (.int p1), (.int p2), (.int p3)] maxLocals t := fun t kt => pre50 t (st52.trans kt)
    clear pre50 st52
    have pre55 : ∀ t, oS p e below T52 m 240 #[iv p0, iv p1, iv p2, iv p3, iv 0, rv b4, jv wh, sn, jv 0, sn, iv c1, iv c2, iv r1v, jv p1v, sn, iv r2v, jv p2v, sn, rv b28, iv rv37, iv kv218, iv ed37, iv rv52, un, un] [(.int (32 : Int32)), (.ref b28)] t → oE p e below s₁ m #[(.int p0), (.int p1), (.int p2), (.int p3)] maxLocals t := fun t kt => pre54 t (by
      show oS p e below T52 m 234 #[iv p0, iv p1, iv p2, iv p3, iv 0, rv b4, jv wh, sn, jv 0, sn, iv c1, iv c2, iv r1v, jv p1v, sn, iv r2v, jv p2v, sn, rv b28, iv rv37, iv kv218, iv ed37, un, un, un] [(.int rv52)] _
      refine XS.istore X52.here hx rfl (hb hby at_234) rfl (l' := #[iv p0, iv p1, iv p2, iv p3, iv 0, rv b4, jv wh, sn, jv 0, sn, iv c1, iv c2, iv r1v, jv p1v, sn, iv r2v, jv p2v, sn, rv b28, iv rv37, iv kv218, iv ed37, iv rv52, un, un]) rfl ?_
      show oS p e below T52 m 236 #[iv p0, iv p1, iv p2, iv p3, iv 0, rv b4, jv wh, sn, jv 0, sn, iv c1, iv c2, iv r1v, jv p1v, sn, iv r2v, jv p2v, sn, rv b28, iv rv37, iv kv218, iv ed37, iv rv52, un, un] [] _
      refine XS.aload X52.here hx rfl (hb hby at_236) rfl rfl ?_
      show oS p e below T52 m 238 #[iv p0, iv p1, iv p2, iv p3, iv 0, rv b4, jv wh, sn, jv 0, sn, iv c1, iv c2, iv r1v, jv p1v, sn, iv r2v, jv p2v, sn, rv b28, iv rv37, iv kv218, iv ed37, iv rv52, un, un] [(.ref b28)] _
      refine XS.bipush X52.here hx rfl (hb hby at_238) ?_
      exact kt)
    clear pre54
    have sk56 := own_skr 0 p1v.toInt ((8 : Int64) * ((0 : Int32).toInt64)) ps37 ps52 p2v c2 rv52 r2v ed37 ed52 (by decide) (by decide) sk41.2.1 (own_pb 0 r1v c1 p1v (by decide) hm11.1 hm18) hm13 hm23 Rl52
    obtain ⟨cq57, kq57, q57a, q57b, q57c⟩ := isOf hZ rfl Fq52_0'
    obtain ⟨_, _, ⟨T58, L58, k58, n58⟩, -, X58, ⟨Lc58, hQ58, l58, y58, z58⟩, st58⟩ := X52.virtualBack hx (y := (⟨vB, "peek", "(I)I"⟩ : MethodName)) (z := (⟨vB, "peek", "(I)I"⟩ : MethodName)) hown (mvT hZ (hw _ (List.mem_of_getElem? (i := 27) rfl))) (mvT hZ (hw _ (List.mem_of_getElem? (i := 28) rfl))) (notFace_of_selects (args := #[]) (mvT hZ (hw _ (List.mem_of_getElem? (i := 30) rfl)))) (mvT hZ (hw _ (List.mem_of_getElem? (i := 30) rfl))) (mvT hZ (hw _ (List.mem_of_getElem? (i := 29) rfl))) (by decide) (backOf (W := 0) (rm4p0 l Z av hw [] b28 b4 ((8 : Int64) * ((0 : Int32).toInt64)) ps52 ed52 k4  T52.heap n0 Z52 Fq52_0' gn28 Fq52_1' Fq52_2' Fq52_3' Fq52_4' F53 sk56.2.2.1) hZ (hw _ (List.mem_of_getElem? (i := 31) rfl)) (hw _ (List.mem_of_getElem? (i := 6) rfl)) (by decide) (by decide)) q57a q57c (g := (mkF m 240 #[iv p0, iv p1, iv p2, iv p3, iv 0, rv b4, jv wh, sn, jv 0, sn, iv c1, iv c2, iv r1v, jv p1v, sn, iv r2v, jv p2v, sn, rv b28, iv rv37, iv kv218, iv ed37, iv rv52, un, un] [(.int (32 : Int32)), (.ref b28)])) rfl (by rw [hml]; rfl) (Steps.refl _) (argsL := [(.int (32 : Int32))]) (rest := []) (lenOf pd__I_I rfl) rfl (by show 2 * 0 + _ ≤ _; exact Nat.le_of_eq rfl) (hb hby at_240) (fun _ _ => ⟨rfl, rfl, (by decide : 2 + 0 ≤ _), (by decide : 4 + 0 ≤ _)⟩)
    dsimp only [Pt.U, Pt.locs, Pt.cells, Pt.slots] at X58 l58 y58 z58 st58 hQ58
    rw [l58, y58, z58] at X58
    clear l58 y58 z58
    obtain ⟨rfl, N58q, e58⟩ := hQ58
    have N58 := Fr.app N52 N58q
    have pre59 : ∀ t, oS p e below T58 m 243 #[iv p0, iv p1, iv p2, iv p3, iv 0, rv b4, jv wh, sn, jv 0, sn, iv c1, iv c2, iv r1v, jv p1v, sn, iv r2v, jv p2v, sn, rv b28, iv rv37, iv kv218, iv ed37, iv rv52, un, un] [(.int (Int32.ofInt ((0) / 2 ^ ps52.toInt.toNat)))] t → oE p e below s₁ m #[(.int p0), (.int p1), (.int p2), (.int p3)] maxLocals t := fun t kt => pre55 t (st58.trans kt)
    clear pre55 st58
    obtain ⟨kv243, hm60, pre60⟩ : ∃ (kv243 : Int32), (kv243 = (Int32.ofInt ((0) / 2 ^ ps52.toInt.toNat))) ∧ ∀ t, oS p e below T58 m 243 #[iv p0, iv p1, iv p2, iv p3, iv 0, rv b4, jv wh, sn, jv 0, sn, iv c1, iv c2, iv r1v, jv p1v, sn, iv r2v, jv p2v, sn, rv b28, iv rv37, iv kv218, iv ed37, iv rv52, un, un] [(.int kv243)] t → oE p e below s₁ m #[(.int p0), (.int p1), (.int p2), (.int p3)] maxLocals t := ⟨(Int32.ofInt ((0) / 2 ^ ps52.toInt.toNat)), rfl, pre59⟩
    clear pre59
    have pre61 : ∀ t, oS p e below T58 m 247 #[iv p0, iv p1, iv p2, iv p3, iv 0, rv b4, jv wh, sn, jv 0, sn, iv c1, iv c2, iv r1v, jv p1v, sn, iv r2v, jv p2v, sn, rv b28, iv rv37, iv kv218, iv ed37, iv rv52, iv kv243, un] [(.ref b28)] t → oE p e below s₁ m #[(.int p0), (.int p1), (.int p2), (.int p3)] maxLocals t := fun t kt => pre60 t (by
      show oS p e below T58 m 243 #[iv p0, iv p1, iv p2, iv p3, iv 0, rv b4, jv wh, sn, jv 0, sn, iv c1, iv c2, iv r1v, jv p1v, sn, iv r2v, jv p2v, sn, rv b28, iv rv37, iv kv218, iv ed37, iv rv52, un, un] [(.int kv243)] _
      refine XS.istore X58.here hx rfl (hb hby at_243) rfl (l' := #[iv p0, iv p1, iv p2, iv p3, iv 0, rv b4, jv wh, sn, jv 0, sn, iv c1, iv c2, iv r1v, jv p1v, sn, iv r2v, jv p2v, sn, rv b28, iv rv37, iv kv218, iv ed37, iv rv52, iv kv243, un]) rfl ?_
      show oS p e below T58 m 245 #[iv p0, iv p1, iv p2, iv p3, iv 0, rv b4, jv wh, sn, jv 0, sn, iv c1, iv c2, iv r1v, jv p1v, sn, iv r2v, jv p2v, sn, rv b28, iv rv37, iv kv218, iv ed37, iv rv52, iv kv243, un] [] _
      refine XS.aload X58.here hx rfl (hb hby at_245) rfl rfl ?_
      exact kt)
    clear pre60
    obtain ⟨cq62, kq62, q62a, q62b, q62c⟩ := isOf hZ e58 Fq52_0'
    obtain ⟨_, _, ⟨T63, L63, k63, n63⟩, -, X63, ⟨Lc63, hQ63, l63, y63, z63⟩, st63⟩ := X58.virtualBack hx (y := (⟨vB, "ended", "()Z"⟩ : MethodName)) (z := (⟨vB, "ended", "()Z"⟩ : MethodName)) hown (mvT hZ (hw _ (List.mem_of_getElem? (i := 37) rfl))) (mvT hZ (hw _ (List.mem_of_getElem? (i := 38) rfl))) (notFace_of_selects (args := #[]) (mvT hZ (hw _ (List.mem_of_getElem? (i := 40) rfl)))) (mvT hZ (hw _ (List.mem_of_getElem? (i := 40) rfl))) (mvT hZ (hw _ (List.mem_of_getElem? (i := 39) rfl))) (by decide) (backOf (W := 0) (rm6 l Z av hw [] b28 b4 ((8 : Int64) * ((0 : Int32).toInt64)) ps52 ed52 T52.heap n0 Z52 Fq52_0' gn28 Fq52_1' Fq52_2' Fq52_3' Fq52_4' (own_nar2 r1v ed37 r2v ed52 sk41.2.2.2 sk56.2.2.2)) hZ (hw _ (List.mem_of_getElem? (i := 41) rfl)) (hw _ (List.mem_of_getElem? (i := 6) rfl)) (by decide) (by decide)) q62a q62c (g := (mkF m 247 #[iv p0, iv p1, iv p2, iv p3, iv 0, rv b4, jv wh, sn, jv 0, sn, iv c1, iv c2, iv r1v, jv p1v, sn, iv r2v, jv p2v, sn, rv b28, iv rv37, iv kv218, iv ed37, iv rv52, iv kv243, un] [(.ref b28)])) rfl (by rw [hml]; rfl) (Steps.refl _) (argsL := []) (rest := []) (lenOf pd___Z rfl) rfl (by show 2 * 0 + _ ≤ _; exact Nat.le_of_eq rfl) (hb hby at_247) (fun _ _ => ⟨rfl, e58, (by decide : 2 + 0 ≤ _), (by decide : 4 + 0 ≤ _)⟩)
    dsimp only [Pt.U, Pt.locs, Pt.cells, Pt.slots] at X63 l63 y63 z63 st63 hQ63
    rw [l63, y63, z63] at X63
    clear l63 y63 z63
    obtain ⟨rfl, N63q, e63⟩ := hQ63
    have N63 := Fr.app N58 N63q
    have pre64 : ∀ t, oS p e below T63 m 250 #[iv p0, iv p1, iv p2, iv p3, iv 0, rv b4, jv wh, sn, jv 0, sn, iv c1, iv c2, iv r1v, jv p1v, sn, iv r2v, jv p2v, sn, rv b28, iv rv37, iv kv218, iv ed37, iv rv52, iv kv243, un] [(.int ed52)] t → oE p e below s₁ m #[(.int p0), (.int p1), (.int p2), (.int p3)] maxLocals t := fun t kt => pre61 t (st63.trans kt)
    clear pre61 st63
    have pre65 : ∀ t, oS p e below T63 m 275 #[iv p0, iv p1, iv p2, iv p3, iv 0, rv b4, jv wh, sn, jv 0, sn, iv c1, iv c2, iv r1v, jv p1v, sn, iv r2v, jv p2v, sn, rv b28, iv rv37, iv kv218, iv ed37, iv rv52, iv kv243, iv ed52] [(.int r1v), (.int ed37)] t → oE p e below s₁ m #[(.int p0), (.int p1), (.int p2), (.int p3)] maxLocals t := fun t kt => pre64 t (by
      show oS p e below T63 m 250 #[iv p0, iv p1, iv p2, iv p3, iv 0, rv b4, jv wh, sn, jv 0, sn, iv c1, iv c2, iv r1v, jv p1v, sn, iv r2v, jv p2v, sn, rv b28, iv rv37, iv kv218, iv ed37, iv rv52, iv kv243, un] [(.int ed52)] _
      refine XS.istore X63.here hx rfl (hb hby at_250) rfl (l' := #[iv p0, iv p1, iv p2, iv p3, iv 0, rv b4, jv wh, sn, jv 0, sn, iv c1, iv c2, iv r1v, jv p1v, sn, iv r2v, jv p2v, sn, rv b28, iv rv37, iv kv218, iv ed37, iv rv52, iv kv243, iv ed52]) rfl ?_
      show oS p e below T63 m 252 #[iv p0, iv p1, iv p2, iv p3, iv 0, rv b4, jv wh, sn, jv 0, sn, iv c1, iv c2, iv r1v, jv p1v, sn, iv r2v, jv p2v, sn, rv b28, iv rv37, iv kv218, iv ed37, iv rv52, iv kv243, iv ed52] [] _
      refine XS.iload X63.here hx rfl (hb hby at_252) rfl ?_
      show oS p e below T63 m 254 #[iv p0, iv p1, iv p2, iv p3, iv 0, rv b4, jv wh, sn, jv 0, sn, iv c1, iv c2, iv r1v, jv p1v, sn, iv r2v, jv p2v, sn, rv b28, iv rv37, iv kv218, iv ed37, iv rv52, iv kv243, iv ed52] [(.int rv37)] _
      refine XS.iload X63.here hx rfl (hb hby at_254) rfl ?_
      show oS p e below T63 m 256 #[iv p0, iv p1, iv p2, iv p3, iv 0, rv b4, jv wh, sn, jv 0, sn, iv c1, iv c2, iv r1v, jv p1v, sn, iv r2v, jv p2v, sn, rv b28, iv rv37, iv kv218, iv ed37, iv rv52, iv kv243, iv ed52] [(.int r1v), (.int rv37)] _
      refine XS.icmpNo X63.here hx rfl (hb hby at_256) rfl (teq sk41.1).2 ?_
      show oS p e below T63 m 259 #[iv p0, iv p1, iv p2, iv p3, iv 0, rv b4, jv wh, sn, jv 0, sn, iv c1, iv c2, iv r1v, jv p1v, sn, iv r2v, jv p2v, sn, rv b28, iv rv37, iv kv218, iv ed37, iv rv52, iv kv243, iv ed52] [] _
      refine XS.iload X63.here hx rfl (hb hby at_259) rfl ?_
      show oS p e below T63 m 261 #[iv p0, iv p1, iv p2, iv p3, iv 0, rv b4, jv wh, sn, jv 0, sn, iv c1, iv c2, iv r1v, jv p1v, sn, iv r2v, jv p2v, sn, rv b28, iv rv37, iv kv218, iv ed37, iv rv52, iv kv243, iv ed52] [(.int kv218)] _
      refine XS.lload X63.here hx rfl (hb hby at_261) rfl ?_
      show oS p e below T63 m 263 #[iv p0, iv p1, iv p2, iv p3, iv 0, rv b4, jv wh, sn, jv 0, sn, iv c1, iv c2, iv r1v, jv p1v, sn, iv r2v, jv p2v, sn, rv b28, iv rv37, iv kv218, iv ed37, iv rv52, iv kv243, iv ed52] [(.long wh), (.int kv218)] _
      refine XS.lload X63.here hx rfl (hb hby at_263) rfl ?_
      show oS p e below T63 m 265 #[iv p0, iv p1, iv p2, iv p3, iv 0, rv b4, jv wh, sn, jv 0, sn, iv c1, iv c2, iv r1v, jv p1v, sn, iv r2v, jv p2v, sn, rv b28, iv rv37, iv kv218, iv ed37, iv rv52, iv kv243, iv ed52] [(.long p1v), (.long wh), (.int kv218)] _
      refine XS.l2i X63.here hx rfl (hb hby at_265) rfl ?_
      show oS p e below T63 m 266 #[iv p0, iv p1, iv p2, iv p3, iv 0, rv b4, jv wh, sn, jv 0, sn, iv c1, iv c2, iv r1v, jv p1v, sn, iv r2v, jv p2v, sn, rv b28, iv rv37, iv kv218, iv ed37, iv rv52, iv kv243, iv ed52] [(.int (p1v.toInt32)), (.long wh), (.int kv218)] _
      refine XS.lushr X63.here hx rfl (hb hby at_266) rfl ?_
      show oS p e below T63 m 267 #[iv p0, iv p1, iv p2, iv p3, iv 0, rv b4, jv wh, sn, jv 0, sn, iv c1, iv c2, iv r1v, jv p1v, sn, iv r2v, jv p2v, sn, rv b28, iv rv37, iv kv218, iv ed37, iv rv52, iv kv243, iv ed52] [(.long ((wh.toUInt64 >>> ((p1v.toInt32) &&& 0x3f).toInt64.toUInt64).toInt64)), (.int kv218)] _
      refine XS.l2i X63.here hx rfl (hb hby at_267) rfl ?_
      show oS p e below T63 m 268 #[iv p0, iv p1, iv p2, iv p3, iv 0, rv b4, jv wh, sn, jv 0, sn, iv c1, iv c2, iv r1v, jv p1v, sn, iv r2v, jv p2v, sn, rv b28, iv rv37, iv kv218, iv ed37, iv rv52, iv kv243, iv ed52] [(.int (((wh.toUInt64 >>> ((p1v.toInt32) &&& 0x3f).toInt64.toUInt64).toInt64).toInt32)), (.int kv218)] _
      refine XS.icmpNo X63.here hx rfl (hb hby at_268) rfl (teq (hm45.trans (own_cmp wh p1v ps37 (0) hm7 (by omega) sk41.2.1 (own_pb 0 r1v c1 p1v (by decide) hm11.1 hm18).1 (Int.le_trans (own_pb 0 r1v c1 p1v (by decide) hm11.1 hm18).2 (by decide))))).2 ?_
      show oS p e below T63 m 271 #[iv p0, iv p1, iv p2, iv p3, iv 0, rv b4, jv wh, sn, jv 0, sn, iv c1, iv c2, iv r1v, jv p1v, sn, iv r2v, jv p2v, sn, rv b28, iv rv37, iv kv218, iv ed37, iv rv52, iv kv243, iv ed52] [] _
      refine XS.iload X63.here hx rfl (hb hby at_271) rfl ?_
      show oS p e below T63 m 273 #[iv p0, iv p1, iv p2, iv p3, iv 0, rv b4, jv wh, sn, jv 0, sn, iv c1, iv c2, iv r1v, jv p1v, sn, iv r2v, jv p2v, sn, rv b28, iv rv37, iv kv218, iv ed37, iv rv52, iv kv243, iv ed52] [(.int ed37)] _
      refine XS.iload X63.here hx rfl (hb hby at_273) rfl ?_
      exact kt)
    clear pre64
    have pre66 : ∀ t, oS p e below T63 m 283 #[iv p0, iv p1, iv p2, iv p3, iv 0, rv b4, jv wh, sn, jv 0, sn, iv c1, iv c2, iv r1v, jv p1v, sn, iv r2v, jv p2v, sn, rv b28, iv rv37, iv kv218, iv ed37, iv rv52, iv kv243, iv ed52] [(.int (if r1v = (0 : Int32) then (1 : Int32) else (0 : Int32))), (.int ed37)] t → oE p e below s₁ m #[(.int p0), (.int p1), (.int p2), (.int p3)] maxLocals t := by
      by_cases hc275_67 : r1v = (0 : Int32)
      · have pre68 : ∀ t, oS p e below T63 m 283 #[iv p0, iv p1, iv p2, iv p3, iv 0, rv b4, jv wh, sn, jv 0, sn, iv c1, iv c2, iv r1v, jv p1v, sn, iv r2v, jv p2v, sn, rv b28, iv rv37, iv kv218, iv ed37, iv rv52, iv kv243, iv ed52] [(.int (1 : Int32)), (.int ed37)] t → oE p e below s₁ m #[(.int p0), (.int p1), (.int p2), (.int p3)] maxLocals t := fun t kt => pre65 t (by
          show oS p e below T63 m 275 #[iv p0, iv p1, iv p2, iv p3, iv 0, rv b4, jv wh, sn, jv 0, sn, iv c1, iv c2, iv r1v, jv p1v, sn, iv r2v, jv p2v, sn, rv b28, iv rv37, iv kv218, iv ed37, iv rv52, iv kv243, iv ed52] [(.int r1v), (.int ed37)] _
          refine XS.ifNo X63.here hx rfl (hb hby at_275) rfl ((if0 _ _).trans (teq hc275_67).2) ?_
          show oS p e below T63 m 278 #[iv p0, iv p1, iv p2, iv p3, iv 0, rv b4, jv wh, sn, jv 0, sn, iv c1, iv c2, iv r1v, jv p1v, sn, iv r2v, jv p2v, sn, rv b28, iv rv37, iv kv218, iv ed37, iv rv52, iv kv243, iv ed52] [(.int ed37)] _
          refine XS.iconst X63.here hx rfl (hb hby at_278) ?_
          show oS p e below T63 m 279 #[iv p0, iv p1, iv p2, iv p3, iv 0, rv b4, jv wh, sn, jv 0, sn, iv c1, iv c2, iv r1v, jv p1v, sn, iv r2v, jv p2v, sn, rv b28, iv rv37, iv kv218, iv ed37, iv rv52, iv kv243, iv ed52] [(.int (1 : Int32)), (.int ed37)] _
          refine XS.goto X63.here hx rfl (pc0 := 279) (pc' := 283) rfl (hb hby at_279) (by decide) (by decide) ?_
          exact kt)
        clear pre65
        have hvx : (1 : Int32) = (if r1v = (0 : Int32) then (1 : Int32) else (0 : Int32)) := (by rw [if_pos hc275_67])
        rw [← hvx]
        exact pre68
      · have pre69 : ∀ t, oS p e below T63 m 283 #[iv p0, iv p1, iv p2, iv p3, iv 0, rv b4, jv wh, sn, jv 0, sn, iv c1, iv c2, iv r1v, jv p1v, sn, iv r2v, jv p2v, sn, rv b28, iv rv37, iv kv218, iv ed37, iv rv52, iv kv243, iv ed52] [(.int (0 : Int32)), (.int ed37)] t → oE p e below s₁ m #[(.int p0), (.int p1), (.int p2), (.int p3)] maxLocals t := fun t kt => pre65 t (by
          show oS p e below T63 m 275 #[iv p0, iv p1, iv p2, iv p3, iv 0, rv b4, jv wh, sn, jv 0, sn, iv c1, iv c2, iv r1v, jv p1v, sn, iv r2v, jv p2v, sn, rv b28, iv rv37, iv kv218, iv ed37, iv rv52, iv kv243, iv ed52] [(.int r1v), (.int ed37)] _
          refine XS.ifYes X63.here hx rfl (pc0 := 275) (pc' := 282) rfl (hb hby at_275) rfl ((if0 _ _).trans (feq hc275_67).2) (by decide) (by decide) ?_
          show oS p e below T63 m 282 #[iv p0, iv p1, iv p2, iv p3, iv 0, rv b4, jv wh, sn, jv 0, sn, iv c1, iv c2, iv r1v, jv p1v, sn, iv r2v, jv p2v, sn, rv b28, iv rv37, iv kv218, iv ed37, iv rv52, iv kv243, iv ed52] [(.int ed37)] _
          refine XS.iconst X63.here hx rfl (hb hby at_282) ?_
          exact kt)
        clear pre65
        have hvx : (0 : Int32) = (if r1v = (0 : Int32) then (1 : Int32) else (0 : Int32)) := (by rw [if_neg hc275_67])
        rw [← hvx]
        exact pre69
    clear pre65
    have pre70 : ∀ t, oS p e below T63 m 309 #[iv p0, iv p1, iv p2, iv p3, iv 0, rv b4, jv wh, sn, jv 0, sn, iv c1, iv c2, iv r1v, jv p1v, sn, iv r2v, jv p2v, sn, rv b28, iv rv37, iv kv218, iv ed37, iv rv52, iv kv243, iv ed52] [(.int r1v), (.int ed52)] t → oE p e below s₁ m #[(.int p0), (.int p1), (.int p2), (.int p3)] maxLocals t := fun t kt => pre66 t (by
      show oS p e below T63 m 283 #[iv p0, iv p1, iv p2, iv p3, iv 0, rv b4, jv wh, sn, jv 0, sn, iv c1, iv c2, iv r1v, jv p1v, sn, iv r2v, jv p2v, sn, rv b28, iv rv37, iv kv218, iv ed37, iv rv52, iv kv243, iv ed52] [(.int (if r1v = (0 : Int32) then (1 : Int32) else (0 : Int32))), (.int ed37)] _
      refine XS.icmpNo X63.here hx rfl (hb hby at_283) rfl (teq (own_e1 r1v ed37 sk41.2.2.2)).2 ?_
      show oS p e below T63 m 286 #[iv p0, iv p1, iv p2, iv p3, iv 0, rv b4, jv wh, sn, jv 0, sn, iv c1, iv c2, iv r1v, jv p1v, sn, iv r2v, jv p2v, sn, rv b28, iv rv37, iv kv218, iv ed37, iv rv52, iv kv243, iv ed52] [] _
      refine XS.iload X63.here hx rfl (hb hby at_286) rfl ?_
      show oS p e below T63 m 288 #[iv p0, iv p1, iv p2, iv p3, iv 0, rv b4, jv wh, sn, jv 0, sn, iv c1, iv c2, iv r1v, jv p1v, sn, iv r2v, jv p2v, sn, rv b28, iv rv37, iv kv218, iv ed37, iv rv52, iv kv243, iv ed52] [(.int rv52)] _
      refine XS.iload X63.here hx rfl (hb hby at_288) rfl ?_
      show oS p e below T63 m 290 #[iv p0, iv p1, iv p2, iv p3, iv 0, rv b4, jv wh, sn, jv 0, sn, iv c1, iv c2, iv r1v, jv p1v, sn, iv r2v, jv p2v, sn, rv b28, iv rv37, iv kv218, iv ed37, iv rv52, iv kv243, iv ed52] [(.int r2v), (.int rv52)] _
      refine XS.icmpNo X63.here hx rfl (hb hby at_290) rfl (teq sk56.1).2 ?_
      show oS p e below T63 m 293 #[iv p0, iv p1, iv p2, iv p3, iv 0, rv b4, jv wh, sn, jv 0, sn, iv c1, iv c2, iv r1v, jv p1v, sn, iv r2v, jv p2v, sn, rv b28, iv rv37, iv kv218, iv ed37, iv rv52, iv kv243, iv ed52] [] _
      refine XS.iload X63.here hx rfl (hb hby at_293) rfl ?_
      show oS p e below T63 m 295 #[iv p0, iv p1, iv p2, iv p3, iv 0, rv b4, jv wh, sn, jv 0, sn, iv c1, iv c2, iv r1v, jv p1v, sn, iv r2v, jv p2v, sn, rv b28, iv rv37, iv kv218, iv ed37, iv rv52, iv kv243, iv ed52] [(.int kv243)] _
      refine XS.lload X63.here hx rfl (hb hby at_295) rfl ?_
      show oS p e below T63 m 297 #[iv p0, iv p1, iv p2, iv p3, iv 0, rv b4, jv wh, sn, jv 0, sn, iv c1, iv c2, iv r1v, jv p1v, sn, iv r2v, jv p2v, sn, rv b28, iv rv37, iv kv218, iv ed37, iv rv52, iv kv243, iv ed52] [(.long wh), (.int kv243)] _
      refine XS.lload X63.here hx rfl (hb hby at_297) rfl ?_
      show oS p e below T63 m 299 #[iv p0, iv p1, iv p2, iv p3, iv 0, rv b4, jv wh, sn, jv 0, sn, iv c1, iv c2, iv r1v, jv p1v, sn, iv r2v, jv p2v, sn, rv b28, iv rv37, iv kv218, iv ed37, iv rv52, iv kv243, iv ed52] [(.long p2v), (.long wh), (.int kv243)] _
      refine XS.l2i X63.here hx rfl (hb hby at_299) rfl ?_
      show oS p e below T63 m 300 #[iv p0, iv p1, iv p2, iv p3, iv 0, rv b4, jv wh, sn, jv 0, sn, iv c1, iv c2, iv r1v, jv p1v, sn, iv r2v, jv p2v, sn, rv b28, iv rv37, iv kv218, iv ed37, iv rv52, iv kv243, iv ed52] [(.int (p2v.toInt32)), (.long wh), (.int kv243)] _
      refine XS.lushr X63.here hx rfl (hb hby at_300) rfl ?_
      show oS p e below T63 m 301 #[iv p0, iv p1, iv p2, iv p3, iv 0, rv b4, jv wh, sn, jv 0, sn, iv c1, iv c2, iv r1v, jv p1v, sn, iv r2v, jv p2v, sn, rv b28, iv rv37, iv kv218, iv ed37, iv rv52, iv kv243, iv ed52] [(.long ((wh.toUInt64 >>> ((p2v.toInt32) &&& 0x3f).toInt64.toUInt64).toInt64)), (.int kv243)] _
      refine XS.l2i X63.here hx rfl (hb hby at_301) rfl ?_
      show oS p e below T63 m 302 #[iv p0, iv p1, iv p2, iv p3, iv 0, rv b4, jv wh, sn, jv 0, sn, iv c1, iv c2, iv r1v, jv p1v, sn, iv r2v, jv p2v, sn, rv b28, iv rv37, iv kv218, iv ed37, iv rv52, iv kv243, iv ed52] [(.int (((wh.toUInt64 >>> ((p2v.toInt32) &&& 0x3f).toInt64.toUInt64).toInt64).toInt32)), (.int kv243)] _
      refine XS.icmpNo X63.here hx rfl (hb hby at_302) rfl (teq (hm60.trans (own_cmp wh p2v ps52 (0) hm7 (by omega) sk56.2.1 (by rw [← sk56.2.1]; exact sk56.2.2.1.1) (by rw [← sk56.2.1]; exact Int.le_trans sk56.2.2.1.2 (by decide))))).2 ?_
      show oS p e below T63 m 305 #[iv p0, iv p1, iv p2, iv p3, iv 0, rv b4, jv wh, sn, jv 0, sn, iv c1, iv c2, iv r1v, jv p1v, sn, iv r2v, jv p2v, sn, rv b28, iv rv37, iv kv218, iv ed37, iv rv52, iv kv243, iv ed52] [] _
      refine XS.iload X63.here hx rfl (hb hby at_305) rfl ?_
      show oS p e below T63 m 307 #[iv p0, iv p1, iv p2, iv p3, iv 0, rv b4, jv wh, sn, jv 0, sn, iv c1, iv c2, iv r1v, jv p1v, sn, iv r2v, jv p2v, sn, rv b28, iv rv37, iv kv218, iv ed37, iv rv52, iv kv243, iv ed52] [(.int ed52)] _
      refine XS.iload X63.here hx rfl (hb hby at_307) rfl ?_
      exact kt)
    clear pre66
    have pre71 : ∀ t, oS p e below T63 m 322 #[iv p0, iv p1, iv p2, iv p3, iv 0, rv b4, jv wh, sn, jv 0, sn, iv c1, iv c2, iv r1v, jv p1v, sn, iv r2v, jv p2v, sn, rv b28, iv rv37, iv kv218, iv ed37, iv rv52, iv kv243, iv ed52] [(.int (if r1v = (0 : Int32) then (1 : Int32) else if r2v = (0 : Int32) then (1 : Int32) else (0 : Int32))), (.int ed52)] t → oE p e below s₁ m #[(.int p0), (.int p1), (.int p2), (.int p3)] maxLocals t := by
      by_cases hc309_72 : r1v = (0 : Int32)
      · have pre73 : ∀ t, oS p e below T63 m 322 #[iv p0, iv p1, iv p2, iv p3, iv 0, rv b4, jv wh, sn, jv 0, sn, iv c1, iv c2, iv r1v, jv p1v, sn, iv r2v, jv p2v, sn, rv b28, iv rv37, iv kv218, iv ed37, iv rv52, iv kv243, iv ed52] [(.int (1 : Int32)), (.int ed52)] t → oE p e below s₁ m #[(.int p0), (.int p1), (.int p2), (.int p3)] maxLocals t := fun t kt => pre70 t (by
          show oS p e below T63 m 309 #[iv p0, iv p1, iv p2, iv p3, iv 0, rv b4, jv wh, sn, jv 0, sn, iv c1, iv c2, iv r1v, jv p1v, sn, iv r2v, jv p2v, sn, rv b28, iv rv37, iv kv218, iv ed37, iv rv52, iv kv243, iv ed52] [(.int r1v), (.int ed52)] _
          refine XS.ifYes X63.here hx rfl (pc0 := 309) (pc' := 317) rfl (hb hby at_309) rfl ((if0 _ _).trans (teq hc309_72).1) (by decide) (by decide) ?_
          show oS p e below T63 m 317 #[iv p0, iv p1, iv p2, iv p3, iv 0, rv b4, jv wh, sn, jv 0, sn, iv c1, iv c2, iv r1v, jv p1v, sn, iv r2v, jv p2v, sn, rv b28, iv rv37, iv kv218, iv ed37, iv rv52, iv kv243, iv ed52] [(.int ed52)] _
          refine XS.iconst X63.here hx rfl (hb hby at_317) ?_
          show oS p e below T63 m 318 #[iv p0, iv p1, iv p2, iv p3, iv 0, rv b4, jv wh, sn, jv 0, sn, iv c1, iv c2, iv r1v, jv p1v, sn, iv r2v, jv p2v, sn, rv b28, iv rv37, iv kv218, iv ed37, iv rv52, iv kv243, iv ed52] [(.int (1 : Int32)), (.int ed52)] _
          refine XS.goto X63.here hx rfl (pc0 := 318) (pc' := 322) rfl (hb hby at_318) (by decide) (by decide) ?_
          exact kt)
        clear pre70
        have hvx : (1 : Int32) = (if r1v = (0 : Int32) then (1 : Int32) else if r2v = (0 : Int32) then (1 : Int32) else (0 : Int32)) := (by rw [if_pos hc309_72])
        rw [← hvx]
        exact pre73
      · have pre74 : ∀ t, oS p e below T63 m 314 #[iv p0, iv p1, iv p2, iv p3, iv 0, rv b4, jv wh, sn, jv 0, sn, iv c1, iv c2, iv r1v, jv p1v, sn, iv r2v, jv p2v, sn, rv b28, iv rv37, iv kv218, iv ed37, iv rv52, iv kv243, iv ed52] [(.int r2v), (.int ed52)] t → oE p e below s₁ m #[(.int p0), (.int p1), (.int p2), (.int p3)] maxLocals t := fun t kt => pre70 t (by
          show oS p e below T63 m 309 #[iv p0, iv p1, iv p2, iv p3, iv 0, rv b4, jv wh, sn, jv 0, sn, iv c1, iv c2, iv r1v, jv p1v, sn, iv r2v, jv p2v, sn, rv b28, iv rv37, iv kv218, iv ed37, iv rv52, iv kv243, iv ed52] [(.int r1v), (.int ed52)] _
          refine XS.ifNo X63.here hx rfl (hb hby at_309) rfl ((if0 _ _).trans (feq hc309_72).1) ?_
          show oS p e below T63 m 312 #[iv p0, iv p1, iv p2, iv p3, iv 0, rv b4, jv wh, sn, jv 0, sn, iv c1, iv c2, iv r1v, jv p1v, sn, iv r2v, jv p2v, sn, rv b28, iv rv37, iv kv218, iv ed37, iv rv52, iv kv243, iv ed52] [(.int ed52)] _
          refine XS.iload X63.here hx rfl (hb hby at_312) rfl ?_
          exact kt)
        clear pre70
        by_cases hc314_75 : r2v = (0 : Int32)
        · have pre76 : ∀ t, oS p e below T63 m 322 #[iv p0, iv p1, iv p2, iv p3, iv 0, rv b4, jv wh, sn, jv 0, sn, iv c1, iv c2, iv r1v, jv p1v, sn, iv r2v, jv p2v, sn, rv b28, iv rv37, iv kv218, iv ed37, iv rv52, iv kv243, iv ed52] [(.int (1 : Int32)), (.int ed52)] t → oE p e below s₁ m #[(.int p0), (.int p1), (.int p2), (.int p3)] maxLocals t := fun t kt => pre74 t (by
            show oS p e below T63 m 314 #[iv p0, iv p1, iv p2, iv p3, iv 0, rv b4, jv wh, sn, jv 0, sn, iv c1, iv c2, iv r1v, jv p1v, sn, iv r2v, jv p2v, sn, rv b28, iv rv37, iv kv218, iv ed37, iv rv52, iv kv243, iv ed52] [(.int r2v), (.int ed52)] _
            refine XS.ifNo X63.here hx rfl (hb hby at_314) rfl ((if0 _ _).trans (teq hc314_75).2) ?_
            show oS p e below T63 m 317 #[iv p0, iv p1, iv p2, iv p3, iv 0, rv b4, jv wh, sn, jv 0, sn, iv c1, iv c2, iv r1v, jv p1v, sn, iv r2v, jv p2v, sn, rv b28, iv rv37, iv kv218, iv ed37, iv rv52, iv kv243, iv ed52] [(.int ed52)] _
            refine XS.iconst X63.here hx rfl (hb hby at_317) ?_
            show oS p e below T63 m 318 #[iv p0, iv p1, iv p2, iv p3, iv 0, rv b4, jv wh, sn, jv 0, sn, iv c1, iv c2, iv r1v, jv p1v, sn, iv r2v, jv p2v, sn, rv b28, iv rv37, iv kv218, iv ed37, iv rv52, iv kv243, iv ed52] [(.int (1 : Int32)), (.int ed52)] _
            refine XS.goto X63.here hx rfl (pc0 := 318) (pc' := 322) rfl (hb hby at_318) (by decide) (by decide) ?_
            exact kt)
          clear pre74
          have hvx : (1 : Int32) = (if r1v = (0 : Int32) then (1 : Int32) else if r2v = (0 : Int32) then (1 : Int32) else (0 : Int32)) := (by rw [if_neg hc309_72, if_pos hc314_75])
          rw [← hvx]
          exact pre76
        · have pre77 : ∀ t, oS p e below T63 m 322 #[iv p0, iv p1, iv p2, iv p3, iv 0, rv b4, jv wh, sn, jv 0, sn, iv c1, iv c2, iv r1v, jv p1v, sn, iv r2v, jv p2v, sn, rv b28, iv rv37, iv kv218, iv ed37, iv rv52, iv kv243, iv ed52] [(.int (0 : Int32)), (.int ed52)] t → oE p e below s₁ m #[(.int p0), (.int p1), (.int p2), (.int p3)] maxLocals t := fun t kt => pre74 t (by
            show oS p e below T63 m 314 #[iv p0, iv p1, iv p2, iv p3, iv 0, rv b4, jv wh, sn, jv 0, sn, iv c1, iv c2, iv r1v, jv p1v, sn, iv r2v, jv p2v, sn, rv b28, iv rv37, iv kv218, iv ed37, iv rv52, iv kv243, iv ed52] [(.int r2v), (.int ed52)] _
            refine XS.ifYes X63.here hx rfl (pc0 := 314) (pc' := 321) rfl (hb hby at_314) rfl ((if0 _ _).trans (feq hc314_75).2) (by decide) (by decide) ?_
            show oS p e below T63 m 321 #[iv p0, iv p1, iv p2, iv p3, iv 0, rv b4, jv wh, sn, jv 0, sn, iv c1, iv c2, iv r1v, jv p1v, sn, iv r2v, jv p2v, sn, rv b28, iv rv37, iv kv218, iv ed37, iv rv52, iv kv243, iv ed52] [(.int ed52)] _
            refine XS.iconst X63.here hx rfl (hb hby at_321) ?_
            exact kt)
          clear pre74
          have hvx : (0 : Int32) = (if r1v = (0 : Int32) then (1 : Int32) else if r2v = (0 : Int32) then (1 : Int32) else (0 : Int32)) := (by rw [if_neg hc309_72, if_neg hc314_75])
          rw [← hvx]
          exact pre77
    clear pre70
    have pre78 : ∀ t, oS p e below T63 m 330 #[iv p0, iv p1, iv p2, iv p3, iv 0, rv b4, jv wh, sn, jv 0, sn, iv c1, iv c2, iv r1v, jv p1v, sn, iv r2v, jv p2v, sn, rv b28, iv rv37, iv kv218, iv ed37, iv rv52, iv kv243, iv ed52] [(.int (1 : Int32))] t → oE p e below s₁ m #[(.int p0), (.int p1), (.int p2), (.int p3)] maxLocals t := fun t kt => pre71 t (by
      show oS p e below T63 m 322 #[iv p0, iv p1, iv p2, iv p3, iv 0, rv b4, jv wh, sn, jv 0, sn, iv c1, iv c2, iv r1v, jv p1v, sn, iv r2v, jv p2v, sn, rv b28, iv rv37, iv kv218, iv ed37, iv rv52, iv kv243, iv ed52] [(.int (if r1v = (0 : Int32) then (1 : Int32) else if r2v = (0 : Int32) then (1 : Int32) else (0 : Int32))), (.int ed52)] _
      refine XS.icmpNo X63.here hx rfl (hb hby at_322) rfl (teq (own_e2 r1v ed37 r2v ed52 sk41.2.2.2 sk56.2.2.2)).2 ?_
      show oS p e below T63 m 325 #[iv p0, iv p1, iv p2, iv p3, iv 0, rv b4, jv wh, sn, jv 0, sn, iv c1, iv c2, iv r1v, jv p1v, sn, iv r2v, jv p2v, sn, rv b28, iv rv37, iv kv218, iv ed37, iv rv52, iv kv243, iv ed52] [] _
      refine XS.iconst X63.here hx rfl (hb hby at_325) ?_
      show oS p e below T63 m 326 #[iv p0, iv p1, iv p2, iv p3, iv 0, rv b4, jv wh, sn, jv 0, sn, iv c1, iv c2, iv r1v, jv p1v, sn, iv r2v, jv p2v, sn, rv b28, iv rv37, iv kv218, iv ed37, iv rv52, iv kv243, iv ed52] [(.int (1 : Int32))] _
      refine XS.goto X63.here hx rfl (pc0 := 326) (pc' := 330) rfl (hb hby at_326) (by decide) (by decide) ?_
      exact kt)
    clear pre71
    obtain ⟨fs, hr, hrun, hended, hW, hsame⟩ := X63.leave (v := some (.int (1 : Int32))) (fun h => by rw [Bd.returns] at h; cases h)
    refine ⟨_, _, pre78 _ ?_, hrun, hended, _, _, rfl, ?_, ⟨_, rfl⟩, hW, hsame.mono (by decide) (by decide)⟩
    · show oS p e below T63 m 330 #[iv p0, iv p1, iv p2, iv p3, iv 0, rv b4, jv wh, sn, jv 0, sn, iv c1, iv c2, iv r1v, jv p1v, sn, iv r2v, jv p2v, sn, rv b28, iv rv37, iv kv218, iv ed37, iv rv52, iv kv243, iv ed52] [(.int (1 : Int32))] _
      exact retN X63 hx (t := .boolean) Bd.returns (by simp) (hb hby at_330) hr
    · show Q0 Z p0 p1 p2 p3 h0 n0 _ T63.heap _
      rw [e63]
      exact ⟨rfl, N63⟩
  · skip
    have pre79 : ∀ t, oS p e below s₁ m 10 #[iv p0, iv p1, iv p2, iv p3, iv 1, un, un, un, un, un, un, un, un, un, un, un, un, un, un, un, un, un, un, un, un] [(.int (1 : Int32))] t → oE p e below s₁ m #[(.int p0), (.int p1), (.int p2), (.int p3)] maxLocals t := fun t kt => pre2 t (by
      show oS p e below s₁ m 8 #[iv p0, iv p1, iv p2, iv p3, iv 1, un, un, un, un, un, un, un, un, un, un, un, un, un, un, un, un, un, un, un, un] [] _
      refine XS.iload X0.here hx rfl (hb hby at_8) rfl ?_
      exact kt)
    clear pre2
    obtain ⟨T80, h80, k80, X80, e80, E80, A80, st80⟩ := newP X0 hx hZ (hw _ (List.mem_of_getElem? (i := 1) rfl)) e0 (g := (mkF m 10 #[iv p0, iv p1, iv p2, iv p3, iv 1, un, un, un, un, un, un, un, un, un, un, un, un, un, un, un, un, un, un, un, un] [(.int (1 : Int32))])) rfl (hb hby at_10) rfl (by decide) (cap := 1) (by decide) (by decide) (by decide) (by decide)
    obtain ⟨b80, g80⟩ : ∃ z, z = h0.size := ⟨_, rfl⟩
    rw [← g80] at A80 st80
    have pre81 : ∀ t, oS p e below T80 m 12 #[iv p0, iv p1, iv p2, iv p3, iv 1, un, un, un, un, un, un, un, un, un, un, un, un, un, un, un, un, un, un, un, un] [(.ref b80)] t → oE p e below s₁ m #[(.int p0), (.int p1), (.int p2), (.int p3)] maxLocals t := fun t kt => pre79 t (st80 _ kt)
    clear pre79 st80
    have gn80 : n0 ≤ b80 := Nat.le_trans Z0 (Nat.le_of_eq g80.symm)
    have sz80 : h0.size ≤ b80 := Nat.le_trans K0.1 (Nat.le_of_eq g80.symm)
    have K80 : Keep h0 h80 [] := K0.ext E80
    have Z80 : n0 ≤ h80.size := Nat.le_trans Z0 E80.1
    have V80 : Arv Z h80 b80 k80 .byte (1 : Int32) [(.int (0 : Int32))] (.int (0 : Int32)) := (Arv.new A80 (by decide)).pad (pad_rep [] (.int (0 : Int32)) 1)
    have pre82 : ∀ t, oS p e below T80 m 24 #[iv p0, iv p1, iv p2, iv p3, iv 1, rv b80, un, un, un, un, un, un, un, un, un, un, un, un, un, un, un, un, un, un, un] [(.int (p1.toInt8.toInt32)), (.int (0 : Int32)), (.ref b80)] t → oE p e below s₁ m #[(.int p0), (.int p1), (.int p2), (.int p3)] maxLocals t := fun t kt => pre81 t (by
      show oS p e below T80 m 12 #[iv p0, iv p1, iv p2, iv p3, iv 1, un, un, un, un, un, un, un, un, un, un, un, un, un, un, un, un, un, un, un, un] [(.ref b80)] _
      refine XS.astore X80.here hx rfl (hb hby at_12) rfl rfl (l' := #[iv p0, iv p1, iv p2, iv p3, iv 1, rv b80, un, un, un, un, un, un, un, un, un, un, un, un, un, un, un, un, un, un, un]) rfl ?_
      show oS p e below T80 m 14 #[iv p0, iv p1, iv p2, iv p3, iv 1, rv b80, un, un, un, un, un, un, un, un, un, un, un, un, un, un, un, un, un, un, un] [] _
      refine XS.iload X80.here hx rfl (hb hby at_14) rfl ?_
      show oS p e below T80 m 16 #[iv p0, iv p1, iv p2, iv p3, iv 1, rv b80, un, un, un, un, un, un, un, un, un, un, un, un, un, un, un, un, un, un, un] [(.int (1 : Int32))] _
      refine XS.ifNo X80.here hx rfl (hb hby at_16) rfl ((if0 _ _).trans (tlt (by decide : (0 : Int32) < (1 : Int32))).2.2.2) ?_
      show oS p e below T80 m 19 #[iv p0, iv p1, iv p2, iv p3, iv 1, rv b80, un, un, un, un, un, un, un, un, un, un, un, un, un, un, un, un, un, un, un] [] _
      refine XS.aload X80.here hx rfl (hb hby at_19) rfl rfl ?_
      show oS p e below T80 m 21 #[iv p0, iv p1, iv p2, iv p3, iv 1, rv b80, un, un, un, un, un, un, un, un, un, un, un, un, un, un, un, un, un, un, un] [(.ref b80)] _
      refine XS.iconst X80.here hx rfl (hb hby at_21) ?_
      show oS p e below T80 m 22 #[iv p0, iv p1, iv p2, iv p3, iv 1, rv b80, un, un, un, un, un, un, un, un, un, un, un, un, un, un, un, un, un, un, un] [(.int (0 : Int32)), (.ref b80)] _
      refine XS.iloadN X80.here hx rfl (hb hby at_22) rfl ?_
      show oS p e below T80 m 23 #[iv p0, iv p1, iv p2, iv p3, iv 1, rv b80, un, un, un, un, un, un, un, un, un, un, un, un, un, un, un, un, un, un, un] [(.int p1), (.int (0 : Int32)), (.ref b80)] _
      refine XS.i2b X80.here hx rfl (hb hby at_23) rfl ?_
      exact kt)
    clear pre81
    obtain ⟨by0, hm83, pre83⟩ : ∃ (by0 : Int32), (by0.toInt8.toInt32 = by0 ∧ by0.toInt % 256 = p1.toInt % 256) ∧ ∀ t, oS p e below T80 m 24 #[iv p0, iv p1, iv p2, iv p3, iv 1, rv b80, un, un, un, un, un, un, un, un, un, un, un, un, un, un, un, un, un, un, un] [(.int by0), (.int (0 : Int32)), (.ref b80)] t → oE p e below s₁ m #[(.int p0), (.int p1), (.int p2), (.int p3)] maxLocals t := ⟨(p1.toInt8.toInt32), ⟨own_narb _, own_by0 p1⟩, pre82⟩
    clear pre82
    have tv84 := V80
    obtain ⟨cl84, Ar84, q84, S84, Ng84, H84, G84⟩ := tv84
    have hin84 : ¬ ((0 : Int32) < 0 ∨ cl84.slots.size ≤ ((0 : Int32)).toNatClampNeg) := inb_of S84 ⟨by decide, by decide⟩
    obtain ⟨T85, h85, X85, e85, W85, st85⟩ := stB X80 hx hZ e80 Ar84 (j := (0 : Int32)) hin84 (g := (mkF m 24 #[iv p0, iv p1, iv p2, iv p3, iv 1, rv b80, un, un, un, un, un, un, un, un, un, un, un, un, un, un, un, un, un, un, un] [(.int by0), (.int (0 : Int32)), (.ref b80)])) rfl rfl (hb hby at_24)
    have pre86 : ∀ t, oS p e below T85 m 25 #[iv p0, iv p1, iv p2, iv p3, iv 1, rv b80, un, un, un, un, un, un, un, un, un, un, un, un, un, un, un, un, un, un, un] [] t → oE p e below s₁ m #[(.int p0), (.int p1), (.int p2), (.int p3)] maxLocals t := fun t kt => pre83 t (st85 _ kt)
    clear pre83 st85
    have V85 : Arv Z h85 b80 k80 .byte (1 : Int32) [(.int by0)] (.int (0 : Int32)) := (by
      have q := Arv.set Ar84 q84 S84 Ng84 H84 G84 (fits_nar_byte by0) W85 0 rfl (Nat.le_of_ble_eq_true rfl)
      rw [hm83.1] at q
      exact q)
    have K85 : Keep h0 h85 [] := K80.wr W85 (Or.inr sz80)
    have N85 := Fr.snoc X85 N0 gn80
    have Z85 : n0 ≤ h85.size := Nat.le_trans Z80 (Keep.of_wr W85).1
    have pre87 : ∀ t, oS p e below T85 m 88 #[iv p0, iv p1, iv p2, iv p3, iv 1, rv b80, jv (((p1.toInt64) &&& (4294967295 : Int64)) &&& (((1 : Int64) <<< ((8 : Int32) &&& 0x3f).toInt64) - (1 : Int64))), sn, un, un, un, un, un, un, un, un, un, un, un, un, un, un, un, un, un] [] t → oE p e below s₁ m #[(.int p0), (.int p1), (.int p2), (.int p3)] maxLocals t := fun t kt => pre86 t (by
      show oS p e below T85 m 25 #[iv p0, iv p1, iv p2, iv p3, iv 1, rv b80, un, un, un, un, un, un, un, un, un, un, un, un, un, un, un, un, un, un, un] [] _
      refine XS.iload X85.here hx rfl (hb hby at_25) rfl ?_
      show oS p e below T85 m 27 #[iv p0, iv p1, iv p2, iv p3, iv 1, rv b80, un, un, un, un, un, un, un, un, un, un, un, un, un, un, un, un, un, un, un] [(.int (1 : Int32))] _
      refine XS.iconst X85.here hx rfl (hb hby at_27) ?_
      show oS p e below T85 m 28 #[iv p0, iv p1, iv p2, iv p3, iv 1, rv b80, un, un, un, un, un, un, un, un, un, un, un, un, un, un, un, un, un, un, un] [(.int (1 : Int32)), (.int (1 : Int32))] _
      refine XS.icmpYes X85.here hx rfl (pc0 := 28) (pc' := 40) rfl (hb hby at_28) rfl (flt (by decide : ¬ ((1 : Int32) < (1 : Int32)))).2.2.2 (by decide) (by decide) ?_
      show oS p e below T85 m 40 #[iv p0, iv p1, iv p2, iv p3, iv 1, rv b80, un, un, un, un, un, un, un, un, un, un, un, un, un, un, un, un, un, un, un] [] _
      refine XS.iload X85.here hx rfl (hb hby at_40) rfl ?_
      show oS p e below T85 m 42 #[iv p0, iv p1, iv p2, iv p3, iv 1, rv b80, un, un, un, un, un, un, un, un, un, un, un, un, un, un, un, un, un, un, un] [(.int (1 : Int32))] _
      refine XS.iconst X85.here hx rfl (hb hby at_42) ?_
      show oS p e below T85 m 43 #[iv p0, iv p1, iv p2, iv p3, iv 1, rv b80, un, un, un, un, un, un, un, un, un, un, un, un, un, un, un, un, un, un, un] [(.int (2 : Int32)), (.int (1 : Int32))] _
      refine XS.icmpYes X85.here hx rfl (pc0 := 43) (pc' := 55) rfl (hb hby at_43) rfl (flt (by decide : ¬ ((2 : Int32) < (1 : Int32)))).2.2.2 (by decide) (by decide) ?_
      show oS p e below T85 m 55 #[iv p0, iv p1, iv p2, iv p3, iv 1, rv b80, un, un, un, un, un, un, un, un, un, un, un, un, un, un, un, un, un, un, un] [] _
      refine XS.iload X85.here hx rfl (hb hby at_55) rfl ?_
      show oS p e below T85 m 57 #[iv p0, iv p1, iv p2, iv p3, iv 1, rv b80, un, un, un, un, un, un, un, un, un, un, un, un, un, un, un, un, un, un, un] [(.int (1 : Int32))] _
      refine XS.iconst X85.here hx rfl (hb hby at_57) ?_
      show oS p e below T85 m 58 #[iv p0, iv p1, iv p2, iv p3, iv 1, rv b80, un, un, un, un, un, un, un, un, un, un, un, un, un, un, un, un, un, un, un] [(.int (3 : Int32)), (.int (1 : Int32))] _
      refine XS.icmpYes X85.here hx rfl (pc0 := 58) (pc' := 70) rfl (hb hby at_58) rfl (flt (by decide : ¬ ((3 : Int32) < (1 : Int32)))).2.2.2 (by decide) (by decide) ?_
      show oS p e below T85 m 70 #[iv p0, iv p1, iv p2, iv p3, iv 1, rv b80, un, un, un, un, un, un, un, un, un, un, un, un, un, un, un, un, un, un, un] [] _
      refine XS.iloadN X85.here hx rfl (hb hby at_70) rfl ?_
      show oS p e below T85 m 71 #[iv p0, iv p1, iv p2, iv p3, iv 1, rv b80, un, un, un, un, un, un, un, un, un, un, un, un, un, un, un, un, un, un, un] [(.int p1)] _
      refine XS.i2l X85.here hx rfl (hb hby at_71) rfl ?_
      show oS p e below T85 m 72 #[iv p0, iv p1, iv p2, iv p3, iv 1, rv b80, un, un, un, un, un, un, un, un, un, un, un, un, un, un, un, un, un, un, un] [(.long (p1.toInt64))] _
      refine X85.ldc2Long hx hown (mvT hZ (hw _ (List.mem_of_getElem? (i := 2) rfl))) (g := (mkF m 72 #[iv p0, iv p1, iv p2, iv p3, iv 1, rv b80, un, un, un, un, un, un, un, un, un, un, un, un, un, un, un, un, un, un, un] [(.long (p1.toInt64))])) rfl (hb hby at_72) _ ?_
      show oS p e below T85 m 75 #[iv p0, iv p1, iv p2, iv p3, iv 1, rv b80, un, un, un, un, un, un, un, un, un, un, un, un, un, un, un, un, un, un, un] [(.long (4294967295 : Int64)), (.long (p1.toInt64))] _
      refine XS.land X85.here hx rfl (hb hby at_75) rfl ?_
      show oS p e below T85 m 76 #[iv p0, iv p1, iv p2, iv p3, iv 1, rv b80, un, un, un, un, un, un, un, un, un, un, un, un, un, un, un, un, un, un, un] [(.long ((p1.toInt64) &&& (4294967295 : Int64)))] _
      refine XS.lconst X85.here hx rfl (hb hby at_76) ?_
      show oS p e below T85 m 77 #[iv p0, iv p1, iv p2, iv p3, iv 1, rv b80, un, un, un, un, un, un, un, un, un, un, un, un, un, un, un, un, un, un, un] [(.long (1 : Int64)), (.long ((p1.toInt64) &&& (4294967295 : Int64)))] _
      refine XS.bipush X85.here hx rfl (hb hby at_77) ?_
      show oS p e below T85 m 79 #[iv p0, iv p1, iv p2, iv p3, iv 1, rv b80, un, un, un, un, un, un, un, un, un, un, un, un, un, un, un, un, un, un, un] [(.int (8 : Int32)), (.long (1 : Int64)), (.long ((p1.toInt64) &&& (4294967295 : Int64)))] _
      refine XS.iload X85.here hx rfl (hb hby at_79) rfl ?_
      show oS p e below T85 m 81 #[iv p0, iv p1, iv p2, iv p3, iv 1, rv b80, un, un, un, un, un, un, un, un, un, un, un, un, un, un, un, un, un, un, un] [(.int (1 : Int32)), (.int (8 : Int32)), (.long (1 : Int64)), (.long ((p1.toInt64) &&& (4294967295 : Int64)))] _
      refine XS.imul X85.here hx rfl (hb hby at_81) rfl ?_
      show oS p e below T85 m 82 #[iv p0, iv p1, iv p2, iv p3, iv 1, rv b80, un, un, un, un, un, un, un, un, un, un, un, un, un, un, un, un, un, un, un] [(.int (8 : Int32)), (.long (1 : Int64)), (.long ((p1.toInt64) &&& (4294967295 : Int64)))] _
      refine XS.lshl X85.here hx rfl (hb hby at_82) rfl ?_
      show oS p e below T85 m 83 #[iv p0, iv p1, iv p2, iv p3, iv 1, rv b80, un, un, un, un, un, un, un, un, un, un, un, un, un, un, un, un, un, un, un] [(.long ((1 : Int64) <<< ((8 : Int32) &&& 0x3f).toInt64)), (.long ((p1.toInt64) &&& (4294967295 : Int64)))] _
      refine XS.lconst X85.here hx rfl (hb hby at_83) ?_
      show oS p e below T85 m 84 #[iv p0, iv p1, iv p2, iv p3, iv 1, rv b80, un, un, un, un, un, un, un, un, un, un, un, un, un, un, un, un, un, un, un] [(.long (1 : Int64)), (.long ((1 : Int64) <<< ((8 : Int32) &&& 0x3f).toInt64)), (.long ((p1.toInt64) &&& (4294967295 : Int64)))] _
      refine XS.lsub X85.here hx rfl (hb hby at_84) rfl ?_
      show oS p e below T85 m 85 #[iv p0, iv p1, iv p2, iv p3, iv 1, rv b80, un, un, un, un, un, un, un, un, un, un, un, un, un, un, un, un, un, un, un] [(.long (((1 : Int64) <<< ((8 : Int32) &&& 0x3f).toInt64) - (1 : Int64))), (.long ((p1.toInt64) &&& (4294967295 : Int64)))] _
      refine XS.land X85.here hx rfl (hb hby at_85) rfl ?_
      show oS p e below T85 m 86 #[iv p0, iv p1, iv p2, iv p3, iv 1, rv b80, un, un, un, un, un, un, un, un, un, un, un, un, un, un, un, un, un, un, un] [(.long (((p1.toInt64) &&& (4294967295 : Int64)) &&& (((1 : Int64) <<< ((8 : Int32) &&& 0x3f).toInt64) - (1 : Int64))))] _
      refine XS.lstore X85.here hx rfl (hb hby at_86) rfl (l' := #[iv p0, iv p1, iv p2, iv p3, iv 1, rv b80, jv (((p1.toInt64) &&& (4294967295 : Int64)) &&& (((1 : Int64) <<< ((8 : Int32) &&& 0x3f).toInt64) - (1 : Int64))), sn, un, un, un, un, un, un, un, un, un, un, un, un, un, un, un, un, un]) rfl ?_
      exact kt)
    clear pre86
    obtain ⟨wh, hm88, pre88⟩ : ∃ (wh : Int64), (wh.toInt = 1 * (by0.toInt % 256)) ∧ ∀ t, oS p e below T85 m 88 #[iv p0, iv p1, iv p2, iv p3, iv 1, rv b80, jv wh, sn, un, un, un, un, un, un, un, un, un, un, un, un, un, un, un, un, un] [] t → oE p e below s₁ m #[(.int p0), (.int p1), (.int p2), (.int p3)] maxLocals t := ⟨(((p1.toInt64) &&& (4294967295 : Int64)) &&& (((1 : Int64) <<< ((8 : Int32) &&& 0x3f).toInt64) - (1 : Int64))), (by have qa := own_wh1 p1; have qb0 := hm83.2; omega), pre87⟩
    clear pre87
    have pre89 : ∀ t, oS p e below T85 m 97 #[iv p0, iv p1, iv p2, iv p3, iv 1, rv b80, jv wh, sn, jv ((8 : Int64) * ((1 : Int32).toInt64)), sn, un, un, un, un, un, un, un, un, un, un, un, un, un, un, un] [] t → oE p e below s₁ m #[(.int p0), (.int p1), (.int p2), (.int p3)] maxLocals t := fun t kt => pre88 t (by
      show oS p e below T85 m 88 #[iv p0, iv p1, iv p2, iv p3, iv 1, rv b80, jv wh, sn, un, un, un, un, un, un, un, un, un, un, un, un, un, un, un, un, un] [] _
      refine X85.ldc2Long hx hown (mvT hZ (hw _ (List.mem_of_getElem? (i := 3) rfl))) (g := (mkF m 88 #[iv p0, iv p1, iv p2, iv p3, iv 1, rv b80, jv wh, sn, un, un, un, un, un, un, un, un, un, un, un, un, un, un, un, un, un] [])) rfl (hb hby at_88) _ ?_
      show oS p e below T85 m 91 #[iv p0, iv p1, iv p2, iv p3, iv 1, rv b80, jv wh, sn, un, un, un, un, un, un, un, un, un, un, un, un, un, un, un, un, un] [(.long (8 : Int64))] _
      refine XS.iload X85.here hx rfl (hb hby at_91) rfl ?_
      show oS p e below T85 m 93 #[iv p0, iv p1, iv p2, iv p3, iv 1, rv b80, jv wh, sn, un, un, un, un, un, un, un, un, un, un, un, un, un, un, un, un, un] [(.int (1 : Int32)), (.long (8 : Int64))] _
      refine XS.i2l X85.here hx rfl (hb hby at_93) rfl ?_
      show oS p e below T85 m 94 #[iv p0, iv p1, iv p2, iv p3, iv 1, rv b80, jv wh, sn, un, un, un, un, un, un, un, un, un, un, un, un, un, un, un, un, un] [(.long ((1 : Int32).toInt64)), (.long (8 : Int64))] _
      refine XS.lmul X85.here hx rfl (hb hby at_94) rfl ?_
      show oS p e below T85 m 95 #[iv p0, iv p1, iv p2, iv p3, iv 1, rv b80, jv wh, sn, un, un, un, un, un, un, un, un, un, un, un, un, un, un, un, un, un] [(.long ((8 : Int64) * ((1 : Int32).toInt64)))] _
      refine XS.lstore X85.here hx rfl (hb hby at_95) rfl (l' := #[iv p0, iv p1, iv p2, iv p3, iv 1, rv b80, jv wh, sn, jv ((8 : Int64) * ((1 : Int32).toInt64)), sn, un, un, un, un, un, un, un, un, un, un, un, un, un, un, un]) rfl ?_
      exact kt)
    clear pre88
    obtain ⟨sz, hm90, pre90⟩ : ∃ (sz : Int64), (sz = (8 : Int64)) ∧ ∀ t, oS p e below T85 m 97 #[iv p0, iv p1, iv p2, iv p3, iv 1, rv b80, jv wh, sn, jv sz, sn, un, un, un, un, un, un, un, un, un, un, un, un, un, un, un] [] t → oE p e below s₁ m #[(.int p0), (.int p1), (.int p2), (.int p3)] maxLocals t := ⟨((8 : Int64) * ((1 : Int32).toInt64)), (by decide), pre89⟩
    clear pre89
    subst hm90
    have pre91 : ∀ t, oS p e below T85 m 103 #[iv p0, iv p1, iv p2, iv p3, iv 1, rv b80, jv wh, sn, jv 8, sn, iv (p2 &&& (63 : Int32)), un, un, un, un, un, un, un, un, un, un, un, un, un, un] [] t → oE p e below s₁ m #[(.int p0), (.int p1), (.int p2), (.int p3)] maxLocals t := fun t kt => pre90 t (by
      show oS p e below T85 m 97 #[iv p0, iv p1, iv p2, iv p3, iv 1, rv b80, jv wh, sn, jv 8, sn, un, un, un, un, un, un, un, un, un, un, un, un, un, un, un] [] _
      refine XS.iloadN X85.here hx rfl (hb hby at_97) rfl ?_
      show oS p e below T85 m 98 #[iv p0, iv p1, iv p2, iv p3, iv 1, rv b80, jv wh, sn, jv 8, sn, un, un, un, un, un, un, un, un, un, un, un, un, un, un, un] [(.int p2)] _
      refine XS.bipush X85.here hx rfl (hb hby at_98) ?_
      show oS p e below T85 m 100 #[iv p0, iv p1, iv p2, iv p3, iv 1, rv b80, jv wh, sn, jv 8, sn, un, un, un, un, un, un, un, un, un, un, un, un, un, un, un] [(.int (63 : Int32)), (.int p2)] _
      refine XS.iand X85.here hx rfl (hb hby at_100) rfl ?_
      show oS p e below T85 m 101 #[iv p0, iv p1, iv p2, iv p3, iv 1, rv b80, jv wh, sn, jv 8, sn, un, un, un, un, un, un, un, un, un, un, un, un, un, un, un] [(.int (p2 &&& (63 : Int32)))] _
      refine XS.istore X85.here hx rfl (hb hby at_101) rfl (l' := #[iv p0, iv p1, iv p2, iv p3, iv 1, rv b80, jv wh, sn, jv 8, sn, iv (p2 &&& (63 : Int32)), un, un, un, un, un, un, un, un, un, un, un, un, un, un]) rfl ?_
      exact kt)
    clear pre90
    obtain ⟨c1, hm92, pre92⟩ : ∃ (c1 : Int32), (0 ≤ c1.toInt ∧ c1.toInt ≤ 63) ∧ ∀ t, oS p e below T85 m 103 #[iv p0, iv p1, iv p2, iv p3, iv 1, rv b80, jv wh, sn, jv 8, sn, iv c1, un, un, un, un, un, un, un, un, un, un, un, un, un, un] [] t → oE p e below s₁ m #[(.int p0), (.int p1), (.int p2), (.int p3)] maxLocals t := ⟨(p2 &&& (63 : Int32)), own_63 p2, pre91⟩
    clear pre91
    have pre93 : ∀ t, oS p e below T85 m 107 #[iv p0, iv p1, iv p2, iv p3, iv 1, rv b80, jv wh, sn, jv 8, sn, iv c1, un, un, un, un, un, un, un, un, un, un, un, un, un, un] [(.int (p2 &&& (64 : Int32)))] t → oE p e below s₁ m #[(.int p0), (.int p1), (.int p2), (.int p3)] maxLocals t := fun t kt => pre92 t (by
      show oS p e below T85 m 103 #[iv p0, iv p1, iv p2, iv p3, iv 1, rv b80, jv wh, sn, jv 8, sn, iv c1, un, un, un, un, un, un, un, un, un, un, un, un, un, un] [] _
      refine XS.iloadN X85.here hx rfl (hb hby at_103) rfl ?_
      show oS p e below T85 m 104 #[iv p0, iv p1, iv p2, iv p3, iv 1, rv b80, jv wh, sn, jv 8, sn, iv c1, un, un, un, un, un, un, un, un, un, un, un, un, un, un] [(.int p2)] _
      refine XS.bipush X85.here hx rfl (hb hby at_104) ?_
      show oS p e below T85 m 106 #[iv p0, iv p1, iv p2, iv p3, iv 1, rv b80, jv wh, sn, jv 8, sn, iv c1, un, un, un, un, un, un, un, un, un, un, un, un, un, un] [(.int (64 : Int32)), (.int p2)] _
      refine XS.iand X85.here hx rfl (hb hby at_106) rfl ?_
      exact kt)
    clear pre92
    obtain ⟨c2, hm94, pre94⟩ : ∃ (c2 : Int32), (0 ≤ c2.toInt) ∧ ∀ t, oS p e below T85 m 121 #[iv p0, iv p1, iv p2, iv p3, iv 1, rv b80, jv wh, sn, jv 8, sn, iv c1, un, un, un, un, un, un, un, un, un, un, un, un, un, un] [(.int c2)] t → oE p e below s₁ m #[(.int p0), (.int p1), (.int p2), (.int p3)] maxLocals t := by
      by_cases hc107_95 : (p2 &&& (64 : Int32)) = (0 : Int32)
      · have pre96 : ∀ t, oS p e below T85 m 121 #[iv p0, iv p1, iv p2, iv p3, iv 1, rv b80, jv wh, sn, jv 8, sn, iv c1, un, un, un, un, un, un, un, un, un, un, un, un, un, un] [(.int (p3 &&& (63 : Int32)))] t → oE p e below s₁ m #[(.int p0), (.int p1), (.int p2), (.int p3)] maxLocals t := fun t kt => pre93 t (by
          show oS p e below T85 m 107 #[iv p0, iv p1, iv p2, iv p3, iv 1, rv b80, jv wh, sn, jv 8, sn, iv c1, un, un, un, un, un, un, un, un, un, un, un, un, un, un] [(.int (p2 &&& (64 : Int32)))] _
          refine XS.ifYes X85.here hx rfl (pc0 := 107) (pc' := 117) rfl (hb hby at_107) rfl ((if0 _ _).trans (teq hc107_95).1) (by decide) (by decide) ?_
          show oS p e below T85 m 117 #[iv p0, iv p1, iv p2, iv p3, iv 1, rv b80, jv wh, sn, jv 8, sn, iv c1, un, un, un, un, un, un, un, un, un, un, un, un, un, un] [] _
          refine XS.iloadN X85.here hx rfl (hb hby at_117) rfl ?_
          show oS p e below T85 m 118 #[iv p0, iv p1, iv p2, iv p3, iv 1, rv b80, jv wh, sn, jv 8, sn, iv c1, un, un, un, un, un, un, un, un, un, un, un, un, un, un] [(.int p3)] _
          refine XS.bipush X85.here hx rfl (hb hby at_118) ?_
          show oS p e below T85 m 120 #[iv p0, iv p1, iv p2, iv p3, iv 1, rv b80, jv wh, sn, jv 8, sn, iv c1, un, un, un, un, un, un, un, un, un, un, un, un, un, un] [(.int (63 : Int32)), (.int p3)] _
          refine XS.iand X85.here hx rfl (hb hby at_120) rfl ?_
          exact kt)
        clear pre93
        exact ⟨(p3 &&& (63 : Int32)), (own_63 p3).1, pre96⟩
      · have pre97 : ∀ t, oS p e below T85 m 121 #[iv p0, iv p1, iv p2, iv p3, iv 1, rv b80, jv wh, sn, jv 8, sn, iv c1, un, un, un, un, un, un, un, un, un, un, un, un, un, un] [(.int (p3 &&& (2147483647 : Int32)))] t → oE p e below s₁ m #[(.int p0), (.int p1), (.int p2), (.int p3)] maxLocals t := fun t kt => pre93 t (by
          show oS p e below T85 m 107 #[iv p0, iv p1, iv p2, iv p3, iv 1, rv b80, jv wh, sn, jv 8, sn, iv c1, un, un, un, un, un, un, un, un, un, un, un, un, un, un] [(.int (p2 &&& (64 : Int32)))] _
          refine XS.ifNo X85.here hx rfl (hb hby at_107) rfl ((if0 _ _).trans (feq hc107_95).1) ?_
          show oS p e below T85 m 110 #[iv p0, iv p1, iv p2, iv p3, iv 1, rv b80, jv wh, sn, jv 8, sn, iv c1, un, un, un, un, un, un, un, un, un, un, un, un, un, un] [] _
          refine XS.iloadN X85.here hx rfl (hb hby at_110) rfl ?_
          show oS p e below T85 m 111 #[iv p0, iv p1, iv p2, iv p3, iv 1, rv b80, jv wh, sn, jv 8, sn, iv c1, un, un, un, un, un, un, un, un, un, un, un, un, un, un] [(.int p3)] _
          refine X85.ldcInt hx hown (mvT hZ (hw _ (List.mem_of_getElem? (i := 0) rfl))) (g := (mkF m 111 #[iv p0, iv p1, iv p2, iv p3, iv 1, rv b80, jv wh, sn, jv 8, sn, iv c1, un, un, un, un, un, un, un, un, un, un, un, un, un, un] [(.int p3)])) rfl (hb hby at_111) _ ?_
          show oS p e below T85 m 113 #[iv p0, iv p1, iv p2, iv p3, iv 1, rv b80, jv wh, sn, jv 8, sn, iv c1, un, un, un, un, un, un, un, un, un, un, un, un, un, un] [(.int (2147483647 : Int32)), (.int p3)] _
          refine XS.iand X85.here hx rfl (hb hby at_113) rfl ?_
          show oS p e below T85 m 114 #[iv p0, iv p1, iv p2, iv p3, iv 1, rv b80, jv wh, sn, jv 8, sn, iv c1, un, un, un, un, un, un, un, un, un, un, un, un, un, un] [(.int (p3 &&& (2147483647 : Int32)))] _
          refine XS.goto X85.here hx rfl (pc0 := 114) (pc' := 121) rfl (hb hby at_114) (by decide) (by decide) ?_
          exact kt)
        clear pre93
        exact ⟨(p3 &&& (2147483647 : Int32)), own_nn p3, pre97⟩
    clear pre93
    have pre98 : ∀ t, oS p e below T85 m 123 #[iv p0, iv p1, iv p2, iv p3, iv 1, rv b80, jv wh, sn, jv 8, sn, iv c1, iv c2, un, un, un, un, un, un, un, un, un, un, un, un, un] [] t → oE p e below s₁ m #[(.int p0), (.int p1), (.int p2), (.int p3)] maxLocals t := fun t kt => pre94 t (by
      show oS p e below T85 m 121 #[iv p0, iv p1, iv p2, iv p3, iv 1, rv b80, jv wh, sn, jv 8, sn, iv c1, un, un, un, un, un, un, un, un, un, un, un, un, un, un] [(.int c2)] _
      refine XS.istore X85.here hx rfl (hb hby at_121) rfl (l' := #[iv p0, iv p1, iv p2, iv p3, iv 1, rv b80, jv wh, sn, jv 8, sn, iv c1, iv c2, un, un, un, un, un, un, un, un, un, un, un, un, un]) rfl ?_
      exact kt)
    clear pre94
    obtain ⟨r1v, p1v, hm99, pre99⟩ : ∃ (r1v : Int32) (p1v : Int64), ((r1v = (1 : Int32) ∧ c1.toInt ≤ 8 - 0 ∧ p1v.toInt = 0 + c1.toInt) ∨ (r1v = (0 : Int32) ∧ 8 - 0 < c1.toInt ∧ p1v.toInt = 8)) ∧ ∀ t, oS p e below T85 m 154 #[iv p0, iv p1, iv p2, iv p3, iv 1, rv b80, jv wh, sn, jv 8, sn, iv c1, iv c2, iv r1v, jv p1v, sn, un, un, un, un, un, un, un, un, un, un] [] t → oE p e below s₁ m #[(.int p0), (.int p1), (.int p2), (.int p3)] maxLocals t := by
      have pre100 : ∀ t, oS p e below T85 m 129 #[iv p0, iv p1, iv p2, iv p3, iv 1, rv b80, jv wh, sn, jv 8, sn, iv c1, iv c2, un, un, un, un, un, un, un, un, un, un, un, un, un] [(.int (lcmpW (c1.toInt64) (8 : Int64)))] t → oE p e below s₁ m #[(.int p0), (.int p1), (.int p2), (.int p3)] maxLocals t := fun t kt => pre98 t (by
        show oS p e below T85 m 123 #[iv p0, iv p1, iv p2, iv p3, iv 1, rv b80, jv wh, sn, jv 8, sn, iv c1, iv c2, un, un, un, un, un, un, un, un, un, un, un, un, un] [] _
        refine XS.iload X85.here hx rfl (hb hby at_123) rfl ?_
        show oS p e below T85 m 125 #[iv p0, iv p1, iv p2, iv p3, iv 1, rv b80, jv wh, sn, jv 8, sn, iv c1, iv c2, un, un, un, un, un, un, un, un, un, un, un, un, un] [(.int c1)] _
        refine XS.i2l X85.here hx rfl (hb hby at_125) rfl ?_
        show oS p e below T85 m 126 #[iv p0, iv p1, iv p2, iv p3, iv 1, rv b80, jv wh, sn, jv 8, sn, iv c1, iv c2, un, un, un, un, un, un, un, un, un, un, un, un, un] [(.long (c1.toInt64))] _
        refine XS.lload X85.here hx rfl (hb hby at_126) rfl ?_
        show oS p e below T85 m 128 #[iv p0, iv p1, iv p2, iv p3, iv 1, rv b80, jv wh, sn, jv 8, sn, iv c1, iv c2, un, un, un, un, un, un, un, un, un, un, un, un, un] [(.long (8 : Int64)), (.long (c1.toInt64))] _
        refine XS.lcmp X85.here hx rfl (hb hby at_128) rfl ?_
        exact kt)
      clear pre98
      by_cases hc129_101 : (8 : Int64) < (c1.toInt64)
      · have pre102 : ∀ t, oS p e below T85 m 154 #[iv p0, iv p1, iv p2, iv p3, iv 1, rv b80, jv wh, sn, jv 8, sn, iv c1, iv c2, iv 0, jv 8, sn, un, un, un, un, un, un, un, un, un, un] [] t → oE p e below s₁ m #[(.int p0), (.int p1), (.int p2), (.int p3)] maxLocals t := fun t kt => pre100 t (by
          show oS p e below T85 m 129 #[iv p0, iv p1, iv p2, iv p3, iv 1, rv b80, jv wh, sn, jv 8, sn, iv c1, iv c2, un, un, un, un, un, un, un, un, un, un, un, un, un] [(.int (lcmpW (c1.toInt64) (8 : Int64)))] _
          refine XS.ifYes X85.here hx rfl (pc0 := 129) (pc' := 136) rfl (hb hby at_129) rfl (Jvm.Free.XT.ll_gt_t hc129_101) (by decide) (by decide) ?_
          show oS p e below T85 m 136 #[iv p0, iv p1, iv p2, iv p3, iv 1, rv b80, jv wh, sn, jv 8, sn, iv c1, iv c2, un, un, un, un, un, un, un, un, un, un, un, un, un] [] _
          refine XS.iconst X85.here hx rfl (hb hby at_136) ?_
          show oS p e below T85 m 137 #[iv p0, iv p1, iv p2, iv p3, iv 1, rv b80, jv wh, sn, jv 8, sn, iv c1, iv c2, un, un, un, un, un, un, un, un, un, un, un, un, un] [(.int (0 : Int32))] _
          refine XS.istore X85.here hx rfl (hb hby at_137) rfl (l' := #[iv p0, iv p1, iv p2, iv p3, iv 1, rv b80, jv wh, sn, jv 8, sn, iv c1, iv c2, iv 0, un, un, un, un, un, un, un, un, un, un, un, un]) rfl ?_
          show oS p e below T85 m 139 #[iv p0, iv p1, iv p2, iv p3, iv 1, rv b80, jv wh, sn, jv 8, sn, iv c1, iv c2, iv 0, un, un, un, un, un, un, un, un, un, un, un, un] [] _
          refine XS.iload X85.here hx rfl (hb hby at_139) rfl ?_
          show oS p e below T85 m 141 #[iv p0, iv p1, iv p2, iv p3, iv 1, rv b80, jv wh, sn, jv 8, sn, iv c1, iv c2, iv 0, un, un, un, un, un, un, un, un, un, un, un, un] [(.int (0 : Int32))] _
          refine XS.ifYes X85.here hx rfl (pc0 := 141) (pc' := 150) rfl (hb hby at_141) rfl ((if0 _ _).trans (teq (by decide : (0 : Int32) = (0 : Int32))).1) (by decide) (by decide) ?_
          show oS p e below T85 m 150 #[iv p0, iv p1, iv p2, iv p3, iv 1, rv b80, jv wh, sn, jv 8, sn, iv c1, iv c2, iv 0, un, un, un, un, un, un, un, un, un, un, un, un] [] _
          refine XS.lload X85.here hx rfl (hb hby at_150) rfl ?_
          show oS p e below T85 m 152 #[iv p0, iv p1, iv p2, iv p3, iv 1, rv b80, jv wh, sn, jv 8, sn, iv c1, iv c2, iv 0, un, un, un, un, un, un, un, un, un, un, un, un] [(.long (8 : Int64))] _
          refine XS.lstore X85.here hx rfl (hb hby at_152) rfl (l' := #[iv p0, iv p1, iv p2, iv p3, iv 1, rv b80, jv wh, sn, jv 8, sn, iv c1, iv c2, iv 0, jv 8, sn, un, un, un, un, un, un, un, un, un, un]) rfl ?_
          exact kt)
        clear pre100
        exact ⟨(0 : Int32), (8 : Int64), own_r1b c1 (8 : Int64) 8 (by decide) hc129_101, pre102⟩
      · have pre103 : ∀ t, oS p e below T85 m 154 #[iv p0, iv p1, iv p2, iv p3, iv 1, rv b80, jv wh, sn, jv 8, sn, iv c1, iv c2, iv 1, jv (c1.toInt64), sn, un, un, un, un, un, un, un, un, un, un] [] t → oE p e below s₁ m #[(.int p0), (.int p1), (.int p2), (.int p3)] maxLocals t := fun t kt => pre100 t (by
          show oS p e below T85 m 129 #[iv p0, iv p1, iv p2, iv p3, iv 1, rv b80, jv wh, sn, jv 8, sn, iv c1, iv c2, un, un, un, un, un, un, un, un, un, un, un, un, un] [(.int (lcmpW (c1.toInt64) (8 : Int64)))] _
          refine XS.ifNo X85.here hx rfl (hb hby at_129) rfl (Jvm.Free.XT.ll_gt_f hc129_101) ?_
          show oS p e below T85 m 132 #[iv p0, iv p1, iv p2, iv p3, iv 1, rv b80, jv wh, sn, jv 8, sn, iv c1, iv c2, un, un, un, un, un, un, un, un, un, un, un, un, un] [] _
          refine XS.iconst X85.here hx rfl (hb hby at_132) ?_
          show oS p e below T85 m 133 #[iv p0, iv p1, iv p2, iv p3, iv 1, rv b80, jv wh, sn, jv 8, sn, iv c1, iv c2, un, un, un, un, un, un, un, un, un, un, un, un, un] [(.int (1 : Int32))] _
          refine XS.goto X85.here hx rfl (pc0 := 133) (pc' := 137) rfl (hb hby at_133) (by decide) (by decide) ?_
          show oS p e below T85 m 137 #[iv p0, iv p1, iv p2, iv p3, iv 1, rv b80, jv wh, sn, jv 8, sn, iv c1, iv c2, un, un, un, un, un, un, un, un, un, un, un, un, un] [(.int (1 : Int32))] _
          refine XS.istore X85.here hx rfl (hb hby at_137) rfl (l' := #[iv p0, iv p1, iv p2, iv p3, iv 1, rv b80, jv wh, sn, jv 8, sn, iv c1, iv c2, iv 1, un, un, un, un, un, un, un, un, un, un, un, un]) rfl ?_
          show oS p e below T85 m 139 #[iv p0, iv p1, iv p2, iv p3, iv 1, rv b80, jv wh, sn, jv 8, sn, iv c1, iv c2, iv 1, un, un, un, un, un, un, un, un, un, un, un, un] [] _
          refine XS.iload X85.here hx rfl (hb hby at_139) rfl ?_
          show oS p e below T85 m 141 #[iv p0, iv p1, iv p2, iv p3, iv 1, rv b80, jv wh, sn, jv 8, sn, iv c1, iv c2, iv 1, un, un, un, un, un, un, un, un, un, un, un, un] [(.int (1 : Int32))] _
          refine XS.ifNo X85.here hx rfl (hb hby at_141) rfl ((if0 _ _).trans (feq (by decide : ¬ ((1 : Int32) = (0 : Int32)))).1) ?_
          show oS p e below T85 m 144 #[iv p0, iv p1, iv p2, iv p3, iv 1, rv b80, jv wh, sn, jv 8, sn, iv c1, iv c2, iv 1, un, un, un, un, un, un, un, un, un, un, un, un] [] _
          refine XS.iload X85.here hx rfl (hb hby at_144) rfl ?_
          show oS p e below T85 m 146 #[iv p0, iv p1, iv p2, iv p3, iv 1, rv b80, jv wh, sn, jv 8, sn, iv c1, iv c2, iv 1, un, un, un, un, un, un, un, un, un, un, un, un] [(.int c1)] _
          refine XS.i2l X85.here hx rfl (hb hby at_146) rfl ?_
          show oS p e below T85 m 147 #[iv p0, iv p1, iv p2, iv p3, iv 1, rv b80, jv wh, sn, jv 8, sn, iv c1, iv c2, iv 1, un, un, un, un, un, un, un, un, un, un, un, un] [(.long (c1.toInt64))] _
          refine XS.goto X85.here hx rfl (pc0 := 147) (pc' := 152) rfl (hb hby at_147) (by decide) (by decide) ?_
          show oS p e below T85 m 152 #[iv p0, iv p1, iv p2, iv p3, iv 1, rv b80, jv wh, sn, jv 8, sn, iv c1, iv c2, iv 1, un, un, un, un, un, un, un, un, un, un, un, un] [(.long (c1.toInt64))] _
          refine XS.lstore X85.here hx rfl (hb hby at_152) rfl (l' := #[iv p0, iv p1, iv p2, iv p3, iv 1, rv b80, jv wh, sn, jv 8, sn, iv c1, iv c2, iv 1, jv (c1.toInt64), sn, un, un, un, un, un, un, un, un, un, un]) rfl ?_
          exact kt)
        clear pre100
        exact ⟨(1 : Int32), (c1.toInt64), own_r1a c1 (8 : Int64) 8 (by decide) hc129_101, pre103⟩
    clear pre98
    obtain ⟨r2v, p2v, hm104, pre104⟩ : ∃ (r2v : Int32) (p2v : Int64), ((r2v = (1 : Int32) ∧ c2.toInt ≤ 8 - p1v.toInt ∧ p2v.toInt = p1v.toInt + c2.toInt) ∨ (r2v = (0 : Int32) ∧ 8 - p1v.toInt < c2.toInt ∧ p2v.toInt = 8)) ∧ ∀ t, oS p e below T85 m 191 #[iv p0, iv p1, iv p2, iv p3, iv 1, rv b80, jv wh, sn, jv 8, sn, iv c1, iv c2, iv r1v, jv p1v, sn, iv r2v, jv p2v, sn, un, un, un, un, un, un, un] [] t → oE p e below s₁ m #[(.int p0), (.int p1), (.int p2), (.int p3)] maxLocals t := by
      have pre105 : ∀ t, oS p e below T85 m 163 #[iv p0, iv p1, iv p2, iv p3, iv 1, rv b80, jv wh, sn, jv 8, sn, iv c1, iv c2, iv r1v, jv p1v, sn, un, un, un, un, un, un, un, un, un, un] [(.int (lcmpW (c2.toInt64) ((8 : Int64) - p1v)))] t → oE p e below s₁ m #[(.int p0), (.int p1), (.int p2), (.int p3)] maxLocals t := fun t kt => pre99 t (by
        show oS p e below T85 m 154 #[iv p0, iv p1, iv p2, iv p3, iv 1, rv b80, jv wh, sn, jv 8, sn, iv c1, iv c2, iv r1v, jv p1v, sn, un, un, un, un, un, un, un, un, un, un] [] _
        refine XS.iload X85.here hx rfl (hb hby at_154) rfl ?_
        show oS p e below T85 m 156 #[iv p0, iv p1, iv p2, iv p3, iv 1, rv b80, jv wh, sn, jv 8, sn, iv c1, iv c2, iv r1v, jv p1v, sn, un, un, un, un, un, un, un, un, un, un] [(.int c2)] _
        refine XS.i2l X85.here hx rfl (hb hby at_156) rfl ?_
        show oS p e below T85 m 157 #[iv p0, iv p1, iv p2, iv p3, iv 1, rv b80, jv wh, sn, jv 8, sn, iv c1, iv c2, iv r1v, jv p1v, sn, un, un, un, un, un, un, un, un, un, un] [(.long (c2.toInt64))] _
        refine XS.lload X85.here hx rfl (hb hby at_157) rfl ?_
        show oS p e below T85 m 159 #[iv p0, iv p1, iv p2, iv p3, iv 1, rv b80, jv wh, sn, jv 8, sn, iv c1, iv c2, iv r1v, jv p1v, sn, un, un, un, un, un, un, un, un, un, un] [(.long (8 : Int64)), (.long (c2.toInt64))] _
        refine XS.lload X85.here hx rfl (hb hby at_159) rfl ?_
        show oS p e below T85 m 161 #[iv p0, iv p1, iv p2, iv p3, iv 1, rv b80, jv wh, sn, jv 8, sn, iv c1, iv c2, iv r1v, jv p1v, sn, un, un, un, un, un, un, un, un, un, un] [(.long p1v), (.long (8 : Int64)), (.long (c2.toInt64))] _
        refine XS.lsub X85.here hx rfl (hb hby at_161) rfl ?_
        show oS p e below T85 m 162 #[iv p0, iv p1, iv p2, iv p3, iv 1, rv b80, jv wh, sn, jv 8, sn, iv c1, iv c2, iv r1v, jv p1v, sn, un, un, un, un, un, un, un, un, un, un] [(.long ((8 : Int64) - p1v)), (.long (c2.toInt64))] _
        refine XS.lcmp X85.here hx rfl (hb hby at_162) rfl ?_
        exact kt)
      clear pre99
      by_cases hc163_106 : ((8 : Int64) - p1v) < (c2.toInt64)
      · have pre107 : ∀ t, oS p e below T85 m 191 #[iv p0, iv p1, iv p2, iv p3, iv 1, rv b80, jv wh, sn, jv 8, sn, iv c1, iv c2, iv r1v, jv p1v, sn, iv 0, jv 8, sn, un, un, un, un, un, un, un] [] t → oE p e below s₁ m #[(.int p0), (.int p1), (.int p2), (.int p3)] maxLocals t := fun t kt => pre105 t (by
          show oS p e below T85 m 163 #[iv p0, iv p1, iv p2, iv p3, iv 1, rv b80, jv wh, sn, jv 8, sn, iv c1, iv c2, iv r1v, jv p1v, sn, un, un, un, un, un, un, un, un, un, un] [(.int (lcmpW (c2.toInt64) ((8 : Int64) - p1v)))] _
          refine XS.ifYes X85.here hx rfl (pc0 := 163) (pc' := 170) rfl (hb hby at_163) rfl (Jvm.Free.XT.ll_gt_t hc163_106) (by decide) (by decide) ?_
          show oS p e below T85 m 170 #[iv p0, iv p1, iv p2, iv p3, iv 1, rv b80, jv wh, sn, jv 8, sn, iv c1, iv c2, iv r1v, jv p1v, sn, un, un, un, un, un, un, un, un, un, un] [] _
          refine XS.iconst X85.here hx rfl (hb hby at_170) ?_
          show oS p e below T85 m 171 #[iv p0, iv p1, iv p2, iv p3, iv 1, rv b80, jv wh, sn, jv 8, sn, iv c1, iv c2, iv r1v, jv p1v, sn, un, un, un, un, un, un, un, un, un, un] [(.int (0 : Int32))] _
          refine XS.istore X85.here hx rfl (hb hby at_171) rfl (l' := #[iv p0, iv p1, iv p2, iv p3, iv 1, rv b80, jv wh, sn, jv 8, sn, iv c1, iv c2, iv r1v, jv p1v, sn, iv 0, un, un, un, un, un, un, un, un, un]) rfl ?_
          show oS p e below T85 m 173 #[iv p0, iv p1, iv p2, iv p3, iv 1, rv b80, jv wh, sn, jv 8, sn, iv c1, iv c2, iv r1v, jv p1v, sn, iv 0, un, un, un, un, un, un, un, un, un] [] _
          refine XS.iload X85.here hx rfl (hb hby at_173) rfl ?_
          show oS p e below T85 m 175 #[iv p0, iv p1, iv p2, iv p3, iv 1, rv b80, jv wh, sn, jv 8, sn, iv c1, iv c2, iv r1v, jv p1v, sn, iv 0, un, un, un, un, un, un, un, un, un] [(.int (0 : Int32))] _
          refine XS.ifYes X85.here hx rfl (pc0 := 175) (pc' := 187) rfl (hb hby at_175) rfl ((if0 _ _).trans (teq (by decide : (0 : Int32) = (0 : Int32))).1) (by decide) (by decide) ?_
          show oS p e below T85 m 187 #[iv p0, iv p1, iv p2, iv p3, iv 1, rv b80, jv wh, sn, jv 8, sn, iv c1, iv c2, iv r1v, jv p1v, sn, iv 0, un, un, un, un, un, un, un, un, un] [] _
          refine XS.lload X85.here hx rfl (hb hby at_187) rfl ?_
          show oS p e below T85 m 189 #[iv p0, iv p1, iv p2, iv p3, iv 1, rv b80, jv wh, sn, jv 8, sn, iv c1, iv c2, iv r1v, jv p1v, sn, iv 0, un, un, un, un, un, un, un, un, un] [(.long (8 : Int64))] _
          refine XS.lstore X85.here hx rfl (hb hby at_189) rfl (l' := #[iv p0, iv p1, iv p2, iv p3, iv 1, rv b80, jv wh, sn, jv 8, sn, iv c1, iv c2, iv r1v, jv p1v, sn, iv 0, jv 8, sn, un, un, un, un, un, un, un]) rfl ?_
          exact kt)
        clear pre105
        exact ⟨(0 : Int32), (8 : Int64), own_r2b c2 (8 : Int64) p1v 8 (by decide) (by decide) (own_pb 8 r1v c1 p1v (by decide) hm92.1 hm99) hm94 hc163_106, pre107⟩
      · have pre108 : ∀ t, oS p e below T85 m 191 #[iv p0, iv p1, iv p2, iv p3, iv 1, rv b80, jv wh, sn, jv 8, sn, iv c1, iv c2, iv r1v, jv p1v, sn, iv 1, jv (p1v + (c2.toInt64)), sn, un, un, un, un, un, un, un] [] t → oE p e below s₁ m #[(.int p0), (.int p1), (.int p2), (.int p3)] maxLocals t := fun t kt => pre105 t (by
          show oS p e below T85 m 163 #[iv p0, iv p1, iv p2, iv p3, iv 1, rv b80, jv wh, sn, jv 8, sn, iv c1, iv c2, iv r1v, jv p1v, sn, un, un, un, un, un, un, un, un, un, un] [(.int (lcmpW (c2.toInt64) ((8 : Int64) - p1v)))] _
          refine XS.ifNo X85.here hx rfl (hb hby at_163) rfl (Jvm.Free.XT.ll_gt_f hc163_106) ?_
          show oS p e below T85 m 166 #[iv p0, iv p1, iv p2, iv p3, iv 1, rv b80, jv wh, sn, jv 8, sn, iv c1, iv c2, iv r1v, jv p1v, sn, un, un, un, un, un, un, un, un, un, un] [] _
          refine XS.iconst X85.here hx rfl (hb hby at_166) ?_
          show oS p e below T85 m 167 #[iv p0, iv p1, iv p2, iv p3, iv 1, rv b80, jv wh, sn, jv 8, sn, iv c1, iv c2, iv r1v, jv p1v, sn, un, un, un, un, un, un, un, un, un, un] [(.int (1 : Int32))] _
          refine XS.goto X85.here hx rfl (pc0 := 167) (pc' := 171) rfl (hb hby at_167) (by decide) (by decide) ?_
          show oS p e below T85 m 171 #[iv p0, iv p1, iv p2, iv p3, iv 1, rv b80, jv wh, sn, jv 8, sn, iv c1, iv c2, iv r1v, jv p1v, sn, un, un, un, un, un, un, un, un, un, un] [(.int (1 : Int32))] _
          refine XS.istore X85.here hx rfl (hb hby at_171) rfl (l' := #[iv p0, iv p1, iv p2, iv p3, iv 1, rv b80, jv wh, sn, jv 8, sn, iv c1, iv c2, iv r1v, jv p1v, sn, iv 1, un, un, un, un, un, un, un, un, un]) rfl ?_
          show oS p e below T85 m 173 #[iv p0, iv p1, iv p2, iv p3, iv 1, rv b80, jv wh, sn, jv 8, sn, iv c1, iv c2, iv r1v, jv p1v, sn, iv 1, un, un, un, un, un, un, un, un, un] [] _
          refine XS.iload X85.here hx rfl (hb hby at_173) rfl ?_
          show oS p e below T85 m 175 #[iv p0, iv p1, iv p2, iv p3, iv 1, rv b80, jv wh, sn, jv 8, sn, iv c1, iv c2, iv r1v, jv p1v, sn, iv 1, un, un, un, un, un, un, un, un, un] [(.int (1 : Int32))] _
          refine XS.ifNo X85.here hx rfl (hb hby at_175) rfl ((if0 _ _).trans (feq (by decide : ¬ ((1 : Int32) = (0 : Int32)))).1) ?_
          show oS p e below T85 m 178 #[iv p0, iv p1, iv p2, iv p3, iv 1, rv b80, jv wh, sn, jv 8, sn, iv c1, iv c2, iv r1v, jv p1v, sn, iv 1, un, un, un, un, un, un, un, un, un] [] _
          refine XS.lload X85.here hx rfl (hb hby at_178) rfl ?_
          show oS p e below T85 m 180 #[iv p0, iv p1, iv p2, iv p3, iv 1, rv b80, jv wh, sn, jv 8, sn, iv c1, iv c2, iv r1v, jv p1v, sn, iv 1, un, un, un, un, un, un, un, un, un] [(.long p1v)] _
          refine XS.iload X85.here hx rfl (hb hby at_180) rfl ?_
          show oS p e below T85 m 182 #[iv p0, iv p1, iv p2, iv p3, iv 1, rv b80, jv wh, sn, jv 8, sn, iv c1, iv c2, iv r1v, jv p1v, sn, iv 1, un, un, un, un, un, un, un, un, un] [(.int c2), (.long p1v)] _
          refine XS.i2l X85.here hx rfl (hb hby at_182) rfl ?_
          show oS p e below T85 m 183 #[iv p0, iv p1, iv p2, iv p3, iv 1, rv b80, jv wh, sn, jv 8, sn, iv c1, iv c2, iv r1v, jv p1v, sn, iv 1, un, un, un, un, un, un, un, un, un] [(.long (c2.toInt64)), (.long p1v)] _
          refine XS.ladd X85.here hx rfl (hb hby at_183) rfl ?_
          show oS p e below T85 m 184 #[iv p0, iv p1, iv p2, iv p3, iv 1, rv b80, jv wh, sn, jv 8, sn, iv c1, iv c2, iv r1v, jv p1v, sn, iv 1, un, un, un, un, un, un, un, un, un] [(.long (p1v + (c2.toInt64)))] _
          refine XS.goto X85.here hx rfl (pc0 := 184) (pc' := 189) rfl (hb hby at_184) (by decide) (by decide) ?_
          show oS p e below T85 m 189 #[iv p0, iv p1, iv p2, iv p3, iv 1, rv b80, jv wh, sn, jv 8, sn, iv c1, iv c2, iv r1v, jv p1v, sn, iv 1, un, un, un, un, un, un, un, un, un] [(.long (p1v + (c2.toInt64)))] _
          refine XS.lstore X85.here hx rfl (hb hby at_189) rfl (l' := #[iv p0, iv p1, iv p2, iv p3, iv 1, rv b80, jv wh, sn, jv 8, sn, iv c1, iv c2, iv r1v, jv p1v, sn, iv 1, jv (p1v + (c2.toInt64)), sn, un, un, un, un, un, un, un]) rfl ?_
          exact kt)
        clear pre105
        exact ⟨(1 : Int32), (p1v + (c2.toInt64)), own_r2a c2 (8 : Int64) p1v 8 (by decide) (by decide) (own_pb 8 r1v c1 p1v (by decide) hm92.1 hm99) hm94 hc163_106, pre108⟩
    clear pre99
    obtain ⟨T109, h109, X109, e109, E109, A109, D109, -, st109⟩ := newO X85 hx hZ hown (hw _ (List.mem_of_getElem? (i := 4) rfl)) (hw _ (List.mem_of_getElem? (i := 5) rfl)) (hw _ (List.mem_of_getElem? (i := 6) rfl)) e85 (g := (mkF m 191 #[iv p0, iv p1, iv p2, iv p3, iv 1, rv b80, jv wh, sn, jv 8, sn, iv c1, iv c2, iv r1v, jv p1v, sn, iv r2v, jv p2v, sn, un, un, un, un, un, un, un] [])) rfl (hb hby at_191) (by decide) (by decide)
    obtain ⟨b109, g109⟩ : ∃ z, z = h85.size := ⟨_, rfl⟩
    rw [← g109] at A109 D109 st109
    have ne_b80_b109 : b80 ≠ b109 := Nat.ne_of_lt (Nat.lt_of_lt_of_le V85.lt (Nat.le_of_eq g109.symm))
    have pre110 : ∀ t, oS p e below T109 m 194 #[iv p0, iv p1, iv p2, iv p3, iv 1, rv b80, jv wh, sn, jv 8, sn, iv c1, iv c2, iv r1v, jv p1v, sn, iv r2v, jv p2v, sn, un, un, un, un, un, un, un] [(.ref b109)] t → oE p e below s₁ m #[(.int p0), (.int p1), (.int p2), (.int p3)] maxLocals t := fun t kt => pre104 t (st109 _ kt)
    clear pre104 st109
    have F111 : Arv Z h109 b80 k80 .byte (1 : Int32) [(.int by0)] (.int (0 : Int32)) := V85.ext E109
    have gn109 : n0 ≤ b109 := Nat.le_trans Z85 (Nat.le_of_eq g109.symm)
    have sz109 : h0.size ≤ b109 := Nat.le_trans K85.1 (Nat.le_of_eq g109.symm)
    have K109 : Keep h0 h109 [] := K85.ext E109
    have Z109 : n0 ≤ h109.size := Nat.le_trans Z85 E109.1
    have Fn109_data : Fld Z h109 b109 vB "data" "[B" .null := D109 (Or.inr (hw _ (List.mem_of_getElem? (i := 14) rfl))) (ty := (.array .byte)) (by decide)
    have Fn109_size : Fld Z h109 b109 vB "size" "J" (.long (0 : Int64)) := D109 (Or.inr (hw _ (List.mem_of_getElem? (i := 17) rfl))) (ty := .long) (by decide)
    have Fn109_position : Fld Z h109 b109 vB "position" "J" (.long (0 : Int64)) := D109 (Or.inl (hw _ (List.mem_of_getElem? (i := 24) rfl))) (ty := .long) (by decide)
    have Fn109_ended : Fld Z h109 b109 vB "ended" "Z" (.int (0 : Int32)) := D109 (Or.inl (hw _ (List.mem_of_getElem? (i := 26) rfl))) (ty := .boolean) (by decide)
    have pre112 : ∀ t, oS p e below T109 m 197 #[iv p0, iv p1, iv p2, iv p3, iv 1, rv b80, jv wh, sn, jv 8, sn, iv c1, iv c2, iv r1v, jv p1v, sn, iv r2v, jv p2v, sn, un, un, un, un, un, un, un] [(.ref b80), (.ref b109), (.ref b109)] t → oE p e below s₁ m #[(.int p0), (.int p1), (.int p2), (.int p3)] maxLocals t := fun t kt => pre110 t (by
      show oS p e below T109 m 194 #[iv p0, iv p1, iv p2, iv p3, iv 1, rv b80, jv wh, sn, jv 8, sn, iv c1, iv c2, iv r1v, jv p1v, sn, iv r2v, jv p2v, sn, un, un, un, un, un, un, un] [(.ref b109)] _
      refine XS.dup X109.here hx rfl (hb hby at_194) rfl rfl ?_
      show oS p e below T109 m 195 #[iv p0, iv p1, iv p2, iv p3, iv 1, rv b80, jv wh, sn, jv 8, sn, iv c1, iv c2, iv r1v, jv p1v, sn, iv r2v, jv p2v, sn, un, un, un, un, un, un, un] [(.ref b109), (.ref b109)] _
      refine XS.aload X109.here hx rfl (hb hby at_195) rfl rfl ?_
      exact kt)
    clear pre110
    obtain ⟨_, _, ⟨T113, L113, k113, n113⟩, -, X113, ⟨Lc113, hQ113, l113, y113, z113⟩, st113⟩ := X109.specialBack hx (y := (⟨vB, "<init>", "([B)V"⟩ : MethodName)) rfl hown (mvT hZ (hw _ (List.mem_of_getElem? (i := 7) rfl))) (mvT hZ (hw _ (List.mem_of_getElem? (i := 8) rfl))) (mvT hZ (hw _ (List.mem_of_getElem? (i := 9) rfl))) (by decide) (backOf (W := 1) (rm1c1 l Z av hw [] b109 b80 k80 by0 h109 n0 Z109 A109 gn109 Fn109_data Fn109_size Fn109_position Fn109_ended F111 (Ne.symm ne_b80_b109)) hZ (hw _ (List.mem_of_getElem? (i := 9) rfl)) (hw _ (List.mem_of_getElem? (i := 6) rfl)) (by decide) (by decide)) (g := (mkF m 197 #[iv p0, iv p1, iv p2, iv p3, iv 1, rv b80, jv wh, sn, jv 8, sn, iv c1, iv c2, iv r1v, jv p1v, sn, iv r2v, jv p2v, sn, un, un, un, un, un, un, un] [(.ref b80), (.ref b109), (.ref b109)])) rfl (by rw [hml]; rfl) (Steps.refl _) (a := b109) (argsL := [(.ref b80)]) (rest := [(.ref b109)]) (lenOf pd___B_V rfl) rfl (by show 2 * 0 + _ ≤ _; exact Nat.le_of_eq rfl) (hb hby at_197) (fun _ _ => ⟨rfl, e109, (by decide : 2 + 0 ≤ _), (by decide : 5 + 0 ≤ _)⟩)
    dsimp only [Pt.U, Pt.locs, Pt.cells, Pt.slots] at X113 l113 y113 z113 st113 hQ113
    rw [l113, y113, z113] at X113
    clear l113 y113 z113
    obtain ⟨rfl, N113q, Kq113, Fq113_0, Fq113_1, Fq113_2, Fq113_3, Fq113_4⟩ := hQ113
    have N113 := Fr.app N85 N113q
    have F114 : Arv Z T113.heap b80 k80 .byte (1 : Int32) [(.int by0)] (.int (0 : Int32)) := F111.keep Kq113 (ninS ne_b80_b109 nin0)
    have K113 : Keep h0 T113.heap [] := K109.trans Kq113 (allS (Or.inr sz109) all0)
    have Z113 : n0 ≤ T113.heap.size := Nat.le_trans Z109 Kq113.1
    have Fq113_0' : Exa Z T113.heap b109 vB := Fq113_0
    have Fq113_1' : Fld Z T113.heap b109 vB "data" "[B" (.ref b80) := Fq113_1
    have Fq113_2' : Fld Z T113.heap b109 vB "size" "J" (.long ((8 : Int64) * ((1 : Int32).toInt64))) := Fq113_2
    have Fq113_3' : Fld Z T113.heap b109 vB "position" "J" (.long (0 : Int64)) := Fq113_3
    have Fq113_4' : Fld Z T113.heap b109 vB "ended" "Z" (.int (0 : Int32)) := Fq113_4
    have pre115 : ∀ t, oS p e below T113 m 200 #[iv p0, iv p1, iv p2, iv p3, iv 1, rv b80, jv wh, sn, jv 8, sn, iv c1, iv c2, iv r1v, jv p1v, sn, iv r2v, jv p2v, sn, un, un, un, un, un, un, un] [(.ref b109)] t → oE p e below s₁ m #[(.int p0), (.int p1), (.int p2), (.int p3)] maxLocals t := fun t kt => pre112 t (st113.trans kt)
    clear pre112 st113
    have pre116 : ∀ t, oS p e below T113 m 206 #[iv p0, iv p1, iv p2, iv p3, iv 1, rv b80, jv wh, sn, jv 8, sn, iv c1, iv c2, iv r1v, jv p1v, sn, iv r2v, jv p2v, sn, rv b109, un, un, un, un, un, un] [(.int c1), (.ref b109)] t → oE p e below s₁ m #[(.int p0), (.int p1), (.int p2), (.int p3)] maxLocals t := fun t kt => pre115 t (by
      show oS p e below T113 m 200 #[iv p0, iv p1, iv p2, iv p3, iv 1, rv b80, jv wh, sn, jv 8, sn, iv c1, iv c2, iv r1v, jv p1v, sn, iv r2v, jv p2v, sn, un, un, un, un, un, un, un] [(.ref b109)] _
      refine XS.astore X113.here hx rfl (hb hby at_200) rfl rfl (l' := #[iv p0, iv p1, iv p2, iv p3, iv 1, rv b80, jv wh, sn, jv 8, sn, iv c1, iv c2, iv r1v, jv p1v, sn, iv r2v, jv p2v, sn, rv b109, un, un, un, un, un, un]) rfl ?_
      show oS p e below T113 m 202 #[iv p0, iv p1, iv p2, iv p3, iv 1, rv b80, jv wh, sn, jv 8, sn, iv c1, iv c2, iv r1v, jv p1v, sn, iv r2v, jv p2v, sn, rv b109, un, un, un, un, un, un] [] _
      refine XS.aload X113.here hx rfl (hb hby at_202) rfl rfl ?_
      show oS p e below T113 m 204 #[iv p0, iv p1, iv p2, iv p3, iv 1, rv b80, jv wh, sn, jv 8, sn, iv c1, iv c2, iv r1v, jv p1v, sn, iv r2v, jv p2v, sn, rv b109, un, un, un, un, un, un] [(.ref b109)] _
      refine XS.iload X113.here hx rfl (hb hby at_204) rfl ?_
      exact kt)
    clear pre115
    obtain ⟨cq117, kq117, q117a, q117b, q117c⟩ := isOf hZ rfl Fq113_0'
    obtain ⟨_, _, ⟨T118, L118, k118, n118⟩, -, X118, ⟨Lc118, hQ118, l118, y118, z118⟩, st118⟩ := X113.virtualBack hx (y := (⟨vB, "skip", "(I)Z"⟩ : MethodName)) (z := (⟨vB, "skip", "(I)Z"⟩ : MethodName)) hown (mvT hZ (hw _ (List.mem_of_getElem? (i := 18) rfl))) (mvT hZ (hw _ (List.mem_of_getElem? (i := 19) rfl))) (notFace_of_selects (args := #[]) (mvT hZ (hw _ (List.mem_of_getElem? (i := 21) rfl)))) (mvT hZ (hw _ (List.mem_of_getElem? (i := 21) rfl))) (mvT hZ (hw _ (List.mem_of_getElem? (i := 20) rfl))) (by decide) (backOf (W := 0) (rm3 l Z av hw [] b109 c1 b80 ((8 : Int64) * ((1 : Int32).toInt64)) (0 : Int64) (0 : Int32) T113.heap n0 Z113 Fq113_0' gn109 Fq113_1' Fq113_2' Fq113_3' Fq113_4') hZ (hw _ (List.mem_of_getElem? (i := 22) rfl)) (hw _ (List.mem_of_getElem? (i := 6) rfl)) (by decide) (by decide)) q117a q117c (g := (mkF m 206 #[iv p0, iv p1, iv p2, iv p3, iv 1, rv b80, jv wh, sn, jv 8, sn, iv c1, iv c2, iv r1v, jv p1v, sn, iv r2v, jv p2v, sn, rv b109, un, un, un, un, un, un] [(.int c1), (.ref b109)])) rfl (by rw [hml]; rfl) (Steps.refl _) (argsL := [(.int c1)]) (rest := []) (lenOf pd__I_Z rfl) rfl (by show 2 * 0 + _ ≤ _; exact Nat.le_of_eq rfl) (hb hby at_206) (fun _ _ => ⟨rfl, rfl, (by decide : 2 + 0 ≤ _), (by decide : 5 + 0 ≤ _)⟩)
    dsimp only [Pt.U, Pt.locs, Pt.cells, Pt.slots] at X118 l118 y118 z118 st118 hQ118
    rw [l118, y118, z118] at X118
    clear l118 y118 z118
    obtain ⟨rv118, ps118, ed118, rfl, Nz118, Kz118, ⟨Gz0, Gz1, Gz2, Gz3, Gz4⟩, Rl118⟩ := hQ118
    have hQ118 := And.intro (rfl : (0 : Nat) = 0) (And.intro Nz118 (And.intro Kz118 (And.intro Gz0 (And.intro Gz1 (And.intro Gz2 (And.intro Gz3 Gz4))))))
    obtain ⟨-, N118q, Kq118, Fq118_0, Fq118_1, Fq118_2, Fq118_3, Fq118_4⟩ := hQ118
    have N118 := Fr.app N113 N118q
    have F119 : Arv Z T118.heap b80 k80 .byte (1 : Int32) [(.int by0)] (.int (0 : Int32)) := F114.keep Kq118 (ninS ne_b80_b109 nin0)
    have K118 : Keep h0 T118.heap [] := K113.trans Kq118 (allS (Or.inr sz109) all0)
    have Z118 : n0 ≤ T118.heap.size := Nat.le_trans Z113 Kq118.1
    have Fq118_0' : Exa Z T118.heap b109 vB := Fq118_0
    have Fq118_1' : Fld Z T118.heap b109 vB "data" "[B" (.ref b80) := Fq118_1
    have Fq118_2' : Fld Z T118.heap b109 vB "size" "J" (.long ((8 : Int64) * ((1 : Int32).toInt64))) := Fq118_2
    have Fq118_3' : Fld Z T118.heap b109 vB "position" "J" (.long ps118) := Fq118_3
    have Fq118_4' : Fld Z T118.heap b109 vB "ended" "Z" (.int ed118) := Fq118_4
    have pre120 : ∀ t, oS p e below T118 m 209 #[iv p0, iv p1, iv p2, iv p3, iv 1, rv b80, jv wh, sn, jv 8, sn, iv c1, iv c2, iv r1v, jv p1v, sn, iv r2v, jv p2v, sn, rv b109, un, un, un, un, un, un] [(.int rv118)] t → oE p e below s₁ m #[(.int p0), (.int p1), (.int p2), (.int p3)] maxLocals t := fun t kt => pre116 t (st118.trans kt)
    clear pre116 st118
    have pre121 : ∀ t, oS p e below T118 m 215 #[iv p0, iv p1, iv p2, iv p3, iv 1, rv b80, jv wh, sn, jv 8, sn, iv c1, iv c2, iv r1v, jv p1v, sn, iv r2v, jv p2v, sn, rv b109, iv rv118, un, un, un, un, un] [(.int (32 : Int32)), (.ref b109)] t → oE p e below s₁ m #[(.int p0), (.int p1), (.int p2), (.int p3)] maxLocals t := fun t kt => pre120 t (by
      show oS p e below T118 m 209 #[iv p0, iv p1, iv p2, iv p3, iv 1, rv b80, jv wh, sn, jv 8, sn, iv c1, iv c2, iv r1v, jv p1v, sn, iv r2v, jv p2v, sn, rv b109, un, un, un, un, un, un] [(.int rv118)] _
      refine XS.istore X118.here hx rfl (hb hby at_209) rfl (l' := #[iv p0, iv p1, iv p2, iv p3, iv 1, rv b80, jv wh, sn, jv 8, sn, iv c1, iv c2, iv r1v, jv p1v, sn, iv r2v, jv p2v, sn, rv b109, iv rv118, un, un, un, un, un]) rfl ?_
      show oS p e below T118 m 211 #[iv p0, iv p1, iv p2, iv p3, iv 1, rv b80, jv wh, sn, jv 8, sn, iv c1, iv c2, iv r1v, jv p1v, sn, iv r2v, jv p2v, sn, rv b109, iv rv118, un, un, un, un, un] [] _
      refine XS.aload X118.here hx rfl (hb hby at_211) rfl rfl ?_
      show oS p e below T118 m 213 #[iv p0, iv p1, iv p2, iv p3, iv 1, rv b80, jv wh, sn, jv 8, sn, iv c1, iv c2, iv r1v, jv p1v, sn, iv r2v, jv p2v, sn, rv b109, iv rv118, un, un, un, un, un] [(.ref b109)] _
      refine XS.bipush X118.here hx rfl (hb hby at_213) ?_
      exact kt)
    clear pre120
    have sk122 := own_skr 8 0 ((8 : Int64) * ((1 : Int32).toInt64)) (0 : Int64) ps118 p1v c1 rv118 r1v (0 : Int32) ed118 (by decide) (by decide) (by decide) (by decide) hm92.1 hm99 Rl118
    obtain ⟨cq123, kq123, q123a, q123b, q123c⟩ := isOf hZ rfl Fq118_0'
    obtain ⟨_, _, ⟨T124, L124, k124, n124⟩, -, X124, ⟨Lc124, hQ124, l124, y124, z124⟩, st124⟩ := X118.virtualBack hx (y := (⟨vB, "peek", "(I)I"⟩ : MethodName)) (z := (⟨vB, "peek", "(I)I"⟩ : MethodName)) hown (mvT hZ (hw _ (List.mem_of_getElem? (i := 27) rfl))) (mvT hZ (hw _ (List.mem_of_getElem? (i := 28) rfl))) (notFace_of_selects (args := #[]) (mvT hZ (hw _ (List.mem_of_getElem? (i := 30) rfl)))) (mvT hZ (hw _ (List.mem_of_getElem? (i := 30) rfl))) (mvT hZ (hw _ (List.mem_of_getElem? (i := 29) rfl))) (by decide) (backOf (W := 0) (rm4p1 l Z av hw [] b109 b80 ((8 : Int64) * ((1 : Int32).toInt64)) ps118 ed118 k80 by0 T118.heap n0 Z118 Fq118_0' gn109 Fq118_1' Fq118_2' Fq118_3' Fq118_4' F119 sk122.2.2.1) hZ (hw _ (List.mem_of_getElem? (i := 31) rfl)) (hw _ (List.mem_of_getElem? (i := 6) rfl)) (by decide) (by decide)) q123a q123c (g := (mkF m 215 #[iv p0, iv p1, iv p2, iv p3, iv 1, rv b80, jv wh, sn, jv 8, sn, iv c1, iv c2, iv r1v, jv p1v, sn, iv r2v, jv p2v, sn, rv b109, iv rv118, un, un, un, un, un] [(.int (32 : Int32)), (.ref b109)])) rfl (by rw [hml]; rfl) (Steps.refl _) (argsL := [(.int (32 : Int32))]) (rest := []) (lenOf pd__I_I rfl) rfl (by show 2 * 0 + _ ≤ _; exact Nat.le_of_eq rfl) (hb hby at_215) (fun _ _ => ⟨rfl, rfl, (by decide : 2 + 0 ≤ _), (by decide : 5 + 0 ≤ _)⟩)
    dsimp only [Pt.U, Pt.locs, Pt.cells, Pt.slots] at X124 l124 y124 z124 st124 hQ124
    rw [l124, y124, z124] at X124
    clear l124 y124 z124
    obtain ⟨rfl, N124q, e124⟩ := hQ124
    have N124 := Fr.app N118 N124q
    have pre125 : ∀ t, oS p e below T124 m 218 #[iv p0, iv p1, iv p2, iv p3, iv 1, rv b80, jv wh, sn, jv 8, sn, iv c1, iv c2, iv r1v, jv p1v, sn, iv r2v, jv p2v, sn, rv b109, iv rv118, un, un, un, un, un] [(.int (Int32.ofInt ((1 * (by0.toInt % 256)) / 2 ^ ps118.toInt.toNat)))] t → oE p e below s₁ m #[(.int p0), (.int p1), (.int p2), (.int p3)] maxLocals t := fun t kt => pre121 t (st124.trans kt)
    clear pre121 st124
    obtain ⟨kv218, hm126, pre126⟩ : ∃ (kv218 : Int32), (kv218 = (Int32.ofInt ((1 * (by0.toInt % 256)) / 2 ^ ps118.toInt.toNat))) ∧ ∀ t, oS p e below T124 m 218 #[iv p0, iv p1, iv p2, iv p3, iv 1, rv b80, jv wh, sn, jv 8, sn, iv c1, iv c2, iv r1v, jv p1v, sn, iv r2v, jv p2v, sn, rv b109, iv rv118, un, un, un, un, un] [(.int kv218)] t → oE p e below s₁ m #[(.int p0), (.int p1), (.int p2), (.int p3)] maxLocals t := ⟨(Int32.ofInt ((1 * (by0.toInt % 256)) / 2 ^ ps118.toInt.toNat)), rfl, pre125⟩
    clear pre125
    have pre127 : ∀ t, oS p e below T124 m 222 #[iv p0, iv p1, iv p2, iv p3, iv 1, rv b80, jv wh, sn, jv 8, sn, iv c1, iv c2, iv r1v, jv p1v, sn, iv r2v, jv p2v, sn, rv b109, iv rv118, iv kv218, un, un, un, un] [(.ref b109)] t → oE p e below s₁ m #[(.int p0), (.int p1), (.int p2), (.int p3)] maxLocals t := fun t kt => pre126 t (by
      show oS p e below T124 m 218 #[iv p0, iv p1, iv p2, iv p3, iv 1, rv b80, jv wh, sn, jv 8, sn, iv c1, iv c2, iv r1v, jv p1v, sn, iv r2v, jv p2v, sn, rv b109, iv rv118, un, un, un, un, un] [(.int kv218)] _
      refine XS.istore X124.here hx rfl (hb hby at_218) rfl (l' := #[iv p0, iv p1, iv p2, iv p3, iv 1, rv b80, jv wh, sn, jv 8, sn, iv c1, iv c2, iv r1v, jv p1v, sn, iv r2v, jv p2v, sn, rv b109, iv rv118, iv kv218, un, un, un, un]) rfl ?_
      show oS p e below T124 m 220 #[iv p0, iv p1, iv p2, iv p3, iv 1, rv b80, jv wh, sn, jv 8, sn, iv c1, iv c2, iv r1v, jv p1v, sn, iv r2v, jv p2v, sn, rv b109, iv rv118, iv kv218, un, un, un, un] [] _
      refine XS.aload X124.here hx rfl (hb hby at_220) rfl rfl ?_
      exact kt)
    clear pre126
    obtain ⟨cq128, kq128, q128a, q128b, q128c⟩ := isOf hZ e124 Fq118_0'
    obtain ⟨_, _, ⟨T129, L129, k129, n129⟩, -, X129, ⟨Lc129, hQ129, l129, y129, z129⟩, st129⟩ := X124.virtualBack hx (y := (⟨vB, "ended", "()Z"⟩ : MethodName)) (z := (⟨vB, "ended", "()Z"⟩ : MethodName)) hown (mvT hZ (hw _ (List.mem_of_getElem? (i := 37) rfl))) (mvT hZ (hw _ (List.mem_of_getElem? (i := 38) rfl))) (notFace_of_selects (args := #[]) (mvT hZ (hw _ (List.mem_of_getElem? (i := 40) rfl)))) (mvT hZ (hw _ (List.mem_of_getElem? (i := 40) rfl))) (mvT hZ (hw _ (List.mem_of_getElem? (i := 39) rfl))) (by decide) (backOf (W := 0) (rm6 l Z av hw [] b109 b80 ((8 : Int64) * ((1 : Int32).toInt64)) ps118 ed118 T118.heap n0 Z118 Fq118_0' gn109 Fq118_1' Fq118_2' Fq118_3' Fq118_4' (own_nar1 r1v ed118 sk122.2.2.2)) hZ (hw _ (List.mem_of_getElem? (i := 41) rfl)) (hw _ (List.mem_of_getElem? (i := 6) rfl)) (by decide) (by decide)) q128a q128c (g := (mkF m 222 #[iv p0, iv p1, iv p2, iv p3, iv 1, rv b80, jv wh, sn, jv 8, sn, iv c1, iv c2, iv r1v, jv p1v, sn, iv r2v, jv p2v, sn, rv b109, iv rv118, iv kv218, un, un, un, un] [(.ref b109)])) rfl (by rw [hml]; rfl) (Steps.refl _) (argsL := []) (rest := []) (lenOf pd___Z rfl) rfl (by show 2 * 0 + _ ≤ _; exact Nat.le_of_eq rfl) (hb hby at_222) (fun _ _ => ⟨rfl, e124, (by decide : 2 + 0 ≤ _), (by decide : 5 + 0 ≤ _)⟩)
    dsimp only [Pt.U, Pt.locs, Pt.cells, Pt.slots] at X129 l129 y129 z129 st129 hQ129
    rw [l129, y129, z129] at X129
    clear l129 y129 z129
    obtain ⟨rfl, N129q, e129⟩ := hQ129
    have N129 := Fr.app N124 N129q
    have pre130 : ∀ t, oS p e below T129 m 225 #[iv p0, iv p1, iv p2, iv p3, iv 1, rv b80, jv wh, sn, jv 8, sn, iv c1, iv c2, iv r1v, jv p1v, sn, iv r2v, jv p2v, sn, rv b109, iv rv118, iv kv218, un, un, un, un] [(.int ed118)] t → oE p e below s₁ m #[(.int p0), (.int p1), (.int p2), (.int p3)] maxLocals t := fun t kt => pre127 t (st129.trans kt)
    clear pre127 st129
    have pre131 : ∀ t, oS p e below T129 m 231 #[iv p0, iv p1, iv p2, iv p3, iv 1, rv b80, jv wh, sn, jv 8, sn, iv c1, iv c2, iv r1v, jv p1v, sn, iv r2v, jv p2v, sn, rv b109, iv rv118, iv kv218, iv ed118, un, un, un] [(.int c2), (.ref b109)] t → oE p e below s₁ m #[(.int p0), (.int p1), (.int p2), (.int p3)] maxLocals t := fun t kt => pre130 t (by
      show oS p e below T129 m 225 #[iv p0, iv p1, iv p2, iv p3, iv 1, rv b80, jv wh, sn, jv 8, sn, iv c1, iv c2, iv r1v, jv p1v, sn, iv r2v, jv p2v, sn, rv b109, iv rv118, iv kv218, un, un, un, un] [(.int ed118)] _
      refine XS.istore X129.here hx rfl (hb hby at_225) rfl (l' := #[iv p0, iv p1, iv p2, iv p3, iv 1, rv b80, jv wh, sn, jv 8, sn, iv c1, iv c2, iv r1v, jv p1v, sn, iv r2v, jv p2v, sn, rv b109, iv rv118, iv kv218, iv ed118, un, un, un]) rfl ?_
      show oS p e below T129 m 227 #[iv p0, iv p1, iv p2, iv p3, iv 1, rv b80, jv wh, sn, jv 8, sn, iv c1, iv c2, iv r1v, jv p1v, sn, iv r2v, jv p2v, sn, rv b109, iv rv118, iv kv218, iv ed118, un, un, un] [] _
      refine XS.aload X129.here hx rfl (hb hby at_227) rfl rfl ?_
      show oS p e below T129 m 229 #[iv p0, iv p1, iv p2, iv p3, iv 1, rv b80, jv wh, sn, jv 8, sn, iv c1, iv c2, iv r1v, jv p1v, sn, iv r2v, jv p2v, sn, rv b109, iv rv118, iv kv218, iv ed118, un, un, un] [(.ref b109)] _
      refine XS.iload X129.here hx rfl (hb hby at_229) rfl ?_
      exact kt)
    clear pre130
    obtain ⟨cq132, kq132, q132a, q132b, q132c⟩ := isOf hZ e129 Fq118_0'
    obtain ⟨_, _, ⟨T133, L133, k133, n133⟩, -, X133, ⟨Lc133, hQ133, l133, y133, z133⟩, st133⟩ := X129.virtualBack hx (y := (⟨vB, "skip", "(I)Z"⟩ : MethodName)) (z := (⟨vB, "skip", "(I)Z"⟩ : MethodName)) hown (mvT hZ (hw _ (List.mem_of_getElem? (i := 18) rfl))) (mvT hZ (hw _ (List.mem_of_getElem? (i := 19) rfl))) (notFace_of_selects (args := #[]) (mvT hZ (hw _ (List.mem_of_getElem? (i := 21) rfl)))) (mvT hZ (hw _ (List.mem_of_getElem? (i := 21) rfl))) (mvT hZ (hw _ (List.mem_of_getElem? (i := 20) rfl))) (by decide) (backOf (W := 0) (rm3 l Z av hw [] b109 c2 b80 ((8 : Int64) * ((1 : Int32).toInt64)) ps118 ed118 T118.heap n0 Z118 Fq118_0' gn109 Fq118_1' Fq118_2' Fq118_3' Fq118_4') hZ (hw _ (List.mem_of_getElem? (i := 22) rfl)) (hw _ (List.mem_of_getElem? (i := 6) rfl)) (by decide) (by decide)) q132a q132c (g := (mkF m 231 #[iv p0, iv p1, iv p2, iv p3, iv 1, rv b80, jv wh, sn, jv 8, sn, iv c1, iv c2, iv r1v, jv p1v, sn, iv r2v, jv p2v, sn, rv b109, iv rv118, iv kv218, iv ed118, un, un, un] [(.int c2), (.ref b109)])) rfl (by rw [hml]; rfl) (Steps.refl _) (argsL := [(.int c2)]) (rest := []) (lenOf pd__I_Z rfl) rfl (by show 2 * 0 + _ ≤ _; exact Nat.le_of_eq rfl) (hb hby at_231) (fun _ _ => ⟨rfl, e129, (by decide : 2 + 0 ≤ _), (by decide : 5 + 0 ≤ _)⟩)
    dsimp only [Pt.U, Pt.locs, Pt.cells, Pt.slots] at X133 l133 y133 z133 st133 hQ133
    rw [l133, y133, z133] at X133
    clear l133 y133 z133
    obtain ⟨rv133, ps133, ed133, rfl, Nz133, Kz133, ⟨Gz0, Gz1, Gz2, Gz3, Gz4⟩, Rl133⟩ := hQ133
    have hQ133 := And.intro (rfl : (0 : Nat) = 0) (And.intro Nz133 (And.intro Kz133 (And.intro Gz0 (And.intro Gz1 (And.intro Gz2 (And.intro Gz3 Gz4))))))
    obtain ⟨-, N133q, Kq133, Fq133_0, Fq133_1, Fq133_2, Fq133_3, Fq133_4⟩ := hQ133
    have N133 := Fr.app N129 N133q
    have F134 : Arv Z T133.heap b80 k80 .byte (1 : Int32) [(.int by0)] (.int (0 : Int32)) := F119.keep Kq133 (ninS ne_b80_b109 nin0)
    have K133 : Keep h0 T133.heap [] := K118.trans Kq133 (allS (Or.inr sz109) all0)
    have Z133 : n0 ≤ T133.heap.size := Nat.le_trans Z118 Kq133.1
    have Fq133_0' : Exa Z T133.heap b109 vB := Fq133_0
    have Fq133_1' : Fld Z T133.heap b109 vB "data" "[B" (.ref b80) := Fq133_1
    have Fq133_2' : Fld Z T133.heap b109 vB "size" "J" (.long ((8 : Int64) * ((1 : Int32).toInt64))) := Fq133_2
    have Fq133_3' : Fld Z T133.heap b109 vB "position" "J" (.long ps133) := Fq133_3
    have Fq133_4' : Fld Z T133.heap b109 vB "ended" "Z" (.int ed133) := Fq133_4
    have pre135 : ∀ t, oS p e below T133 m 234 #[iv p0, iv p1, iv p2, iv p3, iv 1, rv b80, jv wh, sn, jv 8, sn, iv c1, iv c2, iv r1v, jv p1v, sn, iv r2v, jv p2v, sn, rv b109, iv rv118, iv kv218, iv ed118, un, un, un] [(.int rv133)] t → oE p e below s₁ m #[(.int p0), (.int p1), (.int p2), (.int p3)] maxLocals t := fun t kt => pre131 t (st133.trans kt)
    clear pre131 st133
    have pre136 : ∀ t, oS p e below T133 m 240 #[iv p0, iv p1, iv p2, iv p3, iv 1, rv b80, jv wh, sn, jv 8, sn, iv c1, iv c2, iv r1v, jv p1v, sn, iv r2v, jv p2v, sn, rv b109, iv rv118, iv kv218, iv ed118, iv rv133, un, un] [(.int (32 : Int32)), (.ref b109)] t → oE p e below s₁ m #[(.int p0), (.int p1), (.int p2), (.int p3)] maxLocals t := fun t kt => pre135 t (by
      show oS p e below T133 m 234 #[iv p0, iv p1, iv p2, iv p3, iv 1, rv b80, jv wh, sn, jv 8, sn, iv c1, iv c2, iv r1v, jv p1v, sn, iv r2v, jv p2v, sn, rv b109, iv rv118, iv kv218, iv ed118, un, un, un] [(.int rv133)] _
      refine XS.istore X133.here hx rfl (hb hby at_234) rfl (l' := #[iv p0, iv p1, iv p2, iv p3, iv 1, rv b80, jv wh, sn, jv 8, sn, iv c1, iv c2, iv r1v, jv p1v, sn, iv r2v, jv p2v, sn, rv b109, iv rv118, iv kv218, iv ed118, iv rv133, un, un]) rfl ?_
      show oS p e below T133 m 236 #[iv p0, iv p1, iv p2, iv p3, iv 1, rv b80, jv wh, sn, jv 8, sn, iv c1, iv c2, iv r1v, jv p1v, sn, iv r2v, jv p2v, sn, rv b109, iv rv118, iv kv218, iv ed118, iv rv133, un, un] [] _
      refine XS.aload X133.here hx rfl (hb hby at_236) rfl rfl ?_
      show oS p e below T133 m 238 #[iv p0, iv p1, iv p2, iv p3, iv 1, rv b80, jv wh, sn, jv 8, sn, iv c1, iv c2, iv r1v, jv p1v, sn, iv r2v, jv p2v, sn, rv b109, iv rv118, iv kv218, iv ed118, iv rv133, un, un] [(.ref b109)] _
      refine XS.bipush X133.here hx rfl (hb hby at_238) ?_
      exact kt)
    clear pre135
    have sk137 := own_skr 8 p1v.toInt ((8 : Int64) * ((1 : Int32).toInt64)) ps118 ps133 p2v c2 rv133 r2v ed118 ed133 (by decide) (by decide) sk122.2.1 (own_pb 8 r1v c1 p1v (by decide) hm92.1 hm99) hm94 hm104 Rl133
    obtain ⟨cq138, kq138, q138a, q138b, q138c⟩ := isOf hZ rfl Fq133_0'
    obtain ⟨_, _, ⟨T139, L139, k139, n139⟩, -, X139, ⟨Lc139, hQ139, l139, y139, z139⟩, st139⟩ := X133.virtualBack hx (y := (⟨vB, "peek", "(I)I"⟩ : MethodName)) (z := (⟨vB, "peek", "(I)I"⟩ : MethodName)) hown (mvT hZ (hw _ (List.mem_of_getElem? (i := 27) rfl))) (mvT hZ (hw _ (List.mem_of_getElem? (i := 28) rfl))) (notFace_of_selects (args := #[]) (mvT hZ (hw _ (List.mem_of_getElem? (i := 30) rfl)))) (mvT hZ (hw _ (List.mem_of_getElem? (i := 30) rfl))) (mvT hZ (hw _ (List.mem_of_getElem? (i := 29) rfl))) (by decide) (backOf (W := 0) (rm4p1 l Z av hw [] b109 b80 ((8 : Int64) * ((1 : Int32).toInt64)) ps133 ed133 k80 by0 T133.heap n0 Z133 Fq133_0' gn109 Fq133_1' Fq133_2' Fq133_3' Fq133_4' F134 sk137.2.2.1) hZ (hw _ (List.mem_of_getElem? (i := 31) rfl)) (hw _ (List.mem_of_getElem? (i := 6) rfl)) (by decide) (by decide)) q138a q138c (g := (mkF m 240 #[iv p0, iv p1, iv p2, iv p3, iv 1, rv b80, jv wh, sn, jv 8, sn, iv c1, iv c2, iv r1v, jv p1v, sn, iv r2v, jv p2v, sn, rv b109, iv rv118, iv kv218, iv ed118, iv rv133, un, un] [(.int (32 : Int32)), (.ref b109)])) rfl (by rw [hml]; rfl) (Steps.refl _) (argsL := [(.int (32 : Int32))]) (rest := []) (lenOf pd__I_I rfl) rfl (by show 2 * 0 + _ ≤ _; exact Nat.le_of_eq rfl) (hb hby at_240) (fun _ _ => ⟨rfl, rfl, (by decide : 2 + 0 ≤ _), (by decide : 5 + 0 ≤ _)⟩)
    dsimp only [Pt.U, Pt.locs, Pt.cells, Pt.slots] at X139 l139 y139 z139 st139 hQ139
    rw [l139, y139, z139] at X139
    clear l139 y139 z139
    obtain ⟨rfl, N139q, e139⟩ := hQ139
    have N139 := Fr.app N133 N139q
    have pre140 : ∀ t, oS p e below T139 m 243 #[iv p0, iv p1, iv p2, iv p3, iv 1, rv b80, jv wh, sn, jv 8, sn, iv c1, iv c2, iv r1v, jv p1v, sn, iv r2v, jv p2v, sn, rv b109, iv rv118, iv kv218, iv ed118, iv rv133, un, un] [(.int (Int32.ofInt ((1 * (by0.toInt % 256)) / 2 ^ ps133.toInt.toNat)))] t → oE p e below s₁ m #[(.int p0), (.int p1), (.int p2), (.int p3)] maxLocals t := fun t kt => pre136 t (st139.trans kt)
    clear pre136 st139
    obtain ⟨kv243, hm141, pre141⟩ : ∃ (kv243 : Int32), (kv243 = (Int32.ofInt ((1 * (by0.toInt % 256)) / 2 ^ ps133.toInt.toNat))) ∧ ∀ t, oS p e below T139 m 243 #[iv p0, iv p1, iv p2, iv p3, iv 1, rv b80, jv wh, sn, jv 8, sn, iv c1, iv c2, iv r1v, jv p1v, sn, iv r2v, jv p2v, sn, rv b109, iv rv118, iv kv218, iv ed118, iv rv133, un, un] [(.int kv243)] t → oE p e below s₁ m #[(.int p0), (.int p1), (.int p2), (.int p3)] maxLocals t := ⟨(Int32.ofInt ((1 * (by0.toInt % 256)) / 2 ^ ps133.toInt.toNat)), rfl, pre140⟩
    clear pre140
    have pre142 : ∀ t, oS p e below T139 m 247 #[iv p0, iv p1, iv p2, iv p3, iv 1, rv b80, jv wh, sn, jv 8, sn, iv c1, iv c2, iv r1v, jv p1v, sn, iv r2v, jv p2v, sn, rv b109, iv rv118, iv kv218, iv ed118, iv rv133, iv kv243, un] [(.ref b109)] t → oE p e below s₁ m #[(.int p0), (.int p1), (.int p2), (.int p3)] maxLocals t := fun t kt => pre141 t (by
      show oS p e below T139 m 243 #[iv p0, iv p1, iv p2, iv p3, iv 1, rv b80, jv wh, sn, jv 8, sn, iv c1, iv c2, iv r1v, jv p1v, sn, iv r2v, jv p2v, sn, rv b109, iv rv118, iv kv218, iv ed118, iv rv133, un, un] [(.int kv243)] _
      refine XS.istore X139.here hx rfl (hb hby at_243) rfl (l' := #[iv p0, iv p1, iv p2, iv p3, iv 1, rv b80, jv wh, sn, jv 8, sn, iv c1, iv c2, iv r1v, jv p1v, sn, iv r2v, jv p2v, sn, rv b109, iv rv118, iv kv218, iv ed118, iv rv133, iv kv243, un]) rfl ?_
      show oS p e below T139 m 245 #[iv p0, iv p1, iv p2, iv p3, iv 1, rv b80, jv wh, sn, jv 8, sn, iv c1, iv c2, iv r1v, jv p1v, sn, iv r2v, jv p2v, sn, rv b109, iv rv118, iv kv218, iv ed118, iv rv133, iv kv243, un] [] _
      refine XS.aload X139.here hx rfl (hb hby at_245) rfl rfl ?_
      exact kt)
    clear pre141
    obtain ⟨cq143, kq143, q143a, q143b, q143c⟩ := isOf hZ e139 Fq133_0'
    obtain ⟨_, _, ⟨T144, L144, k144, n144⟩, -, X144, ⟨Lc144, hQ144, l144, y144, z144⟩, st144⟩ := X139.virtualBack hx (y := (⟨vB, "ended", "()Z"⟩ : MethodName)) (z := (⟨vB, "ended", "()Z"⟩ : MethodName)) hown (mvT hZ (hw _ (List.mem_of_getElem? (i := 37) rfl))) (mvT hZ (hw _ (List.mem_of_getElem? (i := 38) rfl))) (notFace_of_selects (args := #[]) (mvT hZ (hw _ (List.mem_of_getElem? (i := 40) rfl)))) (mvT hZ (hw _ (List.mem_of_getElem? (i := 40) rfl))) (mvT hZ (hw _ (List.mem_of_getElem? (i := 39) rfl))) (by decide) (backOf (W := 0) (rm6 l Z av hw [] b109 b80 ((8 : Int64) * ((1 : Int32).toInt64)) ps133 ed133 T133.heap n0 Z133 Fq133_0' gn109 Fq133_1' Fq133_2' Fq133_3' Fq133_4' (own_nar2 r1v ed118 r2v ed133 sk122.2.2.2 sk137.2.2.2)) hZ (hw _ (List.mem_of_getElem? (i := 41) rfl)) (hw _ (List.mem_of_getElem? (i := 6) rfl)) (by decide) (by decide)) q143a q143c (g := (mkF m 247 #[iv p0, iv p1, iv p2, iv p3, iv 1, rv b80, jv wh, sn, jv 8, sn, iv c1, iv c2, iv r1v, jv p1v, sn, iv r2v, jv p2v, sn, rv b109, iv rv118, iv kv218, iv ed118, iv rv133, iv kv243, un] [(.ref b109)])) rfl (by rw [hml]; rfl) (Steps.refl _) (argsL := []) (rest := []) (lenOf pd___Z rfl) rfl (by show 2 * 0 + _ ≤ _; exact Nat.le_of_eq rfl) (hb hby at_247) (fun _ _ => ⟨rfl, e139, (by decide : 2 + 0 ≤ _), (by decide : 5 + 0 ≤ _)⟩)
    dsimp only [Pt.U, Pt.locs, Pt.cells, Pt.slots] at X144 l144 y144 z144 st144 hQ144
    rw [l144, y144, z144] at X144
    clear l144 y144 z144
    obtain ⟨rfl, N144q, e144⟩ := hQ144
    have N144 := Fr.app N139 N144q
    have pre145 : ∀ t, oS p e below T144 m 250 #[iv p0, iv p1, iv p2, iv p3, iv 1, rv b80, jv wh, sn, jv 8, sn, iv c1, iv c2, iv r1v, jv p1v, sn, iv r2v, jv p2v, sn, rv b109, iv rv118, iv kv218, iv ed118, iv rv133, iv kv243, un] [(.int ed133)] t → oE p e below s₁ m #[(.int p0), (.int p1), (.int p2), (.int p3)] maxLocals t := fun t kt => pre142 t (st144.trans kt)
    clear pre142 st144
    have pre146 : ∀ t, oS p e below T144 m 275 #[iv p0, iv p1, iv p2, iv p3, iv 1, rv b80, jv wh, sn, jv 8, sn, iv c1, iv c2, iv r1v, jv p1v, sn, iv r2v, jv p2v, sn, rv b109, iv rv118, iv kv218, iv ed118, iv rv133, iv kv243, iv ed133] [(.int r1v), (.int ed118)] t → oE p e below s₁ m #[(.int p0), (.int p1), (.int p2), (.int p3)] maxLocals t := fun t kt => pre145 t (by
      show oS p e below T144 m 250 #[iv p0, iv p1, iv p2, iv p3, iv 1, rv b80, jv wh, sn, jv 8, sn, iv c1, iv c2, iv r1v, jv p1v, sn, iv r2v, jv p2v, sn, rv b109, iv rv118, iv kv218, iv ed118, iv rv133, iv kv243, un] [(.int ed133)] _
      refine XS.istore X144.here hx rfl (hb hby at_250) rfl (l' := #[iv p0, iv p1, iv p2, iv p3, iv 1, rv b80, jv wh, sn, jv 8, sn, iv c1, iv c2, iv r1v, jv p1v, sn, iv r2v, jv p2v, sn, rv b109, iv rv118, iv kv218, iv ed118, iv rv133, iv kv243, iv ed133]) rfl ?_
      show oS p e below T144 m 252 #[iv p0, iv p1, iv p2, iv p3, iv 1, rv b80, jv wh, sn, jv 8, sn, iv c1, iv c2, iv r1v, jv p1v, sn, iv r2v, jv p2v, sn, rv b109, iv rv118, iv kv218, iv ed118, iv rv133, iv kv243, iv ed133] [] _
      refine XS.iload X144.here hx rfl (hb hby at_252) rfl ?_
      show oS p e below T144 m 254 #[iv p0, iv p1, iv p2, iv p3, iv 1, rv b80, jv wh, sn, jv 8, sn, iv c1, iv c2, iv r1v, jv p1v, sn, iv r2v, jv p2v, sn, rv b109, iv rv118, iv kv218, iv ed118, iv rv133, iv kv243, iv ed133] [(.int rv118)] _
      refine XS.iload X144.here hx rfl (hb hby at_254) rfl ?_
      show oS p e below T144 m 256 #[iv p0, iv p1, iv p2, iv p3, iv 1, rv b80, jv wh, sn, jv 8, sn, iv c1, iv c2, iv r1v, jv p1v, sn, iv r2v, jv p2v, sn, rv b109, iv rv118, iv kv218, iv ed118, iv rv133, iv kv243, iv ed133] [(.int r1v), (.int rv118)] _
      refine XS.icmpNo X144.here hx rfl (hb hby at_256) rfl (teq sk122.1).2 ?_
      show oS p e below T144 m 259 #[iv p0, iv p1, iv p2, iv p3, iv 1, rv b80, jv wh, sn, jv 8, sn, iv c1, iv c2, iv r1v, jv p1v, sn, iv r2v, jv p2v, sn, rv b109, iv rv118, iv kv218, iv ed118, iv rv133, iv kv243, iv ed133] [] _
      refine XS.iload X144.here hx rfl (hb hby at_259) rfl ?_
      show oS p e below T144 m 261 #[iv p0, iv p1, iv p2, iv p3, iv 1, rv b80, jv wh, sn, jv 8, sn, iv c1, iv c2, iv r1v, jv p1v, sn, iv r2v, jv p2v, sn, rv b109, iv rv118, iv kv218, iv ed118, iv rv133, iv kv243, iv ed133] [(.int kv218)] _
      refine XS.lload X144.here hx rfl (hb hby at_261) rfl ?_
      show oS p e below T144 m 263 #[iv p0, iv p1, iv p2, iv p3, iv 1, rv b80, jv wh, sn, jv 8, sn, iv c1, iv c2, iv r1v, jv p1v, sn, iv r2v, jv p2v, sn, rv b109, iv rv118, iv kv218, iv ed118, iv rv133, iv kv243, iv ed133] [(.long wh), (.int kv218)] _
      refine XS.lload X144.here hx rfl (hb hby at_263) rfl ?_
      show oS p e below T144 m 265 #[iv p0, iv p1, iv p2, iv p3, iv 1, rv b80, jv wh, sn, jv 8, sn, iv c1, iv c2, iv r1v, jv p1v, sn, iv r2v, jv p2v, sn, rv b109, iv rv118, iv kv218, iv ed118, iv rv133, iv kv243, iv ed133] [(.long p1v), (.long wh), (.int kv218)] _
      refine XS.l2i X144.here hx rfl (hb hby at_265) rfl ?_
      show oS p e below T144 m 266 #[iv p0, iv p1, iv p2, iv p3, iv 1, rv b80, jv wh, sn, jv 8, sn, iv c1, iv c2, iv r1v, jv p1v, sn, iv r2v, jv p2v, sn, rv b109, iv rv118, iv kv218, iv ed118, iv rv133, iv kv243, iv ed133] [(.int (p1v.toInt32)), (.long wh), (.int kv218)] _
      refine XS.lushr X144.here hx rfl (hb hby at_266) rfl ?_
      show oS p e below T144 m 267 #[iv p0, iv p1, iv p2, iv p3, iv 1, rv b80, jv wh, sn, jv 8, sn, iv c1, iv c2, iv r1v, jv p1v, sn, iv r2v, jv p2v, sn, rv b109, iv rv118, iv kv218, iv ed118, iv rv133, iv kv243, iv ed133] [(.long ((wh.toUInt64 >>> ((p1v.toInt32) &&& 0x3f).toInt64.toUInt64).toInt64)), (.int kv218)] _
      refine XS.l2i X144.here hx rfl (hb hby at_267) rfl ?_
      show oS p e below T144 m 268 #[iv p0, iv p1, iv p2, iv p3, iv 1, rv b80, jv wh, sn, jv 8, sn, iv c1, iv c2, iv r1v, jv p1v, sn, iv r2v, jv p2v, sn, rv b109, iv rv118, iv kv218, iv ed118, iv rv133, iv kv243, iv ed133] [(.int (((wh.toUInt64 >>> ((p1v.toInt32) &&& 0x3f).toInt64.toUInt64).toInt64).toInt32)), (.int kv218)] _
      refine XS.icmpNo X144.here hx rfl (hb hby at_268) rfl (teq (hm126.trans (own_cmp wh p1v ps118 (1 * (by0.toInt % 256)) hm88 (by omega) sk122.2.1 (own_pb 8 r1v c1 p1v (by decide) hm92.1 hm99).1 (Int.le_trans (own_pb 8 r1v c1 p1v (by decide) hm92.1 hm99).2 (by decide))))).2 ?_
      show oS p e below T144 m 271 #[iv p0, iv p1, iv p2, iv p3, iv 1, rv b80, jv wh, sn, jv 8, sn, iv c1, iv c2, iv r1v, jv p1v, sn, iv r2v, jv p2v, sn, rv b109, iv rv118, iv kv218, iv ed118, iv rv133, iv kv243, iv ed133] [] _
      refine XS.iload X144.here hx rfl (hb hby at_271) rfl ?_
      show oS p e below T144 m 273 #[iv p0, iv p1, iv p2, iv p3, iv 1, rv b80, jv wh, sn, jv 8, sn, iv c1, iv c2, iv r1v, jv p1v, sn, iv r2v, jv p2v, sn, rv b109, iv rv118, iv kv218, iv ed118, iv rv133, iv kv243, iv ed133] [(.int ed118)] _
      refine XS.iload X144.here hx rfl (hb hby at_273) rfl ?_
      exact kt)
    clear pre145
    have pre147 : ∀ t, oS p e below T144 m 283 #[iv p0, iv p1, iv p2, iv p3, iv 1, rv b80, jv wh, sn, jv 8, sn, iv c1, iv c2, iv r1v, jv p1v, sn, iv r2v, jv p2v, sn, rv b109, iv rv118, iv kv218, iv ed118, iv rv133, iv kv243, iv ed133] [(.int (if r1v = (0 : Int32) then (1 : Int32) else (0 : Int32))), (.int ed118)] t → oE p e below s₁ m #[(.int p0), (.int p1), (.int p2), (.int p3)] maxLocals t := by
      by_cases hc275_148 : r1v = (0 : Int32)
      · have pre149 : ∀ t, oS p e below T144 m 283 #[iv p0, iv p1, iv p2, iv p3, iv 1, rv b80, jv wh, sn, jv 8, sn, iv c1, iv c2, iv r1v, jv p1v, sn, iv r2v, jv p2v, sn, rv b109, iv rv118, iv kv218, iv ed118, iv rv133, iv kv243, iv ed133] [(.int (1 : Int32)), (.int ed118)] t → oE p e below s₁ m #[(.int p0), (.int p1), (.int p2), (.int p3)] maxLocals t := fun t kt => pre146 t (by
          show oS p e below T144 m 275 #[iv p0, iv p1, iv p2, iv p3, iv 1, rv b80, jv wh, sn, jv 8, sn, iv c1, iv c2, iv r1v, jv p1v, sn, iv r2v, jv p2v, sn, rv b109, iv rv118, iv kv218, iv ed118, iv rv133, iv kv243, iv ed133] [(.int r1v), (.int ed118)] _
          refine XS.ifNo X144.here hx rfl (hb hby at_275) rfl ((if0 _ _).trans (teq hc275_148).2) ?_
          show oS p e below T144 m 278 #[iv p0, iv p1, iv p2, iv p3, iv 1, rv b80, jv wh, sn, jv 8, sn, iv c1, iv c2, iv r1v, jv p1v, sn, iv r2v, jv p2v, sn, rv b109, iv rv118, iv kv218, iv ed118, iv rv133, iv kv243, iv ed133] [(.int ed118)] _
          refine XS.iconst X144.here hx rfl (hb hby at_278) ?_
          show oS p e below T144 m 279 #[iv p0, iv p1, iv p2, iv p3, iv 1, rv b80, jv wh, sn, jv 8, sn, iv c1, iv c2, iv r1v, jv p1v, sn, iv r2v, jv p2v, sn, rv b109, iv rv118, iv kv218, iv ed118, iv rv133, iv kv243, iv ed133] [(.int (1 : Int32)), (.int ed118)] _
          refine XS.goto X144.here hx rfl (pc0 := 279) (pc' := 283) rfl (hb hby at_279) (by decide) (by decide) ?_
          exact kt)
        clear pre146
        have hvx : (1 : Int32) = (if r1v = (0 : Int32) then (1 : Int32) else (0 : Int32)) := (by rw [if_pos hc275_148])
        rw [← hvx]
        exact pre149
      · have pre150 : ∀ t, oS p e below T144 m 283 #[iv p0, iv p1, iv p2, iv p3, iv 1, rv b80, jv wh, sn, jv 8, sn, iv c1, iv c2, iv r1v, jv p1v, sn, iv r2v, jv p2v, sn, rv b109, iv rv118, iv kv218, iv ed118, iv rv133, iv kv243, iv ed133] [(.int (0 : Int32)), (.int ed118)] t → oE p e below s₁ m #[(.int p0), (.int p1), (.int p2), (.int p3)] maxLocals t := fun t kt => pre146 t (by
          show oS p e below T144 m 275 #[iv p0, iv p1, iv p2, iv p3, iv 1, rv b80, jv wh, sn, jv 8, sn, iv c1, iv c2, iv r1v, jv p1v, sn, iv r2v, jv p2v, sn, rv b109, iv rv118, iv kv218, iv ed118, iv rv133, iv kv243, iv ed133] [(.int r1v), (.int ed118)] _
          refine XS.ifYes X144.here hx rfl (pc0 := 275) (pc' := 282) rfl (hb hby at_275) rfl ((if0 _ _).trans (feq hc275_148).2) (by decide) (by decide) ?_
          show oS p e below T144 m 282 #[iv p0, iv p1, iv p2, iv p3, iv 1, rv b80, jv wh, sn, jv 8, sn, iv c1, iv c2, iv r1v, jv p1v, sn, iv r2v, jv p2v, sn, rv b109, iv rv118, iv kv218, iv ed118, iv rv133, iv kv243, iv ed133] [(.int ed118)] _
          refine XS.iconst X144.here hx rfl (hb hby at_282) ?_
          exact kt)
        clear pre146
        have hvx : (0 : Int32) = (if r1v = (0 : Int32) then (1 : Int32) else (0 : Int32)) := (by rw [if_neg hc275_148])
        rw [← hvx]
        exact pre150
    clear pre146
    have pre151 : ∀ t, oS p e below T144 m 309 #[iv p0, iv p1, iv p2, iv p3, iv 1, rv b80, jv wh, sn, jv 8, sn, iv c1, iv c2, iv r1v, jv p1v, sn, iv r2v, jv p2v, sn, rv b109, iv rv118, iv kv218, iv ed118, iv rv133, iv kv243, iv ed133] [(.int r1v), (.int ed133)] t → oE p e below s₁ m #[(.int p0), (.int p1), (.int p2), (.int p3)] maxLocals t := fun t kt => pre147 t (by
      show oS p e below T144 m 283 #[iv p0, iv p1, iv p2, iv p3, iv 1, rv b80, jv wh, sn, jv 8, sn, iv c1, iv c2, iv r1v, jv p1v, sn, iv r2v, jv p2v, sn, rv b109, iv rv118, iv kv218, iv ed118, iv rv133, iv kv243, iv ed133] [(.int (if r1v = (0 : Int32) then (1 : Int32) else (0 : Int32))), (.int ed118)] _
      refine XS.icmpNo X144.here hx rfl (hb hby at_283) rfl (teq (own_e1 r1v ed118 sk122.2.2.2)).2 ?_
      show oS p e below T144 m 286 #[iv p0, iv p1, iv p2, iv p3, iv 1, rv b80, jv wh, sn, jv 8, sn, iv c1, iv c2, iv r1v, jv p1v, sn, iv r2v, jv p2v, sn, rv b109, iv rv118, iv kv218, iv ed118, iv rv133, iv kv243, iv ed133] [] _
      refine XS.iload X144.here hx rfl (hb hby at_286) rfl ?_
      show oS p e below T144 m 288 #[iv p0, iv p1, iv p2, iv p3, iv 1, rv b80, jv wh, sn, jv 8, sn, iv c1, iv c2, iv r1v, jv p1v, sn, iv r2v, jv p2v, sn, rv b109, iv rv118, iv kv218, iv ed118, iv rv133, iv kv243, iv ed133] [(.int rv133)] _
      refine XS.iload X144.here hx rfl (hb hby at_288) rfl ?_
      show oS p e below T144 m 290 #[iv p0, iv p1, iv p2, iv p3, iv 1, rv b80, jv wh, sn, jv 8, sn, iv c1, iv c2, iv r1v, jv p1v, sn, iv r2v, jv p2v, sn, rv b109, iv rv118, iv kv218, iv ed118, iv rv133, iv kv243, iv ed133] [(.int r2v), (.int rv133)] _
      refine XS.icmpNo X144.here hx rfl (hb hby at_290) rfl (teq sk137.1).2 ?_
      show oS p e below T144 m 293 #[iv p0, iv p1, iv p2, iv p3, iv 1, rv b80, jv wh, sn, jv 8, sn, iv c1, iv c2, iv r1v, jv p1v, sn, iv r2v, jv p2v, sn, rv b109, iv rv118, iv kv218, iv ed118, iv rv133, iv kv243, iv ed133] [] _
      refine XS.iload X144.here hx rfl (hb hby at_293) rfl ?_
      show oS p e below T144 m 295 #[iv p0, iv p1, iv p2, iv p3, iv 1, rv b80, jv wh, sn, jv 8, sn, iv c1, iv c2, iv r1v, jv p1v, sn, iv r2v, jv p2v, sn, rv b109, iv rv118, iv kv218, iv ed118, iv rv133, iv kv243, iv ed133] [(.int kv243)] _
      refine XS.lload X144.here hx rfl (hb hby at_295) rfl ?_
      show oS p e below T144 m 297 #[iv p0, iv p1, iv p2, iv p3, iv 1, rv b80, jv wh, sn, jv 8, sn, iv c1, iv c2, iv r1v, jv p1v, sn, iv r2v, jv p2v, sn, rv b109, iv rv118, iv kv218, iv ed118, iv rv133, iv kv243, iv ed133] [(.long wh), (.int kv243)] _
      refine XS.lload X144.here hx rfl (hb hby at_297) rfl ?_
      show oS p e below T144 m 299 #[iv p0, iv p1, iv p2, iv p3, iv 1, rv b80, jv wh, sn, jv 8, sn, iv c1, iv c2, iv r1v, jv p1v, sn, iv r2v, jv p2v, sn, rv b109, iv rv118, iv kv218, iv ed118, iv rv133, iv kv243, iv ed133] [(.long p2v), (.long wh), (.int kv243)] _
      refine XS.l2i X144.here hx rfl (hb hby at_299) rfl ?_
      show oS p e below T144 m 300 #[iv p0, iv p1, iv p2, iv p3, iv 1, rv b80, jv wh, sn, jv 8, sn, iv c1, iv c2, iv r1v, jv p1v, sn, iv r2v, jv p2v, sn, rv b109, iv rv118, iv kv218, iv ed118, iv rv133, iv kv243, iv ed133] [(.int (p2v.toInt32)), (.long wh), (.int kv243)] _
      refine XS.lushr X144.here hx rfl (hb hby at_300) rfl ?_
      show oS p e below T144 m 301 #[iv p0, iv p1, iv p2, iv p3, iv 1, rv b80, jv wh, sn, jv 8, sn, iv c1, iv c2, iv r1v, jv p1v, sn, iv r2v, jv p2v, sn, rv b109, iv rv118, iv kv218, iv ed118, iv rv133, iv kv243, iv ed133] [(.long ((wh.toUInt64 >>> ((p2v.toInt32) &&& 0x3f).toInt64.toUInt64).toInt64)), (.int kv243)] _
      refine XS.l2i X144.here hx rfl (hb hby at_301) rfl ?_
      show oS p e below T144 m 302 #[iv p0, iv p1, iv p2, iv p3, iv 1, rv b80, jv wh, sn, jv 8, sn, iv c1, iv c2, iv r1v, jv p1v, sn, iv r2v, jv p2v, sn, rv b109, iv rv118, iv kv218, iv ed118, iv rv133, iv kv243, iv ed133] [(.int (((wh.toUInt64 >>> ((p2v.toInt32) &&& 0x3f).toInt64.toUInt64).toInt64).toInt32)), (.int kv243)] _
      refine XS.icmpNo X144.here hx rfl (hb hby at_302) rfl (teq (hm141.trans (own_cmp wh p2v ps133 (1 * (by0.toInt % 256)) hm88 (by omega) sk137.2.1 (by rw [← sk137.2.1]; exact sk137.2.2.1.1) (by rw [← sk137.2.1]; exact Int.le_trans sk137.2.2.1.2 (by decide))))).2 ?_
      show oS p e below T144 m 305 #[iv p0, iv p1, iv p2, iv p3, iv 1, rv b80, jv wh, sn, jv 8, sn, iv c1, iv c2, iv r1v, jv p1v, sn, iv r2v, jv p2v, sn, rv b109, iv rv118, iv kv218, iv ed118, iv rv133, iv kv243, iv ed133] [] _
      refine XS.iload X144.here hx rfl (hb hby at_305) rfl ?_
      show oS p e below T144 m 307 #[iv p0, iv p1, iv p2, iv p3, iv 1, rv b80, jv wh, sn, jv 8, sn, iv c1, iv c2, iv r1v, jv p1v, sn, iv r2v, jv p2v, sn, rv b109, iv rv118, iv kv218, iv ed118, iv rv133, iv kv243, iv ed133] [(.int ed133)] _
      refine XS.iload X144.here hx rfl (hb hby at_307) rfl ?_
      exact kt)
    clear pre147
    have pre152 : ∀ t, oS p e below T144 m 322 #[iv p0, iv p1, iv p2, iv p3, iv 1, rv b80, jv wh, sn, jv 8, sn, iv c1, iv c2, iv r1v, jv p1v, sn, iv r2v, jv p2v, sn, rv b109, iv rv118, iv kv218, iv ed118, iv rv133, iv kv243, iv ed133] [(.int (if r1v = (0 : Int32) then (1 : Int32) else if r2v = (0 : Int32) then (1 : Int32) else (0 : Int32))), (.int ed133)] t → oE p e below s₁ m #[(.int p0), (.int p1), (.int p2), (.int p3)] maxLocals t := by
      by_cases hc309_153 : r1v = (0 : Int32)
      · have pre154 : ∀ t, oS p e below T144 m 322 #[iv p0, iv p1, iv p2, iv p3, iv 1, rv b80, jv wh, sn, jv 8, sn, iv c1, iv c2, iv r1v, jv p1v, sn, iv r2v, jv p2v, sn, rv b109, iv rv118, iv kv218, iv ed118, iv rv133, iv kv243, iv ed133] [(.int (1 : Int32)), (.int ed133)] t → oE p e below s₁ m #[(.int p0), (.int p1), (.int p2), (.int p3)] maxLocals t := fun t kt => pre151 t (by
          show oS p e below T144 m 309 #[iv p0, iv p1, iv p2, iv p3, iv 1, rv b80, jv wh, sn, jv 8, sn, iv c1, iv c2, iv r1v, jv p1v, sn, iv r2v, jv p2v, sn, rv b109, iv rv118, iv kv218, iv ed118, iv rv133, iv kv243, iv ed133] [(.int r1v), (.int ed133)] _
          refine XS.ifYes X144.here hx rfl (pc0 := 309) (pc' := 317) rfl (hb hby at_309) rfl ((if0 _ _).trans (teq hc309_153).1) (by decide) (by decide) ?_
          show oS p e below T144 m 317 #[iv p0, iv p1, iv p2, iv p3, iv 1, rv b80, jv wh, sn, jv 8, sn, iv c1, iv c2, iv r1v, jv p1v, sn, iv r2v, jv p2v, sn, rv b109, iv rv118, iv kv218, iv ed118, iv rv133, iv kv243, iv ed133] [(.int ed133)] _
          refine XS.iconst X144.here hx rfl (hb hby at_317) ?_
          show oS p e below T144 m 318 #[iv p0, iv p1, iv p2, iv p3, iv 1, rv b80, jv wh, sn, jv 8, sn, iv c1, iv c2, iv r1v, jv p1v, sn, iv r2v, jv p2v, sn, rv b109, iv rv118, iv kv218, iv ed118, iv rv133, iv kv243, iv ed133] [(.int (1 : Int32)), (.int ed133)] _
          refine XS.goto X144.here hx rfl (pc0 := 318) (pc' := 322) rfl (hb hby at_318) (by decide) (by decide) ?_
          exact kt)
        clear pre151
        have hvx : (1 : Int32) = (if r1v = (0 : Int32) then (1 : Int32) else if r2v = (0 : Int32) then (1 : Int32) else (0 : Int32)) := (by rw [if_pos hc309_153])
        rw [← hvx]
        exact pre154
      · have pre155 : ∀ t, oS p e below T144 m 314 #[iv p0, iv p1, iv p2, iv p3, iv 1, rv b80, jv wh, sn, jv 8, sn, iv c1, iv c2, iv r1v, jv p1v, sn, iv r2v, jv p2v, sn, rv b109, iv rv118, iv kv218, iv ed118, iv rv133, iv kv243, iv ed133] [(.int r2v), (.int ed133)] t → oE p e below s₁ m #[(.int p0), (.int p1), (.int p2), (.int p3)] maxLocals t := fun t kt => pre151 t (by
          show oS p e below T144 m 309 #[iv p0, iv p1, iv p2, iv p3, iv 1, rv b80, jv wh, sn, jv 8, sn, iv c1, iv c2, iv r1v, jv p1v, sn, iv r2v, jv p2v, sn, rv b109, iv rv118, iv kv218, iv ed118, iv rv133, iv kv243, iv ed133] [(.int r1v), (.int ed133)] _
          refine XS.ifNo X144.here hx rfl (hb hby at_309) rfl ((if0 _ _).trans (feq hc309_153).1) ?_
          show oS p e below T144 m 312 #[iv p0, iv p1, iv p2, iv p3, iv 1, rv b80, jv wh, sn, jv 8, sn, iv c1, iv c2, iv r1v, jv p1v, sn, iv r2v, jv p2v, sn, rv b109, iv rv118, iv kv218, iv ed118, iv rv133, iv kv243, iv ed133] [(.int ed133)] _
          refine XS.iload X144.here hx rfl (hb hby at_312) rfl ?_
          exact kt)
        clear pre151
        by_cases hc314_156 : r2v = (0 : Int32)
        · have pre157 : ∀ t, oS p e below T144 m 322 #[iv p0, iv p1, iv p2, iv p3, iv 1, rv b80, jv wh, sn, jv 8, sn, iv c1, iv c2, iv r1v, jv p1v, sn, iv r2v, jv p2v, sn, rv b109, iv rv118, iv kv218, iv ed118, iv rv133, iv kv243, iv ed133] [(.int (1 : Int32)), (.int ed133)] t → oE p e below s₁ m #[(.int p0), (.int p1), (.int p2), (.int p3)] maxLocals t := fun t kt => pre155 t (by
            show oS p e below T144 m 314 #[iv p0, iv p1, iv p2, iv p3, iv 1, rv b80, jv wh, sn, jv 8, sn, iv c1, iv c2, iv r1v, jv p1v, sn, iv r2v, jv p2v, sn, rv b109, iv rv118, iv kv218, iv ed118, iv rv133, iv kv243, iv ed133] [(.int r2v), (.int ed133)] _
            refine XS.ifNo X144.here hx rfl (hb hby at_314) rfl ((if0 _ _).trans (teq hc314_156).2) ?_
            show oS p e below T144 m 317 #[iv p0, iv p1, iv p2, iv p3, iv 1, rv b80, jv wh, sn, jv 8, sn, iv c1, iv c2, iv r1v, jv p1v, sn, iv r2v, jv p2v, sn, rv b109, iv rv118, iv kv218, iv ed118, iv rv133, iv kv243, iv ed133] [(.int ed133)] _
            refine XS.iconst X144.here hx rfl (hb hby at_317) ?_
            show oS p e below T144 m 318 #[iv p0, iv p1, iv p2, iv p3, iv 1, rv b80, jv wh, sn, jv 8, sn, iv c1, iv c2, iv r1v, jv p1v, sn, iv r2v, jv p2v, sn, rv b109, iv rv118, iv kv218, iv ed118, iv rv133, iv kv243, iv ed133] [(.int (1 : Int32)), (.int ed133)] _
            refine XS.goto X144.here hx rfl (pc0 := 318) (pc' := 322) rfl (hb hby at_318) (by decide) (by decide) ?_
            exact kt)
          clear pre155
          have hvx : (1 : Int32) = (if r1v = (0 : Int32) then (1 : Int32) else if r2v = (0 : Int32) then (1 : Int32) else (0 : Int32)) := (by rw [if_neg hc309_153, if_pos hc314_156])
          rw [← hvx]
          exact pre157
        · have pre158 : ∀ t, oS p e below T144 m 322 #[iv p0, iv p1, iv p2, iv p3, iv 1, rv b80, jv wh, sn, jv 8, sn, iv c1, iv c2, iv r1v, jv p1v, sn, iv r2v, jv p2v, sn, rv b109, iv rv118, iv kv218, iv ed118, iv rv133, iv kv243, iv ed133] [(.int (0 : Int32)), (.int ed133)] t → oE p e below s₁ m #[(.int p0), (.int p1), (.int p2), (.int p3)] maxLocals t := fun t kt => pre155 t (by
            show oS p e below T144 m 314 #[iv p0, iv p1, iv p2, iv p3, iv 1, rv b80, jv wh, sn, jv 8, sn, iv c1, iv c2, iv r1v, jv p1v, sn, iv r2v, jv p2v, sn, rv b109, iv rv118, iv kv218, iv ed118, iv rv133, iv kv243, iv ed133] [(.int r2v), (.int ed133)] _
            refine XS.ifYes X144.here hx rfl (pc0 := 314) (pc' := 321) rfl (hb hby at_314) rfl ((if0 _ _).trans (feq hc314_156).2) (by decide) (by decide) ?_
            show oS p e below T144 m 321 #[iv p0, iv p1, iv p2, iv p3, iv 1, rv b80, jv wh, sn, jv 8, sn, iv c1, iv c2, iv r1v, jv p1v, sn, iv r2v, jv p2v, sn, rv b109, iv rv118, iv kv218, iv ed118, iv rv133, iv kv243, iv ed133] [(.int ed133)] _
            refine XS.iconst X144.here hx rfl (hb hby at_321) ?_
            exact kt)
          clear pre155
          have hvx : (0 : Int32) = (if r1v = (0 : Int32) then (1 : Int32) else if r2v = (0 : Int32) then (1 : Int32) else (0 : Int32)) := (by rw [if_neg hc309_153, if_neg hc314_156])
          rw [← hvx]
          exact pre158
    clear pre151
    have pre159 : ∀ t, oS p e below T144 m 330 #[iv p0, iv p1, iv p2, iv p3, iv 1, rv b80, jv wh, sn, jv 8, sn, iv c1, iv c2, iv r1v, jv p1v, sn, iv r2v, jv p2v, sn, rv b109, iv rv118, iv kv218, iv ed118, iv rv133, iv kv243, iv ed133] [(.int (1 : Int32))] t → oE p e below s₁ m #[(.int p0), (.int p1), (.int p2), (.int p3)] maxLocals t := fun t kt => pre152 t (by
      show oS p e below T144 m 322 #[iv p0, iv p1, iv p2, iv p3, iv 1, rv b80, jv wh, sn, jv 8, sn, iv c1, iv c2, iv r1v, jv p1v, sn, iv r2v, jv p2v, sn, rv b109, iv rv118, iv kv218, iv ed118, iv rv133, iv kv243, iv ed133] [(.int (if r1v = (0 : Int32) then (1 : Int32) else if r2v = (0 : Int32) then (1 : Int32) else (0 : Int32))), (.int ed133)] _
      refine XS.icmpNo X144.here hx rfl (hb hby at_322) rfl (teq (own_e2 r1v ed118 r2v ed133 sk122.2.2.2 sk137.2.2.2)).2 ?_
      show oS p e below T144 m 325 #[iv p0, iv p1, iv p2, iv p3, iv 1, rv b80, jv wh, sn, jv 8, sn, iv c1, iv c2, iv r1v, jv p1v, sn, iv r2v, jv p2v, sn, rv b109, iv rv118, iv kv218, iv ed118, iv rv133, iv kv243, iv ed133] [] _
      refine XS.iconst X144.here hx rfl (hb hby at_325) ?_
      show oS p e below T144 m 326 #[iv p0, iv p1, iv p2, iv p3, iv 1, rv b80, jv wh, sn, jv 8, sn, iv c1, iv c2, iv r1v, jv p1v, sn, iv r2v, jv p2v, sn, rv b109, iv rv118, iv kv218, iv ed118, iv rv133, iv kv243, iv ed133] [(.int (1 : Int32))] _
      refine XS.goto X144.here hx rfl (pc0 := 326) (pc' := 330) rfl (hb hby at_326) (by decide) (by decide) ?_
      exact kt)
    clear pre152
    obtain ⟨fs, hr, hrun, hended, hW, hsame⟩ := X144.leave (v := some (.int (1 : Int32))) (fun h => by rw [Bd.returns] at h; cases h)
    refine ⟨_, _, pre159 _ ?_, hrun, hended, _, _, rfl, ?_, ⟨_, rfl⟩, hW, hsame.mono (by decide) (by decide)⟩
    · show oS p e below T144 m 330 #[iv p0, iv p1, iv p2, iv p3, iv 1, rv b80, jv wh, sn, jv 8, sn, iv c1, iv c2, iv r1v, jv p1v, sn, iv r2v, jv p2v, sn, rv b109, iv rv118, iv kv218, iv ed118, iv rv133, iv kv243, iv ed133] [(.int (1 : Int32))] _
      exact retN X144 hx (t := .boolean) Bd.returns (by simp) (hb hby at_330) hr
    · show Q0 Z p0 p1 p2 p3 h0 n0 _ T144.heap _
      rw [e144]
      exact ⟨rfl, N144⟩
  · skip
    have pre160 : ∀ t, oS p e below s₁ m 10 #[iv p0, iv p1, iv p2, iv p3, iv 2, un, un, un, un, un, un, un, un, un, un, un, un, un, un, un, un, un, un, un, un] [(.int (2 : Int32))] t → oE p e below s₁ m #[(.int p0), (.int p1), (.int p2), (.int p3)] maxLocals t := fun t kt => pre2 t (by
      show oS p e below s₁ m 8 #[iv p0, iv p1, iv p2, iv p3, iv 2, un, un, un, un, un, un, un, un, un, un, un, un, un, un, un, un, un, un, un, un] [] _
      refine XS.iload X0.here hx rfl (hb hby at_8) rfl ?_
      exact kt)
    clear pre2
    obtain ⟨T161, h161, k161, X161, e161, E161, A161, st161⟩ := newP X0 hx hZ (hw _ (List.mem_of_getElem? (i := 1) rfl)) e0 (g := (mkF m 10 #[iv p0, iv p1, iv p2, iv p3, iv 2, un, un, un, un, un, un, un, un, un, un, un, un, un, un, un, un, un, un, un, un] [(.int (2 : Int32))])) rfl (hb hby at_10) rfl (by decide) (cap := 2) (by decide) (by decide) (by decide) (by decide)
    obtain ⟨b161, g161⟩ : ∃ z, z = h0.size := ⟨_, rfl⟩
    rw [← g161] at A161 st161
    have pre162 : ∀ t, oS p e below T161 m 12 #[iv p0, iv p1, iv p2, iv p3, iv 2, un, un, un, un, un, un, un, un, un, un, un, un, un, un, un, un, un, un, un, un] [(.ref b161)] t → oE p e below s₁ m #[(.int p0), (.int p1), (.int p2), (.int p3)] maxLocals t := fun t kt => pre160 t (st161 _ kt)
    clear pre160 st161
    have gn161 : n0 ≤ b161 := Nat.le_trans Z0 (Nat.le_of_eq g161.symm)
    have sz161 : h0.size ≤ b161 := Nat.le_trans K0.1 (Nat.le_of_eq g161.symm)
    have K161 : Keep h0 h161 [] := K0.ext E161
    have Z161 : n0 ≤ h161.size := Nat.le_trans Z0 E161.1
    have V161 : Arv Z h161 b161 k161 .byte (2 : Int32) [(.int (0 : Int32)), (.int (0 : Int32))] (.int (0 : Int32)) := (Arv.new A161 (by decide)).pad (pad_rep [] (.int (0 : Int32)) 2)
    have pre163 : ∀ t, oS p e below T161 m 24 #[iv p0, iv p1, iv p2, iv p3, iv 2, rv b161, un, un, un, un, un, un, un, un, un, un, un, un, un, un, un, un, un, un, un] [(.int (p1.toInt8.toInt32)), (.int (0 : Int32)), (.ref b161)] t → oE p e below s₁ m #[(.int p0), (.int p1), (.int p2), (.int p3)] maxLocals t := fun t kt => pre162 t (by
      show oS p e below T161 m 12 #[iv p0, iv p1, iv p2, iv p3, iv 2, un, un, un, un, un, un, un, un, un, un, un, un, un, un, un, un, un, un, un, un] [(.ref b161)] _
      refine XS.astore X161.here hx rfl (hb hby at_12) rfl rfl (l' := #[iv p0, iv p1, iv p2, iv p3, iv 2, rv b161, un, un, un, un, un, un, un, un, un, un, un, un, un, un, un, un, un, un, un]) rfl ?_
      show oS p e below T161 m 14 #[iv p0, iv p1, iv p2, iv p3, iv 2, rv b161, un, un, un, un, un, un, un, un, un, un, un, un, un, un, un, un, un, un, un] [] _
      refine XS.iload X161.here hx rfl (hb hby at_14) rfl ?_
      show oS p e below T161 m 16 #[iv p0, iv p1, iv p2, iv p3, iv 2, rv b161, un, un, un, un, un, un, un, un, un, un, un, un, un, un, un, un, un, un, un] [(.int (2 : Int32))] _
      refine XS.ifNo X161.here hx rfl (hb hby at_16) rfl ((if0 _ _).trans (tlt (by decide : (0 : Int32) < (2 : Int32))).2.2.2) ?_
      show oS p e below T161 m 19 #[iv p0, iv p1, iv p2, iv p3, iv 2, rv b161, un, un, un, un, un, un, un, un, un, un, un, un, un, un, un, un, un, un, un] [] _
      refine XS.aload X161.here hx rfl (hb hby at_19) rfl rfl ?_
      show oS p e below T161 m 21 #[iv p0, iv p1, iv p2, iv p3, iv 2, rv b161, un, un, un, un, un, un, un, un, un, un, un, un, un, un, un, un, un, un, un] [(.ref b161)] _
      refine XS.iconst X161.here hx rfl (hb hby at_21) ?_
      show oS p e below T161 m 22 #[iv p0, iv p1, iv p2, iv p3, iv 2, rv b161, un, un, un, un, un, un, un, un, un, un, un, un, un, un, un, un, un, un, un] [(.int (0 : Int32)), (.ref b161)] _
      refine XS.iloadN X161.here hx rfl (hb hby at_22) rfl ?_
      show oS p e below T161 m 23 #[iv p0, iv p1, iv p2, iv p3, iv 2, rv b161, un, un, un, un, un, un, un, un, un, un, un, un, un, un, un, un, un, un, un] [(.int p1), (.int (0 : Int32)), (.ref b161)] _
      refine XS.i2b X161.here hx rfl (hb hby at_23) rfl ?_
      exact kt)
    clear pre162
    obtain ⟨by0, hm164, pre164⟩ : ∃ (by0 : Int32), (by0.toInt8.toInt32 = by0 ∧ by0.toInt % 256 = p1.toInt % 256) ∧ ∀ t, oS p e below T161 m 24 #[iv p0, iv p1, iv p2, iv p3, iv 2, rv b161, un, un, un, un, un, un, un, un, un, un, un, un, un, un, un, un, un, un, un] [(.int by0), (.int (0 : Int32)), (.ref b161)] t → oE p e below s₁ m #[(.int p0), (.int p1), (.int p2), (.int p3)] maxLocals t := ⟨(p1.toInt8.toInt32), ⟨own_narb _, own_by0 p1⟩, pre163⟩
    clear pre163
    have tv165 := V161
    obtain ⟨cl165, Ar165, q165, S165, Ng165, H165, G165⟩ := tv165
    have hin165 : ¬ ((0 : Int32) < 0 ∨ cl165.slots.size ≤ ((0 : Int32)).toNatClampNeg) := inb_of S165 ⟨by decide, by decide⟩
    obtain ⟨T166, h166, X166, e166, W166, st166⟩ := stB X161 hx hZ e161 Ar165 (j := (0 : Int32)) hin165 (g := (mkF m 24 #[iv p0, iv p1, iv p2, iv p3, iv 2, rv b161, un, un, un, un, un, un, un, un, un, un, un, un, un, un, un, un, un, un, un] [(.int by0), (.int (0 : Int32)), (.ref b161)])) rfl rfl (hb hby at_24)
    have pre167 : ∀ t, oS p e below T166 m 25 #[iv p0, iv p1, iv p2, iv p3, iv 2, rv b161, un, un, un, un, un, un, un, un, un, un, un, un, un, un, un, un, un, un, un] [] t → oE p e below s₁ m #[(.int p0), (.int p1), (.int p2), (.int p3)] maxLocals t := fun t kt => pre164 t (st166 _ kt)
    clear pre164 st166
    have V166 : Arv Z h166 b161 k161 .byte (2 : Int32) [(.int by0), (.int (0 : Int32))] (.int (0 : Int32)) := (by
      have q := Arv.set Ar165 q165 S165 Ng165 H165 G165 (fits_nar_byte by0) W166 0 rfl (Nat.le_of_ble_eq_true rfl)
      rw [hm164.1] at q
      exact q)
    have K166 : Keep h0 h166 [] := K161.wr W166 (Or.inr sz161)
    have N166 := Fr.snoc X166 N0 gn161
    have Z166 : n0 ≤ h166.size := Nat.le_trans Z161 (Keep.of_wr W166).1
    have pre168 : ∀ t, oS p e below T166 m 39 #[iv p0, iv p1, iv p2, iv p3, iv 2, rv b161, un, un, un, un, un, un, un, un, un, un, un, un, un, un, un, un, un, un, un] [(.int (((p1.toUInt32 >>> ((8 : Int32) &&& 31).toUInt32).toInt32).toInt8.toInt32)), (.int (1 : Int32)), (.ref b161)] t → oE p e below s₁ m #[(.int p0), (.int p1), (.int p2), (.int p3)] maxLocals t := fun t kt => pre167 t (by
      show oS p e below T166 m 25 #[iv p0, iv p1, iv p2, iv p3, iv 2, rv b161, un, un, un, un, un, un, un, un, un, un, un, un, un, un, un, un, un, un, un] [] _
      refine XS.iload X166.here hx rfl (hb hby at_25) rfl ?_
      show oS p e below T166 m 27 #[iv p0, iv p1, iv p2, iv p3, iv 2, rv b161, un, un, un, un, un, un, un, un, un, un, un, un, un, un, un, un, un, un, un] [(.int (2 : Int32))] _
      refine XS.iconst X166.here hx rfl (hb hby at_27) ?_
      show oS p e below T166 m 28 #[iv p0, iv p1, iv p2, iv p3, iv 2, rv b161, un, un, un, un, un, un, un, un, un, un, un, un, un, un, un, un, un, un, un] [(.int (1 : Int32)), (.int (2 : Int32))] _
      refine XS.icmpNo X166.here hx rfl (hb hby at_28) rfl (tlt (by decide : (1 : Int32) < (2 : Int32))).2.2.2 ?_
      show oS p e below T166 m 31 #[iv p0, iv p1, iv p2, iv p3, iv 2, rv b161, un, un, un, un, un, un, un, un, un, un, un, un, un, un, un, un, un, un, un] [] _
      refine XS.aload X166.here hx rfl (hb hby at_31) rfl rfl ?_
      show oS p e below T166 m 33 #[iv p0, iv p1, iv p2, iv p3, iv 2, rv b161, un, un, un, un, un, un, un, un, un, un, un, un, un, un, un, un, un, un, un] [(.ref b161)] _
      refine XS.iconst X166.here hx rfl (hb hby at_33) ?_
      show oS p e below T166 m 34 #[iv p0, iv p1, iv p2, iv p3, iv 2, rv b161, un, un, un, un, un, un, un, un, un, un, un, un, un, un, un, un, un, un, un] [(.int (1 : Int32)), (.ref b161)] _
      refine XS.iloadN X166.here hx rfl (hb hby at_34) rfl ?_
      show oS p e below T166 m 35 #[iv p0, iv p1, iv p2, iv p3, iv 2, rv b161, un, un, un, un, un, un, un, un, un, un, un, un, un, un, un, un, un, un, un] [(.int p1), (.int (1 : Int32)), (.ref b161)] _
      refine XS.bipush X166.here hx rfl (hb hby at_35) ?_
      show oS p e below T166 m 37 #[iv p0, iv p1, iv p2, iv p3, iv 2, rv b161, un, un, un, un, un, un, un, un, un, un, un, un, un, un, un, un, un, un, un] [(.int (8 : Int32)), (.int p1), (.int (1 : Int32)), (.ref b161)] _
      refine XS.iushr X166.here hx rfl (hb hby at_37) rfl ?_
      show oS p e below T166 m 38 #[iv p0, iv p1, iv p2, iv p3, iv 2, rv b161, un, un, un, un, un, un, un, un, un, un, un, un, un, un, un, un, un, un, un] [(.int ((p1.toUInt32 >>> ((8 : Int32) &&& 31).toUInt32).toInt32)), (.int (1 : Int32)), (.ref b161)] _
      refine XS.i2b X166.here hx rfl (hb hby at_38) rfl ?_
      exact kt)
    clear pre167
    obtain ⟨by1, hm169, pre169⟩ : ∃ (by1 : Int32), (by1.toInt8.toInt32 = by1 ∧ by1.toInt % 256 = ((p1.toInt % 4294967296) / 256) % 256) ∧ ∀ t, oS p e below T166 m 39 #[iv p0, iv p1, iv p2, iv p3, iv 2, rv b161, un, un, un, un, un, un, un, un, un, un, un, un, un, un, un, un, un, un, un] [(.int by1), (.int (1 : Int32)), (.ref b161)] t → oE p e below s₁ m #[(.int p0), (.int p1), (.int p2), (.int p3)] maxLocals t := ⟨(((p1.toUInt32 >>> ((8 : Int32) &&& 31).toUInt32).toInt32).toInt8.toInt32), ⟨own_narb _, own_by1 p1⟩, pre168⟩
    clear pre168
    have tv170 := V166
    obtain ⟨cl170, Ar170, q170, S170, Ng170, H170, G170⟩ := tv170
    have hin170 : ¬ ((1 : Int32) < 0 ∨ cl170.slots.size ≤ ((1 : Int32)).toNatClampNeg) := inb_of S170 ⟨by decide, by decide⟩
    obtain ⟨T171, h171, X171, e171, W171, st171⟩ := stB X166 hx hZ e166 Ar170 (j := (1 : Int32)) hin170 (g := (mkF m 39 #[iv p0, iv p1, iv p2, iv p3, iv 2, rv b161, un, un, un, un, un, un, un, un, un, un, un, un, un, un, un, un, un, un, un] [(.int by1), (.int (1 : Int32)), (.ref b161)])) rfl rfl (hb hby at_39)
    have pre172 : ∀ t, oS p e below T171 m 40 #[iv p0, iv p1, iv p2, iv p3, iv 2, rv b161, un, un, un, un, un, un, un, un, un, un, un, un, un, un, un, un, un, un, un] [] t → oE p e below s₁ m #[(.int p0), (.int p1), (.int p2), (.int p3)] maxLocals t := fun t kt => pre169 t (st171 _ kt)
    clear pre169 st171
    have V171 : Arv Z h171 b161 k161 .byte (2 : Int32) [(.int by0), (.int by1)] (.int (0 : Int32)) := (by
      have q := Arv.set Ar170 q170 S170 Ng170 H170 G170 (fits_nar_byte by1) W171 1 rfl (Nat.le_of_ble_eq_true rfl)
      rw [hm169.1] at q
      exact q)
    have K171 : Keep h0 h171 [] := K166.wr W171 (Or.inr sz161)
    have N171 := Fr.snoc X171 N166 gn161
    have Z171 : n0 ≤ h171.size := Nat.le_trans Z166 (Keep.of_wr W171).1
    have pre173 : ∀ t, oS p e below T171 m 88 #[iv p0, iv p1, iv p2, iv p3, iv 2, rv b161, jv (((p1.toInt64) &&& (4294967295 : Int64)) &&& (((1 : Int64) <<< ((16 : Int32) &&& 0x3f).toInt64) - (1 : Int64))), sn, un, un, un, un, un, un, un, un, un, un, un, un, un, un, un, un, un] [] t → oE p e below s₁ m #[(.int p0), (.int p1), (.int p2), (.int p3)] maxLocals t := fun t kt => pre172 t (by
      show oS p e below T171 m 40 #[iv p0, iv p1, iv p2, iv p3, iv 2, rv b161, un, un, un, un, un, un, un, un, un, un, un, un, un, un, un, un, un, un, un] [] _
      refine XS.iload X171.here hx rfl (hb hby at_40) rfl ?_
      show oS p e below T171 m 42 #[iv p0, iv p1, iv p2, iv p3, iv 2, rv b161, un, un, un, un, un, un, un, un, un, un, un, un, un, un, un, un, un, un, un] [(.int (2 : Int32))] _
      refine XS.iconst X171.here hx rfl (hb hby at_42) ?_
      show oS p e below T171 m 43 #[iv p0, iv p1, iv p2, iv p3, iv 2, rv b161, un, un, un, un, un, un, un, un, un, un, un, un, un, un, un, un, un, un, un] [(.int (2 : Int32)), (.int (2 : Int32))] _
      refine XS.icmpYes X171.here hx rfl (pc0 := 43) (pc' := 55) rfl (hb hby at_43) rfl (flt (by decide : ¬ ((2 : Int32) < (2 : Int32)))).2.2.2 (by decide) (by decide) ?_
      show oS p e below T171 m 55 #[iv p0, iv p1, iv p2, iv p3, iv 2, rv b161, un, un, un, un, un, un, un, un, un, un, un, un, un, un, un, un, un, un, un] [] _
      refine XS.iload X171.here hx rfl (hb hby at_55) rfl ?_
      show oS p e below T171 m 57 #[iv p0, iv p1, iv p2, iv p3, iv 2, rv b161, un, un, un, un, un, un, un, un, un, un, un, un, un, un, un, un, un, un, un] [(.int (2 : Int32))] _
      refine XS.iconst X171.here hx rfl (hb hby at_57) ?_
      show oS p e below T171 m 58 #[iv p0, iv p1, iv p2, iv p3, iv 2, rv b161, un, un, un, un, un, un, un, un, un, un, un, un, un, un, un, un, un, un, un] [(.int (3 : Int32)), (.int (2 : Int32))] _
      refine XS.icmpYes X171.here hx rfl (pc0 := 58) (pc' := 70) rfl (hb hby at_58) rfl (flt (by decide : ¬ ((3 : Int32) < (2 : Int32)))).2.2.2 (by decide) (by decide) ?_
      show oS p e below T171 m 70 #[iv p0, iv p1, iv p2, iv p3, iv 2, rv b161, un, un, un, un, un, un, un, un, un, un, un, un, un, un, un, un, un, un, un] [] _
      refine XS.iloadN X171.here hx rfl (hb hby at_70) rfl ?_
      show oS p e below T171 m 71 #[iv p0, iv p1, iv p2, iv p3, iv 2, rv b161, un, un, un, un, un, un, un, un, un, un, un, un, un, un, un, un, un, un, un] [(.int p1)] _
      refine XS.i2l X171.here hx rfl (hb hby at_71) rfl ?_
      show oS p e below T171 m 72 #[iv p0, iv p1, iv p2, iv p3, iv 2, rv b161, un, un, un, un, un, un, un, un, un, un, un, un, un, un, un, un, un, un, un] [(.long (p1.toInt64))] _
      refine X171.ldc2Long hx hown (mvT hZ (hw _ (List.mem_of_getElem? (i := 2) rfl))) (g := (mkF m 72 #[iv p0, iv p1, iv p2, iv p3, iv 2, rv b161, un, un, un, un, un, un, un, un, un, un, un, un, un, un, un, un, un, un, un] [(.long (p1.toInt64))])) rfl (hb hby at_72) _ ?_
      show oS p e below T171 m 75 #[iv p0, iv p1, iv p2, iv p3, iv 2, rv b161, un, un, un, un, un, un, un, un, un, un, un, un, un, un, un, un, un, un, un] [(.long (4294967295 : Int64)), (.long (p1.toInt64))] _
      refine XS.land X171.here hx rfl (hb hby at_75) rfl ?_
      show oS p e below T171 m 76 #[iv p0, iv p1, iv p2, iv p3, iv 2, rv b161, un, un, un, un, un, un, un, un, un, un, un, un, un, un, un, un, un, un, un] [(.long ((p1.toInt64) &&& (4294967295 : Int64)))] _
      refine XS.lconst X171.here hx rfl (hb hby at_76) ?_
      show oS p e below T171 m 77 #[iv p0, iv p1, iv p2, iv p3, iv 2, rv b161, un, un, un, un, un, un, un, un, un, un, un, un, un, un, un, un, un, un, un] [(.long (1 : Int64)), (.long ((p1.toInt64) &&& (4294967295 : Int64)))] _
      refine XS.bipush X171.here hx rfl (hb hby at_77) ?_
      show oS p e below T171 m 79 #[iv p0, iv p1, iv p2, iv p3, iv 2, rv b161, un, un, un, un, un, un, un, un, un, un, un, un, un, un, un, un, un, un, un] [(.int (8 : Int32)), (.long (1 : Int64)), (.long ((p1.toInt64) &&& (4294967295 : Int64)))] _
      refine XS.iload X171.here hx rfl (hb hby at_79) rfl ?_
      show oS p e below T171 m 81 #[iv p0, iv p1, iv p2, iv p3, iv 2, rv b161, un, un, un, un, un, un, un, un, un, un, un, un, un, un, un, un, un, un, un] [(.int (2 : Int32)), (.int (8 : Int32)), (.long (1 : Int64)), (.long ((p1.toInt64) &&& (4294967295 : Int64)))] _
      refine XS.imul X171.here hx rfl (hb hby at_81) rfl ?_
      show oS p e below T171 m 82 #[iv p0, iv p1, iv p2, iv p3, iv 2, rv b161, un, un, un, un, un, un, un, un, un, un, un, un, un, un, un, un, un, un, un] [(.int (16 : Int32)), (.long (1 : Int64)), (.long ((p1.toInt64) &&& (4294967295 : Int64)))] _
      refine XS.lshl X171.here hx rfl (hb hby at_82) rfl ?_
      show oS p e below T171 m 83 #[iv p0, iv p1, iv p2, iv p3, iv 2, rv b161, un, un, un, un, un, un, un, un, un, un, un, un, un, un, un, un, un, un, un] [(.long ((1 : Int64) <<< ((16 : Int32) &&& 0x3f).toInt64)), (.long ((p1.toInt64) &&& (4294967295 : Int64)))] _
      refine XS.lconst X171.here hx rfl (hb hby at_83) ?_
      show oS p e below T171 m 84 #[iv p0, iv p1, iv p2, iv p3, iv 2, rv b161, un, un, un, un, un, un, un, un, un, un, un, un, un, un, un, un, un, un, un] [(.long (1 : Int64)), (.long ((1 : Int64) <<< ((16 : Int32) &&& 0x3f).toInt64)), (.long ((p1.toInt64) &&& (4294967295 : Int64)))] _
      refine XS.lsub X171.here hx rfl (hb hby at_84) rfl ?_
      show oS p e below T171 m 85 #[iv p0, iv p1, iv p2, iv p3, iv 2, rv b161, un, un, un, un, un, un, un, un, un, un, un, un, un, un, un, un, un, un, un] [(.long (((1 : Int64) <<< ((16 : Int32) &&& 0x3f).toInt64) - (1 : Int64))), (.long ((p1.toInt64) &&& (4294967295 : Int64)))] _
      refine XS.land X171.here hx rfl (hb hby at_85) rfl ?_
      show oS p e below T171 m 86 #[iv p0, iv p1, iv p2, iv p3, iv 2, rv b161, un, un, un, un, un, un, un, un, un, un, un, un, un, un, un, un, un, un, un] [(.long (((p1.toInt64) &&& (4294967295 : Int64)) &&& (((1 : Int64) <<< ((16 : Int32) &&& 0x3f).toInt64) - (1 : Int64))))] _
      refine XS.lstore X171.here hx rfl (hb hby at_86) rfl (l' := #[iv p0, iv p1, iv p2, iv p3, iv 2, rv b161, jv (((p1.toInt64) &&& (4294967295 : Int64)) &&& (((1 : Int64) <<< ((16 : Int32) &&& 0x3f).toInt64) - (1 : Int64))), sn, un, un, un, un, un, un, un, un, un, un, un, un, un, un, un, un, un]) rfl ?_
      exact kt)
    clear pre172
    obtain ⟨wh, hm174, pre174⟩ : ∃ (wh : Int64), (wh.toInt = 1 * (by0.toInt % 256) + 256 * (by1.toInt % 256)) ∧ ∀ t, oS p e below T171 m 88 #[iv p0, iv p1, iv p2, iv p3, iv 2, rv b161, jv wh, sn, un, un, un, un, un, un, un, un, un, un, un, un, un, un, un, un, un] [] t → oE p e below s₁ m #[(.int p0), (.int p1), (.int p2), (.int p3)] maxLocals t := ⟨(((p1.toInt64) &&& (4294967295 : Int64)) &&& (((1 : Int64) <<< ((16 : Int32) &&& 0x3f).toInt64) - (1 : Int64))), (by have qa := own_wh2 p1; have qb0 := hm164.2; have qb1 := hm169.2; omega), pre173⟩
    clear pre173
    have pre175 : ∀ t, oS p e below T171 m 97 #[iv p0, iv p1, iv p2, iv p3, iv 2, rv b161, jv wh, sn, jv ((8 : Int64) * ((2 : Int32).toInt64)), sn, un, un, un, un, un, un, un, un, un, un, un, un, un, un, un] [] t → oE p e below s₁ m #[(.int p0), (.int p1), (.int p2), (.int p3)] maxLocals t := fun t kt => pre174 t (by
      show oS p e below T171 m 88 #[iv p0, iv p1, iv p2, iv p3, iv 2, rv b161, jv wh, sn, un, un, un, un, un, un, un, un, un, un, un, un, un, un, un, un, un] [] _
      refine X171.ldc2Long hx hown (mvT hZ (hw _ (List.mem_of_getElem? (i := 3) rfl))) (g := (mkF m 88 #[iv p0, iv p1, iv p2, iv p3, iv 2, rv b161, jv wh, sn, un, un, un, un, un, un, un, un, un, un, un, un, un, un, un, un, un] [])) rfl (hb hby at_88) _ ?_
      show oS p e below T171 m 91 #[iv p0, iv p1, iv p2, iv p3, iv 2, rv b161, jv wh, sn, un, un, un, un, un, un, un, un, un, un, un, un, un, un, un, un, un] [(.long (8 : Int64))] _
      refine XS.iload X171.here hx rfl (hb hby at_91) rfl ?_
      show oS p e below T171 m 93 #[iv p0, iv p1, iv p2, iv p3, iv 2, rv b161, jv wh, sn, un, un, un, un, un, un, un, un, un, un, un, un, un, un, un, un, un] [(.int (2 : Int32)), (.long (8 : Int64))] _
      refine XS.i2l X171.here hx rfl (hb hby at_93) rfl ?_
      show oS p e below T171 m 94 #[iv p0, iv p1, iv p2, iv p3, iv 2, rv b161, jv wh, sn, un, un, un, un, un, un, un, un, un, un, un, un, un, un, un, un, un] [(.long ((2 : Int32).toInt64)), (.long (8 : Int64))] _
      refine XS.lmul X171.here hx rfl (hb hby at_94) rfl ?_
      show oS p e below T171 m 95 #[iv p0, iv p1, iv p2, iv p3, iv 2, rv b161, jv wh, sn, un, un, un, un, un, un, un, un, un, un, un, un, un, un, un, un, un] [(.long ((8 : Int64) * ((2 : Int32).toInt64)))] _
      refine XS.lstore X171.here hx rfl (hb hby at_95) rfl (l' := #[iv p0, iv p1, iv p2, iv p3, iv 2, rv b161, jv wh, sn, jv ((8 : Int64) * ((2 : Int32).toInt64)), sn, un, un, un, un, un, un, un, un, un, un, un, un, un, un, un]) rfl ?_
      exact kt)
    clear pre174
    obtain ⟨sz, hm176, pre176⟩ : ∃ (sz : Int64), (sz = (16 : Int64)) ∧ ∀ t, oS p e below T171 m 97 #[iv p0, iv p1, iv p2, iv p3, iv 2, rv b161, jv wh, sn, jv sz, sn, un, un, un, un, un, un, un, un, un, un, un, un, un, un, un] [] t → oE p e below s₁ m #[(.int p0), (.int p1), (.int p2), (.int p3)] maxLocals t := ⟨((8 : Int64) * ((2 : Int32).toInt64)), (by decide), pre175⟩
    clear pre175
    subst hm176
    have pre177 : ∀ t, oS p e below T171 m 103 #[iv p0, iv p1, iv p2, iv p3, iv 2, rv b161, jv wh, sn, jv 16, sn, iv (p2 &&& (63 : Int32)), un, un, un, un, un, un, un, un, un, un, un, un, un, un] [] t → oE p e below s₁ m #[(.int p0), (.int p1), (.int p2), (.int p3)] maxLocals t := fun t kt => pre176 t (by
      show oS p e below T171 m 97 #[iv p0, iv p1, iv p2, iv p3, iv 2, rv b161, jv wh, sn, jv 16, sn, un, un, un, un, un, un, un, un, un, un, un, un, un, un, un] [] _
      refine XS.iloadN X171.here hx rfl (hb hby at_97) rfl ?_
      show oS p e below T171 m 98 #[iv p0, iv p1, iv p2, iv p3, iv 2, rv b161, jv wh, sn, jv 16, sn, un, un, un, un, un, un, un, un, un, un, un, un, un, un, un] [(.int p2)] _
      refine XS.bipush X171.here hx rfl (hb hby at_98) ?_
      show oS p e below T171 m 100 #[iv p0, iv p1, iv p2, iv p3, iv 2, rv b161, jv wh, sn, jv 16, sn, un, un, un, un, un, un, un, un, un, un, un, un, un, un, un] [(.int (63 : Int32)), (.int p2)] _
      refine XS.iand X171.here hx rfl (hb hby at_100) rfl ?_
      show oS p e below T171 m 101 #[iv p0, iv p1, iv p2, iv p3, iv 2, rv b161, jv wh, sn, jv 16, sn, un, un, un, un, un, un, un, un, un, un, un, un, un, un, un] [(.int (p2 &&& (63 : Int32)))] _
      refine XS.istore X171.here hx rfl (hb hby at_101) rfl (l' := #[iv p0, iv p1, iv p2, iv p3, iv 2, rv b161, jv wh, sn, jv 16, sn, iv (p2 &&& (63 : Int32)), un, un, un, un, un, un, un, un, un, un, un, un, un, un]) rfl ?_
      exact kt)
    clear pre176
    obtain ⟨c1, hm178, pre178⟩ : ∃ (c1 : Int32), (0 ≤ c1.toInt ∧ c1.toInt ≤ 63) ∧ ∀ t, oS p e below T171 m 103 #[iv p0, iv p1, iv p2, iv p3, iv 2, rv b161, jv wh, sn, jv 16, sn, iv c1, un, un, un, un, un, un, un, un, un, un, un, un, un, un] [] t → oE p e below s₁ m #[(.int p0), (.int p1), (.int p2), (.int p3)] maxLocals t := ⟨(p2 &&& (63 : Int32)), own_63 p2, pre177⟩
    clear pre177
    have pre179 : ∀ t, oS p e below T171 m 107 #[iv p0, iv p1, iv p2, iv p3, iv 2, rv b161, jv wh, sn, jv 16, sn, iv c1, un, un, un, un, un, un, un, un, un, un, un, un, un, un] [(.int (p2 &&& (64 : Int32)))] t → oE p e below s₁ m #[(.int p0), (.int p1), (.int p2), (.int p3)] maxLocals t := fun t kt => pre178 t (by
      show oS p e below T171 m 103 #[iv p0, iv p1, iv p2, iv p3, iv 2, rv b161, jv wh, sn, jv 16, sn, iv c1, un, un, un, un, un, un, un, un, un, un, un, un, un, un] [] _
      refine XS.iloadN X171.here hx rfl (hb hby at_103) rfl ?_
      show oS p e below T171 m 104 #[iv p0, iv p1, iv p2, iv p3, iv 2, rv b161, jv wh, sn, jv 16, sn, iv c1, un, un, un, un, un, un, un, un, un, un, un, un, un, un] [(.int p2)] _
      refine XS.bipush X171.here hx rfl (hb hby at_104) ?_
      show oS p e below T171 m 106 #[iv p0, iv p1, iv p2, iv p3, iv 2, rv b161, jv wh, sn, jv 16, sn, iv c1, un, un, un, un, un, un, un, un, un, un, un, un, un, un] [(.int (64 : Int32)), (.int p2)] _
      refine XS.iand X171.here hx rfl (hb hby at_106) rfl ?_
      exact kt)
    clear pre178
    obtain ⟨c2, hm180, pre180⟩ : ∃ (c2 : Int32), (0 ≤ c2.toInt) ∧ ∀ t, oS p e below T171 m 121 #[iv p0, iv p1, iv p2, iv p3, iv 2, rv b161, jv wh, sn, jv 16, sn, iv c1, un, un, un, un, un, un, un, un, un, un, un, un, un, un] [(.int c2)] t → oE p e below s₁ m #[(.int p0), (.int p1), (.int p2), (.int p3)] maxLocals t := by
      by_cases hc107_181 : (p2 &&& (64 : Int32)) = (0 : Int32)
      · have pre182 : ∀ t, oS p e below T171 m 121 #[iv p0, iv p1, iv p2, iv p3, iv 2, rv b161, jv wh, sn, jv 16, sn, iv c1, un, un, un, un, un, un, un, un, un, un, un, un, un, un] [(.int (p3 &&& (63 : Int32)))] t → oE p e below s₁ m #[(.int p0), (.int p1), (.int p2), (.int p3)] maxLocals t := fun t kt => pre179 t (by
          show oS p e below T171 m 107 #[iv p0, iv p1, iv p2, iv p3, iv 2, rv b161, jv wh, sn, jv 16, sn, iv c1, un, un, un, un, un, un, un, un, un, un, un, un, un, un] [(.int (p2 &&& (64 : Int32)))] _
          refine XS.ifYes X171.here hx rfl (pc0 := 107) (pc' := 117) rfl (hb hby at_107) rfl ((if0 _ _).trans (teq hc107_181).1) (by decide) (by decide) ?_
          show oS p e below T171 m 117 #[iv p0, iv p1, iv p2, iv p3, iv 2, rv b161, jv wh, sn, jv 16, sn, iv c1, un, un, un, un, un, un, un, un, un, un, un, un, un, un] [] _
          refine XS.iloadN X171.here hx rfl (hb hby at_117) rfl ?_
          show oS p e below T171 m 118 #[iv p0, iv p1, iv p2, iv p3, iv 2, rv b161, jv wh, sn, jv 16, sn, iv c1, un, un, un, un, un, un, un, un, un, un, un, un, un, un] [(.int p3)] _
          refine XS.bipush X171.here hx rfl (hb hby at_118) ?_
          show oS p e below T171 m 120 #[iv p0, iv p1, iv p2, iv p3, iv 2, rv b161, jv wh, sn, jv 16, sn, iv c1, un, un, un, un, un, un, un, un, un, un, un, un, un, un] [(.int (63 : Int32)), (.int p3)] _
          refine XS.iand X171.here hx rfl (hb hby at_120) rfl ?_
          exact kt)
        clear pre179
        exact ⟨(p3 &&& (63 : Int32)), (own_63 p3).1, pre182⟩
      · have pre183 : ∀ t, oS p e below T171 m 121 #[iv p0, iv p1, iv p2, iv p3, iv 2, rv b161, jv wh, sn, jv 16, sn, iv c1, un, un, un, un, un, un, un, un, un, un, un, un, un, un] [(.int (p3 &&& (2147483647 : Int32)))] t → oE p e below s₁ m #[(.int p0), (.int p1), (.int p2), (.int p3)] maxLocals t := fun t kt => pre179 t (by
          show oS p e below T171 m 107 #[iv p0, iv p1, iv p2, iv p3, iv 2, rv b161, jv wh, sn, jv 16, sn, iv c1, un, un, un, un, un, un, un, un, un, un, un, un, un, un] [(.int (p2 &&& (64 : Int32)))] _
          refine XS.ifNo X171.here hx rfl (hb hby at_107) rfl ((if0 _ _).trans (feq hc107_181).1) ?_
          show oS p e below T171 m 110 #[iv p0, iv p1, iv p2, iv p3, iv 2, rv b161, jv wh, sn, jv 16, sn, iv c1, un, un, un, un, un, un, un, un, un, un, un, un, un, un] [] _
          refine XS.iloadN X171.here hx rfl (hb hby at_110) rfl ?_
          show oS p e below T171 m 111 #[iv p0, iv p1, iv p2, iv p3, iv 2, rv b161, jv wh, sn, jv 16, sn, iv c1, un, un, un, un, un, un, un, un, un, un, un, un, un, un] [(.int p3)] _
          refine X171.ldcInt hx hown (mvT hZ (hw _ (List.mem_of_getElem? (i := 0) rfl))) (g := (mkF m 111 #[iv p0, iv p1, iv p2, iv p3, iv 2, rv b161, jv wh, sn, jv 16, sn, iv c1, un, un, un, un, un, un, un, un, un, un, un, un, un, un] [(.int p3)])) rfl (hb hby at_111) _ ?_
          show oS p e below T171 m 113 #[iv p0, iv p1, iv p2, iv p3, iv 2, rv b161, jv wh, sn, jv 16, sn, iv c1, un, un, un, un, un, un, un, un, un, un, un, un, un, un] [(.int (2147483647 : Int32)), (.int p3)] _
          refine XS.iand X171.here hx rfl (hb hby at_113) rfl ?_
          show oS p e below T171 m 114 #[iv p0, iv p1, iv p2, iv p3, iv 2, rv b161, jv wh, sn, jv 16, sn, iv c1, un, un, un, un, un, un, un, un, un, un, un, un, un, un] [(.int (p3 &&& (2147483647 : Int32)))] _
          refine XS.goto X171.here hx rfl (pc0 := 114) (pc' := 121) rfl (hb hby at_114) (by decide) (by decide) ?_
          exact kt)
        clear pre179
        exact ⟨(p3 &&& (2147483647 : Int32)), own_nn p3, pre183⟩
    clear pre179
    have pre184 : ∀ t, oS p e below T171 m 123 #[iv p0, iv p1, iv p2, iv p3, iv 2, rv b161, jv wh, sn, jv 16, sn, iv c1, iv c2, un, un, un, un, un, un, un, un, un, un, un, un, un] [] t → oE p e below s₁ m #[(.int p0), (.int p1), (.int p2), (.int p3)] maxLocals t := fun t kt => pre180 t (by
      show oS p e below T171 m 121 #[iv p0, iv p1, iv p2, iv p3, iv 2, rv b161, jv wh, sn, jv 16, sn, iv c1, un, un, un, un, un, un, un, un, un, un, un, un, un, un] [(.int c2)] _
      refine XS.istore X171.here hx rfl (hb hby at_121) rfl (l' := #[iv p0, iv p1, iv p2, iv p3, iv 2, rv b161, jv wh, sn, jv 16, sn, iv c1, iv c2, un, un, un, un, un, un, un, un, un, un, un, un, un]) rfl ?_
      exact kt)
    clear pre180
    obtain ⟨r1v, p1v, hm185, pre185⟩ : ∃ (r1v : Int32) (p1v : Int64), ((r1v = (1 : Int32) ∧ c1.toInt ≤ 16 - 0 ∧ p1v.toInt = 0 + c1.toInt) ∨ (r1v = (0 : Int32) ∧ 16 - 0 < c1.toInt ∧ p1v.toInt = 16)) ∧ ∀ t, oS p e below T171 m 154 #[iv p0, iv p1, iv p2, iv p3, iv 2, rv b161, jv wh, sn, jv 16, sn, iv c1, iv c2, iv r1v, jv p1v, sn, un, un, un, un, un, un, un, un, un, un] [] t → oE p e below s₁ m #[(.int p0), (.int p1), (.int p2), (.int p3)] maxLocals t := by
      have pre186 : ∀ t, oS p e below T171 m 129 #[iv p0, iv p1, iv p2, iv p3, iv 2, rv b161, jv wh, sn, jv 16, sn, iv c1, iv c2, un, un, un, un, un, un, un, un, un, un, un, un, un] [(.int (lcmpW (c1.toInt64) (16 : Int64)))] t → oE p e below s₁ m #[(.int p0), (.int p1), (.int p2), (.int p3)] maxLocals t := fun t kt => pre184 t (by
        show oS p e below T171 m 123 #[iv p0, iv p1, iv p2, iv p3, iv 2, rv b161, jv wh, sn, jv 16, sn, iv c1, iv c2, un, un, un, un, un, un, un, un, un, un, un, un, un] [] _
        refine XS.iload X171.here hx rfl (hb hby at_123) rfl ?_
        show oS p e below T171 m 125 #[iv p0, iv p1, iv p2, iv p3, iv 2, rv b161, jv wh, sn, jv 16, sn, iv c1, iv c2, un, un, un, un, un, un, un, un, un, un, un, un, un] [(.int c1)] _
        refine XS.i2l X171.here hx rfl (hb hby at_125) rfl ?_
        show oS p e below T171 m 126 #[iv p0, iv p1, iv p2, iv p3, iv 2, rv b161, jv wh, sn, jv 16, sn, iv c1, iv c2, un, un, un, un, un, un, un, un, un, un, un, un, un] [(.long (c1.toInt64))] _
        refine XS.lload X171.here hx rfl (hb hby at_126) rfl ?_
        show oS p e below T171 m 128 #[iv p0, iv p1, iv p2, iv p3, iv 2, rv b161, jv wh, sn, jv 16, sn, iv c1, iv c2, un, un, un, un, un, un, un, un, un, un, un, un, un] [(.long (16 : Int64)), (.long (c1.toInt64))] _
        refine XS.lcmp X171.here hx rfl (hb hby at_128) rfl ?_
        exact kt)
      clear pre184
      by_cases hc129_187 : (16 : Int64) < (c1.toInt64)
      · have pre188 : ∀ t, oS p e below T171 m 154 #[iv p0, iv p1, iv p2, iv p3, iv 2, rv b161, jv wh, sn, jv 16, sn, iv c1, iv c2, iv 0, jv 16, sn, un, un, un, un, un, un, un, un, un, un] [] t → oE p e below s₁ m #[(.int p0), (.int p1), (.int p2), (.int p3)] maxLocals t := fun t kt => pre186 t (by
          show oS p e below T171 m 129 #[iv p0, iv p1, iv p2, iv p3, iv 2, rv b161, jv wh, sn, jv 16, sn, iv c1, iv c2, un, un, un, un, un, un, un, un, un, un, un, un, un] [(.int (lcmpW (c1.toInt64) (16 : Int64)))] _
          refine XS.ifYes X171.here hx rfl (pc0 := 129) (pc' := 136) rfl (hb hby at_129) rfl (Jvm.Free.XT.ll_gt_t hc129_187) (by decide) (by decide) ?_
          show oS p e below T171 m 136 #[iv p0, iv p1, iv p2, iv p3, iv 2, rv b161, jv wh, sn, jv 16, sn, iv c1, iv c2, un, un, un, un, un, un, un, un, un, un, un, un, un] [] _
          refine XS.iconst X171.here hx rfl (hb hby at_136) ?_
          show oS p e below T171 m 137 #[iv p0, iv p1, iv p2, iv p3, iv 2, rv b161, jv wh, sn, jv 16, sn, iv c1, iv c2, un, un, un, un, un, un, un, un, un, un, un, un, un] [(.int (0 : Int32))] _
          refine XS.istore X171.here hx rfl (hb hby at_137) rfl (l' := #[iv p0, iv p1, iv p2, iv p3, iv 2, rv b161, jv wh, sn, jv 16, sn, iv c1, iv c2, iv 0, un, un, un, un, un, un, un, un, un, un, un, un]) rfl ?_
          show oS p e below T171 m 139 #[iv p0, iv p1, iv p2, iv p3, iv 2, rv b161, jv wh, sn, jv 16, sn, iv c1, iv c2, iv 0, un, un, un, un, un, un, un, un, un, un, un, un] [] _
          refine XS.iload X171.here hx rfl (hb hby at_139) rfl ?_
          show oS p e below T171 m 141 #[iv p0, iv p1, iv p2, iv p3, iv 2, rv b161, jv wh, sn, jv 16, sn, iv c1, iv c2, iv 0, un, un, un, un, un, un, un, un, un, un, un, un] [(.int (0 : Int32))] _
          refine XS.ifYes X171.here hx rfl (pc0 := 141) (pc' := 150) rfl (hb hby at_141) rfl ((if0 _ _).trans (teq (by decide : (0 : Int32) = (0 : Int32))).1) (by decide) (by decide) ?_
          show oS p e below T171 m 150 #[iv p0, iv p1, iv p2, iv p3, iv 2, rv b161, jv wh, sn, jv 16, sn, iv c1, iv c2, iv 0, un, un, un, un, un, un, un, un, un, un, un, un] [] _
          refine XS.lload X171.here hx rfl (hb hby at_150) rfl ?_
          show oS p e below T171 m 152 #[iv p0, iv p1, iv p2, iv p3, iv 2, rv b161, jv wh, sn, jv 16, sn, iv c1, iv c2, iv 0, un, un, un, un, un, un, un, un, un, un, un, un] [(.long (16 : Int64))] _
          refine XS.lstore X171.here hx rfl (hb hby at_152) rfl (l' := #[iv p0, iv p1, iv p2, iv p3, iv 2, rv b161, jv wh, sn, jv 16, sn, iv c1, iv c2, iv 0, jv 16, sn, un, un, un, un, un, un, un, un, un, un]) rfl ?_
          exact kt)
        clear pre186
        exact ⟨(0 : Int32), (16 : Int64), own_r1b c1 (16 : Int64) 16 (by decide) hc129_187, pre188⟩
      · have pre189 : ∀ t, oS p e below T171 m 154 #[iv p0, iv p1, iv p2, iv p3, iv 2, rv b161, jv wh, sn, jv 16, sn, iv c1, iv c2, iv 1, jv (c1.toInt64), sn, un, un, un, un, un, un, un, un, un, un] [] t → oE p e below s₁ m #[(.int p0), (.int p1), (.int p2), (.int p3)] maxLocals t := fun t kt => pre186 t (by
          show oS p e below T171 m 129 #[iv p0, iv p1, iv p2, iv p3, iv 2, rv b161, jv wh, sn, jv 16, sn, iv c1, iv c2, un, un, un, un, un, un, un, un, un, un, un, un, un] [(.int (lcmpW (c1.toInt64) (16 : Int64)))] _
          refine XS.ifNo X171.here hx rfl (hb hby at_129) rfl (Jvm.Free.XT.ll_gt_f hc129_187) ?_
          show oS p e below T171 m 132 #[iv p0, iv p1, iv p2, iv p3, iv 2, rv b161, jv wh, sn, jv 16, sn, iv c1, iv c2, un, un, un, un, un, un, un, un, un, un, un, un, un] [] _
          refine XS.iconst X171.here hx rfl (hb hby at_132) ?_
          show oS p e below T171 m 133 #[iv p0, iv p1, iv p2, iv p3, iv 2, rv b161, jv wh, sn, jv 16, sn, iv c1, iv c2, un, un, un, un, un, un, un, un, un, un, un, un, un] [(.int (1 : Int32))] _
          refine XS.goto X171.here hx rfl (pc0 := 133) (pc' := 137) rfl (hb hby at_133) (by decide) (by decide) ?_
          show oS p e below T171 m 137 #[iv p0, iv p1, iv p2, iv p3, iv 2, rv b161, jv wh, sn, jv 16, sn, iv c1, iv c2, un, un, un, un, un, un, un, un, un, un, un, un, un] [(.int (1 : Int32))] _
          refine XS.istore X171.here hx rfl (hb hby at_137) rfl (l' := #[iv p0, iv p1, iv p2, iv p3, iv 2, rv b161, jv wh, sn, jv 16, sn, iv c1, iv c2, iv 1, un, un, un, un, un, un, un, un, un, un, un, un]) rfl ?_
          show oS p e below T171 m 139 #[iv p0, iv p1, iv p2, iv p3, iv 2, rv b161, jv wh, sn, jv 16, sn, iv c1, iv c2, iv 1, un, un, un, un, un, un, un, un, un, un, un, un] [] _
          refine XS.iload X171.here hx rfl (hb hby at_139) rfl ?_
          show oS p e below T171 m 141 #[iv p0, iv p1, iv p2, iv p3, iv 2, rv b161, jv wh, sn, jv 16, sn, iv c1, iv c2, iv 1, un, un, un, un, un, un, un, un, un, un, un, un] [(.int (1 : Int32))] _
          refine XS.ifNo X171.here hx rfl (hb hby at_141) rfl ((if0 _ _).trans (feq (by decide : ¬ ((1 : Int32) = (0 : Int32)))).1) ?_
          show oS p e below T171 m 144 #[iv p0, iv p1, iv p2, iv p3, iv 2, rv b161, jv wh, sn, jv 16, sn, iv c1, iv c2, iv 1, un, un, un, un, un, un, un, un, un, un, un, un] [] _
          refine XS.iload X171.here hx rfl (hb hby at_144) rfl ?_
          show oS p e below T171 m 146 #[iv p0, iv p1, iv p2, iv p3, iv 2, rv b161, jv wh, sn, jv 16, sn, iv c1, iv c2, iv 1, un, un, un, un, un, un, un, un, un, un, un, un] [(.int c1)] _
          refine XS.i2l X171.here hx rfl (hb hby at_146) rfl ?_
          show oS p e below T171 m 147 #[iv p0, iv p1, iv p2, iv p3, iv 2, rv b161, jv wh, sn, jv 16, sn, iv c1, iv c2, iv 1, un, un, un, un, un, un, un, un, un, un, un, un] [(.long (c1.toInt64))] _
          refine XS.goto X171.here hx rfl (pc0 := 147) (pc' := 152) rfl (hb hby at_147) (by decide) (by decide) ?_
          show oS p e below T171 m 152 #[iv p0, iv p1, iv p2, iv p3, iv 2, rv b161, jv wh, sn, jv 16, sn, iv c1, iv c2, iv 1, un, un, un, un, un, un, un, un, un, un, un, un] [(.long (c1.toInt64))] _
          refine XS.lstore X171.here hx rfl (hb hby at_152) rfl (l' := #[iv p0, iv p1, iv p2, iv p3, iv 2, rv b161, jv wh, sn, jv 16, sn, iv c1, iv c2, iv 1, jv (c1.toInt64), sn, un, un, un, un, un, un, un, un, un, un]) rfl ?_
          exact kt)
        clear pre186
        exact ⟨(1 : Int32), (c1.toInt64), own_r1a c1 (16 : Int64) 16 (by decide) hc129_187, pre189⟩
    clear pre184
    obtain ⟨r2v, p2v, hm190, pre190⟩ : ∃ (r2v : Int32) (p2v : Int64), ((r2v = (1 : Int32) ∧ c2.toInt ≤ 16 - p1v.toInt ∧ p2v.toInt = p1v.toInt + c2.toInt) ∨ (r2v = (0 : Int32) ∧ 16 - p1v.toInt < c2.toInt ∧ p2v.toInt = 16)) ∧ ∀ t, oS p e below T171 m 191 #[iv p0, iv p1, iv p2, iv p3, iv 2, rv b161, jv wh, sn, jv 16, sn, iv c1, iv c2, iv r1v, jv p1v, sn, iv r2v, jv p2v, sn, un, un, un, un, un, un, un] [] t → oE p e below s₁ m #[(.int p0), (.int p1), (.int p2), (.int p3)] maxLocals t := by
      have pre191 : ∀ t, oS p e below T171 m 163 #[iv p0, iv p1, iv p2, iv p3, iv 2, rv b161, jv wh, sn, jv 16, sn, iv c1, iv c2, iv r1v, jv p1v, sn, un, un, un, un, un, un, un, un, un, un] [(.int (lcmpW (c2.toInt64) ((16 : Int64) - p1v)))] t → oE p e below s₁ m #[(.int p0), (.int p1), (.int p2), (.int p3)] maxLocals t := fun t kt => pre185 t (by
        show oS p e below T171 m 154 #[iv p0, iv p1, iv p2, iv p3, iv 2, rv b161, jv wh, sn, jv 16, sn, iv c1, iv c2, iv r1v, jv p1v, sn, un, un, un, un, un, un, un, un, un, un] [] _
        refine XS.iload X171.here hx rfl (hb hby at_154) rfl ?_
        show oS p e below T171 m 156 #[iv p0, iv p1, iv p2, iv p3, iv 2, rv b161, jv wh, sn, jv 16, sn, iv c1, iv c2, iv r1v, jv p1v, sn, un, un, un, un, un, un, un, un, un, un] [(.int c2)] _
        refine XS.i2l X171.here hx rfl (hb hby at_156) rfl ?_
        show oS p e below T171 m 157 #[iv p0, iv p1, iv p2, iv p3, iv 2, rv b161, jv wh, sn, jv 16, sn, iv c1, iv c2, iv r1v, jv p1v, sn, un, un, un, un, un, un, un, un, un, un] [(.long (c2.toInt64))] _
        refine XS.lload X171.here hx rfl (hb hby at_157) rfl ?_
        show oS p e below T171 m 159 #[iv p0, iv p1, iv p2, iv p3, iv 2, rv b161, jv wh, sn, jv 16, sn, iv c1, iv c2, iv r1v, jv p1v, sn, un, un, un, un, un, un, un, un, un, un] [(.long (16 : Int64)), (.long (c2.toInt64))] _
        refine XS.lload X171.here hx rfl (hb hby at_159) rfl ?_
        show oS p e below T171 m 161 #[iv p0, iv p1, iv p2, iv p3, iv 2, rv b161, jv wh, sn, jv 16, sn, iv c1, iv c2, iv r1v, jv p1v, sn, un, un, un, un, un, un, un, un, un, un] [(.long p1v), (.long (16 : Int64)), (.long (c2.toInt64))] _
        refine XS.lsub X171.here hx rfl (hb hby at_161) rfl ?_
        show oS p e below T171 m 162 #[iv p0, iv p1, iv p2, iv p3, iv 2, rv b161, jv wh, sn, jv 16, sn, iv c1, iv c2, iv r1v, jv p1v, sn, un, un, un, un, un, un, un, un, un, un] [(.long ((16 : Int64) - p1v)), (.long (c2.toInt64))] _
        refine XS.lcmp X171.here hx rfl (hb hby at_162) rfl ?_
        exact kt)
      clear pre185
      by_cases hc163_192 : ((16 : Int64) - p1v) < (c2.toInt64)
      · have pre193 : ∀ t, oS p e below T171 m 191 #[iv p0, iv p1, iv p2, iv p3, iv 2, rv b161, jv wh, sn, jv 16, sn, iv c1, iv c2, iv r1v, jv p1v, sn, iv 0, jv 16, sn, un, un, un, un, un, un, un] [] t → oE p e below s₁ m #[(.int p0), (.int p1), (.int p2), (.int p3)] maxLocals t := fun t kt => pre191 t (by
          show oS p e below T171 m 163 #[iv p0, iv p1, iv p2, iv p3, iv 2, rv b161, jv wh, sn, jv 16, sn, iv c1, iv c2, iv r1v, jv p1v, sn, un, un, un, un, un, un, un, un, un, un] [(.int (lcmpW (c2.toInt64) ((16 : Int64) - p1v)))] _
          refine XS.ifYes X171.here hx rfl (pc0 := 163) (pc' := 170) rfl (hb hby at_163) rfl (Jvm.Free.XT.ll_gt_t hc163_192) (by decide) (by decide) ?_
          show oS p e below T171 m 170 #[iv p0, iv p1, iv p2, iv p3, iv 2, rv b161, jv wh, sn, jv 16, sn, iv c1, iv c2, iv r1v, jv p1v, sn, un, un, un, un, un, un, un, un, un, un] [] _
          refine XS.iconst X171.here hx rfl (hb hby at_170) ?_
          show oS p e below T171 m 171 #[iv p0, iv p1, iv p2, iv p3, iv 2, rv b161, jv wh, sn, jv 16, sn, iv c1, iv c2, iv r1v, jv p1v, sn, un, un, un, un, un, un, un, un, un, un] [(.int (0 : Int32))] _
          refine XS.istore X171.here hx rfl (hb hby at_171) rfl (l' := #[iv p0, iv p1, iv p2, iv p3, iv 2, rv b161, jv wh, sn, jv 16, sn, iv c1, iv c2, iv r1v, jv p1v, sn, iv 0, un, un, un, un, un, un, un, un, un]) rfl ?_
          show oS p e below T171 m 173 #[iv p0, iv p1, iv p2, iv p3, iv 2, rv b161, jv wh, sn, jv 16, sn, iv c1, iv c2, iv r1v, jv p1v, sn, iv 0, un, un, un, un, un, un, un, un, un] [] _
          refine XS.iload X171.here hx rfl (hb hby at_173) rfl ?_
          show oS p e below T171 m 175 #[iv p0, iv p1, iv p2, iv p3, iv 2, rv b161, jv wh, sn, jv 16, sn, iv c1, iv c2, iv r1v, jv p1v, sn, iv 0, un, un, un, un, un, un, un, un, un] [(.int (0 : Int32))] _
          refine XS.ifYes X171.here hx rfl (pc0 := 175) (pc' := 187) rfl (hb hby at_175) rfl ((if0 _ _).trans (teq (by decide : (0 : Int32) = (0 : Int32))).1) (by decide) (by decide) ?_
          show oS p e below T171 m 187 #[iv p0, iv p1, iv p2, iv p3, iv 2, rv b161, jv wh, sn, jv 16, sn, iv c1, iv c2, iv r1v, jv p1v, sn, iv 0, un, un, un, un, un, un, un, un, un] [] _
          refine XS.lload X171.here hx rfl (hb hby at_187) rfl ?_
          show oS p e below T171 m 189 #[iv p0, iv p1, iv p2, iv p3, iv 2, rv b161, jv wh, sn, jv 16, sn, iv c1, iv c2, iv r1v, jv p1v, sn, iv 0, un, un, un, un, un, un, un, un, un] [(.long (16 : Int64))] _
          refine XS.lstore X171.here hx rfl (hb hby at_189) rfl (l' := #[iv p0, iv p1, iv p2, iv p3, iv 2, rv b161, jv wh, sn, jv 16, sn, iv c1, iv c2, iv r1v, jv p1v, sn, iv 0, jv 16, sn, un, un, un, un, un, un, un]) rfl ?_
          exact kt)
        clear pre191
        exact ⟨(0 : Int32), (16 : Int64), own_r2b c2 (16 : Int64) p1v 16 (by decide) (by decide) (own_pb 16 r1v c1 p1v (by decide) hm178.1 hm185) hm180 hc163_192, pre193⟩
      · have pre194 : ∀ t, oS p e below T171 m 191 #[iv p0, iv p1, iv p2, iv p3, iv 2, rv b161, jv wh, sn, jv 16, sn, iv c1, iv c2, iv r1v, jv p1v, sn, iv 1, jv (p1v + (c2.toInt64)), sn, un, un, un, un, un, un, un] [] t → oE p e below s₁ m #[(.int p0), (.int p1), (.int p2), (.int p3)] maxLocals t := fun t kt => pre191 t (by
          show oS p e below T171 m 163 #[iv p0, iv p1, iv p2, iv p3, iv 2, rv b161, jv wh, sn, jv 16, sn, iv c1, iv c2, iv r1v, jv p1v, sn, un, un, un, un, un, un, un, un, un, un] [(.int (lcmpW (c2.toInt64) ((16 : Int64) - p1v)))] _
          refine XS.ifNo X171.here hx rfl (hb hby at_163) rfl (Jvm.Free.XT.ll_gt_f hc163_192) ?_
          show oS p e below T171 m 166 #[iv p0, iv p1, iv p2, iv p3, iv 2, rv b161, jv wh, sn, jv 16, sn, iv c1, iv c2, iv r1v, jv p1v, sn, un, un, un, un, un, un, un, un, un, un] [] _
          refine XS.iconst X171.here hx rfl (hb hby at_166) ?_
          show oS p e below T171 m 167 #[iv p0, iv p1, iv p2, iv p3, iv 2, rv b161, jv wh, sn, jv 16, sn, iv c1, iv c2, iv r1v, jv p1v, sn, un, un, un, un, un, un, un, un, un, un] [(.int (1 : Int32))] _
          refine XS.goto X171.here hx rfl (pc0 := 167) (pc' := 171) rfl (hb hby at_167) (by decide) (by decide) ?_
          show oS p e below T171 m 171 #[iv p0, iv p1, iv p2, iv p3, iv 2, rv b161, jv wh, sn, jv 16, sn, iv c1, iv c2, iv r1v, jv p1v, sn, un, un, un, un, un, un, un, un, un, un] [(.int (1 : Int32))] _
          refine XS.istore X171.here hx rfl (hb hby at_171) rfl (l' := #[iv p0, iv p1, iv p2, iv p3, iv 2, rv b161, jv wh, sn, jv 16, sn, iv c1, iv c2, iv r1v, jv p1v, sn, iv 1, un, un, un, un, un, un, un, un, un]) rfl ?_
          show oS p e below T171 m 173 #[iv p0, iv p1, iv p2, iv p3, iv 2, rv b161, jv wh, sn, jv 16, sn, iv c1, iv c2, iv r1v, jv p1v, sn, iv 1, un, un, un, un, un, un, un, un, un] [] _
          refine XS.iload X171.here hx rfl (hb hby at_173) rfl ?_
          show oS p e below T171 m 175 #[iv p0, iv p1, iv p2, iv p3, iv 2, rv b161, jv wh, sn, jv 16, sn, iv c1, iv c2, iv r1v, jv p1v, sn, iv 1, un, un, un, un, un, un, un, un, un] [(.int (1 : Int32))] _
          refine XS.ifNo X171.here hx rfl (hb hby at_175) rfl ((if0 _ _).trans (feq (by decide : ¬ ((1 : Int32) = (0 : Int32)))).1) ?_
          show oS p e below T171 m 178 #[iv p0, iv p1, iv p2, iv p3, iv 2, rv b161, jv wh, sn, jv 16, sn, iv c1, iv c2, iv r1v, jv p1v, sn, iv 1, un, un, un, un, un, un, un, un, un] [] _
          refine XS.lload X171.here hx rfl (hb hby at_178) rfl ?_
          show oS p e below T171 m 180 #[iv p0, iv p1, iv p2, iv p3, iv 2, rv b161, jv wh, sn, jv 16, sn, iv c1, iv c2, iv r1v, jv p1v, sn, iv 1, un, un, un, un, un, un, un, un, un] [(.long p1v)] _
          refine XS.iload X171.here hx rfl (hb hby at_180) rfl ?_
          show oS p e below T171 m 182 #[iv p0, iv p1, iv p2, iv p3, iv 2, rv b161, jv wh, sn, jv 16, sn, iv c1, iv c2, iv r1v, jv p1v, sn, iv 1, un, un, un, un, un, un, un, un, un] [(.int c2), (.long p1v)] _
          refine XS.i2l X171.here hx rfl (hb hby at_182) rfl ?_
          show oS p e below T171 m 183 #[iv p0, iv p1, iv p2, iv p3, iv 2, rv b161, jv wh, sn, jv 16, sn, iv c1, iv c2, iv r1v, jv p1v, sn, iv 1, un, un, un, un, un, un, un, un, un] [(.long (c2.toInt64)), (.long p1v)] _
          refine XS.ladd X171.here hx rfl (hb hby at_183) rfl ?_
          show oS p e below T171 m 184 #[iv p0, iv p1, iv p2, iv p3, iv 2, rv b161, jv wh, sn, jv 16, sn, iv c1, iv c2, iv r1v, jv p1v, sn, iv 1, un, un, un, un, un, un, un, un, un] [(.long (p1v + (c2.toInt64)))] _
          refine XS.goto X171.here hx rfl (pc0 := 184) (pc' := 189) rfl (hb hby at_184) (by decide) (by decide) ?_
          show oS p e below T171 m 189 #[iv p0, iv p1, iv p2, iv p3, iv 2, rv b161, jv wh, sn, jv 16, sn, iv c1, iv c2, iv r1v, jv p1v, sn, iv 1, un, un, un, un, un, un, un, un, un] [(.long (p1v + (c2.toInt64)))] _
          refine XS.lstore X171.here hx rfl (hb hby at_189) rfl (l' := #[iv p0, iv p1, iv p2, iv p3, iv 2, rv b161, jv wh, sn, jv 16, sn, iv c1, iv c2, iv r1v, jv p1v, sn, iv 1, jv (p1v + (c2.toInt64)), sn, un, un, un, un, un, un, un]) rfl ?_
          exact kt)
        clear pre191
        exact ⟨(1 : Int32), (p1v + (c2.toInt64)), own_r2a c2 (16 : Int64) p1v 16 (by decide) (by decide) (own_pb 16 r1v c1 p1v (by decide) hm178.1 hm185) hm180 hc163_192, pre194⟩
    clear pre185
    obtain ⟨T195, h195, X195, e195, E195, A195, D195, -, st195⟩ := newO X171 hx hZ hown (hw _ (List.mem_of_getElem? (i := 4) rfl)) (hw _ (List.mem_of_getElem? (i := 5) rfl)) (hw _ (List.mem_of_getElem? (i := 6) rfl)) e171 (g := (mkF m 191 #[iv p0, iv p1, iv p2, iv p3, iv 2, rv b161, jv wh, sn, jv 16, sn, iv c1, iv c2, iv r1v, jv p1v, sn, iv r2v, jv p2v, sn, un, un, un, un, un, un, un] [])) rfl (hb hby at_191) (by decide) (by decide)
    obtain ⟨b195, g195⟩ : ∃ z, z = h171.size := ⟨_, rfl⟩
    rw [← g195] at A195 D195 st195
    have ne_b161_b195 : b161 ≠ b195 := Nat.ne_of_lt (Nat.lt_of_lt_of_le V171.lt (Nat.le_of_eq g195.symm))
    have pre196 : ∀ t, oS p e below T195 m 194 #[iv p0, iv p1, iv p2, iv p3, iv 2, rv b161, jv wh, sn, jv 16, sn, iv c1, iv c2, iv r1v, jv p1v, sn, iv r2v, jv p2v, sn, un, un, un, un, un, un, un] [(.ref b195)] t → oE p e below s₁ m #[(.int p0), (.int p1), (.int p2), (.int p3)] maxLocals t := fun t kt => pre190 t (st195 _ kt)
    clear pre190 st195
    have F197 : Arv Z h195 b161 k161 .byte (2 : Int32) [(.int by0), (.int by1)] (.int (0 : Int32)) := V171.ext E195
    have gn195 : n0 ≤ b195 := Nat.le_trans Z171 (Nat.le_of_eq g195.symm)
    have sz195 : h0.size ≤ b195 := Nat.le_trans K171.1 (Nat.le_of_eq g195.symm)
    have K195 : Keep h0 h195 [] := K171.ext E195
    have Z195 : n0 ≤ h195.size := Nat.le_trans Z171 E195.1
    have Fn195_data : Fld Z h195 b195 vB "data" "[B" .null := D195 (Or.inr (hw _ (List.mem_of_getElem? (i := 14) rfl))) (ty := (.array .byte)) (by decide)
    have Fn195_size : Fld Z h195 b195 vB "size" "J" (.long (0 : Int64)) := D195 (Or.inr (hw _ (List.mem_of_getElem? (i := 17) rfl))) (ty := .long) (by decide)
    have Fn195_position : Fld Z h195 b195 vB "position" "J" (.long (0 : Int64)) := D195 (Or.inl (hw _ (List.mem_of_getElem? (i := 24) rfl))) (ty := .long) (by decide)
    have Fn195_ended : Fld Z h195 b195 vB "ended" "Z" (.int (0 : Int32)) := D195 (Or.inl (hw _ (List.mem_of_getElem? (i := 26) rfl))) (ty := .boolean) (by decide)
    have pre198 : ∀ t, oS p e below T195 m 197 #[iv p0, iv p1, iv p2, iv p3, iv 2, rv b161, jv wh, sn, jv 16, sn, iv c1, iv c2, iv r1v, jv p1v, sn, iv r2v, jv p2v, sn, un, un, un, un, un, un, un] [(.ref b161), (.ref b195), (.ref b195)] t → oE p e below s₁ m #[(.int p0), (.int p1), (.int p2), (.int p3)] maxLocals t := fun t kt => pre196 t (by
      show oS p e below T195 m 194 #[iv p0, iv p1, iv p2, iv p3, iv 2, rv b161, jv wh, sn, jv 16, sn, iv c1, iv c2, iv r1v, jv p1v, sn, iv r2v, jv p2v, sn, un, un, un, un, un, un, un] [(.ref b195)] _
      refine XS.dup X195.here hx rfl (hb hby at_194) rfl rfl ?_
      show oS p e below T195 m 195 #[iv p0, iv p1, iv p2, iv p3, iv 2, rv b161, jv wh, sn, jv 16, sn, iv c1, iv c2, iv r1v, jv p1v, sn, iv r2v, jv p2v, sn, un, un, un, un, un, un, un] [(.ref b195), (.ref b195)] _
      refine XS.aload X195.here hx rfl (hb hby at_195) rfl rfl ?_
      exact kt)
    clear pre196
    obtain ⟨_, _, ⟨T199, L199, k199, n199⟩, -, X199, ⟨Lc199, hQ199, l199, y199, z199⟩, st199⟩ := X195.specialBack hx (y := (⟨vB, "<init>", "([B)V"⟩ : MethodName)) rfl hown (mvT hZ (hw _ (List.mem_of_getElem? (i := 7) rfl))) (mvT hZ (hw _ (List.mem_of_getElem? (i := 8) rfl))) (mvT hZ (hw _ (List.mem_of_getElem? (i := 9) rfl))) (by decide) (backOf (W := 1) (rm1c2 l Z av hw [] b195 b161 k161 by0 by1 h195 n0 Z195 A195 gn195 Fn195_data Fn195_size Fn195_position Fn195_ended F197 (Ne.symm ne_b161_b195)) hZ (hw _ (List.mem_of_getElem? (i := 9) rfl)) (hw _ (List.mem_of_getElem? (i := 6) rfl)) (by decide) (by decide)) (g := (mkF m 197 #[iv p0, iv p1, iv p2, iv p3, iv 2, rv b161, jv wh, sn, jv 16, sn, iv c1, iv c2, iv r1v, jv p1v, sn, iv r2v, jv p2v, sn, un, un, un, un, un, un, un] [(.ref b161), (.ref b195), (.ref b195)])) rfl (by rw [hml]; rfl) (Steps.refl _) (a := b195) (argsL := [(.ref b161)]) (rest := [(.ref b195)]) (lenOf pd___B_V rfl) rfl (by show 2 * 0 + _ ≤ _; exact Nat.le_of_eq rfl) (hb hby at_197) (fun _ _ => ⟨rfl, e195, (by decide : 2 + 0 ≤ _), (by decide : 6 + 0 ≤ _)⟩)
    dsimp only [Pt.U, Pt.locs, Pt.cells, Pt.slots] at X199 l199 y199 z199 st199 hQ199
    rw [l199, y199, z199] at X199
    clear l199 y199 z199
    obtain ⟨rfl, N199q, Kq199, Fq199_0, Fq199_1, Fq199_2, Fq199_3, Fq199_4⟩ := hQ199
    have N199 := Fr.app N171 N199q
    have F200 : Arv Z T199.heap b161 k161 .byte (2 : Int32) [(.int by0), (.int by1)] (.int (0 : Int32)) := F197.keep Kq199 (ninS ne_b161_b195 nin0)
    have K199 : Keep h0 T199.heap [] := K195.trans Kq199 (allS (Or.inr sz195) all0)
    have Z199 : n0 ≤ T199.heap.size := Nat.le_trans Z195 Kq199.1
    have Fq199_0' : Exa Z T199.heap b195 vB := Fq199_0
    have Fq199_1' : Fld Z T199.heap b195 vB "data" "[B" (.ref b161) := Fq199_1
    have Fq199_2' : Fld Z T199.heap b195 vB "size" "J" (.long ((8 : Int64) * ((2 : Int32).toInt64))) := Fq199_2
    have Fq199_3' : Fld Z T199.heap b195 vB "position" "J" (.long (0 : Int64)) := Fq199_3
    have Fq199_4' : Fld Z T199.heap b195 vB "ended" "Z" (.int (0 : Int32)) := Fq199_4
    have pre201 : ∀ t, oS p e below T199 m 200 #[iv p0, iv p1, iv p2, iv p3, iv 2, rv b161, jv wh, sn, jv 16, sn, iv c1, iv c2, iv r1v, jv p1v, sn, iv r2v, jv p2v, sn, un, un, un, un, un, un, un] [(.ref b195)] t → oE p e below s₁ m #[(.int p0), (.int p1), (.int p2), (.int p3)] maxLocals t := fun t kt => pre198 t (st199.trans kt)
    clear pre198 st199
    have pre202 : ∀ t, oS p e below T199 m 206 #[iv p0, iv p1, iv p2, iv p3, iv 2, rv b161, jv wh, sn, jv 16, sn, iv c1, iv c2, iv r1v, jv p1v, sn, iv r2v, jv p2v, sn, rv b195, un, un, un, un, un, un] [(.int c1), (.ref b195)] t → oE p e below s₁ m #[(.int p0), (.int p1), (.int p2), (.int p3)] maxLocals t := fun t kt => pre201 t (by
      show oS p e below T199 m 200 #[iv p0, iv p1, iv p2, iv p3, iv 2, rv b161, jv wh, sn, jv 16, sn, iv c1, iv c2, iv r1v, jv p1v, sn, iv r2v, jv p2v, sn, un, un, un, un, un, un, un] [(.ref b195)] _
      refine XS.astore X199.here hx rfl (hb hby at_200) rfl rfl (l' := #[iv p0, iv p1, iv p2, iv p3, iv 2, rv b161, jv wh, sn, jv 16, sn, iv c1, iv c2, iv r1v, jv p1v, sn, iv r2v, jv p2v, sn, rv b195, un, un, un, un, un, un]) rfl ?_
      show oS p e below T199 m 202 #[iv p0, iv p1, iv p2, iv p3, iv 2, rv b161, jv wh, sn, jv 16, sn, iv c1, iv c2, iv r1v, jv p1v, sn, iv r2v, jv p2v, sn, rv b195, un, un, un, un, un, un] [] _
      refine XS.aload X199.here hx rfl (hb hby at_202) rfl rfl ?_
      show oS p e below T199 m 204 #[iv p0, iv p1, iv p2, iv p3, iv 2, rv b161, jv wh, sn, jv 16, sn, iv c1, iv c2, iv r1v, jv p1v, sn, iv r2v, jv p2v, sn, rv b195, un, un, un, un, un, un] [(.ref b195)] _
      refine XS.iload X199.here hx rfl (hb hby at_204) rfl ?_
      exact kt)
    clear pre201
    obtain ⟨cq203, kq203, q203a, q203b, q203c⟩ := isOf hZ rfl Fq199_0'
    obtain ⟨_, _, ⟨T204, L204, k204, n204⟩, -, X204, ⟨Lc204, hQ204, l204, y204, z204⟩, st204⟩ := X199.virtualBack hx (y := (⟨vB, "skip", "(I)Z"⟩ : MethodName)) (z := (⟨vB, "skip", "(I)Z"⟩ : MethodName)) hown (mvT hZ (hw _ (List.mem_of_getElem? (i := 18) rfl))) (mvT hZ (hw _ (List.mem_of_getElem? (i := 19) rfl))) (notFace_of_selects (args := #[]) (mvT hZ (hw _ (List.mem_of_getElem? (i := 21) rfl)))) (mvT hZ (hw _ (List.mem_of_getElem? (i := 21) rfl))) (mvT hZ (hw _ (List.mem_of_getElem? (i := 20) rfl))) (by decide) (backOf (W := 0) (rm3 l Z av hw [] b195 c1 b161 ((8 : Int64) * ((2 : Int32).toInt64)) (0 : Int64) (0 : Int32) T199.heap n0 Z199 Fq199_0' gn195 Fq199_1' Fq199_2' Fq199_3' Fq199_4') hZ (hw _ (List.mem_of_getElem? (i := 22) rfl)) (hw _ (List.mem_of_getElem? (i := 6) rfl)) (by decide) (by decide)) q203a q203c (g := (mkF m 206 #[iv p0, iv p1, iv p2, iv p3, iv 2, rv b161, jv wh, sn, jv 16, sn, iv c1, iv c2, iv r1v, jv p1v, sn, iv r2v, jv p2v, sn, rv b195, un, un, un, un, un, un] [(.int c1), (.ref b195)])) rfl (by rw [hml]; rfl) (Steps.refl _) (argsL := [(.int c1)]) (rest := []) (lenOf pd__I_Z rfl) rfl (by show 2 * 0 + _ ≤ _; exact Nat.le_of_eq rfl) (hb hby at_206) (fun _ _ => ⟨rfl, rfl, (by decide : 2 + 0 ≤ _), (by decide : 6 + 0 ≤ _)⟩)
    dsimp only [Pt.U, Pt.locs, Pt.cells, Pt.slots] at X204 l204 y204 z204 st204 hQ204
    rw [l204, y204, z204] at X204
    clear l204 y204 z204
    obtain ⟨rv204, ps204, ed204, rfl, Nz204, Kz204, ⟨Gz0, Gz1, Gz2, Gz3, Gz4⟩, Rl204⟩ := hQ204
    have hQ204 := And.intro (rfl : (0 : Nat) = 0) (And.intro Nz204 (And.intro Kz204 (And.intro Gz0 (And.intro Gz1 (And.intro Gz2 (And.intro Gz3 Gz4))))))
    obtain ⟨-, N204q, Kq204, Fq204_0, Fq204_1, Fq204_2, Fq204_3, Fq204_4⟩ := hQ204
    have N204 := Fr.app N199 N204q
    have F205 : Arv Z T204.heap b161 k161 .byte (2 : Int32) [(.int by0), (.int by1)] (.int (0 : Int32)) := F200.keep Kq204 (ninS ne_b161_b195 nin0)
    have K204 : Keep h0 T204.heap [] := K199.trans Kq204 (allS (Or.inr sz195) all0)
    have Z204 : n0 ≤ T204.heap.size := Nat.le_trans Z199 Kq204.1
    have Fq204_0' : Exa Z T204.heap b195 vB := Fq204_0
    have Fq204_1' : Fld Z T204.heap b195 vB "data" "[B" (.ref b161) := Fq204_1
    have Fq204_2' : Fld Z T204.heap b195 vB "size" "J" (.long ((8 : Int64) * ((2 : Int32).toInt64))) := Fq204_2
    have Fq204_3' : Fld Z T204.heap b195 vB "position" "J" (.long ps204) := Fq204_3
    have Fq204_4' : Fld Z T204.heap b195 vB "ended" "Z" (.int ed204) := Fq204_4
    have pre206 : ∀ t, oS p e below T204 m 209 #[iv p0, iv p1, iv p2, iv p3, iv 2, rv b161, jv wh, sn, jv 16, sn, iv c1, iv c2, iv r1v, jv p1v, sn, iv r2v, jv p2v, sn, rv b195, un, un, un, un, un, un] [(.int rv204)] t → oE p e below s₁ m #[(.int p0), (.int p1), (.int p2), (.int p3)] maxLocals t := fun t kt => pre202 t (st204.trans kt)
    clear pre202 st204
    have pre207 : ∀ t, oS p e below T204 m 215 #[iv p0, iv p1, iv p2, iv p3, iv 2, rv b161, jv wh, sn, jv 16, sn, iv c1, iv c2, iv r1v, jv p1v, sn, iv r2v, jv p2v, sn, rv b195, iv rv204, un, un, un, un, un] [(.int (32 : Int32)), (.ref b195)] t → oE p e below s₁ m #[(.int p0), (.int p1), (.int p2), (.int p3)] maxLocals t := fun t kt => pre206 t (by
      show oS p e below T204 m 209 #[iv p0, iv p1, iv p2, iv p3, iv 2, rv b161, jv wh, sn, jv 16, sn, iv c1, iv c2, iv r1v, jv p1v, sn, iv r2v, jv p2v, sn, rv b195, un, un, un, un, un, un] [(.int rv204)] _
      refine XS.istore X204.here hx rfl (hb hby at_209) rfl (l' := #[iv p0, iv p1, iv p2, iv p3, iv 2, rv b161, jv wh, sn, jv 16, sn, iv c1, iv c2, iv r1v, jv p1v, sn, iv r2v, jv p2v, sn, rv b195, iv rv204, un, un, un, un, un]) rfl ?_
      show oS p e below T204 m 211 #[iv p0, iv p1, iv p2, iv p3, iv 2, rv b161, jv wh, sn, jv 16, sn, iv c1, iv c2, iv r1v, jv p1v, sn, iv r2v, jv p2v, sn, rv b195, iv rv204, un, un, un, un, un] [] _
      refine XS.aload X204.here hx rfl (hb hby at_211) rfl rfl ?_
      show oS p e below T204 m 213 #[iv p0, iv p1, iv p2, iv p3, iv 2, rv b161, jv wh, sn, jv 16, sn, iv c1, iv c2, iv r1v, jv p1v, sn, iv r2v, jv p2v, sn, rv b195, iv rv204, un, un, un, un, un] [(.ref b195)] _
      refine XS.bipush X204.here hx rfl (hb hby at_213) ?_
      exact kt)
    clear pre206
    have sk208 := own_skr 16 0 ((8 : Int64) * ((2 : Int32).toInt64)) (0 : Int64) ps204 p1v c1 rv204 r1v (0 : Int32) ed204 (by decide) (by decide) (by decide) (by decide) hm178.1 hm185 Rl204
    obtain ⟨cq209, kq209, q209a, q209b, q209c⟩ := isOf hZ rfl Fq204_0'
    obtain ⟨_, _, ⟨T210, L210, k210, n210⟩, -, X210, ⟨Lc210, hQ210, l210, y210, z210⟩, st210⟩ := X204.virtualBack hx (y := (⟨vB, "peek", "(I)I"⟩ : MethodName)) (z := (⟨vB, "peek", "(I)I"⟩ : MethodName)) hown (mvT hZ (hw _ (List.mem_of_getElem? (i := 27) rfl))) (mvT hZ (hw _ (List.mem_of_getElem? (i := 28) rfl))) (notFace_of_selects (args := #[]) (mvT hZ (hw _ (List.mem_of_getElem? (i := 30) rfl)))) (mvT hZ (hw _ (List.mem_of_getElem? (i := 30) rfl))) (mvT hZ (hw _ (List.mem_of_getElem? (i := 29) rfl))) (by decide) (backOf (W := 0) (rm4p2 l Z av hw [] b195 b161 ((8 : Int64) * ((2 : Int32).toInt64)) ps204 ed204 k161 by0 by1 T204.heap n0 Z204 Fq204_0' gn195 Fq204_1' Fq204_2' Fq204_3' Fq204_4' F205 sk208.2.2.1) hZ (hw _ (List.mem_of_getElem? (i := 31) rfl)) (hw _ (List.mem_of_getElem? (i := 6) rfl)) (by decide) (by decide)) q209a q209c (g := (mkF m 215 #[iv p0, iv p1, iv p2, iv p3, iv 2, rv b161, jv wh, sn, jv 16, sn, iv c1, iv c2, iv r1v, jv p1v, sn, iv r2v, jv p2v, sn, rv b195, iv rv204, un, un, un, un, un] [(.int (32 : Int32)), (.ref b195)])) rfl (by rw [hml]; rfl) (Steps.refl _) (argsL := [(.int (32 : Int32))]) (rest := []) (lenOf pd__I_I rfl) rfl (by show 2 * 0 + _ ≤ _; exact Nat.le_of_eq rfl) (hb hby at_215) (fun _ _ => ⟨rfl, rfl, (by decide : 2 + 0 ≤ _), (by decide : 6 + 0 ≤ _)⟩)
    dsimp only [Pt.U, Pt.locs, Pt.cells, Pt.slots] at X210 l210 y210 z210 st210 hQ210
    rw [l210, y210, z210] at X210
    clear l210 y210 z210
    obtain ⟨rfl, N210q, e210⟩ := hQ210
    have N210 := Fr.app N204 N210q
    have pre211 : ∀ t, oS p e below T210 m 218 #[iv p0, iv p1, iv p2, iv p3, iv 2, rv b161, jv wh, sn, jv 16, sn, iv c1, iv c2, iv r1v, jv p1v, sn, iv r2v, jv p2v, sn, rv b195, iv rv204, un, un, un, un, un] [(.int (Int32.ofInt ((1 * (by0.toInt % 256) + 256 * (by1.toInt % 256)) / 2 ^ ps204.toInt.toNat)))] t → oE p e below s₁ m #[(.int p0), (.int p1), (.int p2), (.int p3)] maxLocals t := fun t kt => pre207 t (st210.trans kt)
    clear pre207 st210
    obtain ⟨kv218, hm212, pre212⟩ : ∃ (kv218 : Int32), (kv218 = (Int32.ofInt ((1 * (by0.toInt % 256) + 256 * (by1.toInt % 256)) / 2 ^ ps204.toInt.toNat))) ∧ ∀ t, oS p e below T210 m 218 #[iv p0, iv p1, iv p2, iv p3, iv 2, rv b161, jv wh, sn, jv 16, sn, iv c1, iv c2, iv r1v, jv p1v, sn, iv r2v, jv p2v, sn, rv b195, iv rv204, un, un, un, un, un] [(.int kv218)] t → oE p e below s₁ m #[(.int p0), (.int p1), (.int p2), (.int p3)] maxLocals t := ⟨(Int32.ofInt ((1 * (by0.toInt % 256) + 256 * (by1.toInt % 256)) / 2 ^ ps204.toInt.toNat)), rfl, pre211⟩
    clear pre211
    have pre213 : ∀ t, oS p e below T210 m 222 #[iv p0, iv p1, iv p2, iv p3, iv 2, rv b161, jv wh, sn, jv 16, sn, iv c1, iv c2, iv r1v, jv p1v, sn, iv r2v, jv p2v, sn, rv b195, iv rv204, iv kv218, un, un, un, un] [(.ref b195)] t → oE p e below s₁ m #[(.int p0), (.int p1), (.int p2), (.int p3)] maxLocals t := fun t kt => pre212 t (by
      show oS p e below T210 m 218 #[iv p0, iv p1, iv p2, iv p3, iv 2, rv b161, jv wh, sn, jv 16, sn, iv c1, iv c2, iv r1v, jv p1v, sn, iv r2v, jv p2v, sn, rv b195, iv rv204, un, un, un, un, un] [(.int kv218)] _
      refine XS.istore X210.here hx rfl (hb hby at_218) rfl (l' := #[iv p0, iv p1, iv p2, iv p3, iv 2, rv b161, jv wh, sn, jv 16, sn, iv c1, iv c2, iv r1v, jv p1v, sn, iv r2v, jv p2v, sn, rv b195, iv rv204, iv kv218, un, un, un, un]) rfl ?_
      show oS p e below T210 m 220 #[iv p0, iv p1, iv p2, iv p3, iv 2, rv b161, jv wh, sn, jv 16, sn, iv c1, iv c2, iv r1v, jv p1v, sn, iv r2v, jv p2v, sn, rv b195, iv rv204, iv kv218, un, un, un, un] [] _
      refine XS.aload X210.here hx rfl (hb hby at_220) rfl rfl ?_
      exact kt)
    clear pre212
    obtain ⟨cq214, kq214, q214a, q214b, q214c⟩ := isOf hZ e210 Fq204_0'
    obtain ⟨_, _, ⟨T215, L215, k215, n215⟩, -, X215, ⟨Lc215, hQ215, l215, y215, z215⟩, st215⟩ := X210.virtualBack hx (y := (⟨vB, "ended", "()Z"⟩ : MethodName)) (z := (⟨vB, "ended", "()Z"⟩ : MethodName)) hown (mvT hZ (hw _ (List.mem_of_getElem? (i := 37) rfl))) (mvT hZ (hw _ (List.mem_of_getElem? (i := 38) rfl))) (notFace_of_selects (args := #[]) (mvT hZ (hw _ (List.mem_of_getElem? (i := 40) rfl)))) (mvT hZ (hw _ (List.mem_of_getElem? (i := 40) rfl))) (mvT hZ (hw _ (List.mem_of_getElem? (i := 39) rfl))) (by decide) (backOf (W := 0) (rm6 l Z av hw [] b195 b161 ((8 : Int64) * ((2 : Int32).toInt64)) ps204 ed204 T204.heap n0 Z204 Fq204_0' gn195 Fq204_1' Fq204_2' Fq204_3' Fq204_4' (own_nar1 r1v ed204 sk208.2.2.2)) hZ (hw _ (List.mem_of_getElem? (i := 41) rfl)) (hw _ (List.mem_of_getElem? (i := 6) rfl)) (by decide) (by decide)) q214a q214c (g := (mkF m 222 #[iv p0, iv p1, iv p2, iv p3, iv 2, rv b161, jv wh, sn, jv 16, sn, iv c1, iv c2, iv r1v, jv p1v, sn, iv r2v, jv p2v, sn, rv b195, iv rv204, iv kv218, un, un, un, un] [(.ref b195)])) rfl (by rw [hml]; rfl) (Steps.refl _) (argsL := []) (rest := []) (lenOf pd___Z rfl) rfl (by show 2 * 0 + _ ≤ _; exact Nat.le_of_eq rfl) (hb hby at_222) (fun _ _ => ⟨rfl, e210, (by decide : 2 + 0 ≤ _), (by decide : 6 + 0 ≤ _)⟩)
    dsimp only [Pt.U, Pt.locs, Pt.cells, Pt.slots] at X215 l215 y215 z215 st215 hQ215
    rw [l215, y215, z215] at X215
    clear l215 y215 z215
    obtain ⟨rfl, N215q, e215⟩ := hQ215
    have N215 := Fr.app N210 N215q
    have pre216 : ∀ t, oS p e below T215 m 225 #[iv p0, iv p1, iv p2, iv p3, iv 2, rv b161, jv wh, sn, jv 16, sn, iv c1, iv c2, iv r1v, jv p1v, sn, iv r2v, jv p2v, sn, rv b195, iv rv204, iv kv218, un, un, un, un] [(.int ed204)] t → oE p e below s₁ m #[(.int p0), (.int p1), (.int p2), (.int p3)] maxLocals t := fun t kt => pre213 t (st215.trans kt)
    clear pre213 st215
    have pre217 : ∀ t, oS p e below T215 m 231 #[iv p0, iv p1, iv p2, iv p3, iv 2, rv b161, jv wh, sn, jv 16, sn, iv c1, iv c2, iv r1v, jv p1v, sn, iv r2v, jv p2v, sn, rv b195, iv rv204, iv kv218, iv ed204, un, un, un] [(.int c2), (.ref b195)] t → oE p e below s₁ m #[(.int p0), (.int p1), (.int p2), (.int p3)] maxLocals t := fun t kt => pre216 t (by
      show oS p e below T215 m 225 #[iv p0, iv p1, iv p2, iv p3, iv 2, rv b161, jv wh, sn, jv 16, sn, iv c1, iv c2, iv r1v, jv p1v, sn, iv r2v, jv p2v, sn, rv b195, iv rv204, iv kv218, un, un, un, un] [(.int ed204)] _
      refine XS.istore X215.here hx rfl (hb hby at_225) rfl (l' := #[iv p0, iv p1, iv p2, iv p3, iv 2, rv b161, jv wh, sn, jv 16, sn, iv c1, iv c2, iv r1v, jv p1v, sn, iv r2v, jv p2v, sn, rv b195, iv rv204, iv kv218, iv ed204, un, un, un]) rfl ?_
      show oS p e below T215 m 227 #[iv p0, iv p1, iv p2, iv p3, iv 2, rv b161, jv wh, sn, jv 16, sn, iv c1, iv c2, iv r1v, jv p1v, sn, iv r2v, jv p2v, sn, rv b195, iv rv204, iv kv218, iv ed204, un, un, un] [] _
      refine XS.aload X215.here hx rfl (hb hby at_227) rfl rfl ?_
      show oS p e below T215 m 229 #[iv p0, iv p1, iv p2, iv p3, iv 2, rv b161, jv wh, sn, jv 16, sn, iv c1, iv c2, iv r1v, jv p1v, sn, iv r2v, jv p2v, sn, rv b195, iv rv204, iv kv218, iv ed204, un, un, un] [(.ref b195)] _
      refine XS.iload X215.here hx rfl (hb hby at_229) rfl ?_
      exact kt)
    clear pre216
    obtain ⟨cq218, kq218, q218a, q218b, q218c⟩ := isOf hZ e215 Fq204_0'
    obtain ⟨_, _, ⟨T219, L219, k219, n219⟩, -, X219, ⟨Lc219, hQ219, l219, y219, z219⟩, st219⟩ := X215.virtualBack hx (y := (⟨vB, "skip", "(I)Z"⟩ : MethodName)) (z := (⟨vB, "skip", "(I)Z"⟩ : MethodName)) hown (mvT hZ (hw _ (List.mem_of_getElem? (i := 18) rfl))) (mvT hZ (hw _ (List.mem_of_getElem? (i := 19) rfl))) (notFace_of_selects (args := #[]) (mvT hZ (hw _ (List.mem_of_getElem? (i := 21) rfl)))) (mvT hZ (hw _ (List.mem_of_getElem? (i := 21) rfl))) (mvT hZ (hw _ (List.mem_of_getElem? (i := 20) rfl))) (by decide) (backOf (W := 0) (rm3 l Z av hw [] b195 c2 b161 ((8 : Int64) * ((2 : Int32).toInt64)) ps204 ed204 T204.heap n0 Z204 Fq204_0' gn195 Fq204_1' Fq204_2' Fq204_3' Fq204_4') hZ (hw _ (List.mem_of_getElem? (i := 22) rfl)) (hw _ (List.mem_of_getElem? (i := 6) rfl)) (by decide) (by decide)) q218a q218c (g := (mkF m 231 #[iv p0, iv p1, iv p2, iv p3, iv 2, rv b161, jv wh, sn, jv 16, sn, iv c1, iv c2, iv r1v, jv p1v, sn, iv r2v, jv p2v, sn, rv b195, iv rv204, iv kv218, iv ed204, un, un, un] [(.int c2), (.ref b195)])) rfl (by rw [hml]; rfl) (Steps.refl _) (argsL := [(.int c2)]) (rest := []) (lenOf pd__I_Z rfl) rfl (by show 2 * 0 + _ ≤ _; exact Nat.le_of_eq rfl) (hb hby at_231) (fun _ _ => ⟨rfl, e215, (by decide : 2 + 0 ≤ _), (by decide : 6 + 0 ≤ _)⟩)
    dsimp only [Pt.U, Pt.locs, Pt.cells, Pt.slots] at X219 l219 y219 z219 st219 hQ219
    rw [l219, y219, z219] at X219
    clear l219 y219 z219
    obtain ⟨rv219, ps219, ed219, rfl, Nz219, Kz219, ⟨Gz0, Gz1, Gz2, Gz3, Gz4⟩, Rl219⟩ := hQ219
    have hQ219 := And.intro (rfl : (0 : Nat) = 0) (And.intro Nz219 (And.intro Kz219 (And.intro Gz0 (And.intro Gz1 (And.intro Gz2 (And.intro Gz3 Gz4))))))
    obtain ⟨-, N219q, Kq219, Fq219_0, Fq219_1, Fq219_2, Fq219_3, Fq219_4⟩ := hQ219
    have N219 := Fr.app N215 N219q
    have F220 : Arv Z T219.heap b161 k161 .byte (2 : Int32) [(.int by0), (.int by1)] (.int (0 : Int32)) := F205.keep Kq219 (ninS ne_b161_b195 nin0)
    have K219 : Keep h0 T219.heap [] := K204.trans Kq219 (allS (Or.inr sz195) all0)
    have Z219 : n0 ≤ T219.heap.size := Nat.le_trans Z204 Kq219.1
    have Fq219_0' : Exa Z T219.heap b195 vB := Fq219_0
    have Fq219_1' : Fld Z T219.heap b195 vB "data" "[B" (.ref b161) := Fq219_1
    have Fq219_2' : Fld Z T219.heap b195 vB "size" "J" (.long ((8 : Int64) * ((2 : Int32).toInt64))) := Fq219_2
    have Fq219_3' : Fld Z T219.heap b195 vB "position" "J" (.long ps219) := Fq219_3
    have Fq219_4' : Fld Z T219.heap b195 vB "ended" "Z" (.int ed219) := Fq219_4
    have pre221 : ∀ t, oS p e below T219 m 234 #[iv p0, iv p1, iv p2, iv p3, iv 2, rv b161, jv wh, sn, jv 16, sn, iv c1, iv c2, iv r1v, jv p1v, sn, iv r2v, jv p2v, sn, rv b195, iv rv204, iv kv218, iv ed204, un, un, un] [(.int rv219)] t → oE p e below s₁ m #[(.int p0), (.int p1), (.int p2), (.int p3)] maxLocals t := fun t kt => pre217 t (st219.trans kt)
    clear pre217 st219
    have pre222 : ∀ t, oS p e below T219 m 240 #[iv p0, iv p1, iv p2, iv p3, iv 2, rv b161, jv wh, sn, jv 16, sn, iv c1, iv c2, iv r1v, jv p1v, sn, iv r2v, jv p2v, sn, rv b195, iv rv204, iv kv218, iv ed204, iv rv219, un, un] [(.int (32 : Int32)), (.ref b195)] t → oE p e below s₁ m #[(.int p0), (.int p1), (.int p2), (.int p3)] maxLocals t := fun t kt => pre221 t (by
      show oS p e below T219 m 234 #[iv p0, iv p1, iv p2, iv p3, iv 2, rv b161, jv wh, sn, jv 16, sn, iv c1, iv c2, iv r1v, jv p1v, sn, iv r2v, jv p2v, sn, rv b195, iv rv204, iv kv218, iv ed204, un, un, un] [(.int rv219)] _
      refine XS.istore X219.here hx rfl (hb hby at_234) rfl (l' := #[iv p0, iv p1, iv p2, iv p3, iv 2, rv b161, jv wh, sn, jv 16, sn, iv c1, iv c2, iv r1v, jv p1v, sn, iv r2v, jv p2v, sn, rv b195, iv rv204, iv kv218, iv ed204, iv rv219, un, un]) rfl ?_
      show oS p e below T219 m 236 #[iv p0, iv p1, iv p2, iv p3, iv 2, rv b161, jv wh, sn, jv 16, sn, iv c1, iv c2, iv r1v, jv p1v, sn, iv r2v, jv p2v, sn, rv b195, iv rv204, iv kv218, iv ed204, iv rv219, un, un] [] _
      refine XS.aload X219.here hx rfl (hb hby at_236) rfl rfl ?_
      show oS p e below T219 m 238 #[iv p0, iv p1, iv p2, iv p3, iv 2, rv b161, jv wh, sn, jv 16, sn, iv c1, iv c2, iv r1v, jv p1v, sn, iv r2v, jv p2v, sn, rv b195, iv rv204, iv kv218, iv ed204, iv rv219, un, un] [(.ref b195)] _
      refine XS.bipush X219.here hx rfl (hb hby at_238) ?_
      exact kt)
    clear pre221
    have sk223 := own_skr 16 p1v.toInt ((8 : Int64) * ((2 : Int32).toInt64)) ps204 ps219 p2v c2 rv219 r2v ed204 ed219 (by decide) (by decide) sk208.2.1 (own_pb 16 r1v c1 p1v (by decide) hm178.1 hm185) hm180 hm190 Rl219
    obtain ⟨cq224, kq224, q224a, q224b, q224c⟩ := isOf hZ rfl Fq219_0'
    obtain ⟨_, _, ⟨T225, L225, k225, n225⟩, -, X225, ⟨Lc225, hQ225, l225, y225, z225⟩, st225⟩ := X219.virtualBack hx (y := (⟨vB, "peek", "(I)I"⟩ : MethodName)) (z := (⟨vB, "peek", "(I)I"⟩ : MethodName)) hown (mvT hZ (hw _ (List.mem_of_getElem? (i := 27) rfl))) (mvT hZ (hw _ (List.mem_of_getElem? (i := 28) rfl))) (notFace_of_selects (args := #[]) (mvT hZ (hw _ (List.mem_of_getElem? (i := 30) rfl)))) (mvT hZ (hw _ (List.mem_of_getElem? (i := 30) rfl))) (mvT hZ (hw _ (List.mem_of_getElem? (i := 29) rfl))) (by decide) (backOf (W := 0) (rm4p2 l Z av hw [] b195 b161 ((8 : Int64) * ((2 : Int32).toInt64)) ps219 ed219 k161 by0 by1 T219.heap n0 Z219 Fq219_0' gn195 Fq219_1' Fq219_2' Fq219_3' Fq219_4' F220 sk223.2.2.1) hZ (hw _ (List.mem_of_getElem? (i := 31) rfl)) (hw _ (List.mem_of_getElem? (i := 6) rfl)) (by decide) (by decide)) q224a q224c (g := (mkF m 240 #[iv p0, iv p1, iv p2, iv p3, iv 2, rv b161, jv wh, sn, jv 16, sn, iv c1, iv c2, iv r1v, jv p1v, sn, iv r2v, jv p2v, sn, rv b195, iv rv204, iv kv218, iv ed204, iv rv219, un, un] [(.int (32 : Int32)), (.ref b195)])) rfl (by rw [hml]; rfl) (Steps.refl _) (argsL := [(.int (32 : Int32))]) (rest := []) (lenOf pd__I_I rfl) rfl (by show 2 * 0 + _ ≤ _; exact Nat.le_of_eq rfl) (hb hby at_240) (fun _ _ => ⟨rfl, rfl, (by decide : 2 + 0 ≤ _), (by decide : 6 + 0 ≤ _)⟩)
    dsimp only [Pt.U, Pt.locs, Pt.cells, Pt.slots] at X225 l225 y225 z225 st225 hQ225
    rw [l225, y225, z225] at X225
    clear l225 y225 z225
    obtain ⟨rfl, N225q, e225⟩ := hQ225
    have N225 := Fr.app N219 N225q
    have pre226 : ∀ t, oS p e below T225 m 243 #[iv p0, iv p1, iv p2, iv p3, iv 2, rv b161, jv wh, sn, jv 16, sn, iv c1, iv c2, iv r1v, jv p1v, sn, iv r2v, jv p2v, sn, rv b195, iv rv204, iv kv218, iv ed204, iv rv219, un, un] [(.int (Int32.ofInt ((1 * (by0.toInt % 256) + 256 * (by1.toInt % 256)) / 2 ^ ps219.toInt.toNat)))] t → oE p e below s₁ m #[(.int p0), (.int p1), (.int p2), (.int p3)] maxLocals t := fun t kt => pre222 t (st225.trans kt)
    clear pre222 st225
    obtain ⟨kv243, hm227, pre227⟩ : ∃ (kv243 : Int32), (kv243 = (Int32.ofInt ((1 * (by0.toInt % 256) + 256 * (by1.toInt % 256)) / 2 ^ ps219.toInt.toNat))) ∧ ∀ t, oS p e below T225 m 243 #[iv p0, iv p1, iv p2, iv p3, iv 2, rv b161, jv wh, sn, jv 16, sn, iv c1, iv c2, iv r1v, jv p1v, sn, iv r2v, jv p2v, sn, rv b195, iv rv204, iv kv218, iv ed204, iv rv219, un, un] [(.int kv243)] t → oE p e below s₁ m #[(.int p0), (.int p1), (.int p2), (.int p3)] maxLocals t := ⟨(Int32.ofInt ((1 * (by0.toInt % 256) + 256 * (by1.toInt % 256)) / 2 ^ ps219.toInt.toNat)), rfl, pre226⟩
    clear pre226
    have pre228 : ∀ t, oS p e below T225 m 247 #[iv p0, iv p1, iv p2, iv p3, iv 2, rv b161, jv wh, sn, jv 16, sn, iv c1, iv c2, iv r1v, jv p1v, sn, iv r2v, jv p2v, sn, rv b195, iv rv204, iv kv218, iv ed204, iv rv219, iv kv243, un] [(.ref b195)] t → oE p e below s₁ m #[(.int p0), (.int p1), (.int p2), (.int p3)] maxLocals t := fun t kt => pre227 t (by
      show oS p e below T225 m 243 #[iv p0, iv p1, iv p2, iv p3, iv 2, rv b161, jv wh, sn, jv 16, sn, iv c1, iv c2, iv r1v, jv p1v, sn, iv r2v, jv p2v, sn, rv b195, iv rv204, iv kv218, iv ed204, iv rv219, un, un] [(.int kv243)] _
      refine XS.istore X225.here hx rfl (hb hby at_243) rfl (l' := #[iv p0, iv p1, iv p2, iv p3, iv 2, rv b161, jv wh, sn, jv 16, sn, iv c1, iv c2, iv r1v, jv p1v, sn, iv r2v, jv p2v, sn, rv b195, iv rv204, iv kv218, iv ed204, iv rv219, iv kv243, un]) rfl ?_
      show oS p e below T225 m 245 #[iv p0, iv p1, iv p2, iv p3, iv 2, rv b161, jv wh, sn, jv 16, sn, iv c1, iv c2, iv r1v, jv p1v, sn, iv r2v, jv p2v, sn, rv b195, iv rv204, iv kv218, iv ed204, iv rv219, iv kv243, un] [] _
      refine XS.aload X225.here hx rfl (hb hby at_245) rfl rfl ?_
      exact kt)
    clear pre227
    obtain ⟨cq229, kq229, q229a, q229b, q229c⟩ := isOf hZ e225 Fq219_0'
    obtain ⟨_, _, ⟨T230, L230, k230, n230⟩, -, X230, ⟨Lc230, hQ230, l230, y230, z230⟩, st230⟩ := X225.virtualBack hx (y := (⟨vB, "ended", "()Z"⟩ : MethodName)) (z := (⟨vB, "ended", "()Z"⟩ : MethodName)) hown (mvT hZ (hw _ (List.mem_of_getElem? (i := 37) rfl))) (mvT hZ (hw _ (List.mem_of_getElem? (i := 38) rfl))) (notFace_of_selects (args := #[]) (mvT hZ (hw _ (List.mem_of_getElem? (i := 40) rfl)))) (mvT hZ (hw _ (List.mem_of_getElem? (i := 40) rfl))) (mvT hZ (hw _ (List.mem_of_getElem? (i := 39) rfl))) (by decide) (backOf (W := 0) (rm6 l Z av hw [] b195 b161 ((8 : Int64) * ((2 : Int32).toInt64)) ps219 ed219 T219.heap n0 Z219 Fq219_0' gn195 Fq219_1' Fq219_2' Fq219_3' Fq219_4' (own_nar2 r1v ed204 r2v ed219 sk208.2.2.2 sk223.2.2.2)) hZ (hw _ (List.mem_of_getElem? (i := 41) rfl)) (hw _ (List.mem_of_getElem? (i := 6) rfl)) (by decide) (by decide)) q229a q229c (g := (mkF m 247 #[iv p0, iv p1, iv p2, iv p3, iv 2, rv b161, jv wh, sn, jv 16, sn, iv c1, iv c2, iv r1v, jv p1v, sn, iv r2v, jv p2v, sn, rv b195, iv rv204, iv kv218, iv ed204, iv rv219, iv kv243, un] [(.ref b195)])) rfl (by rw [hml]; rfl) (Steps.refl _) (argsL := []) (rest := []) (lenOf pd___Z rfl) rfl (by show 2 * 0 + _ ≤ _; exact Nat.le_of_eq rfl) (hb hby at_247) (fun _ _ => ⟨rfl, e225, (by decide : 2 + 0 ≤ _), (by decide : 6 + 0 ≤ _)⟩)
    dsimp only [Pt.U, Pt.locs, Pt.cells, Pt.slots] at X230 l230 y230 z230 st230 hQ230
    rw [l230, y230, z230] at X230
    clear l230 y230 z230
    obtain ⟨rfl, N230q, e230⟩ := hQ230
    have N230 := Fr.app N225 N230q
    have pre231 : ∀ t, oS p e below T230 m 250 #[iv p0, iv p1, iv p2, iv p3, iv 2, rv b161, jv wh, sn, jv 16, sn, iv c1, iv c2, iv r1v, jv p1v, sn, iv r2v, jv p2v, sn, rv b195, iv rv204, iv kv218, iv ed204, iv rv219, iv kv243, un] [(.int ed219)] t → oE p e below s₁ m #[(.int p0), (.int p1), (.int p2), (.int p3)] maxLocals t := fun t kt => pre228 t (st230.trans kt)
    clear pre228 st230
    have pre232 : ∀ t, oS p e below T230 m 275 #[iv p0, iv p1, iv p2, iv p3, iv 2, rv b161, jv wh, sn, jv 16, sn, iv c1, iv c2, iv r1v, jv p1v, sn, iv r2v, jv p2v, sn, rv b195, iv rv204, iv kv218, iv ed204, iv rv219, iv kv243, iv ed219] [(.int r1v), (.int ed204)] t → oE p e below s₁ m #[(.int p0), (.int p1), (.int p2), (.int p3)] maxLocals t := fun t kt => pre231 t (by
      show oS p e below T230 m 250 #[iv p0, iv p1, iv p2, iv p3, iv 2, rv b161, jv wh, sn, jv 16, sn, iv c1, iv c2, iv r1v, jv p1v, sn, iv r2v, jv p2v, sn, rv b195, iv rv204, iv kv218, iv ed204, iv rv219, iv kv243, un] [(.int ed219)] _
      refine XS.istore X230.here hx rfl (hb hby at_250) rfl (l' := #[iv p0, iv p1, iv p2, iv p3, iv 2, rv b161, jv wh, sn, jv 16, sn, iv c1, iv c2, iv r1v, jv p1v, sn, iv r2v, jv p2v, sn, rv b195, iv rv204, iv kv218, iv ed204, iv rv219, iv kv243, iv ed219]) rfl ?_
      show oS p e below T230 m 252 #[iv p0, iv p1, iv p2, iv p3, iv 2, rv b161, jv wh, sn, jv 16, sn, iv c1, iv c2, iv r1v, jv p1v, sn, iv r2v, jv p2v, sn, rv b195, iv rv204, iv kv218, iv ed204, iv rv219, iv kv243, iv ed219] [] _
      refine XS.iload X230.here hx rfl (hb hby at_252) rfl ?_
      show oS p e below T230 m 254 #[iv p0, iv p1, iv p2, iv p3, iv 2, rv b161, jv wh, sn, jv 16, sn, iv c1, iv c2, iv r1v, jv p1v, sn, iv r2v, jv p2v, sn, rv b195, iv rv204, iv kv218, iv ed204, iv rv219, iv kv243, iv ed219] [(.int rv204)] _
      refine XS.iload X230.here hx rfl (hb hby at_254) rfl ?_
      show oS p e below T230 m 256 #[iv p0, iv p1, iv p2, iv p3, iv 2, rv b161, jv wh, sn, jv 16, sn, iv c1, iv c2, iv r1v, jv p1v, sn, iv r2v, jv p2v, sn, rv b195, iv rv204, iv kv218, iv ed204, iv rv219, iv kv243, iv ed219] [(.int r1v), (.int rv204)] _
      refine XS.icmpNo X230.here hx rfl (hb hby at_256) rfl (teq sk208.1).2 ?_
      show oS p e below T230 m 259 #[iv p0, iv p1, iv p2, iv p3, iv 2, rv b161, jv wh, sn, jv 16, sn, iv c1, iv c2, iv r1v, jv p1v, sn, iv r2v, jv p2v, sn, rv b195, iv rv204, iv kv218, iv ed204, iv rv219, iv kv243, iv ed219] [] _
      refine XS.iload X230.here hx rfl (hb hby at_259) rfl ?_
      show oS p e below T230 m 261 #[iv p0, iv p1, iv p2, iv p3, iv 2, rv b161, jv wh, sn, jv 16, sn, iv c1, iv c2, iv r1v, jv p1v, sn, iv r2v, jv p2v, sn, rv b195, iv rv204, iv kv218, iv ed204, iv rv219, iv kv243, iv ed219] [(.int kv218)] _
      refine XS.lload X230.here hx rfl (hb hby at_261) rfl ?_
      show oS p e below T230 m 263 #[iv p0, iv p1, iv p2, iv p3, iv 2, rv b161, jv wh, sn, jv 16, sn, iv c1, iv c2, iv r1v, jv p1v, sn, iv r2v, jv p2v, sn, rv b195, iv rv204, iv kv218, iv ed204, iv rv219, iv kv243, iv ed219] [(.long wh), (.int kv218)] _
      refine XS.lload X230.here hx rfl (hb hby at_263) rfl ?_
      show oS p e below T230 m 265 #[iv p0, iv p1, iv p2, iv p3, iv 2, rv b161, jv wh, sn, jv 16, sn, iv c1, iv c2, iv r1v, jv p1v, sn, iv r2v, jv p2v, sn, rv b195, iv rv204, iv kv218, iv ed204, iv rv219, iv kv243, iv ed219] [(.long p1v), (.long wh), (.int kv218)] _
      refine XS.l2i X230.here hx rfl (hb hby at_265) rfl ?_
      show oS p e below T230 m 266 #[iv p0, iv p1, iv p2, iv p3, iv 2, rv b161, jv wh, sn, jv 16, sn, iv c1, iv c2, iv r1v, jv p1v, sn, iv r2v, jv p2v, sn, rv b195, iv rv204, iv kv218, iv ed204, iv rv219, iv kv243, iv ed219] [(.int (p1v.toInt32)), (.long wh), (.int kv218)] _
      refine XS.lushr X230.here hx rfl (hb hby at_266) rfl ?_
      show oS p e below T230 m 267 #[iv p0, iv p1, iv p2, iv p3, iv 2, rv b161, jv wh, sn, jv 16, sn, iv c1, iv c2, iv r1v, jv p1v, sn, iv r2v, jv p2v, sn, rv b195, iv rv204, iv kv218, iv ed204, iv rv219, iv kv243, iv ed219] [(.long ((wh.toUInt64 >>> ((p1v.toInt32) &&& 0x3f).toInt64.toUInt64).toInt64)), (.int kv218)] _
      refine XS.l2i X230.here hx rfl (hb hby at_267) rfl ?_
      show oS p e below T230 m 268 #[iv p0, iv p1, iv p2, iv p3, iv 2, rv b161, jv wh, sn, jv 16, sn, iv c1, iv c2, iv r1v, jv p1v, sn, iv r2v, jv p2v, sn, rv b195, iv rv204, iv kv218, iv ed204, iv rv219, iv kv243, iv ed219] [(.int (((wh.toUInt64 >>> ((p1v.toInt32) &&& 0x3f).toInt64.toUInt64).toInt64).toInt32)), (.int kv218)] _
      refine XS.icmpNo X230.here hx rfl (hb hby at_268) rfl (teq (hm212.trans (own_cmp wh p1v ps204 (1 * (by0.toInt % 256) + 256 * (by1.toInt % 256)) hm174 (by omega) sk208.2.1 (own_pb 16 r1v c1 p1v (by decide) hm178.1 hm185).1 (Int.le_trans (own_pb 16 r1v c1 p1v (by decide) hm178.1 hm185).2 (by decide))))).2 ?_
      show oS p e below T230 m 271 #[iv p0, iv p1, iv p2, iv p3, iv 2, rv b161, jv wh, sn, jv 16, sn, iv c1, iv c2, iv r1v, jv p1v, sn, iv r2v, jv p2v, sn, rv b195, iv rv204, iv kv218, iv ed204, iv rv219, iv kv243, iv ed219] [] _
      refine XS.iload X230.here hx rfl (hb hby at_271) rfl ?_
      show oS p e below T230 m 273 #[iv p0, iv p1, iv p2, iv p3, iv 2, rv b161, jv wh, sn, jv 16, sn, iv c1, iv c2, iv r1v, jv p1v, sn, iv r2v, jv p2v, sn, rv b195, iv rv204, iv kv218, iv ed204, iv rv219, iv kv243, iv ed219] [(.int ed204)] _
      refine XS.iload X230.here hx rfl (hb hby at_273) rfl ?_
      exact kt)
    clear pre231
    have pre233 : ∀ t, oS p e below T230 m 283 #[iv p0, iv p1, iv p2, iv p3, iv 2, rv b161, jv wh, sn, jv 16, sn, iv c1, iv c2, iv r1v, jv p1v, sn, iv r2v, jv p2v, sn, rv b195, iv rv204, iv kv218, iv ed204, iv rv219, iv kv243, iv ed219] [(.int (if r1v = (0 : Int32) then (1 : Int32) else (0 : Int32))), (.int ed204)] t → oE p e below s₁ m #[(.int p0), (.int p1), (.int p2), (.int p3)] maxLocals t := by
      by_cases hc275_234 : r1v = (0 : Int32)
      · have pre235 : ∀ t, oS p e below T230 m 283 #[iv p0, iv p1, iv p2, iv p3, iv 2, rv b161, jv wh, sn, jv 16, sn, iv c1, iv c2, iv r1v, jv p1v, sn, iv r2v, jv p2v, sn, rv b195, iv rv204, iv kv218, iv ed204, iv rv219, iv kv243, iv ed219] [(.int (1 : Int32)), (.int ed204)] t → oE p e below s₁ m #[(.int p0), (.int p1), (.int p2), (.int p3)] maxLocals t := fun t kt => pre232 t (by
          show oS p e below T230 m 275 #[iv p0, iv p1, iv p2, iv p3, iv 2, rv b161, jv wh, sn, jv 16, sn, iv c1, iv c2, iv r1v, jv p1v, sn, iv r2v, jv p2v, sn, rv b195, iv rv204, iv kv218, iv ed204, iv rv219, iv kv243, iv ed219] [(.int r1v), (.int ed204)] _
          refine XS.ifNo X230.here hx rfl (hb hby at_275) rfl ((if0 _ _).trans (teq hc275_234).2) ?_
          show oS p e below T230 m 278 #[iv p0, iv p1, iv p2, iv p3, iv 2, rv b161, jv wh, sn, jv 16, sn, iv c1, iv c2, iv r1v, jv p1v, sn, iv r2v, jv p2v, sn, rv b195, iv rv204, iv kv218, iv ed204, iv rv219, iv kv243, iv ed219] [(.int ed204)] _
          refine XS.iconst X230.here hx rfl (hb hby at_278) ?_
          show oS p e below T230 m 279 #[iv p0, iv p1, iv p2, iv p3, iv 2, rv b161, jv wh, sn, jv 16, sn, iv c1, iv c2, iv r1v, jv p1v, sn, iv r2v, jv p2v, sn, rv b195, iv rv204, iv kv218, iv ed204, iv rv219, iv kv243, iv ed219] [(.int (1 : Int32)), (.int ed204)] _
          refine XS.goto X230.here hx rfl (pc0 := 279) (pc' := 283) rfl (hb hby at_279) (by decide) (by decide) ?_
          exact kt)
        clear pre232
        have hvx : (1 : Int32) = (if r1v = (0 : Int32) then (1 : Int32) else (0 : Int32)) := (by rw [if_pos hc275_234])
        rw [← hvx]
        exact pre235
      · have pre236 : ∀ t, oS p e below T230 m 283 #[iv p0, iv p1, iv p2, iv p3, iv 2, rv b161, jv wh, sn, jv 16, sn, iv c1, iv c2, iv r1v, jv p1v, sn, iv r2v, jv p2v, sn, rv b195, iv rv204, iv kv218, iv ed204, iv rv219, iv kv243, iv ed219] [(.int (0 : Int32)), (.int ed204)] t → oE p e below s₁ m #[(.int p0), (.int p1), (.int p2), (.int p3)] maxLocals t := fun t kt => pre232 t (by
          show oS p e below T230 m 275 #[iv p0, iv p1, iv p2, iv p3, iv 2, rv b161, jv wh, sn, jv 16, sn, iv c1, iv c2, iv r1v, jv p1v, sn, iv r2v, jv p2v, sn, rv b195, iv rv204, iv kv218, iv ed204, iv rv219, iv kv243, iv ed219] [(.int r1v), (.int ed204)] _
          refine XS.ifYes X230.here hx rfl (pc0 := 275) (pc' := 282) rfl (hb hby at_275) rfl ((if0 _ _).trans (feq hc275_234).2) (by decide) (by decide) ?_
          show oS p e below T230 m 282 #[iv p0, iv p1, iv p2, iv p3, iv 2, rv b161, jv wh, sn, jv 16, sn, iv c1, iv c2, iv r1v, jv p1v, sn, iv r2v, jv p2v, sn, rv b195, iv rv204, iv kv218, iv ed204, iv rv219, iv kv243, iv ed219] [(.int ed204)] _
          refine XS.iconst X230.here hx rfl (hb hby at_282) ?_
          exact kt)
        clear pre232
        have hvx : (0 : Int32) = (if r1v = (0 : Int32) then (1 : Int32) else (0 : Int32)) := (by rw [if_neg hc275_234])
        rw [← hvx]
        exact pre236
    clear pre232
    have pre237 : ∀ t, oS p e below T230 m 309 #[iv p0, iv p1, iv p2, iv p3, iv 2, rv b161, jv wh, sn, jv 16, sn, iv c1, iv c2, iv r1v, jv p1v, sn, iv r2v, jv p2v, sn, rv b195, iv rv204, iv kv218, iv ed204, iv rv219, iv kv243, iv ed219] [(.int r1v), (.int ed219)] t → oE p e below s₁ m #[(.int p0), (.int p1), (.int p2), (.int p3)] maxLocals t := fun t kt => pre233 t (by
      show oS p e below T230 m 283 #[iv p0, iv p1, iv p2, iv p3, iv 2, rv b161, jv wh, sn, jv 16, sn, iv c1, iv c2, iv r1v, jv p1v, sn, iv r2v, jv p2v, sn, rv b195, iv rv204, iv kv218, iv ed204, iv rv219, iv kv243, iv ed219] [(.int (if r1v = (0 : Int32) then (1 : Int32) else (0 : Int32))), (.int ed204)] _
      refine XS.icmpNo X230.here hx rfl (hb hby at_283) rfl (teq (own_e1 r1v ed204 sk208.2.2.2)).2 ?_
      show oS p e below T230 m 286 #[iv p0, iv p1, iv p2, iv p3, iv 2, rv b161, jv wh, sn, jv 16, sn, iv c1, iv c2, iv r1v, jv p1v, sn, iv r2v, jv p2v, sn, rv b195, iv rv204, iv kv218, iv ed204, iv rv219, iv kv243, iv ed219] [] _
      refine XS.iload X230.here hx rfl (hb hby at_286) rfl ?_
      show oS p e below T230 m 288 #[iv p0, iv p1, iv p2, iv p3, iv 2, rv b161, jv wh, sn, jv 16, sn, iv c1, iv c2, iv r1v, jv p1v, sn, iv r2v, jv p2v, sn, rv b195, iv rv204, iv kv218, iv ed204, iv rv219, iv kv243, iv ed219] [(.int rv219)] _
      refine XS.iload X230.here hx rfl (hb hby at_288) rfl ?_
      show oS p e below T230 m 290 #[iv p0, iv p1, iv p2, iv p3, iv 2, rv b161, jv wh, sn, jv 16, sn, iv c1, iv c2, iv r1v, jv p1v, sn, iv r2v, jv p2v, sn, rv b195, iv rv204, iv kv218, iv ed204, iv rv219, iv kv243, iv ed219] [(.int r2v), (.int rv219)] _
      refine XS.icmpNo X230.here hx rfl (hb hby at_290) rfl (teq sk223.1).2 ?_
      show oS p e below T230 m 293 #[iv p0, iv p1, iv p2, iv p3, iv 2, rv b161, jv wh, sn, jv 16, sn, iv c1, iv c2, iv r1v, jv p1v, sn, iv r2v, jv p2v, sn, rv b195, iv rv204, iv kv218, iv ed204, iv rv219, iv kv243, iv ed219] [] _
      refine XS.iload X230.here hx rfl (hb hby at_293) rfl ?_
      show oS p e below T230 m 295 #[iv p0, iv p1, iv p2, iv p3, iv 2, rv b161, jv wh, sn, jv 16, sn, iv c1, iv c2, iv r1v, jv p1v, sn, iv r2v, jv p2v, sn, rv b195, iv rv204, iv kv218, iv ed204, iv rv219, iv kv243, iv ed219] [(.int kv243)] _
      refine XS.lload X230.here hx rfl (hb hby at_295) rfl ?_
      show oS p e below T230 m 297 #[iv p0, iv p1, iv p2, iv p3, iv 2, rv b161, jv wh, sn, jv 16, sn, iv c1, iv c2, iv r1v, jv p1v, sn, iv r2v, jv p2v, sn, rv b195, iv rv204, iv kv218, iv ed204, iv rv219, iv kv243, iv ed219] [(.long wh), (.int kv243)] _
      refine XS.lload X230.here hx rfl (hb hby at_297) rfl ?_
      show oS p e below T230 m 299 #[iv p0, iv p1, iv p2, iv p3, iv 2, rv b161, jv wh, sn, jv 16, sn, iv c1, iv c2, iv r1v, jv p1v, sn, iv r2v, jv p2v, sn, rv b195, iv rv204, iv kv218, iv ed204, iv rv219, iv kv243, iv ed219] [(.long p2v), (.long wh), (.int kv243)] _
      refine XS.l2i X230.here hx rfl (hb hby at_299) rfl ?_
      show oS p e below T230 m 300 #[iv p0, iv p1, iv p2, iv p3, iv 2, rv b161, jv wh, sn, jv 16, sn, iv c1, iv c2, iv r1v, jv p1v, sn, iv r2v, jv p2v, sn, rv b195, iv rv204, iv kv218, iv ed204, iv rv219, iv kv243, iv ed219] [(.int (p2v.toInt32)), (.long wh), (.int kv243)] _
      refine XS.lushr X230.here hx rfl (hb hby at_300) rfl ?_
      show oS p e below T230 m 301 #[iv p0, iv p1, iv p2, iv p3, iv 2, rv b161, jv wh, sn, jv 16, sn, iv c1, iv c2, iv r1v, jv p1v, sn, iv r2v, jv p2v, sn, rv b195, iv rv204, iv kv218, iv ed204, iv rv219, iv kv243, iv ed219] [(.long ((wh.toUInt64 >>> ((p2v.toInt32) &&& 0x3f).toInt64.toUInt64).toInt64)), (.int kv243)] _
      refine XS.l2i X230.here hx rfl (hb hby at_301) rfl ?_
      show oS p e below T230 m 302 #[iv p0, iv p1, iv p2, iv p3, iv 2, rv b161, jv wh, sn, jv 16, sn, iv c1, iv c2, iv r1v, jv p1v, sn, iv r2v, jv p2v, sn, rv b195, iv rv204, iv kv218, iv ed204, iv rv219, iv kv243, iv ed219] [(.int (((wh.toUInt64 >>> ((p2v.toInt32) &&& 0x3f).toInt64.toUInt64).toInt64).toInt32)), (.int kv243)] _
      refine XS.icmpNo X230.here hx rfl (hb hby at_302) rfl (teq (hm227.trans (own_cmp wh p2v ps219 (1 * (by0.toInt % 256) + 256 * (by1.toInt % 256)) hm174 (by omega) sk223.2.1 (by rw [← sk223.2.1]; exact sk223.2.2.1.1) (by rw [← sk223.2.1]; exact Int.le_trans sk223.2.2.1.2 (by decide))))).2 ?_
      show oS p e below T230 m 305 #[iv p0, iv p1, iv p2, iv p3, iv 2, rv b161, jv wh, sn, jv 16, sn, iv c1, iv c2, iv r1v, jv p1v, sn, iv r2v, jv p2v, sn, rv b195, iv rv204, iv kv218, iv ed204, iv rv219, iv kv243, iv ed219] [] _
      refine XS.iload X230.here hx rfl (hb hby at_305) rfl ?_
      show oS p e below T230 m 307 #[iv p0, iv p1, iv p2, iv p3, iv 2, rv b161, jv wh, sn, jv 16, sn, iv c1, iv c2, iv r1v, jv p1v, sn, iv r2v, jv p2v, sn, rv b195, iv rv204, iv kv218, iv ed204, iv rv219, iv kv243, iv ed219] [(.int ed219)] _
      refine XS.iload X230.here hx rfl (hb hby at_307) rfl ?_
      exact kt)
    clear pre233
    have pre238 : ∀ t, oS p e below T230 m 322 #[iv p0, iv p1, iv p2, iv p3, iv 2, rv b161, jv wh, sn, jv 16, sn, iv c1, iv c2, iv r1v, jv p1v, sn, iv r2v, jv p2v, sn, rv b195, iv rv204, iv kv218, iv ed204, iv rv219, iv kv243, iv ed219] [(.int (if r1v = (0 : Int32) then (1 : Int32) else if r2v = (0 : Int32) then (1 : Int32) else (0 : Int32))), (.int ed219)] t → oE p e below s₁ m #[(.int p0), (.int p1), (.int p2), (.int p3)] maxLocals t := by
      by_cases hc309_239 : r1v = (0 : Int32)
      · have pre240 : ∀ t, oS p e below T230 m 322 #[iv p0, iv p1, iv p2, iv p3, iv 2, rv b161, jv wh, sn, jv 16, sn, iv c1, iv c2, iv r1v, jv p1v, sn, iv r2v, jv p2v, sn, rv b195, iv rv204, iv kv218, iv ed204, iv rv219, iv kv243, iv ed219] [(.int (1 : Int32)), (.int ed219)] t → oE p e below s₁ m #[(.int p0), (.int p1), (.int p2), (.int p3)] maxLocals t := fun t kt => pre237 t (by
          show oS p e below T230 m 309 #[iv p0, iv p1, iv p2, iv p3, iv 2, rv b161, jv wh, sn, jv 16, sn, iv c1, iv c2, iv r1v, jv p1v, sn, iv r2v, jv p2v, sn, rv b195, iv rv204, iv kv218, iv ed204, iv rv219, iv kv243, iv ed219] [(.int r1v), (.int ed219)] _
          refine XS.ifYes X230.here hx rfl (pc0 := 309) (pc' := 317) rfl (hb hby at_309) rfl ((if0 _ _).trans (teq hc309_239).1) (by decide) (by decide) ?_
          show oS p e below T230 m 317 #[iv p0, iv p1, iv p2, iv p3, iv 2, rv b161, jv wh, sn, jv 16, sn, iv c1, iv c2, iv r1v, jv p1v, sn, iv r2v, jv p2v, sn, rv b195, iv rv204, iv kv218, iv ed204, iv rv219, iv kv243, iv ed219] [(.int ed219)] _
          refine XS.iconst X230.here hx rfl (hb hby at_317) ?_
          show oS p e below T230 m 318 #[iv p0, iv p1, iv p2, iv p3, iv 2, rv b161, jv wh, sn, jv 16, sn, iv c1, iv c2, iv r1v, jv p1v, sn, iv r2v, jv p2v, sn, rv b195, iv rv204, iv kv218, iv ed204, iv rv219, iv kv243, iv ed219] [(.int (1 : Int32)), (.int ed219)] _
          refine XS.goto X230.here hx rfl (pc0 := 318) (pc' := 322) rfl (hb hby at_318) (by decide) (by decide) ?_
          exact kt)
        clear pre237
        have hvx : (1 : Int32) = (if r1v = (0 : Int32) then (1 : Int32) else if r2v = (0 : Int32) then (1 : Int32) else (0 : Int32)) := (by rw [if_pos hc309_239])
        rw [← hvx]
        exact pre240
      · have pre241 : ∀ t, oS p e below T230 m 314 #[iv p0, iv p1, iv p2, iv p3, iv 2, rv b161, jv wh, sn, jv 16, sn, iv c1, iv c2, iv r1v, jv p1v, sn, iv r2v, jv p2v, sn, rv b195, iv rv204, iv kv218, iv ed204, iv rv219, iv kv243, iv ed219] [(.int r2v), (.int ed219)] t → oE p e below s₁ m #[(.int p0), (.int p1), (.int p2), (.int p3)] maxLocals t := fun t kt => pre237 t (by
          show oS p e below T230 m 309 #[iv p0, iv p1, iv p2, iv p3, iv 2, rv b161, jv wh, sn, jv 16, sn, iv c1, iv c2, iv r1v, jv p1v, sn, iv r2v, jv p2v, sn, rv b195, iv rv204, iv kv218, iv ed204, iv rv219, iv kv243, iv ed219] [(.int r1v), (.int ed219)] _
          refine XS.ifNo X230.here hx rfl (hb hby at_309) rfl ((if0 _ _).trans (feq hc309_239).1) ?_
          show oS p e below T230 m 312 #[iv p0, iv p1, iv p2, iv p3, iv 2, rv b161, jv wh, sn, jv 16, sn, iv c1, iv c2, iv r1v, jv p1v, sn, iv r2v, jv p2v, sn, rv b195, iv rv204, iv kv218, iv ed204, iv rv219, iv kv243, iv ed219] [(.int ed219)] _
          refine XS.iload X230.here hx rfl (hb hby at_312) rfl ?_
          exact kt)
        clear pre237
        by_cases hc314_242 : r2v = (0 : Int32)
        · have pre243 : ∀ t, oS p e below T230 m 322 #[iv p0, iv p1, iv p2, iv p3, iv 2, rv b161, jv wh, sn, jv 16, sn, iv c1, iv c2, iv r1v, jv p1v, sn, iv r2v, jv p2v, sn, rv b195, iv rv204, iv kv218, iv ed204, iv rv219, iv kv243, iv ed219] [(.int (1 : Int32)), (.int ed219)] t → oE p e below s₁ m #[(.int p0), (.int p1), (.int p2), (.int p3)] maxLocals t := fun t kt => pre241 t (by
            show oS p e below T230 m 314 #[iv p0, iv p1, iv p2, iv p3, iv 2, rv b161, jv wh, sn, jv 16, sn, iv c1, iv c2, iv r1v, jv p1v, sn, iv r2v, jv p2v, sn, rv b195, iv rv204, iv kv218, iv ed204, iv rv219, iv kv243, iv ed219] [(.int r2v), (.int ed219)] _
            refine XS.ifNo X230.here hx rfl (hb hby at_314) rfl ((if0 _ _).trans (teq hc314_242).2) ?_
            show oS p e below T230 m 317 #[iv p0, iv p1, iv p2, iv p3, iv 2, rv b161, jv wh, sn, jv 16, sn, iv c1, iv c2, iv r1v, jv p1v, sn, iv r2v, jv p2v, sn, rv b195, iv rv204, iv kv218, iv ed204, iv rv219, iv kv243, iv ed219] [(.int ed219)] _
            refine XS.iconst X230.here hx rfl (hb hby at_317) ?_
            show oS p e below T230 m 318 #[iv p0, iv p1, iv p2, iv p3, iv 2, rv b161, jv wh, sn, jv 16, sn, iv c1, iv c2, iv r1v, jv p1v, sn, iv r2v, jv p2v, sn, rv b195, iv rv204, iv kv218, iv ed204, iv rv219, iv kv243, iv ed219] [(.int (1 : Int32)), (.int ed219)] _
            refine XS.goto X230.here hx rfl (pc0 := 318) (pc' := 322) rfl (hb hby at_318) (by decide) (by decide) ?_
            exact kt)
          clear pre241
          have hvx : (1 : Int32) = (if r1v = (0 : Int32) then (1 : Int32) else if r2v = (0 : Int32) then (1 : Int32) else (0 : Int32)) := (by rw [if_neg hc309_239, if_pos hc314_242])
          rw [← hvx]
          exact pre243
        · have pre244 : ∀ t, oS p e below T230 m 322 #[iv p0, iv p1, iv p2, iv p3, iv 2, rv b161, jv wh, sn, jv 16, sn, iv c1, iv c2, iv r1v, jv p1v, sn, iv r2v, jv p2v, sn, rv b195, iv rv204, iv kv218, iv ed204, iv rv219, iv kv243, iv ed219] [(.int (0 : Int32)), (.int ed219)] t → oE p e below s₁ m #[(.int p0), (.int p1), (.int p2), (.int p3)] maxLocals t := fun t kt => pre241 t (by
            show oS p e below T230 m 314 #[iv p0, iv p1, iv p2, iv p3, iv 2, rv b161, jv wh, sn, jv 16, sn, iv c1, iv c2, iv r1v, jv p1v, sn, iv r2v, jv p2v, sn, rv b195, iv rv204, iv kv218, iv ed204, iv rv219, iv kv243, iv ed219] [(.int r2v), (.int ed219)] _
            refine XS.ifYes X230.here hx rfl (pc0 := 314) (pc' := 321) rfl (hb hby at_314) rfl ((if0 _ _).trans (feq hc314_242).2) (by decide) (by decide) ?_
            show oS p e below T230 m 321 #[iv p0, iv p1, iv p2, iv p3, iv 2, rv b161, jv wh, sn, jv 16, sn, iv c1, iv c2, iv r1v, jv p1v, sn, iv r2v, jv p2v, sn, rv b195, iv rv204, iv kv218, iv ed204, iv rv219, iv kv243, iv ed219] [(.int ed219)] _
            refine XS.iconst X230.here hx rfl (hb hby at_321) ?_
            exact kt)
          clear pre241
          have hvx : (0 : Int32) = (if r1v = (0 : Int32) then (1 : Int32) else if r2v = (0 : Int32) then (1 : Int32) else (0 : Int32)) := (by rw [if_neg hc309_239, if_neg hc314_242])
          rw [← hvx]
          exact pre244
    clear pre237
    have pre245 : ∀ t, oS p e below T230 m 330 #[iv p0, iv p1, iv p2, iv p3, iv 2, rv b161, jv wh, sn, jv 16, sn, iv c1, iv c2, iv r1v, jv p1v, sn, iv r2v, jv p2v, sn, rv b195, iv rv204, iv kv218, iv ed204, iv rv219, iv kv243, iv ed219] [(.int (1 : Int32))] t → oE p e below s₁ m #[(.int p0), (.int p1), (.int p2), (.int p3)] maxLocals t := fun t kt => pre238 t (by
      show oS p e below T230 m 322 #[iv p0, iv p1, iv p2, iv p3, iv 2, rv b161, jv wh, sn, jv 16, sn, iv c1, iv c2, iv r1v, jv p1v, sn, iv r2v, jv p2v, sn, rv b195, iv rv204, iv kv218, iv ed204, iv rv219, iv kv243, iv ed219] [(.int (if r1v = (0 : Int32) then (1 : Int32) else if r2v = (0 : Int32) then (1 : Int32) else (0 : Int32))), (.int ed219)] _
      refine XS.icmpNo X230.here hx rfl (hb hby at_322) rfl (teq (own_e2 r1v ed204 r2v ed219 sk208.2.2.2 sk223.2.2.2)).2 ?_
      show oS p e below T230 m 325 #[iv p0, iv p1, iv p2, iv p3, iv 2, rv b161, jv wh, sn, jv 16, sn, iv c1, iv c2, iv r1v, jv p1v, sn, iv r2v, jv p2v, sn, rv b195, iv rv204, iv kv218, iv ed204, iv rv219, iv kv243, iv ed219] [] _
      refine XS.iconst X230.here hx rfl (hb hby at_325) ?_
      show oS p e below T230 m 326 #[iv p0, iv p1, iv p2, iv p3, iv 2, rv b161, jv wh, sn, jv 16, sn, iv c1, iv c2, iv r1v, jv p1v, sn, iv r2v, jv p2v, sn, rv b195, iv rv204, iv kv218, iv ed204, iv rv219, iv kv243, iv ed219] [(.int (1 : Int32))] _
      refine XS.goto X230.here hx rfl (pc0 := 326) (pc' := 330) rfl (hb hby at_326) (by decide) (by decide) ?_
      exact kt)
    clear pre238
    obtain ⟨fs, hr, hrun, hended, hW, hsame⟩ := X230.leave (v := some (.int (1 : Int32))) (fun h => by rw [Bd.returns] at h; cases h)
    refine ⟨_, _, pre245 _ ?_, hrun, hended, _, _, rfl, ?_, ⟨_, rfl⟩, hW, hsame.mono (by decide) (by decide)⟩
    · show oS p e below T230 m 330 #[iv p0, iv p1, iv p2, iv p3, iv 2, rv b161, jv wh, sn, jv 16, sn, iv c1, iv c2, iv r1v, jv p1v, sn, iv r2v, jv p2v, sn, rv b195, iv rv204, iv kv218, iv ed204, iv rv219, iv kv243, iv ed219] [(.int (1 : Int32))] _
      exact retN X230 hx (t := .boolean) Bd.returns (by simp) (hb hby at_330) hr
    · show Q0 Z p0 p1 p2 p3 h0 n0 _ T230.heap _
      rw [e230]
      exact ⟨rfl, N230⟩
  · skip
    have pre246 : ∀ t, oS p e below s₁ m 10 #[iv p0, iv p1, iv p2, iv p3, iv 3, un, un, un, un, un, un, un, un, un, un, un, un, un, un, un, un, un, un, un, un] [(.int (3 : Int32))] t → oE p e below s₁ m #[(.int p0), (.int p1), (.int p2), (.int p3)] maxLocals t := fun t kt => pre2 t (by
      show oS p e below s₁ m 8 #[iv p0, iv p1, iv p2, iv p3, iv 3, un, un, un, un, un, un, un, un, un, un, un, un, un, un, un, un, un, un, un, un] [] _
      refine XS.iload X0.here hx rfl (hb hby at_8) rfl ?_
      exact kt)
    clear pre2
    obtain ⟨T247, h247, k247, X247, e247, E247, A247, st247⟩ := newP X0 hx hZ (hw _ (List.mem_of_getElem? (i := 1) rfl)) e0 (g := (mkF m 10 #[iv p0, iv p1, iv p2, iv p3, iv 3, un, un, un, un, un, un, un, un, un, un, un, un, un, un, un, un, un, un, un, un] [(.int (3 : Int32))])) rfl (hb hby at_10) rfl (by decide) (cap := 3) (by decide) (by decide) (by decide) (by decide)
    obtain ⟨b247, g247⟩ : ∃ z, z = h0.size := ⟨_, rfl⟩
    rw [← g247] at A247 st247
    have pre248 : ∀ t, oS p e below T247 m 12 #[iv p0, iv p1, iv p2, iv p3, iv 3, un, un, un, un, un, un, un, un, un, un, un, un, un, un, un, un, un, un, un, un] [(.ref b247)] t → oE p e below s₁ m #[(.int p0), (.int p1), (.int p2), (.int p3)] maxLocals t := fun t kt => pre246 t (st247 _ kt)
    clear pre246 st247
    have gn247 : n0 ≤ b247 := Nat.le_trans Z0 (Nat.le_of_eq g247.symm)
    have sz247 : h0.size ≤ b247 := Nat.le_trans K0.1 (Nat.le_of_eq g247.symm)
    have K247 : Keep h0 h247 [] := K0.ext E247
    have Z247 : n0 ≤ h247.size := Nat.le_trans Z0 E247.1
    have V247 : Arv Z h247 b247 k247 .byte (3 : Int32) [(.int (0 : Int32)), (.int (0 : Int32)), (.int (0 : Int32))] (.int (0 : Int32)) := (Arv.new A247 (by decide)).pad (pad_rep [] (.int (0 : Int32)) 3)
    have pre249 : ∀ t, oS p e below T247 m 24 #[iv p0, iv p1, iv p2, iv p3, iv 3, rv b247, un, un, un, un, un, un, un, un, un, un, un, un, un, un, un, un, un, un, un] [(.int (p1.toInt8.toInt32)), (.int (0 : Int32)), (.ref b247)] t → oE p e below s₁ m #[(.int p0), (.int p1), (.int p2), (.int p3)] maxLocals t := fun t kt => pre248 t (by
      show oS p e below T247 m 12 #[iv p0, iv p1, iv p2, iv p3, iv 3, un, un, un, un, un, un, un, un, un, un, un, un, un, un, un, un, un, un, un, un] [(.ref b247)] _
      refine XS.astore X247.here hx rfl (hb hby at_12) rfl rfl (l' := #[iv p0, iv p1, iv p2, iv p3, iv 3, rv b247, un, un, un, un, un, un, un, un, un, un, un, un, un, un, un, un, un, un, un]) rfl ?_
      show oS p e below T247 m 14 #[iv p0, iv p1, iv p2, iv p3, iv 3, rv b247, un, un, un, un, un, un, un, un, un, un, un, un, un, un, un, un, un, un, un] [] _
      refine XS.iload X247.here hx rfl (hb hby at_14) rfl ?_
      show oS p e below T247 m 16 #[iv p0, iv p1, iv p2, iv p3, iv 3, rv b247, un, un, un, un, un, un, un, un, un, un, un, un, un, un, un, un, un, un, un] [(.int (3 : Int32))] _
      refine XS.ifNo X247.here hx rfl (hb hby at_16) rfl ((if0 _ _).trans (tlt (by decide : (0 : Int32) < (3 : Int32))).2.2.2) ?_
      show oS p e below T247 m 19 #[iv p0, iv p1, iv p2, iv p3, iv 3, rv b247, un, un, un, un, un, un, un, un, un, un, un, un, un, un, un, un, un, un, un] [] _
      refine XS.aload X247.here hx rfl (hb hby at_19) rfl rfl ?_
      show oS p e below T247 m 21 #[iv p0, iv p1, iv p2, iv p3, iv 3, rv b247, un, un, un, un, un, un, un, un, un, un, un, un, un, un, un, un, un, un, un] [(.ref b247)] _
      refine XS.iconst X247.here hx rfl (hb hby at_21) ?_
      show oS p e below T247 m 22 #[iv p0, iv p1, iv p2, iv p3, iv 3, rv b247, un, un, un, un, un, un, un, un, un, un, un, un, un, un, un, un, un, un, un] [(.int (0 : Int32)), (.ref b247)] _
      refine XS.iloadN X247.here hx rfl (hb hby at_22) rfl ?_
      show oS p e below T247 m 23 #[iv p0, iv p1, iv p2, iv p3, iv 3, rv b247, un, un, un, un, un, un, un, un, un, un, un, un, un, un, un, un, un, un, un] [(.int p1), (.int (0 : Int32)), (.ref b247)] _
      refine XS.i2b X247.here hx rfl (hb hby at_23) rfl ?_
      exact kt)
    clear pre248
    obtain ⟨by0, hm250, pre250⟩ : ∃ (by0 : Int32), (by0.toInt8.toInt32 = by0 ∧ by0.toInt % 256 = p1.toInt % 256) ∧ ∀ t, oS p e below T247 m 24 #[iv p0, iv p1, iv p2, iv p3, iv 3, rv b247, un, un, un, un, un, un, un, un, un, un, un, un, un, un, un, un, un, un, un] [(.int by0), (.int (0 : Int32)), (.ref b247)] t → oE p e below s₁ m #[(.int p0), (.int p1), (.int p2), (.int p3)] maxLocals t := ⟨(p1.toInt8.toInt32), ⟨own_narb _, own_by0 p1⟩, pre249⟩
    clear pre249
    have tv251 := V247
    obtain ⟨cl251, Ar251, q251, S251, Ng251, H251, G251⟩ := tv251
    have hin251 : ¬ ((0 : Int32) < 0 ∨ cl251.slots.size ≤ ((0 : Int32)).toNatClampNeg) := inb_of S251 ⟨by decide, by decide⟩
    obtain ⟨T252, h252, X252, e252, W252, st252⟩ := stB X247 hx hZ e247 Ar251 (j := (0 : Int32)) hin251 (g := (mkF m 24 #[iv p0, iv p1, iv p2, iv p3, iv 3, rv b247, un, un, un, un, un, un, un, un, un, un, un, un, un, un, un, un, un, un, un] [(.int by0), (.int (0 : Int32)), (.ref b247)])) rfl rfl (hb hby at_24)
    have pre253 : ∀ t, oS p e below T252 m 25 #[iv p0, iv p1, iv p2, iv p3, iv 3, rv b247, un, un, un, un, un, un, un, un, un, un, un, un, un, un, un, un, un, un, un] [] t → oE p e below s₁ m #[(.int p0), (.int p1), (.int p2), (.int p3)] maxLocals t := fun t kt => pre250 t (st252 _ kt)
    clear pre250 st252
    have V252 : Arv Z h252 b247 k247 .byte (3 : Int32) [(.int by0), (.int (0 : Int32)), (.int (0 : Int32))] (.int (0 : Int32)) := (by
      have q := Arv.set Ar251 q251 S251 Ng251 H251 G251 (fits_nar_byte by0) W252 0 rfl (Nat.le_of_ble_eq_true rfl)
      rw [hm250.1] at q
      exact q)
    have K252 : Keep h0 h252 [] := K247.wr W252 (Or.inr sz247)
    have N252 := Fr.snoc X252 N0 gn247
    have Z252 : n0 ≤ h252.size := Nat.le_trans Z247 (Keep.of_wr W252).1
    have pre254 : ∀ t, oS p e below T252 m 39 #[iv p0, iv p1, iv p2, iv p3, iv 3, rv b247, un, un, un, un, un, un, un, un, un, un, un, un, un, un, un, un, un, un, un] [(.int (((p1.toUInt32 >>> ((8 : Int32) &&& 31).toUInt32).toInt32).toInt8.toInt32)), (.int (1 : Int32)), (.ref b247)] t → oE p e below s₁ m #[(.int p0), (.int p1), (.int p2), (.int p3)] maxLocals t := fun t kt => pre253 t (by
      show oS p e below T252 m 25 #[iv p0, iv p1, iv p2, iv p3, iv 3, rv b247, un, un, un, un, un, un, un, un, un, un, un, un, un, un, un, un, un, un, un] [] _
      refine XS.iload X252.here hx rfl (hb hby at_25) rfl ?_
      show oS p e below T252 m 27 #[iv p0, iv p1, iv p2, iv p3, iv 3, rv b247, un, un, un, un, un, un, un, un, un, un, un, un, un, un, un, un, un, un, un] [(.int (3 : Int32))] _
      refine XS.iconst X252.here hx rfl (hb hby at_27) ?_
      show oS p e below T252 m 28 #[iv p0, iv p1, iv p2, iv p3, iv 3, rv b247, un, un, un, un, un, un, un, un, un, un, un, un, un, un, un, un, un, un, un] [(.int (1 : Int32)), (.int (3 : Int32))] _
      refine XS.icmpNo X252.here hx rfl (hb hby at_28) rfl (tlt (by decide : (1 : Int32) < (3 : Int32))).2.2.2 ?_
      show oS p e below T252 m 31 #[iv p0, iv p1, iv p2, iv p3, iv 3, rv b247, un, un, un, un, un, un, un, un, un, un, un, un, un, un, un, un, un, un, un] [] _
      refine XS.aload X252.here hx rfl (hb hby at_31) rfl rfl ?_
      show oS p e below T252 m 33 #[iv p0, iv p1, iv p2, iv p3, iv 3, rv b247, un, un, un, un, un, un, un, un, un, un, un, un, un, un, un, un, un, un, un] [(.ref b247)] _
      refine XS.iconst X252.here hx rfl (hb hby at_33) ?_
      show oS p e below T252 m 34 #[iv p0, iv p1, iv p2, iv p3, iv 3, rv b247, un, un, un, un, un, un, un, un, un, un, un, un, un, un, un, un, un, un, un] [(.int (1 : Int32)), (.ref b247)] _
      refine XS.iloadN X252.here hx rfl (hb hby at_34) rfl ?_
      show oS p e below T252 m 35 #[iv p0, iv p1, iv p2, iv p3, iv 3, rv b247, un, un, un, un, un, un, un, un, un, un, un, un, un, un, un, un, un, un, un] [(.int p1), (.int (1 : Int32)), (.ref b247)] _
      refine XS.bipush X252.here hx rfl (hb hby at_35) ?_
      show oS p e below T252 m 37 #[iv p0, iv p1, iv p2, iv p3, iv 3, rv b247, un, un, un, un, un, un, un, un, un, un, un, un, un, un, un, un, un, un, un] [(.int (8 : Int32)), (.int p1), (.int (1 : Int32)), (.ref b247)] _
      refine XS.iushr X252.here hx rfl (hb hby at_37) rfl ?_
      show oS p e below T252 m 38 #[iv p0, iv p1, iv p2, iv p3, iv 3, rv b247, un, un, un, un, un, un, un, un, un, un, un, un, un, un, un, un, un, un, un] [(.int ((p1.toUInt32 >>> ((8 : Int32) &&& 31).toUInt32).toInt32)), (.int (1 : Int32)), (.ref b247)] _
      refine XS.i2b X252.here hx rfl (hb hby at_38) rfl ?_
      exact kt)
    clear pre253
    obtain ⟨by1, hm255, pre255⟩ : ∃ (by1 : Int32), (by1.toInt8.toInt32 = by1 ∧ by1.toInt % 256 = ((p1.toInt % 4294967296) / 256) % 256) ∧ ∀ t, oS p e below T252 m 39 #[iv p0, iv p1, iv p2, iv p3, iv 3, rv b247, un, un, un, un, un, un, un, un, un, un, un, un, un, un, un, un, un, un, un] [(.int by1), (.int (1 : Int32)), (.ref b247)] t → oE p e below s₁ m #[(.int p0), (.int p1), (.int p2), (.int p3)] maxLocals t := ⟨(((p1.toUInt32 >>> ((8 : Int32) &&& 31).toUInt32).toInt32).toInt8.toInt32), ⟨own_narb _, own_by1 p1⟩, pre254⟩
    clear pre254
    have tv256 := V252
    obtain ⟨cl256, Ar256, q256, S256, Ng256, H256, G256⟩ := tv256
    have hin256 : ¬ ((1 : Int32) < 0 ∨ cl256.slots.size ≤ ((1 : Int32)).toNatClampNeg) := inb_of S256 ⟨by decide, by decide⟩
    obtain ⟨T257, h257, X257, e257, W257, st257⟩ := stB X252 hx hZ e252 Ar256 (j := (1 : Int32)) hin256 (g := (mkF m 39 #[iv p0, iv p1, iv p2, iv p3, iv 3, rv b247, un, un, un, un, un, un, un, un, un, un, un, un, un, un, un, un, un, un, un] [(.int by1), (.int (1 : Int32)), (.ref b247)])) rfl rfl (hb hby at_39)
    have pre258 : ∀ t, oS p e below T257 m 40 #[iv p0, iv p1, iv p2, iv p3, iv 3, rv b247, un, un, un, un, un, un, un, un, un, un, un, un, un, un, un, un, un, un, un] [] t → oE p e below s₁ m #[(.int p0), (.int p1), (.int p2), (.int p3)] maxLocals t := fun t kt => pre255 t (st257 _ kt)
    clear pre255 st257
    have V257 : Arv Z h257 b247 k247 .byte (3 : Int32) [(.int by0), (.int by1), (.int (0 : Int32))] (.int (0 : Int32)) := (by
      have q := Arv.set Ar256 q256 S256 Ng256 H256 G256 (fits_nar_byte by1) W257 1 rfl (Nat.le_of_ble_eq_true rfl)
      rw [hm255.1] at q
      exact q)
    have K257 : Keep h0 h257 [] := K252.wr W257 (Or.inr sz247)
    have N257 := Fr.snoc X257 N252 gn247
    have Z257 : n0 ≤ h257.size := Nat.le_trans Z252 (Keep.of_wr W257).1
    have pre259 : ∀ t, oS p e below T257 m 54 #[iv p0, iv p1, iv p2, iv p3, iv 3, rv b247, un, un, un, un, un, un, un, un, un, un, un, un, un, un, un, un, un, un, un] [(.int (((p1.toUInt32 >>> ((16 : Int32) &&& 31).toUInt32).toInt32).toInt8.toInt32)), (.int (2 : Int32)), (.ref b247)] t → oE p e below s₁ m #[(.int p0), (.int p1), (.int p2), (.int p3)] maxLocals t := fun t kt => pre258 t (by
      show oS p e below T257 m 40 #[iv p0, iv p1, iv p2, iv p3, iv 3, rv b247, un, un, un, un, un, un, un, un, un, un, un, un, un, un, un, un, un, un, un] [] _
      refine XS.iload X257.here hx rfl (hb hby at_40) rfl ?_
      show oS p e below T257 m 42 #[iv p0, iv p1, iv p2, iv p3, iv 3, rv b247, un, un, un, un, un, un, un, un, un, un, un, un, un, un, un, un, un, un, un] [(.int (3 : Int32))] _
      refine XS.iconst X257.here hx rfl (hb hby at_42) ?_
      show oS p e below T257 m 43 #[iv p0, iv p1, iv p2, iv p3, iv 3, rv b247, un, un, un, un, un, un, un, un, un, un, un, un, un, un, un, un, un, un, un] [(.int (2 : Int32)), (.int (3 : Int32))] _
      refine XS.icmpNo X257.here hx rfl (hb hby at_43) rfl (tlt (by decide : (2 : Int32) < (3 : Int32))).2.2.2 ?_
      show oS p e below T257 m 46 #[iv p0, iv p1, iv p2, iv p3, iv 3, rv b247, un, un, un, un, un, un, un, un, un, un, un, un, un, un, un, un, un, un, un] [] _
      refine XS.aload X257.here hx rfl (hb hby at_46) rfl rfl ?_
      show oS p e below T257 m 48 #[iv p0, iv p1, iv p2, iv p3, iv 3, rv b247, un, un, un, un, un, un, un, un, un, un, un, un, un, un, un, un, un, un, un] [(.ref b247)] _
      refine XS.iconst X257.here hx rfl (hb hby at_48) ?_
      show oS p e below T257 m 49 #[iv p0, iv p1, iv p2, iv p3, iv 3, rv b247, un, un, un, un, un, un, un, un, un, un, un, un, un, un, un, un, un, un, un] [(.int (2 : Int32)), (.ref b247)] _
      refine XS.iloadN X257.here hx rfl (hb hby at_49) rfl ?_
      show oS p e below T257 m 50 #[iv p0, iv p1, iv p2, iv p3, iv 3, rv b247, un, un, un, un, un, un, un, un, un, un, un, un, un, un, un, un, un, un, un] [(.int p1), (.int (2 : Int32)), (.ref b247)] _
      refine XS.bipush X257.here hx rfl (hb hby at_50) ?_
      show oS p e below T257 m 52 #[iv p0, iv p1, iv p2, iv p3, iv 3, rv b247, un, un, un, un, un, un, un, un, un, un, un, un, un, un, un, un, un, un, un] [(.int (16 : Int32)), (.int p1), (.int (2 : Int32)), (.ref b247)] _
      refine XS.iushr X257.here hx rfl (hb hby at_52) rfl ?_
      show oS p e below T257 m 53 #[iv p0, iv p1, iv p2, iv p3, iv 3, rv b247, un, un, un, un, un, un, un, un, un, un, un, un, un, un, un, un, un, un, un] [(.int ((p1.toUInt32 >>> ((16 : Int32) &&& 31).toUInt32).toInt32)), (.int (2 : Int32)), (.ref b247)] _
      refine XS.i2b X257.here hx rfl (hb hby at_53) rfl ?_
      exact kt)
    clear pre258
    obtain ⟨by2, hm260, pre260⟩ : ∃ (by2 : Int32), (by2.toInt8.toInt32 = by2 ∧ by2.toInt % 256 = ((p1.toInt % 4294967296) / 65536) % 256) ∧ ∀ t, oS p e below T257 m 54 #[iv p0, iv p1, iv p2, iv p3, iv 3, rv b247, un, un, un, un, un, un, un, un, un, un, un, un, un, un, un, un, un, un, un] [(.int by2), (.int (2 : Int32)), (.ref b247)] t → oE p e below s₁ m #[(.int p0), (.int p1), (.int p2), (.int p3)] maxLocals t := ⟨(((p1.toUInt32 >>> ((16 : Int32) &&& 31).toUInt32).toInt32).toInt8.toInt32), ⟨own_narb _, own_by2 p1⟩, pre259⟩
    clear pre259
    have tv261 := V257
    obtain ⟨cl261, Ar261, q261, S261, Ng261, H261, G261⟩ := tv261
    have hin261 : ¬ ((2 : Int32) < 0 ∨ cl261.slots.size ≤ ((2 : Int32)).toNatClampNeg) := inb_of S261 ⟨by decide, by decide⟩
    obtain ⟨T262, h262, X262, e262, W262, st262⟩ := stB X257 hx hZ e257 Ar261 (j := (2 : Int32)) hin261 (g := (mkF m 54 #[iv p0, iv p1, iv p2, iv p3, iv 3, rv b247, un, un, un, un, un, un, un, un, un, un, un, un, un, un, un, un, un, un, un] [(.int by2), (.int (2 : Int32)), (.ref b247)])) rfl rfl (hb hby at_54)
    have pre263 : ∀ t, oS p e below T262 m 55 #[iv p0, iv p1, iv p2, iv p3, iv 3, rv b247, un, un, un, un, un, un, un, un, un, un, un, un, un, un, un, un, un, un, un] [] t → oE p e below s₁ m #[(.int p0), (.int p1), (.int p2), (.int p3)] maxLocals t := fun t kt => pre260 t (st262 _ kt)
    clear pre260 st262
    have V262 : Arv Z h262 b247 k247 .byte (3 : Int32) [(.int by0), (.int by1), (.int by2)] (.int (0 : Int32)) := (by
      have q := Arv.set Ar261 q261 S261 Ng261 H261 G261 (fits_nar_byte by2) W262 2 rfl (Nat.le_of_ble_eq_true rfl)
      rw [hm260.1] at q
      exact q)
    have K262 : Keep h0 h262 [] := K257.wr W262 (Or.inr sz247)
    have N262 := Fr.snoc X262 N257 gn247
    have Z262 : n0 ≤ h262.size := Nat.le_trans Z257 (Keep.of_wr W262).1
    have pre264 : ∀ t, oS p e below T262 m 88 #[iv p0, iv p1, iv p2, iv p3, iv 3, rv b247, jv (((p1.toInt64) &&& (4294967295 : Int64)) &&& (((1 : Int64) <<< ((24 : Int32) &&& 0x3f).toInt64) - (1 : Int64))), sn, un, un, un, un, un, un, un, un, un, un, un, un, un, un, un, un, un] [] t → oE p e below s₁ m #[(.int p0), (.int p1), (.int p2), (.int p3)] maxLocals t := fun t kt => pre263 t (by
      show oS p e below T262 m 55 #[iv p0, iv p1, iv p2, iv p3, iv 3, rv b247, un, un, un, un, un, un, un, un, un, un, un, un, un, un, un, un, un, un, un] [] _
      refine XS.iload X262.here hx rfl (hb hby at_55) rfl ?_
      show oS p e below T262 m 57 #[iv p0, iv p1, iv p2, iv p3, iv 3, rv b247, un, un, un, un, un, un, un, un, un, un, un, un, un, un, un, un, un, un, un] [(.int (3 : Int32))] _
      refine XS.iconst X262.here hx rfl (hb hby at_57) ?_
      show oS p e below T262 m 58 #[iv p0, iv p1, iv p2, iv p3, iv 3, rv b247, un, un, un, un, un, un, un, un, un, un, un, un, un, un, un, un, un, un, un] [(.int (3 : Int32)), (.int (3 : Int32))] _
      refine XS.icmpYes X262.here hx rfl (pc0 := 58) (pc' := 70) rfl (hb hby at_58) rfl (flt (by decide : ¬ ((3 : Int32) < (3 : Int32)))).2.2.2 (by decide) (by decide) ?_
      show oS p e below T262 m 70 #[iv p0, iv p1, iv p2, iv p3, iv 3, rv b247, un, un, un, un, un, un, un, un, un, un, un, un, un, un, un, un, un, un, un] [] _
      refine XS.iloadN X262.here hx rfl (hb hby at_70) rfl ?_
      show oS p e below T262 m 71 #[iv p0, iv p1, iv p2, iv p3, iv 3, rv b247, un, un, un, un, un, un, un, un, un, un, un, un, un, un, un, un, un, un, un] [(.int p1)] _
      refine XS.i2l X262.here hx rfl (hb hby at_71) rfl ?_
      show oS p e below T262 m 72 #[iv p0, iv p1, iv p2, iv p3, iv 3, rv b247, un, un, un, un, un, un, un, un, un, un, un, un, un, un, un, un, un, un, un] [(.long (p1.toInt64))] _
      refine X262.ldc2Long hx hown (mvT hZ (hw _ (List.mem_of_getElem? (i := 2) rfl))) (g := (mkF m 72 #[iv p0, iv p1, iv p2, iv p3, iv 3, rv b247, un, un, un, un, un, un, un, un, un, un, un, un, un, un, un, un, un, un, un] [(.long (p1.toInt64))])) rfl (hb hby at_72) _ ?_
      show oS p e below T262 m 75 #[iv p0, iv p1, iv p2, iv p3, iv 3, rv b247, un, un, un, un, un, un, un, un, un, un, un, un, un, un, un, un, un, un, un] [(.long (4294967295 : Int64)), (.long (p1.toInt64))] _
      refine XS.land X262.here hx rfl (hb hby at_75) rfl ?_
      show oS p e below T262 m 76 #[iv p0, iv p1, iv p2, iv p3, iv 3, rv b247, un, un, un, un, un, un, un, un, un, un, un, un, un, un, un, un, un, un, un] [(.long ((p1.toInt64) &&& (4294967295 : Int64)))] _
      refine XS.lconst X262.here hx rfl (hb hby at_76) ?_
      show oS p e below T262 m 77 #[iv p0, iv p1, iv p2, iv p3, iv 3, rv b247, un, un, un, un, un, un, un, un, un, un, un, un, un, un, un, un, un, un, un] [(.long (1 : Int64)), (.long ((p1.toInt64) &&& (4294967295 : Int64)))] _
      refine XS.bipush X262.here hx rfl (hb hby at_77) ?_
      show oS p e below T262 m 79 #[iv p0, iv p1, iv p2, iv p3, iv 3, rv b247, un, un, un, un, un, un, un, un, un, un, un, un, un, un, un, un, un, un, un] [(.int (8 : Int32)), (.long (1 : Int64)), (.long ((p1.toInt64) &&& (4294967295 : Int64)))] _
      refine XS.iload X262.here hx rfl (hb hby at_79) rfl ?_
      show oS p e below T262 m 81 #[iv p0, iv p1, iv p2, iv p3, iv 3, rv b247, un, un, un, un, un, un, un, un, un, un, un, un, un, un, un, un, un, un, un] [(.int (3 : Int32)), (.int (8 : Int32)), (.long (1 : Int64)), (.long ((p1.toInt64) &&& (4294967295 : Int64)))] _
      refine XS.imul X262.here hx rfl (hb hby at_81) rfl ?_
      show oS p e below T262 m 82 #[iv p0, iv p1, iv p2, iv p3, iv 3, rv b247, un, un, un, un, un, un, un, un, un, un, un, un, un, un, un, un, un, un, un] [(.int (24 : Int32)), (.long (1 : Int64)), (.long ((p1.toInt64) &&& (4294967295 : Int64)))] _
      refine XS.lshl X262.here hx rfl (hb hby at_82) rfl ?_
      show oS p e below T262 m 83 #[iv p0, iv p1, iv p2, iv p3, iv 3, rv b247, un, un, un, un, un, un, un, un, un, un, un, un, un, un, un, un, un, un, un] [(.long ((1 : Int64) <<< ((24 : Int32) &&& 0x3f).toInt64)), (.long ((p1.toInt64) &&& (4294967295 : Int64)))] _
      refine XS.lconst X262.here hx rfl (hb hby at_83) ?_
      show oS p e below T262 m 84 #[iv p0, iv p1, iv p2, iv p3, iv 3, rv b247, un, un, un, un, un, un, un, un, un, un, un, un, un, un, un, un, un, un, un] [(.long (1 : Int64)), (.long ((1 : Int64) <<< ((24 : Int32) &&& 0x3f).toInt64)), (.long ((p1.toInt64) &&& (4294967295 : Int64)))] _
      refine XS.lsub X262.here hx rfl (hb hby at_84) rfl ?_
      show oS p e below T262 m 85 #[iv p0, iv p1, iv p2, iv p3, iv 3, rv b247, un, un, un, un, un, un, un, un, un, un, un, un, un, un, un, un, un, un, un] [(.long (((1 : Int64) <<< ((24 : Int32) &&& 0x3f).toInt64) - (1 : Int64))), (.long ((p1.toInt64) &&& (4294967295 : Int64)))] _
      refine XS.land X262.here hx rfl (hb hby at_85) rfl ?_
      show oS p e below T262 m 86 #[iv p0, iv p1, iv p2, iv p3, iv 3, rv b247, un, un, un, un, un, un, un, un, un, un, un, un, un, un, un, un, un, un, un] [(.long (((p1.toInt64) &&& (4294967295 : Int64)) &&& (((1 : Int64) <<< ((24 : Int32) &&& 0x3f).toInt64) - (1 : Int64))))] _
      refine XS.lstore X262.here hx rfl (hb hby at_86) rfl (l' := #[iv p0, iv p1, iv p2, iv p3, iv 3, rv b247, jv (((p1.toInt64) &&& (4294967295 : Int64)) &&& (((1 : Int64) <<< ((24 : Int32) &&& 0x3f).toInt64) - (1 : Int64))), sn, un, un, un, un, un, un, un, un, un, un, un, un, un, un, un, un, un]) rfl ?_
      exact kt)
    clear pre263
    obtain ⟨wh, hm265, pre265⟩ : ∃ (wh : Int64), (wh.toInt = 1 * (by0.toInt % 256) + 256 * (by1.toInt % 256) + 65536 * (by2.toInt % 256)) ∧ ∀ t, oS p e below T262 m 88 #[iv p0, iv p1, iv p2, iv p3, iv 3, rv b247, jv wh, sn, un, un, un, un, un, un, un, un, un, un, un, un, un, un, un, un, un] [] t → oE p e below s₁ m #[(.int p0), (.int p1), (.int p2), (.int p3)] maxLocals t := ⟨(((p1.toInt64) &&& (4294967295 : Int64)) &&& (((1 : Int64) <<< ((24 : Int32) &&& 0x3f).toInt64) - (1 : Int64))), (by have qa := own_wh3 p1; have qb0 := hm250.2; have qb1 := hm255.2; have qb2 := hm260.2; omega), pre264⟩
    clear pre264
    have pre266 : ∀ t, oS p e below T262 m 97 #[iv p0, iv p1, iv p2, iv p3, iv 3, rv b247, jv wh, sn, jv ((8 : Int64) * ((3 : Int32).toInt64)), sn, un, un, un, un, un, un, un, un, un, un, un, un, un, un, un] [] t → oE p e below s₁ m #[(.int p0), (.int p1), (.int p2), (.int p3)] maxLocals t := fun t kt => pre265 t (by
      show oS p e below T262 m 88 #[iv p0, iv p1, iv p2, iv p3, iv 3, rv b247, jv wh, sn, un, un, un, un, un, un, un, un, un, un, un, un, un, un, un, un, un] [] _
      refine X262.ldc2Long hx hown (mvT hZ (hw _ (List.mem_of_getElem? (i := 3) rfl))) (g := (mkF m 88 #[iv p0, iv p1, iv p2, iv p3, iv 3, rv b247, jv wh, sn, un, un, un, un, un, un, un, un, un, un, un, un, un, un, un, un, un] [])) rfl (hb hby at_88) _ ?_
      show oS p e below T262 m 91 #[iv p0, iv p1, iv p2, iv p3, iv 3, rv b247, jv wh, sn, un, un, un, un, un, un, un, un, un, un, un, un, un, un, un, un, un] [(.long (8 : Int64))] _
      refine XS.iload X262.here hx rfl (hb hby at_91) rfl ?_
      show oS p e below T262 m 93 #[iv p0, iv p1, iv p2, iv p3, iv 3, rv b247, jv wh, sn, un, un, un, un, un, un, un, un, un, un, un, un, un, un, un, un, un] [(.int (3 : Int32)), (.long (8 : Int64))] _
      refine XS.i2l X262.here hx rfl (hb hby at_93) rfl ?_
      show oS p e below T262 m 94 #[iv p0, iv p1, iv p2, iv p3, iv 3, rv b247, jv wh, sn, un, un, un, un, un, un, un, un, un, un, un, un, un, un, un, un, un] [(.long ((3 : Int32).toInt64)), (.long (8 : Int64))] _
      refine XS.lmul X262.here hx rfl (hb hby at_94) rfl ?_
      show oS p e below T262 m 95 #[iv p0, iv p1, iv p2, iv p3, iv 3, rv b247, jv wh, sn, un, un, un, un, un, un, un, un, un, un, un, un, un, un, un, un, un] [(.long ((8 : Int64) * ((3 : Int32).toInt64)))] _
      refine XS.lstore X262.here hx rfl (hb hby at_95) rfl (l' := #[iv p0, iv p1, iv p2, iv p3, iv 3, rv b247, jv wh, sn, jv ((8 : Int64) * ((3 : Int32).toInt64)), sn, un, un, un, un, un, un, un, un, un, un, un, un, un, un, un]) rfl ?_
      exact kt)
    clear pre265
    obtain ⟨sz, hm267, pre267⟩ : ∃ (sz : Int64), (sz = (24 : Int64)) ∧ ∀ t, oS p e below T262 m 97 #[iv p0, iv p1, iv p2, iv p3, iv 3, rv b247, jv wh, sn, jv sz, sn, un, un, un, un, un, un, un, un, un, un, un, un, un, un, un] [] t → oE p e below s₁ m #[(.int p0), (.int p1), (.int p2), (.int p3)] maxLocals t := ⟨((8 : Int64) * ((3 : Int32).toInt64)), (by decide), pre266⟩
    clear pre266
    subst hm267
    have pre268 : ∀ t, oS p e below T262 m 103 #[iv p0, iv p1, iv p2, iv p3, iv 3, rv b247, jv wh, sn, jv 24, sn, iv (p2 &&& (63 : Int32)), un, un, un, un, un, un, un, un, un, un, un, un, un, un] [] t → oE p e below s₁ m #[(.int p0), (.int p1), (.int p2), (.int p3)] maxLocals t := fun t kt => pre267 t (by
      show oS p e below T262 m 97 #[iv p0, iv p1, iv p2, iv p3, iv 3, rv b247, jv wh, sn, jv 24, sn, un, un, un, un, un, un, un, un, un, un, un, un, un, un, un] [] _
      refine XS.iloadN X262.here hx rfl (hb hby at_97) rfl ?_
      show oS p e below T262 m 98 #[iv p0, iv p1, iv p2, iv p3, iv 3, rv b247, jv wh, sn, jv 24, sn, un, un, un, un, un, un, un, un, un, un, un, un, un, un, un] [(.int p2)] _
      refine XS.bipush X262.here hx rfl (hb hby at_98) ?_
      show oS p e below T262 m 100 #[iv p0, iv p1, iv p2, iv p3, iv 3, rv b247, jv wh, sn, jv 24, sn, un, un, un, un, un, un, un, un, un, un, un, un, un, un, un] [(.int (63 : Int32)), (.int p2)] _
      refine XS.iand X262.here hx rfl (hb hby at_100) rfl ?_
      show oS p e below T262 m 101 #[iv p0, iv p1, iv p2, iv p3, iv 3, rv b247, jv wh, sn, jv 24, sn, un, un, un, un, un, un, un, un, un, un, un, un, un, un, un] [(.int (p2 &&& (63 : Int32)))] _
      refine XS.istore X262.here hx rfl (hb hby at_101) rfl (l' := #[iv p0, iv p1, iv p2, iv p3, iv 3, rv b247, jv wh, sn, jv 24, sn, iv (p2 &&& (63 : Int32)), un, un, un, un, un, un, un, un, un, un, un, un, un, un]) rfl ?_
      exact kt)
    clear pre267
    obtain ⟨c1, hm269, pre269⟩ : ∃ (c1 : Int32), (0 ≤ c1.toInt ∧ c1.toInt ≤ 63) ∧ ∀ t, oS p e below T262 m 103 #[iv p0, iv p1, iv p2, iv p3, iv 3, rv b247, jv wh, sn, jv 24, sn, iv c1, un, un, un, un, un, un, un, un, un, un, un, un, un, un] [] t → oE p e below s₁ m #[(.int p0), (.int p1), (.int p2), (.int p3)] maxLocals t := ⟨(p2 &&& (63 : Int32)), own_63 p2, pre268⟩
    clear pre268
    have pre270 : ∀ t, oS p e below T262 m 107 #[iv p0, iv p1, iv p2, iv p3, iv 3, rv b247, jv wh, sn, jv 24, sn, iv c1, un, un, un, un, un, un, un, un, un, un, un, un, un, un] [(.int (p2 &&& (64 : Int32)))] t → oE p e below s₁ m #[(.int p0), (.int p1), (.int p2), (.int p3)] maxLocals t := fun t kt => pre269 t (by
      show oS p e below T262 m 103 #[iv p0, iv p1, iv p2, iv p3, iv 3, rv b247, jv wh, sn, jv 24, sn, iv c1, un, un, un, un, un, un, un, un, un, un, un, un, un, un] [] _
      refine XS.iloadN X262.here hx rfl (hb hby at_103) rfl ?_
      show oS p e below T262 m 104 #[iv p0, iv p1, iv p2, iv p3, iv 3, rv b247, jv wh, sn, jv 24, sn, iv c1, un, un, un, un, un, un, un, un, un, un, un, un, un, un] [(.int p2)] _
      refine XS.bipush X262.here hx rfl (hb hby at_104) ?_
      show oS p e below T262 m 106 #[iv p0, iv p1, iv p2, iv p3, iv 3, rv b247, jv wh, sn, jv 24, sn, iv c1, un, un, un, un, un, un, un, un, un, un, un, un, un, un] [(.int (64 : Int32)), (.int p2)] _
      refine XS.iand X262.here hx rfl (hb hby at_106) rfl ?_
      exact kt)
    clear pre269
    obtain ⟨c2, hm271, pre271⟩ : ∃ (c2 : Int32), (0 ≤ c2.toInt) ∧ ∀ t, oS p e below T262 m 121 #[iv p0, iv p1, iv p2, iv p3, iv 3, rv b247, jv wh, sn, jv 24, sn, iv c1, un, un, un, un, un, un, un, un, un, un, un, un, un, un] [(.int c2)] t → oE p e below s₁ m #[(.int p0), (.int p1), (.int p2), (.int p3)] maxLocals t := by
      by_cases hc107_272 : (p2 &&& (64 : Int32)) = (0 : Int32)
      · have pre273 : ∀ t, oS p e below T262 m 121 #[iv p0, iv p1, iv p2, iv p3, iv 3, rv b247, jv wh, sn, jv 24, sn, iv c1, un, un, un, un, un, un, un, un, un, un, un, un, un, un] [(.int (p3 &&& (63 : Int32)))] t → oE p e below s₁ m #[(.int p0), (.int p1), (.int p2), (.int p3)] maxLocals t := fun t kt => pre270 t (by
          show oS p e below T262 m 107 #[iv p0, iv p1, iv p2, iv p3, iv 3, rv b247, jv wh, sn, jv 24, sn, iv c1, un, un, un, un, un, un, un, un, un, un, un, un, un, un] [(.int (p2 &&& (64 : Int32)))] _
          refine XS.ifYes X262.here hx rfl (pc0 := 107) (pc' := 117) rfl (hb hby at_107) rfl ((if0 _ _).trans (teq hc107_272).1) (by decide) (by decide) ?_
          show oS p e below T262 m 117 #[iv p0, iv p1, iv p2, iv p3, iv 3, rv b247, jv wh, sn, jv 24, sn, iv c1, un, un, un, un, un, un, un, un, un, un, un, un, un, un] [] _
          refine XS.iloadN X262.here hx rfl (hb hby at_117) rfl ?_
          show oS p e below T262 m 118 #[iv p0, iv p1, iv p2, iv p3, iv 3, rv b247, jv wh, sn, jv 24, sn, iv c1, un, un, un, un, un, un, un, un, un, un, un, un, un, un] [(.int p3)] _
          refine XS.bipush X262.here hx rfl (hb hby at_118) ?_
          show oS p e below T262 m 120 #[iv p0, iv p1, iv p2, iv p3, iv 3, rv b247, jv wh, sn, jv 24, sn, iv c1, un, un, un, un, un, un, un, un, un, un, un, un, un, un] [(.int (63 : Int32)), (.int p3)] _
          refine XS.iand X262.here hx rfl (hb hby at_120) rfl ?_
          exact kt)
        clear pre270
        exact ⟨(p3 &&& (63 : Int32)), (own_63 p3).1, pre273⟩
      · have pre274 : ∀ t, oS p e below T262 m 121 #[iv p0, iv p1, iv p2, iv p3, iv 3, rv b247, jv wh, sn, jv 24, sn, iv c1, un, un, un, un, un, un, un, un, un, un, un, un, un, un] [(.int (p3 &&& (2147483647 : Int32)))] t → oE p e below s₁ m #[(.int p0), (.int p1), (.int p2), (.int p3)] maxLocals t := fun t kt => pre270 t (by
          show oS p e below T262 m 107 #[iv p0, iv p1, iv p2, iv p3, iv 3, rv b247, jv wh, sn, jv 24, sn, iv c1, un, un, un, un, un, un, un, un, un, un, un, un, un, un] [(.int (p2 &&& (64 : Int32)))] _
          refine XS.ifNo X262.here hx rfl (hb hby at_107) rfl ((if0 _ _).trans (feq hc107_272).1) ?_
          show oS p e below T262 m 110 #[iv p0, iv p1, iv p2, iv p3, iv 3, rv b247, jv wh, sn, jv 24, sn, iv c1, un, un, un, un, un, un, un, un, un, un, un, un, un, un] [] _
          refine XS.iloadN X262.here hx rfl (hb hby at_110) rfl ?_
          show oS p e below T262 m 111 #[iv p0, iv p1, iv p2, iv p3, iv 3, rv b247, jv wh, sn, jv 24, sn, iv c1, un, un, un, un, un, un, un, un, un, un, un, un, un, un] [(.int p3)] _
          refine X262.ldcInt hx hown (mvT hZ (hw _ (List.mem_of_getElem? (i := 0) rfl))) (g := (mkF m 111 #[iv p0, iv p1, iv p2, iv p3, iv 3, rv b247, jv wh, sn, jv 24, sn, iv c1, un, un, un, un, un, un, un, un, un, un, un, un, un, un] [(.int p3)])) rfl (hb hby at_111) _ ?_
          show oS p e below T262 m 113 #[iv p0, iv p1, iv p2, iv p3, iv 3, rv b247, jv wh, sn, jv 24, sn, iv c1, un, un, un, un, un, un, un, un, un, un, un, un, un, un] [(.int (2147483647 : Int32)), (.int p3)] _
          refine XS.iand X262.here hx rfl (hb hby at_113) rfl ?_
          show oS p e below T262 m 114 #[iv p0, iv p1, iv p2, iv p3, iv 3, rv b247, jv wh, sn, jv 24, sn, iv c1, un, un, un, un, un, un, un, un, un, un, un, un, un, un] [(.int (p3 &&& (2147483647 : Int32)))] _
          refine XS.goto X262.here hx rfl (pc0 := 114) (pc' := 121) rfl (hb hby at_114) (by decide) (by decide) ?_
          exact kt)
        clear pre270
        exact ⟨(p3 &&& (2147483647 : Int32)), own_nn p3, pre274⟩
    clear pre270
    have pre275 : ∀ t, oS p e below T262 m 123 #[iv p0, iv p1, iv p2, iv p3, iv 3, rv b247, jv wh, sn, jv 24, sn, iv c1, iv c2, un, un, un, un, un, un, un, un, un, un, un, un, un] [] t → oE p e below s₁ m #[(.int p0), (.int p1), (.int p2), (.int p3)] maxLocals t := fun t kt => pre271 t (by
      show oS p e below T262 m 121 #[iv p0, iv p1, iv p2, iv p3, iv 3, rv b247, jv wh, sn, jv 24, sn, iv c1, un, un, un, un, un, un, un, un, un, un, un, un, un, un] [(.int c2)] _
      refine XS.istore X262.here hx rfl (hb hby at_121) rfl (l' := #[iv p0, iv p1, iv p2, iv p3, iv 3, rv b247, jv wh, sn, jv 24, sn, iv c1, iv c2, un, un, un, un, un, un, un, un, un, un, un, un, un]) rfl ?_
      exact kt)
    clear pre271
    obtain ⟨r1v, p1v, hm276, pre276⟩ : ∃ (r1v : Int32) (p1v : Int64), ((r1v = (1 : Int32) ∧ c1.toInt ≤ 24 - 0 ∧ p1v.toInt = 0 + c1.toInt) ∨ (r1v = (0 : Int32) ∧ 24 - 0 < c1.toInt ∧ p1v.toInt = 24)) ∧ ∀ t, oS p e below T262 m 154 #[iv p0, iv p1, iv p2, iv p3, iv 3, rv b247, jv wh, sn, jv 24, sn, iv c1, iv c2, iv r1v, jv p1v, sn, un, un, un, un, un, un, un, un, un, un] [] t → oE p e below s₁ m #[(.int p0), (.int p1), (.int p2), (.int p3)] maxLocals t := by
      have pre277 : ∀ t, oS p e below T262 m 129 #[iv p0, iv p1, iv p2, iv p3, iv 3, rv b247, jv wh, sn, jv 24, sn, iv c1, iv c2, un, un, un, un, un, un, un, un, un, un, un, un, un] [(.int (lcmpW (c1.toInt64) (24 : Int64)))] t → oE p e below s₁ m #[(.int p0), (.int p1), (.int p2), (.int p3)] maxLocals t := fun t kt => pre275 t (by
        show oS p e below T262 m 123 #[iv p0, iv p1, iv p2, iv p3, iv 3, rv b247, jv wh, sn, jv 24, sn, iv c1, iv c2, un, un, un, un, un, un, un, un, un, un, un, un, un] [] _
        refine XS.iload X262.here hx rfl (hb hby at_123) rfl ?_
        show oS p e below T262 m 125 #[iv p0, iv p1, iv p2, iv p3, iv 3, rv b247, jv wh, sn, jv 24, sn, iv c1, iv c2, un, un, un, un, un, un, un, un, un, un, un, un, un] [(.int c1)] _
        refine XS.i2l X262.here hx rfl (hb hby at_125) rfl ?_
        show oS p e below T262 m 126 #[iv p0, iv p1, iv p2, iv p3, iv 3, rv b247, jv wh, sn, jv 24, sn, iv c1, iv c2, un, un, un, un, un, un, un, un, un, un, un, un, un] [(.long (c1.toInt64))] _
        refine XS.lload X262.here hx rfl (hb hby at_126) rfl ?_
        show oS p e below T262 m 128 #[iv p0, iv p1, iv p2, iv p3, iv 3, rv b247, jv wh, sn, jv 24, sn, iv c1, iv c2, un, un, un, un, un, un, un, un, un, un, un, un, un] [(.long (24 : Int64)), (.long (c1.toInt64))] _
        refine XS.lcmp X262.here hx rfl (hb hby at_128) rfl ?_
        exact kt)
      clear pre275
      by_cases hc129_278 : (24 : Int64) < (c1.toInt64)
      · have pre279 : ∀ t, oS p e below T262 m 154 #[iv p0, iv p1, iv p2, iv p3, iv 3, rv b247, jv wh, sn, jv 24, sn, iv c1, iv c2, iv 0, jv 24, sn, un, un, un, un, un, un, un, un, un, un] [] t → oE p e below s₁ m #[(.int p0), (.int p1), (.int p2), (.int p3)] maxLocals t := fun t kt => pre277 t (by
          show oS p e below T262 m 129 #[iv p0, iv p1, iv p2, iv p3, iv 3, rv b247, jv wh, sn, jv 24, sn, iv c1, iv c2, un, un, un, un, un, un, un, un, un, un, un, un, un] [(.int (lcmpW (c1.toInt64) (24 : Int64)))] _
          refine XS.ifYes X262.here hx rfl (pc0 := 129) (pc' := 136) rfl (hb hby at_129) rfl (Jvm.Free.XT.ll_gt_t hc129_278) (by decide) (by decide) ?_
          show oS p e below T262 m 136 #[iv p0, iv p1, iv p2, iv p3, iv 3, rv b247, jv wh, sn, jv 24, sn, iv c1, iv c2, un, un, un, un, un, un, un, un, un, un, un, un, un] [] _
          refine XS.iconst X262.here hx rfl (hb hby at_136) ?_
          show oS p e below T262 m 137 #[iv p0, iv p1, iv p2, iv p3, iv 3, rv b247, jv wh, sn, jv 24, sn, iv c1, iv c2, un, un, un, un, un, un, un, un, un, un, un, un, un] [(.int (0 : Int32))] _
          refine XS.istore X262.here hx rfl (hb hby at_137) rfl (l' := #[iv p0, iv p1, iv p2, iv p3, iv 3, rv b247, jv wh, sn, jv 24, sn, iv c1, iv c2, iv 0, un, un, un, un, un, un, un, un, un, un, un, un]) rfl ?_
          show oS p e below T262 m 139 #[iv p0, iv p1, iv p2, iv p3, iv 3, rv b247, jv wh, sn, jv 24, sn, iv c1, iv c2, iv 0, un, un, un, un, un, un, un, un, un, un, un, un] [] _
          refine XS.iload X262.here hx rfl (hb hby at_139) rfl ?_
          show oS p e below T262 m 141 #[iv p0, iv p1, iv p2, iv p3, iv 3, rv b247, jv wh, sn, jv 24, sn, iv c1, iv c2, iv 0, un, un, un, un, un, un, un, un, un, un, un, un] [(.int (0 : Int32))] _
          refine XS.ifYes X262.here hx rfl (pc0 := 141) (pc' := 150) rfl (hb hby at_141) rfl ((if0 _ _).trans (teq (by decide : (0 : Int32) = (0 : Int32))).1) (by decide) (by decide) ?_
          show oS p e below T262 m 150 #[iv p0, iv p1, iv p2, iv p3, iv 3, rv b247, jv wh, sn, jv 24, sn, iv c1, iv c2, iv 0, un, un, un, un, un, un, un, un, un, un, un, un] [] _
          refine XS.lload X262.here hx rfl (hb hby at_150) rfl ?_
          show oS p e below T262 m 152 #[iv p0, iv p1, iv p2, iv p3, iv 3, rv b247, jv wh, sn, jv 24, sn, iv c1, iv c2, iv 0, un, un, un, un, un, un, un, un, un, un, un, un] [(.long (24 : Int64))] _
          refine XS.lstore X262.here hx rfl (hb hby at_152) rfl (l' := #[iv p0, iv p1, iv p2, iv p3, iv 3, rv b247, jv wh, sn, jv 24, sn, iv c1, iv c2, iv 0, jv 24, sn, un, un, un, un, un, un, un, un, un, un]) rfl ?_
          exact kt)
        clear pre277
        exact ⟨(0 : Int32), (24 : Int64), own_r1b c1 (24 : Int64) 24 (by decide) hc129_278, pre279⟩
      · have pre280 : ∀ t, oS p e below T262 m 154 #[iv p0, iv p1, iv p2, iv p3, iv 3, rv b247, jv wh, sn, jv 24, sn, iv c1, iv c2, iv 1, jv (c1.toInt64), sn, un, un, un, un, un, un, un, un, un, un] [] t → oE p e below s₁ m #[(.int p0), (.int p1), (.int p2), (.int p3)] maxLocals t := fun t kt => pre277 t (by
          show oS p e below T262 m 129 #[iv p0, iv p1, iv p2, iv p3, iv 3, rv b247, jv wh, sn, jv 24, sn, iv c1, iv c2, un, un, un, un, un, un, un, un, un, un, un, un, un] [(.int (lcmpW (c1.toInt64) (24 : Int64)))] _
          refine XS.ifNo X262.here hx rfl (hb hby at_129) rfl (Jvm.Free.XT.ll_gt_f hc129_278) ?_
          show oS p e below T262 m 132 #[iv p0, iv p1, iv p2, iv p3, iv 3, rv b247, jv wh, sn, jv 24, sn, iv c1, iv c2, un, un, un, un, un, un, un, un, un, un, un, un, un] [] _
          refine XS.iconst X262.here hx rfl (hb hby at_132) ?_
          show oS p e below T262 m 133 #[iv p0, iv p1, iv p2, iv p3, iv 3, rv b247, jv wh, sn, jv 24, sn, iv c1, iv c2, un, un, un, un, un, un, un, un, un, un, un, un, un] [(.int (1 : Int32))] _
          refine XS.goto X262.here hx rfl (pc0 := 133) (pc' := 137) rfl (hb hby at_133) (by decide) (by decide) ?_
          show oS p e below T262 m 137 #[iv p0, iv p1, iv p2, iv p3, iv 3, rv b247, jv wh, sn, jv 24, sn, iv c1, iv c2, un, un, un, un, un, un, un, un, un, un, un, un, un] [(.int (1 : Int32))] _
          refine XS.istore X262.here hx rfl (hb hby at_137) rfl (l' := #[iv p0, iv p1, iv p2, iv p3, iv 3, rv b247, jv wh, sn, jv 24, sn, iv c1, iv c2, iv 1, un, un, un, un, un, un, un, un, un, un, un, un]) rfl ?_
          show oS p e below T262 m 139 #[iv p0, iv p1, iv p2, iv p3, iv 3, rv b247, jv wh, sn, jv 24, sn, iv c1, iv c2, iv 1, un, un, un, un, un, un, un, un, un, un, un, un] [] _
          refine XS.iload X262.here hx rfl (hb hby at_139) rfl ?_
          show oS p e below T262 m 141 #[iv p0, iv p1, iv p2, iv p3, iv 3, rv b247, jv wh, sn, jv 24, sn, iv c1, iv c2, iv 1, un, un, un, un, un, un, un, un, un, un, un, un] [(.int (1 : Int32))] _
          refine XS.ifNo X262.here hx rfl (hb hby at_141) rfl ((if0 _ _).trans (feq (by decide : ¬ ((1 : Int32) = (0 : Int32)))).1) ?_
          show oS p e below T262 m 144 #[iv p0, iv p1, iv p2, iv p3, iv 3, rv b247, jv wh, sn, jv 24, sn, iv c1, iv c2, iv 1, un, un, un, un, un, un, un, un, un, un, un, un] [] _
          refine XS.iload X262.here hx rfl (hb hby at_144) rfl ?_
          show oS p e below T262 m 146 #[iv p0, iv p1, iv p2, iv p3, iv 3, rv b247, jv wh, sn, jv 24, sn, iv c1, iv c2, iv 1, un, un, un, un, un, un, un, un, un, un, un, un] [(.int c1)] _
          refine XS.i2l X262.here hx rfl (hb hby at_146) rfl ?_
          show oS p e below T262 m 147 #[iv p0, iv p1, iv p2, iv p3, iv 3, rv b247, jv wh, sn, jv 24, sn, iv c1, iv c2, iv 1, un, un, un, un, un, un, un, un, un, un, un, un] [(.long (c1.toInt64))] _
          refine XS.goto X262.here hx rfl (pc0 := 147) (pc' := 152) rfl (hb hby at_147) (by decide) (by decide) ?_
          show oS p e below T262 m 152 #[iv p0, iv p1, iv p2, iv p3, iv 3, rv b247, jv wh, sn, jv 24, sn, iv c1, iv c2, iv 1, un, un, un, un, un, un, un, un, un, un, un, un] [(.long (c1.toInt64))] _
          refine XS.lstore X262.here hx rfl (hb hby at_152) rfl (l' := #[iv p0, iv p1, iv p2, iv p3, iv 3, rv b247, jv wh, sn, jv 24, sn, iv c1, iv c2, iv 1, jv (c1.toInt64), sn, un, un, un, un, un, un, un, un, un, un]) rfl ?_
          exact kt)
        clear pre277
        exact ⟨(1 : Int32), (c1.toInt64), own_r1a c1 (24 : Int64) 24 (by decide) hc129_278, pre280⟩
    clear pre275
    obtain ⟨r2v, p2v, hm281, pre281⟩ : ∃ (r2v : Int32) (p2v : Int64), ((r2v = (1 : Int32) ∧ c2.toInt ≤ 24 - p1v.toInt ∧ p2v.toInt = p1v.toInt + c2.toInt) ∨ (r2v = (0 : Int32) ∧ 24 - p1v.toInt < c2.toInt ∧ p2v.toInt = 24)) ∧ ∀ t, oS p e below T262 m 191 #[iv p0, iv p1, iv p2, iv p3, iv 3, rv b247, jv wh, sn, jv 24, sn, iv c1, iv c2, iv r1v, jv p1v, sn, iv r2v, jv p2v, sn, un, un, un, un, un, un, un] [] t → oE p e below s₁ m #[(.int p0), (.int p1), (.int p2), (.int p3)] maxLocals t := by
      have pre282 : ∀ t, oS p e below T262 m 163 #[iv p0, iv p1, iv p2, iv p3, iv 3, rv b247, jv wh, sn, jv 24, sn, iv c1, iv c2, iv r1v, jv p1v, sn, un, un, un, un, un, un, un, un, un, un] [(.int (lcmpW (c2.toInt64) ((24 : Int64) - p1v)))] t → oE p e below s₁ m #[(.int p0), (.int p1), (.int p2), (.int p3)] maxLocals t := fun t kt => pre276 t (by
        show oS p e below T262 m 154 #[iv p0, iv p1, iv p2, iv p3, iv 3, rv b247, jv wh, sn, jv 24, sn, iv c1, iv c2, iv r1v, jv p1v, sn, un, un, un, un, un, un, un, un, un, un] [] _
        refine XS.iload X262.here hx rfl (hb hby at_154) rfl ?_
        show oS p e below T262 m 156 #[iv p0, iv p1, iv p2, iv p3, iv 3, rv b247, jv wh, sn, jv 24, sn, iv c1, iv c2, iv r1v, jv p1v, sn, un, un, un, un, un, un, un, un, un, un] [(.int c2)] _
        refine XS.i2l X262.here hx rfl (hb hby at_156) rfl ?_
        show oS p e below T262 m 157 #[iv p0, iv p1, iv p2, iv p3, iv 3, rv b247, jv wh, sn, jv 24, sn, iv c1, iv c2, iv r1v, jv p1v, sn, un, un, un, un, un, un, un, un, un, un] [(.long (c2.toInt64))] _
        refine XS.lload X262.here hx rfl (hb hby at_157) rfl ?_
        show oS p e below T262 m 159 #[iv p0, iv p1, iv p2, iv p3, iv 3, rv b247, jv wh, sn, jv 24, sn, iv c1, iv c2, iv r1v, jv p1v, sn, un, un, un, un, un, un, un, un, un, un] [(.long (24 : Int64)), (.long (c2.toInt64))] _
        refine XS.lload X262.here hx rfl (hb hby at_159) rfl ?_
        show oS p e below T262 m 161 #[iv p0, iv p1, iv p2, iv p3, iv 3, rv b247, jv wh, sn, jv 24, sn, iv c1, iv c2, iv r1v, jv p1v, sn, un, un, un, un, un, un, un, un, un, un] [(.long p1v), (.long (24 : Int64)), (.long (c2.toInt64))] _
        refine XS.lsub X262.here hx rfl (hb hby at_161) rfl ?_
        show oS p e below T262 m 162 #[iv p0, iv p1, iv p2, iv p3, iv 3, rv b247, jv wh, sn, jv 24, sn, iv c1, iv c2, iv r1v, jv p1v, sn, un, un, un, un, un, un, un, un, un, un] [(.long ((24 : Int64) - p1v)), (.long (c2.toInt64))] _
        refine XS.lcmp X262.here hx rfl (hb hby at_162) rfl ?_
        exact kt)
      clear pre276
      by_cases hc163_283 : ((24 : Int64) - p1v) < (c2.toInt64)
      · have pre284 : ∀ t, oS p e below T262 m 191 #[iv p0, iv p1, iv p2, iv p3, iv 3, rv b247, jv wh, sn, jv 24, sn, iv c1, iv c2, iv r1v, jv p1v, sn, iv 0, jv 24, sn, un, un, un, un, un, un, un] [] t → oE p e below s₁ m #[(.int p0), (.int p1), (.int p2), (.int p3)] maxLocals t := fun t kt => pre282 t (by
          show oS p e below T262 m 163 #[iv p0, iv p1, iv p2, iv p3, iv 3, rv b247, jv wh, sn, jv 24, sn, iv c1, iv c2, iv r1v, jv p1v, sn, un, un, un, un, un, un, un, un, un, un] [(.int (lcmpW (c2.toInt64) ((24 : Int64) - p1v)))] _
          refine XS.ifYes X262.here hx rfl (pc0 := 163) (pc' := 170) rfl (hb hby at_163) rfl (Jvm.Free.XT.ll_gt_t hc163_283) (by decide) (by decide) ?_
          show oS p e below T262 m 170 #[iv p0, iv p1, iv p2, iv p3, iv 3, rv b247, jv wh, sn, jv 24, sn, iv c1, iv c2, iv r1v, jv p1v, sn, un, un, un, un, un, un, un, un, un, un] [] _
          refine XS.iconst X262.here hx rfl (hb hby at_170) ?_
          show oS p e below T262 m 171 #[iv p0, iv p1, iv p2, iv p3, iv 3, rv b247, jv wh, sn, jv 24, sn, iv c1, iv c2, iv r1v, jv p1v, sn, un, un, un, un, un, un, un, un, un, un] [(.int (0 : Int32))] _
          refine XS.istore X262.here hx rfl (hb hby at_171) rfl (l' := #[iv p0, iv p1, iv p2, iv p3, iv 3, rv b247, jv wh, sn, jv 24, sn, iv c1, iv c2, iv r1v, jv p1v, sn, iv 0, un, un, un, un, un, un, un, un, un]) rfl ?_
          show oS p e below T262 m 173 #[iv p0, iv p1, iv p2, iv p3, iv 3, rv b247, jv wh, sn, jv 24, sn, iv c1, iv c2, iv r1v, jv p1v, sn, iv 0, un, un, un, un, un, un, un, un, un] [] _
          refine XS.iload X262.here hx rfl (hb hby at_173) rfl ?_
          show oS p e below T262 m 175 #[iv p0, iv p1, iv p2, iv p3, iv 3, rv b247, jv wh, sn, jv 24, sn, iv c1, iv c2, iv r1v, jv p1v, sn, iv 0, un, un, un, un, un, un, un, un, un] [(.int (0 : Int32))] _
          refine XS.ifYes X262.here hx rfl (pc0 := 175) (pc' := 187) rfl (hb hby at_175) rfl ((if0 _ _).trans (teq (by decide : (0 : Int32) = (0 : Int32))).1) (by decide) (by decide) ?_
          show oS p e below T262 m 187 #[iv p0, iv p1, iv p2, iv p3, iv 3, rv b247, jv wh, sn, jv 24, sn, iv c1, iv c2, iv r1v, jv p1v, sn, iv 0, un, un, un, un, un, un, un, un, un] [] _
          refine XS.lload X262.here hx rfl (hb hby at_187) rfl ?_
          show oS p e below T262 m 189 #[iv p0, iv p1, iv p2, iv p3, iv 3, rv b247, jv wh, sn, jv 24, sn, iv c1, iv c2, iv r1v, jv p1v, sn, iv 0, un, un, un, un, un, un, un, un, un] [(.long (24 : Int64))] _
          refine XS.lstore X262.here hx rfl (hb hby at_189) rfl (l' := #[iv p0, iv p1, iv p2, iv p3, iv 3, rv b247, jv wh, sn, jv 24, sn, iv c1, iv c2, iv r1v, jv p1v, sn, iv 0, jv 24, sn, un, un, un, un, un, un, un]) rfl ?_
          exact kt)
        clear pre282
        exact ⟨(0 : Int32), (24 : Int64), own_r2b c2 (24 : Int64) p1v 24 (by decide) (by decide) (own_pb 24 r1v c1 p1v (by decide) hm269.1 hm276) hm271 hc163_283, pre284⟩
      · have pre285 : ∀ t, oS p e below T262 m 191 #[iv p0, iv p1, iv p2, iv p3, iv 3, rv b247, jv wh, sn, jv 24, sn, iv c1, iv c2, iv r1v, jv p1v, sn, iv 1, jv (p1v + (c2.toInt64)), sn, un, un, un, un, un, un, un] [] t → oE p e below s₁ m #[(.int p0), (.int p1), (.int p2), (.int p3)] maxLocals t := fun t kt => pre282 t (by
          show oS p e below T262 m 163 #[iv p0, iv p1, iv p2, iv p3, iv 3, rv b247, jv wh, sn, jv 24, sn, iv c1, iv c2, iv r1v, jv p1v, sn, un, un, un, un, un, un, un, un, un, un] [(.int (lcmpW (c2.toInt64) ((24 : Int64) - p1v)))] _
          refine XS.ifNo X262.here hx rfl (hb hby at_163) rfl (Jvm.Free.XT.ll_gt_f hc163_283) ?_
          show oS p e below T262 m 166 #[iv p0, iv p1, iv p2, iv p3, iv 3, rv b247, jv wh, sn, jv 24, sn, iv c1, iv c2, iv r1v, jv p1v, sn, un, un, un, un, un, un, un, un, un, un] [] _
          refine XS.iconst X262.here hx rfl (hb hby at_166) ?_
          show oS p e below T262 m 167 #[iv p0, iv p1, iv p2, iv p3, iv 3, rv b247, jv wh, sn, jv 24, sn, iv c1, iv c2, iv r1v, jv p1v, sn, un, un, un, un, un, un, un, un, un, un] [(.int (1 : Int32))] _
          refine XS.goto X262.here hx rfl (pc0 := 167) (pc' := 171) rfl (hb hby at_167) (by decide) (by decide) ?_
          show oS p e below T262 m 171 #[iv p0, iv p1, iv p2, iv p3, iv 3, rv b247, jv wh, sn, jv 24, sn, iv c1, iv c2, iv r1v, jv p1v, sn, un, un, un, un, un, un, un, un, un, un] [(.int (1 : Int32))] _
          refine XS.istore X262.here hx rfl (hb hby at_171) rfl (l' := #[iv p0, iv p1, iv p2, iv p3, iv 3, rv b247, jv wh, sn, jv 24, sn, iv c1, iv c2, iv r1v, jv p1v, sn, iv 1, un, un, un, un, un, un, un, un, un]) rfl ?_
          show oS p e below T262 m 173 #[iv p0, iv p1, iv p2, iv p3, iv 3, rv b247, jv wh, sn, jv 24, sn, iv c1, iv c2, iv r1v, jv p1v, sn, iv 1, un, un, un, un, un, un, un, un, un] [] _
          refine XS.iload X262.here hx rfl (hb hby at_173) rfl ?_
          show oS p e below T262 m 175 #[iv p0, iv p1, iv p2, iv p3, iv 3, rv b247, jv wh, sn, jv 24, sn, iv c1, iv c2, iv r1v, jv p1v, sn, iv 1, un, un, un, un, un, un, un, un, un] [(.int (1 : Int32))] _
          refine XS.ifNo X262.here hx rfl (hb hby at_175) rfl ((if0 _ _).trans (feq (by decide : ¬ ((1 : Int32) = (0 : Int32)))).1) ?_
          show oS p e below T262 m 178 #[iv p0, iv p1, iv p2, iv p3, iv 3, rv b247, jv wh, sn, jv 24, sn, iv c1, iv c2, iv r1v, jv p1v, sn, iv 1, un, un, un, un, un, un, un, un, un] [] _
          refine XS.lload X262.here hx rfl (hb hby at_178) rfl ?_
          show oS p e below T262 m 180 #[iv p0, iv p1, iv p2, iv p3, iv 3, rv b247, jv wh, sn, jv 24, sn, iv c1, iv c2, iv r1v, jv p1v, sn, iv 1, un, un, un, un, un, un, un, un, un] [(.long p1v)] _
          refine XS.iload X262.here hx rfl (hb hby at_180) rfl ?_
          show oS p e below T262 m 182 #[iv p0, iv p1, iv p2, iv p3, iv 3, rv b247, jv wh, sn, jv 24, sn, iv c1, iv c2, iv r1v, jv p1v, sn, iv 1, un, un, un, un, un, un, un, un, un] [(.int c2), (.long p1v)] _
          refine XS.i2l X262.here hx rfl (hb hby at_182) rfl ?_
          show oS p e below T262 m 183 #[iv p0, iv p1, iv p2, iv p3, iv 3, rv b247, jv wh, sn, jv 24, sn, iv c1, iv c2, iv r1v, jv p1v, sn, iv 1, un, un, un, un, un, un, un, un, un] [(.long (c2.toInt64)), (.long p1v)] _
          refine XS.ladd X262.here hx rfl (hb hby at_183) rfl ?_
          show oS p e below T262 m 184 #[iv p0, iv p1, iv p2, iv p3, iv 3, rv b247, jv wh, sn, jv 24, sn, iv c1, iv c2, iv r1v, jv p1v, sn, iv 1, un, un, un, un, un, un, un, un, un] [(.long (p1v + (c2.toInt64)))] _
          refine XS.goto X262.here hx rfl (pc0 := 184) (pc' := 189) rfl (hb hby at_184) (by decide) (by decide) ?_
          show oS p e below T262 m 189 #[iv p0, iv p1, iv p2, iv p3, iv 3, rv b247, jv wh, sn, jv 24, sn, iv c1, iv c2, iv r1v, jv p1v, sn, iv 1, un, un, un, un, un, un, un, un, un] [(.long (p1v + (c2.toInt64)))] _
          refine XS.lstore X262.here hx rfl (hb hby at_189) rfl (l' := #[iv p0, iv p1, iv p2, iv p3, iv 3, rv b247, jv wh, sn, jv 24, sn, iv c1, iv c2, iv r1v, jv p1v, sn, iv 1, jv (p1v + (c2.toInt64)), sn, un, un, un, un, un, un, un]) rfl ?_
          exact kt)
        clear pre282
        exact ⟨(1 : Int32), (p1v + (c2.toInt64)), own_r2a c2 (24 : Int64) p1v 24 (by decide) (by decide) (own_pb 24 r1v c1 p1v (by decide) hm269.1 hm276) hm271 hc163_283, pre285⟩
    clear pre276
    obtain ⟨T286, h286, X286, e286, E286, A286, D286, -, st286⟩ := newO X262 hx hZ hown (hw _ (List.mem_of_getElem? (i := 4) rfl)) (hw _ (List.mem_of_getElem? (i := 5) rfl)) (hw _ (List.mem_of_getElem? (i := 6) rfl)) e262 (g := (mkF m 191 #[iv p0, iv p1, iv p2, iv p3, iv 3, rv b247, jv wh, sn, jv 24, sn, iv c1, iv c2, iv r1v, jv p1v, sn, iv r2v, jv p2v, sn, un, un, un, un, un, un, un] [])) rfl (hb hby at_191) (by decide) (by decide)
    obtain ⟨b286, g286⟩ : ∃ z, z = h262.size := ⟨_, rfl⟩
    rw [← g286] at A286 D286 st286
    have ne_b247_b286 : b247 ≠ b286 := Nat.ne_of_lt (Nat.lt_of_lt_of_le V262.lt (Nat.le_of_eq g286.symm))
    have pre287 : ∀ t, oS p e below T286 m 194 #[iv p0, iv p1, iv p2, iv p3, iv 3, rv b247, jv wh, sn, jv 24, sn, iv c1, iv c2, iv r1v, jv p1v, sn, iv r2v, jv p2v, sn, un, un, un, un, un, un, un] [(.ref b286)] t → oE p e below s₁ m #[(.int p0), (.int p1), (.int p2), (.int p3)] maxLocals t := fun t kt => pre281 t (st286 _ kt)
    clear pre281 st286
    have F288 : Arv Z h286 b247 k247 .byte (3 : Int32) [(.int by0), (.int by1), (.int by2)] (.int (0 : Int32)) := V262.ext E286
    have gn286 : n0 ≤ b286 := Nat.le_trans Z262 (Nat.le_of_eq g286.symm)
    have sz286 : h0.size ≤ b286 := Nat.le_trans K262.1 (Nat.le_of_eq g286.symm)
    have K286 : Keep h0 h286 [] := K262.ext E286
    have Z286 : n0 ≤ h286.size := Nat.le_trans Z262 E286.1
    have Fn286_data : Fld Z h286 b286 vB "data" "[B" .null := D286 (Or.inr (hw _ (List.mem_of_getElem? (i := 14) rfl))) (ty := (.array .byte)) (by decide)
    have Fn286_size : Fld Z h286 b286 vB "size" "J" (.long (0 : Int64)) := D286 (Or.inr (hw _ (List.mem_of_getElem? (i := 17) rfl))) (ty := .long) (by decide)
    have Fn286_position : Fld Z h286 b286 vB "position" "J" (.long (0 : Int64)) := D286 (Or.inl (hw _ (List.mem_of_getElem? (i := 24) rfl))) (ty := .long) (by decide)
    have Fn286_ended : Fld Z h286 b286 vB "ended" "Z" (.int (0 : Int32)) := D286 (Or.inl (hw _ (List.mem_of_getElem? (i := 26) rfl))) (ty := .boolean) (by decide)
    have pre289 : ∀ t, oS p e below T286 m 197 #[iv p0, iv p1, iv p2, iv p3, iv 3, rv b247, jv wh, sn, jv 24, sn, iv c1, iv c2, iv r1v, jv p1v, sn, iv r2v, jv p2v, sn, un, un, un, un, un, un, un] [(.ref b247), (.ref b286), (.ref b286)] t → oE p e below s₁ m #[(.int p0), (.int p1), (.int p2), (.int p3)] maxLocals t := fun t kt => pre287 t (by
      show oS p e below T286 m 194 #[iv p0, iv p1, iv p2, iv p3, iv 3, rv b247, jv wh, sn, jv 24, sn, iv c1, iv c2, iv r1v, jv p1v, sn, iv r2v, jv p2v, sn, un, un, un, un, un, un, un] [(.ref b286)] _
      refine XS.dup X286.here hx rfl (hb hby at_194) rfl rfl ?_
      show oS p e below T286 m 195 #[iv p0, iv p1, iv p2, iv p3, iv 3, rv b247, jv wh, sn, jv 24, sn, iv c1, iv c2, iv r1v, jv p1v, sn, iv r2v, jv p2v, sn, un, un, un, un, un, un, un] [(.ref b286), (.ref b286)] _
      refine XS.aload X286.here hx rfl (hb hby at_195) rfl rfl ?_
      exact kt)
    clear pre287
    obtain ⟨_, _, ⟨T290, L290, k290, n290⟩, -, X290, ⟨Lc290, hQ290, l290, y290, z290⟩, st290⟩ := X286.specialBack hx (y := (⟨vB, "<init>", "([B)V"⟩ : MethodName)) rfl hown (mvT hZ (hw _ (List.mem_of_getElem? (i := 7) rfl))) (mvT hZ (hw _ (List.mem_of_getElem? (i := 8) rfl))) (mvT hZ (hw _ (List.mem_of_getElem? (i := 9) rfl))) (by decide) (backOf (W := 1) (rm1c3 l Z av hw [] b286 b247 k247 by0 by1 by2 h286 n0 Z286 A286 gn286 Fn286_data Fn286_size Fn286_position Fn286_ended F288 (Ne.symm ne_b247_b286)) hZ (hw _ (List.mem_of_getElem? (i := 9) rfl)) (hw _ (List.mem_of_getElem? (i := 6) rfl)) (by decide) (by decide)) (g := (mkF m 197 #[iv p0, iv p1, iv p2, iv p3, iv 3, rv b247, jv wh, sn, jv 24, sn, iv c1, iv c2, iv r1v, jv p1v, sn, iv r2v, jv p2v, sn, un, un, un, un, un, un, un] [(.ref b247), (.ref b286), (.ref b286)])) rfl (by rw [hml]; rfl) (Steps.refl _) (a := b286) (argsL := [(.ref b247)]) (rest := [(.ref b286)]) (lenOf pd___B_V rfl) rfl (by show 2 * 0 + _ ≤ _; exact Nat.le_of_eq rfl) (hb hby at_197) (fun _ _ => ⟨rfl, e286, (by decide : 2 + 0 ≤ _), (by decide : 7 + 0 ≤ _)⟩)
    dsimp only [Pt.U, Pt.locs, Pt.cells, Pt.slots] at X290 l290 y290 z290 st290 hQ290
    rw [l290, y290, z290] at X290
    clear l290 y290 z290
    obtain ⟨rfl, N290q, Kq290, Fq290_0, Fq290_1, Fq290_2, Fq290_3, Fq290_4⟩ := hQ290
    have N290 := Fr.app N262 N290q
    have F291 : Arv Z T290.heap b247 k247 .byte (3 : Int32) [(.int by0), (.int by1), (.int by2)] (.int (0 : Int32)) := F288.keep Kq290 (ninS ne_b247_b286 nin0)
    have K290 : Keep h0 T290.heap [] := K286.trans Kq290 (allS (Or.inr sz286) all0)
    have Z290 : n0 ≤ T290.heap.size := Nat.le_trans Z286 Kq290.1
    have Fq290_0' : Exa Z T290.heap b286 vB := Fq290_0
    have Fq290_1' : Fld Z T290.heap b286 vB "data" "[B" (.ref b247) := Fq290_1
    have Fq290_2' : Fld Z T290.heap b286 vB "size" "J" (.long ((8 : Int64) * ((3 : Int32).toInt64))) := Fq290_2
    have Fq290_3' : Fld Z T290.heap b286 vB "position" "J" (.long (0 : Int64)) := Fq290_3
    have Fq290_4' : Fld Z T290.heap b286 vB "ended" "Z" (.int (0 : Int32)) := Fq290_4
    have pre292 : ∀ t, oS p e below T290 m 200 #[iv p0, iv p1, iv p2, iv p3, iv 3, rv b247, jv wh, sn, jv 24, sn, iv c1, iv c2, iv r1v, jv p1v, sn, iv r2v, jv p2v, sn, un, un, un, un, un, un, un] [(.ref b286)] t → oE p e below s₁ m #[(.int p0), (.int p1), (.int p2), (.int p3)] maxLocals t := fun t kt => pre289 t (st290.trans kt)
    clear pre289 st290
    have pre293 : ∀ t, oS p e below T290 m 206 #[iv p0, iv p1, iv p2, iv p3, iv 3, rv b247, jv wh, sn, jv 24, sn, iv c1, iv c2, iv r1v, jv p1v, sn, iv r2v, jv p2v, sn, rv b286, un, un, un, un, un, un] [(.int c1), (.ref b286)] t → oE p e below s₁ m #[(.int p0), (.int p1), (.int p2), (.int p3)] maxLocals t := fun t kt => pre292 t (by
      show oS p e below T290 m 200 #[iv p0, iv p1, iv p2, iv p3, iv 3, rv b247, jv wh, sn, jv 24, sn, iv c1, iv c2, iv r1v, jv p1v, sn, iv r2v, jv p2v, sn, un, un, un, un, un, un, un] [(.ref b286)] _
      refine XS.astore X290.here hx rfl (hb hby at_200) rfl rfl (l' := #[iv p0, iv p1, iv p2, iv p3, iv 3, rv b247, jv wh, sn, jv 24, sn, iv c1, iv c2, iv r1v, jv p1v, sn, iv r2v, jv p2v, sn, rv b286, un, un, un, un, un, un]) rfl ?_
      show oS p e below T290 m 202 #[iv p0, iv p1, iv p2, iv p3, iv 3, rv b247, jv wh, sn, jv 24, sn, iv c1, iv c2, iv r1v, jv p1v, sn, iv r2v, jv p2v, sn, rv b286, un, un, un, un, un, un] [] _
      refine XS.aload X290.here hx rfl (hb hby at_202) rfl rfl ?_
      show oS p e below T290 m 204 #[iv p0, iv p1, iv p2, iv p3, iv 3, rv b247, jv wh, sn, jv 24, sn, iv c1, iv c2, iv r1v, jv p1v, sn, iv r2v, jv p2v, sn, rv b286, un, un, un, un, un, un] [(.ref b286)] _
      refine XS.iload X290.here hx rfl (hb hby at_204) rfl ?_
      exact kt)
    clear pre292
    obtain ⟨cq294, kq294, q294a, q294b, q294c⟩ := isOf hZ rfl Fq290_0'
    obtain ⟨_, _, ⟨T295, L295, k295, n295⟩, -, X295, ⟨Lc295, hQ295, l295, y295, z295⟩, st295⟩ := X290.virtualBack hx (y := (⟨vB, "skip", "(I)Z"⟩ : MethodName)) (z := (⟨vB, "skip", "(I)Z"⟩ : MethodName)) hown (mvT hZ (hw _ (List.mem_of_getElem? (i := 18) rfl))) (mvT hZ (hw _ (List.mem_of_getElem? (i := 19) rfl))) (notFace_of_selects (args := #[]) (mvT hZ (hw _ (List.mem_of_getElem? (i := 21) rfl)))) (mvT hZ (hw _ (List.mem_of_getElem? (i := 21) rfl))) (mvT hZ (hw _ (List.mem_of_getElem? (i := 20) rfl))) (by decide) (backOf (W := 0) (rm3 l Z av hw [] b286 c1 b247 ((8 : Int64) * ((3 : Int32).toInt64)) (0 : Int64) (0 : Int32) T290.heap n0 Z290 Fq290_0' gn286 Fq290_1' Fq290_2' Fq290_3' Fq290_4') hZ (hw _ (List.mem_of_getElem? (i := 22) rfl)) (hw _ (List.mem_of_getElem? (i := 6) rfl)) (by decide) (by decide)) q294a q294c (g := (mkF m 206 #[iv p0, iv p1, iv p2, iv p3, iv 3, rv b247, jv wh, sn, jv 24, sn, iv c1, iv c2, iv r1v, jv p1v, sn, iv r2v, jv p2v, sn, rv b286, un, un, un, un, un, un] [(.int c1), (.ref b286)])) rfl (by rw [hml]; rfl) (Steps.refl _) (argsL := [(.int c1)]) (rest := []) (lenOf pd__I_Z rfl) rfl (by show 2 * 0 + _ ≤ _; exact Nat.le_of_eq rfl) (hb hby at_206) (fun _ _ => ⟨rfl, rfl, (by decide : 2 + 0 ≤ _), (by decide : 7 + 0 ≤ _)⟩)
    dsimp only [Pt.U, Pt.locs, Pt.cells, Pt.slots] at X295 l295 y295 z295 st295 hQ295
    rw [l295, y295, z295] at X295
    clear l295 y295 z295
    obtain ⟨rv295, ps295, ed295, rfl, Nz295, Kz295, ⟨Gz0, Gz1, Gz2, Gz3, Gz4⟩, Rl295⟩ := hQ295
    have hQ295 := And.intro (rfl : (0 : Nat) = 0) (And.intro Nz295 (And.intro Kz295 (And.intro Gz0 (And.intro Gz1 (And.intro Gz2 (And.intro Gz3 Gz4))))))
    obtain ⟨-, N295q, Kq295, Fq295_0, Fq295_1, Fq295_2, Fq295_3, Fq295_4⟩ := hQ295
    have N295 := Fr.app N290 N295q
    have F296 : Arv Z T295.heap b247 k247 .byte (3 : Int32) [(.int by0), (.int by1), (.int by2)] (.int (0 : Int32)) := F291.keep Kq295 (ninS ne_b247_b286 nin0)
    have K295 : Keep h0 T295.heap [] := K290.trans Kq295 (allS (Or.inr sz286) all0)
    have Z295 : n0 ≤ T295.heap.size := Nat.le_trans Z290 Kq295.1
    have Fq295_0' : Exa Z T295.heap b286 vB := Fq295_0
    have Fq295_1' : Fld Z T295.heap b286 vB "data" "[B" (.ref b247) := Fq295_1
    have Fq295_2' : Fld Z T295.heap b286 vB "size" "J" (.long ((8 : Int64) * ((3 : Int32).toInt64))) := Fq295_2
    have Fq295_3' : Fld Z T295.heap b286 vB "position" "J" (.long ps295) := Fq295_3
    have Fq295_4' : Fld Z T295.heap b286 vB "ended" "Z" (.int ed295) := Fq295_4
    have pre297 : ∀ t, oS p e below T295 m 209 #[iv p0, iv p1, iv p2, iv p3, iv 3, rv b247, jv wh, sn, jv 24, sn, iv c1, iv c2, iv r1v, jv p1v, sn, iv r2v, jv p2v, sn, rv b286, un, un, un, un, un, un] [(.int rv295)] t → oE p e below s₁ m #[(.int p0), (.int p1), (.int p2), (.int p3)] maxLocals t := fun t kt => pre293 t (st295.trans kt)
    clear pre293 st295
    have pre298 : ∀ t, oS p e below T295 m 215 #[iv p0, iv p1, iv p2, iv p3, iv 3, rv b247, jv wh, sn, jv 24, sn, iv c1, iv c2, iv r1v, jv p1v, sn, iv r2v, jv p2v, sn, rv b286, iv rv295, un, un, un, un, un] [(.int (32 : Int32)), (.ref b286)] t → oE p e below s₁ m #[(.int p0), (.int p1), (.int p2), (.int p3)] maxLocals t := fun t kt => pre297 t (by
      show oS p e below T295 m 209 #[iv p0, iv p1, iv p2, iv p3, iv 3, rv b247, jv wh, sn, jv 24, sn, iv c1, iv c2, iv r1v, jv p1v, sn, iv r2v, jv p2v, sn, rv b286, un, un, un, un, un, un] [(.int rv295)] _
      refine XS.istore X295.here hx rfl (hb hby at_209) rfl (l' := #[iv p0, iv p1, iv p2, iv p3, iv 3, rv b247, jv wh, sn, jv 24, sn, iv c1, iv c2, iv r1v, jv p1v, sn, iv r2v, jv p2v, sn, rv b286, iv rv295, un, un, un, un, un]) rfl ?_
      show oS p e below T295 m 211 #[iv p0, iv p1, iv p2, iv p3, iv 3, rv b247, jv wh, sn, jv 24, sn, iv c1, iv c2, iv r1v, jv p1v, sn, iv r2v, jv p2v, sn, rv b286, iv rv295, un, un, un, un, un] [] _
      refine XS.aload X295.here hx rfl (hb hby at_211) rfl rfl ?_
      show oS p e below T295 m 213 #[iv p0, iv p1, iv p2, iv p3, iv 3, rv b247, jv wh, sn, jv 24, sn, iv c1, iv c2, iv r1v, jv p1v, sn, iv r2v, jv p2v, sn, rv b286, iv rv295, un, un, un, un, un] [(.ref b286)] _
      refine XS.bipush X295.here hx rfl (hb hby at_213) ?_
      exact kt)
    clear pre297
    have sk299 := own_skr 24 0 ((8 : Int64) * ((3 : Int32).toInt64)) (0 : Int64) ps295 p1v c1 rv295 r1v (0 : Int32) ed295 (by decide) (by decide) (by decide) (by decide) hm269.1 hm276 Rl295
    obtain ⟨cq300, kq300, q300a, q300b, q300c⟩ := isOf hZ rfl Fq295_0'
    obtain ⟨_, _, ⟨T301, L301, k301, n301⟩, -, X301, ⟨Lc301, hQ301, l301, y301, z301⟩, st301⟩ := X295.virtualBack hx (y := (⟨vB, "peek", "(I)I"⟩ : MethodName)) (z := (⟨vB, "peek", "(I)I"⟩ : MethodName)) hown (mvT hZ (hw _ (List.mem_of_getElem? (i := 27) rfl))) (mvT hZ (hw _ (List.mem_of_getElem? (i := 28) rfl))) (notFace_of_selects (args := #[]) (mvT hZ (hw _ (List.mem_of_getElem? (i := 30) rfl)))) (mvT hZ (hw _ (List.mem_of_getElem? (i := 30) rfl))) (mvT hZ (hw _ (List.mem_of_getElem? (i := 29) rfl))) (by decide) (backOf (W := 0) (rm4p3 l Z av hw [] b286 b247 ((8 : Int64) * ((3 : Int32).toInt64)) ps295 ed295 k247 by0 by1 by2 T295.heap n0 Z295 Fq295_0' gn286 Fq295_1' Fq295_2' Fq295_3' Fq295_4' F296 sk299.2.2.1) hZ (hw _ (List.mem_of_getElem? (i := 31) rfl)) (hw _ (List.mem_of_getElem? (i := 6) rfl)) (by decide) (by decide)) q300a q300c (g := (mkF m 215 #[iv p0, iv p1, iv p2, iv p3, iv 3, rv b247, jv wh, sn, jv 24, sn, iv c1, iv c2, iv r1v, jv p1v, sn, iv r2v, jv p2v, sn, rv b286, iv rv295, un, un, un, un, un] [(.int (32 : Int32)), (.ref b286)])) rfl (by rw [hml]; rfl) (Steps.refl _) (argsL := [(.int (32 : Int32))]) (rest := []) (lenOf pd__I_I rfl) rfl (by show 2 * 0 + _ ≤ _; exact Nat.le_of_eq rfl) (hb hby at_215) (fun _ _ => ⟨rfl, rfl, (by decide : 2 + 0 ≤ _), (by decide : 7 + 0 ≤ _)⟩)
    dsimp only [Pt.U, Pt.locs, Pt.cells, Pt.slots] at X301 l301 y301 z301 st301 hQ301
    rw [l301, y301, z301] at X301
    clear l301 y301 z301
    obtain ⟨rfl, N301q, e301⟩ := hQ301
    have N301 := Fr.app N295 N301q
    have pre302 : ∀ t, oS p e below T301 m 218 #[iv p0, iv p1, iv p2, iv p3, iv 3, rv b247, jv wh, sn, jv 24, sn, iv c1, iv c2, iv r1v, jv p1v, sn, iv r2v, jv p2v, sn, rv b286, iv rv295, un, un, un, un, un] [(.int (Int32.ofInt ((1 * (by0.toInt % 256) + 256 * (by1.toInt % 256) + 65536 * (by2.toInt % 256)) / 2 ^ ps295.toInt.toNat)))] t → oE p e below s₁ m #[(.int p0), (.int p1), (.int p2), (.int p3)] maxLocals t := fun t kt => pre298 t (st301.trans kt)
    clear pre298 st301
    obtain ⟨kv218, hm303, pre303⟩ : ∃ (kv218 : Int32), (kv218 = (Int32.ofInt ((1 * (by0.toInt % 256) + 256 * (by1.toInt % 256) + 65536 * (by2.toInt % 256)) / 2 ^ ps295.toInt.toNat))) ∧ ∀ t, oS p e below T301 m 218 #[iv p0, iv p1, iv p2, iv p3, iv 3, rv b247, jv wh, sn, jv 24, sn, iv c1, iv c2, iv r1v, jv p1v, sn, iv r2v, jv p2v, sn, rv b286, iv rv295, un, un, un, un, un] [(.int kv218)] t → oE p e below s₁ m #[(.int p0), (.int p1), (.int p2), (.int p3)] maxLocals t := ⟨(Int32.ofInt ((1 * (by0.toInt % 256) + 256 * (by1.toInt % 256) + 65536 * (by2.toInt % 256)) / 2 ^ ps295.toInt.toNat)), rfl, pre302⟩
    clear pre302
    have pre304 : ∀ t, oS p e below T301 m 222 #[iv p0, iv p1, iv p2, iv p3, iv 3, rv b247, jv wh, sn, jv 24, sn, iv c1, iv c2, iv r1v, jv p1v, sn, iv r2v, jv p2v, sn, rv b286, iv rv295, iv kv218, un, un, un, un] [(.ref b286)] t → oE p e below s₁ m #[(.int p0), (.int p1), (.int p2), (.int p3)] maxLocals t := fun t kt => pre303 t (by
      show oS p e below T301 m 218 #[iv p0, iv p1, iv p2, iv p3, iv 3, rv b247, jv wh, sn, jv 24, sn, iv c1, iv c2, iv r1v, jv p1v, sn, iv r2v, jv p2v, sn, rv b286, iv rv295, un, un, un, un, un] [(.int kv218)] _
      refine XS.istore X301.here hx rfl (hb hby at_218) rfl (l' := #[iv p0, iv p1, iv p2, iv p3, iv 3, rv b247, jv wh, sn, jv 24, sn, iv c1, iv c2, iv r1v, jv p1v, sn, iv r2v, jv p2v, sn, rv b286, iv rv295, iv kv218, un, un, un, un]) rfl ?_
      show oS p e below T301 m 220 #[iv p0, iv p1, iv p2, iv p3, iv 3, rv b247, jv wh, sn, jv 24, sn, iv c1, iv c2, iv r1v, jv p1v, sn, iv r2v, jv p2v, sn, rv b286, iv rv295, iv kv218, un, un, un, un] [] _
      refine XS.aload X301.here hx rfl (hb hby at_220) rfl rfl ?_
      exact kt)
    clear pre303
    obtain ⟨cq305, kq305, q305a, q305b, q305c⟩ := isOf hZ e301 Fq295_0'
    obtain ⟨_, _, ⟨T306, L306, k306, n306⟩, -, X306, ⟨Lc306, hQ306, l306, y306, z306⟩, st306⟩ := X301.virtualBack hx (y := (⟨vB, "ended", "()Z"⟩ : MethodName)) (z := (⟨vB, "ended", "()Z"⟩ : MethodName)) hown (mvT hZ (hw _ (List.mem_of_getElem? (i := 37) rfl))) (mvT hZ (hw _ (List.mem_of_getElem? (i := 38) rfl))) (notFace_of_selects (args := #[]) (mvT hZ (hw _ (List.mem_of_getElem? (i := 40) rfl)))) (mvT hZ (hw _ (List.mem_of_getElem? (i := 40) rfl))) (mvT hZ (hw _ (List.mem_of_getElem? (i := 39) rfl))) (by decide) (backOf (W := 0) (rm6 l Z av hw [] b286 b247 ((8 : Int64) * ((3 : Int32).toInt64)) ps295 ed295 T295.heap n0 Z295 Fq295_0' gn286 Fq295_1' Fq295_2' Fq295_3' Fq295_4' (own_nar1 r1v ed295 sk299.2.2.2)) hZ (hw _ (List.mem_of_getElem? (i := 41) rfl)) (hw _ (List.mem_of_getElem? (i := 6) rfl)) (by decide) (by decide)) q305a q305c (g := (mkF m 222 #[iv p0, iv p1, iv p2, iv p3, iv 3, rv b247, jv wh, sn, jv 24, sn, iv c1, iv c2, iv r1v, jv p1v, sn, iv r2v, jv p2v, sn, rv b286, iv rv295, iv kv218, un, un, un, un] [(.ref b286)])) rfl (by rw [hml]; rfl) (Steps.refl _) (argsL := []) (rest := []) (lenOf pd___Z rfl) rfl (by show 2 * 0 + _ ≤ _; exact Nat.le_of_eq rfl) (hb hby at_222) (fun _ _ => ⟨rfl, e301, (by decide : 2 + 0 ≤ _), (by decide : 7 + 0 ≤ _)⟩)
    dsimp only [Pt.U, Pt.locs, Pt.cells, Pt.slots] at X306 l306 y306 z306 st306 hQ306
    rw [l306, y306, z306] at X306
    clear l306 y306 z306
    obtain ⟨rfl, N306q, e306⟩ := hQ306
    have N306 := Fr.app N301 N306q
    have pre307 : ∀ t, oS p e below T306 m 225 #[iv p0, iv p1, iv p2, iv p3, iv 3, rv b247, jv wh, sn, jv 24, sn, iv c1, iv c2, iv r1v, jv p1v, sn, iv r2v, jv p2v, sn, rv b286, iv rv295, iv kv218, un, un, un, un] [(.int ed295)] t → oE p e below s₁ m #[(.int p0), (.int p1), (.int p2), (.int p3)] maxLocals t := fun t kt => pre304 t (st306.trans kt)
    clear pre304 st306
    have pre308 : ∀ t, oS p e below T306 m 231 #[iv p0, iv p1, iv p2, iv p3, iv 3, rv b247, jv wh, sn, jv 24, sn, iv c1, iv c2, iv r1v, jv p1v, sn, iv r2v, jv p2v, sn, rv b286, iv rv295, iv kv218, iv ed295, un, un, un] [(.int c2), (.ref b286)] t → oE p e below s₁ m #[(.int p0), (.int p1), (.int p2), (.int p3)] maxLocals t := fun t kt => pre307 t (by
      show oS p e below T306 m 225 #[iv p0, iv p1, iv p2, iv p3, iv 3, rv b247, jv wh, sn, jv 24, sn, iv c1, iv c2, iv r1v, jv p1v, sn, iv r2v, jv p2v, sn, rv b286, iv rv295, iv kv218, un, un, un, un] [(.int ed295)] _
      refine XS.istore X306.here hx rfl (hb hby at_225) rfl (l' := #[iv p0, iv p1, iv p2, iv p3, iv 3, rv b247, jv wh, sn, jv 24, sn, iv c1, iv c2, iv r1v, jv p1v, sn, iv r2v, jv p2v, sn, rv b286, iv rv295, iv kv218, iv ed295, un, un, un]) rfl ?_
      show oS p e below T306 m 227 #[iv p0, iv p1, iv p2, iv p3, iv 3, rv b247, jv wh, sn, jv 24, sn, iv c1, iv c2, iv r1v, jv p1v, sn, iv r2v, jv p2v, sn, rv b286, iv rv295, iv kv218, iv ed295, un, un, un] [] _
      refine XS.aload X306.here hx rfl (hb hby at_227) rfl rfl ?_
      show oS p e below T306 m 229 #[iv p0, iv p1, iv p2, iv p3, iv 3, rv b247, jv wh, sn, jv 24, sn, iv c1, iv c2, iv r1v, jv p1v, sn, iv r2v, jv p2v, sn, rv b286, iv rv295, iv kv218, iv ed295, un, un, un] [(.ref b286)] _
      refine XS.iload X306.here hx rfl (hb hby at_229) rfl ?_
      exact kt)
    clear pre307
    obtain ⟨cq309, kq309, q309a, q309b, q309c⟩ := isOf hZ e306 Fq295_0'
    obtain ⟨_, _, ⟨T310, L310, k310, n310⟩, -, X310, ⟨Lc310, hQ310, l310, y310, z310⟩, st310⟩ := X306.virtualBack hx (y := (⟨vB, "skip", "(I)Z"⟩ : MethodName)) (z := (⟨vB, "skip", "(I)Z"⟩ : MethodName)) hown (mvT hZ (hw _ (List.mem_of_getElem? (i := 18) rfl))) (mvT hZ (hw _ (List.mem_of_getElem? (i := 19) rfl))) (notFace_of_selects (args := #[]) (mvT hZ (hw _ (List.mem_of_getElem? (i := 21) rfl)))) (mvT hZ (hw _ (List.mem_of_getElem? (i := 21) rfl))) (mvT hZ (hw _ (List.mem_of_getElem? (i := 20) rfl))) (by decide) (backOf (W := 0) (rm3 l Z av hw [] b286 c2 b247 ((8 : Int64) * ((3 : Int32).toInt64)) ps295 ed295 T295.heap n0 Z295 Fq295_0' gn286 Fq295_1' Fq295_2' Fq295_3' Fq295_4') hZ (hw _ (List.mem_of_getElem? (i := 22) rfl)) (hw _ (List.mem_of_getElem? (i := 6) rfl)) (by decide) (by decide)) q309a q309c (g := (mkF m 231 #[iv p0, iv p1, iv p2, iv p3, iv 3, rv b247, jv wh, sn, jv 24, sn, iv c1, iv c2, iv r1v, jv p1v, sn, iv r2v, jv p2v, sn, rv b286, iv rv295, iv kv218, iv ed295, un, un, un] [(.int c2), (.ref b286)])) rfl (by rw [hml]; rfl) (Steps.refl _) (argsL := [(.int c2)]) (rest := []) (lenOf pd__I_Z rfl) rfl (by show 2 * 0 + _ ≤ _; exact Nat.le_of_eq rfl) (hb hby at_231) (fun _ _ => ⟨rfl, e306, (by decide : 2 + 0 ≤ _), (by decide : 7 + 0 ≤ _)⟩)
    dsimp only [Pt.U, Pt.locs, Pt.cells, Pt.slots] at X310 l310 y310 z310 st310 hQ310
    rw [l310, y310, z310] at X310
    clear l310 y310 z310
    obtain ⟨rv310, ps310, ed310, rfl, Nz310, Kz310, ⟨Gz0, Gz1, Gz2, Gz3, Gz4⟩, Rl310⟩ := hQ310
    have hQ310 := And.intro (rfl : (0 : Nat) = 0) (And.intro Nz310 (And.intro Kz310 (And.intro Gz0 (And.intro Gz1 (And.intro Gz2 (And.intro Gz3 Gz4))))))
    obtain ⟨-, N310q, Kq310, Fq310_0, Fq310_1, Fq310_2, Fq310_3, Fq310_4⟩ := hQ310
    have N310 := Fr.app N306 N310q
    have F311 : Arv Z T310.heap b247 k247 .byte (3 : Int32) [(.int by0), (.int by1), (.int by2)] (.int (0 : Int32)) := F296.keep Kq310 (ninS ne_b247_b286 nin0)
    have K310 : Keep h0 T310.heap [] := K295.trans Kq310 (allS (Or.inr sz286) all0)
    have Z310 : n0 ≤ T310.heap.size := Nat.le_trans Z295 Kq310.1
    have Fq310_0' : Exa Z T310.heap b286 vB := Fq310_0
    have Fq310_1' : Fld Z T310.heap b286 vB "data" "[B" (.ref b247) := Fq310_1
    have Fq310_2' : Fld Z T310.heap b286 vB "size" "J" (.long ((8 : Int64) * ((3 : Int32).toInt64))) := Fq310_2
    have Fq310_3' : Fld Z T310.heap b286 vB "position" "J" (.long ps310) := Fq310_3
    have Fq310_4' : Fld Z T310.heap b286 vB "ended" "Z" (.int ed310) := Fq310_4
    have pre312 : ∀ t, oS p e below T310 m 234 #[iv p0, iv p1, iv p2, iv p3, iv 3, rv b247, jv wh, sn, jv 24, sn, iv c1, iv c2, iv r1v, jv p1v, sn, iv r2v, jv p2v, sn, rv b286, iv rv295, iv kv218, iv ed295, un, un, un] [(.int rv310)] t → oE p e below s₁ m #[(.int p0), (.int p1), (.int p2), (.int p3)] maxLocals t := fun t kt => pre308 t (st310.trans kt)
    clear pre308 st310
    have pre313 : ∀ t, oS p e below T310 m 240 #[iv p0, iv p1, iv p2, iv p3, iv 3, rv b247, jv wh, sn, jv 24, sn, iv c1, iv c2, iv r1v, jv p1v, sn, iv r2v, jv p2v, sn, rv b286, iv rv295, iv kv218, iv ed295, iv rv310, un, un] [(.int (32 : Int32)), (.ref b286)] t → oE p e below s₁ m #[(.int p0), (.int p1), (.int p2), (.int p3)] maxLocals t := fun t kt => pre312 t (by
      show oS p e below T310 m 234 #[iv p0, iv p1, iv p2, iv p3, iv 3, rv b247, jv wh, sn, jv 24, sn, iv c1, iv c2, iv r1v, jv p1v, sn, iv r2v, jv p2v, sn, rv b286, iv rv295, iv kv218, iv ed295, un, un, un] [(.int rv310)] _
      refine XS.istore X310.here hx rfl (hb hby at_234) rfl (l' := #[iv p0, iv p1, iv p2, iv p3, iv 3, rv b247, jv wh, sn, jv 24, sn, iv c1, iv c2, iv r1v, jv p1v, sn, iv r2v, jv p2v, sn, rv b286, iv rv295, iv kv218, iv ed295, iv rv310, un, un]) rfl ?_
      show oS p e below T310 m 236 #[iv p0, iv p1, iv p2, iv p3, iv 3, rv b247, jv wh, sn, jv 24, sn, iv c1, iv c2, iv r1v, jv p1v, sn, iv r2v, jv p2v, sn, rv b286, iv rv295, iv kv218, iv ed295, iv rv310, un, un] [] _
      refine XS.aload X310.here hx rfl (hb hby at_236) rfl rfl ?_
      show oS p e below T310 m 238 #[iv p0, iv p1, iv p2, iv p3, iv 3, rv b247, jv wh, sn, jv 24, sn, iv c1, iv c2, iv r1v, jv p1v, sn, iv r2v, jv p2v, sn, rv b286, iv rv295, iv kv218, iv ed295, iv rv310, un, un] [(.ref b286)] _
      refine XS.bipush X310.here hx rfl (hb hby at_238) ?_
      exact kt)
    clear pre312
    have sk314 := own_skr 24 p1v.toInt ((8 : Int64) * ((3 : Int32).toInt64)) ps295 ps310 p2v c2 rv310 r2v ed295 ed310 (by decide) (by decide) sk299.2.1 (own_pb 24 r1v c1 p1v (by decide) hm269.1 hm276) hm271 hm281 Rl310
    obtain ⟨cq315, kq315, q315a, q315b, q315c⟩ := isOf hZ rfl Fq310_0'
    obtain ⟨_, _, ⟨T316, L316, k316, n316⟩, -, X316, ⟨Lc316, hQ316, l316, y316, z316⟩, st316⟩ := X310.virtualBack hx (y := (⟨vB, "peek", "(I)I"⟩ : MethodName)) (z := (⟨vB, "peek", "(I)I"⟩ : MethodName)) hown (mvT hZ (hw _ (List.mem_of_getElem? (i := 27) rfl))) (mvT hZ (hw _ (List.mem_of_getElem? (i := 28) rfl))) (notFace_of_selects (args := #[]) (mvT hZ (hw _ (List.mem_of_getElem? (i := 30) rfl)))) (mvT hZ (hw _ (List.mem_of_getElem? (i := 30) rfl))) (mvT hZ (hw _ (List.mem_of_getElem? (i := 29) rfl))) (by decide) (backOf (W := 0) (rm4p3 l Z av hw [] b286 b247 ((8 : Int64) * ((3 : Int32).toInt64)) ps310 ed310 k247 by0 by1 by2 T310.heap n0 Z310 Fq310_0' gn286 Fq310_1' Fq310_2' Fq310_3' Fq310_4' F311 sk314.2.2.1) hZ (hw _ (List.mem_of_getElem? (i := 31) rfl)) (hw _ (List.mem_of_getElem? (i := 6) rfl)) (by decide) (by decide)) q315a q315c (g := (mkF m 240 #[iv p0, iv p1, iv p2, iv p3, iv 3, rv b247, jv wh, sn, jv 24, sn, iv c1, iv c2, iv r1v, jv p1v, sn, iv r2v, jv p2v, sn, rv b286, iv rv295, iv kv218, iv ed295, iv rv310, un, un] [(.int (32 : Int32)), (.ref b286)])) rfl (by rw [hml]; rfl) (Steps.refl _) (argsL := [(.int (32 : Int32))]) (rest := []) (lenOf pd__I_I rfl) rfl (by show 2 * 0 + _ ≤ _; exact Nat.le_of_eq rfl) (hb hby at_240) (fun _ _ => ⟨rfl, rfl, (by decide : 2 + 0 ≤ _), (by decide : 7 + 0 ≤ _)⟩)
    dsimp only [Pt.U, Pt.locs, Pt.cells, Pt.slots] at X316 l316 y316 z316 st316 hQ316
    rw [l316, y316, z316] at X316
    clear l316 y316 z316
    obtain ⟨rfl, N316q, e316⟩ := hQ316
    have N316 := Fr.app N310 N316q
    have pre317 : ∀ t, oS p e below T316 m 243 #[iv p0, iv p1, iv p2, iv p3, iv 3, rv b247, jv wh, sn, jv 24, sn, iv c1, iv c2, iv r1v, jv p1v, sn, iv r2v, jv p2v, sn, rv b286, iv rv295, iv kv218, iv ed295, iv rv310, un, un] [(.int (Int32.ofInt ((1 * (by0.toInt % 256) + 256 * (by1.toInt % 256) + 65536 * (by2.toInt % 256)) / 2 ^ ps310.toInt.toNat)))] t → oE p e below s₁ m #[(.int p0), (.int p1), (.int p2), (.int p3)] maxLocals t := fun t kt => pre313 t (st316.trans kt)
    clear pre313 st316
    obtain ⟨kv243, hm318, pre318⟩ : ∃ (kv243 : Int32), (kv243 = (Int32.ofInt ((1 * (by0.toInt % 256) + 256 * (by1.toInt % 256) + 65536 * (by2.toInt % 256)) / 2 ^ ps310.toInt.toNat))) ∧ ∀ t, oS p e below T316 m 243 #[iv p0, iv p1, iv p2, iv p3, iv 3, rv b247, jv wh, sn, jv 24, sn, iv c1, iv c2, iv r1v, jv p1v, sn, iv r2v, jv p2v, sn, rv b286, iv rv295, iv kv218, iv ed295, iv rv310, un, un] [(.int kv243)] t → oE p e below s₁ m #[(.int p0), (.int p1), (.int p2), (.int p3)] maxLocals t := ⟨(Int32.ofInt ((1 * (by0.toInt % 256) + 256 * (by1.toInt % 256) + 65536 * (by2.toInt % 256)) / 2 ^ ps310.toInt.toNat)), rfl, pre317⟩
    clear pre317
    have pre319 : ∀ t, oS p e below T316 m 247 #[iv p0, iv p1, iv p2, iv p3, iv 3, rv b247, jv wh, sn, jv 24, sn, iv c1, iv c2, iv r1v, jv p1v, sn, iv r2v, jv p2v, sn, rv b286, iv rv295, iv kv218, iv ed295, iv rv310, iv kv243, un] [(.ref b286)] t → oE p e below s₁ m #[(.int p0), (.int p1), (.int p2), (.int p3)] maxLocals t := fun t kt => pre318 t (by
      show oS p e below T316 m 243 #[iv p0, iv p1, iv p2, iv p3, iv 3, rv b247, jv wh, sn, jv 24, sn, iv c1, iv c2, iv r1v, jv p1v, sn, iv r2v, jv p2v, sn, rv b286, iv rv295, iv kv218, iv ed295, iv rv310, un, un] [(.int kv243)] _
      refine XS.istore X316.here hx rfl (hb hby at_243) rfl (l' := #[iv p0, iv p1, iv p2, iv p3, iv 3, rv b247, jv wh, sn, jv 24, sn, iv c1, iv c2, iv r1v, jv p1v, sn, iv r2v, jv p2v, sn, rv b286, iv rv295, iv kv218, iv ed295, iv rv310, iv kv243, un]) rfl ?_
      show oS p e below T316 m 245 #[iv p0, iv p1, iv p2, iv p3, iv 3, rv b247, jv wh, sn, jv 24, sn, iv c1, iv c2, iv r1v, jv p1v, sn, iv r2v, jv p2v, sn, rv b286, iv rv295, iv kv218, iv ed295, iv rv310, iv kv243, un] [] _
      refine XS.aload X316.here hx rfl (hb hby at_245) rfl rfl ?_
      exact kt)
    clear pre318
    obtain ⟨cq320, kq320, q320a, q320b, q320c⟩ := isOf hZ e316 Fq310_0'
    obtain ⟨_, _, ⟨T321, L321, k321, n321⟩, -, X321, ⟨Lc321, hQ321, l321, y321, z321⟩, st321⟩ := X316.virtualBack hx (y := (⟨vB, "ended", "()Z"⟩ : MethodName)) (z := (⟨vB, "ended", "()Z"⟩ : MethodName)) hown (mvT hZ (hw _ (List.mem_of_getElem? (i := 37) rfl))) (mvT hZ (hw _ (List.mem_of_getElem? (i := 38) rfl))) (notFace_of_selects (args := #[]) (mvT hZ (hw _ (List.mem_of_getElem? (i := 40) rfl)))) (mvT hZ (hw _ (List.mem_of_getElem? (i := 40) rfl))) (mvT hZ (hw _ (List.mem_of_getElem? (i := 39) rfl))) (by decide) (backOf (W := 0) (rm6 l Z av hw [] b286 b247 ((8 : Int64) * ((3 : Int32).toInt64)) ps310 ed310 T310.heap n0 Z310 Fq310_0' gn286 Fq310_1' Fq310_2' Fq310_3' Fq310_4' (own_nar2 r1v ed295 r2v ed310 sk299.2.2.2 sk314.2.2.2)) hZ (hw _ (List.mem_of_getElem? (i := 41) rfl)) (hw _ (List.mem_of_getElem? (i := 6) rfl)) (by decide) (by decide)) q320a q320c (g := (mkF m 247 #[iv p0, iv p1, iv p2, iv p3, iv 3, rv b247, jv wh, sn, jv 24, sn, iv c1, iv c2, iv r1v, jv p1v, sn, iv r2v, jv p2v, sn, rv b286, iv rv295, iv kv218, iv ed295, iv rv310, iv kv243, un] [(.ref b286)])) rfl (by rw [hml]; rfl) (Steps.refl _) (argsL := []) (rest := []) (lenOf pd___Z rfl) rfl (by show 2 * 0 + _ ≤ _; exact Nat.le_of_eq rfl) (hb hby at_247) (fun _ _ => ⟨rfl, e316, (by decide : 2 + 0 ≤ _), (by decide : 7 + 0 ≤ _)⟩)
    dsimp only [Pt.U, Pt.locs, Pt.cells, Pt.slots] at X321 l321 y321 z321 st321 hQ321
    rw [l321, y321, z321] at X321
    clear l321 y321 z321
    obtain ⟨rfl, N321q, e321⟩ := hQ321
    have N321 := Fr.app N316 N321q
    have pre322 : ∀ t, oS p e below T321 m 250 #[iv p0, iv p1, iv p2, iv p3, iv 3, rv b247, jv wh, sn, jv 24, sn, iv c1, iv c2, iv r1v, jv p1v, sn, iv r2v, jv p2v, sn, rv b286, iv rv295, iv kv218, iv ed295, iv rv310, iv kv243, un] [(.int ed310)] t → oE p e below s₁ m #[(.int p0), (.int p1), (.int p2), (.int p3)] maxLocals t := fun t kt => pre319 t (st321.trans kt)
    clear pre319 st321
    have pre323 : ∀ t, oS p e below T321 m 275 #[iv p0, iv p1, iv p2, iv p3, iv 3, rv b247, jv wh, sn, jv 24, sn, iv c1, iv c2, iv r1v, jv p1v, sn, iv r2v, jv p2v, sn, rv b286, iv rv295, iv kv218, iv ed295, iv rv310, iv kv243, iv ed310] [(.int r1v), (.int ed295)] t → oE p e below s₁ m #[(.int p0), (.int p1), (.int p2), (.int p3)] maxLocals t := fun t kt => pre322 t (by
      show oS p e below T321 m 250 #[iv p0, iv p1, iv p2, iv p3, iv 3, rv b247, jv wh, sn, jv 24, sn, iv c1, iv c2, iv r1v, jv p1v, sn, iv r2v, jv p2v, sn, rv b286, iv rv295, iv kv218, iv ed295, iv rv310, iv kv243, un] [(.int ed310)] _
      refine XS.istore X321.here hx rfl (hb hby at_250) rfl (l' := #[iv p0, iv p1, iv p2, iv p3, iv 3, rv b247, jv wh, sn, jv 24, sn, iv c1, iv c2, iv r1v, jv p1v, sn, iv r2v, jv p2v, sn, rv b286, iv rv295, iv kv218, iv ed295, iv rv310, iv kv243, iv ed310]) rfl ?_
      show oS p e below T321 m 252 #[iv p0, iv p1, iv p2, iv p3, iv 3, rv b247, jv wh, sn, jv 24, sn, iv c1, iv c2, iv r1v, jv p1v, sn, iv r2v, jv p2v, sn, rv b286, iv rv295, iv kv218, iv ed295, iv rv310, iv kv243, iv ed310] [] _
      refine XS.iload X321.here hx rfl (hb hby at_252) rfl ?_
      show oS p e below T321 m 254 #[iv p0, iv p1, iv p2, iv p3, iv 3, rv b247, jv wh, sn, jv 24, sn, iv c1, iv c2, iv r1v, jv p1v, sn, iv r2v, jv p2v, sn, rv b286, iv rv295, iv kv218, iv ed295, iv rv310, iv kv243, iv ed310] [(.int rv295)] _
      refine XS.iload X321.here hx rfl (hb hby at_254) rfl ?_
      show oS p e below T321 m 256 #[iv p0, iv p1, iv p2, iv p3, iv 3, rv b247, jv wh, sn, jv 24, sn, iv c1, iv c2, iv r1v, jv p1v, sn, iv r2v, jv p2v, sn, rv b286, iv rv295, iv kv218, iv ed295, iv rv310, iv kv243, iv ed310] [(.int r1v), (.int rv295)] _
      refine XS.icmpNo X321.here hx rfl (hb hby at_256) rfl (teq sk299.1).2 ?_
      show oS p e below T321 m 259 #[iv p0, iv p1, iv p2, iv p3, iv 3, rv b247, jv wh, sn, jv 24, sn, iv c1, iv c2, iv r1v, jv p1v, sn, iv r2v, jv p2v, sn, rv b286, iv rv295, iv kv218, iv ed295, iv rv310, iv kv243, iv ed310] [] _
      refine XS.iload X321.here hx rfl (hb hby at_259) rfl ?_
      show oS p e below T321 m 261 #[iv p0, iv p1, iv p2, iv p3, iv 3, rv b247, jv wh, sn, jv 24, sn, iv c1, iv c2, iv r1v, jv p1v, sn, iv r2v, jv p2v, sn, rv b286, iv rv295, iv kv218, iv ed295, iv rv310, iv kv243, iv ed310] [(.int kv218)] _
      refine XS.lload X321.here hx rfl (hb hby at_261) rfl ?_
      show oS p e below T321 m 263 #[iv p0, iv p1, iv p2, iv p3, iv 3, rv b247, jv wh, sn, jv 24, sn, iv c1, iv c2, iv r1v, jv p1v, sn, iv r2v, jv p2v, sn, rv b286, iv rv295, iv kv218, iv ed295, iv rv310, iv kv243, iv ed310] [(.long wh), (.int kv218)] _
      refine XS.lload X321.here hx rfl (hb hby at_263) rfl ?_
      show oS p e below T321 m 265 #[iv p0, iv p1, iv p2, iv p3, iv 3, rv b247, jv wh, sn, jv 24, sn, iv c1, iv c2, iv r1v, jv p1v, sn, iv r2v, jv p2v, sn, rv b286, iv rv295, iv kv218, iv ed295, iv rv310, iv kv243, iv ed310] [(.long p1v), (.long wh), (.int kv218)] _
      refine XS.l2i X321.here hx rfl (hb hby at_265) rfl ?_
      show oS p e below T321 m 266 #[iv p0, iv p1, iv p2, iv p3, iv 3, rv b247, jv wh, sn, jv 24, sn, iv c1, iv c2, iv r1v, jv p1v, sn, iv r2v, jv p2v, sn, rv b286, iv rv295, iv kv218, iv ed295, iv rv310, iv kv243, iv ed310] [(.int (p1v.toInt32)), (.long wh), (.int kv218)] _
      refine XS.lushr X321.here hx rfl (hb hby at_266) rfl ?_
      show oS p e below T321 m 267 #[iv p0, iv p1, iv p2, iv p3, iv 3, rv b247, jv wh, sn, jv 24, sn, iv c1, iv c2, iv r1v, jv p1v, sn, iv r2v, jv p2v, sn, rv b286, iv rv295, iv kv218, iv ed295, iv rv310, iv kv243, iv ed310] [(.long ((wh.toUInt64 >>> ((p1v.toInt32) &&& 0x3f).toInt64.toUInt64).toInt64)), (.int kv218)] _
      refine XS.l2i X321.here hx rfl (hb hby at_267) rfl ?_
      show oS p e below T321 m 268 #[iv p0, iv p1, iv p2, iv p3, iv 3, rv b247, jv wh, sn, jv 24, sn, iv c1, iv c2, iv r1v, jv p1v, sn, iv r2v, jv p2v, sn, rv b286, iv rv295, iv kv218, iv ed295, iv rv310, iv kv243, iv ed310] [(.int (((wh.toUInt64 >>> ((p1v.toInt32) &&& 0x3f).toInt64.toUInt64).toInt64).toInt32)), (.int kv218)] _
      refine XS.icmpNo X321.here hx rfl (hb hby at_268) rfl (teq (hm303.trans (own_cmp wh p1v ps295 (1 * (by0.toInt % 256) + 256 * (by1.toInt % 256) + 65536 * (by2.toInt % 256)) hm265 (by omega) sk299.2.1 (own_pb 24 r1v c1 p1v (by decide) hm269.1 hm276).1 (Int.le_trans (own_pb 24 r1v c1 p1v (by decide) hm269.1 hm276).2 (by decide))))).2 ?_
      show oS p e below T321 m 271 #[iv p0, iv p1, iv p2, iv p3, iv 3, rv b247, jv wh, sn, jv 24, sn, iv c1, iv c2, iv r1v, jv p1v, sn, iv r2v, jv p2v, sn, rv b286, iv rv295, iv kv218, iv ed295, iv rv310, iv kv243, iv ed310] [] _
      refine XS.iload X321.here hx rfl (hb hby at_271) rfl ?_
      show oS p e below T321 m 273 #[iv p0, iv p1, iv p2, iv p3, iv 3, rv b247, jv wh, sn, jv 24, sn, iv c1, iv c2, iv r1v, jv p1v, sn, iv r2v, jv p2v, sn, rv b286, iv rv295, iv kv218, iv ed295, iv rv310, iv kv243, iv ed310] [(.int ed295)] _
      refine XS.iload X321.here hx rfl (hb hby at_273) rfl ?_
      exact kt)
    clear pre322
    have pre324 : ∀ t, oS p e below T321 m 283 #[iv p0, iv p1, iv p2, iv p3, iv 3, rv b247, jv wh, sn, jv 24, sn, iv c1, iv c2, iv r1v, jv p1v, sn, iv r2v, jv p2v, sn, rv b286, iv rv295, iv kv218, iv ed295, iv rv310, iv kv243, iv ed310] [(.int (if r1v = (0 : Int32) then (1 : Int32) else (0 : Int32))), (.int ed295)] t → oE p e below s₁ m #[(.int p0), (.int p1), (.int p2), (.int p3)] maxLocals t := by
      by_cases hc275_325 : r1v = (0 : Int32)
      · have pre326 : ∀ t, oS p e below T321 m 283 #[iv p0, iv p1, iv p2, iv p3, iv 3, rv b247, jv wh, sn, jv 24, sn, iv c1, iv c2, iv r1v, jv p1v, sn, iv r2v, jv p2v, sn, rv b286, iv rv295, iv kv218, iv ed295, iv rv310, iv kv243, iv ed310] [(.int (1 : Int32)), (.int ed295)] t → oE p e below s₁ m #[(.int p0), (.int p1), (.int p2), (.int p3)] maxLocals t := fun t kt => pre323 t (by
          show oS p e below T321 m 275 #[iv p0, iv p1, iv p2, iv p3, iv 3, rv b247, jv wh, sn, jv 24, sn, iv c1, iv c2, iv r1v, jv p1v, sn, iv r2v, jv p2v, sn, rv b286, iv rv295, iv kv218, iv ed295, iv rv310, iv kv243, iv ed310] [(.int r1v), (.int ed295)] _
          refine XS.ifNo X321.here hx rfl (hb hby at_275) rfl ((if0 _ _).trans (teq hc275_325).2) ?_
          show oS p e below T321 m 278 #[iv p0, iv p1, iv p2, iv p3, iv 3, rv b247, jv wh, sn, jv 24, sn, iv c1, iv c2, iv r1v, jv p1v, sn, iv r2v, jv p2v, sn, rv b286, iv rv295, iv kv218, iv ed295, iv rv310, iv kv243, iv ed310] [(.int ed295)] _
          refine XS.iconst X321.here hx rfl (hb hby at_278) ?_
          show oS p e below T321 m 279 #[iv p0, iv p1, iv p2, iv p3, iv 3, rv b247, jv wh, sn, jv 24, sn, iv c1, iv c2, iv r1v, jv p1v, sn, iv r2v, jv p2v, sn, rv b286, iv rv295, iv kv218, iv ed295, iv rv310, iv kv243, iv ed310] [(.int (1 : Int32)), (.int ed295)] _
          refine XS.goto X321.here hx rfl (pc0 := 279) (pc' := 283) rfl (hb hby at_279) (by decide) (by decide) ?_
          exact kt)
        clear pre323
        have hvx : (1 : Int32) = (if r1v = (0 : Int32) then (1 : Int32) else (0 : Int32)) := (by rw [if_pos hc275_325])
        rw [← hvx]
        exact pre326
      · have pre327 : ∀ t, oS p e below T321 m 283 #[iv p0, iv p1, iv p2, iv p3, iv 3, rv b247, jv wh, sn, jv 24, sn, iv c1, iv c2, iv r1v, jv p1v, sn, iv r2v, jv p2v, sn, rv b286, iv rv295, iv kv218, iv ed295, iv rv310, iv kv243, iv ed310] [(.int (0 : Int32)), (.int ed295)] t → oE p e below s₁ m #[(.int p0), (.int p1), (.int p2), (.int p3)] maxLocals t := fun t kt => pre323 t (by
          show oS p e below T321 m 275 #[iv p0, iv p1, iv p2, iv p3, iv 3, rv b247, jv wh, sn, jv 24, sn, iv c1, iv c2, iv r1v, jv p1v, sn, iv r2v, jv p2v, sn, rv b286, iv rv295, iv kv218, iv ed295, iv rv310, iv kv243, iv ed310] [(.int r1v), (.int ed295)] _
          refine XS.ifYes X321.here hx rfl (pc0 := 275) (pc' := 282) rfl (hb hby at_275) rfl ((if0 _ _).trans (feq hc275_325).2) (by decide) (by decide) ?_
          show oS p e below T321 m 282 #[iv p0, iv p1, iv p2, iv p3, iv 3, rv b247, jv wh, sn, jv 24, sn, iv c1, iv c2, iv r1v, jv p1v, sn, iv r2v, jv p2v, sn, rv b286, iv rv295, iv kv218, iv ed295, iv rv310, iv kv243, iv ed310] [(.int ed295)] _
          refine XS.iconst X321.here hx rfl (hb hby at_282) ?_
          exact kt)
        clear pre323
        have hvx : (0 : Int32) = (if r1v = (0 : Int32) then (1 : Int32) else (0 : Int32)) := (by rw [if_neg hc275_325])
        rw [← hvx]
        exact pre327
    clear pre323
    have pre328 : ∀ t, oS p e below T321 m 309 #[iv p0, iv p1, iv p2, iv p3, iv 3, rv b247, jv wh, sn, jv 24, sn, iv c1, iv c2, iv r1v, jv p1v, sn, iv r2v, jv p2v, sn, rv b286, iv rv295, iv kv218, iv ed295, iv rv310, iv kv243, iv ed310] [(.int r1v), (.int ed310)] t → oE p e below s₁ m #[(.int p0), (.int p1), (.int p2), (.int p3)] maxLocals t := fun t kt => pre324 t (by
      show oS p e below T321 m 283 #[iv p0, iv p1, iv p2, iv p3, iv 3, rv b247, jv wh, sn, jv 24, sn, iv c1, iv c2, iv r1v, jv p1v, sn, iv r2v, jv p2v, sn, rv b286, iv rv295, iv kv218, iv ed295, iv rv310, iv kv243, iv ed310] [(.int (if r1v = (0 : Int32) then (1 : Int32) else (0 : Int32))), (.int ed295)] _
      refine XS.icmpNo X321.here hx rfl (hb hby at_283) rfl (teq (own_e1 r1v ed295 sk299.2.2.2)).2 ?_
      show oS p e below T321 m 286 #[iv p0, iv p1, iv p2, iv p3, iv 3, rv b247, jv wh, sn, jv 24, sn, iv c1, iv c2, iv r1v, jv p1v, sn, iv r2v, jv p2v, sn, rv b286, iv rv295, iv kv218, iv ed295, iv rv310, iv kv243, iv ed310] [] _
      refine XS.iload X321.here hx rfl (hb hby at_286) rfl ?_
      show oS p e below T321 m 288 #[iv p0, iv p1, iv p2, iv p3, iv 3, rv b247, jv wh, sn, jv 24, sn, iv c1, iv c2, iv r1v, jv p1v, sn, iv r2v, jv p2v, sn, rv b286, iv rv295, iv kv218, iv ed295, iv rv310, iv kv243, iv ed310] [(.int rv310)] _
      refine XS.iload X321.here hx rfl (hb hby at_288) rfl ?_
      show oS p e below T321 m 290 #[iv p0, iv p1, iv p2, iv p3, iv 3, rv b247, jv wh, sn, jv 24, sn, iv c1, iv c2, iv r1v, jv p1v, sn, iv r2v, jv p2v, sn, rv b286, iv rv295, iv kv218, iv ed295, iv rv310, iv kv243, iv ed310] [(.int r2v), (.int rv310)] _
      refine XS.icmpNo X321.here hx rfl (hb hby at_290) rfl (teq sk314.1).2 ?_
      show oS p e below T321 m 293 #[iv p0, iv p1, iv p2, iv p3, iv 3, rv b247, jv wh, sn, jv 24, sn, iv c1, iv c2, iv r1v, jv p1v, sn, iv r2v, jv p2v, sn, rv b286, iv rv295, iv kv218, iv ed295, iv rv310, iv kv243, iv ed310] [] _
      refine XS.iload X321.here hx rfl (hb hby at_293) rfl ?_
      show oS p e below T321 m 295 #[iv p0, iv p1, iv p2, iv p3, iv 3, rv b247, jv wh, sn, jv 24, sn, iv c1, iv c2, iv r1v, jv p1v, sn, iv r2v, jv p2v, sn, rv b286, iv rv295, iv kv218, iv ed295, iv rv310, iv kv243, iv ed310] [(.int kv243)] _
      refine XS.lload X321.here hx rfl (hb hby at_295) rfl ?_
      show oS p e below T321 m 297 #[iv p0, iv p1, iv p2, iv p3, iv 3, rv b247, jv wh, sn, jv 24, sn, iv c1, iv c2, iv r1v, jv p1v, sn, iv r2v, jv p2v, sn, rv b286, iv rv295, iv kv218, iv ed295, iv rv310, iv kv243, iv ed310] [(.long wh), (.int kv243)] _
      refine XS.lload X321.here hx rfl (hb hby at_297) rfl ?_
      show oS p e below T321 m 299 #[iv p0, iv p1, iv p2, iv p3, iv 3, rv b247, jv wh, sn, jv 24, sn, iv c1, iv c2, iv r1v, jv p1v, sn, iv r2v, jv p2v, sn, rv b286, iv rv295, iv kv218, iv ed295, iv rv310, iv kv243, iv ed310] [(.long p2v), (.long wh), (.int kv243)] _
      refine XS.l2i X321.here hx rfl (hb hby at_299) rfl ?_
      show oS p e below T321 m 300 #[iv p0, iv p1, iv p2, iv p3, iv 3, rv b247, jv wh, sn, jv 24, sn, iv c1, iv c2, iv r1v, jv p1v, sn, iv r2v, jv p2v, sn, rv b286, iv rv295, iv kv218, iv ed295, iv rv310, iv kv243, iv ed310] [(.int (p2v.toInt32)), (.long wh), (.int kv243)] _
      refine XS.lushr X321.here hx rfl (hb hby at_300) rfl ?_
      show oS p e below T321 m 301 #[iv p0, iv p1, iv p2, iv p3, iv 3, rv b247, jv wh, sn, jv 24, sn, iv c1, iv c2, iv r1v, jv p1v, sn, iv r2v, jv p2v, sn, rv b286, iv rv295, iv kv218, iv ed295, iv rv310, iv kv243, iv ed310] [(.long ((wh.toUInt64 >>> ((p2v.toInt32) &&& 0x3f).toInt64.toUInt64).toInt64)), (.int kv243)] _
      refine XS.l2i X321.here hx rfl (hb hby at_301) rfl ?_
      show oS p e below T321 m 302 #[iv p0, iv p1, iv p2, iv p3, iv 3, rv b247, jv wh, sn, jv 24, sn, iv c1, iv c2, iv r1v, jv p1v, sn, iv r2v, jv p2v, sn, rv b286, iv rv295, iv kv218, iv ed295, iv rv310, iv kv243, iv ed310] [(.int (((wh.toUInt64 >>> ((p2v.toInt32) &&& 0x3f).toInt64.toUInt64).toInt64).toInt32)), (.int kv243)] _
      refine XS.icmpNo X321.here hx rfl (hb hby at_302) rfl (teq (hm318.trans (own_cmp wh p2v ps310 (1 * (by0.toInt % 256) + 256 * (by1.toInt % 256) + 65536 * (by2.toInt % 256)) hm265 (by omega) sk314.2.1 (by rw [← sk314.2.1]; exact sk314.2.2.1.1) (by rw [← sk314.2.1]; exact Int.le_trans sk314.2.2.1.2 (by decide))))).2 ?_
      show oS p e below T321 m 305 #[iv p0, iv p1, iv p2, iv p3, iv 3, rv b247, jv wh, sn, jv 24, sn, iv c1, iv c2, iv r1v, jv p1v, sn, iv r2v, jv p2v, sn, rv b286, iv rv295, iv kv218, iv ed295, iv rv310, iv kv243, iv ed310] [] _
      refine XS.iload X321.here hx rfl (hb hby at_305) rfl ?_
      show oS p e below T321 m 307 #[iv p0, iv p1, iv p2, iv p3, iv 3, rv b247, jv wh, sn, jv 24, sn, iv c1, iv c2, iv r1v, jv p1v, sn, iv r2v, jv p2v, sn, rv b286, iv rv295, iv kv218, iv ed295, iv rv310, iv kv243, iv ed310] [(.int ed310)] _
      refine XS.iload X321.here hx rfl (hb hby at_307) rfl ?_
      exact kt)
    clear pre324
    have pre329 : ∀ t, oS p e below T321 m 322 #[iv p0, iv p1, iv p2, iv p3, iv 3, rv b247, jv wh, sn, jv 24, sn, iv c1, iv c2, iv r1v, jv p1v, sn, iv r2v, jv p2v, sn, rv b286, iv rv295, iv kv218, iv ed295, iv rv310, iv kv243, iv ed310] [(.int (if r1v = (0 : Int32) then (1 : Int32) else if r2v = (0 : Int32) then (1 : Int32) else (0 : Int32))), (.int ed310)] t → oE p e below s₁ m #[(.int p0), (.int p1), (.int p2), (.int p3)] maxLocals t := by
      by_cases hc309_330 : r1v = (0 : Int32)
      · have pre331 : ∀ t, oS p e below T321 m 322 #[iv p0, iv p1, iv p2, iv p3, iv 3, rv b247, jv wh, sn, jv 24, sn, iv c1, iv c2, iv r1v, jv p1v, sn, iv r2v, jv p2v, sn, rv b286, iv rv295, iv kv218, iv ed295, iv rv310, iv kv243, iv ed310] [(.int (1 : Int32)), (.int ed310)] t → oE p e below s₁ m #[(.int p0), (.int p1), (.int p2), (.int p3)] maxLocals t := fun t kt => pre328 t (by
          show oS p e below T321 m 309 #[iv p0, iv p1, iv p2, iv p3, iv 3, rv b247, jv wh, sn, jv 24, sn, iv c1, iv c2, iv r1v, jv p1v, sn, iv r2v, jv p2v, sn, rv b286, iv rv295, iv kv218, iv ed295, iv rv310, iv kv243, iv ed310] [(.int r1v), (.int ed310)] _
          refine XS.ifYes X321.here hx rfl (pc0 := 309) (pc' := 317) rfl (hb hby at_309) rfl ((if0 _ _).trans (teq hc309_330).1) (by decide) (by decide) ?_
          show oS p e below T321 m 317 #[iv p0, iv p1, iv p2, iv p3, iv 3, rv b247, jv wh, sn, jv 24, sn, iv c1, iv c2, iv r1v, jv p1v, sn, iv r2v, jv p2v, sn, rv b286, iv rv295, iv kv218, iv ed295, iv rv310, iv kv243, iv ed310] [(.int ed310)] _
          refine XS.iconst X321.here hx rfl (hb hby at_317) ?_
          show oS p e below T321 m 318 #[iv p0, iv p1, iv p2, iv p3, iv 3, rv b247, jv wh, sn, jv 24, sn, iv c1, iv c2, iv r1v, jv p1v, sn, iv r2v, jv p2v, sn, rv b286, iv rv295, iv kv218, iv ed295, iv rv310, iv kv243, iv ed310] [(.int (1 : Int32)), (.int ed310)] _
          refine XS.goto X321.here hx rfl (pc0 := 318) (pc' := 322) rfl (hb hby at_318) (by decide) (by decide) ?_
          exact kt)
        clear pre328
        have hvx : (1 : Int32) = (if r1v = (0 : Int32) then (1 : Int32) else if r2v = (0 : Int32) then (1 : Int32) else (0 : Int32)) := (by rw [if_pos hc309_330])
        rw [← hvx]
        exact pre331
      · have pre332 : ∀ t, oS p e below T321 m 314 #[iv p0, iv p1, iv p2, iv p3, iv 3, rv b247, jv wh, sn, jv 24, sn, iv c1, iv c2, iv r1v, jv p1v, sn, iv r2v, jv p2v, sn, rv b286, iv rv295, iv kv218, iv ed295, iv rv310, iv kv243, iv ed310] [(.int r2v), (.int ed310)] t → oE p e below s₁ m #[(.int p0), (.int p1), (.int p2), (.int p3)] maxLocals t := fun t kt => pre328 t (by
          show oS p e below T321 m 309 #[iv p0, iv p1, iv p2, iv p3, iv 3, rv b247, jv wh, sn, jv 24, sn, iv c1, iv c2, iv r1v, jv p1v, sn, iv r2v, jv p2v, sn, rv b286, iv rv295, iv kv218, iv ed295, iv rv310, iv kv243, iv ed310] [(.int r1v), (.int ed310)] _
          refine XS.ifNo X321.here hx rfl (hb hby at_309) rfl ((if0 _ _).trans (feq hc309_330).1) ?_
          show oS p e below T321 m 312 #[iv p0, iv p1, iv p2, iv p3, iv 3, rv b247, jv wh, sn, jv 24, sn, iv c1, iv c2, iv r1v, jv p1v, sn, iv r2v, jv p2v, sn, rv b286, iv rv295, iv kv218, iv ed295, iv rv310, iv kv243, iv ed310] [(.int ed310)] _
          refine XS.iload X321.here hx rfl (hb hby at_312) rfl ?_
          exact kt)
        clear pre328
        by_cases hc314_333 : r2v = (0 : Int32)
        · have pre334 : ∀ t, oS p e below T321 m 322 #[iv p0, iv p1, iv p2, iv p3, iv 3, rv b247, jv wh, sn, jv 24, sn, iv c1, iv c2, iv r1v, jv p1v, sn, iv r2v, jv p2v, sn, rv b286, iv rv295, iv kv218, iv ed295, iv rv310, iv kv243, iv ed310] [(.int (1 : Int32)), (.int ed310)] t → oE p e below s₁ m #[(.int p0), (.int p1), (.int p2), (.int p3)] maxLocals t := fun t kt => pre332 t (by
            show oS p e below T321 m 314 #[iv p0, iv p1, iv p2, iv p3, iv 3, rv b247, jv wh, sn, jv 24, sn, iv c1, iv c2, iv r1v, jv p1v, sn, iv r2v, jv p2v, sn, rv b286, iv rv295, iv kv218, iv ed295, iv rv310, iv kv243, iv ed310] [(.int r2v), (.int ed310)] _
            refine XS.ifNo X321.here hx rfl (hb hby at_314) rfl ((if0 _ _).trans (teq hc314_333).2) ?_
            show oS p e below T321 m 317 #[iv p0, iv p1, iv p2, iv p3, iv 3, rv b247, jv wh, sn, jv 24, sn, iv c1, iv c2, iv r1v, jv p1v, sn, iv r2v, jv p2v, sn, rv b286, iv rv295, iv kv218, iv ed295, iv rv310, iv kv243, iv ed310] [(.int ed310)] _
            refine XS.iconst X321.here hx rfl (hb hby at_317) ?_
            show oS p e below T321 m 318 #[iv p0, iv p1, iv p2, iv p3, iv 3, rv b247, jv wh, sn, jv 24, sn, iv c1, iv c2, iv r1v, jv p1v, sn, iv r2v, jv p2v, sn, rv b286, iv rv295, iv kv218, iv ed295, iv rv310, iv kv243, iv ed310] [(.int (1 : Int32)), (.int ed310)] _
            refine XS.goto X321.here hx rfl (pc0 := 318) (pc' := 322) rfl (hb hby at_318) (by decide) (by decide) ?_
            exact kt)
          clear pre332
          have hvx : (1 : Int32) = (if r1v = (0 : Int32) then (1 : Int32) else if r2v = (0 : Int32) then (1 : Int32) else (0 : Int32)) := (by rw [if_neg hc309_330, if_pos hc314_333])
          rw [← hvx]
          exact pre334
        · have pre335 : ∀ t, oS p e below T321 m 322 #[iv p0, iv p1, iv p2, iv p3, iv 3, rv b247, jv wh, sn, jv 24, sn, iv c1, iv c2, iv r1v, jv p1v, sn, iv r2v, jv p2v, sn, rv b286, iv rv295, iv kv218, iv ed295, iv rv310, iv kv243, iv ed310] [(.int (0 : Int32)), (.int ed310)] t → oE p e below s₁ m #[(.int p0), (.int p1), (.int p2), (.int p3)] maxLocals t := fun t kt => pre332 t (by
            show oS p e below T321 m 314 #[iv p0, iv p1, iv p2, iv p3, iv 3, rv b247, jv wh, sn, jv 24, sn, iv c1, iv c2, iv r1v, jv p1v, sn, iv r2v, jv p2v, sn, rv b286, iv rv295, iv kv218, iv ed295, iv rv310, iv kv243, iv ed310] [(.int r2v), (.int ed310)] _
            refine XS.ifYes X321.here hx rfl (pc0 := 314) (pc' := 321) rfl (hb hby at_314) rfl ((if0 _ _).trans (feq hc314_333).2) (by decide) (by decide) ?_
            show oS p e below T321 m 321 #[iv p0, iv p1, iv p2, iv p3, iv 3, rv b247, jv wh, sn, jv 24, sn, iv c1, iv c2, iv r1v, jv p1v, sn, iv r2v, jv p2v, sn, rv b286, iv rv295, iv kv218, iv ed295, iv rv310, iv kv243, iv ed310] [(.int ed310)] _
            refine XS.iconst X321.here hx rfl (hb hby at_321) ?_
            exact kt)
          clear pre332
          have hvx : (0 : Int32) = (if r1v = (0 : Int32) then (1 : Int32) else if r2v = (0 : Int32) then (1 : Int32) else (0 : Int32)) := (by rw [if_neg hc309_330, if_neg hc314_333])
          rw [← hvx]
          exact pre335
    clear pre328
    have pre336 : ∀ t, oS p e below T321 m 330 #[iv p0, iv p1, iv p2, iv p3, iv 3, rv b247, jv wh, sn, jv 24, sn, iv c1, iv c2, iv r1v, jv p1v, sn, iv r2v, jv p2v, sn, rv b286, iv rv295, iv kv218, iv ed295, iv rv310, iv kv243, iv ed310] [(.int (1 : Int32))] t → oE p e below s₁ m #[(.int p0), (.int p1), (.int p2), (.int p3)] maxLocals t := fun t kt => pre329 t (by
      show oS p e below T321 m 322 #[iv p0, iv p1, iv p2, iv p3, iv 3, rv b247, jv wh, sn, jv 24, sn, iv c1, iv c2, iv r1v, jv p1v, sn, iv r2v, jv p2v, sn, rv b286, iv rv295, iv kv218, iv ed295, iv rv310, iv kv243, iv ed310] [(.int (if r1v = (0 : Int32) then (1 : Int32) else if r2v = (0 : Int32) then (1 : Int32) else (0 : Int32))), (.int ed310)] _
      refine XS.icmpNo X321.here hx rfl (hb hby at_322) rfl (teq (own_e2 r1v ed295 r2v ed310 sk299.2.2.2 sk314.2.2.2)).2 ?_
      show oS p e below T321 m 325 #[iv p0, iv p1, iv p2, iv p3, iv 3, rv b247, jv wh, sn, jv 24, sn, iv c1, iv c2, iv r1v, jv p1v, sn, iv r2v, jv p2v, sn, rv b286, iv rv295, iv kv218, iv ed295, iv rv310, iv kv243, iv ed310] [] _
      refine XS.iconst X321.here hx rfl (hb hby at_325) ?_
      show oS p e below T321 m 326 #[iv p0, iv p1, iv p2, iv p3, iv 3, rv b247, jv wh, sn, jv 24, sn, iv c1, iv c2, iv r1v, jv p1v, sn, iv r2v, jv p2v, sn, rv b286, iv rv295, iv kv218, iv ed295, iv rv310, iv kv243, iv ed310] [(.int (1 : Int32))] _
      refine XS.goto X321.here hx rfl (pc0 := 326) (pc' := 330) rfl (hb hby at_326) (by decide) (by decide) ?_
      exact kt)
    clear pre329
    obtain ⟨fs, hr, hrun, hended, hW, hsame⟩ := X321.leave (v := some (.int (1 : Int32))) (fun h => by rw [Bd.returns] at h; cases h)
    refine ⟨_, _, pre336 _ ?_, hrun, hended, _, _, rfl, ?_, ⟨_, rfl⟩, hW, hsame.mono (by decide) (by decide)⟩
    · show oS p e below T321 m 330 #[iv p0, iv p1, iv p2, iv p3, iv 3, rv b247, jv wh, sn, jv 24, sn, iv c1, iv c2, iv r1v, jv p1v, sn, iv r2v, jv p2v, sn, rv b286, iv rv295, iv kv218, iv ed295, iv rv310, iv kv243, iv ed310] [(.int (1 : Int32))] _
      exact retN X321 hx (t := .boolean) Bd.returns (by simp) (hb hby at_330) hr
    · show Q0 Z p0 p1 p2 p3 h0 n0 _ T321.heap _
      rw [e321]
      exact ⟨rfl, N321⟩
  · skip
    have pre337 : ∀ t, oS p e below s₁ m 10 #[iv p0, iv p1, iv p2, iv p3, iv 4, un, un, un, un, un, un, un, un, un, un, un, un, un, un, un, un, un, un, un, un] [(.int (4 : Int32))] t → oE p e below s₁ m #[(.int p0), (.int p1), (.int p2), (.int p3)] maxLocals t := fun t kt => pre2 t (by
      show oS p e below s₁ m 8 #[iv p0, iv p1, iv p2, iv p3, iv 4, un, un, un, un, un, un, un, un, un, un, un, un, un, un, un, un, un, un, un, un] [] _
      refine XS.iload X0.here hx rfl (hb hby at_8) rfl ?_
      exact kt)
    clear pre2
    obtain ⟨T338, h338, k338, X338, e338, E338, A338, st338⟩ := newP X0 hx hZ (hw _ (List.mem_of_getElem? (i := 1) rfl)) e0 (g := (mkF m 10 #[iv p0, iv p1, iv p2, iv p3, iv 4, un, un, un, un, un, un, un, un, un, un, un, un, un, un, un, un, un, un, un, un] [(.int (4 : Int32))])) rfl (hb hby at_10) rfl (by decide) (cap := 4) (by decide) (by decide) (by decide) (by decide)
    obtain ⟨b338, g338⟩ : ∃ z, z = h0.size := ⟨_, rfl⟩
    rw [← g338] at A338 st338
    have pre339 : ∀ t, oS p e below T338 m 12 #[iv p0, iv p1, iv p2, iv p3, iv 4, un, un, un, un, un, un, un, un, un, un, un, un, un, un, un, un, un, un, un, un] [(.ref b338)] t → oE p e below s₁ m #[(.int p0), (.int p1), (.int p2), (.int p3)] maxLocals t := fun t kt => pre337 t (st338 _ kt)
    clear pre337 st338
    have gn338 : n0 ≤ b338 := Nat.le_trans Z0 (Nat.le_of_eq g338.symm)
    have sz338 : h0.size ≤ b338 := Nat.le_trans K0.1 (Nat.le_of_eq g338.symm)
    have K338 : Keep h0 h338 [] := K0.ext E338
    have Z338 : n0 ≤ h338.size := Nat.le_trans Z0 E338.1
    have V338 : Arv Z h338 b338 k338 .byte (4 : Int32) [(.int (0 : Int32)), (.int (0 : Int32)), (.int (0 : Int32)), (.int (0 : Int32))] (.int (0 : Int32)) := (Arv.new A338 (by decide)).pad (pad_rep [] (.int (0 : Int32)) 4)
    have pre340 : ∀ t, oS p e below T338 m 24 #[iv p0, iv p1, iv p2, iv p3, iv 4, rv b338, un, un, un, un, un, un, un, un, un, un, un, un, un, un, un, un, un, un, un] [(.int (p1.toInt8.toInt32)), (.int (0 : Int32)), (.ref b338)] t → oE p e below s₁ m #[(.int p0), (.int p1), (.int p2), (.int p3)] maxLocals t := fun t kt => pre339 t (by
      show oS p e below T338 m 12 #[iv p0, iv p1, iv p2, iv p3, iv 4, un, un, un, un, un, un, un, un, un, un, un, un, un, un, un, un, un, un, un, un] [(.ref b338)] _
      refine XS.astore X338.here hx rfl (hb hby at_12) rfl rfl (l' := #[iv p0, iv p1, iv p2, iv p3, iv 4, rv b338, un, un, un, un, un, un, un, un, un, un, un, un, un, un, un, un, un, un, un]) rfl ?_
      show oS p e below T338 m 14 #[iv p0, iv p1, iv p2, iv p3, iv 4, rv b338, un, un, un, un, un, un, un, un, un, un, un, un, un, un, un, un, un, un, un] [] _
      refine XS.iload X338.here hx rfl (hb hby at_14) rfl ?_
      show oS p e below T338 m 16 #[iv p0, iv p1, iv p2, iv p3, iv 4, rv b338, un, un, un, un, un, un, un, un, un, un, un, un, un, un, un, un, un, un, un] [(.int (4 : Int32))] _
      refine XS.ifNo X338.here hx rfl (hb hby at_16) rfl ((if0 _ _).trans (tlt (by decide : (0 : Int32) < (4 : Int32))).2.2.2) ?_
      show oS p e below T338 m 19 #[iv p0, iv p1, iv p2, iv p3, iv 4, rv b338, un, un, un, un, un, un, un, un, un, un, un, un, un, un, un, un, un, un, un] [] _
      refine XS.aload X338.here hx rfl (hb hby at_19) rfl rfl ?_
      show oS p e below T338 m 21 #[iv p0, iv p1, iv p2, iv p3, iv 4, rv b338, un, un, un, un, un, un, un, un, un, un, un, un, un, un, un, un, un, un, un] [(.ref b338)] _
      refine XS.iconst X338.here hx rfl (hb hby at_21) ?_
      show oS p e below T338 m 22 #[iv p0, iv p1, iv p2, iv p3, iv 4, rv b338, un, un, un, un, un, un, un, un, un, un, un, un, un, un, un, un, un, un, un] [(.int (0 : Int32)), (.ref b338)] _
      refine XS.iloadN X338.here hx rfl (hb hby at_22) rfl ?_
      show oS p e below T338 m 23 #[iv p0, iv p1, iv p2, iv p3, iv 4, rv b338, un, un, un, un, un, un, un, un, un, un, un, un, un, un, un, un, un, un, un] [(.int p1), (.int (0 : Int32)), (.ref b338)] _
      refine XS.i2b X338.here hx rfl (hb hby at_23) rfl ?_
      exact kt)
    clear pre339
    obtain ⟨by0, hm341, pre341⟩ : ∃ (by0 : Int32), (by0.toInt8.toInt32 = by0 ∧ by0.toInt % 256 = p1.toInt % 256) ∧ ∀ t, oS p e below T338 m 24 #[iv p0, iv p1, iv p2, iv p3, iv 4, rv b338, un, un, un, un, un, un, un, un, un, un, un, un, un, un, un, un, un, un, un] [(.int by0), (.int (0 : Int32)), (.ref b338)] t → oE p e below s₁ m #[(.int p0), (.int p1), (.int p2), (.int p3)] maxLocals t := ⟨(p1.toInt8.toInt32), ⟨own_narb _, own_by0 p1⟩, pre340⟩
    clear pre340
    have tv342 := V338
    obtain ⟨cl342, Ar342, q342, S342, Ng342, H342, G342⟩ := tv342
    have hin342 : ¬ ((0 : Int32) < 0 ∨ cl342.slots.size ≤ ((0 : Int32)).toNatClampNeg) := inb_of S342 ⟨by decide, by decide⟩
    obtain ⟨T343, h343, X343, e343, W343, st343⟩ := stB X338 hx hZ e338 Ar342 (j := (0 : Int32)) hin342 (g := (mkF m 24 #[iv p0, iv p1, iv p2, iv p3, iv 4, rv b338, un, un, un, un, un, un, un, un, un, un, un, un, un, un, un, un, un, un, un] [(.int by0), (.int (0 : Int32)), (.ref b338)])) rfl rfl (hb hby at_24)
    have pre344 : ∀ t, oS p e below T343 m 25 #[iv p0, iv p1, iv p2, iv p3, iv 4, rv b338, un, un, un, un, un, un, un, un, un, un, un, un, un, un, un, un, un, un, un] [] t → oE p e below s₁ m #[(.int p0), (.int p1), (.int p2), (.int p3)] maxLocals t := fun t kt => pre341 t (st343 _ kt)
    clear pre341 st343
    have V343 : Arv Z h343 b338 k338 .byte (4 : Int32) [(.int by0), (.int (0 : Int32)), (.int (0 : Int32)), (.int (0 : Int32))] (.int (0 : Int32)) := (by
      have q := Arv.set Ar342 q342 S342 Ng342 H342 G342 (fits_nar_byte by0) W343 0 rfl (Nat.le_of_ble_eq_true rfl)
      rw [hm341.1] at q
      exact q)
    have K343 : Keep h0 h343 [] := K338.wr W343 (Or.inr sz338)
    have N343 := Fr.snoc X343 N0 gn338
    have Z343 : n0 ≤ h343.size := Nat.le_trans Z338 (Keep.of_wr W343).1
    have pre345 : ∀ t, oS p e below T343 m 39 #[iv p0, iv p1, iv p2, iv p3, iv 4, rv b338, un, un, un, un, un, un, un, un, un, un, un, un, un, un, un, un, un, un, un] [(.int (((p1.toUInt32 >>> ((8 : Int32) &&& 31).toUInt32).toInt32).toInt8.toInt32)), (.int (1 : Int32)), (.ref b338)] t → oE p e below s₁ m #[(.int p0), (.int p1), (.int p2), (.int p3)] maxLocals t := fun t kt => pre344 t (by
      show oS p e below T343 m 25 #[iv p0, iv p1, iv p2, iv p3, iv 4, rv b338, un, un, un, un, un, un, un, un, un, un, un, un, un, un, un, un, un, un, un] [] _
      refine XS.iload X343.here hx rfl (hb hby at_25) rfl ?_
      show oS p e below T343 m 27 #[iv p0, iv p1, iv p2, iv p3, iv 4, rv b338, un, un, un, un, un, un, un, un, un, un, un, un, un, un, un, un, un, un, un] [(.int (4 : Int32))] _
      refine XS.iconst X343.here hx rfl (hb hby at_27) ?_
      show oS p e below T343 m 28 #[iv p0, iv p1, iv p2, iv p3, iv 4, rv b338, un, un, un, un, un, un, un, un, un, un, un, un, un, un, un, un, un, un, un] [(.int (1 : Int32)), (.int (4 : Int32))] _
      refine XS.icmpNo X343.here hx rfl (hb hby at_28) rfl (tlt (by decide : (1 : Int32) < (4 : Int32))).2.2.2 ?_
      show oS p e below T343 m 31 #[iv p0, iv p1, iv p2, iv p3, iv 4, rv b338, un, un, un, un, un, un, un, un, un, un, un, un, un, un, un, un, un, un, un] [] _
      refine XS.aload X343.here hx rfl (hb hby at_31) rfl rfl ?_
      show oS p e below T343 m 33 #[iv p0, iv p1, iv p2, iv p3, iv 4, rv b338, un, un, un, un, un, un, un, un, un, un, un, un, un, un, un, un, un, un, un] [(.ref b338)] _
      refine XS.iconst X343.here hx rfl (hb hby at_33) ?_
      show oS p e below T343 m 34 #[iv p0, iv p1, iv p2, iv p3, iv 4, rv b338, un, un, un, un, un, un, un, un, un, un, un, un, un, un, un, un, un, un, un] [(.int (1 : Int32)), (.ref b338)] _
      refine XS.iloadN X343.here hx rfl (hb hby at_34) rfl ?_
      show oS p e below T343 m 35 #[iv p0, iv p1, iv p2, iv p3, iv 4, rv b338, un, un, un, un, un, un, un, un, un, un, un, un, un, un, un, un, un, un, un] [(.int p1), (.int (1 : Int32)), (.ref b338)] _
      refine XS.bipush X343.here hx rfl (hb hby at_35) ?_
      show oS p e below T343 m 37 #[iv p0, iv p1, iv p2, iv p3, iv 4, rv b338, un, un, un, un, un, un, un, un, un, un, un, un, un, un, un, un, un, un, un] [(.int (8 : Int32)), (.int p1), (.int (1 : Int32)), (.ref b338)] _
      refine XS.iushr X343.here hx rfl (hb hby at_37) rfl ?_
      show oS p e below T343 m 38 #[iv p0, iv p1, iv p2, iv p3, iv 4, rv b338, un, un, un, un, un, un, un, un, un, un, un, un, un, un, un, un, un, un, un] [(.int ((p1.toUInt32 >>> ((8 : Int32) &&& 31).toUInt32).toInt32)), (.int (1 : Int32)), (.ref b338)] _
      refine XS.i2b X343.here hx rfl (hb hby at_38) rfl ?_
      exact kt)
    clear pre344
    obtain ⟨by1, hm346, pre346⟩ : ∃ (by1 : Int32), (by1.toInt8.toInt32 = by1 ∧ by1.toInt % 256 = ((p1.toInt % 4294967296) / 256) % 256) ∧ ∀ t, oS p e below T343 m 39 #[iv p0, iv p1, iv p2, iv p3, iv 4, rv b338, un, un, un, un, un, un, un, un, un, un, un, un, un, un, un, un, un, un, un] [(.int by1), (.int (1 : Int32)), (.ref b338)] t → oE p e below s₁ m #[(.int p0), (.int p1), (.int p2), (.int p3)] maxLocals t := ⟨(((p1.toUInt32 >>> ((8 : Int32) &&& 31).toUInt32).toInt32).toInt8.toInt32), ⟨own_narb _, own_by1 p1⟩, pre345⟩
    clear pre345
    have tv347 := V343
    obtain ⟨cl347, Ar347, q347, S347, Ng347, H347, G347⟩ := tv347
    have hin347 : ¬ ((1 : Int32) < 0 ∨ cl347.slots.size ≤ ((1 : Int32)).toNatClampNeg) := inb_of S347 ⟨by decide, by decide⟩
    obtain ⟨T348, h348, X348, e348, W348, st348⟩ := stB X343 hx hZ e343 Ar347 (j := (1 : Int32)) hin347 (g := (mkF m 39 #[iv p0, iv p1, iv p2, iv p3, iv 4, rv b338, un, un, un, un, un, un, un, un, un, un, un, un, un, un, un, un, un, un, un] [(.int by1), (.int (1 : Int32)), (.ref b338)])) rfl rfl (hb hby at_39)
    have pre349 : ∀ t, oS p e below T348 m 40 #[iv p0, iv p1, iv p2, iv p3, iv 4, rv b338, un, un, un, un, un, un, un, un, un, un, un, un, un, un, un, un, un, un, un] [] t → oE p e below s₁ m #[(.int p0), (.int p1), (.int p2), (.int p3)] maxLocals t := fun t kt => pre346 t (st348 _ kt)
    clear pre346 st348
    have V348 : Arv Z h348 b338 k338 .byte (4 : Int32) [(.int by0), (.int by1), (.int (0 : Int32)), (.int (0 : Int32))] (.int (0 : Int32)) := (by
      have q := Arv.set Ar347 q347 S347 Ng347 H347 G347 (fits_nar_byte by1) W348 1 rfl (Nat.le_of_ble_eq_true rfl)
      rw [hm346.1] at q
      exact q)
    have K348 : Keep h0 h348 [] := K343.wr W348 (Or.inr sz338)
    have N348 := Fr.snoc X348 N343 gn338
    have Z348 : n0 ≤ h348.size := Nat.le_trans Z343 (Keep.of_wr W348).1
    have pre350 : ∀ t, oS p e below T348 m 54 #[iv p0, iv p1, iv p2, iv p3, iv 4, rv b338, un, un, un, un, un, un, un, un, un, un, un, un, un, un, un, un, un, un, un] [(.int (((p1.toUInt32 >>> ((16 : Int32) &&& 31).toUInt32).toInt32).toInt8.toInt32)), (.int (2 : Int32)), (.ref b338)] t → oE p e below s₁ m #[(.int p0), (.int p1), (.int p2), (.int p3)] maxLocals t := fun t kt => pre349 t (by
      show oS p e below T348 m 40 #[iv p0, iv p1, iv p2, iv p3, iv 4, rv b338, un, un, un, un, un, un, un, un, un, un, un, un, un, un, un, un, un, un, un] [] _
      refine XS.iload X348.here hx rfl (hb hby at_40) rfl ?_
      show oS p e below T348 m 42 #[iv p0, iv p1, iv p2, iv p3, iv 4, rv b338, un, un, un, un, un, un, un, un, un, un, un, un, un, un, un, un, un, un, un] [(.int (4 : Int32))] _
      refine XS.iconst X348.here hx rfl (hb hby at_42) ?_
      show oS p e below T348 m 43 #[iv p0, iv p1, iv p2, iv p3, iv 4, rv b338, un, un, un, un, un, un, un, un, un, un, un, un, un, un, un, un, un, un, un] [(.int (2 : Int32)), (.int (4 : Int32))] _
      refine XS.icmpNo X348.here hx rfl (hb hby at_43) rfl (tlt (by decide : (2 : Int32) < (4 : Int32))).2.2.2 ?_
      show oS p e below T348 m 46 #[iv p0, iv p1, iv p2, iv p3, iv 4, rv b338, un, un, un, un, un, un, un, un, un, un, un, un, un, un, un, un, un, un, un] [] _
      refine XS.aload X348.here hx rfl (hb hby at_46) rfl rfl ?_
      show oS p e below T348 m 48 #[iv p0, iv p1, iv p2, iv p3, iv 4, rv b338, un, un, un, un, un, un, un, un, un, un, un, un, un, un, un, un, un, un, un] [(.ref b338)] _
      refine XS.iconst X348.here hx rfl (hb hby at_48) ?_
      show oS p e below T348 m 49 #[iv p0, iv p1, iv p2, iv p3, iv 4, rv b338, un, un, un, un, un, un, un, un, un, un, un, un, un, un, un, un, un, un, un] [(.int (2 : Int32)), (.ref b338)] _
      refine XS.iloadN X348.here hx rfl (hb hby at_49) rfl ?_
      show oS p e below T348 m 50 #[iv p0, iv p1, iv p2, iv p3, iv 4, rv b338, un, un, un, un, un, un, un, un, un, un, un, un, un, un, un, un, un, un, un] [(.int p1), (.int (2 : Int32)), (.ref b338)] _
      refine XS.bipush X348.here hx rfl (hb hby at_50) ?_
      show oS p e below T348 m 52 #[iv p0, iv p1, iv p2, iv p3, iv 4, rv b338, un, un, un, un, un, un, un, un, un, un, un, un, un, un, un, un, un, un, un] [(.int (16 : Int32)), (.int p1), (.int (2 : Int32)), (.ref b338)] _
      refine XS.iushr X348.here hx rfl (hb hby at_52) rfl ?_
      show oS p e below T348 m 53 #[iv p0, iv p1, iv p2, iv p3, iv 4, rv b338, un, un, un, un, un, un, un, un, un, un, un, un, un, un, un, un, un, un, un] [(.int ((p1.toUInt32 >>> ((16 : Int32) &&& 31).toUInt32).toInt32)), (.int (2 : Int32)), (.ref b338)] _
      refine XS.i2b X348.here hx rfl (hb hby at_53) rfl ?_
      exact kt)
    clear pre349
    obtain ⟨by2, hm351, pre351⟩ : ∃ (by2 : Int32), (by2.toInt8.toInt32 = by2 ∧ by2.toInt % 256 = ((p1.toInt % 4294967296) / 65536) % 256) ∧ ∀ t, oS p e below T348 m 54 #[iv p0, iv p1, iv p2, iv p3, iv 4, rv b338, un, un, un, un, un, un, un, un, un, un, un, un, un, un, un, un, un, un, un] [(.int by2), (.int (2 : Int32)), (.ref b338)] t → oE p e below s₁ m #[(.int p0), (.int p1), (.int p2), (.int p3)] maxLocals t := ⟨(((p1.toUInt32 >>> ((16 : Int32) &&& 31).toUInt32).toInt32).toInt8.toInt32), ⟨own_narb _, own_by2 p1⟩, pre350⟩
    clear pre350
    have tv352 := V348
    obtain ⟨cl352, Ar352, q352, S352, Ng352, H352, G352⟩ := tv352
    have hin352 : ¬ ((2 : Int32) < 0 ∨ cl352.slots.size ≤ ((2 : Int32)).toNatClampNeg) := inb_of S352 ⟨by decide, by decide⟩
    obtain ⟨T353, h353, X353, e353, W353, st353⟩ := stB X348 hx hZ e348 Ar352 (j := (2 : Int32)) hin352 (g := (mkF m 54 #[iv p0, iv p1, iv p2, iv p3, iv 4, rv b338, un, un, un, un, un, un, un, un, un, un, un, un, un, un, un, un, un, un, un] [(.int by2), (.int (2 : Int32)), (.ref b338)])) rfl rfl (hb hby at_54)
    have pre354 : ∀ t, oS p e below T353 m 55 #[iv p0, iv p1, iv p2, iv p3, iv 4, rv b338, un, un, un, un, un, un, un, un, un, un, un, un, un, un, un, un, un, un, un] [] t → oE p e below s₁ m #[(.int p0), (.int p1), (.int p2), (.int p3)] maxLocals t := fun t kt => pre351 t (st353 _ kt)
    clear pre351 st353
    have V353 : Arv Z h353 b338 k338 .byte (4 : Int32) [(.int by0), (.int by1), (.int by2), (.int (0 : Int32))] (.int (0 : Int32)) := (by
      have q := Arv.set Ar352 q352 S352 Ng352 H352 G352 (fits_nar_byte by2) W353 2 rfl (Nat.le_of_ble_eq_true rfl)
      rw [hm351.1] at q
      exact q)
    have K353 : Keep h0 h353 [] := K348.wr W353 (Or.inr sz338)
    have N353 := Fr.snoc X353 N348 gn338
    have Z353 : n0 ≤ h353.size := Nat.le_trans Z348 (Keep.of_wr W353).1
    have pre355 : ∀ t, oS p e below T353 m 69 #[iv p0, iv p1, iv p2, iv p3, iv 4, rv b338, un, un, un, un, un, un, un, un, un, un, un, un, un, un, un, un, un, un, un] [(.int (((p1.toUInt32 >>> ((24 : Int32) &&& 31).toUInt32).toInt32).toInt8.toInt32)), (.int (3 : Int32)), (.ref b338)] t → oE p e below s₁ m #[(.int p0), (.int p1), (.int p2), (.int p3)] maxLocals t := fun t kt => pre354 t (by
      show oS p e below T353 m 55 #[iv p0, iv p1, iv p2, iv p3, iv 4, rv b338, un, un, un, un, un, un, un, un, un, un, un, un, un, un, un, un, un, un, un] [] _
      refine XS.iload X353.here hx rfl (hb hby at_55) rfl ?_
      show oS p e below T353 m 57 #[iv p0, iv p1, iv p2, iv p3, iv 4, rv b338, un, un, un, un, un, un, un, un, un, un, un, un, un, un, un, un, un, un, un] [(.int (4 : Int32))] _
      refine XS.iconst X353.here hx rfl (hb hby at_57) ?_
      show oS p e below T353 m 58 #[iv p0, iv p1, iv p2, iv p3, iv 4, rv b338, un, un, un, un, un, un, un, un, un, un, un, un, un, un, un, un, un, un, un] [(.int (3 : Int32)), (.int (4 : Int32))] _
      refine XS.icmpNo X353.here hx rfl (hb hby at_58) rfl (tlt (by decide : (3 : Int32) < (4 : Int32))).2.2.2 ?_
      show oS p e below T353 m 61 #[iv p0, iv p1, iv p2, iv p3, iv 4, rv b338, un, un, un, un, un, un, un, un, un, un, un, un, un, un, un, un, un, un, un] [] _
      refine XS.aload X353.here hx rfl (hb hby at_61) rfl rfl ?_
      show oS p e below T353 m 63 #[iv p0, iv p1, iv p2, iv p3, iv 4, rv b338, un, un, un, un, un, un, un, un, un, un, un, un, un, un, un, un, un, un, un] [(.ref b338)] _
      refine XS.iconst X353.here hx rfl (hb hby at_63) ?_
      show oS p e below T353 m 64 #[iv p0, iv p1, iv p2, iv p3, iv 4, rv b338, un, un, un, un, un, un, un, un, un, un, un, un, un, un, un, un, un, un, un] [(.int (3 : Int32)), (.ref b338)] _
      refine XS.iloadN X353.here hx rfl (hb hby at_64) rfl ?_
      show oS p e below T353 m 65 #[iv p0, iv p1, iv p2, iv p3, iv 4, rv b338, un, un, un, un, un, un, un, un, un, un, un, un, un, un, un, un, un, un, un] [(.int p1), (.int (3 : Int32)), (.ref b338)] _
      refine XS.bipush X353.here hx rfl (hb hby at_65) ?_
      show oS p e below T353 m 67 #[iv p0, iv p1, iv p2, iv p3, iv 4, rv b338, un, un, un, un, un, un, un, un, un, un, un, un, un, un, un, un, un, un, un] [(.int (24 : Int32)), (.int p1), (.int (3 : Int32)), (.ref b338)] _
      refine XS.iushr X353.here hx rfl (hb hby at_67) rfl ?_
      show oS p e below T353 m 68 #[iv p0, iv p1, iv p2, iv p3, iv 4, rv b338, un, un, un, un, un, un, un, un, un, un, un, un, un, un, un, un, un, un, un] [(.int ((p1.toUInt32 >>> ((24 : Int32) &&& 31).toUInt32).toInt32)), (.int (3 : Int32)), (.ref b338)] _
      refine XS.i2b X353.here hx rfl (hb hby at_68) rfl ?_
      exact kt)
    clear pre354
    obtain ⟨by3, hm356, pre356⟩ : ∃ (by3 : Int32), (by3.toInt8.toInt32 = by3 ∧ by3.toInt % 256 = ((p1.toInt % 4294967296) / 16777216) % 256) ∧ ∀ t, oS p e below T353 m 69 #[iv p0, iv p1, iv p2, iv p3, iv 4, rv b338, un, un, un, un, un, un, un, un, un, un, un, un, un, un, un, un, un, un, un] [(.int by3), (.int (3 : Int32)), (.ref b338)] t → oE p e below s₁ m #[(.int p0), (.int p1), (.int p2), (.int p3)] maxLocals t := ⟨(((p1.toUInt32 >>> ((24 : Int32) &&& 31).toUInt32).toInt32).toInt8.toInt32), ⟨own_narb _, own_by3 p1⟩, pre355⟩
    clear pre355
    have tv357 := V353
    obtain ⟨cl357, Ar357, q357, S357, Ng357, H357, G357⟩ := tv357
    have hin357 : ¬ ((3 : Int32) < 0 ∨ cl357.slots.size ≤ ((3 : Int32)).toNatClampNeg) := inb_of S357 ⟨by decide, by decide⟩
    obtain ⟨T358, h358, X358, e358, W358, st358⟩ := stB X353 hx hZ e353 Ar357 (j := (3 : Int32)) hin357 (g := (mkF m 69 #[iv p0, iv p1, iv p2, iv p3, iv 4, rv b338, un, un, un, un, un, un, un, un, un, un, un, un, un, un, un, un, un, un, un] [(.int by3), (.int (3 : Int32)), (.ref b338)])) rfl rfl (hb hby at_69)
    have pre359 : ∀ t, oS p e below T358 m 70 #[iv p0, iv p1, iv p2, iv p3, iv 4, rv b338, un, un, un, un, un, un, un, un, un, un, un, un, un, un, un, un, un, un, un] [] t → oE p e below s₁ m #[(.int p0), (.int p1), (.int p2), (.int p3)] maxLocals t := fun t kt => pre356 t (st358 _ kt)
    clear pre356 st358
    have V358 : Arv Z h358 b338 k338 .byte (4 : Int32) [(.int by0), (.int by1), (.int by2), (.int by3)] (.int (0 : Int32)) := (by
      have q := Arv.set Ar357 q357 S357 Ng357 H357 G357 (fits_nar_byte by3) W358 3 rfl (Nat.le_of_ble_eq_true rfl)
      rw [hm356.1] at q
      exact q)
    have K358 : Keep h0 h358 [] := K353.wr W358 (Or.inr sz338)
    have N358 := Fr.snoc X358 N353 gn338
    have Z358 : n0 ≤ h358.size := Nat.le_trans Z353 (Keep.of_wr W358).1
    have pre360 : ∀ t, oS p e below T358 m 88 #[iv p0, iv p1, iv p2, iv p3, iv 4, rv b338, jv (((p1.toInt64) &&& (4294967295 : Int64)) &&& (((1 : Int64) <<< ((32 : Int32) &&& 0x3f).toInt64) - (1 : Int64))), sn, un, un, un, un, un, un, un, un, un, un, un, un, un, un, un, un, un] [] t → oE p e below s₁ m #[(.int p0), (.int p1), (.int p2), (.int p3)] maxLocals t := fun t kt => pre359 t (by
      show oS p e below T358 m 70 #[iv p0, iv p1, iv p2, iv p3, iv 4, rv b338, un, un, un, un, un, un, un, un, un, un, un, un, un, un, un, un, un, un, un] [] _
      refine XS.iloadN X358.here hx rfl (hb hby at_70) rfl ?_
      show oS p e below T358 m 71 #[iv p0, iv p1, iv p2, iv p3, iv 4, rv b338, un, un, un, un, un, un, un, un, un, un, un, un, un, un, un, un, un, un, un] [(.int p1)] _
      refine XS.i2l X358.here hx rfl (hb hby at_71) rfl ?_
      show oS p e below T358 m 72 #[iv p0, iv p1, iv p2, iv p3, iv 4, rv b338, un, un, un, un, un, un, un, un, un, un, un, un, un, un, un, un, un, un, un] [(.long (p1.toInt64))] _
      refine X358.ldc2Long hx hown (mvT hZ (hw _ (List.mem_of_getElem? (i := 2) rfl))) (g := (mkF m 72 #[iv p0, iv p1, iv p2, iv p3, iv 4, rv b338, un, un, un, un, un, un, un, un, un, un, un, un, un, un, un, un, un, un, un] [(.long (p1.toInt64))])) rfl (hb hby at_72) _ ?_
      show oS p e below T358 m 75 #[iv p0, iv p1, iv p2, iv p3, iv 4, rv b338, un, un, un, un, un, un, un, un, un, un, un, un, un, un, un, un, un, un, un] [(.long (4294967295 : Int64)), (.long (p1.toInt64))] _
      refine XS.land X358.here hx rfl (hb hby at_75) rfl ?_
      show oS p e below T358 m 76 #[iv p0, iv p1, iv p2, iv p3, iv 4, rv b338, un, un, un, un, un, un, un, un, un, un, un, un, un, un, un, un, un, un, un] [(.long ((p1.toInt64) &&& (4294967295 : Int64)))] _
      refine XS.lconst X358.here hx rfl (hb hby at_76) ?_
      show oS p e below T358 m 77 #[iv p0, iv p1, iv p2, iv p3, iv 4, rv b338, un, un, un, un, un, un, un, un, un, un, un, un, un, un, un, un, un, un, un] [(.long (1 : Int64)), (.long ((p1.toInt64) &&& (4294967295 : Int64)))] _
      refine XS.bipush X358.here hx rfl (hb hby at_77) ?_
      show oS p e below T358 m 79 #[iv p0, iv p1, iv p2, iv p3, iv 4, rv b338, un, un, un, un, un, un, un, un, un, un, un, un, un, un, un, un, un, un, un] [(.int (8 : Int32)), (.long (1 : Int64)), (.long ((p1.toInt64) &&& (4294967295 : Int64)))] _
      refine XS.iload X358.here hx rfl (hb hby at_79) rfl ?_
      show oS p e below T358 m 81 #[iv p0, iv p1, iv p2, iv p3, iv 4, rv b338, un, un, un, un, un, un, un, un, un, un, un, un, un, un, un, un, un, un, un] [(.int (4 : Int32)), (.int (8 : Int32)), (.long (1 : Int64)), (.long ((p1.toInt64) &&& (4294967295 : Int64)))] _
      refine XS.imul X358.here hx rfl (hb hby at_81) rfl ?_
      show oS p e below T358 m 82 #[iv p0, iv p1, iv p2, iv p3, iv 4, rv b338, un, un, un, un, un, un, un, un, un, un, un, un, un, un, un, un, un, un, un] [(.int (32 : Int32)), (.long (1 : Int64)), (.long ((p1.toInt64) &&& (4294967295 : Int64)))] _
      refine XS.lshl X358.here hx rfl (hb hby at_82) rfl ?_
      show oS p e below T358 m 83 #[iv p0, iv p1, iv p2, iv p3, iv 4, rv b338, un, un, un, un, un, un, un, un, un, un, un, un, un, un, un, un, un, un, un] [(.long ((1 : Int64) <<< ((32 : Int32) &&& 0x3f).toInt64)), (.long ((p1.toInt64) &&& (4294967295 : Int64)))] _
      refine XS.lconst X358.here hx rfl (hb hby at_83) ?_
      show oS p e below T358 m 84 #[iv p0, iv p1, iv p2, iv p3, iv 4, rv b338, un, un, un, un, un, un, un, un, un, un, un, un, un, un, un, un, un, un, un] [(.long (1 : Int64)), (.long ((1 : Int64) <<< ((32 : Int32) &&& 0x3f).toInt64)), (.long ((p1.toInt64) &&& (4294967295 : Int64)))] _
      refine XS.lsub X358.here hx rfl (hb hby at_84) rfl ?_
      show oS p e below T358 m 85 #[iv p0, iv p1, iv p2, iv p3, iv 4, rv b338, un, un, un, un, un, un, un, un, un, un, un, un, un, un, un, un, un, un, un] [(.long (((1 : Int64) <<< ((32 : Int32) &&& 0x3f).toInt64) - (1 : Int64))), (.long ((p1.toInt64) &&& (4294967295 : Int64)))] _
      refine XS.land X358.here hx rfl (hb hby at_85) rfl ?_
      show oS p e below T358 m 86 #[iv p0, iv p1, iv p2, iv p3, iv 4, rv b338, un, un, un, un, un, un, un, un, un, un, un, un, un, un, un, un, un, un, un] [(.long (((p1.toInt64) &&& (4294967295 : Int64)) &&& (((1 : Int64) <<< ((32 : Int32) &&& 0x3f).toInt64) - (1 : Int64))))] _
      refine XS.lstore X358.here hx rfl (hb hby at_86) rfl (l' := #[iv p0, iv p1, iv p2, iv p3, iv 4, rv b338, jv (((p1.toInt64) &&& (4294967295 : Int64)) &&& (((1 : Int64) <<< ((32 : Int32) &&& 0x3f).toInt64) - (1 : Int64))), sn, un, un, un, un, un, un, un, un, un, un, un, un, un, un, un, un, un]) rfl ?_
      exact kt)
    clear pre359
    obtain ⟨wh, hm361, pre361⟩ : ∃ (wh : Int64), (wh.toInt = 1 * (by0.toInt % 256) + 256 * (by1.toInt % 256) + 65536 * (by2.toInt % 256) + 16777216 * (by3.toInt % 256)) ∧ ∀ t, oS p e below T358 m 88 #[iv p0, iv p1, iv p2, iv p3, iv 4, rv b338, jv wh, sn, un, un, un, un, un, un, un, un, un, un, un, un, un, un, un, un, un] [] t → oE p e below s₁ m #[(.int p0), (.int p1), (.int p2), (.int p3)] maxLocals t := ⟨(((p1.toInt64) &&& (4294967295 : Int64)) &&& (((1 : Int64) <<< ((32 : Int32) &&& 0x3f).toInt64) - (1 : Int64))), (by have qa := own_wh4 p1; have qb0 := hm341.2; have qb1 := hm346.2; have qb2 := hm351.2; have qb3 := hm356.2; omega), pre360⟩
    clear pre360
    have pre362 : ∀ t, oS p e below T358 m 97 #[iv p0, iv p1, iv p2, iv p3, iv 4, rv b338, jv wh, sn, jv ((8 : Int64) * ((4 : Int32).toInt64)), sn, un, un, un, un, un, un, un, un, un, un, un, un, un, un, un] [] t → oE p e below s₁ m #[(.int p0), (.int p1), (.int p2), (.int p3)] maxLocals t := fun t kt => pre361 t (by
      show oS p e below T358 m 88 #[iv p0, iv p1, iv p2, iv p3, iv 4, rv b338, jv wh, sn, un, un, un, un, un, un, un, un, un, un, un, un, un, un, un, un, un] [] _
      refine X358.ldc2Long hx hown (mvT hZ (hw _ (List.mem_of_getElem? (i := 3) rfl))) (g := (mkF m 88 #[iv p0, iv p1, iv p2, iv p3, iv 4, rv b338, jv wh, sn, un, un, un, un, un, un, un, un, un, un, un, un, un, un, un, un, un] [])) rfl (hb hby at_88) _ ?_
      show oS p e below T358 m 91 #[iv p0, iv p1, iv p2, iv p3, iv 4, rv b338, jv wh, sn, un, un, un, un, un, un, un, un, un, un, un, un, un, un, un, un, un] [(.long (8 : Int64))] _
      refine XS.iload X358.here hx rfl (hb hby at_91) rfl ?_
      show oS p e below T358 m 93 #[iv p0, iv p1, iv p2, iv p3, iv 4, rv b338, jv wh, sn, un, un, un, un, un, un, un, un, un, un, un, un, un, un, un, un, un] [(.int (4 : Int32)), (.long (8 : Int64))] _
      refine XS.i2l X358.here hx rfl (hb hby at_93) rfl ?_
      show oS p e below T358 m 94 #[iv p0, iv p1, iv p2, iv p3, iv 4, rv b338, jv wh, sn, un, un, un, un, un, un, un, un, un, un, un, un, un, un, un, un, un] [(.long ((4 : Int32).toInt64)), (.long (8 : Int64))] _
      refine XS.lmul X358.here hx rfl (hb hby at_94) rfl ?_
      show oS p e below T358 m 95 #[iv p0, iv p1, iv p2, iv p3, iv 4, rv b338, jv wh, sn, un, un, un, un, un, un, un, un, un, un, un, un, un, un, un, un, un] [(.long ((8 : Int64) * ((4 : Int32).toInt64)))] _
      refine XS.lstore X358.here hx rfl (hb hby at_95) rfl (l' := #[iv p0, iv p1, iv p2, iv p3, iv 4, rv b338, jv wh, sn, jv ((8 : Int64) * ((4 : Int32).toInt64)), sn, un, un, un, un, un, un, un, un, un, un, un, un, un, un, un]) rfl ?_
      exact kt)
    clear pre361
    obtain ⟨sz, hm363, pre363⟩ : ∃ (sz : Int64), (sz = (32 : Int64)) ∧ ∀ t, oS p e below T358 m 97 #[iv p0, iv p1, iv p2, iv p3, iv 4, rv b338, jv wh, sn, jv sz, sn, un, un, un, un, un, un, un, un, un, un, un, un, un, un, un] [] t → oE p e below s₁ m #[(.int p0), (.int p1), (.int p2), (.int p3)] maxLocals t := ⟨((8 : Int64) * ((4 : Int32).toInt64)), (by decide), pre362⟩
    clear pre362
    subst hm363
    have pre364 : ∀ t, oS p e below T358 m 103 #[iv p0, iv p1, iv p2, iv p3, iv 4, rv b338, jv wh, sn, jv 32, sn, iv (p2 &&& (63 : Int32)), un, un, un, un, un, un, un, un, un, un, un, un, un, un] [] t → oE p e below s₁ m #[(.int p0), (.int p1), (.int p2), (.int p3)] maxLocals t := fun t kt => pre363 t (by
      show oS p e below T358 m 97 #[iv p0, iv p1, iv p2, iv p3, iv 4, rv b338, jv wh, sn, jv 32, sn, un, un, un, un, un, un, un, un, un, un, un, un, un, un, un] [] _
      refine XS.iloadN X358.here hx rfl (hb hby at_97) rfl ?_
      show oS p e below T358 m 98 #[iv p0, iv p1, iv p2, iv p3, iv 4, rv b338, jv wh, sn, jv 32, sn, un, un, un, un, un, un, un, un, un, un, un, un, un, un, un] [(.int p2)] _
      refine XS.bipush X358.here hx rfl (hb hby at_98) ?_
      show oS p e below T358 m 100 #[iv p0, iv p1, iv p2, iv p3, iv 4, rv b338, jv wh, sn, jv 32, sn, un, un, un, un, un, un, un, un, un, un, un, un, un, un, un] [(.int (63 : Int32)), (.int p2)] _
      refine XS.iand X358.here hx rfl (hb hby at_100) rfl ?_
      show oS p e below T358 m 101 #[iv p0, iv p1, iv p2, iv p3, iv 4, rv b338, jv wh, sn, jv 32, sn, un, un, un, un, un, un, un, un, un, un, un, un, un, un, un] [(.int (p2 &&& (63 : Int32)))] _
      refine XS.istore X358.here hx rfl (hb hby at_101) rfl (l' := #[iv p0, iv p1, iv p2, iv p3, iv 4, rv b338, jv wh, sn, jv 32, sn, iv (p2 &&& (63 : Int32)), un, un, un, un, un, un, un, un, un, un, un, un, un, un]) rfl ?_
      exact kt)
    clear pre363
    obtain ⟨c1, hm365, pre365⟩ : ∃ (c1 : Int32), (0 ≤ c1.toInt ∧ c1.toInt ≤ 63) ∧ ∀ t, oS p e below T358 m 103 #[iv p0, iv p1, iv p2, iv p3, iv 4, rv b338, jv wh, sn, jv 32, sn, iv c1, un, un, un, un, un, un, un, un, un, un, un, un, un, un] [] t → oE p e below s₁ m #[(.int p0), (.int p1), (.int p2), (.int p3)] maxLocals t := ⟨(p2 &&& (63 : Int32)), own_63 p2, pre364⟩
    clear pre364
    have pre366 : ∀ t, oS p e below T358 m 107 #[iv p0, iv p1, iv p2, iv p3, iv 4, rv b338, jv wh, sn, jv 32, sn, iv c1, un, un, un, un, un, un, un, un, un, un, un, un, un, un] [(.int (p2 &&& (64 : Int32)))] t → oE p e below s₁ m #[(.int p0), (.int p1), (.int p2), (.int p3)] maxLocals t := fun t kt => pre365 t (by
      show oS p e below T358 m 103 #[iv p0, iv p1, iv p2, iv p3, iv 4, rv b338, jv wh, sn, jv 32, sn, iv c1, un, un, un, un, un, un, un, un, un, un, un, un, un, un] [] _
      refine XS.iloadN X358.here hx rfl (hb hby at_103) rfl ?_
      show oS p e below T358 m 104 #[iv p0, iv p1, iv p2, iv p3, iv 4, rv b338, jv wh, sn, jv 32, sn, iv c1, un, un, un, un, un, un, un, un, un, un, un, un, un, un] [(.int p2)] _
      refine XS.bipush X358.here hx rfl (hb hby at_104) ?_
      show oS p e below T358 m 106 #[iv p0, iv p1, iv p2, iv p3, iv 4, rv b338, jv wh, sn, jv 32, sn, iv c1, un, un, un, un, un, un, un, un, un, un, un, un, un, un] [(.int (64 : Int32)), (.int p2)] _
      refine XS.iand X358.here hx rfl (hb hby at_106) rfl ?_
      exact kt)
    clear pre365
    obtain ⟨c2, hm367, pre367⟩ : ∃ (c2 : Int32), (0 ≤ c2.toInt) ∧ ∀ t, oS p e below T358 m 121 #[iv p0, iv p1, iv p2, iv p3, iv 4, rv b338, jv wh, sn, jv 32, sn, iv c1, un, un, un, un, un, un, un, un, un, un, un, un, un, un] [(.int c2)] t → oE p e below s₁ m #[(.int p0), (.int p1), (.int p2), (.int p3)] maxLocals t := by
      by_cases hc107_368 : (p2 &&& (64 : Int32)) = (0 : Int32)
      · have pre369 : ∀ t, oS p e below T358 m 121 #[iv p0, iv p1, iv p2, iv p3, iv 4, rv b338, jv wh, sn, jv 32, sn, iv c1, un, un, un, un, un, un, un, un, un, un, un, un, un, un] [(.int (p3 &&& (63 : Int32)))] t → oE p e below s₁ m #[(.int p0), (.int p1), (.int p2), (.int p3)] maxLocals t := fun t kt => pre366 t (by
          show oS p e below T358 m 107 #[iv p0, iv p1, iv p2, iv p3, iv 4, rv b338, jv wh, sn, jv 32, sn, iv c1, un, un, un, un, un, un, un, un, un, un, un, un, un, un] [(.int (p2 &&& (64 : Int32)))] _
          refine XS.ifYes X358.here hx rfl (pc0 := 107) (pc' := 117) rfl (hb hby at_107) rfl ((if0 _ _).trans (teq hc107_368).1) (by decide) (by decide) ?_
          show oS p e below T358 m 117 #[iv p0, iv p1, iv p2, iv p3, iv 4, rv b338, jv wh, sn, jv 32, sn, iv c1, un, un, un, un, un, un, un, un, un, un, un, un, un, un] [] _
          refine XS.iloadN X358.here hx rfl (hb hby at_117) rfl ?_
          show oS p e below T358 m 118 #[iv p0, iv p1, iv p2, iv p3, iv 4, rv b338, jv wh, sn, jv 32, sn, iv c1, un, un, un, un, un, un, un, un, un, un, un, un, un, un] [(.int p3)] _
          refine XS.bipush X358.here hx rfl (hb hby at_118) ?_
          show oS p e below T358 m 120 #[iv p0, iv p1, iv p2, iv p3, iv 4, rv b338, jv wh, sn, jv 32, sn, iv c1, un, un, un, un, un, un, un, un, un, un, un, un, un, un] [(.int (63 : Int32)), (.int p3)] _
          refine XS.iand X358.here hx rfl (hb hby at_120) rfl ?_
          exact kt)
        clear pre366
        exact ⟨(p3 &&& (63 : Int32)), (own_63 p3).1, pre369⟩
      · have pre370 : ∀ t, oS p e below T358 m 121 #[iv p0, iv p1, iv p2, iv p3, iv 4, rv b338, jv wh, sn, jv 32, sn, iv c1, un, un, un, un, un, un, un, un, un, un, un, un, un, un] [(.int (p3 &&& (2147483647 : Int32)))] t → oE p e below s₁ m #[(.int p0), (.int p1), (.int p2), (.int p3)] maxLocals t := fun t kt => pre366 t (by
          show oS p e below T358 m 107 #[iv p0, iv p1, iv p2, iv p3, iv 4, rv b338, jv wh, sn, jv 32, sn, iv c1, un, un, un, un, un, un, un, un, un, un, un, un, un, un] [(.int (p2 &&& (64 : Int32)))] _
          refine XS.ifNo X358.here hx rfl (hb hby at_107) rfl ((if0 _ _).trans (feq hc107_368).1) ?_
          show oS p e below T358 m 110 #[iv p0, iv p1, iv p2, iv p3, iv 4, rv b338, jv wh, sn, jv 32, sn, iv c1, un, un, un, un, un, un, un, un, un, un, un, un, un, un] [] _
          refine XS.iloadN X358.here hx rfl (hb hby at_110) rfl ?_
          show oS p e below T358 m 111 #[iv p0, iv p1, iv p2, iv p3, iv 4, rv b338, jv wh, sn, jv 32, sn, iv c1, un, un, un, un, un, un, un, un, un, un, un, un, un, un] [(.int p3)] _
          refine X358.ldcInt hx hown (mvT hZ (hw _ (List.mem_of_getElem? (i := 0) rfl))) (g := (mkF m 111 #[iv p0, iv p1, iv p2, iv p3, iv 4, rv b338, jv wh, sn, jv 32, sn, iv c1, un, un, un, un, un, un, un, un, un, un, un, un, un, un] [(.int p3)])) rfl (hb hby at_111) _ ?_
          show oS p e below T358 m 113 #[iv p0, iv p1, iv p2, iv p3, iv 4, rv b338, jv wh, sn, jv 32, sn, iv c1, un, un, un, un, un, un, un, un, un, un, un, un, un, un] [(.int (2147483647 : Int32)), (.int p3)] _
          refine XS.iand X358.here hx rfl (hb hby at_113) rfl ?_
          show oS p e below T358 m 114 #[iv p0, iv p1, iv p2, iv p3, iv 4, rv b338, jv wh, sn, jv 32, sn, iv c1, un, un, un, un, un, un, un, un, un, un, un, un, un, un] [(.int (p3 &&& (2147483647 : Int32)))] _
          refine XS.goto X358.here hx rfl (pc0 := 114) (pc' := 121) rfl (hb hby at_114) (by decide) (by decide) ?_
          exact kt)
        clear pre366
        exact ⟨(p3 &&& (2147483647 : Int32)), own_nn p3, pre370⟩
    clear pre366
    have pre371 : ∀ t, oS p e below T358 m 123 #[iv p0, iv p1, iv p2, iv p3, iv 4, rv b338, jv wh, sn, jv 32, sn, iv c1, iv c2, un, un, un, un, un, un, un, un, un, un, un, un, un] [] t → oE p e below s₁ m #[(.int p0), (.int p1), (.int p2), (.int p3)] maxLocals t := fun t kt => pre367 t (by
      show oS p e below T358 m 121 #[iv p0, iv p1, iv p2, iv p3, iv 4, rv b338, jv wh, sn, jv 32, sn, iv c1, un, un, un, un, un, un, un, un, un, un, un, un, un, un] [(.int c2)] _
      refine XS.istore X358.here hx rfl (hb hby at_121) rfl (l' := #[iv p0, iv p1, iv p2, iv p3, iv 4, rv b338, jv wh, sn, jv 32, sn, iv c1, iv c2, un, un, un, un, un, un, un, un, un, un, un, un, un]) rfl ?_
      exact kt)
    clear pre367
    obtain ⟨r1v, p1v, hm372, pre372⟩ : ∃ (r1v : Int32) (p1v : Int64), ((r1v = (1 : Int32) ∧ c1.toInt ≤ 32 - 0 ∧ p1v.toInt = 0 + c1.toInt) ∨ (r1v = (0 : Int32) ∧ 32 - 0 < c1.toInt ∧ p1v.toInt = 32)) ∧ ∀ t, oS p e below T358 m 154 #[iv p0, iv p1, iv p2, iv p3, iv 4, rv b338, jv wh, sn, jv 32, sn, iv c1, iv c2, iv r1v, jv p1v, sn, un, un, un, un, un, un, un, un, un, un] [] t → oE p e below s₁ m #[(.int p0), (.int p1), (.int p2), (.int p3)] maxLocals t := by
      have pre373 : ∀ t, oS p e below T358 m 129 #[iv p0, iv p1, iv p2, iv p3, iv 4, rv b338, jv wh, sn, jv 32, sn, iv c1, iv c2, un, un, un, un, un, un, un, un, un, un, un, un, un] [(.int (lcmpW (c1.toInt64) (32 : Int64)))] t → oE p e below s₁ m #[(.int p0), (.int p1), (.int p2), (.int p3)] maxLocals t := fun t kt => pre371 t (by
        show oS p e below T358 m 123 #[iv p0, iv p1, iv p2, iv p3, iv 4, rv b338, jv wh, sn, jv 32, sn, iv c1, iv c2, un, un, un, un, un, un, un, un, un, un, un, un, un] [] _
        refine XS.iload X358.here hx rfl (hb hby at_123) rfl ?_
        show oS p e below T358 m 125 #[iv p0, iv p1, iv p2, iv p3, iv 4, rv b338, jv wh, sn, jv 32, sn, iv c1, iv c2, un, un, un, un, un, un, un, un, un, un, un, un, un] [(.int c1)] _
        refine XS.i2l X358.here hx rfl (hb hby at_125) rfl ?_
        show oS p e below T358 m 126 #[iv p0, iv p1, iv p2, iv p3, iv 4, rv b338, jv wh, sn, jv 32, sn, iv c1, iv c2, un, un, un, un, un, un, un, un, un, un, un, un, un] [(.long (c1.toInt64))] _
        refine XS.lload X358.here hx rfl (hb hby at_126) rfl ?_
        show oS p e below T358 m 128 #[iv p0, iv p1, iv p2, iv p3, iv 4, rv b338, jv wh, sn, jv 32, sn, iv c1, iv c2, un, un, un, un, un, un, un, un, un, un, un, un, un] [(.long (32 : Int64)), (.long (c1.toInt64))] _
        refine XS.lcmp X358.here hx rfl (hb hby at_128) rfl ?_
        exact kt)
      clear pre371
      by_cases hc129_374 : (32 : Int64) < (c1.toInt64)
      · have pre375 : ∀ t, oS p e below T358 m 154 #[iv p0, iv p1, iv p2, iv p3, iv 4, rv b338, jv wh, sn, jv 32, sn, iv c1, iv c2, iv 0, jv 32, sn, un, un, un, un, un, un, un, un, un, un] [] t → oE p e below s₁ m #[(.int p0), (.int p1), (.int p2), (.int p3)] maxLocals t := fun t kt => pre373 t (by
          show oS p e below T358 m 129 #[iv p0, iv p1, iv p2, iv p3, iv 4, rv b338, jv wh, sn, jv 32, sn, iv c1, iv c2, un, un, un, un, un, un, un, un, un, un, un, un, un] [(.int (lcmpW (c1.toInt64) (32 : Int64)))] _
          refine XS.ifYes X358.here hx rfl (pc0 := 129) (pc' := 136) rfl (hb hby at_129) rfl (Jvm.Free.XT.ll_gt_t hc129_374) (by decide) (by decide) ?_
          show oS p e below T358 m 136 #[iv p0, iv p1, iv p2, iv p3, iv 4, rv b338, jv wh, sn, jv 32, sn, iv c1, iv c2, un, un, un, un, un, un, un, un, un, un, un, un, un] [] _
          refine XS.iconst X358.here hx rfl (hb hby at_136) ?_
          show oS p e below T358 m 137 #[iv p0, iv p1, iv p2, iv p3, iv 4, rv b338, jv wh, sn, jv 32, sn, iv c1, iv c2, un, un, un, un, un, un, un, un, un, un, un, un, un] [(.int (0 : Int32))] _
          refine XS.istore X358.here hx rfl (hb hby at_137) rfl (l' := #[iv p0, iv p1, iv p2, iv p3, iv 4, rv b338, jv wh, sn, jv 32, sn, iv c1, iv c2, iv 0, un, un, un, un, un, un, un, un, un, un, un, un]) rfl ?_
          show oS p e below T358 m 139 #[iv p0, iv p1, iv p2, iv p3, iv 4, rv b338, jv wh, sn, jv 32, sn, iv c1, iv c2, iv 0, un, un, un, un, un, un, un, un, un, un, un, un] [] _
          refine XS.iload X358.here hx rfl (hb hby at_139) rfl ?_
          show oS p e below T358 m 141 #[iv p0, iv p1, iv p2, iv p3, iv 4, rv b338, jv wh, sn, jv 32, sn, iv c1, iv c2, iv 0, un, un, un, un, un, un, un, un, un, un, un, un] [(.int (0 : Int32))] _
          refine XS.ifYes X358.here hx rfl (pc0 := 141) (pc' := 150) rfl (hb hby at_141) rfl ((if0 _ _).trans (teq (by decide : (0 : Int32) = (0 : Int32))).1) (by decide) (by decide) ?_
          show oS p e below T358 m 150 #[iv p0, iv p1, iv p2, iv p3, iv 4, rv b338, jv wh, sn, jv 32, sn, iv c1, iv c2, iv 0, un, un, un, un, un, un, un, un, un, un, un, un] [] _
          refine XS.lload X358.here hx rfl (hb hby at_150) rfl ?_
          show oS p e below T358 m 152 #[iv p0, iv p1, iv p2, iv p3, iv 4, rv b338, jv wh, sn, jv 32, sn, iv c1, iv c2, iv 0, un, un, un, un, un, un, un, un, un, un, un, un] [(.long (32 : Int64))] _
          refine XS.lstore X358.here hx rfl (hb hby at_152) rfl (l' := #[iv p0, iv p1, iv p2, iv p3, iv 4, rv b338, jv wh, sn, jv 32, sn, iv c1, iv c2, iv 0, jv 32, sn, un, un, un, un, un, un, un, un, un, un]) rfl ?_
          exact kt)
        clear pre373
        exact ⟨(0 : Int32), (32 : Int64), own_r1b c1 (32 : Int64) 32 (by decide) hc129_374, pre375⟩
      · have pre376 : ∀ t, oS p e below T358 m 154 #[iv p0, iv p1, iv p2, iv p3, iv 4, rv b338, jv wh, sn, jv 32, sn, iv c1, iv c2, iv 1, jv (c1.toInt64), sn, un, un, un, un, un, un, un, un, un, un] [] t → oE p e below s₁ m #[(.int p0), (.int p1), (.int p2), (.int p3)] maxLocals t := fun t kt => pre373 t (by
          show oS p e below T358 m 129 #[iv p0, iv p1, iv p2, iv p3, iv 4, rv b338, jv wh, sn, jv 32, sn, iv c1, iv c2, un, un, un, un, un, un, un, un, un, un, un, un, un] [(.int (lcmpW (c1.toInt64) (32 : Int64)))] _
          refine XS.ifNo X358.here hx rfl (hb hby at_129) rfl (Jvm.Free.XT.ll_gt_f hc129_374) ?_
          show oS p e below T358 m 132 #[iv p0, iv p1, iv p2, iv p3, iv 4, rv b338, jv wh, sn, jv 32, sn, iv c1, iv c2, un, un, un, un, un, un, un, un, un, un, un, un, un] [] _
          refine XS.iconst X358.here hx rfl (hb hby at_132) ?_
          show oS p e below T358 m 133 #[iv p0, iv p1, iv p2, iv p3, iv 4, rv b338, jv wh, sn, jv 32, sn, iv c1, iv c2, un, un, un, un, un, un, un, un, un, un, un, un, un] [(.int (1 : Int32))] _
          refine XS.goto X358.here hx rfl (pc0 := 133) (pc' := 137) rfl (hb hby at_133) (by decide) (by decide) ?_
          show oS p e below T358 m 137 #[iv p0, iv p1, iv p2, iv p3, iv 4, rv b338, jv wh, sn, jv 32, sn, iv c1, iv c2, un, un, un, un, un, un, un, un, un, un, un, un, un] [(.int (1 : Int32))] _
          refine XS.istore X358.here hx rfl (hb hby at_137) rfl (l' := #[iv p0, iv p1, iv p2, iv p3, iv 4, rv b338, jv wh, sn, jv 32, sn, iv c1, iv c2, iv 1, un, un, un, un, un, un, un, un, un, un, un, un]) rfl ?_
          show oS p e below T358 m 139 #[iv p0, iv p1, iv p2, iv p3, iv 4, rv b338, jv wh, sn, jv 32, sn, iv c1, iv c2, iv 1, un, un, un, un, un, un, un, un, un, un, un, un] [] _
          refine XS.iload X358.here hx rfl (hb hby at_139) rfl ?_
          show oS p e below T358 m 141 #[iv p0, iv p1, iv p2, iv p3, iv 4, rv b338, jv wh, sn, jv 32, sn, iv c1, iv c2, iv 1, un, un, un, un, un, un, un, un, un, un, un, un] [(.int (1 : Int32))] _
          refine XS.ifNo X358.here hx rfl (hb hby at_141) rfl ((if0 _ _).trans (feq (by decide : ¬ ((1 : Int32) = (0 : Int32)))).1) ?_
          show oS p e below T358 m 144 #[iv p0, iv p1, iv p2, iv p3, iv 4, rv b338, jv wh, sn, jv 32, sn, iv c1, iv c2, iv 1, un, un, un, un, un, un, un, un, un, un, un, un] [] _
          refine XS.iload X358.here hx rfl (hb hby at_144) rfl ?_
          show oS p e below T358 m 146 #[iv p0, iv p1, iv p2, iv p3, iv 4, rv b338, jv wh, sn, jv 32, sn, iv c1, iv c2, iv 1, un, un, un, un, un, un, un, un, un, un, un, un] [(.int c1)] _
          refine XS.i2l X358.here hx rfl (hb hby at_146) rfl ?_
          show oS p e below T358 m 147 #[iv p0, iv p1, iv p2, iv p3, iv 4, rv b338, jv wh, sn, jv 32, sn, iv c1, iv c2, iv 1, un, un, un, un, un, un, un, un, un, un, un, un] [(.long (c1.toInt64))] _
          refine XS.goto X358.here hx rfl (pc0 := 147) (pc' := 152) rfl (hb hby at_147) (by decide) (by decide) ?_
          show oS p e below T358 m 152 #[iv p0, iv p1, iv p2, iv p3, iv 4, rv b338, jv wh, sn, jv 32, sn, iv c1, iv c2, iv 1, un, un, un, un, un, un, un, un, un, un, un, un] [(.long (c1.toInt64))] _
          refine XS.lstore X358.here hx rfl (hb hby at_152) rfl (l' := #[iv p0, iv p1, iv p2, iv p3, iv 4, rv b338, jv wh, sn, jv 32, sn, iv c1, iv c2, iv 1, jv (c1.toInt64), sn, un, un, un, un, un, un, un, un, un, un]) rfl ?_
          exact kt)
        clear pre373
        exact ⟨(1 : Int32), (c1.toInt64), own_r1a c1 (32 : Int64) 32 (by decide) hc129_374, pre376⟩
    clear pre371
    obtain ⟨r2v, p2v, hm377, pre377⟩ : ∃ (r2v : Int32) (p2v : Int64), ((r2v = (1 : Int32) ∧ c2.toInt ≤ 32 - p1v.toInt ∧ p2v.toInt = p1v.toInt + c2.toInt) ∨ (r2v = (0 : Int32) ∧ 32 - p1v.toInt < c2.toInt ∧ p2v.toInt = 32)) ∧ ∀ t, oS p e below T358 m 191 #[iv p0, iv p1, iv p2, iv p3, iv 4, rv b338, jv wh, sn, jv 32, sn, iv c1, iv c2, iv r1v, jv p1v, sn, iv r2v, jv p2v, sn, un, un, un, un, un, un, un] [] t → oE p e below s₁ m #[(.int p0), (.int p1), (.int p2), (.int p3)] maxLocals t := by
      have pre378 : ∀ t, oS p e below T358 m 163 #[iv p0, iv p1, iv p2, iv p3, iv 4, rv b338, jv wh, sn, jv 32, sn, iv c1, iv c2, iv r1v, jv p1v, sn, un, un, un, un, un, un, un, un, un, un] [(.int (lcmpW (c2.toInt64) ((32 : Int64) - p1v)))] t → oE p e below s₁ m #[(.int p0), (.int p1), (.int p2), (.int p3)] maxLocals t := fun t kt => pre372 t (by
        show oS p e below T358 m 154 #[iv p0, iv p1, iv p2, iv p3, iv 4, rv b338, jv wh, sn, jv 32, sn, iv c1, iv c2, iv r1v, jv p1v, sn, un, un, un, un, un, un, un, un, un, un] [] _
        refine XS.iload X358.here hx rfl (hb hby at_154) rfl ?_
        show oS p e below T358 m 156 #[iv p0, iv p1, iv p2, iv p3, iv 4, rv b338, jv wh, sn, jv 32, sn, iv c1, iv c2, iv r1v, jv p1v, sn, un, un, un, un, un, un, un, un, un, un] [(.int c2)] _
        refine XS.i2l X358.here hx rfl (hb hby at_156) rfl ?_
        show oS p e below T358 m 157 #[iv p0, iv p1, iv p2, iv p3, iv 4, rv b338, jv wh, sn, jv 32, sn, iv c1, iv c2, iv r1v, jv p1v, sn, un, un, un, un, un, un, un, un, un, un] [(.long (c2.toInt64))] _
        refine XS.lload X358.here hx rfl (hb hby at_157) rfl ?_
        show oS p e below T358 m 159 #[iv p0, iv p1, iv p2, iv p3, iv 4, rv b338, jv wh, sn, jv 32, sn, iv c1, iv c2, iv r1v, jv p1v, sn, un, un, un, un, un, un, un, un, un, un] [(.long (32 : Int64)), (.long (c2.toInt64))] _
        refine XS.lload X358.here hx rfl (hb hby at_159) rfl ?_
        show oS p e below T358 m 161 #[iv p0, iv p1, iv p2, iv p3, iv 4, rv b338, jv wh, sn, jv 32, sn, iv c1, iv c2, iv r1v, jv p1v, sn, un, un, un, un, un, un, un, un, un, un] [(.long p1v), (.long (32 : Int64)), (.long (c2.toInt64))] _
        refine XS.lsub X358.here hx rfl (hb hby at_161) rfl ?_
        show oS p e below T358 m 162 #[iv p0, iv p1, iv p2, iv p3, iv 4, rv b338, jv wh, sn, jv 32, sn, iv c1, iv c2, iv r1v, jv p1v, sn, un, un, un, un, un, un, un, un, un, un] [(.long ((32 : Int64) - p1v)), (.long (c2.toInt64))] _
        refine XS.lcmp X358.here hx rfl (hb hby at_162) rfl ?_
        exact kt)
      clear pre372
      by_cases hc163_379 : ((32 : Int64) - p1v) < (c2.toInt64)
      · have pre380 : ∀ t, oS p e below T358 m 191 #[iv p0, iv p1, iv p2, iv p3, iv 4, rv b338, jv wh, sn, jv 32, sn, iv c1, iv c2, iv r1v, jv p1v, sn, iv 0, jv 32, sn, un, un, un, un, un, un, un] [] t → oE p e below s₁ m #[(.int p0), (.int p1), (.int p2), (.int p3)] maxLocals t := fun t kt => pre378 t (by
          show oS p e below T358 m 163 #[iv p0, iv p1, iv p2, iv p3, iv 4, rv b338, jv wh, sn, jv 32, sn, iv c1, iv c2, iv r1v, jv p1v, sn, un, un, un, un, un, un, un, un, un, un] [(.int (lcmpW (c2.toInt64) ((32 : Int64) - p1v)))] _
          refine XS.ifYes X358.here hx rfl (pc0 := 163) (pc' := 170) rfl (hb hby at_163) rfl (Jvm.Free.XT.ll_gt_t hc163_379) (by decide) (by decide) ?_
          show oS p e below T358 m 170 #[iv p0, iv p1, iv p2, iv p3, iv 4, rv b338, jv wh, sn, jv 32, sn, iv c1, iv c2, iv r1v, jv p1v, sn, un, un, un, un, un, un, un, un, un, un] [] _
          refine XS.iconst X358.here hx rfl (hb hby at_170) ?_
          show oS p e below T358 m 171 #[iv p0, iv p1, iv p2, iv p3, iv 4, rv b338, jv wh, sn, jv 32, sn, iv c1, iv c2, iv r1v, jv p1v, sn, un, un, un, un, un, un, un, un, un, un] [(.int (0 : Int32))] _
          refine XS.istore X358.here hx rfl (hb hby at_171) rfl (l' := #[iv p0, iv p1, iv p2, iv p3, iv 4, rv b338, jv wh, sn, jv 32, sn, iv c1, iv c2, iv r1v, jv p1v, sn, iv 0, un, un, un, un, un, un, un, un, un]) rfl ?_
          show oS p e below T358 m 173 #[iv p0, iv p1, iv p2, iv p3, iv 4, rv b338, jv wh, sn, jv 32, sn, iv c1, iv c2, iv r1v, jv p1v, sn, iv 0, un, un, un, un, un, un, un, un, un] [] _
          refine XS.iload X358.here hx rfl (hb hby at_173) rfl ?_
          show oS p e below T358 m 175 #[iv p0, iv p1, iv p2, iv p3, iv 4, rv b338, jv wh, sn, jv 32, sn, iv c1, iv c2, iv r1v, jv p1v, sn, iv 0, un, un, un, un, un, un, un, un, un] [(.int (0 : Int32))] _
          refine XS.ifYes X358.here hx rfl (pc0 := 175) (pc' := 187) rfl (hb hby at_175) rfl ((if0 _ _).trans (teq (by decide : (0 : Int32) = (0 : Int32))).1) (by decide) (by decide) ?_
          show oS p e below T358 m 187 #[iv p0, iv p1, iv p2, iv p3, iv 4, rv b338, jv wh, sn, jv 32, sn, iv c1, iv c2, iv r1v, jv p1v, sn, iv 0, un, un, un, un, un, un, un, un, un] [] _
          refine XS.lload X358.here hx rfl (hb hby at_187) rfl ?_
          show oS p e below T358 m 189 #[iv p0, iv p1, iv p2, iv p3, iv 4, rv b338, jv wh, sn, jv 32, sn, iv c1, iv c2, iv r1v, jv p1v, sn, iv 0, un, un, un, un, un, un, un, un, un] [(.long (32 : Int64))] _
          refine XS.lstore X358.here hx rfl (hb hby at_189) rfl (l' := #[iv p0, iv p1, iv p2, iv p3, iv 4, rv b338, jv wh, sn, jv 32, sn, iv c1, iv c2, iv r1v, jv p1v, sn, iv 0, jv 32, sn, un, un, un, un, un, un, un]) rfl ?_
          exact kt)
        clear pre378
        exact ⟨(0 : Int32), (32 : Int64), own_r2b c2 (32 : Int64) p1v 32 (by decide) (by decide) (own_pb 32 r1v c1 p1v (by decide) hm365.1 hm372) hm367 hc163_379, pre380⟩
      · have pre381 : ∀ t, oS p e below T358 m 191 #[iv p0, iv p1, iv p2, iv p3, iv 4, rv b338, jv wh, sn, jv 32, sn, iv c1, iv c2, iv r1v, jv p1v, sn, iv 1, jv (p1v + (c2.toInt64)), sn, un, un, un, un, un, un, un] [] t → oE p e below s₁ m #[(.int p0), (.int p1), (.int p2), (.int p3)] maxLocals t := fun t kt => pre378 t (by
          show oS p e below T358 m 163 #[iv p0, iv p1, iv p2, iv p3, iv 4, rv b338, jv wh, sn, jv 32, sn, iv c1, iv c2, iv r1v, jv p1v, sn, un, un, un, un, un, un, un, un, un, un] [(.int (lcmpW (c2.toInt64) ((32 : Int64) - p1v)))] _
          refine XS.ifNo X358.here hx rfl (hb hby at_163) rfl (Jvm.Free.XT.ll_gt_f hc163_379) ?_
          show oS p e below T358 m 166 #[iv p0, iv p1, iv p2, iv p3, iv 4, rv b338, jv wh, sn, jv 32, sn, iv c1, iv c2, iv r1v, jv p1v, sn, un, un, un, un, un, un, un, un, un, un] [] _
          refine XS.iconst X358.here hx rfl (hb hby at_166) ?_
          show oS p e below T358 m 167 #[iv p0, iv p1, iv p2, iv p3, iv 4, rv b338, jv wh, sn, jv 32, sn, iv c1, iv c2, iv r1v, jv p1v, sn, un, un, un, un, un, un, un, un, un, un] [(.int (1 : Int32))] _
          refine XS.goto X358.here hx rfl (pc0 := 167) (pc' := 171) rfl (hb hby at_167) (by decide) (by decide) ?_
          show oS p e below T358 m 171 #[iv p0, iv p1, iv p2, iv p3, iv 4, rv b338, jv wh, sn, jv 32, sn, iv c1, iv c2, iv r1v, jv p1v, sn, un, un, un, un, un, un, un, un, un, un] [(.int (1 : Int32))] _
          refine XS.istore X358.here hx rfl (hb hby at_171) rfl (l' := #[iv p0, iv p1, iv p2, iv p3, iv 4, rv b338, jv wh, sn, jv 32, sn, iv c1, iv c2, iv r1v, jv p1v, sn, iv 1, un, un, un, un, un, un, un, un, un]) rfl ?_
          show oS p e below T358 m 173 #[iv p0, iv p1, iv p2, iv p3, iv 4, rv b338, jv wh, sn, jv 32, sn, iv c1, iv c2, iv r1v, jv p1v, sn, iv 1, un, un, un, un, un, un, un, un, un] [] _
          refine XS.iload X358.here hx rfl (hb hby at_173) rfl ?_
          show oS p e below T358 m 175 #[iv p0, iv p1, iv p2, iv p3, iv 4, rv b338, jv wh, sn, jv 32, sn, iv c1, iv c2, iv r1v, jv p1v, sn, iv 1, un, un, un, un, un, un, un, un, un] [(.int (1 : Int32))] _
          refine XS.ifNo X358.here hx rfl (hb hby at_175) rfl ((if0 _ _).trans (feq (by decide : ¬ ((1 : Int32) = (0 : Int32)))).1) ?_
          show oS p e below T358 m 178 #[iv p0, iv p1, iv p2, iv p3, iv 4, rv b338, jv wh, sn, jv 32, sn, iv c1, iv c2, iv r1v, jv p1v, sn, iv 1, un, un, un, un, un, un, un, un, un] [] _
          refine XS.lload X358.here hx rfl (hb hby at_178) rfl ?_
          show oS p e below T358 m 180 #[iv p0, iv p1, iv p2, iv p3, iv 4, rv b338, jv wh, sn, jv 32, sn, iv c1, iv c2, iv r1v, jv p1v, sn, iv 1, un, un, un, un, un, un, un, un, un] [(.long p1v)] _
          refine XS.iload X358.here hx rfl (hb hby at_180) rfl ?_
          show oS p e below T358 m 182 #[iv p0, iv p1, iv p2, iv p3, iv 4, rv b338, jv wh, sn, jv 32, sn, iv c1, iv c2, iv r1v, jv p1v, sn, iv 1, un, un, un, un, un, un, un, un, un] [(.int c2), (.long p1v)] _
          refine XS.i2l X358.here hx rfl (hb hby at_182) rfl ?_
          show oS p e below T358 m 183 #[iv p0, iv p1, iv p2, iv p3, iv 4, rv b338, jv wh, sn, jv 32, sn, iv c1, iv c2, iv r1v, jv p1v, sn, iv 1, un, un, un, un, un, un, un, un, un] [(.long (c2.toInt64)), (.long p1v)] _
          refine XS.ladd X358.here hx rfl (hb hby at_183) rfl ?_
          show oS p e below T358 m 184 #[iv p0, iv p1, iv p2, iv p3, iv 4, rv b338, jv wh, sn, jv 32, sn, iv c1, iv c2, iv r1v, jv p1v, sn, iv 1, un, un, un, un, un, un, un, un, un] [(.long (p1v + (c2.toInt64)))] _
          refine XS.goto X358.here hx rfl (pc0 := 184) (pc' := 189) rfl (hb hby at_184) (by decide) (by decide) ?_
          show oS p e below T358 m 189 #[iv p0, iv p1, iv p2, iv p3, iv 4, rv b338, jv wh, sn, jv 32, sn, iv c1, iv c2, iv r1v, jv p1v, sn, iv 1, un, un, un, un, un, un, un, un, un] [(.long (p1v + (c2.toInt64)))] _
          refine XS.lstore X358.here hx rfl (hb hby at_189) rfl (l' := #[iv p0, iv p1, iv p2, iv p3, iv 4, rv b338, jv wh, sn, jv 32, sn, iv c1, iv c2, iv r1v, jv p1v, sn, iv 1, jv (p1v + (c2.toInt64)), sn, un, un, un, un, un, un, un]) rfl ?_
          exact kt)
        clear pre378
        exact ⟨(1 : Int32), (p1v + (c2.toInt64)), own_r2a c2 (32 : Int64) p1v 32 (by decide) (by decide) (own_pb 32 r1v c1 p1v (by decide) hm365.1 hm372) hm367 hc163_379, pre381⟩
    clear pre372
    obtain ⟨T382, h382, X382, e382, E382, A382, D382, -, st382⟩ := newO X358 hx hZ hown (hw _ (List.mem_of_getElem? (i := 4) rfl)) (hw _ (List.mem_of_getElem? (i := 5) rfl)) (hw _ (List.mem_of_getElem? (i := 6) rfl)) e358 (g := (mkF m 191 #[iv p0, iv p1, iv p2, iv p3, iv 4, rv b338, jv wh, sn, jv 32, sn, iv c1, iv c2, iv r1v, jv p1v, sn, iv r2v, jv p2v, sn, un, un, un, un, un, un, un] [])) rfl (hb hby at_191) (by decide) (by decide)
    obtain ⟨b382, g382⟩ : ∃ z, z = h358.size := ⟨_, rfl⟩
    rw [← g382] at A382 D382 st382
    have ne_b338_b382 : b338 ≠ b382 := Nat.ne_of_lt (Nat.lt_of_lt_of_le V358.lt (Nat.le_of_eq g382.symm))
    have pre383 : ∀ t, oS p e below T382 m 194 #[iv p0, iv p1, iv p2, iv p3, iv 4, rv b338, jv wh, sn, jv 32, sn, iv c1, iv c2, iv r1v, jv p1v, sn, iv r2v, jv p2v, sn, un, un, un, un, un, un, un] [(.ref b382)] t → oE p e below s₁ m #[(.int p0), (.int p1), (.int p2), (.int p3)] maxLocals t := fun t kt => pre377 t (st382 _ kt)
    clear pre377 st382
    have F384 : Arv Z h382 b338 k338 .byte (4 : Int32) [(.int by0), (.int by1), (.int by2), (.int by3)] (.int (0 : Int32)) := V358.ext E382
    have gn382 : n0 ≤ b382 := Nat.le_trans Z358 (Nat.le_of_eq g382.symm)
    have sz382 : h0.size ≤ b382 := Nat.le_trans K358.1 (Nat.le_of_eq g382.symm)
    have K382 : Keep h0 h382 [] := K358.ext E382
    have Z382 : n0 ≤ h382.size := Nat.le_trans Z358 E382.1
    have Fn382_data : Fld Z h382 b382 vB "data" "[B" .null := D382 (Or.inr (hw _ (List.mem_of_getElem? (i := 14) rfl))) (ty := (.array .byte)) (by decide)
    have Fn382_size : Fld Z h382 b382 vB "size" "J" (.long (0 : Int64)) := D382 (Or.inr (hw _ (List.mem_of_getElem? (i := 17) rfl))) (ty := .long) (by decide)
    have Fn382_position : Fld Z h382 b382 vB "position" "J" (.long (0 : Int64)) := D382 (Or.inl (hw _ (List.mem_of_getElem? (i := 24) rfl))) (ty := .long) (by decide)
    have Fn382_ended : Fld Z h382 b382 vB "ended" "Z" (.int (0 : Int32)) := D382 (Or.inl (hw _ (List.mem_of_getElem? (i := 26) rfl))) (ty := .boolean) (by decide)
    have pre385 : ∀ t, oS p e below T382 m 197 #[iv p0, iv p1, iv p2, iv p3, iv 4, rv b338, jv wh, sn, jv 32, sn, iv c1, iv c2, iv r1v, jv p1v, sn, iv r2v, jv p2v, sn, un, un, un, un, un, un, un] [(.ref b338), (.ref b382), (.ref b382)] t → oE p e below s₁ m #[(.int p0), (.int p1), (.int p2), (.int p3)] maxLocals t := fun t kt => pre383 t (by
      show oS p e below T382 m 194 #[iv p0, iv p1, iv p2, iv p3, iv 4, rv b338, jv wh, sn, jv 32, sn, iv c1, iv c2, iv r1v, jv p1v, sn, iv r2v, jv p2v, sn, un, un, un, un, un, un, un] [(.ref b382)] _
      refine XS.dup X382.here hx rfl (hb hby at_194) rfl rfl ?_
      show oS p e below T382 m 195 #[iv p0, iv p1, iv p2, iv p3, iv 4, rv b338, jv wh, sn, jv 32, sn, iv c1, iv c2, iv r1v, jv p1v, sn, iv r2v, jv p2v, sn, un, un, un, un, un, un, un] [(.ref b382), (.ref b382)] _
      refine XS.aload X382.here hx rfl (hb hby at_195) rfl rfl ?_
      exact kt)
    clear pre383
    obtain ⟨_, _, ⟨T386, L386, k386, n386⟩, -, X386, ⟨Lc386, hQ386, l386, y386, z386⟩, st386⟩ := X382.specialBack hx (y := (⟨vB, "<init>", "([B)V"⟩ : MethodName)) rfl hown (mvT hZ (hw _ (List.mem_of_getElem? (i := 7) rfl))) (mvT hZ (hw _ (List.mem_of_getElem? (i := 8) rfl))) (mvT hZ (hw _ (List.mem_of_getElem? (i := 9) rfl))) (by decide) (backOf (W := 1) (rm1c4 l Z av hw [] b382 b338 k338 by0 by1 by2 by3 h382 n0 Z382 A382 gn382 Fn382_data Fn382_size Fn382_position Fn382_ended F384 (Ne.symm ne_b338_b382)) hZ (hw _ (List.mem_of_getElem? (i := 9) rfl)) (hw _ (List.mem_of_getElem? (i := 6) rfl)) (by decide) (by decide)) (g := (mkF m 197 #[iv p0, iv p1, iv p2, iv p3, iv 4, rv b338, jv wh, sn, jv 32, sn, iv c1, iv c2, iv r1v, jv p1v, sn, iv r2v, jv p2v, sn, un, un, un, un, un, un, un] [(.ref b338), (.ref b382), (.ref b382)])) rfl (by rw [hml]; rfl) (Steps.refl _) (a := b382) (argsL := [(.ref b338)]) (rest := [(.ref b382)]) (lenOf pd___B_V rfl) rfl (by show 2 * 0 + _ ≤ _; exact Nat.le_of_eq rfl) (hb hby at_197) (fun _ _ => ⟨rfl, e382, (by decide : 2 + 0 ≤ _), (by decide : 8 + 0 ≤ _)⟩)
    dsimp only [Pt.U, Pt.locs, Pt.cells, Pt.slots] at X386 l386 y386 z386 st386 hQ386
    rw [l386, y386, z386] at X386
    clear l386 y386 z386
    obtain ⟨rfl, N386q, Kq386, Fq386_0, Fq386_1, Fq386_2, Fq386_3, Fq386_4⟩ := hQ386
    have N386 := Fr.app N358 N386q
    have F387 : Arv Z T386.heap b338 k338 .byte (4 : Int32) [(.int by0), (.int by1), (.int by2), (.int by3)] (.int (0 : Int32)) := F384.keep Kq386 (ninS ne_b338_b382 nin0)
    have K386 : Keep h0 T386.heap [] := K382.trans Kq386 (allS (Or.inr sz382) all0)
    have Z386 : n0 ≤ T386.heap.size := Nat.le_trans Z382 Kq386.1
    have Fq386_0' : Exa Z T386.heap b382 vB := Fq386_0
    have Fq386_1' : Fld Z T386.heap b382 vB "data" "[B" (.ref b338) := Fq386_1
    have Fq386_2' : Fld Z T386.heap b382 vB "size" "J" (.long ((8 : Int64) * ((4 : Int32).toInt64))) := Fq386_2
    have Fq386_3' : Fld Z T386.heap b382 vB "position" "J" (.long (0 : Int64)) := Fq386_3
    have Fq386_4' : Fld Z T386.heap b382 vB "ended" "Z" (.int (0 : Int32)) := Fq386_4
    have pre388 : ∀ t, oS p e below T386 m 200 #[iv p0, iv p1, iv p2, iv p3, iv 4, rv b338, jv wh, sn, jv 32, sn, iv c1, iv c2, iv r1v, jv p1v, sn, iv r2v, jv p2v, sn, un, un, un, un, un, un, un] [(.ref b382)] t → oE p e below s₁ m #[(.int p0), (.int p1), (.int p2), (.int p3)] maxLocals t := fun t kt => pre385 t (st386.trans kt)
    clear pre385 st386
    have pre389 : ∀ t, oS p e below T386 m 206 #[iv p0, iv p1, iv p2, iv p3, iv 4, rv b338, jv wh, sn, jv 32, sn, iv c1, iv c2, iv r1v, jv p1v, sn, iv r2v, jv p2v, sn, rv b382, un, un, un, un, un, un] [(.int c1), (.ref b382)] t → oE p e below s₁ m #[(.int p0), (.int p1), (.int p2), (.int p3)] maxLocals t := fun t kt => pre388 t (by
      show oS p e below T386 m 200 #[iv p0, iv p1, iv p2, iv p3, iv 4, rv b338, jv wh, sn, jv 32, sn, iv c1, iv c2, iv r1v, jv p1v, sn, iv r2v, jv p2v, sn, un, un, un, un, un, un, un] [(.ref b382)] _
      refine XS.astore X386.here hx rfl (hb hby at_200) rfl rfl (l' := #[iv p0, iv p1, iv p2, iv p3, iv 4, rv b338, jv wh, sn, jv 32, sn, iv c1, iv c2, iv r1v, jv p1v, sn, iv r2v, jv p2v, sn, rv b382, un, un, un, un, un, un]) rfl ?_
      show oS p e below T386 m 202 #[iv p0, iv p1, iv p2, iv p3, iv 4, rv b338, jv wh, sn, jv 32, sn, iv c1, iv c2, iv r1v, jv p1v, sn, iv r2v, jv p2v, sn, rv b382, un, un, un, un, un, un] [] _
      refine XS.aload X386.here hx rfl (hb hby at_202) rfl rfl ?_
      show oS p e below T386 m 204 #[iv p0, iv p1, iv p2, iv p3, iv 4, rv b338, jv wh, sn, jv 32, sn, iv c1, iv c2, iv r1v, jv p1v, sn, iv r2v, jv p2v, sn, rv b382, un, un, un, un, un, un] [(.ref b382)] _
      refine XS.iload X386.here hx rfl (hb hby at_204) rfl ?_
      exact kt)
    clear pre388
    obtain ⟨cq390, kq390, q390a, q390b, q390c⟩ := isOf hZ rfl Fq386_0'
    obtain ⟨_, _, ⟨T391, L391, k391, n391⟩, -, X391, ⟨Lc391, hQ391, l391, y391, z391⟩, st391⟩ := X386.virtualBack hx (y := (⟨vB, "skip", "(I)Z"⟩ : MethodName)) (z := (⟨vB, "skip", "(I)Z"⟩ : MethodName)) hown (mvT hZ (hw _ (List.mem_of_getElem? (i := 18) rfl))) (mvT hZ (hw _ (List.mem_of_getElem? (i := 19) rfl))) (notFace_of_selects (args := #[]) (mvT hZ (hw _ (List.mem_of_getElem? (i := 21) rfl)))) (mvT hZ (hw _ (List.mem_of_getElem? (i := 21) rfl))) (mvT hZ (hw _ (List.mem_of_getElem? (i := 20) rfl))) (by decide) (backOf (W := 0) (rm3 l Z av hw [] b382 c1 b338 ((8 : Int64) * ((4 : Int32).toInt64)) (0 : Int64) (0 : Int32) T386.heap n0 Z386 Fq386_0' gn382 Fq386_1' Fq386_2' Fq386_3' Fq386_4') hZ (hw _ (List.mem_of_getElem? (i := 22) rfl)) (hw _ (List.mem_of_getElem? (i := 6) rfl)) (by decide) (by decide)) q390a q390c (g := (mkF m 206 #[iv p0, iv p1, iv p2, iv p3, iv 4, rv b338, jv wh, sn, jv 32, sn, iv c1, iv c2, iv r1v, jv p1v, sn, iv r2v, jv p2v, sn, rv b382, un, un, un, un, un, un] [(.int c1), (.ref b382)])) rfl (by rw [hml]; rfl) (Steps.refl _) (argsL := [(.int c1)]) (rest := []) (lenOf pd__I_Z rfl) rfl (by show 2 * 0 + _ ≤ _; exact Nat.le_of_eq rfl) (hb hby at_206) (fun _ _ => ⟨rfl, rfl, (by decide : 2 + 0 ≤ _), (by decide : 8 + 0 ≤ _)⟩)
    dsimp only [Pt.U, Pt.locs, Pt.cells, Pt.slots] at X391 l391 y391 z391 st391 hQ391
    rw [l391, y391, z391] at X391
    clear l391 y391 z391
    obtain ⟨rv391, ps391, ed391, rfl, Nz391, Kz391, ⟨Gz0, Gz1, Gz2, Gz3, Gz4⟩, Rl391⟩ := hQ391
    have hQ391 := And.intro (rfl : (0 : Nat) = 0) (And.intro Nz391 (And.intro Kz391 (And.intro Gz0 (And.intro Gz1 (And.intro Gz2 (And.intro Gz3 Gz4))))))
    obtain ⟨-, N391q, Kq391, Fq391_0, Fq391_1, Fq391_2, Fq391_3, Fq391_4⟩ := hQ391
    have N391 := Fr.app N386 N391q
    have F392 : Arv Z T391.heap b338 k338 .byte (4 : Int32) [(.int by0), (.int by1), (.int by2), (.int by3)] (.int (0 : Int32)) := F387.keep Kq391 (ninS ne_b338_b382 nin0)
    have K391 : Keep h0 T391.heap [] := K386.trans Kq391 (allS (Or.inr sz382) all0)
    have Z391 : n0 ≤ T391.heap.size := Nat.le_trans Z386 Kq391.1
    have Fq391_0' : Exa Z T391.heap b382 vB := Fq391_0
    have Fq391_1' : Fld Z T391.heap b382 vB "data" "[B" (.ref b338) := Fq391_1
    have Fq391_2' : Fld Z T391.heap b382 vB "size" "J" (.long ((8 : Int64) * ((4 : Int32).toInt64))) := Fq391_2
    have Fq391_3' : Fld Z T391.heap b382 vB "position" "J" (.long ps391) := Fq391_3
    have Fq391_4' : Fld Z T391.heap b382 vB "ended" "Z" (.int ed391) := Fq391_4
    have pre393 : ∀ t, oS p e below T391 m 209 #[iv p0, iv p1, iv p2, iv p3, iv 4, rv b338, jv wh, sn, jv 32, sn, iv c1, iv c2, iv r1v, jv p1v, sn, iv r2v, jv p2v, sn, rv b382, un, un, un, un, un, un] [(.int rv391)] t → oE p e below s₁ m #[(.int p0), (.int p1), (.int p2), (.int p3)] maxLocals t := fun t kt => pre389 t (st391.trans kt)
    clear pre389 st391
    have pre394 : ∀ t, oS p e below T391 m 215 #[iv p0, iv p1, iv p2, iv p3, iv 4, rv b338, jv wh, sn, jv 32, sn, iv c1, iv c2, iv r1v, jv p1v, sn, iv r2v, jv p2v, sn, rv b382, iv rv391, un, un, un, un, un] [(.int (32 : Int32)), (.ref b382)] t → oE p e below s₁ m #[(.int p0), (.int p1), (.int p2), (.int p3)] maxLocals t := fun t kt => pre393 t (by
      show oS p e below T391 m 209 #[iv p0, iv p1, iv p2, iv p3, iv 4, rv b338, jv wh, sn, jv 32, sn, iv c1, iv c2, iv r1v, jv p1v, sn, iv r2v, jv p2v, sn, rv b382, un, un, un, un, un, un] [(.int rv391)] _
      refine XS.istore X391.here hx rfl (hb hby at_209) rfl (l' := #[iv p0, iv p1, iv p2, iv p3, iv 4, rv b338, jv wh, sn, jv 32, sn, iv c1, iv c2, iv r1v, jv p1v, sn, iv r2v, jv p2v, sn, rv b382, iv rv391, un, un, un, un, un]) rfl ?_
      show oS p e below T391 m 211 #[iv p0, iv p1, iv p2, iv p3, iv 4, rv b338, jv wh, sn, jv 32, sn, iv c1, iv c2, iv r1v, jv p1v, sn, iv r2v, jv p2v, sn, rv b382, iv rv391, un, un, un, un, un] [] _
      refine XS.aload X391.here hx rfl (hb hby at_211) rfl rfl ?_
      show oS p e below T391 m 213 #[iv p0, iv p1, iv p2, iv p3, iv 4, rv b338, jv wh, sn, jv 32, sn, iv c1, iv c2, iv r1v, jv p1v, sn, iv r2v, jv p2v, sn, rv b382, iv rv391, un, un, un, un, un] [(.ref b382)] _
      refine XS.bipush X391.here hx rfl (hb hby at_213) ?_
      exact kt)
    clear pre393
    have sk395 := own_skr 32 0 ((8 : Int64) * ((4 : Int32).toInt64)) (0 : Int64) ps391 p1v c1 rv391 r1v (0 : Int32) ed391 (by decide) (by decide) (by decide) (by decide) hm365.1 hm372 Rl391
    obtain ⟨cq396, kq396, q396a, q396b, q396c⟩ := isOf hZ rfl Fq391_0'
    obtain ⟨_, _, ⟨T397, L397, k397, n397⟩, -, X397, ⟨Lc397, hQ397, l397, y397, z397⟩, st397⟩ := X391.virtualBack hx (y := (⟨vB, "peek", "(I)I"⟩ : MethodName)) (z := (⟨vB, "peek", "(I)I"⟩ : MethodName)) hown (mvT hZ (hw _ (List.mem_of_getElem? (i := 27) rfl))) (mvT hZ (hw _ (List.mem_of_getElem? (i := 28) rfl))) (notFace_of_selects (args := #[]) (mvT hZ (hw _ (List.mem_of_getElem? (i := 30) rfl)))) (mvT hZ (hw _ (List.mem_of_getElem? (i := 30) rfl))) (mvT hZ (hw _ (List.mem_of_getElem? (i := 29) rfl))) (by decide) (backOf (W := 0) (rm4p4 l Z av hw [] b382 b338 ((8 : Int64) * ((4 : Int32).toInt64)) ps391 ed391 k338 by0 by1 by2 by3 T391.heap n0 Z391 Fq391_0' gn382 Fq391_1' Fq391_2' Fq391_3' Fq391_4' F392 sk395.2.2.1) hZ (hw _ (List.mem_of_getElem? (i := 31) rfl)) (hw _ (List.mem_of_getElem? (i := 6) rfl)) (by decide) (by decide)) q396a q396c (g := (mkF m 215 #[iv p0, iv p1, iv p2, iv p3, iv 4, rv b338, jv wh, sn, jv 32, sn, iv c1, iv c2, iv r1v, jv p1v, sn, iv r2v, jv p2v, sn, rv b382, iv rv391, un, un, un, un, un] [(.int (32 : Int32)), (.ref b382)])) rfl (by rw [hml]; rfl) (Steps.refl _) (argsL := [(.int (32 : Int32))]) (rest := []) (lenOf pd__I_I rfl) rfl (by show 2 * 0 + _ ≤ _; exact Nat.le_of_eq rfl) (hb hby at_215) (fun _ _ => ⟨rfl, rfl, (by decide : 2 + 0 ≤ _), (by decide : 8 + 0 ≤ _)⟩)
    dsimp only [Pt.U, Pt.locs, Pt.cells, Pt.slots] at X397 l397 y397 z397 st397 hQ397
    rw [l397, y397, z397] at X397
    clear l397 y397 z397
    obtain ⟨rfl, N397q, e397⟩ := hQ397
    have N397 := Fr.app N391 N397q
    have pre398 : ∀ t, oS p e below T397 m 218 #[iv p0, iv p1, iv p2, iv p3, iv 4, rv b338, jv wh, sn, jv 32, sn, iv c1, iv c2, iv r1v, jv p1v, sn, iv r2v, jv p2v, sn, rv b382, iv rv391, un, un, un, un, un] [(.int (Int32.ofInt ((1 * (by0.toInt % 256) + 256 * (by1.toInt % 256) + 65536 * (by2.toInt % 256) + 16777216 * (by3.toInt % 256)) / 2 ^ ps391.toInt.toNat)))] t → oE p e below s₁ m #[(.int p0), (.int p1), (.int p2), (.int p3)] maxLocals t := fun t kt => pre394 t (st397.trans kt)
    clear pre394 st397
    obtain ⟨kv218, hm399, pre399⟩ : ∃ (kv218 : Int32), (kv218 = (Int32.ofInt ((1 * (by0.toInt % 256) + 256 * (by1.toInt % 256) + 65536 * (by2.toInt % 256) + 16777216 * (by3.toInt % 256)) / 2 ^ ps391.toInt.toNat))) ∧ ∀ t, oS p e below T397 m 218 #[iv p0, iv p1, iv p2, iv p3, iv 4, rv b338, jv wh, sn, jv 32, sn, iv c1, iv c2, iv r1v, jv p1v, sn, iv r2v, jv p2v, sn, rv b382, iv rv391, un, un, un, un, un] [(.int kv218)] t → oE p e below s₁ m #[(.int p0), (.int p1), (.int p2), (.int p3)] maxLocals t := ⟨(Int32.ofInt ((1 * (by0.toInt % 256) + 256 * (by1.toInt % 256) + 65536 * (by2.toInt % 256) + 16777216 * (by3.toInt % 256)) / 2 ^ ps391.toInt.toNat)), rfl, pre398⟩
    clear pre398
    have pre400 : ∀ t, oS p e below T397 m 222 #[iv p0, iv p1, iv p2, iv p3, iv 4, rv b338, jv wh, sn, jv 32, sn, iv c1, iv c2, iv r1v, jv p1v, sn, iv r2v, jv p2v, sn, rv b382, iv rv391, iv kv218, un, un, un, un] [(.ref b382)] t → oE p e below s₁ m #[(.int p0), (.int p1), (.int p2), (.int p3)] maxLocals t := fun t kt => pre399 t (by
      show oS p e below T397 m 218 #[iv p0, iv p1, iv p2, iv p3, iv 4, rv b338, jv wh, sn, jv 32, sn, iv c1, iv c2, iv r1v, jv p1v, sn, iv r2v, jv p2v, sn, rv b382, iv rv391, un, un, un, un, un] [(.int kv218)] _
      refine XS.istore X397.here hx rfl (hb hby at_218) rfl (l' := #[iv p0, iv p1, iv p2, iv p3, iv 4, rv b338, jv wh, sn, jv 32, sn, iv c1, iv c2, iv r1v, jv p1v, sn, iv r2v, jv p2v, sn, rv b382, iv rv391, iv kv218, un, un, un, un]) rfl ?_
      show oS p e below T397 m 220 #[iv p0, iv p1, iv p2, iv p3, iv 4, rv b338, jv wh, sn, jv 32, sn, iv c1, iv c2, iv r1v, jv p1v, sn, iv r2v, jv p2v, sn, rv b382, iv rv391, iv kv218, un, un, un, un] [] _
      refine XS.aload X397.here hx rfl (hb hby at_220) rfl rfl ?_
      exact kt)
    clear pre399
    obtain ⟨cq401, kq401, q401a, q401b, q401c⟩ := isOf hZ e397 Fq391_0'
    obtain ⟨_, _, ⟨T402, L402, k402, n402⟩, -, X402, ⟨Lc402, hQ402, l402, y402, z402⟩, st402⟩ := X397.virtualBack hx (y := (⟨vB, "ended", "()Z"⟩ : MethodName)) (z := (⟨vB, "ended", "()Z"⟩ : MethodName)) hown (mvT hZ (hw _ (List.mem_of_getElem? (i := 37) rfl))) (mvT hZ (hw _ (List.mem_of_getElem? (i := 38) rfl))) (notFace_of_selects (args := #[]) (mvT hZ (hw _ (List.mem_of_getElem? (i := 40) rfl)))) (mvT hZ (hw _ (List.mem_of_getElem? (i := 40) rfl))) (mvT hZ (hw _ (List.mem_of_getElem? (i := 39) rfl))) (by decide) (backOf (W := 0) (rm6 l Z av hw [] b382 b338 ((8 : Int64) * ((4 : Int32).toInt64)) ps391 ed391 T391.heap n0 Z391 Fq391_0' gn382 Fq391_1' Fq391_2' Fq391_3' Fq391_4' (own_nar1 r1v ed391 sk395.2.2.2)) hZ (hw _ (List.mem_of_getElem? (i := 41) rfl)) (hw _ (List.mem_of_getElem? (i := 6) rfl)) (by decide) (by decide)) q401a q401c (g := (mkF m 222 #[iv p0, iv p1, iv p2, iv p3, iv 4, rv b338, jv wh, sn, jv 32, sn, iv c1, iv c2, iv r1v, jv p1v, sn, iv r2v, jv p2v, sn, rv b382, iv rv391, iv kv218, un, un, un, un] [(.ref b382)])) rfl (by rw [hml]; rfl) (Steps.refl _) (argsL := []) (rest := []) (lenOf pd___Z rfl) rfl (by show 2 * 0 + _ ≤ _; exact Nat.le_of_eq rfl) (hb hby at_222) (fun _ _ => ⟨rfl, e397, (by decide : 2 + 0 ≤ _), (by decide : 8 + 0 ≤ _)⟩)
    dsimp only [Pt.U, Pt.locs, Pt.cells, Pt.slots] at X402 l402 y402 z402 st402 hQ402
    rw [l402, y402, z402] at X402
    clear l402 y402 z402
    obtain ⟨rfl, N402q, e402⟩ := hQ402
    have N402 := Fr.app N397 N402q
    have pre403 : ∀ t, oS p e below T402 m 225 #[iv p0, iv p1, iv p2, iv p3, iv 4, rv b338, jv wh, sn, jv 32, sn, iv c1, iv c2, iv r1v, jv p1v, sn, iv r2v, jv p2v, sn, rv b382, iv rv391, iv kv218, un, un, un, un] [(.int ed391)] t → oE p e below s₁ m #[(.int p0), (.int p1), (.int p2), (.int p3)] maxLocals t := fun t kt => pre400 t (st402.trans kt)
    clear pre400 st402
    have pre404 : ∀ t, oS p e below T402 m 231 #[iv p0, iv p1, iv p2, iv p3, iv 4, rv b338, jv wh, sn, jv 32, sn, iv c1, iv c2, iv r1v, jv p1v, sn, iv r2v, jv p2v, sn, rv b382, iv rv391, iv kv218, iv ed391, un, un, un] [(.int c2), (.ref b382)] t → oE p e below s₁ m #[(.int p0), (.int p1), (.int p2), (.int p3)] maxLocals t := fun t kt => pre403 t (by
      show oS p e below T402 m 225 #[iv p0, iv p1, iv p2, iv p3, iv 4, rv b338, jv wh, sn, jv 32, sn, iv c1, iv c2, iv r1v, jv p1v, sn, iv r2v, jv p2v, sn, rv b382, iv rv391, iv kv218, un, un, un, un] [(.int ed391)] _
      refine XS.istore X402.here hx rfl (hb hby at_225) rfl (l' := #[iv p0, iv p1, iv p2, iv p3, iv 4, rv b338, jv wh, sn, jv 32, sn, iv c1, iv c2, iv r1v, jv p1v, sn, iv r2v, jv p2v, sn, rv b382, iv rv391, iv kv218, iv ed391, un, un, un]) rfl ?_
      show oS p e below T402 m 227 #[iv p0, iv p1, iv p2, iv p3, iv 4, rv b338, jv wh, sn, jv 32, sn, iv c1, iv c2, iv r1v, jv p1v, sn, iv r2v, jv p2v, sn, rv b382, iv rv391, iv kv218, iv ed391, un, un, un] [] _
      refine XS.aload X402.here hx rfl (hb hby at_227) rfl rfl ?_
      show oS p e below T402 m 229 #[iv p0, iv p1, iv p2, iv p3, iv 4, rv b338, jv wh, sn, jv 32, sn, iv c1, iv c2, iv r1v, jv p1v, sn, iv r2v, jv p2v, sn, rv b382, iv rv391, iv kv218, iv ed391, un, un, un] [(.ref b382)] _
      refine XS.iload X402.here hx rfl (hb hby at_229) rfl ?_
      exact kt)
    clear pre403
    obtain ⟨cq405, kq405, q405a, q405b, q405c⟩ := isOf hZ e402 Fq391_0'
    obtain ⟨_, _, ⟨T406, L406, k406, n406⟩, -, X406, ⟨Lc406, hQ406, l406, y406, z406⟩, st406⟩ := X402.virtualBack hx (y := (⟨vB, "skip", "(I)Z"⟩ : MethodName)) (z := (⟨vB, "skip", "(I)Z"⟩ : MethodName)) hown (mvT hZ (hw _ (List.mem_of_getElem? (i := 18) rfl))) (mvT hZ (hw _ (List.mem_of_getElem? (i := 19) rfl))) (notFace_of_selects (args := #[]) (mvT hZ (hw _ (List.mem_of_getElem? (i := 21) rfl)))) (mvT hZ (hw _ (List.mem_of_getElem? (i := 21) rfl))) (mvT hZ (hw _ (List.mem_of_getElem? (i := 20) rfl))) (by decide) (backOf (W := 0) (rm3 l Z av hw [] b382 c2 b338 ((8 : Int64) * ((4 : Int32).toInt64)) ps391 ed391 T391.heap n0 Z391 Fq391_0' gn382 Fq391_1' Fq391_2' Fq391_3' Fq391_4') hZ (hw _ (List.mem_of_getElem? (i := 22) rfl)) (hw _ (List.mem_of_getElem? (i := 6) rfl)) (by decide) (by decide)) q405a q405c (g := (mkF m 231 #[iv p0, iv p1, iv p2, iv p3, iv 4, rv b338, jv wh, sn, jv 32, sn, iv c1, iv c2, iv r1v, jv p1v, sn, iv r2v, jv p2v, sn, rv b382, iv rv391, iv kv218, iv ed391, un, un, un] [(.int c2), (.ref b382)])) rfl (by rw [hml]; rfl) (Steps.refl _) (argsL := [(.int c2)]) (rest := []) (lenOf pd__I_Z rfl) rfl (by show 2 * 0 + _ ≤ _; exact Nat.le_of_eq rfl) (hb hby at_231) (fun _ _ => ⟨rfl, e402, (by decide : 2 + 0 ≤ _), (by decide : 8 + 0 ≤ _)⟩)
    dsimp only [Pt.U, Pt.locs, Pt.cells, Pt.slots] at X406 l406 y406 z406 st406 hQ406
    rw [l406, y406, z406] at X406
    clear l406 y406 z406
    obtain ⟨rv406, ps406, ed406, rfl, Nz406, Kz406, ⟨Gz0, Gz1, Gz2, Gz3, Gz4⟩, Rl406⟩ := hQ406
    have hQ406 := And.intro (rfl : (0 : Nat) = 0) (And.intro Nz406 (And.intro Kz406 (And.intro Gz0 (And.intro Gz1 (And.intro Gz2 (And.intro Gz3 Gz4))))))
    obtain ⟨-, N406q, Kq406, Fq406_0, Fq406_1, Fq406_2, Fq406_3, Fq406_4⟩ := hQ406
    have N406 := Fr.app N402 N406q
    have F407 : Arv Z T406.heap b338 k338 .byte (4 : Int32) [(.int by0), (.int by1), (.int by2), (.int by3)] (.int (0 : Int32)) := F392.keep Kq406 (ninS ne_b338_b382 nin0)
    have K406 : Keep h0 T406.heap [] := K391.trans Kq406 (allS (Or.inr sz382) all0)
    have Z406 : n0 ≤ T406.heap.size := Nat.le_trans Z391 Kq406.1
    have Fq406_0' : Exa Z T406.heap b382 vB := Fq406_0
    have Fq406_1' : Fld Z T406.heap b382 vB "data" "[B" (.ref b338) := Fq406_1
    have Fq406_2' : Fld Z T406.heap b382 vB "size" "J" (.long ((8 : Int64) * ((4 : Int32).toInt64))) := Fq406_2
    have Fq406_3' : Fld Z T406.heap b382 vB "position" "J" (.long ps406) := Fq406_3
    have Fq406_4' : Fld Z T406.heap b382 vB "ended" "Z" (.int ed406) := Fq406_4
    have pre408 : ∀ t, oS p e below T406 m 234 #[iv p0, iv p1, iv p2, iv p3, iv 4, rv b338, jv wh, sn, jv 32, sn, iv c1, iv c2, iv r1v, jv p1v, sn, iv r2v, jv p2v, sn, rv b382, iv rv391, iv kv218, iv ed391, un, un, un] [(.int rv406)] t → oE p e below s₁ m #[(.int p0), (.int p1), (.int p2), (.int p3)] maxLocals t := fun t kt => pre404 t (st406.trans kt)
    clear pre404 st406
    have pre409 : ∀ t, oS p e below T406 m 240 #[iv p0, iv p1, iv p2, iv p3, iv 4, rv b338, jv wh, sn, jv 32, sn, iv c1, iv c2, iv r1v, jv p1v, sn, iv r2v, jv p2v, sn, rv b382, iv rv391, iv kv218, iv ed391, iv rv406, un, un] [(.int (32 : Int32)), (.ref b382)] t → oE p e below s₁ m #[(.int p0), (.int p1), (.int p2), (.int p3)] maxLocals t := fun t kt => pre408 t (by
      show oS p e below T406 m 234 #[iv p0, iv p1, iv p2, iv p3, iv 4, rv b338, jv wh, sn, jv 32, sn, iv c1, iv c2, iv r1v, jv p1v, sn, iv r2v, jv p2v, sn, rv b382, iv rv391, iv kv218, iv ed391, un, un, un] [(.int rv406)] _
      refine XS.istore X406.here hx rfl (hb hby at_234) rfl (l' := #[iv p0, iv p1, iv p2, iv p3, iv 4, rv b338, jv wh, sn, jv 32, sn, iv c1, iv c2, iv r1v, jv p1v, sn, iv r2v, jv p2v, sn, rv b382, iv rv391, iv kv218, iv ed391, iv rv406, un, un]) rfl ?_
      show oS p e below T406 m 236 #[iv p0, iv p1, iv p2, iv p3, iv 4, rv b338, jv wh, sn, jv 32, sn, iv c1, iv c2, iv r1v, jv p1v, sn, iv r2v, jv p2v, sn, rv b382, iv rv391, iv kv218, iv ed391, iv rv406, un, un] [] _
      refine XS.aload X406.here hx rfl (hb hby at_236) rfl rfl ?_
      show oS p e below T406 m 238 #[iv p0, iv p1, iv p2, iv p3, iv 4, rv b338, jv wh, sn, jv 32, sn, iv c1, iv c2, iv r1v, jv p1v, sn, iv r2v, jv p2v, sn, rv b382, iv rv391, iv kv218, iv ed391, iv rv406, un, un] [(.ref b382)] _
      refine XS.bipush X406.here hx rfl (hb hby at_238) ?_
      exact kt)
    clear pre408
    have sk410 := own_skr 32 p1v.toInt ((8 : Int64) * ((4 : Int32).toInt64)) ps391 ps406 p2v c2 rv406 r2v ed391 ed406 (by decide) (by decide) sk395.2.1 (own_pb 32 r1v c1 p1v (by decide) hm365.1 hm372) hm367 hm377 Rl406
    obtain ⟨cq411, kq411, q411a, q411b, q411c⟩ := isOf hZ rfl Fq406_0'
    obtain ⟨_, _, ⟨T412, L412, k412, n412⟩, -, X412, ⟨Lc412, hQ412, l412, y412, z412⟩, st412⟩ := X406.virtualBack hx (y := (⟨vB, "peek", "(I)I"⟩ : MethodName)) (z := (⟨vB, "peek", "(I)I"⟩ : MethodName)) hown (mvT hZ (hw _ (List.mem_of_getElem? (i := 27) rfl))) (mvT hZ (hw _ (List.mem_of_getElem? (i := 28) rfl))) (notFace_of_selects (args := #[]) (mvT hZ (hw _ (List.mem_of_getElem? (i := 30) rfl)))) (mvT hZ (hw _ (List.mem_of_getElem? (i := 30) rfl))) (mvT hZ (hw _ (List.mem_of_getElem? (i := 29) rfl))) (by decide) (backOf (W := 0) (rm4p4 l Z av hw [] b382 b338 ((8 : Int64) * ((4 : Int32).toInt64)) ps406 ed406 k338 by0 by1 by2 by3 T406.heap n0 Z406 Fq406_0' gn382 Fq406_1' Fq406_2' Fq406_3' Fq406_4' F407 sk410.2.2.1) hZ (hw _ (List.mem_of_getElem? (i := 31) rfl)) (hw _ (List.mem_of_getElem? (i := 6) rfl)) (by decide) (by decide)) q411a q411c (g := (mkF m 240 #[iv p0, iv p1, iv p2, iv p3, iv 4, rv b338, jv wh, sn, jv 32, sn, iv c1, iv c2, iv r1v, jv p1v, sn, iv r2v, jv p2v, sn, rv b382, iv rv391, iv kv218, iv ed391, iv rv406, un, un] [(.int (32 : Int32)), (.ref b382)])) rfl (by rw [hml]; rfl) (Steps.refl _) (argsL := [(.int (32 : Int32))]) (rest := []) (lenOf pd__I_I rfl) rfl (by show 2 * 0 + _ ≤ _; exact Nat.le_of_eq rfl) (hb hby at_240) (fun _ _ => ⟨rfl, rfl, (by decide : 2 + 0 ≤ _), (by decide : 8 + 0 ≤ _)⟩)
    dsimp only [Pt.U, Pt.locs, Pt.cells, Pt.slots] at X412 l412 y412 z412 st412 hQ412
    rw [l412, y412, z412] at X412
    clear l412 y412 z412
    obtain ⟨rfl, N412q, e412⟩ := hQ412
    have N412 := Fr.app N406 N412q
    have pre413 : ∀ t, oS p e below T412 m 243 #[iv p0, iv p1, iv p2, iv p3, iv 4, rv b338, jv wh, sn, jv 32, sn, iv c1, iv c2, iv r1v, jv p1v, sn, iv r2v, jv p2v, sn, rv b382, iv rv391, iv kv218, iv ed391, iv rv406, un, un] [(.int (Int32.ofInt ((1 * (by0.toInt % 256) + 256 * (by1.toInt % 256) + 65536 * (by2.toInt % 256) + 16777216 * (by3.toInt % 256)) / 2 ^ ps406.toInt.toNat)))] t → oE p e below s₁ m #[(.int p0), (.int p1), (.int p2), (.int p3)] maxLocals t := fun t kt => pre409 t (st412.trans kt)
    clear pre409 st412
    obtain ⟨kv243, hm414, pre414⟩ : ∃ (kv243 : Int32), (kv243 = (Int32.ofInt ((1 * (by0.toInt % 256) + 256 * (by1.toInt % 256) + 65536 * (by2.toInt % 256) + 16777216 * (by3.toInt % 256)) / 2 ^ ps406.toInt.toNat))) ∧ ∀ t, oS p e below T412 m 243 #[iv p0, iv p1, iv p2, iv p3, iv 4, rv b338, jv wh, sn, jv 32, sn, iv c1, iv c2, iv r1v, jv p1v, sn, iv r2v, jv p2v, sn, rv b382, iv rv391, iv kv218, iv ed391, iv rv406, un, un] [(.int kv243)] t → oE p e below s₁ m #[(.int p0), (.int p1), (.int p2), (.int p3)] maxLocals t := ⟨(Int32.ofInt ((1 * (by0.toInt % 256) + 256 * (by1.toInt % 256) + 65536 * (by2.toInt % 256) + 16777216 * (by3.toInt % 256)) / 2 ^ ps406.toInt.toNat)), rfl, pre413⟩
    clear pre413
    have pre415 : ∀ t, oS p e below T412 m 247 #[iv p0, iv p1, iv p2, iv p3, iv 4, rv b338, jv wh, sn, jv 32, sn, iv c1, iv c2, iv r1v, jv p1v, sn, iv r2v, jv p2v, sn, rv b382, iv rv391, iv kv218, iv ed391, iv rv406, iv kv243, un] [(.ref b382)] t → oE p e below s₁ m #[(.int p0), (.int p1), (.int p2), (.int p3)] maxLocals t := fun t kt => pre414 t (by
      show oS p e below T412 m 243 #[iv p0, iv p1, iv p2, iv p3, iv 4, rv b338, jv wh, sn, jv 32, sn, iv c1, iv c2, iv r1v, jv p1v, sn, iv r2v, jv p2v, sn, rv b382, iv rv391, iv kv218, iv ed391, iv rv406, un, un] [(.int kv243)] _
      refine XS.istore X412.here hx rfl (hb hby at_243) rfl (l' := #[iv p0, iv p1, iv p2, iv p3, iv 4, rv b338, jv wh, sn, jv 32, sn, iv c1, iv c2, iv r1v, jv p1v, sn, iv r2v, jv p2v, sn, rv b382, iv rv391, iv kv218, iv ed391, iv rv406, iv kv243, un]) rfl ?_
      show oS p e below T412 m 245 #[iv p0, iv p1, iv p2, iv p3, iv 4, rv b338, jv wh, sn, jv 32, sn, iv c1, iv c2, iv r1v, jv p1v, sn, iv r2v, jv p2v, sn, rv b382, iv rv391, iv kv218, iv ed391, iv rv406, iv kv243, un] [] _
      refine XS.aload X412.here hx rfl (hb hby at_245) rfl rfl ?_
      exact kt)
    clear pre414
    obtain ⟨cq416, kq416, q416a, q416b, q416c⟩ := isOf hZ e412 Fq406_0'
    obtain ⟨_, _, ⟨T417, L417, k417, n417⟩, -, X417, ⟨Lc417, hQ417, l417, y417, z417⟩, st417⟩ := X412.virtualBack hx (y := (⟨vB, "ended", "()Z"⟩ : MethodName)) (z := (⟨vB, "ended", "()Z"⟩ : MethodName)) hown (mvT hZ (hw _ (List.mem_of_getElem? (i := 37) rfl))) (mvT hZ (hw _ (List.mem_of_getElem? (i := 38) rfl))) (notFace_of_selects (args := #[]) (mvT hZ (hw _ (List.mem_of_getElem? (i := 40) rfl)))) (mvT hZ (hw _ (List.mem_of_getElem? (i := 40) rfl))) (mvT hZ (hw _ (List.mem_of_getElem? (i := 39) rfl))) (by decide) (backOf (W := 0) (rm6 l Z av hw [] b382 b338 ((8 : Int64) * ((4 : Int32).toInt64)) ps406 ed406 T406.heap n0 Z406 Fq406_0' gn382 Fq406_1' Fq406_2' Fq406_3' Fq406_4' (own_nar2 r1v ed391 r2v ed406 sk395.2.2.2 sk410.2.2.2)) hZ (hw _ (List.mem_of_getElem? (i := 41) rfl)) (hw _ (List.mem_of_getElem? (i := 6) rfl)) (by decide) (by decide)) q416a q416c (g := (mkF m 247 #[iv p0, iv p1, iv p2, iv p3, iv 4, rv b338, jv wh, sn, jv 32, sn, iv c1, iv c2, iv r1v, jv p1v, sn, iv r2v, jv p2v, sn, rv b382, iv rv391, iv kv218, iv ed391, iv rv406, iv kv243, un] [(.ref b382)])) rfl (by rw [hml]; rfl) (Steps.refl _) (argsL := []) (rest := []) (lenOf pd___Z rfl) rfl (by show 2 * 0 + _ ≤ _; exact Nat.le_of_eq rfl) (hb hby at_247) (fun _ _ => ⟨rfl, e412, (by decide : 2 + 0 ≤ _), (by decide : 8 + 0 ≤ _)⟩)
    dsimp only [Pt.U, Pt.locs, Pt.cells, Pt.slots] at X417 l417 y417 z417 st417 hQ417
    rw [l417, y417, z417] at X417
    clear l417 y417 z417
    obtain ⟨rfl, N417q, e417⟩ := hQ417
    have N417 := Fr.app N412 N417q
    have pre418 : ∀ t, oS p e below T417 m 250 #[iv p0, iv p1, iv p2, iv p3, iv 4, rv b338, jv wh, sn, jv 32, sn, iv c1, iv c2, iv r1v, jv p1v, sn, iv r2v, jv p2v, sn, rv b382, iv rv391, iv kv218, iv ed391, iv rv406, iv kv243, un] [(.int ed406)] t → oE p e below s₁ m #[(.int p0), (.int p1), (.int p2), (.int p3)] maxLocals t := fun t kt => pre415 t (st417.trans kt)
    clear pre415 st417
    have pre419 : ∀ t, oS p e below T417 m 275 #[iv p0, iv p1, iv p2, iv p3, iv 4, rv b338, jv wh, sn, jv 32, sn, iv c1, iv c2, iv r1v, jv p1v, sn, iv r2v, jv p2v, sn, rv b382, iv rv391, iv kv218, iv ed391, iv rv406, iv kv243, iv ed406] [(.int r1v), (.int ed391)] t → oE p e below s₁ m #[(.int p0), (.int p1), (.int p2), (.int p3)] maxLocals t := fun t kt => pre418 t (by
      show oS p e below T417 m 250 #[iv p0, iv p1, iv p2, iv p3, iv 4, rv b338, jv wh, sn, jv 32, sn, iv c1, iv c2, iv r1v, jv p1v, sn, iv r2v, jv p2v, sn, rv b382, iv rv391, iv kv218, iv ed391, iv rv406, iv kv243, un] [(.int ed406)] _
      refine XS.istore X417.here hx rfl (hb hby at_250) rfl (l' := #[iv p0, iv p1, iv p2, iv p3, iv 4, rv b338, jv wh, sn, jv 32, sn, iv c1, iv c2, iv r1v, jv p1v, sn, iv r2v, jv p2v, sn, rv b382, iv rv391, iv kv218, iv ed391, iv rv406, iv kv243, iv ed406]) rfl ?_
      show oS p e below T417 m 252 #[iv p0, iv p1, iv p2, iv p3, iv 4, rv b338, jv wh, sn, jv 32, sn, iv c1, iv c2, iv r1v, jv p1v, sn, iv r2v, jv p2v, sn, rv b382, iv rv391, iv kv218, iv ed391, iv rv406, iv kv243, iv ed406] [] _
      refine XS.iload X417.here hx rfl (hb hby at_252) rfl ?_
      show oS p e below T417 m 254 #[iv p0, iv p1, iv p2, iv p3, iv 4, rv b338, jv wh, sn, jv 32, sn, iv c1, iv c2, iv r1v, jv p1v, sn, iv r2v, jv p2v, sn, rv b382, iv rv391, iv kv218, iv ed391, iv rv406, iv kv243, iv ed406] [(.int rv391)] _
      refine XS.iload X417.here hx rfl (hb hby at_254) rfl ?_
      show oS p e below T417 m 256 #[iv p0, iv p1, iv p2, iv p3, iv 4, rv b338, jv wh, sn, jv 32, sn, iv c1, iv c2, iv r1v, jv p1v, sn, iv r2v, jv p2v, sn, rv b382, iv rv391, iv kv218, iv ed391, iv rv406, iv kv243, iv ed406] [(.int r1v), (.int rv391)] _
      refine XS.icmpNo X417.here hx rfl (hb hby at_256) rfl (teq sk395.1).2 ?_
      show oS p e below T417 m 259 #[iv p0, iv p1, iv p2, iv p3, iv 4, rv b338, jv wh, sn, jv 32, sn, iv c1, iv c2, iv r1v, jv p1v, sn, iv r2v, jv p2v, sn, rv b382, iv rv391, iv kv218, iv ed391, iv rv406, iv kv243, iv ed406] [] _
      refine XS.iload X417.here hx rfl (hb hby at_259) rfl ?_
      show oS p e below T417 m 261 #[iv p0, iv p1, iv p2, iv p3, iv 4, rv b338, jv wh, sn, jv 32, sn, iv c1, iv c2, iv r1v, jv p1v, sn, iv r2v, jv p2v, sn, rv b382, iv rv391, iv kv218, iv ed391, iv rv406, iv kv243, iv ed406] [(.int kv218)] _
      refine XS.lload X417.here hx rfl (hb hby at_261) rfl ?_
      show oS p e below T417 m 263 #[iv p0, iv p1, iv p2, iv p3, iv 4, rv b338, jv wh, sn, jv 32, sn, iv c1, iv c2, iv r1v, jv p1v, sn, iv r2v, jv p2v, sn, rv b382, iv rv391, iv kv218, iv ed391, iv rv406, iv kv243, iv ed406] [(.long wh), (.int kv218)] _
      refine XS.lload X417.here hx rfl (hb hby at_263) rfl ?_
      show oS p e below T417 m 265 #[iv p0, iv p1, iv p2, iv p3, iv 4, rv b338, jv wh, sn, jv 32, sn, iv c1, iv c2, iv r1v, jv p1v, sn, iv r2v, jv p2v, sn, rv b382, iv rv391, iv kv218, iv ed391, iv rv406, iv kv243, iv ed406] [(.long p1v), (.long wh), (.int kv218)] _
      refine XS.l2i X417.here hx rfl (hb hby at_265) rfl ?_
      show oS p e below T417 m 266 #[iv p0, iv p1, iv p2, iv p3, iv 4, rv b338, jv wh, sn, jv 32, sn, iv c1, iv c2, iv r1v, jv p1v, sn, iv r2v, jv p2v, sn, rv b382, iv rv391, iv kv218, iv ed391, iv rv406, iv kv243, iv ed406] [(.int (p1v.toInt32)), (.long wh), (.int kv218)] _
      refine XS.lushr X417.here hx rfl (hb hby at_266) rfl ?_
      show oS p e below T417 m 267 #[iv p0, iv p1, iv p2, iv p3, iv 4, rv b338, jv wh, sn, jv 32, sn, iv c1, iv c2, iv r1v, jv p1v, sn, iv r2v, jv p2v, sn, rv b382, iv rv391, iv kv218, iv ed391, iv rv406, iv kv243, iv ed406] [(.long ((wh.toUInt64 >>> ((p1v.toInt32) &&& 0x3f).toInt64.toUInt64).toInt64)), (.int kv218)] _
      refine XS.l2i X417.here hx rfl (hb hby at_267) rfl ?_
      show oS p e below T417 m 268 #[iv p0, iv p1, iv p2, iv p3, iv 4, rv b338, jv wh, sn, jv 32, sn, iv c1, iv c2, iv r1v, jv p1v, sn, iv r2v, jv p2v, sn, rv b382, iv rv391, iv kv218, iv ed391, iv rv406, iv kv243, iv ed406] [(.int (((wh.toUInt64 >>> ((p1v.toInt32) &&& 0x3f).toInt64.toUInt64).toInt64).toInt32)), (.int kv218)] _
      refine XS.icmpNo X417.here hx rfl (hb hby at_268) rfl (teq (hm399.trans (own_cmp wh p1v ps391 (1 * (by0.toInt % 256) + 256 * (by1.toInt % 256) + 65536 * (by2.toInt % 256) + 16777216 * (by3.toInt % 256)) hm361 (by omega) sk395.2.1 (own_pb 32 r1v c1 p1v (by decide) hm365.1 hm372).1 (Int.le_trans (own_pb 32 r1v c1 p1v (by decide) hm365.1 hm372).2 (by decide))))).2 ?_
      show oS p e below T417 m 271 #[iv p0, iv p1, iv p2, iv p3, iv 4, rv b338, jv wh, sn, jv 32, sn, iv c1, iv c2, iv r1v, jv p1v, sn, iv r2v, jv p2v, sn, rv b382, iv rv391, iv kv218, iv ed391, iv rv406, iv kv243, iv ed406] [] _
      refine XS.iload X417.here hx rfl (hb hby at_271) rfl ?_
      show oS p e below T417 m 273 #[iv p0, iv p1, iv p2, iv p3, iv 4, rv b338, jv wh, sn, jv 32, sn, iv c1, iv c2, iv r1v, jv p1v, sn, iv r2v, jv p2v, sn, rv b382, iv rv391, iv kv218, iv ed391, iv rv406, iv kv243, iv ed406] [(.int ed391)] _
      refine XS.iload X417.here hx rfl (hb hby at_273) rfl ?_
      exact kt)
    clear pre418
    have pre420 : ∀ t, oS p e below T417 m 283 #[iv p0, iv p1, iv p2, iv p3, iv 4, rv b338, jv wh, sn, jv 32, sn, iv c1, iv c2, iv r1v, jv p1v, sn, iv r2v, jv p2v, sn, rv b382, iv rv391, iv kv218, iv ed391, iv rv406, iv kv243, iv ed406] [(.int (if r1v = (0 : Int32) then (1 : Int32) else (0 : Int32))), (.int ed391)] t → oE p e below s₁ m #[(.int p0), (.int p1), (.int p2), (.int p3)] maxLocals t := by
      by_cases hc275_421 : r1v = (0 : Int32)
      · have pre422 : ∀ t, oS p e below T417 m 283 #[iv p0, iv p1, iv p2, iv p3, iv 4, rv b338, jv wh, sn, jv 32, sn, iv c1, iv c2, iv r1v, jv p1v, sn, iv r2v, jv p2v, sn, rv b382, iv rv391, iv kv218, iv ed391, iv rv406, iv kv243, iv ed406] [(.int (1 : Int32)), (.int ed391)] t → oE p e below s₁ m #[(.int p0), (.int p1), (.int p2), (.int p3)] maxLocals t := fun t kt => pre419 t (by
          show oS p e below T417 m 275 #[iv p0, iv p1, iv p2, iv p3, iv 4, rv b338, jv wh, sn, jv 32, sn, iv c1, iv c2, iv r1v, jv p1v, sn, iv r2v, jv p2v, sn, rv b382, iv rv391, iv kv218, iv ed391, iv rv406, iv kv243, iv ed406] [(.int r1v), (.int ed391)] _
          refine XS.ifNo X417.here hx rfl (hb hby at_275) rfl ((if0 _ _).trans (teq hc275_421).2) ?_
          show oS p e below T417 m 278 #[iv p0, iv p1, iv p2, iv p3, iv 4, rv b338, jv wh, sn, jv 32, sn, iv c1, iv c2, iv r1v, jv p1v, sn, iv r2v, jv p2v, sn, rv b382, iv rv391, iv kv218, iv ed391, iv rv406, iv kv243, iv ed406] [(.int ed391)] _
          refine XS.iconst X417.here hx rfl (hb hby at_278) ?_
          show oS p e below T417 m 279 #[iv p0, iv p1, iv p2, iv p3, iv 4, rv b338, jv wh, sn, jv 32, sn, iv c1, iv c2, iv r1v, jv p1v, sn, iv r2v, jv p2v, sn, rv b382, iv rv391, iv kv218, iv ed391, iv rv406, iv kv243, iv ed406] [(.int (1 : Int32)), (.int ed391)] _
          refine XS.goto X417.here hx rfl (pc0 := 279) (pc' := 283) rfl (hb hby at_279) (by decide) (by decide) ?_
          exact kt)
        clear pre419
        have hvx : (1 : Int32) = (if r1v = (0 : Int32) then (1 : Int32) else (0 : Int32)) := (by rw [if_pos hc275_421])
        rw [← hvx]
        exact pre422
      · have pre423 : ∀ t, oS p e below T417 m 283 #[iv p0, iv p1, iv p2, iv p3, iv 4, rv b338, jv wh, sn, jv 32, sn, iv c1, iv c2, iv r1v, jv p1v, sn, iv r2v, jv p2v, sn, rv b382, iv rv391, iv kv218, iv ed391, iv rv406, iv kv243, iv ed406] [(.int (0 : Int32)), (.int ed391)] t → oE p e below s₁ m #[(.int p0), (.int p1), (.int p2), (.int p3)] maxLocals t := fun t kt => pre419 t (by
          show oS p e below T417 m 275 #[iv p0, iv p1, iv p2, iv p3, iv 4, rv b338, jv wh, sn, jv 32, sn, iv c1, iv c2, iv r1v, jv p1v, sn, iv r2v, jv p2v, sn, rv b382, iv rv391, iv kv218, iv ed391, iv rv406, iv kv243, iv ed406] [(.int r1v), (.int ed391)] _
          refine XS.ifYes X417.here hx rfl (pc0 := 275) (pc' := 282) rfl (hb hby at_275) rfl ((if0 _ _).trans (feq hc275_421).2) (by decide) (by decide) ?_
          show oS p e below T417 m 282 #[iv p0, iv p1, iv p2, iv p3, iv 4, rv b338, jv wh, sn, jv 32, sn, iv c1, iv c2, iv r1v, jv p1v, sn, iv r2v, jv p2v, sn, rv b382, iv rv391, iv kv218, iv ed391, iv rv406, iv kv243, iv ed406] [(.int ed391)] _
          refine XS.iconst X417.here hx rfl (hb hby at_282) ?_
          exact kt)
        clear pre419
        have hvx : (0 : Int32) = (if r1v = (0 : Int32) then (1 : Int32) else (0 : Int32)) := (by rw [if_neg hc275_421])
        rw [← hvx]
        exact pre423
    clear pre419
    have pre424 : ∀ t, oS p e below T417 m 309 #[iv p0, iv p1, iv p2, iv p3, iv 4, rv b338, jv wh, sn, jv 32, sn, iv c1, iv c2, iv r1v, jv p1v, sn, iv r2v, jv p2v, sn, rv b382, iv rv391, iv kv218, iv ed391, iv rv406, iv kv243, iv ed406] [(.int r1v), (.int ed406)] t → oE p e below s₁ m #[(.int p0), (.int p1), (.int p2), (.int p3)] maxLocals t := fun t kt => pre420 t (by
      show oS p e below T417 m 283 #[iv p0, iv p1, iv p2, iv p3, iv 4, rv b338, jv wh, sn, jv 32, sn, iv c1, iv c2, iv r1v, jv p1v, sn, iv r2v, jv p2v, sn, rv b382, iv rv391, iv kv218, iv ed391, iv rv406, iv kv243, iv ed406] [(.int (if r1v = (0 : Int32) then (1 : Int32) else (0 : Int32))), (.int ed391)] _
      refine XS.icmpNo X417.here hx rfl (hb hby at_283) rfl (teq (own_e1 r1v ed391 sk395.2.2.2)).2 ?_
      show oS p e below T417 m 286 #[iv p0, iv p1, iv p2, iv p3, iv 4, rv b338, jv wh, sn, jv 32, sn, iv c1, iv c2, iv r1v, jv p1v, sn, iv r2v, jv p2v, sn, rv b382, iv rv391, iv kv218, iv ed391, iv rv406, iv kv243, iv ed406] [] _
      refine XS.iload X417.here hx rfl (hb hby at_286) rfl ?_
      show oS p e below T417 m 288 #[iv p0, iv p1, iv p2, iv p3, iv 4, rv b338, jv wh, sn, jv 32, sn, iv c1, iv c2, iv r1v, jv p1v, sn, iv r2v, jv p2v, sn, rv b382, iv rv391, iv kv218, iv ed391, iv rv406, iv kv243, iv ed406] [(.int rv406)] _
      refine XS.iload X417.here hx rfl (hb hby at_288) rfl ?_
      show oS p e below T417 m 290 #[iv p0, iv p1, iv p2, iv p3, iv 4, rv b338, jv wh, sn, jv 32, sn, iv c1, iv c2, iv r1v, jv p1v, sn, iv r2v, jv p2v, sn, rv b382, iv rv391, iv kv218, iv ed391, iv rv406, iv kv243, iv ed406] [(.int r2v), (.int rv406)] _
      refine XS.icmpNo X417.here hx rfl (hb hby at_290) rfl (teq sk410.1).2 ?_
      show oS p e below T417 m 293 #[iv p0, iv p1, iv p2, iv p3, iv 4, rv b338, jv wh, sn, jv 32, sn, iv c1, iv c2, iv r1v, jv p1v, sn, iv r2v, jv p2v, sn, rv b382, iv rv391, iv kv218, iv ed391, iv rv406, iv kv243, iv ed406] [] _
      refine XS.iload X417.here hx rfl (hb hby at_293) rfl ?_
      show oS p e below T417 m 295 #[iv p0, iv p1, iv p2, iv p3, iv 4, rv b338, jv wh, sn, jv 32, sn, iv c1, iv c2, iv r1v, jv p1v, sn, iv r2v, jv p2v, sn, rv b382, iv rv391, iv kv218, iv ed391, iv rv406, iv kv243, iv ed406] [(.int kv243)] _
      refine XS.lload X417.here hx rfl (hb hby at_295) rfl ?_
      show oS p e below T417 m 297 #[iv p0, iv p1, iv p2, iv p3, iv 4, rv b338, jv wh, sn, jv 32, sn, iv c1, iv c2, iv r1v, jv p1v, sn, iv r2v, jv p2v, sn, rv b382, iv rv391, iv kv218, iv ed391, iv rv406, iv kv243, iv ed406] [(.long wh), (.int kv243)] _
      refine XS.lload X417.here hx rfl (hb hby at_297) rfl ?_
      show oS p e below T417 m 299 #[iv p0, iv p1, iv p2, iv p3, iv 4, rv b338, jv wh, sn, jv 32, sn, iv c1, iv c2, iv r1v, jv p1v, sn, iv r2v, jv p2v, sn, rv b382, iv rv391, iv kv218, iv ed391, iv rv406, iv kv243, iv ed406] [(.long p2v), (.long wh), (.int kv243)] _
      refine XS.l2i X417.here hx rfl (hb hby at_299) rfl ?_
      show oS p e below T417 m 300 #[iv p0, iv p1, iv p2, iv p3, iv 4, rv b338, jv wh, sn, jv 32, sn, iv c1, iv c2, iv r1v, jv p1v, sn, iv r2v, jv p2v, sn, rv b382, iv rv391, iv kv218, iv ed391, iv rv406, iv kv243, iv ed406] [(.int (p2v.toInt32)), (.long wh), (.int kv243)] _
      refine XS.lushr X417.here hx rfl (hb hby at_300) rfl ?_
      show oS p e below T417 m 301 #[iv p0, iv p1, iv p2, iv p3, iv 4, rv b338, jv wh, sn, jv 32, sn, iv c1, iv c2, iv r1v, jv p1v, sn, iv r2v, jv p2v, sn, rv b382, iv rv391, iv kv218, iv ed391, iv rv406, iv kv243, iv ed406] [(.long ((wh.toUInt64 >>> ((p2v.toInt32) &&& 0x3f).toInt64.toUInt64).toInt64)), (.int kv243)] _
      refine XS.l2i X417.here hx rfl (hb hby at_301) rfl ?_
      show oS p e below T417 m 302 #[iv p0, iv p1, iv p2, iv p3, iv 4, rv b338, jv wh, sn, jv 32, sn, iv c1, iv c2, iv r1v, jv p1v, sn, iv r2v, jv p2v, sn, rv b382, iv rv391, iv kv218, iv ed391, iv rv406, iv kv243, iv ed406] [(.int (((wh.toUInt64 >>> ((p2v.toInt32) &&& 0x3f).toInt64.toUInt64).toInt64).toInt32)), (.int kv243)] _
      refine XS.icmpNo X417.here hx rfl (hb hby at_302) rfl (teq (hm414.trans (own_cmp wh p2v ps406 (1 * (by0.toInt % 256) + 256 * (by1.toInt % 256) + 65536 * (by2.toInt % 256) + 16777216 * (by3.toInt % 256)) hm361 (by omega) sk410.2.1 (by rw [← sk410.2.1]; exact sk410.2.2.1.1) (by rw [← sk410.2.1]; exact Int.le_trans sk410.2.2.1.2 (by decide))))).2 ?_
      show oS p e below T417 m 305 #[iv p0, iv p1, iv p2, iv p3, iv 4, rv b338, jv wh, sn, jv 32, sn, iv c1, iv c2, iv r1v, jv p1v, sn, iv r2v, jv p2v, sn, rv b382, iv rv391, iv kv218, iv ed391, iv rv406, iv kv243, iv ed406] [] _
      refine XS.iload X417.here hx rfl (hb hby at_305) rfl ?_
      show oS p e below T417 m 307 #[iv p0, iv p1, iv p2, iv p3, iv 4, rv b338, jv wh, sn, jv 32, sn, iv c1, iv c2, iv r1v, jv p1v, sn, iv r2v, jv p2v, sn, rv b382, iv rv391, iv kv218, iv ed391, iv rv406, iv kv243, iv ed406] [(.int ed406)] _
      refine XS.iload X417.here hx rfl (hb hby at_307) rfl ?_
      exact kt)
    clear pre420
    have pre425 : ∀ t, oS p e below T417 m 322 #[iv p0, iv p1, iv p2, iv p3, iv 4, rv b338, jv wh, sn, jv 32, sn, iv c1, iv c2, iv r1v, jv p1v, sn, iv r2v, jv p2v, sn, rv b382, iv rv391, iv kv218, iv ed391, iv rv406, iv kv243, iv ed406] [(.int (if r1v = (0 : Int32) then (1 : Int32) else if r2v = (0 : Int32) then (1 : Int32) else (0 : Int32))), (.int ed406)] t → oE p e below s₁ m #[(.int p0), (.int p1), (.int p2), (.int p3)] maxLocals t := by
      by_cases hc309_426 : r1v = (0 : Int32)
      · have pre427 : ∀ t, oS p e below T417 m 322 #[iv p0, iv p1, iv p2, iv p3, iv 4, rv b338, jv wh, sn, jv 32, sn, iv c1, iv c2, iv r1v, jv p1v, sn, iv r2v, jv p2v, sn, rv b382, iv rv391, iv kv218, iv ed391, iv rv406, iv kv243, iv ed406] [(.int (1 : Int32)), (.int ed406)] t → oE p e below s₁ m #[(.int p0), (.int p1), (.int p2), (.int p3)] maxLocals t := fun t kt => pre424 t (by
          show oS p e below T417 m 309 #[iv p0, iv p1, iv p2, iv p3, iv 4, rv b338, jv wh, sn, jv 32, sn, iv c1, iv c2, iv r1v, jv p1v, sn, iv r2v, jv p2v, sn, rv b382, iv rv391, iv kv218, iv ed391, iv rv406, iv kv243, iv ed406] [(.int r1v), (.int ed406)] _
          refine XS.ifYes X417.here hx rfl (pc0 := 309) (pc' := 317) rfl (hb hby at_309) rfl ((if0 _ _).trans (teq hc309_426).1) (by decide) (by decide) ?_
          show oS p e below T417 m 317 #[iv p0, iv p1, iv p2, iv p3, iv 4, rv b338, jv wh, sn, jv 32, sn, iv c1, iv c2, iv r1v, jv p1v, sn, iv r2v, jv p2v, sn, rv b382, iv rv391, iv kv218, iv ed391, iv rv406, iv kv243, iv ed406] [(.int ed406)] _
          refine XS.iconst X417.here hx rfl (hb hby at_317) ?_
          show oS p e below T417 m 318 #[iv p0, iv p1, iv p2, iv p3, iv 4, rv b338, jv wh, sn, jv 32, sn, iv c1, iv c2, iv r1v, jv p1v, sn, iv r2v, jv p2v, sn, rv b382, iv rv391, iv kv218, iv ed391, iv rv406, iv kv243, iv ed406] [(.int (1 : Int32)), (.int ed406)] _
          refine XS.goto X417.here hx rfl (pc0 := 318) (pc' := 322) rfl (hb hby at_318) (by decide) (by decide) ?_
          exact kt)
        clear pre424
        have hvx : (1 : Int32) = (if r1v = (0 : Int32) then (1 : Int32) else if r2v = (0 : Int32) then (1 : Int32) else (0 : Int32)) := (by rw [if_pos hc309_426])
        rw [← hvx]
        exact pre427
      · have pre428 : ∀ t, oS p e below T417 m 314 #[iv p0, iv p1, iv p2, iv p3, iv 4, rv b338, jv wh, sn, jv 32, sn, iv c1, iv c2, iv r1v, jv p1v, sn, iv r2v, jv p2v, sn, rv b382, iv rv391, iv kv218, iv ed391, iv rv406, iv kv243, iv ed406] [(.int r2v), (.int ed406)] t → oE p e below s₁ m #[(.int p0), (.int p1), (.int p2), (.int p3)] maxLocals t := fun t kt => pre424 t (by
          show oS p e below T417 m 309 #[iv p0, iv p1, iv p2, iv p3, iv 4, rv b338, jv wh, sn, jv 32, sn, iv c1, iv c2, iv r1v, jv p1v, sn, iv r2v, jv p2v, sn, rv b382, iv rv391, iv kv218, iv ed391, iv rv406, iv kv243, iv ed406] [(.int r1v), (.int ed406)] _
          refine XS.ifNo X417.here hx rfl (hb hby at_309) rfl ((if0 _ _).trans (feq hc309_426).1) ?_
          show oS p e below T417 m 312 #[iv p0, iv p1, iv p2, iv p3, iv 4, rv b338, jv wh, sn, jv 32, sn, iv c1, iv c2, iv r1v, jv p1v, sn, iv r2v, jv p2v, sn, rv b382, iv rv391, iv kv218, iv ed391, iv rv406, iv kv243, iv ed406] [(.int ed406)] _
          refine XS.iload X417.here hx rfl (hb hby at_312) rfl ?_
          exact kt)
        clear pre424
        by_cases hc314_429 : r2v = (0 : Int32)
        · have pre430 : ∀ t, oS p e below T417 m 322 #[iv p0, iv p1, iv p2, iv p3, iv 4, rv b338, jv wh, sn, jv 32, sn, iv c1, iv c2, iv r1v, jv p1v, sn, iv r2v, jv p2v, sn, rv b382, iv rv391, iv kv218, iv ed391, iv rv406, iv kv243, iv ed406] [(.int (1 : Int32)), (.int ed406)] t → oE p e below s₁ m #[(.int p0), (.int p1), (.int p2), (.int p3)] maxLocals t := fun t kt => pre428 t (by
            show oS p e below T417 m 314 #[iv p0, iv p1, iv p2, iv p3, iv 4, rv b338, jv wh, sn, jv 32, sn, iv c1, iv c2, iv r1v, jv p1v, sn, iv r2v, jv p2v, sn, rv b382, iv rv391, iv kv218, iv ed391, iv rv406, iv kv243, iv ed406] [(.int r2v), (.int ed406)] _
            refine XS.ifNo X417.here hx rfl (hb hby at_314) rfl ((if0 _ _).trans (teq hc314_429).2) ?_
            show oS p e below T417 m 317 #[iv p0, iv p1, iv p2, iv p3, iv 4, rv b338, jv wh, sn, jv 32, sn, iv c1, iv c2, iv r1v, jv p1v, sn, iv r2v, jv p2v, sn, rv b382, iv rv391, iv kv218, iv ed391, iv rv406, iv kv243, iv ed406] [(.int ed406)] _
            refine XS.iconst X417.here hx rfl (hb hby at_317) ?_
            show oS p e below T417 m 318 #[iv p0, iv p1, iv p2, iv p3, iv 4, rv b338, jv wh, sn, jv 32, sn, iv c1, iv c2, iv r1v, jv p1v, sn, iv r2v, jv p2v, sn, rv b382, iv rv391, iv kv218, iv ed391, iv rv406, iv kv243, iv ed406] [(.int (1 : Int32)), (.int ed406)] _
            refine XS.goto X417.here hx rfl (pc0 := 318) (pc' := 322) rfl (hb hby at_318) (by decide) (by decide) ?_
            exact kt)
          clear pre428
          have hvx : (1 : Int32) = (if r1v = (0 : Int32) then (1 : Int32) else if r2v = (0 : Int32) then (1 : Int32) else (0 : Int32)) := (by rw [if_neg hc309_426, if_pos hc314_429])
          rw [← hvx]
          exact pre430
        · have pre431 : ∀ t, oS p e below T417 m 322 #[iv p0, iv p1, iv p2, iv p3, iv 4, rv b338, jv wh, sn, jv 32, sn, iv c1, iv c2, iv r1v, jv p1v, sn, iv r2v, jv p2v, sn, rv b382, iv rv391, iv kv218, iv ed391, iv rv406, iv kv243, iv ed406] [(.int (0 : Int32)), (.int ed406)] t → oE p e below s₁ m #[(.int p0), (.int p1), (.int p2), (.int p3)] maxLocals t := fun t kt => pre428 t (by
            show oS p e below T417 m 314 #[iv p0, iv p1, iv p2, iv p3, iv 4, rv b338, jv wh, sn, jv 32, sn, iv c1, iv c2, iv r1v, jv p1v, sn, iv r2v, jv p2v, sn, rv b382, iv rv391, iv kv218, iv ed391, iv rv406, iv kv243, iv ed406] [(.int r2v), (.int ed406)] _
            refine XS.ifYes X417.here hx rfl (pc0 := 314) (pc' := 321) rfl (hb hby at_314) rfl ((if0 _ _).trans (feq hc314_429).2) (by decide) (by decide) ?_
            show oS p e below T417 m 321 #[iv p0, iv p1, iv p2, iv p3, iv 4, rv b338, jv wh, sn, jv 32, sn, iv c1, iv c2, iv r1v, jv p1v, sn, iv r2v, jv p2v, sn, rv b382, iv rv391, iv kv218, iv ed391, iv rv406, iv kv243, iv ed406] [(.int ed406)] _
            refine XS.iconst X417.here hx rfl (hb hby at_321) ?_
            exact kt)
          clear pre428
          have hvx : (0 : Int32) = (if r1v = (0 : Int32) then (1 : Int32) else if r2v = (0 : Int32) then (1 : Int32) else (0 : Int32)) := (by rw [if_neg hc309_426, if_neg hc314_429])
          rw [← hvx]
          exact pre431
    clear pre424
    have pre432 : ∀ t, oS p e below T417 m 330 #[iv p0, iv p1, iv p2, iv p3, iv 4, rv b338, jv wh, sn, jv 32, sn, iv c1, iv c2, iv r1v, jv p1v, sn, iv r2v, jv p2v, sn, rv b382, iv rv391, iv kv218, iv ed391, iv rv406, iv kv243, iv ed406] [(.int (1 : Int32))] t → oE p e below s₁ m #[(.int p0), (.int p1), (.int p2), (.int p3)] maxLocals t := fun t kt => pre425 t (by
      show oS p e below T417 m 322 #[iv p0, iv p1, iv p2, iv p3, iv 4, rv b338, jv wh, sn, jv 32, sn, iv c1, iv c2, iv r1v, jv p1v, sn, iv r2v, jv p2v, sn, rv b382, iv rv391, iv kv218, iv ed391, iv rv406, iv kv243, iv ed406] [(.int (if r1v = (0 : Int32) then (1 : Int32) else if r2v = (0 : Int32) then (1 : Int32) else (0 : Int32))), (.int ed406)] _
      refine XS.icmpNo X417.here hx rfl (hb hby at_322) rfl (teq (own_e2 r1v ed391 r2v ed406 sk395.2.2.2 sk410.2.2.2)).2 ?_
      show oS p e below T417 m 325 #[iv p0, iv p1, iv p2, iv p3, iv 4, rv b338, jv wh, sn, jv 32, sn, iv c1, iv c2, iv r1v, jv p1v, sn, iv r2v, jv p2v, sn, rv b382, iv rv391, iv kv218, iv ed391, iv rv406, iv kv243, iv ed406] [] _
      refine XS.iconst X417.here hx rfl (hb hby at_325) ?_
      show oS p e below T417 m 326 #[iv p0, iv p1, iv p2, iv p3, iv 4, rv b338, jv wh, sn, jv 32, sn, iv c1, iv c2, iv r1v, jv p1v, sn, iv r2v, jv p2v, sn, rv b382, iv rv391, iv kv218, iv ed391, iv rv406, iv kv243, iv ed406] [(.int (1 : Int32))] _
      refine XS.goto X417.here hx rfl (pc0 := 326) (pc' := 330) rfl (hb hby at_326) (by decide) (by decide) ?_
      exact kt)
    clear pre425
    obtain ⟨fs, hr, hrun, hended, hW, hsame⟩ := X417.leave (v := some (.int (1 : Int32))) (fun h => by rw [Bd.returns] at h; cases h)
    refine ⟨_, _, pre432 _ ?_, hrun, hended, _, _, rfl, ?_, ⟨_, rfl⟩, hW, hsame.mono (by decide) (by decide)⟩
    · show oS p e below T417 m 330 #[iv p0, iv p1, iv p2, iv p3, iv 4, rv b338, jv wh, sn, jv 32, sn, iv c1, iv c2, iv r1v, jv p1v, sn, iv r2v, jv p2v, sn, rv b382, iv rv391, iv kv218, iv ed391, iv rv406, iv kv243, iv ed406] [(.int (1 : Int32))] _
      exact retN X417 hx (t := .boolean) Bd.returns (by simp) (hb hby at_330) hr
    · show Q0 Z p0 p1 p2 p3 h0 n0 _ T417.heap _
      rw [e417]
      exact ⟨rfl, N417⟩
set_option maxRecDepth 65536 in
set_option maxHeartbeats 40000000 in
theorem comes_1 {Post : Tables → Env → Array Value → State → Outcome → State → Prop} (hpost : ∀ tb e args s v u, (limb_1_1.after args s (.returned v) u = true ∧ limb_1_2.after args s (.returned v) u = true ∧ True) → FrameEnd s (.returned v) u (Jvm.fieldLocs frame_1_writes args s ++ Jvm.arrayLocs frame_1_arrays args s ++ Jvm.staticLocs frame_1_statics s) 16 128 → Post tb e args s (.returned v) u) :
    ArmFor flags0 classFile x code maxLocals ret World_1 tables_1 room_1 Calls_1 rest_1 Pre_1 Post := by
  intro l hfl _ _ p e ha hc hk s m args below hf hA hF happ hP
  obtain ⟨hcalls, hrest, hpre⟩ := hP
  obtain ⟨-, -, -, hnamed, -, -, -, hat⟩ := (Spec.applies_iff hf).mp happ
  obtain ⟨hg, hn⟩ := and_e (Cond.before_iff.mp (show (Jvm.Cond.and given_1 narrow_1).before args s = true from hpre))
  obtain ⟨g1, g2⟩ := and_e hg
  obtain ⟨g3, g4⟩ := and_e g2
  obtain ⟨g5, g6⟩ := and_e g4
  obtain ⟨g7, g8⟩ := and_e g6
  obtain ⟨w0, w1, w2, w3, rfl⟩ : ∃ w0 w1 w2 w3 : Value, args = #[w0, w1, w2, w3] := by
    have hs : args.size = 4 := by simpa [Cond.value, given_1] using g1
    obtain ⟨L⟩ := args
    match L, hs with
    | [w0, w1, w2, w3], _ => exact ⟨w0, w1, w2, w3, rfl⟩
  have hw := fun d (hd : d ∈ tables_1) => atoms_spec (ws := Jvm.Cond.code x code maxLocals ret :: tables_1) hat d (List.mem_cons_of_mem _ hd)
  obtain ⟨i0, ei0⟩ := is_v g3
  obtain rfl : w0 = (.int i0) := Option.some.inj ei0
  obtain ⟨i1, ei1⟩ := is_v g5
  obtain rfl : w1 = (.int i1) := Option.some.inj ei1
  obtain ⟨i2, ei2⟩ := is_v g7
  obtain rfl : w2 = (.int i2) := Option.some.inj ei2
  obtain ⟨i3, ei3⟩ := is_v g8
  obtain rfl : w3 = (.int i3) := Option.some.inj ei3
  obtain ⟨n, o, h1, h2, h3, _, L, rfl, ⟨rfl, N⟩, hq⟩ := rm0 l s _ hw tables_1 i0 i1 i2 i3 s.heap s.heap.size (Nat.le_refl _) p e ha hc hk s m _ below hf ((Spec.applies_iff_loose hf).mp happ).1 ⟨rfl, State.Warmed39.refl s, rfl⟩ trivial
  refine ⟨n, _, h1, h2, h3, hpost _ _ _ _ _ _ ⟨Cond.after_iff.mpr rfl, Cond.after_iff.mpr (eq_i res_at (Term.int_eval (1)) rfl), trivial⟩ ⟨hq.1, hq.2.1, (hq.2.2.sift fun y hy => Or.inr (N y hy)).mono (by decide) (by decide)⟩⟩
theorem main_1_1 : Claimed_1_1 := comes_1 fun _ _ _ _ _ _ h hF => ⟨h.1, hF⟩
theorem main_1_2 : Claimed_1_2 := comes_1 fun _ _ _ _ _ _ h hF => ⟨h.2.1, hF⟩
end Jvm.Pilot.@@N@@
namespace Jvm.Pilot.@@N@@
open Jvm Jvm.ClassFile Sem Op Lib Jvm.Free Jvm.Stand Jvm.Pilot.@@N@@.Jvm.D
/-! MADE BY PROGRAM (witnessworld.py) out of the Statement's table words and the real class files: 10 classes; the members and pool entries that the words name. The judged class is class 1, her method 1. -/
namespace start1
open Jvm.ClassFile
def u (s : String) : CpInfo := .utf8 (stringToUtf16 s)
/-- a pool by its gaps: so many unusable entries, then the entry; so many at the end -/
def gap : Nat → List CpInfo → List CpInfo
  | 0, r => r
  | n + 1, r => .unusable :: gap n r
def poolList (es : List (Nat × CpInfo)) (last : Nat) : List CpInfo := es.foldr (fun e r => gap e.1 (e.2 :: r)) (gap last [])
def pool (es : List (Nat × CpInfo)) (last : Nat) : Array CpInfo := ⟨poolList es last⟩
def fileOf (pool : Array CpInfo) (this : Nat) (attrs : Array Attribute := #[]) (ms : Array MethodInfo := #[]) (fl : Nat := 33) (sup : Nat := 0) (ifs : Array Nat := #[]) (fds : Array FieldInfo := #[]) : ClassFile where
  minorVersion := 0
  majorVersion := 65
  constantPool := pool
  accessFlags := fl
  thisClass := this
  superClass := sup
  interfaces := ifs
  fields := fds
  methods := ms
  attributes := attrs
def plain (name : String) (sup : Option ClassId) : Class where
  name := name
  kind := .ordinary
  loader := none
  accessFlags := 33
  super := sup
  interfaces := #[]
  cf := none
  fields := #[]
  methods := #[]
  instanceTypes := #[]
  staticTypes := #[]
  resolved := #[]
  callSites := []
  init := .initialized
  statics := none
  mirror := none

def pool0 : Array CpInfo := pool [(5, u "<init>"), (0, u "()V"), (1, .class_ 10), (1, u "java/lang/Object")] 113

def k0c0 : Code := { maxStack := 0, maxLocals := 1, code := object_method_1_code, exceptionTable := #[], attributes := #[] }
def k0m0 : Method := { name := "<init>", desc := "()V", sig := { parameters := [], returnType := none }, accessFlags := 1, code := some k0c0 }
/-- java/lang/Object -/
def k0 : Class := { plain "java/lang/Object" none with
  accessFlags := 33
  interfaces := #[]
  cf := some (fileOf pool0 8 #[] #[{ accessFlags := 1, nameIndex := 5, descriptorIndex := 6, attributes := #[] }] 33 0 #[] #[])
  fields := #[]
  methods := #[k0m0]
  instanceTypes := #[]
  staticTypes := #[]
  resolved := Array.replicate 124 none
  statics := none }

def pool1 : Array CpInfo := pool [(2, .class_ 4), (1, u "java/lang/Object"), (0, u "<init>"), (0, u "()V"), (0, .integer 2147483647), (0, .long 4294967295), (1, .long 8), (1, .class_ 13), (0, u "com/example/baton/baton/core/format/VorbisBits"), (0, .methodref 12 15), (0, .nameAndType 5 16), (0, u "([B)V"), (0, .methodref 12 18), (0, .nameAndType 19 20), (0, u "skip"), (0, u "(I)Z"), (0, .methodref 12 22), (0, .nameAndType 23 24), (0, u "peek"), (0, u "(I)I"), (0, .methodref 12 26), (0, .nameAndType 27 28), (0, u "ended"), (0, u "()Z"), (0, .class_ 30), (0, u "com/example/baton/baton/core/format/VorbisBitsSkipPinLaw"), (2, u "law"), (0, u "(IIII)Z")] 5

def k1m0 : Method := { name := "<init>", desc := "()V", sig := { parameters := [], returnType := none }, accessFlags := 1, code := none }
def k1c1 : Code := { maxStack := 6, maxLocals := 25, code := code, exceptionTable := #[], attributes := #[] }
def k1m1 : Method := { name := "law", desc := "(IIII)Z", sig := { parameters := [.int, .int, .int, .int], returnType := some .boolean }, accessFlags := 9, code := some k1c1 }
/-- com/example/baton/baton/core/format/VorbisBitsSkipPinLaw -/
def k1 : Class := { plain "com/example/baton/baton/core/format/VorbisBitsSkipPinLaw" (some 0) with
  accessFlags := 49
  interfaces := #[]
  cf := some (fileOf pool1 29 #[] #[{ accessFlags := 1, nameIndex := 5, descriptorIndex := 6, attributes := #[] }, { accessFlags := 9, nameIndex := 33, descriptorIndex := 34, attributes := #[] }] 49 2 #[] #[])
  fields := #[]
  methods := #[k1m0, k1m1]
  instanceTypes := #[]
  staticTypes := #[]
  resolved := Array.replicate 40 none
  statics := none }

def pool2 : Array CpInfo := pool [(1, .methodref 2 3), (0, .class_ 4), (0, .nameAndType 5 6), (0, u "java/lang/Object"), (0, u "<init>"), (0, u "()V"), (0, .fieldref 8 9), (0, .class_ 10), (0, .nameAndType 11 12), (0, u "com/example/baton/baton/core/format/VorbisBits"), (0, u "data"), (0, u "[B"), (0, .long 8), (1, .fieldref 8 16), (0, .nameAndType 17 18), (0, u "size"), (0, u "J"), (0, .fieldref 8 20), (0, .nameAndType 21 22), (0, u "ended"), (0, u "Z"), (2, u "peek"), (0, u "(I)I"), (2, u "skip"), (0, u "(I)Z"), (3, .fieldref 8 35), (0, .nameAndType 36 18), (0, u "position"), (0, .long 7), (1, .methodref 40 41), (0, .class_ 42), (0, .nameAndType 43 44), (0, u "java/lang/Math"), (0, u "min"), (0, u "(II)I"), (0, .long 255), (1, u "([B)V"), (2, u "()Z")] 4

def k2c0 : Code := { maxStack := 5, maxLocals := 2, code := prog_89_method_1_code, exceptionTable := #[], attributes := #[] }
def k2m0 : Method := { name := "<init>", desc := "([B)V", sig := { parameters := [(.array .byte)], returnType := none }, accessFlags := 0, code := some k2c0 }
def k2c1 : Code := { maxStack := 1, maxLocals := 1, code := prog_89_method_2_code, exceptionTable := #[], attributes := #[] }
def k2m1 : Method := { name := "ended", desc := "()Z", sig := { parameters := [], returnType := some .boolean }, accessFlags := 0, code := some k2c1 }
def k2c2 : Code := { maxStack := 7, maxLocals := 8, code := prog_89_method_5_code, exceptionTable := #[], attributes := #[] }
def k2m2 : Method := { name := "peek", desc := "(I)I", sig := { parameters := [.int], returnType := some .int }, accessFlags := 0, code := some k2c2 }
def k2c3 : Code := { maxStack := 5, maxLocals := 2, code := prog_89_method_6_code, exceptionTable := #[], attributes := #[] }
def k2m3 : Method := { name := "skip", desc := "(I)Z", sig := { parameters := [.int], returnType := some .boolean }, accessFlags := 0, code := some k2c3 }
/-- com/example/baton/baton/core/format/VorbisBits -/
def k2 : Class := { plain "com/example/baton/baton/core/format/VorbisBits" (some 0) with
  accessFlags := 48
  interfaces := #[]
  cf := some (fileOf pool2 8 #[] #[{ accessFlags := 0, nameIndex := 5, descriptorIndex := 47, attributes := #[] }, { accessFlags := 0, nameIndex := 21, descriptorIndex := 50, attributes := #[] }, { accessFlags := 0, nameIndex := 25, descriptorIndex := 26, attributes := #[] }, { accessFlags := 0, nameIndex := 29, descriptorIndex := 30, attributes := #[] }] 48 2 #[] #[{ accessFlags := 18, nameIndex := 11, descriptorIndex := 12, attributes := #[] }, { accessFlags := 18, nameIndex := 17, descriptorIndex := 18, attributes := #[] }, { accessFlags := 2, nameIndex := 36, descriptorIndex := 18, attributes := #[] }, { accessFlags := 2, nameIndex := 21, descriptorIndex := 22, attributes := #[] }])
  fields := #[{ name := "data", type := (.array .byte), accessFlags := 18, slot := 0, constantValue := 0 }, { name := "size", type := .long, accessFlags := 18, slot := 1, constantValue := 0 }, { name := "position", type := .long, accessFlags := 2, slot := 2, constantValue := 0 }, { name := "ended", type := .boolean, accessFlags := 2, slot := 3, constantValue := 0 }]
  methods := #[k2m0, k2m1, k2m2, k2m3]
  instanceTypes := #[(.array .byte), .long, .long, .boolean]
  staticTypes := #[]
  resolved := Array.replicate 55 none
  statics := none }

def pool3 : Array CpInfo := pool [(1, .class_ 2), (0, u "java/lang/Math"), (1, .class_ 6), (1, u "java/lang/Object"), (0, u "<init>"), (0, u "()V"), (89, .class_ 100), (1, u "java/lang/Math$RandomNumberGeneratorHolder"), (71, u "negativeZeroFloatBits"), (0, u "J"), (2, u "negativeZeroDoubleBits"), (24, u "min"), (43, u "$assertionsDisabled"), (0, u "Z"), (88, u "(II)I"), (2, u "twoToTheDoubleScaleDown"), (0, u "D"), (4, u "twoToTheDoubleScaleUp"), (9, u "E"), (3, u "PI"), (2, u "TAU"), (2, u "DEGREES_TO_RADIANS"), (0, u "RADIANS_TO_DEGREES")] 94

def k3m0 : Method := { name := "<init>", desc := "()V", sig := { parameters := [], returnType := none }, accessFlags := 2, code := none }
def k3c1 : Code := { maxStack := 2, maxLocals := 2, code := jdk_29_method_69_code, exceptionTable := #[], attributes := #[] }
def k3m1 : Method := { name := "min", desc := "(II)I", sig := { parameters := [.int, .int], returnType := some .int }, accessFlags := 9, code := some k3c1 }
/-- java/lang/Math -/
def k3 : Class := { plain "java/lang/Math" (some 0) with
  accessFlags := 49
  interfaces := #[]
  cf := some (fileOf pool3 1 #[.nestMembers #[98]] #[{ accessFlags := 2, nameIndex := 7, descriptorIndex := 8, attributes := #[] }, { accessFlags := 9, nameIndex := 201, descriptorIndex := 335, attributes := #[] }] 49 4 #[] #[{ accessFlags := 25, nameIndex := 354, descriptorIndex := 339, attributes := #[] }, { accessFlags := 25, nameIndex := 358, descriptorIndex := 339, attributes := #[] }, { accessFlags := 25, nameIndex := 361, descriptorIndex := 339, attributes := #[] }, { accessFlags := 26, nameIndex := 364, descriptorIndex := 339, attributes := #[] }, { accessFlags := 26, nameIndex := 365, descriptorIndex := 339, attributes := #[] }, { accessFlags := 26, nameIndex := 172, descriptorIndex := 173, attributes := #[] }, { accessFlags := 26, nameIndex := 176, descriptorIndex := 173, attributes := #[] }, { accessFlags := 8, nameIndex := 344, descriptorIndex := 339, attributes := #[] }, { accessFlags := 8, nameIndex := 338, descriptorIndex := 339, attributes := #[] }, { accessFlags := 4120, nameIndex := 245, descriptorIndex := 246, attributes := #[] }])
  fields := #[{ name := "E", type := .double, accessFlags := 25, slot := 0, constantValue := 0 }, { name := "PI", type := .double, accessFlags := 25, slot := 1, constantValue := 0 }, { name := "TAU", type := .double, accessFlags := 25, slot := 2, constantValue := 0 }, { name := "DEGREES_TO_RADIANS", type := .double, accessFlags := 26, slot := 3, constantValue := 0 }, { name := "RADIANS_TO_DEGREES", type := .double, accessFlags := 26, slot := 4, constantValue := 0 }, { name := "negativeZeroFloatBits", type := .long, accessFlags := 26, slot := 5, constantValue := 0 }, { name := "negativeZeroDoubleBits", type := .long, accessFlags := 26, slot := 6, constantValue := 0 }, { name := "twoToTheDoubleScaleUp", type := .double, accessFlags := 8, slot := 7, constantValue := 0 }, { name := "twoToTheDoubleScaleDown", type := .double, accessFlags := 8, slot := 8, constantValue := 0 }, { name := "$assertionsDisabled", type := .boolean, accessFlags := 4120, slot := 9, constantValue := 0 }]
  methods := #[k3m0, k3m1]
  instanceTypes := #[]
  staticTypes := #[.double, .double, .double, .double, .double, .long, .long, .double, .double, .boolean]
  resolved := Array.replicate 460 none
  statics := none }

def pool4 : Array CpInfo := pool [(1, u "java/lang/Cloneable"), (0, .class_ 1), (0, u "java/lang/Object"), (0, .class_ 3)] 3

/-- java/lang/Cloneable -/
def k4 : Class := { plain "java/lang/Cloneable" (some 0) with
  accessFlags := 1537
  interfaces := #[]
  cf := some (fileOf pool4 2 #[] #[] 1537 4 #[] #[])
  fields := #[]
  methods := #[]
  instanceTypes := #[]
  staticTypes := #[]
  resolved := Array.replicate 8 none
  statics := none }

def pool5 : Array CpInfo := pool [(1, u "java/io/Serializable"), (0, .class_ 1), (0, u "java/lang/Object"), (0, .class_ 3)] 3

/-- java/io/Serializable -/
def k5 : Class := { plain "java/io/Serializable" (some 0) with
  accessFlags := 1537
  interfaces := #[]
  cf := some (fileOf pool5 2 #[] #[] 1537 4 #[] #[])
  fields := #[]
  methods := #[]
  instanceTypes := #[]
  staticTypes := #[]
  resolved := Array.replicate 8 none
  statics := none }

/-- the primitive byte -/
def k6 : Class := { plain "byte" none with kind := .primitive 'B', accessFlags := 0x411 }
/-- [B -/
def k7 : Class := { plain "[B" (some 0) with kind := .array 6 .byte, interfaces := #[4, 5], accessFlags := 1041 }

/-- the primitive int -/
def k8 : Class := { plain "int" none with kind := .primitive 'I', accessFlags := 0x411 }
/-- [I -/
def k9 : Class := { plain "[I" (some 0) with kind := .array 8 .int, interfaces := #[4, 5], accessFlags := 1041 }

def heap : Heap := #[]
def classes : Array Class := #[k0, k1, k2, k3, k4, k5, k6, k7, k8, k9]
def interned : List (Array UInt16 × Addr) := []
def slotsUsed : Nat := 0
def theMethod : MethodId := ⟨1, 1⟩
def args0 : Array Value := #[.int 5, .int 5, .int 5, .int 5]
def aboutOver (below : List Frame) : State where
  vm := { classes := classes, interned := interned.toArray }
  heap := heap
  slotsUsed := slotsUsed
  threads := #[{ frames := .invoking theMethod args0 :: below }]
def below0 : List Frame := [.native { method := ⟨0, 0⟩, args := #[] }]
def about1 : State := aboutOver below0
def p0 : Program := .bare "" "" ""
def e0 : Env := launch0.env 0 0 0
theorem w_frames : about1.frames = Frame.invoking theMethod args0 :: below0 := rfl
set_option maxRecDepth 65536 in
theorem w_args : argsFit about1.vm theMethod args0 = true := by decide +kernel
set_option maxRecDepth 65536 in
theorem w_heap : heapFits about1 = true := by decide +kernel
set_option maxRecDepth 65536 in
theorem w_runnable : about1.curStatus? = some .runnable := by decide +kernel
set_option maxRecDepth 65536 in
theorem w_alone : about1.alone = true := by decide +kernel
set_option maxRecDepth 65536 in
theorem w_named : about1.methodNamed? x = some theMethod := by decide +kernel
set_option maxRecDepth 65536 in
theorem w_hears : about1.hears theMethod below0 = true := by decide +kernel
set_option maxRecDepth 65536 in
theorem w_ripe : about1.ripe theMethod args0 below0 = true := by decide +kernel
theorem w_running : about1.status = .running := rfl
set_option maxRecDepth 65536 in
theorem w_room : about1.hasRoom e0.platform room_1 = true :=
  launch0.hasRoom_least _ room_1 (by decide +kernel) (by decide +kernel) (by decide +kernel) (by decide +kernel) (by decide +kernel) (by decide +kernel)
theorem allAtoms_all (ts : List Jvm.Cond) (a : Array Jvm.Value) (st : Jvm.State) : (allAtoms ts).before a st = ts.all (fun c => c.before a st) := by
  induction ts with
  | nil => rfl
  | cons c t ih =>
    show (Jvm.Cond.and c (allAtoms t)).before a st = _
    rw [Jvm.Cond.before_and, ih, List.all_cons]
def words1 : List Jvm.Cond := Jvm.Cond.code x code maxLocals ret :: tables_1
/-- a 'code' word, met by the world's own term for the bytes: nothing is compared byte by byte -/
theorem code_word {y : MethodName} {bytes : ByteArray} {mx : Nat} {rt : Option FieldType} {a : Array Value} {s : State} {m : MethodId} {meth : Method} {c : Code} (h1 : s.methodNamed? y = some m) (h2 : s.vm.method? m = some meth) (h3 : meth.code = some c) (h4 : c.code = bytes)
    (h5 : (c.maxLocals == mx && c.exceptionTable.isEmpty && decide (c.maxStack ≤ mostOperands) && decide (meth.sig.returnType = rt) && !meth.locks && decide (parseMethodDescriptor y.desc = some meth.sig)) = true) : (Jvm.Cond.code y bytes mx rt).before a s = true := by
  simp only [Bool.and_eq_true, beq_iff_eq, Bool.not_eq_true', decide_eq_true_eq] at h5
  obtain ⟨⟨⟨⟨⟨g1, g2⟩, g3⟩, g4⟩, g5⟩, g6⟩ := h5
  simp [Cond.before, Cond.holds, Cond.value, h1, h2, h3, h4, g1, g2, g3, g4, g5, g6]
def isCode : Jvm.Cond → Bool
  | .code _ _ _ _ => true
  | _ => false
theorem all_split {L : List Jvm.Cond} {P : Jvm.Cond → Bool} (h1 : L.all (fun c => isCode c || P c) = true) (h2 : ∀ c ∈ L.filter isCode, P c = true) : L.all P = true := by
  refine List.all_eq_true.mpr fun c hc => ?_
  have h := List.all_eq_true.mp h1 c hc
  rcases Bool.eq_false_or_eq_true (isCode c) with hi | hi
  · exact h2 c (List.mem_filter.mpr ⟨hc, hi⟩)
  · simpa [hi] using h
set_option maxRecDepth 65536 in
theorem w_c0 : (Jvm.Cond.code x code maxLocals ret).before args0 about1 = true := code_word (m := ⟨1, 1⟩) (meth := k1m1) (c := k1c1) (by decide +kernel) rfl rfl rfl (by decide +kernel)
set_option maxRecDepth 65536 in
theorem w_c1 : (Jvm.Cond.code ({ cls := "com/example/baton/baton/core/format/VorbisBits", name := "<init>", desc := "([B)V" } : Jvm.MethodName) prog_89_method_1_code (2 : Nat) (Option.none : Option Jvm.ClassFile.FieldType)).before args0 about1 = true := code_word (m := ⟨2, 0⟩) (meth := k2m0) (c := k2c0) (by decide +kernel) rfl rfl rfl (by decide +kernel)
set_option maxRecDepth 65536 in
theorem w_c2 : (Jvm.Cond.code ({ cls := "java/lang/Object", name := "<init>", desc := "()V" } : Jvm.MethodName) object_method_1_code (1 : Nat) (Option.none : Option Jvm.ClassFile.FieldType)).before args0 about1 = true := code_word (m := ⟨0, 0⟩) (meth := k0m0) (c := k0c0) (by decide +kernel) rfl rfl rfl (by decide +kernel)
set_option maxRecDepth 65536 in
theorem w_c3 : (Jvm.Cond.code ({ cls := "com/example/baton/baton/core/format/VorbisBits", name := "skip", desc := "(I)Z" } : Jvm.MethodName) prog_89_method_6_code (2 : Nat) (Option.some Jvm.ClassFile.FieldType.boolean)).before args0 about1 = true := code_word (m := ⟨2, 3⟩) (meth := k2m3) (c := k2c3) (by decide +kernel) rfl rfl rfl (by decide +kernel)
set_option maxRecDepth 65536 in
theorem w_c4 : (Jvm.Cond.code ({ cls := "com/example/baton/baton/core/format/VorbisBits", name := "peek", desc := "(I)I" } : Jvm.MethodName) prog_89_method_5_code (8 : Nat) (Option.some Jvm.ClassFile.FieldType.int)).before args0 about1 = true := code_word (m := ⟨2, 2⟩) (meth := k2m2) (c := k2c2) (by decide +kernel) rfl rfl rfl (by decide +kernel)
set_option maxRecDepth 65536 in
theorem w_c5 : (Jvm.Cond.code ({ cls := "java/lang/Math", name := "min", desc := "(II)I" } : Jvm.MethodName) jdk_29_method_69_code (2 : Nat) (Option.some Jvm.ClassFile.FieldType.int)).before args0 about1 = true := code_word (m := ⟨3, 1⟩) (meth := k3m1) (c := k3c1) (by decide +kernel) rfl rfl rfl (by decide +kernel)
set_option maxRecDepth 65536 in
theorem w_c6 : (Jvm.Cond.code ({ cls := "com/example/baton/baton/core/format/VorbisBits", name := "ended", desc := "()Z" } : Jvm.MethodName) prog_89_method_2_code (1 : Nat) (Option.some Jvm.ClassFile.FieldType.boolean)).before args0 about1 = true := code_word (m := ⟨2, 1⟩) (meth := k2m1) (c := k2c1) (by decide +kernel) rfl rfl rfl (by decide +kernel)
def codes1 : List Jvm.Cond := [Jvm.Cond.code x code maxLocals ret, Jvm.Cond.code ({ cls := "com/example/baton/baton/core/format/VorbisBits", name := "<init>", desc := "([B)V" } : Jvm.MethodName) prog_89_method_1_code (2 : Nat) (Option.none : Option Jvm.ClassFile.FieldType), Jvm.Cond.code ({ cls := "java/lang/Object", name := "<init>", desc := "()V" } : Jvm.MethodName) object_method_1_code (1 : Nat) (Option.none : Option Jvm.ClassFile.FieldType), Jvm.Cond.code ({ cls := "com/example/baton/baton/core/format/VorbisBits", name := "skip", desc := "(I)Z" } : Jvm.MethodName) prog_89_method_6_code (2 : Nat) (Option.some Jvm.ClassFile.FieldType.boolean), Jvm.Cond.code ({ cls := "com/example/baton/baton/core/format/VorbisBits", name := "peek", desc := "(I)I" } : Jvm.MethodName) prog_89_method_5_code (8 : Nat) (Option.some Jvm.ClassFile.FieldType.int), Jvm.Cond.code ({ cls := "java/lang/Math", name := "min", desc := "(II)I" } : Jvm.MethodName) jdk_29_method_69_code (2 : Nat) (Option.some Jvm.ClassFile.FieldType.int), Jvm.Cond.code ({ cls := "com/example/baton/baton/core/format/VorbisBits", name := "ended", desc := "()Z" } : Jvm.MethodName) prog_89_method_2_code (1 : Nat) (Option.some Jvm.ClassFile.FieldType.boolean)]
set_option maxRecDepth 65536 in
theorem codes_eq : words1.filter isCode = codes1 := rfl
theorem w_codes : ∀ c ∈ words1.filter isCode, c.before args0 about1 = true := by
  rw [codes_eq]
  intro c hc
  simp only [codes1, List.mem_cons, List.not_mem_nil, or_false] at hc
  rcases hc with rfl | rfl | rfl | rfl | rfl | rfl | rfl
  · exact w_c0
  · exact w_c1
  · exact w_c2
  · exact w_c3
  · exact w_c4
  · exact w_c5
  · exact w_c6
set_option maxRecDepth 65536 in
theorem w_t1 : (words1.take 24).all (fun c => isCode c || c.before args0 about1) = true := by decide +kernel
set_option maxRecDepth 65536 in
theorem w_t2 : (words1.drop 24).all (fun c => isCode c || c.before args0 about1) = true := by decide +kernel
theorem w_tables : (allAtoms (Jvm.Cond.code x code maxLocals ret :: tables_1)).before args0 about1 = true := by
  rw [allAtoms_all]
  show words1.all (fun c => c.before args0 about1) = true
  refine all_split ?_ w_codes
  rw [← List.take_append_drop 24 words1, List.all_append, w_t1, w_t2]
  rfl
set_option maxRecDepth 65536 in
theorem w_case : (Jvm.Cond.and given_1 narrow_1).before args0 about1 = true := by decide +kernel
theorem w_applies : (headSpec (Jvm.Cond.code x code maxLocals ret :: tables_1) room_1).applies x e0.platform about1 = true :=
  (Spec.applies_iff w_frames).mpr ⟨w_running, w_runnable, w_alone, w_named, w_hears, w_ripe, w_room, w_tables⟩
theorem atStart : AtStart classFile x code maxLocals ret World_1 tables_1 room_1 Calls_1 rest_1 Pre_1 launch0 p0 e0 about1 theMethod args0 below0 :=
  ⟨lists_1, trivial, launch0.admits_env _ _ _, launch0.least_env, fairChoices_fair.cas, fairChoices_fair.clock, w_frames, w_args, w_heap, w_applies, trivial, trivial, w_case⟩
end start1
theorem witness_1 : WitnessClaimed_1 := ⟨start1.p0, start1.e0, start1.about1, start1.theMethod, start1.args0, start1.below0, start1.atStart⟩
end Jvm.Pilot.@@N@@
