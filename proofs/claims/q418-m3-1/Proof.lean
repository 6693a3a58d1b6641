import JvmDerived
import JvmDerived.Pilot.@@N@@Statement
import JvmDerived.Pilot.@@N@@Code
set_option linter.unusedVariables false
set_option linter.unusedSimpArgs false
namespace Jvm.RoadKit
open Sem ClassFile Op Lib Jvm.Stand Jvm.Free Jvm.LawKit
section New
variable {p : Program} {l : Launch} {e : Env} {R : Room} {s : State} {m : MethodId} {args : Array Value} {below : List Frame} {meth : Method} {c : Code} {T : State} {locs : List Loc} {cells slots : Nat}
theorem retI (X : Stand p l e R s m args below meth c T locs cells slots) (hx : p.tables.exec = Jvm.exec) {pc : Nat} {Ls : Array Slot} {z : Int32} {rest : List Value} (hret : meth.sig.returnType = some .int) (hd : decode c.code pc = .ok (.ireturn, 1)) {fs : List Frame}
    (hl : ∀ (f : JFrame) (acts : List Action), f.method = m → f.locked = none → f.entered = [] → (doReturn e (T.setTop f) acts (some (.int z))).1 = T.setFrames fs) : Steps p.tables e below (T.setTop (mkF m pc Ls (.int z :: rest))) (T.setFrames fs) := by
  have hm' : T.vm.method? m = some meth := X.method'
  have hn : narrow .int (.int z) = .int z := rfl
  show Steps p.tables e below (T.setTop { method := m, pc := pc, locals := Ls, stack := _ :: rest, locked := none }) _
  jvm_step X.here [X.here.top, hx, hd, hm', hret, hn]
  first | (intro acts; rw [hl _ acts rfl rfl rfl]) | rw [hl _ _ rfl rfl rfl]
  exact Steps.refl _
theorem retL (X : Stand p l e R s m args below meth c T locs cells slots) (hx : p.tables.exec = Jvm.exec) {pc : Nat} {Ls : Array Slot} {z : Int64} {rest : List Value} (hret : meth.sig.returnType = some .long) (hd : decode c.code pc = .ok (.lreturn, 1)) {fs : List Frame}
    (hl : ∀ (f : JFrame) (acts : List Action), f.method = m → f.locked = none → f.entered = [] → (doReturn e (T.setTop f) acts (some (.long z))).1 = T.setFrames fs) : Steps p.tables e below (T.setTop (mkF m pc Ls (.long z :: rest))) (T.setFrames fs) := by
  have hm' : T.vm.method? m = some meth := X.method'
  have hn : narrow .long (.long z) = .long z := rfl
  show Steps p.tables e below (T.setTop { method := m, pc := pc, locals := Ls, stack := _ :: rest, locked := none }) _
  jvm_step X.here [X.here.top, hx, hd, hm', hret, hn]
  first | (intro acts; rw [hl _ acts rfl rfl rfl]) | rw [hl _ _ rfl rfl rfl]
  exact Steps.refl _
end New
end Jvm.RoadKit
namespace Jvm.Pilot.@@N@@
open Jvm Jvm.ClassFile Sem Op Lib Jvm.Free Jvm.Stand Jvm.LawKit Jvm.RoadKit Bundle Jvm.Pilot.@@N@@.Jvm.D
theorem pn_com_example_baton_baton_core_format_Crc : plainName "com/example/baton/baton/core/format/Crc" = true := by first | (simp [plainName, overriddenIn]; done) | decide +kernel
theorem pn_com_example_baton_baton_core_format_CrcUpdatePinLaw : plainName "com/example/baton/baton/core/format/CrcUpdatePinLaw" = true := by first | (simp [plainName, overriddenIn]; done) | decide +kernel
theorem d4_0 : decode method_2_code 0 = .ok (.iload_n 0, 1) := by decide +kernel
theorem d4_1 : decode method_2_code 1 = .ok (.iload_n 1, 1) := by decide +kernel
theorem d4_2 : decode method_2_code 2 = .ok (.iand, 1) := by decide +kernel
theorem d4_3 : decode method_2_code 3 = .ok (.ifCond .eq 11, 3) := by decide +kernel
theorem d4_14 : decode method_2_code 14 = .ok (.iload_n 0, 1) := by decide +kernel
theorem d4_15 : decode method_2_code 15 = .ok (.iconst 1, 1) := by decide +kernel
theorem d4_16 : decode method_2_code 16 = .ok (.ishl, 1) := by decide +kernel
theorem d4_17 : decode method_2_code 17 = .ok (.ireturn, 1) := by decide +kernel
theorem d4_6 : decode method_2_code 6 = .ok (.iload_n 0, 1) := by decide +kernel
theorem d4_7 : decode method_2_code 7 = .ok (.iconst 1, 1) := by decide +kernel
theorem d4_8 : decode method_2_code 8 = .ok (.ishl, 1) := by decide +kernel
theorem d4_9 : decode method_2_code 9 = .ok (.iload_n 2, 1) := by decide +kernel
theorem d4_10 : decode method_2_code 10 = .ok (.ixor, 1) := by decide +kernel
theorem d4_11 : decode method_2_code 11 = .ok (.goto 6, 3) := by decide +kernel
theorem ef4 (m : MethodId) (x0 : Int32) (x1 : Int32) (x2 : Int32) : entryFrame m #[(.int x0), (.int x1), (.int x2)] 3 = mkF m 0 #[.val (.int x0), .val (.int x1), .val (.int x2)] [] := by first | (simp [entryFrame, mkF, argsToLocals, Value.category]; done) | rfl
def f_step (p0 : Int32) (p1 : Int32) (p2 : Int32) : Int32 :=
  if (p0 &&& p1) = (0 : Int32) then
    (p0 <<< ((1 : Int32) &&& 31))
  else
    ((p0 <<< ((1 : Int32) &&& 31)) ^^^ p2)
def Q4 (Z : State) (p0 : Int32) (p1 : Int32) (p2 : Int32) (h0 : Heap) (n0 : Nat) (v : Option Value) (h : Heap) (L : List Loc) : Prop := v = some (.int (f_step p0 p1 p2)) ∧ Fr n0 L ∧ h = h0
set_option maxRecDepth 65536 in
set_option maxHeartbeats 40000000 in
theorem rm4 (l : Launch) (Z : State) (av : Array Value) (hw : ∀ d ∈ tables_1, d.before av Z = true) (ws : List Jvm.Cond) (p0 : Int32) (p1 : Int32) (p2 : Int32) (h0 : Heap) (n0 : Nat) (Z0 : n0 ≤ h0.size) :
    MetFree l (⟨"com/example/baton/baton/core/format/CrcUpdatePinLaw", "step", "(III)I"⟩ : MethodName) (head1 (Jvm.Cond.code (⟨"com/example/baton/baton/core/format/CrcUpdatePinLaw", "step", "(III)I"⟩ : MethodName) method_2_code 3 (some .int) :: ws) ({ frames := 0, cells := 0, slots := 0, locals := 0 } : Room)) (fun a U => a = #[(.int p0), (.int p1), (.int p2)] ∧ Z.Warmed39 U.vm ∧ U.heap = h0) (fun _ _ _ _ _ => True) (fun _ U o U' => ∃ v L, o = .returned v ∧ Q4 Z p0 p1 p2 h0 n0 v U'.heap L ∧ FrameEnd U o U' L ({ frames := 0, cells := 0, slots := 0, locals := 0 } : Room).cells ({ frames := 0, cells := 0, slots := 0, locals := 0 } : Room).slots) := by
  refine MetFree.of_bodySF (plainFor_of_name pn_com_example_baton_baton_core_format_CrcUpdatePinLaw) hisR ?_
  intro p e s m args below meth c s₁ Bd hml0 hP hK
  obtain ⟨rfl, hZ, hh⟩ := hP
  have hx := Bd.exec
  have hby := Bd.bytes
  have hml : c.maxLocals = 3 := hml0
  have hown : s.vm.findClass "com/example/baton/baton/core/format/CrcUpdatePinLaw" = some m.cls := findClass_of_methodNamed Bd.named
  have hnm := (name_of_methodNamed Bd.named Bd.method).1
  have X0 : Stand p l e ({ frames := 0, cells := 0, slots := 0, locals := 0 } : Room) s m #[(.int p0), (.int p1), (.int p2)] below meth c s₁ [] 0 0 := Stand.of_body Bd
  have e0 : s₁.heap = h0 := by rw [← hh, Bd.state]; rfl
  have N0 := Fr.nil n0
  have K0 : Keep h0 h0 [] := Keep.refl h0 []
  have pre0 : ∀ t, Steps p.tables e below (s₁.setTop (mkF m 0 #[.val (.int p0), .val (.int p1), .val (.int p2)] [])) t → Steps p.tables e below (s₁.setTop (entryFrame m #[(.int p0), (.int p1), (.int p2)] 3)) t := fun t k => castTop (ef4 m p0 p1 p2) k
  have pre1 : ∀ t, Steps p.tables e below (s₁.setTop (mkF m 3 #[.val (.int p0), .val (.int p1), .val (.int p2)] [(.int (p0 &&& p1))])) t → Steps p.tables e below (s₁.setTop (entryFrame m #[(.int p0), (.int p1), (.int p2)] 3)) t := fun t kt => pre0 t (by
    show Steps p.tables e below (s₁.setTop (mkF m 0 #[.val (.int p0), .val (.int p1), .val (.int p2)] [])) _
    refine XS.iloadN X0.here hx rfl (hb hby d4_0) rfl ?_
    show Steps p.tables e below (s₁.setTop (mkF m 1 #[.val (.int p0), .val (.int p1), .val (.int p2)] [(.int p0)])) _
    refine XS.iloadN X0.here hx rfl (hb hby d4_1) rfl ?_
    show Steps p.tables e below (s₁.setTop (mkF m 2 #[.val (.int p0), .val (.int p1), .val (.int p2)] [(.int p1), (.int p0)])) _
    refine XS.iand X0.here hx rfl (hb hby d4_2) rfl ?_
    exact kt)
  by_cases hc3_2 : (p0 &&& p1) = (0 : Int32)
  · have pre3 : ∀ t, Steps p.tables e below (s₁.setTop (mkF m 17 #[.val (.int p0), .val (.int p1), .val (.int p2)] [(.int (p0 <<< ((1 : Int32) &&& 31)))])) t → Steps p.tables e below (s₁.setTop (entryFrame m #[(.int p0), (.int p1), (.int p2)] 3)) t := fun t kt => pre1 t (by
      show Steps p.tables e below (s₁.setTop (mkF m 3 #[.val (.int p0), .val (.int p1), .val (.int p2)] [(.int (p0 &&& p1))])) _
      refine XS.ifYes X0.here hx rfl (pc0 := 3) (pc' := 14) rfl (hb hby d4_3) rfl ((if0 _ _).trans (teq hc3_2).1) (by decide) (by decide) ?_
      show Steps p.tables e below (s₁.setTop (mkF m 14 #[.val (.int p0), .val (.int p1), .val (.int p2)] [])) _
      refine XS.iloadN X0.here hx rfl (hb hby d4_14) rfl ?_
      show Steps p.tables e below (s₁.setTop (mkF m 15 #[.val (.int p0), .val (.int p1), .val (.int p2)] [(.int p0)])) _
      refine XS.iconst X0.here hx rfl (hb hby d4_15) ?_
      show Steps p.tables e below (s₁.setTop (mkF m 16 #[.val (.int p0), .val (.int p1), .val (.int p2)] [(.int (1 : Int32)), (.int p0)])) _
      refine XS.ishl X0.here hx rfl (hb hby d4_16) rfl ?_
      exact kt)
    have hv : f_step p0 p1 p2 = (p0 <<< ((1 : Int32) &&& 31)) := by
      unfold f_step
      rw [if_pos hc3_2]
    obtain ⟨fs, hr, hrun, hended, hW, hsame⟩ := X0.leave (v := some (.int (f_step p0 p1 p2))) (fun h => by rw [Bd.returns] at h; cases h)
    refine ⟨_, _, pre3 _ ?_, hrun, hended, _, _, rfl, ?_, ⟨_, rfl⟩, hW, hsame.mono (by decide) (by decide)⟩
    · rw [hv] at hr
      show Steps p.tables e below (s₁.setTop (mkF m 17 #[.val (.int p0), .val (.int p1), .val (.int p2)] [(.int (p0 <<< ((1 : Int32) &&& 31)))])) _
      exact retI X0 hx Bd.returns (hb hby d4_17) hr
    · show Q4 Z p0 p1 p2 h0 n0 _ s₁.heap _
      rw [e0]
      exact ⟨rfl, N0, rfl⟩
  · have pre4 : ∀ t, Steps p.tables e below (s₁.setTop (mkF m 17 #[.val (.int p0), .val (.int p1), .val (.int p2)] [(.int ((p0 <<< ((1 : Int32) &&& 31)) ^^^ p2))])) t → Steps p.tables e below (s₁.setTop (entryFrame m #[(.int p0), (.int p1), (.int p2)] 3)) t := fun t kt => pre1 t (by
      show Steps p.tables e below (s₁.setTop (mkF m 3 #[.val (.int p0), .val (.int p1), .val (.int p2)] [(.int (p0 &&& p1))])) _
      refine XS.ifNo X0.here hx rfl (hb hby d4_3) rfl ((if0 _ _).trans (feq hc3_2).1) ?_
      show Steps p.tables e below (s₁.setTop (mkF m 6 #[.val (.int p0), .val (.int p1), .val (.int p2)] [])) _
      refine XS.iloadN X0.here hx rfl (hb hby d4_6) rfl ?_
      show Steps p.tables e below (s₁.setTop (mkF m 7 #[.val (.int p0), .val (.int p1), .val (.int p2)] [(.int p0)])) _
      refine XS.iconst X0.here hx rfl (hb hby d4_7) ?_
      show Steps p.tables e below (s₁.setTop (mkF m 8 #[.val (.int p0), .val (.int p1), .val (.int p2)] [(.int (1 : Int32)), (.int p0)])) _
      refine XS.ishl X0.here hx rfl (hb hby d4_8) rfl ?_
      show Steps p.tables e below (s₁.setTop (mkF m 9 #[.val (.int p0), .val (.int p1), .val (.int p2)] [(.int (p0 <<< ((1 : Int32) &&& 31)))])) _
      refine XS.iloadN X0.here hx rfl (hb hby d4_9) rfl ?_
      show Steps p.tables e below (s₁.setTop (mkF m 10 #[.val (.int p0), .val (.int p1), .val (.int p2)] [(.int p2), (.int (p0 <<< ((1 : Int32) &&& 31)))])) _
      refine XS.ixor X0.here hx rfl (hb hby d4_10) rfl ?_
      show Steps p.tables e below (s₁.setTop (mkF m 11 #[.val (.int p0), .val (.int p1), .val (.int p2)] [(.int ((p0 <<< ((1 : Int32) &&& 31)) ^^^ p2))])) _
      refine XS.goto X0.here hx rfl (pc0 := 11) (pc' := 17) rfl (hb hby d4_11) (by decide) (by decide) ?_
      exact kt)
    have hv : f_step p0 p1 p2 = ((p0 <<< ((1 : Int32) &&& 31)) ^^^ p2) := by
      unfold f_step
      rw [if_neg hc3_2]
    obtain ⟨fs, hr, hrun, hended, hW, hsame⟩ := X0.leave (v := some (.int (f_step p0 p1 p2))) (fun h => by rw [Bd.returns] at h; cases h)
    refine ⟨_, _, pre4 _ ?_, hrun, hended, _, _, rfl, ?_, ⟨_, rfl⟩, hW, hsame.mono (by decide) (by decide)⟩
    · rw [hv] at hr
      show Steps p.tables e below (s₁.setTop (mkF m 17 #[.val (.int p0), .val (.int p1), .val (.int p2)] [(.int ((p0 <<< ((1 : Int32) &&& 31)) ^^^ p2))])) _
      exact retI X0 hx Bd.returns (hb hby d4_17) hr
    · show Q4 Z p0 p1 p2 h0 n0 _ s₁.heap _
      rw [e0]
      exact ⟨rfl, N0, rfl⟩
theorem own_stepT (r top poly : Int32) (h : (r &&& top) = (0 : Int32)) : (r <<< ((1 : Int32) &&& 31)) = f_step r top poly := by
  unfold f_step
  rw [if_pos h]
theorem own_stepF (r top poly : Int32) (h : ¬ (r &&& top) = (0 : Int32)) : ((r <<< ((1 : Int32) &&& 31)) ^^^ poly) = f_step r top poly := by
  unfold f_step
  rw [if_neg h]
def own_F8 (r top poly : Int32) : Int32 := (f_step (f_step (f_step (f_step (f_step (f_step (f_step (f_step r top poly) top poly) top poly) top poly) top poly) top poly) top poly) top poly)
def own_mask (w : Int32) : Int32 := if w = (32 : Int32) then (-1 : Int32) else (((1 : Int32) <<< (w &&& 31)) - (1 : Int32))
def own_tv (i poly w top mk : Int32) : Int32 := (own_F8 (i <<< ((w - (8 : Int32)) &&& 31)) top poly) &&& mk
def own_hs (poly w top mk : Int32) : Nat → List (Int32 × Value)
  | 0 => []
  | n + 1 => (Int32.ofNat n, (.int (own_tv (Int32.ofNat n) poly w top mk))) :: own_hs poly w top mk n
theorem d1_46 : decode prog_66_method_1_code 46 = .ok (.iload 4, 2) := by decide +kernel
theorem d1_48 : decode prog_66_method_1_code 48 = .ok (.sipush 256, 3) := by decide +kernel
theorem d1_51 : decode prog_66_method_1_code 51 = .ok (.if_icmp .ge 70, 3) := by decide +kernel
theorem d1_54 : decode prog_66_method_1_code 54 = .ok (.iload 4, 2) := by decide +kernel
theorem d1_56 : decode prog_66_method_1_code 56 = .ok (.iload_n 2, 1) := by decide +kernel
theorem d1_57 : decode prog_66_method_1_code 57 = .ok (.bipush 8, 2) := by decide +kernel
theorem d1_59 : decode prog_66_method_1_code 59 = .ok (.isub, 1) := by decide +kernel
theorem d1_60 : decode prog_66_method_1_code 60 = .ok (.ishl, 1) := by decide +kernel
theorem os1_61 {y0 : Value} {y1 : Value} {y2 : Value} {y3 : Value} {y4 : Value} {s5 : Slot} {s6 : Slot} {v : Int32} (h : One s5) : storeLocals #[.val y0, .val y1, .val y2, .val y3, .val y4, s5, s6] 5 (.int v) = some #[.val y0, .val y1, .val y2, .val y3, .val y4, .val (.int v), s6] := by
  rcases h with rfl | ⟨w, rfl, hw⟩
  · rfl
  · cases w <;> first | rfl | (simp [Value.category] at hw)
theorem d1_61 : decode prog_66_method_1_code 61 = .ok (.istore 5, 2) := by decide +kernel
theorem d1_63 : decode prog_66_method_1_code 63 = .ok (.iconst 0, 1) := by decide +kernel
theorem os1_64 {y0 : Value} {y1 : Value} {y2 : Value} {y3 : Value} {y4 : Value} {y5 : Value} {s6 : Slot} {v : Int32} (h : One s6) : storeLocals #[.val y0, .val y1, .val y2, .val y3, .val y4, .val y5, s6] 6 (.int v) = some #[.val y0, .val y1, .val y2, .val y3, .val y4, .val y5, .val (.int v)] := by
  rcases h with rfl | ⟨w, rfl, hw⟩
  · rfl
  · cases w <;> first | rfl | (simp [Value.category] at hw)
theorem d1_64 : decode prog_66_method_1_code 64 = .ok (.istore 6, 2) := by decide +kernel
theorem d1_66 : decode prog_66_method_1_code 66 = .ok (.iload 6, 2) := by decide +kernel
theorem d1_68 : decode prog_66_method_1_code 68 = .ok (.bipush 8, 2) := by decide +kernel
theorem d1_70 : decode prog_66_method_1_code 70 = .ok (.if_icmp .ge 31, 3) := by decide +kernel
theorem d1_73 : decode prog_66_method_1_code 73 = .ok (.iload 5, 2) := by decide +kernel
theorem d1_75 : decode prog_66_method_1_code 75 = .ok (.iload_n 3, 1) := by decide +kernel
theorem d1_76 : decode prog_66_method_1_code 76 = .ok (.iand, 1) := by decide +kernel
theorem d1_77 : decode prog_66_method_1_code 77 = .ok (.ifCond .eq 12, 3) := by decide +kernel
theorem d1_89 : decode prog_66_method_1_code 89 = .ok (.iload 5, 2) := by decide +kernel
theorem d1_91 : decode prog_66_method_1_code 91 = .ok (.iconst 1, 1) := by decide +kernel
theorem d1_92 : decode prog_66_method_1_code 92 = .ok (.ishl, 1) := by decide +kernel
theorem d1_80 : decode prog_66_method_1_code 80 = .ok (.iload 5, 2) := by decide +kernel
theorem d1_82 : decode prog_66_method_1_code 82 = .ok (.iconst 1, 1) := by decide +kernel
theorem d1_83 : decode prog_66_method_1_code 83 = .ok (.ishl, 1) := by decide +kernel
theorem d1_84 : decode prog_66_method_1_code 84 = .ok (.iload_n 1, 1) := by decide +kernel
theorem d1_85 : decode prog_66_method_1_code 85 = .ok (.ixor, 1) := by decide +kernel
theorem d1_86 : decode prog_66_method_1_code 86 = .ok (.goto 7, 3) := by decide +kernel
theorem d1_93 : decode prog_66_method_1_code 93 = .ok (.istore 5, 2) := by decide +kernel
theorem d1_95 : decode prog_66_method_1_code 95 = .ok (.iinc 6 1, 3) := by decide +kernel
theorem d1_98 : decode prog_66_method_1_code 98 = .ok (.goto (-32), 3) := by decide +kernel
theorem d1_101 : decode prog_66_method_1_code 101 = .ok (.aload_n 0, 1) := by decide +kernel
theorem d1_102 : decode prog_66_method_1_code 102 = .ok (.getfield 7, 3) := by decide +kernel
theorem d1_105 : decode prog_66_method_1_code 105 = .ok (.iload 4, 2) := by decide +kernel
theorem d1_107 : decode prog_66_method_1_code 107 = .ok (.iload 5, 2) := by decide +kernel
theorem d1_109 : decode prog_66_method_1_code 109 = .ok (.aload_n 0, 1) := by decide +kernel
theorem d1_110 : decode prog_66_method_1_code 110 = .ok (.getfield 17, 3) := by decide +kernel
theorem d1_113 : decode prog_66_method_1_code 113 = .ok (.iand, 1) := by decide +kernel
theorem d1_114 : decode prog_66_method_1_code 114 = .ok (.iastore, 1) := by decide +kernel
theorem d1_115 : decode prog_66_method_1_code 115 = .ok (.iinc 4 1, 3) := by decide +kernel
theorem d1_118 : decode prog_66_method_1_code 118 = .ok (.goto (-72), 3) := by decide +kernel
set_option maxRecDepth 65536 in
set_option maxHeartbeats 40000000 in
theorem own_turn {p : Program} {l : Launch} {e : Env} {R : Room} {s : State} {m : MethodId} {args : Array Value} {below : List Frame} {meth : Method} {c : Code} {T0 : State} {locs : List Loc} {cells slots : Nat} {Z : State} {av : Array Value} {h0 : Heap} {n0 : Nat} (a0 : Addr) (p1 : Int32) (p2 : Int32) (top : Int32) (iv : Int32) (s5 : Slot) (s6 : Slot) (tb : Addr) (mk : Int32) (kk : ClassId) (hs : List (Int32 × Value))
    (X0 : Stand p l e R s m args below meth c T0 locs cells slots) (hx : p.tables.exec = Jvm.exec) (hZ : Z.Warmed39 s.vm) (hw : ∀ d ∈ tables_1, d.before av Z = true) (hby : c.code = prog_66_method_1_code) (hml : c.maxLocals = 7) (hown : s.vm.findClass "com/example/baton/baton/core/format/Crc" = some m.cls) (e0 : T0.heap = h0) (N0 : Fr n0 locs) (Z0 : n0 ≤ h0.size) (hs5 : One s5) (hs6 : One s6) (hi : ¬ iv < 0 ∧ iv < (256 : Int32)) (F_table : Fld Z h0 a0 "com/example/baton/baton/core/format/Crc" "table" "[I" (.ref tb)) (F_mask : Fld Z h0 a0 "com/example/baton/baton/core/format/Crc" "mask" "I" (.int mk)) (V0 : Arh Z h0 tb kk .int (256 : Int32) hs [] (.int (0 : Int32))) (ne : a0 ≠ tb) (g_tb : n0 ≤ tb) :
    ∃ (T' : State) (h' : Heap) (locs' : List Loc), Stand p l e R s m args below meth c T' locs' cells slots ∧ T'.heap = h' ∧ Fr n0 locs' ∧ Keep h0 h' [tb] ∧ Arh Z h' tb kk .int (256 : Int32) ((iv, (.int (own_tv iv p1 p2 top mk))) :: hs) [] (.int (0 : Int32)) ∧ ∀ target, Steps p.tables e below (T'.setTop (mkF m 46 #[.val (.ref a0), .val (.int p1), .val (.int p2), .val (.int top), .val (.int (iv + (1 : Int32))), .val (.int (f_step (f_step (f_step (f_step (f_step (f_step (f_step (f_step (iv <<< ((p2 - (8 : Int32)) &&& 31)) top p1) top p1) top p1) top p1) top p1) top p1) top p1) top p1)), .val (.int (8 : Int32))] [])) target → Steps p.tables e below (T0.setTop (mkF m 46 #[.val (.ref a0), .val (.int p1), .val (.int p2), .val (.int top), .val (.int iv), s5, s6] [])) target := by
  have K0 : Keep h0 h0 [tb] := Keep.refl h0 [tb]
  have pre0 : ∀ t, Steps p.tables e below (T0.setTop (mkF m 46 #[.val (.ref a0), .val (.int p1), .val (.int p2), .val (.int top), .val (.int iv), s5, s6] [])) t → Steps p.tables e below (T0.setTop (mkF m 46 #[.val (.ref a0), .val (.int p1), .val (.int p2), .val (.int top), .val (.int iv), s5, s6] [])) t := fun t k => k
  have pre1 : ∀ t, Steps p.tables e below (T0.setTop (mkF m 77 #[.val (.ref a0), .val (.int p1), .val (.int p2), .val (.int top), .val (.int iv), .val (.int (iv <<< ((p2 - (8 : Int32)) &&& 31))), .val (.int (0 : Int32))] [(.int ((iv <<< ((p2 - (8 : Int32)) &&& 31)) &&& top))])) t → Steps p.tables e below (T0.setTop (mkF m 46 #[.val (.ref a0), .val (.int p1), .val (.int p2), .val (.int top), .val (.int iv), s5, s6] [])) t := fun t kt => pre0 t (by
    show Steps p.tables e below (T0.setTop (mkF m 46 #[.val (.ref a0), .val (.int p1), .val (.int p2), .val (.int top), .val (.int iv), s5, s6] [])) _
    refine XS.iload X0.here hx rfl (hb hby d1_46) rfl ?_
    show Steps p.tables e below (T0.setTop (mkF m 48 #[.val (.ref a0), .val (.int p1), .val (.int p2), .val (.int top), .val (.int iv), s5, s6] [(.int iv)])) _
    refine XS.sipush X0.here hx rfl (hb hby d1_48) ?_
    show Steps p.tables e below (T0.setTop (mkF m 51 #[.val (.ref a0), .val (.int p1), .val (.int p2), .val (.int top), .val (.int iv), s5, s6] [(.int (256 : Int32)), (.int iv)])) _
    refine XS.icmpNo X0.here hx rfl (hb hby d1_51) rfl (tlt hi.2).2.1 ?_
    show Steps p.tables e below (T0.setTop (mkF m 54 #[.val (.ref a0), .val (.int p1), .val (.int p2), .val (.int top), .val (.int iv), s5, s6] [])) _
    refine XS.iload X0.here hx rfl (hb hby d1_54) rfl ?_
    show Steps p.tables e below (T0.setTop (mkF m 56 #[.val (.ref a0), .val (.int p1), .val (.int p2), .val (.int top), .val (.int iv), s5, s6] [(.int iv)])) _
    refine XS.iloadN X0.here hx rfl (hb hby d1_56) rfl ?_
    show Steps p.tables e below (T0.setTop (mkF m 57 #[.val (.ref a0), .val (.int p1), .val (.int p2), .val (.int top), .val (.int iv), s5, s6] [(.int p2), (.int iv)])) _
    refine XS.bipush X0.here hx rfl (hb hby d1_57) ?_
    show Steps p.tables e below (T0.setTop (mkF m 59 #[.val (.ref a0), .val (.int p1), .val (.int p2), .val (.int top), .val (.int iv), s5, s6] [(.int (8 : Int32)), (.int p2), (.int iv)])) _
    refine XS.isub X0.here hx rfl (hb hby d1_59) rfl ?_
    show Steps p.tables e below (T0.setTop (mkF m 60 #[.val (.ref a0), .val (.int p1), .val (.int p2), .val (.int top), .val (.int iv), s5, s6] [(.int (p2 - (8 : Int32))), (.int iv)])) _
    refine XS.ishl X0.here hx rfl (hb hby d1_60) rfl ?_
    show Steps p.tables e below (T0.setTop (mkF m 61 #[.val (.ref a0), .val (.int p1), .val (.int p2), .val (.int top), .val (.int iv), s5, s6] [(.int (iv <<< ((p2 - (8 : Int32)) &&& 31)))])) _
    refine XS.istore X0.here hx rfl (hb hby d1_61) rfl (l' := #[.val (.ref a0), .val (.int p1), .val (.int p2), .val (.int top), .val (.int iv), .val (.int (iv <<< ((p2 - (8 : Int32)) &&& 31))), s6]) (os1_61 hs5) ?_
    show Steps p.tables e below (T0.setTop (mkF m 63 #[.val (.ref a0), .val (.int p1), .val (.int p2), .val (.int top), .val (.int iv), .val (.int (iv <<< ((p2 - (8 : Int32)) &&& 31))), s6] [])) _
    refine XS.iconst X0.here hx rfl (hb hby d1_63) ?_
    show Steps p.tables e below (T0.setTop (mkF m 64 #[.val (.ref a0), .val (.int p1), .val (.int p2), .val (.int top), .val (.int iv), .val (.int (iv <<< ((p2 - (8 : Int32)) &&& 31))), s6] [(.int (0 : Int32))])) _
    refine XS.istore X0.here hx rfl (hb hby d1_64) rfl (l' := #[.val (.ref a0), .val (.int p1), .val (.int p2), .val (.int top), .val (.int iv), .val (.int (iv <<< ((p2 - (8 : Int32)) &&& 31))), .val (.int (0 : Int32))]) (os1_64 hs6) ?_
    show Steps p.tables e below (T0.setTop (mkF m 66 #[.val (.ref a0), .val (.int p1), .val (.int p2), .val (.int top), .val (.int iv), .val (.int (iv <<< ((p2 - (8 : Int32)) &&& 31))), .val (.int (0 : Int32))] [])) _
    refine XS.iload X0.here hx rfl (hb hby d1_66) rfl ?_
    show Steps p.tables e below (T0.setTop (mkF m 68 #[.val (.ref a0), .val (.int p1), .val (.int p2), .val (.int top), .val (.int iv), .val (.int (iv <<< ((p2 - (8 : Int32)) &&& 31))), .val (.int (0 : Int32))] [(.int (0 : Int32))])) _
    refine XS.bipush X0.here hx rfl (hb hby d1_68) ?_
    show Steps p.tables e below (T0.setTop (mkF m 70 #[.val (.ref a0), .val (.int p1), .val (.int p2), .val (.int top), .val (.int iv), .val (.int (iv <<< ((p2 - (8 : Int32)) &&& 31))), .val (.int (0 : Int32))] [(.int (8 : Int32)), (.int (0 : Int32))])) _
    refine XS.icmpNo X0.here hx rfl (hb hby d1_70) rfl (tlt (by decide : (0 : Int32) < (8 : Int32))).2.1 ?_
    show Steps p.tables e below (T0.setTop (mkF m 73 #[.val (.ref a0), .val (.int p1), .val (.int p2), .val (.int top), .val (.int iv), .val (.int (iv <<< ((p2 - (8 : Int32)) &&& 31))), .val (.int (0 : Int32))] [])) _
    refine XS.iload X0.here hx rfl (hb hby d1_73) rfl ?_
    show Steps p.tables e below (T0.setTop (mkF m 75 #[.val (.ref a0), .val (.int p1), .val (.int p2), .val (.int top), .val (.int iv), .val (.int (iv <<< ((p2 - (8 : Int32)) &&& 31))), .val (.int (0 : Int32))] [(.int (iv <<< ((p2 - (8 : Int32)) &&& 31)))])) _
    refine XS.iloadN X0.here hx rfl (hb hby d1_75) rfl ?_
    show Steps p.tables e below (T0.setTop (mkF m 76 #[.val (.ref a0), .val (.int p1), .val (.int p2), .val (.int top), .val (.int iv), .val (.int (iv <<< ((p2 - (8 : Int32)) &&& 31))), .val (.int (0 : Int32))] [(.int top), (.int (iv <<< ((p2 - (8 : Int32)) &&& 31)))])) _
    refine XS.iand X0.here hx rfl (hb hby d1_76) rfl ?_
    exact kt)
  have pre2 : ∀ t, Steps p.tables e below (T0.setTop (mkF m 93 #[.val (.ref a0), .val (.int p1), .val (.int p2), .val (.int top), .val (.int iv), .val (.int (iv <<< ((p2 - (8 : Int32)) &&& 31))), .val (.int (0 : Int32))] [(.int (f_step (iv <<< ((p2 - (8 : Int32)) &&& 31)) top p1))])) t → Steps p.tables e below (T0.setTop (mkF m 46 #[.val (.ref a0), .val (.int p1), .val (.int p2), .val (.int top), .val (.int iv), s5, s6] [])) t := by
    by_cases hc77_3 : ((iv <<< ((p2 - (8 : Int32)) &&& 31)) &&& top) = (0 : Int32)
    · have pre4 : ∀ t, Steps p.tables e below (T0.setTop (mkF m 93 #[.val (.ref a0), .val (.int p1), .val (.int p2), .val (.int top), .val (.int iv), .val (.int (iv <<< ((p2 - (8 : Int32)) &&& 31))), .val (.int (0 : Int32))] [(.int ((iv <<< ((p2 - (8 : Int32)) &&& 31)) <<< ((1 : Int32) &&& 31)))])) t → Steps p.tables e below (T0.setTop (mkF m 46 #[.val (.ref a0), .val (.int p1), .val (.int p2), .val (.int top), .val (.int iv), s5, s6] [])) t := fun t kt => pre1 t (by
        show Steps p.tables e below (T0.setTop (mkF m 77 #[.val (.ref a0), .val (.int p1), .val (.int p2), .val (.int top), .val (.int iv), .val (.int (iv <<< ((p2 - (8 : Int32)) &&& 31))), .val (.int (0 : Int32))] [(.int ((iv <<< ((p2 - (8 : Int32)) &&& 31)) &&& top))])) _
        refine XS.ifYes X0.here hx rfl (pc0 := 77) (pc' := 89) rfl (hb hby d1_77) rfl ((if0 _ _).trans (teq hc77_3).1) (by decide) (by decide) ?_
        show Steps p.tables e below (T0.setTop (mkF m 89 #[.val (.ref a0), .val (.int p1), .val (.int p2), .val (.int top), .val (.int iv), .val (.int (iv <<< ((p2 - (8 : Int32)) &&& 31))), .val (.int (0 : Int32))] [])) _
        refine XS.iload X0.here hx rfl (hb hby d1_89) rfl ?_
        show Steps p.tables e below (T0.setTop (mkF m 91 #[.val (.ref a0), .val (.int p1), .val (.int p2), .val (.int top), .val (.int iv), .val (.int (iv <<< ((p2 - (8 : Int32)) &&& 31))), .val (.int (0 : Int32))] [(.int (iv <<< ((p2 - (8 : Int32)) &&& 31)))])) _
        refine XS.iconst X0.here hx rfl (hb hby d1_91) ?_
        show Steps p.tables e below (T0.setTop (mkF m 92 #[.val (.ref a0), .val (.int p1), .val (.int p2), .val (.int top), .val (.int iv), .val (.int (iv <<< ((p2 - (8 : Int32)) &&& 31))), .val (.int (0 : Int32))] [(.int (1 : Int32)), (.int (iv <<< ((p2 - (8 : Int32)) &&& 31)))])) _
        refine XS.ishl X0.here hx rfl (hb hby d1_92) rfl ?_
        exact kt)
      have hvx : ((iv <<< ((p2 - (8 : Int32)) &&& 31)) <<< ((1 : Int32) &&& 31)) = (f_step (iv <<< ((p2 - (8 : Int32)) &&& 31)) top p1) := (own_stepT _ _ _ hc77_3)
      rw [← hvx]
      exact pre4
    · have pre5 : ∀ t, Steps p.tables e below (T0.setTop (mkF m 93 #[.val (.ref a0), .val (.int p1), .val (.int p2), .val (.int top), .val (.int iv), .val (.int (iv <<< ((p2 - (8 : Int32)) &&& 31))), .val (.int (0 : Int32))] [(.int (((iv <<< ((p2 - (8 : Int32)) &&& 31)) <<< ((1 : Int32) &&& 31)) ^^^ p1))])) t → Steps p.tables e below (T0.setTop (mkF m 46 #[.val (.ref a0), .val (.int p1), .val (.int p2), .val (.int top), .val (.int iv), s5, s6] [])) t := fun t kt => pre1 t (by
        show Steps p.tables e below (T0.setTop (mkF m 77 #[.val (.ref a0), .val (.int p1), .val (.int p2), .val (.int top), .val (.int iv), .val (.int (iv <<< ((p2 - (8 : Int32)) &&& 31))), .val (.int (0 : Int32))] [(.int ((iv <<< ((p2 - (8 : Int32)) &&& 31)) &&& top))])) _
        refine XS.ifNo X0.here hx rfl (hb hby d1_77) rfl ((if0 _ _).trans (feq hc77_3).1) ?_
        show Steps p.tables e below (T0.setTop (mkF m 80 #[.val (.ref a0), .val (.int p1), .val (.int p2), .val (.int top), .val (.int iv), .val (.int (iv <<< ((p2 - (8 : Int32)) &&& 31))), .val (.int (0 : Int32))] [])) _
        refine XS.iload X0.here hx rfl (hb hby d1_80) rfl ?_
        show Steps p.tables e below (T0.setTop (mkF m 82 #[.val (.ref a0), .val (.int p1), .val (.int p2), .val (.int top), .val (.int iv), .val (.int (iv <<< ((p2 - (8 : Int32)) &&& 31))), .val (.int (0 : Int32))] [(.int (iv <<< ((p2 - (8 : Int32)) &&& 31)))])) _
        refine XS.iconst X0.here hx rfl (hb hby d1_82) ?_
        show Steps p.tables e below (T0.setTop (mkF m 83 #[.val (.ref a0), .val (.int p1), .val (.int p2), .val (.int top), .val (.int iv), .val (.int (iv <<< ((p2 - (8 : Int32)) &&& 31))), .val (.int (0 : Int32))] [(.int (1 : Int32)), (.int (iv <<< ((p2 - (8 : Int32)) &&& 31)))])) _
        refine XS.ishl X0.here hx rfl (hb hby d1_83) rfl ?_
        show Steps p.tables e below (T0.setTop (mkF m 84 #[.val (.ref a0), .val (.int p1), .val (.int p2), .val (.int top), .val (.int iv), .val (.int (iv <<< ((p2 - (8 : Int32)) &&& 31))), .val (.int (0 : Int32))] [(.int ((iv <<< ((p2 - (8 : Int32)) &&& 31)) <<< ((1 : Int32) &&& 31)))])) _
        refine XS.iloadN X0.here hx rfl (hb hby d1_84) rfl ?_
        show Steps p.tables e below (T0.setTop (mkF m 85 #[.val (.ref a0), .val (.int p1), .val (.int p2), .val (.int top), .val (.int iv), .val (.int (iv <<< ((p2 - (8 : Int32)) &&& 31))), .val (.int (0 : Int32))] [(.int p1), (.int ((iv <<< ((p2 - (8 : Int32)) &&& 31)) <<< ((1 : Int32) &&& 31)))])) _
        refine XS.ixor X0.here hx rfl (hb hby d1_85) rfl ?_
        show Steps p.tables e below (T0.setTop (mkF m 86 #[.val (.ref a0), .val (.int p1), .val (.int p2), .val (.int top), .val (.int iv), .val (.int (iv <<< ((p2 - (8 : Int32)) &&& 31))), .val (.int (0 : Int32))] [(.int (((iv <<< ((p2 - (8 : Int32)) &&& 31)) <<< ((1 : Int32) &&& 31)) ^^^ p1))])) _
        refine XS.goto X0.here hx rfl (pc0 := 86) (pc' := 93) rfl (hb hby d1_86) (by decide) (by decide) ?_
        exact kt)
      have hvx : (((iv <<< ((p2 - (8 : Int32)) &&& 31)) <<< ((1 : Int32) &&& 31)) ^^^ p1) = (f_step (iv <<< ((p2 - (8 : Int32)) &&& 31)) top p1) := (own_stepF _ _ _ hc77_3)
      rw [← hvx]
      exact pre5
  have pre6 : ∀ t, Steps p.tables e below (T0.setTop (mkF m 77 #[.val (.ref a0), .val (.int p1), .val (.int p2), .val (.int top), .val (.int iv), .val (.int (f_step (iv <<< ((p2 - (8 : Int32)) &&& 31)) top p1)), .val (.int (1 : Int32))] [(.int ((f_step (iv <<< ((p2 - (8 : Int32)) &&& 31)) top p1) &&& top))])) t → Steps p.tables e below (T0.setTop (mkF m 46 #[.val (.ref a0), .val (.int p1), .val (.int p2), .val (.int top), .val (.int iv), s5, s6] [])) t := fun t kt => pre2 t (by
    show Steps p.tables e below (T0.setTop (mkF m 93 #[.val (.ref a0), .val (.int p1), .val (.int p2), .val (.int top), .val (.int iv), .val (.int (iv <<< ((p2 - (8 : Int32)) &&& 31))), .val (.int (0 : Int32))] [(.int (f_step (iv <<< ((p2 - (8 : Int32)) &&& 31)) top p1))])) _
    refine XS.istore X0.here hx rfl (hb hby d1_93) rfl (l' := #[.val (.ref a0), .val (.int p1), .val (.int p2), .val (.int top), .val (.int iv), .val (.int (f_step (iv <<< ((p2 - (8 : Int32)) &&& 31)) top p1)), .val (.int (0 : Int32))]) rfl ?_
    show Steps p.tables e below (T0.setTop (mkF m 95 #[.val (.ref a0), .val (.int p1), .val (.int p2), .val (.int top), .val (.int iv), .val (.int (f_step (iv <<< ((p2 - (8 : Int32)) &&& 31)) top p1)), .val (.int (0 : Int32))] [])) _
    refine XS.iinc X0.here hx rfl (hb hby d1_95) rfl (l' := #[.val (.ref a0), .val (.int p1), .val (.int p2), .val (.int top), .val (.int iv), .val (.int (f_step (iv <<< ((p2 - (8 : Int32)) &&& 31)) top p1)), .val (.int (1 : Int32))]) rfl ?_
    show Steps p.tables e below (T0.setTop (mkF m 98 #[.val (.ref a0), .val (.int p1), .val (.int p2), .val (.int top), .val (.int iv), .val (.int (f_step (iv <<< ((p2 - (8 : Int32)) &&& 31)) top p1)), .val (.int (1 : Int32))] [])) _
    refine XS.goto X0.here hx rfl (pc0 := 98) (pc' := 66) rfl (hb hby d1_98) (by decide) (by decide) ?_
    show Steps p.tables e below (T0.setTop (mkF m 66 #[.val (.ref a0), .val (.int p1), .val (.int p2), .val (.int top), .val (.int iv), .val (.int (f_step (iv <<< ((p2 - (8 : Int32)) &&& 31)) top p1)), .val (.int (1 : Int32))] [])) _
    refine XS.iload X0.here hx rfl (hb hby d1_66) rfl ?_
    show Steps p.tables e below (T0.setTop (mkF m 68 #[.val (.ref a0), .val (.int p1), .val (.int p2), .val (.int top), .val (.int iv), .val (.int (f_step (iv <<< ((p2 - (8 : Int32)) &&& 31)) top p1)), .val (.int (1 : Int32))] [(.int (1 : Int32))])) _
    refine XS.bipush X0.here hx rfl (hb hby d1_68) ?_
    show Steps p.tables e below (T0.setTop (mkF m 70 #[.val (.ref a0), .val (.int p1), .val (.int p2), .val (.int top), .val (.int iv), .val (.int (f_step (iv <<< ((p2 - (8 : Int32)) &&& 31)) top p1)), .val (.int (1 : Int32))] [(.int (8 : Int32)), (.int (1 : Int32))])) _
    refine XS.icmpNo X0.here hx rfl (hb hby d1_70) rfl (tlt (by decide : (1 : Int32) < (8 : Int32))).2.1 ?_
    show Steps p.tables e below (T0.setTop (mkF m 73 #[.val (.ref a0), .val (.int p1), .val (.int p2), .val (.int top), .val (.int iv), .val (.int (f_step (iv <<< ((p2 - (8 : Int32)) &&& 31)) top p1)), .val (.int (1 : Int32))] [])) _
    refine XS.iload X0.here hx rfl (hb hby d1_73) rfl ?_
    show Steps p.tables e below (T0.setTop (mkF m 75 #[.val (.ref a0), .val (.int p1), .val (.int p2), .val (.int top), .val (.int iv), .val (.int (f_step (iv <<< ((p2 - (8 : Int32)) &&& 31)) top p1)), .val (.int (1 : Int32))] [(.int (f_step (iv <<< ((p2 - (8 : Int32)) &&& 31)) top p1))])) _
    refine XS.iloadN X0.here hx rfl (hb hby d1_75) rfl ?_
    show Steps p.tables e below (T0.setTop (mkF m 76 #[.val (.ref a0), .val (.int p1), .val (.int p2), .val (.int top), .val (.int iv), .val (.int (f_step (iv <<< ((p2 - (8 : Int32)) &&& 31)) top p1)), .val (.int (1 : Int32))] [(.int top), (.int (f_step (iv <<< ((p2 - (8 : Int32)) &&& 31)) top p1))])) _
    refine XS.iand X0.here hx rfl (hb hby d1_76) rfl ?_
    exact kt)
  have pre7 : ∀ t, Steps p.tables e below (T0.setTop (mkF m 93 #[.val (.ref a0), .val (.int p1), .val (.int p2), .val (.int top), .val (.int iv), .val (.int (f_step (iv <<< ((p2 - (8 : Int32)) &&& 31)) top p1)), .val (.int (1 : Int32))] [(.int (f_step (f_step (iv <<< ((p2 - (8 : Int32)) &&& 31)) top p1) top p1))])) t → Steps p.tables e below (T0.setTop (mkF m 46 #[.val (.ref a0), .val (.int p1), .val (.int p2), .val (.int top), .val (.int iv), s5, s6] [])) t := by
    by_cases hc77_8 : ((f_step (iv <<< ((p2 - (8 : Int32)) &&& 31)) top p1) &&& top) = (0 : Int32)
    · have pre9 : ∀ t, Steps p.tables e below (T0.setTop (mkF m 93 #[.val (.ref a0), .val (.int p1), .val (.int p2), .val (.int top), .val (.int iv), .val (.int (f_step (iv <<< ((p2 - (8 : Int32)) &&& 31)) top p1)), .val (.int (1 : Int32))] [(.int ((f_step (iv <<< ((p2 - (8 : Int32)) &&& 31)) top p1) <<< ((1 : Int32) &&& 31)))])) t → Steps p.tables e below (T0.setTop (mkF m 46 #[.val (.ref a0), .val (.int p1), .val (.int p2), .val (.int top), .val (.int iv), s5, s6] [])) t := fun t kt => pre6 t (by
        show Steps p.tables e below (T0.setTop (mkF m 77 #[.val (.ref a0), .val (.int p1), .val (.int p2), .val (.int top), .val (.int iv), .val (.int (f_step (iv <<< ((p2 - (8 : Int32)) &&& 31)) top p1)), .val (.int (1 : Int32))] [(.int ((f_step (iv <<< ((p2 - (8 : Int32)) &&& 31)) top p1) &&& top))])) _
        refine XS.ifYes X0.here hx rfl (pc0 := 77) (pc' := 89) rfl (hb hby d1_77) rfl ((if0 _ _).trans (teq hc77_8).1) (by decide) (by decide) ?_
        show Steps p.tables e below (T0.setTop (mkF m 89 #[.val (.ref a0), .val (.int p1), .val (.int p2), .val (.int top), .val (.int iv), .val (.int (f_step (iv <<< ((p2 - (8 : Int32)) &&& 31)) top p1)), .val (.int (1 : Int32))] [])) _
        refine XS.iload X0.here hx rfl (hb hby d1_89) rfl ?_
        show Steps p.tables e below (T0.setTop (mkF m 91 #[.val (.ref a0), .val (.int p1), .val (.int p2), .val (.int top), .val (.int iv), .val (.int (f_step (iv <<< ((p2 - (8 : Int32)) &&& 31)) top p1)), .val (.int (1 : Int32))] [(.int (f_step (iv <<< ((p2 - (8 : Int32)) &&& 31)) top p1))])) _
        refine XS.iconst X0.here hx rfl (hb hby d1_91) ?_
        show Steps p.tables e below (T0.setTop (mkF m 92 #[.val (.ref a0), .val (.int p1), .val (.int p2), .val (.int top), .val (.int iv), .val (.int (f_step (iv <<< ((p2 - (8 : Int32)) &&& 31)) top p1)), .val (.int (1 : Int32))] [(.int (1 : Int32)), (.int (f_step (iv <<< ((p2 - (8 : Int32)) &&& 31)) top p1))])) _
        refine XS.ishl X0.here hx rfl (hb hby d1_92) rfl ?_
        exact kt)
      have hvx : ((f_step (iv <<< ((p2 - (8 : Int32)) &&& 31)) top p1) <<< ((1 : Int32) &&& 31)) = (f_step (f_step (iv <<< ((p2 - (8 : Int32)) &&& 31)) top p1) top p1) := (own_stepT _ _ _ hc77_8)
      rw [← hvx]
      exact pre9
    · have pre10 : ∀ t, Steps p.tables e below (T0.setTop (mkF m 93 #[.val (.ref a0), .val (.int p1), .val (.int p2), .val (.int top), .val (.int iv), .val (.int (f_step (iv <<< ((p2 - (8 : Int32)) &&& 31)) top p1)), .val (.int (1 : Int32))] [(.int (((f_step (iv <<< ((p2 - (8 : Int32)) &&& 31)) top p1) <<< ((1 : Int32) &&& 31)) ^^^ p1))])) t → Steps p.tables e below (T0.setTop (mkF m 46 #[.val (.ref a0), .val (.int p1), .val (.int p2), .val (.int top), .val (.int iv), s5, s6] [])) t := fun t kt => pre6 t (by
        show Steps p.tables e below (T0.setTop (mkF m 77 #[.val (.ref a0), .val (.int p1), .val (.int p2), .val (.int top), .val (.int iv), .val (.int (f_step (iv <<< ((p2 - (8 : Int32)) &&& 31)) top p1)), .val (.int (1 : Int32))] [(.int ((f_step (iv <<< ((p2 - (8 : Int32)) &&& 31)) top p1) &&& top))])) _
        refine XS.ifNo X0.here hx rfl (hb hby d1_77) rfl ((if0 _ _).trans (feq hc77_8).1) ?_
        show Steps p.tables e below (T0.setTop (mkF m 80 #[.val (.ref a0), .val (.int p1), .val (.int p2), .val (.int top), .val (.int iv), .val (.int (f_step (iv <<< ((p2 - (8 : Int32)) &&& 31)) top p1)), .val (.int (1 : Int32))] [])) _
        refine XS.iload X0.here hx rfl (hb hby d1_80) rfl ?_
        show Steps p.tables e below (T0.setTop (mkF m 82 #[.val (.ref a0), .val (.int p1), .val (.int p2), .val (.int top), .val (.int iv), .val (.int (f_step (iv <<< ((p2 - (8 : Int32)) &&& 31)) top p1)), .val (.int (1 : Int32))] [(.int (f_step (iv <<< ((p2 - (8 : Int32)) &&& 31)) top p1))])) _
        refine XS.iconst X0.here hx rfl (hb hby d1_82) ?_
        show Steps p.tables e below (T0.setTop (mkF m 83 #[.val (.ref a0), .val (.int p1), .val (.int p2), .val (.int top), .val (.int iv), .val (.int (f_step (iv <<< ((p2 - (8 : Int32)) &&& 31)) top p1)), .val (.int (1 : Int32))] [(.int (1 : Int32)), (.int (f_step (iv <<< ((p2 - (8 : Int32)) &&& 31)) top p1))])) _
        refine XS.ishl X0.here hx rfl (hb hby d1_83) rfl ?_
        show Steps p.tables e below (T0.setTop (mkF m 84 #[.val (.ref a0), .val (.int p1), .val (.int p2), .val (.int top), .val (.int iv), .val (.int (f_step (iv <<< ((p2 - (8 : Int32)) &&& 31)) top p1)), .val (.int (1 : Int32))] [(.int ((f_step (iv <<< ((p2 - (8 : Int32)) &&& 31)) top p1) <<< ((1 : Int32) &&& 31)))])) _
        refine XS.iloadN X0.here hx rfl (hb hby d1_84) rfl ?_
        show Steps p.tables e below (T0.setTop (mkF m 85 #[.val (.ref a0), .val (.int p1), .val (.int p2), .val (.int top), .val (.int iv), .val (.int (f_step (iv <<< ((p2 - (8 : Int32)) &&& 31)) top p1)), .val (.int (1 : Int32))] [(.int p1), (.int ((f_step (iv <<< ((p2 - (8 : Int32)) &&& 31)) top p1) <<< ((1 : Int32) &&& 31)))])) _
        refine XS.ixor X0.here hx rfl (hb hby d1_85) rfl ?_
        show Steps p.tables e below (T0.setTop (mkF m 86 #[.val (.ref a0), .val (.int p1), .val (.int p2), .val (.int top), .val (.int iv), .val (.int (f_step (iv <<< ((p2 - (8 : Int32)) &&& 31)) top p1)), .val (.int (1 : Int32))] [(.int (((f_step (iv <<< ((p2 - (8 : Int32)) &&& 31)) top p1) <<< ((1 : Int32) &&& 31)) ^^^ p1))])) _
        refine XS.goto X0.here hx rfl (pc0 := 86) (pc' := 93) rfl (hb hby d1_86) (by decide) (by decide) ?_
        exact kt)
      have hvx : (((f_step (iv <<< ((p2 - (8 : Int32)) &&& 31)) top p1) <<< ((1 : Int32) &&& 31)) ^^^ p1) = (f_step (f_step (iv <<< ((p2 - (8 : Int32)) &&& 31)) top p1) top p1) := (own_stepF _ _ _ hc77_8)
      rw [← hvx]
      exact pre10
  have pre11 : ∀ t, Steps p.tables e below (T0.setTop (mkF m 77 #[.val (.ref a0), .val (.int p1), .val (.int p2), .val (.int top), .val (.int iv), .val (.int (f_step (f_step (iv <<< ((p2 - (8 : Int32)) &&& 31)) top p1) top p1)), .val (.int (2 : Int32))] [(.int ((f_step (f_step (iv <<< ((p2 - (8 : Int32)) &&& 31)) top p1) top p1) &&& top))])) t → Steps p.tables e below (T0.setTop (mkF m 46 #[.val (.ref a0), .val (.int p1), .val (.int p2), .val (.int top), .val (.int iv), s5, s6] [])) t := fun t kt => pre7 t (by
    show Steps p.tables e below (T0.setTop (mkF m 93 #[.val (.ref a0), .val (.int p1), .val (.int p2), .val (.int top), .val (.int iv), .val (.int (f_step (iv <<< ((p2 - (8 : Int32)) &&& 31)) top p1)), .val (.int (1 : Int32))] [(.int (f_step (f_step (iv <<< ((p2 - (8 : Int32)) &&& 31)) top p1) top p1))])) _
    refine XS.istore X0.here hx rfl (hb hby d1_93) rfl (l' := #[.val (.ref a0), .val (.int p1), .val (.int p2), .val (.int top), .val (.int iv), .val (.int (f_step (f_step (iv <<< ((p2 - (8 : Int32)) &&& 31)) top p1) top p1)), .val (.int (1 : Int32))]) rfl ?_
    show Steps p.tables e below (T0.setTop (mkF m 95 #[.val (.ref a0), .val (.int p1), .val (.int p2), .val (.int top), .val (.int iv), .val (.int (f_step (f_step (iv <<< ((p2 - (8 : Int32)) &&& 31)) top p1) top p1)), .val (.int (1 : Int32))] [])) _
    refine XS.iinc X0.here hx rfl (hb hby d1_95) rfl (l' := #[.val (.ref a0), .val (.int p1), .val (.int p2), .val (.int top), .val (.int iv), .val (.int (f_step (f_step (iv <<< ((p2 - (8 : Int32)) &&& 31)) top p1) top p1)), .val (.int (2 : Int32))]) rfl ?_
    show Steps p.tables e below (T0.setTop (mkF m 98 #[.val (.ref a0), .val (.int p1), .val (.int p2), .val (.int top), .val (.int iv), .val (.int (f_step (f_step (iv <<< ((p2 - (8 : Int32)) &&& 31)) top p1) top p1)), .val (.int (2 : Int32))] [])) _
    refine XS.goto X0.here hx rfl (pc0 := 98) (pc' := 66) rfl (hb hby d1_98) (by decide) (by decide) ?_
    show Steps p.tables e below (T0.setTop (mkF m 66 #[.val (.ref a0), .val (.int p1), .val (.int p2), .val (.int top), .val (.int iv), .val (.int (f_step (f_step (iv <<< ((p2 - (8 : Int32)) &&& 31)) top p1) top p1)), .val (.int (2 : Int32))] [])) _
    refine XS.iload X0.here hx rfl (hb hby d1_66) rfl ?_
    show Steps p.tables e below (T0.setTop (mkF m 68 #[.val (.ref a0), .val (.int p1), .val (.int p2), .val (.int top), .val (.int iv), .val (.int (f_step (f_step (iv <<< ((p2 - (8 : Int32)) &&& 31)) top p1) top p1)), .val (.int (2 : Int32))] [(.int (2 : Int32))])) _
    refine XS.bipush X0.here hx rfl (hb hby d1_68) ?_
    show Steps p.tables e below (T0.setTop (mkF m 70 #[.val (.ref a0), .val (.int p1), .val (.int p2), .val (.int top), .val (.int iv), .val (.int (f_step (f_step (iv <<< ((p2 - (8 : Int32)) &&& 31)) top p1) top p1)), .val (.int (2 : Int32))] [(.int (8 : Int32)), (.int (2 : Int32))])) _
    refine XS.icmpNo X0.here hx rfl (hb hby d1_70) rfl (tlt (by decide : (2 : Int32) < (8 : Int32))).2.1 ?_
    show Steps p.tables e below (T0.setTop (mkF m 73 #[.val (.ref a0), .val (.int p1), .val (.int p2), .val (.int top), .val (.int iv), .val (.int (f_step (f_step (iv <<< ((p2 - (8 : Int32)) &&& 31)) top p1) top p1)), .val (.int (2 : Int32))] [])) _
    refine XS.iload X0.here hx rfl (hb hby d1_73) rfl ?_
    show Steps p.tables e below (T0.setTop (mkF m 75 #[.val (.ref a0), .val (.int p1), .val (.int p2), .val (.int top), .val (.int iv), .val (.int (f_step (f_step (iv <<< ((p2 - (8 : Int32)) &&& 31)) top p1) top p1)), .val (.int (2 : Int32))] [(.int (f_step (f_step (iv <<< ((p2 - (8 : Int32)) &&& 31)) top p1) top p1))])) _
    refine XS.iloadN X0.here hx rfl (hb hby d1_75) rfl ?_
    show Steps p.tables e below (T0.setTop (mkF m 76 #[.val (.ref a0), .val (.int p1), .val (.int p2), .val (.int top), .val (.int iv), .val (.int (f_step (f_step (iv <<< ((p2 - (8 : Int32)) &&& 31)) top p1) top p1)), .val (.int (2 : Int32))] [(.int top), (.int (f_step (f_step (iv <<< ((p2 - (8 : Int32)) &&& 31)) top p1) top p1))])) _
    refine XS.iand X0.here hx rfl (hb hby d1_76) rfl ?_
    exact kt)
  have pre12 : ∀ t, Steps p.tables e below (T0.setTop (mkF m 93 #[.val (.ref a0), .val (.int p1), .val (.int p2), .val (.int top), .val (.int iv), .val (.int (f_step (f_step (iv <<< ((p2 - (8 : Int32)) &&& 31)) top p1) top p1)), .val (.int (2 : Int32))] [(.int (f_step (f_step (f_step (iv <<< ((p2 - (8 : Int32)) &&& 31)) top p1) top p1) top p1))])) t → Steps p.tables e below (T0.setTop (mkF m 46 #[.val (.ref a0), .val (.int p1), .val (.int p2), .val (.int top), .val (.int iv), s5, s6] [])) t := by
    by_cases hc77_13 : ((f_step (f_step (iv <<< ((p2 - (8 : Int32)) &&& 31)) top p1) top p1) &&& top) = (0 : Int32)
    · have pre14 : ∀ t, Steps p.tables e below (T0.setTop (mkF m 93 #[.val (.ref a0), .val (.int p1), .val (.int p2), .val (.int top), .val (.int iv), .val (.int (f_step (f_step (iv <<< ((p2 - (8 : Int32)) &&& 31)) top p1) top p1)), .val (.int (2 : Int32))] [(.int ((f_step (f_step (iv <<< ((p2 - (8 : Int32)) &&& 31)) top p1) top p1) <<< ((1 : Int32) &&& 31)))])) t → Steps p.tables e below (T0.setTop (mkF m 46 #[.val (.ref a0), .val (.int p1), .val (.int p2), .val (.int top), .val (.int iv), s5, s6] [])) t := fun t kt => pre11 t (by
        show Steps p.tables e below (T0.setTop (mkF m 77 #[.val (.ref a0), .val (.int p1), .val (.int p2), .val (.int top), .val (.int iv), .val (.int (f_step (f_step (iv <<< ((p2 - (8 : Int32)) &&& 31)) top p1) top p1)), .val (.int (2 : Int32))] [(.int ((f_step (f_step (iv <<< ((p2 - (8 : Int32)) &&& 31)) top p1) top p1) &&& top))])) _
        refine XS.ifYes X0.here hx rfl (pc0 := 77) (pc' := 89) rfl (hb hby d1_77) rfl ((if0 _ _).trans (teq hc77_13).1) (by decide) (by decide) ?_
        show Steps p.tables e below (T0.setTop (mkF m 89 #[.val (.ref a0), .val (.int p1), .val (.int p2), .val (.int top), .val (.int iv), .val (.int (f_step (f_step (iv <<< ((p2 - (8 : Int32)) &&& 31)) top p1) top p1)), .val (.int (2 : Int32))] [])) _
        refine XS.iload X0.here hx rfl (hb hby d1_89) rfl ?_
        show Steps p.tables e below (T0.setTop (mkF m 91 #[.val (.ref a0), .val (.int p1), .val (.int p2), .val (.int top), .val (.int iv), .val (.int (f_step (f_step (iv <<< ((p2 - (8 : Int32)) &&& 31)) top p1) top p1)), .val (.int (2 : Int32))] [(.int (f_step (f_step (iv <<< ((p2 - (8 : Int32)) &&& 31)) top p1) top p1))])) _
        refine XS.iconst X0.here hx rfl (hb hby d1_91) ?_
        show Steps p.tables e below (T0.setTop (mkF m 92 #[.val (.ref a0), .val (.int p1), .val (.int p2), .val (.int top), .val (.int iv), .val (.int (f_step (f_step (iv <<< ((p2 - (8 : Int32)) &&& 31)) top p1) top p1)), .val (.int (2 : Int32))] [(.int (1 : Int32)), (.int (f_step (f_step (iv <<< ((p2 - (8 : Int32)) &&& 31)) top p1) top p1))])) _
        refine XS.ishl X0.here hx rfl (hb hby d1_92) rfl ?_
        exact kt)
      have hvx : ((f_step (f_step (iv <<< ((p2 - (8 : Int32)) &&& 31)) top p1) top p1) <<< ((1 : Int32) &&& 31)) = (f_step (f_step (f_step (iv <<< ((p2 - (8 : Int32)) &&& 31)) top p1) top p1) top p1) := (own_stepT _ _ _ hc77_13)
      rw [← hvx]
      exact pre14
    · have pre15 : ∀ t, Steps p.tables e below (T0.setTop (mkF m 93 #[.val (.ref a0), .val (.int p1), .val (.int p2), .val (.int top), .val (.int iv), .val (.int (f_step (f_step (iv <<< ((p2 - (8 : Int32)) &&& 31)) top p1) top p1)), .val (.int (2 : Int32))] [(.int (((f_step (f_step (iv <<< ((p2 - (8 : Int32)) &&& 31)) top p1) top p1) <<< ((1 : Int32) &&& 31)) ^^^ p1))])) t → Steps p.tables e below (T0.setTop (mkF m 46 #[.val (.ref a0), .val (.int p1), .val (.int p2), .val (.int top), .val (.int iv), s5, s6] [])) t := fun t kt => pre11 t (by
        show Steps p.tables e below (T0.setTop (mkF m 77 #[.val (.ref a0), .val (.int p1), .val (.int p2), .val (.int top), .val (.int iv), .val (.int (f_step (f_step (iv <<< ((p2 - (8 : Int32)) &&& 31)) top p1) top p1)), .val (.int (2 : Int32))] [(.int ((f_step (f_step (iv <<< ((p2 - (8 : Int32)) &&& 31)) top p1) top p1) &&& top))])) _
        refine XS.ifNo X0.here hx rfl (hb hby d1_77) rfl ((if0 _ _).trans (feq hc77_13).1) ?_
        show Steps p.tables e below (T0.setTop (mkF m 80 #[.val (.ref a0), .val (.int p1), .val (.int p2), .val (.int top), .val (.int iv), .val (.int (f_step (f_step (iv <<< ((p2 - (8 : Int32)) &&& 31)) top p1) top p1)), .val (.int (2 : Int32))] [])) _
        refine XS.iload X0.here hx rfl (hb hby d1_80) rfl ?_
        show Steps p.tables e below (T0.setTop (mkF m 82 #[.val (.ref a0), .val (.int p1), .val (.int p2), .val (.int top), .val (.int iv), .val (.int (f_step (f_step (iv <<< ((p2 - (8 : Int32)) &&& 31)) top p1) top p1)), .val (.int (2 : Int32))] [(.int (f_step (f_step (iv <<< ((p2 - (8 : Int32)) &&& 31)) top p1) top p1))])) _
        refine XS.iconst X0.here hx rfl (hb hby d1_82) ?_
        show Steps p.tables e below (T0.setTop (mkF m 83 #[.val (.ref a0), .val (.int p1), .val (.int p2), .val (.int top), .val (.int iv), .val (.int (f_step (f_step (iv <<< ((p2 - (8 : Int32)) &&& 31)) top p1) top p1)), .val (.int (2 : Int32))] [(.int (1 : Int32)), (.int (f_step (f_step (iv <<< ((p2 - (8 : Int32)) &&& 31)) top p1) top p1))])) _
        refine XS.ishl X0.here hx rfl (hb hby d1_83) rfl ?_
        show Steps p.tables e below (T0.setTop (mkF m 84 #[.val (.ref a0), .val (.int p1), .val (.int p2), .val (.int top), .val (.int iv), .val (.int (f_step (f_step (iv <<< ((p2 - (8 : Int32)) &&& 31)) top p1) top p1)), .val (.int (2 : Int32))] [(.int ((f_step (f_step (iv <<< ((p2 - (8 : Int32)) &&& 31)) top p1) top p1) <<< ((1 : Int32) &&& 31)))])) _
        refine XS.iloadN X0.here hx rfl (hb hby d1_84) rfl ?_
        show Steps p.tables e below (T0.setTop (mkF m 85 #[.val (.ref a0), .val (.int p1), .val (.int p2), .val (.int top), .val (.int iv), .val (.int (f_step (f_step (iv <<< ((p2 - (8 : Int32)) &&& 31)) top p1) top p1)), .val (.int (2 : Int32))] [(.int p1), (.int ((f_step (f_step (iv <<< ((p2 - (8 : Int32)) &&& 31)) top p1) top p1) <<< ((1 : Int32) &&& 31)))])) _
        refine XS.ixor X0.here hx rfl (hb hby d1_85) rfl ?_
        show Steps p.tables e below (T0.setTop (mkF m 86 #[.val (.ref a0), .val (.int p1), .val (.int p2), .val (.int top), .val (.int iv), .val (.int (f_step (f_step (iv <<< ((p2 - (8 : Int32)) &&& 31)) top p1) top p1)), .val (.int (2 : Int32))] [(.int (((f_step (f_step (iv <<< ((p2 - (8 : Int32)) &&& 31)) top p1) top p1) <<< ((1 : Int32) &&& 31)) ^^^ p1))])) _
        refine XS.goto X0.here hx rfl (pc0 := 86) (pc' := 93) rfl (hb hby d1_86) (by decide) (by decide) ?_
        exact kt)
      have hvx : (((f_step (f_step (iv <<< ((p2 - (8 : Int32)) &&& 31)) top p1) top p1) <<< ((1 : Int32) &&& 31)) ^^^ p1) = (f_step (f_step (f_step (iv <<< ((p2 - (8 : Int32)) &&& 31)) top p1) top p1) top p1) := (own_stepF _ _ _ hc77_13)
      rw [← hvx]
      exact pre15
  have pre16 : ∀ t, Steps p.tables e below (T0.setTop (mkF m 77 #[.val (.ref a0), .val (.int p1), .val (.int p2), .val (.int top), .val (.int iv), .val (.int (f_step (f_step (f_step (iv <<< ((p2 - (8 : Int32)) &&& 31)) top p1) top p1) top p1)), .val (.int (3 : Int32))] [(.int ((f_step (f_step (f_step (iv <<< ((p2 - (8 : Int32)) &&& 31)) top p1) top p1) top p1) &&& top))])) t → Steps p.tables e below (T0.setTop (mkF m 46 #[.val (.ref a0), .val (.int p1), .val (.int p2), .val (.int top), .val (.int iv), s5, s6] [])) t := fun t kt => pre12 t (by
    show Steps p.tables e below (T0.setTop (mkF m 93 #[.val (.ref a0), .val (.int p1), .val (.int p2), .val (.int top), .val (.int iv), .val (.int (f_step (f_step (iv <<< ((p2 - (8 : Int32)) &&& 31)) top p1) top p1)), .val (.int (2 : Int32))] [(.int (f_step (f_step (f_step (iv <<< ((p2 - (8 : Int32)) &&& 31)) top p1) top p1) top p1))])) _
    refine XS.istore X0.here hx rfl (hb hby d1_93) rfl (l' := #[.val (.ref a0), .val (.int p1), .val (.int p2), .val (.int top), .val (.int iv), .val (.int (f_step (f_step (f_step (iv <<< ((p2 - (8 : Int32)) &&& 31)) top p1) top p1) top p1)), .val (.int (2 : Int32))]) rfl ?_
    show Steps p.tables e below (T0.setTop (mkF m 95 #[.val (.ref a0), .val (.int p1), .val (.int p2), .val (.int top), .val (.int iv), .val (.int (f_step (f_step (f_step (iv <<< ((p2 - (8 : Int32)) &&& 31)) top p1) top p1) top p1)), .val (.int (2 : Int32))] [])) _
    refine XS.iinc X0.here hx rfl (hb hby d1_95) rfl (l' := #[.val (.ref a0), .val (.int p1), .val (.int p2), .val (.int top), .val (.int iv), .val (.int (f_step (f_step (f_step (iv <<< ((p2 - (8 : Int32)) &&& 31)) top p1) top p1) top p1)), .val (.int (3 : Int32))]) rfl ?_
    show Steps p.tables e below (T0.setTop (mkF m 98 #[.val (.ref a0), .val (.int p1), .val (.int p2), .val (.int top), .val (.int iv), .val (.int (f_step (f_step (f_step (iv <<< ((p2 - (8 : Int32)) &&& 31)) top p1) top p1) top p1)), .val (.int (3 : Int32))] [])) _
    refine XS.goto X0.here hx rfl (pc0 := 98) (pc' := 66) rfl (hb hby d1_98) (by decide) (by decide) ?_
    show Steps p.tables e below (T0.setTop (mkF m 66 #[.val (.ref a0), .val (.int p1), .val (.int p2), .val (.int top), .val (.int iv), .val (.int (f_step (f_step (f_step (iv <<< ((p2 - (8 : Int32)) &&& 31)) top p1) top p1) top p1)), .val (.int (3 : Int32))] [])) _
    refine XS.iload X0.here hx rfl (hb hby d1_66) rfl ?_
    show Steps p.tables e below (T0.setTop (mkF m 68 #[.val (.ref a0), .val (.int p1), .val (.int p2), .val (.int top), .val (.int iv), .val (.int (f_step (f_step (f_step (iv <<< ((p2 - (8 : Int32)) &&& 31)) top p1) top p1) top p1)), .val (.int (3 : Int32))] [(.int (3 : Int32))])) _
    refine XS.bipush X0.here hx rfl (hb hby d1_68) ?_
    show Steps p.tables e below (T0.setTop (mkF m 70 #[.val (.ref a0), .val (.int p1), .val (.int p2), .val (.int top), .val (.int iv), .val (.int (f_step (f_step (f_step (iv <<< ((p2 - (8 : Int32)) &&& 31)) top p1) top p1) top p1)), .val (.int (3 : Int32))] [(.int (8 : Int32)), (.int (3 : Int32))])) _
    refine XS.icmpNo X0.here hx rfl (hb hby d1_70) rfl (tlt (by decide : (3 : Int32) < (8 : Int32))).2.1 ?_
    show Steps p.tables e below (T0.setTop (mkF m 73 #[.val (.ref a0), .val (.int p1), .val (.int p2), .val (.int top), .val (.int iv), .val (.int (f_step (f_step (f_step (iv <<< ((p2 - (8 : Int32)) &&& 31)) top p1) top p1) top p1)), .val (.int (3 : Int32))] [])) _
    refine XS.iload X0.here hx rfl (hb hby d1_73) rfl ?_
    show Steps p.tables e below (T0.setTop (mkF m 75 #[.val (.ref a0), .val (.int p1), .val (.int p2), .val (.int top), .val (.int iv), .val (.int (f_step (f_step (f_step (iv <<< ((p2 - (8 : Int32)) &&& 31)) top p1) top p1) top p1)), .val (.int (3 : Int32))] [(.int (f_step (f_step (f_step (iv <<< ((p2 - (8 : Int32)) &&& 31)) top p1) top p1) top p1))])) _
    refine XS.iloadN X0.here hx rfl (hb hby d1_75) rfl ?_
    show Steps p.tables e below (T0.setTop (mkF m 76 #[.val (.ref a0), .val (.int p1), .val (.int p2), .val (.int top), .val (.int iv), .val (.int (f_step (f_step (f_step (iv <<< ((p2 - (8 : Int32)) &&& 31)) top p1) top p1) top p1)), .val (.int (3 : Int32))] [(.int top), (.int (f_step (f_step (f_step (iv <<< ((p2 - (8 : Int32)) &&& 31)) top p1) top p1) top p1))])) _
    refine XS.iand X0.here hx rfl (hb hby d1_76) rfl ?_
    exact kt)
  have pre17 : ∀ t, Steps p.tables e below (T0.setTop (mkF m 93 #[.val (.ref a0), .val (.int p1), .val (.int p2), .val (.int top), .val (.int iv), .val (.int (f_step (f_step (f_step (iv <<< ((p2 - (8 : Int32)) &&& 31)) top p1) top p1) top p1)), .val (.int (3 : Int32))] [(.int (f_step (f_step (f_step (f_step (iv <<< ((p2 - (8 : Int32)) &&& 31)) top p1) top p1) top p1) top p1))])) t → Steps p.tables e below (T0.setTop (mkF m 46 #[.val (.ref a0), .val (.int p1), .val (.int p2), .val (.int top), .val (.int iv), s5, s6] [])) t := by
    by_cases hc77_18 : ((f_step (f_step (f_step (iv <<< ((p2 - (8 : Int32)) &&& 31)) top p1) top p1) top p1) &&& top) = (0 : Int32)
    · have pre19 : ∀ t, Steps p.tables e below (T0.setTop (mkF m 93 #[.val (.ref a0), .val (.int p1), .val (.int p2), .val (.int top), .val (.int iv), .val (.int (f_step (f_step (f_step (iv <<< ((p2 - (8 : Int32)) &&& 31)) top p1) top p1) top p1)), .val (.int (3 : Int32))] [(.int ((f_step (f_step (f_step (iv <<< ((p2 - (8 : Int32)) &&& 31)) top p1) top p1) top p1) <<< ((1 : Int32) &&& 31)))])) t → Steps p.tables e below (T0.setTop (mkF m 46 #[.val (.ref a0), .val (.int p1), .val (.int p2), .val (.int top), .val (.int iv), s5, s6] [])) t := fun t kt => pre16 t (by
        show Steps p.tables e below (T0.setTop (mkF m 77 #[.val (.ref a0), .val (.int p1), .val (.int p2), .val (.int top), .val (.int iv), .val (.int (f_step (f_step (f_step (iv <<< ((p2 - (8 : Int32)) &&& 31)) top p1) top p1) top p1)), .val (.int (3 : Int32))] [(.int ((f_step (f_step (f_step (iv <<< ((p2 - (8 : Int32)) &&& 31)) top p1) top p1) top p1) &&& top))])) _
        refine XS.ifYes X0.here hx rfl (pc0 := 77) (pc' := 89) rfl (hb hby d1_77) rfl ((if0 _ _).trans (teq hc77_18).1) (by decide) (by decide) ?_
        show Steps p.tables e below (T0.setTop (mkF m 89 #[.val (.ref a0), .val (.int p1), .val (.int p2), .val (.int top), .val (.int iv), .val (.int (f_step (f_step (f_step (iv <<< ((p2 - (8 : Int32)) &&& 31)) top p1) top p1) top p1)), .val (.int (3 : Int32))] [])) _
        refine XS.iload X0.here hx rfl (hb hby d1_89) rfl ?_
        show Steps p.tables e below (T0.setTop (mkF m 91 #[.val (.ref a0), .val (.int p1), .val (.int p2), .val (.int top), .val (.int iv), .val (.int (f_step (f_step (f_step (iv <<< ((p2 - (8 : Int32)) &&& 31)) top p1) top p1) top p1)), .val (.int (3 : Int32))] [(.int (f_step (f_step (f_step (iv <<< ((p2 - (8 : Int32)) &&& 31)) top p1) top p1) top p1))])) _
        refine XS.iconst X0.here hx rfl (hb hby d1_91) ?_
        show Steps p.tables e below (T0.setTop (mkF m 92 #[.val (.ref a0), .val (.int p1), .val (.int p2), .val (.int top), .val (.int iv), .val (.int (f_step (f_step (f_step (iv <<< ((p2 - (8 : Int32)) &&& 31)) top p1) top p1) top p1)), .val (.int (3 : Int32))] [(.int (1 : Int32)), (.int (f_step (f_step (f_step (iv <<< ((p2 - (8 : Int32)) &&& 31)) top p1) top p1) top p1))])) _
        refine XS.ishl X0.here hx rfl (hb hby d1_92) rfl ?_
        exact kt)
      have hvx : ((f_step (f_step (f_step (iv <<< ((p2 - (8 : Int32)) &&& 31)) top p1) top p1) top p1) <<< ((1 : Int32) &&& 31)) = (f_step (f_step (f_step (f_step (iv <<< ((p2 - (8 : Int32)) &&& 31)) top p1) top p1) top p1) top p1) := (own_stepT _ _ _ hc77_18)
      rw [← hvx]
      exact pre19
    · have pre20 : ∀ t, Steps p.tables e below (T0.setTop (mkF m 93 #[.val (.ref a0), .val (.int p1), .val (.int p2), .val (.int top), .val (.int iv), .val (.int (f_step (f_step (f_step (iv <<< ((p2 - (8 : Int32)) &&& 31)) top p1) top p1) top p1)), .val (.int (3 : Int32))] [(.int (((f_step (f_step (f_step (iv <<< ((p2 - (8 : Int32)) &&& 31)) top p1) top p1) top p1) <<< ((1 : Int32) &&& 31)) ^^^ p1))])) t → Steps p.tables e below (T0.setTop (mkF m 46 #[.val (.ref a0), .val (.int p1), .val (.int p2), .val (.int top), .val (.int iv), s5, s6] [])) t := fun t kt => pre16 t (by
        show Steps p.tables e below (T0.setTop (mkF m 77 #[.val (.ref a0), .val (.int p1), .val (.int p2), .val (.int top), .val (.int iv), .val (.int (f_step (f_step (f_step (iv <<< ((p2 - (8 : Int32)) &&& 31)) top p1) top p1) top p1)), .val (.int (3 : Int32))] [(.int ((f_step (f_step (f_step (iv <<< ((p2 - (8 : Int32)) &&& 31)) top p1) top p1) top p1) &&& top))])) _
        refine XS.ifNo X0.here hx rfl (hb hby d1_77) rfl ((if0 _ _).trans (feq hc77_18).1) ?_
        show Steps p.tables e below (T0.setTop (mkF m 80 #[.val (.ref a0), .val (.int p1), .val (.int p2), .val (.int top), .val (.int iv), .val (.int (f_step (f_step (f_step (iv <<< ((p2 - (8 : Int32)) &&& 31)) top p1) top p1) top p1)), .val (.int (3 : Int32))] [])) _
        refine XS.iload X0.here hx rfl (hb hby d1_80) rfl ?_
        show Steps p.tables e below (T0.setTop (mkF m 82 #[.val (.ref a0), .val (.int p1), .val (.int p2), .val (.int top), .val (.int iv), .val (.int (f_step (f_step (f_step (iv <<< ((p2 - (8 : Int32)) &&& 31)) top p1) top p1) top p1)), .val (.int (3 : Int32))] [(.int (f_step (f_step (f_step (iv <<< ((p2 - (8 : Int32)) &&& 31)) top p1) top p1) top p1))])) _
        refine XS.iconst X0.here hx rfl (hb hby d1_82) ?_
        show Steps p.tables e below (T0.setTop (mkF m 83 #[.val (.ref a0), .val (.int p1), .val (.int p2), .val (.int top), .val (.int iv), .val (.int (f_step (f_step (f_step (iv <<< ((p2 - (8 : Int32)) &&& 31)) top p1) top p1) top p1)), .val (.int (3 : Int32))] [(.int (1 : Int32)), (.int (f_step (f_step (f_step (iv <<< ((p2 - (8 : Int32)) &&& 31)) top p1) top p1) top p1))])) _
        refine XS.ishl X0.here hx rfl (hb hby d1_83) rfl ?_
        show Steps p.tables e below (T0.setTop (mkF m 84 #[.val (.ref a0), .val (.int p1), .val (.int p2), .val (.int top), .val (.int iv), .val (.int (f_step (f_step (f_step (iv <<< ((p2 - (8 : Int32)) &&& 31)) top p1) top p1) top p1)), .val (.int (3 : Int32))] [(.int ((f_step (f_step (f_step (iv <<< ((p2 - (8 : Int32)) &&& 31)) top p1) top p1) top p1) <<< ((1 : Int32) &&& 31)))])) _
        refine XS.iloadN X0.here hx rfl (hb hby d1_84) rfl ?_
        show Steps p.tables e below (T0.setTop (mkF m 85 #[.val (.ref a0), .val (.int p1), .val (.int p2), .val (.int top), .val (.int iv), .val (.int (f_step (f_step (f_step (iv <<< ((p2 - (8 : Int32)) &&& 31)) top p1) top p1) top p1)), .val (.int (3 : Int32))] [(.int p1), (.int ((f_step (f_step (f_step (iv <<< ((p2 - (8 : Int32)) &&& 31)) top p1) top p1) top p1) <<< ((1 : Int32) &&& 31)))])) _
        refine XS.ixor X0.here hx rfl (hb hby d1_85) rfl ?_
        show Steps p.tables e below (T0.setTop (mkF m 86 #[.val (.ref a0), .val (.int p1), .val (.int p2), .val (.int top), .val (.int iv), .val (.int (f_step (f_step (f_step (iv <<< ((p2 - (8 : Int32)) &&& 31)) top p1) top p1) top p1)), .val (.int (3 : Int32))] [(.int (((f_step (f_step (f_step (iv <<< ((p2 - (8 : Int32)) &&& 31)) top p1) top p1) top p1) <<< ((1 : Int32) &&& 31)) ^^^ p1))])) _
        refine XS.goto X0.here hx rfl (pc0 := 86) (pc' := 93) rfl (hb hby d1_86) (by decide) (by decide) ?_
        exact kt)
      have hvx : (((f_step (f_step (f_step (iv <<< ((p2 - (8 : Int32)) &&& 31)) top p1) top p1) top p1) <<< ((1 : Int32) &&& 31)) ^^^ p1) = (f_step (f_step (f_step (f_step (iv <<< ((p2 - (8 : Int32)) &&& 31)) top p1) top p1) top p1) top p1) := (own_stepF _ _ _ hc77_18)
      rw [← hvx]
      exact pre20
  have pre21 : ∀ t, Steps p.tables e below (T0.setTop (mkF m 77 #[.val (.ref a0), .val (.int p1), .val (.int p2), .val (.int top), .val (.int iv), .val (.int (f_step (f_step (f_step (f_step (iv <<< ((p2 - (8 : Int32)) &&& 31)) top p1) top p1) top p1) top p1)), .val (.int (4 : Int32))] [(.int ((f_step (f_step (f_step (f_step (iv <<< ((p2 - (8 : Int32)) &&& 31)) top p1) top p1) top p1) top p1) &&& top))])) t → Steps p.tables e below (T0.setTop (mkF m 46 #[.val (.ref a0), .val (.int p1), .val (.int p2), .val (.int top), .val (.int iv), s5, s6] [])) t := fun t kt => pre17 t (by
    show Steps p.tables e below (T0.setTop (mkF m 93 #[.val (.ref a0), .val (.int p1), .val (.int p2), .val (.int top), .val (.int iv), .val (.int (f_step (f_step (f_step (iv <<< ((p2 - (8 : Int32)) &&& 31)) top p1) top p1) top p1)), .val (.int (3 : Int32))] [(.int (f_step (f_step (f_step (f_step (iv <<< ((p2 - (8 : Int32)) &&& 31)) top p1) top p1) top p1) top p1))])) _
    refine XS.istore X0.here hx rfl (hb hby d1_93) rfl (l' := #[.val (.ref a0), .val (.int p1), .val (.int p2), .val (.int top), .val (.int iv), .val (.int (f_step (f_step (f_step (f_step (iv <<< ((p2 - (8 : Int32)) &&& 31)) top p1) top p1) top p1) top p1)), .val (.int (3 : Int32))]) rfl ?_
    show Steps p.tables e below (T0.setTop (mkF m 95 #[.val (.ref a0), .val (.int p1), .val (.int p2), .val (.int top), .val (.int iv), .val (.int (f_step (f_step (f_step (f_step (iv <<< ((p2 - (8 : Int32)) &&& 31)) top p1) top p1) top p1) top p1)), .val (.int (3 : Int32))] [])) _
    refine XS.iinc X0.here hx rfl (hb hby d1_95) rfl (l' := #[.val (.ref a0), .val (.int p1), .val (.int p2), .val (.int top), .val (.int iv), .val (.int (f_step (f_step (f_step (f_step (iv <<< ((p2 - (8 : Int32)) &&& 31)) top p1) top p1) top p1) top p1)), .val (.int (4 : Int32))]) rfl ?_
    show Steps p.tables e below (T0.setTop (mkF m 98 #[.val (.ref a0), .val (.int p1), .val (.int p2), .val (.int top), .val (.int iv), .val (.int (f_step (f_step (f_step (f_step (iv <<< ((p2 - (8 : Int32)) &&& 31)) top p1) top p1) top p1) top p1)), .val (.int (4 : Int32))] [])) _
    refine XS.goto X0.here hx rfl (pc0 := 98) (pc' := 66) rfl (hb hby d1_98) (by decide) (by decide) ?_
    show Steps p.tables e below (T0.setTop (mkF m 66 #[.val (.ref a0), .val (.int p1), .val (.int p2), .val (.int top), .val (.int iv), .val (.int (f_step (f_step (f_step (f_step (iv <<< ((p2 - (8 : Int32)) &&& 31)) top p1) top p1) top p1) top p1)), .val (.int (4 : Int32))] [])) _
    refine XS.iload X0.here hx rfl (hb hby d1_66) rfl ?_
    show Steps p.tables e below (T0.setTop (mkF m 68 #[.val (.ref a0), .val (.int p1), .val (.int p2), .val (.int top), .val (.int iv), .val (.int (f_step (f_step (f_step (f_step (iv <<< ((p2 - (8 : Int32)) &&& 31)) top p1) top p1) top p1) top p1)), .val (.int (4 : Int32))] [(.int (4 : Int32))])) _
    refine XS.bipush X0.here hx rfl (hb hby d1_68) ?_
    show Steps p.tables e below (T0.setTop (mkF m 70 #[.val (.ref a0), .val (.int p1), .val (.int p2), .val (.int top), .val (.int iv), .val (.int (f_step (f_step (f_step (f_step (iv <<< ((p2 - (8 : Int32)) &&& 31)) top p1) top p1) top p1) top p1)), .val (.int (4 : Int32))] [(.int (8 : Int32)), (.int (4 : Int32))])) _
    refine XS.icmpNo X0.here hx rfl (hb hby d1_70) rfl (tlt (by decide : (4 : Int32) < (8 : Int32))).2.1 ?_
    show Steps p.tables e below (T0.setTop (mkF m 73 #[.val (.ref a0), .val (.int p1), .val (.int p2), .val (.int top), .val (.int iv), .val (.int (f_step (f_step (f_step (f_step (iv <<< ((p2 - (8 : Int32)) &&& 31)) top p1) top p1) top p1) top p1)), .val (.int (4 : Int32))] [])) _
    refine XS.iload X0.here hx rfl (hb hby d1_73) rfl ?_
    show Steps p.tables e below (T0.setTop (mkF m 75 #[.val (.ref a0), .val (.int p1), .val (.int p2), .val (.int top), .val (.int iv), .val (.int (f_step (f_step (f_step (f_step (iv <<< ((p2 - (8 : Int32)) &&& 31)) top p1) top p1) top p1) top p1)), .val (.int (4 : Int32))] [(.int (f_step (f_step (f_step (f_step (iv <<< ((p2 - (8 : Int32)) &&& 31)) top p1) top p1) top p1) top p1))])) _
    refine XS.iloadN X0.here hx rfl (hb hby d1_75) rfl ?_
    show Steps p.tables e below (T0.setTop (mkF m 76 #[.val (.ref a0), .val (.int p1), .val (.int p2), .val (.int top), .val (.int iv), .val (.int (f_step (f_step (f_step (f_step (iv <<< ((p2 - (8 : Int32)) &&& 31)) top p1) top p1) top p1) top p1)), .val (.int (4 : Int32))] [(.int top), (.int (f_step (f_step (f_step (f_step (iv <<< ((p2 - (8 : Int32)) &&& 31)) top p1) top p1) top p1) top p1))])) _
    refine XS.iand X0.here hx rfl (hb hby d1_76) rfl ?_
    exact kt)
  have pre22 : ∀ t, Steps p.tables e below (T0.setTop (mkF m 93 #[.val (.ref a0), .val (.int p1), .val (.int p2), .val (.int top), .val (.int iv), .val (.int (f_step (f_step (f_step (f_step (iv <<< ((p2 - (8 : Int32)) &&& 31)) top p1) top p1) top p1) top p1)), .val (.int (4 : Int32))] [(.int (f_step (f_step (f_step (f_step (f_step (iv <<< ((p2 - (8 : Int32)) &&& 31)) top p1) top p1) top p1) top p1) top p1))])) t → Steps p.tables e below (T0.setTop (mkF m 46 #[.val (.ref a0), .val (.int p1), .val (.int p2), .val (.int top), .val (.int iv), s5, s6] [])) t := by
    by_cases hc77_23 : ((f_step (f_step (f_step (f_step (iv <<< ((p2 - (8 : Int32)) &&& 31)) top p1) top p1) top p1) top p1) &&& top) = (0 : Int32)
    · have pre24 : ∀ t, Steps p.tables e below (T0.setTop (mkF m 93 #[.val (.ref a0), .val (.int p1), .val (.int p2), .val (.int top), .val (.int iv), .val (.int (f_step (f_step (f_step (f_step (iv <<< ((p2 - (8 : Int32)) &&& 31)) top p1) top p1) top p1) top p1)), .val (.int (4 : Int32))] [(.int ((f_step (f_step (f_step (f_step (iv <<< ((p2 - (8 : Int32)) &&& 31)) top p1) top p1) top p1) top p1) <<< ((1 : Int32) &&& 31)))])) t → Steps p.tables e below (T0.setTop (mkF m 46 #[.val (.ref a0), .val (.int p1), .val (.int p2), .val (.int top), .val (.int iv), s5, s6] [])) t := fun t kt => pre21 t (by
        show Steps p.tables e below (T0.setTop (mkF m 77 #[.val (.ref a0), .val (.int p1), .val (.int p2), .val (.int top), .val (.int iv), .val (.int (f_step (f_step (f_step (f_step (iv <<< ((p2 - (8 : Int32)) &&& 31)) top p1) top p1) top p1) top p1)), .val (.int (4 : Int32))] [(.int ((f_step (f_step (f_step (f_step (iv <<< ((p2 - (8 : Int32)) &&& 31)) top p1) top p1) top p1) top p1) &&& top))])) _
        refine XS.ifYes X0.here hx rfl (pc0 := 77) (pc' := 89) rfl (hb hby d1_77) rfl ((if0 _ _).trans (teq hc77_23).1) (by decide) (by decide) ?_
        show Steps p.tables e below (T0.setTop (mkF m 89 #[.val (.ref a0), .val (.int p1), .val (.int p2), .val (.int top), .val (.int iv), .val (.int (f_step (f_step (f_step (f_step (iv <<< ((p2 - (8 : Int32)) &&& 31)) top p1) top p1) top p1) top p1)), .val (.int (4 : Int32))] [])) _
        refine XS.iload X0.here hx rfl (hb hby d1_89) rfl ?_
        show Steps p.tables e below (T0.setTop (mkF m 91 #[.val (.ref a0), .val (.int p1), .val (.int p2), .val (.int top), .val (.int iv), .val (.int (f_step (f_step (f_step (f_step (iv <<< ((p2 - (8 : Int32)) &&& 31)) top p1) top p1) top p1) top p1)), .val (.int (4 : Int32))] [(.int (f_step (f_step (f_step (f_step (iv <<< ((p2 - (8 : Int32)) &&& 31)) top p1) top p1) top p1) top p1))])) _
        refine XS.iconst X0.here hx rfl (hb hby d1_91) ?_
        show Steps p.tables e below (T0.setTop (mkF m 92 #[.val (.ref a0), .val (.int p1), .val (.int p2), .val (.int top), .val (.int iv), .val (.int (f_step (f_step (f_step (f_step (iv <<< ((p2 - (8 : Int32)) &&& 31)) top p1) top p1) top p1) top p1)), .val (.int (4 : Int32))] [(.int (1 : Int32)), (.int (f_step (f_step (f_step (f_step (iv <<< ((p2 - (8 : Int32)) &&& 31)) top p1) top p1) top p1) top p1))])) _
        refine XS.ishl X0.here hx rfl (hb hby d1_92) rfl ?_
        exact kt)
      have hvx : ((f_step (f_step (f_step (f_step (iv <<< ((p2 - (8 : Int32)) &&& 31)) top p1) top p1) top p1) top p1) <<< ((1 : Int32) &&& 31)) = (f_step (f_step (f_step (f_step (f_step (iv <<< ((p2 - (8 : Int32)) &&& 31)) top p1) top p1) top p1) top p1) top p1) := (own_stepT _ _ _ hc77_23)
      rw [← hvx]
      exact pre24
    · have pre25 : ∀ t, Steps p.tables e below (T0.setTop (mkF m 93 #[.val (.ref a0), .val (.int p1), .val (.int p2), .val (.int top), .val (.int iv), .val (.int (f_step (f_step (f_step (f_step (iv <<< ((p2 - (8 : Int32)) &&& 31)) top p1) top p1) top p1) top p1)), .val (.int (4 : Int32))] [(.int (((f_step (f_step (f_step (f_step (iv <<< ((p2 - (8 : Int32)) &&& 31)) top p1) top p1) top p1) top p1) <<< ((1 : Int32) &&& 31)) ^^^ p1))])) t → Steps p.tables e below (T0.setTop (mkF m 46 #[.val (.ref a0), .val (.int p1), .val (.int p2), .val (.int top), .val (.int iv), s5, s6] [])) t := fun t kt => pre21 t (by
        show Steps p.tables e below (T0.setTop (mkF m 77 #[.val (.ref a0), .val (.int p1), .val (.int p2), .val (.int top), .val (.int iv), .val (.int (f_step (f_step (f_step (f_step (iv <<< ((p2 - (8 : Int32)) &&& 31)) top p1) top p1) top p1) top p1)), .val (.int (4 : Int32))] [(.int ((f_step (f_step (f_step (f_step (iv <<< ((p2 - (8 : Int32)) &&& 31)) top p1) top p1) top p1) top p1) &&& top))])) _
        refine XS.ifNo X0.here hx rfl (hb hby d1_77) rfl ((if0 _ _).trans (feq hc77_23).1) ?_
        show Steps p.tables e below (T0.setTop (mkF m 80 #[.val (.ref a0), .val (.int p1), .val (.int p2), .val (.int top), .val (.int iv), .val (.int (f_step (f_step (f_step (f_step (iv <<< ((p2 - (8 : Int32)) &&& 31)) top p1) top p1) top p1) top p1)), .val (.int (4 : Int32))] [])) _
        refine XS.iload X0.here hx rfl (hb hby d1_80) rfl ?_
        show Steps p.tables e below (T0.setTop (mkF m 82 #[.val (.ref a0), .val (.int p1), .val (.int p2), .val (.int top), .val (.int iv), .val (.int (f_step (f_step (f_step (f_step (iv <<< ((p2 - (8 : Int32)) &&& 31)) top p1) top p1) top p1) top p1)), .val (.int (4 : Int32))] [(.int (f_step (f_step (f_step (f_step (iv <<< ((p2 - (8 : Int32)) &&& 31)) top p1) top p1) top p1) top p1))])) _
        refine XS.iconst X0.here hx rfl (hb hby d1_82) ?_
        show Steps p.tables e below (T0.setTop (mkF m 83 #[.val (.ref a0), .val (.int p1), .val (.int p2), .val (.int top), .val (.int iv), .val (.int (f_step (f_step (f_step (f_step (iv <<< ((p2 - (8 : Int32)) &&& 31)) top p1) top p1) top p1) top p1)), .val (.int (4 : Int32))] [(.int (1 : Int32)), (.int (f_step (f_step (f_step (f_step (iv <<< ((p2 - (8 : Int32)) &&& 31)) top p1) top p1) top p1) top p1))])) _
        refine XS.ishl X0.here hx rfl (hb hby d1_83) rfl ?_
        show Steps p.tables e below (T0.setTop (mkF m 84 #[.val (.ref a0), .val (.int p1), .val (.int p2), .val (.int top), .val (.int iv), .val (.int (f_step (f_step (f_step (f_step (iv <<< ((p2 - (8 : Int32)) &&& 31)) top p1) top p1) top p1) top p1)), .val (.int (4 : Int32))] [(.int ((f_step (f_step (f_step (f_step (iv <<< ((p2 - (8 : Int32)) &&& 31)) top p1) top p1) top p1) top p1) <<< ((1 : Int32) &&& 31)))])) _
        refine XS.iloadN X0.here hx rfl (hb hby d1_84) rfl ?_
        show Steps p.tables e below (T0.setTop (mkF m 85 #[.val (.ref a0), .val (.int p1), .val (.int p2), .val (.int top), .val (.int iv), .val (.int (f_step (f_step (f_step (f_step (iv <<< ((p2 - (8 : Int32)) &&& 31)) top p1) top p1) top p1) top p1)), .val (.int (4 : Int32))] [(.int p1), (.int ((f_step (f_step (f_step (f_step (iv <<< ((p2 - (8 : Int32)) &&& 31)) top p1) top p1) top p1) top p1) <<< ((1 : Int32) &&& 31)))])) _
        refine XS.ixor X0.here hx rfl (hb hby d1_85) rfl ?_
        show Steps p.tables e below (T0.setTop (mkF m 86 #[.val (.ref a0), .val (.int p1), .val (.int p2), .val (.int top), .val (.int iv), .val (.int (f_step (f_step (f_step (f_step (iv <<< ((p2 - (8 : Int32)) &&& 31)) top p1) top p1) top p1) top p1)), .val (.int (4 : Int32))] [(.int (((f_step (f_step (f_step (f_step (iv <<< ((p2 - (8 : Int32)) &&& 31)) top p1) top p1) top p1) top p1) <<< ((1 : Int32) &&& 31)) ^^^ p1))])) _
        refine XS.goto X0.here hx rfl (pc0 := 86) (pc' := 93) rfl (hb hby d1_86) (by decide) (by decide) ?_
        exact kt)
      have hvx : (((f_step (f_step (f_step (f_step (iv <<< ((p2 - (8 : Int32)) &&& 31)) top p1) top p1) top p1) top p1) <<< ((1 : Int32) &&& 31)) ^^^ p1) = (f_step (f_step (f_step (f_step (f_step (iv <<< ((p2 - (8 : Int32)) &&& 31)) top p1) top p1) top p1) top p1) top p1) := (own_stepF _ _ _ hc77_23)
      rw [← hvx]
      exact pre25
  have pre26 : ∀ t, Steps p.tables e below (T0.setTop (mkF m 77 #[.val (.ref a0), .val (.int p1), .val (.int p2), .val (.int top), .val (.int iv), .val (.int (f_step (f_step (f_step (f_step (f_step (iv <<< ((p2 - (8 : Int32)) &&& 31)) top p1) top p1) top p1) top p1) top p1)), .val (.int (5 : Int32))] [(.int ((f_step (f_step (f_step (f_step (f_step (iv <<< ((p2 - (8 : Int32)) &&& 31)) top p1) top p1) top p1) top p1) top p1) &&& top))])) t → Steps p.tables e below (T0.setTop (mkF m 46 #[.val (.ref a0), .val (.int p1), .val (.int p2), .val (.int top), .val (.int iv), s5, s6] [])) t := fun t kt => pre22 t (by
    show Steps p.tables e below (T0.setTop (mkF m 93 #[.val (.ref a0), .val (.int p1), .val (.int p2), .val (.int top), .val (.int iv), .val (.int (f_step (f_step (f_step (f_step (iv <<< ((p2 - (8 : Int32)) &&& 31)) top p1) top p1) top p1) top p1)), .val (.int (4 : Int32))] [(.int (f_step (f_step (f_step (f_step (f_step (iv <<< ((p2 - (8 : Int32)) &&& 31)) top p1) top p1) top p1) top p1) top p1))])) _
    refine XS.istore X0.here hx rfl (hb hby d1_93) rfl (l' := #[.val (.ref a0), .val (.int p1), .val (.int p2), .val (.int top), .val (.int iv), .val (.int (f_step (f_step (f_step (f_step (f_step (iv <<< ((p2 - (8 : Int32)) &&& 31)) top p1) top p1) top p1) top p1) top p1)), .val (.int (4 : Int32))]) rfl ?_
    show Steps p.tables e below (T0.setTop (mkF m 95 #[.val (.ref a0), .val (.int p1), .val (.int p2), .val (.int top), .val (.int iv), .val (.int (f_step (f_step (f_step (f_step (f_step (iv <<< ((p2 - (8 : Int32)) &&& 31)) top p1) top p1) top p1) top p1) top p1)), .val (.int (4 : Int32))] [])) _
    refine XS.iinc X0.here hx rfl (hb hby d1_95) rfl (l' := #[.val (.ref a0), .val (.int p1), .val (.int p2), .val (.int top), .val (.int iv), .val (.int (f_step (f_step (f_step (f_step (f_step (iv <<< ((p2 - (8 : Int32)) &&& 31)) top p1) top p1) top p1) top p1) top p1)), .val (.int (5 : Int32))]) rfl ?_
    show Steps p.tables e below (T0.setTop (mkF m 98 #[.val (.ref a0), .val (.int p1), .val (.int p2), .val (.int top), .val (.int iv), .val (.int (f_step (f_step (f_step (f_step (f_step (iv <<< ((p2 - (8 : Int32)) &&& 31)) top p1) top p1) top p1) top p1) top p1)), .val (.int (5 : Int32))] [])) _
    refine XS.goto X0.here hx rfl (pc0 := 98) (pc' := 66) rfl (hb hby d1_98) (by decide) (by decide) ?_
    show Steps p.tables e below (T0.setTop (mkF m 66 #[.val (.ref a0), .val (.int p1), .val (.int p2), .val (.int top), .val (.int iv), .val (.int (f_step (f_step (f_step (f_step (f_step (iv <<< ((p2 - (8 : Int32)) &&& 31)) top p1) top p1) top p1) top p1) top p1)), .val (.int (5 : Int32))] [])) _
    refine XS.iload X0.here hx rfl (hb hby d1_66) rfl ?_
    show Steps p.tables e below (T0.setTop (mkF m 68 #[.val (.ref a0), .val (.int p1), .val (.int p2), .val (.int top), .val (.int iv), .val (.int (f_step (f_step (f_step (f_step (f_step (iv <<< ((p2 - (8 : Int32)) &&& 31)) top p1) top p1) top p1) top p1) top p1)), .val (.int (5 : Int32))] [(.int (5 : Int32))])) _
    refine XS.bipush X0.here hx rfl (hb hby d1_68) ?_
    show Steps p.tables e below (T0.setTop (mkF m 70 #[.val (.ref a0), .val (.int p1), .val (.int p2), .val (.int top), .val (.int iv), .val (.int (f_step (f_step (f_step (f_step (f_step (iv <<< ((p2 - (8 : Int32)) &&& 31)) top p1) top p1) top p1) top p1) top p1)), .val (.int (5 : Int32))] [(.int (8 : Int32)), (.int (5 : Int32))])) _
    refine XS.icmpNo X0.here hx rfl (hb hby d1_70) rfl (tlt (by decide : (5 : Int32) < (8 : Int32))).2.1 ?_
    show Steps p.tables e below (T0.setTop (mkF m 73 #[.val (.ref a0), .val (.int p1), .val (.int p2), .val (.int top), .val (.int iv), .val (.int (f_step (f_step (f_step (f_step (f_step (iv <<< ((p2 - (8 : Int32)) &&& 31)) top p1) top p1) top p1) top p1) top p1)), .val (.int (5 : Int32))] [])) _
    refine XS.iload X0.here hx rfl (hb hby d1_73) rfl ?_
    show Steps p.tables e below (T0.setTop (mkF m 75 #[.val (.ref a0), .val (.int p1), .val (.int p2), .val (.int top), .val (.int iv), .val (.int (f_step (f_step (f_step (f_step (f_step (iv <<< ((p2 - (8 : Int32)) &&& 31)) top p1) top p1) top p1) top p1) top p1)), .val (.int (5 : Int32))] [(.int (f_step (f_step (f_step (f_step (f_step (iv <<< ((p2 - (8 : Int32)) &&& 31)) top p1) top p1) top p1) top p1) top p1))])) _
    refine XS.iloadN X0.here hx rfl (hb hby d1_75) rfl ?_
    show Steps p.tables e below (T0.setTop (mkF m 76 #[.val (.ref a0), .val (.int p1), .val (.int p2), .val (.int top), .val (.int iv), .val (.int (f_step (f_step (f_step (f_step (f_step (iv <<< ((p2 - (8 : Int32)) &&& 31)) top p1) top p1) top p1) top p1) top p1)), .val (.int (5 : Int32))] [(.int top), (.int (f_step (f_step (f_step (f_step (f_step (iv <<< ((p2 - (8 : Int32)) &&& 31)) top p1) top p1) top p1) top p1) top p1))])) _
    refine XS.iand X0.here hx rfl (hb hby d1_76) rfl ?_
    exact kt)
  have pre27 : ∀ t, Steps p.tables e below (T0.setTop (mkF m 93 #[.val (.ref a0), .val (.int p1), .val (.int p2), .val (.int top), .val (.int iv), .val (.int (f_step (f_step (f_step (f_step (f_step (iv <<< ((p2 - (8 : Int32)) &&& 31)) top p1) top p1) top p1) top p1) top p1)), .val (.int (5 : Int32))] [(.int (f_step (f_step (f_step (f_step (f_step (f_step (iv <<< ((p2 - (8 : Int32)) &&& 31)) top p1) top p1) top p1) top p1) top p1) top p1))])) t → Steps p.tables e below (T0.setTop (mkF m 46 #[.val (.ref a0), .val (.int p1), .val (.int p2), .val (.int top), .val (.int iv), s5, s6] [])) t := by
    by_cases hc77_28 : ((f_step (f_step (f_step (f_step (f_step (iv <<< ((p2 - (8 : Int32)) &&& 31)) top p1) top p1) top p1) top p1) top p1) &&& top) = (0 : Int32)
    · have pre29 : ∀ t, Steps p.tables e below (T0.setTop (mkF m 93 #[.val (.ref a0), .val (.int p1), .val (.int p2), .val (.int top), .val (.int iv), .val (.int (f_step (f_step (f_step (f_step (f_step (iv <<< ((p2 - (8 : Int32)) &&& 31)) top p1) top p1) top p1) top p1) top p1)), .val (.int (5 : Int32))] [(.int ((f_step (f_step (f_step (f_step (f_step (iv <<< ((p2 - (8 : Int32)) &&& 31)) top p1) top p1) top p1) top p1) top p1) <<< ((1 : Int32) &&& 31)))])) t → Steps p.tables e below (T0.setTop (mkF m 46 #[.val (.ref a0), .val (.int p1), .val (.int p2), .val (.int top), .val (.int iv), s5, s6] [])) t := fun t kt => pre26 t (by
        show Steps p.tables e below (T0.setTop (mkF m 77 #[.val (.ref a0), .val (.int p1), .val (.int p2), .val (.int top), .val (.int iv), .val (.int (f_step (f_step (f_step (f_step (f_step (iv <<< ((p2 - (8 : Int32)) &&& 31)) top p1) top p1) top p1) top p1) top p1)), .val (.int (5 : Int32))] [(.int ((f_step (f_step (f_step (f_step (f_step (iv <<< ((p2 - (8 : Int32)) &&& 31)) top p1) top p1) top p1) top p1) top p1) &&& top))])) _
        refine XS.ifYes X0.here hx rfl (pc0 := 77) (pc' := 89) rfl (hb hby d1_77) rfl ((if0 _ _).trans (teq hc77_28).1) (by decide) (by decide) ?_
        show Steps p.tables e below (T0.setTop (mkF m 89 #[.val (.ref a0), .val (.int p1), .val (.int p2), .val (.int top), .val (.int iv), .val (.int (f_step (f_step (f_step (f_step (f_step (iv <<< ((p2 - (8 : Int32)) &&& 31)) top p1) top p1) top p1) top p1) top p1)), .val (.int (5 : Int32))] [])) _
        refine XS.iload X0.here hx rfl (hb hby d1_89) rfl ?_
        show Steps p.tables e below (T0.setTop (mkF m 91 #[.val (.ref a0), .val (.int p1), .val (.int p2), .val (.int top), .val (.int iv), .val (.int (f_step (f_step (f_step (f_step (f_step (iv <<< ((p2 - (8 : Int32)) &&& 31)) top p1) top p1) top p1) top p1) top p1)), .val (.int (5 : Int32))] [(.int (f_step (f_step (f_step (f_step (f_step (iv <<< ((p2 - (8 : Int32)) &&& 31)) top p1) top p1) top p1) top p1) top p1))])) _
        refine XS.iconst X0.here hx rfl (hb hby d1_91) ?_
        show Steps p.tables e below (T0.setTop (mkF m 92 #[.val (.ref a0), .val (.int p1), .val (.int p2), .val (.int top), .val (.int iv), .val (.int (f_step (f_step (f_step (f_step (f_step (iv <<< ((p2 - (8 : Int32)) &&& 31)) top p1) top p1) top p1) top p1) top p1)), .val (.int (5 : Int32))] [(.int (1 : Int32)), (.int (f_step (f_step (f_step (f_step (f_step (iv <<< ((p2 - (8 : Int32)) &&& 31)) top p1) top p1) top p1) top p1) top p1))])) _
        refine XS.ishl X0.here hx rfl (hb hby d1_92) rfl ?_
        exact kt)
      have hvx : ((f_step (f_step (f_step (f_step (f_step (iv <<< ((p2 - (8 : Int32)) &&& 31)) top p1) top p1) top p1) top p1) top p1) <<< ((1 : Int32) &&& 31)) = (f_step (f_step (f_step (f_step (f_step (f_step (iv <<< ((p2 - (8 : Int32)) &&& 31)) top p1) top p1) top p1) top p1) top p1) top p1) := (own_stepT _ _ _ hc77_28)
      rw [← hvx]
      exact pre29
    · have pre30 : ∀ t, Steps p.tables e below (T0.setTop (mkF m 93 #[.val (.ref a0), .val (.int p1), .val (.int p2), .val (.int top), .val (.int iv), .val (.int (f_step (f_step (f_step (f_step (f_step (iv <<< ((p2 - (8 : Int32)) &&& 31)) top p1) top p1) top p1) top p1) top p1)), .val (.int (5 : Int32))] [(.int (((f_step (f_step (f_step (f_step (f_step (iv <<< ((p2 - (8 : Int32)) &&& 31)) top p1) top p1) top p1) top p1) top p1) <<< ((1 : Int32) &&& 31)) ^^^ p1))])) t → Steps p.tables e below (T0.setTop (mkF m 46 #[.val (.ref a0), .val (.int p1), .val (.int p2), .val (.int top), .val (.int iv), s5, s6] [])) t := fun t kt => pre26 t (by
        show Steps p.tables e below (T0.setTop (mkF m 77 #[.val (.ref a0), .val (.int p1), .val (.int p2), .val (.int top), .val (.int iv), .val (.int (f_step (f_step (f_step (f_step (f_step (iv <<< ((p2 - (8 : Int32)) &&& 31)) top p1) top p1) top p1) top p1) top p1)), .val (.int (5 : Int32))] [(.int ((f_step (f_step (f_step (f_step (f_step (iv <<< ((p2 - (8 : Int32)) &&& 31)) top p1) top p1) top p1) top p1) top p1) &&& top))])) _
        refine XS.ifNo X0.here hx rfl (hb hby d1_77) rfl ((if0 _ _).trans (feq hc77_28).1) ?_
        show Steps p.tables e below (T0.setTop (mkF m 80 #[.val (.ref a0), .val (.int p1), .val (.int p2), .val (.int top), .val (.int iv), .val (.int (f_step (f_step (f_step (f_step (f_step (iv <<< ((p2 - (8 : Int32)) &&& 31)) top p1) top p1) top p1) top p1) top p1)), .val (.int (5 : Int32))] [])) _
        refine XS.iload X0.here hx rfl (hb hby d1_80) rfl ?_
        show Steps p.tables e below (T0.setTop (mkF m 82 #[.val (.ref a0), .val (.int p1), .val (.int p2), .val (.int top), .val (.int iv), .val (.int (f_step (f_step (f_step (f_step (f_step (iv <<< ((p2 - (8 : Int32)) &&& 31)) top p1) top p1) top p1) top p1) top p1)), .val (.int (5 : Int32))] [(.int (f_step (f_step (f_step (f_step (f_step (iv <<< ((p2 - (8 : Int32)) &&& 31)) top p1) top p1) top p1) top p1) top p1))])) _
        refine XS.iconst X0.here hx rfl (hb hby d1_82) ?_
        show Steps p.tables e below (T0.setTop (mkF m 83 #[.val (.ref a0), .val (.int p1), .val (.int p2), .val (.int top), .val (.int iv), .val (.int (f_step (f_step (f_step (f_step (f_step (iv <<< ((p2 - (8 : Int32)) &&& 31)) top p1) top p1) top p1) top p1) top p1)), .val (.int (5 : Int32))] [(.int (1 : Int32)), (.int (f_step (f_step (f_step (f_step (f_step (iv <<< ((p2 - (8 : Int32)) &&& 31)) top p1) top p1) top p1) top p1) top p1))])) _
        refine XS.ishl X0.here hx rfl (hb hby d1_83) rfl ?_
        show Steps p.tables e below (T0.setTop (mkF m 84 #[.val (.ref a0), .val (.int p1), .val (.int p2), .val (.int top), .val (.int iv), .val (.int (f_step (f_step (f_step (f_step (f_step (iv <<< ((p2 - (8 : Int32)) &&& 31)) top p1) top p1) top p1) top p1) top p1)), .val (.int (5 : Int32))] [(.int ((f_step (f_step (f_step (f_step (f_step (iv <<< ((p2 - (8 : Int32)) &&& 31)) top p1) top p1) top p1) top p1) top p1) <<< ((1 : Int32) &&& 31)))])) _
        refine XS.iloadN X0.here hx rfl (hb hby d1_84) rfl ?_
        show Steps p.tables e below (T0.setTop (mkF m 85 #[.val (.ref a0), .val (.int p1), .val (.int p2), .val (.int top), .val (.int iv), .val (.int (f_step (f_step (f_step (f_step (f_step (iv <<< ((p2 - (8 : Int32)) &&& 31)) top p1) top p1) top p1) top p1) top p1)), .val (.int (5 : Int32))] [(.int p1), (.int ((f_step (f_step (f_step (f_step (f_step (iv <<< ((p2 - (8 : Int32)) &&& 31)) top p1) top p1) top p1) top p1) top p1) <<< ((1 : Int32) &&& 31)))])) _
        refine XS.ixor X0.here hx rfl (hb hby d1_85) rfl ?_
        show Steps p.tables e below (T0.setTop (mkF m 86 #[.val (.ref a0), .val (.int p1), .val (.int p2), .val (.int top), .val (.int iv), .val (.int (f_step (f_step (f_step (f_step (f_step (iv <<< ((p2 - (8 : Int32)) &&& 31)) top p1) top p1) top p1) top p1) top p1)), .val (.int (5 : Int32))] [(.int (((f_step (f_step (f_step (f_step (f_step (iv <<< ((p2 - (8 : Int32)) &&& 31)) top p1) top p1) top p1) top p1) top p1) <<< ((1 : Int32) &&& 31)) ^^^ p1))])) _
        refine XS.goto X0.here hx rfl (pc0 := 86) (pc' := 93) rfl (hb hby d1_86) (by decide) (by decide) ?_
        exact kt)
      have hvx : (((f_step (f_step (f_step (f_step (f_step (iv <<< ((p2 - (8 : Int32)) &&& 31)) top p1) top p1) top p1) top p1) top p1) <<< ((1 : Int32) &&& 31)) ^^^ p1) = (f_step (f_step (f_step (f_step (f_step (f_step (iv <<< ((p2 - (8 : Int32)) &&& 31)) top p1) top p1) top p1) top p1) top p1) top p1) := (own_stepF _ _ _ hc77_28)
      rw [← hvx]
      exact pre30
  have pre31 : ∀ t, Steps p.tables e below (T0.setTop (mkF m 77 #[.val (.ref a0), .val (.int p1), .val (.int p2), .val (.int top), .val (.int iv), .val (.int (f_step (f_step (f_step (f_step (f_step (f_step (iv <<< ((p2 - (8 : Int32)) &&& 31)) top p1) top p1) top p1) top p1) top p1) top p1)), .val (.int (6 : Int32))] [(.int ((f_step (f_step (f_step (f_step (f_step (f_step (iv <<< ((p2 - (8 : Int32)) &&& 31)) top p1) top p1) top p1) top p1) top p1) top p1) &&& top))])) t → Steps p.tables e below (T0.setTop (mkF m 46 #[.val (.ref a0), .val (.int p1), .val (.int p2), .val (.int top), .val (.int iv), s5, s6] [])) t := fun t kt => pre27 t (by
    show Steps p.tables e below (T0.setTop (mkF m 93 #[.val (.ref a0), .val (.int p1), .val (.int p2), .val (.int top), .val (.int iv), .val (.int (f_step (f_step (f_step (f_step (f_step (iv <<< ((p2 - (8 : Int32)) &&& 31)) top p1) top p1) top p1) top p1) top p1)), .val (.int (5 : Int32))] [(.int (f_step (f_step (f_step (f_step (f_step (f_step (iv <<< ((p2 - (8 : Int32)) &&& 31)) top p1) top p1) top p1) top p1) top p1) top p1))])) _
    refine XS.istore X0.here hx rfl (hb hby d1_93) rfl (l' := #[.val (.ref a0), .val (.int p1), .val (.int p2), .val (.int top), .val (.int iv), .val (.int (f_step (f_step (f_step (f_step (f_step (f_step (iv <<< ((p2 - (8 : Int32)) &&& 31)) top p1) top p1) top p1) top p1) top p1) top p1)), .val (.int (5 : Int32))]) rfl ?_
    show Steps p.tables e below (T0.setTop (mkF m 95 #[.val (.ref a0), .val (.int p1), .val (.int p2), .val (.int top), .val (.int iv), .val (.int (f_step (f_step (f_step (f_step (f_step (f_step (iv <<< ((p2 - (8 : Int32)) &&& 31)) top p1) top p1) top p1) top p1) top p1) top p1)), .val (.int (5 : Int32))] [])) _
    refine XS.iinc X0.here hx rfl (hb hby d1_95) rfl (l' := #[.val (.ref a0), .val (.int p1), .val (.int p2), .val (.int top), .val (.int iv), .val (.int (f_step (f_step (f_step (f_step (f_step (f_step (iv <<< ((p2 - (8 : Int32)) &&& 31)) top p1) top p1) top p1) top p1) top p1) top p1)), .val (.int (6 : Int32))]) rfl ?_
    show Steps p.tables e below (T0.setTop (mkF m 98 #[.val (.ref a0), .val (.int p1), .val (.int p2), .val (.int top), .val (.int iv), .val (.int (f_step (f_step (f_step (f_step (f_step (f_step (iv <<< ((p2 - (8 : Int32)) &&& 31)) top p1) top p1) top p1) top p1) top p1) top p1)), .val (.int (6 : Int32))] [])) _
    refine XS.goto X0.here hx rfl (pc0 := 98) (pc' := 66) rfl (hb hby d1_98) (by decide) (by decide) ?_
    show Steps p.tables e below (T0.setTop (mkF m 66 #[.val (.ref a0), .val (.int p1), .val (.int p2), .val (.int top), .val (.int iv), .val (.int (f_step (f_step (f_step (f_step (f_step (f_step (iv <<< ((p2 - (8 : Int32)) &&& 31)) top p1) top p1) top p1) top p1) top p1) top p1)), .val (.int (6 : Int32))] [])) _
    refine XS.iload X0.here hx rfl (hb hby d1_66) rfl ?_
    show Steps p.tables e below (T0.setTop (mkF m 68 #[.val (.ref a0), .val (.int p1), .val (.int p2), .val (.int top), .val (.int iv), .val (.int (f_step (f_step (f_step (f_step (f_step (f_step (iv <<< ((p2 - (8 : Int32)) &&& 31)) top p1) top p1) top p1) top p1) top p1) top p1)), .val (.int (6 : Int32))] [(.int (6 : Int32))])) _
    refine XS.bipush X0.here hx rfl (hb hby d1_68) ?_
    show Steps p.tables e below (T0.setTop (mkF m 70 #[.val (.ref a0), .val (.int p1), .val (.int p2), .val (.int top), .val (.int iv), .val (.int (f_step (f_step (f_step (f_step (f_step (f_step (iv <<< ((p2 - (8 : Int32)) &&& 31)) top p1) top p1) top p1) top p1) top p1) top p1)), .val (.int (6 : Int32))] [(.int (8 : Int32)), (.int (6 : Int32))])) _
    refine XS.icmpNo X0.here hx rfl (hb hby d1_70) rfl (tlt (by decide : (6 : Int32) < (8 : Int32))).2.1 ?_
    show Steps p.tables e below (T0.setTop (mkF m 73 #[.val (.ref a0), .val (.int p1), .val (.int p2), .val (.int top), .val (.int iv), .val (.int (f_step (f_step (f_step (f_step (f_step (f_step (iv <<< ((p2 - (8 : Int32)) &&& 31)) top p1) top p1) top p1) top p1) top p1) top p1)), .val (.int (6 : Int32))] [])) _
    refine XS.iload X0.here hx rfl (hb hby d1_73) rfl ?_
    show Steps p.tables e below (T0.setTop (mkF m 75 #[.val (.ref a0), .val (.int p1), .val (.int p2), .val (.int top), .val (.int iv), .val (.int (f_step (f_step (f_step (f_step (f_step (f_step (iv <<< ((p2 - (8 : Int32)) &&& 31)) top p1) top p1) top p1) top p1) top p1) top p1)), .val (.int (6 : Int32))] [(.int (f_step (f_step (f_step (f_step (f_step (f_step (iv <<< ((p2 - (8 : Int32)) &&& 31)) top p1) top p1) top p1) top p1) top p1) top p1))])) _
    refine XS.iloadN X0.here hx rfl (hb hby d1_75) rfl ?_
    show Steps p.tables e below (T0.setTop (mkF m 76 #[.val (.ref a0), .val (.int p1), .val (.int p2), .val (.int top), .val (.int iv), .val (.int (f_step (f_step (f_step (f_step (f_step (f_step (iv <<< ((p2 - (8 : Int32)) &&& 31)) top p1) top p1) top p1) top p1) top p1) top p1)), .val (.int (6 : Int32))] [(.int top), (.int (f_step (f_step (f_step (f_step (f_step (f_step (iv <<< ((p2 - (8 : Int32)) &&& 31)) top p1) top p1) top p1) top p1) top p1) top p1))])) _
    refine XS.iand X0.here hx rfl (hb hby d1_76) rfl ?_
    exact kt)
  have pre32 : ∀ t, Steps p.tables e below (T0.setTop (mkF m 93 #[.val (.ref a0), .val (.int p1), .val (.int p2), .val (.int top), .val (.int iv), .val (.int (f_step (f_step (f_step (f_step (f_step (f_step (iv <<< ((p2 - (8 : Int32)) &&& 31)) top p1) top p1) top p1) top p1) top p1) top p1)), .val (.int (6 : Int32))] [(.int (f_step (f_step (f_step (f_step (f_step (f_step (f_step (iv <<< ((p2 - (8 : Int32)) &&& 31)) top p1) top p1) top p1) top p1) top p1) top p1) top p1))])) t → Steps p.tables e below (T0.setTop (mkF m 46 #[.val (.ref a0), .val (.int p1), .val (.int p2), .val (.int top), .val (.int iv), s5, s6] [])) t := by
    by_cases hc77_33 : ((f_step (f_step (f_step (f_step (f_step (f_step (iv <<< ((p2 - (8 : Int32)) &&& 31)) top p1) top p1) top p1) top p1) top p1) top p1) &&& top) = (0 : Int32)
    · have pre34 : ∀ t, Steps p.tables e below (T0.setTop (mkF m 93 #[.val (.ref a0), .val (.int p1), .val (.int p2), .val (.int top), .val (.int iv), .val (.int (f_step (f_step (f_step (f_step (f_step (f_step (iv <<< ((p2 - (8 : Int32)) &&& 31)) top p1) top p1) top p1) top p1) top p1) top p1)), .val (.int (6 : Int32))] [(.int ((f_step (f_step (f_step (f_step (f_step (f_step (iv <<< ((p2 - (8 : Int32)) &&& 31)) top p1) top p1) top p1) top p1) top p1) top p1) <<< ((1 : Int32) &&& 31)))])) t → Steps p.tables e below (T0.setTop (mkF m 46 #[.val (.ref a0), .val (.int p1), .val (.int p2), .val (.int top), .val (.int iv), s5, s6] [])) t := fun t kt => pre31 t (by
        show Steps p.tables e below (T0.setTop (mkF m 77 #[.val (.ref a0), .val (.int p1), .val (.int p2), .val (.int top), .val (.int iv), .val (.int (f_step (f_step (f_step (f_step (f_step (f_step (iv <<< ((p2 - (8 : Int32)) &&& 31)) top p1) top p1) top p1) top p1) top p1) top p1)), .val (.int (6 : Int32))] [(.int ((f_step (f_step (f_step (f_step (f_step (f_step (iv <<< ((p2 - (8 : Int32)) &&& 31)) top p1) top p1) top p1) top p1) top p1) top p1) &&& top))])) _
        refine XS.ifYes X0.here hx rfl (pc0 := 77) (pc' := 89) rfl (hb hby d1_77) rfl ((if0 _ _).trans (teq hc77_33).1) (by decide) (by decide) ?_
        show Steps p.tables e below (T0.setTop (mkF m 89 #[.val (.ref a0), .val (.int p1), .val (.int p2), .val (.int top), .val (.int iv), .val (.int (f_step (f_step (f_step (f_step (f_step (f_step (iv <<< ((p2 - (8 : Int32)) &&& 31)) top p1) top p1) top p1) top p1) top p1) top p1)), .val (.int (6 : Int32))] [])) _
        refine XS.iload X0.here hx rfl (hb hby d1_89) rfl ?_
        show Steps p.tables e below (T0.setTop (mkF m 91 #[.val (.ref a0), .val (.int p1), .val (.int p2), .val (.int top), .val (.int iv), .val (.int (f_step (f_step (f_step (f_step (f_step (f_step (iv <<< ((p2 - (8 : Int32)) &&& 31)) top p1) top p1) top p1) top p1) top p1) top p1)), .val (.int (6 : Int32))] [(.int (f_step (f_step (f_step (f_step (f_step (f_step (iv <<< ((p2 - (8 : Int32)) &&& 31)) top p1) top p1) top p1) top p1) top p1) top p1))])) _
        refine XS.iconst X0.here hx rfl (hb hby d1_91) ?_
        show Steps p.tables e below (T0.setTop (mkF m 92 #[.val (.ref a0), .val (.int p1), .val (.int p2), .val (.int top), .val (.int iv), .val (.int (f_step (f_step (f_step (f_step (f_step (f_step (iv <<< ((p2 - (8 : Int32)) &&& 31)) top p1) top p1) top p1) top p1) top p1) top p1)), .val (.int (6 : Int32))] [(.int (1 : Int32)), (.int (f_step (f_step (f_step (f_step (f_step (f_step (iv <<< ((p2 - (8 : Int32)) &&& 31)) top p1) top p1) top p1) top p1) top p1) top p1))])) _
        refine XS.ishl X0.here hx rfl (hb hby d1_92) rfl ?_
        exact kt)
      have hvx : ((f_step (f_step (f_step (f_step (f_step (f_step (iv <<< ((p2 - (8 : Int32)) &&& 31)) top p1) top p1) top p1) top p1) top p1) top p1) <<< ((1 : Int32) &&& 31)) = (f_step (f_step (f_step (f_step (f_step (f_step (f_step (iv <<< ((p2 - (8 : Int32)) &&& 31)) top p1) top p1) top p1) top p1) top p1) top p1) top p1) := (own_stepT _ _ _ hc77_33)
      rw [← hvx]
      exact pre34
    · have pre35 : ∀ t, Steps p.tables e below (T0.setTop (mkF m 93 #[.val (.ref a0), .val (.int p1), .val (.int p2), .val (.int top), .val (.int iv), .val (.int (f_step (f_step (f_step (f_step (f_step (f_step (iv <<< ((p2 - (8 : Int32)) &&& 31)) top p1) top p1) top p1) top p1) top p1) top p1)), .val (.int (6 : Int32))] [(.int (((f_step (f_step (f_step (f_step (f_step (f_step (iv <<< ((p2 - (8 : Int32)) &&& 31)) top p1) top p1) top p1) top p1) top p1) top p1) <<< ((1 : Int32) &&& 31)) ^^^ p1))])) t → Steps p.tables e below (T0.setTop (mkF m 46 #[.val (.ref a0), .val (.int p1), .val (.int p2), .val (.int top), .val (.int iv), s5, s6] [])) t := fun t kt => pre31 t (by
        show Steps p.tables e below (T0.setTop (mkF m 77 #[.val (.ref a0), .val (.int p1), .val (.int p2), .val (.int top), .val (.int iv), .val (.int (f_step (f_step (f_step (f_step (f_step (f_step (iv <<< ((p2 - (8 : Int32)) &&& 31)) top p1) top p1) top p1) top p1) top p1) top p1)), .val (.int (6 : Int32))] [(.int ((f_step (f_step (f_step (f_step (f_step (f_step (iv <<< ((p2 - (8 : Int32)) &&& 31)) top p1) top p1) top p1) top p1) top p1) top p1) &&& top))])) _
        refine XS.ifNo X0.here hx rfl (hb hby d1_77) rfl ((if0 _ _).trans (feq hc77_33).1) ?_
        show Steps p.tables e below (T0.setTop (mkF m 80 #[.val (.ref a0), .val (.int p1), .val (.int p2), .val (.int top), .val (.int iv), .val (.int (f_step (f_step (f_step (f_step (f_step (f_step (iv <<< ((p2 - (8 : Int32)) &&& 31)) top p1) top p1) top p1) top p1) top p1) top p1)), .val (.int (6 : Int32))] [])) _
        refine XS.iload X0.here hx rfl (hb hby d1_80) rfl ?_
        show Steps p.tables e below (T0.setTop (mkF m 82 #[.val (.ref a0), .val (.int p1), .val (.int p2), .val (.int top), .val (.int iv), .val (.int (f_step (f_step (f_step (f_step (f_step (f_step (iv <<< ((p2 - (8 : Int32)) &&& 31)) top p1) top p1) top p1) top p1) top p1) top p1)), .val (.int (6 : Int32))] [(.int (f_step (f_step (f_step (f_step (f_step (f_step (iv <<< ((p2 - (8 : Int32)) &&& 31)) top p1) top p1) top p1) top p1) top p1) top p1))])) _
        refine XS.iconst X0.here hx rfl (hb hby d1_82) ?_
        show Steps p.tables e below (T0.setTop (mkF m 83 #[.val (.ref a0), .val (.int p1), .val (.int p2), .val (.int top), .val (.int iv), .val (.int (f_step (f_step (f_step (f_step (f_step (f_step (iv <<< ((p2 - (8 : Int32)) &&& 31)) top p1) top p1) top p1) top p1) top p1) top p1)), .val (.int (6 : Int32))] [(.int (1 : Int32)), (.int (f_step (f_step (f_step (f_step (f_step (f_step (iv <<< ((p2 - (8 : Int32)) &&& 31)) top p1) top p1) top p1) top p1) top p1) top p1))])) _
        refine XS.ishl X0.here hx rfl (hb hby d1_83) rfl ?_
        show Steps p.tables e below (T0.setTop (mkF m 84 #[.val (.ref a0), .val (.int p1), .val (.int p2), .val (.int top), .val (.int iv), .val (.int (f_step (f_step (f_step (f_step (f_step (f_step (iv <<< ((p2 - (8 : Int32)) &&& 31)) top p1) top p1) top p1) top p1) top p1) top p1)), .val (.int (6 : Int32))] [(.int ((f_step (f_step (f_step (f_step (f_step (f_step (iv <<< ((p2 - (8 : Int32)) &&& 31)) top p1) top p1) top p1) top p1) top p1) top p1) <<< ((1 : Int32) &&& 31)))])) _
        refine XS.iloadN X0.here hx rfl (hb hby d1_84) rfl ?_
        show Steps p.tables e below (T0.setTop (mkF m 85 #[.val (.ref a0), .val (.int p1), .val (.int p2), .val (.int top), .val (.int iv), .val (.int (f_step (f_step (f_step (f_step (f_step (f_step (iv <<< ((p2 - (8 : Int32)) &&& 31)) top p1) top p1) top p1) top p1) top p1) top p1)), .val (.int (6 : Int32))] [(.int p1), (.int ((f_step (f_step (f_step (f_step (f_step (f_step (iv <<< ((p2 - (8 : Int32)) &&& 31)) top p1) top p1) top p1) top p1) top p1) top p1) <<< ((1 : Int32) &&& 31)))])) _
        refine XS.ixor X0.here hx rfl (hb hby d1_85) rfl ?_
        show Steps p.tables e below (T0.setTop (mkF m 86 #[.val (.ref a0), .val (.int p1), .val (.int p2), .val (.int top), .val (.int iv), .val (.int (f_step (f_step (f_step (f_step (f_step (f_step (iv <<< ((p2 - (8 : Int32)) &&& 31)) top p1) top p1) top p1) top p1) top p1) top p1)), .val (.int (6 : Int32))] [(.int (((f_step (f_step (f_step (f_step (f_step (f_step (iv <<< ((p2 - (8 : Int32)) &&& 31)) top p1) top p1) top p1) top p1) top p1) top p1) <<< ((1 : Int32) &&& 31)) ^^^ p1))])) _
        refine XS.goto X0.here hx rfl (pc0 := 86) (pc' := 93) rfl (hb hby d1_86) (by decide) (by decide) ?_
        exact kt)
      have hvx : (((f_step (f_step (f_step (f_step (f_step (f_step (iv <<< ((p2 - (8 : Int32)) &&& 31)) top p1) top p1) top p1) top p1) top p1) top p1) <<< ((1 : Int32) &&& 31)) ^^^ p1) = (f_step (f_step (f_step (f_step (f_step (f_step (f_step (iv <<< ((p2 - (8 : Int32)) &&& 31)) top p1) top p1) top p1) top p1) top p1) top p1) top p1) := (own_stepF _ _ _ hc77_33)
      rw [← hvx]
      exact pre35
  have pre36 : ∀ t, Steps p.tables e below (T0.setTop (mkF m 77 #[.val (.ref a0), .val (.int p1), .val (.int p2), .val (.int top), .val (.int iv), .val (.int (f_step (f_step (f_step (f_step (f_step (f_step (f_step (iv <<< ((p2 - (8 : Int32)) &&& 31)) top p1) top p1) top p1) top p1) top p1) top p1) top p1)), .val (.int (7 : Int32))] [(.int ((f_step (f_step (f_step (f_step (f_step (f_step (f_step (iv <<< ((p2 - (8 : Int32)) &&& 31)) top p1) top p1) top p1) top p1) top p1) top p1) top p1) &&& top))])) t → Steps p.tables e below (T0.setTop (mkF m 46 #[.val (.ref a0), .val (.int p1), .val (.int p2), .val (.int top), .val (.int iv), s5, s6] [])) t := fun t kt => pre32 t (by
    show Steps p.tables e below (T0.setTop (mkF m 93 #[.val (.ref a0), .val (.int p1), .val (.int p2), .val (.int top), .val (.int iv), .val (.int (f_step (f_step (f_step (f_step (f_step (f_step (iv <<< ((p2 - (8 : Int32)) &&& 31)) top p1) top p1) top p1) top p1) top p1) top p1)), .val (.int (6 : Int32))] [(.int (f_step (f_step (f_step (f_step (f_step (f_step (f_step (iv <<< ((p2 - (8 : Int32)) &&& 31)) top p1) top p1) top p1) top p1) top p1) top p1) top p1))])) _
    refine XS.istore X0.here hx rfl (hb hby d1_93) rfl (l' := #[.val (.ref a0), .val (.int p1), .val (.int p2), .val (.int top), .val (.int iv), .val (.int (f_step (f_step (f_step (f_step (f_step (f_step (f_step (iv <<< ((p2 - (8 : Int32)) &&& 31)) top p1) top p1) top p1) top p1) top p1) top p1) top p1)), .val (.int (6 : Int32))]) rfl ?_
    show Steps p.tables e below (T0.setTop (mkF m 95 #[.val (.ref a0), .val (.int p1), .val (.int p2), .val (.int top), .val (.int iv), .val (.int (f_step (f_step (f_step (f_step (f_step (f_step (f_step (iv <<< ((p2 - (8 : Int32)) &&& 31)) top p1) top p1) top p1) top p1) top p1) top p1) top p1)), .val (.int (6 : Int32))] [])) _
    refine XS.iinc X0.here hx rfl (hb hby d1_95) rfl (l' := #[.val (.ref a0), .val (.int p1), .val (.int p2), .val (.int top), .val (.int iv), .val (.int (f_step (f_step (f_step (f_step (f_step (f_step (f_step (iv <<< ((p2 - (8 : Int32)) &&& 31)) top p1) top p1) top p1) top p1) top p1) top p1) top p1)), .val (.int (7 : Int32))]) rfl ?_
    show Steps p.tables e below (T0.setTop (mkF m 98 #[.val (.ref a0), .val (.int p1), .val (.int p2), .val (.int top), .val (.int iv), .val (.int (f_step (f_step (f_step (f_step (f_step (f_step (f_step (iv <<< ((p2 - (8 : Int32)) &&& 31)) top p1) top p1) top p1) top p1) top p1) top p1) top p1)), .val (.int (7 : Int32))] [])) _
    refine XS.goto X0.here hx rfl (pc0 := 98) (pc' := 66) rfl (hb hby d1_98) (by decide) (by decide) ?_
    show Steps p.tables e below (T0.setTop (mkF m 66 #[.val (.ref a0), .val (.int p1), .val (.int p2), .val (.int top), .val (.int iv), .val (.int (f_step (f_step (f_step (f_step (f_step (f_step (f_step (iv <<< ((p2 - (8 : Int32)) &&& 31)) top p1) top p1) top p1) top p1) top p1) top p1) top p1)), .val (.int (7 : Int32))] [])) _
    refine XS.iload X0.here hx rfl (hb hby d1_66) rfl ?_
    show Steps p.tables e below (T0.setTop (mkF m 68 #[.val (.ref a0), .val (.int p1), .val (.int p2), .val (.int top), .val (.int iv), .val (.int (f_step (f_step (f_step (f_step (f_step (f_step (f_step (iv <<< ((p2 - (8 : Int32)) &&& 31)) top p1) top p1) top p1) top p1) top p1) top p1) top p1)), .val (.int (7 : Int32))] [(.int (7 : Int32))])) _
    refine XS.bipush X0.here hx rfl (hb hby d1_68) ?_
    show Steps p.tables e below (T0.setTop (mkF m 70 #[.val (.ref a0), .val (.int p1), .val (.int p2), .val (.int top), .val (.int iv), .val (.int (f_step (f_step (f_step (f_step (f_step (f_step (f_step (iv <<< ((p2 - (8 : Int32)) &&& 31)) top p1) top p1) top p1) top p1) top p1) top p1) top p1)), .val (.int (7 : Int32))] [(.int (8 : Int32)), (.int (7 : Int32))])) _
    refine XS.icmpNo X0.here hx rfl (hb hby d1_70) rfl (tlt (by decide : (7 : Int32) < (8 : Int32))).2.1 ?_
    show Steps p.tables e below (T0.setTop (mkF m 73 #[.val (.ref a0), .val (.int p1), .val (.int p2), .val (.int top), .val (.int iv), .val (.int (f_step (f_step (f_step (f_step (f_step (f_step (f_step (iv <<< ((p2 - (8 : Int32)) &&& 31)) top p1) top p1) top p1) top p1) top p1) top p1) top p1)), .val (.int (7 : Int32))] [])) _
    refine XS.iload X0.here hx rfl (hb hby d1_73) rfl ?_
    show Steps p.tables e below (T0.setTop (mkF m 75 #[.val (.ref a0), .val (.int p1), .val (.int p2), .val (.int top), .val (.int iv), .val (.int (f_step (f_step (f_step (f_step (f_step (f_step (f_step (iv <<< ((p2 - (8 : Int32)) &&& 31)) top p1) top p1) top p1) top p1) top p1) top p1) top p1)), .val (.int (7 : Int32))] [(.int (f_step (f_step (f_step (f_step (f_step (f_step (f_step (iv <<< ((p2 - (8 : Int32)) &&& 31)) top p1) top p1) top p1) top p1) top p1) top p1) top p1))])) _
    refine XS.iloadN X0.here hx rfl (hb hby d1_75) rfl ?_
    show Steps p.tables e below (T0.setTop (mkF m 76 #[.val (.ref a0), .val (.int p1), .val (.int p2), .val (.int top), .val (.int iv), .val (.int (f_step (f_step (f_step (f_step (f_step (f_step (f_step (iv <<< ((p2 - (8 : Int32)) &&& 31)) top p1) top p1) top p1) top p1) top p1) top p1) top p1)), .val (.int (7 : Int32))] [(.int top), (.int (f_step (f_step (f_step (f_step (f_step (f_step (f_step (iv <<< ((p2 - (8 : Int32)) &&& 31)) top p1) top p1) top p1) top p1) top p1) top p1) top p1))])) _
    refine XS.iand X0.here hx rfl (hb hby d1_76) rfl ?_
    exact kt)
  have pre37 : ∀ t, Steps p.tables e below (T0.setTop (mkF m 93 #[.val (.ref a0), .val (.int p1), .val (.int p2), .val (.int top), .val (.int iv), .val (.int (f_step (f_step (f_step (f_step (f_step (f_step (f_step (iv <<< ((p2 - (8 : Int32)) &&& 31)) top p1) top p1) top p1) top p1) top p1) top p1) top p1)), .val (.int (7 : Int32))] [(.int (f_step (f_step (f_step (f_step (f_step (f_step (f_step (f_step (iv <<< ((p2 - (8 : Int32)) &&& 31)) top p1) top p1) top p1) top p1) top p1) top p1) top p1) top p1))])) t → Steps p.tables e below (T0.setTop (mkF m 46 #[.val (.ref a0), .val (.int p1), .val (.int p2), .val (.int top), .val (.int iv), s5, s6] [])) t := by
    by_cases hc77_38 : ((f_step (f_step (f_step (f_step (f_step (f_step (f_step (iv <<< ((p2 - (8 : Int32)) &&& 31)) top p1) top p1) top p1) top p1) top p1) top p1) top p1) &&& top) = (0 : Int32)
    · have pre39 : ∀ t, Steps p.tables e below (T0.setTop (mkF m 93 #[.val (.ref a0), .val (.int p1), .val (.int p2), .val (.int top), .val (.int iv), .val (.int (f_step (f_step (f_step (f_step (f_step (f_step (f_step (iv <<< ((p2 - (8 : Int32)) &&& 31)) top p1) top p1) top p1) top p1) top p1) top p1) top p1)), .val (.int (7 : Int32))] [(.int ((f_step (f_step (f_step (f_step (f_step (f_step (f_step (iv <<< ((p2 - (8 : Int32)) &&& 31)) top p1) top p1) top p1) top p1) top p1) top p1) top p1) <<< ((1 : Int32) &&& 31)))])) t → Steps p.tables e below (T0.setTop (mkF m 46 #[.val (.ref a0), .val (.int p1), .val (.int p2), .val (.int top), .val (.int iv), s5, s6] [])) t := fun t kt => pre36 t (by
        show Steps p.tables e below (T0.setTop (mkF m 77 #[.val (.ref a0), .val (.int p1), .val (.int p2), .val (.int top), .val (.int iv), .val (.int (f_step (f_step (f_step (f_step (f_step (f_step (f_step (iv <<< ((p2 - (8 : Int32)) &&& 31)) top p1) top p1) top p1) top p1) top p1) top p1) top p1)), .val (.int (7 : Int32))] [(.int ((f_step (f_step (f_step (f_step (f_step (f_step (f_step (iv <<< ((p2 - (8 : Int32)) &&& 31)) top p1) top p1) top p1) top p1) top p1) top p1) top p1) &&& top))])) _
        refine XS.ifYes X0.here hx rfl (pc0 := 77) (pc' := 89) rfl (hb hby d1_77) rfl ((if0 _ _).trans (teq hc77_38).1) (by decide) (by decide) ?_
        show Steps p.tables e below (T0.setTop (mkF m 89 #[.val (.ref a0), .val (.int p1), .val (.int p2), .val (.int top), .val (.int iv), .val (.int (f_step (f_step (f_step (f_step (f_step (f_step (f_step (iv <<< ((p2 - (8 : Int32)) &&& 31)) top p1) top p1) top p1) top p1) top p1) top p1) top p1)), .val (.int (7 : Int32))] [])) _
        refine XS.iload X0.here hx rfl (hb hby d1_89) rfl ?_
        show Steps p.tables e below (T0.setTop (mkF m 91 #[.val (.ref a0), .val (.int p1), .val (.int p2), .val (.int top), .val (.int iv), .val (.int (f_step (f_step (f_step (f_step (f_step (f_step (f_step (iv <<< ((p2 - (8 : Int32)) &&& 31)) top p1) top p1) top p1) top p1) top p1) top p1) top p1)), .val (.int (7 : Int32))] [(.int (f_step (f_step (f_step (f_step (f_step (f_step (f_step (iv <<< ((p2 - (8 : Int32)) &&& 31)) top p1) top p1) top p1) top p1) top p1) top p1) top p1))])) _
        refine XS.iconst X0.here hx rfl (hb hby d1_91) ?_
        show Steps p.tables e below (T0.setTop (mkF m 92 #[.val (.ref a0), .val (.int p1), .val (.int p2), .val (.int top), .val (.int iv), .val (.int (f_step (f_step (f_step (f_step (f_step (f_step (f_step (iv <<< ((p2 - (8 : Int32)) &&& 31)) top p1) top p1) top p1) top p1) top p1) top p1) top p1)), .val (.int (7 : Int32))] [(.int (1 : Int32)), (.int (f_step (f_step (f_step (f_step (f_step (f_step (f_step (iv <<< ((p2 - (8 : Int32)) &&& 31)) top p1) top p1) top p1) top p1) top p1) top p1) top p1))])) _
        refine XS.ishl X0.here hx rfl (hb hby d1_92) rfl ?_
        exact kt)
      have hvx : ((f_step (f_step (f_step (f_step (f_step (f_step (f_step (iv <<< ((p2 - (8 : Int32)) &&& 31)) top p1) top p1) top p1) top p1) top p1) top p1) top p1) <<< ((1 : Int32) &&& 31)) = (f_step (f_step (f_step (f_step (f_step (f_step (f_step (f_step (iv <<< ((p2 - (8 : Int32)) &&& 31)) top p1) top p1) top p1) top p1) top p1) top p1) top p1) top p1) := (own_stepT _ _ _ hc77_38)
      rw [← hvx]
      exact pre39
    · have pre40 : ∀ t, Steps p.tables e below (T0.setTop (mkF m 93 #[.val (.ref a0), .val (.int p1), .val (.int p2), .val (.int top), .val (.int iv), .val (.int (f_step (f_step (f_step (f_step (f_step (f_step (f_step (iv <<< ((p2 - (8 : Int32)) &&& 31)) top p1) top p1) top p1) top p1) top p1) top p1) top p1)), .val (.int (7 : Int32))] [(.int (((f_step (f_step (f_step (f_step (f_step (f_step (f_step (iv <<< ((p2 - (8 : Int32)) &&& 31)) top p1) top p1) top p1) top p1) top p1) top p1) top p1) <<< ((1 : Int32) &&& 31)) ^^^ p1))])) t → Steps p.tables e below (T0.setTop (mkF m 46 #[.val (.ref a0), .val (.int p1), .val (.int p2), .val (.int top), .val (.int iv), s5, s6] [])) t := fun t kt => pre36 t (by
        show Steps p.tables e below (T0.setTop (mkF m 77 #[.val (.ref a0), .val (.int p1), .val (.int p2), .val (.int top), .val (.int iv), .val (.int (f_step (f_step (f_step (f_step (f_step (f_step (f_step (iv <<< ((p2 - (8 : Int32)) &&& 31)) top p1) top p1) top p1) top p1) top p1) top p1) top p1)), .val (.int (7 : Int32))] [(.int ((f_step (f_step (f_step (f_step (f_step (f_step (f_step (iv <<< ((p2 - (8 : Int32)) &&& 31)) top p1) top p1) top p1) top p1) top p1) top p1) top p1) &&& top))])) _
        refine XS.ifNo X0.here hx rfl (hb hby d1_77) rfl ((if0 _ _).trans (feq hc77_38).1) ?_
        show Steps p.tables e below (T0.setTop (mkF m 80 #[.val (.ref a0), .val (.int p1), .val (.int p2), .val (.int top), .val (.int iv), .val (.int (f_step (f_step (f_step (f_step (f_step (f_step (f_step (iv <<< ((p2 - (8 : Int32)) &&& 31)) top p1) top p1) top p1) top p1) top p1) top p1) top p1)), .val (.int (7 : Int32))] [])) _
        refine XS.iload X0.here hx rfl (hb hby d1_80) rfl ?_
        show Steps p.tables e below (T0.setTop (mkF m 82 #[.val (.ref a0), .val (.int p1), .val (.int p2), .val (.int top), .val (.int iv), .val (.int (f_step (f_step (f_step (f_step (f_step (f_step (f_step (iv <<< ((p2 - (8 : Int32)) &&& 31)) top p1) top p1) top p1) top p1) top p1) top p1) top p1)), .val (.int (7 : Int32))] [(.int (f_step (f_step (f_step (f_step (f_step (f_step (f_step (iv <<< ((p2 - (8 : Int32)) &&& 31)) top p1) top p1) top p1) top p1) top p1) top p1) top p1))])) _
        refine XS.iconst X0.here hx rfl (hb hby d1_82) ?_
        show Steps p.tables e below (T0.setTop (mkF m 83 #[.val (.ref a0), .val (.int p1), .val (.int p2), .val (.int top), .val (.int iv), .val (.int (f_step (f_step (f_step (f_step (f_step (f_step (f_step (iv <<< ((p2 - (8 : Int32)) &&& 31)) top p1) top p1) top p1) top p1) top p1) top p1) top p1)), .val (.int (7 : Int32))] [(.int (1 : Int32)), (.int (f_step (f_step (f_step (f_step (f_step (f_step (f_step (iv <<< ((p2 - (8 : Int32)) &&& 31)) top p1) top p1) top p1) top p1) top p1) top p1) top p1))])) _
        refine XS.ishl X0.here hx rfl (hb hby d1_83) rfl ?_
        show Steps p.tables e below (T0.setTop (mkF m 84 #[.val (.ref a0), .val (.int p1), .val (.int p2), .val (.int top), .val (.int iv), .val (.int (f_step (f_step (f_step (f_step (f_step (f_step (f_step (iv <<< ((p2 - (8 : Int32)) &&& 31)) top p1) top p1) top p1) top p1) top p1) top p1) top p1)), .val (.int (7 : Int32))] [(.int ((f_step (f_step (f_step (f_step (f_step (f_step (f_step (iv <<< ((p2 - (8 : Int32)) &&& 31)) top p1) top p1) top p1) top p1) top p1) top p1) top p1) <<< ((1 : Int32) &&& 31)))])) _
        refine XS.iloadN X0.here hx rfl (hb hby d1_84) rfl ?_
        show Steps p.tables e below (T0.setTop (mkF m 85 #[.val (.ref a0), .val (.int p1), .val (.int p2), .val (.int top), .val (.int iv), .val (.int (f_step (f_step (f_step (f_step (f_step (f_step (f_step (iv <<< ((p2 - (8 : Int32)) &&& 31)) top p1) top p1) top p1) top p1) top p1) top p1) top p1)), .val (.int (7 : Int32))] [(.int p1), (.int ((f_step (f_step (f_step (f_step (f_step (f_step (f_step (iv <<< ((p2 - (8 : Int32)) &&& 31)) top p1) top p1) top p1) top p1) top p1) top p1) top p1) <<< ((1 : Int32) &&& 31)))])) _
        refine XS.ixor X0.here hx rfl (hb hby d1_85) rfl ?_
        show Steps p.tables e below (T0.setTop (mkF m 86 #[.val (.ref a0), .val (.int p1), .val (.int p2), .val (.int top), .val (.int iv), .val (.int (f_step (f_step (f_step (f_step (f_step (f_step (f_step (iv <<< ((p2 - (8 : Int32)) &&& 31)) top p1) top p1) top p1) top p1) top p1) top p1) top p1)), .val (.int (7 : Int32))] [(.int (((f_step (f_step (f_step (f_step (f_step (f_step (f_step (iv <<< ((p2 - (8 : Int32)) &&& 31)) top p1) top p1) top p1) top p1) top p1) top p1) top p1) <<< ((1 : Int32) &&& 31)) ^^^ p1))])) _
        refine XS.goto X0.here hx rfl (pc0 := 86) (pc' := 93) rfl (hb hby d1_86) (by decide) (by decide) ?_
        exact kt)
      have hvx : (((f_step (f_step (f_step (f_step (f_step (f_step (f_step (iv <<< ((p2 - (8 : Int32)) &&& 31)) top p1) top p1) top p1) top p1) top p1) top p1) top p1) <<< ((1 : Int32) &&& 31)) ^^^ p1) = (f_step (f_step (f_step (f_step (f_step (f_step (f_step (f_step (iv <<< ((p2 - (8 : Int32)) &&& 31)) top p1) top p1) top p1) top p1) top p1) top p1) top p1) top p1) := (own_stepF _ _ _ hc77_38)
      rw [← hvx]
      exact pre40
  have pre41 : ∀ t, Steps p.tables e below (T0.setTop (mkF m 102 #[.val (.ref a0), .val (.int p1), .val (.int p2), .val (.int top), .val (.int iv), .val (.int (f_step (f_step (f_step (f_step (f_step (f_step (f_step (f_step (iv <<< ((p2 - (8 : Int32)) &&& 31)) top p1) top p1) top p1) top p1) top p1) top p1) top p1) top p1)), .val (.int (8 : Int32))] [(.ref a0)])) t → Steps p.tables e below (T0.setTop (mkF m 46 #[.val (.ref a0), .val (.int p1), .val (.int p2), .val (.int top), .val (.int iv), s5, s6] [])) t := fun t kt => pre37 t (by
    show Steps p.tables e below (T0.setTop (mkF m 93 #[.val (.ref a0), .val (.int p1), .val (.int p2), .val (.int top), .val (.int iv), .val (.int (f_step (f_step (f_step (f_step (f_step (f_step (f_step (iv <<< ((p2 - (8 : Int32)) &&& 31)) top p1) top p1) top p1) top p1) top p1) top p1) top p1)), .val (.int (7 : Int32))] [(.int (f_step (f_step (f_step (f_step (f_step (f_step (f_step (f_step (iv <<< ((p2 - (8 : Int32)) &&& 31)) top p1) top p1) top p1) top p1) top p1) top p1) top p1) top p1))])) _
    refine XS.istore X0.here hx rfl (hb hby d1_93) rfl (l' := #[.val (.ref a0), .val (.int p1), .val (.int p2), .val (.int top), .val (.int iv), .val (.int (f_step (f_step (f_step (f_step (f_step (f_step (f_step (f_step (iv <<< ((p2 - (8 : Int32)) &&& 31)) top p1) top p1) top p1) top p1) top p1) top p1) top p1) top p1)), .val (.int (7 : Int32))]) rfl ?_
    show Steps p.tables e below (T0.setTop (mkF m 95 #[.val (.ref a0), .val (.int p1), .val (.int p2), .val (.int top), .val (.int iv), .val (.int (f_step (f_step (f_step (f_step (f_step (f_step (f_step (f_step (iv <<< ((p2 - (8 : Int32)) &&& 31)) top p1) top p1) top p1) top p1) top p1) top p1) top p1) top p1)), .val (.int (7 : Int32))] [])) _
    refine XS.iinc X0.here hx rfl (hb hby d1_95) rfl (l' := #[.val (.ref a0), .val (.int p1), .val (.int p2), .val (.int top), .val (.int iv), .val (.int (f_step (f_step (f_step (f_step (f_step (f_step (f_step (f_step (iv <<< ((p2 - (8 : Int32)) &&& 31)) top p1) top p1) top p1) top p1) top p1) top p1) top p1) top p1)), .val (.int (8 : Int32))]) rfl ?_
    show Steps p.tables e below (T0.setTop (mkF m 98 #[.val (.ref a0), .val (.int p1), .val (.int p2), .val (.int top), .val (.int iv), .val (.int (f_step (f_step (f_step (f_step (f_step (f_step (f_step (f_step (iv <<< ((p2 - (8 : Int32)) &&& 31)) top p1) top p1) top p1) top p1) top p1) top p1) top p1) top p1)), .val (.int (8 : Int32))] [])) _
    refine XS.goto X0.here hx rfl (pc0 := 98) (pc' := 66) rfl (hb hby d1_98) (by decide) (by decide) ?_
    show Steps p.tables e below (T0.setTop (mkF m 66 #[.val (.ref a0), .val (.int p1), .val (.int p2), .val (.int top), .val (.int iv), .val (.int (f_step (f_step (f_step (f_step (f_step (f_step (f_step (f_step (iv <<< ((p2 - (8 : Int32)) &&& 31)) top p1) top p1) top p1) top p1) top p1) top p1) top p1) top p1)), .val (.int (8 : Int32))] [])) _
    refine XS.iload X0.here hx rfl (hb hby d1_66) rfl ?_
    show Steps p.tables e below (T0.setTop (mkF m 68 #[.val (.ref a0), .val (.int p1), .val (.int p2), .val (.int top), .val (.int iv), .val (.int (f_step (f_step (f_step (f_step (f_step (f_step (f_step (f_step (iv <<< ((p2 - (8 : Int32)) &&& 31)) top p1) top p1) top p1) top p1) top p1) top p1) top p1) top p1)), .val (.int (8 : Int32))] [(.int (8 : Int32))])) _
    refine XS.bipush X0.here hx rfl (hb hby d1_68) ?_
    show Steps p.tables e below (T0.setTop (mkF m 70 #[.val (.ref a0), .val (.int p1), .val (.int p2), .val (.int top), .val (.int iv), .val (.int (f_step (f_step (f_step (f_step (f_step (f_step (f_step (f_step (iv <<< ((p2 - (8 : Int32)) &&& 31)) top p1) top p1) top p1) top p1) top p1) top p1) top p1) top p1)), .val (.int (8 : Int32))] [(.int (8 : Int32)), (.int (8 : Int32))])) _
    refine XS.icmpYes X0.here hx rfl (pc0 := 70) (pc' := 101) rfl (hb hby d1_70) rfl (flt (by decide : ¬ ((8 : Int32) < (8 : Int32)))).2.1 (by decide) (by decide) ?_
    show Steps p.tables e below (T0.setTop (mkF m 101 #[.val (.ref a0), .val (.int p1), .val (.int p2), .val (.int top), .val (.int iv), .val (.int (f_step (f_step (f_step (f_step (f_step (f_step (f_step (f_step (iv <<< ((p2 - (8 : Int32)) &&& 31)) top p1) top p1) top p1) top p1) top p1) top p1) top p1) top p1)), .val (.int (8 : Int32))] [])) _
    refine XS.aloadN X0.here hx rfl (hb hby d1_101) rfl rfl ?_
    exact kt)
  obtain ⟨T42, X42, e42, st42⟩ := getF X0 hx hZ hown (host := "") (Or.inl (hw _ (List.mem_of_getElem? (i := 11) rfl))) Via.refl e0 F_table (g := (mkF m 102 #[.val (.ref a0), .val (.int p1), .val (.int p2), .val (.int top), .val (.int iv), .val (.int (f_step (f_step (f_step (f_step (f_step (f_step (f_step (f_step (iv <<< ((p2 - (8 : Int32)) &&& 31)) top p1) top p1) top p1) top p1) top p1) top p1) top p1) top p1)), .val (.int (8 : Int32))] [(.ref a0)])) rfl rfl (hb hby d1_102)
  have pre43 : ∀ t, Steps p.tables e below (T42.setTop (mkF m 105 #[.val (.ref a0), .val (.int p1), .val (.int p2), .val (.int top), .val (.int iv), .val (.int (f_step (f_step (f_step (f_step (f_step (f_step (f_step (f_step (iv <<< ((p2 - (8 : Int32)) &&& 31)) top p1) top p1) top p1) top p1) top p1) top p1) top p1) top p1)), .val (.int (8 : Int32))] [(.ref tb)])) t → Steps p.tables e below (T0.setTop (mkF m 46 #[.val (.ref a0), .val (.int p1), .val (.int p2), .val (.int top), .val (.int iv), s5, s6] [])) t := fun t kt => pre41 t (st42 _ kt)
  have pre44 : ∀ t, Steps p.tables e below (T42.setTop (mkF m 110 #[.val (.ref a0), .val (.int p1), .val (.int p2), .val (.int top), .val (.int iv), .val (.int (f_step (f_step (f_step (f_step (f_step (f_step (f_step (f_step (iv <<< ((p2 - (8 : Int32)) &&& 31)) top p1) top p1) top p1) top p1) top p1) top p1) top p1) top p1)), .val (.int (8 : Int32))] [(.ref a0), (.int (f_step (f_step (f_step (f_step (f_step (f_step (f_step (f_step (iv <<< ((p2 - (8 : Int32)) &&& 31)) top p1) top p1) top p1) top p1) top p1) top p1) top p1) top p1)), (.int iv), (.ref tb)])) t → Steps p.tables e below (T0.setTop (mkF m 46 #[.val (.ref a0), .val (.int p1), .val (.int p2), .val (.int top), .val (.int iv), s5, s6] [])) t := fun t kt => pre43 t (by
    show Steps p.tables e below (T42.setTop (mkF m 105 #[.val (.ref a0), .val (.int p1), .val (.int p2), .val (.int top), .val (.int iv), .val (.int (f_step (f_step (f_step (f_step (f_step (f_step (f_step (f_step (iv <<< ((p2 - (8 : Int32)) &&& 31)) top p1) top p1) top p1) top p1) top p1) top p1) top p1) top p1)), .val (.int (8 : Int32))] [(.ref tb)])) _
    refine XS.iload X42.here hx rfl (hb hby d1_105) rfl ?_
    show Steps p.tables e below (T42.setTop (mkF m 107 #[.val (.ref a0), .val (.int p1), .val (.int p2), .val (.int top), .val (.int iv), .val (.int (f_step (f_step (f_step (f_step (f_step (f_step (f_step (f_step (iv <<< ((p2 - (8 : Int32)) &&& 31)) top p1) top p1) top p1) top p1) top p1) top p1) top p1) top p1)), .val (.int (8 : Int32))] [(.int iv), (.ref tb)])) _
    refine XS.iload X42.here hx rfl (hb hby d1_107) rfl ?_
    show Steps p.tables e below (T42.setTop (mkF m 109 #[.val (.ref a0), .val (.int p1), .val (.int p2), .val (.int top), .val (.int iv), .val (.int (f_step (f_step (f_step (f_step (f_step (f_step (f_step (f_step (iv <<< ((p2 - (8 : Int32)) &&& 31)) top p1) top p1) top p1) top p1) top p1) top p1) top p1) top p1)), .val (.int (8 : Int32))] [(.int (f_step (f_step (f_step (f_step (f_step (f_step (f_step (f_step (iv <<< ((p2 - (8 : Int32)) &&& 31)) top p1) top p1) top p1) top p1) top p1) top p1) top p1) top p1)), (.int iv), (.ref tb)])) _
    refine XS.aloadN X42.here hx rfl (hb hby d1_109) rfl rfl ?_
    exact kt)
  obtain ⟨T45, X45, e45, st45⟩ := getF X42 hx hZ hown (host := "") (Or.inl (hw _ (List.mem_of_getElem? (i := 15) rfl))) Via.refl e42 F_mask (g := (mkF m 110 #[.val (.ref a0), .val (.int p1), .val (.int p2), .val (.int top), .val (.int iv), .val (.int (f_step (f_step (f_step (f_step (f_step (f_step (f_step (f_step (iv <<< ((p2 - (8 : Int32)) &&& 31)) top p1) top p1) top p1) top p1) top p1) top p1) top p1) top p1)), .val (.int (8 : Int32))] [(.ref a0), (.int (f_step (f_step (f_step (f_step (f_step (f_step (f_step (f_step (iv <<< ((p2 - (8 : Int32)) &&& 31)) top p1) top p1) top p1) top p1) top p1) top p1) top p1) top p1)), (.int iv), (.ref tb)])) rfl rfl (hb hby d1_110)
  have pre46 : ∀ t, Steps p.tables e below (T45.setTop (mkF m 113 #[.val (.ref a0), .val (.int p1), .val (.int p2), .val (.int top), .val (.int iv), .val (.int (f_step (f_step (f_step (f_step (f_step (f_step (f_step (f_step (iv <<< ((p2 - (8 : Int32)) &&& 31)) top p1) top p1) top p1) top p1) top p1) top p1) top p1) top p1)), .val (.int (8 : Int32))] [(.int mk), (.int (f_step (f_step (f_step (f_step (f_step (f_step (f_step (f_step (iv <<< ((p2 - (8 : Int32)) &&& 31)) top p1) top p1) top p1) top p1) top p1) top p1) top p1) top p1)), (.int iv), (.ref tb)])) t → Steps p.tables e below (T0.setTop (mkF m 46 #[.val (.ref a0), .val (.int p1), .val (.int p2), .val (.int top), .val (.int iv), s5, s6] [])) t := fun t kt => pre44 t (st45 _ kt)
  have pre47 : ∀ t, Steps p.tables e below (T45.setTop (mkF m 114 #[.val (.ref a0), .val (.int p1), .val (.int p2), .val (.int top), .val (.int iv), .val (.int (f_step (f_step (f_step (f_step (f_step (f_step (f_step (f_step (iv <<< ((p2 - (8 : Int32)) &&& 31)) top p1) top p1) top p1) top p1) top p1) top p1) top p1) top p1)), .val (.int (8 : Int32))] [(.int ((f_step (f_step (f_step (f_step (f_step (f_step (f_step (f_step (iv <<< ((p2 - (8 : Int32)) &&& 31)) top p1) top p1) top p1) top p1) top p1) top p1) top p1) top p1) &&& mk)), (.int iv), (.ref tb)])) t → Steps p.tables e below (T0.setTop (mkF m 46 #[.val (.ref a0), .val (.int p1), .val (.int p2), .val (.int top), .val (.int iv), s5, s6] [])) t := fun t kt => pre46 t (by
    show Steps p.tables e below (T45.setTop (mkF m 113 #[.val (.ref a0), .val (.int p1), .val (.int p2), .val (.int top), .val (.int iv), .val (.int (f_step (f_step (f_step (f_step (f_step (f_step (f_step (f_step (iv <<< ((p2 - (8 : Int32)) &&& 31)) top p1) top p1) top p1) top p1) top p1) top p1) top p1) top p1)), .val (.int (8 : Int32))] [(.int mk), (.int (f_step (f_step (f_step (f_step (f_step (f_step (f_step (f_step (iv <<< ((p2 - (8 : Int32)) &&& 31)) top p1) top p1) top p1) top p1) top p1) top p1) top p1) top p1)), (.int iv), (.ref tb)])) _
    refine XS.iand X45.here hx rfl (hb hby d1_113) rfl ?_
    exact kt)
  have tv48 := V0
  obtain ⟨cl48, Ar48, q48, S48, Ng48, H48, G48⟩ := tv48
  have hin48 : ¬ (iv < 0 ∨ cl48.slots.size ≤ (iv).toNatClampNeg) := inb_of S48 hi
  obtain ⟨T49, h49, X49, e49, W49, st49⟩ := stI X45 hx hZ e45 Ar48 (j := iv) hin48 (g := (mkF m 114 #[.val (.ref a0), .val (.int p1), .val (.int p2), .val (.int top), .val (.int iv), .val (.int (f_step (f_step (f_step (f_step (f_step (f_step (f_step (f_step (iv <<< ((p2 - (8 : Int32)) &&& 31)) top p1) top p1) top p1) top p1) top p1) top p1) top p1) top p1)), .val (.int (8 : Int32))] [(.int ((f_step (f_step (f_step (f_step (f_step (f_step (f_step (f_step (iv <<< ((p2 - (8 : Int32)) &&& 31)) top p1) top p1) top p1) top p1) top p1) top p1) top p1) top p1) &&& mk)), (.int iv), (.ref tb)])) rfl rfl (hb hby d1_114)
  have pre50 : ∀ t, Steps p.tables e below (T49.setTop (mkF m 115 #[.val (.ref a0), .val (.int p1), .val (.int p2), .val (.int top), .val (.int iv), .val (.int (f_step (f_step (f_step (f_step (f_step (f_step (f_step (f_step (iv <<< ((p2 - (8 : Int32)) &&& 31)) top p1) top p1) top p1) top p1) top p1) top p1) top p1) top p1)), .val (.int (8 : Int32))] [])) t → Steps p.tables e below (T0.setTop (mkF m 46 #[.val (.ref a0), .val (.int p1), .val (.int p2), .val (.int top), .val (.int iv), s5, s6] [])) t := fun t kt => pre47 t (st49 _ kt)
  have V49 : Arh Z h49 tb kk .int (256 : Int32) ((iv, (.int ((f_step (f_step (f_step (f_step (f_step (f_step (f_step (f_step (iv <<< ((p2 - (8 : Int32)) &&& 31)) top p1) top p1) top p1) top p1) top p1) top p1) top p1) top p1) &&& mk))) :: hs) [] (.int (0 : Int32)) := Arh.push Ar48 q48 S48 Ng48 H48 G48 rfl W49 hin48
  have F51 : Fld Z h49 a0 "com/example/baton/baton/core/format/Crc" "table" "[I" (.ref tb) := F_table.other W49 (Or.inl ne)
  have F52 : Fld Z h49 a0 "com/example/baton/baton/core/format/Crc" "mask" "I" (.int mk) := F_mask.other W49 (Or.inl ne)
  have K49 : Keep h0 h49 [tb] := K0.wr W49 (Or.inl (List.mem_of_getElem? (i := 0) rfl))
  have N49 := Fr.snoc X49 N0 g_tb
  have Z49 : n0 ≤ h49.size := Nat.le_trans Z0 (Keep.of_wr W49).1
  have pre53 : ∀ t, Steps p.tables e below (T49.setTop (mkF m 46 #[.val (.ref a0), .val (.int p1), .val (.int p2), .val (.int top), .val (.int (iv + (1 : Int32))), .val (.int (f_step (f_step (f_step (f_step (f_step (f_step (f_step (f_step (iv <<< ((p2 - (8 : Int32)) &&& 31)) top p1) top p1) top p1) top p1) top p1) top p1) top p1) top p1)), .val (.int (8 : Int32))] [])) t → Steps p.tables e below (T0.setTop (mkF m 46 #[.val (.ref a0), .val (.int p1), .val (.int p2), .val (.int top), .val (.int iv), s5, s6] [])) t := fun t kt => pre50 t (by
    show Steps p.tables e below (T49.setTop (mkF m 115 #[.val (.ref a0), .val (.int p1), .val (.int p2), .val (.int top), .val (.int iv), .val (.int (f_step (f_step (f_step (f_step (f_step (f_step (f_step (f_step (iv <<< ((p2 - (8 : Int32)) &&& 31)) top p1) top p1) top p1) top p1) top p1) top p1) top p1) top p1)), .val (.int (8 : Int32))] [])) _
    refine XS.iinc X49.here hx rfl (hb hby d1_115) rfl (l' := #[.val (.ref a0), .val (.int p1), .val (.int p2), .val (.int top), .val (.int (iv + (1 : Int32))), .val (.int (f_step (f_step (f_step (f_step (f_step (f_step (f_step (f_step (iv <<< ((p2 - (8 : Int32)) &&& 31)) top p1) top p1) top p1) top p1) top p1) top p1) top p1) top p1)), .val (.int (8 : Int32))]) rfl ?_
    show Steps p.tables e below (T49.setTop (mkF m 118 #[.val (.ref a0), .val (.int p1), .val (.int p2), .val (.int top), .val (.int (iv + (1 : Int32))), .val (.int (f_step (f_step (f_step (f_step (f_step (f_step (f_step (f_step (iv <<< ((p2 - (8 : Int32)) &&& 31)) top p1) top p1) top p1) top p1) top p1) top p1) top p1) top p1)), .val (.int (8 : Int32))] [])) _
    refine XS.goto X49.here hx rfl (pc0 := 118) (pc' := 46) rfl (hb hby d1_118) (by decide) (by decide) ?_
    exact kt)
  exact ⟨T49, h49, _, X49, e49, N49, K49, V49, pre53⟩
set_option maxRecDepth 65536 in
set_option maxHeartbeats 40000000 in
theorem own_leave {p : Program} {l : Launch} {e : Env} {R : Room} {s : State} {m : MethodId} {args : Array Value} {below : List Frame} {meth : Method} {c : Code} {T0 : State} {locs : List Loc} {cells slots : Nat} {Z : State} {av : Array Value} {h0 : Heap} {n0 : Nat} (a0 : Addr) (p1 : Int32) (p2 : Int32) (top : Int32) (s5 : Slot) (s6 : Slot)
    (X0 : Stand p l e R s m args below meth c T0 locs cells slots) (hx : p.tables.exec = Jvm.exec) (hZ : Z.Warmed39 s.vm) (hw : ∀ d ∈ tables_1, d.before av Z = true) (hby : c.code = prog_66_method_1_code) (hml : c.maxLocals = 7) (hown : s.vm.findClass "com/example/baton/baton/core/format/Crc" = some m.cls) (e0 : T0.heap = h0) (N0 : Fr n0 locs) (Z0 : n0 ≤ h0.size) :
    ∃ (T' : State) (h' : Heap) (locs' : List Loc), Stand p l e R s m args below meth c T' locs' cells slots ∧ T'.heap = h' ∧ Fr n0 locs' ∧ Keep h0 h' [] ∧ ∀ target, Steps p.tables e below (T'.setTop (mkF m 121 #[.val (.ref a0), .val (.int p1), .val (.int p2), .val (.int top), .val (.int (256 : Int32)), s5, s6] [])) target → Steps p.tables e below (T0.setTop (mkF m 46 #[.val (.ref a0), .val (.int p1), .val (.int p2), .val (.int top), .val (.int (256 : Int32)), s5, s6] [])) target := by
  have K0 : Keep h0 h0 [] := Keep.refl h0 []
  have pre0 : ∀ t, Steps p.tables e below (T0.setTop (mkF m 46 #[.val (.ref a0), .val (.int p1), .val (.int p2), .val (.int top), .val (.int (256 : Int32)), s5, s6] [])) t → Steps p.tables e below (T0.setTop (mkF m 46 #[.val (.ref a0), .val (.int p1), .val (.int p2), .val (.int top), .val (.int (256 : Int32)), s5, s6] [])) t := fun t k => k
  have pre1 : ∀ t, Steps p.tables e below (T0.setTop (mkF m 121 #[.val (.ref a0), .val (.int p1), .val (.int p2), .val (.int top), .val (.int (256 : Int32)), s5, s6] [])) t → Steps p.tables e below (T0.setTop (mkF m 46 #[.val (.ref a0), .val (.int p1), .val (.int p2), .val (.int top), .val (.int (256 : Int32)), s5, s6] [])) t := fun t kt => pre0 t (by
    show Steps p.tables e below (T0.setTop (mkF m 46 #[.val (.ref a0), .val (.int p1), .val (.int p2), .val (.int top), .val (.int (256 : Int32)), s5, s6] [])) _
    refine XS.iload X0.here hx rfl (hb hby d1_46) rfl ?_
    show Steps p.tables e below (T0.setTop (mkF m 48 #[.val (.ref a0), .val (.int p1), .val (.int p2), .val (.int top), .val (.int (256 : Int32)), s5, s6] [(.int (256 : Int32))])) _
    refine XS.sipush X0.here hx rfl (hb hby d1_48) ?_
    show Steps p.tables e below (T0.setTop (mkF m 51 #[.val (.ref a0), .val (.int p1), .val (.int p2), .val (.int top), .val (.int (256 : Int32)), s5, s6] [(.int (256 : Int32)), (.int (256 : Int32))])) _
    refine XS.icmpYes X0.here hx rfl (pc0 := 51) (pc' := 121) rfl (hb hby d1_51) rfl (flt (by decide : ¬ ((256 : Int32) < (256 : Int32)))).2.1 (by decide) (by decide) ?_
    exact kt)
  exact ⟨T0, h0, _, X0, e0, N0, K0, pre1⟩
theorem own_ofNat (n : Nat) (h : n < 256) : (Int32.ofNat n).toInt = n := by
  exact Int32.toInt_ofNat_of_lt (by omega)
theorem own_succ (n : Nat) : Int32.ofNat n + (1 : Int32) = Int32.ofNat (n + 1) := by
  rw [Int32.ofNat_add]
  rfl
theorem own_inb (n : Nat) (h : n < 256) : ¬ Int32.ofNat n < 0 ∧ Int32.ofNat n < (256 : Int32) := by
  have e := own_ofNat n h
  simp only [Int32.lt_iff_toInt_lt, Int32.reduceToInt, e]
  omega
set_option maxRecDepth 65536 in
set_option maxHeartbeats 40000000 in
theorem own_loop {p : Program} {l : Launch} {e : Env} {R : Room} {s : State} {m : MethodId} {args : Array Value} {below : List Frame} {meth : Method} {c : Code} {cells slots : Nat} {Z : State} {av : Array Value} {n0 : Nat} (a0 : Addr) (p1 p2 top : Int32) (tb : Addr) (mk : Int32) (kk : ClassId)
    (hx : p.tables.exec = Jvm.exec) (hZ : Z.Warmed39 s.vm) (hw : ∀ d ∈ tables_1, d.before av Z = true) (hby : c.code = prog_66_method_1_code) (hml : c.maxLocals = 7) (hown : s.vm.findClass "com/example/baton/baton/core/format/Crc" = some m.cls) (ne : a0 ≠ tb) (g_tb : n0 ≤ tb) :
    ∀ (k n : Nat), n + k = 256 → ∀ {T0 : State} {locs : List Loc} {h0 : Heap} (s5 s6 : Slot), One s5 → One s6 → Stand p l e R s m args below meth c T0 locs cells slots → T0.heap = h0 → Fr n0 locs → n0 ≤ h0.size → Fld Z h0 a0 "com/example/baton/baton/core/format/Crc" "table" "[I" (.ref tb) → Fld Z h0 a0 "com/example/baton/baton/core/format/Crc" "mask" "I" (.int mk) → Arh Z h0 tb kk .int (256 : Int32) (own_hs p1 p2 top mk n) [] (.int (0 : Int32)) →
    ∃ (T' : State) (h' : Heap) (locs' : List Loc) (s5' s6' : Slot), Stand p l e R s m args below meth c T' locs' cells slots ∧ T'.heap = h' ∧ Fr n0 locs' ∧ Keep h0 h' [tb] ∧ Arh Z h' tb kk .int (256 : Int32) (own_hs p1 p2 top mk 256) [] (.int (0 : Int32)) ∧ ∀ target, Steps p.tables e below (T'.setTop (mkF m 121 #[.val (.ref a0), .val (.int p1), .val (.int p2), .val (.int top), .val (.int (256 : Int32)), s5', s6'] [])) target → Steps p.tables e below (T0.setTop (mkF m 46 #[.val (.ref a0), .val (.int p1), .val (.int p2), .val (.int top), .val (.int (Int32.ofNat n)), s5, s6] [])) target := by
  intro k
  induction k with
  | zero =>
    intro n hn T0 locs h0 s5 s6 hs5 hs6 X0 e0 N0 Z0 hT hM hV
    obtain rfl : n = 256 := by omega
    obtain ⟨T1, h1, l1, X1, e1, N1, K1, st1⟩ := own_leave a0 p1 p2 top s5 s6 X0 hx hZ hw hby hml hown e0 N0 Z0
    exact ⟨T1, h1, l1, s5, s6, X1, e1, N1, (Keep.refl h0 [tb]).trans K1 all0, hV.keep K1 nin0, st1⟩
  | succ k ih =>
    intro n hn T0 locs h0 s5 s6 hs5 hs6 X0 e0 N0 Z0 hT hM hV
    obtain ⟨T1, h1, l1, X1, e1, N1, K1, V1, st1⟩ := own_turn a0 p1 p2 top (Int32.ofNat n) s5 s6 tb mk kk (own_hs p1 p2 top mk n) X0 hx hZ hw hby hml hown e0 N0 Z0 hs5 hs6 (own_inb n (by omega)) hT hM hV ne g_tb
    obtain ⟨T2, h2, l2, s5', s6', X2, e2, N2, K2, V2, st2⟩ := ih (n + 1) (by omega) _ _ (One.val (w := .int _) rfl) (One.val (w := .int _) rfl) X1 e1 N1 (Nat.le_trans Z0 K1.1) (hT.keep K1 (ninS ne nin0)) (hM.keep K1 (ninS ne nin0)) V1
    refine ⟨T2, h2, l2, s5', s6', X2, e2, N2, K1.trans K2 (fun x hx => Or.inl hx), V2, fun t kt => st1 t ?_⟩
    rw [own_succ]
    exact st2 t kt
theorem d1_0 : decode prog_66_method_1_code 0 = .ok (.aload_n 0, 1) := by decide +kernel
theorem d1_1 : decode prog_66_method_1_code 1 = .ok (.invokespecial 1, 3) := by decide +kernel
theorem d1_4 : decode prog_66_method_1_code 4 = .ok (.aload_n 0, 1) := by decide +kernel
theorem d1_5 : decode prog_66_method_1_code 5 = .ok (.sipush 256, 3) := by decide +kernel
theorem d1_8 : decode prog_66_method_1_code 8 = .ok (.newarray .int, 2) := by decide +kernel
theorem d1_10 : decode prog_66_method_1_code 10 = .ok (.putfield 7, 3) := by decide +kernel
theorem d1_13 : decode prog_66_method_1_code 13 = .ok (.aload_n 0, 1) := by decide +kernel
theorem d1_14 : decode prog_66_method_1_code 14 = .ok (.iload_n 2, 1) := by decide +kernel
theorem d1_15 : decode prog_66_method_1_code 15 = .ok (.putfield 13, 3) := by decide +kernel
theorem d1_18 : decode prog_66_method_1_code 18 = .ok (.aload_n 0, 1) := by decide +kernel
theorem d1_19 : decode prog_66_method_1_code 19 = .ok (.iload_n 2, 1) := by decide +kernel
theorem d1_20 : decode prog_66_method_1_code 20 = .ok (.bipush 32, 2) := by decide +kernel
theorem d1_22 : decode prog_66_method_1_code 22 = .ok (.if_icmp .ne 7, 3) := by decide +kernel
theorem d1_25 : decode prog_66_method_1_code 25 = .ok (.iconst (-1), 1) := by decide +kernel
theorem d1_26 : decode prog_66_method_1_code 26 = .ok (.goto 8, 3) := by decide +kernel
theorem d1_29 : decode prog_66_method_1_code 29 = .ok (.iconst 1, 1) := by decide +kernel
theorem d1_30 : decode prog_66_method_1_code 30 = .ok (.iload_n 2, 1) := by decide +kernel
theorem d1_31 : decode prog_66_method_1_code 31 = .ok (.ishl, 1) := by decide +kernel
theorem d1_32 : decode prog_66_method_1_code 32 = .ok (.iconst 1, 1) := by decide +kernel
theorem d1_33 : decode prog_66_method_1_code 33 = .ok (.isub, 1) := by decide +kernel
theorem d1_34 : decode prog_66_method_1_code 34 = .ok (.putfield 17, 3) := by decide +kernel
theorem d1_37 : decode prog_66_method_1_code 37 = .ok (.iconst 1, 1) := by decide +kernel
theorem d1_38 : decode prog_66_method_1_code 38 = .ok (.iload_n 2, 1) := by decide +kernel
theorem d1_39 : decode prog_66_method_1_code 39 = .ok (.iconst 1, 1) := by decide +kernel
theorem d1_40 : decode prog_66_method_1_code 40 = .ok (.isub, 1) := by decide +kernel
theorem d1_41 : decode prog_66_method_1_code 41 = .ok (.ishl, 1) := by decide +kernel
theorem d1_42 : decode prog_66_method_1_code 42 = .ok (.istore_n 3, 1) := by decide +kernel
theorem d1_43 : decode prog_66_method_1_code 43 = .ok (.iconst 0, 1) := by decide +kernel
theorem d1_44 : decode prog_66_method_1_code 44 = .ok (.istore 4, 2) := by decide +kernel
theorem d1_121 : decode prog_66_method_1_code 121 = .ok (.return_, 1) := by decide +kernel
theorem ef1 (m : MethodId) (x0 : Addr) (x1 : Int32) (x2 : Int32) : entryFrame m #[(.ref x0), (.int x1), (.int x2)] 7 = mkF m 0 #[.val (.ref x0), .val (.int x1), .val (.int x2), .unset, .unset, .unset, .unset] [] := by first | (simp [entryFrame, mkF, argsToLocals, Value.category]; done) | rfl
def Q1 (Z : State) (a0 : Addr) (p1 : Int32) (p2 : Int32) (h0 : Heap) (n0 : Nat) (v : Option Value) (h : Heap) (L : List Loc) : Prop := v = none ∧ Fr n0 L ∧ Keep h0 h [a0] ∧ Exa Z h a0 "com/example/baton/baton/core/format/Crc" ∧ Fld Z h a0 "com/example/baton/baton/core/format/Crc" "width" "I" (.int p2) ∧ Fld Z h a0 "com/example/baton/baton/core/format/Crc" "mask" "I" (.int (own_mask p2)) ∧ ∃ (tb : Addr) (kk : ClassId), a0 ≠ tb ∧ n0 ≤ tb ∧ Fld Z h a0 "com/example/baton/baton/core/format/Crc" "table" "[I" (.ref tb) ∧ Arh Z h tb kk .int (256 : Int32) (own_hs p1 p2 ((1 : Int32) <<< ((p2 - (1 : Int32)) &&& 31)) (own_mask p2) 256) [] (.int (0 : Int32))
set_option maxRecDepth 65536 in
set_option maxHeartbeats 40000000 in
theorem rm1 (l : Launch) (Z : State) (av : Array Value) (hw : ∀ d ∈ tables_1, d.before av Z = true) (ws : List Jvm.Cond) (a0 : Addr) (p1 : Int32) (p2 : Int32) (h0 : Heap) (n0 : Nat) (Z0 : n0 ≤ h0.size) (E_a0 : Exa Z h0 a0 "com/example/baton/baton/core/format/Crc") (g_a0 : n0 ≤ a0) (I_table : Fld Z h0 a0 "com/example/baton/baton/core/format/Crc" "table" "[I" .null) (I_width : Fld Z h0 a0 "com/example/baton/baton/core/format/Crc" "width" "I" (.int (0 : Int32))) (I_mask : Fld Z h0 a0 "com/example/baton/baton/core/format/Crc" "mask" "I" (.int (0 : Int32))) :
    MetFree l (⟨"com/example/baton/baton/core/format/Crc", "<init>", "(II)V"⟩ : MethodName) (head1 (Jvm.Cond.code (⟨"com/example/baton/baton/core/format/Crc", "<init>", "(II)V"⟩ : MethodName) prog_66_method_1_code 7 none :: ws) ({ frames := 1, cells := 1, slots := 256, locals := 12 } : Room)) (fun a U => a = #[(.ref a0), (.int p1), (.int p2)] ∧ Z.Warmed39 U.vm ∧ U.heap = h0) (fun _ _ _ _ _ => True) (fun _ U o U' => ∃ v L, o = .returned v ∧ Q1 Z a0 p1 p2 h0 n0 v U'.heap L ∧ FrameEnd U o U' L ({ frames := 1, cells := 1, slots := 256, locals := 12 } : Room).cells ({ frames := 1, cells := 1, slots := 256, locals := 12 } : Room).slots) := by
  refine MetFree.of_bodySF (plainFor_of_name pn_com_example_baton_baton_core_format_Crc) hisR ?_
  intro p e s m args below meth c s₁ Bd hml0 hP hK
  obtain ⟨rfl, hZ, hh⟩ := hP
  have hx := Bd.exec
  have hby := Bd.bytes
  have hml : c.maxLocals = 7 := hml0
  have hown : s.vm.findClass "com/example/baton/baton/core/format/Crc" = some m.cls := findClass_of_methodNamed Bd.named
  have hnm := (name_of_methodNamed Bd.named Bd.method).1
  have X0 : Stand p l e ({ frames := 1, cells := 1, slots := 256, locals := 12 } : Room) s m #[(.ref a0), (.int p1), (.int p2)] below meth c s₁ [] 0 0 := Stand.of_body Bd
  have e0 : s₁.heap = h0 := by rw [← hh, Bd.state]; rfl
  have N0 := Fr.nil n0
  have K0 : Keep h0 h0 [a0] := Keep.refl h0 [a0]
  have pre0 : ∀ t, Steps p.tables e below (s₁.setTop (mkF m 0 #[.val (.ref a0), .val (.int p1), .val (.int p2), .unset, .unset, .unset, .unset] [])) t → Steps p.tables e below (s₁.setTop (entryFrame m #[(.ref a0), (.int p1), (.int p2)] 7)) t := fun t k => castTop (ef1 m a0 p1 p2) k
  have pre1 : ∀ t, Steps p.tables e below (s₁.setTop (mkF m 1 #[.val (.ref a0), .val (.int p1), .val (.int p2), .unset, .unset, .unset, .unset] [(.ref a0)])) t → Steps p.tables e below (s₁.setTop (entryFrame m #[(.ref a0), (.int p1), (.int p2)] 7)) t := fun t kt => pre0 t (by
    show Steps p.tables e below (s₁.setTop (mkF m 0 #[.val (.ref a0), .val (.int p1), .val (.int p2), .unset, .unset, .unset, .unset] [])) _
    refine XS.aloadN X0.here hx rfl (hb hby d1_0) rfl rfl ?_
    exact kt)
  obtain ⟨T2, X2, e2, st2⟩ := initO X0 hx hZ hown (hw _ (List.mem_of_getElem? (i := 7) rfl)) (hw _ (List.mem_of_getElem? (i := 8) rfl)) (hw _ (List.mem_of_getElem? (i := 9) rfl)) e0 (g := (mkF m 1 #[.val (.ref a0), .val (.int p1), .val (.int p2), .unset, .unset, .unset, .unset] [(.ref a0)])) rfl (by rw [hml]; rfl) rfl (hb hby d1_1) (by decide) (W := 0) (by show 2 * 0 + _ ≤ _; exact Nat.le_of_eq rfl) (by decide)
  have pre3 : ∀ t, Steps p.tables e below (T2.setTop (mkF m 4 #[.val (.ref a0), .val (.int p1), .val (.int p2), .unset, .unset, .unset, .unset] [])) t → Steps p.tables e below (s₁.setTop (entryFrame m #[(.ref a0), (.int p1), (.int p2)] 7)) t := fun t kt => pre1 t (st2 _ kt)
  have pre4 : ∀ t, Steps p.tables e below (T2.setTop (mkF m 8 #[.val (.ref a0), .val (.int p1), .val (.int p2), .unset, .unset, .unset, .unset] [(.int (256 : Int32)), (.ref a0)])) t → Steps p.tables e below (s₁.setTop (entryFrame m #[(.ref a0), (.int p1), (.int p2)] 7)) t := fun t kt => pre3 t (by
    show Steps p.tables e below (T2.setTop (mkF m 4 #[.val (.ref a0), .val (.int p1), .val (.int p2), .unset, .unset, .unset, .unset] [])) _
    refine XS.aloadN X2.here hx rfl (hb hby d1_4) rfl rfl ?_
    show Steps p.tables e below (T2.setTop (mkF m 5 #[.val (.ref a0), .val (.int p1), .val (.int p2), .unset, .unset, .unset, .unset] [(.ref a0)])) _
    refine XS.sipush X2.here hx rfl (hb hby d1_5) ?_
    exact kt)
  obtain ⟨T5, h5, k5, X5, e5, E5, A5, st5⟩ := newP X2 hx hZ (hw _ (List.mem_of_getElem? (i := 10) rfl)) e2 (g := (mkF m 8 #[.val (.ref a0), .val (.int p1), .val (.int p2), .unset, .unset, .unset, .unset] [(.int (256 : Int32)), (.ref a0)])) rfl (hb hby d1_8) rfl (by decide) (cap := 256) (by decide) (by decide) (by decide) (by decide)
  obtain ⟨b5, g5⟩ : ∃ z, z = h0.size := ⟨_, rfl⟩
  rw [← g5] at A5 st5
  have ne_a0_b5 : a0 ≠ b5 := Nat.ne_of_lt (Nat.lt_of_lt_of_le E_a0.lt (Nat.le_of_eq g5.symm))
  have pre6 : ∀ t, Steps p.tables e below (T5.setTop (mkF m 10 #[.val (.ref a0), .val (.int p1), .val (.int p2), .unset, .unset, .unset, .unset] [(.ref b5), (.ref a0)])) t → Steps p.tables e below (s₁.setTop (entryFrame m #[(.ref a0), (.int p1), (.int p2)] 7)) t := fun t kt => pre4 t (st5 _ kt)
  have F7 : Exa Z h5 a0 "com/example/baton/baton/core/format/Crc" := E_a0.ext E5
  have F8 : Fld Z h5 a0 "com/example/baton/baton/core/format/Crc" "table" "[I" .null := I_table.ext E5
  have F9 : Fld Z h5 a0 "com/example/baton/baton/core/format/Crc" "width" "I" (.int (0 : Int32)) := I_width.ext E5
  have F10 : Fld Z h5 a0 "com/example/baton/baton/core/format/Crc" "mask" "I" (.int (0 : Int32)) := I_mask.ext E5
  have gn5 : n0 ≤ b5 := Nat.le_trans Z0 (Nat.le_of_eq g5.symm)
  have sz5 : h0.size ≤ b5 := Nat.le_trans K0.1 (Nat.le_of_eq g5.symm)
  have K5 : Keep h0 h5 [a0] := K0.ext E5
  have Z5 : n0 ≤ h5.size := Nat.le_trans Z0 E5.1
  have V5 : Arh Z h5 b5 k5 .int (256 : Int32) [] [] (.int (0 : Int32)) := (Arv.new A5 (by decide)).arh
  obtain ⟨T11, h11, X11, e11, W11, st11⟩ := putF X5 hx hZ hown (host := "") (Or.inl (hw _ (List.mem_of_getElem? (i := 11) rfl))) Via.refl e5 F8 F7 (Or.inr ⟨(hw _ (List.mem_of_getElem? (i := 12) rfl)), rfl, hnm⟩) (hw _ (List.mem_of_getElem? (i := 2) rfl)) (ty := (.array .int)) (by decide) rfl rfl (g := (mkF m 10 #[.val (.ref a0), .val (.int p1), .val (.int p2), .unset, .unset, .unset, .unset] [(.ref b5), (.ref a0)])) rfl rfl (hb hby d1_10)
  have pre12 : ∀ t, Steps p.tables e below (T11.setTop (mkF m 13 #[.val (.ref a0), .val (.int p1), .val (.int p2), .unset, .unset, .unset, .unset] [])) t → Steps p.tables e below (s₁.setTop (entryFrame m #[(.ref a0), (.int p1), (.int p2)] 7)) t := fun t kt => pre6 t (st11 _ kt)
  have Fw11 : Fld Z h11 a0 "com/example/baton/baton/core/format/Crc" "table" "[I" (.ref b5) := F8.same W11
  have F13 : Exa Z h11 a0 "com/example/baton/baton/core/format/Crc" := F7.wr W11
  have F14 : Fld Z h11 a0 "com/example/baton/baton/core/format/Crc" "width" "I" (.int (0 : Int32)) := F9.other W11 (Or.inr (slot_ne (Or.inr (hw _ (List.mem_of_getElem? (i := 14) rfl))) (Or.inr (hw _ (List.mem_of_getElem? (i := 12) rfl))) (by decide) (t := .int) (t' := (.array .int)) (by decide) (by decide)))
  have F15 : Fld Z h11 a0 "com/example/baton/baton/core/format/Crc" "mask" "I" (.int (0 : Int32)) := F10.other W11 (Or.inr (slot_ne (Or.inr (hw _ (List.mem_of_getElem? (i := 16) rfl))) (Or.inr (hw _ (List.mem_of_getElem? (i := 12) rfl))) (by decide) (t := .int) (t' := (.array .int)) (by decide) (by decide)))
  have F16 : Arh Z h11 b5 k5 .int (256 : Int32) [] [] (.int (0 : Int32)) := V5.other W11 (Ne.symm ne_a0_b5)
  have K11 : Keep h0 h11 [a0] := K5.wr W11 (Or.inl (List.mem_of_getElem? (i := 0) rfl))
  have N11 := Fr.snoc X11 N0 g_a0
  have Z11 : n0 ≤ h11.size := Nat.le_trans Z5 (Keep.of_wr W11).1
  have pre17 : ∀ t, Steps p.tables e below (T11.setTop (mkF m 15 #[.val (.ref a0), .val (.int p1), .val (.int p2), .unset, .unset, .unset, .unset] [(.int p2), (.ref a0)])) t → Steps p.tables e below (s₁.setTop (entryFrame m #[(.ref a0), (.int p1), (.int p2)] 7)) t := fun t kt => pre12 t (by
    show Steps p.tables e below (T11.setTop (mkF m 13 #[.val (.ref a0), .val (.int p1), .val (.int p2), .unset, .unset, .unset, .unset] [])) _
    refine XS.aloadN X11.here hx rfl (hb hby d1_13) rfl rfl ?_
    show Steps p.tables e below (T11.setTop (mkF m 14 #[.val (.ref a0), .val (.int p1), .val (.int p2), .unset, .unset, .unset, .unset] [(.ref a0)])) _
    refine XS.iloadN X11.here hx rfl (hb hby d1_14) rfl ?_
    exact kt)
  obtain ⟨T18, h18, X18, e18, W18, st18⟩ := putF X11 hx hZ hown (host := "") (Or.inl (hw _ (List.mem_of_getElem? (i := 13) rfl))) Via.refl e11 F14 F13 (Or.inr ⟨(hw _ (List.mem_of_getElem? (i := 14) rfl)), rfl, hnm⟩) (hw _ (List.mem_of_getElem? (i := 2) rfl)) (ty := .int) (by decide) rfl rfl (g := (mkF m 15 #[.val (.ref a0), .val (.int p1), .val (.int p2), .unset, .unset, .unset, .unset] [(.int p2), (.ref a0)])) rfl rfl (hb hby d1_15)
  have pre19 : ∀ t, Steps p.tables e below (T18.setTop (mkF m 18 #[.val (.ref a0), .val (.int p1), .val (.int p2), .unset, .unset, .unset, .unset] [])) t → Steps p.tables e below (s₁.setTop (entryFrame m #[(.ref a0), (.int p1), (.int p2)] 7)) t := fun t kt => pre17 t (st18 _ kt)
  have Fw18 : Fld Z h18 a0 "com/example/baton/baton/core/format/Crc" "width" "I" (.int p2) := F14.same W18
  have F20 : Exa Z h18 a0 "com/example/baton/baton/core/format/Crc" := F13.wr W18
  have F21 : Fld Z h18 a0 "com/example/baton/baton/core/format/Crc" "mask" "I" (.int (0 : Int32)) := F15.other W18 (Or.inr (slot_ne (Or.inr (hw _ (List.mem_of_getElem? (i := 16) rfl))) (Or.inr (hw _ (List.mem_of_getElem? (i := 14) rfl))) (by decide) (t := .int) (t' := .int) (by decide) (by decide)))
  have F22 : Arh Z h18 b5 k5 .int (256 : Int32) [] [] (.int (0 : Int32)) := F16.other W18 (Ne.symm ne_a0_b5)
  have F23 : Fld Z h18 a0 "com/example/baton/baton/core/format/Crc" "table" "[I" (.ref b5) := Fw11.other W18 (Or.inr (slot_ne (Or.inr (hw _ (List.mem_of_getElem? (i := 12) rfl))) (Or.inr (hw _ (List.mem_of_getElem? (i := 14) rfl))) (by decide) (t := (.array .int)) (t' := .int) (by decide) (by decide)))
  have K18 : Keep h0 h18 [a0] := K11.wr W18 (Or.inl (List.mem_of_getElem? (i := 0) rfl))
  have N18 := Fr.snoc X18 N11 g_a0
  have Z18 : n0 ≤ h18.size := Nat.le_trans Z11 (Keep.of_wr W18).1
  have pre24 : ∀ t, Steps p.tables e below (T18.setTop (mkF m 22 #[.val (.ref a0), .val (.int p1), .val (.int p2), .unset, .unset, .unset, .unset] [(.int (32 : Int32)), (.int p2), (.ref a0)])) t → Steps p.tables e below (s₁.setTop (entryFrame m #[(.ref a0), (.int p1), (.int p2)] 7)) t := fun t kt => pre19 t (by
    show Steps p.tables e below (T18.setTop (mkF m 18 #[.val (.ref a0), .val (.int p1), .val (.int p2), .unset, .unset, .unset, .unset] [])) _
    refine XS.aloadN X18.here hx rfl (hb hby d1_18) rfl rfl ?_
    show Steps p.tables e below (T18.setTop (mkF m 19 #[.val (.ref a0), .val (.int p1), .val (.int p2), .unset, .unset, .unset, .unset] [(.ref a0)])) _
    refine XS.iloadN X18.here hx rfl (hb hby d1_19) rfl ?_
    show Steps p.tables e below (T18.setTop (mkF m 20 #[.val (.ref a0), .val (.int p1), .val (.int p2), .unset, .unset, .unset, .unset] [(.int p2), (.ref a0)])) _
    refine XS.bipush X18.here hx rfl (hb hby d1_20) ?_
    exact kt)
  have pre25 : ∀ t, Steps p.tables e below (T18.setTop (mkF m 34 #[.val (.ref a0), .val (.int p1), .val (.int p2), .unset, .unset, .unset, .unset] [(.int (own_mask p2)), (.ref a0)])) t → Steps p.tables e below (s₁.setTop (entryFrame m #[(.ref a0), (.int p1), (.int p2)] 7)) t := by
    by_cases hc22_26 : p2 = (32 : Int32)
    · have pre27 : ∀ t, Steps p.tables e below (T18.setTop (mkF m 34 #[.val (.ref a0), .val (.int p1), .val (.int p2), .unset, .unset, .unset, .unset] [(.int (-1 : Int32)), (.ref a0)])) t → Steps p.tables e below (s₁.setTop (entryFrame m #[(.ref a0), (.int p1), (.int p2)] 7)) t := fun t kt => pre24 t (by
        show Steps p.tables e below (T18.setTop (mkF m 22 #[.val (.ref a0), .val (.int p1), .val (.int p2), .unset, .unset, .unset, .unset] [(.int (32 : Int32)), (.int p2), (.ref a0)])) _
        refine XS.icmpNo X18.here hx rfl (hb hby d1_22) rfl (teq hc22_26).2 ?_
        show Steps p.tables e below (T18.setTop (mkF m 25 #[.val (.ref a0), .val (.int p1), .val (.int p2), .unset, .unset, .unset, .unset] [(.ref a0)])) _
        refine XS.iconst X18.here hx rfl (hb hby d1_25) ?_
        show Steps p.tables e below (T18.setTop (mkF m 26 #[.val (.ref a0), .val (.int p1), .val (.int p2), .unset, .unset, .unset, .unset] [(.int (-1 : Int32)), (.ref a0)])) _
        refine XS.goto X18.here hx rfl (pc0 := 26) (pc' := 34) rfl (hb hby d1_26) (by decide) (by decide) ?_
        exact kt)
      have hvx : (-1 : Int32) = (own_mask p2) := (by unfold own_mask; rw [if_pos hc22_26])
      rw [← hvx]
      exact pre27
    · have pre28 : ∀ t, Steps p.tables e below (T18.setTop (mkF m 34 #[.val (.ref a0), .val (.int p1), .val (.int p2), .unset, .unset, .unset, .unset] [(.int (((1 : Int32) <<< (p2 &&& 31)) - (1 : Int32))), (.ref a0)])) t → Steps p.tables e below (s₁.setTop (entryFrame m #[(.ref a0), (.int p1), (.int p2)] 7)) t := fun t kt => pre24 t (by
        show Steps p.tables e below (T18.setTop (mkF m 22 #[.val (.ref a0), .val (.int p1), .val (.int p2), .unset, .unset, .unset, .unset] [(.int (32 : Int32)), (.int p2), (.ref a0)])) _
        refine XS.icmpYes X18.here hx rfl (pc0 := 22) (pc' := 29) rfl (hb hby d1_22) rfl (feq hc22_26).2 (by decide) (by decide) ?_
        show Steps p.tables e below (T18.setTop (mkF m 29 #[.val (.ref a0), .val (.int p1), .val (.int p2), .unset, .unset, .unset, .unset] [(.ref a0)])) _
        refine XS.iconst X18.here hx rfl (hb hby d1_29) ?_
        show Steps p.tables e below (T18.setTop (mkF m 30 #[.val (.ref a0), .val (.int p1), .val (.int p2), .unset, .unset, .unset, .unset] [(.int (1 : Int32)), (.ref a0)])) _
        refine XS.iloadN X18.here hx rfl (hb hby d1_30) rfl ?_
        show Steps p.tables e below (T18.setTop (mkF m 31 #[.val (.ref a0), .val (.int p1), .val (.int p2), .unset, .unset, .unset, .unset] [(.int p2), (.int (1 : Int32)), (.ref a0)])) _
        refine XS.ishl X18.here hx rfl (hb hby d1_31) rfl ?_
        show Steps p.tables e below (T18.setTop (mkF m 32 #[.val (.ref a0), .val (.int p1), .val (.int p2), .unset, .unset, .unset, .unset] [(.int ((1 : Int32) <<< (p2 &&& 31))), (.ref a0)])) _
        refine XS.iconst X18.here hx rfl (hb hby d1_32) ?_
        show Steps p.tables e below (T18.setTop (mkF m 33 #[.val (.ref a0), .val (.int p1), .val (.int p2), .unset, .unset, .unset, .unset] [(.int (1 : Int32)), (.int ((1 : Int32) <<< (p2 &&& 31))), (.ref a0)])) _
        refine XS.isub X18.here hx rfl (hb hby d1_33) rfl ?_
        exact kt)
      have hvx : (((1 : Int32) <<< (p2 &&& 31)) - (1 : Int32)) = (own_mask p2) := (by unfold own_mask; rw [if_neg hc22_26])
      rw [← hvx]
      exact pre28
  obtain ⟨T29, h29, X29, e29, W29, st29⟩ := putF X18 hx hZ hown (host := "") (Or.inl (hw _ (List.mem_of_getElem? (i := 15) rfl))) Via.refl e18 F21 F20 (Or.inr ⟨(hw _ (List.mem_of_getElem? (i := 16) rfl)), rfl, hnm⟩) (hw _ (List.mem_of_getElem? (i := 2) rfl)) (ty := .int) (by decide) rfl rfl (g := (mkF m 34 #[.val (.ref a0), .val (.int p1), .val (.int p2), .unset, .unset, .unset, .unset] [(.int (own_mask p2)), (.ref a0)])) rfl rfl (hb hby d1_34)
  have pre30 : ∀ t, Steps p.tables e below (T29.setTop (mkF m 37 #[.val (.ref a0), .val (.int p1), .val (.int p2), .unset, .unset, .unset, .unset] [])) t → Steps p.tables e below (s₁.setTop (entryFrame m #[(.ref a0), (.int p1), (.int p2)] 7)) t := fun t kt => pre25 t (st29 _ kt)
  have Fw29 : Fld Z h29 a0 "com/example/baton/baton/core/format/Crc" "mask" "I" (.int (own_mask p2)) := F21.same W29
  have F31 : Exa Z h29 a0 "com/example/baton/baton/core/format/Crc" := F20.wr W29
  have F32 : Arh Z h29 b5 k5 .int (256 : Int32) [] [] (.int (0 : Int32)) := F22.other W29 (Ne.symm ne_a0_b5)
  have F33 : Fld Z h29 a0 "com/example/baton/baton/core/format/Crc" "table" "[I" (.ref b5) := F23.other W29 (Or.inr (slot_ne (Or.inr (hw _ (List.mem_of_getElem? (i := 12) rfl))) (Or.inr (hw _ (List.mem_of_getElem? (i := 16) rfl))) (by decide) (t := (.array .int)) (t' := .int) (by decide) (by decide)))
  have F34 : Fld Z h29 a0 "com/example/baton/baton/core/format/Crc" "width" "I" (.int p2) := Fw18.other W29 (Or.inr (slot_ne (Or.inr (hw _ (List.mem_of_getElem? (i := 14) rfl))) (Or.inr (hw _ (List.mem_of_getElem? (i := 16) rfl))) (by decide) (t := .int) (t' := .int) (by decide) (by decide)))
  have K29 : Keep h0 h29 [a0] := K18.wr W29 (Or.inl (List.mem_of_getElem? (i := 0) rfl))
  have N29 := Fr.snoc X29 N18 g_a0
  have Z29 : n0 ≤ h29.size := Nat.le_trans Z18 (Keep.of_wr W29).1
  have pre35 : ∀ t, Steps p.tables e below (T29.setTop (mkF m 46 #[.val (.ref a0), .val (.int p1), .val (.int p2), .val (.int ((1 : Int32) <<< ((p2 - (1 : Int32)) &&& 31))), .val (.int (0 : Int32)), .unset, .unset] [])) t → Steps p.tables e below (s₁.setTop (entryFrame m #[(.ref a0), (.int p1), (.int p2)] 7)) t := fun t kt => pre30 t (by
    show Steps p.tables e below (T29.setTop (mkF m 37 #[.val (.ref a0), .val (.int p1), .val (.int p2), .unset, .unset, .unset, .unset] [])) _
    refine XS.iconst X29.here hx rfl (hb hby d1_37) ?_
    show Steps p.tables e below (T29.setTop (mkF m 38 #[.val (.ref a0), .val (.int p1), .val (.int p2), .unset, .unset, .unset, .unset] [(.int (1 : Int32))])) _
    refine XS.iloadN X29.here hx rfl (hb hby d1_38) rfl ?_
    show Steps p.tables e below (T29.setTop (mkF m 39 #[.val (.ref a0), .val (.int p1), .val (.int p2), .unset, .unset, .unset, .unset] [(.int p2), (.int (1 : Int32))])) _
    refine XS.iconst X29.here hx rfl (hb hby d1_39) ?_
    show Steps p.tables e below (T29.setTop (mkF m 40 #[.val (.ref a0), .val (.int p1), .val (.int p2), .unset, .unset, .unset, .unset] [(.int (1 : Int32)), (.int p2), (.int (1 : Int32))])) _
    refine XS.isub X29.here hx rfl (hb hby d1_40) rfl ?_
    show Steps p.tables e below (T29.setTop (mkF m 41 #[.val (.ref a0), .val (.int p1), .val (.int p2), .unset, .unset, .unset, .unset] [(.int (p2 - (1 : Int32))), (.int (1 : Int32))])) _
    refine XS.ishl X29.here hx rfl (hb hby d1_41) rfl ?_
    show Steps p.tables e below (T29.setTop (mkF m 42 #[.val (.ref a0), .val (.int p1), .val (.int p2), .unset, .unset, .unset, .unset] [(.int ((1 : Int32) <<< ((p2 - (1 : Int32)) &&& 31)))])) _
    refine XS.istoreN X29.here hx rfl (hb hby d1_42) rfl (l' := #[.val (.ref a0), .val (.int p1), .val (.int p2), .val (.int ((1 : Int32) <<< ((p2 - (1 : Int32)) &&& 31))), .unset, .unset, .unset]) rfl ?_
    show Steps p.tables e below (T29.setTop (mkF m 43 #[.val (.ref a0), .val (.int p1), .val (.int p2), .val (.int ((1 : Int32) <<< ((p2 - (1 : Int32)) &&& 31))), .unset, .unset, .unset] [])) _
    refine XS.iconst X29.here hx rfl (hb hby d1_43) ?_
    show Steps p.tables e below (T29.setTop (mkF m 44 #[.val (.ref a0), .val (.int p1), .val (.int p2), .val (.int ((1 : Int32) <<< ((p2 - (1 : Int32)) &&& 31))), .unset, .unset, .unset] [(.int (0 : Int32))])) _
    refine XS.istore X29.here hx rfl (hb hby d1_44) rfl (l' := #[.val (.ref a0), .val (.int p1), .val (.int p2), .val (.int ((1 : Int32) <<< ((p2 - (1 : Int32)) &&& 31))), .val (.int (0 : Int32)), .unset, .unset]) rfl ?_
    exact kt)
  obtain ⟨T36, h36, l36, sa36, sb36, X36, e36, N36, Kq36, V36, st36⟩ := own_loop a0 p1 p2 ((1 : Int32) <<< ((p2 - (1 : Int32)) &&& 31)) b5 (own_mask p2) k5 hx hZ hw hby hml hown ne_a0_b5 gn5 256 0 rfl .unset .unset One.u One.u X29 e29 N29 Z29 F33 Fw29 F32
  have F37 : Exa Z h36 a0 "com/example/baton/baton/core/format/Crc" := F31.keep Kq36
  have F38 : Fld Z h36 a0 "com/example/baton/baton/core/format/Crc" "table" "[I" (.ref b5) := F33.keep Kq36 (ninS ne_a0_b5 nin0)
  have F39 : Fld Z h36 a0 "com/example/baton/baton/core/format/Crc" "width" "I" (.int p2) := F34.keep Kq36 (ninS ne_a0_b5 nin0)
  have F40 : Fld Z h36 a0 "com/example/baton/baton/core/format/Crc" "mask" "I" (.int (own_mask p2)) := Fw29.keep Kq36 (ninS ne_a0_b5 nin0)
  have K36 : Keep h0 h36 [a0] := K29.trans Kq36 (allS (Or.inr sz5) all0)
  have Z36 : n0 ≤ h36.size := Nat.le_trans Z29 Kq36.1
  have pre41 : ∀ t, Steps p.tables e below (T36.setTop (mkF m 121 #[.val (.ref a0), .val (.int p1), .val (.int p2), .val (.int ((1 : Int32) <<< ((p2 - (1 : Int32)) &&& 31))), .val (.int (256 : Int32)), sa36, sb36] [])) t → Steps p.tables e below (s₁.setTop (entryFrame m #[(.ref a0), (.int p1), (.int p2)] 7)) t := fun t kt => pre35 t (st36 _ kt)
  obtain ⟨fs, hr, hrun, hended, hW, hsame⟩ := X36.leave (v := none) (fun _ => rfl)
  refine ⟨_, _, pre41 _ ?_, hrun, hended, _, _, rfl, ?_, ⟨_, rfl⟩, hW, hsame.mono (by decide) (by decide)⟩
  · show Steps p.tables e below (T36.setTop (mkF m 121 #[.val (.ref a0), .val (.int p1), .val (.int p2), .val (.int ((1 : Int32) <<< ((p2 - (1 : Int32)) &&& 31))), .val (.int (256 : Int32)), sa36, sb36] [])) _
    exact X36.returnOut hx Bd.returns (hb hby d1_121) hr
  · show Q1 Z a0 p1 p2 h0 n0 _ T36.heap _
    rw [e36]
    exact ⟨rfl, N36, K36, F37, F39, F40, b5, _, ne_a0_b5, gn5, F38, V36⟩
theorem own_b8 (x : Int32) : ¬ (x &&& (255 : Int32)) < 0 ∧ (x &&& (255 : Int32)) < (256 : Int32) := by
  have h := c_mask x (255 : Int32) 8 (by decide) (by decide)
  simp only [Int32.lt_iff_toInt_lt, Int32.reduceToInt]
  omega
theorem d3_0 : decode prog_66_method_2_code 0 = .ok (.iload_n 1, 1) := by decide +kernel
theorem d3_1 : decode prog_66_method_2_code 1 = .ok (.bipush 8, 2) := by decide +kernel
theorem d3_3 : decode prog_66_method_2_code 3 = .ok (.ishl, 1) := by decide +kernel
theorem d3_4 : decode prog_66_method_2_code 4 = .ok (.aload_n 0, 1) := by decide +kernel
theorem d3_5 : decode prog_66_method_2_code 5 = .ok (.getfield 7, 3) := by decide +kernel
theorem d3_8 : decode prog_66_method_2_code 8 = .ok (.iload_n 1, 1) := by decide +kernel
theorem d3_9 : decode prog_66_method_2_code 9 = .ok (.aload_n 0, 1) := by decide +kernel
theorem d3_10 : decode prog_66_method_2_code 10 = .ok (.getfield 13, 3) := by decide +kernel
theorem d3_13 : decode prog_66_method_2_code 13 = .ok (.bipush 8, 2) := by decide +kernel
theorem d3_15 : decode prog_66_method_2_code 15 = .ok (.isub, 1) := by decide +kernel
theorem d3_16 : decode prog_66_method_2_code 16 = .ok (.iushr, 1) := by decide +kernel
theorem d3_17 : decode prog_66_method_2_code 17 = .ok (.iload_n 2, 1) := by decide +kernel
theorem d3_18 : decode prog_66_method_2_code 18 = .ok (.ixor, 1) := by decide +kernel
theorem d3_19 : decode prog_66_method_2_code 19 = .ok (.sipush 255, 3) := by decide +kernel
theorem d3_22 : decode prog_66_method_2_code 22 = .ok (.iand, 1) := by decide +kernel
theorem d3_23 : decode prog_66_method_2_code 23 = .ok (.iaload, 1) := by decide +kernel
theorem d3_24 : decode prog_66_method_2_code 24 = .ok (.ixor, 1) := by decide +kernel
theorem d3_25 : decode prog_66_method_2_code 25 = .ok (.aload_n 0, 1) := by decide +kernel
theorem d3_26 : decode prog_66_method_2_code 26 = .ok (.getfield 17, 3) := by decide +kernel
theorem d3_29 : decode prog_66_method_2_code 29 = .ok (.iand, 1) := by decide +kernel
theorem d3_30 : decode prog_66_method_2_code 30 = .ok (.ireturn, 1) := by decide +kernel
theorem ef3 (m : MethodId) (x0 : Addr) (x1 : Int32) (x2 : Int32) : entryFrame m #[(.ref x0), (.int x1), (.int x2)] 3 = mkF m 0 #[.val (.ref x0), .val (.int x1), .val (.int x2)] [] := by first | (simp [entryFrame, mkF, argsToLocals, Value.category]; done) | rfl
def f_upd (p1 : Int32) (p2 : Int32) (wd : Int32) (mk : Int32) (tvv : Int32) : Int32 :=
  (((p1 <<< ((8 : Int32) &&& 31)) ^^^ tvv) &&& mk)
def Q3 (Z : State) (a0 : Addr) (p1 : Int32) (p2 : Int32) (wd : Int32) (mk : Int32) (tvv : Int32) (tb : Addr) (kk : ClassId) (hs : List (Int32 × Value)) (h0 : Heap) (n0 : Nat) (v : Option Value) (h : Heap) (L : List Loc) : Prop := v = some (.int (f_upd p1 p2 wd mk tvv)) ∧ Fr n0 L ∧ h = h0
set_option maxRecDepth 65536 in
set_option maxHeartbeats 40000000 in
theorem rm3 (l : Launch) (Z : State) (av : Array Value) (hw : ∀ d ∈ tables_1, d.before av Z = true) (ws : List Jvm.Cond) (a0 : Addr) (p1 : Int32) (p2 : Int32) (wd : Int32) (mk : Int32) (tvv : Int32) (tb : Addr) (kk : ClassId) (hs : List (Int32 × Value)) (h0 : Heap) (n0 : Nat) (Z0 : n0 ≤ h0.size) (F_table : Fld Z h0 a0 "com/example/baton/baton/core/format/Crc" "table" "[I" (.ref tb)) (F_mask : Fld Z h0 a0 "com/example/baton/baton/core/format/Crc" "mask" "I" (.int mk)) (F_width : Fld Z h0 a0 "com/example/baton/baton/core/format/Crc" "width" "I" (.int wd)) (V0 : Arh Z h0 tb kk .int (256 : Int32) hs [] (.int (0 : Int32))) (hel : getH hs [] (.int (0 : Int32)) (((((p1.toUInt32 >>> ((wd - (8 : Int32)) &&& 31).toUInt32).toInt32) ^^^ p2) &&& (255 : Int32))).toNatClampNeg = .int tvv) :
    MetFree l (⟨"com/example/baton/baton/core/format/Crc", "update", "(II)I"⟩ : MethodName) (head1 (Jvm.Cond.code (⟨"com/example/baton/baton/core/format/Crc", "update", "(II)I"⟩ : MethodName) prog_66_method_2_code 3 (some .int) :: ws) ({ frames := 0, cells := 0, slots := 0, locals := 0 } : Room)) (fun a U => a = #[(.ref a0), (.int p1), (.int p2)] ∧ Z.Warmed39 U.vm ∧ U.heap = h0) (fun _ _ _ _ _ => True) (fun _ U o U' => ∃ v L, o = .returned v ∧ Q3 Z a0 p1 p2 wd mk tvv tb kk hs h0 n0 v U'.heap L ∧ FrameEnd U o U' L ({ frames := 0, cells := 0, slots := 0, locals := 0 } : Room).cells ({ frames := 0, cells := 0, slots := 0, locals := 0 } : Room).slots) := by
  refine MetFree.of_bodySF (plainFor_of_name pn_com_example_baton_baton_core_format_Crc) hisR ?_
  intro p e s m args below meth c s₁ Bd hml0 hP hK
  obtain ⟨rfl, hZ, hh⟩ := hP
  have hx := Bd.exec
  have hby := Bd.bytes
  have hml : c.maxLocals = 3 := hml0
  have hown : s.vm.findClass "com/example/baton/baton/core/format/Crc" = some m.cls := findClass_of_methodNamed Bd.named
  have hnm := (name_of_methodNamed Bd.named Bd.method).1
  have X0 : Stand p l e ({ frames := 0, cells := 0, slots := 0, locals := 0 } : Room) s m #[(.ref a0), (.int p1), (.int p2)] below meth c s₁ [] 0 0 := Stand.of_body Bd
  have e0 : s₁.heap = h0 := by rw [← hh, Bd.state]; rfl
  have N0 := Fr.nil n0
  have K0 : Keep h0 h0 [] := Keep.refl h0 []
  have pre0 : ∀ t, Steps p.tables e below (s₁.setTop (mkF m 0 #[.val (.ref a0), .val (.int p1), .val (.int p2)] [])) t → Steps p.tables e below (s₁.setTop (entryFrame m #[(.ref a0), (.int p1), (.int p2)] 3)) t := fun t k => castTop (ef3 m a0 p1 p2) k
  have pre1 : ∀ t, Steps p.tables e below (s₁.setTop (mkF m 5 #[.val (.ref a0), .val (.int p1), .val (.int p2)] [(.ref a0), (.int (p1 <<< ((8 : Int32) &&& 31)))])) t → Steps p.tables e below (s₁.setTop (entryFrame m #[(.ref a0), (.int p1), (.int p2)] 3)) t := fun t kt => pre0 t (by
    show Steps p.tables e below (s₁.setTop (mkF m 0 #[.val (.ref a0), .val (.int p1), .val (.int p2)] [])) _
    refine XS.iloadN X0.here hx rfl (hb hby d3_0) rfl ?_
    show Steps p.tables e below (s₁.setTop (mkF m 1 #[.val (.ref a0), .val (.int p1), .val (.int p2)] [(.int p1)])) _
    refine XS.bipush X0.here hx rfl (hb hby d3_1) ?_
    show Steps p.tables e below (s₁.setTop (mkF m 3 #[.val (.ref a0), .val (.int p1), .val (.int p2)] [(.int (8 : Int32)), (.int p1)])) _
    refine XS.ishl X0.here hx rfl (hb hby d3_3) rfl ?_
    show Steps p.tables e below (s₁.setTop (mkF m 4 #[.val (.ref a0), .val (.int p1), .val (.int p2)] [(.int (p1 <<< ((8 : Int32) &&& 31)))])) _
    refine XS.aloadN X0.here hx rfl (hb hby d3_4) rfl rfl ?_
    exact kt)
  obtain ⟨T2, X2, e2, st2⟩ := getF X0 hx hZ hown (host := "") (Or.inl (hw _ (List.mem_of_getElem? (i := 11) rfl))) Via.refl e0 F_table (g := (mkF m 5 #[.val (.ref a0), .val (.int p1), .val (.int p2)] [(.ref a0), (.int (p1 <<< ((8 : Int32) &&& 31)))])) rfl rfl (hb hby d3_5)
  have pre3 : ∀ t, Steps p.tables e below (T2.setTop (mkF m 8 #[.val (.ref a0), .val (.int p1), .val (.int p2)] [(.ref tb), (.int (p1 <<< ((8 : Int32) &&& 31)))])) t → Steps p.tables e below (s₁.setTop (entryFrame m #[(.ref a0), (.int p1), (.int p2)] 3)) t := fun t kt => pre1 t (st2 _ kt)
  have pre4 : ∀ t, Steps p.tables e below (T2.setTop (mkF m 10 #[.val (.ref a0), .val (.int p1), .val (.int p2)] [(.ref a0), (.int p1), (.ref tb), (.int (p1 <<< ((8 : Int32) &&& 31)))])) t → Steps p.tables e below (s₁.setTop (entryFrame m #[(.ref a0), (.int p1), (.int p2)] 3)) t := fun t kt => pre3 t (by
    show Steps p.tables e below (T2.setTop (mkF m 8 #[.val (.ref a0), .val (.int p1), .val (.int p2)] [(.ref tb), (.int (p1 <<< ((8 : Int32) &&& 31)))])) _
    refine XS.iloadN X2.here hx rfl (hb hby d3_8) rfl ?_
    show Steps p.tables e below (T2.setTop (mkF m 9 #[.val (.ref a0), .val (.int p1), .val (.int p2)] [(.int p1), (.ref tb), (.int (p1 <<< ((8 : Int32) &&& 31)))])) _
    refine XS.aloadN X2.here hx rfl (hb hby d3_9) rfl rfl ?_
    exact kt)
  obtain ⟨T5, X5, e5, st5⟩ := getF X2 hx hZ hown (host := "") (Or.inl (hw _ (List.mem_of_getElem? (i := 13) rfl))) Via.refl e2 F_width (g := (mkF m 10 #[.val (.ref a0), .val (.int p1), .val (.int p2)] [(.ref a0), (.int p1), (.ref tb), (.int (p1 <<< ((8 : Int32) &&& 31)))])) rfl rfl (hb hby d3_10)
  have pre6 : ∀ t, Steps p.tables e below (T5.setTop (mkF m 13 #[.val (.ref a0), .val (.int p1), .val (.int p2)] [(.int wd), (.int p1), (.ref tb), (.int (p1 <<< ((8 : Int32) &&& 31)))])) t → Steps p.tables e below (s₁.setTop (entryFrame m #[(.ref a0), (.int p1), (.int p2)] 3)) t := fun t kt => pre4 t (st5 _ kt)
  have pre7 : ∀ t, Steps p.tables e below (T5.setTop (mkF m 23 #[.val (.ref a0), .val (.int p1), .val (.int p2)] [(.int ((((p1.toUInt32 >>> ((wd - (8 : Int32)) &&& 31).toUInt32).toInt32) ^^^ p2) &&& (255 : Int32))), (.ref tb), (.int (p1 <<< ((8 : Int32) &&& 31)))])) t → Steps p.tables e below (s₁.setTop (entryFrame m #[(.ref a0), (.int p1), (.int p2)] 3)) t := fun t kt => pre6 t (by
    show Steps p.tables e below (T5.setTop (mkF m 13 #[.val (.ref a0), .val (.int p1), .val (.int p2)] [(.int wd), (.int p1), (.ref tb), (.int (p1 <<< ((8 : Int32) &&& 31)))])) _
    refine XS.bipush X5.here hx rfl (hb hby d3_13) ?_
    show Steps p.tables e below (T5.setTop (mkF m 15 #[.val (.ref a0), .val (.int p1), .val (.int p2)] [(.int (8 : Int32)), (.int wd), (.int p1), (.ref tb), (.int (p1 <<< ((8 : Int32) &&& 31)))])) _
    refine XS.isub X5.here hx rfl (hb hby d3_15) rfl ?_
    show Steps p.tables e below (T5.setTop (mkF m 16 #[.val (.ref a0), .val (.int p1), .val (.int p2)] [(.int (wd - (8 : Int32))), (.int p1), (.ref tb), (.int (p1 <<< ((8 : Int32) &&& 31)))])) _
    refine XS.iushr X5.here hx rfl (hb hby d3_16) rfl ?_
    show Steps p.tables e below (T5.setTop (mkF m 17 #[.val (.ref a0), .val (.int p1), .val (.int p2)] [(.int ((p1.toUInt32 >>> ((wd - (8 : Int32)) &&& 31).toUInt32).toInt32)), (.ref tb), (.int (p1 <<< ((8 : Int32) &&& 31)))])) _
    refine XS.iloadN X5.here hx rfl (hb hby d3_17) rfl ?_
    show Steps p.tables e below (T5.setTop (mkF m 18 #[.val (.ref a0), .val (.int p1), .val (.int p2)] [(.int p2), (.int ((p1.toUInt32 >>> ((wd - (8 : Int32)) &&& 31).toUInt32).toInt32)), (.ref tb), (.int (p1 <<< ((8 : Int32) &&& 31)))])) _
    refine XS.ixor X5.here hx rfl (hb hby d3_18) rfl ?_
    show Steps p.tables e below (T5.setTop (mkF m 19 #[.val (.ref a0), .val (.int p1), .val (.int p2)] [(.int (((p1.toUInt32 >>> ((wd - (8 : Int32)) &&& 31).toUInt32).toInt32) ^^^ p2)), (.ref tb), (.int (p1 <<< ((8 : Int32) &&& 31)))])) _
    refine XS.sipush X5.here hx rfl (hb hby d3_19) ?_
    show Steps p.tables e below (T5.setTop (mkF m 22 #[.val (.ref a0), .val (.int p1), .val (.int p2)] [(.int (255 : Int32)), (.int (((p1.toUInt32 >>> ((wd - (8 : Int32)) &&& 31).toUInt32).toInt32) ^^^ p2)), (.ref tb), (.int (p1 <<< ((8 : Int32) &&& 31)))])) _
    refine XS.iand X5.here hx rfl (hb hby d3_22) rfl ?_
    exact kt)
  have tv8 := V0
  obtain ⟨cl8, Ar8, q8, S8, Ng8, H8, G8⟩ := tv8
  have hin8 : ¬ (((((p1.toUInt32 >>> ((wd - (8 : Int32)) &&& 31).toUInt32).toInt32) ^^^ p2) &&& (255 : Int32)) < 0 ∨ cl8.slots.size ≤ (((((p1.toUInt32 >>> ((wd - (8 : Int32)) &&& 31).toUInt32).toInt32) ^^^ p2) &&& (255 : Int32))).toNatClampNeg) := inb_of S8 (own_b8 _)
  have hat8 : cl8.slots[(((((p1.toUInt32 >>> ((wd - (8 : Int32)) &&& 31).toUInt32).toInt32) ^^^ p2) &&& (255 : Int32))).toNatClampNeg]? = some (.int tvv) := atH H8 hin8 hel
  have pre9 : ∀ t, Steps p.tables e below (T5.setTop (mkF m 26 #[.val (.ref a0), .val (.int p1), .val (.int p2)] [(.ref a0), (.int ((p1 <<< ((8 : Int32) &&& 31)) ^^^ tvv))])) t → Steps p.tables e below (s₁.setTop (entryFrame m #[(.ref a0), (.int p1), (.int p2)] 3)) t := fun t kt => pre7 t (by
    show Steps p.tables e below (T5.setTop (mkF m 23 #[.val (.ref a0), .val (.int p1), .val (.int p2)] [(.int ((((p1.toUInt32 >>> ((wd - (8 : Int32)) &&& 31).toUInt32).toInt32) ^^^ p2) &&& (255 : Int32))), (.ref tb), (.int (p1 <<< ((8 : Int32) &&& 31)))])) _
    refine X5.iaload hx (j := ((((p1.toUInt32 >>> ((wd - (8 : Int32)) &&& 31).toUInt32).toInt32) ^^^ p2) &&& (255 : Int32))) (v := (.int tvv)) (by rw [e5]; exact Ar8.1) (State.isArrayOf_alike hZ.alike Ar8.2.1) Ar8.2.2 hin8 hat8 (g := (mkF m 23 #[.val (.ref a0), .val (.int p1), .val (.int p2)] [(.int ((((p1.toUInt32 >>> ((wd - (8 : Int32)) &&& 31).toUInt32).toInt32) ^^^ p2) &&& (255 : Int32))), (.ref tb), (.int (p1 <<< ((8 : Int32) &&& 31)))])) rfl rfl (hb hby d3_23) _ ?_
    show Steps p.tables e below (T5.setTop (mkF m 24 #[.val (.ref a0), .val (.int p1), .val (.int p2)] [(.int tvv), (.int (p1 <<< ((8 : Int32) &&& 31)))])) _
    refine XS.ixor X5.here hx rfl (hb hby d3_24) rfl ?_
    show Steps p.tables e below (T5.setTop (mkF m 25 #[.val (.ref a0), .val (.int p1), .val (.int p2)] [(.int ((p1 <<< ((8 : Int32) &&& 31)) ^^^ tvv))])) _
    refine XS.aloadN X5.here hx rfl (hb hby d3_25) rfl rfl ?_
    exact kt)
  obtain ⟨T10, X10, e10, st10⟩ := getF X5 hx hZ hown (host := "") (Or.inl (hw _ (List.mem_of_getElem? (i := 15) rfl))) Via.refl e5 F_mask (g := (mkF m 26 #[.val (.ref a0), .val (.int p1), .val (.int p2)] [(.ref a0), (.int ((p1 <<< ((8 : Int32) &&& 31)) ^^^ tvv))])) rfl rfl (hb hby d3_26)
  have pre11 : ∀ t, Steps p.tables e below (T10.setTop (mkF m 29 #[.val (.ref a0), .val (.int p1), .val (.int p2)] [(.int mk), (.int ((p1 <<< ((8 : Int32) &&& 31)) ^^^ tvv))])) t → Steps p.tables e below (s₁.setTop (entryFrame m #[(.ref a0), (.int p1), (.int p2)] 3)) t := fun t kt => pre9 t (st10 _ kt)
  have pre12 : ∀ t, Steps p.tables e below (T10.setTop (mkF m 30 #[.val (.ref a0), .val (.int p1), .val (.int p2)] [(.int (((p1 <<< ((8 : Int32) &&& 31)) ^^^ tvv) &&& mk))])) t → Steps p.tables e below (s₁.setTop (entryFrame m #[(.ref a0), (.int p1), (.int p2)] 3)) t := fun t kt => pre11 t (by
    show Steps p.tables e below (T10.setTop (mkF m 29 #[.val (.ref a0), .val (.int p1), .val (.int p2)] [(.int mk), (.int ((p1 <<< ((8 : Int32) &&& 31)) ^^^ tvv))])) _
    refine XS.iand X10.here hx rfl (hb hby d3_29) rfl ?_
    exact kt)
  have hv : f_upd p1 p2 wd mk tvv = (((p1 <<< ((8 : Int32) &&& 31)) ^^^ tvv) &&& mk) := by
    unfold f_upd
    rfl
  obtain ⟨fs, hr, hrun, hended, hW, hsame⟩ := X10.leave (v := some (.int (f_upd p1 p2 wd mk tvv))) (fun h => by rw [Bd.returns] at h; cases h)
  refine ⟨_, _, pre12 _ ?_, hrun, hended, _, _, rfl, ?_, ⟨_, rfl⟩, hW, hsame.mono (by decide) (by decide)⟩
  · rw [hv] at hr
    show Steps p.tables e below (T10.setTop (mkF m 30 #[.val (.ref a0), .val (.int p1), .val (.int p2)] [(.int (((p1 <<< ((8 : Int32) &&& 31)) ^^^ tvv) &&& mk))])) _
    exact retI X10 hx Bd.returns (hb hby d3_30) hr
  · show Q3 Z a0 p1 p2 wd mk tvv tb kk hs h0 n0 _ T10.heap _
    rw [e10]
    exact ⟨rfl, N0, rfl⟩
theorem own_wd (x : Int32) : 8 ≤ ((8 : Int32) + ((x &&& (2147483647 : Int32)) % (25 : Int32))).toInt ∧ ((8 : Int32) + ((x &&& (2147483647 : Int32)) % (25 : Int32))).toInt ≤ 32 := by
  have h := c_mask x (2147483647 : Int32) 31 (by decide) (by decide)
  have h2 := (c_irem (x &&& (2147483647 : Int32)) (25 : Int32) 25 (by decide)).1 (by omega)
  have e := c_iadd (8 : Int32) ((x &&& (2147483647 : Int32)) % (25 : Int32))
  have r := rng32 ((8 : Int32) + ((x &&& (2147483647 : Int32)) % (25 : Int32)))
  simp only [Int32.reduceToInt] at *
  omega
theorem own_vb (x : Int32) : 0 ≤ (x &&& (255 : Int32)).toInt ∧ (x &&& (255 : Int32)).toInt < 256 := by
  have h := c_mask x (255 : Int32) 8 (by decide) (by decide)
  omega
theorem own_getN (poly w top mk : Int32) (j : Int32) (h0 : ¬ j < 0) : ∀ n : Nat, n ≤ 256 → j.toInt < n → getH (own_hs poly w top mk n) [] (.int (0 : Int32)) j.toNatClampNeg = .int (own_tv j poly w top mk) := by
  intro n
  induction n with
  | zero =>
    intro _ h
    exfalso
    simp only [Int32.lt_iff_toInt_lt, Int32.reduceToInt] at h0
    omega
  | succ n ih =>
    intro h1 h
    have e := own_ofNat n (by omega)
    by_cases hj : j = Int32.ofNat n
    · subst hj
      exact getH_hit h0 rfl
    · refine getH_miss h0 hj (ih (by omega) ?_)
      rw [← Int32.toInt_inj, e] at hj
      omega
theorem own_get (poly w top mk j : Int32) (h : ¬ j < 0 ∧ j < (256 : Int32)) : getH (own_hs poly w top mk 256) [] (.int (0 : Int32)) j.toNatClampNeg = .int (own_tv j poly w top mk) :=
  own_getN poly w top mk j h.1 256 (Nat.le_refl _) (by have := h.2; simp only [Int32.lt_iff_toInt_lt, Int32.reduceToInt] at this; omega)
theorem own_ishl (x q : Int32) (k : Nat) (hk : q.toBitVec.toNat % 32 = k) : (x <<< (q &&& 31)).toBitVec = x.toBitVec <<< k := by
  show x.toBitVec <<< ((q &&& 31).toBitVec.smod 32) = _
  rw [BitVec.shiftLeft_eq', sm32 q k hk]
theorem own_iushr (x q : Int32) (k : Nat) (hk : q.toBitVec.toNat % 32 = k) : ((x.toUInt32 >>> (q &&& 31).toUInt32).toInt32).toBitVec = x.toBitVec >>> k := by
  show x.toBitVec >>> ((q &&& 31).toBitVec % 32) = _
  rw [BitVec.ushiftRight_eq', BitVec.toNat_umod]
  congr 1
  have h1 : (q &&& 31).toBitVec.toNat = k := by
    show (q.toBitVec &&& (31 : Int32).toBitVec).toNat = _
    rw [BitVec.toNat_and, show (31 : Int32).toBitVec.toNat = 2 ^ 5 - 1 from by decide, Nat.and_two_pow_sub_one_eq_mod]; exact hk
  rw [h1]
  show k % 32 = k
  omega
def own_bs (W : Nat) (p r : BitVec 32) : BitVec 32 := (r <<< 1) ^^^ (if r.getLsbD (W - 1) then p else 0#32)
def own_b8s (W : Nat) (p r : BitVec 32) : BitVec 32 := own_bs W p (own_bs W p (own_bs W p (own_bs W p (own_bs W p (own_bs W p (own_bs W p (own_bs W p r)))))))
theorem own_bs_xor (W : Nat) (p a b : BitVec 32) : own_bs W p (a ^^^ b) = own_bs W p a ^^^ own_bs W p b := by
  unfold own_bs
  rw [BitVec.shiftLeft_xor_distrib, BitVec.getLsbD_xor]
  apply BitVec.eq_of_getLsbD_eq
  intro i hi
  cases a.getLsbD (W - 1) <;> cases b.getLsbD (W - 1) <;> simp <;> cases (a <<< 1).getLsbD i <;> cases (b <<< 1).getLsbD i <;> cases p.getLsbD i <;> simp_all
theorem own_b8s_xor (W : Nat) (p a b : BitVec 32) : own_b8s W p (a ^^^ b) = own_b8s W p a ^^^ own_b8s W p b := by
  unfold own_b8s
  simp only [own_bs_xor]
theorem own_bs0 (W : Nat) (p r : BitVec 32) (h : r.getLsbD (W - 1) = false) : own_bs W p r = r <<< 1 := by
  unfold own_bs
  rw [h]
  simp
theorem own_b8s0 (W : Nat) (p r : BitVec 32) (h8 : 8 ≤ W) (h32 : W ≤ 32) (h : ∀ j, j < 8 → r.getLsbD (W - 1 - j) = false) : own_b8s W p r = r <<< 8 := by
  have key : ∀ j, j < 8 → own_bs W p (r <<< j) = r <<< (j + 1) := by
    intro j hj
    rw [own_bs0, BitVec.shiftLeft_add]
    rw [BitVec.getLsbD_shiftLeft, h j hj]
    simp
  have k0 : own_bs W p r = r <<< 1 := by have := key 0 (by omega); simpa using this
  unfold own_b8s
  rw [k0, key 1 (by omega), key 2 (by omega), key 3 (by omega), key 4 (by omega), key 5 (by omega), key 6 (by omega), key 7 (by omega)]
theorem own_and0 (b : BitVec 32) (k : Nat) (hk : k < 32) : (b &&& BitVec.twoPow 32 k) = 0#32 ↔ b.getLsbD k = false := by
  rw [BitVec.and_twoPow]
  constructor
  · intro h
    cases hb : b.getLsbD k
    · rfl
    · rw [hb] at h
      have h2 := congrArg (fun z => z.getLsbD k) h
      simp [hk] at h2
  · intro h
    rw [h]; rfl
theorem own_stepbv (r top poly : Int32) (W : Nat) (h8 : 8 ≤ W) (h32 : W ≤ 32) (ht : top.toBitVec = BitVec.twoPow 32 (W - 1)) : (f_step r top poly).toBitVec = own_bs W poly.toBitVec r.toBitVec := by
  have e := own_and0 r.toBitVec (W - 1) (by omega)
  have e1 : (r <<< ((1 : Int32) &&& 31)).toBitVec = r.toBitVec <<< 1 := own_ishl r 1 1 (by decide)
  have e2 : (r &&& top) = (0 : Int32) ↔ r.toBitVec.getLsbD (W - 1) = false := by
    rw [← e, ← Int32.toBitVec_inj, Int32.toBitVec_and, ht]; rfl
  unfold f_step own_bs
  by_cases h : (r &&& top) = (0 : Int32)
  · rw [if_pos h, e2.mp h, e1]; simp
  · have hb : r.toBitVec.getLsbD (W - 1) = true := by
      cases hq : r.toBitVec.getLsbD (W - 1)
      · exact absurd (e2.mpr hq) h
      · rfl
    rw [if_neg h, hb, Int32.toBitVec_xor, e1]; simp
theorem own_F8bv (r top poly : Int32) (W : Nat) (h8 : 8 ≤ W) (h32 : W ≤ 32) (ht : top.toBitVec = BitVec.twoPow 32 (W - 1)) : (own_F8 r top poly).toBitVec = own_b8s W poly.toBitVec r.toBitVec := by
  unfold own_F8 own_b8s
  simp only [own_stepbv _ top poly W h8 h32 ht]
theorem own_natI (x : Int32) (h : 0 ≤ x.toInt) : (x.toBitVec.toNat : Int) = x.toInt := by
  have e : x.toInt = x.toBitVec.toInt := rfl
  rw [BitVec.toInt_eq_toNat_cond] at e
  have b := x.toBitVec.isLt
  split at e <;> omega
theorem own_maskbv (w : Int32) (W : Nat) (hW : w.toInt = W) (h8 : 8 ≤ W) (h32 : W ≤ 32) (i : Nat) (hi : i < 32) : (own_mask w).toBitVec.getLsbD i = decide (i < W) := by
  unfold own_mask
  by_cases h : w = (32 : Int32)
  · have : W = 32 := by rw [h] at hW; simp only [Int32.reduceToInt] at hW; omega
    rw [if_pos h, this]
    have q : (-1 : Int32).toBitVec = BitVec.allOnes 32 := by decide
    rw [q, BitVec.getLsbD_allOnes]
  · have hlt : W < 32 := by
      rw [← Int32.toInt_inj] at h
      simp only [Int32.reduceToInt] at h
      omega
    rw [if_neg h]
    have n := own_natI w (by omega)
    have e1 : ((1 : Int32) <<< (w &&& 31)).toBitVec = 1#32 <<< W := own_ishl 1 w W (by omega)
    have e2 : (((1 : Int32) <<< (w &&& 31)) - (1 : Int32)).toBitVec = (1#32 <<< W) - 1#32 := by rw [Int32.toBitVec_sub, e1]; rfl
    rw [e2]
    have hp : 2 ^ W < 2 ^ 32 := Nat.pow_lt_pow_right (by decide) hlt
    have hp0 : 0 < 2 ^ W := Nat.pow_pos (by decide)
    have e3 : ((1#32 <<< W) - 1#32).toNat = 2 ^ W - 1 := by
      rw [BitVec.toNat_sub, BitVec.toNat_shiftLeft]
      have : (1#32).toNat = 1 := rfl
      rw [this, Nat.shiftLeft_eq, Nat.one_mul, Nat.mod_eq_of_lt hp]
      omega
    rw [BitVec.getLsbD, e3, Nat.testBit_two_pow_sub_one]
theorem own_crcbv (W : Nat) (h8 : 8 ≤ W) (h32 : W ≤ 32) (c B P M m255 : BitVec 32) (hm : ∀ i, i < 32 → M.getLsbD i = decide (i < W)) (h255 : ∀ i, m255.getLsbD i = decide (i < 8)) :
    ((c <<< 8) ^^^ ((own_b8s W P ((((c >>> (W - 8)) ^^^ B) &&& m255) <<< (W - 8))) &&& M)) &&& M = (own_b8s W P (c ^^^ (B <<< (W - 8)))) &&& M := by
  generalize hX : ((((c >>> (W - 8)) ^^^ B) &&& m255) <<< (W - 8)) = X
  have hA : c ^^^ (B <<< (W - 8)) = ((c ^^^ (B <<< (W - 8))) ^^^ X) ^^^ X := by rw [BitVec.xor_assoc, BitVec.xor_self, BitVec.xor_zero]
  generalize hR : (c ^^^ (B <<< (W - 8))) ^^^ X = R at hA
  have bits1 : ∀ i, i < W - 8 → R.getLsbD i = c.getLsbD i := by
    intro i hi
    subst hR hX
    simp [BitVec.getLsbD_xor, BitVec.getLsbD_shiftLeft, hi]
  have bits2 : ∀ i, ¬ i < W - 8 → i < W → R.getLsbD i = false := by
    intro i h1 h2
    subst hR hX
    have e : W - 8 + (i - (W - 8)) = i := by omega
    have e2 : i - (W - 8) < 8 := by omega
    have e3 : i < 32 := by omega
    simp only [BitVec.getLsbD_xor, BitVec.getLsbD_shiftLeft, BitVec.getLsbD_and, BitVec.getLsbD_ushiftRight, h255, e, e2, e3, h1, decide_true, decide_false, Bool.not_false, Bool.and_true, Bool.true_and]
    cases c.getLsbD i <;> cases B.getLsbD (i - (W - 8)) <;> rfl
  have hz : own_b8s W P R = R <<< 8 := own_b8s0 W P R h8 h32 (fun j hj => bits2 (W - 1 - j) (by omega) (by omega))
  rw [hA, own_b8s_xor, hz]
  apply BitVec.eq_of_getLsbD_eq
  intro i hi
  simp only [BitVec.getLsbD_and, BitVec.getLsbD_xor, hm i hi, BitVec.getLsbD_shiftLeft]
  by_cases hiW : i < W
  · by_cases h : i < 8
    · simp only [h, hiW, decide_true, Bool.not_true, Bool.and_false, Bool.false_and, Bool.and_true, Bool.false_xor, Bool.xor_false]
    · rw [bits1 (i - 8) (by omega)]
      simp only [hi, h, hiW, decide_true, decide_false, Bool.not_false, Bool.and_true, Bool.true_and] <;> (cases c.getLsbD (i - 8) <;> cases (own_b8s W P X).getLsbD i <;> rfl)
  · simp only [hiW, decide_false, Bool.and_false]
theorem own_255 (i : Nat) : (255 : Int32).toBitVec.getLsbD i = decide (i < 8) := by
  rw [BitVec.getLsbD, show (255 : Int32).toBitVec.toNat = 2 ^ 8 - 1 from by decide, Nat.testBit_two_pow_sub_one]
theorem own_crc (crc b poly w : Int32) (hw : 8 ≤ w.toInt ∧ w.toInt ≤ 32) :
    f_upd crc b w (own_mask w) (own_tv ((((crc.toUInt32 >>> ((w - (8 : Int32)) &&& 31).toUInt32).toInt32) ^^^ b) &&& (255 : Int32)) poly w ((1 : Int32) <<< ((w - (1 : Int32)) &&& 31)) (own_mask w)) = ((own_F8 (crc ^^^ (b <<< ((w - (8 : Int32)) &&& 31))) ((1 : Int32) <<< ((w - (1 : Int32)) &&& 31)) poly) &&& (own_mask w)) := by
  obtain ⟨W, hW⟩ : ∃ W : Nat, w.toInt = W := ⟨w.toInt.toNat, by omega⟩
  have h8 : 8 ≤ W := by omega
  have h32 : W ≤ 32 := by omega
  have s1 : (w - (1 : Int32)).toBitVec.toNat % 32 = W - 1 := by
    have e := c_isub w (1 : Int32)
    have r := rng32 (w - (1 : Int32))
    simp only [Int32.reduceToInt] at e
    have n := own_natI (w - (1 : Int32)) (by omega)
    omega
  have s8 : (w - (8 : Int32)).toBitVec.toNat % 32 = W - 8 := by
    have e := c_isub w (8 : Int32)
    have r := rng32 (w - (8 : Int32))
    simp only [Int32.reduceToInt] at e
    have n := own_natI (w - (8 : Int32)) (by omega)
    omega
  have ht : ((1 : Int32) <<< ((w - (1 : Int32)) &&& 31)).toBitVec = BitVec.twoPow 32 (W - 1) := own_ishl 1 _ _ s1
  generalize ((1 : Int32) <<< ((w - (1 : Int32)) &&& 31)) = top at *
  rw [← Int32.toBitVec_inj]
  unfold f_upd own_tv
  have e8 : (crc <<< ((8 : Int32) &&& 31)).toBitVec = crc.toBitVec <<< 8 := own_ishl crc 8 8 (by decide)
  simp only [Int32.toBitVec_and, Int32.toBitVec_xor, e8, own_F8bv _ top poly W h8 h32 ht, own_ishl _ _ _ s8, own_iushr _ _ _ s8]
  have hm := fun i hi => own_maskbv w W hW h8 h32 i hi
  exact own_crcbv W h8 h32 crc.toBitVec b.toBitVec poly.toBitVec (own_mask w).toBitVec (255 : Int32).toBitVec hm own_255
theorem own_irem (x y : Int32) : x - (x / y) * y = x % y := by
  rw [← Int32.toInt_inj, Int32.toInt_sub, Int32.toInt_mul, Int32.toInt_div, Int.bmod_mul_bmod, Int.sub_bmod_bmod, Int.mul_comm, ← Int.tmod_def, ← Int32.toInt_mod]
  exact Int32.toInt_bmod _
theorem pd__II_V : parseMethodDescriptor "(II)V" = some ⟨[.int, .int], none⟩ := by decide +kernel
theorem pd__II_I : parseMethodDescriptor "(II)I" = some ⟨[.int, .int], some .int⟩ := by decide +kernel
theorem pd__III_I : parseMethodDescriptor "(III)I" = some ⟨[.int, .int, .int], some .int⟩ := by decide +kernel
theorem ef0 (m : MethodId) (x0 : Int32) (x1 : Int32) (x2 : Int32) (x3 : Int32) : entryFrame m #[(.int x0), (.int x1), (.int x2), (.int x3)] maxLocals = mkF m 0 #[.val (.int x0), .val (.int x1), .val (.int x2), .val (.int x3), .unset, .unset, .unset, .unset, .unset, .unset, .unset, .unset] [] := by first | (simp [entryFrame, mkF, argsToLocals, Value.category, maxLocals]; done) | rfl
def Q0 (Z : State) (p0 : Int32) (p1 : Int32) (p2 : Int32) (p3 : Int32) (h0 : Heap) (n0 : Nat) (v : Option Value) (h : Heap) (L : List Loc) : Prop := v = some (.int 1) ∧ Fr n0 L
set_option maxRecDepth 65536 in
set_option maxHeartbeats 40000000 in
theorem rm0 (l : Launch) (Z : State) (av : Array Value) (hw : ∀ d ∈ tables_1, d.before av Z = true) (ws : List Jvm.Cond) (p0 : Int32) (p1 : Int32) (p2 : Int32) (p3 : Int32) (h0 : Heap) (n0 : Nat) (Z0 : n0 ≤ h0.size) :
    MetFree l x (head1 (Jvm.Cond.code x code maxLocals ret :: ws) room_1) (fun a U => a = #[(.int p0), (.int p1), (.int p2), (.int p3)] ∧ Z.Warmed39 U.vm ∧ U.heap = h0) (fun _ _ _ _ _ => True) (fun _ U o U' => ∃ v L, o = .returned v ∧ Q0 Z p0 p1 p2 p3 h0 n0 v U'.heap L ∧ FrameEnd U o U' L room_1.cells room_1.slots) := by
  refine MetFree.of_bodySF (plainFor_of_name pn_com_example_baton_baton_core_format_CrcUpdatePinLaw) hisR ?_
  intro p e s m args below meth c s₁ Bd hml0 hP hK
  obtain ⟨rfl, hZ, hh⟩ := hP
  have hx := Bd.exec
  have hby := Bd.bytes
  have hml : c.maxLocals = 12 := hml0
  have hown : s.vm.findClass "com/example/baton/baton/core/format/CrcUpdatePinLaw" = some m.cls := findClass_of_methodNamed Bd.named
  have hnm := (name_of_methodNamed Bd.named Bd.method).1
  have X0 : Stand p l e room_1 s m #[(.int p0), (.int p1), (.int p2), (.int p3)] below meth c s₁ [] 0 0 := Stand.of_body Bd
  have e0 : s₁.heap = h0 := by rw [← hh, Bd.state]; rfl
  have N0 := Fr.nil n0
  have K0 : Keep h0 h0 [] := Keep.refl h0 []
  have pre0 : ∀ t, Steps p.tables e below (s₁.setTop (mkF m 0 #[.val (.int p0), .val (.int p1), .val (.int p2), .val (.int p3), .unset, .unset, .unset, .unset, .unset, .unset, .unset, .unset] [])) t → Steps p.tables e below (s₁.setTop (entryFrame m #[(.int p0), (.int p1), (.int p2), (.int p3)] maxLocals)) t := fun t k => castTop (ef0 m p0 p1 p2 p3) k
  have pre1 : ∀ t, Steps p.tables e below (s₁.setTop (mkF m 12 #[.val (.int p0), .val (.int p1), .val (.int p2), .val (.int p3), .val (.int ((8 : Int32) + ((p0 &&& (2147483647 : Int32)) % (25 : Int32)))), .unset, .unset, .unset, .unset, .unset, .unset, .unset] [])) t → Steps p.tables e below (s₁.setTop (entryFrame m #[(.int p0), (.int p1), (.int p2), (.int p3)] maxLocals)) t := fun t kt => pre0 t (by
    show Steps p.tables e below (s₁.setTop (mkF m 0 #[.val (.int p0), .val (.int p1), .val (.int p2), .val (.int p3), .unset, .unset, .unset, .unset, .unset, .unset, .unset, .unset] [])) _
    refine XS.bipush X0.here hx rfl (hb hby at_0) ?_
    show Steps p.tables e below (s₁.setTop (mkF m 2 #[.val (.int p0), .val (.int p1), .val (.int p2), .val (.int p3), .unset, .unset, .unset, .unset, .unset, .unset, .unset, .unset] [(.int (8 : Int32))])) _
    refine XS.iloadN X0.here hx rfl (hb hby at_2) rfl ?_
    show Steps p.tables e below (s₁.setTop (mkF m 3 #[.val (.int p0), .val (.int p1), .val (.int p2), .val (.int p3), .unset, .unset, .unset, .unset, .unset, .unset, .unset, .unset] [(.int p0), (.int (8 : Int32))])) _
    refine X0.ldcInt hx hown (mvT hZ (hw _ (List.mem_of_getElem? (i := 0) rfl))) (g := (mkF m 3 #[.val (.int p0), .val (.int p1), .val (.int p2), .val (.int p3), .unset, .unset, .unset, .unset, .unset, .unset, .unset, .unset] [(.int p0), (.int (8 : Int32))])) rfl (hb hby at_3) _ ?_
    show Steps p.tables e below (s₁.setTop (mkF m 5 #[.val (.int p0), .val (.int p1), .val (.int p2), .val (.int p3), .unset, .unset, .unset, .unset, .unset, .unset, .unset, .unset] [(.int (2147483647 : Int32)), (.int p0), (.int (8 : Int32))])) _
    refine XS.iand X0.here hx rfl (hb hby at_5) rfl ?_
    show Steps p.tables e below (s₁.setTop (mkF m 6 #[.val (.int p0), .val (.int p1), .val (.int p2), .val (.int p3), .unset, .unset, .unset, .unset, .unset, .unset, .unset, .unset] [(.int (p0 &&& (2147483647 : Int32))), (.int (8 : Int32))])) _
    refine XS.bipush X0.here hx rfl (hb hby at_6) ?_
    show Steps p.tables e below (s₁.setTop (mkF m 8 #[.val (.int p0), .val (.int p1), .val (.int p2), .val (.int p3), .unset, .unset, .unset, .unset, .unset, .unset, .unset, .unset] [(.int (25 : Int32)), (.int (p0 &&& (2147483647 : Int32))), (.int (8 : Int32))])) _
    refine XS.irem X0.here hx rfl (hb hby at_8) rfl (by decide) ?_
    rw [own_irem]
    show Steps p.tables e below (s₁.setTop (mkF m 9 #[.val (.int p0), .val (.int p1), .val (.int p2), .val (.int p3), .unset, .unset, .unset, .unset, .unset, .unset, .unset, .unset] [(.int ((p0 &&& (2147483647 : Int32)) % (25 : Int32))), (.int (8 : Int32))])) _
    refine XS.iadd X0.here hx rfl (hb hby at_9) rfl ?_
    show Steps p.tables e below (s₁.setTop (mkF m 10 #[.val (.int p0), .val (.int p1), .val (.int p2), .val (.int p3), .unset, .unset, .unset, .unset, .unset, .unset, .unset, .unset] [(.int ((8 : Int32) + ((p0 &&& (2147483647 : Int32)) % (25 : Int32))))])) _
    refine XS.istore X0.here hx rfl (hb hby at_10) rfl (l' := #[.val (.int p0), .val (.int p1), .val (.int p2), .val (.int p3), .val (.int ((8 : Int32) + ((p0 &&& (2147483647 : Int32)) % (25 : Int32)))), .unset, .unset, .unset, .unset, .unset, .unset, .unset]) rfl ?_
    exact kt)
  obtain ⟨wd, hm2, pre2⟩ : ∃ (wd : Int32), (8 ≤ wd.toInt ∧ wd.toInt ≤ 32) ∧ ∀ t, Steps p.tables e below (s₁.setTop (mkF m 12 #[.val (.int p0), .val (.int p1), .val (.int p2), .val (.int p3), .val (.int wd), .unset, .unset, .unset, .unset, .unset, .unset, .unset] [])) t → Steps p.tables e below (s₁.setTop (entryFrame m #[(.int p0), (.int p1), (.int p2), (.int p3)] maxLocals)) t := ⟨((8 : Int32) + ((p0 &&& (2147483647 : Int32)) % (25 : Int32))), own_wd p0, pre1⟩
  have pre3 : ∀ t, Steps p.tables e below (s₁.setTop (mkF m 16 #[.val (.int p0), .val (.int p1), .val (.int p2), .val (.int p3), .val (.int wd), .unset, .unset, .unset, .unset, .unset, .unset, .unset] [(.int (32 : Int32)), (.int wd)])) t → Steps p.tables e below (s₁.setTop (entryFrame m #[(.int p0), (.int p1), (.int p2), (.int p3)] maxLocals)) t := fun t kt => pre2 t (by
    show Steps p.tables e below (s₁.setTop (mkF m 12 #[.val (.int p0), .val (.int p1), .val (.int p2), .val (.int p3), .val (.int wd), .unset, .unset, .unset, .unset, .unset, .unset, .unset] [])) _
    refine XS.iload X0.here hx rfl (hb hby at_12) rfl ?_
    show Steps p.tables e below (s₁.setTop (mkF m 14 #[.val (.int p0), .val (.int p1), .val (.int p2), .val (.int p3), .val (.int wd), .unset, .unset, .unset, .unset, .unset, .unset, .unset] [(.int wd)])) _
    refine XS.bipush X0.here hx rfl (hb hby at_14) ?_
    exact kt)
  have pre4 : ∀ t, Steps p.tables e below (s₁.setTop (mkF m 29 #[.val (.int p0), .val (.int p1), .val (.int p2), .val (.int p3), .val (.int wd), .unset, .unset, .unset, .unset, .unset, .unset, .unset] [(.int (own_mask wd))])) t → Steps p.tables e below (s₁.setTop (entryFrame m #[(.int p0), (.int p1), (.int p2), (.int p3)] maxLocals)) t := by
    by_cases hc16_5 : wd = (32 : Int32)
    · have pre6 : ∀ t, Steps p.tables e below (s₁.setTop (mkF m 29 #[.val (.int p0), .val (.int p1), .val (.int p2), .val (.int p3), .val (.int wd), .unset, .unset, .unset, .unset, .unset, .unset, .unset] [(.int (-1 : Int32))])) t → Steps p.tables e below (s₁.setTop (entryFrame m #[(.int p0), (.int p1), (.int p2), (.int p3)] maxLocals)) t := fun t kt => pre3 t (by
        show Steps p.tables e below (s₁.setTop (mkF m 16 #[.val (.int p0), .val (.int p1), .val (.int p2), .val (.int p3), .val (.int wd), .unset, .unset, .unset, .unset, .unset, .unset, .unset] [(.int (32 : Int32)), (.int wd)])) _
        refine XS.icmpNo X0.here hx rfl (hb hby at_16) rfl (teq hc16_5).2 ?_
        show Steps p.tables e below (s₁.setTop (mkF m 19 #[.val (.int p0), .val (.int p1), .val (.int p2), .val (.int p3), .val (.int wd), .unset, .unset, .unset, .unset, .unset, .unset, .unset] [])) _
        refine XS.iconst X0.here hx rfl (hb hby at_19) ?_
        show Steps p.tables e below (s₁.setTop (mkF m 20 #[.val (.int p0), .val (.int p1), .val (.int p2), .val (.int p3), .val (.int wd), .unset, .unset, .unset, .unset, .unset, .unset, .unset] [(.int (-1 : Int32))])) _
        refine XS.goto X0.here hx rfl (pc0 := 20) (pc' := 29) rfl (hb hby at_20) (by decide) (by decide) ?_
        exact kt)
      have hvx : (-1 : Int32) = (own_mask wd) := (by unfold own_mask; rw [if_pos hc16_5])
      rw [← hvx]
      exact pre6
    · have pre7 : ∀ t, Steps p.tables e below (s₁.setTop (mkF m 29 #[.val (.int p0), .val (.int p1), .val (.int p2), .val (.int p3), .val (.int wd), .unset, .unset, .unset, .unset, .unset, .unset, .unset] [(.int (((1 : Int32) <<< (wd &&& 31)) - (1 : Int32)))])) t → Steps p.tables e below (s₁.setTop (entryFrame m #[(.int p0), (.int p1), (.int p2), (.int p3)] maxLocals)) t := fun t kt => pre3 t (by
        show Steps p.tables e below (s₁.setTop (mkF m 16 #[.val (.int p0), .val (.int p1), .val (.int p2), .val (.int p3), .val (.int wd), .unset, .unset, .unset, .unset, .unset, .unset, .unset] [(.int (32 : Int32)), (.int wd)])) _
        refine XS.icmpYes X0.here hx rfl (pc0 := 16) (pc' := 23) rfl (hb hby at_16) rfl (feq hc16_5).2 (by decide) (by decide) ?_
        show Steps p.tables e below (s₁.setTop (mkF m 23 #[.val (.int p0), .val (.int p1), .val (.int p2), .val (.int p3), .val (.int wd), .unset, .unset, .unset, .unset, .unset, .unset, .unset] [])) _
        refine XS.iconst X0.here hx rfl (hb hby at_23) ?_
        show Steps p.tables e below (s₁.setTop (mkF m 24 #[.val (.int p0), .val (.int p1), .val (.int p2), .val (.int p3), .val (.int wd), .unset, .unset, .unset, .unset, .unset, .unset, .unset] [(.int (1 : Int32))])) _
        refine XS.iload X0.here hx rfl (hb hby at_24) rfl ?_
        show Steps p.tables e below (s₁.setTop (mkF m 26 #[.val (.int p0), .val (.int p1), .val (.int p2), .val (.int p3), .val (.int wd), .unset, .unset, .unset, .unset, .unset, .unset, .unset] [(.int wd), (.int (1 : Int32))])) _
        refine XS.ishl X0.here hx rfl (hb hby at_26) rfl ?_
        show Steps p.tables e below (s₁.setTop (mkF m 27 #[.val (.int p0), .val (.int p1), .val (.int p2), .val (.int p3), .val (.int wd), .unset, .unset, .unset, .unset, .unset, .unset, .unset] [(.int ((1 : Int32) <<< (wd &&& 31)))])) _
        refine XS.iconst X0.here hx rfl (hb hby at_27) ?_
        show Steps p.tables e below (s₁.setTop (mkF m 28 #[.val (.int p0), .val (.int p1), .val (.int p2), .val (.int p3), .val (.int wd), .unset, .unset, .unset, .unset, .unset, .unset, .unset] [(.int (1 : Int32)), (.int ((1 : Int32) <<< (wd &&& 31)))])) _
        refine XS.isub X0.here hx rfl (hb hby at_28) rfl ?_
        exact kt)
      have hvx : (((1 : Int32) <<< (wd &&& 31)) - (1 : Int32)) = (own_mask wd) := (by unfold own_mask; rw [if_neg hc16_5])
      rw [← hvx]
      exact pre7
  have pre8 : ∀ t, Steps p.tables e below (s₁.setTop (mkF m 44 #[.val (.int p0), .val (.int p1), .val (.int p2), .val (.int p3), .val (.int wd), .val (.int (own_mask wd)), .val (.int (p1 &&& (own_mask wd))), .val (.int (p3 &&& (255 : Int32))), .unset, .unset, .unset, .unset] [])) t → Steps p.tables e below (s₁.setTop (entryFrame m #[(.int p0), (.int p1), (.int p2), (.int p3)] maxLocals)) t := fun t kt => pre4 t (by
    show Steps p.tables e below (s₁.setTop (mkF m 29 #[.val (.int p0), .val (.int p1), .val (.int p2), .val (.int p3), .val (.int wd), .unset, .unset, .unset, .unset, .unset, .unset, .unset] [(.int (own_mask wd))])) _
    refine XS.istore X0.here hx rfl (hb hby at_29) rfl (l' := #[.val (.int p0), .val (.int p1), .val (.int p2), .val (.int p3), .val (.int wd), .val (.int (own_mask wd)), .unset, .unset, .unset, .unset, .unset, .unset]) rfl ?_
    show Steps p.tables e below (s₁.setTop (mkF m 31 #[.val (.int p0), .val (.int p1), .val (.int p2), .val (.int p3), .val (.int wd), .val (.int (own_mask wd)), .unset, .unset, .unset, .unset, .unset, .unset] [])) _
    refine XS.iloadN X0.here hx rfl (hb hby at_31) rfl ?_
    show Steps p.tables e below (s₁.setTop (mkF m 32 #[.val (.int p0), .val (.int p1), .val (.int p2), .val (.int p3), .val (.int wd), .val (.int (own_mask wd)), .unset, .unset, .unset, .unset, .unset, .unset] [(.int p1)])) _
    refine XS.iload X0.here hx rfl (hb hby at_32) rfl ?_
    show Steps p.tables e below (s₁.setTop (mkF m 34 #[.val (.int p0), .val (.int p1), .val (.int p2), .val (.int p3), .val (.int wd), .val (.int (own_mask wd)), .unset, .unset, .unset, .unset, .unset, .unset] [(.int (own_mask wd)), (.int p1)])) _
    refine XS.iand X0.here hx rfl (hb hby at_34) rfl ?_
    show Steps p.tables e below (s₁.setTop (mkF m 35 #[.val (.int p0), .val (.int p1), .val (.int p2), .val (.int p3), .val (.int wd), .val (.int (own_mask wd)), .unset, .unset, .unset, .unset, .unset, .unset] [(.int (p1 &&& (own_mask wd)))])) _
    refine XS.istore X0.here hx rfl (hb hby at_35) rfl (l' := #[.val (.int p0), .val (.int p1), .val (.int p2), .val (.int p3), .val (.int wd), .val (.int (own_mask wd)), .val (.int (p1 &&& (own_mask wd))), .unset, .unset, .unset, .unset, .unset]) rfl ?_
    show Steps p.tables e below (s₁.setTop (mkF m 37 #[.val (.int p0), .val (.int p1), .val (.int p2), .val (.int p3), .val (.int wd), .val (.int (own_mask wd)), .val (.int (p1 &&& (own_mask wd))), .unset, .unset, .unset, .unset, .unset] [])) _
    refine XS.iloadN X0.here hx rfl (hb hby at_37) rfl ?_
    show Steps p.tables e below (s₁.setTop (mkF m 38 #[.val (.int p0), .val (.int p1), .val (.int p2), .val (.int p3), .val (.int wd), .val (.int (own_mask wd)), .val (.int (p1 &&& (own_mask wd))), .unset, .unset, .unset, .unset, .unset] [(.int p3)])) _
    refine XS.sipush X0.here hx rfl (hb hby at_38) ?_
    show Steps p.tables e below (s₁.setTop (mkF m 41 #[.val (.int p0), .val (.int p1), .val (.int p2), .val (.int p3), .val (.int wd), .val (.int (own_mask wd)), .val (.int (p1 &&& (own_mask wd))), .unset, .unset, .unset, .unset, .unset] [(.int (255 : Int32)), (.int p3)])) _
    refine XS.iand X0.here hx rfl (hb hby at_41) rfl ?_
    show Steps p.tables e below (s₁.setTop (mkF m 42 #[.val (.int p0), .val (.int p1), .val (.int p2), .val (.int p3), .val (.int wd), .val (.int (own_mask wd)), .val (.int (p1 &&& (own_mask wd))), .unset, .unset, .unset, .unset, .unset] [(.int (p3 &&& (255 : Int32)))])) _
    refine XS.istore X0.here hx rfl (hb hby at_42) rfl (l' := #[.val (.int p0), .val (.int p1), .val (.int p2), .val (.int p3), .val (.int wd), .val (.int (own_mask wd)), .val (.int (p1 &&& (own_mask wd))), .val (.int (p3 &&& (255 : Int32))), .unset, .unset, .unset, .unset]) rfl ?_
    exact kt)
  obtain ⟨po, hm9, pre9⟩ : ∃ (po : Int32), (True) ∧ ∀ t, Steps p.tables e below (s₁.setTop (mkF m 44 #[.val (.int p0), .val (.int p1), .val (.int p2), .val (.int p3), .val (.int wd), .val (.int (own_mask wd)), .val (.int po), .val (.int (p3 &&& (255 : Int32))), .unset, .unset, .unset, .unset] [])) t → Steps p.tables e below (s₁.setTop (entryFrame m #[(.int p0), (.int p1), (.int p2), (.int p3)] maxLocals)) t := ⟨(p1 &&& (own_mask wd)), trivial, pre8⟩
  obtain ⟨vb, hm10, pre10⟩ : ∃ (vb : Int32), (0 ≤ vb.toInt ∧ vb.toInt < 256) ∧ ∀ t, Steps p.tables e below (s₁.setTop (mkF m 44 #[.val (.int p0), .val (.int p1), .val (.int p2), .val (.int p3), .val (.int wd), .val (.int (own_mask wd)), .val (.int po), .val (.int vb), .unset, .unset, .unset, .unset] [])) t → Steps p.tables e below (s₁.setTop (entryFrame m #[(.int p0), (.int p1), (.int p2), (.int p3)] maxLocals)) t := ⟨(p3 &&& (255 : Int32)), own_vb p3, pre9⟩
  obtain ⟨T11, h11, X11, e11, E11, A11, D11, -, st11⟩ := newO X0 hx hZ hown (hw _ (List.mem_of_getElem? (i := 1) rfl)) (hw _ (List.mem_of_getElem? (i := 2) rfl)) (hw _ (List.mem_of_getElem? (i := 3) rfl)) e0 (g := (mkF m 44 #[.val (.int p0), .val (.int p1), .val (.int p2), .val (.int p3), .val (.int wd), .val (.int (own_mask wd)), .val (.int po), .val (.int vb), .unset, .unset, .unset, .unset] [])) rfl (hb hby at_44) (by decide) (by decide)
  obtain ⟨b11, g11⟩ : ∃ z, z = h0.size := ⟨_, rfl⟩
  rw [← g11] at A11 D11 st11
  have pre12 : ∀ t, Steps p.tables e below (T11.setTop (mkF m 47 #[.val (.int p0), .val (.int p1), .val (.int p2), .val (.int p3), .val (.int wd), .val (.int (own_mask wd)), .val (.int po), .val (.int vb), .unset, .unset, .unset, .unset] [(.ref b11)])) t → Steps p.tables e below (s₁.setTop (entryFrame m #[(.int p0), (.int p1), (.int p2), (.int p3)] maxLocals)) t := fun t kt => pre10 t (st11 _ kt)
  have gn11 : n0 ≤ b11 := Nat.le_trans Z0 (Nat.le_of_eq g11.symm)
  have sz11 : h0.size ≤ b11 := Nat.le_trans K0.1 (Nat.le_of_eq g11.symm)
  have K11 : Keep h0 h11 [] := K0.ext E11
  have Z11 : n0 ≤ h11.size := Nat.le_trans Z0 E11.1
  have Fn11_table : Fld Z h11 b11 "com/example/baton/baton/core/format/Crc" "table" "[I" .null := D11 (Or.inr (hw _ (List.mem_of_getElem? (i := 12) rfl))) (ty := (.array .int)) (by decide)
  have Fn11_width : Fld Z h11 b11 "com/example/baton/baton/core/format/Crc" "width" "I" (.int (0 : Int32)) := D11 (Or.inr (hw _ (List.mem_of_getElem? (i := 14) rfl))) (ty := .int) (by decide)
  have Fn11_mask : Fld Z h11 b11 "com/example/baton/baton/core/format/Crc" "mask" "I" (.int (0 : Int32)) := D11 (Or.inr (hw _ (List.mem_of_getElem? (i := 16) rfl))) (ty := .int) (by decide)
  have pre13 : ∀ t, Steps p.tables e below (T11.setTop (mkF m 52 #[.val (.int p0), .val (.int p1), .val (.int p2), .val (.int p3), .val (.int wd), .val (.int (own_mask wd)), .val (.int po), .val (.int vb), .unset, .unset, .unset, .unset] [(.int wd), (.int po), (.ref b11), (.ref b11)])) t → Steps p.tables e below (s₁.setTop (entryFrame m #[(.int p0), (.int p1), (.int p2), (.int p3)] maxLocals)) t := fun t kt => pre12 t (by
    show Steps p.tables e below (T11.setTop (mkF m 47 #[.val (.int p0), .val (.int p1), .val (.int p2), .val (.int p3), .val (.int wd), .val (.int (own_mask wd)), .val (.int po), .val (.int vb), .unset, .unset, .unset, .unset] [(.ref b11)])) _
    refine XS.dup X11.here hx rfl (hb hby at_47) rfl rfl ?_
    show Steps p.tables e below (T11.setTop (mkF m 48 #[.val (.int p0), .val (.int p1), .val (.int p2), .val (.int p3), .val (.int wd), .val (.int (own_mask wd)), .val (.int po), .val (.int vb), .unset, .unset, .unset, .unset] [(.ref b11), (.ref b11)])) _
    refine XS.iload X11.here hx rfl (hb hby at_48) rfl ?_
    show Steps p.tables e below (T11.setTop (mkF m 50 #[.val (.int p0), .val (.int p1), .val (.int p2), .val (.int p3), .val (.int wd), .val (.int (own_mask wd)), .val (.int po), .val (.int vb), .unset, .unset, .unset, .unset] [(.int po), (.ref b11), (.ref b11)])) _
    refine XS.iload X11.here hx rfl (hb hby at_50) rfl ?_
    exact kt)
  obtain ⟨_, _, ⟨T14, L14, k14, n14⟩, -, X14, ⟨Lc14, hQ14, l14, y14, z14⟩, st14⟩ := X11.specialBack hx (y := (⟨"com/example/baton/baton/core/format/Crc", "<init>", "(II)V"⟩ : MethodName)) rfl hown (mvT hZ (hw _ (List.mem_of_getElem? (i := 4) rfl))) (mvT hZ (hw _ (List.mem_of_getElem? (i := 5) rfl))) (mvT hZ (hw _ (List.mem_of_getElem? (i := 6) rfl))) (by decide) (backOf (W := 1) (rm1 l Z av hw [] b11 po wd  h11 n0 Z11 A11 gn11 Fn11_table Fn11_width Fn11_mask) hZ (hw _ (List.mem_of_getElem? (i := 6) rfl)) (hw _ (List.mem_of_getElem? (i := 3) rfl)) (by decide) (by decide)) (g := (mkF m 52 #[.val (.int p0), .val (.int p1), .val (.int p2), .val (.int p3), .val (.int wd), .val (.int (own_mask wd)), .val (.int po), .val (.int vb), .unset, .unset, .unset, .unset] [(.int wd), (.int po), (.ref b11), (.ref b11)])) rfl (by rw [hml]; rfl) (Steps.refl _) (a := b11) (argsL := [(.int po), (.int wd)]) (rest := [(.ref b11)]) (lenOf pd__II_V rfl) rfl (by show 2 * 0 + _ ≤ _; exact Nat.le_of_eq rfl) (hb hby at_52) (fun _ _ => ⟨rfl, e11, (by decide : 1 + 1 ≤ _), (by decide : 3 + 256 ≤ _)⟩)
  dsimp only [Pt.U, Pt.locs, Pt.cells, Pt.slots] at X14 l14 y14 z14 st14 hQ14
  subst l14 y14 z14
  obtain ⟨rfl, N14q, Kq14, Ea14, Fb14, Fc14, tb14, kt14, net14, gt14, Fd14, Va14⟩ := hQ14
  have N14 := Fr.app N0 N14q
  have Z14 : n0 ≤ T14.heap.size := Nat.le_trans Z11 Kq14.1
  have pre15 : ∀ t, Steps p.tables e below (T14.setTop (mkF m 55 #[.val (.int p0), .val (.int p1), .val (.int p2), .val (.int p3), .val (.int wd), .val (.int (own_mask wd)), .val (.int po), .val (.int vb), .unset, .unset, .unset, .unset] [(.ref b11)])) t → Steps p.tables e below (s₁.setTop (entryFrame m #[(.int p0), (.int p1), (.int p2), (.int p3)] maxLocals)) t := fun t kt => pre13 t (st14.trans kt)
  have pre16 : ∀ t, Steps p.tables e below (T14.setTop (mkF m 62 #[.val (.int p0), .val (.int p1), .val (.int p2), .val (.int p3), .val (.int wd), .val (.int (own_mask wd)), .val (.int po), .val (.int vb), .val (.ref b11), .unset, .unset, .unset] [(.int vb), (.int p2), (.ref b11)])) t → Steps p.tables e below (s₁.setTop (entryFrame m #[(.int p0), (.int p1), (.int p2), (.int p3)] maxLocals)) t := fun t kt => pre15 t (by
    show Steps p.tables e below (T14.setTop (mkF m 55 #[.val (.int p0), .val (.int p1), .val (.int p2), .val (.int p3), .val (.int wd), .val (.int (own_mask wd)), .val (.int po), .val (.int vb), .unset, .unset, .unset, .unset] [(.ref b11)])) _
    refine XS.astore X14.here hx rfl (hb hby at_55) rfl rfl (l' := #[.val (.int p0), .val (.int p1), .val (.int p2), .val (.int p3), .val (.int wd), .val (.int (own_mask wd)), .val (.int po), .val (.int vb), .val (.ref b11), .unset, .unset, .unset]) rfl ?_
    show Steps p.tables e below (T14.setTop (mkF m 57 #[.val (.int p0), .val (.int p1), .val (.int p2), .val (.int p3), .val (.int wd), .val (.int (own_mask wd)), .val (.int po), .val (.int vb), .val (.ref b11), .unset, .unset, .unset] [])) _
    refine XS.aload X14.here hx rfl (hb hby at_57) rfl rfl ?_
    show Steps p.tables e below (T14.setTop (mkF m 59 #[.val (.int p0), .val (.int p1), .val (.int p2), .val (.int p3), .val (.int wd), .val (.int (own_mask wd)), .val (.int po), .val (.int vb), .val (.ref b11), .unset, .unset, .unset] [(.ref b11)])) _
    refine XS.iloadN X14.here hx rfl (hb hby at_59) rfl ?_
    show Steps p.tables e below (T14.setTop (mkF m 60 #[.val (.int p0), .val (.int p1), .val (.int p2), .val (.int p3), .val (.int wd), .val (.int (own_mask wd)), .val (.int po), .val (.int vb), .val (.ref b11), .unset, .unset, .unset] [(.int p2), (.ref b11)])) _
    refine XS.iload X14.here hx rfl (hb hby at_60) rfl ?_
    exact kt)
  obtain ⟨cq17, kq17, q17a, q17b, q17c⟩ := isOf hZ rfl Ea14
  obtain ⟨_, _, ⟨T18, L18, k18, n18⟩, -, X18, ⟨Lc18, hQ18, l18, y18, z18⟩, st18⟩ := X14.virtualBack hx (y := (⟨"com/example/baton/baton/core/format/Crc", "update", "(II)I"⟩ : MethodName)) (z := (⟨"com/example/baton/baton/core/format/Crc", "update", "(II)I"⟩ : MethodName)) hown (mvT hZ (hw _ (List.mem_of_getElem? (i := 17) rfl))) (mvT hZ (hw _ (List.mem_of_getElem? (i := 18) rfl))) (notFace_of_selects (args := #[]) (mvT hZ (hw _ (List.mem_of_getElem? (i := 20) rfl)))) (mvT hZ (hw _ (List.mem_of_getElem? (i := 20) rfl))) (mvT hZ (hw _ (List.mem_of_getElem? (i := 19) rfl))) (by decide) (backOf (W := 0) (rm3 l Z av hw [] b11 p2 vb wd (own_mask wd) (own_tv ((((p2.toUInt32 >>> ((wd - (8 : Int32)) &&& 31).toUInt32).toInt32) ^^^ vb) &&& (255 : Int32)) po wd ((1 : Int32) <<< ((wd - (1 : Int32)) &&& 31)) (own_mask wd)) tb14 kt14 (own_hs po wd ((1 : Int32) <<< ((wd - (1 : Int32)) &&& 31)) (own_mask wd) 256) T14.heap n0 Z14 Fd14 Fc14 Fb14 Va14 (own_get _ _ _ _ _ (own_b8 _))) hZ (hw _ (List.mem_of_getElem? (i := 21) rfl)) (hw _ (List.mem_of_getElem? (i := 3) rfl)) (by decide) (by decide)) q17a q17c (g := (mkF m 62 #[.val (.int p0), .val (.int p1), .val (.int p2), .val (.int p3), .val (.int wd), .val (.int (own_mask wd)), .val (.int po), .val (.int vb), .val (.ref b11), .unset, .unset, .unset] [(.int vb), (.int p2), (.ref b11)])) rfl (by rw [hml]; rfl) (Steps.refl _) (argsL := [(.int p2), (.int vb)]) (rest := []) (lenOf pd__II_I rfl) rfl (by show 2 * 0 + _ ≤ _; exact Nat.le_of_eq rfl) (hb hby at_62) (fun _ _ => ⟨rfl, rfl, (by decide : 2 + 0 ≤ _), (by decide : 259 + 0 ≤ _)⟩)
  dsimp only [Pt.U, Pt.locs, Pt.cells, Pt.slots] at X18 l18 y18 z18 st18 hQ18
  subst l18 y18 z18
  obtain ⟨rfl, N18q, e18⟩ := hQ18
  have N18 := Fr.app N14 N18q
  have pre19 : ∀ t, Steps p.tables e below (T18.setTop (mkF m 65 #[.val (.int p0), .val (.int p1), .val (.int p2), .val (.int p3), .val (.int wd), .val (.int (own_mask wd)), .val (.int po), .val (.int vb), .val (.ref b11), .unset, .unset, .unset] [(.int (f_upd p2 vb wd (own_mask wd) (own_tv ((((p2.toUInt32 >>> ((wd - (8 : Int32)) &&& 31).toUInt32).toInt32) ^^^ vb) &&& (255 : Int32)) po wd ((1 : Int32) <<< ((wd - (1 : Int32)) &&& 31)) (own_mask wd))))])) t → Steps p.tables e below (s₁.setTop (entryFrame m #[(.int p0), (.int p1), (.int p2), (.int p3)] maxLocals)) t := fun t kt => pre16 t (st18.trans kt)
  have pre20 : ∀ t, Steps p.tables e below (T18.setTop (mkF m 93 #[.val (.int p0), .val (.int p1), .val (.int p2), .val (.int p3), .val (.int wd), .val (.int (own_mask wd)), .val (.int po), .val (.int vb), .val (.ref b11), .val (.int (f_upd p2 vb wd (own_mask wd) (own_tv ((((p2.toUInt32 >>> ((wd - (8 : Int32)) &&& 31).toUInt32).toInt32) ^^^ vb) &&& (255 : Int32)) po wd ((1 : Int32) <<< ((wd - (1 : Int32)) &&& 31)) (own_mask wd)))), .val (.int ((1 : Int32) <<< ((wd - (1 : Int32)) &&& 31))), .val (.int (p2 ^^^ (vb <<< ((wd - (8 : Int32)) &&& 31))))] [(.int po), (.int ((1 : Int32) <<< ((wd - (1 : Int32)) &&& 31))), (.int (p2 ^^^ (vb <<< ((wd - (8 : Int32)) &&& 31))))])) t → Steps p.tables e below (s₁.setTop (entryFrame m #[(.int p0), (.int p1), (.int p2), (.int p3)] maxLocals)) t := fun t kt => pre19 t (by
    show Steps p.tables e below (T18.setTop (mkF m 65 #[.val (.int p0), .val (.int p1), .val (.int p2), .val (.int p3), .val (.int wd), .val (.int (own_mask wd)), .val (.int po), .val (.int vb), .val (.ref b11), .unset, .unset, .unset] [(.int (f_upd p2 vb wd (own_mask wd) (own_tv ((((p2.toUInt32 >>> ((wd - (8 : Int32)) &&& 31).toUInt32).toInt32) ^^^ vb) &&& (255 : Int32)) po wd ((1 : Int32) <<< ((wd - (1 : Int32)) &&& 31)) (own_mask wd))))])) _
    refine XS.istore X18.here hx rfl (hb hby at_65) rfl (l' := #[.val (.int p0), .val (.int p1), .val (.int p2), .val (.int p3), .val (.int wd), .val (.int (own_mask wd)), .val (.int po), .val (.int vb), .val (.ref b11), .val (.int (f_upd p2 vb wd (own_mask wd) (own_tv ((((p2.toUInt32 >>> ((wd - (8 : Int32)) &&& 31).toUInt32).toInt32) ^^^ vb) &&& (255 : Int32)) po wd ((1 : Int32) <<< ((wd - (1 : Int32)) &&& 31)) (own_mask wd)))), .unset, .unset]) rfl ?_
    show Steps p.tables e below (T18.setTop (mkF m 67 #[.val (.int p0), .val (.int p1), .val (.int p2), .val (.int p3), .val (.int wd), .val (.int (own_mask wd)), .val (.int po), .val (.int vb), .val (.ref b11), .val (.int (f_upd p2 vb wd (own_mask wd) (own_tv ((((p2.toUInt32 >>> ((wd - (8 : Int32)) &&& 31).toUInt32).toInt32) ^^^ vb) &&& (255 : Int32)) po wd ((1 : Int32) <<< ((wd - (1 : Int32)) &&& 31)) (own_mask wd)))), .unset, .unset] [])) _
    refine XS.iconst X18.here hx rfl (hb hby at_67) ?_
    show Steps p.tables e below (T18.setTop (mkF m 68 #[.val (.int p0), .val (.int p1), .val (.int p2), .val (.int p3), .val (.int wd), .val (.int (own_mask wd)), .val (.int po), .val (.int vb), .val (.ref b11), .val (.int (f_upd p2 vb wd (own_mask wd) (own_tv ((((p2.toUInt32 >>> ((wd - (8 : Int32)) &&& 31).toUInt32).toInt32) ^^^ vb) &&& (255 : Int32)) po wd ((1 : Int32) <<< ((wd - (1 : Int32)) &&& 31)) (own_mask wd)))), .unset, .unset] [(.int (1 : Int32))])) _
    refine XS.iload X18.here hx rfl (hb hby at_68) rfl ?_
    show Steps p.tables e below (T18.setTop (mkF m 70 #[.val (.int p0), .val (.int p1), .val (.int p2), .val (.int p3), .val (.int wd), .val (.int (own_mask wd)), .val (.int po), .val (.int vb), .val (.ref b11), .val (.int (f_upd p2 vb wd (own_mask wd) (own_tv ((((p2.toUInt32 >>> ((wd - (8 : Int32)) &&& 31).toUInt32).toInt32) ^^^ vb) &&& (255 : Int32)) po wd ((1 : Int32) <<< ((wd - (1 : Int32)) &&& 31)) (own_mask wd)))), .unset, .unset] [(.int wd), (.int (1 : Int32))])) _
    refine XS.iconst X18.here hx rfl (hb hby at_70) ?_
    show Steps p.tables e below (T18.setTop (mkF m 71 #[.val (.int p0), .val (.int p1), .val (.int p2), .val (.int p3), .val (.int wd), .val (.int (own_mask wd)), .val (.int po), .val (.int vb), .val (.ref b11), .val (.int (f_upd p2 vb wd (own_mask wd) (own_tv ((((p2.toUInt32 >>> ((wd - (8 : Int32)) &&& 31).toUInt32).toInt32) ^^^ vb) &&& (255 : Int32)) po wd ((1 : Int32) <<< ((wd - (1 : Int32)) &&& 31)) (own_mask wd)))), .unset, .unset] [(.int (1 : Int32)), (.int wd), (.int (1 : Int32))])) _
    refine XS.isub X18.here hx rfl (hb hby at_71) rfl ?_
    show Steps p.tables e below (T18.setTop (mkF m 72 #[.val (.int p0), .val (.int p1), .val (.int p2), .val (.int p3), .val (.int wd), .val (.int (own_mask wd)), .val (.int po), .val (.int vb), .val (.ref b11), .val (.int (f_upd p2 vb wd (own_mask wd) (own_tv ((((p2.toUInt32 >>> ((wd - (8 : Int32)) &&& 31).toUInt32).toInt32) ^^^ vb) &&& (255 : Int32)) po wd ((1 : Int32) <<< ((wd - (1 : Int32)) &&& 31)) (own_mask wd)))), .unset, .unset] [(.int (wd - (1 : Int32))), (.int (1 : Int32))])) _
    refine XS.ishl X18.here hx rfl (hb hby at_72) rfl ?_
    show Steps p.tables e below (T18.setTop (mkF m 73 #[.val (.int p0), .val (.int p1), .val (.int p2), .val (.int p3), .val (.int wd), .val (.int (own_mask wd)), .val (.int po), .val (.int vb), .val (.ref b11), .val (.int (f_upd p2 vb wd (own_mask wd) (own_tv ((((p2.toUInt32 >>> ((wd - (8 : Int32)) &&& 31).toUInt32).toInt32) ^^^ vb) &&& (255 : Int32)) po wd ((1 : Int32) <<< ((wd - (1 : Int32)) &&& 31)) (own_mask wd)))), .unset, .unset] [(.int ((1 : Int32) <<< ((wd - (1 : Int32)) &&& 31)))])) _
    refine XS.istore X18.here hx rfl (hb hby at_73) rfl (l' := #[.val (.int p0), .val (.int p1), .val (.int p2), .val (.int p3), .val (.int wd), .val (.int (own_mask wd)), .val (.int po), .val (.int vb), .val (.ref b11), .val (.int (f_upd p2 vb wd (own_mask wd) (own_tv ((((p2.toUInt32 >>> ((wd - (8 : Int32)) &&& 31).toUInt32).toInt32) ^^^ vb) &&& (255 : Int32)) po wd ((1 : Int32) <<< ((wd - (1 : Int32)) &&& 31)) (own_mask wd)))), .val (.int ((1 : Int32) <<< ((wd - (1 : Int32)) &&& 31))), .unset]) rfl ?_
    show Steps p.tables e below (T18.setTop (mkF m 75 #[.val (.int p0), .val (.int p1), .val (.int p2), .val (.int p3), .val (.int wd), .val (.int (own_mask wd)), .val (.int po), .val (.int vb), .val (.ref b11), .val (.int (f_upd p2 vb wd (own_mask wd) (own_tv ((((p2.toUInt32 >>> ((wd - (8 : Int32)) &&& 31).toUInt32).toInt32) ^^^ vb) &&& (255 : Int32)) po wd ((1 : Int32) <<< ((wd - (1 : Int32)) &&& 31)) (own_mask wd)))), .val (.int ((1 : Int32) <<< ((wd - (1 : Int32)) &&& 31))), .unset] [])) _
    refine XS.iloadN X18.here hx rfl (hb hby at_75) rfl ?_
    show Steps p.tables e below (T18.setTop (mkF m 76 #[.val (.int p0), .val (.int p1), .val (.int p2), .val (.int p3), .val (.int wd), .val (.int (own_mask wd)), .val (.int po), .val (.int vb), .val (.ref b11), .val (.int (f_upd p2 vb wd (own_mask wd) (own_tv ((((p2.toUInt32 >>> ((wd - (8 : Int32)) &&& 31).toUInt32).toInt32) ^^^ vb) &&& (255 : Int32)) po wd ((1 : Int32) <<< ((wd - (1 : Int32)) &&& 31)) (own_mask wd)))), .val (.int ((1 : Int32) <<< ((wd - (1 : Int32)) &&& 31))), .unset] [(.int p2)])) _
    refine XS.iload X18.here hx rfl (hb hby at_76) rfl ?_
    show Steps p.tables e below (T18.setTop (mkF m 78 #[.val (.int p0), .val (.int p1), .val (.int p2), .val (.int p3), .val (.int wd), .val (.int (own_mask wd)), .val (.int po), .val (.int vb), .val (.ref b11), .val (.int (f_upd p2 vb wd (own_mask wd) (own_tv ((((p2.toUInt32 >>> ((wd - (8 : Int32)) &&& 31).toUInt32).toInt32) ^^^ vb) &&& (255 : Int32)) po wd ((1 : Int32) <<< ((wd - (1 : Int32)) &&& 31)) (own_mask wd)))), .val (.int ((1 : Int32) <<< ((wd - (1 : Int32)) &&& 31))), .unset] [(.int vb), (.int p2)])) _
    refine XS.iload X18.here hx rfl (hb hby at_78) rfl ?_
    show Steps p.tables e below (T18.setTop (mkF m 80 #[.val (.int p0), .val (.int p1), .val (.int p2), .val (.int p3), .val (.int wd), .val (.int (own_mask wd)), .val (.int po), .val (.int vb), .val (.ref b11), .val (.int (f_upd p2 vb wd (own_mask wd) (own_tv ((((p2.toUInt32 >>> ((wd - (8 : Int32)) &&& 31).toUInt32).toInt32) ^^^ vb) &&& (255 : Int32)) po wd ((1 : Int32) <<< ((wd - (1 : Int32)) &&& 31)) (own_mask wd)))), .val (.int ((1 : Int32) <<< ((wd - (1 : Int32)) &&& 31))), .unset] [(.int wd), (.int vb), (.int p2)])) _
    refine XS.bipush X18.here hx rfl (hb hby at_80) ?_
    show Steps p.tables e below (T18.setTop (mkF m 82 #[.val (.int p0), .val (.int p1), .val (.int p2), .val (.int p3), .val (.int wd), .val (.int (own_mask wd)), .val (.int po), .val (.int vb), .val (.ref b11), .val (.int (f_upd p2 vb wd (own_mask wd) (own_tv ((((p2.toUInt32 >>> ((wd - (8 : Int32)) &&& 31).toUInt32).toInt32) ^^^ vb) &&& (255 : Int32)) po wd ((1 : Int32) <<< ((wd - (1 : Int32)) &&& 31)) (own_mask wd)))), .val (.int ((1 : Int32) <<< ((wd - (1 : Int32)) &&& 31))), .unset] [(.int (8 : Int32)), (.int wd), (.int vb), (.int p2)])) _
    refine XS.isub X18.here hx rfl (hb hby at_82) rfl ?_
    show Steps p.tables e below (T18.setTop (mkF m 83 #[.val (.int p0), .val (.int p1), .val (.int p2), .val (.int p3), .val (.int wd), .val (.int (own_mask wd)), .val (.int po), .val (.int vb), .val (.ref b11), .val (.int (f_upd p2 vb wd (own_mask wd) (own_tv ((((p2.toUInt32 >>> ((wd - (8 : Int32)) &&& 31).toUInt32).toInt32) ^^^ vb) &&& (255 : Int32)) po wd ((1 : Int32) <<< ((wd - (1 : Int32)) &&& 31)) (own_mask wd)))), .val (.int ((1 : Int32) <<< ((wd - (1 : Int32)) &&& 31))), .unset] [(.int (wd - (8 : Int32))), (.int vb), (.int p2)])) _
    refine XS.ishl X18.here hx rfl (hb hby at_83) rfl ?_
    show Steps p.tables e below (T18.setTop (mkF m 84 #[.val (.int p0), .val (.int p1), .val (.int p2), .val (.int p3), .val (.int wd), .val (.int (own_mask wd)), .val (.int po), .val (.int vb), .val (.ref b11), .val (.int (f_upd p2 vb wd (own_mask wd) (own_tv ((((p2.toUInt32 >>> ((wd - (8 : Int32)) &&& 31).toUInt32).toInt32) ^^^ vb) &&& (255 : Int32)) po wd ((1 : Int32) <<< ((wd - (1 : Int32)) &&& 31)) (own_mask wd)))), .val (.int ((1 : Int32) <<< ((wd - (1 : Int32)) &&& 31))), .unset] [(.int (vb <<< ((wd - (8 : Int32)) &&& 31))), (.int p2)])) _
    refine XS.ixor X18.here hx rfl (hb hby at_84) rfl ?_
    show Steps p.tables e below (T18.setTop (mkF m 85 #[.val (.int p0), .val (.int p1), .val (.int p2), .val (.int p3), .val (.int wd), .val (.int (own_mask wd)), .val (.int po), .val (.int vb), .val (.ref b11), .val (.int (f_upd p2 vb wd (own_mask wd) (own_tv ((((p2.toUInt32 >>> ((wd - (8 : Int32)) &&& 31).toUInt32).toInt32) ^^^ vb) &&& (255 : Int32)) po wd ((1 : Int32) <<< ((wd - (1 : Int32)) &&& 31)) (own_mask wd)))), .val (.int ((1 : Int32) <<< ((wd - (1 : Int32)) &&& 31))), .unset] [(.int (p2 ^^^ (vb <<< ((wd - (8 : Int32)) &&& 31))))])) _
    refine XS.istore X18.here hx rfl (hb hby at_85) rfl (l' := #[.val (.int p0), .val (.int p1), .val (.int p2), .val (.int p3), .val (.int wd), .val (.int (own_mask wd)), .val (.int po), .val (.int vb), .val (.ref b11), .val (.int (f_upd p2 vb wd (own_mask wd) (own_tv ((((p2.toUInt32 >>> ((wd - (8 : Int32)) &&& 31).toUInt32).toInt32) ^^^ vb) &&& (255 : Int32)) po wd ((1 : Int32) <<< ((wd - (1 : Int32)) &&& 31)) (own_mask wd)))), .val (.int ((1 : Int32) <<< ((wd - (1 : Int32)) &&& 31))), .val (.int (p2 ^^^ (vb <<< ((wd - (8 : Int32)) &&& 31))))]) rfl ?_
    show Steps p.tables e below (T18.setTop (mkF m 87 #[.val (.int p0), .val (.int p1), .val (.int p2), .val (.int p3), .val (.int wd), .val (.int (own_mask wd)), .val (.int po), .val (.int vb), .val (.ref b11), .val (.int (f_upd p2 vb wd (own_mask wd) (own_tv ((((p2.toUInt32 >>> ((wd - (8 : Int32)) &&& 31).toUInt32).toInt32) ^^^ vb) &&& (255 : Int32)) po wd ((1 : Int32) <<< ((wd - (1 : Int32)) &&& 31)) (own_mask wd)))), .val (.int ((1 : Int32) <<< ((wd - (1 : Int32)) &&& 31))), .val (.int (p2 ^^^ (vb <<< ((wd - (8 : Int32)) &&& 31))))] [])) _
    refine XS.iload X18.here hx rfl (hb hby at_87) rfl ?_
    show Steps p.tables e below (T18.setTop (mkF m 89 #[.val (.int p0), .val (.int p1), .val (.int p2), .val (.int p3), .val (.int wd), .val (.int (own_mask wd)), .val (.int po), .val (.int vb), .val (.ref b11), .val (.int (f_upd p2 vb wd (own_mask wd) (own_tv ((((p2.toUInt32 >>> ((wd - (8 : Int32)) &&& 31).toUInt32).toInt32) ^^^ vb) &&& (255 : Int32)) po wd ((1 : Int32) <<< ((wd - (1 : Int32)) &&& 31)) (own_mask wd)))), .val (.int ((1 : Int32) <<< ((wd - (1 : Int32)) &&& 31))), .val (.int (p2 ^^^ (vb <<< ((wd - (8 : Int32)) &&& 31))))] [(.int (p2 ^^^ (vb <<< ((wd - (8 : Int32)) &&& 31))))])) _
    refine XS.iload X18.here hx rfl (hb hby at_89) rfl ?_
    show Steps p.tables e below (T18.setTop (mkF m 91 #[.val (.int p0), .val (.int p1), .val (.int p2), .val (.int p3), .val (.int wd), .val (.int (own_mask wd)), .val (.int po), .val (.int vb), .val (.ref b11), .val (.int (f_upd p2 vb wd (own_mask wd) (own_tv ((((p2.toUInt32 >>> ((wd - (8 : Int32)) &&& 31).toUInt32).toInt32) ^^^ vb) &&& (255 : Int32)) po wd ((1 : Int32) <<< ((wd - (1 : Int32)) &&& 31)) (own_mask wd)))), .val (.int ((1 : Int32) <<< ((wd - (1 : Int32)) &&& 31))), .val (.int (p2 ^^^ (vb <<< ((wd - (8 : Int32)) &&& 31))))] [(.int ((1 : Int32) <<< ((wd - (1 : Int32)) &&& 31))), (.int (p2 ^^^ (vb <<< ((wd - (8 : Int32)) &&& 31))))])) _
    refine XS.iload X18.here hx rfl (hb hby at_91) rfl ?_
    exact kt)
  obtain ⟨_, _, ⟨T21, L21, k21, n21⟩, -, X21, ⟨Lc21, hQ21, l21, y21, z21⟩, st21⟩ := Jvm.LawKit.callS X18 hx (y := (⟨"com/example/baton/baton/core/format/CrcUpdatePinLaw", "step", "(III)I"⟩ : MethodName)) hown (mvT hZ (hw _ (List.mem_of_getElem? (i := 22) rfl))) (mvT hZ (hw _ (List.mem_of_getElem? (i := 23) rfl))) (mvT hZ (hw _ (List.mem_of_getElem? (i := 24) rfl))) (mvT hZ (hw _ (List.mem_of_getElem? (i := 25) rfl))) (by decide) (backOf (W := 0) (rm4 l Z av hw [] (p2 ^^^ (vb <<< ((wd - (8 : Int32)) &&& 31))) ((1 : Int32) <<< ((wd - (1 : Int32)) &&& 31)) po  T14.heap n0 Z14 ) hZ (hw _ (List.mem_of_getElem? (i := 25) rfl)) (hw _ (List.mem_of_getElem? (i := 24) rfl)) (by decide) (by decide)) (g := (mkF m 93 #[.val (.int p0), .val (.int p1), .val (.int p2), .val (.int p3), .val (.int wd), .val (.int (own_mask wd)), .val (.int po), .val (.int vb), .val (.ref b11), .val (.int (f_upd p2 vb wd (own_mask wd) (own_tv ((((p2.toUInt32 >>> ((wd - (8 : Int32)) &&& 31).toUInt32).toInt32) ^^^ vb) &&& (255 : Int32)) po wd ((1 : Int32) <<< ((wd - (1 : Int32)) &&& 31)) (own_mask wd)))), .val (.int ((1 : Int32) <<< ((wd - (1 : Int32)) &&& 31))), .val (.int (p2 ^^^ (vb <<< ((wd - (8 : Int32)) &&& 31))))] [(.int po), (.int ((1 : Int32) <<< ((wd - (1 : Int32)) &&& 31))), (.int (p2 ^^^ (vb <<< ((wd - (8 : Int32)) &&& 31))))])) rfl (by rw [hml]; rfl) (argsL := [(.int (p2 ^^^ (vb <<< ((wd - (8 : Int32)) &&& 31)))), (.int ((1 : Int32) <<< ((wd - (1 : Int32)) &&& 31))), (.int po)]) (rest := []) (lenOf pd__III_I rfl) rfl (by show 2 * 0 + _ ≤ _; exact Nat.le_of_eq rfl) (hb hby at_93) (fun _ _ => ⟨rfl, e18, (by decide : 2 + 0 ≤ _), (by decide : 259 + 0 ≤ _)⟩)
  dsimp only [Pt.U, Pt.locs, Pt.cells, Pt.slots] at X21 l21 y21 z21 st21 hQ21
  subst l21 y21 z21
  obtain ⟨rfl, N21q, e21⟩ := hQ21
  have N21 := Fr.app N18 N21q
  have pre22 : ∀ t, Steps p.tables e below (T21.setTop (mkF m 96 #[.val (.int p0), .val (.int p1), .val (.int p2), .val (.int p3), .val (.int wd), .val (.int (own_mask wd)), .val (.int po), .val (.int vb), .val (.ref b11), .val (.int (f_upd p2 vb wd (own_mask wd) (own_tv ((((p2.toUInt32 >>> ((wd - (8 : Int32)) &&& 31).toUInt32).toInt32) ^^^ vb) &&& (255 : Int32)) po wd ((1 : Int32) <<< ((wd - (1 : Int32)) &&& 31)) (own_mask wd)))), .val (.int ((1 : Int32) <<< ((wd - (1 : Int32)) &&& 31))), .val (.int (p2 ^^^ (vb <<< ((wd - (8 : Int32)) &&& 31))))] [(.int (f_step (p2 ^^^ (vb <<< ((wd - (8 : Int32)) &&& 31))) ((1 : Int32) <<< ((wd - (1 : Int32)) &&& 31)) po))])) t → Steps p.tables e below (s₁.setTop (entryFrame m #[(.int p0), (.int p1), (.int p2), (.int p3)] maxLocals)) t := fun t kt => pre20 t (st21 _ kt)
  have pre23 : ∀ t, Steps p.tables e below (T21.setTop (mkF m 104 #[.val (.int p0), .val (.int p1), .val (.int p2), .val (.int p3), .val (.int wd), .val (.int (own_mask wd)), .val (.int po), .val (.int vb), .val (.ref b11), .val (.int (f_upd p2 vb wd (own_mask wd) (own_tv ((((p2.toUInt32 >>> ((wd - (8 : Int32)) &&& 31).toUInt32).toInt32) ^^^ vb) &&& (255 : Int32)) po wd ((1 : Int32) <<< ((wd - (1 : Int32)) &&& 31)) (own_mask wd)))), .val (.int ((1 : Int32) <<< ((wd - (1 : Int32)) &&& 31))), .val (.int (f_step (p2 ^^^ (vb <<< ((wd - (8 : Int32)) &&& 31))) ((1 : Int32) <<< ((wd - (1 : Int32)) &&& 31)) po))] [(.int po), (.int ((1 : Int32) <<< ((wd - (1 : Int32)) &&& 31))), (.int (f_step (p2 ^^^ (vb <<< ((wd - (8 : Int32)) &&& 31))) ((1 : Int32) <<< ((wd - (1 : Int32)) &&& 31)) po))])) t → Steps p.tables e below (s₁.setTop (entryFrame m #[(.int p0), (.int p1), (.int p2), (.int p3)] maxLocals)) t := fun t kt => pre22 t (by
    show Steps p.tables e below (T21.setTop (mkF m 96 #[.val (.int p0), .val (.int p1), .val (.int p2), .val (.int p3), .val (.int wd), .val (.int (own_mask wd)), .val (.int po), .val (.int vb), .val (.ref b11), .val (.int (f_upd p2 vb wd (own_mask wd) (own_tv ((((p2.toUInt32 >>> ((wd - (8 : Int32)) &&& 31).toUInt32).toInt32) ^^^ vb) &&& (255 : Int32)) po wd ((1 : Int32) <<< ((wd - (1 : Int32)) &&& 31)) (own_mask wd)))), .val (.int ((1 : Int32) <<< ((wd - (1 : Int32)) &&& 31))), .val (.int (p2 ^^^ (vb <<< ((wd - (8 : Int32)) &&& 31))))] [(.int (f_step (p2 ^^^ (vb <<< ((wd - (8 : Int32)) &&& 31))) ((1 : Int32) <<< ((wd - (1 : Int32)) &&& 31)) po))])) _
    refine XS.istore X21.here hx rfl (hb hby at_96) rfl (l' := #[.val (.int p0), .val (.int p1), .val (.int p2), .val (.int p3), .val (.int wd), .val (.int (own_mask wd)), .val (.int po), .val (.int vb), .val (.ref b11), .val (.int (f_upd p2 vb wd (own_mask wd) (own_tv ((((p2.toUInt32 >>> ((wd - (8 : Int32)) &&& 31).toUInt32).toInt32) ^^^ vb) &&& (255 : Int32)) po wd ((1 : Int32) <<< ((wd - (1 : Int32)) &&& 31)) (own_mask wd)))), .val (.int ((1 : Int32) <<< ((wd - (1 : Int32)) &&& 31))), .val (.int (f_step (p2 ^^^ (vb <<< ((wd - (8 : Int32)) &&& 31))) ((1 : Int32) <<< ((wd - (1 : Int32)) &&& 31)) po))]) rfl ?_
    show Steps p.tables e below (T21.setTop (mkF m 98 #[.val (.int p0), .val (.int p1), .val (.int p2), .val (.int p3), .val (.int wd), .val (.int (own_mask wd)), .val (.int po), .val (.int vb), .val (.ref b11), .val (.int (f_upd p2 vb wd (own_mask wd) (own_tv ((((p2.toUInt32 >>> ((wd - (8 : Int32)) &&& 31).toUInt32).toInt32) ^^^ vb) &&& (255 : Int32)) po wd ((1 : Int32) <<< ((wd - (1 : Int32)) &&& 31)) (own_mask wd)))), .val (.int ((1 : Int32) <<< ((wd - (1 : Int32)) &&& 31))), .val (.int (f_step (p2 ^^^ (vb <<< ((wd - (8 : Int32)) &&& 31))) ((1 : Int32) <<< ((wd - (1 : Int32)) &&& 31)) po))] [])) _
    refine XS.iload X21.here hx rfl (hb hby at_98) rfl ?_
    show Steps p.tables e below (T21.setTop (mkF m 100 #[.val (.int p0), .val (.int p1), .val (.int p2), .val (.int p3), .val (.int wd), .val (.int (own_mask wd)), .val (.int po), .val (.int vb), .val (.ref b11), .val (.int (f_upd p2 vb wd (own_mask wd) (own_tv ((((p2.toUInt32 >>> ((wd - (8 : Int32)) &&& 31).toUInt32).toInt32) ^^^ vb) &&& (255 : Int32)) po wd ((1 : Int32) <<< ((wd - (1 : Int32)) &&& 31)) (own_mask wd)))), .val (.int ((1 : Int32) <<< ((wd - (1 : Int32)) &&& 31))), .val (.int (f_step (p2 ^^^ (vb <<< ((wd - (8 : Int32)) &&& 31))) ((1 : Int32) <<< ((wd - (1 : Int32)) &&& 31)) po))] [(.int (f_step (p2 ^^^ (vb <<< ((wd - (8 : Int32)) &&& 31))) ((1 : Int32) <<< ((wd - (1 : Int32)) &&& 31)) po))])) _
    refine XS.iload X21.here hx rfl (hb hby at_100) rfl ?_
    show Steps p.tables e below (T21.setTop (mkF m 102 #[.val (.int p0), .val (.int p1), .val (.int p2), .val (.int p3), .val (.int wd), .val (.int (own_mask wd)), .val (.int po), .val (.int vb), .val (.ref b11), .val (.int (f_upd p2 vb wd (own_mask wd) (own_tv ((((p2.toUInt32 >>> ((wd - (8 : Int32)) &&& 31).toUInt32).toInt32) ^^^ vb) &&& (255 : Int32)) po wd ((1 : Int32) <<< ((wd - (1 : Int32)) &&& 31)) (own_mask wd)))), .val (.int ((1 : Int32) <<< ((wd - (1 : Int32)) &&& 31))), .val (.int (f_step (p2 ^^^ (vb <<< ((wd - (8 : Int32)) &&& 31))) ((1 : Int32) <<< ((wd - (1 : Int32)) &&& 31)) po))] [(.int ((1 : Int32) <<< ((wd - (1 : Int32)) &&& 31))), (.int (f_step (p2 ^^^ (vb <<< ((wd - (8 : Int32)) &&& 31))) ((1 : Int32) <<< ((wd - (1 : Int32)) &&& 31)) po))])) _
    refine XS.iload X21.here hx rfl (hb hby at_102) rfl ?_
    exact kt)
  obtain ⟨_, _, ⟨T24, L24, k24, n24⟩, -, X24, ⟨Lc24, hQ24, l24, y24, z24⟩, st24⟩ := Jvm.LawKit.callS X21 hx (y := (⟨"com/example/baton/baton/core/format/CrcUpdatePinLaw", "step", "(III)I"⟩ : MethodName)) hown (mvT hZ (hw _ (List.mem_of_getElem? (i := 22) rfl))) (mvT hZ (hw _ (List.mem_of_getElem? (i := 23) rfl))) (mvT hZ (hw _ (List.mem_of_getElem? (i := 24) rfl))) (mvT hZ (hw _ (List.mem_of_getElem? (i := 25) rfl))) (by decide) (backOf (W := 0) (rm4 l Z av hw [] (f_step (p2 ^^^ (vb <<< ((wd - (8 : Int32)) &&& 31))) ((1 : Int32) <<< ((wd - (1 : Int32)) &&& 31)) po) ((1 : Int32) <<< ((wd - (1 : Int32)) &&& 31)) po  T14.heap n0 Z14 ) hZ (hw _ (List.mem_of_getElem? (i := 25) rfl)) (hw _ (List.mem_of_getElem? (i := 24) rfl)) (by decide) (by decide)) (g := (mkF m 104 #[.val (.int p0), .val (.int p1), .val (.int p2), .val (.int p3), .val (.int wd), .val (.int (own_mask wd)), .val (.int po), .val (.int vb), .val (.ref b11), .val (.int (f_upd p2 vb wd (own_mask wd) (own_tv ((((p2.toUInt32 >>> ((wd - (8 : Int32)) &&& 31).toUInt32).toInt32) ^^^ vb) &&& (255 : Int32)) po wd ((1 : Int32) <<< ((wd - (1 : Int32)) &&& 31)) (own_mask wd)))), .val (.int ((1 : Int32) <<< ((wd - (1 : Int32)) &&& 31))), .val (.int (f_step (p2 ^^^ (vb <<< ((wd - (8 : Int32)) &&& 31))) ((1 : Int32) <<< ((wd - (1 : Int32)) &&& 31)) po))] [(.int po), (.int ((1 : Int32) <<< ((wd - (1 : Int32)) &&& 31))), (.int (f_step (p2 ^^^ (vb <<< ((wd - (8 : Int32)) &&& 31))) ((1 : Int32) <<< ((wd - (1 : Int32)) &&& 31)) po))])) rfl (by rw [hml]; rfl) (argsL := [(.int (f_step (p2 ^^^ (vb <<< ((wd - (8 : Int32)) &&& 31))) ((1 : Int32) <<< ((wd - (1 : Int32)) &&& 31)) po)), (.int ((1 : Int32) <<< ((wd - (1 : Int32)) &&& 31))), (.int po)]) (rest := []) (lenOf pd__III_I rfl) rfl (by show 2 * 0 + _ ≤ _; exact Nat.le_of_eq rfl) (hb hby at_104) (fun _ _ => ⟨rfl, e21, (by decide : 2 + 0 ≤ _), (by decide : 259 + 0 ≤ _)⟩)
  dsimp only [Pt.U, Pt.locs, Pt.cells, Pt.slots] at X24 l24 y24 z24 st24 hQ24
  subst l24 y24 z24
  obtain ⟨rfl, N24q, e24⟩ := hQ24
  have N24 := Fr.app N21 N24q
  have pre25 : ∀ t, Steps p.tables e below (T24.setTop (mkF m 107 #[.val (.int p0), .val (.int p1), .val (.int p2), .val (.int p3), .val (.int wd), .val (.int (own_mask wd)), .val (.int po), .val (.int vb), .val (.ref b11), .val (.int (f_upd p2 vb wd (own_mask wd) (own_tv ((((p2.toUInt32 >>> ((wd - (8 : Int32)) &&& 31).toUInt32).toInt32) ^^^ vb) &&& (255 : Int32)) po wd ((1 : Int32) <<< ((wd - (1 : Int32)) &&& 31)) (own_mask wd)))), .val (.int ((1 : Int32) <<< ((wd - (1 : Int32)) &&& 31))), .val (.int (f_step (p2 ^^^ (vb <<< ((wd - (8 : Int32)) &&& 31))) ((1 : Int32) <<< ((wd - (1 : Int32)) &&& 31)) po))] [(.int (f_step (f_step (p2 ^^^ (vb <<< ((wd - (8 : Int32)) &&& 31))) ((1 : Int32) <<< ((wd - (1 : Int32)) &&& 31)) po) ((1 : Int32) <<< ((wd - (1 : Int32)) &&& 31)) po))])) t → Steps p.tables e below (s₁.setTop (entryFrame m #[(.int p0), (.int p1), (.int p2), (.int p3)] maxLocals)) t := fun t kt => pre23 t (st24 _ kt)
  have pre26 : ∀ t, Steps p.tables e below (T24.setTop (mkF m 115 #[.val (.int p0), .val (.int p1), .val (.int p2), .val (.int p3), .val (.int wd), .val (.int (own_mask wd)), .val (.int po), .val (.int vb), .val (.ref b11), .val (.int (f_upd p2 vb wd (own_mask wd) (own_tv ((((p2.toUInt32 >>> ((wd - (8 : Int32)) &&& 31).toUInt32).toInt32) ^^^ vb) &&& (255 : Int32)) po wd ((1 : Int32) <<< ((wd - (1 : Int32)) &&& 31)) (own_mask wd)))), .val (.int ((1 : Int32) <<< ((wd - (1 : Int32)) &&& 31))), .val (.int (f_step (f_step (p2 ^^^ (vb <<< ((wd - (8 : Int32)) &&& 31))) ((1 : Int32) <<< ((wd - (1 : Int32)) &&& 31)) po) ((1 : Int32) <<< ((wd - (1 : Int32)) &&& 31)) po))] [(.int po), (.int ((1 : Int32) <<< ((wd - (1 : Int32)) &&& 31))), (.int (f_step (f_step (p2 ^^^ (vb <<< ((wd - (8 : Int32)) &&& 31))) ((1 : Int32) <<< ((wd - (1 : Int32)) &&& 31)) po) ((1 : Int32) <<< ((wd - (1 : Int32)) &&& 31)) po))])) t → Steps p.tables e below (s₁.setTop (entryFrame m #[(.int p0), (.int p1), (.int p2), (.int p3)] maxLocals)) t := fun t kt => pre25 t (by
    show Steps p.tables e below (T24.setTop (mkF m 107 #[.val (.int p0), .val (.int p1), .val (.int p2), .val (.int p3), .val (.int wd), .val (.int (own_mask wd)), .val (.int po), .val (.int vb), .val (.ref b11), .val (.int (f_upd p2 vb wd (own_mask wd) (own_tv ((((p2.toUInt32 >>> ((wd - (8 : Int32)) &&& 31).toUInt32).toInt32) ^^^ vb) &&& (255 : Int32)) po wd ((1 : Int32) <<< ((wd - (1 : Int32)) &&& 31)) (own_mask wd)))), .val (.int ((1 : Int32) <<< ((wd - (1 : Int32)) &&& 31))), .val (.int (f_step (p2 ^^^ (vb <<< ((wd - (8 : Int32)) &&& 31))) ((1 : Int32) <<< ((wd - (1 : Int32)) &&& 31)) po))] [(.int (f_step (f_step (p2 ^^^ (vb <<< ((wd - (8 : Int32)) &&& 31))) ((1 : Int32) <<< ((wd - (1 : Int32)) &&& 31)) po) ((1 : Int32) <<< ((wd - (1 : Int32)) &&& 31)) po))])) _
    refine XS.istore X24.here hx rfl (hb hby at_107) rfl (l' := #[.val (.int p0), .val (.int p1), .val (.int p2), .val (.int p3), .val (.int wd), .val (.int (own_mask wd)), .val (.int po), .val (.int vb), .val (.ref b11), .val (.int (f_upd p2 vb wd (own_mask wd) (own_tv ((((p2.toUInt32 >>> ((wd - (8 : Int32)) &&& 31).toUInt32).toInt32) ^^^ vb) &&& (255 : Int32)) po wd ((1 : Int32) <<< ((wd - (1 : Int32)) &&& 31)) (own_mask wd)))), .val (.int ((1 : Int32) <<< ((wd - (1 : Int32)) &&& 31))), .val (.int (f_step (f_step (p2 ^^^ (vb <<< ((wd - (8 : Int32)) &&& 31))) ((1 : Int32) <<< ((wd - (1 : Int32)) &&& 31)) po) ((1 : Int32) <<< ((wd - (1 : Int32)) &&& 31)) po))]) rfl ?_
    show Steps p.tables e below (T24.setTop (mkF m 109 #[.val (.int p0), .val (.int p1), .val (.int p2), .val (.int p3), .val (.int wd), .val (.int (own_mask wd)), .val (.int po), .val (.int vb), .val (.ref b11), .val (.int (f_upd p2 vb wd (own_mask wd) (own_tv ((((p2.toUInt32 >>> ((wd - (8 : Int32)) &&& 31).toUInt32).toInt32) ^^^ vb) &&& (255 : Int32)) po wd ((1 : Int32) <<< ((wd - (1 : Int32)) &&& 31)) (own_mask wd)))), .val (.int ((1 : Int32) <<< ((wd - (1 : Int32)) &&& 31))), .val (.int (f_step (f_step (p2 ^^^ (vb <<< ((wd - (8 : Int32)) &&& 31))) ((1 : Int32) <<< ((wd - (1 : Int32)) &&& 31)) po) ((1 : Int32) <<< ((wd - (1 : Int32)) &&& 31)) po))] [])) _
    refine XS.iload X24.here hx rfl (hb hby at_109) rfl ?_
    show Steps p.tables e below (T24.setTop (mkF m 111 #[.val (.int p0), .val (.int p1), .val (.int p2), .val (.int p3), .val (.int wd), .val (.int (own_mask wd)), .val (.int po), .val (.int vb), .val (.ref b11), .val (.int (f_upd p2 vb wd (own_mask wd) (own_tv ((((p2.toUInt32 >>> ((wd - (8 : Int32)) &&& 31).toUInt32).toInt32) ^^^ vb) &&& (255 : Int32)) po wd ((1 : Int32) <<< ((wd - (1 : Int32)) &&& 31)) (own_mask wd)))), .val (.int ((1 : Int32) <<< ((wd - (1 : Int32)) &&& 31))), .val (.int (f_step (f_step (p2 ^^^ (vb <<< ((wd - (8 : Int32)) &&& 31))) ((1 : Int32) <<< ((wd - (1 : Int32)) &&& 31)) po) ((1 : Int32) <<< ((wd - (1 : Int32)) &&& 31)) po))] [(.int (f_step (f_step (p2 ^^^ (vb <<< ((wd - (8 : Int32)) &&& 31))) ((1 : Int32) <<< ((wd - (1 : Int32)) &&& 31)) po) ((1 : Int32) <<< ((wd - (1 : Int32)) &&& 31)) po))])) _
    refine XS.iload X24.here hx rfl (hb hby at_111) rfl ?_
    show Steps p.tables e below (T24.setTop (mkF m 113 #[.val (.int p0), .val (.int p1), .val (.int p2), .val (.int p3), .val (.int wd), .val (.int (own_mask wd)), .val (.int po), .val (.int vb), .val (.ref b11), .val (.int (f_upd p2 vb wd (own_mask wd) (own_tv ((((p2.toUInt32 >>> ((wd - (8 : Int32)) &&& 31).toUInt32).toInt32) ^^^ vb) &&& (255 : Int32)) po wd ((1 : Int32) <<< ((wd - (1 : Int32)) &&& 31)) (own_mask wd)))), .val (.int ((1 : Int32) <<< ((wd - (1 : Int32)) &&& 31))), .val (.int (f_step (f_step (p2 ^^^ (vb <<< ((wd - (8 : Int32)) &&& 31))) ((1 : Int32) <<< ((wd - (1 : Int32)) &&& 31)) po) ((1 : Int32) <<< ((wd - (1 : Int32)) &&& 31)) po))] [(.int ((1 : Int32) <<< ((wd - (1 : Int32)) &&& 31))), (.int (f_step (f_step (p2 ^^^ (vb <<< ((wd - (8 : Int32)) &&& 31))) ((1 : Int32) <<< ((wd - (1 : Int32)) &&& 31)) po) ((1 : Int32) <<< ((wd - (1 : Int32)) &&& 31)) po))])) _
    refine XS.iload X24.here hx rfl (hb hby at_113) rfl ?_
    exact kt)
  obtain ⟨_, _, ⟨T27, L27, k27, n27⟩, -, X27, ⟨Lc27, hQ27, l27, y27, z27⟩, st27⟩ := Jvm.LawKit.callS X24 hx (y := (⟨"com/example/baton/baton/core/format/CrcUpdatePinLaw", "step", "(III)I"⟩ : MethodName)) hown (mvT hZ (hw _ (List.mem_of_getElem? (i := 22) rfl))) (mvT hZ (hw _ (List.mem_of_getElem? (i := 23) rfl))) (mvT hZ (hw _ (List.mem_of_getElem? (i := 24) rfl))) (mvT hZ (hw _ (List.mem_of_getElem? (i := 25) rfl))) (by decide) (backOf (W := 0) (rm4 l Z av hw [] (f_step (f_step (p2 ^^^ (vb <<< ((wd - (8 : Int32)) &&& 31))) ((1 : Int32) <<< ((wd - (1 : Int32)) &&& 31)) po) ((1 : Int32) <<< ((wd - (1 : Int32)) &&& 31)) po) ((1 : Int32) <<< ((wd - (1 : Int32)) &&& 31)) po  T14.heap n0 Z14 ) hZ (hw _ (List.mem_of_getElem? (i := 25) rfl)) (hw _ (List.mem_of_getElem? (i := 24) rfl)) (by decide) (by decide)) (g := (mkF m 115 #[.val (.int p0), .val (.int p1), .val (.int p2), .val (.int p3), .val (.int wd), .val (.int (own_mask wd)), .val (.int po), .val (.int vb), .val (.ref b11), .val (.int (f_upd p2 vb wd (own_mask wd) (own_tv ((((p2.toUInt32 >>> ((wd - (8 : Int32)) &&& 31).toUInt32).toInt32) ^^^ vb) &&& (255 : Int32)) po wd ((1 : Int32) <<< ((wd - (1 : Int32)) &&& 31)) (own_mask wd)))), .val (.int ((1 : Int32) <<< ((wd - (1 : Int32)) &&& 31))), .val (.int (f_step (f_step (p2 ^^^ (vb <<< ((wd - (8 : Int32)) &&& 31))) ((1 : Int32) <<< ((wd - (1 : Int32)) &&& 31)) po) ((1 : Int32) <<< ((wd - (1 : Int32)) &&& 31)) po))] [(.int po), (.int ((1 : Int32) <<< ((wd - (1 : Int32)) &&& 31))), (.int (f_step (f_step (p2 ^^^ (vb <<< ((wd - (8 : Int32)) &&& 31))) ((1 : Int32) <<< ((wd - (1 : Int32)) &&& 31)) po) ((1 : Int32) <<< ((wd - (1 : Int32)) &&& 31)) po))])) rfl (by rw [hml]; rfl) (argsL := [(.int (f_step (f_step (p2 ^^^ (vb <<< ((wd - (8 : Int32)) &&& 31))) ((1 : Int32) <<< ((wd - (1 : Int32)) &&& 31)) po) ((1 : Int32) <<< ((wd - (1 : Int32)) &&& 31)) po)), (.int ((1 : Int32) <<< ((wd - (1 : Int32)) &&& 31))), (.int po)]) (rest := []) (lenOf pd__III_I rfl) rfl (by show 2 * 0 + _ ≤ _; exact Nat.le_of_eq rfl) (hb hby at_115) (fun _ _ => ⟨rfl, e24, (by decide : 2 + 0 ≤ _), (by decide : 259 + 0 ≤ _)⟩)
  dsimp only [Pt.U, Pt.locs, Pt.cells, Pt.slots] at X27 l27 y27 z27 st27 hQ27
  subst l27 y27 z27
  obtain ⟨rfl, N27q, e27⟩ := hQ27
  have N27 := Fr.app N24 N27q
  have pre28 : ∀ t, Steps p.tables e below (T27.setTop (mkF m 118 #[.val (.int p0), .val (.int p1), .val (.int p2), .val (.int p3), .val (.int wd), .val (.int (own_mask wd)), .val (.int po), .val (.int vb), .val (.ref b11), .val (.int (f_upd p2 vb wd (own_mask wd) (own_tv ((((p2.toUInt32 >>> ((wd - (8 : Int32)) &&& 31).toUInt32).toInt32) ^^^ vb) &&& (255 : Int32)) po wd ((1 : Int32) <<< ((wd - (1 : Int32)) &&& 31)) (own_mask wd)))), .val (.int ((1 : Int32) <<< ((wd - (1 : Int32)) &&& 31))), .val (.int (f_step (f_step (p2 ^^^ (vb <<< ((wd - (8 : Int32)) &&& 31))) ((1 : Int32) <<< ((wd - (1 : Int32)) &&& 31)) po) ((1 : Int32) <<< ((wd - (1 : Int32)) &&& 31)) po))] [(.int (f_step (f_step (f_step (p2 ^^^ (vb <<< ((wd - (8 : Int32)) &&& 31))) ((1 : Int32) <<< ((wd - (1 : Int32)) &&& 31)) po) ((1 : Int32) <<< ((wd - (1 : Int32)) &&& 31)) po) ((1 : Int32) <<< ((wd - (1 : Int32)) &&& 31)) po))])) t → Steps p.tables e below (s₁.setTop (entryFrame m #[(.int p0), (.int p1), (.int p2), (.int p3)] maxLocals)) t := fun t kt => pre26 t (st27 _ kt)
  have pre29 : ∀ t, Steps p.tables e below (T27.setTop (mkF m 126 #[.val (.int p0), .val (.int p1), .val (.int p2), .val (.int p3), .val (.int wd), .val (.int (own_mask wd)), .val (.int po), .val (.int vb), .val (.ref b11), .val (.int (f_upd p2 vb wd (own_mask wd) (own_tv ((((p2.toUInt32 >>> ((wd - (8 : Int32)) &&& 31).toUInt32).toInt32) ^^^ vb) &&& (255 : Int32)) po wd ((1 : Int32) <<< ((wd - (1 : Int32)) &&& 31)) (own_mask wd)))), .val (.int ((1 : Int32) <<< ((wd - (1 : Int32)) &&& 31))), .val (.int (f_step (f_step (f_step (p2 ^^^ (vb <<< ((wd - (8 : Int32)) &&& 31))) ((1 : Int32) <<< ((wd - (1 : Int32)) &&& 31)) po) ((1 : Int32) <<< ((wd - (1 : Int32)) &&& 31)) po) ((1 : Int32) <<< ((wd - (1 : Int32)) &&& 31)) po))] [(.int po), (.int ((1 : Int32) <<< ((wd - (1 : Int32)) &&& 31))), (.int (f_step (f_step (f_step (p2 ^^^ (vb <<< ((wd - (8 : Int32)) &&& 31))) ((1 : Int32) <<< ((wd - (1 : Int32)) &&& 31)) po) ((1 : Int32) <<< ((wd - (1 : Int32)) &&& 31)) po) ((1 : Int32) <<< ((wd - (1 : Int32)) &&& 31)) po))])) t → Steps p.tables e below (s₁.setTop (entryFrame m #[(.int p0), (.int p1), (.int p2), (.int p3)] maxLocals)) t := fun t kt => pre28 t (by
    show Steps p.tables e below (T27.setTop (mkF m 118 #[.val (.int p0), .val (.int p1), .val (.int p2), .val (.int p3), .val (.int wd), .val (.int (own_mask wd)), .val (.int po), .val (.int vb), .val (.ref b11), .val (.int (f_upd p2 vb wd (own_mask wd) (own_tv ((((p2.toUInt32 >>> ((wd - (8 : Int32)) &&& 31).toUInt32).toInt32) ^^^ vb) &&& (255 : Int32)) po wd ((1 : Int32) <<< ((wd - (1 : Int32)) &&& 31)) (own_mask wd)))), .val (.int ((1 : Int32) <<< ((wd - (1 : Int32)) &&& 31))), .val (.int (f_step (f_step (p2 ^^^ (vb <<< ((wd - (8 : Int32)) &&& 31))) ((1 : Int32) <<< ((wd - (1 : Int32)) &&& 31)) po) ((1 : Int32) <<< ((wd - (1 : Int32)) &&& 31)) po))] [(.int (f_step (f_step (f_step (p2 ^^^ (vb <<< ((wd - (8 : Int32)) &&& 31))) ((1 : Int32) <<< ((wd - (1 : Int32)) &&& 31)) po) ((1 : Int32) <<< ((wd - (1 : Int32)) &&& 31)) po) ((1 : Int32) <<< ((wd - (1 : Int32)) &&& 31)) po))])) _
    refine XS.istore X27.here hx rfl (hb hby at_118) rfl (l' := #[.val (.int p0), .val (.int p1), .val (.int p2), .val (.int p3), .val (.int wd), .val (.int (own_mask wd)), .val (.int po), .val (.int vb), .val (.ref b11), .val (.int (f_upd p2 vb wd (own_mask wd) (own_tv ((((p2.toUInt32 >>> ((wd - (8 : Int32)) &&& 31).toUInt32).toInt32) ^^^ vb) &&& (255 : Int32)) po wd ((1 : Int32) <<< ((wd - (1 : Int32)) &&& 31)) (own_mask wd)))), .val (.int ((1 : Int32) <<< ((wd - (1 : Int32)) &&& 31))), .val (.int (f_step (f_step (f_step (p2 ^^^ (vb <<< ((wd - (8 : Int32)) &&& 31))) ((1 : Int32) <<< ((wd - (1 : Int32)) &&& 31)) po) ((1 : Int32) <<< ((wd - (1 : Int32)) &&& 31)) po) ((1 : Int32) <<< ((wd - (1 : Int32)) &&& 31)) po))]) rfl ?_
    show Steps p.tables e below (T27.setTop (mkF m 120 #[.val (.int p0), .val (.int p1), .val (.int p2), .val (.int p3), .val (.int wd), .val (.int (own_mask wd)), .val (.int po), .val (.int vb), .val (.ref b11), .val (.int (f_upd p2 vb wd (own_mask wd) (own_tv ((((p2.toUInt32 >>> ((wd - (8 : Int32)) &&& 31).toUInt32).toInt32) ^^^ vb) &&& (255 : Int32)) po wd ((1 : Int32) <<< ((wd - (1 : Int32)) &&& 31)) (own_mask wd)))), .val (.int ((1 : Int32) <<< ((wd - (1 : Int32)) &&& 31))), .val (.int (f_step (f_step (f_step (p2 ^^^ (vb <<< ((wd - (8 : Int32)) &&& 31))) ((1 : Int32) <<< ((wd - (1 : Int32)) &&& 31)) po) ((1 : Int32) <<< ((wd - (1 : Int32)) &&& 31)) po) ((1 : Int32) <<< ((wd - (1 : Int32)) &&& 31)) po))] [])) _
    refine XS.iload X27.here hx rfl (hb hby at_120) rfl ?_
    show Steps p.tables e below (T27.setTop (mkF m 122 #[.val (.int p0), .val (.int p1), .val (.int p2), .val (.int p3), .val (.int wd), .val (.int (own_mask wd)), .val (.int po), .val (.int vb), .val (.ref b11), .val (.int (f_upd p2 vb wd (own_mask wd) (own_tv ((((p2.toUInt32 >>> ((wd - (8 : Int32)) &&& 31).toUInt32).toInt32) ^^^ vb) &&& (255 : Int32)) po wd ((1 : Int32) <<< ((wd - (1 : Int32)) &&& 31)) (own_mask wd)))), .val (.int ((1 : Int32) <<< ((wd - (1 : Int32)) &&& 31))), .val (.int (f_step (f_step (f_step (p2 ^^^ (vb <<< ((wd - (8 : Int32)) &&& 31))) ((1 : Int32) <<< ((wd - (1 : Int32)) &&& 31)) po) ((1 : Int32) <<< ((wd - (1 : Int32)) &&& 31)) po) ((1 : Int32) <<< ((wd - (1 : Int32)) &&& 31)) po))] [(.int (f_step (f_step (f_step (p2 ^^^ (vb <<< ((wd - (8 : Int32)) &&& 31))) ((1 : Int32) <<< ((wd - (1 : Int32)) &&& 31)) po) ((1 : Int32) <<< ((wd - (1 : Int32)) &&& 31)) po) ((1 : Int32) <<< ((wd - (1 : Int32)) &&& 31)) po))])) _
    refine XS.iload X27.here hx rfl (hb hby at_122) rfl ?_
    show Steps p.tables e below (T27.setTop (mkF m 124 #[.val (.int p0), .val (.int p1), .val (.int p2), .val (.int p3), .val (.int wd), .val (.int (own_mask wd)), .val (.int po), .val (.int vb), .val (.ref b11), .val (.int (f_upd p2 vb wd (own_mask wd) (own_tv ((((p2.toUInt32 >>> ((wd - (8 : Int32)) &&& 31).toUInt32).toInt32) ^^^ vb) &&& (255 : Int32)) po wd ((1 : Int32) <<< ((wd - (1 : Int32)) &&& 31)) (own_mask wd)))), .val (.int ((1 : Int32) <<< ((wd - (1 : Int32)) &&& 31))), .val (.int (f_step (f_step (f_step (p2 ^^^ (vb <<< ((wd - (8 : Int32)) &&& 31))) ((1 : Int32) <<< ((wd - (1 : Int32)) &&& 31)) po) ((1 : Int32) <<< ((wd - (1 : Int32)) &&& 31)) po) ((1 : Int32) <<< ((wd - (1 : Int32)) &&& 31)) po))] [(.int ((1 : Int32) <<< ((wd - (1 : Int32)) &&& 31))), (.int (f_step (f_step (f_step (p2 ^^^ (vb <<< ((wd - (8 : Int32)) &&& 31))) ((1 : Int32) <<< ((wd - (1 : Int32)) &&& 31)) po) ((1 : Int32) <<< ((wd - (1 : Int32)) &&& 31)) po) ((1 : Int32) <<< ((wd - (1 : Int32)) &&& 31)) po))])) _
    refine XS.iload X27.here hx rfl (hb hby at_124) rfl ?_
    exact kt)
  obtain ⟨_, _, ⟨T30, L30, k30, n30⟩, -, X30, ⟨Lc30, hQ30, l30, y30, z30⟩, st30⟩ := Jvm.LawKit.callS X27 hx (y := (⟨"com/example/baton/baton/core/format/CrcUpdatePinLaw", "step", "(III)I"⟩ : MethodName)) hown (mvT hZ (hw _ (List.mem_of_getElem? (i := 22) rfl))) (mvT hZ (hw _ (List.mem_of_getElem? (i := 23) rfl))) (mvT hZ (hw _ (List.mem_of_getElem? (i := 24) rfl))) (mvT hZ (hw _ (List.mem_of_getElem? (i := 25) rfl))) (by decide) (backOf (W := 0) (rm4 l Z av hw [] (f_step (f_step (f_step (p2 ^^^ (vb <<< ((wd - (8 : Int32)) &&& 31))) ((1 : Int32) <<< ((wd - (1 : Int32)) &&& 31)) po) ((1 : Int32) <<< ((wd - (1 : Int32)) &&& 31)) po) ((1 : Int32) <<< ((wd - (1 : Int32)) &&& 31)) po) ((1 : Int32) <<< ((wd - (1 : Int32)) &&& 31)) po  T14.heap n0 Z14 ) hZ (hw _ (List.mem_of_getElem? (i := 25) rfl)) (hw _ (List.mem_of_getElem? (i := 24) rfl)) (by decide) (by decide)) (g := (mkF m 126 #[.val (.int p0), .val (.int p1), .val (.int p2), .val (.int p3), .val (.int wd), .val (.int (own_mask wd)), .val (.int po), .val (.int vb), .val (.ref b11), .val (.int (f_upd p2 vb wd (own_mask wd) (own_tv ((((p2.toUInt32 >>> ((wd - (8 : Int32)) &&& 31).toUInt32).toInt32) ^^^ vb) &&& (255 : Int32)) po wd ((1 : Int32) <<< ((wd - (1 : Int32)) &&& 31)) (own_mask wd)))), .val (.int ((1 : Int32) <<< ((wd - (1 : Int32)) &&& 31))), .val (.int (f_step (f_step (f_step (p2 ^^^ (vb <<< ((wd - (8 : Int32)) &&& 31))) ((1 : Int32) <<< ((wd - (1 : Int32)) &&& 31)) po) ((1 : Int32) <<< ((wd - (1 : Int32)) &&& 31)) po) ((1 : Int32) <<< ((wd - (1 : Int32)) &&& 31)) po))] [(.int po), (.int ((1 : Int32) <<< ((wd - (1 : Int32)) &&& 31))), (.int (f_step (f_step (f_step (p2 ^^^ (vb <<< ((wd - (8 : Int32)) &&& 31))) ((1 : Int32) <<< ((wd - (1 : Int32)) &&& 31)) po) ((1 : Int32) <<< ((wd - (1 : Int32)) &&& 31)) po) ((1 : Int32) <<< ((wd - (1 : Int32)) &&& 31)) po))])) rfl (by rw [hml]; rfl) (argsL := [(.int (f_step (f_step (f_step (p2 ^^^ (vb <<< ((wd - (8 : Int32)) &&& 31))) ((1 : Int32) <<< ((wd - (1 : Int32)) &&& 31)) po) ((1 : Int32) <<< ((wd - (1 : Int32)) &&& 31)) po) ((1 : Int32) <<< ((wd - (1 : Int32)) &&& 31)) po)), (.int ((1 : Int32) <<< ((wd - (1 : Int32)) &&& 31))), (.int po)]) (rest := []) (lenOf pd__III_I rfl) rfl (by show 2 * 0 + _ ≤ _; exact Nat.le_of_eq rfl) (hb hby at_126) (fun _ _ => ⟨rfl, e27, (by decide : 2 + 0 ≤ _), (by decide : 259 + 0 ≤ _)⟩)
  dsimp only [Pt.U, Pt.locs, Pt.cells, Pt.slots] at X30 l30 y30 z30 st30 hQ30
  subst l30 y30 z30
  obtain ⟨rfl, N30q, e30⟩ := hQ30
  have N30 := Fr.app N27 N30q
  have pre31 : ∀ t, Steps p.tables e below (T30.setTop (mkF m 129 #[.val (.int p0), .val (.int p1), .val (.int p2), .val (.int p3), .val (.int wd), .val (.int (own_mask wd)), .val (.int po), .val (.int vb), .val (.ref b11), .val (.int (f_upd p2 vb wd (own_mask wd) (own_tv ((((p2.toUInt32 >>> ((wd - (8 : Int32)) &&& 31).toUInt32).toInt32) ^^^ vb) &&& (255 : Int32)) po wd ((1 : Int32) <<< ((wd - (1 : Int32)) &&& 31)) (own_mask wd)))), .val (.int ((1 : Int32) <<< ((wd - (1 : Int32)) &&& 31))), .val (.int (f_step (f_step (f_step (p2 ^^^ (vb <<< ((wd - (8 : Int32)) &&& 31))) ((1 : Int32) <<< ((wd - (1 : Int32)) &&& 31)) po) ((1 : Int32) <<< ((wd - (1 : Int32)) &&& 31)) po) ((1 : Int32) <<< ((wd - (1 : Int32)) &&& 31)) po))] [(.int (f_step (f_step (f_step (f_step (p2 ^^^ (vb <<< ((wd - (8 : Int32)) &&& 31))) ((1 : Int32) <<< ((wd - (1 : Int32)) &&& 31)) po) ((1 : Int32) <<< ((wd - (1 : Int32)) &&& 31)) po) ((1 : Int32) <<< ((wd - (1 : Int32)) &&& 31)) po) ((1 : Int32) <<< ((wd - (1 : Int32)) &&& 31)) po))])) t → Steps p.tables e below (s₁.setTop (entryFrame m #[(.int p0), (.int p1), (.int p2), (.int p3)] maxLocals)) t := fun t kt => pre29 t (st30 _ kt)
  have pre32 : ∀ t, Steps p.tables e below (T30.setTop (mkF m 137 #[.val (.int p0), .val (.int p1), .val (.int p2), .val (.int p3), .val (.int wd), .val (.int (own_mask wd)), .val (.int po), .val (.int vb), .val (.ref b11), .val (.int (f_upd p2 vb wd (own_mask wd) (own_tv ((((p2.toUInt32 >>> ((wd - (8 : Int32)) &&& 31).toUInt32).toInt32) ^^^ vb) &&& (255 : Int32)) po wd ((1 : Int32) <<< ((wd - (1 : Int32)) &&& 31)) (own_mask wd)))), .val (.int ((1 : Int32) <<< ((wd - (1 : Int32)) &&& 31))), .val (.int (f_step (f_step (f_step (f_step (p2 ^^^ (vb <<< ((wd - (8 : Int32)) &&& 31))) ((1 : Int32) <<< ((wd - (1 : Int32)) &&& 31)) po) ((1 : Int32) <<< ((wd - (1 : Int32)) &&& 31)) po) ((1 : Int32) <<< ((wd - (1 : Int32)) &&& 31)) po) ((1 : Int32) <<< ((wd - (1 : Int32)) &&& 31)) po))] [(.int po), (.int ((1 : Int32) <<< ((wd - (1 : Int32)) &&& 31))), (.int (f_step (f_step (f_step (f_step (p2 ^^^ (vb <<< ((wd - (8 : Int32)) &&& 31))) ((1 : Int32) <<< ((wd - (1 : Int32)) &&& 31)) po) ((1 : Int32) <<< ((wd - (1 : Int32)) &&& 31)) po) ((1 : Int32) <<< ((wd - (1 : Int32)) &&& 31)) po) ((1 : Int32) <<< ((wd - (1 : Int32)) &&& 31)) po))])) t → Steps p.tables e below (s₁.setTop (entryFrame m #[(.int p0), (.int p1), (.int p2), (.int p3)] maxLocals)) t := fun t kt => pre31 t (by
    show Steps p.tables e below (T30.setTop (mkF m 129 #[.val (.int p0), .val (.int p1), .val (.int p2), .val (.int p3), .val (.int wd), .val (.int (own_mask wd)), .val (.int po), .val (.int vb), .val (.ref b11), .val (.int (f_upd p2 vb wd (own_mask wd) (own_tv ((((p2.toUInt32 >>> ((wd - (8 : Int32)) &&& 31).toUInt32).toInt32) ^^^ vb) &&& (255 : Int32)) po wd ((1 : Int32) <<< ((wd - (1 : Int32)) &&& 31)) (own_mask wd)))), .val (.int ((1 : Int32) <<< ((wd - (1 : Int32)) &&& 31))), .val (.int (f_step (f_step (f_step (p2 ^^^ (vb <<< ((wd - (8 : Int32)) &&& 31))) ((1 : Int32) <<< ((wd - (1 : Int32)) &&& 31)) po) ((1 : Int32) <<< ((wd - (1 : Int32)) &&& 31)) po) ((1 : Int32) <<< ((wd - (1 : Int32)) &&& 31)) po))] [(.int (f_step (f_step (f_step (f_step (p2 ^^^ (vb <<< ((wd - (8 : Int32)) &&& 31))) ((1 : Int32) <<< ((wd - (1 : Int32)) &&& 31)) po) ((1 : Int32) <<< ((wd - (1 : Int32)) &&& 31)) po) ((1 : Int32) <<< ((wd - (1 : Int32)) &&& 31)) po) ((1 : Int32) <<< ((wd - (1 : Int32)) &&& 31)) po))])) _
    refine XS.istore X30.here hx rfl (hb hby at_129) rfl (l' := #[.val (.int p0), .val (.int p1), .val (.int p2), .val (.int p3), .val (.int wd), .val (.int (own_mask wd)), .val (.int po), .val (.int vb), .val (.ref b11), .val (.int (f_upd p2 vb wd (own_mask wd) (own_tv ((((p2.toUInt32 >>> ((wd - (8 : Int32)) &&& 31).toUInt32).toInt32) ^^^ vb) &&& (255 : Int32)) po wd ((1 : Int32) <<< ((wd - (1 : Int32)) &&& 31)) (own_mask wd)))), .val (.int ((1 : Int32) <<< ((wd - (1 : Int32)) &&& 31))), .val (.int (f_step (f_step (f_step (f_step (p2 ^^^ (vb <<< ((wd - (8 : Int32)) &&& 31))) ((1 : Int32) <<< ((wd - (1 : Int32)) &&& 31)) po) ((1 : Int32) <<< ((wd - (1 : Int32)) &&& 31)) po) ((1 : Int32) <<< ((wd - (1 : Int32)) &&& 31)) po) ((1 : Int32) <<< ((wd - (1 : Int32)) &&& 31)) po))]) rfl ?_
    show Steps p.tables e below (T30.setTop (mkF m 131 #[.val (.int p0), .val (.int p1), .val (.int p2), .val (.int p3), .val (.int wd), .val (.int (own_mask wd)), .val (.int po), .val (.int vb), .val (.ref b11), .val (.int (f_upd p2 vb wd (own_mask wd) (own_tv ((((p2.toUInt32 >>> ((wd - (8 : Int32)) &&& 31).toUInt32).toInt32) ^^^ vb) &&& (255 : Int32)) po wd ((1 : Int32) <<< ((wd - (1 : Int32)) &&& 31)) (own_mask wd)))), .val (.int ((1 : Int32) <<< ((wd - (1 : Int32)) &&& 31))), .val (.int (f_step (f_step (f_step (f_step (p2 ^^^ (vb <<< ((wd - (8 : Int32)) &&& 31))) ((1 : Int32) <<< ((wd - (1 : Int32)) &&& 31)) po) ((1 : Int32) <<< ((wd - (1 : Int32)) &&& 31)) po) ((1 : Int32) <<< ((wd - (1 : Int32)) &&& 31)) po) ((1 : Int32) <<< ((wd - (1 : Int32)) &&& 31)) po))] [])) _
    refine XS.iload X30.here hx rfl (hb hby at_131) rfl ?_
    show Steps p.tables e below (T30.setTop (mkF m 133 #[.val (.int p0), .val (.int p1), .val (.int p2), .val (.int p3), .val (.int wd), .val (.int (own_mask wd)), .val (.int po), .val (.int vb), .val (.ref b11), .val (.int (f_upd p2 vb wd (own_mask wd) (own_tv ((((p2.toUInt32 >>> ((wd - (8 : Int32)) &&& 31).toUInt32).toInt32) ^^^ vb) &&& (255 : Int32)) po wd ((1 : Int32) <<< ((wd - (1 : Int32)) &&& 31)) (own_mask wd)))), .val (.int ((1 : Int32) <<< ((wd - (1 : Int32)) &&& 31))), .val (.int (f_step (f_step (f_step (f_step (p2 ^^^ (vb <<< ((wd - (8 : Int32)) &&& 31))) ((1 : Int32) <<< ((wd - (1 : Int32)) &&& 31)) po) ((1 : Int32) <<< ((wd - (1 : Int32)) &&& 31)) po) ((1 : Int32) <<< ((wd - (1 : Int32)) &&& 31)) po) ((1 : Int32) <<< ((wd - (1 : Int32)) &&& 31)) po))] [(.int (f_step (f_step (f_step (f_step (p2 ^^^ (vb <<< ((wd - (8 : Int32)) &&& 31))) ((1 : Int32) <<< ((wd - (1 : Int32)) &&& 31)) po) ((1 : Int32) <<< ((wd - (1 : Int32)) &&& 31)) po) ((1 : Int32) <<< ((wd - (1 : Int32)) &&& 31)) po) ((1 : Int32) <<< ((wd - (1 : Int32)) &&& 31)) po))])) _
    refine XS.iload X30.here hx rfl (hb hby at_133) rfl ?_
    show Steps p.tables e below (T30.setTop (mkF m 135 #[.val (.int p0), .val (.int p1), .val (.int p2), .val (.int p3), .val (.int wd), .val (.int (own_mask wd)), .val (.int po), .val (.int vb), .val (.ref b11), .val (.int (f_upd p2 vb wd (own_mask wd) (own_tv ((((p2.toUInt32 >>> ((wd - (8 : Int32)) &&& 31).toUInt32).toInt32) ^^^ vb) &&& (255 : Int32)) po wd ((1 : Int32) <<< ((wd - (1 : Int32)) &&& 31)) (own_mask wd)))), .val (.int ((1 : Int32) <<< ((wd - (1 : Int32)) &&& 31))), .val (.int (f_step (f_step (f_step (f_step (p2 ^^^ (vb <<< ((wd - (8 : Int32)) &&& 31))) ((1 : Int32) <<< ((wd - (1 : Int32)) &&& 31)) po) ((1 : Int32) <<< ((wd - (1 : Int32)) &&& 31)) po) ((1 : Int32) <<< ((wd - (1 : Int32)) &&& 31)) po) ((1 : Int32) <<< ((wd - (1 : Int32)) &&& 31)) po))] [(.int ((1 : Int32) <<< ((wd - (1 : Int32)) &&& 31))), (.int (f_step (f_step (f_step (f_step (p2 ^^^ (vb <<< ((wd - (8 : Int32)) &&& 31))) ((1 : Int32) <<< ((wd - (1 : Int32)) &&& 31)) po) ((1 : Int32) <<< ((wd - (1 : Int32)) &&& 31)) po) ((1 : Int32) <<< ((wd - (1 : Int32)) &&& 31)) po) ((1 : Int32) <<< ((wd - (1 : Int32)) &&& 31)) po))])) _
    refine XS.iload X30.here hx rfl (hb hby at_135) rfl ?_
    exact kt)
  obtain ⟨_, _, ⟨T33, L33, k33, n33⟩, -, X33, ⟨Lc33, hQ33, l33, y33, z33⟩, st33⟩ := Jvm.LawKit.callS X30 hx (y := (⟨"com/example/baton/baton/core/format/CrcUpdatePinLaw", "step", "(III)I"⟩ : MethodName)) hown (mvT hZ (hw _ (List.mem_of_getElem? (i := 22) rfl))) (mvT hZ (hw _ (List.mem_of_getElem? (i := 23) rfl))) (mvT hZ (hw _ (List.mem_of_getElem? (i := 24) rfl))) (mvT hZ (hw _ (List.mem_of_getElem? (i := 25) rfl))) (by decide) (backOf (W := 0) (rm4 l Z av hw [] (f_step (f_step (f_step (f_step (p2 ^^^ (vb <<< ((wd - (8 : Int32)) &&& 31))) ((1 : Int32) <<< ((wd - (1 : Int32)) &&& 31)) po) ((1 : Int32) <<< ((wd - (1 : Int32)) &&& 31)) po) ((1 : Int32) <<< ((wd - (1 : Int32)) &&& 31)) po) ((1 : Int32) <<< ((wd - (1 : Int32)) &&& 31)) po) ((1 : Int32) <<< ((wd - (1 : Int32)) &&& 31)) po  T14.heap n0 Z14 ) hZ (hw _ (List.mem_of_getElem? (i := 25) rfl)) (hw _ (List.mem_of_getElem? (i := 24) rfl)) (by decide) (by decide)) (g := (mkF m 137 #[.val (.int p0), .val (.int p1), .val (.int p2), .val (.int p3), .val (.int wd), .val (.int (own_mask wd)), .val (.int po), .val (.int vb), .val (.ref b11), .val (.int (f_upd p2 vb wd (own_mask wd) (own_tv ((((p2.toUInt32 >>> ((wd - (8 : Int32)) &&& 31).toUInt32).toInt32) ^^^ vb) &&& (255 : Int32)) po wd ((1 : Int32) <<< ((wd - (1 : Int32)) &&& 31)) (own_mask wd)))), .val (.int ((1 : Int32) <<< ((wd - (1 : Int32)) &&& 31))), .val (.int (f_step (f_step (f_step (f_step (p2 ^^^ (vb <<< ((wd - (8 : Int32)) &&& 31))) ((1 : Int32) <<< ((wd - (1 : Int32)) &&& 31)) po) ((1 : Int32) <<< ((wd - (1 : Int32)) &&& 31)) po) ((1 : Int32) <<< ((wd - (1 : Int32)) &&& 31)) po) ((1 : Int32) <<< ((wd - (1 : Int32)) &&& 31)) po))] [(.int po), (.int ((1 : Int32) <<< ((wd - (1 : Int32)) &&& 31))), (.int (f_step (f_step (f_step (f_step (p2 ^^^ (vb <<< ((wd - (8 : Int32)) &&& 31))) ((1 : Int32) <<< ((wd - (1 : Int32)) &&& 31)) po) ((1 : Int32) <<< ((wd - (1 : Int32)) &&& 31)) po) ((1 : Int32) <<< ((wd - (1 : Int32)) &&& 31)) po) ((1 : Int32) <<< ((wd - (1 : Int32)) &&& 31)) po))])) rfl (by rw [hml]; rfl) (argsL := [(.int (f_step (f_step (f_step (f_step (p2 ^^^ (vb <<< ((wd - (8 : Int32)) &&& 31))) ((1 : Int32) <<< ((wd - (1 : Int32)) &&& 31)) po) ((1 : Int32) <<< ((wd - (1 : Int32)) &&& 31)) po) ((1 : Int32) <<< ((wd - (1 : Int32)) &&& 31)) po) ((1 : Int32) <<< ((wd - (1 : Int32)) &&& 31)) po)), (.int ((1 : Int32) <<< ((wd - (1 : Int32)) &&& 31))), (.int po)]) (rest := []) (lenOf pd__III_I rfl) rfl (by show 2 * 0 + _ ≤ _; exact Nat.le_of_eq rfl) (hb hby at_137) (fun _ _ => ⟨rfl, e30, (by decide : 2 + 0 ≤ _), (by decide : 259 + 0 ≤ _)⟩)
  dsimp only [Pt.U, Pt.locs, Pt.cells, Pt.slots] at X33 l33 y33 z33 st33 hQ33
  subst l33 y33 z33
  obtain ⟨rfl, N33q, e33⟩ := hQ33
  have N33 := Fr.app N30 N33q
  have pre34 : ∀ t, Steps p.tables e below (T33.setTop (mkF m 140 #[.val (.int p0), .val (.int p1), .val (.int p2), .val (.int p3), .val (.int wd), .val (.int (own_mask wd)), .val (.int po), .val (.int vb), .val (.ref b11), .val (.int (f_upd p2 vb wd (own_mask wd) (own_tv ((((p2.toUInt32 >>> ((wd - (8 : Int32)) &&& 31).toUInt32).toInt32) ^^^ vb) &&& (255 : Int32)) po wd ((1 : Int32) <<< ((wd - (1 : Int32)) &&& 31)) (own_mask wd)))), .val (.int ((1 : Int32) <<< ((wd - (1 : Int32)) &&& 31))), .val (.int (f_step (f_step (f_step (f_step (p2 ^^^ (vb <<< ((wd - (8 : Int32)) &&& 31))) ((1 : Int32) <<< ((wd - (1 : Int32)) &&& 31)) po) ((1 : Int32) <<< ((wd - (1 : Int32)) &&& 31)) po) ((1 : Int32) <<< ((wd - (1 : Int32)) &&& 31)) po) ((1 : Int32) <<< ((wd - (1 : Int32)) &&& 31)) po))] [(.int (f_step (f_step (f_step (f_step (f_step (p2 ^^^ (vb <<< ((wd - (8 : Int32)) &&& 31))) ((1 : Int32) <<< ((wd - (1 : Int32)) &&& 31)) po) ((1 : Int32) <<< ((wd - (1 : Int32)) &&& 31)) po) ((1 : Int32) <<< ((wd - (1 : Int32)) &&& 31)) po) ((1 : Int32) <<< ((wd - (1 : Int32)) &&& 31)) po) ((1 : Int32) <<< ((wd - (1 : Int32)) &&& 31)) po))])) t → Steps p.tables e below (s₁.setTop (entryFrame m #[(.int p0), (.int p1), (.int p2), (.int p3)] maxLocals)) t := fun t kt => pre32 t (st33 _ kt)
  have pre35 : ∀ t, Steps p.tables e below (T33.setTop (mkF m 148 #[.val (.int p0), .val (.int p1), .val (.int p2), .val (.int p3), .val (.int wd), .val (.int (own_mask wd)), .val (.int po), .val (.int vb), .val (.ref b11), .val (.int (f_upd p2 vb wd (own_mask wd) (own_tv ((((p2.toUInt32 >>> ((wd - (8 : Int32)) &&& 31).toUInt32).toInt32) ^^^ vb) &&& (255 : Int32)) po wd ((1 : Int32) <<< ((wd - (1 : Int32)) &&& 31)) (own_mask wd)))), .val (.int ((1 : Int32) <<< ((wd - (1 : Int32)) &&& 31))), .val (.int (f_step (f_step (f_step (f_step (f_step (p2 ^^^ (vb <<< ((wd - (8 : Int32)) &&& 31))) ((1 : Int32) <<< ((wd - (1 : Int32)) &&& 31)) po) ((1 : Int32) <<< ((wd - (1 : Int32)) &&& 31)) po) ((1 : Int32) <<< ((wd - (1 : Int32)) &&& 31)) po) ((1 : Int32) <<< ((wd - (1 : Int32)) &&& 31)) po) ((1 : Int32) <<< ((wd - (1 : Int32)) &&& 31)) po))] [(.int po), (.int ((1 : Int32) <<< ((wd - (1 : Int32)) &&& 31))), (.int (f_step (f_step (f_step (f_step (f_step (p2 ^^^ (vb <<< ((wd - (8 : Int32)) &&& 31))) ((1 : Int32) <<< ((wd - (1 : Int32)) &&& 31)) po) ((1 : Int32) <<< ((wd - (1 : Int32)) &&& 31)) po) ((1 : Int32) <<< ((wd - (1 : Int32)) &&& 31)) po) ((1 : Int32) <<< ((wd - (1 : Int32)) &&& 31)) po) ((1 : Int32) <<< ((wd - (1 : Int32)) &&& 31)) po))])) t → Steps p.tables e below (s₁.setTop (entryFrame m #[(.int p0), (.int p1), (.int p2), (.int p3)] maxLocals)) t := fun t kt => pre34 t (by
    show Steps p.tables e below (T33.setTop (mkF m 140 #[.val (.int p0), .val (.int p1), .val (.int p2), .val (.int p3), .val (.int wd), .val (.int (own_mask wd)), .val (.int po), .val (.int vb), .val (.ref b11), .val (.int (f_upd p2 vb wd (own_mask wd) (own_tv ((((p2.toUInt32 >>> ((wd - (8 : Int32)) &&& 31).toUInt32).toInt32) ^^^ vb) &&& (255 : Int32)) po wd ((1 : Int32) <<< ((wd - (1 : Int32)) &&& 31)) (own_mask wd)))), .val (.int ((1 : Int32) <<< ((wd - (1 : Int32)) &&& 31))), .val (.int (f_step (f_step (f_step (f_step (p2 ^^^ (vb <<< ((wd - (8 : Int32)) &&& 31))) ((1 : Int32) <<< ((wd - (1 : Int32)) &&& 31)) po) ((1 : Int32) <<< ((wd - (1 : Int32)) &&& 31)) po) ((1 : Int32) <<< ((wd - (1 : Int32)) &&& 31)) po) ((1 : Int32) <<< ((wd - (1 : Int32)) &&& 31)) po))] [(.int (f_step (f_step (f_step (f_step (f_step (p2 ^^^ (vb <<< ((wd - (8 : Int32)) &&& 31))) ((1 : Int32) <<< ((wd - (1 : Int32)) &&& 31)) po) ((1 : Int32) <<< ((wd - (1 : Int32)) &&& 31)) po) ((1 : Int32) <<< ((wd - (1 : Int32)) &&& 31)) po) ((1 : Int32) <<< ((wd - (1 : Int32)) &&& 31)) po) ((1 : Int32) <<< ((wd - (1 : Int32)) &&& 31)) po))])) _
    refine XS.istore X33.here hx rfl (hb hby at_140) rfl (l' := #[.val (.int p0), .val (.int p1), .val (.int p2), .val (.int p3), .val (.int wd), .val (.int (own_mask wd)), .val (.int po), .val (.int vb), .val (.ref b11), .val (.int (f_upd p2 vb wd (own_mask wd) (own_tv ((((p2.toUInt32 >>> ((wd - (8 : Int32)) &&& 31).toUInt32).toInt32) ^^^ vb) &&& (255 : Int32)) po wd ((1 : Int32) <<< ((wd - (1 : Int32)) &&& 31)) (own_mask wd)))), .val (.int ((1 : Int32) <<< ((wd - (1 : Int32)) &&& 31))), .val (.int (f_step (f_step (f_step (f_step (f_step (p2 ^^^ (vb <<< ((wd - (8 : Int32)) &&& 31))) ((1 : Int32) <<< ((wd - (1 : Int32)) &&& 31)) po) ((1 : Int32) <<< ((wd - (1 : Int32)) &&& 31)) po) ((1 : Int32) <<< ((wd - (1 : Int32)) &&& 31)) po) ((1 : Int32) <<< ((wd - (1 : Int32)) &&& 31)) po) ((1 : Int32) <<< ((wd - (1 : Int32)) &&& 31)) po))]) rfl ?_
    show Steps p.tables e below (T33.setTop (mkF m 142 #[.val (.int p0), .val (.int p1), .val (.int p2), .val (.int p3), .val (.int wd), .val (.int (own_mask wd)), .val (.int po), .val (.int vb), .val (.ref b11), .val (.int (f_upd p2 vb wd (own_mask wd) (own_tv ((((p2.toUInt32 >>> ((wd - (8 : Int32)) &&& 31).toUInt32).toInt32) ^^^ vb) &&& (255 : Int32)) po wd ((1 : Int32) <<< ((wd - (1 : Int32)) &&& 31)) (own_mask wd)))), .val (.int ((1 : Int32) <<< ((wd - (1 : Int32)) &&& 31))), .val (.int (f_step (f_step (f_step (f_step (f_step (p2 ^^^ (vb <<< ((wd - (8 : Int32)) &&& 31))) ((1 : Int32) <<< ((wd - (1 : Int32)) &&& 31)) po) ((1 : Int32) <<< ((wd - (1 : Int32)) &&& 31)) po) ((1 : Int32) <<< ((wd - (1 : Int32)) &&& 31)) po) ((1 : Int32) <<< ((wd - (1 : Int32)) &&& 31)) po) ((1 : Int32) <<< ((wd - (1 : Int32)) &&& 31)) po))] [])) _
    refine XS.iload X33.here hx rfl (hb hby at_142) rfl ?_
    show Steps p.tables e below (T33.setTop (mkF m 144 #[.val (.int p0), .val (.int p1), .val (.int p2), .val (.int p3), .val (.int wd), .val (.int (own_mask wd)), .val (.int po), .val (.int vb), .val (.ref b11), .val (.int (f_upd p2 vb wd (own_mask wd) (own_tv ((((p2.toUInt32 >>> ((wd - (8 : Int32)) &&& 31).toUInt32).toInt32) ^^^ vb) &&& (255 : Int32)) po wd ((1 : Int32) <<< ((wd - (1 : Int32)) &&& 31)) (own_mask wd)))), .val (.int ((1 : Int32) <<< ((wd - (1 : Int32)) &&& 31))), .val (.int (f_step (f_step (f_step (f_step (f_step (p2 ^^^ (vb <<< ((wd - (8 : Int32)) &&& 31))) ((1 : Int32) <<< ((wd - (1 : Int32)) &&& 31)) po) ((1 : Int32) <<< ((wd - (1 : Int32)) &&& 31)) po) ((1 : Int32) <<< ((wd - (1 : Int32)) &&& 31)) po) ((1 : Int32) <<< ((wd - (1 : Int32)) &&& 31)) po) ((1 : Int32) <<< ((wd - (1 : Int32)) &&& 31)) po))] [(.int (f_step (f_step (f_step (f_step (f_step (p2 ^^^ (vb <<< ((wd - (8 : Int32)) &&& 31))) ((1 : Int32) <<< ((wd - (1 : Int32)) &&& 31)) po) ((1 : Int32) <<< ((wd - (1 : Int32)) &&& 31)) po) ((1 : Int32) <<< ((wd - (1 : Int32)) &&& 31)) po) ((1 : Int32) <<< ((wd - (1 : Int32)) &&& 31)) po) ((1 : Int32) <<< ((wd - (1 : Int32)) &&& 31)) po))])) _
    refine XS.iload X33.here hx rfl (hb hby at_144) rfl ?_
    show Steps p.tables e below (T33.setTop (mkF m 146 #[.val (.int p0), .val (.int p1), .val (.int p2), .val (.int p3), .val (.int wd), .val (.int (own_mask wd)), .val (.int po), .val (.int vb), .val (.ref b11), .val (.int (f_upd p2 vb wd (own_mask wd) (own_tv ((((p2.toUInt32 >>> ((wd - (8 : Int32)) &&& 31).toUInt32).toInt32) ^^^ vb) &&& (255 : Int32)) po wd ((1 : Int32) <<< ((wd - (1 : Int32)) &&& 31)) (own_mask wd)))), .val (.int ((1 : Int32) <<< ((wd - (1 : Int32)) &&& 31))), .val (.int (f_step (f_step (f_step (f_step (f_step (p2 ^^^ (vb <<< ((wd - (8 : Int32)) &&& 31))) ((1 : Int32) <<< ((wd - (1 : Int32)) &&& 31)) po) ((1 : Int32) <<< ((wd - (1 : Int32)) &&& 31)) po) ((1 : Int32) <<< ((wd - (1 : Int32)) &&& 31)) po) ((1 : Int32) <<< ((wd - (1 : Int32)) &&& 31)) po) ((1 : Int32) <<< ((wd - (1 : Int32)) &&& 31)) po))] [(.int ((1 : Int32) <<< ((wd - (1 : Int32)) &&& 31))), (.int (f_step (f_step (f_step (f_step (f_step (p2 ^^^ (vb <<< ((wd - (8 : Int32)) &&& 31))) ((1 : Int32) <<< ((wd - (1 : Int32)) &&& 31)) po) ((1 : Int32) <<< ((wd - (1 : Int32)) &&& 31)) po) ((1 : Int32) <<< ((wd - (1 : Int32)) &&& 31)) po) ((1 : Int32) <<< ((wd - (1 : Int32)) &&& 31)) po) ((1 : Int32) <<< ((wd - (1 : Int32)) &&& 31)) po))])) _
    refine XS.iload X33.here hx rfl (hb hby at_146) rfl ?_
    exact kt)
  obtain ⟨_, _, ⟨T36, L36, k36, n36⟩, -, X36, ⟨Lc36, hQ36, l36, y36, z36⟩, st36⟩ := Jvm.LawKit.callS X33 hx (y := (⟨"com/example/baton/baton/core/format/CrcUpdatePinLaw", "step", "(III)I"⟩ : MethodName)) hown (mvT hZ (hw _ (List.mem_of_getElem? (i := 22) rfl))) (mvT hZ (hw _ (List.mem_of_getElem? (i := 23) rfl))) (mvT hZ (hw _ (List.mem_of_getElem? (i := 24) rfl))) (mvT hZ (hw _ (List.mem_of_getElem? (i := 25) rfl))) (by decide) (backOf (W := 0) (rm4 l Z av hw [] (f_step (f_step (f_step (f_step (f_step (p2 ^^^ (vb <<< ((wd - (8 : Int32)) &&& 31))) ((1 : Int32) <<< ((wd - (1 : Int32)) &&& 31)) po) ((1 : Int32) <<< ((wd - (1 : Int32)) &&& 31)) po) ((1 : Int32) <<< ((wd - (1 : Int32)) &&& 31)) po) ((1 : Int32) <<< ((wd - (1 : Int32)) &&& 31)) po) ((1 : Int32) <<< ((wd - (1 : Int32)) &&& 31)) po) ((1 : Int32) <<< ((wd - (1 : Int32)) &&& 31)) po  T14.heap n0 Z14 ) hZ (hw _ (List.mem_of_getElem? (i := 25) rfl)) (hw _ (List.mem_of_getElem? (i := 24) rfl)) (by decide) (by decide)) (g := (mkF m 148 #[.val (.int p0), .val (.int p1), .val (.int p2), .val (.int p3), .val (.int wd), .val (.int (own_mask wd)), .val (.int po), .val (.int vb), .val (.ref b11), .val (.int (f_upd p2 vb wd (own_mask wd) (own_tv ((((p2.toUInt32 >>> ((wd - (8 : Int32)) &&& 31).toUInt32).toInt32) ^^^ vb) &&& (255 : Int32)) po wd ((1 : Int32) <<< ((wd - (1 : Int32)) &&& 31)) (own_mask wd)))), .val (.int ((1 : Int32) <<< ((wd - (1 : Int32)) &&& 31))), .val (.int (f_step (f_step (f_step (f_step (f_step (p2 ^^^ (vb <<< ((wd - (8 : Int32)) &&& 31))) ((1 : Int32) <<< ((wd - (1 : Int32)) &&& 31)) po) ((1 : Int32) <<< ((wd - (1 : Int32)) &&& 31)) po) ((1 : Int32) <<< ((wd - (1 : Int32)) &&& 31)) po) ((1 : Int32) <<< ((wd - (1 : Int32)) &&& 31)) po) ((1 : Int32) <<< ((wd - (1 : Int32)) &&& 31)) po))] [(.int po), (.int ((1 : Int32) <<< ((wd - (1 : Int32)) &&& 31))), (.int (f_step (f_step (f_step (f_step (f_step (p2 ^^^ (vb <<< ((wd - (8 : Int32)) &&& 31))) ((1 : Int32) <<< ((wd - (1 : Int32)) &&& 31)) po) ((1 : Int32) <<< ((wd - (1 : Int32)) &&& 31)) po) ((1 : Int32) <<< ((wd - (1 : Int32)) &&& 31)) po) ((1 : Int32) <<< ((wd - (1 : Int32)) &&& 31)) po) ((1 : Int32) <<< ((wd - (1 : Int32)) &&& 31)) po))])) rfl (by rw [hml]; rfl) (argsL := [(.int (f_step (f_step (f_step (f_step (f_step (p2 ^^^ (vb <<< ((wd - (8 : Int32)) &&& 31))) ((1 : Int32) <<< ((wd - (1 : Int32)) &&& 31)) po) ((1 : Int32) <<< ((wd - (1 : Int32)) &&& 31)) po) ((1 : Int32) <<< ((wd - (1 : Int32)) &&& 31)) po) ((1 : Int32) <<< ((wd - (1 : Int32)) &&& 31)) po) ((1 : Int32) <<< ((wd - (1 : Int32)) &&& 31)) po)), (.int ((1 : Int32) <<< ((wd - (1 : Int32)) &&& 31))), (.int po)]) (rest := []) (lenOf pd__III_I rfl) rfl (by show 2 * 0 + _ ≤ _; exact Nat.le_of_eq rfl) (hb hby at_148) (fun _ _ => ⟨rfl, e33, (by decide : 2 + 0 ≤ _), (by decide : 259 + 0 ≤ _)⟩)
  dsimp only [Pt.U, Pt.locs, Pt.cells, Pt.slots] at X36 l36 y36 z36 st36 hQ36
  subst l36 y36 z36
  obtain ⟨rfl, N36q, e36⟩ := hQ36
  have N36 := Fr.app N33 N36q
  have pre37 : ∀ t, Steps p.tables e below (T36.setTop (mkF m 151 #[.val (.int p0), .val (.int p1), .val (.int p2), .val (.int p3), .val (.int wd), .val (.int (own_mask wd)), .val (.int po), .val (.int vb), .val (.ref b11), .val (.int (f_upd p2 vb wd (own_mask wd) (own_tv ((((p2.toUInt32 >>> ((wd - (8 : Int32)) &&& 31).toUInt32).toInt32) ^^^ vb) &&& (255 : Int32)) po wd ((1 : Int32) <<< ((wd - (1 : Int32)) &&& 31)) (own_mask wd)))), .val (.int ((1 : Int32) <<< ((wd - (1 : Int32)) &&& 31))), .val (.int (f_step (f_step (f_step (f_step (f_step (p2 ^^^ (vb <<< ((wd - (8 : Int32)) &&& 31))) ((1 : Int32) <<< ((wd - (1 : Int32)) &&& 31)) po) ((1 : Int32) <<< ((wd - (1 : Int32)) &&& 31)) po) ((1 : Int32) <<< ((wd - (1 : Int32)) &&& 31)) po) ((1 : Int32) <<< ((wd - (1 : Int32)) &&& 31)) po) ((1 : Int32) <<< ((wd - (1 : Int32)) &&& 31)) po))] [(.int (f_step (f_step (f_step (f_step (f_step (f_step (p2 ^^^ (vb <<< ((wd - (8 : Int32)) &&& 31))) ((1 : Int32) <<< ((wd - (1 : Int32)) &&& 31)) po) ((1 : Int32) <<< ((wd - (1 : Int32)) &&& 31)) po) ((1 : Int32) <<< ((wd - (1 : Int32)) &&& 31)) po) ((1 : Int32) <<< ((wd - (1 : Int32)) &&& 31)) po) ((1 : Int32) <<< ((wd - (1 : Int32)) &&& 31)) po) ((1 : Int32) <<< ((wd - (1 : Int32)) &&& 31)) po))])) t → Steps p.tables e below (s₁.setTop (entryFrame m #[(.int p0), (.int p1), (.int p2), (.int p3)] maxLocals)) t := fun t kt => pre35 t (st36 _ kt)
  have pre38 : ∀ t, Steps p.tables e below (T36.setTop (mkF m 159 #[.val (.int p0), .val (.int p1), .val (.int p2), .val (.int p3), .val (.int wd), .val (.int (own_mask wd)), .val (.int po), .val (.int vb), .val (.ref b11), .val (.int (f_upd p2 vb wd (own_mask wd) (own_tv ((((p2.toUInt32 >>> ((wd - (8 : Int32)) &&& 31).toUInt32).toInt32) ^^^ vb) &&& (255 : Int32)) po wd ((1 : Int32) <<< ((wd - (1 : Int32)) &&& 31)) (own_mask wd)))), .val (.int ((1 : Int32) <<< ((wd - (1 : Int32)) &&& 31))), .val (.int (f_step (f_step (f_step (f_step (f_step (f_step (p2 ^^^ (vb <<< ((wd - (8 : Int32)) &&& 31))) ((1 : Int32) <<< ((wd - (1 : Int32)) &&& 31)) po) ((1 : Int32) <<< ((wd - (1 : Int32)) &&& 31)) po) ((1 : Int32) <<< ((wd - (1 : Int32)) &&& 31)) po) ((1 : Int32) <<< ((wd - (1 : Int32)) &&& 31)) po) ((1 : Int32) <<< ((wd - (1 : Int32)) &&& 31)) po) ((1 : Int32) <<< ((wd - (1 : Int32)) &&& 31)) po))] [(.int po), (.int ((1 : Int32) <<< ((wd - (1 : Int32)) &&& 31))), (.int (f_step (f_step (f_step (f_step (f_step (f_step (p2 ^^^ (vb <<< ((wd - (8 : Int32)) &&& 31))) ((1 : Int32) <<< ((wd - (1 : Int32)) &&& 31)) po) ((1 : Int32) <<< ((wd - (1 : Int32)) &&& 31)) po) ((1 : Int32) <<< ((wd - (1 : Int32)) &&& 31)) po) ((1 : Int32) <<< ((wd - (1 : Int32)) &&& 31)) po) ((1 : Int32) <<< ((wd - (1 : Int32)) &&& 31)) po) ((1 : Int32) <<< ((wd - (1 : Int32)) &&& 31)) po))])) t → Steps p.tables e below (s₁.setTop (entryFrame m #[(.int p0), (.int p1), (.int p2), (.int p3)] maxLocals)) t := fun t kt => pre37 t (by
    show Steps p.tables e below (T36.setTop (mkF m 151 #[.val (.int p0), .val (.int p1), .val (.int p2), .val (.int p3), .val (.int wd), .val (.int (own_mask wd)), .val (.int po), .val (.int vb), .val (.ref b11), .val (.int (f_upd p2 vb wd (own_mask wd) (own_tv ((((p2.toUInt32 >>> ((wd - (8 : Int32)) &&& 31).toUInt32).toInt32) ^^^ vb) &&& (255 : Int32)) po wd ((1 : Int32) <<< ((wd - (1 : Int32)) &&& 31)) (own_mask wd)))), .val (.int ((1 : Int32) <<< ((wd - (1 : Int32)) &&& 31))), .val (.int (f_step (f_step (f_step (f_step (f_step (p2 ^^^ (vb <<< ((wd - (8 : Int32)) &&& 31))) ((1 : Int32) <<< ((wd - (1 : Int32)) &&& 31)) po) ((1 : Int32) <<< ((wd - (1 : Int32)) &&& 31)) po) ((1 : Int32) <<< ((wd - (1 : Int32)) &&& 31)) po) ((1 : Int32) <<< ((wd - (1 : Int32)) &&& 31)) po) ((1 : Int32) <<< ((wd - (1 : Int32)) &&& 31)) po))] [(.int (f_step (f_step (f_step (f_step (f_step (f_step (p2 ^^^ (vb <<< ((wd - (8 : Int32)) &&& 31))) ((1 : Int32) <<< ((wd - (1 : Int32)) &&& 31)) po) ((1 : Int32) <<< ((wd - (1 : Int32)) &&& 31)) po) ((1 : Int32) <<< ((wd - (1 : Int32)) &&& 31)) po) ((1 : Int32) <<< ((wd - (1 : Int32)) &&& 31)) po) ((1 : Int32) <<< ((wd - (1 : Int32)) &&& 31)) po) ((1 : Int32) <<< ((wd - (1 : Int32)) &&& 31)) po))])) _
    refine XS.istore X36.here hx rfl (hb hby at_151) rfl (l' := #[.val (.int p0), .val (.int p1), .val (.int p2), .val (.int p3), .val (.int wd), .val (.int (own_mask wd)), .val (.int po), .val (.int vb), .val (.ref b11), .val (.int (f_upd p2 vb wd (own_mask wd) (own_tv ((((p2.toUInt32 >>> ((wd - (8 : Int32)) &&& 31).toUInt32).toInt32) ^^^ vb) &&& (255 : Int32)) po wd ((1 : Int32) <<< ((wd - (1 : Int32)) &&& 31)) (own_mask wd)))), .val (.int ((1 : Int32) <<< ((wd - (1 : Int32)) &&& 31))), .val (.int (f_step (f_step (f_step (f_step (f_step (f_step (p2 ^^^ (vb <<< ((wd - (8 : Int32)) &&& 31))) ((1 : Int32) <<< ((wd - (1 : Int32)) &&& 31)) po) ((1 : Int32) <<< ((wd - (1 : Int32)) &&& 31)) po) ((1 : Int32) <<< ((wd - (1 : Int32)) &&& 31)) po) ((1 : Int32) <<< ((wd - (1 : Int32)) &&& 31)) po) ((1 : Int32) <<< ((wd - (1 : Int32)) &&& 31)) po) ((1 : Int32) <<< ((wd - (1 : Int32)) &&& 31)) po))]) rfl ?_
    show Steps p.tables e below (T36.setTop (mkF m 153 #[.val (.int p0), .val (.int p1), .val (.int p2), .val (.int p3), .val (.int wd), .val (.int (own_mask wd)), .val (.int po), .val (.int vb), .val (.ref b11), .val (.int (f_upd p2 vb wd (own_mask wd) (own_tv ((((p2.toUInt32 >>> ((wd - (8 : Int32)) &&& 31).toUInt32).toInt32) ^^^ vb) &&& (255 : Int32)) po wd ((1 : Int32) <<< ((wd - (1 : Int32)) &&& 31)) (own_mask wd)))), .val (.int ((1 : Int32) <<< ((wd - (1 : Int32)) &&& 31))), .val (.int (f_step (f_step (f_step (f_step (f_step (f_step (p2 ^^^ (vb <<< ((wd - (8 : Int32)) &&& 31))) ((1 : Int32) <<< ((wd - (1 : Int32)) &&& 31)) po) ((1 : Int32) <<< ((wd - (1 : Int32)) &&& 31)) po) ((1 : Int32) <<< ((wd - (1 : Int32)) &&& 31)) po) ((1 : Int32) <<< ((wd - (1 : Int32)) &&& 31)) po) ((1 : Int32) <<< ((wd - (1 : Int32)) &&& 31)) po) ((1 : Int32) <<< ((wd - (1 : Int32)) &&& 31)) po))] [])) _
    refine XS.iload X36.here hx rfl (hb hby at_153) rfl ?_
    show Steps p.tables e below (T36.setTop (mkF m 155 #[.val (.int p0), .val (.int p1), .val (.int p2), .val (.int p3), .val (.int wd), .val (.int (own_mask wd)), .val (.int po), .val (.int vb), .val (.ref b11), .val (.int (f_upd p2 vb wd (own_mask wd) (own_tv ((((p2.toUInt32 >>> ((wd - (8 : Int32)) &&& 31).toUInt32).toInt32) ^^^ vb) &&& (255 : Int32)) po wd ((1 : Int32) <<< ((wd - (1 : Int32)) &&& 31)) (own_mask wd)))), .val (.int ((1 : Int32) <<< ((wd - (1 : Int32)) &&& 31))), .val (.int (f_step (f_step (f_step (f_step (f_step (f_step (p2 ^^^ (vb <<< ((wd - (8 : Int32)) &&& 31))) ((1 : Int32) <<< ((wd - (1 : Int32)) &&& 31)) po) ((1 : Int32) <<< ((wd - (1 : Int32)) &&& 31)) po) ((1 : Int32) <<< ((wd - (1 : Int32)) &&& 31)) po) ((1 : Int32) <<< ((wd - (1 : Int32)) &&& 31)) po) ((1 : Int32) <<< ((wd - (1 : Int32)) &&& 31)) po) ((1 : Int32) <<< ((wd - (1 : Int32)) &&& 31)) po))] [(.int (f_step (f_step (f_step (f_step (f_step (f_step (p2 ^^^ (vb <<< ((wd - (8 : Int32)) &&& 31))) ((1 : Int32) <<< ((wd - (1 : Int32)) &&& 31)) po) ((1 : Int32) <<< ((wd - (1 : Int32)) &&& 31)) po) ((1 : Int32) <<< ((wd - (1 : Int32)) &&& 31)) po) ((1 : Int32) <<< ((wd - (1 : Int32)) &&& 31)) po) ((1 : Int32) <<< ((wd - (1 : Int32)) &&& 31)) po) ((1 : Int32) <<< ((wd - (1 : Int32)) &&& 31)) po))])) _
    refine XS.iload X36.here hx rfl (hb hby at_155) rfl ?_
    show Steps p.tables e below (T36.setTop (mkF m 157 #[.val (.int p0), .val (.int p1), .val (.int p2), .val (.int p3), .val (.int wd), .val (.int (own_mask wd)), .val (.int po), .val (.int vb), .val (.ref b11), .val (.int (f_upd p2 vb wd (own_mask wd) (own_tv ((((p2.toUInt32 >>> ((wd - (8 : Int32)) &&& 31).toUInt32).toInt32) ^^^ vb) &&& (255 : Int32)) po wd ((1 : Int32) <<< ((wd - (1 : Int32)) &&& 31)) (own_mask wd)))), .val (.int ((1 : Int32) <<< ((wd - (1 : Int32)) &&& 31))), .val (.int (f_step (f_step (f_step (f_step (f_step (f_step (p2 ^^^ (vb <<< ((wd - (8 : Int32)) &&& 31))) ((1 : Int32) <<< ((wd - (1 : Int32)) &&& 31)) po) ((1 : Int32) <<< ((wd - (1 : Int32)) &&& 31)) po) ((1 : Int32) <<< ((wd - (1 : Int32)) &&& 31)) po) ((1 : Int32) <<< ((wd - (1 : Int32)) &&& 31)) po) ((1 : Int32) <<< ((wd - (1 : Int32)) &&& 31)) po) ((1 : Int32) <<< ((wd - (1 : Int32)) &&& 31)) po))] [(.int ((1 : Int32) <<< ((wd - (1 : Int32)) &&& 31))), (.int (f_step (f_step (f_step (f_step (f_step (f_step (p2 ^^^ (vb <<< ((wd - (8 : Int32)) &&& 31))) ((1 : Int32) <<< ((wd - (1 : Int32)) &&& 31)) po) ((1 : Int32) <<< ((wd - (1 : Int32)) &&& 31)) po) ((1 : Int32) <<< ((wd - (1 : Int32)) &&& 31)) po) ((1 : Int32) <<< ((wd - (1 : Int32)) &&& 31)) po) ((1 : Int32) <<< ((wd - (1 : Int32)) &&& 31)) po) ((1 : Int32) <<< ((wd - (1 : Int32)) &&& 31)) po))])) _
    refine XS.iload X36.here hx rfl (hb hby at_157) rfl ?_
    exact kt)
  obtain ⟨_, _, ⟨T39, L39, k39, n39⟩, -, X39, ⟨Lc39, hQ39, l39, y39, z39⟩, st39⟩ := Jvm.LawKit.callS X36 hx (y := (⟨"com/example/baton/baton/core/format/CrcUpdatePinLaw", "step", "(III)I"⟩ : MethodName)) hown (mvT hZ (hw _ (List.mem_of_getElem? (i := 22) rfl))) (mvT hZ (hw _ (List.mem_of_getElem? (i := 23) rfl))) (mvT hZ (hw _ (List.mem_of_getElem? (i := 24) rfl))) (mvT hZ (hw _ (List.mem_of_getElem? (i := 25) rfl))) (by decide) (backOf (W := 0) (rm4 l Z av hw [] (f_step (f_step (f_step (f_step (f_step (f_step (p2 ^^^ (vb <<< ((wd - (8 : Int32)) &&& 31))) ((1 : Int32) <<< ((wd - (1 : Int32)) &&& 31)) po) ((1 : Int32) <<< ((wd - (1 : Int32)) &&& 31)) po) ((1 : Int32) <<< ((wd - (1 : Int32)) &&& 31)) po) ((1 : Int32) <<< ((wd - (1 : Int32)) &&& 31)) po) ((1 : Int32) <<< ((wd - (1 : Int32)) &&& 31)) po) ((1 : Int32) <<< ((wd - (1 : Int32)) &&& 31)) po) ((1 : Int32) <<< ((wd - (1 : Int32)) &&& 31)) po  T14.heap n0 Z14 ) hZ (hw _ (List.mem_of_getElem? (i := 25) rfl)) (hw _ (List.mem_of_getElem? (i := 24) rfl)) (by decide) (by decide)) (g := (mkF m 159 #[.val (.int p0), .val (.int p1), .val (.int p2), .val (.int p3), .val (.int wd), .val (.int (own_mask wd)), .val (.int po), .val (.int vb), .val (.ref b11), .val (.int (f_upd p2 vb wd (own_mask wd) (own_tv ((((p2.toUInt32 >>> ((wd - (8 : Int32)) &&& 31).toUInt32).toInt32) ^^^ vb) &&& (255 : Int32)) po wd ((1 : Int32) <<< ((wd - (1 : Int32)) &&& 31)) (own_mask wd)))), .val (.int ((1 : Int32) <<< ((wd - (1 : Int32)) &&& 31))), .val (.int (f_step (f_step (f_step (f_step (f_step (f_step (p2 ^^^ (vb <<< ((wd - (8 : Int32)) &&& 31))) ((1 : Int32) <<< ((wd - (1 : Int32)) &&& 31)) po) ((1 : Int32) <<< ((wd - (1 : Int32)) &&& 31)) po) ((1 : Int32) <<< ((wd - (1 : Int32)) &&& 31)) po) ((1 : Int32) <<< ((wd - (1 : Int32)) &&& 31)) po) ((1 : Int32) <<< ((wd - (1 : Int32)) &&& 31)) po) ((1 : Int32) <<< ((wd - (1 : Int32)) &&& 31)) po))] [(.int po), (.int ((1 : Int32) <<< ((wd - (1 : Int32)) &&& 31))), (.int (f_step (f_step (f_step (f_step (f_step (f_step (p2 ^^^ (vb <<< ((wd - (8 : Int32)) &&& 31))) ((1 : Int32) <<< ((wd - (1 : Int32)) &&& 31)) po) ((1 : Int32) <<< ((wd - (1 : Int32)) &&& 31)) po) ((1 : Int32) <<< ((wd - (1 : Int32)) &&& 31)) po) ((1 : Int32) <<< ((wd - (1 : Int32)) &&& 31)) po) ((1 : Int32) <<< ((wd - (1 : Int32)) &&& 31)) po) ((1 : Int32) <<< ((wd - (1 : Int32)) &&& 31)) po))])) rfl (by rw [hml]; rfl) (argsL := [(.int (f_step (f_step (f_step (f_step (f_step (f_step (p2 ^^^ (vb <<< ((wd - (8 : Int32)) &&& 31))) ((1 : Int32) <<< ((wd - (1 : Int32)) &&& 31)) po) ((1 : Int32) <<< ((wd - (1 : Int32)) &&& 31)) po) ((1 : Int32) <<< ((wd - (1 : Int32)) &&& 31)) po) ((1 : Int32) <<< ((wd - (1 : Int32)) &&& 31)) po) ((1 : Int32) <<< ((wd - (1 : Int32)) &&& 31)) po) ((1 : Int32) <<< ((wd - (1 : Int32)) &&& 31)) po)), (.int ((1 : Int32) <<< ((wd - (1 : Int32)) &&& 31))), (.int po)]) (rest := []) (lenOf pd__III_I rfl) rfl (by show 2 * 0 + _ ≤ _; exact Nat.le_of_eq rfl) (hb hby at_159) (fun _ _ => ⟨rfl, e36, (by decide : 2 + 0 ≤ _), (by decide : 259 + 0 ≤ _)⟩)
  dsimp only [Pt.U, Pt.locs, Pt.cells, Pt.slots] at X39 l39 y39 z39 st39 hQ39
  subst l39 y39 z39
  obtain ⟨rfl, N39q, e39⟩ := hQ39
  have N39 := Fr.app N36 N39q
  have pre40 : ∀ t, Steps p.tables e below (T39.setTop (mkF m 162 #[.val (.int p0), .val (.int p1), .val (.int p2), .val (.int p3), .val (.int wd), .val (.int (own_mask wd)), .val (.int po), .val (.int vb), .val (.ref b11), .val (.int (f_upd p2 vb wd (own_mask wd) (own_tv ((((p2.toUInt32 >>> ((wd - (8 : Int32)) &&& 31).toUInt32).toInt32) ^^^ vb) &&& (255 : Int32)) po wd ((1 : Int32) <<< ((wd - (1 : Int32)) &&& 31)) (own_mask wd)))), .val (.int ((1 : Int32) <<< ((wd - (1 : Int32)) &&& 31))), .val (.int (f_step (f_step (f_step (f_step (f_step (f_step (p2 ^^^ (vb <<< ((wd - (8 : Int32)) &&& 31))) ((1 : Int32) <<< ((wd - (1 : Int32)) &&& 31)) po) ((1 : Int32) <<< ((wd - (1 : Int32)) &&& 31)) po) ((1 : Int32) <<< ((wd - (1 : Int32)) &&& 31)) po) ((1 : Int32) <<< ((wd - (1 : Int32)) &&& 31)) po) ((1 : Int32) <<< ((wd - (1 : Int32)) &&& 31)) po) ((1 : Int32) <<< ((wd - (1 : Int32)) &&& 31)) po))] [(.int (f_step (f_step (f_step (f_step (f_step (f_step (f_step (p2 ^^^ (vb <<< ((wd - (8 : Int32)) &&& 31))) ((1 : Int32) <<< ((wd - (1 : Int32)) &&& 31)) po) ((1 : Int32) <<< ((wd - (1 : Int32)) &&& 31)) po) ((1 : Int32) <<< ((wd - (1 : Int32)) &&& 31)) po) ((1 : Int32) <<< ((wd - (1 : Int32)) &&& 31)) po) ((1 : Int32) <<< ((wd - (1 : Int32)) &&& 31)) po) ((1 : Int32) <<< ((wd - (1 : Int32)) &&& 31)) po) ((1 : Int32) <<< ((wd - (1 : Int32)) &&& 31)) po))])) t → Steps p.tables e below (s₁.setTop (entryFrame m #[(.int p0), (.int p1), (.int p2), (.int p3)] maxLocals)) t := fun t kt => pre38 t (st39 _ kt)
  have pre41 : ∀ t, Steps p.tables e below (T39.setTop (mkF m 170 #[.val (.int p0), .val (.int p1), .val (.int p2), .val (.int p3), .val (.int wd), .val (.int (own_mask wd)), .val (.int po), .val (.int vb), .val (.ref b11), .val (.int (f_upd p2 vb wd (own_mask wd) (own_tv ((((p2.toUInt32 >>> ((wd - (8 : Int32)) &&& 31).toUInt32).toInt32) ^^^ vb) &&& (255 : Int32)) po wd ((1 : Int32) <<< ((wd - (1 : Int32)) &&& 31)) (own_mask wd)))), .val (.int ((1 : Int32) <<< ((wd - (1 : Int32)) &&& 31))), .val (.int (f_step (f_step (f_step (f_step (f_step (f_step (f_step (p2 ^^^ (vb <<< ((wd - (8 : Int32)) &&& 31))) ((1 : Int32) <<< ((wd - (1 : Int32)) &&& 31)) po) ((1 : Int32) <<< ((wd - (1 : Int32)) &&& 31)) po) ((1 : Int32) <<< ((wd - (1 : Int32)) &&& 31)) po) ((1 : Int32) <<< ((wd - (1 : Int32)) &&& 31)) po) ((1 : Int32) <<< ((wd - (1 : Int32)) &&& 31)) po) ((1 : Int32) <<< ((wd - (1 : Int32)) &&& 31)) po) ((1 : Int32) <<< ((wd - (1 : Int32)) &&& 31)) po))] [(.int po), (.int ((1 : Int32) <<< ((wd - (1 : Int32)) &&& 31))), (.int (f_step (f_step (f_step (f_step (f_step (f_step (f_step (p2 ^^^ (vb <<< ((wd - (8 : Int32)) &&& 31))) ((1 : Int32) <<< ((wd - (1 : Int32)) &&& 31)) po) ((1 : Int32) <<< ((wd - (1 : Int32)) &&& 31)) po) ((1 : Int32) <<< ((wd - (1 : Int32)) &&& 31)) po) ((1 : Int32) <<< ((wd - (1 : Int32)) &&& 31)) po) ((1 : Int32) <<< ((wd - (1 : Int32)) &&& 31)) po) ((1 : Int32) <<< ((wd - (1 : Int32)) &&& 31)) po) ((1 : Int32) <<< ((wd - (1 : Int32)) &&& 31)) po))])) t → Steps p.tables e below (s₁.setTop (entryFrame m #[(.int p0), (.int p1), (.int p2), (.int p3)] maxLocals)) t := fun t kt => pre40 t (by
    show Steps p.tables e below (T39.setTop (mkF m 162 #[.val (.int p0), .val (.int p1), .val (.int p2), .val (.int p3), .val (.int wd), .val (.int (own_mask wd)), .val (.int po), .val (.int vb), .val (.ref b11), .val (.int (f_upd p2 vb wd (own_mask wd) (own_tv ((((p2.toUInt32 >>> ((wd - (8 : Int32)) &&& 31).toUInt32).toInt32) ^^^ vb) &&& (255 : Int32)) po wd ((1 : Int32) <<< ((wd - (1 : Int32)) &&& 31)) (own_mask wd)))), .val (.int ((1 : Int32) <<< ((wd - (1 : Int32)) &&& 31))), .val (.int (f_step (f_step (f_step (f_step (f_step (f_step (p2 ^^^ (vb <<< ((wd - (8 : Int32)) &&& 31))) ((1 : Int32) <<< ((wd - (1 : Int32)) &&& 31)) po) ((1 : Int32) <<< ((wd - (1 : Int32)) &&& 31)) po) ((1 : Int32) <<< ((wd - (1 : Int32)) &&& 31)) po) ((1 : Int32) <<< ((wd - (1 : Int32)) &&& 31)) po) ((1 : Int32) <<< ((wd - (1 : Int32)) &&& 31)) po) ((1 : Int32) <<< ((wd - (1 : Int32)) &&& 31)) po))] [(.int (f_step (f_step (f_step (f_step (f_step (f_step (f_step (p2 ^^^ (vb <<< ((wd - (8 : Int32)) &&& 31))) ((1 : Int32) <<< ((wd - (1 : Int32)) &&& 31)) po) ((1 : Int32) <<< ((wd - (1 : Int32)) &&& 31)) po) ((1 : Int32) <<< ((wd - (1 : Int32)) &&& 31)) po) ((1 : Int32) <<< ((wd - (1 : Int32)) &&& 31)) po) ((1 : Int32) <<< ((wd - (1 : Int32)) &&& 31)) po) ((1 : Int32) <<< ((wd - (1 : Int32)) &&& 31)) po) ((1 : Int32) <<< ((wd - (1 : Int32)) &&& 31)) po))])) _
    refine XS.istore X39.here hx rfl (hb hby at_162) rfl (l' := #[.val (.int p0), .val (.int p1), .val (.int p2), .val (.int p3), .val (.int wd), .val (.int (own_mask wd)), .val (.int po), .val (.int vb), .val (.ref b11), .val (.int (f_upd p2 vb wd (own_mask wd) (own_tv ((((p2.toUInt32 >>> ((wd - (8 : Int32)) &&& 31).toUInt32).toInt32) ^^^ vb) &&& (255 : Int32)) po wd ((1 : Int32) <<< ((wd - (1 : Int32)) &&& 31)) (own_mask wd)))), .val (.int ((1 : Int32) <<< ((wd - (1 : Int32)) &&& 31))), .val (.int (f_step (f_step (f_step (f_step (f_step (f_step (f_step (p2 ^^^ (vb <<< ((wd - (8 : Int32)) &&& 31))) ((1 : Int32) <<< ((wd - (1 : Int32)) &&& 31)) po) ((1 : Int32) <<< ((wd - (1 : Int32)) &&& 31)) po) ((1 : Int32) <<< ((wd - (1 : Int32)) &&& 31)) po) ((1 : Int32) <<< ((wd - (1 : Int32)) &&& 31)) po) ((1 : Int32) <<< ((wd - (1 : Int32)) &&& 31)) po) ((1 : Int32) <<< ((wd - (1 : Int32)) &&& 31)) po) ((1 : Int32) <<< ((wd - (1 : Int32)) &&& 31)) po))]) rfl ?_
    show Steps p.tables e below (T39.setTop (mkF m 164 #[.val (.int p0), .val (.int p1), .val (.int p2), .val (.int p3), .val (.int wd), .val (.int (own_mask wd)), .val (.int po), .val (.int vb), .val (.ref b11), .val (.int (f_upd p2 vb wd (own_mask wd) (own_tv ((((p2.toUInt32 >>> ((wd - (8 : Int32)) &&& 31).toUInt32).toInt32) ^^^ vb) &&& (255 : Int32)) po wd ((1 : Int32) <<< ((wd - (1 : Int32)) &&& 31)) (own_mask wd)))), .val (.int ((1 : Int32) <<< ((wd - (1 : Int32)) &&& 31))), .val (.int (f_step (f_step (f_step (f_step (f_step (f_step (f_step (p2 ^^^ (vb <<< ((wd - (8 : Int32)) &&& 31))) ((1 : Int32) <<< ((wd - (1 : Int32)) &&& 31)) po) ((1 : Int32) <<< ((wd - (1 : Int32)) &&& 31)) po) ((1 : Int32) <<< ((wd - (1 : Int32)) &&& 31)) po) ((1 : Int32) <<< ((wd - (1 : Int32)) &&& 31)) po) ((1 : Int32) <<< ((wd - (1 : Int32)) &&& 31)) po) ((1 : Int32) <<< ((wd - (1 : Int32)) &&& 31)) po) ((1 : Int32) <<< ((wd - (1 : Int32)) &&& 31)) po))] [])) _
    refine XS.iload X39.here hx rfl (hb hby at_164) rfl ?_
    show Steps p.tables e below (T39.setTop (mkF m 166 #[.val (.int p0), .val (.int p1), .val (.int p2), .val (.int p3), .val (.int wd), .val (.int (own_mask wd)), .val (.int po), .val (.int vb), .val (.ref b11), .val (.int (f_upd p2 vb wd (own_mask wd) (own_tv ((((p2.toUInt32 >>> ((wd - (8 : Int32)) &&& 31).toUInt32).toInt32) ^^^ vb) &&& (255 : Int32)) po wd ((1 : Int32) <<< ((wd - (1 : Int32)) &&& 31)) (own_mask wd)))), .val (.int ((1 : Int32) <<< ((wd - (1 : Int32)) &&& 31))), .val (.int (f_step (f_step (f_step (f_step (f_step (f_step (f_step (p2 ^^^ (vb <<< ((wd - (8 : Int32)) &&& 31))) ((1 : Int32) <<< ((wd - (1 : Int32)) &&& 31)) po) ((1 : Int32) <<< ((wd - (1 : Int32)) &&& 31)) po) ((1 : Int32) <<< ((wd - (1 : Int32)) &&& 31)) po) ((1 : Int32) <<< ((wd - (1 : Int32)) &&& 31)) po) ((1 : Int32) <<< ((wd - (1 : Int32)) &&& 31)) po) ((1 : Int32) <<< ((wd - (1 : Int32)) &&& 31)) po) ((1 : Int32) <<< ((wd - (1 : Int32)) &&& 31)) po))] [(.int (f_step (f_step (f_step (f_step (f_step (f_step (f_step (p2 ^^^ (vb <<< ((wd - (8 : Int32)) &&& 31))) ((1 : Int32) <<< ((wd - (1 : Int32)) &&& 31)) po) ((1 : Int32) <<< ((wd - (1 : Int32)) &&& 31)) po) ((1 : Int32) <<< ((wd - (1 : Int32)) &&& 31)) po) ((1 : Int32) <<< ((wd - (1 : Int32)) &&& 31)) po) ((1 : Int32) <<< ((wd - (1 : Int32)) &&& 31)) po) ((1 : Int32) <<< ((wd - (1 : Int32)) &&& 31)) po) ((1 : Int32) <<< ((wd - (1 : Int32)) &&& 31)) po))])) _
    refine XS.iload X39.here hx rfl (hb hby at_166) rfl ?_
    show Steps p.tables e below (T39.setTop (mkF m 168 #[.val (.int p0), .val (.int p1), .val (.int p2), .val (.int p3), .val (.int wd), .val (.int (own_mask wd)), .val (.int po), .val (.int vb), .val (.ref b11), .val (.int (f_upd p2 vb wd (own_mask wd) (own_tv ((((p2.toUInt32 >>> ((wd - (8 : Int32)) &&& 31).toUInt32).toInt32) ^^^ vb) &&& (255 : Int32)) po wd ((1 : Int32) <<< ((wd - (1 : Int32)) &&& 31)) (own_mask wd)))), .val (.int ((1 : Int32) <<< ((wd - (1 : Int32)) &&& 31))), .val (.int (f_step (f_step (f_step (f_step (f_step (f_step (f_step (p2 ^^^ (vb <<< ((wd - (8 : Int32)) &&& 31))) ((1 : Int32) <<< ((wd - (1 : Int32)) &&& 31)) po) ((1 : Int32) <<< ((wd - (1 : Int32)) &&& 31)) po) ((1 : Int32) <<< ((wd - (1 : Int32)) &&& 31)) po) ((1 : Int32) <<< ((wd - (1 : Int32)) &&& 31)) po) ((1 : Int32) <<< ((wd - (1 : Int32)) &&& 31)) po) ((1 : Int32) <<< ((wd - (1 : Int32)) &&& 31)) po) ((1 : Int32) <<< ((wd - (1 : Int32)) &&& 31)) po))] [(.int ((1 : Int32) <<< ((wd - (1 : Int32)) &&& 31))), (.int (f_step (f_step (f_step (f_step (f_step (f_step (f_step (p2 ^^^ (vb <<< ((wd - (8 : Int32)) &&& 31))) ((1 : Int32) <<< ((wd - (1 : Int32)) &&& 31)) po) ((1 : Int32) <<< ((wd - (1 : Int32)) &&& 31)) po) ((1 : Int32) <<< ((wd - (1 : Int32)) &&& 31)) po) ((1 : Int32) <<< ((wd - (1 : Int32)) &&& 31)) po) ((1 : Int32) <<< ((wd - (1 : Int32)) &&& 31)) po) ((1 : Int32) <<< ((wd - (1 : Int32)) &&& 31)) po) ((1 : Int32) <<< ((wd - (1 : Int32)) &&& 31)) po))])) _
    refine XS.iload X39.here hx rfl (hb hby at_168) rfl ?_
    exact kt)
  obtain ⟨_, _, ⟨T42, L42, k42, n42⟩, -, X42, ⟨Lc42, hQ42, l42, y42, z42⟩, st42⟩ := Jvm.LawKit.callS X39 hx (y := (⟨"com/example/baton/baton/core/format/CrcUpdatePinLaw", "step", "(III)I"⟩ : MethodName)) hown (mvT hZ (hw _ (List.mem_of_getElem? (i := 22) rfl))) (mvT hZ (hw _ (List.mem_of_getElem? (i := 23) rfl))) (mvT hZ (hw _ (List.mem_of_getElem? (i := 24) rfl))) (mvT hZ (hw _ (List.mem_of_getElem? (i := 25) rfl))) (by decide) (backOf (W := 0) (rm4 l Z av hw [] (f_step (f_step (f_step (f_step (f_step (f_step (f_step (p2 ^^^ (vb <<< ((wd - (8 : Int32)) &&& 31))) ((1 : Int32) <<< ((wd - (1 : Int32)) &&& 31)) po) ((1 : Int32) <<< ((wd - (1 : Int32)) &&& 31)) po) ((1 : Int32) <<< ((wd - (1 : Int32)) &&& 31)) po) ((1 : Int32) <<< ((wd - (1 : Int32)) &&& 31)) po) ((1 : Int32) <<< ((wd - (1 : Int32)) &&& 31)) po) ((1 : Int32) <<< ((wd - (1 : Int32)) &&& 31)) po) ((1 : Int32) <<< ((wd - (1 : Int32)) &&& 31)) po) ((1 : Int32) <<< ((wd - (1 : Int32)) &&& 31)) po  T14.heap n0 Z14 ) hZ (hw _ (List.mem_of_getElem? (i := 25) rfl)) (hw _ (List.mem_of_getElem? (i := 24) rfl)) (by decide) (by decide)) (g := (mkF m 170 #[.val (.int p0), .val (.int p1), .val (.int p2), .val (.int p3), .val (.int wd), .val (.int (own_mask wd)), .val (.int po), .val (.int vb), .val (.ref b11), .val (.int (f_upd p2 vb wd (own_mask wd) (own_tv ((((p2.toUInt32 >>> ((wd - (8 : Int32)) &&& 31).toUInt32).toInt32) ^^^ vb) &&& (255 : Int32)) po wd ((1 : Int32) <<< ((wd - (1 : Int32)) &&& 31)) (own_mask wd)))), .val (.int ((1 : Int32) <<< ((wd - (1 : Int32)) &&& 31))), .val (.int (f_step (f_step (f_step (f_step (f_step (f_step (f_step (p2 ^^^ (vb <<< ((wd - (8 : Int32)) &&& 31))) ((1 : Int32) <<< ((wd - (1 : Int32)) &&& 31)) po) ((1 : Int32) <<< ((wd - (1 : Int32)) &&& 31)) po) ((1 : Int32) <<< ((wd - (1 : Int32)) &&& 31)) po) ((1 : Int32) <<< ((wd - (1 : Int32)) &&& 31)) po) ((1 : Int32) <<< ((wd - (1 : Int32)) &&& 31)) po) ((1 : Int32) <<< ((wd - (1 : Int32)) &&& 31)) po) ((1 : Int32) <<< ((wd - (1 : Int32)) &&& 31)) po))] [(.int po), (.int ((1 : Int32) <<< ((wd - (1 : Int32)) &&& 31))), (.int (f_step (f_step (f_step (f_step (f_step (f_step (f_step (p2 ^^^ (vb <<< ((wd - (8 : Int32)) &&& 31))) ((1 : Int32) <<< ((wd - (1 : Int32)) &&& 31)) po) ((1 : Int32) <<< ((wd - (1 : Int32)) &&& 31)) po) ((1 : Int32) <<< ((wd - (1 : Int32)) &&& 31)) po) ((1 : Int32) <<< ((wd - (1 : Int32)) &&& 31)) po) ((1 : Int32) <<< ((wd - (1 : Int32)) &&& 31)) po) ((1 : Int32) <<< ((wd - (1 : Int32)) &&& 31)) po) ((1 : Int32) <<< ((wd - (1 : Int32)) &&& 31)) po))])) rfl (by rw [hml]; rfl) (argsL := [(.int (f_step (f_step (f_step (f_step (f_step (f_step (f_step (p2 ^^^ (vb <<< ((wd - (8 : Int32)) &&& 31))) ((1 : Int32) <<< ((wd - (1 : Int32)) &&& 31)) po) ((1 : Int32) <<< ((wd - (1 : Int32)) &&& 31)) po) ((1 : Int32) <<< ((wd - (1 : Int32)) &&& 31)) po) ((1 : Int32) <<< ((wd - (1 : Int32)) &&& 31)) po) ((1 : Int32) <<< ((wd - (1 : Int32)) &&& 31)) po) ((1 : Int32) <<< ((wd - (1 : Int32)) &&& 31)) po) ((1 : Int32) <<< ((wd - (1 : Int32)) &&& 31)) po)), (.int ((1 : Int32) <<< ((wd - (1 : Int32)) &&& 31))), (.int po)]) (rest := []) (lenOf pd__III_I rfl) rfl (by show 2 * 0 + _ ≤ _; exact Nat.le_of_eq rfl) (hb hby at_170) (fun _ _ => ⟨rfl, e39, (by decide : 2 + 0 ≤ _), (by decide : 259 + 0 ≤ _)⟩)
  dsimp only [Pt.U, Pt.locs, Pt.cells, Pt.slots] at X42 l42 y42 z42 st42 hQ42
  subst l42 y42 z42
  obtain ⟨rfl, N42q, e42⟩ := hQ42
  have N42 := Fr.app N39 N42q
  have pre43 : ∀ t, Steps p.tables e below (T42.setTop (mkF m 173 #[.val (.int p0), .val (.int p1), .val (.int p2), .val (.int p3), .val (.int wd), .val (.int (own_mask wd)), .val (.int po), .val (.int vb), .val (.ref b11), .val (.int (f_upd p2 vb wd (own_mask wd) (own_tv ((((p2.toUInt32 >>> ((wd - (8 : Int32)) &&& 31).toUInt32).toInt32) ^^^ vb) &&& (255 : Int32)) po wd ((1 : Int32) <<< ((wd - (1 : Int32)) &&& 31)) (own_mask wd)))), .val (.int ((1 : Int32) <<< ((wd - (1 : Int32)) &&& 31))), .val (.int (f_step (f_step (f_step (f_step (f_step (f_step (f_step (p2 ^^^ (vb <<< ((wd - (8 : Int32)) &&& 31))) ((1 : Int32) <<< ((wd - (1 : Int32)) &&& 31)) po) ((1 : Int32) <<< ((wd - (1 : Int32)) &&& 31)) po) ((1 : Int32) <<< ((wd - (1 : Int32)) &&& 31)) po) ((1 : Int32) <<< ((wd - (1 : Int32)) &&& 31)) po) ((1 : Int32) <<< ((wd - (1 : Int32)) &&& 31)) po) ((1 : Int32) <<< ((wd - (1 : Int32)) &&& 31)) po) ((1 : Int32) <<< ((wd - (1 : Int32)) &&& 31)) po))] [(.int (f_step (f_step (f_step (f_step (f_step (f_step (f_step (f_step (p2 ^^^ (vb <<< ((wd - (8 : Int32)) &&& 31))) ((1 : Int32) <<< ((wd - (1 : Int32)) &&& 31)) po) ((1 : Int32) <<< ((wd - (1 : Int32)) &&& 31)) po) ((1 : Int32) <<< ((wd - (1 : Int32)) &&& 31)) po) ((1 : Int32) <<< ((wd - (1 : Int32)) &&& 31)) po) ((1 : Int32) <<< ((wd - (1 : Int32)) &&& 31)) po) ((1 : Int32) <<< ((wd - (1 : Int32)) &&& 31)) po) ((1 : Int32) <<< ((wd - (1 : Int32)) &&& 31)) po) ((1 : Int32) <<< ((wd - (1 : Int32)) &&& 31)) po))])) t → Steps p.tables e below (s₁.setTop (entryFrame m #[(.int p0), (.int p1), (.int p2), (.int p3)] maxLocals)) t := fun t kt => pre41 t (st42 _ kt)
  have pre44 : ∀ t, Steps p.tables e below (T42.setTop (mkF m 190 #[.val (.int p0), .val (.int p1), .val (.int p2), .val (.int p3), .val (.int wd), .val (.int (own_mask wd)), .val (.int po), .val (.int vb), .val (.ref b11), .val (.int (f_upd p2 vb wd (own_mask wd) (own_tv ((((p2.toUInt32 >>> ((wd - (8 : Int32)) &&& 31).toUInt32).toInt32) ^^^ vb) &&& (255 : Int32)) po wd ((1 : Int32) <<< ((wd - (1 : Int32)) &&& 31)) (own_mask wd)))), .val (.int ((1 : Int32) <<< ((wd - (1 : Int32)) &&& 31))), .val (.int (f_step (f_step (f_step (f_step (f_step (f_step (f_step (f_step (p2 ^^^ (vb <<< ((wd - (8 : Int32)) &&& 31))) ((1 : Int32) <<< ((wd - (1 : Int32)) &&& 31)) po) ((1 : Int32) <<< ((wd - (1 : Int32)) &&& 31)) po) ((1 : Int32) <<< ((wd - (1 : Int32)) &&& 31)) po) ((1 : Int32) <<< ((wd - (1 : Int32)) &&& 31)) po) ((1 : Int32) <<< ((wd - (1 : Int32)) &&& 31)) po) ((1 : Int32) <<< ((wd - (1 : Int32)) &&& 31)) po) ((1 : Int32) <<< ((wd - (1 : Int32)) &&& 31)) po) ((1 : Int32) <<< ((wd - (1 : Int32)) &&& 31)) po))] [(.int (1 : Int32))])) t → Steps p.tables e below (s₁.setTop (entryFrame m #[(.int p0), (.int p1), (.int p2), (.int p3)] maxLocals)) t := fun t kt => pre43 t (by
    show Steps p.tables e below (T42.setTop (mkF m 173 #[.val (.int p0), .val (.int p1), .val (.int p2), .val (.int p3), .val (.int wd), .val (.int (own_mask wd)), .val (.int po), .val (.int vb), .val (.ref b11), .val (.int (f_upd p2 vb wd (own_mask wd) (own_tv ((((p2.toUInt32 >>> ((wd - (8 : Int32)) &&& 31).toUInt32).toInt32) ^^^ vb) &&& (255 : Int32)) po wd ((1 : Int32) <<< ((wd - (1 : Int32)) &&& 31)) (own_mask wd)))), .val (.int ((1 : Int32) <<< ((wd - (1 : Int32)) &&& 31))), .val (.int (f_step (f_step (f_step (f_step (f_step (f_step (f_step (p2 ^^^ (vb <<< ((wd - (8 : Int32)) &&& 31))) ((1 : Int32) <<< ((wd - (1 : Int32)) &&& 31)) po) ((1 : Int32) <<< ((wd - (1 : Int32)) &&& 31)) po) ((1 : Int32) <<< ((wd - (1 : Int32)) &&& 31)) po) ((1 : Int32) <<< ((wd - (1 : Int32)) &&& 31)) po) ((1 : Int32) <<< ((wd - (1 : Int32)) &&& 31)) po) ((1 : Int32) <<< ((wd - (1 : Int32)) &&& 31)) po) ((1 : Int32) <<< ((wd - (1 : Int32)) &&& 31)) po))] [(.int (f_step (f_step (f_step (f_step (f_step (f_step (f_step (f_step (p2 ^^^ (vb <<< ((wd - (8 : Int32)) &&& 31))) ((1 : Int32) <<< ((wd - (1 : Int32)) &&& 31)) po) ((1 : Int32) <<< ((wd - (1 : Int32)) &&& 31)) po) ((1 : Int32) <<< ((wd - (1 : Int32)) &&& 31)) po) ((1 : Int32) <<< ((wd - (1 : Int32)) &&& 31)) po) ((1 : Int32) <<< ((wd - (1 : Int32)) &&& 31)) po) ((1 : Int32) <<< ((wd - (1 : Int32)) &&& 31)) po) ((1 : Int32) <<< ((wd - (1 : Int32)) &&& 31)) po) ((1 : Int32) <<< ((wd - (1 : Int32)) &&& 31)) po))])) _
    refine XS.istore X42.here hx rfl (hb hby at_173) rfl (l' := #[.val (.int p0), .val (.int p1), .val (.int p2), .val (.int p3), .val (.int wd), .val (.int (own_mask wd)), .val (.int po), .val (.int vb), .val (.ref b11), .val (.int (f_upd p2 vb wd (own_mask wd) (own_tv ((((p2.toUInt32 >>> ((wd - (8 : Int32)) &&& 31).toUInt32).toInt32) ^^^ vb) &&& (255 : Int32)) po wd ((1 : Int32) <<< ((wd - (1 : Int32)) &&& 31)) (own_mask wd)))), .val (.int ((1 : Int32) <<< ((wd - (1 : Int32)) &&& 31))), .val (.int (f_step (f_step (f_step (f_step (f_step (f_step (f_step (f_step (p2 ^^^ (vb <<< ((wd - (8 : Int32)) &&& 31))) ((1 : Int32) <<< ((wd - (1 : Int32)) &&& 31)) po) ((1 : Int32) <<< ((wd - (1 : Int32)) &&& 31)) po) ((1 : Int32) <<< ((wd - (1 : Int32)) &&& 31)) po) ((1 : Int32) <<< ((wd - (1 : Int32)) &&& 31)) po) ((1 : Int32) <<< ((wd - (1 : Int32)) &&& 31)) po) ((1 : Int32) <<< ((wd - (1 : Int32)) &&& 31)) po) ((1 : Int32) <<< ((wd - (1 : Int32)) &&& 31)) po) ((1 : Int32) <<< ((wd - (1 : Int32)) &&& 31)) po))]) rfl ?_
    show Steps p.tables e below (T42.setTop (mkF m 175 #[.val (.int p0), .val (.int p1), .val (.int p2), .val (.int p3), .val (.int wd), .val (.int (own_mask wd)), .val (.int po), .val (.int vb), .val (.ref b11), .val (.int (f_upd p2 vb wd (own_mask wd) (own_tv ((((p2.toUInt32 >>> ((wd - (8 : Int32)) &&& 31).toUInt32).toInt32) ^^^ vb) &&& (255 : Int32)) po wd ((1 : Int32) <<< ((wd - (1 : Int32)) &&& 31)) (own_mask wd)))), .val (.int ((1 : Int32) <<< ((wd - (1 : Int32)) &&& 31))), .val (.int (f_step (f_step (f_step (f_step (f_step (f_step (f_step (f_step (p2 ^^^ (vb <<< ((wd - (8 : Int32)) &&& 31))) ((1 : Int32) <<< ((wd - (1 : Int32)) &&& 31)) po) ((1 : Int32) <<< ((wd - (1 : Int32)) &&& 31)) po) ((1 : Int32) <<< ((wd - (1 : Int32)) &&& 31)) po) ((1 : Int32) <<< ((wd - (1 : Int32)) &&& 31)) po) ((1 : Int32) <<< ((wd - (1 : Int32)) &&& 31)) po) ((1 : Int32) <<< ((wd - (1 : Int32)) &&& 31)) po) ((1 : Int32) <<< ((wd - (1 : Int32)) &&& 31)) po) ((1 : Int32) <<< ((wd - (1 : Int32)) &&& 31)) po))] [])) _
    refine XS.iload X42.here hx rfl (hb hby at_175) rfl ?_
    show Steps p.tables e below (T42.setTop (mkF m 177 #[.val (.int p0), .val (.int p1), .val (.int p2), .val (.int p3), .val (.int wd), .val (.int (own_mask wd)), .val (.int po), .val (.int vb), .val (.ref b11), .val (.int (f_upd p2 vb wd (own_mask wd) (own_tv ((((p2.toUInt32 >>> ((wd - (8 : Int32)) &&& 31).toUInt32).toInt32) ^^^ vb) &&& (255 : Int32)) po wd ((1 : Int32) <<< ((wd - (1 : Int32)) &&& 31)) (own_mask wd)))), .val (.int ((1 : Int32) <<< ((wd - (1 : Int32)) &&& 31))), .val (.int (f_step (f_step (f_step (f_step (f_step (f_step (f_step (f_step (p2 ^^^ (vb <<< ((wd - (8 : Int32)) &&& 31))) ((1 : Int32) <<< ((wd - (1 : Int32)) &&& 31)) po) ((1 : Int32) <<< ((wd - (1 : Int32)) &&& 31)) po) ((1 : Int32) <<< ((wd - (1 : Int32)) &&& 31)) po) ((1 : Int32) <<< ((wd - (1 : Int32)) &&& 31)) po) ((1 : Int32) <<< ((wd - (1 : Int32)) &&& 31)) po) ((1 : Int32) <<< ((wd - (1 : Int32)) &&& 31)) po) ((1 : Int32) <<< ((wd - (1 : Int32)) &&& 31)) po) ((1 : Int32) <<< ((wd - (1 : Int32)) &&& 31)) po))] [(.int (f_upd p2 vb wd (own_mask wd) (own_tv ((((p2.toUInt32 >>> ((wd - (8 : Int32)) &&& 31).toUInt32).toInt32) ^^^ vb) &&& (255 : Int32)) po wd ((1 : Int32) <<< ((wd - (1 : Int32)) &&& 31)) (own_mask wd))))])) _
    refine XS.iload X42.here hx rfl (hb hby at_177) rfl ?_
    show Steps p.tables e below (T42.setTop (mkF m 179 #[.val (.int p0), .val (.int p1), .val (.int p2), .val (.int p3), .val (.int wd), .val (.int (own_mask wd)), .val (.int po), .val (.int vb), .val (.ref b11), .val (.int (f_upd p2 vb wd (own_mask wd) (own_tv ((((p2.toUInt32 >>> ((wd - (8 : Int32)) &&& 31).toUInt32).toInt32) ^^^ vb) &&& (255 : Int32)) po wd ((1 : Int32) <<< ((wd - (1 : Int32)) &&& 31)) (own_mask wd)))), .val (.int ((1 : Int32) <<< ((wd - (1 : Int32)) &&& 31))), .val (.int (f_step (f_step (f_step (f_step (f_step (f_step (f_step (f_step (p2 ^^^ (vb <<< ((wd - (8 : Int32)) &&& 31))) ((1 : Int32) <<< ((wd - (1 : Int32)) &&& 31)) po) ((1 : Int32) <<< ((wd - (1 : Int32)) &&& 31)) po) ((1 : Int32) <<< ((wd - (1 : Int32)) &&& 31)) po) ((1 : Int32) <<< ((wd - (1 : Int32)) &&& 31)) po) ((1 : Int32) <<< ((wd - (1 : Int32)) &&& 31)) po) ((1 : Int32) <<< ((wd - (1 : Int32)) &&& 31)) po) ((1 : Int32) <<< ((wd - (1 : Int32)) &&& 31)) po) ((1 : Int32) <<< ((wd - (1 : Int32)) &&& 31)) po))] [(.int (f_step (f_step (f_step (f_step (f_step (f_step (f_step (f_step (p2 ^^^ (vb <<< ((wd - (8 : Int32)) &&& 31))) ((1 : Int32) <<< ((wd - (1 : Int32)) &&& 31)) po) ((1 : Int32) <<< ((wd - (1 : Int32)) &&& 31)) po) ((1 : Int32) <<< ((wd - (1 : Int32)) &&& 31)) po) ((1 : Int32) <<< ((wd - (1 : Int32)) &&& 31)) po) ((1 : Int32) <<< ((wd - (1 : Int32)) &&& 31)) po) ((1 : Int32) <<< ((wd - (1 : Int32)) &&& 31)) po) ((1 : Int32) <<< ((wd - (1 : Int32)) &&& 31)) po) ((1 : Int32) <<< ((wd - (1 : Int32)) &&& 31)) po)), (.int (f_upd p2 vb wd (own_mask wd) (own_tv ((((p2.toUInt32 >>> ((wd - (8 : Int32)) &&& 31).toUInt32).toInt32) ^^^ vb) &&& (255 : Int32)) po wd ((1 : Int32) <<< ((wd - (1 : Int32)) &&& 31)) (own_mask wd))))])) _
    refine XS.iload X42.here hx rfl (hb hby at_179) rfl ?_
    show Steps p.tables e below (T42.setTop (mkF m 181 #[.val (.int p0), .val (.int p1), .val (.int p2), .val (.int p3), .val (.int wd), .val (.int (own_mask wd)), .val (.int po), .val (.int vb), .val (.ref b11), .val (.int (f_upd p2 vb wd (own_mask wd) (own_tv ((((p2.toUInt32 >>> ((wd - (8 : Int32)) &&& 31).toUInt32).toInt32) ^^^ vb) &&& (255 : Int32)) po wd ((1 : Int32) <<< ((wd - (1 : Int32)) &&& 31)) (own_mask wd)))), .val (.int ((1 : Int32) <<< ((wd - (1 : Int32)) &&& 31))), .val (.int (f_step (f_step (f_step (f_step (f_step (f_step (f_step (f_step (p2 ^^^ (vb <<< ((wd - (8 : Int32)) &&& 31))) ((1 : Int32) <<< ((wd - (1 : Int32)) &&& 31)) po) ((1 : Int32) <<< ((wd - (1 : Int32)) &&& 31)) po) ((1 : Int32) <<< ((wd - (1 : Int32)) &&& 31)) po) ((1 : Int32) <<< ((wd - (1 : Int32)) &&& 31)) po) ((1 : Int32) <<< ((wd - (1 : Int32)) &&& 31)) po) ((1 : Int32) <<< ((wd - (1 : Int32)) &&& 31)) po) ((1 : Int32) <<< ((wd - (1 : Int32)) &&& 31)) po) ((1 : Int32) <<< ((wd - (1 : Int32)) &&& 31)) po))] [(.int (own_mask wd)), (.int (f_step (f_step (f_step (f_step (f_step (f_step (f_step (f_step (p2 ^^^ (vb <<< ((wd - (8 : Int32)) &&& 31))) ((1 : Int32) <<< ((wd - (1 : Int32)) &&& 31)) po) ((1 : Int32) <<< ((wd - (1 : Int32)) &&& 31)) po) ((1 : Int32) <<< ((wd - (1 : Int32)) &&& 31)) po) ((1 : Int32) <<< ((wd - (1 : Int32)) &&& 31)) po) ((1 : Int32) <<< ((wd - (1 : Int32)) &&& 31)) po) ((1 : Int32) <<< ((wd - (1 : Int32)) &&& 31)) po) ((1 : Int32) <<< ((wd - (1 : Int32)) &&& 31)) po) ((1 : Int32) <<< ((wd - (1 : Int32)) &&& 31)) po)), (.int (f_upd p2 vb wd (own_mask wd) (own_tv ((((p2.toUInt32 >>> ((wd - (8 : Int32)) &&& 31).toUInt32).toInt32) ^^^ vb) &&& (255 : Int32)) po wd ((1 : Int32) <<< ((wd - (1 : Int32)) &&& 31)) (own_mask wd))))])) _
    refine XS.iand X42.here hx rfl (hb hby at_181) rfl ?_
    show Steps p.tables e below (T42.setTop (mkF m 182 #[.val (.int p0), .val (.int p1), .val (.int p2), .val (.int p3), .val (.int wd), .val (.int (own_mask wd)), .val (.int po), .val (.int vb), .val (.ref b11), .val (.int (f_upd p2 vb wd (own_mask wd) (own_tv ((((p2.toUInt32 >>> ((wd - (8 : Int32)) &&& 31).toUInt32).toInt32) ^^^ vb) &&& (255 : Int32)) po wd ((1 : Int32) <<< ((wd - (1 : Int32)) &&& 31)) (own_mask wd)))), .val (.int ((1 : Int32) <<< ((wd - (1 : Int32)) &&& 31))), .val (.int (f_step (f_step (f_step (f_step (f_step (f_step (f_step (f_step (p2 ^^^ (vb <<< ((wd - (8 : Int32)) &&& 31))) ((1 : Int32) <<< ((wd - (1 : Int32)) &&& 31)) po) ((1 : Int32) <<< ((wd - (1 : Int32)) &&& 31)) po) ((1 : Int32) <<< ((wd - (1 : Int32)) &&& 31)) po) ((1 : Int32) <<< ((wd - (1 : Int32)) &&& 31)) po) ((1 : Int32) <<< ((wd - (1 : Int32)) &&& 31)) po) ((1 : Int32) <<< ((wd - (1 : Int32)) &&& 31)) po) ((1 : Int32) <<< ((wd - (1 : Int32)) &&& 31)) po) ((1 : Int32) <<< ((wd - (1 : Int32)) &&& 31)) po))] [(.int ((f_step (f_step (f_step (f_step (f_step (f_step (f_step (f_step (p2 ^^^ (vb <<< ((wd - (8 : Int32)) &&& 31))) ((1 : Int32) <<< ((wd - (1 : Int32)) &&& 31)) po) ((1 : Int32) <<< ((wd - (1 : Int32)) &&& 31)) po) ((1 : Int32) <<< ((wd - (1 : Int32)) &&& 31)) po) ((1 : Int32) <<< ((wd - (1 : Int32)) &&& 31)) po) ((1 : Int32) <<< ((wd - (1 : Int32)) &&& 31)) po) ((1 : Int32) <<< ((wd - (1 : Int32)) &&& 31)) po) ((1 : Int32) <<< ((wd - (1 : Int32)) &&& 31)) po) ((1 : Int32) <<< ((wd - (1 : Int32)) &&& 31)) po) &&& (own_mask wd))), (.int (f_upd p2 vb wd (own_mask wd) (own_tv ((((p2.toUInt32 >>> ((wd - (8 : Int32)) &&& 31).toUInt32).toInt32) ^^^ vb) &&& (255 : Int32)) po wd ((1 : Int32) <<< ((wd - (1 : Int32)) &&& 31)) (own_mask wd))))])) _
    refine XS.icmpNo X42.here hx rfl (hb hby at_182) rfl (teq (own_crc p2 vb po wd hm2 : (f_upd p2 vb wd (own_mask wd) (own_tv ((((p2.toUInt32 >>> ((wd - (8 : Int32)) &&& 31).toUInt32).toInt32) ^^^ vb) &&& (255 : Int32)) po wd ((1 : Int32) <<< ((wd - (1 : Int32)) &&& 31)) (own_mask wd))) = ((f_step (f_step (f_step (f_step (f_step (f_step (f_step (f_step (p2 ^^^ (vb <<< ((wd - (8 : Int32)) &&& 31))) ((1 : Int32) <<< ((wd - (1 : Int32)) &&& 31)) po) ((1 : Int32) <<< ((wd - (1 : Int32)) &&& 31)) po) ((1 : Int32) <<< ((wd - (1 : Int32)) &&& 31)) po) ((1 : Int32) <<< ((wd - (1 : Int32)) &&& 31)) po) ((1 : Int32) <<< ((wd - (1 : Int32)) &&& 31)) po) ((1 : Int32) <<< ((wd - (1 : Int32)) &&& 31)) po) ((1 : Int32) <<< ((wd - (1 : Int32)) &&& 31)) po) ((1 : Int32) <<< ((wd - (1 : Int32)) &&& 31)) po) &&& (own_mask wd)))).2 ?_
    show Steps p.tables e below (T42.setTop (mkF m 185 #[.val (.int p0), .val (.int p1), .val (.int p2), .val (.int p3), .val (.int wd), .val (.int (own_mask wd)), .val (.int po), .val (.int vb), .val (.ref b11), .val (.int (f_upd p2 vb wd (own_mask wd) (own_tv ((((p2.toUInt32 >>> ((wd - (8 : Int32)) &&& 31).toUInt32).toInt32) ^^^ vb) &&& (255 : Int32)) po wd ((1 : Int32) <<< ((wd - (1 : Int32)) &&& 31)) (own_mask wd)))), .val (.int ((1 : Int32) <<< ((wd - (1 : Int32)) &&& 31))), .val (.int (f_step (f_step (f_step (f_step (f_step (f_step (f_step (f_step (p2 ^^^ (vb <<< ((wd - (8 : Int32)) &&& 31))) ((1 : Int32) <<< ((wd - (1 : Int32)) &&& 31)) po) ((1 : Int32) <<< ((wd - (1 : Int32)) &&& 31)) po) ((1 : Int32) <<< ((wd - (1 : Int32)) &&& 31)) po) ((1 : Int32) <<< ((wd - (1 : Int32)) &&& 31)) po) ((1 : Int32) <<< ((wd - (1 : Int32)) &&& 31)) po) ((1 : Int32) <<< ((wd - (1 : Int32)) &&& 31)) po) ((1 : Int32) <<< ((wd - (1 : Int32)) &&& 31)) po) ((1 : Int32) <<< ((wd - (1 : Int32)) &&& 31)) po))] [])) _
    refine XS.iconst X42.here hx rfl (hb hby at_185) ?_
    show Steps p.tables e below (T42.setTop (mkF m 186 #[.val (.int p0), .val (.int p1), .val (.int p2), .val (.int p3), .val (.int wd), .val (.int (own_mask wd)), .val (.int po), .val (.int vb), .val (.ref b11), .val (.int (f_upd p2 vb wd (own_mask wd) (own_tv ((((p2.toUInt32 >>> ((wd - (8 : Int32)) &&& 31).toUInt32).toInt32) ^^^ vb) &&& (255 : Int32)) po wd ((1 : Int32) <<< ((wd - (1 : Int32)) &&& 31)) (own_mask wd)))), .val (.int ((1 : Int32) <<< ((wd - (1 : Int32)) &&& 31))), .val (.int (f_step (f_step (f_step (f_step (f_step (f_step (f_step (f_step (p2 ^^^ (vb <<< ((wd - (8 : Int32)) &&& 31))) ((1 : Int32) <<< ((wd - (1 : Int32)) &&& 31)) po) ((1 : Int32) <<< ((wd - (1 : Int32)) &&& 31)) po) ((1 : Int32) <<< ((wd - (1 : Int32)) &&& 31)) po) ((1 : Int32) <<< ((wd - (1 : Int32)) &&& 31)) po) ((1 : Int32) <<< ((wd - (1 : Int32)) &&& 31)) po) ((1 : Int32) <<< ((wd - (1 : Int32)) &&& 31)) po) ((1 : Int32) <<< ((wd - (1 : Int32)) &&& 31)) po) ((1 : Int32) <<< ((wd - (1 : Int32)) &&& 31)) po))] [(.int (1 : Int32))])) _
    refine XS.goto X42.here hx rfl (pc0 := 186) (pc' := 190) rfl (hb hby at_186) (by decide) (by decide) ?_
    exact kt)
  obtain ⟨fs, hr, hrun, hended, hW, hsame⟩ := X42.leave (v := some (.int (1 : Int32))) (fun h => by rw [Bd.returns] at h; cases h)
  refine ⟨_, _, pre44 _ ?_, hrun, hended, _, _, rfl, ?_, ⟨_, rfl⟩, hW, hsame.mono (by decide) (by decide)⟩
  · show Steps p.tables e below (T42.setTop (mkF m 190 #[.val (.int p0), .val (.int p1), .val (.int p2), .val (.int p3), .val (.int wd), .val (.int (own_mask wd)), .val (.int po), .val (.int vb), .val (.ref b11), .val (.int (f_upd p2 vb wd (own_mask wd) (own_tv ((((p2.toUInt32 >>> ((wd - (8 : Int32)) &&& 31).toUInt32).toInt32) ^^^ vb) &&& (255 : Int32)) po wd ((1 : Int32) <<< ((wd - (1 : Int32)) &&& 31)) (own_mask wd)))), .val (.int ((1 : Int32) <<< ((wd - (1 : Int32)) &&& 31))), .val (.int (f_step (f_step (f_step (f_step (f_step (f_step (f_step (f_step (p2 ^^^ (vb <<< ((wd - (8 : Int32)) &&& 31))) ((1 : Int32) <<< ((wd - (1 : Int32)) &&& 31)) po) ((1 : Int32) <<< ((wd - (1 : Int32)) &&& 31)) po) ((1 : Int32) <<< ((wd - (1 : Int32)) &&& 31)) po) ((1 : Int32) <<< ((wd - (1 : Int32)) &&& 31)) po) ((1 : Int32) <<< ((wd - (1 : Int32)) &&& 31)) po) ((1 : Int32) <<< ((wd - (1 : Int32)) &&& 31)) po) ((1 : Int32) <<< ((wd - (1 : Int32)) &&& 31)) po) ((1 : Int32) <<< ((wd - (1 : Int32)) &&& 31)) po))] [(.int (1 : Int32))])) _
    exact retN X42 hx (t := .boolean) Bd.returns (by simp) (hb hby at_190) hr
  · show Q0 Z p0 p1 p2 p3 h0 n0 _ T42.heap _
    rw [e42]
    exact ⟨rfl, N42⟩
set_option maxRecDepth 65536 in
set_option maxHeartbeats 40000000 in
theorem comes_1 {Post : Tables → Env → Array Value → State → Outcome → State → Prop} (hpost : ∀ tb e args s v u, (limb_1_1.after args s (.returned v) u = true ∧ limb_1_2.after args s (.returned v) u = true ∧ True) → FrameEnd s (.returned v) u (Jvm.fieldLocs frame_1_writes args s ++ Jvm.arrayLocs frame_1_arrays args s ++ Jvm.staticLocs frame_1_statics s) 16 640 → Post tb e args s (.returned v) u) :
    ArmFor flags0 classFile x code maxLocals ret World_1 tables_1 room_1 Calls_1 rest_1 Pre_1 Post := by
  intro l hfl _ _ p e ha hc hk s m args below hf hA hF happ hP
  obtain ⟨hcalls, hrest, hpre⟩ := hP
  obtain ⟨-, -, -, hnamed, -, -, -, hat⟩ := (Spec.applies_iff hf).mp happ
  obtain ⟨hg, hn⟩ := and_e (Cond.before_iff.mp (show (Jvm.Cond.and given_1 narrow_1).before args s = true from hpre))
  obtain ⟨g1, g2⟩ := and_e hg
  obtain ⟨g3, g4⟩ := and_e g2
  obtain ⟨g5, g6⟩ := and_e g4
  obtain ⟨g7, g8⟩ := and_e g6
  obtain ⟨w0, w1, w2, w3, rfl⟩ : ∃ w0 w1 w2 w3 : Value, args = #[w0, w1, w2, w3] := by
    have hs : args.size = 4 := by simpa [Cond.value, given_1] using g1
    obtain ⟨L⟩ := args
    match L, hs with
    | [w0, w1, w2, w3], _ => exact ⟨w0, w1, w2, w3, rfl⟩
  have hw := fun d (hd : d ∈ tables_1) => atoms_spec (ws := Jvm.Cond.code x code maxLocals ret :: tables_1) hat d (List.mem_cons_of_mem _ hd)
  obtain ⟨i0, ei0⟩ := is_v g3
  obtain rfl : w0 = (.int i0) := Option.some.inj ei0
  obtain ⟨i1, ei1⟩ := is_v g5
  obtain rfl : w1 = (.int i1) := Option.some.inj ei1
  obtain ⟨i2, ei2⟩ := is_v g7
  obtain rfl : w2 = (.int i2) := Option.some.inj ei2
  obtain ⟨i3, ei3⟩ := is_v g8
  obtain rfl : w3 = (.int i3) := Option.some.inj ei3
  obtain ⟨n, o, h1, h2, h3, _, L, rfl, ⟨rfl, N⟩, hq⟩ := rm0 l s _ hw tables_1 i0 i1 i2 i3 s.heap s.heap.size (Nat.le_refl _) p e ha hc hk s m _ below hf ((Spec.applies_iff_loose hf).mp happ).1 ⟨rfl, State.Warmed39.refl s, rfl⟩ trivial
  refine ⟨n, _, h1, h2, h3, hpost _ _ _ _ _ _ ⟨Cond.after_iff.mpr rfl, Cond.after_iff.mpr (eq_i res_at (Term.int_eval (1)) rfl), trivial⟩ ⟨hq.1, hq.2.1, (hq.2.2.sift fun y hy => Or.inr (N y hy)).mono (by decide) (by decide)⟩⟩
theorem main_1_1 : Claimed_1_1 := comes_1 fun _ _ _ _ _ _ h hF => ⟨h.1, hF⟩
theorem main_1_2 : Claimed_1_2 := comes_1 fun _ _ _ _ _ _ h hF => ⟨h.2.1, hF⟩
end Jvm.Pilot.@@N@@
namespace Jvm.Pilot.@@N@@
open Jvm Jvm.ClassFile Sem Op Lib Jvm.Free Jvm.Stand Jvm.Pilot.@@N@@.Jvm.D
/-! MADE BY PROGRAM (witnessworld.py) out of the Statement's table words and the real class files: 9 classes; the members and pool entries that the words name. The judged class is class 1, her method 2. -/
namespace start1
open Jvm.ClassFile
def u (s : String) : CpInfo := .utf8 (stringToUtf16 s)
/-- a pool by its gaps: so many unusable entries, then the entry; so many at the end -/
def gap : Nat → List CpInfo → List CpInfo
  | 0, r => r
  | n + 1, r => .unusable :: gap n r
def poolList (es : List (Nat × CpInfo)) (last : Nat) : List CpInfo := es.foldr (fun e r => gap e.1 (e.2 :: r)) (gap last [])
def pool (es : List (Nat × CpInfo)) (last : Nat) : Array CpInfo := ⟨poolList es last⟩
def fileOf (pool : Array CpInfo) (this : Nat) (attrs : Array Attribute := #[]) (ms : Array MethodInfo := #[]) (fl : Nat := 33) (sup : Nat := 0) (ifs : Array Nat := #[]) (fds : Array FieldInfo := #[]) : ClassFile where
  minorVersion := 0
  majorVersion := 65
  constantPool := pool
  accessFlags := fl
  thisClass := this
  superClass := sup
  interfaces := ifs
  fields := fds
  methods := ms
  attributes := attrs
def plain (name : String) (sup : Option ClassId) : Class where
  name := name
  kind := .ordinary
  loader := none
  accessFlags := 33
  super := sup
  interfaces := #[]
  cf := none
  fields := #[]
  methods := #[]
  instanceTypes := #[]
  staticTypes := #[]
  resolved := #[]
  callSites := []
  init := .initialized
  statics := none
  mirror := none

def pool0 : Array CpInfo := pool [(5, u "<init>"), (0, u "()V"), (1, .class_ 10), (1, u "java/lang/Object")] 113

def k0c0 : Code := { maxStack := 0, maxLocals := 1, code := object_method_1_code, exceptionTable := #[], attributes := #[] }
def k0m0 : Method := { name := "<init>", desc := "()V", sig := { parameters := [], returnType := none }, accessFlags := 1, code := some k0c0 }
/-- java/lang/Object -/
def k0 : Class := { plain "java/lang/Object" none with
  accessFlags := 33
  interfaces := #[]
  cf := some (fileOf pool0 8 #[] #[{ accessFlags := 1, nameIndex := 5, descriptorIndex := 6, attributes := #[] }] 33 0 #[] #[])
  fields := #[]
  methods := #[k0m0]
  instanceTypes := #[]
  staticTypes := #[]
  resolved := Array.replicate 124 none
  statics := none }

def pool1 : Array CpInfo := pool [(2, .class_ 4), (1, u "java/lang/Object"), (0, u "<init>"), (0, u "()V"), (0, .integer 2147483647), (0, .class_ 9), (0, u "com/example/baton/baton/core/format/Crc"), (0, .methodref 8 11), (0, .nameAndType 5 12), (0, u "(II)V"), (0, .methodref 8 14), (0, .nameAndType 15 16), (0, u "update"), (0, u "(II)I"), (0, .methodref 18 19), (0, .class_ 20), (0, .nameAndType 21 22), (0, u "com/example/baton/baton/core/format/CrcUpdatePinLaw"), (0, u "step"), (0, u "(III)I"), (3, u "law"), (0, u "(IIII)Z")] 2

def k1m0 : Method := { name := "<init>", desc := "()V", sig := { parameters := [], returnType := none }, accessFlags := 1, code := none }
def k1c1 : Code := { maxStack := 2, maxLocals := 3, code := method_2_code, exceptionTable := #[], attributes := #[] }
def k1m1 : Method := { name := "step", desc := "(III)I", sig := { parameters := [.int, .int, .int], returnType := some .int }, accessFlags := 10, code := some k1c1 }
def k1c2 : Code := { maxStack := 4, maxLocals := 12, code := code, exceptionTable := #[], attributes := #[] }
def k1m2 : Method := { name := "law", desc := "(IIII)Z", sig := { parameters := [.int, .int, .int, .int], returnType := some .boolean }, accessFlags := 9, code := some k1c2 }
/-- com/example/baton/baton/core/format/CrcUpdatePinLaw -/
def k1 : Class := { plain "com/example/baton/baton/core/format/CrcUpdatePinLaw" (some 0) with
  accessFlags := 49
  interfaces := #[]
  cf := some (fileOf pool1 18 #[] #[{ accessFlags := 1, nameIndex := 5, descriptorIndex := 6, attributes := #[] }, { accessFlags := 10, nameIndex := 21, descriptorIndex := 22, attributes := #[] }, { accessFlags := 9, nameIndex := 26, descriptorIndex := 27, attributes := #[] }] 49 2 #[] #[])
  fields := #[]
  methods := #[k1m0, k1m1, k1m2]
  instanceTypes := #[]
  staticTypes := #[]
  resolved := Array.replicate 30 none
  statics := none }

def pool2 : Array CpInfo := pool [(1, .methodref 2 3), (0, .class_ 4), (0, .nameAndType 5 6), (0, u "java/lang/Object"), (0, u "<init>"), (0, u "()V"), (0, .fieldref 8 9), (0, .class_ 10), (0, .nameAndType 11 12), (0, u "com/example/baton/baton/core/format/Crc"), (0, u "table"), (0, u "[I"), (0, .fieldref 8 14), (0, .nameAndType 15 16), (0, u "width"), (0, u "I"), (0, .fieldref 8 18), (0, .nameAndType 19 16), (0, u "mask"), (2, u "update"), (0, u "(II)I"), (0, u "(II)V")] 6

def k2c0 : Code := { maxStack := 4, maxLocals := 7, code := prog_66_method_1_code, exceptionTable := #[], attributes := #[] }
def k2m0 : Method := { name := "<init>", desc := "(II)V", sig := { parameters := [.int, .int], returnType := none }, accessFlags := 0, code := some k2c0 }
def k2c1 : Code := { maxStack := 5, maxLocals := 3, code := prog_66_method_2_code, exceptionTable := #[], attributes := #[] }
def k2m1 : Method := { name := "update", desc := "(II)I", sig := { parameters := [.int, .int], returnType := some .int }, accessFlags := 0, code := some k2c1 }
/-- com/example/baton/baton/core/format/Crc -/
def k2 : Class := { plain "com/example/baton/baton/core/format/Crc" (some 0) with
  accessFlags := 48
  interfaces := #[]
  cf := some (fileOf pool2 8 #[] #[{ accessFlags := 0, nameIndex := 5, descriptorIndex := 24, attributes := #[] }, { accessFlags := 0, nameIndex := 22, descriptorIndex := 23, attributes := #[] }] 48 2 #[] #[{ accessFlags := 18, nameIndex := 15, descriptorIndex := 16, attributes := #[] }, { accessFlags := 18, nameIndex := 19, descriptorIndex := 16, attributes := #[] }, { accessFlags := 18, nameIndex := 11, descriptorIndex := 12, attributes := #[] }])
  fields := #[{ name := "width", type := .int, accessFlags := 18, slot := 0, constantValue := 0 }, { name := "mask", type := .int, accessFlags := 18, slot := 1, constantValue := 0 }, { name := "table", type := (.array .int), accessFlags := 18, slot := 2, constantValue := 0 }]
  methods := #[k2m0, k2m1]
  instanceTypes := #[.int, .int, (.array .int)]
  staticTypes := #[]
  resolved := Array.replicate 31 none
  statics := none }

def pool3 : Array CpInfo := pool [(1, u "java/lang/Cloneable"), (0, .class_ 1), (0, u "java/lang/Object"), (0, .class_ 3)] 3

/-- java/lang/Cloneable -/
def k3 : Class := { plain "java/lang/Cloneable" (some 0) with
  accessFlags := 1537
  interfaces := #[]
  cf := some (fileOf pool3 2 #[] #[] 1537 4 #[] #[])
  fields := #[]
  methods := #[]
  instanceTypes := #[]
  staticTypes := #[]
  resolved := Array.replicate 8 none
  statics := none }

def pool4 : Array CpInfo := pool [(1, u "java/io/Serializable"), (0, .class_ 1), (0, u "java/lang/Object"), (0, .class_ 3)] 3

/-- java/io/Serializable -/
def k4 : Class := { plain "java/io/Serializable" (some 0) with
  accessFlags := 1537
  interfaces := #[]
  cf := some (fileOf pool4 2 #[] #[] 1537 4 #[] #[])
  fields := #[]
  methods := #[]
  instanceTypes := #[]
  staticTypes := #[]
  resolved := Array.replicate 8 none
  statics := none }

/-- the primitive byte -/
def k5 : Class := { plain "byte" none with kind := .primitive 'B', accessFlags := 0x411 }
/-- [B -/
def k6 : Class := { plain "[B" (some 0) with kind := .array 5 .byte, interfaces := #[3, 4], accessFlags := 1041 }

/-- the primitive int -/
def k7 : Class := { plain "int" none with kind := .primitive 'I', accessFlags := 0x411 }
/-- [I -/
def k8 : Class := { plain "[I" (some 0) with kind := .array 7 .int, interfaces := #[3, 4], accessFlags := 1041 }

def heap : Heap := #[]
def classes : Array Class := #[k0, k1, k2, k3, k4, k5, k6, k7, k8]
def interned : List (Array UInt16 × Addr) := []
def slotsUsed : Nat := 0
def theMethod : MethodId := ⟨1, 2⟩
def args0 : Array Value := #[.int 5, .int 5, .int 5, .int 5]
def aboutOver (below : List Frame) : State where
  vm := { classes := classes, interned := interned.toArray }
  heap := heap
  slotsUsed := slotsUsed
  threads := #[{ frames := .invoking theMethod args0 :: below }]
def below0 : List Frame := [.native { method := ⟨0, 0⟩, args := #[] }]
def about1 : State := aboutOver below0
def p0 : Program := .bare "" "" ""
def e0 : Env := launch0.env 0 0 0
theorem w_frames : about1.frames = Frame.invoking theMethod args0 :: below0 := rfl
set_option maxRecDepth 65536 in
theorem w_args : argsFit about1.vm theMethod args0 = true := by decide +kernel
set_option maxRecDepth 65536 in
theorem w_heap : heapFits about1 = true := by decide +kernel
set_option maxRecDepth 65536 in
theorem w_runnable : about1.curStatus? = some .runnable := by decide +kernel
set_option maxRecDepth 65536 in
theorem w_alone : about1.alone = true := by decide +kernel
set_option maxRecDepth 65536 in
theorem w_named : about1.methodNamed? x = some theMethod := by decide +kernel
set_option maxRecDepth 65536 in
theorem w_hears : about1.hears theMethod below0 = true := by decide +kernel
set_option maxRecDepth 65536 in
theorem w_ripe : about1.ripe theMethod args0 below0 = true := by decide +kernel
theorem w_running : about1.status = .running := rfl
set_option maxRecDepth 65536 in
theorem w_room : about1.hasRoom e0.platform room_1 = true :=
  launch0.hasRoom_least _ room_1 (by decide +kernel) (by decide +kernel) (by decide +kernel) (by decide +kernel) (by decide +kernel) (by decide +kernel)
theorem allAtoms_all (ts : List Jvm.Cond) (a : Array Jvm.Value) (st : Jvm.State) : (allAtoms ts).before a st = ts.all (fun c => c.before a st) := by
  induction ts with
  | nil => rfl
  | cons c t ih =>
    show (Jvm.Cond.and c (allAtoms t)).before a st = _
    rw [Jvm.Cond.before_and, ih, List.all_cons]
def words1 : List Jvm.Cond := Jvm.Cond.code x code maxLocals ret :: tables_1
/-- a 'code' word, met by the world's own term for the bytes: nothing is compared byte by byte -/
theorem code_word {y : MethodName} {bytes : ByteArray} {mx : Nat} {rt : Option FieldType} {a : Array Value} {s : State} {m : MethodId} {meth : Method} {c : Code} (h1 : s.methodNamed? y = some m) (h2 : s.vm.method? m = some meth) (h3 : meth.code = some c) (h4 : c.code = bytes)
    (h5 : (c.maxLocals == mx && c.exceptionTable.isEmpty && decide (c.maxStack ≤ mostOperands) && decide (meth.sig.returnType = rt) && !meth.locks && decide (parseMethodDescriptor y.desc = some meth.sig)) = true) : (Jvm.Cond.code y bytes mx rt).before a s = true := by
  simp only [Bool.and_eq_true, beq_iff_eq, Bool.not_eq_true', decide_eq_true_eq] at h5
  obtain ⟨⟨⟨⟨⟨g1, g2⟩, g3⟩, g4⟩, g5⟩, g6⟩ := h5
  simp [Cond.before, Cond.holds, Cond.value, h1, h2, h3, h4, g1, g2, g3, g4, g5, g6]
def isCode : Jvm.Cond → Bool
  | .code _ _ _ _ => true
  | _ => false
theorem all_split {L : List Jvm.Cond} {P : Jvm.Cond → Bool} (h1 : L.all (fun c => isCode c || P c) = true) (h2 : ∀ c ∈ L.filter isCode, P c = true) : L.all P = true := by
  refine List.all_eq_true.mpr fun c hc => ?_
  have h := List.all_eq_true.mp h1 c hc
  rcases Bool.eq_false_or_eq_true (isCode c) with hi | hi
  · exact h2 c (List.mem_filter.mpr ⟨hc, hi⟩)
  · simpa [hi] using h
set_option maxRecDepth 65536 in
theorem w_c0 : (Jvm.Cond.code x code maxLocals ret).before args0 about1 = true := code_word (m := ⟨1, 2⟩) (meth := k1m2) (c := k1c2) (by decide +kernel) rfl rfl rfl (by decide +kernel)
set_option maxRecDepth 65536 in
theorem w_c1 : (Jvm.Cond.code ({ cls := "com/example/baton/baton/core/format/Crc", name := "<init>", desc := "(II)V" } : Jvm.MethodName) prog_66_method_1_code (7 : Nat) (Option.none : Option Jvm.ClassFile.FieldType)).before args0 about1 = true := code_word (m := ⟨2, 0⟩) (meth := k2m0) (c := k2c0) (by decide +kernel) rfl rfl rfl (by decide +kernel)
set_option maxRecDepth 65536 in
theorem w_c2 : (Jvm.Cond.code ({ cls := "java/lang/Object", name := "<init>", desc := "()V" } : Jvm.MethodName) object_method_1_code (1 : Nat) (Option.none : Option Jvm.ClassFile.FieldType)).before args0 about1 = true := code_word (m := ⟨0, 0⟩) (meth := k0m0) (c := k0c0) (by decide +kernel) rfl rfl rfl (by decide +kernel)
set_option maxRecDepth 65536 in
theorem w_c3 : (Jvm.Cond.code ({ cls := "com/example/baton/baton/core/format/Crc", name := "update", desc := "(II)I" } : Jvm.MethodName) prog_66_method_2_code (3 : Nat) (Option.some Jvm.ClassFile.FieldType.int)).before args0 about1 = true := code_word (m := ⟨2, 1⟩) (meth := k2m1) (c := k2c1) (by decide +kernel) rfl rfl rfl (by decide +kernel)
set_option maxRecDepth 65536 in
theorem w_c4 : (Jvm.Cond.code ({ cls := "com/example/baton/baton/core/format/CrcUpdatePinLaw", name := "step", desc := "(III)I" } : Jvm.MethodName) method_2_code (3 : Nat) (Option.some Jvm.ClassFile.FieldType.int)).before args0 about1 = true := code_word (m := ⟨1, 1⟩) (meth := k1m1) (c := k1c1) (by decide +kernel) rfl rfl rfl (by decide +kernel)
def codes1 : List Jvm.Cond := [Jvm.Cond.code x code maxLocals ret, Jvm.Cond.code ({ cls := "com/example/baton/baton/core/format/Crc", name := "<init>", desc := "(II)V" } : Jvm.MethodName) prog_66_method_1_code (7 : Nat) (Option.none : Option Jvm.ClassFile.FieldType), Jvm.Cond.code ({ cls := "java/lang/Object", name := "<init>", desc := "()V" } : Jvm.MethodName) object_method_1_code (1 : Nat) (Option.none : Option Jvm.ClassFile.FieldType), Jvm.Cond.code ({ cls := "com/example/baton/baton/core/format/Crc", name := "update", desc := "(II)I" } : Jvm.MethodName) prog_66_method_2_code (3 : Nat) (Option.some Jvm.ClassFile.FieldType.int), Jvm.Cond.code ({ cls := "com/example/baton/baton/core/format/CrcUpdatePinLaw", name := "step", desc := "(III)I" } : Jvm.MethodName) method_2_code (3 : Nat) (Option.some Jvm.ClassFile.FieldType.int)]
set_option maxRecDepth 65536 in
theorem codes_eq : words1.filter isCode = codes1 := rfl
theorem w_codes : ∀ c ∈ words1.filter isCode, c.before args0 about1 = true := by
  rw [codes_eq]
  intro c hc
  simp only [codes1, List.mem_cons, List.not_mem_nil, or_false] at hc
  rcases hc with rfl | rfl | rfl | rfl | rfl
  · exact w_c0
  · exact w_c1
  · exact w_c2
  · exact w_c3
  · exact w_c4
set_option maxRecDepth 65536 in
theorem w_t1 : (words1.take 24).all (fun c => isCode c || c.before args0 about1) = true := by decide +kernel
set_option maxRecDepth 65536 in
theorem w_t2 : (words1.drop 24).all (fun c => isCode c || c.before args0 about1) = true := by decide +kernel
theorem w_tables : (allAtoms (Jvm.Cond.code x code maxLocals ret :: tables_1)).before args0 about1 = true := by
  rw [allAtoms_all]
  show words1.all (fun c => c.before args0 about1) = true
  refine all_split ?_ w_codes
  rw [← List.take_append_drop 24 words1, List.all_append, w_t1, w_t2]
  rfl
set_option maxRecDepth 65536 in
theorem w_case : (Jvm.Cond.and given_1 narrow_1).before args0 about1 = true := by decide +kernel
theorem w_applies : (headSpec (Jvm.Cond.code x code maxLocals ret :: tables_1) room_1).applies x e0.platform about1 = true :=
  (Spec.applies_iff w_frames).mpr ⟨w_running, w_runnable, w_alone, w_named, w_hears, w_ripe, w_room, w_tables⟩
theorem atStart : AtStart classFile x code maxLocals ret World_1 tables_1 room_1 Calls_1 rest_1 Pre_1 launch0 p0 e0 about1 theMethod args0 below0 :=
  ⟨lists_1, trivial, launch0.admits_env _ _ _, launch0.least_env, fairChoices_fair.cas, fairChoices_fair.clock, w_frames, w_args, w_heap, w_applies, trivial, trivial, w_case⟩
end start1
theorem witness_1 : WitnessClaimed_1 := ⟨start1.p0, start1.e0, start1.about1, start1.theMethod, start1.args0, start1.below0, start1.atStart⟩
end Jvm.Pilot.@@N@@
