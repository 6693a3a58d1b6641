import JvmDerived
import JvmDerived.Pilot.@@N@@Statement
import JvmDerived.Pilot.@@N@@Code
set_option linter.unusedVariables false
set_option linter.unusedSimpArgs false
namespace Jvm.RoadKit
open Sem ClassFile Op Lib Jvm.Stand Jvm.Free Jvm.LawKit
section New
variable {p : Program} {l : Launch} {e : Env} {R : Room} {s : State} {m : MethodId} {args : Array Value} {below : List Frame} {meth : Method} {c : Code} {T : State} {locs : List Loc} {cells slots : Nat}
theorem retI (X : Stand p l e R s m args below meth c T locs cells slots) (hx : p.tables.exec = Jvm.exec) {pc : Nat} {Ls : Array Slot} {z : Int32} {rest : List Value} (hret : meth.sig.returnType = some .int) (hd : decode c.code pc = .ok (.ireturn, 1)) {fs : List Frame}
    (hl : ∀ (f : JFrame) (acts : List Action), f.method = m → f.locked = none → f.entered = [] → (doReturn e (T.setTop f) acts (some (.int z))).1 = T.setFrames fs) : Steps p.tables e below (T.setTop (mkF m pc Ls (.int z :: rest))) (T.setFrames fs) := by
  have hm' : T.vm.method? m = some meth := X.method'
  have hn : narrow .int (.int z) = .int z := rfl
  show Steps p.tables e below (T.setTop { method := m, pc := pc, locals := Ls, stack := _ :: rest, locked := none }) _
  jvm_step X.here [X.here.top, hx, hd, hm', hret, hn]
  first | (intro acts; rw [hl _ acts rfl rfl rfl]) | rw [hl _ _ rfl rfl rfl]
  exact Steps.refl _
theorem retL (X : Stand p l e R s m args below meth c T locs cells slots) (hx : p.tables.exec = Jvm.exec) {pc : Nat} {Ls : Array Slot} {z : Int64} {rest : List Value} (hret : meth.sig.returnType = some .long) (hd : decode c.code pc = .ok (.lreturn, 1)) {fs : List Frame}
    (hl : ∀ (f : JFrame) (acts : List Action), f.method = m → f.locked = none → f.entered = [] → (doReturn e (T.setTop f) acts (some (.long z))).1 = T.setFrames fs) : Steps p.tables e below (T.setTop (mkF m pc Ls (.long z :: rest))) (T.setFrames fs) := by
  have hm' : T.vm.method? m = some meth := X.method'
  have hn : narrow .long (.long z) = .long z := rfl
  show Steps p.tables e below (T.setTop { method := m, pc := pc, locals := Ls, stack := _ :: rest, locked := none }) _
  jvm_step X.here [X.here.top, hx, hd, hm', hret, hn]
  first | (intro acts; rw [hl _ acts rfl rfl rfl]) | rw [hl _ _ rfl rfl rfl]
  exact Steps.refl _
end New
end Jvm.RoadKit
namespace Jvm.Pilot.@@N@@
open Jvm Jvm.ClassFile Sem Op Lib Jvm.Free Jvm.Stand Jvm.LawKit Jvm.RoadKit Bundle Jvm.Pilot.@@N@@.Jvm.D
theorem pn_com_example_shapelint_shapelint_NamesIsBasePinLaw : plainName "com/example/shapelint/shapelint/NamesIsBasePinLaw" = true := by first | (simp [plainName, overriddenIn]; done) | decide +kernel
theorem pn_com_example_shapelint_shapelint_Names : plainName "com/example/shapelint/shapelint/Names" = true := by first | (simp [plainName, overriddenIn]; done) | decide +kernel
theorem own_ltI {p n : Int32} {k : Int} (hk : n.toInt = k) : p < n ↔ p.toInt < k := by rw [Int32.lt_iff_toInt_lt, hk]
theorem own_gtI {p n : Int32} {k : Int} (hk : n.toInt = k) : n < p ↔ k < p.toInt := by rw [Int32.lt_iff_toInt_lt, hk]
theorem own_eqI {p n : Int32} {k : Int} (hk : n.toInt = k) : p = n ↔ p.toInt = k := by rw [← Int32.toInt_inj, hk]
theorem d1_0 : decode prog_12_method_3_code 0 = .ok (.iload_n 0, 1) := by decide +kernel
theorem d1_1 : decode prog_12_method_3_code 1 = .ok (.bipush 65, 2) := by decide +kernel
theorem d1_3 : decode prog_12_method_3_code 3 = .ok (.if_icmp .lt 9, 3) := by decide +kernel
theorem d1_12 : decode prog_12_method_3_code 12 = .ok (.iload_n 0, 1) := by decide +kernel
theorem d1_13 : decode prog_12_method_3_code 13 = .ok (.bipush 97, 2) := by decide +kernel
theorem d1_15 : decode prog_12_method_3_code 15 = .ok (.if_icmp .lt 9, 3) := by decide +kernel
theorem d1_24 : decode prog_12_method_3_code 24 = .ok (.iload_n 0, 1) := by decide +kernel
theorem d1_25 : decode prog_12_method_3_code 25 = .ok (.sipush 192, 3) := by decide +kernel
theorem d1_28 : decode prog_12_method_3_code 28 = .ok (.if_icmp .lt 10, 3) := by decide +kernel
theorem d1_38 : decode prog_12_method_3_code 38 = .ok (.iload_n 0, 1) := by decide +kernel
theorem d1_39 : decode prog_12_method_3_code 39 = .ok (.sipush 216, 3) := by decide +kernel
theorem d1_42 : decode prog_12_method_3_code 42 = .ok (.if_icmp .lt 10, 3) := by decide +kernel
theorem d1_52 : decode prog_12_method_3_code 52 = .ok (.iload_n 0, 1) := by decide +kernel
theorem d1_53 : decode prog_12_method_3_code 53 = .ok (.sipush 248, 3) := by decide +kernel
theorem d1_56 : decode prog_12_method_3_code 56 = .ok (.if_icmp .lt 10, 3) := by decide +kernel
theorem d1_66 : decode prog_12_method_3_code 66 = .ok (.iload_n 0, 1) := by decide +kernel
theorem d1_67 : decode prog_12_method_3_code 67 = .ok (.sipush 880, 3) := by decide +kernel
theorem d1_70 : decode prog_12_method_3_code 70 = .ok (.if_icmp .lt 10, 3) := by decide +kernel
theorem d1_80 : decode prog_12_method_3_code 80 = .ok (.iload_n 0, 1) := by decide +kernel
theorem d1_81 : decode prog_12_method_3_code 81 = .ok (.sipush 895, 3) := by decide +kernel
theorem d1_84 : decode prog_12_method_3_code 84 = .ok (.if_icmp .lt 10, 3) := by decide +kernel
theorem d1_94 : decode prog_12_method_3_code 94 = .ok (.iload_n 0, 1) := by decide +kernel
theorem d1_95 : decode prog_12_method_3_code 95 = .ok (.sipush 8204, 3) := by decide +kernel
theorem d1_98 : decode prog_12_method_3_code 98 = .ok (.if_icmp .lt 10, 3) := by decide +kernel
theorem d1_108 : decode prog_12_method_3_code 108 = .ok (.iload_n 0, 1) := by decide +kernel
theorem d1_109 : decode prog_12_method_3_code 109 = .ok (.sipush 8304, 3) := by decide +kernel
theorem d1_112 : decode prog_12_method_3_code 112 = .ok (.if_icmp .lt 10, 3) := by decide +kernel
theorem d1_122 : decode prog_12_method_3_code 122 = .ok (.iload_n 0, 1) := by decide +kernel
theorem d1_123 : decode prog_12_method_3_code 123 = .ok (.sipush 11264, 3) := by decide +kernel
theorem d1_126 : decode prog_12_method_3_code 126 = .ok (.if_icmp .lt 10, 3) := by decide +kernel
theorem d1_136 : decode prog_12_method_3_code 136 = .ok (.iload_n 0, 1) := by decide +kernel
theorem d1_137 : decode prog_12_method_3_code 137 = .ok (.sipush 12289, 3) := by decide +kernel
theorem d1_140 : decode prog_12_method_3_code 140 = .ok (.if_icmp .lt 9, 3) := by decide +kernel
theorem d1_149 : decode prog_12_method_3_code 149 = .ok (.iload_n 0, 1) := by decide +kernel
theorem d1_150 : decode prog_12_method_3_code 150 = .ok (.ldc 26, 2) := by decide +kernel
theorem d1_152 : decode prog_12_method_3_code 152 = .ok (.if_icmp .lt 9, 3) := by decide +kernel
theorem d1_161 : decode prog_12_method_3_code 161 = .ok (.iload_n 0, 1) := by decide +kernel
theorem d1_162 : decode prog_12_method_3_code 162 = .ok (.ldc 28, 2) := by decide +kernel
theorem d1_164 : decode prog_12_method_3_code 164 = .ok (.if_icmp .lt 9, 3) := by decide +kernel
theorem d1_173 : decode prog_12_method_3_code 173 = .ok (.iload_n 0, 1) := by decide +kernel
theorem d1_174 : decode prog_12_method_3_code 174 = .ok (.ldc 30, 2) := by decide +kernel
theorem d1_176 : decode prog_12_method_3_code 176 = .ok (.if_icmp .lt 13, 3) := by decide +kernel
theorem d1_189 : decode prog_12_method_3_code 189 = .ok (.iconst 0, 1) := by decide +kernel
theorem d1_190 : decode prog_12_method_3_code 190 = .ok (.ireturn, 1) := by decide +kernel
theorem d1_6 : decode prog_12_method_3_code 6 = .ok (.iload_n 0, 1) := by decide +kernel
theorem d1_7 : decode prog_12_method_3_code 7 = .ok (.bipush 90, 2) := by decide +kernel
theorem d1_9 : decode prog_12_method_3_code 9 = .ok (.if_icmp .le 176, 3) := by decide +kernel
theorem d1_18 : decode prog_12_method_3_code 18 = .ok (.iload_n 0, 1) := by decide +kernel
theorem d1_19 : decode prog_12_method_3_code 19 = .ok (.bipush 122, 2) := by decide +kernel
theorem d1_21 : decode prog_12_method_3_code 21 = .ok (.if_icmp .le 164, 3) := by decide +kernel
theorem d1_31 : decode prog_12_method_3_code 31 = .ok (.iload_n 0, 1) := by decide +kernel
theorem d1_32 : decode prog_12_method_3_code 32 = .ok (.sipush 214, 3) := by decide +kernel
theorem d1_35 : decode prog_12_method_3_code 35 = .ok (.if_icmp .le 150, 3) := by decide +kernel
theorem d1_45 : decode prog_12_method_3_code 45 = .ok (.iload_n 0, 1) := by decide +kernel
theorem d1_46 : decode prog_12_method_3_code 46 = .ok (.sipush 246, 3) := by decide +kernel
theorem d1_49 : decode prog_12_method_3_code 49 = .ok (.if_icmp .le 136, 3) := by decide +kernel
theorem d1_59 : decode prog_12_method_3_code 59 = .ok (.iload_n 0, 1) := by decide +kernel
theorem d1_60 : decode prog_12_method_3_code 60 = .ok (.sipush 767, 3) := by decide +kernel
theorem d1_63 : decode prog_12_method_3_code 63 = .ok (.if_icmp .le 122, 3) := by decide +kernel
theorem d1_73 : decode prog_12_method_3_code 73 = .ok (.iload_n 0, 1) := by decide +kernel
theorem d1_74 : decode prog_12_method_3_code 74 = .ok (.sipush 893, 3) := by decide +kernel
theorem d1_77 : decode prog_12_method_3_code 77 = .ok (.if_icmp .le 108, 3) := by decide +kernel
theorem d1_87 : decode prog_12_method_3_code 87 = .ok (.iload_n 0, 1) := by decide +kernel
theorem d1_88 : decode prog_12_method_3_code 88 = .ok (.sipush 8191, 3) := by decide +kernel
theorem d1_91 : decode prog_12_method_3_code 91 = .ok (.if_icmp .le 94, 3) := by decide +kernel
theorem d1_101 : decode prog_12_method_3_code 101 = .ok (.iload_n 0, 1) := by decide +kernel
theorem d1_102 : decode prog_12_method_3_code 102 = .ok (.sipush 8205, 3) := by decide +kernel
theorem d1_105 : decode prog_12_method_3_code 105 = .ok (.if_icmp .le 80, 3) := by decide +kernel
theorem d1_115 : decode prog_12_method_3_code 115 = .ok (.iload_n 0, 1) := by decide +kernel
theorem d1_116 : decode prog_12_method_3_code 116 = .ok (.sipush 8591, 3) := by decide +kernel
theorem d1_119 : decode prog_12_method_3_code 119 = .ok (.if_icmp .le 66, 3) := by decide +kernel
theorem d1_129 : decode prog_12_method_3_code 129 = .ok (.iload_n 0, 1) := by decide +kernel
theorem d1_130 : decode prog_12_method_3_code 130 = .ok (.sipush 12271, 3) := by decide +kernel
theorem d1_133 : decode prog_12_method_3_code 133 = .ok (.if_icmp .le 52, 3) := by decide +kernel
theorem d1_143 : decode prog_12_method_3_code 143 = .ok (.iload_n 0, 1) := by decide +kernel
theorem d1_144 : decode prog_12_method_3_code 144 = .ok (.ldc 25, 2) := by decide +kernel
theorem d1_146 : decode prog_12_method_3_code 146 = .ok (.if_icmp .le 39, 3) := by decide +kernel
theorem d1_155 : decode prog_12_method_3_code 155 = .ok (.iload_n 0, 1) := by decide +kernel
theorem d1_156 : decode prog_12_method_3_code 156 = .ok (.ldc 27, 2) := by decide +kernel
theorem d1_158 : decode prog_12_method_3_code 158 = .ok (.if_icmp .le 27, 3) := by decide +kernel
theorem d1_167 : decode prog_12_method_3_code 167 = .ok (.iload_n 0, 1) := by decide +kernel
theorem d1_168 : decode prog_12_method_3_code 168 = .ok (.ldc 29, 2) := by decide +kernel
theorem d1_170 : decode prog_12_method_3_code 170 = .ok (.if_icmp .le 15, 3) := by decide +kernel
theorem d1_179 : decode prog_12_method_3_code 179 = .ok (.iload_n 0, 1) := by decide +kernel
theorem d1_180 : decode prog_12_method_3_code 180 = .ok (.ldc 31, 2) := by decide +kernel
theorem d1_182 : decode prog_12_method_3_code 182 = .ok (.if_icmp .gt 7, 3) := by decide +kernel
theorem d1_185 : decode prog_12_method_3_code 185 = .ok (.iconst 1, 1) := by decide +kernel
theorem d1_186 : decode prog_12_method_3_code 186 = .ok (.goto 4, 3) := by decide +kernel
theorem ef1 (m : MethodId) (x0 : Int32) : entryFrame m #[(.int x0)] 1 = mkF m 0 #[.val (.int x0)] [] := by first | (simp [entryFrame, mkF, argsToLocals, Value.category]; done) | rfl
def f1 (p0 : Int32) : Int32 :=
  if p0 < (65 : Int32) then
    (0 : Int32)
  else
    if (90 : Int32) < p0 then
      if p0 < (97 : Int32) then
        (0 : Int32)
      else
        if (122 : Int32) < p0 then
          if p0 < (192 : Int32) then
            (0 : Int32)
          else
            if (214 : Int32) < p0 then
              if p0 < (216 : Int32) then
                (0 : Int32)
              else
                if (246 : Int32) < p0 then
                  if p0 < (248 : Int32) then
                    (0 : Int32)
                  else
                    if (767 : Int32) < p0 then
                      if p0 < (880 : Int32) then
                        (0 : Int32)
                      else
                        if (893 : Int32) < p0 then
                          if p0 < (895 : Int32) then
                            (0 : Int32)
                          else
                            if (8191 : Int32) < p0 then
                              if p0 < (8204 : Int32) then
                                (0 : Int32)
                              else
                                if (8205 : Int32) < p0 then
                                  if p0 < (8304 : Int32) then
                                    (0 : Int32)
                                  else
                                    if (8591 : Int32) < p0 then
                                      if p0 < (11264 : Int32) then
                                        (0 : Int32)
                                      else
                                        if (12271 : Int32) < p0 then
                                          if p0 < (12289 : Int32) then
                                            (0 : Int32)
                                          else
                                            if (55295 : Int32) < p0 then
                                              if p0 < (63744 : Int32) then
                                                (0 : Int32)
                                              else
                                                if (64975 : Int32) < p0 then
                                                  if p0 < (65008 : Int32) then
                                                    (0 : Int32)
                                                  else
                                                    if (65533 : Int32) < p0 then
                                                      if p0 < (65536 : Int32) then
                                                        (0 : Int32)
                                                      else
                                                        if (983039 : Int32) < p0 then
                                                          (0 : Int32)
                                                        else
                                                          (1 : Int32)
                                                    else
                                                      (1 : Int32)
                                                else
                                                  (1 : Int32)
                                            else
                                              (1 : Int32)
                                        else
                                          (1 : Int32)
                                    else
                                      (1 : Int32)
                                else
                                  (1 : Int32)
                            else
                              (1 : Int32)
                        else
                          (1 : Int32)
                    else
                      (1 : Int32)
                else
                  (1 : Int32)
            else
              (1 : Int32)
        else
          (1 : Int32)
    else
      (1 : Int32)
def Q1 (Z : State) (p0 : Int32) (h0 : Heap) (n0 : Nat) (v : Option Value) (h : Heap) (L : List Loc) : Prop := v = some (.int (f1 p0)) ∧ Fr n0 L ∧ h = h0
set_option maxRecDepth 65536 in
set_option maxHeartbeats 40000000 in
theorem rm1 (l : Launch) (Z : State) (av : Array Value) (hw : ∀ d ∈ tables_1, d.before av Z = true) (ws : List Jvm.Cond) (p0 : Int32) (h0 : Heap) (n0 : Nat) (Z0 : n0 ≤ h0.size) :
    MetFree l (⟨"com/example/shapelint/shapelint/Names", "isBase", "(I)Z"⟩ : MethodName) (head1 (Jvm.Cond.code (⟨"com/example/shapelint/shapelint/Names", "isBase", "(I)Z"⟩ : MethodName) prog_12_method_3_code 1 (some .boolean) :: ws) ({ frames := 0, cells := 0, slots := 0, locals := 0 } : Room)) (fun a U => a = #[(.int p0)] ∧ Z.Warmed39 U.vm ∧ U.heap = h0) (fun _ _ _ _ _ => True) (fun _ U o U' => ∃ v L, o = .returned v ∧ Q1 Z p0 h0 n0 v U'.heap L ∧ FrameEnd U o U' L ({ frames := 0, cells := 0, slots := 0, locals := 0 } : Room).cells ({ frames := 0, cells := 0, slots := 0, locals := 0 } : Room).slots) := by
  refine MetFree.of_bodySF (plainFor_of_name pn_com_example_shapelint_shapelint_Names) hisR ?_
  intro p e s m args below meth c s₁ Bd hml0 hP hK
  obtain ⟨rfl, hZ, hh⟩ := hP
  have hx := Bd.exec
  have hby := Bd.bytes
  have hml : c.maxLocals = 1 := hml0
  have hown : s.vm.findClass "com/example/shapelint/shapelint/Names" = some m.cls := findClass_of_methodNamed Bd.named
  have hnm := (name_of_methodNamed Bd.named Bd.method).1
  have X0 : Stand p l e ({ frames := 0, cells := 0, slots := 0, locals := 0 } : Room) s m #[(.int p0)] below meth c s₁ [] 0 0 := Stand.of_body Bd
  have e0 : s₁.heap = h0 := by rw [← hh, Bd.state]; rfl
  have N0 := Fr.nil n0
  have K0 : Keep h0 h0 [] := Keep.refl h0 []
  have pre0 : ∀ t, Steps p.tables e below (s₁.setTop (mkF m 0 #[.val (.int p0)] [])) t → Steps p.tables e below (s₁.setTop (entryFrame m #[(.int p0)] 1)) t := fun t k => castTop (ef1 m p0) k
  have pre1 : ∀ t, Steps p.tables e below (s₁.setTop (mkF m 3 #[.val (.int p0)] [(.int (65 : Int32)), (.int p0)])) t → Steps p.tables e below (s₁.setTop (entryFrame m #[(.int p0)] 1)) t := fun t kt => pre0 t (by
    show Steps p.tables e below (s₁.setTop (mkF m 0 #[.val (.int p0)] [])) _
    refine XS.iloadN X0.here hx rfl (hb hby d1_0) rfl ?_
    show Steps p.tables e below (s₁.setTop (mkF m 1 #[.val (.int p0)] [(.int p0)])) _
    refine XS.bipush X0.here hx rfl (hb hby d1_1) ?_
    exact kt)
  clear pre0
  by_cases hc3_2 : p0 < (65 : Int32)
  · have hc3_2z : p0.toInt < 65 := (own_ltI (by decide)).mp hc3_2
    have pre3 : ∀ t, Steps p.tables e below (s₁.setTop (mkF m 190 #[.val (.int p0)] [(.int (0 : Int32))])) t → Steps p.tables e below (s₁.setTop (entryFrame m #[(.int p0)] 1)) t := fun t kt => pre1 t (by
      show Steps p.tables e below (s₁.setTop (mkF m 3 #[.val (.int p0)] [(.int (65 : Int32)), (.int p0)])) _
      refine XS.icmpYes X0.here hx rfl (pc0 := 3) (pc' := 12) rfl (hb hby d1_3) rfl (tlt hc3_2).1 (by decide) (by decide) ?_
      show Steps p.tables e below (s₁.setTop (mkF m 12 #[.val (.int p0)] [])) _
      refine XS.iloadN X0.here hx rfl (hb hby d1_12) rfl ?_
      show Steps p.tables e below (s₁.setTop (mkF m 13 #[.val (.int p0)] [(.int p0)])) _
      refine XS.bipush X0.here hx rfl (hb hby d1_13) ?_
      show Steps p.tables e below (s₁.setTop (mkF m 15 #[.val (.int p0)] [(.int (97 : Int32)), (.int p0)])) _
      refine XS.icmpYes X0.here hx rfl (pc0 := 15) (pc' := 24) rfl (hb hby d1_15) rfl (tlt ((own_ltI (by decide)).mpr (by omega : p0.toInt < 97) : p0 < (97 : Int32))).1 (by decide) (by decide) ?_
      show Steps p.tables e below (s₁.setTop (mkF m 24 #[.val (.int p0)] [])) _
      refine XS.iloadN X0.here hx rfl (hb hby d1_24) rfl ?_
      show Steps p.tables e below (s₁.setTop (mkF m 25 #[.val (.int p0)] [(.int p0)])) _
      refine XS.sipush X0.here hx rfl (hb hby d1_25) ?_
      show Steps p.tables e below (s₁.setTop (mkF m 28 #[.val (.int p0)] [(.int (192 : Int32)), (.int p0)])) _
      refine XS.icmpYes X0.here hx rfl (pc0 := 28) (pc' := 38) rfl (hb hby d1_28) rfl (tlt ((own_ltI (by decide)).mpr (by omega : p0.toInt < 192) : p0 < (192 : Int32))).1 (by decide) (by decide) ?_
      show Steps p.tables e below (s₁.setTop (mkF m 38 #[.val (.int p0)] [])) _
      refine XS.iloadN X0.here hx rfl (hb hby d1_38) rfl ?_
      show Steps p.tables e below (s₁.setTop (mkF m 39 #[.val (.int p0)] [(.int p0)])) _
      refine XS.sipush X0.here hx rfl (hb hby d1_39) ?_
      show Steps p.tables e below (s₁.setTop (mkF m 42 #[.val (.int p0)] [(.int (216 : Int32)), (.int p0)])) _
      refine XS.icmpYes X0.here hx rfl (pc0 := 42) (pc' := 52) rfl (hb hby d1_42) rfl (tlt ((own_ltI (by decide)).mpr (by omega : p0.toInt < 216) : p0 < (216 : Int32))).1 (by decide) (by decide) ?_
      show Steps p.tables e below (s₁.setTop (mkF m 52 #[.val (.int p0)] [])) _
      refine XS.iloadN X0.here hx rfl (hb hby d1_52) rfl ?_
      show Steps p.tables e below (s₁.setTop (mkF m 53 #[.val (.int p0)] [(.int p0)])) _
      refine XS.sipush X0.here hx rfl (hb hby d1_53) ?_
      show Steps p.tables e below (s₁.setTop (mkF m 56 #[.val (.int p0)] [(.int (248 : Int32)), (.int p0)])) _
      refine XS.icmpYes X0.here hx rfl (pc0 := 56) (pc' := 66) rfl (hb hby d1_56) rfl (tlt ((own_ltI (by decide)).mpr (by omega : p0.toInt < 248) : p0 < (248 : Int32))).1 (by decide) (by decide) ?_
      show Steps p.tables e below (s₁.setTop (mkF m 66 #[.val (.int p0)] [])) _
      refine XS.iloadN X0.here hx rfl (hb hby d1_66) rfl ?_
      show Steps p.tables e below (s₁.setTop (mkF m 67 #[.val (.int p0)] [(.int p0)])) _
      refine XS.sipush X0.here hx rfl (hb hby d1_67) ?_
      show Steps p.tables e below (s₁.setTop (mkF m 70 #[.val (.int p0)] [(.int (880 : Int32)), (.int p0)])) _
      refine XS.icmpYes X0.here hx rfl (pc0 := 70) (pc' := 80) rfl (hb hby d1_70) rfl (tlt ((own_ltI (by decide)).mpr (by omega : p0.toInt < 880) : p0 < (880 : Int32))).1 (by decide) (by decide) ?_
      show Steps p.tables e below (s₁.setTop (mkF m 80 #[.val (.int p0)] [])) _
      refine XS.iloadN X0.here hx rfl (hb hby d1_80) rfl ?_
      show Steps p.tables e below (s₁.setTop (mkF m 81 #[.val (.int p0)] [(.int p0)])) _
      refine XS.sipush X0.here hx rfl (hb hby d1_81) ?_
      show Steps p.tables e below (s₁.setTop (mkF m 84 #[.val (.int p0)] [(.int (895 : Int32)), (.int p0)])) _
      refine XS.icmpYes X0.here hx rfl (pc0 := 84) (pc' := 94) rfl (hb hby d1_84) rfl (tlt ((own_ltI (by decide)).mpr (by omega : p0.toInt < 895) : p0 < (895 : Int32))).1 (by decide) (by decide) ?_
      show Steps p.tables e below (s₁.setTop (mkF m 94 #[.val (.int p0)] [])) _
      refine XS.iloadN X0.here hx rfl (hb hby d1_94) rfl ?_
      show Steps p.tables e below (s₁.setTop (mkF m 95 #[.val (.int p0)] [(.int p0)])) _
      refine XS.sipush X0.here hx rfl (hb hby d1_95) ?_
      show Steps p.tables e below (s₁.setTop (mkF m 98 #[.val (.int p0)] [(.int (8204 : Int32)), (.int p0)])) _
      refine XS.icmpYes X0.here hx rfl (pc0 := 98) (pc' := 108) rfl (hb hby d1_98) rfl (tlt ((own_ltI (by decide)).mpr (by omega : p0.toInt < 8204) : p0 < (8204 : Int32))).1 (by decide) (by decide) ?_
      show Steps p.tables e below (s₁.setTop (mkF m 108 #[.val (.int p0)] [])) _
      refine XS.iloadN X0.here hx rfl (hb hby d1_108) rfl ?_
      show Steps p.tables e below (s₁.setTop (mkF m 109 #[.val (.int p0)] [(.int p0)])) _
      refine XS.sipush X0.here hx rfl (hb hby d1_109) ?_
      show Steps p.tables e below (s₁.setTop (mkF m 112 #[.val (.int p0)] [(.int (8304 : Int32)), (.int p0)])) _
      refine XS.icmpYes X0.here hx rfl (pc0 := 112) (pc' := 122) rfl (hb hby d1_112) rfl (tlt ((own_ltI (by decide)).mpr (by omega : p0.toInt < 8304) : p0 < (8304 : Int32))).1 (by decide) (by decide) ?_
      show Steps p.tables e below (s₁.setTop (mkF m 122 #[.val (.int p0)] [])) _
      refine XS.iloadN X0.here hx rfl (hb hby d1_122) rfl ?_
      show Steps p.tables e below (s₁.setTop (mkF m 123 #[.val (.int p0)] [(.int p0)])) _
      refine XS.sipush X0.here hx rfl (hb hby d1_123) ?_
      show Steps p.tables e below (s₁.setTop (mkF m 126 #[.val (.int p0)] [(.int (11264 : Int32)), (.int p0)])) _
      refine XS.icmpYes X0.here hx rfl (pc0 := 126) (pc' := 136) rfl (hb hby d1_126) rfl (tlt ((own_ltI (by decide)).mpr (by omega : p0.toInt < 11264) : p0 < (11264 : Int32))).1 (by decide) (by decide) ?_
      show Steps p.tables e below (s₁.setTop (mkF m 136 #[.val (.int p0)] [])) _
      refine XS.iloadN X0.here hx rfl (hb hby d1_136) rfl ?_
      show Steps p.tables e below (s₁.setTop (mkF m 137 #[.val (.int p0)] [(.int p0)])) _
      refine XS.sipush X0.here hx rfl (hb hby d1_137) ?_
      show Steps p.tables e below (s₁.setTop (mkF m 140 #[.val (.int p0)] [(.int (12289 : Int32)), (.int p0)])) _
      refine XS.icmpYes X0.here hx rfl (pc0 := 140) (pc' := 149) rfl (hb hby d1_140) rfl (tlt ((own_ltI (by decide)).mpr (by omega : p0.toInt < 12289) : p0 < (12289 : Int32))).1 (by decide) (by decide) ?_
      show Steps p.tables e below (s₁.setTop (mkF m 149 #[.val (.int p0)] [])) _
      refine XS.iloadN X0.here hx rfl (hb hby d1_149) rfl ?_
      show Steps p.tables e below (s₁.setTop (mkF m 150 #[.val (.int p0)] [(.int p0)])) _
      refine X0.ldcInt hx hown (mvT hZ (hw _ (List.mem_of_getElem? (i := 4) rfl))) (g := (mkF m 150 #[.val (.int p0)] [(.int p0)])) rfl (hb hby d1_150) _ ?_
      show Steps p.tables e below (s₁.setTop (mkF m 152 #[.val (.int p0)] [(.int (63744 : Int32)), (.int p0)])) _
      refine XS.icmpYes X0.here hx rfl (pc0 := 152) (pc' := 161) rfl (hb hby d1_152) rfl (tlt ((own_ltI (by decide)).mpr (by omega : p0.toInt < 63744) : p0 < (63744 : Int32))).1 (by decide) (by decide) ?_
      show Steps p.tables e below (s₁.setTop (mkF m 161 #[.val (.int p0)] [])) _
      refine XS.iloadN X0.here hx rfl (hb hby d1_161) rfl ?_
      show Steps p.tables e below (s₁.setTop (mkF m 162 #[.val (.int p0)] [(.int p0)])) _
      refine X0.ldcInt hx hown (mvT hZ (hw _ (List.mem_of_getElem? (i := 5) rfl))) (g := (mkF m 162 #[.val (.int p0)] [(.int p0)])) rfl (hb hby d1_162) _ ?_
      show Steps p.tables e below (s₁.setTop (mkF m 164 #[.val (.int p0)] [(.int (65008 : Int32)), (.int p0)])) _
      refine XS.icmpYes X0.here hx rfl (pc0 := 164) (pc' := 173) rfl (hb hby d1_164) rfl (tlt ((own_ltI (by decide)).mpr (by omega : p0.toInt < 65008) : p0 < (65008 : Int32))).1 (by decide) (by decide) ?_
      show Steps p.tables e below (s₁.setTop (mkF m 173 #[.val (.int p0)] [])) _
      refine XS.iloadN X0.here hx rfl (hb hby d1_173) rfl ?_
      show Steps p.tables e below (s₁.setTop (mkF m 174 #[.val (.int p0)] [(.int p0)])) _
      refine X0.ldcInt hx hown (mvT hZ (hw _ (List.mem_of_getElem? (i := 6) rfl))) (g := (mkF m 174 #[.val (.int p0)] [(.int p0)])) rfl (hb hby d1_174) _ ?_
      show Steps p.tables e below (s₁.setTop (mkF m 176 #[.val (.int p0)] [(.int (65536 : Int32)), (.int p0)])) _
      refine XS.icmpYes X0.here hx rfl (pc0 := 176) (pc' := 189) rfl (hb hby d1_176) rfl (tlt ((own_ltI (by decide)).mpr (by omega : p0.toInt < 65536) : p0 < (65536 : Int32))).1 (by decide) (by decide) ?_
      show Steps p.tables e below (s₁.setTop (mkF m 189 #[.val (.int p0)] [])) _
      refine XS.iconst X0.here hx rfl (hb hby d1_189) ?_
      exact kt)
    clear pre1
    have hv : f1 p0 = (0 : Int32) := by
      unfold f1
      rw [if_pos hc3_2]
    obtain ⟨fs, hr, hrun, hended, hW, hsame⟩ := X0.leave (v := some (.int (f1 p0))) (fun h => by rw [Bd.returns] at h; cases h)
    refine ⟨_, _, pre3 _ ?_, hrun, hended, _, _, rfl, ?_, ⟨_, rfl⟩, hW, hsame.mono (by decide) (by decide)⟩
    · rw [hv] at hr
      show Steps p.tables e below (s₁.setTop (mkF m 190 #[.val (.int p0)] [(.int (0 : Int32))])) _
      exact retN X0 hx (t := .boolean) Bd.returns (by simp) (hb hby d1_190) hr
    · show Q1 Z p0 h0 n0 _ s₁.heap _
      rw [e0]
      exact ⟨rfl, N0, rfl⟩
  · have hc3_2z : ¬ (p0.toInt < 65) := fun q => hc3_2 ((own_ltI (by decide)).mpr q)
    have pre4 : ∀ t, Steps p.tables e below (s₁.setTop (mkF m 9 #[.val (.int p0)] [(.int (90 : Int32)), (.int p0)])) t → Steps p.tables e below (s₁.setTop (entryFrame m #[(.int p0)] 1)) t := fun t kt => pre1 t (by
      show Steps p.tables e below (s₁.setTop (mkF m 3 #[.val (.int p0)] [(.int (65 : Int32)), (.int p0)])) _
      refine XS.icmpNo X0.here hx rfl (hb hby d1_3) rfl (flt hc3_2).1 ?_
      show Steps p.tables e below (s₁.setTop (mkF m 6 #[.val (.int p0)] [])) _
      refine XS.iloadN X0.here hx rfl (hb hby d1_6) rfl ?_
      show Steps p.tables e below (s₁.setTop (mkF m 7 #[.val (.int p0)] [(.int p0)])) _
      refine XS.bipush X0.here hx rfl (hb hby d1_7) ?_
      exact kt)
    clear pre1
    by_cases hc9_5 : (90 : Int32) < p0
    · have hc9_5z : 90 < p0.toInt := (own_gtI (by decide)).mp hc9_5
      have pre6 : ∀ t, Steps p.tables e below (s₁.setTop (mkF m 15 #[.val (.int p0)] [(.int (97 : Int32)), (.int p0)])) t → Steps p.tables e below (s₁.setTop (entryFrame m #[(.int p0)] 1)) t := fun t kt => pre4 t (by
        show Steps p.tables e below (s₁.setTop (mkF m 9 #[.val (.int p0)] [(.int (90 : Int32)), (.int p0)])) _
        refine XS.icmpNo X0.here hx rfl (hb hby d1_9) rfl (tlt hc9_5).2.2.2 ?_
        show Steps p.tables e below (s₁.setTop (mkF m 12 #[.val (.int p0)] [])) _
        refine XS.iloadN X0.here hx rfl (hb hby d1_12) rfl ?_
        show Steps p.tables e below (s₁.setTop (mkF m 13 #[.val (.int p0)] [(.int p0)])) _
        refine XS.bipush X0.here hx rfl (hb hby d1_13) ?_
        exact kt)
      clear pre4
      by_cases hc15_7 : p0 < (97 : Int32)
      · have hc15_7z : p0.toInt < 97 := (own_ltI (by decide)).mp hc15_7
        have pre8 : ∀ t, Steps p.tables e below (s₁.setTop (mkF m 190 #[.val (.int p0)] [(.int (0 : Int32))])) t → Steps p.tables e below (s₁.setTop (entryFrame m #[(.int p0)] 1)) t := fun t kt => pre6 t (by
          show Steps p.tables e below (s₁.setTop (mkF m 15 #[.val (.int p0)] [(.int (97 : Int32)), (.int p0)])) _
          refine XS.icmpYes X0.here hx rfl (pc0 := 15) (pc' := 24) rfl (hb hby d1_15) rfl (tlt hc15_7).1 (by decide) (by decide) ?_
          show Steps p.tables e below (s₁.setTop (mkF m 24 #[.val (.int p0)] [])) _
          refine XS.iloadN X0.here hx rfl (hb hby d1_24) rfl ?_
          show Steps p.tables e below (s₁.setTop (mkF m 25 #[.val (.int p0)] [(.int p0)])) _
          refine XS.sipush X0.here hx rfl (hb hby d1_25) ?_
          show Steps p.tables e below (s₁.setTop (mkF m 28 #[.val (.int p0)] [(.int (192 : Int32)), (.int p0)])) _
          refine XS.icmpYes X0.here hx rfl (pc0 := 28) (pc' := 38) rfl (hb hby d1_28) rfl (tlt ((own_ltI (by decide)).mpr (by omega : p0.toInt < 192) : p0 < (192 : Int32))).1 (by decide) (by decide) ?_
          show Steps p.tables e below (s₁.setTop (mkF m 38 #[.val (.int p0)] [])) _
          refine XS.iloadN X0.here hx rfl (hb hby d1_38) rfl ?_
          show Steps p.tables e below (s₁.setTop (mkF m 39 #[.val (.int p0)] [(.int p0)])) _
          refine XS.sipush X0.here hx rfl (hb hby d1_39) ?_
          show Steps p.tables e below (s₁.setTop (mkF m 42 #[.val (.int p0)] [(.int (216 : Int32)), (.int p0)])) _
          refine XS.icmpYes X0.here hx rfl (pc0 := 42) (pc' := 52) rfl (hb hby d1_42) rfl (tlt ((own_ltI (by decide)).mpr (by omega : p0.toInt < 216) : p0 < (216 : Int32))).1 (by decide) (by decide) ?_
          show Steps p.tables e below (s₁.setTop (mkF m 52 #[.val (.int p0)] [])) _
          refine XS.iloadN X0.here hx rfl (hb hby d1_52) rfl ?_
          show Steps p.tables e below (s₁.setTop (mkF m 53 #[.val (.int p0)] [(.int p0)])) _
          refine XS.sipush X0.here hx rfl (hb hby d1_53) ?_
          show Steps p.tables e below (s₁.setTop (mkF m 56 #[.val (.int p0)] [(.int (248 : Int32)), (.int p0)])) _
          refine XS.icmpYes X0.here hx rfl (pc0 := 56) (pc' := 66) rfl (hb hby d1_56) rfl (tlt ((own_ltI (by decide)).mpr (by omega : p0.toInt < 248) : p0 < (248 : Int32))).1 (by decide) (by decide) ?_
          show Steps p.tables e below (s₁.setTop (mkF m 66 #[.val (.int p0)] [])) _
          refine XS.iloadN X0.here hx rfl (hb hby d1_66) rfl ?_
          show Steps p.tables e below (s₁.setTop (mkF m 67 #[.val (.int p0)] [(.int p0)])) _
          refine XS.sipush X0.here hx rfl (hb hby d1_67) ?_
          show Steps p.tables e below (s₁.setTop (mkF m 70 #[.val (.int p0)] [(.int (880 : Int32)), (.int p0)])) _
          refine XS.icmpYes X0.here hx rfl (pc0 := 70) (pc' := 80) rfl (hb hby d1_70) rfl (tlt ((own_ltI (by decide)).mpr (by omega : p0.toInt < 880) : p0 < (880 : Int32))).1 (by decide) (by decide) ?_
          show Steps p.tables e below (s₁.setTop (mkF m 80 #[.val (.int p0)] [])) _
          refine XS.iloadN X0.here hx rfl (hb hby d1_80) rfl ?_
          show Steps p.tables e below (s₁.setTop (mkF m 81 #[.val (.int p0)] [(.int p0)])) _
          refine XS.sipush X0.here hx rfl (hb hby d1_81) ?_
          show Steps p.tables e below (s₁.setTop (mkF m 84 #[.val (.int p0)] [(.int (895 : Int32)), (.int p0)])) _
          refine XS.icmpYes X0.here hx rfl (pc0 := 84) (pc' := 94) rfl (hb hby d1_84) rfl (tlt ((own_ltI (by decide)).mpr (by omega : p0.toInt < 895) : p0 < (895 : Int32))).1 (by decide) (by decide) ?_
          show Steps p.tables e below (s₁.setTop (mkF m 94 #[.val (.int p0)] [])) _
          refine XS.iloadN X0.here hx rfl (hb hby d1_94) rfl ?_
          show Steps p.tables e below (s₁.setTop (mkF m 95 #[.val (.int p0)] [(.int p0)])) _
          refine XS.sipush X0.here hx rfl (hb hby d1_95) ?_
          show Steps p.tables e below (s₁.setTop (mkF m 98 #[.val (.int p0)] [(.int (8204 : Int32)), (.int p0)])) _
          refine XS.icmpYes X0.here hx rfl (pc0 := 98) (pc' := 108) rfl (hb hby d1_98) rfl (tlt ((own_ltI (by decide)).mpr (by omega : p0.toInt < 8204) : p0 < (8204 : Int32))).1 (by decide) (by decide) ?_
          show Steps p.tables e below (s₁.setTop (mkF m 108 #[.val (.int p0)] [])) _
          refine XS.iloadN X0.here hx rfl (hb hby d1_108) rfl ?_
          show Steps p.tables e below (s₁.setTop (mkF m 109 #[.val (.int p0)] [(.int p0)])) _
          refine XS.sipush X0.here hx rfl (hb hby d1_109) ?_
          show Steps p.tables e below (s₁.setTop (mkF m 112 #[.val (.int p0)] [(.int (8304 : Int32)), (.int p0)])) _
          refine XS.icmpYes X0.here hx rfl (pc0 := 112) (pc' := 122) rfl (hb hby d1_112) rfl (tlt ((own_ltI (by decide)).mpr (by omega : p0.toInt < 8304) : p0 < (8304 : Int32))).1 (by decide) (by decide) ?_
          show Steps p.tables e below (s₁.setTop (mkF m 122 #[.val (.int p0)] [])) _
          refine XS.iloadN X0.here hx rfl (hb hby d1_122) rfl ?_
          show Steps p.tables e below (s₁.setTop (mkF m 123 #[.val (.int p0)] [(.int p0)])) _
          refine XS.sipush X0.here hx rfl (hb hby d1_123) ?_
          show Steps p.tables e below (s₁.setTop (mkF m 126 #[.val (.int p0)] [(.int (11264 : Int32)), (.int p0)])) _
          refine XS.icmpYes X0.here hx rfl (pc0 := 126) (pc' := 136) rfl (hb hby d1_126) rfl (tlt ((own_ltI (by decide)).mpr (by omega : p0.toInt < 11264) : p0 < (11264 : Int32))).1 (by decide) (by decide) ?_
          show Steps p.tables e below (s₁.setTop (mkF m 136 #[.val (.int p0)] [])) _
          refine XS.iloadN X0.here hx rfl (hb hby d1_136) rfl ?_
          show Steps p.tables e below (s₁.setTop (mkF m 137 #[.val (.int p0)] [(.int p0)])) _
          refine XS.sipush X0.here hx rfl (hb hby d1_137) ?_
          show Steps p.tables e below (s₁.setTop (mkF m 140 #[.val (.int p0)] [(.int (12289 : Int32)), (.int p0)])) _
          refine XS.icmpYes X0.here hx rfl (pc0 := 140) (pc' := 149) rfl (hb hby d1_140) rfl (tlt ((own_ltI (by decide)).mpr (by omega : p0.toInt < 12289) : p0 < (12289 : Int32))).1 (by decide) (by decide) ?_
          show Steps p.tables e below (s₁.setTop (mkF m 149 #[.val (.int p0)] [])) _
          refine XS.iloadN X0.here hx rfl (hb hby d1_149) rfl ?_
          show Steps p.tables e below (s₁.setTop (mkF m 150 #[.val (.int p0)] [(.int p0)])) _
          refine X0.ldcInt hx hown (mvT hZ (hw _ (List.mem_of_getElem? (i := 4) rfl))) (g := (mkF m 150 #[.val (.int p0)] [(.int p0)])) rfl (hb hby d1_150) _ ?_
          show Steps p.tables e below (s₁.setTop (mkF m 152 #[.val (.int p0)] [(.int (63744 : Int32)), (.int p0)])) _
          refine XS.icmpYes X0.here hx rfl (pc0 := 152) (pc' := 161) rfl (hb hby d1_152) rfl (tlt ((own_ltI (by decide)).mpr (by omega : p0.toInt < 63744) : p0 < (63744 : Int32))).1 (by decide) (by decide) ?_
          show Steps p.tables e below (s₁.setTop (mkF m 161 #[.val (.int p0)] [])) _
          refine XS.iloadN X0.here hx rfl (hb hby d1_161) rfl ?_
          show Steps p.tables e below (s₁.setTop (mkF m 162 #[.val (.int p0)] [(.int p0)])) _
          refine X0.ldcInt hx hown (mvT hZ (hw _ (List.mem_of_getElem? (i := 5) rfl))) (g := (mkF m 162 #[.val (.int p0)] [(.int p0)])) rfl (hb hby d1_162) _ ?_
          show Steps p.tables e below (s₁.setTop (mkF m 164 #[.val (.int p0)] [(.int (65008 : Int32)), (.int p0)])) _
          refine XS.icmpYes X0.here hx rfl (pc0 := 164) (pc' := 173) rfl (hb hby d1_164) rfl (tlt ((own_ltI (by decide)).mpr (by omega : p0.toInt < 65008) : p0 < (65008 : Int32))).1 (by decide) (by decide) ?_
          show Steps p.tables e below (s₁.setTop (mkF m 173 #[.val (.int p0)] [])) _
          refine XS.iloadN X0.here hx rfl (hb hby d1_173) rfl ?_
          show Steps p.tables e below (s₁.setTop (mkF m 174 #[.val (.int p0)] [(.int p0)])) _
          refine X0.ldcInt hx hown (mvT hZ (hw _ (List.mem_of_getElem? (i := 6) rfl))) (g := (mkF m 174 #[.val (.int p0)] [(.int p0)])) rfl (hb hby d1_174) _ ?_
          show Steps p.tables e below (s₁.setTop (mkF m 176 #[.val (.int p0)] [(.int (65536 : Int32)), (.int p0)])) _
          refine XS.icmpYes X0.here hx rfl (pc0 := 176) (pc' := 189) rfl (hb hby d1_176) rfl (tlt ((own_ltI (by decide)).mpr (by omega : p0.toInt < 65536) : p0 < (65536 : Int32))).1 (by decide) (by decide) ?_
          show Steps p.tables e below (s₁.setTop (mkF m 189 #[.val (.int p0)] [])) _
          refine XS.iconst X0.here hx rfl (hb hby d1_189) ?_
          exact kt)
        clear pre6
        have hv : f1 p0 = (0 : Int32) := by
          unfold f1
          rw [if_neg hc3_2, if_pos hc9_5, if_pos hc15_7]
        obtain ⟨fs, hr, hrun, hended, hW, hsame⟩ := X0.leave (v := some (.int (f1 p0))) (fun h => by rw [Bd.returns] at h; cases h)
        refine ⟨_, _, pre8 _ ?_, hrun, hended, _, _, rfl, ?_, ⟨_, rfl⟩, hW, hsame.mono (by decide) (by decide)⟩
        · rw [hv] at hr
          show Steps p.tables e below (s₁.setTop (mkF m 190 #[.val (.int p0)] [(.int (0 : Int32))])) _
          exact retN X0 hx (t := .boolean) Bd.returns (by simp) (hb hby d1_190) hr
        · show Q1 Z p0 h0 n0 _ s₁.heap _
          rw [e0]
          exact ⟨rfl, N0, rfl⟩
      · have hc15_7z : ¬ (p0.toInt < 97) := fun q => hc15_7 ((own_ltI (by decide)).mpr q)
        have pre9 : ∀ t, Steps p.tables e below (s₁.setTop (mkF m 21 #[.val (.int p0)] [(.int (122 : Int32)), (.int p0)])) t → Steps p.tables e below (s₁.setTop (entryFrame m #[(.int p0)] 1)) t := fun t kt => pre6 t (by
          show Steps p.tables e below (s₁.setTop (mkF m 15 #[.val (.int p0)] [(.int (97 : Int32)), (.int p0)])) _
          refine XS.icmpNo X0.here hx rfl (hb hby d1_15) rfl (flt hc15_7).1 ?_
          show Steps p.tables e below (s₁.setTop (mkF m 18 #[.val (.int p0)] [])) _
          refine XS.iloadN X0.here hx rfl (hb hby d1_18) rfl ?_
          show Steps p.tables e below (s₁.setTop (mkF m 19 #[.val (.int p0)] [(.int p0)])) _
          refine XS.bipush X0.here hx rfl (hb hby d1_19) ?_
          exact kt)
        clear pre6
        by_cases hc21_10 : (122 : Int32) < p0
        · have hc21_10z : 122 < p0.toInt := (own_gtI (by decide)).mp hc21_10
          have pre11 : ∀ t, Steps p.tables e below (s₁.setTop (mkF m 28 #[.val (.int p0)] [(.int (192 : Int32)), (.int p0)])) t → Steps p.tables e below (s₁.setTop (entryFrame m #[(.int p0)] 1)) t := fun t kt => pre9 t (by
            show Steps p.tables e below (s₁.setTop (mkF m 21 #[.val (.int p0)] [(.int (122 : Int32)), (.int p0)])) _
            refine XS.icmpNo X0.here hx rfl (hb hby d1_21) rfl (tlt hc21_10).2.2.2 ?_
            show Steps p.tables e below (s₁.setTop (mkF m 24 #[.val (.int p0)] [])) _
            refine XS.iloadN X0.here hx rfl (hb hby d1_24) rfl ?_
            show Steps p.tables e below (s₁.setTop (mkF m 25 #[.val (.int p0)] [(.int p0)])) _
            refine XS.sipush X0.here hx rfl (hb hby d1_25) ?_
            exact kt)
          clear pre9
          by_cases hc28_12 : p0 < (192 : Int32)
          · have hc28_12z : p0.toInt < 192 := (own_ltI (by decide)).mp hc28_12
            have pre13 : ∀ t, Steps p.tables e below (s₁.setTop (mkF m 190 #[.val (.int p0)] [(.int (0 : Int32))])) t → Steps p.tables e below (s₁.setTop (entryFrame m #[(.int p0)] 1)) t := fun t kt => pre11 t (by
              show Steps p.tables e below (s₁.setTop (mkF m 28 #[.val (.int p0)] [(.int (192 : Int32)), (.int p0)])) _
              refine XS.icmpYes X0.here hx rfl (pc0 := 28) (pc' := 38) rfl (hb hby d1_28) rfl (tlt hc28_12).1 (by decide) (by decide) ?_
              show Steps p.tables e below (s₁.setTop (mkF m 38 #[.val (.int p0)] [])) _
              refine XS.iloadN X0.here hx rfl (hb hby d1_38) rfl ?_
              show Steps p.tables e below (s₁.setTop (mkF m 39 #[.val (.int p0)] [(.int p0)])) _
              refine XS.sipush X0.here hx rfl (hb hby d1_39) ?_
              show Steps p.tables e below (s₁.setTop (mkF m 42 #[.val (.int p0)] [(.int (216 : Int32)), (.int p0)])) _
              refine XS.icmpYes X0.here hx rfl (pc0 := 42) (pc' := 52) rfl (hb hby d1_42) rfl (tlt ((own_ltI (by decide)).mpr (by omega : p0.toInt < 216) : p0 < (216 : Int32))).1 (by decide) (by decide) ?_
              show Steps p.tables e below (s₁.setTop (mkF m 52 #[.val (.int p0)] [])) _
              refine XS.iloadN X0.here hx rfl (hb hby d1_52) rfl ?_
              show Steps p.tables e below (s₁.setTop (mkF m 53 #[.val (.int p0)] [(.int p0)])) _
              refine XS.sipush X0.here hx rfl (hb hby d1_53) ?_
              show Steps p.tables e below (s₁.setTop (mkF m 56 #[.val (.int p0)] [(.int (248 : Int32)), (.int p0)])) _
              refine XS.icmpYes X0.here hx rfl (pc0 := 56) (pc' := 66) rfl (hb hby d1_56) rfl (tlt ((own_ltI (by decide)).mpr (by omega : p0.toInt < 248) : p0 < (248 : Int32))).1 (by decide) (by decide) ?_
              show Steps p.tables e below (s₁.setTop (mkF m 66 #[.val (.int p0)] [])) _
              refine XS.iloadN X0.here hx rfl (hb hby d1_66) rfl ?_
              show Steps p.tables e below (s₁.setTop (mkF m 67 #[.val (.int p0)] [(.int p0)])) _
              refine XS.sipush X0.here hx rfl (hb hby d1_67) ?_
              show Steps p.tables e below (s₁.setTop (mkF m 70 #[.val (.int p0)] [(.int (880 : Int32)), (.int p0)])) _
              refine XS.icmpYes X0.here hx rfl (pc0 := 70) (pc' := 80) rfl (hb hby d1_70) rfl (tlt ((own_ltI (by decide)).mpr (by omega : p0.toInt < 880) : p0 < (880 : Int32))).1 (by decide) (by decide) ?_
              show Steps p.tables e below (s₁.setTop (mkF m 80 #[.val (.int p0)] [])) _
              refine XS.iloadN X0.here hx rfl (hb hby d1_80) rfl ?_
              show Steps p.tables e below (s₁.setTop (mkF m 81 #[.val (.int p0)] [(.int p0)])) _
              refine XS.sipush X0.here hx rfl (hb hby d1_81) ?_
              show Steps p.tables e below (s₁.setTop (mkF m 84 #[.val (.int p0)] [(.int (895 : Int32)), (.int p0)])) _
              refine XS.icmpYes X0.here hx rfl (pc0 := 84) (pc' := 94) rfl (hb hby d1_84) rfl (tlt ((own_ltI (by decide)).mpr (by omega : p0.toInt < 895) : p0 < (895 : Int32))).1 (by decide) (by decide) ?_
              show Steps p.tables e below (s₁.setTop (mkF m 94 #[.val (.int p0)] [])) _
              refine XS.iloadN X0.here hx rfl (hb hby d1_94) rfl ?_
              show Steps p.tables e below (s₁.setTop (mkF m 95 #[.val (.int p0)] [(.int p0)])) _
              refine XS.sipush X0.here hx rfl (hb hby d1_95) ?_
              show Steps p.tables e below (s₁.setTop (mkF m 98 #[.val (.int p0)] [(.int (8204 : Int32)), (.int p0)])) _
              refine XS.icmpYes X0.here hx rfl (pc0 := 98) (pc' := 108) rfl (hb hby d1_98) rfl (tlt ((own_ltI (by decide)).mpr (by omega : p0.toInt < 8204) : p0 < (8204 : Int32))).1 (by decide) (by decide) ?_
              show Steps p.tables e below (s₁.setTop (mkF m 108 #[.val (.int p0)] [])) _
              refine XS.iloadN X0.here hx rfl (hb hby d1_108) rfl ?_
              show Steps p.tables e below (s₁.setTop (mkF m 109 #[.val (.int p0)] [(.int p0)])) _
              refine XS.sipush X0.here hx rfl (hb hby d1_109) ?_
              show Steps p.tables e below (s₁.setTop (mkF m 112 #[.val (.int p0)] [(.int (8304 : Int32)), (.int p0)])) _
              refine XS.icmpYes X0.here hx rfl (pc0 := 112) (pc' := 122) rfl (hb hby d1_112) rfl (tlt ((own_ltI (by decide)).mpr (by omega : p0.toInt < 8304) : p0 < (8304 : Int32))).1 (by decide) (by decide) ?_
              show Steps p.tables e below (s₁.setTop (mkF m 122 #[.val (.int p0)] [])) _
              refine XS.iloadN X0.here hx rfl (hb hby d1_122) rfl ?_
              show Steps p.tables e below (s₁.setTop (mkF m 123 #[.val (.int p0)] [(.int p0)])) _
              refine XS.sipush X0.here hx rfl (hb hby d1_123) ?_
              show Steps p.tables e below (s₁.setTop (mkF m 126 #[.val (.int p0)] [(.int (11264 : Int32)), (.int p0)])) _
              refine XS.icmpYes X0.here hx rfl (pc0 := 126) (pc' := 136) rfl (hb hby d1_126) rfl (tlt ((own_ltI (by decide)).mpr (by omega : p0.toInt < 11264) : p0 < (11264 : Int32))).1 (by decide) (by decide) ?_
              show Steps p.tables e below (s₁.setTop (mkF m 136 #[.val (.int p0)] [])) _
              refine XS.iloadN X0.here hx rfl (hb hby d1_136) rfl ?_
              show Steps p.tables e below (s₁.setTop (mkF m 137 #[.val (.int p0)] [(.int p0)])) _
              refine XS.sipush X0.here hx rfl (hb hby d1_137) ?_
              show Steps p.tables e below (s₁.setTop (mkF m 140 #[.val (.int p0)] [(.int (12289 : Int32)), (.int p0)])) _
              refine XS.icmpYes X0.here hx rfl (pc0 := 140) (pc' := 149) rfl (hb hby d1_140) rfl (tlt ((own_ltI (by decide)).mpr (by omega : p0.toInt < 12289) : p0 < (12289 : Int32))).1 (by decide) (by decide) ?_
              show Steps p.tables e below (s₁.setTop (mkF m 149 #[.val (.int p0)] [])) _
              refine XS.iloadN X0.here hx rfl (hb hby d1_149) rfl ?_
              show Steps p.tables e below (s₁.setTop (mkF m 150 #[.val (.int p0)] [(.int p0)])) _
              refine X0.ldcInt hx hown (mvT hZ (hw _ (List.mem_of_getElem? (i := 4) rfl))) (g := (mkF m 150 #[.val (.int p0)] [(.int p0)])) rfl (hb hby d1_150) _ ?_
              show Steps p.tables e below (s₁.setTop (mkF m 152 #[.val (.int p0)] [(.int (63744 : Int32)), (.int p0)])) _
              refine XS.icmpYes X0.here hx rfl (pc0 := 152) (pc' := 161) rfl (hb hby d1_152) rfl (tlt ((own_ltI (by decide)).mpr (by omega : p0.toInt < 63744) : p0 < (63744 : Int32))).1 (by decide) (by decide) ?_
              show Steps p.tables e below (s₁.setTop (mkF m 161 #[.val (.int p0)] [])) _
              refine XS.iloadN X0.here hx rfl (hb hby d1_161) rfl ?_
              show Steps p.tables e below (s₁.setTop (mkF m 162 #[.val (.int p0)] [(.int p0)])) _
              refine X0.ldcInt hx hown (mvT hZ (hw _ (List.mem_of_getElem? (i := 5) rfl))) (g := (mkF m 162 #[.val (.int p0)] [(.int p0)])) rfl (hb hby d1_162) _ ?_
              show Steps p.tables e below (s₁.setTop (mkF m 164 #[.val (.int p0)] [(.int (65008 : Int32)), (.int p0)])) _
              refine XS.icmpYes X0.here hx rfl (pc0 := 164) (pc' := 173) rfl (hb hby d1_164) rfl (tlt ((own_ltI (by decide)).mpr (by omega : p0.toInt < 65008) : p0 < (65008 : Int32))).1 (by decide) (by decide) ?_
              show Steps p.tables e below (s₁.setTop (mkF m 173 #[.val (.int p0)] [])) _
              refine XS.iloadN X0.here hx rfl (hb hby d1_173) rfl ?_
              show Steps p.tables e below (s₁.setTop (mkF m 174 #[.val (.int p0)] [(.int p0)])) _
              refine X0.ldcInt hx hown (mvT hZ (hw _ (List.mem_of_getElem? (i := 6) rfl))) (g := (mkF m 174 #[.val (.int p0)] [(.int p0)])) rfl (hb hby d1_174) _ ?_
              show Steps p.tables e below (s₁.setTop (mkF m 176 #[.val (.int p0)] [(.int (65536 : Int32)), (.int p0)])) _
              refine XS.icmpYes X0.here hx rfl (pc0 := 176) (pc' := 189) rfl (hb hby d1_176) rfl (tlt ((own_ltI (by decide)).mpr (by omega : p0.toInt < 65536) : p0 < (65536 : Int32))).1 (by decide) (by decide) ?_
              show Steps p.tables e below (s₁.setTop (mkF m 189 #[.val (.int p0)] [])) _
              refine XS.iconst X0.here hx rfl (hb hby d1_189) ?_
              exact kt)
            clear pre11
            have hv : f1 p0 = (0 : Int32) := by
              unfold f1
              rw [if_neg hc3_2, if_pos hc9_5, if_neg hc15_7, if_pos hc21_10, if_pos hc28_12]
            obtain ⟨fs, hr, hrun, hended, hW, hsame⟩ := X0.leave (v := some (.int (f1 p0))) (fun h => by rw [Bd.returns] at h; cases h)
            refine ⟨_, _, pre13 _ ?_, hrun, hended, _, _, rfl, ?_, ⟨_, rfl⟩, hW, hsame.mono (by decide) (by decide)⟩
            · rw [hv] at hr
              show Steps p.tables e below (s₁.setTop (mkF m 190 #[.val (.int p0)] [(.int (0 : Int32))])) _
              exact retN X0 hx (t := .boolean) Bd.returns (by simp) (hb hby d1_190) hr
            · show Q1 Z p0 h0 n0 _ s₁.heap _
              rw [e0]
              exact ⟨rfl, N0, rfl⟩
          · have hc28_12z : ¬ (p0.toInt < 192) := fun q => hc28_12 ((own_ltI (by decide)).mpr q)
            have pre14 : ∀ t, Steps p.tables e below (s₁.setTop (mkF m 35 #[.val (.int p0)] [(.int (214 : Int32)), (.int p0)])) t → Steps p.tables e below (s₁.setTop (entryFrame m #[(.int p0)] 1)) t := fun t kt => pre11 t (by
              show Steps p.tables e below (s₁.setTop (mkF m 28 #[.val (.int p0)] [(.int (192 : Int32)), (.int p0)])) _
              refine XS.icmpNo X0.here hx rfl (hb hby d1_28) rfl (flt hc28_12).1 ?_
              show Steps p.tables e below (s₁.setTop (mkF m 31 #[.val (.int p0)] [])) _
              refine XS.iloadN X0.here hx rfl (hb hby d1_31) rfl ?_
              show Steps p.tables e below (s₁.setTop (mkF m 32 #[.val (.int p0)] [(.int p0)])) _
              refine XS.sipush X0.here hx rfl (hb hby d1_32) ?_
              exact kt)
            clear pre11
            by_cases hc35_15 : (214 : Int32) < p0
            · have hc35_15z : 214 < p0.toInt := (own_gtI (by decide)).mp hc35_15
              have pre16 : ∀ t, Steps p.tables e below (s₁.setTop (mkF m 42 #[.val (.int p0)] [(.int (216 : Int32)), (.int p0)])) t → Steps p.tables e below (s₁.setTop (entryFrame m #[(.int p0)] 1)) t := fun t kt => pre14 t (by
                show Steps p.tables e below (s₁.setTop (mkF m 35 #[.val (.int p0)] [(.int (214 : Int32)), (.int p0)])) _
                refine XS.icmpNo X0.here hx rfl (hb hby d1_35) rfl (tlt hc35_15).2.2.2 ?_
                show Steps p.tables e below (s₁.setTop (mkF m 38 #[.val (.int p0)] [])) _
                refine XS.iloadN X0.here hx rfl (hb hby d1_38) rfl ?_
                show Steps p.tables e below (s₁.setTop (mkF m 39 #[.val (.int p0)] [(.int p0)])) _
                refine XS.sipush X0.here hx rfl (hb hby d1_39) ?_
                exact kt)
              clear pre14
              by_cases hc42_17 : p0 < (216 : Int32)
              · have hc42_17z : p0.toInt < 216 := (own_ltI (by decide)).mp hc42_17
                have pre18 : ∀ t, Steps p.tables e below (s₁.setTop (mkF m 190 #[.val (.int p0)] [(.int (0 : Int32))])) t → Steps p.tables e below (s₁.setTop (entryFrame m #[(.int p0)] 1)) t := fun t kt => pre16 t (by
                  show Steps p.tables e below (s₁.setTop (mkF m 42 #[.val (.int p0)] [(.int (216 : Int32)), (.int p0)])) _
                  refine XS.icmpYes X0.here hx rfl (pc0 := 42) (pc' := 52) rfl (hb hby d1_42) rfl (tlt hc42_17).1 (by decide) (by decide) ?_
                  show Steps p.tables e below (s₁.setTop (mkF m 52 #[.val (.int p0)] [])) _
                  refine XS.iloadN X0.here hx rfl (hb hby d1_52) rfl ?_
                  show Steps p.tables e below (s₁.setTop (mkF m 53 #[.val (.int p0)] [(.int p0)])) _
                  refine XS.sipush X0.here hx rfl (hb hby d1_53) ?_
                  show Steps p.tables e below (s₁.setTop (mkF m 56 #[.val (.int p0)] [(.int (248 : Int32)), (.int p0)])) _
                  refine XS.icmpYes X0.here hx rfl (pc0 := 56) (pc' := 66) rfl (hb hby d1_56) rfl (tlt ((own_ltI (by decide)).mpr (by omega : p0.toInt < 248) : p0 < (248 : Int32))).1 (by decide) (by decide) ?_
                  show Steps p.tables e below (s₁.setTop (mkF m 66 #[.val (.int p0)] [])) _
                  refine XS.iloadN X0.here hx rfl (hb hby d1_66) rfl ?_
                  show Steps p.tables e below (s₁.setTop (mkF m 67 #[.val (.int p0)] [(.int p0)])) _
                  refine XS.sipush X0.here hx rfl (hb hby d1_67) ?_
                  show Steps p.tables e below (s₁.setTop (mkF m 70 #[.val (.int p0)] [(.int (880 : Int32)), (.int p0)])) _
                  refine XS.icmpYes X0.here hx rfl (pc0 := 70) (pc' := 80) rfl (hb hby d1_70) rfl (tlt ((own_ltI (by decide)).mpr (by omega : p0.toInt < 880) : p0 < (880 : Int32))).1 (by decide) (by decide) ?_
                  show Steps p.tables e below (s₁.setTop (mkF m 80 #[.val (.int p0)] [])) _
                  refine XS.iloadN X0.here hx rfl (hb hby d1_80) rfl ?_
                  show Steps p.tables e below (s₁.setTop (mkF m 81 #[.val (.int p0)] [(.int p0)])) _
                  refine XS.sipush X0.here hx rfl (hb hby d1_81) ?_
                  show Steps p.tables e below (s₁.setTop (mkF m 84 #[.val (.int p0)] [(.int (895 : Int32)), (.int p0)])) _
                  refine XS.icmpYes X0.here hx rfl (pc0 := 84) (pc' := 94) rfl (hb hby d1_84) rfl (tlt ((own_ltI (by decide)).mpr (by omega : p0.toInt < 895) : p0 < (895 : Int32))).1 (by decide) (by decide) ?_
                  show Steps p.tables e below (s₁.setTop (mkF m 94 #[.val (.int p0)] [])) _
                  refine XS.iloadN X0.here hx rfl (hb hby d1_94) rfl ?_
                  show Steps p.tables e below (s₁.setTop (mkF m 95 #[.val (.int p0)] [(.int p0)])) _
                  refine XS.sipush X0.here hx rfl (hb hby d1_95) ?_
                  show Steps p.tables e below (s₁.setTop (mkF m 98 #[.val (.int p0)] [(.int (8204 : Int32)), (.int p0)])) _
                  refine XS.icmpYes X0.here hx rfl (pc0 := 98) (pc' := 108) rfl (hb hby d1_98) rfl (tlt ((own_ltI (by decide)).mpr (by omega : p0.toInt < 8204) : p0 < (8204 : Int32))).1 (by decide) (by decide) ?_
                  show Steps p.tables e below (s₁.setTop (mkF m 108 #[.val (.int p0)] [])) _
                  refine XS.iloadN X0.here hx rfl (hb hby d1_108) rfl ?_
                  show Steps p.tables e below (s₁.setTop (mkF m 109 #[.val (.int p0)] [(.int p0)])) _
                  refine XS.sipush X0.here hx rfl (hb hby d1_109) ?_
                  show Steps p.tables e below (s₁.setTop (mkF m 112 #[.val (.int p0)] [(.int (8304 : Int32)), (.int p0)])) _
                  refine XS.icmpYes X0.here hx rfl (pc0 := 112) (pc' := 122) rfl (hb hby d1_112) rfl (tlt ((own_ltI (by decide)).mpr (by omega : p0.toInt < 8304) : p0 < (8304 : Int32))).1 (by decide) (by decide) ?_
                  show Steps p.tables e below (s₁.setTop (mkF m 122 #[.val (.int p0)] [])) _
                  refine XS.iloadN X0.here hx rfl (hb hby d1_122) rfl ?_
                  show Steps p.tables e below (s₁.setTop (mkF m 123 #[.val (.int p0)] [(.int p0)])) _
                  refine XS.sipush X0.here hx rfl (hb hby d1_123) ?_
                  show Steps p.tables e below (s₁.setTop (mkF m 126 #[.val (.int p0)] [(.int (11264 : Int32)), (.int p0)])) _
                  refine XS.icmpYes X0.here hx rfl (pc0 := 126) (pc' := 136) rfl (hb hby d1_126) rfl (tlt ((own_ltI (by decide)).mpr (by omega : p0.toInt < 11264) : p0 < (11264 : Int32))).1 (by decide) (by decide) ?_
                  show Steps p.tables e below (s₁.setTop (mkF m 136 #[.val (.int p0)] [])) _
                  refine XS.iloadN X0.here hx rfl (hb hby d1_136) rfl ?_
                  show Steps p.tables e below (s₁.setTop (mkF m 137 #[.val (.int p0)] [(.int p0)])) _
                  refine XS.sipush X0.here hx rfl (hb hby d1_137) ?_
                  show Steps p.tables e below (s₁.setTop (mkF m 140 #[.val (.int p0)] [(.int (12289 : Int32)), (.int p0)])) _
                  refine XS.icmpYes X0.here hx rfl (pc0 := 140) (pc' := 149) rfl (hb hby d1_140) rfl (tlt ((own_ltI (by decide)).mpr (by omega : p0.toInt < 12289) : p0 < (12289 : Int32))).1 (by decide) (by decide) ?_
                  show Steps p.tables e below (s₁.setTop (mkF m 149 #[.val (.int p0)] [])) _
                  refine XS.iloadN X0.here hx rfl (hb hby d1_149) rfl ?_
                  show Steps p.tables e below (s₁.setTop (mkF m 150 #[.val (.int p0)] [(.int p0)])) _
                  refine X0.ldcInt hx hown (mvT hZ (hw _ (List.mem_of_getElem? (i := 4) rfl))) (g := (mkF m 150 #[.val (.int p0)] [(.int p0)])) rfl (hb hby d1_150) _ ?_
                  show Steps p.tables e below (s₁.setTop (mkF m 152 #[.val (.int p0)] [(.int (63744 : Int32)), (.int p0)])) _
                  refine XS.icmpYes X0.here hx rfl (pc0 := 152) (pc' := 161) rfl (hb hby d1_152) rfl (tlt ((own_ltI (by decide)).mpr (by omega : p0.toInt < 63744) : p0 < (63744 : Int32))).1 (by decide) (by decide) ?_
                  show Steps p.tables e below (s₁.setTop (mkF m 161 #[.val (.int p0)] [])) _
                  refine XS.iloadN X0.here hx rfl (hb hby d1_161) rfl ?_
                  show Steps p.tables e below (s₁.setTop (mkF m 162 #[.val (.int p0)] [(.int p0)])) _
                  refine X0.ldcInt hx hown (mvT hZ (hw _ (List.mem_of_getElem? (i := 5) rfl))) (g := (mkF m 162 #[.val (.int p0)] [(.int p0)])) rfl (hb hby d1_162) _ ?_
                  show Steps p.tables e below (s₁.setTop (mkF m 164 #[.val (.int p0)] [(.int (65008 : Int32)), (.int p0)])) _
                  refine XS.icmpYes X0.here hx rfl (pc0 := 164) (pc' := 173) rfl (hb hby d1_164) rfl (tlt ((own_ltI (by decide)).mpr (by omega : p0.toInt < 65008) : p0 < (65008 : Int32))).1 (by decide) (by decide) ?_
                  show Steps p.tables e below (s₁.setTop (mkF m 173 #[.val (.int p0)] [])) _
                  refine XS.iloadN X0.here hx rfl (hb hby d1_173) rfl ?_
                  show Steps p.tables e below (s₁.setTop (mkF m 174 #[.val (.int p0)] [(.int p0)])) _
                  refine X0.ldcInt hx hown (mvT hZ (hw _ (List.mem_of_getElem? (i := 6) rfl))) (g := (mkF m 174 #[.val (.int p0)] [(.int p0)])) rfl (hb hby d1_174) _ ?_
                  show Steps p.tables e below (s₁.setTop (mkF m 176 #[.val (.int p0)] [(.int (65536 : Int32)), (.int p0)])) _
                  refine XS.icmpYes X0.here hx rfl (pc0 := 176) (pc' := 189) rfl (hb hby d1_176) rfl (tlt ((own_ltI (by decide)).mpr (by omega : p0.toInt < 65536) : p0 < (65536 : Int32))).1 (by decide) (by decide) ?_
                  show Steps p.tables e below (s₁.setTop (mkF m 189 #[.val (.int p0)] [])) _
                  refine XS.iconst X0.here hx rfl (hb hby d1_189) ?_
                  exact kt)
                clear pre16
                have hv : f1 p0 = (0 : Int32) := by
                  unfold f1
                  rw [if_neg hc3_2, if_pos hc9_5, if_neg hc15_7, if_pos hc21_10, if_neg hc28_12, if_pos hc35_15, if_pos hc42_17]
                obtain ⟨fs, hr, hrun, hended, hW, hsame⟩ := X0.leave (v := some (.int (f1 p0))) (fun h => by rw [Bd.returns] at h; cases h)
                refine ⟨_, _, pre18 _ ?_, hrun, hended, _, _, rfl, ?_, ⟨_, rfl⟩, hW, hsame.mono (by decide) (by decide)⟩
                · rw [hv] at hr
                  show Steps p.tables e below (s₁.setTop (mkF m 190 #[.val (.int p0)] [(.int (0 : Int32))])) _
                  exact retN X0 hx (t := .boolean) Bd.returns (by simp) (hb hby d1_190) hr
                · show Q1 Z p0 h0 n0 _ s₁.heap _
                  rw [e0]
                  exact ⟨rfl, N0, rfl⟩
              · have hc42_17z : ¬ (p0.toInt < 216) := fun q => hc42_17 ((own_ltI (by decide)).mpr q)
                have pre19 : ∀ t, Steps p.tables e below (s₁.setTop (mkF m 49 #[.val (.int p0)] [(.int (246 : Int32)), (.int p0)])) t → Steps p.tables e below (s₁.setTop (entryFrame m #[(.int p0)] 1)) t := fun t kt => pre16 t (by
                  show Steps p.tables e below (s₁.setTop (mkF m 42 #[.val (.int p0)] [(.int (216 : Int32)), (.int p0)])) _
                  refine XS.icmpNo X0.here hx rfl (hb hby d1_42) rfl (flt hc42_17).1 ?_
                  show Steps p.tables e below (s₁.setTop (mkF m 45 #[.val (.int p0)] [])) _
                  refine XS.iloadN X0.here hx rfl (hb hby d1_45) rfl ?_
                  show Steps p.tables e below (s₁.setTop (mkF m 46 #[.val (.int p0)] [(.int p0)])) _
                  refine XS.sipush X0.here hx rfl (hb hby d1_46) ?_
                  exact kt)
                clear pre16
                by_cases hc49_20 : (246 : Int32) < p0
                · have hc49_20z : 246 < p0.toInt := (own_gtI (by decide)).mp hc49_20
                  have pre21 : ∀ t, Steps p.tables e below (s₁.setTop (mkF m 56 #[.val (.int p0)] [(.int (248 : Int32)), (.int p0)])) t → Steps p.tables e below (s₁.setTop (entryFrame m #[(.int p0)] 1)) t := fun t kt => pre19 t (by
                    show Steps p.tables e below (s₁.setTop (mkF m 49 #[.val (.int p0)] [(.int (246 : Int32)), (.int p0)])) _
                    refine XS.icmpNo X0.here hx rfl (hb hby d1_49) rfl (tlt hc49_20).2.2.2 ?_
                    show Steps p.tables e below (s₁.setTop (mkF m 52 #[.val (.int p0)] [])) _
                    refine XS.iloadN X0.here hx rfl (hb hby d1_52) rfl ?_
                    show Steps p.tables e below (s₁.setTop (mkF m 53 #[.val (.int p0)] [(.int p0)])) _
                    refine XS.sipush X0.here hx rfl (hb hby d1_53) ?_
                    exact kt)
                  clear pre19
                  by_cases hc56_22 : p0 < (248 : Int32)
                  · have hc56_22z : p0.toInt < 248 := (own_ltI (by decide)).mp hc56_22
                    have pre23 : ∀ t, Steps p.tables e below (s₁.setTop (mkF m 190 #[.val (.int p0)] [(.int (0 : Int32))])) t → Steps p.tables e below (s₁.setTop (entryFrame m #[(.int p0)] 1)) t := fun t kt => pre21 t (by
                      show Steps p.tables e below (s₁.setTop (mkF m 56 #[.val (.int p0)] [(.int (248 : Int32)), (.int p0)])) _
                      refine XS.icmpYes X0.here hx rfl (pc0 := 56) (pc' := 66) rfl (hb hby d1_56) rfl (tlt hc56_22).1 (by decide) (by decide) ?_
                      show Steps p.tables e below (s₁.setTop (mkF m 66 #[.val (.int p0)] [])) _
                      refine XS.iloadN X0.here hx rfl (hb hby d1_66) rfl ?_
                      show Steps p.tables e below (s₁.setTop (mkF m 67 #[.val (.int p0)] [(.int p0)])) _
                      refine XS.sipush X0.here hx rfl (hb hby d1_67) ?_
                      show Steps p.tables e below (s₁.setTop (mkF m 70 #[.val (.int p0)] [(.int (880 : Int32)), (.int p0)])) _
                      refine XS.icmpYes X0.here hx rfl (pc0 := 70) (pc' := 80) rfl (hb hby d1_70) rfl (tlt ((own_ltI (by decide)).mpr (by omega : p0.toInt < 880) : p0 < (880 : Int32))).1 (by decide) (by decide) ?_
                      show Steps p.tables e below (s₁.setTop (mkF m 80 #[.val (.int p0)] [])) _
                      refine XS.iloadN X0.here hx rfl (hb hby d1_80) rfl ?_
                      show Steps p.tables e below (s₁.setTop (mkF m 81 #[.val (.int p0)] [(.int p0)])) _
                      refine XS.sipush X0.here hx rfl (hb hby d1_81) ?_
                      show Steps p.tables e below (s₁.setTop (mkF m 84 #[.val (.int p0)] [(.int (895 : Int32)), (.int p0)])) _
                      refine XS.icmpYes X0.here hx rfl (pc0 := 84) (pc' := 94) rfl (hb hby d1_84) rfl (tlt ((own_ltI (by decide)).mpr (by omega : p0.toInt < 895) : p0 < (895 : Int32))).1 (by decide) (by decide) ?_
                      show Steps p.tables e below (s₁.setTop (mkF m 94 #[.val (.int p0)] [])) _
                      refine XS.iloadN X0.here hx rfl (hb hby d1_94) rfl ?_
                      show Steps p.tables e below (s₁.setTop (mkF m 95 #[.val (.int p0)] [(.int p0)])) _
                      refine XS.sipush X0.here hx rfl (hb hby d1_95) ?_
                      show Steps p.tables e below (s₁.setTop (mkF m 98 #[.val (.int p0)] [(.int (8204 : Int32)), (.int p0)])) _
                      refine XS.icmpYes X0.here hx rfl (pc0 := 98) (pc' := 108) rfl (hb hby d1_98) rfl (tlt ((own_ltI (by decide)).mpr (by omega : p0.toInt < 8204) : p0 < (8204 : Int32))).1 (by decide) (by decide) ?_
                      show Steps p.tables e below (s₁.setTop (mkF m 108 #[.val (.int p0)] [])) _
                      refine XS.iloadN X0.here hx rfl (hb hby d1_108) rfl ?_
                      show Steps p.tables e below (s₁.setTop (mkF m 109 #[.val (.int p0)] [(.int p0)])) _
                      refine XS.sipush X0.here hx rfl (hb hby d1_109) ?_
                      show Steps p.tables e below (s₁.setTop (mkF m 112 #[.val (.int p0)] [(.int (8304 : Int32)), (.int p0)])) _
                      refine XS.icmpYes X0.here hx rfl (pc0 := 112) (pc' := 122) rfl (hb hby d1_112) rfl (tlt ((own_ltI (by decide)).mpr (by omega : p0.toInt < 8304) : p0 < (8304 : Int32))).1 (by decide) (by decide) ?_
                      show Steps p.tables e below (s₁.setTop (mkF m 122 #[.val (.int p0)] [])) _
                      refine XS.iloadN X0.here hx rfl (hb hby d1_122) rfl ?_
                      show Steps p.tables e below (s₁.setTop (mkF m 123 #[.val (.int p0)] [(.int p0)])) _
                      refine XS.sipush X0.here hx rfl (hb hby d1_123) ?_
                      show Steps p.tables e below (s₁.setTop (mkF m 126 #[.val (.int p0)] [(.int (11264 : Int32)), (.int p0)])) _
                      refine XS.icmpYes X0.here hx rfl (pc0 := 126) (pc' := 136) rfl (hb hby d1_126) rfl (tlt ((own_ltI (by decide)).mpr (by omega : p0.toInt < 11264) : p0 < (11264 : Int32))).1 (by decide) (by decide) ?_
                      show Steps p.tables e below (s₁.setTop (mkF m 136 #[.val (.int p0)] [])) _
                      refine XS.iloadN X0.here hx rfl (hb hby d1_136) rfl ?_
                      show Steps p.tables e below (s₁.setTop (mkF m 137 #[.val (.int p0)] [(.int p0)])) _
                      refine XS.sipush X0.here hx rfl (hb hby d1_137) ?_
                      show Steps p.tables e below (s₁.setTop (mkF m 140 #[.val (.int p0)] [(.int (12289 : Int32)), (.int p0)])) _
                      refine XS.icmpYes X0.here hx rfl (pc0 := 140) (pc' := 149) rfl (hb hby d1_140) rfl (tlt ((own_ltI (by decide)).mpr (by omega : p0.toInt < 12289) : p0 < (12289 : Int32))).1 (by decide) (by decide) ?_
                      show Steps p.tables e below (s₁.setTop (mkF m 149 #[.val (.int p0)] [])) _
                      refine XS.iloadN X0.here hx rfl (hb hby d1_149) rfl ?_
                      show Steps p.tables e below (s₁.setTop (mkF m 150 #[.val (.int p0)] [(.int p0)])) _
                      refine X0.ldcInt hx hown (mvT hZ (hw _ (List.mem_of_getElem? (i := 4) rfl))) (g := (mkF m 150 #[.val (.int p0)] [(.int p0)])) rfl (hb hby d1_150) _ ?_
                      show Steps p.tables e below (s₁.setTop (mkF m 152 #[.val (.int p0)] [(.int (63744 : Int32)), (.int p0)])) _
                      refine XS.icmpYes X0.here hx rfl (pc0 := 152) (pc' := 161) rfl (hb hby d1_152) rfl (tlt ((own_ltI (by decide)).mpr (by omega : p0.toInt < 63744) : p0 < (63744 : Int32))).1 (by decide) (by decide) ?_
                      show Steps p.tables e below (s₁.setTop (mkF m 161 #[.val (.int p0)] [])) _
                      refine XS.iloadN X0.here hx rfl (hb hby d1_161) rfl ?_
                      show Steps p.tables e below (s₁.setTop (mkF m 162 #[.val (.int p0)] [(.int p0)])) _
                      refine X0.ldcInt hx hown (mvT hZ (hw _ (List.mem_of_getElem? (i := 5) rfl))) (g := (mkF m 162 #[.val (.int p0)] [(.int p0)])) rfl (hb hby d1_162) _ ?_
                      show Steps p.tables e below (s₁.setTop (mkF m 164 #[.val (.int p0)] [(.int (65008 : Int32)), (.int p0)])) _
                      refine XS.icmpYes X0.here hx rfl (pc0 := 164) (pc' := 173) rfl (hb hby d1_164) rfl (tlt ((own_ltI (by decide)).mpr (by omega : p0.toInt < 65008) : p0 < (65008 : Int32))).1 (by decide) (by decide) ?_
                      show Steps p.tables e below (s₁.setTop (mkF m 173 #[.val (.int p0)] [])) _
                      refine XS.iloadN X0.here hx rfl (hb hby d1_173) rfl ?_
                      show Steps p.tables e below (s₁.setTop (mkF m 174 #[.val (.int p0)] [(.int p0)])) _
                      refine X0.ldcInt hx hown (mvT hZ (hw _ (List.mem_of_getElem? (i := 6) rfl))) (g := (mkF m 174 #[.val (.int p0)] [(.int p0)])) rfl (hb hby d1_174) _ ?_
                      show Steps p.tables e below (s₁.setTop (mkF m 176 #[.val (.int p0)] [(.int (65536 : Int32)), (.int p0)])) _
                      refine XS.icmpYes X0.here hx rfl (pc0 := 176) (pc' := 189) rfl (hb hby d1_176) rfl (tlt ((own_ltI (by decide)).mpr (by omega : p0.toInt < 65536) : p0 < (65536 : Int32))).1 (by decide) (by decide) ?_
                      show Steps p.tables e below (s₁.setTop (mkF m 189 #[.val (.int p0)] [])) _
                      refine XS.iconst X0.here hx rfl (hb hby d1_189) ?_
                      exact kt)
                    clear pre21
                    have hv : f1 p0 = (0 : Int32) := by
                      unfold f1
                      rw [if_neg hc3_2, if_pos hc9_5, if_neg hc15_7, if_pos hc21_10, if_neg hc28_12, if_pos hc35_15, if_neg hc42_17, if_pos hc49_20, if_pos hc56_22]
                    obtain ⟨fs, hr, hrun, hended, hW, hsame⟩ := X0.leave (v := some (.int (f1 p0))) (fun h => by rw [Bd.returns] at h; cases h)
                    refine ⟨_, _, pre23 _ ?_, hrun, hended, _, _, rfl, ?_, ⟨_, rfl⟩, hW, hsame.mono (by decide) (by decide)⟩
                    · rw [hv] at hr
                      show Steps p.tables e below (s₁.setTop (mkF m 190 #[.val (.int p0)] [(.int (0 : Int32))])) _
                      exact retN X0 hx (t := .boolean) Bd.returns (by simp) (hb hby d1_190) hr
                    · show Q1 Z p0 h0 n0 _ s₁.heap _
                      rw [e0]
                      exact ⟨rfl, N0, rfl⟩
                  · have hc56_22z : ¬ (p0.toInt < 248) := fun q => hc56_22 ((own_ltI (by decide)).mpr q)
                    have pre24 : ∀ t, Steps p.tables e below (s₁.setTop (mkF m 63 #[.val (.int p0)] [(.int (767 : Int32)), (.int p0)])) t → Steps p.tables e below (s₁.setTop (entryFrame m #[(.int p0)] 1)) t := fun t kt => pre21 t (by
                      show Steps p.tables e below (s₁.setTop (mkF m 56 #[.val (.int p0)] [(.int (248 : Int32)), (.int p0)])) _
                      refine XS.icmpNo X0.here hx rfl (hb hby d1_56) rfl (flt hc56_22).1 ?_
                      show Steps p.tables e below (s₁.setTop (mkF m 59 #[.val (.int p0)] [])) _
                      refine XS.iloadN X0.here hx rfl (hb hby d1_59) rfl ?_
                      show Steps p.tables e below (s₁.setTop (mkF m 60 #[.val (.int p0)] [(.int p0)])) _
                      refine XS.sipush X0.here hx rfl (hb hby d1_60) ?_
                      exact kt)
                    clear pre21
                    by_cases hc63_25 : (767 : Int32) < p0
                    · have hc63_25z : 767 < p0.toInt := (own_gtI (by decide)).mp hc63_25
                      have pre26 : ∀ t, Steps p.tables e below (s₁.setTop (mkF m 70 #[.val (.int p0)] [(.int (880 : Int32)), (.int p0)])) t → Steps p.tables e below (s₁.setTop (entryFrame m #[(.int p0)] 1)) t := fun t kt => pre24 t (by
                        show Steps p.tables e below (s₁.setTop (mkF m 63 #[.val (.int p0)] [(.int (767 : Int32)), (.int p0)])) _
                        refine XS.icmpNo X0.here hx rfl (hb hby d1_63) rfl (tlt hc63_25).2.2.2 ?_
                        show Steps p.tables e below (s₁.setTop (mkF m 66 #[.val (.int p0)] [])) _
                        refine XS.iloadN X0.here hx rfl (hb hby d1_66) rfl ?_
                        show Steps p.tables e below (s₁.setTop (mkF m 67 #[.val (.int p0)] [(.int p0)])) _
                        refine XS.sipush X0.here hx rfl (hb hby d1_67) ?_
                        exact kt)
                      clear pre24
                      by_cases hc70_27 : p0 < (880 : Int32)
                      · have hc70_27z : p0.toInt < 880 := (own_ltI (by decide)).mp hc70_27
                        have pre28 : ∀ t, Steps p.tables e below (s₁.setTop (mkF m 190 #[.val (.int p0)] [(.int (0 : Int32))])) t → Steps p.tables e below (s₁.setTop (entryFrame m #[(.int p0)] 1)) t := fun t kt => pre26 t (by
                          show Steps p.tables e below (s₁.setTop (mkF m 70 #[.val (.int p0)] [(.int (880 : Int32)), (.int p0)])) _
                          refine XS.icmpYes X0.here hx rfl (pc0 := 70) (pc' := 80) rfl (hb hby d1_70) rfl (tlt hc70_27).1 (by decide) (by decide) ?_
                          show Steps p.tables e below (s₁.setTop (mkF m 80 #[.val (.int p0)] [])) _
                          refine XS.iloadN X0.here hx rfl (hb hby d1_80) rfl ?_
                          show Steps p.tables e below (s₁.setTop (mkF m 81 #[.val (.int p0)] [(.int p0)])) _
                          refine XS.sipush X0.here hx rfl (hb hby d1_81) ?_
                          show Steps p.tables e below (s₁.setTop (mkF m 84 #[.val (.int p0)] [(.int (895 : Int32)), (.int p0)])) _
                          refine XS.icmpYes X0.here hx rfl (pc0 := 84) (pc' := 94) rfl (hb hby d1_84) rfl (tlt ((own_ltI (by decide)).mpr (by omega : p0.toInt < 895) : p0 < (895 : Int32))).1 (by decide) (by decide) ?_
                          show Steps p.tables e below (s₁.setTop (mkF m 94 #[.val (.int p0)] [])) _
                          refine XS.iloadN X0.here hx rfl (hb hby d1_94) rfl ?_
                          show Steps p.tables e below (s₁.setTop (mkF m 95 #[.val (.int p0)] [(.int p0)])) _
                          refine XS.sipush X0.here hx rfl (hb hby d1_95) ?_
                          show Steps p.tables e below (s₁.setTop (mkF m 98 #[.val (.int p0)] [(.int (8204 : Int32)), (.int p0)])) _
                          refine XS.icmpYes X0.here hx rfl (pc0 := 98) (pc' := 108) rfl (hb hby d1_98) rfl (tlt ((own_ltI (by decide)).mpr (by omega : p0.toInt < 8204) : p0 < (8204 : Int32))).1 (by decide) (by decide) ?_
                          show Steps p.tables e below (s₁.setTop (mkF m 108 #[.val (.int p0)] [])) _
                          refine XS.iloadN X0.here hx rfl (hb hby d1_108) rfl ?_
                          show Steps p.tables e below (s₁.setTop (mkF m 109 #[.val (.int p0)] [(.int p0)])) _
                          refine XS.sipush X0.here hx rfl (hb hby d1_109) ?_
                          show Steps p.tables e below (s₁.setTop (mkF m 112 #[.val (.int p0)] [(.int (8304 : Int32)), (.int p0)])) _
                          refine XS.icmpYes X0.here hx rfl (pc0 := 112) (pc' := 122) rfl (hb hby d1_112) rfl (tlt ((own_ltI (by decide)).mpr (by omega : p0.toInt < 8304) : p0 < (8304 : Int32))).1 (by decide) (by decide) ?_
                          show Steps p.tables e below (s₁.setTop (mkF m 122 #[.val (.int p0)] [])) _
                          refine XS.iloadN X0.here hx rfl (hb hby d1_122) rfl ?_
                          show Steps p.tables e below (s₁.setTop (mkF m 123 #[.val (.int p0)] [(.int p0)])) _
                          refine XS.sipush X0.here hx rfl (hb hby d1_123) ?_
                          show Steps p.tables e below (s₁.setTop (mkF m 126 #[.val (.int p0)] [(.int (11264 : Int32)), (.int p0)])) _
                          refine XS.icmpYes X0.here hx rfl (pc0 := 126) (pc' := 136) rfl (hb hby d1_126) rfl (tlt ((own_ltI (by decide)).mpr (by omega : p0.toInt < 11264) : p0 < (11264 : Int32))).1 (by decide) (by decide) ?_
                          show Steps p.tables e below (s₁.setTop (mkF m 136 #[.val (.int p0)] [])) _
                          refine XS.iloadN X0.here hx rfl (hb hby d1_136) rfl ?_
                          show Steps p.tables e below (s₁.setTop (mkF m 137 #[.val (.int p0)] [(.int p0)])) _
                          refine XS.sipush X0.here hx rfl (hb hby d1_137) ?_
                          show Steps p.tables e below (s₁.setTop (mkF m 140 #[.val (.int p0)] [(.int (12289 : Int32)), (.int p0)])) _
                          refine XS.icmpYes X0.here hx rfl (pc0 := 140) (pc' := 149) rfl (hb hby d1_140) rfl (tlt ((own_ltI (by decide)).mpr (by omega : p0.toInt < 12289) : p0 < (12289 : Int32))).1 (by decide) (by decide) ?_
                          show Steps p.tables e below (s₁.setTop (mkF m 149 #[.val (.int p0)] [])) _
                          refine XS.iloadN X0.here hx rfl (hb hby d1_149) rfl ?_
                          show Steps p.tables e below (s₁.setTop (mkF m 150 #[.val (.int p0)] [(.int p0)])) _
                          refine X0.ldcInt hx hown (mvT hZ (hw _ (List.mem_of_getElem? (i := 4) rfl))) (g := (mkF m 150 #[.val (.int p0)] [(.int p0)])) rfl (hb hby d1_150) _ ?_
                          show Steps p.tables e below (s₁.setTop (mkF m 152 #[.val (.int p0)] [(.int (63744 : Int32)), (.int p0)])) _
                          refine XS.icmpYes X0.here hx rfl (pc0 := 152) (pc' := 161) rfl (hb hby d1_152) rfl (tlt ((own_ltI (by decide)).mpr (by omega : p0.toInt < 63744) : p0 < (63744 : Int32))).1 (by decide) (by decide) ?_
                          show Steps p.tables e below (s₁.setTop (mkF m 161 #[.val (.int p0)] [])) _
                          refine XS.iloadN X0.here hx rfl (hb hby d1_161) rfl ?_
                          show Steps p.tables e below (s₁.setTop (mkF m 162 #[.val (.int p0)] [(.int p0)])) _
                          refine X0.ldcInt hx hown (mvT hZ (hw _ (List.mem_of_getElem? (i := 5) rfl))) (g := (mkF m 162 #[.val (.int p0)] [(.int p0)])) rfl (hb hby d1_162) _ ?_
                          show Steps p.tables e below (s₁.setTop (mkF m 164 #[.val (.int p0)] [(.int (65008 : Int32)), (.int p0)])) _
                          refine XS.icmpYes X0.here hx rfl (pc0 := 164) (pc' := 173) rfl (hb hby d1_164) rfl (tlt ((own_ltI (by decide)).mpr (by omega : p0.toInt < 65008) : p0 < (65008 : Int32))).1 (by decide) (by decide) ?_
                          show Steps p.tables e below (s₁.setTop (mkF m 173 #[.val (.int p0)] [])) _
                          refine XS.iloadN X0.here hx rfl (hb hby d1_173) rfl ?_
                          show Steps p.tables e below (s₁.setTop (mkF m 174 #[.val (.int p0)] [(.int p0)])) _
                          refine X0.ldcInt hx hown (mvT hZ (hw _ (List.mem_of_getElem? (i := 6) rfl))) (g := (mkF m 174 #[.val (.int p0)] [(.int p0)])) rfl (hb hby d1_174) _ ?_
                          show Steps p.tables e below (s₁.setTop (mkF m 176 #[.val (.int p0)] [(.int (65536 : Int32)), (.int p0)])) _
                          refine XS.icmpYes X0.here hx rfl (pc0 := 176) (pc' := 189) rfl (hb hby d1_176) rfl (tlt ((own_ltI (by decide)).mpr (by omega : p0.toInt < 65536) : p0 < (65536 : Int32))).1 (by decide) (by decide) ?_
                          show Steps p.tables e below (s₁.setTop (mkF m 189 #[.val (.int p0)] [])) _
                          refine XS.iconst X0.here hx rfl (hb hby d1_189) ?_
                          exact kt)
                        clear pre26
                        have hv : f1 p0 = (0 : Int32) := by
                          unfold f1
                          rw [if_neg hc3_2, if_pos hc9_5, if_neg hc15_7, if_pos hc21_10, if_neg hc28_12, if_pos hc35_15, if_neg hc42_17, if_pos hc49_20, if_neg hc56_22, if_pos hc63_25, if_pos hc70_27]
                        obtain ⟨fs, hr, hrun, hended, hW, hsame⟩ := X0.leave (v := some (.int (f1 p0))) (fun h => by rw [Bd.returns] at h; cases h)
                        refine ⟨_, _, pre28 _ ?_, hrun, hended, _, _, rfl, ?_, ⟨_, rfl⟩, hW, hsame.mono (by decide) (by decide)⟩
                        · rw [hv] at hr
                          show Steps p.tables e below (s₁.setTop (mkF m 190 #[.val (.int p0)] [(.int (0 : Int32))])) _
                          exact retN X0 hx (t := .boolean) Bd.returns (by simp) (hb hby d1_190) hr
                        · show Q1 Z p0 h0 n0 _ s₁.heap _
                          rw [e0]
                          exact ⟨rfl, N0, rfl⟩
                      · have hc70_27z : ¬ (p0.toInt < 880) := fun q => hc70_27 ((own_ltI (by decide)).mpr q)
                        have pre29 : ∀ t, Steps p.tables e below (s₁.setTop (mkF m 77 #[.val (.int p0)] [(.int (893 : Int32)), (.int p0)])) t → Steps p.tables e below (s₁.setTop (entryFrame m #[(.int p0)] 1)) t := fun t kt => pre26 t (by
                          show Steps p.tables e below (s₁.setTop (mkF m 70 #[.val (.int p0)] [(.int (880 : Int32)), (.int p0)])) _
                          refine XS.icmpNo X0.here hx rfl (hb hby d1_70) rfl (flt hc70_27).1 ?_
                          show Steps p.tables e below (s₁.setTop (mkF m 73 #[.val (.int p0)] [])) _
                          refine XS.iloadN X0.here hx rfl (hb hby d1_73) rfl ?_
                          show Steps p.tables e below (s₁.setTop (mkF m 74 #[.val (.int p0)] [(.int p0)])) _
                          refine XS.sipush X0.here hx rfl (hb hby d1_74) ?_
                          exact kt)
                        clear pre26
                        by_cases hc77_30 : (893 : Int32) < p0
                        · have hc77_30z : 893 < p0.toInt := (own_gtI (by decide)).mp hc77_30
                          have pre31 : ∀ t, Steps p.tables e below (s₁.setTop (mkF m 84 #[.val (.int p0)] [(.int (895 : Int32)), (.int p0)])) t → Steps p.tables e below (s₁.setTop (entryFrame m #[(.int p0)] 1)) t := fun t kt => pre29 t (by
                            show Steps p.tables e below (s₁.setTop (mkF m 77 #[.val (.int p0)] [(.int (893 : Int32)), (.int p0)])) _
                            refine XS.icmpNo X0.here hx rfl (hb hby d1_77) rfl (tlt hc77_30).2.2.2 ?_
                            show Steps p.tables e below (s₁.setTop (mkF m 80 #[.val (.int p0)] [])) _
                            refine XS.iloadN X0.here hx rfl (hb hby d1_80) rfl ?_
                            show Steps p.tables e below (s₁.setTop (mkF m 81 #[.val (.int p0)] [(.int p0)])) _
                            refine XS.sipush X0.here hx rfl (hb hby d1_81) ?_
                            exact kt)
                          clear pre29
                          by_cases hc84_32 : p0 < (895 : Int32)
                          · have hc84_32z : p0.toInt < 895 := (own_ltI (by decide)).mp hc84_32
                            have pre33 : ∀ t, Steps p.tables e below (s₁.setTop (mkF m 190 #[.val (.int p0)] [(.int (0 : Int32))])) t → Steps p.tables e below (s₁.setTop (entryFrame m #[(.int p0)] 1)) t := fun t kt => pre31 t (by
                              show Steps p.tables e below (s₁.setTop (mkF m 84 #[.val (.int p0)] [(.int (895 : Int32)), (.int p0)])) _
                              refine XS.icmpYes X0.here hx rfl (pc0 := 84) (pc' := 94) rfl (hb hby d1_84) rfl (tlt hc84_32).1 (by decide) (by decide) ?_
                              show Steps p.tables e below (s₁.setTop (mkF m 94 #[.val (.int p0)] [])) _
                              refine XS.iloadN X0.here hx rfl (hb hby d1_94) rfl ?_
                              show Steps p.tables e below (s₁.setTop (mkF m 95 #[.val (.int p0)] [(.int p0)])) _
                              refine XS.sipush X0.here hx rfl (hb hby d1_95) ?_
                              show Steps p.tables e below (s₁.setTop (mkF m 98 #[.val (.int p0)] [(.int (8204 : Int32)), (.int p0)])) _
                              refine XS.icmpYes X0.here hx rfl (pc0 := 98) (pc' := 108) rfl (hb hby d1_98) rfl (tlt ((own_ltI (by decide)).mpr (by omega : p0.toInt < 8204) : p0 < (8204 : Int32))).1 (by decide) (by decide) ?_
                              show Steps p.tables e below (s₁.setTop (mkF m 108 #[.val (.int p0)] [])) _
                              refine XS.iloadN X0.here hx rfl (hb hby d1_108) rfl ?_
                              show Steps p.tables e below (s₁.setTop (mkF m 109 #[.val (.int p0)] [(.int p0)])) _
                              refine XS.sipush X0.here hx rfl (hb hby d1_109) ?_
                              show Steps p.tables e below (s₁.setTop (mkF m 112 #[.val (.int p0)] [(.int (8304 : Int32)), (.int p0)])) _
                              refine XS.icmpYes X0.here hx rfl (pc0 := 112) (pc' := 122) rfl (hb hby d1_112) rfl (tlt ((own_ltI (by decide)).mpr (by omega : p0.toInt < 8304) : p0 < (8304 : Int32))).1 (by decide) (by decide) ?_
                              show Steps p.tables e below (s₁.setTop (mkF m 122 #[.val (.int p0)] [])) _
                              refine XS.iloadN X0.here hx rfl (hb hby d1_122) rfl ?_
                              show Steps p.tables e below (s₁.setTop (mkF m 123 #[.val (.int p0)] [(.int p0)])) _
                              refine XS.sipush X0.here hx rfl (hb hby d1_123) ?_
                              show Steps p.tables e below (s₁.setTop (mkF m 126 #[.val (.int p0)] [(.int (11264 : Int32)), (.int p0)])) _
                              refine XS.icmpYes X0.here hx rfl (pc0 := 126) (pc' := 136) rfl (hb hby d1_126) rfl (tlt ((own_ltI (by decide)).mpr (by omega : p0.toInt < 11264) : p0 < (11264 : Int32))).1 (by decide) (by decide) ?_
                              show Steps p.tables e below (s₁.setTop (mkF m 136 #[.val (.int p0)] [])) _
                              refine XS.iloadN X0.here hx rfl (hb hby d1_136) rfl ?_
                              show Steps p.tables e below (s₁.setTop (mkF m 137 #[.val (.int p0)] [(.int p0)])) _
                              refine XS.sipush X0.here hx rfl (hb hby d1_137) ?_
                              show Steps p.tables e below (s₁.setTop (mkF m 140 #[.val (.int p0)] [(.int (12289 : Int32)), (.int p0)])) _
                              refine XS.icmpYes X0.here hx rfl (pc0 := 140) (pc' := 149) rfl (hb hby d1_140) rfl (tlt ((own_ltI (by decide)).mpr (by omega : p0.toInt < 12289) : p0 < (12289 : Int32))).1 (by decide) (by decide) ?_
                              show Steps p.tables e below (s₁.setTop (mkF m 149 #[.val (.int p0)] [])) _
                              refine XS.iloadN X0.here hx rfl (hb hby d1_149) rfl ?_
                              show Steps p.tables e below (s₁.setTop (mkF m 150 #[.val (.int p0)] [(.int p0)])) _
                              refine X0.ldcInt hx hown (mvT hZ (hw _ (List.mem_of_getElem? (i := 4) rfl))) (g := (mkF m 150 #[.val (.int p0)] [(.int p0)])) rfl (hb hby d1_150) _ ?_
                              show Steps p.tables e below (s₁.setTop (mkF m 152 #[.val (.int p0)] [(.int (63744 : Int32)), (.int p0)])) _
                              refine XS.icmpYes X0.here hx rfl (pc0 := 152) (pc' := 161) rfl (hb hby d1_152) rfl (tlt ((own_ltI (by decide)).mpr (by omega : p0.toInt < 63744) : p0 < (63744 : Int32))).1 (by decide) (by decide) ?_
                              show Steps p.tables e below (s₁.setTop (mkF m 161 #[.val (.int p0)] [])) _
                              refine XS.iloadN X0.here hx rfl (hb hby d1_161) rfl ?_
                              show Steps p.tables e below (s₁.setTop (mkF m 162 #[.val (.int p0)] [(.int p0)])) _
                              refine X0.ldcInt hx hown (mvT hZ (hw _ (List.mem_of_getElem? (i := 5) rfl))) (g := (mkF m 162 #[.val (.int p0)] [(.int p0)])) rfl (hb hby d1_162) _ ?_
                              show Steps p.tables e below (s₁.setTop (mkF m 164 #[.val (.int p0)] [(.int (65008 : Int32)), (.int p0)])) _
                              refine XS.icmpYes X0.here hx rfl (pc0 := 164) (pc' := 173) rfl (hb hby d1_164) rfl (tlt ((own_ltI (by decide)).mpr (by omega : p0.toInt < 65008) : p0 < (65008 : Int32))).1 (by decide) (by decide) ?_
                              show Steps p.tables e below (s₁.setTop (mkF m 173 #[.val (.int p0)] [])) _
                              refine XS.iloadN X0.here hx rfl (hb hby d1_173) rfl ?_
                              show Steps p.tables e below (s₁.setTop (mkF m 174 #[.val (.int p0)] [(.int p0)])) _
                              refine X0.ldcInt hx hown (mvT hZ (hw _ (List.mem_of_getElem? (i := 6) rfl))) (g := (mkF m 174 #[.val (.int p0)] [(.int p0)])) rfl (hb hby d1_174) _ ?_
                              show Steps p.tables e below (s₁.setTop (mkF m 176 #[.val (.int p0)] [(.int (65536 : Int32)), (.int p0)])) _
                              refine XS.icmpYes X0.here hx rfl (pc0 := 176) (pc' := 189) rfl (hb hby d1_176) rfl (tlt ((own_ltI (by decide)).mpr (by omega : p0.toInt < 65536) : p0 < (65536 : Int32))).1 (by decide) (by decide) ?_
                              show Steps p.tables e below (s₁.setTop (mkF m 189 #[.val (.int p0)] [])) _
                              refine XS.iconst X0.here hx rfl (hb hby d1_189) ?_
                              exact kt)
                            clear pre31
                            have hv : f1 p0 = (0 : Int32) := by
                              unfold f1
                              rw [if_neg hc3_2, if_pos hc9_5, if_neg hc15_7, if_pos hc21_10, if_neg hc28_12, if_pos hc35_15, if_neg hc42_17, if_pos hc49_20, if_neg hc56_22, if_pos hc63_25, if_neg hc70_27, if_pos hc77_30, if_pos hc84_32]
                            obtain ⟨fs, hr, hrun, hended, hW, hsame⟩ := X0.leave (v := some (.int (f1 p0))) (fun h => by rw [Bd.returns] at h; cases h)
                            refine ⟨_, _, pre33 _ ?_, hrun, hended, _, _, rfl, ?_, ⟨_, rfl⟩, hW, hsame.mono (by decide) (by decide)⟩
                            · rw [hv] at hr
                              show Steps p.tables e below (s₁.setTop (mkF m 190 #[.val (.int p0)] [(.int (0 : Int32))])) _
                              exact retN X0 hx (t := .boolean) Bd.returns (by simp) (hb hby d1_190) hr
                            · show Q1 Z p0 h0 n0 _ s₁.heap _
                              rw [e0]
                              exact ⟨rfl, N0, rfl⟩
                          · have hc84_32z : ¬ (p0.toInt < 895) := fun q => hc84_32 ((own_ltI (by decide)).mpr q)
                            have pre34 : ∀ t, Steps p.tables e below (s₁.setTop (mkF m 91 #[.val (.int p0)] [(.int (8191 : Int32)), (.int p0)])) t → Steps p.tables e below (s₁.setTop (entryFrame m #[(.int p0)] 1)) t := fun t kt => pre31 t (by
                              show Steps p.tables e below (s₁.setTop (mkF m 84 #[.val (.int p0)] [(.int (895 : Int32)), (.int p0)])) _
                              refine XS.icmpNo X0.here hx rfl (hb hby d1_84) rfl (flt hc84_32).1 ?_
                              show Steps p.tables e below (s₁.setTop (mkF m 87 #[.val (.int p0)] [])) _
                              refine XS.iloadN X0.here hx rfl (hb hby d1_87) rfl ?_
                              show Steps p.tables e below (s₁.setTop (mkF m 88 #[.val (.int p0)] [(.int p0)])) _
                              refine XS.sipush X0.here hx rfl (hb hby d1_88) ?_
                              exact kt)
                            clear pre31
                            by_cases hc91_35 : (8191 : Int32) < p0
                            · have hc91_35z : 8191 < p0.toInt := (own_gtI (by decide)).mp hc91_35
                              have pre36 : ∀ t, Steps p.tables e below (s₁.setTop (mkF m 98 #[.val (.int p0)] [(.int (8204 : Int32)), (.int p0)])) t → Steps p.tables e below (s₁.setTop (entryFrame m #[(.int p0)] 1)) t := fun t kt => pre34 t (by
                                show Steps p.tables e below (s₁.setTop (mkF m 91 #[.val (.int p0)] [(.int (8191 : Int32)), (.int p0)])) _
                                refine XS.icmpNo X0.here hx rfl (hb hby d1_91) rfl (tlt hc91_35).2.2.2 ?_
                                show Steps p.tables e below (s₁.setTop (mkF m 94 #[.val (.int p0)] [])) _
                                refine XS.iloadN X0.here hx rfl (hb hby d1_94) rfl ?_
                                show Steps p.tables e below (s₁.setTop (mkF m 95 #[.val (.int p0)] [(.int p0)])) _
                                refine XS.sipush X0.here hx rfl (hb hby d1_95) ?_
                                exact kt)
                              clear pre34
                              by_cases hc98_37 : p0 < (8204 : Int32)
                              · have hc98_37z : p0.toInt < 8204 := (own_ltI (by decide)).mp hc98_37
                                have pre38 : ∀ t, Steps p.tables e below (s₁.setTop (mkF m 190 #[.val (.int p0)] [(.int (0 : Int32))])) t → Steps p.tables e below (s₁.setTop (entryFrame m #[(.int p0)] 1)) t := fun t kt => pre36 t (by
                                  show Steps p.tables e below (s₁.setTop (mkF m 98 #[.val (.int p0)] [(.int (8204 : Int32)), (.int p0)])) _
                                  refine XS.icmpYes X0.here hx rfl (pc0 := 98) (pc' := 108) rfl (hb hby d1_98) rfl (tlt hc98_37).1 (by decide) (by decide) ?_
                                  show Steps p.tables e below (s₁.setTop (mkF m 108 #[.val (.int p0)] [])) _
                                  refine XS.iloadN X0.here hx rfl (hb hby d1_108) rfl ?_
                                  show Steps p.tables e below (s₁.setTop (mkF m 109 #[.val (.int p0)] [(.int p0)])) _
                                  refine XS.sipush X0.here hx rfl (hb hby d1_109) ?_
                                  show Steps p.tables e below (s₁.setTop (mkF m 112 #[.val (.int p0)] [(.int (8304 : Int32)), (.int p0)])) _
                                  refine XS.icmpYes X0.here hx rfl (pc0 := 112) (pc' := 122) rfl (hb hby d1_112) rfl (tlt ((own_ltI (by decide)).mpr (by omega : p0.toInt < 8304) : p0 < (8304 : Int32))).1 (by decide) (by decide) ?_
                                  show Steps p.tables e below (s₁.setTop (mkF m 122 #[.val (.int p0)] [])) _
                                  refine XS.iloadN X0.here hx rfl (hb hby d1_122) rfl ?_
                                  show Steps p.tables e below (s₁.setTop (mkF m 123 #[.val (.int p0)] [(.int p0)])) _
                                  refine XS.sipush X0.here hx rfl (hb hby d1_123) ?_
                                  show Steps p.tables e below (s₁.setTop (mkF m 126 #[.val (.int p0)] [(.int (11264 : Int32)), (.int p0)])) _
                                  refine XS.icmpYes X0.here hx rfl (pc0 := 126) (pc' := 136) rfl (hb hby d1_126) rfl (tlt ((own_ltI (by decide)).mpr (by omega : p0.toInt < 11264) : p0 < (11264 : Int32))).1 (by decide) (by decide) ?_
                                  show Steps p.tables e below (s₁.setTop (mkF m 136 #[.val (.int p0)] [])) _
                                  refine XS.iloadN X0.here hx rfl (hb hby d1_136) rfl ?_
                                  show Steps p.tables e below (s₁.setTop (mkF m 137 #[.val (.int p0)] [(.int p0)])) _
                                  refine XS.sipush X0.here hx rfl (hb hby d1_137) ?_
                                  show Steps p.tables e below (s₁.setTop (mkF m 140 #[.val (.int p0)] [(.int (12289 : Int32)), (.int p0)])) _
                                  refine XS.icmpYes X0.here hx rfl (pc0 := 140) (pc' := 149) rfl (hb hby d1_140) rfl (tlt ((own_ltI (by decide)).mpr (by omega : p0.toInt < 12289) : p0 < (12289 : Int32))).1 (by decide) (by decide) ?_
                                  show Steps p.tables e below (s₁.setTop (mkF m 149 #[.val (.int p0)] [])) _
                                  refine XS.iloadN X0.here hx rfl (hb hby d1_149) rfl ?_
                                  show Steps p.tables e below (s₁.setTop (mkF m 150 #[.val (.int p0)] [(.int p0)])) _
                                  refine X0.ldcInt hx hown (mvT hZ (hw _ (List.mem_of_getElem? (i := 4) rfl))) (g := (mkF m 150 #[.val (.int p0)] [(.int p0)])) rfl (hb hby d1_150) _ ?_
                                  show Steps p.tables e below (s₁.setTop (mkF m 152 #[.val (.int p0)] [(.int (63744 : Int32)), (.int p0)])) _
                                  refine XS.icmpYes X0.here hx rfl (pc0 := 152) (pc' := 161) rfl (hb hby d1_152) rfl (tlt ((own_ltI (by decide)).mpr (by omega : p0.toInt < 63744) : p0 < (63744 : Int32))).1 (by decide) (by decide) ?_
                                  show Steps p.tables e below (s₁.setTop (mkF m 161 #[.val (.int p0)] [])) _
                                  refine XS.iloadN X0.here hx rfl (hb hby d1_161) rfl ?_
                                  show Steps p.tables e below (s₁.setTop (mkF m 162 #[.val (.int p0)] [(.int p0)])) _
                                  refine X0.ldcInt hx hown (mvT hZ (hw _ (List.mem_of_getElem? (i := 5) rfl))) (g := (mkF m 162 #[.val (.int p0)] [(.int p0)])) rfl (hb hby d1_162) _ ?_
                                  show Steps p.tables e below (s₁.setTop (mkF m 164 #[.val (.int p0)] [(.int (65008 : Int32)), (.int p0)])) _
                                  refine XS.icmpYes X0.here hx rfl (pc0 := 164) (pc' := 173) rfl (hb hby d1_164) rfl (tlt ((own_ltI (by decide)).mpr (by omega : p0.toInt < 65008) : p0 < (65008 : Int32))).1 (by decide) (by decide) ?_
                                  show Steps p.tables e below (s₁.setTop (mkF m 173 #[.val (.int p0)] [])) _
                                  refine XS.iloadN X0.here hx rfl (hb hby d1_173) rfl ?_
                                  show Steps p.tables e below (s₁.setTop (mkF m 174 #[.val (.int p0)] [(.int p0)])) _
                                  refine X0.ldcInt hx hown (mvT hZ (hw _ (List.mem_of_getElem? (i := 6) rfl))) (g := (mkF m 174 #[.val (.int p0)] [(.int p0)])) rfl (hb hby d1_174) _ ?_
                                  show Steps p.tables e below (s₁.setTop (mkF m 176 #[.val (.int p0)] [(.int (65536 : Int32)), (.int p0)])) _
                                  refine XS.icmpYes X0.here hx rfl (pc0 := 176) (pc' := 189) rfl (hb hby d1_176) rfl (tlt ((own_ltI (by decide)).mpr (by omega : p0.toInt < 65536) : p0 < (65536 : Int32))).1 (by decide) (by decide) ?_
                                  show Steps p.tables e below (s₁.setTop (mkF m 189 #[.val (.int p0)] [])) _
                                  refine XS.iconst X0.here hx rfl (hb hby d1_189) ?_
                                  exact kt)
                                clear pre36
                                have hv : f1 p0 = (0 : Int32) := by
                                  unfold f1
                                  rw [if_neg hc3_2, if_pos hc9_5, if_neg hc15_7, if_pos hc21_10, if_neg hc28_12, if_pos hc35_15, if_neg hc42_17, if_pos hc49_20, if_neg hc56_22, if_pos hc63_25, if_neg hc70_27, if_pos hc77_30, if_neg hc84_32, if_pos hc91_35, if_pos hc98_37]
                                obtain ⟨fs, hr, hrun, hended, hW, hsame⟩ := X0.leave (v := some (.int (f1 p0))) (fun h => by rw [Bd.returns] at h; cases h)
                                refine ⟨_, _, pre38 _ ?_, hrun, hended, _, _, rfl, ?_, ⟨_, rfl⟩, hW, hsame.mono (by decide) (by decide)⟩
                                · rw [hv] at hr
                                  show Steps p.tables e below (s₁.setTop (mkF m 190 #[.val (.int p0)] [(.int (0 : Int32))])) _
                                  exact retN X0 hx (t := .boolean) Bd.returns (by simp) (hb hby d1_190) hr
                                · show Q1 Z p0 h0 n0 _ s₁.heap _
                                  rw [e0]
                                  exact ⟨rfl, N0, rfl⟩
                              · have hc98_37z : ¬ (p0.toInt < 8204) := fun q => hc98_37 ((own_ltI (by decide)).mpr q)
                                have pre39 : ∀ t, Steps p.tables e below (s₁.setTop (mkF m 105 #[.val (.int p0)] [(.int (8205 : Int32)), (.int p0)])) t → Steps p.tables e below (s₁.setTop (entryFrame m #[(.int p0)] 1)) t := fun t kt => pre36 t (by
                                  show Steps p.tables e below (s₁.setTop (mkF m 98 #[.val (.int p0)] [(.int (8204 : Int32)), (.int p0)])) _
                                  refine XS.icmpNo X0.here hx rfl (hb hby d1_98) rfl (flt hc98_37).1 ?_
                                  show Steps p.tables e below (s₁.setTop (mkF m 101 #[.val (.int p0)] [])) _
                                  refine XS.iloadN X0.here hx rfl (hb hby d1_101) rfl ?_
                                  show Steps p.tables e below (s₁.setTop (mkF m 102 #[.val (.int p0)] [(.int p0)])) _
                                  refine XS.sipush X0.here hx rfl (hb hby d1_102) ?_
                                  exact kt)
                                clear pre36
                                by_cases hc105_40 : (8205 : Int32) < p0
                                · have hc105_40z : 8205 < p0.toInt := (own_gtI (by decide)).mp hc105_40
                                  have pre41 : ∀ t, Steps p.tables e below (s₁.setTop (mkF m 112 #[.val (.int p0)] [(.int (8304 : Int32)), (.int p0)])) t → Steps p.tables e below (s₁.setTop (entryFrame m #[(.int p0)] 1)) t := fun t kt => pre39 t (by
                                    show Steps p.tables e below (s₁.setTop (mkF m 105 #[.val (.int p0)] [(.int (8205 : Int32)), (.int p0)])) _
                                    refine XS.icmpNo X0.here hx rfl (hb hby d1_105) rfl (tlt hc105_40).2.2.2 ?_
                                    show Steps p.tables e below (s₁.setTop (mkF m 108 #[.val (.int p0)] [])) _
                                    refine XS.iloadN X0.here hx rfl (hb hby d1_108) rfl ?_
                                    show Steps p.tables e below (s₁.setTop (mkF m 109 #[.val (.int p0)] [(.int p0)])) _
                                    refine XS.sipush X0.here hx rfl (hb hby d1_109) ?_
                                    exact kt)
                                  clear pre39
                                  by_cases hc112_42 : p0 < (8304 : Int32)
                                  · have hc112_42z : p0.toInt < 8304 := (own_ltI (by decide)).mp hc112_42
                                    have pre43 : ∀ t, Steps p.tables e below (s₁.setTop (mkF m 190 #[.val (.int p0)] [(.int (0 : Int32))])) t → Steps p.tables e below (s₁.setTop (entryFrame m #[(.int p0)] 1)) t := fun t kt => pre41 t (by
                                      show Steps p.tables e below (s₁.setTop (mkF m 112 #[.val (.int p0)] [(.int (8304 : Int32)), (.int p0)])) _
                                      refine XS.icmpYes X0.here hx rfl (pc0 := 112) (pc' := 122) rfl (hb hby d1_112) rfl (tlt hc112_42).1 (by decide) (by decide) ?_
                                      show Steps p.tables e below (s₁.setTop (mkF m 122 #[.val (.int p0)] [])) _
                                      refine XS.iloadN X0.here hx rfl (hb hby d1_122) rfl ?_
                                      show Steps p.tables e below (s₁.setTop (mkF m 123 #[.val (.int p0)] [(.int p0)])) _
                                      refine XS.sipush X0.here hx rfl (hb hby d1_123) ?_
                                      show Steps p.tables e below (s₁.setTop (mkF m 126 #[.val (.int p0)] [(.int (11264 : Int32)), (.int p0)])) _
                                      refine XS.icmpYes X0.here hx rfl (pc0 := 126) (pc' := 136) rfl (hb hby d1_126) rfl (tlt ((own_ltI (by decide)).mpr (by omega : p0.toInt < 11264) : p0 < (11264 : Int32))).1 (by decide) (by decide) ?_
                                      show Steps p.tables e below (s₁.setTop (mkF m 136 #[.val (.int p0)] [])) _
                                      refine XS.iloadN X0.here hx rfl (hb hby d1_136) rfl ?_
                                      show Steps p.tables e below (s₁.setTop (mkF m 137 #[.val (.int p0)] [(.int p0)])) _
                                      refine XS.sipush X0.here hx rfl (hb hby d1_137) ?_
                                      show Steps p.tables e below (s₁.setTop (mkF m 140 #[.val (.int p0)] [(.int (12289 : Int32)), (.int p0)])) _
                                      refine XS.icmpYes X0.here hx rfl (pc0 := 140) (pc' := 149) rfl (hb hby d1_140) rfl (tlt ((own_ltI (by decide)).mpr (by omega : p0.toInt < 12289) : p0 < (12289 : Int32))).1 (by decide) (by decide) ?_
                                      show Steps p.tables e below (s₁.setTop (mkF m 149 #[.val (.int p0)] [])) _
                                      refine XS.iloadN X0.here hx rfl (hb hby d1_149) rfl ?_
                                      show Steps p.tables e below (s₁.setTop (mkF m 150 #[.val (.int p0)] [(.int p0)])) _
                                      refine X0.ldcInt hx hown (mvT hZ (hw _ (List.mem_of_getElem? (i := 4) rfl))) (g := (mkF m 150 #[.val (.int p0)] [(.int p0)])) rfl (hb hby d1_150) _ ?_
                                      show Steps p.tables e below (s₁.setTop (mkF m 152 #[.val (.int p0)] [(.int (63744 : Int32)), (.int p0)])) _
                                      refine XS.icmpYes X0.here hx rfl (pc0 := 152) (pc' := 161) rfl (hb hby d1_152) rfl (tlt ((own_ltI (by decide)).mpr (by omega : p0.toInt < 63744) : p0 < (63744 : Int32))).1 (by decide) (by decide) ?_
                                      show Steps p.tables e below (s₁.setTop (mkF m 161 #[.val (.int p0)] [])) _
                                      refine XS.iloadN X0.here hx rfl (hb hby d1_161) rfl ?_
                                      show Steps p.tables e below (s₁.setTop (mkF m 162 #[.val (.int p0)] [(.int p0)])) _
                                      refine X0.ldcInt hx hown (mvT hZ (hw _ (List.mem_of_getElem? (i := 5) rfl))) (g := (mkF m 162 #[.val (.int p0)] [(.int p0)])) rfl (hb hby d1_162) _ ?_
                                      show Steps p.tables e below (s₁.setTop (mkF m 164 #[.val (.int p0)] [(.int (65008 : Int32)), (.int p0)])) _
                                      refine XS.icmpYes X0.here hx rfl (pc0 := 164) (pc' := 173) rfl (hb hby d1_164) rfl (tlt ((own_ltI (by decide)).mpr (by omega : p0.toInt < 65008) : p0 < (65008 : Int32))).1 (by decide) (by decide) ?_
                                      show Steps p.tables e below (s₁.setTop (mkF m 173 #[.val (.int p0)] [])) _
                                      refine XS.iloadN X0.here hx rfl (hb hby d1_173) rfl ?_
                                      show Steps p.tables e below (s₁.setTop (mkF m 174 #[.val (.int p0)] [(.int p0)])) _
                                      refine X0.ldcInt hx hown (mvT hZ (hw _ (List.mem_of_getElem? (i := 6) rfl))) (g := (mkF m 174 #[.val (.int p0)] [(.int p0)])) rfl (hb hby d1_174) _ ?_
                                      show Steps p.tables e below (s₁.setTop (mkF m 176 #[.val (.int p0)] [(.int (65536 : Int32)), (.int p0)])) _
                                      refine XS.icmpYes X0.here hx rfl (pc0 := 176) (pc' := 189) rfl (hb hby d1_176) rfl (tlt ((own_ltI (by decide)).mpr (by omega : p0.toInt < 65536) : p0 < (65536 : Int32))).1 (by decide) (by decide) ?_
                                      show Steps p.tables e below (s₁.setTop (mkF m 189 #[.val (.int p0)] [])) _
                                      refine XS.iconst X0.here hx rfl (hb hby d1_189) ?_
                                      exact kt)
                                    clear pre41
                                    have hv : f1 p0 = (0 : Int32) := by
                                      unfold f1
                                      rw [if_neg hc3_2, if_pos hc9_5, if_neg hc15_7, if_pos hc21_10, if_neg hc28_12, if_pos hc35_15, if_neg hc42_17, if_pos hc49_20, if_neg hc56_22, if_pos hc63_25, if_neg hc70_27, if_pos hc77_30, if_neg hc84_32, if_pos hc91_35, if_neg hc98_37, if_pos hc105_40, if_pos hc112_42]
                                    obtain ⟨fs, hr, hrun, hended, hW, hsame⟩ := X0.leave (v := some (.int (f1 p0))) (fun h => by rw [Bd.returns] at h; cases h)
                                    refine ⟨_, _, pre43 _ ?_, hrun, hended, _, _, rfl, ?_, ⟨_, rfl⟩, hW, hsame.mono (by decide) (by decide)⟩
                                    · rw [hv] at hr
                                      show Steps p.tables e below (s₁.setTop (mkF m 190 #[.val (.int p0)] [(.int (0 : Int32))])) _
                                      exact retN X0 hx (t := .boolean) Bd.returns (by simp) (hb hby d1_190) hr
                                    · show Q1 Z p0 h0 n0 _ s₁.heap _
                                      rw [e0]
                                      exact ⟨rfl, N0, rfl⟩
                                  · have hc112_42z : ¬ (p0.toInt < 8304) := fun q => hc112_42 ((own_ltI (by decide)).mpr q)
                                    have pre44 : ∀ t, Steps p.tables e below (s₁.setTop (mkF m 119 #[.val (.int p0)] [(.int (8591 : Int32)), (.int p0)])) t → Steps p.tables e below (s₁.setTop (entryFrame m #[(.int p0)] 1)) t := fun t kt => pre41 t (by
                                      show Steps p.tables e below (s₁.setTop (mkF m 112 #[.val (.int p0)] [(.int (8304 : Int32)), (.int p0)])) _
                                      refine XS.icmpNo X0.here hx rfl (hb hby d1_112) rfl (flt hc112_42).1 ?_
                                      show Steps p.tables e below (s₁.setTop (mkF m 115 #[.val (.int p0)] [])) _
                                      refine XS.iloadN X0.here hx rfl (hb hby d1_115) rfl ?_
                                      show Steps p.tables e below (s₁.setTop (mkF m 116 #[.val (.int p0)] [(.int p0)])) _
                                      refine XS.sipush X0.here hx rfl (hb hby d1_116) ?_
                                      exact kt)
                                    clear pre41
                                    by_cases hc119_45 : (8591 : Int32) < p0
                                    · have hc119_45z : 8591 < p0.toInt := (own_gtI (by decide)).mp hc119_45
                                      have pre46 : ∀ t, Steps p.tables e below (s₁.setTop (mkF m 126 #[.val (.int p0)] [(.int (11264 : Int32)), (.int p0)])) t → Steps p.tables e below (s₁.setTop (entryFrame m #[(.int p0)] 1)) t := fun t kt => pre44 t (by
                                        show Steps p.tables e below (s₁.setTop (mkF m 119 #[.val (.int p0)] [(.int (8591 : Int32)), (.int p0)])) _
                                        refine XS.icmpNo X0.here hx rfl (hb hby d1_119) rfl (tlt hc119_45).2.2.2 ?_
                                        show Steps p.tables e below (s₁.setTop (mkF m 122 #[.val (.int p0)] [])) _
                                        refine XS.iloadN X0.here hx rfl (hb hby d1_122) rfl ?_
                                        show Steps p.tables e below (s₁.setTop (mkF m 123 #[.val (.int p0)] [(.int p0)])) _
                                        refine XS.sipush X0.here hx rfl (hb hby d1_123) ?_
                                        exact kt)
                                      clear pre44
                                      by_cases hc126_47 : p0 < (11264 : Int32)
                                      · have hc126_47z : p0.toInt < 11264 := (own_ltI (by decide)).mp hc126_47
                                        have pre48 : ∀ t, Steps p.tables e below (s₁.setTop (mkF m 190 #[.val (.int p0)] [(.int (0 : Int32))])) t → Steps p.tables e below (s₁.setTop (entryFrame m #[(.int p0)] 1)) t := fun t kt => pre46 t (by
                                          show Steps p.tables e below (s₁.setTop (mkF m 126 #[.val (.int p0)] [(.int (11264 : Int32)), (.int p0)])) _
                                          refine XS.icmpYes X0.here hx rfl (pc0 := 126) (pc' := 136) rfl (hb hby d1_126) rfl (tlt hc126_47).1 (by decide) (by decide) ?_
                                          show Steps p.tables e below (s₁.setTop (mkF m 136 #[.val (.int p0)] [])) _
                                          refine XS.iloadN X0.here hx rfl (hb hby d1_136) rfl ?_
                                          show Steps p.tables e below (s₁.setTop (mkF m 137 #[.val (.int p0)] [(.int p0)])) _
                                          refine XS.sipush X0.here hx rfl (hb hby d1_137) ?_
                                          show Steps p.tables e below (s₁.setTop (mkF m 140 #[.val (.int p0)] [(.int (12289 : Int32)), (.int p0)])) _
                                          refine XS.icmpYes X0.here hx rfl (pc0 := 140) (pc' := 149) rfl (hb hby d1_140) rfl (tlt ((own_ltI (by decide)).mpr (by omega : p0.toInt < 12289) : p0 < (12289 : Int32))).1 (by decide) (by decide) ?_
                                          show Steps p.tables e below (s₁.setTop (mkF m 149 #[.val (.int p0)] [])) _
                                          refine XS.iloadN X0.here hx rfl (hb hby d1_149) rfl ?_
                                          show Steps p.tables e below (s₁.setTop (mkF m 150 #[.val (.int p0)] [(.int p0)])) _
                                          refine X0.ldcInt hx hown (mvT hZ (hw _ (List.mem_of_getElem? (i := 4) rfl))) (g := (mkF m 150 #[.val (.int p0)] [(.int p0)])) rfl (hb hby d1_150) _ ?_
                                          show Steps p.tables e below (s₁.setTop (mkF m 152 #[.val (.int p0)] [(.int (63744 : Int32)), (.int p0)])) _
                                          refine XS.icmpYes X0.here hx rfl (pc0 := 152) (pc' := 161) rfl (hb hby d1_152) rfl (tlt ((own_ltI (by decide)).mpr (by omega : p0.toInt < 63744) : p0 < (63744 : Int32))).1 (by decide) (by decide) ?_
                                          show Steps p.tables e below (s₁.setTop (mkF m 161 #[.val (.int p0)] [])) _
                                          refine XS.iloadN X0.here hx rfl (hb hby d1_161) rfl ?_
                                          show Steps p.tables e below (s₁.setTop (mkF m 162 #[.val (.int p0)] [(.int p0)])) _
                                          refine X0.ldcInt hx hown (mvT hZ (hw _ (List.mem_of_getElem? (i := 5) rfl))) (g := (mkF m 162 #[.val (.int p0)] [(.int p0)])) rfl (hb hby d1_162) _ ?_
                                          show Steps p.tables e below (s₁.setTop (mkF m 164 #[.val (.int p0)] [(.int (65008 : Int32)), (.int p0)])) _
                                          refine XS.icmpYes X0.here hx rfl (pc0 := 164) (pc' := 173) rfl (hb hby d1_164) rfl (tlt ((own_ltI (by decide)).mpr (by omega : p0.toInt < 65008) : p0 < (65008 : Int32))).1 (by decide) (by decide) ?_
                                          show Steps p.tables e below (s₁.setTop (mkF m 173 #[.val (.int p0)] [])) _
                                          refine XS.iloadN X0.here hx rfl (hb hby d1_173) rfl ?_
                                          show Steps p.tables e below (s₁.setTop (mkF m 174 #[.val (.int p0)] [(.int p0)])) _
                                          refine X0.ldcInt hx hown (mvT hZ (hw _ (List.mem_of_getElem? (i := 6) rfl))) (g := (mkF m 174 #[.val (.int p0)] [(.int p0)])) rfl (hb hby d1_174) _ ?_
                                          show Steps p.tables e below (s₁.setTop (mkF m 176 #[.val (.int p0)] [(.int (65536 : Int32)), (.int p0)])) _
                                          refine XS.icmpYes X0.here hx rfl (pc0 := 176) (pc' := 189) rfl (hb hby d1_176) rfl (tlt ((own_ltI (by decide)).mpr (by omega : p0.toInt < 65536) : p0 < (65536 : Int32))).1 (by decide) (by decide) ?_
                                          show Steps p.tables e below (s₁.setTop (mkF m 189 #[.val (.int p0)] [])) _
                                          refine XS.iconst X0.here hx rfl (hb hby d1_189) ?_
                                          exact kt)
                                        clear pre46
                                        have hv : f1 p0 = (0 : Int32) := by
                                          unfold f1
                                          rw [if_neg hc3_2, if_pos hc9_5, if_neg hc15_7, if_pos hc21_10, if_neg hc28_12, if_pos hc35_15, if_neg hc42_17, if_pos hc49_20, if_neg hc56_22, if_pos hc63_25, if_neg hc70_27, if_pos hc77_30, if_neg hc84_32, if_pos hc91_35, if_neg hc98_37, if_pos hc105_40, if_neg hc112_42, if_pos hc119_45, if_pos hc126_47]
                                        obtain ⟨fs, hr, hrun, hended, hW, hsame⟩ := X0.leave (v := some (.int (f1 p0))) (fun h => by rw [Bd.returns] at h; cases h)
                                        refine ⟨_, _, pre48 _ ?_, hrun, hended, _, _, rfl, ?_, ⟨_, rfl⟩, hW, hsame.mono (by decide) (by decide)⟩
                                        · rw [hv] at hr
                                          show Steps p.tables e below (s₁.setTop (mkF m 190 #[.val (.int p0)] [(.int (0 : Int32))])) _
                                          exact retN X0 hx (t := .boolean) Bd.returns (by simp) (hb hby d1_190) hr
                                        · show Q1 Z p0 h0 n0 _ s₁.heap _
                                          rw [e0]
                                          exact ⟨rfl, N0, rfl⟩
                                      · have hc126_47z : ¬ (p0.toInt < 11264) := fun q => hc126_47 ((own_ltI (by decide)).mpr q)
                                        have pre49 : ∀ t, Steps p.tables e below (s₁.setTop (mkF m 133 #[.val (.int p0)] [(.int (12271 : Int32)), (.int p0)])) t → Steps p.tables e below (s₁.setTop (entryFrame m #[(.int p0)] 1)) t := fun t kt => pre46 t (by
                                          show Steps p.tables e below (s₁.setTop (mkF m 126 #[.val (.int p0)] [(.int (11264 : Int32)), (.int p0)])) _
                                          refine XS.icmpNo X0.here hx rfl (hb hby d1_126) rfl (flt hc126_47).1 ?_
                                          show Steps p.tables e below (s₁.setTop (mkF m 129 #[.val (.int p0)] [])) _
                                          refine XS.iloadN X0.here hx rfl (hb hby d1_129) rfl ?_
                                          show Steps p.tables e below (s₁.setTop (mkF m 130 #[.val (.int p0)] [(.int p0)])) _
                                          refine XS.sipush X0.here hx rfl (hb hby d1_130) ?_
                                          exact kt)
                                        clear pre46
                                        by_cases hc133_50 : (12271 : Int32) < p0
                                        · have hc133_50z : 12271 < p0.toInt := (own_gtI (by decide)).mp hc133_50
                                          have pre51 : ∀ t, Steps p.tables e below (s₁.setTop (mkF m 140 #[.val (.int p0)] [(.int (12289 : Int32)), (.int p0)])) t → Steps p.tables e below (s₁.setTop (entryFrame m #[(.int p0)] 1)) t := fun t kt => pre49 t (by
                                            show Steps p.tables e below (s₁.setTop (mkF m 133 #[.val (.int p0)] [(.int (12271 : Int32)), (.int p0)])) _
                                            refine XS.icmpNo X0.here hx rfl (hb hby d1_133) rfl (tlt hc133_50).2.2.2 ?_
                                            show Steps p.tables e below (s₁.setTop (mkF m 136 #[.val (.int p0)] [])) _
                                            refine XS.iloadN X0.here hx rfl (hb hby d1_136) rfl ?_
                                            show Steps p.tables e below (s₁.setTop (mkF m 137 #[.val (.int p0)] [(.int p0)])) _
                                            refine XS.sipush X0.here hx rfl (hb hby d1_137) ?_
                                            exact kt)
                                          clear pre49
                                          by_cases hc140_52 : p0 < (12289 : Int32)
                                          · have hc140_52z : p0.toInt < 12289 := (own_ltI (by decide)).mp hc140_52
                                            have pre53 : ∀ t, Steps p.tables e below (s₁.setTop (mkF m 190 #[.val (.int p0)] [(.int (0 : Int32))])) t → Steps p.tables e below (s₁.setTop (entryFrame m #[(.int p0)] 1)) t := fun t kt => pre51 t (by
                                              show Steps p.tables e below (s₁.setTop (mkF m 140 #[.val (.int p0)] [(.int (12289 : Int32)), (.int p0)])) _
                                              refine XS.icmpYes X0.here hx rfl (pc0 := 140) (pc' := 149) rfl (hb hby d1_140) rfl (tlt hc140_52).1 (by decide) (by decide) ?_
                                              show Steps p.tables e below (s₁.setTop (mkF m 149 #[.val (.int p0)] [])) _
                                              refine XS.iloadN X0.here hx rfl (hb hby d1_149) rfl ?_
                                              show Steps p.tables e below (s₁.setTop (mkF m 150 #[.val (.int p0)] [(.int p0)])) _
                                              refine X0.ldcInt hx hown (mvT hZ (hw _ (List.mem_of_getElem? (i := 4) rfl))) (g := (mkF m 150 #[.val (.int p0)] [(.int p0)])) rfl (hb hby d1_150) _ ?_
                                              show Steps p.tables e below (s₁.setTop (mkF m 152 #[.val (.int p0)] [(.int (63744 : Int32)), (.int p0)])) _
                                              refine XS.icmpYes X0.here hx rfl (pc0 := 152) (pc' := 161) rfl (hb hby d1_152) rfl (tlt ((own_ltI (by decide)).mpr (by omega : p0.toInt < 63744) : p0 < (63744 : Int32))).1 (by decide) (by decide) ?_
                                              show Steps p.tables e below (s₁.setTop (mkF m 161 #[.val (.int p0)] [])) _
                                              refine XS.iloadN X0.here hx rfl (hb hby d1_161) rfl ?_
                                              show Steps p.tables e below (s₁.setTop (mkF m 162 #[.val (.int p0)] [(.int p0)])) _
                                              refine X0.ldcInt hx hown (mvT hZ (hw _ (List.mem_of_getElem? (i := 5) rfl))) (g := (mkF m 162 #[.val (.int p0)] [(.int p0)])) rfl (hb hby d1_162) _ ?_
                                              show Steps p.tables e below (s₁.setTop (mkF m 164 #[.val (.int p0)] [(.int (65008 : Int32)), (.int p0)])) _
                                              refine XS.icmpYes X0.here hx rfl (pc0 := 164) (pc' := 173) rfl (hb hby d1_164) rfl (tlt ((own_ltI (by decide)).mpr (by omega : p0.toInt < 65008) : p0 < (65008 : Int32))).1 (by decide) (by decide) ?_
                                              show Steps p.tables e below (s₁.setTop (mkF m 173 #[.val (.int p0)] [])) _
                                              refine XS.iloadN X0.here hx rfl (hb hby d1_173) rfl ?_
                                              show Steps p.tables e below (s₁.setTop (mkF m 174 #[.val (.int p0)] [(.int p0)])) _
                                              refine X0.ldcInt hx hown (mvT hZ (hw _ (List.mem_of_getElem? (i := 6) rfl))) (g := (mkF m 174 #[.val (.int p0)] [(.int p0)])) rfl (hb hby d1_174) _ ?_
                                              show Steps p.tables e below (s₁.setTop (mkF m 176 #[.val (.int p0)] [(.int (65536 : Int32)), (.int p0)])) _
                                              refine XS.icmpYes X0.here hx rfl (pc0 := 176) (pc' := 189) rfl (hb hby d1_176) rfl (tlt ((own_ltI (by decide)).mpr (by omega : p0.toInt < 65536) : p0 < (65536 : Int32))).1 (by decide) (by decide) ?_
                                              show Steps p.tables e below (s₁.setTop (mkF m 189 #[.val (.int p0)] [])) _
                                              refine XS.iconst X0.here hx rfl (hb hby d1_189) ?_
                                              exact kt)
                                            clear pre51
                                            have hv : f1 p0 = (0 : Int32) := by
                                              unfold f1
                                              rw [if_neg hc3_2, if_pos hc9_5, if_neg hc15_7, if_pos hc21_10, if_neg hc28_12, if_pos hc35_15, if_neg hc42_17, if_pos hc49_20, if_neg hc56_22, if_pos hc63_25, if_neg hc70_27, if_pos hc77_30, if_neg hc84_32, if_pos hc91_35, if_neg hc98_37, if_pos hc105_40, if_neg hc112_42, if_pos hc119_45, if_neg hc126_47, if_pos hc133_50, if_pos hc140_52]
                                            obtain ⟨fs, hr, hrun, hended, hW, hsame⟩ := X0.leave (v := some (.int (f1 p0))) (fun h => by rw [Bd.returns] at h; cases h)
                                            refine ⟨_, _, pre53 _ ?_, hrun, hended, _, _, rfl, ?_, ⟨_, rfl⟩, hW, hsame.mono (by decide) (by decide)⟩
                                            · rw [hv] at hr
                                              show Steps p.tables e below (s₁.setTop (mkF m 190 #[.val (.int p0)] [(.int (0 : Int32))])) _
                                              exact retN X0 hx (t := .boolean) Bd.returns (by simp) (hb hby d1_190) hr
                                            · show Q1 Z p0 h0 n0 _ s₁.heap _
                                              rw [e0]
                                              exact ⟨rfl, N0, rfl⟩
                                          · have hc140_52z : ¬ (p0.toInt < 12289) := fun q => hc140_52 ((own_ltI (by decide)).mpr q)
                                            have pre54 : ∀ t, Steps p.tables e below (s₁.setTop (mkF m 146 #[.val (.int p0)] [(.int (55295 : Int32)), (.int p0)])) t → Steps p.tables e below (s₁.setTop (entryFrame m #[(.int p0)] 1)) t := fun t kt => pre51 t (by
                                              show Steps p.tables e below (s₁.setTop (mkF m 140 #[.val (.int p0)] [(.int (12289 : Int32)), (.int p0)])) _
                                              refine XS.icmpNo X0.here hx rfl (hb hby d1_140) rfl (flt hc140_52).1 ?_
                                              show Steps p.tables e below (s₁.setTop (mkF m 143 #[.val (.int p0)] [])) _
                                              refine XS.iloadN X0.here hx rfl (hb hby d1_143) rfl ?_
                                              show Steps p.tables e below (s₁.setTop (mkF m 144 #[.val (.int p0)] [(.int p0)])) _
                                              refine X0.ldcInt hx hown (mvT hZ (hw _ (List.mem_of_getElem? (i := 20) rfl))) (g := (mkF m 144 #[.val (.int p0)] [(.int p0)])) rfl (hb hby d1_144) _ ?_
                                              exact kt)
                                            clear pre51
                                            by_cases hc146_55 : (55295 : Int32) < p0
                                            · have hc146_55z : 55295 < p0.toInt := (own_gtI (by decide)).mp hc146_55
                                              have pre56 : ∀ t, Steps p.tables e below (s₁.setTop (mkF m 152 #[.val (.int p0)] [(.int (63744 : Int32)), (.int p0)])) t → Steps p.tables e below (s₁.setTop (entryFrame m #[(.int p0)] 1)) t := fun t kt => pre54 t (by
                                                show Steps p.tables e below (s₁.setTop (mkF m 146 #[.val (.int p0)] [(.int (55295 : Int32)), (.int p0)])) _
                                                refine XS.icmpNo X0.here hx rfl (hb hby d1_146) rfl (tlt hc146_55).2.2.2 ?_
                                                show Steps p.tables e below (s₁.setTop (mkF m 149 #[.val (.int p0)] [])) _
                                                refine XS.iloadN X0.here hx rfl (hb hby d1_149) rfl ?_
                                                show Steps p.tables e below (s₁.setTop (mkF m 150 #[.val (.int p0)] [(.int p0)])) _
                                                refine X0.ldcInt hx hown (mvT hZ (hw _ (List.mem_of_getElem? (i := 4) rfl))) (g := (mkF m 150 #[.val (.int p0)] [(.int p0)])) rfl (hb hby d1_150) _ ?_
                                                exact kt)
                                              clear pre54
                                              by_cases hc152_57 : p0 < (63744 : Int32)
                                              · have hc152_57z : p0.toInt < 63744 := (own_ltI (by decide)).mp hc152_57
                                                have pre58 : ∀ t, Steps p.tables e below (s₁.setTop (mkF m 190 #[.val (.int p0)] [(.int (0 : Int32))])) t → Steps p.tables e below (s₁.setTop (entryFrame m #[(.int p0)] 1)) t := fun t kt => pre56 t (by
                                                  show Steps p.tables e below (s₁.setTop (mkF m 152 #[.val (.int p0)] [(.int (63744 : Int32)), (.int p0)])) _
                                                  refine XS.icmpYes X0.here hx rfl (pc0 := 152) (pc' := 161) rfl (hb hby d1_152) rfl (tlt hc152_57).1 (by decide) (by decide) ?_
                                                  show Steps p.tables e below (s₁.setTop (mkF m 161 #[.val (.int p0)] [])) _
                                                  refine XS.iloadN X0.here hx rfl (hb hby d1_161) rfl ?_
                                                  show Steps p.tables e below (s₁.setTop (mkF m 162 #[.val (.int p0)] [(.int p0)])) _
                                                  refine X0.ldcInt hx hown (mvT hZ (hw _ (List.mem_of_getElem? (i := 5) rfl))) (g := (mkF m 162 #[.val (.int p0)] [(.int p0)])) rfl (hb hby d1_162) _ ?_
                                                  show Steps p.tables e below (s₁.setTop (mkF m 164 #[.val (.int p0)] [(.int (65008 : Int32)), (.int p0)])) _
                                                  refine XS.icmpYes X0.here hx rfl (pc0 := 164) (pc' := 173) rfl (hb hby d1_164) rfl (tlt ((own_ltI (by decide)).mpr (by omega : p0.toInt < 65008) : p0 < (65008 : Int32))).1 (by decide) (by decide) ?_
                                                  show Steps p.tables e below (s₁.setTop (mkF m 173 #[.val (.int p0)] [])) _
                                                  refine XS.iloadN X0.here hx rfl (hb hby d1_173) rfl ?_
                                                  show Steps p.tables e below (s₁.setTop (mkF m 174 #[.val (.int p0)] [(.int p0)])) _
                                                  refine X0.ldcInt hx hown (mvT hZ (hw _ (List.mem_of_getElem? (i := 6) rfl))) (g := (mkF m 174 #[.val (.int p0)] [(.int p0)])) rfl (hb hby d1_174) _ ?_
                                                  show Steps p.tables e below (s₁.setTop (mkF m 176 #[.val (.int p0)] [(.int (65536 : Int32)), (.int p0)])) _
                                                  refine XS.icmpYes X0.here hx rfl (pc0 := 176) (pc' := 189) rfl (hb hby d1_176) rfl (tlt ((own_ltI (by decide)).mpr (by omega : p0.toInt < 65536) : p0 < (65536 : Int32))).1 (by decide) (by decide) ?_
                                                  show Steps p.tables e below (s₁.setTop (mkF m 189 #[.val (.int p0)] [])) _
                                                  refine XS.iconst X0.here hx rfl (hb hby d1_189) ?_
                                                  exact kt)
                                                clear pre56
                                                have hv : f1 p0 = (0 : Int32) := by
                                                  unfold f1
                                                  rw [if_neg hc3_2, if_pos hc9_5, if_neg hc15_7, if_pos hc21_10, if_neg hc28_12, if_pos hc35_15, if_neg hc42_17, if_pos hc49_20, if_neg hc56_22, if_pos hc63_25, if_neg hc70_27, if_pos hc77_30, if_neg hc84_32, if_pos hc91_35, if_neg hc98_37, if_pos hc105_40, if_neg hc112_42, if_pos hc119_45, if_neg hc126_47, if_pos hc133_50, if_neg hc140_52, if_pos hc146_55, if_pos hc152_57]
                                                obtain ⟨fs, hr, hrun, hended, hW, hsame⟩ := X0.leave (v := some (.int (f1 p0))) (fun h => by rw [Bd.returns] at h; cases h)
                                                refine ⟨_, _, pre58 _ ?_, hrun, hended, _, _, rfl, ?_, ⟨_, rfl⟩, hW, hsame.mono (by decide) (by decide)⟩
                                                · rw [hv] at hr
                                                  show Steps p.tables e below (s₁.setTop (mkF m 190 #[.val (.int p0)] [(.int (0 : Int32))])) _
                                                  exact retN X0 hx (t := .boolean) Bd.returns (by simp) (hb hby d1_190) hr
                                                · show Q1 Z p0 h0 n0 _ s₁.heap _
                                                  rw [e0]
                                                  exact ⟨rfl, N0, rfl⟩
                                              · have hc152_57z : ¬ (p0.toInt < 63744) := fun q => hc152_57 ((own_ltI (by decide)).mpr q)
                                                have pre59 : ∀ t, Steps p.tables e below (s₁.setTop (mkF m 158 #[.val (.int p0)] [(.int (64975 : Int32)), (.int p0)])) t → Steps p.tables e below (s₁.setTop (entryFrame m #[(.int p0)] 1)) t := fun t kt => pre56 t (by
                                                  show Steps p.tables e below (s₁.setTop (mkF m 152 #[.val (.int p0)] [(.int (63744 : Int32)), (.int p0)])) _
                                                  refine XS.icmpNo X0.here hx rfl (hb hby d1_152) rfl (flt hc152_57).1 ?_
                                                  show Steps p.tables e below (s₁.setTop (mkF m 155 #[.val (.int p0)] [])) _
                                                  refine XS.iloadN X0.here hx rfl (hb hby d1_155) rfl ?_
                                                  show Steps p.tables e below (s₁.setTop (mkF m 156 #[.val (.int p0)] [(.int p0)])) _
                                                  refine X0.ldcInt hx hown (mvT hZ (hw _ (List.mem_of_getElem? (i := 21) rfl))) (g := (mkF m 156 #[.val (.int p0)] [(.int p0)])) rfl (hb hby d1_156) _ ?_
                                                  exact kt)
                                                clear pre56
                                                by_cases hc158_60 : (64975 : Int32) < p0
                                                · have hc158_60z : 64975 < p0.toInt := (own_gtI (by decide)).mp hc158_60
                                                  have pre61 : ∀ t, Steps p.tables e below (s₁.setTop (mkF m 164 #[.val (.int p0)] [(.int (65008 : Int32)), (.int p0)])) t → Steps p.tables e below (s₁.setTop (entryFrame m #[(.int p0)] 1)) t := fun t kt => pre59 t (by
                                                    show Steps p.tables e below (s₁.setTop (mkF m 158 #[.val (.int p0)] [(.int (64975 : Int32)), (.int p0)])) _
                                                    refine XS.icmpNo X0.here hx rfl (hb hby d1_158) rfl (tlt hc158_60).2.2.2 ?_
                                                    show Steps p.tables e below (s₁.setTop (mkF m 161 #[.val (.int p0)] [])) _
                                                    refine XS.iloadN X0.here hx rfl (hb hby d1_161) rfl ?_
                                                    show Steps p.tables e below (s₁.setTop (mkF m 162 #[.val (.int p0)] [(.int p0)])) _
                                                    refine X0.ldcInt hx hown (mvT hZ (hw _ (List.mem_of_getElem? (i := 5) rfl))) (g := (mkF m 162 #[.val (.int p0)] [(.int p0)])) rfl (hb hby d1_162) _ ?_
                                                    exact kt)
                                                  clear pre59
                                                  by_cases hc164_62 : p0 < (65008 : Int32)
                                                  · have hc164_62z : p0.toInt < 65008 := (own_ltI (by decide)).mp hc164_62
                                                    have pre63 : ∀ t, Steps p.tables e below (s₁.setTop (mkF m 190 #[.val (.int p0)] [(.int (0 : Int32))])) t → Steps p.tables e below (s₁.setTop (entryFrame m #[(.int p0)] 1)) t := fun t kt => pre61 t (by
                                                      show Steps p.tables e below (s₁.setTop (mkF m 164 #[.val (.int p0)] [(.int (65008 : Int32)), (.int p0)])) _
                                                      refine XS.icmpYes X0.here hx rfl (pc0 := 164) (pc' := 173) rfl (hb hby d1_164) rfl (tlt hc164_62).1 (by decide) (by decide) ?_
                                                      show Steps p.tables e below (s₁.setTop (mkF m 173 #[.val (.int p0)] [])) _
                                                      refine XS.iloadN X0.here hx rfl (hb hby d1_173) rfl ?_
                                                      show Steps p.tables e below (s₁.setTop (mkF m 174 #[.val (.int p0)] [(.int p0)])) _
                                                      refine X0.ldcInt hx hown (mvT hZ (hw _ (List.mem_of_getElem? (i := 6) rfl))) (g := (mkF m 174 #[.val (.int p0)] [(.int p0)])) rfl (hb hby d1_174) _ ?_
                                                      show Steps p.tables e below (s₁.setTop (mkF m 176 #[.val (.int p0)] [(.int (65536 : Int32)), (.int p0)])) _
                                                      refine XS.icmpYes X0.here hx rfl (pc0 := 176) (pc' := 189) rfl (hb hby d1_176) rfl (tlt ((own_ltI (by decide)).mpr (by omega : p0.toInt < 65536) : p0 < (65536 : Int32))).1 (by decide) (by decide) ?_
                                                      show Steps p.tables e below (s₁.setTop (mkF m 189 #[.val (.int p0)] [])) _
                                                      refine XS.iconst X0.here hx rfl (hb hby d1_189) ?_
                                                      exact kt)
                                                    clear pre61
                                                    have hv : f1 p0 = (0 : Int32) := by
                                                      unfold f1
                                                      rw [if_neg hc3_2, if_pos hc9_5, if_neg hc15_7, if_pos hc21_10, if_neg hc28_12, if_pos hc35_15, if_neg hc42_17, if_pos hc49_20, if_neg hc56_22, if_pos hc63_25, if_neg hc70_27, if_pos hc77_30, if_neg hc84_32, if_pos hc91_35, if_neg hc98_37, if_pos hc105_40, if_neg hc112_42, if_pos hc119_45, if_neg hc126_47, if_pos hc133_50, if_neg hc140_52, if_pos hc146_55, if_neg hc152_57, if_pos hc158_60, if_pos hc164_62]
                                                    obtain ⟨fs, hr, hrun, hended, hW, hsame⟩ := X0.leave (v := some (.int (f1 p0))) (fun h => by rw [Bd.returns] at h; cases h)
                                                    refine ⟨_, _, pre63 _ ?_, hrun, hended, _, _, rfl, ?_, ⟨_, rfl⟩, hW, hsame.mono (by decide) (by decide)⟩
                                                    · rw [hv] at hr
                                                      show Steps p.tables e below (s₁.setTop (mkF m 190 #[.val (.int p0)] [(.int (0 : Int32))])) _
                                                      exact retN X0 hx (t := .boolean) Bd.returns (by simp) (hb hby d1_190) hr
                                                    · show Q1 Z p0 h0 n0 _ s₁.heap _
                                                      rw [e0]
                                                      exact ⟨rfl, N0, rfl⟩
                                                  · have hc164_62z : ¬ (p0.toInt < 65008) := fun q => hc164_62 ((own_ltI (by decide)).mpr q)
                                                    have pre64 : ∀ t, Steps p.tables e below (s₁.setTop (mkF m 170 #[.val (.int p0)] [(.int (65533 : Int32)), (.int p0)])) t → Steps p.tables e below (s₁.setTop (entryFrame m #[(.int p0)] 1)) t := fun t kt => pre61 t (by
                                                      show Steps p.tables e below (s₁.setTop (mkF m 164 #[.val (.int p0)] [(.int (65008 : Int32)), (.int p0)])) _
                                                      refine XS.icmpNo X0.here hx rfl (hb hby d1_164) rfl (flt hc164_62).1 ?_
                                                      show Steps p.tables e below (s₁.setTop (mkF m 167 #[.val (.int p0)] [])) _
                                                      refine XS.iloadN X0.here hx rfl (hb hby d1_167) rfl ?_
                                                      show Steps p.tables e below (s₁.setTop (mkF m 168 #[.val (.int p0)] [(.int p0)])) _
                                                      refine X0.ldcInt hx hown (mvT hZ (hw _ (List.mem_of_getElem? (i := 22) rfl))) (g := (mkF m 168 #[.val (.int p0)] [(.int p0)])) rfl (hb hby d1_168) _ ?_
                                                      exact kt)
                                                    clear pre61
                                                    by_cases hc170_65 : (65533 : Int32) < p0
                                                    · have hc170_65z : 65533 < p0.toInt := (own_gtI (by decide)).mp hc170_65
                                                      have pre66 : ∀ t, Steps p.tables e below (s₁.setTop (mkF m 176 #[.val (.int p0)] [(.int (65536 : Int32)), (.int p0)])) t → Steps p.tables e below (s₁.setTop (entryFrame m #[(.int p0)] 1)) t := fun t kt => pre64 t (by
                                                        show Steps p.tables e below (s₁.setTop (mkF m 170 #[.val (.int p0)] [(.int (65533 : Int32)), (.int p0)])) _
                                                        refine XS.icmpNo X0.here hx rfl (hb hby d1_170) rfl (tlt hc170_65).2.2.2 ?_
                                                        show Steps p.tables e below (s₁.setTop (mkF m 173 #[.val (.int p0)] [])) _
                                                        refine XS.iloadN X0.here hx rfl (hb hby d1_173) rfl ?_
                                                        show Steps p.tables e below (s₁.setTop (mkF m 174 #[.val (.int p0)] [(.int p0)])) _
                                                        refine X0.ldcInt hx hown (mvT hZ (hw _ (List.mem_of_getElem? (i := 6) rfl))) (g := (mkF m 174 #[.val (.int p0)] [(.int p0)])) rfl (hb hby d1_174) _ ?_
                                                        exact kt)
                                                      clear pre64
                                                      by_cases hc176_67 : p0 < (65536 : Int32)
                                                      · have hc176_67z : p0.toInt < 65536 := (own_ltI (by decide)).mp hc176_67
                                                        have pre68 : ∀ t, Steps p.tables e below (s₁.setTop (mkF m 190 #[.val (.int p0)] [(.int (0 : Int32))])) t → Steps p.tables e below (s₁.setTop (entryFrame m #[(.int p0)] 1)) t := fun t kt => pre66 t (by
                                                          show Steps p.tables e below (s₁.setTop (mkF m 176 #[.val (.int p0)] [(.int (65536 : Int32)), (.int p0)])) _
                                                          refine XS.icmpYes X0.here hx rfl (pc0 := 176) (pc' := 189) rfl (hb hby d1_176) rfl (tlt hc176_67).1 (by decide) (by decide) ?_
                                                          show Steps p.tables e below (s₁.setTop (mkF m 189 #[.val (.int p0)] [])) _
                                                          refine XS.iconst X0.here hx rfl (hb hby d1_189) ?_
                                                          exact kt)
                                                        clear pre66
                                                        have hv : f1 p0 = (0 : Int32) := by
                                                          unfold f1
                                                          rw [if_neg hc3_2, if_pos hc9_5, if_neg hc15_7, if_pos hc21_10, if_neg hc28_12, if_pos hc35_15, if_neg hc42_17, if_pos hc49_20, if_neg hc56_22, if_pos hc63_25, if_neg hc70_27, if_pos hc77_30, if_neg hc84_32, if_pos hc91_35, if_neg hc98_37, if_pos hc105_40, if_neg hc112_42, if_pos hc119_45, if_neg hc126_47, if_pos hc133_50, if_neg hc140_52, if_pos hc146_55, if_neg hc152_57, if_pos hc158_60, if_neg hc164_62, if_pos hc170_65, if_pos hc176_67]
                                                        obtain ⟨fs, hr, hrun, hended, hW, hsame⟩ := X0.leave (v := some (.int (f1 p0))) (fun h => by rw [Bd.returns] at h; cases h)
                                                        refine ⟨_, _, pre68 _ ?_, hrun, hended, _, _, rfl, ?_, ⟨_, rfl⟩, hW, hsame.mono (by decide) (by decide)⟩
                                                        · rw [hv] at hr
                                                          show Steps p.tables e below (s₁.setTop (mkF m 190 #[.val (.int p0)] [(.int (0 : Int32))])) _
                                                          exact retN X0 hx (t := .boolean) Bd.returns (by simp) (hb hby d1_190) hr
                                                        · show Q1 Z p0 h0 n0 _ s₁.heap _
                                                          rw [e0]
                                                          exact ⟨rfl, N0, rfl⟩
                                                      · have hc176_67z : ¬ (p0.toInt < 65536) := fun q => hc176_67 ((own_ltI (by decide)).mpr q)
                                                        have pre69 : ∀ t, Steps p.tables e below (s₁.setTop (mkF m 182 #[.val (.int p0)] [(.int (983039 : Int32)), (.int p0)])) t → Steps p.tables e below (s₁.setTop (entryFrame m #[(.int p0)] 1)) t := fun t kt => pre66 t (by
                                                          show Steps p.tables e below (s₁.setTop (mkF m 176 #[.val (.int p0)] [(.int (65536 : Int32)), (.int p0)])) _
                                                          refine XS.icmpNo X0.here hx rfl (hb hby d1_176) rfl (flt hc176_67).1 ?_
                                                          show Steps p.tables e below (s₁.setTop (mkF m 179 #[.val (.int p0)] [])) _
                                                          refine XS.iloadN X0.here hx rfl (hb hby d1_179) rfl ?_
                                                          show Steps p.tables e below (s₁.setTop (mkF m 180 #[.val (.int p0)] [(.int p0)])) _
                                                          refine X0.ldcInt hx hown (mvT hZ (hw _ (List.mem_of_getElem? (i := 23) rfl))) (g := (mkF m 180 #[.val (.int p0)] [(.int p0)])) rfl (hb hby d1_180) _ ?_
                                                          exact kt)
                                                        clear pre66
                                                        by_cases hc182_70 : (983039 : Int32) < p0
                                                        · have hc182_70z : 983039 < p0.toInt := (own_gtI (by decide)).mp hc182_70
                                                          have pre71 : ∀ t, Steps p.tables e below (s₁.setTop (mkF m 190 #[.val (.int p0)] [(.int (0 : Int32))])) t → Steps p.tables e below (s₁.setTop (entryFrame m #[(.int p0)] 1)) t := fun t kt => pre69 t (by
                                                            show Steps p.tables e below (s₁.setTop (mkF m 182 #[.val (.int p0)] [(.int (983039 : Int32)), (.int p0)])) _
                                                            refine XS.icmpYes X0.here hx rfl (pc0 := 182) (pc' := 189) rfl (hb hby d1_182) rfl (tlt hc182_70).2.2.1 (by decide) (by decide) ?_
                                                            show Steps p.tables e below (s₁.setTop (mkF m 189 #[.val (.int p0)] [])) _
                                                            refine XS.iconst X0.here hx rfl (hb hby d1_189) ?_
                                                            exact kt)
                                                          clear pre69
                                                          have hv : f1 p0 = (0 : Int32) := by
                                                            unfold f1
                                                            rw [if_neg hc3_2, if_pos hc9_5, if_neg hc15_7, if_pos hc21_10, if_neg hc28_12, if_pos hc35_15, if_neg hc42_17, if_pos hc49_20, if_neg hc56_22, if_pos hc63_25, if_neg hc70_27, if_pos hc77_30, if_neg hc84_32, if_pos hc91_35, if_neg hc98_37, if_pos hc105_40, if_neg hc112_42, if_pos hc119_45, if_neg hc126_47, if_pos hc133_50, if_neg hc140_52, if_pos hc146_55, if_neg hc152_57, if_pos hc158_60, if_neg hc164_62, if_pos hc170_65, if_neg hc176_67, if_pos hc182_70]
                                                          obtain ⟨fs, hr, hrun, hended, hW, hsame⟩ := X0.leave (v := some (.int (f1 p0))) (fun h => by rw [Bd.returns] at h; cases h)
                                                          refine ⟨_, _, pre71 _ ?_, hrun, hended, _, _, rfl, ?_, ⟨_, rfl⟩, hW, hsame.mono (by decide) (by decide)⟩
                                                          · rw [hv] at hr
                                                            show Steps p.tables e below (s₁.setTop (mkF m 190 #[.val (.int p0)] [(.int (0 : Int32))])) _
                                                            exact retN X0 hx (t := .boolean) Bd.returns (by simp) (hb hby d1_190) hr
                                                          · show Q1 Z p0 h0 n0 _ s₁.heap _
                                                            rw [e0]
                                                            exact ⟨rfl, N0, rfl⟩
                                                        · have hc182_70z : ¬ (983039 < p0.toInt) := fun q => hc182_70 ((own_gtI (by decide)).mpr q)
                                                          have pre72 : ∀ t, Steps p.tables e below (s₁.setTop (mkF m 190 #[.val (.int p0)] [(.int (1 : Int32))])) t → Steps p.tables e below (s₁.setTop (entryFrame m #[(.int p0)] 1)) t := fun t kt => pre69 t (by
                                                            show Steps p.tables e below (s₁.setTop (mkF m 182 #[.val (.int p0)] [(.int (983039 : Int32)), (.int p0)])) _
                                                            refine XS.icmpNo X0.here hx rfl (hb hby d1_182) rfl (flt hc182_70).2.2.1 ?_
                                                            show Steps p.tables e below (s₁.setTop (mkF m 185 #[.val (.int p0)] [])) _
                                                            refine XS.iconst X0.here hx rfl (hb hby d1_185) ?_
                                                            show Steps p.tables e below (s₁.setTop (mkF m 186 #[.val (.int p0)] [(.int (1 : Int32))])) _
                                                            refine XS.goto X0.here hx rfl (pc0 := 186) (pc' := 190) rfl (hb hby d1_186) (by decide) (by decide) ?_
                                                            exact kt)
                                                          clear pre69
                                                          have hv : f1 p0 = (1 : Int32) := by
                                                            unfold f1
                                                            rw [if_neg hc3_2, if_pos hc9_5, if_neg hc15_7, if_pos hc21_10, if_neg hc28_12, if_pos hc35_15, if_neg hc42_17, if_pos hc49_20, if_neg hc56_22, if_pos hc63_25, if_neg hc70_27, if_pos hc77_30, if_neg hc84_32, if_pos hc91_35, if_neg hc98_37, if_pos hc105_40, if_neg hc112_42, if_pos hc119_45, if_neg hc126_47, if_pos hc133_50, if_neg hc140_52, if_pos hc146_55, if_neg hc152_57, if_pos hc158_60, if_neg hc164_62, if_pos hc170_65, if_neg hc176_67, if_neg hc182_70]
                                                          obtain ⟨fs, hr, hrun, hended, hW, hsame⟩ := X0.leave (v := some (.int (f1 p0))) (fun h => by rw [Bd.returns] at h; cases h)
                                                          refine ⟨_, _, pre72 _ ?_, hrun, hended, _, _, rfl, ?_, ⟨_, rfl⟩, hW, hsame.mono (by decide) (by decide)⟩
                                                          · rw [hv] at hr
                                                            show Steps p.tables e below (s₁.setTop (mkF m 190 #[.val (.int p0)] [(.int (1 : Int32))])) _
                                                            exact retN X0 hx (t := .boolean) Bd.returns (by simp) (hb hby d1_190) hr
                                                          · show Q1 Z p0 h0 n0 _ s₁.heap _
                                                            rw [e0]
                                                            exact ⟨rfl, N0, rfl⟩
                                                    · have hc170_65z : ¬ (65533 < p0.toInt) := fun q => hc170_65 ((own_gtI (by decide)).mpr q)
                                                      have pre73 : ∀ t, Steps p.tables e below (s₁.setTop (mkF m 190 #[.val (.int p0)] [(.int (1 : Int32))])) t → Steps p.tables e below (s₁.setTop (entryFrame m #[(.int p0)] 1)) t := fun t kt => pre64 t (by
                                                        show Steps p.tables e below (s₁.setTop (mkF m 170 #[.val (.int p0)] [(.int (65533 : Int32)), (.int p0)])) _
                                                        refine XS.icmpYes X0.here hx rfl (pc0 := 170) (pc' := 185) rfl (hb hby d1_170) rfl (flt hc170_65).2.2.2 (by decide) (by decide) ?_
                                                        show Steps p.tables e below (s₁.setTop (mkF m 185 #[.val (.int p0)] [])) _
                                                        refine XS.iconst X0.here hx rfl (hb hby d1_185) ?_
                                                        show Steps p.tables e below (s₁.setTop (mkF m 186 #[.val (.int p0)] [(.int (1 : Int32))])) _
                                                        refine XS.goto X0.here hx rfl (pc0 := 186) (pc' := 190) rfl (hb hby d1_186) (by decide) (by decide) ?_
                                                        exact kt)
                                                      clear pre64
                                                      have hv : f1 p0 = (1 : Int32) := by
                                                        unfold f1
                                                        rw [if_neg hc3_2, if_pos hc9_5, if_neg hc15_7, if_pos hc21_10, if_neg hc28_12, if_pos hc35_15, if_neg hc42_17, if_pos hc49_20, if_neg hc56_22, if_pos hc63_25, if_neg hc70_27, if_pos hc77_30, if_neg hc84_32, if_pos hc91_35, if_neg hc98_37, if_pos hc105_40, if_neg hc112_42, if_pos hc119_45, if_neg hc126_47, if_pos hc133_50, if_neg hc140_52, if_pos hc146_55, if_neg hc152_57, if_pos hc158_60, if_neg hc164_62, if_neg hc170_65]
                                                      obtain ⟨fs, hr, hrun, hended, hW, hsame⟩ := X0.leave (v := some (.int (f1 p0))) (fun h => by rw [Bd.returns] at h; cases h)
                                                      refine ⟨_, _, pre73 _ ?_, hrun, hended, _, _, rfl, ?_, ⟨_, rfl⟩, hW, hsame.mono (by decide) (by decide)⟩
                                                      · rw [hv] at hr
                                                        show Steps p.tables e below (s₁.setTop (mkF m 190 #[.val (.int p0)] [(.int (1 : Int32))])) _
                                                        exact retN X0 hx (t := .boolean) Bd.returns (by simp) (hb hby d1_190) hr
                                                      · show Q1 Z p0 h0 n0 _ s₁.heap _
                                                        rw [e0]
                                                        exact ⟨rfl, N0, rfl⟩
                                                · have hc158_60z : ¬ (64975 < p0.toInt) := fun q => hc158_60 ((own_gtI (by decide)).mpr q)
                                                  have pre74 : ∀ t, Steps p.tables e below (s₁.setTop (mkF m 190 #[.val (.int p0)] [(.int (1 : Int32))])) t → Steps p.tables e below (s₁.setTop (entryFrame m #[(.int p0)] 1)) t := fun t kt => pre59 t (by
                                                    show Steps p.tables e below (s₁.setTop (mkF m 158 #[.val (.int p0)] [(.int (64975 : Int32)), (.int p0)])) _
                                                    refine XS.icmpYes X0.here hx rfl (pc0 := 158) (pc' := 185) rfl (hb hby d1_158) rfl (flt hc158_60).2.2.2 (by decide) (by decide) ?_
                                                    show Steps p.tables e below (s₁.setTop (mkF m 185 #[.val (.int p0)] [])) _
                                                    refine XS.iconst X0.here hx rfl (hb hby d1_185) ?_
                                                    show Steps p.tables e below (s₁.setTop (mkF m 186 #[.val (.int p0)] [(.int (1 : Int32))])) _
                                                    refine XS.goto X0.here hx rfl (pc0 := 186) (pc' := 190) rfl (hb hby d1_186) (by decide) (by decide) ?_
                                                    exact kt)
                                                  clear pre59
                                                  have hv : f1 p0 = (1 : Int32) := by
                                                    unfold f1
                                                    rw [if_neg hc3_2, if_pos hc9_5, if_neg hc15_7, if_pos hc21_10, if_neg hc28_12, if_pos hc35_15, if_neg hc42_17, if_pos hc49_20, if_neg hc56_22, if_pos hc63_25, if_neg hc70_27, if_pos hc77_30, if_neg hc84_32, if_pos hc91_35, if_neg hc98_37, if_pos hc105_40, if_neg hc112_42, if_pos hc119_45, if_neg hc126_47, if_pos hc133_50, if_neg hc140_52, if_pos hc146_55, if_neg hc152_57, if_neg hc158_60]
                                                  obtain ⟨fs, hr, hrun, hended, hW, hsame⟩ := X0.leave (v := some (.int (f1 p0))) (fun h => by rw [Bd.returns] at h; cases h)
                                                  refine ⟨_, _, pre74 _ ?_, hrun, hended, _, _, rfl, ?_, ⟨_, rfl⟩, hW, hsame.mono (by decide) (by decide)⟩
                                                  · rw [hv] at hr
                                                    show Steps p.tables e below (s₁.setTop (mkF m 190 #[.val (.int p0)] [(.int (1 : Int32))])) _
                                                    exact retN X0 hx (t := .boolean) Bd.returns (by simp) (hb hby d1_190) hr
                                                  · show Q1 Z p0 h0 n0 _ s₁.heap _
                                                    rw [e0]
                                                    exact ⟨rfl, N0, rfl⟩
                                            · have hc146_55z : ¬ (55295 < p0.toInt) := fun q => hc146_55 ((own_gtI (by decide)).mpr q)
                                              have pre75 : ∀ t, Steps p.tables e below (s₁.setTop (mkF m 190 #[.val (.int p0)] [(.int (1 : Int32))])) t → Steps p.tables e below (s₁.setTop (entryFrame m #[(.int p0)] 1)) t := fun t kt => pre54 t (by
                                                show Steps p.tables e below (s₁.setTop (mkF m 146 #[.val (.int p0)] [(.int (55295 : Int32)), (.int p0)])) _
                                                refine XS.icmpYes X0.here hx rfl (pc0 := 146) (pc' := 185) rfl (hb hby d1_146) rfl (flt hc146_55).2.2.2 (by decide) (by decide) ?_
                                                show Steps p.tables e below (s₁.setTop (mkF m 185 #[.val (.int p0)] [])) _
                                                refine XS.iconst X0.here hx rfl (hb hby d1_185) ?_
                                                show Steps p.tables e below (s₁.setTop (mkF m 186 #[.val (.int p0)] [(.int (1 : Int32))])) _
                                                refine XS.goto X0.here hx rfl (pc0 := 186) (pc' := 190) rfl (hb hby d1_186) (by decide) (by decide) ?_
                                                exact kt)
                                              clear pre54
                                              have hv : f1 p0 = (1 : Int32) := by
                                                unfold f1
                                                rw [if_neg hc3_2, if_pos hc9_5, if_neg hc15_7, if_pos hc21_10, if_neg hc28_12, if_pos hc35_15, if_neg hc42_17, if_pos hc49_20, if_neg hc56_22, if_pos hc63_25, if_neg hc70_27, if_pos hc77_30, if_neg hc84_32, if_pos hc91_35, if_neg hc98_37, if_pos hc105_40, if_neg hc112_42, if_pos hc119_45, if_neg hc126_47, if_pos hc133_50, if_neg hc140_52, if_neg hc146_55]
                                              obtain ⟨fs, hr, hrun, hended, hW, hsame⟩ := X0.leave (v := some (.int (f1 p0))) (fun h => by rw [Bd.returns] at h; cases h)
                                              refine ⟨_, _, pre75 _ ?_, hrun, hended, _, _, rfl, ?_, ⟨_, rfl⟩, hW, hsame.mono (by decide) (by decide)⟩
                                              · rw [hv] at hr
                                                show Steps p.tables e below (s₁.setTop (mkF m 190 #[.val (.int p0)] [(.int (1 : Int32))])) _
                                                exact retN X0 hx (t := .boolean) Bd.returns (by simp) (hb hby d1_190) hr
                                              · show Q1 Z p0 h0 n0 _ s₁.heap _
                                                rw [e0]
                                                exact ⟨rfl, N0, rfl⟩
                                        · have hc133_50z : ¬ (12271 < p0.toInt) := fun q => hc133_50 ((own_gtI (by decide)).mpr q)
                                          have pre76 : ∀ t, Steps p.tables e below (s₁.setTop (mkF m 190 #[.val (.int p0)] [(.int (1 : Int32))])) t → Steps p.tables e below (s₁.setTop (entryFrame m #[(.int p0)] 1)) t := fun t kt => pre49 t (by
                                            show Steps p.tables e below (s₁.setTop (mkF m 133 #[.val (.int p0)] [(.int (12271 : Int32)), (.int p0)])) _
                                            refine XS.icmpYes X0.here hx rfl (pc0 := 133) (pc' := 185) rfl (hb hby d1_133) rfl (flt hc133_50).2.2.2 (by decide) (by decide) ?_
                                            show Steps p.tables e below (s₁.setTop (mkF m 185 #[.val (.int p0)] [])) _
                                            refine XS.iconst X0.here hx rfl (hb hby d1_185) ?_
                                            show Steps p.tables e below (s₁.setTop (mkF m 186 #[.val (.int p0)] [(.int (1 : Int32))])) _
                                            refine XS.goto X0.here hx rfl (pc0 := 186) (pc' := 190) rfl (hb hby d1_186) (by decide) (by decide) ?_
                                            exact kt)
                                          clear pre49
                                          have hv : f1 p0 = (1 : Int32) := by
                                            unfold f1
                                            rw [if_neg hc3_2, if_pos hc9_5, if_neg hc15_7, if_pos hc21_10, if_neg hc28_12, if_pos hc35_15, if_neg hc42_17, if_pos hc49_20, if_neg hc56_22, if_pos hc63_25, if_neg hc70_27, if_pos hc77_30, if_neg hc84_32, if_pos hc91_35, if_neg hc98_37, if_pos hc105_40, if_neg hc112_42, if_pos hc119_45, if_neg hc126_47, if_neg hc133_50]
                                          obtain ⟨fs, hr, hrun, hended, hW, hsame⟩ := X0.leave (v := some (.int (f1 p0))) (fun h => by rw [Bd.returns] at h; cases h)
                                          refine ⟨_, _, pre76 _ ?_, hrun, hended, _, _, rfl, ?_, ⟨_, rfl⟩, hW, hsame.mono (by decide) (by decide)⟩
                                          · rw [hv] at hr
                                            show Steps p.tables e below (s₁.setTop (mkF m 190 #[.val (.int p0)] [(.int (1 : Int32))])) _
                                            exact retN X0 hx (t := .boolean) Bd.returns (by simp) (hb hby d1_190) hr
                                          · show Q1 Z p0 h0 n0 _ s₁.heap _
                                            rw [e0]
                                            exact ⟨rfl, N0, rfl⟩
                                    · have hc119_45z : ¬ (8591 < p0.toInt) := fun q => hc119_45 ((own_gtI (by decide)).mpr q)
                                      have pre77 : ∀ t, Steps p.tables e below (s₁.setTop (mkF m 190 #[.val (.int p0)] [(.int (1 : Int32))])) t → Steps p.tables e below (s₁.setTop (entryFrame m #[(.int p0)] 1)) t := fun t kt => pre44 t (by
                                        show Steps p.tables e below (s₁.setTop (mkF m 119 #[.val (.int p0)] [(.int (8591 : Int32)), (.int p0)])) _
                                        refine XS.icmpYes X0.here hx rfl (pc0 := 119) (pc' := 185) rfl (hb hby d1_119) rfl (flt hc119_45).2.2.2 (by decide) (by decide) ?_
                                        show Steps p.tables e below (s₁.setTop (mkF m 185 #[.val (.int p0)] [])) _
                                        refine XS.iconst X0.here hx rfl (hb hby d1_185) ?_
                                        show Steps p.tables e below (s₁.setTop (mkF m 186 #[.val (.int p0)] [(.int (1 : Int32))])) _
                                        refine XS.goto X0.here hx rfl (pc0 := 186) (pc' := 190) rfl (hb hby d1_186) (by decide) (by decide) ?_
                                        exact kt)
                                      clear pre44
                                      have hv : f1 p0 = (1 : Int32) := by
                                        unfold f1
                                        rw [if_neg hc3_2, if_pos hc9_5, if_neg hc15_7, if_pos hc21_10, if_neg hc28_12, if_pos hc35_15, if_neg hc42_17, if_pos hc49_20, if_neg hc56_22, if_pos hc63_25, if_neg hc70_27, if_pos hc77_30, if_neg hc84_32, if_pos hc91_35, if_neg hc98_37, if_pos hc105_40, if_neg hc112_42, if_neg hc119_45]
                                      obtain ⟨fs, hr, hrun, hended, hW, hsame⟩ := X0.leave (v := some (.int (f1 p0))) (fun h => by rw [Bd.returns] at h; cases h)
                                      refine ⟨_, _, pre77 _ ?_, hrun, hended, _, _, rfl, ?_, ⟨_, rfl⟩, hW, hsame.mono (by decide) (by decide)⟩
                                      · rw [hv] at hr
                                        show Steps p.tables e below (s₁.setTop (mkF m 190 #[.val (.int p0)] [(.int (1 : Int32))])) _
                                        exact retN X0 hx (t := .boolean) Bd.returns (by simp) (hb hby d1_190) hr
                                      · show Q1 Z p0 h0 n0 _ s₁.heap _
                                        rw [e0]
                                        exact ⟨rfl, N0, rfl⟩
                                · have hc105_40z : ¬ (8205 < p0.toInt) := fun q => hc105_40 ((own_gtI (by decide)).mpr q)
                                  have pre78 : ∀ t, Steps p.tables e below (s₁.setTop (mkF m 190 #[.val (.int p0)] [(.int (1 : Int32))])) t → Steps p.tables e below (s₁.setTop (entryFrame m #[(.int p0)] 1)) t := fun t kt => pre39 t (by
                                    show Steps p.tables e below (s₁.setTop (mkF m 105 #[.val (.int p0)] [(.int (8205 : Int32)), (.int p0)])) _
                                    refine XS.icmpYes X0.here hx rfl (pc0 := 105) (pc' := 185) rfl (hb hby d1_105) rfl (flt hc105_40).2.2.2 (by decide) (by decide) ?_
                                    show Steps p.tables e below (s₁.setTop (mkF m 185 #[.val (.int p0)] [])) _
                                    refine XS.iconst X0.here hx rfl (hb hby d1_185) ?_
                                    show Steps p.tables e below (s₁.setTop (mkF m 186 #[.val (.int p0)] [(.int (1 : Int32))])) _
                                    refine XS.goto X0.here hx rfl (pc0 := 186) (pc' := 190) rfl (hb hby d1_186) (by decide) (by decide) ?_
                                    exact kt)
                                  clear pre39
                                  have hv : f1 p0 = (1 : Int32) := by
                                    unfold f1
                                    rw [if_neg hc3_2, if_pos hc9_5, if_neg hc15_7, if_pos hc21_10, if_neg hc28_12, if_pos hc35_15, if_neg hc42_17, if_pos hc49_20, if_neg hc56_22, if_pos hc63_25, if_neg hc70_27, if_pos hc77_30, if_neg hc84_32, if_pos hc91_35, if_neg hc98_37, if_neg hc105_40]
                                  obtain ⟨fs, hr, hrun, hended, hW, hsame⟩ := X0.leave (v := some (.int (f1 p0))) (fun h => by rw [Bd.returns] at h; cases h)
                                  refine ⟨_, _, pre78 _ ?_, hrun, hended, _, _, rfl, ?_, ⟨_, rfl⟩, hW, hsame.mono (by decide) (by decide)⟩
                                  · rw [hv] at hr
                                    show Steps p.tables e below (s₁.setTop (mkF m 190 #[.val (.int p0)] [(.int (1 : Int32))])) _
                                    exact retN X0 hx (t := .boolean) Bd.returns (by simp) (hb hby d1_190) hr
                                  · show Q1 Z p0 h0 n0 _ s₁.heap _
                                    rw [e0]
                                    exact ⟨rfl, N0, rfl⟩
                            · have hc91_35z : ¬ (8191 < p0.toInt) := fun q => hc91_35 ((own_gtI (by decide)).mpr q)
                              have pre79 : ∀ t, Steps p.tables e below (s₁.setTop (mkF m 190 #[.val (.int p0)] [(.int (1 : Int32))])) t → Steps p.tables e below (s₁.setTop (entryFrame m #[(.int p0)] 1)) t := fun t kt => pre34 t (by
                                show Steps p.tables e below (s₁.setTop (mkF m 91 #[.val (.int p0)] [(.int (8191 : Int32)), (.int p0)])) _
                                refine XS.icmpYes X0.here hx rfl (pc0 := 91) (pc' := 185) rfl (hb hby d1_91) rfl (flt hc91_35).2.2.2 (by decide) (by decide) ?_
                                show Steps p.tables e below (s₁.setTop (mkF m 185 #[.val (.int p0)] [])) _
                                refine XS.iconst X0.here hx rfl (hb hby d1_185) ?_
                                show Steps p.tables e below (s₁.setTop (mkF m 186 #[.val (.int p0)] [(.int (1 : Int32))])) _
                                refine XS.goto X0.here hx rfl (pc0 := 186) (pc' := 190) rfl (hb hby d1_186) (by decide) (by decide) ?_
                                exact kt)
                              clear pre34
                              have hv : f1 p0 = (1 : Int32) := by
                                unfold f1
                                rw [if_neg hc3_2, if_pos hc9_5, if_neg hc15_7, if_pos hc21_10, if_neg hc28_12, if_pos hc35_15, if_neg hc42_17, if_pos hc49_20, if_neg hc56_22, if_pos hc63_25, if_neg hc70_27, if_pos hc77_30, if_neg hc84_32, if_neg hc91_35]
                              obtain ⟨fs, hr, hrun, hended, hW, hsame⟩ := X0.leave (v := some (.int (f1 p0))) (fun h => by rw [Bd.returns] at h; cases h)
                              refine ⟨_, _, pre79 _ ?_, hrun, hended, _, _, rfl, ?_, ⟨_, rfl⟩, hW, hsame.mono (by decide) (by decide)⟩
                              · rw [hv] at hr
                                show Steps p.tables e below (s₁.setTop (mkF m 190 #[.val (.int p0)] [(.int (1 : Int32))])) _
                                exact retN X0 hx (t := .boolean) Bd.returns (by simp) (hb hby d1_190) hr
                              · show Q1 Z p0 h0 n0 _ s₁.heap _
                                rw [e0]
                                exact ⟨rfl, N0, rfl⟩
                        · have hc77_30z : ¬ (893 < p0.toInt) := fun q => hc77_30 ((own_gtI (by decide)).mpr q)
                          have pre80 : ∀ t, Steps p.tables e below (s₁.setTop (mkF m 190 #[.val (.int p0)] [(.int (1 : Int32))])) t → Steps p.tables e below (s₁.setTop (entryFrame m #[(.int p0)] 1)) t := fun t kt => pre29 t (by
                            show Steps p.tables e below (s₁.setTop (mkF m 77 #[.val (.int p0)] [(.int (893 : Int32)), (.int p0)])) _
                            refine XS.icmpYes X0.here hx rfl (pc0 := 77) (pc' := 185) rfl (hb hby d1_77) rfl (flt hc77_30).2.2.2 (by decide) (by decide) ?_
                            show Steps p.tables e below (s₁.setTop (mkF m 185 #[.val (.int p0)] [])) _
                            refine XS.iconst X0.here hx rfl (hb hby d1_185) ?_
                            show Steps p.tables e below (s₁.setTop (mkF m 186 #[.val (.int p0)] [(.int (1 : Int32))])) _
                            refine XS.goto X0.here hx rfl (pc0 := 186) (pc' := 190) rfl (hb hby d1_186) (by decide) (by decide) ?_
                            exact kt)
                          clear pre29
                          have hv : f1 p0 = (1 : Int32) := by
                            unfold f1
                            rw [if_neg hc3_2, if_pos hc9_5, if_neg hc15_7, if_pos hc21_10, if_neg hc28_12, if_pos hc35_15, if_neg hc42_17, if_pos hc49_20, if_neg hc56_22, if_pos hc63_25, if_neg hc70_27, if_neg hc77_30]
                          obtain ⟨fs, hr, hrun, hended, hW, hsame⟩ := X0.leave (v := some (.int (f1 p0))) (fun h => by rw [Bd.returns] at h; cases h)
                          refine ⟨_, _, pre80 _ ?_, hrun, hended, _, _, rfl, ?_, ⟨_, rfl⟩, hW, hsame.mono (by decide) (by decide)⟩
                          · rw [hv] at hr
                            show Steps p.tables e below (s₁.setTop (mkF m 190 #[.val (.int p0)] [(.int (1 : Int32))])) _
                            exact retN X0 hx (t := .boolean) Bd.returns (by simp) (hb hby d1_190) hr
                          · show Q1 Z p0 h0 n0 _ s₁.heap _
                            rw [e0]
                            exact ⟨rfl, N0, rfl⟩
                    · have hc63_25z : ¬ (767 < p0.toInt) := fun q => hc63_25 ((own_gtI (by decide)).mpr q)
                      have pre81 : ∀ t, Steps p.tables e below (s₁.setTop (mkF m 190 #[.val (.int p0)] [(.int (1 : Int32))])) t → Steps p.tables e below (s₁.setTop (entryFrame m #[(.int p0)] 1)) t := fun t kt => pre24 t (by
                        show Steps p.tables e below (s₁.setTop (mkF m 63 #[.val (.int p0)] [(.int (767 : Int32)), (.int p0)])) _
                        refine XS.icmpYes X0.here hx rfl (pc0 := 63) (pc' := 185) rfl (hb hby d1_63) rfl (flt hc63_25).2.2.2 (by decide) (by decide) ?_
                        show Steps p.tables e below (s₁.setTop (mkF m 185 #[.val (.int p0)] [])) _
                        refine XS.iconst X0.here hx rfl (hb hby d1_185) ?_
                        show Steps p.tables e below (s₁.setTop (mkF m 186 #[.val (.int p0)] [(.int (1 : Int32))])) _
                        refine XS.goto X0.here hx rfl (pc0 := 186) (pc' := 190) rfl (hb hby d1_186) (by decide) (by decide) ?_
                        exact kt)
                      clear pre24
                      have hv : f1 p0 = (1 : Int32) := by
                        unfold f1
                        rw [if_neg hc3_2, if_pos hc9_5, if_neg hc15_7, if_pos hc21_10, if_neg hc28_12, if_pos hc35_15, if_neg hc42_17, if_pos hc49_20, if_neg hc56_22, if_neg hc63_25]
                      obtain ⟨fs, hr, hrun, hended, hW, hsame⟩ := X0.leave (v := some (.int (f1 p0))) (fun h => by rw [Bd.returns] at h; cases h)
                      refine ⟨_, _, pre81 _ ?_, hrun, hended, _, _, rfl, ?_, ⟨_, rfl⟩, hW, hsame.mono (by decide) (by decide)⟩
                      · rw [hv] at hr
                        show Steps p.tables e below (s₁.setTop (mkF m 190 #[.val (.int p0)] [(.int (1 : Int32))])) _
                        exact retN X0 hx (t := .boolean) Bd.returns (by simp) (hb hby d1_190) hr
                      · show Q1 Z p0 h0 n0 _ s₁.heap _
                        rw [e0]
                        exact ⟨rfl, N0, rfl⟩
                · have hc49_20z : ¬ (246 < p0.toInt) := fun q => hc49_20 ((own_gtI (by decide)).mpr q)
                  have pre82 : ∀ t, Steps p.tables e below (s₁.setTop (mkF m 190 #[.val (.int p0)] [(.int (1 : Int32))])) t → Steps p.tables e below (s₁.setTop (entryFrame m #[(.int p0)] 1)) t := fun t kt => pre19 t (by
                    show Steps p.tables e below (s₁.setTop (mkF m 49 #[.val (.int p0)] [(.int (246 : Int32)), (.int p0)])) _
                    refine XS.icmpYes X0.here hx rfl (pc0 := 49) (pc' := 185) rfl (hb hby d1_49) rfl (flt hc49_20).2.2.2 (by decide) (by decide) ?_
                    show Steps p.tables e below (s₁.setTop (mkF m 185 #[.val (.int p0)] [])) _
                    refine XS.iconst X0.here hx rfl (hb hby d1_185) ?_
                    show Steps p.tables e below (s₁.setTop (mkF m 186 #[.val (.int p0)] [(.int (1 : Int32))])) _
                    refine XS.goto X0.here hx rfl (pc0 := 186) (pc' := 190) rfl (hb hby d1_186) (by decide) (by decide) ?_
                    exact kt)
                  clear pre19
                  have hv : f1 p0 = (1 : Int32) := by
                    unfold f1
                    rw [if_neg hc3_2, if_pos hc9_5, if_neg hc15_7, if_pos hc21_10, if_neg hc28_12, if_pos hc35_15, if_neg hc42_17, if_neg hc49_20]
                  obtain ⟨fs, hr, hrun, hended, hW, hsame⟩ := X0.leave (v := some (.int (f1 p0))) (fun h => by rw [Bd.returns] at h; cases h)
                  refine ⟨_, _, pre82 _ ?_, hrun, hended, _, _, rfl, ?_, ⟨_, rfl⟩, hW, hsame.mono (by decide) (by decide)⟩
                  · rw [hv] at hr
                    show Steps p.tables e below (s₁.setTop (mkF m 190 #[.val (.int p0)] [(.int (1 : Int32))])) _
                    exact retN X0 hx (t := .boolean) Bd.returns (by simp) (hb hby d1_190) hr
                  · show Q1 Z p0 h0 n0 _ s₁.heap _
                    rw [e0]
                    exact ⟨rfl, N0, rfl⟩
            · have hc35_15z : ¬ (214 < p0.toInt) := fun q => hc35_15 ((own_gtI (by decide)).mpr q)
              have pre83 : ∀ t, Steps p.tables e below (s₁.setTop (mkF m 190 #[.val (.int p0)] [(.int (1 : Int32))])) t → Steps p.tables e below (s₁.setTop (entryFrame m #[(.int p0)] 1)) t := fun t kt => pre14 t (by
                show Steps p.tables e below (s₁.setTop (mkF m 35 #[.val (.int p0)] [(.int (214 : Int32)), (.int p0)])) _
                refine XS.icmpYes X0.here hx rfl (pc0 := 35) (pc' := 185) rfl (hb hby d1_35) rfl (flt hc35_15).2.2.2 (by decide) (by decide) ?_
                show Steps p.tables e below (s₁.setTop (mkF m 185 #[.val (.int p0)] [])) _
                refine XS.iconst X0.here hx rfl (hb hby d1_185) ?_
                show Steps p.tables e below (s₁.setTop (mkF m 186 #[.val (.int p0)] [(.int (1 : Int32))])) _
                refine XS.goto X0.here hx rfl (pc0 := 186) (pc' := 190) rfl (hb hby d1_186) (by decide) (by decide) ?_
                exact kt)
              clear pre14
              have hv : f1 p0 = (1 : Int32) := by
                unfold f1
                rw [if_neg hc3_2, if_pos hc9_5, if_neg hc15_7, if_pos hc21_10, if_neg hc28_12, if_neg hc35_15]
              obtain ⟨fs, hr, hrun, hended, hW, hsame⟩ := X0.leave (v := some (.int (f1 p0))) (fun h => by rw [Bd.returns] at h; cases h)
              refine ⟨_, _, pre83 _ ?_, hrun, hended, _, _, rfl, ?_, ⟨_, rfl⟩, hW, hsame.mono (by decide) (by decide)⟩
              · rw [hv] at hr
                show Steps p.tables e below (s₁.setTop (mkF m 190 #[.val (.int p0)] [(.int (1 : Int32))])) _
                exact retN X0 hx (t := .boolean) Bd.returns (by simp) (hb hby d1_190) hr
              · show Q1 Z p0 h0 n0 _ s₁.heap _
                rw [e0]
                exact ⟨rfl, N0, rfl⟩
        · have hc21_10z : ¬ (122 < p0.toInt) := fun q => hc21_10 ((own_gtI (by decide)).mpr q)
          have pre84 : ∀ t, Steps p.tables e below (s₁.setTop (mkF m 190 #[.val (.int p0)] [(.int (1 : Int32))])) t → Steps p.tables e below (s₁.setTop (entryFrame m #[(.int p0)] 1)) t := fun t kt => pre9 t (by
            show Steps p.tables e below (s₁.setTop (mkF m 21 #[.val (.int p0)] [(.int (122 : Int32)), (.int p0)])) _
            refine XS.icmpYes X0.here hx rfl (pc0 := 21) (pc' := 185) rfl (hb hby d1_21) rfl (flt hc21_10).2.2.2 (by decide) (by decide) ?_
            show Steps p.tables e below (s₁.setTop (mkF m 185 #[.val (.int p0)] [])) _
            refine XS.iconst X0.here hx rfl (hb hby d1_185) ?_
            show Steps p.tables e below (s₁.setTop (mkF m 186 #[.val (.int p0)] [(.int (1 : Int32))])) _
            refine XS.goto X0.here hx rfl (pc0 := 186) (pc' := 190) rfl (hb hby d1_186) (by decide) (by decide) ?_
            exact kt)
          clear pre9
          have hv : f1 p0 = (1 : Int32) := by
            unfold f1
            rw [if_neg hc3_2, if_pos hc9_5, if_neg hc15_7, if_neg hc21_10]
          obtain ⟨fs, hr, hrun, hended, hW, hsame⟩ := X0.leave (v := some (.int (f1 p0))) (fun h => by rw [Bd.returns] at h; cases h)
          refine ⟨_, _, pre84 _ ?_, hrun, hended, _, _, rfl, ?_, ⟨_, rfl⟩, hW, hsame.mono (by decide) (by decide)⟩
          · rw [hv] at hr
            show Steps p.tables e below (s₁.setTop (mkF m 190 #[.val (.int p0)] [(.int (1 : Int32))])) _
            exact retN X0 hx (t := .boolean) Bd.returns (by simp) (hb hby d1_190) hr
          · show Q1 Z p0 h0 n0 _ s₁.heap _
            rw [e0]
            exact ⟨rfl, N0, rfl⟩
    · have hc9_5z : ¬ (90 < p0.toInt) := fun q => hc9_5 ((own_gtI (by decide)).mpr q)
      have pre85 : ∀ t, Steps p.tables e below (s₁.setTop (mkF m 190 #[.val (.int p0)] [(.int (1 : Int32))])) t → Steps p.tables e below (s₁.setTop (entryFrame m #[(.int p0)] 1)) t := fun t kt => pre4 t (by
        show Steps p.tables e below (s₁.setTop (mkF m 9 #[.val (.int p0)] [(.int (90 : Int32)), (.int p0)])) _
        refine XS.icmpYes X0.here hx rfl (pc0 := 9) (pc' := 185) rfl (hb hby d1_9) rfl (flt hc9_5).2.2.2 (by decide) (by decide) ?_
        show Steps p.tables e below (s₁.setTop (mkF m 185 #[.val (.int p0)] [])) _
        refine XS.iconst X0.here hx rfl (hb hby d1_185) ?_
        show Steps p.tables e below (s₁.setTop (mkF m 186 #[.val (.int p0)] [(.int (1 : Int32))])) _
        refine XS.goto X0.here hx rfl (pc0 := 186) (pc' := 190) rfl (hb hby d1_186) (by decide) (by decide) ?_
        exact kt)
      clear pre4
      have hv : f1 p0 = (1 : Int32) := by
        unfold f1
        rw [if_neg hc3_2, if_neg hc9_5]
      obtain ⟨fs, hr, hrun, hended, hW, hsame⟩ := X0.leave (v := some (.int (f1 p0))) (fun h => by rw [Bd.returns] at h; cases h)
      refine ⟨_, _, pre85 _ ?_, hrun, hended, _, _, rfl, ?_, ⟨_, rfl⟩, hW, hsame.mono (by decide) (by decide)⟩
      · rw [hv] at hr
        show Steps p.tables e below (s₁.setTop (mkF m 190 #[.val (.int p0)] [(.int (1 : Int32))])) _
        exact retN X0 hx (t := .boolean) Bd.returns (by simp) (hb hby d1_190) hr
      · show Q1 Z p0 h0 n0 _ s₁.heap _
        rw [e0]
        exact ⟨rfl, N0, rfl⟩
theorem d2_0 : decode method_2_code 0 = .ok (.iload_n 0, 1) := by decide +kernel
theorem d2_1 : decode method_2_code 1 = .ok (.bipush 65, 2) := by decide +kernel
theorem d2_3 : decode method_2_code 3 = .ok (.if_icmp .ge 5, 3) := by decide +kernel
theorem d2_6 : decode method_2_code 6 = .ok (.iconst 1, 1) := by decide +kernel
theorem d2_7 : decode method_2_code 7 = .ok (.ireturn, 1) := by decide +kernel
theorem d2_8 : decode method_2_code 8 = .ok (.iload_n 0, 1) := by decide +kernel
theorem d2_9 : decode method_2_code 9 = .ok (.bipush 90, 2) := by decide +kernel
theorem d2_11 : decode method_2_code 11 = .ok (.if_icmp .le 11, 3) := by decide +kernel
theorem d2_14 : decode method_2_code 14 = .ok (.iload_n 0, 1) := by decide +kernel
theorem d2_15 : decode method_2_code 15 = .ok (.bipush 97, 2) := by decide +kernel
theorem d2_17 : decode method_2_code 17 = .ok (.if_icmp .ge 5, 3) := by decide +kernel
theorem d2_20 : decode method_2_code 20 = .ok (.iconst 1, 1) := by decide +kernel
theorem d2_21 : decode method_2_code 21 = .ok (.ireturn, 1) := by decide +kernel
theorem d2_22 : decode method_2_code 22 = .ok (.iload_n 0, 1) := by decide +kernel
theorem d2_23 : decode method_2_code 23 = .ok (.bipush 122, 2) := by decide +kernel
theorem d2_25 : decode method_2_code 25 = .ok (.if_icmp .le 12, 3) := by decide +kernel
theorem d2_28 : decode method_2_code 28 = .ok (.iload_n 0, 1) := by decide +kernel
theorem d2_29 : decode method_2_code 29 = .ok (.sipush 192, 3) := by decide +kernel
theorem d2_32 : decode method_2_code 32 = .ok (.if_icmp .ge 5, 3) := by decide +kernel
theorem d2_35 : decode method_2_code 35 = .ok (.iconst 1, 1) := by decide +kernel
theorem d2_36 : decode method_2_code 36 = .ok (.ireturn, 1) := by decide +kernel
theorem d2_37 : decode method_2_code 37 = .ok (.iload_n 0, 1) := by decide +kernel
theorem d2_38 : decode method_2_code 38 = .ok (.sipush 215, 3) := by decide +kernel
theorem d2_41 : decode method_2_code 41 = .ok (.if_icmp .eq 10, 3) := by decide +kernel
theorem d2_51 : decode method_2_code 51 = .ok (.iconst 1, 1) := by decide +kernel
theorem d2_52 : decode method_2_code 52 = .ok (.ireturn, 1) := by decide +kernel
theorem d2_44 : decode method_2_code 44 = .ok (.iload_n 0, 1) := by decide +kernel
theorem d2_45 : decode method_2_code 45 = .ok (.sipush 247, 3) := by decide +kernel
theorem d2_48 : decode method_2_code 48 = .ok (.if_icmp .ne 5, 3) := by decide +kernel
theorem d2_53 : decode method_2_code 53 = .ok (.iload_n 0, 1) := by decide +kernel
theorem d2_54 : decode method_2_code 54 = .ok (.sipush 767, 3) := by decide +kernel
theorem d2_57 : decode method_2_code 57 = .ok (.if_icmp .le 12, 3) := by decide +kernel
theorem d2_60 : decode method_2_code 60 = .ok (.iload_n 0, 1) := by decide +kernel
theorem d2_61 : decode method_2_code 61 = .ok (.sipush 880, 3) := by decide +kernel
theorem d2_64 : decode method_2_code 64 = .ok (.if_icmp .ge 5, 3) := by decide +kernel
theorem d2_67 : decode method_2_code 67 = .ok (.iconst 1, 1) := by decide +kernel
theorem d2_68 : decode method_2_code 68 = .ok (.ireturn, 1) := by decide +kernel
theorem d2_69 : decode method_2_code 69 = .ok (.iload_n 0, 1) := by decide +kernel
theorem d2_70 : decode method_2_code 70 = .ok (.sipush 894, 3) := by decide +kernel
theorem d2_73 : decode method_2_code 73 = .ok (.if_icmp .ne 5, 3) := by decide +kernel
theorem d2_76 : decode method_2_code 76 = .ok (.iconst 1, 1) := by decide +kernel
theorem d2_77 : decode method_2_code 77 = .ok (.ireturn, 1) := by decide +kernel
theorem d2_78 : decode method_2_code 78 = .ok (.iload_n 0, 1) := by decide +kernel
theorem d2_79 : decode method_2_code 79 = .ok (.sipush 8191, 3) := by decide +kernel
theorem d2_82 : decode method_2_code 82 = .ok (.if_icmp .le 12, 3) := by decide +kernel
theorem d2_85 : decode method_2_code 85 = .ok (.iload_n 0, 1) := by decide +kernel
theorem d2_86 : decode method_2_code 86 = .ok (.sipush 8204, 3) := by decide +kernel
theorem d2_89 : decode method_2_code 89 = .ok (.if_icmp .ge 5, 3) := by decide +kernel
theorem d2_92 : decode method_2_code 92 = .ok (.iconst 1, 1) := by decide +kernel
theorem d2_93 : decode method_2_code 93 = .ok (.ireturn, 1) := by decide +kernel
theorem d2_94 : decode method_2_code 94 = .ok (.iload_n 0, 1) := by decide +kernel
theorem d2_95 : decode method_2_code 95 = .ok (.sipush 8205, 3) := by decide +kernel
theorem d2_98 : decode method_2_code 98 = .ok (.if_icmp .le 12, 3) := by decide +kernel
theorem d2_101 : decode method_2_code 101 = .ok (.iload_n 0, 1) := by decide +kernel
theorem d2_102 : decode method_2_code 102 = .ok (.sipush 8304, 3) := by decide +kernel
theorem d2_105 : decode method_2_code 105 = .ok (.if_icmp .ge 5, 3) := by decide +kernel
theorem d2_108 : decode method_2_code 108 = .ok (.iconst 1, 1) := by decide +kernel
theorem d2_109 : decode method_2_code 109 = .ok (.ireturn, 1) := by decide +kernel
theorem d2_110 : decode method_2_code 110 = .ok (.iload_n 0, 1) := by decide +kernel
theorem d2_111 : decode method_2_code 111 = .ok (.sipush 8591, 3) := by decide +kernel
theorem d2_114 : decode method_2_code 114 = .ok (.if_icmp .le 12, 3) := by decide +kernel
theorem d2_117 : decode method_2_code 117 = .ok (.iload_n 0, 1) := by decide +kernel
theorem d2_118 : decode method_2_code 118 = .ok (.sipush 11264, 3) := by decide +kernel
theorem d2_121 : decode method_2_code 121 = .ok (.if_icmp .ge 5, 3) := by decide +kernel
theorem d2_124 : decode method_2_code 124 = .ok (.iconst 1, 1) := by decide +kernel
theorem d2_125 : decode method_2_code 125 = .ok (.ireturn, 1) := by decide +kernel
theorem d2_126 : decode method_2_code 126 = .ok (.iload_n 0, 1) := by decide +kernel
theorem d2_127 : decode method_2_code 127 = .ok (.sipush 12271, 3) := by decide +kernel
theorem d2_130 : decode method_2_code 130 = .ok (.if_icmp .le 12, 3) := by decide +kernel
theorem d2_133 : decode method_2_code 133 = .ok (.iload_n 0, 1) := by decide +kernel
theorem d2_134 : decode method_2_code 134 = .ok (.sipush 12289, 3) := by decide +kernel
theorem d2_137 : decode method_2_code 137 = .ok (.if_icmp .ge 5, 3) := by decide +kernel
theorem d2_140 : decode method_2_code 140 = .ok (.iconst 1, 1) := by decide +kernel
theorem d2_141 : decode method_2_code 141 = .ok (.ireturn, 1) := by decide +kernel
theorem d2_142 : decode method_2_code 142 = .ok (.iload_n 0, 1) := by decide +kernel
theorem d2_143 : decode method_2_code 143 = .ok (.ldc 7, 2) := by decide +kernel
theorem d2_145 : decode method_2_code 145 = .ok (.if_icmp .le 11, 3) := by decide +kernel
theorem d2_148 : decode method_2_code 148 = .ok (.iload_n 0, 1) := by decide +kernel
theorem d2_149 : decode method_2_code 149 = .ok (.ldc 8, 2) := by decide +kernel
theorem d2_151 : decode method_2_code 151 = .ok (.if_icmp .ge 5, 3) := by decide +kernel
theorem d2_154 : decode method_2_code 154 = .ok (.iconst 1, 1) := by decide +kernel
theorem d2_155 : decode method_2_code 155 = .ok (.ireturn, 1) := by decide +kernel
theorem d2_156 : decode method_2_code 156 = .ok (.iload_n 0, 1) := by decide +kernel
theorem d2_157 : decode method_2_code 157 = .ok (.ldc 9, 2) := by decide +kernel
theorem d2_159 : decode method_2_code 159 = .ok (.if_icmp .le 11, 3) := by decide +kernel
theorem d2_162 : decode method_2_code 162 = .ok (.iload_n 0, 1) := by decide +kernel
theorem d2_163 : decode method_2_code 163 = .ok (.ldc 10, 2) := by decide +kernel
theorem d2_165 : decode method_2_code 165 = .ok (.if_icmp .ge 5, 3) := by decide +kernel
theorem d2_168 : decode method_2_code 168 = .ok (.iconst 1, 1) := by decide +kernel
theorem d2_169 : decode method_2_code 169 = .ok (.ireturn, 1) := by decide +kernel
theorem d2_170 : decode method_2_code 170 = .ok (.iload_n 0, 1) := by decide +kernel
theorem d2_171 : decode method_2_code 171 = .ok (.ldc 11, 2) := by decide +kernel
theorem d2_173 : decode method_2_code 173 = .ok (.if_icmp .le 11, 3) := by decide +kernel
theorem d2_176 : decode method_2_code 176 = .ok (.iload_n 0, 1) := by decide +kernel
theorem d2_177 : decode method_2_code 177 = .ok (.ldc 12, 2) := by decide +kernel
theorem d2_179 : decode method_2_code 179 = .ok (.if_icmp .ge 5, 3) := by decide +kernel
theorem d2_182 : decode method_2_code 182 = .ok (.iconst 1, 1) := by decide +kernel
theorem d2_183 : decode method_2_code 183 = .ok (.ireturn, 1) := by decide +kernel
theorem d2_184 : decode method_2_code 184 = .ok (.iload_n 0, 1) := by decide +kernel
theorem d2_185 : decode method_2_code 185 = .ok (.ldc 13, 2) := by decide +kernel
theorem d2_187 : decode method_2_code 187 = .ok (.if_icmp .le 7, 3) := by decide +kernel
theorem d2_190 : decode method_2_code 190 = .ok (.iconst 1, 1) := by decide +kernel
theorem d2_191 : decode method_2_code 191 = .ok (.goto 4, 3) := by decide +kernel
theorem d2_195 : decode method_2_code 195 = .ok (.ireturn, 1) := by decide +kernel
theorem d2_194 : decode method_2_code 194 = .ok (.iconst 0, 1) := by decide +kernel
theorem ef2 (m : MethodId) (x0 : Int32) : entryFrame m #[(.int x0)] 1 = mkF m 0 #[.val (.int x0)] [] := by first | (simp [entryFrame, mkF, argsToLocals, Value.category]; done) | rfl
def f2 (p0 : Int32) : Int32 :=
  if p0 < (65 : Int32) then
    (1 : Int32)
  else
    if (90 : Int32) < p0 then
      if p0 < (97 : Int32) then
        (1 : Int32)
      else
        if (122 : Int32) < p0 then
          if p0 < (192 : Int32) then
            (1 : Int32)
          else
            if p0 = (215 : Int32) then
              (1 : Int32)
            else
              if p0 = (247 : Int32) then
                (1 : Int32)
              else
                if (767 : Int32) < p0 then
                  if p0 < (880 : Int32) then
                    (1 : Int32)
                  else
                    if p0 = (894 : Int32) then
                      (1 : Int32)
                    else
                      if (8191 : Int32) < p0 then
                        if p0 < (8204 : Int32) then
                          (1 : Int32)
                        else
                          if (8205 : Int32) < p0 then
                            if p0 < (8304 : Int32) then
                              (1 : Int32)
                            else
                              if (8591 : Int32) < p0 then
                                if p0 < (11264 : Int32) then
                                  (1 : Int32)
                                else
                                  if (12271 : Int32) < p0 then
                                    if p0 < (12289 : Int32) then
                                      (1 : Int32)
                                    else
                                      if (55295 : Int32) < p0 then
                                        if p0 < (63744 : Int32) then
                                          (1 : Int32)
                                        else
                                          if (64975 : Int32) < p0 then
                                            if p0 < (65008 : Int32) then
                                              (1 : Int32)
                                            else
                                              if (65533 : Int32) < p0 then
                                                if p0 < (65536 : Int32) then
                                                  (1 : Int32)
                                                else
                                                  if (983039 : Int32) < p0 then
                                                    (1 : Int32)
                                                  else
                                                    (0 : Int32)
                                              else
                                                (0 : Int32)
                                          else
                                            (0 : Int32)
                                      else
                                        (0 : Int32)
                                  else
                                    (0 : Int32)
                              else
                                (0 : Int32)
                          else
                            (0 : Int32)
                      else
                        (0 : Int32)
                else
                  (0 : Int32)
        else
          (0 : Int32)
    else
      (0 : Int32)
def Q2 (Z : State) (p0 : Int32) (h0 : Heap) (n0 : Nat) (v : Option Value) (h : Heap) (L : List Loc) : Prop := v = some (.int (f2 p0)) ∧ Fr n0 L ∧ h = h0
set_option maxRecDepth 65536 in
set_option maxHeartbeats 40000000 in
theorem rm2 (l : Launch) (Z : State) (av : Array Value) (hw : ∀ d ∈ tables_1, d.before av Z = true) (ws : List Jvm.Cond) (p0 : Int32) (h0 : Heap) (n0 : Nat) (Z0 : n0 ≤ h0.size) :
    MetFree l (⟨"com/example/shapelint/shapelint/NamesIsBasePinLaw", "inGap", "(I)Z"⟩ : MethodName) (head1 (Jvm.Cond.code (⟨"com/example/shapelint/shapelint/NamesIsBasePinLaw", "inGap", "(I)Z"⟩ : MethodName) method_2_code 1 (some .boolean) :: ws) ({ frames := 0, cells := 0, slots := 0, locals := 0 } : Room)) (fun a U => a = #[(.int p0)] ∧ Z.Warmed39 U.vm ∧ U.heap = h0) (fun _ _ _ _ _ => True) (fun _ U o U' => ∃ v L, o = .returned v ∧ Q2 Z p0 h0 n0 v U'.heap L ∧ FrameEnd U o U' L ({ frames := 0, cells := 0, slots := 0, locals := 0 } : Room).cells ({ frames := 0, cells := 0, slots := 0, locals := 0 } : Room).slots) := by
  refine MetFree.of_bodySF (plainFor_of_name pn_com_example_shapelint_shapelint_NamesIsBasePinLaw) hisR ?_
  intro p e s m args below meth c s₁ Bd hml0 hP hK
  obtain ⟨rfl, hZ, hh⟩ := hP
  have hx := Bd.exec
  have hby := Bd.bytes
  have hml : c.maxLocals = 1 := hml0
  have hown : s.vm.findClass "com/example/shapelint/shapelint/NamesIsBasePinLaw" = some m.cls := findClass_of_methodNamed Bd.named
  have hnm := (name_of_methodNamed Bd.named Bd.method).1
  have X0 : Stand p l e ({ frames := 0, cells := 0, slots := 0, locals := 0 } : Room) s m #[(.int p0)] below meth c s₁ [] 0 0 := Stand.of_body Bd
  have e0 : s₁.heap = h0 := by rw [← hh, Bd.state]; rfl
  have N0 := Fr.nil n0
  have K0 : Keep h0 h0 [] := Keep.refl h0 []
  have pre0 : ∀ t, Steps p.tables e below (s₁.setTop (mkF m 0 #[.val (.int p0)] [])) t → Steps p.tables e below (s₁.setTop (entryFrame m #[(.int p0)] 1)) t := fun t k => castTop (ef2 m p0) k
  have pre1 : ∀ t, Steps p.tables e below (s₁.setTop (mkF m 3 #[.val (.int p0)] [(.int (65 : Int32)), (.int p0)])) t → Steps p.tables e below (s₁.setTop (entryFrame m #[(.int p0)] 1)) t := fun t kt => pre0 t (by
    show Steps p.tables e below (s₁.setTop (mkF m 0 #[.val (.int p0)] [])) _
    refine XS.iloadN X0.here hx rfl (hb hby d2_0) rfl ?_
    show Steps p.tables e below (s₁.setTop (mkF m 1 #[.val (.int p0)] [(.int p0)])) _
    refine XS.bipush X0.here hx rfl (hb hby d2_1) ?_
    exact kt)
  clear pre0
  by_cases hc3_2 : p0 < (65 : Int32)
  · have hc3_2z : p0.toInt < 65 := (own_ltI (by decide)).mp hc3_2
    have pre3 : ∀ t, Steps p.tables e below (s₁.setTop (mkF m 7 #[.val (.int p0)] [(.int (1 : Int32))])) t → Steps p.tables e below (s₁.setTop (entryFrame m #[(.int p0)] 1)) t := fun t kt => pre1 t (by
      show Steps p.tables e below (s₁.setTop (mkF m 3 #[.val (.int p0)] [(.int (65 : Int32)), (.int p0)])) _
      refine XS.icmpNo X0.here hx rfl (hb hby d2_3) rfl (tlt hc3_2).2.1 ?_
      show Steps p.tables e below (s₁.setTop (mkF m 6 #[.val (.int p0)] [])) _
      refine XS.iconst X0.here hx rfl (hb hby d2_6) ?_
      exact kt)
    clear pre1
    have hv : f2 p0 = (1 : Int32) := by
      unfold f2
      rw [if_pos hc3_2]
    obtain ⟨fs, hr, hrun, hended, hW, hsame⟩ := X0.leave (v := some (.int (f2 p0))) (fun h => by rw [Bd.returns] at h; cases h)
    refine ⟨_, _, pre3 _ ?_, hrun, hended, _, _, rfl, ?_, ⟨_, rfl⟩, hW, hsame.mono (by decide) (by decide)⟩
    · rw [hv] at hr
      show Steps p.tables e below (s₁.setTop (mkF m 7 #[.val (.int p0)] [(.int (1 : Int32))])) _
      exact retN X0 hx (t := .boolean) Bd.returns (by simp) (hb hby d2_7) hr
    · show Q2 Z p0 h0 n0 _ s₁.heap _
      rw [e0]
      exact ⟨rfl, N0, rfl⟩
  · have hc3_2z : ¬ (p0.toInt < 65) := fun q => hc3_2 ((own_ltI (by decide)).mpr q)
    have pre4 : ∀ t, Steps p.tables e below (s₁.setTop (mkF m 11 #[.val (.int p0)] [(.int (90 : Int32)), (.int p0)])) t → Steps p.tables e below (s₁.setTop (entryFrame m #[(.int p0)] 1)) t := fun t kt => pre1 t (by
      show Steps p.tables e below (s₁.setTop (mkF m 3 #[.val (.int p0)] [(.int (65 : Int32)), (.int p0)])) _
      refine XS.icmpYes X0.here hx rfl (pc0 := 3) (pc' := 8) rfl (hb hby d2_3) rfl (flt hc3_2).2.1 (by decide) (by decide) ?_
      show Steps p.tables e below (s₁.setTop (mkF m 8 #[.val (.int p0)] [])) _
      refine XS.iloadN X0.here hx rfl (hb hby d2_8) rfl ?_
      show Steps p.tables e below (s₁.setTop (mkF m 9 #[.val (.int p0)] [(.int p0)])) _
      refine XS.bipush X0.here hx rfl (hb hby d2_9) ?_
      exact kt)
    clear pre1
    by_cases hc11_5 : (90 : Int32) < p0
    · have hc11_5z : 90 < p0.toInt := (own_gtI (by decide)).mp hc11_5
      have pre6 : ∀ t, Steps p.tables e below (s₁.setTop (mkF m 17 #[.val (.int p0)] [(.int (97 : Int32)), (.int p0)])) t → Steps p.tables e below (s₁.setTop (entryFrame m #[(.int p0)] 1)) t := fun t kt => pre4 t (by
        show Steps p.tables e below (s₁.setTop (mkF m 11 #[.val (.int p0)] [(.int (90 : Int32)), (.int p0)])) _
        refine XS.icmpNo X0.here hx rfl (hb hby d2_11) rfl (tlt hc11_5).2.2.2 ?_
        show Steps p.tables e below (s₁.setTop (mkF m 14 #[.val (.int p0)] [])) _
        refine XS.iloadN X0.here hx rfl (hb hby d2_14) rfl ?_
        show Steps p.tables e below (s₁.setTop (mkF m 15 #[.val (.int p0)] [(.int p0)])) _
        refine XS.bipush X0.here hx rfl (hb hby d2_15) ?_
        exact kt)
      clear pre4
      by_cases hc17_7 : p0 < (97 : Int32)
      · have hc17_7z : p0.toInt < 97 := (own_ltI (by decide)).mp hc17_7
        have pre8 : ∀ t, Steps p.tables e below (s₁.setTop (mkF m 21 #[.val (.int p0)] [(.int (1 : Int32))])) t → Steps p.tables e below (s₁.setTop (entryFrame m #[(.int p0)] 1)) t := fun t kt => pre6 t (by
          show Steps p.tables e below (s₁.setTop (mkF m 17 #[.val (.int p0)] [(.int (97 : Int32)), (.int p0)])) _
          refine XS.icmpNo X0.here hx rfl (hb hby d2_17) rfl (tlt hc17_7).2.1 ?_
          show Steps p.tables e below (s₁.setTop (mkF m 20 #[.val (.int p0)] [])) _
          refine XS.iconst X0.here hx rfl (hb hby d2_20) ?_
          exact kt)
        clear pre6
        have hv : f2 p0 = (1 : Int32) := by
          unfold f2
          rw [if_neg hc3_2, if_pos hc11_5, if_pos hc17_7]
        obtain ⟨fs, hr, hrun, hended, hW, hsame⟩ := X0.leave (v := some (.int (f2 p0))) (fun h => by rw [Bd.returns] at h; cases h)
        refine ⟨_, _, pre8 _ ?_, hrun, hended, _, _, rfl, ?_, ⟨_, rfl⟩, hW, hsame.mono (by decide) (by decide)⟩
        · rw [hv] at hr
          show Steps p.tables e below (s₁.setTop (mkF m 21 #[.val (.int p0)] [(.int (1 : Int32))])) _
          exact retN X0 hx (t := .boolean) Bd.returns (by simp) (hb hby d2_21) hr
        · show Q2 Z p0 h0 n0 _ s₁.heap _
          rw [e0]
          exact ⟨rfl, N0, rfl⟩
      · have hc17_7z : ¬ (p0.toInt < 97) := fun q => hc17_7 ((own_ltI (by decide)).mpr q)
        have pre9 : ∀ t, Steps p.tables e below (s₁.setTop (mkF m 25 #[.val (.int p0)] [(.int (122 : Int32)), (.int p0)])) t → Steps p.tables e below (s₁.setTop (entryFrame m #[(.int p0)] 1)) t := fun t kt => pre6 t (by
          show Steps p.tables e below (s₁.setTop (mkF m 17 #[.val (.int p0)] [(.int (97 : Int32)), (.int p0)])) _
          refine XS.icmpYes X0.here hx rfl (pc0 := 17) (pc' := 22) rfl (hb hby d2_17) rfl (flt hc17_7).2.1 (by decide) (by decide) ?_
          show Steps p.tables e below (s₁.setTop (mkF m 22 #[.val (.int p0)] [])) _
          refine XS.iloadN X0.here hx rfl (hb hby d2_22) rfl ?_
          show Steps p.tables e below (s₁.setTop (mkF m 23 #[.val (.int p0)] [(.int p0)])) _
          refine XS.bipush X0.here hx rfl (hb hby d2_23) ?_
          exact kt)
        clear pre6
        by_cases hc25_10 : (122 : Int32) < p0
        · have hc25_10z : 122 < p0.toInt := (own_gtI (by decide)).mp hc25_10
          have pre11 : ∀ t, Steps p.tables e below (s₁.setTop (mkF m 32 #[.val (.int p0)] [(.int (192 : Int32)), (.int p0)])) t → Steps p.tables e below (s₁.setTop (entryFrame m #[(.int p0)] 1)) t := fun t kt => pre9 t (by
            show Steps p.tables e below (s₁.setTop (mkF m 25 #[.val (.int p0)] [(.int (122 : Int32)), (.int p0)])) _
            refine XS.icmpNo X0.here hx rfl (hb hby d2_25) rfl (tlt hc25_10).2.2.2 ?_
            show Steps p.tables e below (s₁.setTop (mkF m 28 #[.val (.int p0)] [])) _
            refine XS.iloadN X0.here hx rfl (hb hby d2_28) rfl ?_
            show Steps p.tables e below (s₁.setTop (mkF m 29 #[.val (.int p0)] [(.int p0)])) _
            refine XS.sipush X0.here hx rfl (hb hby d2_29) ?_
            exact kt)
          clear pre9
          by_cases hc32_12 : p0 < (192 : Int32)
          · have hc32_12z : p0.toInt < 192 := (own_ltI (by decide)).mp hc32_12
            have pre13 : ∀ t, Steps p.tables e below (s₁.setTop (mkF m 36 #[.val (.int p0)] [(.int (1 : Int32))])) t → Steps p.tables e below (s₁.setTop (entryFrame m #[(.int p0)] 1)) t := fun t kt => pre11 t (by
              show Steps p.tables e below (s₁.setTop (mkF m 32 #[.val (.int p0)] [(.int (192 : Int32)), (.int p0)])) _
              refine XS.icmpNo X0.here hx rfl (hb hby d2_32) rfl (tlt hc32_12).2.1 ?_
              show Steps p.tables e below (s₁.setTop (mkF m 35 #[.val (.int p0)] [])) _
              refine XS.iconst X0.here hx rfl (hb hby d2_35) ?_
              exact kt)
            clear pre11
            have hv : f2 p0 = (1 : Int32) := by
              unfold f2
              rw [if_neg hc3_2, if_pos hc11_5, if_neg hc17_7, if_pos hc25_10, if_pos hc32_12]
            obtain ⟨fs, hr, hrun, hended, hW, hsame⟩ := X0.leave (v := some (.int (f2 p0))) (fun h => by rw [Bd.returns] at h; cases h)
            refine ⟨_, _, pre13 _ ?_, hrun, hended, _, _, rfl, ?_, ⟨_, rfl⟩, hW, hsame.mono (by decide) (by decide)⟩
            · rw [hv] at hr
              show Steps p.tables e below (s₁.setTop (mkF m 36 #[.val (.int p0)] [(.int (1 : Int32))])) _
              exact retN X0 hx (t := .boolean) Bd.returns (by simp) (hb hby d2_36) hr
            · show Q2 Z p0 h0 n0 _ s₁.heap _
              rw [e0]
              exact ⟨rfl, N0, rfl⟩
          · have hc32_12z : ¬ (p0.toInt < 192) := fun q => hc32_12 ((own_ltI (by decide)).mpr q)
            have pre14 : ∀ t, Steps p.tables e below (s₁.setTop (mkF m 41 #[.val (.int p0)] [(.int (215 : Int32)), (.int p0)])) t → Steps p.tables e below (s₁.setTop (entryFrame m #[(.int p0)] 1)) t := fun t kt => pre11 t (by
              show Steps p.tables e below (s₁.setTop (mkF m 32 #[.val (.int p0)] [(.int (192 : Int32)), (.int p0)])) _
              refine XS.icmpYes X0.here hx rfl (pc0 := 32) (pc' := 37) rfl (hb hby d2_32) rfl (flt hc32_12).2.1 (by decide) (by decide) ?_
              show Steps p.tables e below (s₁.setTop (mkF m 37 #[.val (.int p0)] [])) _
              refine XS.iloadN X0.here hx rfl (hb hby d2_37) rfl ?_
              show Steps p.tables e below (s₁.setTop (mkF m 38 #[.val (.int p0)] [(.int p0)])) _
              refine XS.sipush X0.here hx rfl (hb hby d2_38) ?_
              exact kt)
            clear pre11
            by_cases hc41_15 : p0 = (215 : Int32)
            · have hc41_15z : p0.toInt = 215 := (own_eqI (by decide)).mp hc41_15
              have pre16 : ∀ t, Steps p.tables e below (s₁.setTop (mkF m 52 #[.val (.int p0)] [(.int (1 : Int32))])) t → Steps p.tables e below (s₁.setTop (entryFrame m #[(.int p0)] 1)) t := fun t kt => pre14 t (by
                show Steps p.tables e below (s₁.setTop (mkF m 41 #[.val (.int p0)] [(.int (215 : Int32)), (.int p0)])) _
                refine XS.icmpYes X0.here hx rfl (pc0 := 41) (pc' := 51) rfl (hb hby d2_41) rfl (teq hc41_15).1 (by decide) (by decide) ?_
                show Steps p.tables e below (s₁.setTop (mkF m 51 #[.val (.int p0)] [])) _
                refine XS.iconst X0.here hx rfl (hb hby d2_51) ?_
                exact kt)
              clear pre14
              have hv : f2 p0 = (1 : Int32) := by
                unfold f2
                rw [if_neg hc3_2, if_pos hc11_5, if_neg hc17_7, if_pos hc25_10, if_neg hc32_12, if_pos hc41_15]
              obtain ⟨fs, hr, hrun, hended, hW, hsame⟩ := X0.leave (v := some (.int (f2 p0))) (fun h => by rw [Bd.returns] at h; cases h)
              refine ⟨_, _, pre16 _ ?_, hrun, hended, _, _, rfl, ?_, ⟨_, rfl⟩, hW, hsame.mono (by decide) (by decide)⟩
              · rw [hv] at hr
                show Steps p.tables e below (s₁.setTop (mkF m 52 #[.val (.int p0)] [(.int (1 : Int32))])) _
                exact retN X0 hx (t := .boolean) Bd.returns (by simp) (hb hby d2_52) hr
              · show Q2 Z p0 h0 n0 _ s₁.heap _
                rw [e0]
                exact ⟨rfl, N0, rfl⟩
            · have hc41_15z : ¬ (p0.toInt = 215) := fun q => hc41_15 ((own_eqI (by decide)).mpr q)
              have pre17 : ∀ t, Steps p.tables e below (s₁.setTop (mkF m 48 #[.val (.int p0)] [(.int (247 : Int32)), (.int p0)])) t → Steps p.tables e below (s₁.setTop (entryFrame m #[(.int p0)] 1)) t := fun t kt => pre14 t (by
                show Steps p.tables e below (s₁.setTop (mkF m 41 #[.val (.int p0)] [(.int (215 : Int32)), (.int p0)])) _
                refine XS.icmpNo X0.here hx rfl (hb hby d2_41) rfl (feq hc41_15).1 ?_
                show Steps p.tables e below (s₁.setTop (mkF m 44 #[.val (.int p0)] [])) _
                refine XS.iloadN X0.here hx rfl (hb hby d2_44) rfl ?_
                show Steps p.tables e below (s₁.setTop (mkF m 45 #[.val (.int p0)] [(.int p0)])) _
                refine XS.sipush X0.here hx rfl (hb hby d2_45) ?_
                exact kt)
              clear pre14
              by_cases hc48_18 : p0 = (247 : Int32)
              · have hc48_18z : p0.toInt = 247 := (own_eqI (by decide)).mp hc48_18
                have pre19 : ∀ t, Steps p.tables e below (s₁.setTop (mkF m 52 #[.val (.int p0)] [(.int (1 : Int32))])) t → Steps p.tables e below (s₁.setTop (entryFrame m #[(.int p0)] 1)) t := fun t kt => pre17 t (by
                  show Steps p.tables e below (s₁.setTop (mkF m 48 #[.val (.int p0)] [(.int (247 : Int32)), (.int p0)])) _
                  refine XS.icmpNo X0.here hx rfl (hb hby d2_48) rfl (teq hc48_18).2 ?_
                  show Steps p.tables e below (s₁.setTop (mkF m 51 #[.val (.int p0)] [])) _
                  refine XS.iconst X0.here hx rfl (hb hby d2_51) ?_
                  exact kt)
                clear pre17
                have hv : f2 p0 = (1 : Int32) := by
                  unfold f2
                  rw [if_neg hc3_2, if_pos hc11_5, if_neg hc17_7, if_pos hc25_10, if_neg hc32_12, if_neg hc41_15, if_pos hc48_18]
                obtain ⟨fs, hr, hrun, hended, hW, hsame⟩ := X0.leave (v := some (.int (f2 p0))) (fun h => by rw [Bd.returns] at h; cases h)
                refine ⟨_, _, pre19 _ ?_, hrun, hended, _, _, rfl, ?_, ⟨_, rfl⟩, hW, hsame.mono (by decide) (by decide)⟩
                · rw [hv] at hr
                  show Steps p.tables e below (s₁.setTop (mkF m 52 #[.val (.int p0)] [(.int (1 : Int32))])) _
                  exact retN X0 hx (t := .boolean) Bd.returns (by simp) (hb hby d2_52) hr
                · show Q2 Z p0 h0 n0 _ s₁.heap _
                  rw [e0]
                  exact ⟨rfl, N0, rfl⟩
              · have hc48_18z : ¬ (p0.toInt = 247) := fun q => hc48_18 ((own_eqI (by decide)).mpr q)
                have pre20 : ∀ t, Steps p.tables e below (s₁.setTop (mkF m 57 #[.val (.int p0)] [(.int (767 : Int32)), (.int p0)])) t → Steps p.tables e below (s₁.setTop (entryFrame m #[(.int p0)] 1)) t := fun t kt => pre17 t (by
                  show Steps p.tables e below (s₁.setTop (mkF m 48 #[.val (.int p0)] [(.int (247 : Int32)), (.int p0)])) _
                  refine XS.icmpYes X0.here hx rfl (pc0 := 48) (pc' := 53) rfl (hb hby d2_48) rfl (feq hc48_18).2 (by decide) (by decide) ?_
                  show Steps p.tables e below (s₁.setTop (mkF m 53 #[.val (.int p0)] [])) _
                  refine XS.iloadN X0.here hx rfl (hb hby d2_53) rfl ?_
                  show Steps p.tables e below (s₁.setTop (mkF m 54 #[.val (.int p0)] [(.int p0)])) _
                  refine XS.sipush X0.here hx rfl (hb hby d2_54) ?_
                  exact kt)
                clear pre17
                by_cases hc57_21 : (767 : Int32) < p0
                · have hc57_21z : 767 < p0.toInt := (own_gtI (by decide)).mp hc57_21
                  have pre22 : ∀ t, Steps p.tables e below (s₁.setTop (mkF m 64 #[.val (.int p0)] [(.int (880 : Int32)), (.int p0)])) t → Steps p.tables e below (s₁.setTop (entryFrame m #[(.int p0)] 1)) t := fun t kt => pre20 t (by
                    show Steps p.tables e below (s₁.setTop (mkF m 57 #[.val (.int p0)] [(.int (767 : Int32)), (.int p0)])) _
                    refine XS.icmpNo X0.here hx rfl (hb hby d2_57) rfl (tlt hc57_21).2.2.2 ?_
                    show Steps p.tables e below (s₁.setTop (mkF m 60 #[.val (.int p0)] [])) _
                    refine XS.iloadN X0.here hx rfl (hb hby d2_60) rfl ?_
                    show Steps p.tables e below (s₁.setTop (mkF m 61 #[.val (.int p0)] [(.int p0)])) _
                    refine XS.sipush X0.here hx rfl (hb hby d2_61) ?_
                    exact kt)
                  clear pre20
                  by_cases hc64_23 : p0 < (880 : Int32)
                  · have hc64_23z : p0.toInt < 880 := (own_ltI (by decide)).mp hc64_23
                    have pre24 : ∀ t, Steps p.tables e below (s₁.setTop (mkF m 68 #[.val (.int p0)] [(.int (1 : Int32))])) t → Steps p.tables e below (s₁.setTop (entryFrame m #[(.int p0)] 1)) t := fun t kt => pre22 t (by
                      show Steps p.tables e below (s₁.setTop (mkF m 64 #[.val (.int p0)] [(.int (880 : Int32)), (.int p0)])) _
                      refine XS.icmpNo X0.here hx rfl (hb hby d2_64) rfl (tlt hc64_23).2.1 ?_
                      show Steps p.tables e below (s₁.setTop (mkF m 67 #[.val (.int p0)] [])) _
                      refine XS.iconst X0.here hx rfl (hb hby d2_67) ?_
                      exact kt)
                    clear pre22
                    have hv : f2 p0 = (1 : Int32) := by
                      unfold f2
                      rw [if_neg hc3_2, if_pos hc11_5, if_neg hc17_7, if_pos hc25_10, if_neg hc32_12, if_neg hc41_15, if_neg hc48_18, if_pos hc57_21, if_pos hc64_23]
                    obtain ⟨fs, hr, hrun, hended, hW, hsame⟩ := X0.leave (v := some (.int (f2 p0))) (fun h => by rw [Bd.returns] at h; cases h)
                    refine ⟨_, _, pre24 _ ?_, hrun, hended, _, _, rfl, ?_, ⟨_, rfl⟩, hW, hsame.mono (by decide) (by decide)⟩
                    · rw [hv] at hr
                      show Steps p.tables e below (s₁.setTop (mkF m 68 #[.val (.int p0)] [(.int (1 : Int32))])) _
                      exact retN X0 hx (t := .boolean) Bd.returns (by simp) (hb hby d2_68) hr
                    · show Q2 Z p0 h0 n0 _ s₁.heap _
                      rw [e0]
                      exact ⟨rfl, N0, rfl⟩
                  · have hc64_23z : ¬ (p0.toInt < 880) := fun q => hc64_23 ((own_ltI (by decide)).mpr q)
                    have pre25 : ∀ t, Steps p.tables e below (s₁.setTop (mkF m 73 #[.val (.int p0)] [(.int (894 : Int32)), (.int p0)])) t → Steps p.tables e below (s₁.setTop (entryFrame m #[(.int p0)] 1)) t := fun t kt => pre22 t (by
                      show Steps p.tables e below (s₁.setTop (mkF m 64 #[.val (.int p0)] [(.int (880 : Int32)), (.int p0)])) _
                      refine XS.icmpYes X0.here hx rfl (pc0 := 64) (pc' := 69) rfl (hb hby d2_64) rfl (flt hc64_23).2.1 (by decide) (by decide) ?_
                      show Steps p.tables e below (s₁.setTop (mkF m 69 #[.val (.int p0)] [])) _
                      refine XS.iloadN X0.here hx rfl (hb hby d2_69) rfl ?_
                      show Steps p.tables e below (s₁.setTop (mkF m 70 #[.val (.int p0)] [(.int p0)])) _
                      refine XS.sipush X0.here hx rfl (hb hby d2_70) ?_
                      exact kt)
                    clear pre22
                    by_cases hc73_26 : p0 = (894 : Int32)
                    · have hc73_26z : p0.toInt = 894 := (own_eqI (by decide)).mp hc73_26
                      have pre27 : ∀ t, Steps p.tables e below (s₁.setTop (mkF m 77 #[.val (.int p0)] [(.int (1 : Int32))])) t → Steps p.tables e below (s₁.setTop (entryFrame m #[(.int p0)] 1)) t := fun t kt => pre25 t (by
                        show Steps p.tables e below (s₁.setTop (mkF m 73 #[.val (.int p0)] [(.int (894 : Int32)), (.int p0)])) _
                        refine XS.icmpNo X0.here hx rfl (hb hby d2_73) rfl (teq hc73_26).2 ?_
                        show Steps p.tables e below (s₁.setTop (mkF m 76 #[.val (.int p0)] [])) _
                        refine XS.iconst X0.here hx rfl (hb hby d2_76) ?_
                        exact kt)
                      clear pre25
                      have hv : f2 p0 = (1 : Int32) := by
                        unfold f2
                        rw [if_neg hc3_2, if_pos hc11_5, if_neg hc17_7, if_pos hc25_10, if_neg hc32_12, if_neg hc41_15, if_neg hc48_18, if_pos hc57_21, if_neg hc64_23, if_pos hc73_26]
                      obtain ⟨fs, hr, hrun, hended, hW, hsame⟩ := X0.leave (v := some (.int (f2 p0))) (fun h => by rw [Bd.returns] at h; cases h)
                      refine ⟨_, _, pre27 _ ?_, hrun, hended, _, _, rfl, ?_, ⟨_, rfl⟩, hW, hsame.mono (by decide) (by decide)⟩
                      · rw [hv] at hr
                        show Steps p.tables e below (s₁.setTop (mkF m 77 #[.val (.int p0)] [(.int (1 : Int32))])) _
                        exact retN X0 hx (t := .boolean) Bd.returns (by simp) (hb hby d2_77) hr
                      · show Q2 Z p0 h0 n0 _ s₁.heap _
                        rw [e0]
                        exact ⟨rfl, N0, rfl⟩
                    · have hc73_26z : ¬ (p0.toInt = 894) := fun q => hc73_26 ((own_eqI (by decide)).mpr q)
                      have pre28 : ∀ t, Steps p.tables e below (s₁.setTop (mkF m 82 #[.val (.int p0)] [(.int (8191 : Int32)), (.int p0)])) t → Steps p.tables e below (s₁.setTop (entryFrame m #[(.int p0)] 1)) t := fun t kt => pre25 t (by
                        show Steps p.tables e below (s₁.setTop (mkF m 73 #[.val (.int p0)] [(.int (894 : Int32)), (.int p0)])) _
                        refine XS.icmpYes X0.here hx rfl (pc0 := 73) (pc' := 78) rfl (hb hby d2_73) rfl (feq hc73_26).2 (by decide) (by decide) ?_
                        show Steps p.tables e below (s₁.setTop (mkF m 78 #[.val (.int p0)] [])) _
                        refine XS.iloadN X0.here hx rfl (hb hby d2_78) rfl ?_
                        show Steps p.tables e below (s₁.setTop (mkF m 79 #[.val (.int p0)] [(.int p0)])) _
                        refine XS.sipush X0.here hx rfl (hb hby d2_79) ?_
                        exact kt)
                      clear pre25
                      by_cases hc82_29 : (8191 : Int32) < p0
                      · have hc82_29z : 8191 < p0.toInt := (own_gtI (by decide)).mp hc82_29
                        have pre30 : ∀ t, Steps p.tables e below (s₁.setTop (mkF m 89 #[.val (.int p0)] [(.int (8204 : Int32)), (.int p0)])) t → Steps p.tables e below (s₁.setTop (entryFrame m #[(.int p0)] 1)) t := fun t kt => pre28 t (by
                          show Steps p.tables e below (s₁.setTop (mkF m 82 #[.val (.int p0)] [(.int (8191 : Int32)), (.int p0)])) _
                          refine XS.icmpNo X0.here hx rfl (hb hby d2_82) rfl (tlt hc82_29).2.2.2 ?_
                          show Steps p.tables e below (s₁.setTop (mkF m 85 #[.val (.int p0)] [])) _
                          refine XS.iloadN X0.here hx rfl (hb hby d2_85) rfl ?_
                          show Steps p.tables e below (s₁.setTop (mkF m 86 #[.val (.int p0)] [(.int p0)])) _
                          refine XS.sipush X0.here hx rfl (hb hby d2_86) ?_
                          exact kt)
                        clear pre28
                        by_cases hc89_31 : p0 < (8204 : Int32)
                        · have hc89_31z : p0.toInt < 8204 := (own_ltI (by decide)).mp hc89_31
                          have pre32 : ∀ t, Steps p.tables e below (s₁.setTop (mkF m 93 #[.val (.int p0)] [(.int (1 : Int32))])) t → Steps p.tables e below (s₁.setTop (entryFrame m #[(.int p0)] 1)) t := fun t kt => pre30 t (by
                            show Steps p.tables e below (s₁.setTop (mkF m 89 #[.val (.int p0)] [(.int (8204 : Int32)), (.int p0)])) _
                            refine XS.icmpNo X0.here hx rfl (hb hby d2_89) rfl (tlt hc89_31).2.1 ?_
                            show Steps p.tables e below (s₁.setTop (mkF m 92 #[.val (.int p0)] [])) _
                            refine XS.iconst X0.here hx rfl (hb hby d2_92) ?_
                            exact kt)
                          clear pre30
                          have hv : f2 p0 = (1 : Int32) := by
                            unfold f2
                            rw [if_neg hc3_2, if_pos hc11_5, if_neg hc17_7, if_pos hc25_10, if_neg hc32_12, if_neg hc41_15, if_neg hc48_18, if_pos hc57_21, if_neg hc64_23, if_neg hc73_26, if_pos hc82_29, if_pos hc89_31]
                          obtain ⟨fs, hr, hrun, hended, hW, hsame⟩ := X0.leave (v := some (.int (f2 p0))) (fun h => by rw [Bd.returns] at h; cases h)
                          refine ⟨_, _, pre32 _ ?_, hrun, hended, _, _, rfl, ?_, ⟨_, rfl⟩, hW, hsame.mono (by decide) (by decide)⟩
                          · rw [hv] at hr
                            show Steps p.tables e below (s₁.setTop (mkF m 93 #[.val (.int p0)] [(.int (1 : Int32))])) _
                            exact retN X0 hx (t := .boolean) Bd.returns (by simp) (hb hby d2_93) hr
                          · show Q2 Z p0 h0 n0 _ s₁.heap _
                            rw [e0]
                            exact ⟨rfl, N0, rfl⟩
                        · have hc89_31z : ¬ (p0.toInt < 8204) := fun q => hc89_31 ((own_ltI (by decide)).mpr q)
                          have pre33 : ∀ t, Steps p.tables e below (s₁.setTop (mkF m 98 #[.val (.int p0)] [(.int (8205 : Int32)), (.int p0)])) t → Steps p.tables e below (s₁.setTop (entryFrame m #[(.int p0)] 1)) t := fun t kt => pre30 t (by
                            show Steps p.tables e below (s₁.setTop (mkF m 89 #[.val (.int p0)] [(.int (8204 : Int32)), (.int p0)])) _
                            refine XS.icmpYes X0.here hx rfl (pc0 := 89) (pc' := 94) rfl (hb hby d2_89) rfl (flt hc89_31).2.1 (by decide) (by decide) ?_
                            show Steps p.tables e below (s₁.setTop (mkF m 94 #[.val (.int p0)] [])) _
                            refine XS.iloadN X0.here hx rfl (hb hby d2_94) rfl ?_
                            show Steps p.tables e below (s₁.setTop (mkF m 95 #[.val (.int p0)] [(.int p0)])) _
                            refine XS.sipush X0.here hx rfl (hb hby d2_95) ?_
                            exact kt)
                          clear pre30
                          by_cases hc98_34 : (8205 : Int32) < p0
                          · have hc98_34z : 8205 < p0.toInt := (own_gtI (by decide)).mp hc98_34
                            have pre35 : ∀ t, Steps p.tables e below (s₁.setTop (mkF m 105 #[.val (.int p0)] [(.int (8304 : Int32)), (.int p0)])) t → Steps p.tables e below (s₁.setTop (entryFrame m #[(.int p0)] 1)) t := fun t kt => pre33 t (by
                              show Steps p.tables e below (s₁.setTop (mkF m 98 #[.val (.int p0)] [(.int (8205 : Int32)), (.int p0)])) _
                              refine XS.icmpNo X0.here hx rfl (hb hby d2_98) rfl (tlt hc98_34).2.2.2 ?_
                              show Steps p.tables e below (s₁.setTop (mkF m 101 #[.val (.int p0)] [])) _
                              refine XS.iloadN X0.here hx rfl (hb hby d2_101) rfl ?_
                              show Steps p.tables e below (s₁.setTop (mkF m 102 #[.val (.int p0)] [(.int p0)])) _
                              refine XS.sipush X0.here hx rfl (hb hby d2_102) ?_
                              exact kt)
                            clear pre33
                            by_cases hc105_36 : p0 < (8304 : Int32)
                            · have hc105_36z : p0.toInt < 8304 := (own_ltI (by decide)).mp hc105_36
                              have pre37 : ∀ t, Steps p.tables e below (s₁.setTop (mkF m 109 #[.val (.int p0)] [(.int (1 : Int32))])) t → Steps p.tables e below (s₁.setTop (entryFrame m #[(.int p0)] 1)) t := fun t kt => pre35 t (by
                                show Steps p.tables e below (s₁.setTop (mkF m 105 #[.val (.int p0)] [(.int (8304 : Int32)), (.int p0)])) _
                                refine XS.icmpNo X0.here hx rfl (hb hby d2_105) rfl (tlt hc105_36).2.1 ?_
                                show Steps p.tables e below (s₁.setTop (mkF m 108 #[.val (.int p0)] [])) _
                                refine XS.iconst X0.here hx rfl (hb hby d2_108) ?_
                                exact kt)
                              clear pre35
                              have hv : f2 p0 = (1 : Int32) := by
                                unfold f2
                                rw [if_neg hc3_2, if_pos hc11_5, if_neg hc17_7, if_pos hc25_10, if_neg hc32_12, if_neg hc41_15, if_neg hc48_18, if_pos hc57_21, if_neg hc64_23, if_neg hc73_26, if_pos hc82_29, if_neg hc89_31, if_pos hc98_34, if_pos hc105_36]
                              obtain ⟨fs, hr, hrun, hended, hW, hsame⟩ := X0.leave (v := some (.int (f2 p0))) (fun h => by rw [Bd.returns] at h; cases h)
                              refine ⟨_, _, pre37 _ ?_, hrun, hended, _, _, rfl, ?_, ⟨_, rfl⟩, hW, hsame.mono (by decide) (by decide)⟩
                              · rw [hv] at hr
                                show Steps p.tables e below (s₁.setTop (mkF m 109 #[.val (.int p0)] [(.int (1 : Int32))])) _
                                exact retN X0 hx (t := .boolean) Bd.returns (by simp) (hb hby d2_109) hr
                              · show Q2 Z p0 h0 n0 _ s₁.heap _
                                rw [e0]
                                exact ⟨rfl, N0, rfl⟩
                            · have hc105_36z : ¬ (p0.toInt < 8304) := fun q => hc105_36 ((own_ltI (by decide)).mpr q)
                              have pre38 : ∀ t, Steps p.tables e below (s₁.setTop (mkF m 114 #[.val (.int p0)] [(.int (8591 : Int32)), (.int p0)])) t → Steps p.tables e below (s₁.setTop (entryFrame m #[(.int p0)] 1)) t := fun t kt => pre35 t (by
                                show Steps p.tables e below (s₁.setTop (mkF m 105 #[.val (.int p0)] [(.int (8304 : Int32)), (.int p0)])) _
                                refine XS.icmpYes X0.here hx rfl (pc0 := 105) (pc' := 110) rfl (hb hby d2_105) rfl (flt hc105_36).2.1 (by decide) (by decide) ?_
                                show Steps p.tables e below (s₁.setTop (mkF m 110 #[.val (.int p0)] [])) _
                                refine XS.iloadN X0.here hx rfl (hb hby d2_110) rfl ?_
                                show Steps p.tables e below (s₁.setTop (mkF m 111 #[.val (.int p0)] [(.int p0)])) _
                                refine XS.sipush X0.here hx rfl (hb hby d2_111) ?_
                                exact kt)
                              clear pre35
                              by_cases hc114_39 : (8591 : Int32) < p0
                              · have hc114_39z : 8591 < p0.toInt := (own_gtI (by decide)).mp hc114_39
                                have pre40 : ∀ t, Steps p.tables e below (s₁.setTop (mkF m 121 #[.val (.int p0)] [(.int (11264 : Int32)), (.int p0)])) t → Steps p.tables e below (s₁.setTop (entryFrame m #[(.int p0)] 1)) t := fun t kt => pre38 t (by
                                  show Steps p.tables e below (s₁.setTop (mkF m 114 #[.val (.int p0)] [(.int (8591 : Int32)), (.int p0)])) _
                                  refine XS.icmpNo X0.here hx rfl (hb hby d2_114) rfl (tlt hc114_39).2.2.2 ?_
                                  show Steps p.tables e below (s₁.setTop (mkF m 117 #[.val (.int p0)] [])) _
                                  refine XS.iloadN X0.here hx rfl (hb hby d2_117) rfl ?_
                                  show Steps p.tables e below (s₁.setTop (mkF m 118 #[.val (.int p0)] [(.int p0)])) _
                                  refine XS.sipush X0.here hx rfl (hb hby d2_118) ?_
                                  exact kt)
                                clear pre38
                                by_cases hc121_41 : p0 < (11264 : Int32)
                                · have hc121_41z : p0.toInt < 11264 := (own_ltI (by decide)).mp hc121_41
                                  have pre42 : ∀ t, Steps p.tables e below (s₁.setTop (mkF m 125 #[.val (.int p0)] [(.int (1 : Int32))])) t → Steps p.tables e below (s₁.setTop (entryFrame m #[(.int p0)] 1)) t := fun t kt => pre40 t (by
                                    show Steps p.tables e below (s₁.setTop (mkF m 121 #[.val (.int p0)] [(.int (11264 : Int32)), (.int p0)])) _
                                    refine XS.icmpNo X0.here hx rfl (hb hby d2_121) rfl (tlt hc121_41).2.1 ?_
                                    show Steps p.tables e below (s₁.setTop (mkF m 124 #[.val (.int p0)] [])) _
                                    refine XS.iconst X0.here hx rfl (hb hby d2_124) ?_
                                    exact kt)
                                  clear pre40
                                  have hv : f2 p0 = (1 : Int32) := by
                                    unfold f2
                                    rw [if_neg hc3_2, if_pos hc11_5, if_neg hc17_7, if_pos hc25_10, if_neg hc32_12, if_neg hc41_15, if_neg hc48_18, if_pos hc57_21, if_neg hc64_23, if_neg hc73_26, if_pos hc82_29, if_neg hc89_31, if_pos hc98_34, if_neg hc105_36, if_pos hc114_39, if_pos hc121_41]
                                  obtain ⟨fs, hr, hrun, hended, hW, hsame⟩ := X0.leave (v := some (.int (f2 p0))) (fun h => by rw [Bd.returns] at h; cases h)
                                  refine ⟨_, _, pre42 _ ?_, hrun, hended, _, _, rfl, ?_, ⟨_, rfl⟩, hW, hsame.mono (by decide) (by decide)⟩
                                  · rw [hv] at hr
                                    show Steps p.tables e below (s₁.setTop (mkF m 125 #[.val (.int p0)] [(.int (1 : Int32))])) _
                                    exact retN X0 hx (t := .boolean) Bd.returns (by simp) (hb hby d2_125) hr
                                  · show Q2 Z p0 h0 n0 _ s₁.heap _
                                    rw [e0]
                                    exact ⟨rfl, N0, rfl⟩
                                · have hc121_41z : ¬ (p0.toInt < 11264) := fun q => hc121_41 ((own_ltI (by decide)).mpr q)
                                  have pre43 : ∀ t, Steps p.tables e below (s₁.setTop (mkF m 130 #[.val (.int p0)] [(.int (12271 : Int32)), (.int p0)])) t → Steps p.tables e below (s₁.setTop (entryFrame m #[(.int p0)] 1)) t := fun t kt => pre40 t (by
                                    show Steps p.tables e below (s₁.setTop (mkF m 121 #[.val (.int p0)] [(.int (11264 : Int32)), (.int p0)])) _
                                    refine XS.icmpYes X0.here hx rfl (pc0 := 121) (pc' := 126) rfl (hb hby d2_121) rfl (flt hc121_41).2.1 (by decide) (by decide) ?_
                                    show Steps p.tables e below (s₁.setTop (mkF m 126 #[.val (.int p0)] [])) _
                                    refine XS.iloadN X0.here hx rfl (hb hby d2_126) rfl ?_
                                    show Steps p.tables e below (s₁.setTop (mkF m 127 #[.val (.int p0)] [(.int p0)])) _
                                    refine XS.sipush X0.here hx rfl (hb hby d2_127) ?_
                                    exact kt)
                                  clear pre40
                                  by_cases hc130_44 : (12271 : Int32) < p0
                                  · have hc130_44z : 12271 < p0.toInt := (own_gtI (by decide)).mp hc130_44
                                    have pre45 : ∀ t, Steps p.tables e below (s₁.setTop (mkF m 137 #[.val (.int p0)] [(.int (12289 : Int32)), (.int p0)])) t → Steps p.tables e below (s₁.setTop (entryFrame m #[(.int p0)] 1)) t := fun t kt => pre43 t (by
                                      show Steps p.tables e below (s₁.setTop (mkF m 130 #[.val (.int p0)] [(.int (12271 : Int32)), (.int p0)])) _
                                      refine XS.icmpNo X0.here hx rfl (hb hby d2_130) rfl (tlt hc130_44).2.2.2 ?_
                                      show Steps p.tables e below (s₁.setTop (mkF m 133 #[.val (.int p0)] [])) _
                                      refine XS.iloadN X0.here hx rfl (hb hby d2_133) rfl ?_
                                      show Steps p.tables e below (s₁.setTop (mkF m 134 #[.val (.int p0)] [(.int p0)])) _
                                      refine XS.sipush X0.here hx rfl (hb hby d2_134) ?_
                                      exact kt)
                                    clear pre43
                                    by_cases hc137_46 : p0 < (12289 : Int32)
                                    · have hc137_46z : p0.toInt < 12289 := (own_ltI (by decide)).mp hc137_46
                                      have pre47 : ∀ t, Steps p.tables e below (s₁.setTop (mkF m 141 #[.val (.int p0)] [(.int (1 : Int32))])) t → Steps p.tables e below (s₁.setTop (entryFrame m #[(.int p0)] 1)) t := fun t kt => pre45 t (by
                                        show Steps p.tables e below (s₁.setTop (mkF m 137 #[.val (.int p0)] [(.int (12289 : Int32)), (.int p0)])) _
                                        refine XS.icmpNo X0.here hx rfl (hb hby d2_137) rfl (tlt hc137_46).2.1 ?_
                                        show Steps p.tables e below (s₁.setTop (mkF m 140 #[.val (.int p0)] [])) _
                                        refine XS.iconst X0.here hx rfl (hb hby d2_140) ?_
                                        exact kt)
                                      clear pre45
                                      have hv : f2 p0 = (1 : Int32) := by
                                        unfold f2
                                        rw [if_neg hc3_2, if_pos hc11_5, if_neg hc17_7, if_pos hc25_10, if_neg hc32_12, if_neg hc41_15, if_neg hc48_18, if_pos hc57_21, if_neg hc64_23, if_neg hc73_26, if_pos hc82_29, if_neg hc89_31, if_pos hc98_34, if_neg hc105_36, if_pos hc114_39, if_neg hc121_41, if_pos hc130_44, if_pos hc137_46]
                                      obtain ⟨fs, hr, hrun, hended, hW, hsame⟩ := X0.leave (v := some (.int (f2 p0))) (fun h => by rw [Bd.returns] at h; cases h)
                                      refine ⟨_, _, pre47 _ ?_, hrun, hended, _, _, rfl, ?_, ⟨_, rfl⟩, hW, hsame.mono (by decide) (by decide)⟩
                                      · rw [hv] at hr
                                        show Steps p.tables e below (s₁.setTop (mkF m 141 #[.val (.int p0)] [(.int (1 : Int32))])) _
                                        exact retN X0 hx (t := .boolean) Bd.returns (by simp) (hb hby d2_141) hr
                                      · show Q2 Z p0 h0 n0 _ s₁.heap _
                                        rw [e0]
                                        exact ⟨rfl, N0, rfl⟩
                                    · have hc137_46z : ¬ (p0.toInt < 12289) := fun q => hc137_46 ((own_ltI (by decide)).mpr q)
                                      have pre48 : ∀ t, Steps p.tables e below (s₁.setTop (mkF m 145 #[.val (.int p0)] [(.int (55295 : Int32)), (.int p0)])) t → Steps p.tables e below (s₁.setTop (entryFrame m #[(.int p0)] 1)) t := fun t kt => pre45 t (by
                                        show Steps p.tables e below (s₁.setTop (mkF m 137 #[.val (.int p0)] [(.int (12289 : Int32)), (.int p0)])) _
                                        refine XS.icmpYes X0.here hx rfl (pc0 := 137) (pc' := 142) rfl (hb hby d2_137) rfl (flt hc137_46).2.1 (by decide) (by decide) ?_
                                        show Steps p.tables e below (s₁.setTop (mkF m 142 #[.val (.int p0)] [])) _
                                        refine XS.iloadN X0.here hx rfl (hb hby d2_142) rfl ?_
                                        show Steps p.tables e below (s₁.setTop (mkF m 143 #[.val (.int p0)] [(.int p0)])) _
                                        refine X0.ldcInt hx hown (mvT hZ (hw _ (List.mem_of_getElem? (i := 15) rfl))) (g := (mkF m 143 #[.val (.int p0)] [(.int p0)])) rfl (hb hby d2_143) _ ?_
                                        exact kt)
                                      clear pre45
                                      by_cases hc145_49 : (55295 : Int32) < p0
                                      · have hc145_49z : 55295 < p0.toInt := (own_gtI (by decide)).mp hc145_49
                                        have pre50 : ∀ t, Steps p.tables e below (s₁.setTop (mkF m 151 #[.val (.int p0)] [(.int (63744 : Int32)), (.int p0)])) t → Steps p.tables e below (s₁.setTop (entryFrame m #[(.int p0)] 1)) t := fun t kt => pre48 t (by
                                          show Steps p.tables e below (s₁.setTop (mkF m 145 #[.val (.int p0)] [(.int (55295 : Int32)), (.int p0)])) _
                                          refine XS.icmpNo X0.here hx rfl (hb hby d2_145) rfl (tlt hc145_49).2.2.2 ?_
                                          show Steps p.tables e below (s₁.setTop (mkF m 148 #[.val (.int p0)] [])) _
                                          refine XS.iloadN X0.here hx rfl (hb hby d2_148) rfl ?_
                                          show Steps p.tables e below (s₁.setTop (mkF m 149 #[.val (.int p0)] [(.int p0)])) _
                                          refine X0.ldcInt hx hown (mvT hZ (hw _ (List.mem_of_getElem? (i := 12) rfl))) (g := (mkF m 149 #[.val (.int p0)] [(.int p0)])) rfl (hb hby d2_149) _ ?_
                                          exact kt)
                                        clear pre48
                                        by_cases hc151_51 : p0 < (63744 : Int32)
                                        · have hc151_51z : p0.toInt < 63744 := (own_ltI (by decide)).mp hc151_51
                                          have pre52 : ∀ t, Steps p.tables e below (s₁.setTop (mkF m 155 #[.val (.int p0)] [(.int (1 : Int32))])) t → Steps p.tables e below (s₁.setTop (entryFrame m #[(.int p0)] 1)) t := fun t kt => pre50 t (by
                                            show Steps p.tables e below (s₁.setTop (mkF m 151 #[.val (.int p0)] [(.int (63744 : Int32)), (.int p0)])) _
                                            refine XS.icmpNo X0.here hx rfl (hb hby d2_151) rfl (tlt hc151_51).2.1 ?_
                                            show Steps p.tables e below (s₁.setTop (mkF m 154 #[.val (.int p0)] [])) _
                                            refine XS.iconst X0.here hx rfl (hb hby d2_154) ?_
                                            exact kt)
                                          clear pre50
                                          have hv : f2 p0 = (1 : Int32) := by
                                            unfold f2
                                            rw [if_neg hc3_2, if_pos hc11_5, if_neg hc17_7, if_pos hc25_10, if_neg hc32_12, if_neg hc41_15, if_neg hc48_18, if_pos hc57_21, if_neg hc64_23, if_neg hc73_26, if_pos hc82_29, if_neg hc89_31, if_pos hc98_34, if_neg hc105_36, if_pos hc114_39, if_neg hc121_41, if_pos hc130_44, if_neg hc137_46, if_pos hc145_49, if_pos hc151_51]
                                          obtain ⟨fs, hr, hrun, hended, hW, hsame⟩ := X0.leave (v := some (.int (f2 p0))) (fun h => by rw [Bd.returns] at h; cases h)
                                          refine ⟨_, _, pre52 _ ?_, hrun, hended, _, _, rfl, ?_, ⟨_, rfl⟩, hW, hsame.mono (by decide) (by decide)⟩
                                          · rw [hv] at hr
                                            show Steps p.tables e below (s₁.setTop (mkF m 155 #[.val (.int p0)] [(.int (1 : Int32))])) _
                                            exact retN X0 hx (t := .boolean) Bd.returns (by simp) (hb hby d2_155) hr
                                          · show Q2 Z p0 h0 n0 _ s₁.heap _
                                            rw [e0]
                                            exact ⟨rfl, N0, rfl⟩
                                        · have hc151_51z : ¬ (p0.toInt < 63744) := fun q => hc151_51 ((own_ltI (by decide)).mpr q)
                                          have pre53 : ∀ t, Steps p.tables e below (s₁.setTop (mkF m 159 #[.val (.int p0)] [(.int (64975 : Int32)), (.int p0)])) t → Steps p.tables e below (s₁.setTop (entryFrame m #[(.int p0)] 1)) t := fun t kt => pre50 t (by
                                            show Steps p.tables e below (s₁.setTop (mkF m 151 #[.val (.int p0)] [(.int (63744 : Int32)), (.int p0)])) _
                                            refine XS.icmpYes X0.here hx rfl (pc0 := 151) (pc' := 156) rfl (hb hby d2_151) rfl (flt hc151_51).2.1 (by decide) (by decide) ?_
                                            show Steps p.tables e below (s₁.setTop (mkF m 156 #[.val (.int p0)] [])) _
                                            refine XS.iloadN X0.here hx rfl (hb hby d2_156) rfl ?_
                                            show Steps p.tables e below (s₁.setTop (mkF m 157 #[.val (.int p0)] [(.int p0)])) _
                                            refine X0.ldcInt hx hown (mvT hZ (hw _ (List.mem_of_getElem? (i := 16) rfl))) (g := (mkF m 157 #[.val (.int p0)] [(.int p0)])) rfl (hb hby d2_157) _ ?_
                                            exact kt)
                                          clear pre50
                                          by_cases hc159_54 : (64975 : Int32) < p0
                                          · have hc159_54z : 64975 < p0.toInt := (own_gtI (by decide)).mp hc159_54
                                            have pre55 : ∀ t, Steps p.tables e below (s₁.setTop (mkF m 165 #[.val (.int p0)] [(.int (65008 : Int32)), (.int p0)])) t → Steps p.tables e below (s₁.setTop (entryFrame m #[(.int p0)] 1)) t := fun t kt => pre53 t (by
                                              show Steps p.tables e below (s₁.setTop (mkF m 159 #[.val (.int p0)] [(.int (64975 : Int32)), (.int p0)])) _
                                              refine XS.icmpNo X0.here hx rfl (hb hby d2_159) rfl (tlt hc159_54).2.2.2 ?_
                                              show Steps p.tables e below (s₁.setTop (mkF m 162 #[.val (.int p0)] [])) _
                                              refine XS.iloadN X0.here hx rfl (hb hby d2_162) rfl ?_
                                              show Steps p.tables e below (s₁.setTop (mkF m 163 #[.val (.int p0)] [(.int p0)])) _
                                              refine X0.ldcInt hx hown (mvT hZ (hw _ (List.mem_of_getElem? (i := 13) rfl))) (g := (mkF m 163 #[.val (.int p0)] [(.int p0)])) rfl (hb hby d2_163) _ ?_
                                              exact kt)
                                            clear pre53
                                            by_cases hc165_56 : p0 < (65008 : Int32)
                                            · have hc165_56z : p0.toInt < 65008 := (own_ltI (by decide)).mp hc165_56
                                              have pre57 : ∀ t, Steps p.tables e below (s₁.setTop (mkF m 169 #[.val (.int p0)] [(.int (1 : Int32))])) t → Steps p.tables e below (s₁.setTop (entryFrame m #[(.int p0)] 1)) t := fun t kt => pre55 t (by
                                                show Steps p.tables e below (s₁.setTop (mkF m 165 #[.val (.int p0)] [(.int (65008 : Int32)), (.int p0)])) _
                                                refine XS.icmpNo X0.here hx rfl (hb hby d2_165) rfl (tlt hc165_56).2.1 ?_
                                                show Steps p.tables e below (s₁.setTop (mkF m 168 #[.val (.int p0)] [])) _
                                                refine XS.iconst X0.here hx rfl (hb hby d2_168) ?_
                                                exact kt)
                                              clear pre55
                                              have hv : f2 p0 = (1 : Int32) := by
                                                unfold f2
                                                rw [if_neg hc3_2, if_pos hc11_5, if_neg hc17_7, if_pos hc25_10, if_neg hc32_12, if_neg hc41_15, if_neg hc48_18, if_pos hc57_21, if_neg hc64_23, if_neg hc73_26, if_pos hc82_29, if_neg hc89_31, if_pos hc98_34, if_neg hc105_36, if_pos hc114_39, if_neg hc121_41, if_pos hc130_44, if_neg hc137_46, if_pos hc145_49, if_neg hc151_51, if_pos hc159_54, if_pos hc165_56]
                                              obtain ⟨fs, hr, hrun, hended, hW, hsame⟩ := X0.leave (v := some (.int (f2 p0))) (fun h => by rw [Bd.returns] at h; cases h)
                                              refine ⟨_, _, pre57 _ ?_, hrun, hended, _, _, rfl, ?_, ⟨_, rfl⟩, hW, hsame.mono (by decide) (by decide)⟩
                                              · rw [hv] at hr
                                                show Steps p.tables e below (s₁.setTop (mkF m 169 #[.val (.int p0)] [(.int (1 : Int32))])) _
                                                exact retN X0 hx (t := .boolean) Bd.returns (by simp) (hb hby d2_169) hr
                                              · show Q2 Z p0 h0 n0 _ s₁.heap _
                                                rw [e0]
                                                exact ⟨rfl, N0, rfl⟩
                                            · have hc165_56z : ¬ (p0.toInt < 65008) := fun q => hc165_56 ((own_ltI (by decide)).mpr q)
                                              have pre58 : ∀ t, Steps p.tables e below (s₁.setTop (mkF m 173 #[.val (.int p0)] [(.int (65533 : Int32)), (.int p0)])) t → Steps p.tables e below (s₁.setTop (entryFrame m #[(.int p0)] 1)) t := fun t kt => pre55 t (by
                                                show Steps p.tables e below (s₁.setTop (mkF m 165 #[.val (.int p0)] [(.int (65008 : Int32)), (.int p0)])) _
                                                refine XS.icmpYes X0.here hx rfl (pc0 := 165) (pc' := 170) rfl (hb hby d2_165) rfl (flt hc165_56).2.1 (by decide) (by decide) ?_
                                                show Steps p.tables e below (s₁.setTop (mkF m 170 #[.val (.int p0)] [])) _
                                                refine XS.iloadN X0.here hx rfl (hb hby d2_170) rfl ?_
                                                show Steps p.tables e below (s₁.setTop (mkF m 171 #[.val (.int p0)] [(.int p0)])) _
                                                refine X0.ldcInt hx hown (mvT hZ (hw _ (List.mem_of_getElem? (i := 17) rfl))) (g := (mkF m 171 #[.val (.int p0)] [(.int p0)])) rfl (hb hby d2_171) _ ?_
                                                exact kt)
                                              clear pre55
                                              by_cases hc173_59 : (65533 : Int32) < p0
                                              · have hc173_59z : 65533 < p0.toInt := (own_gtI (by decide)).mp hc173_59
                                                have pre60 : ∀ t, Steps p.tables e below (s₁.setTop (mkF m 179 #[.val (.int p0)] [(.int (65536 : Int32)), (.int p0)])) t → Steps p.tables e below (s₁.setTop (entryFrame m #[(.int p0)] 1)) t := fun t kt => pre58 t (by
                                                  show Steps p.tables e below (s₁.setTop (mkF m 173 #[.val (.int p0)] [(.int (65533 : Int32)), (.int p0)])) _
                                                  refine XS.icmpNo X0.here hx rfl (hb hby d2_173) rfl (tlt hc173_59).2.2.2 ?_
                                                  show Steps p.tables e below (s₁.setTop (mkF m 176 #[.val (.int p0)] [])) _
                                                  refine XS.iloadN X0.here hx rfl (hb hby d2_176) rfl ?_
                                                  show Steps p.tables e below (s₁.setTop (mkF m 177 #[.val (.int p0)] [(.int p0)])) _
                                                  refine X0.ldcInt hx hown (mvT hZ (hw _ (List.mem_of_getElem? (i := 14) rfl))) (g := (mkF m 177 #[.val (.int p0)] [(.int p0)])) rfl (hb hby d2_177) _ ?_
                                                  exact kt)
                                                clear pre58
                                                by_cases hc179_61 : p0 < (65536 : Int32)
                                                · have hc179_61z : p0.toInt < 65536 := (own_ltI (by decide)).mp hc179_61
                                                  have pre62 : ∀ t, Steps p.tables e below (s₁.setTop (mkF m 183 #[.val (.int p0)] [(.int (1 : Int32))])) t → Steps p.tables e below (s₁.setTop (entryFrame m #[(.int p0)] 1)) t := fun t kt => pre60 t (by
                                                    show Steps p.tables e below (s₁.setTop (mkF m 179 #[.val (.int p0)] [(.int (65536 : Int32)), (.int p0)])) _
                                                    refine XS.icmpNo X0.here hx rfl (hb hby d2_179) rfl (tlt hc179_61).2.1 ?_
                                                    show Steps p.tables e below (s₁.setTop (mkF m 182 #[.val (.int p0)] [])) _
                                                    refine XS.iconst X0.here hx rfl (hb hby d2_182) ?_
                                                    exact kt)
                                                  clear pre60
                                                  have hv : f2 p0 = (1 : Int32) := by
                                                    unfold f2
                                                    rw [if_neg hc3_2, if_pos hc11_5, if_neg hc17_7, if_pos hc25_10, if_neg hc32_12, if_neg hc41_15, if_neg hc48_18, if_pos hc57_21, if_neg hc64_23, if_neg hc73_26, if_pos hc82_29, if_neg hc89_31, if_pos hc98_34, if_neg hc105_36, if_pos hc114_39, if_neg hc121_41, if_pos hc130_44, if_neg hc137_46, if_pos hc145_49, if_neg hc151_51, if_pos hc159_54, if_neg hc165_56, if_pos hc173_59, if_pos hc179_61]
                                                  obtain ⟨fs, hr, hrun, hended, hW, hsame⟩ := X0.leave (v := some (.int (f2 p0))) (fun h => by rw [Bd.returns] at h; cases h)
                                                  refine ⟨_, _, pre62 _ ?_, hrun, hended, _, _, rfl, ?_, ⟨_, rfl⟩, hW, hsame.mono (by decide) (by decide)⟩
                                                  · rw [hv] at hr
                                                    show Steps p.tables e below (s₁.setTop (mkF m 183 #[.val (.int p0)] [(.int (1 : Int32))])) _
                                                    exact retN X0 hx (t := .boolean) Bd.returns (by simp) (hb hby d2_183) hr
                                                  · show Q2 Z p0 h0 n0 _ s₁.heap _
                                                    rw [e0]
                                                    exact ⟨rfl, N0, rfl⟩
                                                · have hc179_61z : ¬ (p0.toInt < 65536) := fun q => hc179_61 ((own_ltI (by decide)).mpr q)
                                                  have pre63 : ∀ t, Steps p.tables e below (s₁.setTop (mkF m 187 #[.val (.int p0)] [(.int (983039 : Int32)), (.int p0)])) t → Steps p.tables e below (s₁.setTop (entryFrame m #[(.int p0)] 1)) t := fun t kt => pre60 t (by
                                                    show Steps p.tables e below (s₁.setTop (mkF m 179 #[.val (.int p0)] [(.int (65536 : Int32)), (.int p0)])) _
                                                    refine XS.icmpYes X0.here hx rfl (pc0 := 179) (pc' := 184) rfl (hb hby d2_179) rfl (flt hc179_61).2.1 (by decide) (by decide) ?_
                                                    show Steps p.tables e below (s₁.setTop (mkF m 184 #[.val (.int p0)] [])) _
                                                    refine XS.iloadN X0.here hx rfl (hb hby d2_184) rfl ?_
                                                    show Steps p.tables e below (s₁.setTop (mkF m 185 #[.val (.int p0)] [(.int p0)])) _
                                                    refine X0.ldcInt hx hown (mvT hZ (hw _ (List.mem_of_getElem? (i := 18) rfl))) (g := (mkF m 185 #[.val (.int p0)] [(.int p0)])) rfl (hb hby d2_185) _ ?_
                                                    exact kt)
                                                  clear pre60
                                                  by_cases hc187_64 : (983039 : Int32) < p0
                                                  · have hc187_64z : 983039 < p0.toInt := (own_gtI (by decide)).mp hc187_64
                                                    have pre65 : ∀ t, Steps p.tables e below (s₁.setTop (mkF m 195 #[.val (.int p0)] [(.int (1 : Int32))])) t → Steps p.tables e below (s₁.setTop (entryFrame m #[(.int p0)] 1)) t := fun t kt => pre63 t (by
                                                      show Steps p.tables e below (s₁.setTop (mkF m 187 #[.val (.int p0)] [(.int (983039 : Int32)), (.int p0)])) _
                                                      refine XS.icmpNo X0.here hx rfl (hb hby d2_187) rfl (tlt hc187_64).2.2.2 ?_
                                                      show Steps p.tables e below (s₁.setTop (mkF m 190 #[.val (.int p0)] [])) _
                                                      refine XS.iconst X0.here hx rfl (hb hby d2_190) ?_
                                                      show Steps p.tables e below (s₁.setTop (mkF m 191 #[.val (.int p0)] [(.int (1 : Int32))])) _
                                                      refine XS.goto X0.here hx rfl (pc0 := 191) (pc' := 195) rfl (hb hby d2_191) (by decide) (by decide) ?_
                                                      exact kt)
                                                    clear pre63
                                                    have hv : f2 p0 = (1 : Int32) := by
                                                      unfold f2
                                                      rw [if_neg hc3_2, if_pos hc11_5, if_neg hc17_7, if_pos hc25_10, if_neg hc32_12, if_neg hc41_15, if_neg hc48_18, if_pos hc57_21, if_neg hc64_23, if_neg hc73_26, if_pos hc82_29, if_neg hc89_31, if_pos hc98_34, if_neg hc105_36, if_pos hc114_39, if_neg hc121_41, if_pos hc130_44, if_neg hc137_46, if_pos hc145_49, if_neg hc151_51, if_pos hc159_54, if_neg hc165_56, if_pos hc173_59, if_neg hc179_61, if_pos hc187_64]
                                                    obtain ⟨fs, hr, hrun, hended, hW, hsame⟩ := X0.leave (v := some (.int (f2 p0))) (fun h => by rw [Bd.returns] at h; cases h)
                                                    refine ⟨_, _, pre65 _ ?_, hrun, hended, _, _, rfl, ?_, ⟨_, rfl⟩, hW, hsame.mono (by decide) (by decide)⟩
                                                    · rw [hv] at hr
                                                      show Steps p.tables e below (s₁.setTop (mkF m 195 #[.val (.int p0)] [(.int (1 : Int32))])) _
                                                      exact retN X0 hx (t := .boolean) Bd.returns (by simp) (hb hby d2_195) hr
                                                    · show Q2 Z p0 h0 n0 _ s₁.heap _
                                                      rw [e0]
                                                      exact ⟨rfl, N0, rfl⟩
                                                  · have hc187_64z : ¬ (983039 < p0.toInt) := fun q => hc187_64 ((own_gtI (by decide)).mpr q)
                                                    have pre66 : ∀ t, Steps p.tables e below (s₁.setTop (mkF m 195 #[.val (.int p0)] [(.int (0 : Int32))])) t → Steps p.tables e below (s₁.setTop (entryFrame m #[(.int p0)] 1)) t := fun t kt => pre63 t (by
                                                      show Steps p.tables e below (s₁.setTop (mkF m 187 #[.val (.int p0)] [(.int (983039 : Int32)), (.int p0)])) _
                                                      refine XS.icmpYes X0.here hx rfl (pc0 := 187) (pc' := 194) rfl (hb hby d2_187) rfl (flt hc187_64).2.2.2 (by decide) (by decide) ?_
                                                      show Steps p.tables e below (s₁.setTop (mkF m 194 #[.val (.int p0)] [])) _
                                                      refine XS.iconst X0.here hx rfl (hb hby d2_194) ?_
                                                      exact kt)
                                                    clear pre63
                                                    have hv : f2 p0 = (0 : Int32) := by
                                                      unfold f2
                                                      rw [if_neg hc3_2, if_pos hc11_5, if_neg hc17_7, if_pos hc25_10, if_neg hc32_12, if_neg hc41_15, if_neg hc48_18, if_pos hc57_21, if_neg hc64_23, if_neg hc73_26, if_pos hc82_29, if_neg hc89_31, if_pos hc98_34, if_neg hc105_36, if_pos hc114_39, if_neg hc121_41, if_pos hc130_44, if_neg hc137_46, if_pos hc145_49, if_neg hc151_51, if_pos hc159_54, if_neg hc165_56, if_pos hc173_59, if_neg hc179_61, if_neg hc187_64]
                                                    obtain ⟨fs, hr, hrun, hended, hW, hsame⟩ := X0.leave (v := some (.int (f2 p0))) (fun h => by rw [Bd.returns] at h; cases h)
                                                    refine ⟨_, _, pre66 _ ?_, hrun, hended, _, _, rfl, ?_, ⟨_, rfl⟩, hW, hsame.mono (by decide) (by decide)⟩
                                                    · rw [hv] at hr
                                                      show Steps p.tables e below (s₁.setTop (mkF m 195 #[.val (.int p0)] [(.int (0 : Int32))])) _
                                                      exact retN X0 hx (t := .boolean) Bd.returns (by simp) (hb hby d2_195) hr
                                                    · show Q2 Z p0 h0 n0 _ s₁.heap _
                                                      rw [e0]
                                                      exact ⟨rfl, N0, rfl⟩
                                              · have hc173_59z : ¬ (65533 < p0.toInt) := fun q => hc173_59 ((own_gtI (by decide)).mpr q)
                                                have pre67 : ∀ t, Steps p.tables e below (s₁.setTop (mkF m 195 #[.val (.int p0)] [(.int (0 : Int32))])) t → Steps p.tables e below (s₁.setTop (entryFrame m #[(.int p0)] 1)) t := fun t kt => pre58 t (by
                                                  show Steps p.tables e below (s₁.setTop (mkF m 173 #[.val (.int p0)] [(.int (65533 : Int32)), (.int p0)])) _
                                                  refine XS.icmpYes X0.here hx rfl (pc0 := 173) (pc' := 184) rfl (hb hby d2_173) rfl (flt hc173_59).2.2.2 (by decide) (by decide) ?_
                                                  show Steps p.tables e below (s₁.setTop (mkF m 184 #[.val (.int p0)] [])) _
                                                  refine XS.iloadN X0.here hx rfl (hb hby d2_184) rfl ?_
                                                  show Steps p.tables e below (s₁.setTop (mkF m 185 #[.val (.int p0)] [(.int p0)])) _
                                                  refine X0.ldcInt hx hown (mvT hZ (hw _ (List.mem_of_getElem? (i := 18) rfl))) (g := (mkF m 185 #[.val (.int p0)] [(.int p0)])) rfl (hb hby d2_185) _ ?_
                                                  show Steps p.tables e below (s₁.setTop (mkF m 187 #[.val (.int p0)] [(.int (983039 : Int32)), (.int p0)])) _
                                                  refine XS.icmpYes X0.here hx rfl (pc0 := 187) (pc' := 194) rfl (hb hby d2_187) rfl (flt (fun q => absurd ((own_gtI (by decide)).mp q) (by omega : ¬ (983039 < p0.toInt)) : ¬ ((983039 : Int32) < p0))).2.2.2 (by decide) (by decide) ?_
                                                  show Steps p.tables e below (s₁.setTop (mkF m 194 #[.val (.int p0)] [])) _
                                                  refine XS.iconst X0.here hx rfl (hb hby d2_194) ?_
                                                  exact kt)
                                                clear pre58
                                                have hv : f2 p0 = (0 : Int32) := by
                                                  unfold f2
                                                  rw [if_neg hc3_2, if_pos hc11_5, if_neg hc17_7, if_pos hc25_10, if_neg hc32_12, if_neg hc41_15, if_neg hc48_18, if_pos hc57_21, if_neg hc64_23, if_neg hc73_26, if_pos hc82_29, if_neg hc89_31, if_pos hc98_34, if_neg hc105_36, if_pos hc114_39, if_neg hc121_41, if_pos hc130_44, if_neg hc137_46, if_pos hc145_49, if_neg hc151_51, if_pos hc159_54, if_neg hc165_56, if_neg hc173_59]
                                                obtain ⟨fs, hr, hrun, hended, hW, hsame⟩ := X0.leave (v := some (.int (f2 p0))) (fun h => by rw [Bd.returns] at h; cases h)
                                                refine ⟨_, _, pre67 _ ?_, hrun, hended, _, _, rfl, ?_, ⟨_, rfl⟩, hW, hsame.mono (by decide) (by decide)⟩
                                                · rw [hv] at hr
                                                  show Steps p.tables e below (s₁.setTop (mkF m 195 #[.val (.int p0)] [(.int (0 : Int32))])) _
                                                  exact retN X0 hx (t := .boolean) Bd.returns (by simp) (hb hby d2_195) hr
                                                · show Q2 Z p0 h0 n0 _ s₁.heap _
                                                  rw [e0]
                                                  exact ⟨rfl, N0, rfl⟩
                                          · have hc159_54z : ¬ (64975 < p0.toInt) := fun q => hc159_54 ((own_gtI (by decide)).mpr q)
                                            have pre68 : ∀ t, Steps p.tables e below (s₁.setTop (mkF m 195 #[.val (.int p0)] [(.int (0 : Int32))])) t → Steps p.tables e below (s₁.setTop (entryFrame m #[(.int p0)] 1)) t := fun t kt => pre53 t (by
                                              show Steps p.tables e below (s₁.setTop (mkF m 159 #[.val (.int p0)] [(.int (64975 : Int32)), (.int p0)])) _
                                              refine XS.icmpYes X0.here hx rfl (pc0 := 159) (pc' := 170) rfl (hb hby d2_159) rfl (flt hc159_54).2.2.2 (by decide) (by decide) ?_
                                              show Steps p.tables e below (s₁.setTop (mkF m 170 #[.val (.int p0)] [])) _
                                              refine XS.iloadN X0.here hx rfl (hb hby d2_170) rfl ?_
                                              show Steps p.tables e below (s₁.setTop (mkF m 171 #[.val (.int p0)] [(.int p0)])) _
                                              refine X0.ldcInt hx hown (mvT hZ (hw _ (List.mem_of_getElem? (i := 17) rfl))) (g := (mkF m 171 #[.val (.int p0)] [(.int p0)])) rfl (hb hby d2_171) _ ?_
                                              show Steps p.tables e below (s₁.setTop (mkF m 173 #[.val (.int p0)] [(.int (65533 : Int32)), (.int p0)])) _
                                              refine XS.icmpYes X0.here hx rfl (pc0 := 173) (pc' := 184) rfl (hb hby d2_173) rfl (flt (fun q => absurd ((own_gtI (by decide)).mp q) (by omega : ¬ (65533 < p0.toInt)) : ¬ ((65533 : Int32) < p0))).2.2.2 (by decide) (by decide) ?_
                                              show Steps p.tables e below (s₁.setTop (mkF m 184 #[.val (.int p0)] [])) _
                                              refine XS.iloadN X0.here hx rfl (hb hby d2_184) rfl ?_
                                              show Steps p.tables e below (s₁.setTop (mkF m 185 #[.val (.int p0)] [(.int p0)])) _
                                              refine X0.ldcInt hx hown (mvT hZ (hw _ (List.mem_of_getElem? (i := 18) rfl))) (g := (mkF m 185 #[.val (.int p0)] [(.int p0)])) rfl (hb hby d2_185) _ ?_
                                              show Steps p.tables e below (s₁.setTop (mkF m 187 #[.val (.int p0)] [(.int (983039 : Int32)), (.int p0)])) _
                                              refine XS.icmpYes X0.here hx rfl (pc0 := 187) (pc' := 194) rfl (hb hby d2_187) rfl (flt (fun q => absurd ((own_gtI (by decide)).mp q) (by omega : ¬ (983039 < p0.toInt)) : ¬ ((983039 : Int32) < p0))).2.2.2 (by decide) (by decide) ?_
                                              show Steps p.tables e below (s₁.setTop (mkF m 194 #[.val (.int p0)] [])) _
                                              refine XS.iconst X0.here hx rfl (hb hby d2_194) ?_
                                              exact kt)
                                            clear pre53
                                            have hv : f2 p0 = (0 : Int32) := by
                                              unfold f2
                                              rw [if_neg hc3_2, if_pos hc11_5, if_neg hc17_7, if_pos hc25_10, if_neg hc32_12, if_neg hc41_15, if_neg hc48_18, if_pos hc57_21, if_neg hc64_23, if_neg hc73_26, if_pos hc82_29, if_neg hc89_31, if_pos hc98_34, if_neg hc105_36, if_pos hc114_39, if_neg hc121_41, if_pos hc130_44, if_neg hc137_46, if_pos hc145_49, if_neg hc151_51, if_neg hc159_54]
                                            obtain ⟨fs, hr, hrun, hended, hW, hsame⟩ := X0.leave (v := some (.int (f2 p0))) (fun h => by rw [Bd.returns] at h; cases h)
                                            refine ⟨_, _, pre68 _ ?_, hrun, hended, _, _, rfl, ?_, ⟨_, rfl⟩, hW, hsame.mono (by decide) (by decide)⟩
                                            · rw [hv] at hr
                                              show Steps p.tables e below (s₁.setTop (mkF m 195 #[.val (.int p0)] [(.int (0 : Int32))])) _
                                              exact retN X0 hx (t := .boolean) Bd.returns (by simp) (hb hby d2_195) hr
                                            · show Q2 Z p0 h0 n0 _ s₁.heap _
                                              rw [e0]
                                              exact ⟨rfl, N0, rfl⟩
                                      · have hc145_49z : ¬ (55295 < p0.toInt) := fun q => hc145_49 ((own_gtI (by decide)).mpr q)
                                        have pre69 : ∀ t, Steps p.tables e below (s₁.setTop (mkF m 195 #[.val (.int p0)] [(.int (0 : Int32))])) t → Steps p.tables e below (s₁.setTop (entryFrame m #[(.int p0)] 1)) t := fun t kt => pre48 t (by
                                          show Steps p.tables e below (s₁.setTop (mkF m 145 #[.val (.int p0)] [(.int (55295 : Int32)), (.int p0)])) _
                                          refine XS.icmpYes X0.here hx rfl (pc0 := 145) (pc' := 156) rfl (hb hby d2_145) rfl (flt hc145_49).2.2.2 (by decide) (by decide) ?_
                                          show Steps p.tables e below (s₁.setTop (mkF m 156 #[.val (.int p0)] [])) _
                                          refine XS.iloadN X0.here hx rfl (hb hby d2_156) rfl ?_
                                          show Steps p.tables e below (s₁.setTop (mkF m 157 #[.val (.int p0)] [(.int p0)])) _
                                          refine X0.ldcInt hx hown (mvT hZ (hw _ (List.mem_of_getElem? (i := 16) rfl))) (g := (mkF m 157 #[.val (.int p0)] [(.int p0)])) rfl (hb hby d2_157) _ ?_
                                          show Steps p.tables e below (s₁.setTop (mkF m 159 #[.val (.int p0)] [(.int (64975 : Int32)), (.int p0)])) _
                                          refine XS.icmpYes X0.here hx rfl (pc0 := 159) (pc' := 170) rfl (hb hby d2_159) rfl (flt (fun q => absurd ((own_gtI (by decide)).mp q) (by omega : ¬ (64975 < p0.toInt)) : ¬ ((64975 : Int32) < p0))).2.2.2 (by decide) (by decide) ?_
                                          show Steps p.tables e below (s₁.setTop (mkF m 170 #[.val (.int p0)] [])) _
                                          refine XS.iloadN X0.here hx rfl (hb hby d2_170) rfl ?_
                                          show Steps p.tables e below (s₁.setTop (mkF m 171 #[.val (.int p0)] [(.int p0)])) _
                                          refine X0.ldcInt hx hown (mvT hZ (hw _ (List.mem_of_getElem? (i := 17) rfl))) (g := (mkF m 171 #[.val (.int p0)] [(.int p0)])) rfl (hb hby d2_171) _ ?_
                                          show Steps p.tables e below (s₁.setTop (mkF m 173 #[.val (.int p0)] [(.int (65533 : Int32)), (.int p0)])) _
                                          refine XS.icmpYes X0.here hx rfl (pc0 := 173) (pc' := 184) rfl (hb hby d2_173) rfl (flt (fun q => absurd ((own_gtI (by decide)).mp q) (by omega : ¬ (65533 < p0.toInt)) : ¬ ((65533 : Int32) < p0))).2.2.2 (by decide) (by decide) ?_
                                          show Steps p.tables e below (s₁.setTop (mkF m 184 #[.val (.int p0)] [])) _
                                          refine XS.iloadN X0.here hx rfl (hb hby d2_184) rfl ?_
                                          show Steps p.tables e below (s₁.setTop (mkF m 185 #[.val (.int p0)] [(.int p0)])) _
                                          refine X0.ldcInt hx hown (mvT hZ (hw _ (List.mem_of_getElem? (i := 18) rfl))) (g := (mkF m 185 #[.val (.int p0)] [(.int p0)])) rfl (hb hby d2_185) _ ?_
                                          show Steps p.tables e below (s₁.setTop (mkF m 187 #[.val (.int p0)] [(.int (983039 : Int32)), (.int p0)])) _
                                          refine XS.icmpYes X0.here hx rfl (pc0 := 187) (pc' := 194) rfl (hb hby d2_187) rfl (flt (fun q => absurd ((own_gtI (by decide)).mp q) (by omega : ¬ (983039 < p0.toInt)) : ¬ ((983039 : Int32) < p0))).2.2.2 (by decide) (by decide) ?_
                                          show Steps p.tables e below (s₁.setTop (mkF m 194 #[.val (.int p0)] [])) _
                                          refine XS.iconst X0.here hx rfl (hb hby d2_194) ?_
                                          exact kt)
                                        clear pre48
                                        have hv : f2 p0 = (0 : Int32) := by
                                          unfold f2
                                          rw [if_neg hc3_2, if_pos hc11_5, if_neg hc17_7, if_pos hc25_10, if_neg hc32_12, if_neg hc41_15, if_neg hc48_18, if_pos hc57_21, if_neg hc64_23, if_neg hc73_26, if_pos hc82_29, if_neg hc89_31, if_pos hc98_34, if_neg hc105_36, if_pos hc114_39, if_neg hc121_41, if_pos hc130_44, if_neg hc137_46, if_neg hc145_49]
                                        obtain ⟨fs, hr, hrun, hended, hW, hsame⟩ := X0.leave (v := some (.int (f2 p0))) (fun h => by rw [Bd.returns] at h; cases h)
                                        refine ⟨_, _, pre69 _ ?_, hrun, hended, _, _, rfl, ?_, ⟨_, rfl⟩, hW, hsame.mono (by decide) (by decide)⟩
                                        · rw [hv] at hr
                                          show Steps p.tables e below (s₁.setTop (mkF m 195 #[.val (.int p0)] [(.int (0 : Int32))])) _
                                          exact retN X0 hx (t := .boolean) Bd.returns (by simp) (hb hby d2_195) hr
                                        · show Q2 Z p0 h0 n0 _ s₁.heap _
                                          rw [e0]
                                          exact ⟨rfl, N0, rfl⟩
                                  · have hc130_44z : ¬ (12271 < p0.toInt) := fun q => hc130_44 ((own_gtI (by decide)).mpr q)
                                    have pre70 : ∀ t, Steps p.tables e below (s₁.setTop (mkF m 195 #[.val (.int p0)] [(.int (0 : Int32))])) t → Steps p.tables e below (s₁.setTop (entryFrame m #[(.int p0)] 1)) t := fun t kt => pre43 t (by
                                      show Steps p.tables e below (s₁.setTop (mkF m 130 #[.val (.int p0)] [(.int (12271 : Int32)), (.int p0)])) _
                                      refine XS.icmpYes X0.here hx rfl (pc0 := 130) (pc' := 142) rfl (hb hby d2_130) rfl (flt hc130_44).2.2.2 (by decide) (by decide) ?_
                                      show Steps p.tables e below (s₁.setTop (mkF m 142 #[.val (.int p0)] [])) _
                                      refine XS.iloadN X0.here hx rfl (hb hby d2_142) rfl ?_
                                      show Steps p.tables e below (s₁.setTop (mkF m 143 #[.val (.int p0)] [(.int p0)])) _
                                      refine X0.ldcInt hx hown (mvT hZ (hw _ (List.mem_of_getElem? (i := 15) rfl))) (g := (mkF m 143 #[.val (.int p0)] [(.int p0)])) rfl (hb hby d2_143) _ ?_
                                      show Steps p.tables e below (s₁.setTop (mkF m 145 #[.val (.int p0)] [(.int (55295 : Int32)), (.int p0)])) _
                                      refine XS.icmpYes X0.here hx rfl (pc0 := 145) (pc' := 156) rfl (hb hby d2_145) rfl (flt (fun q => absurd ((own_gtI (by decide)).mp q) (by omega : ¬ (55295 < p0.toInt)) : ¬ ((55295 : Int32) < p0))).2.2.2 (by decide) (by decide) ?_
                                      show Steps p.tables e below (s₁.setTop (mkF m 156 #[.val (.int p0)] [])) _
                                      refine XS.iloadN X0.here hx rfl (hb hby d2_156) rfl ?_
                                      show Steps p.tables e below (s₁.setTop (mkF m 157 #[.val (.int p0)] [(.int p0)])) _
                                      refine X0.ldcInt hx hown (mvT hZ (hw _ (List.mem_of_getElem? (i := 16) rfl))) (g := (mkF m 157 #[.val (.int p0)] [(.int p0)])) rfl (hb hby d2_157) _ ?_
                                      show Steps p.tables e below (s₁.setTop (mkF m 159 #[.val (.int p0)] [(.int (64975 : Int32)), (.int p0)])) _
                                      refine XS.icmpYes X0.here hx rfl (pc0 := 159) (pc' := 170) rfl (hb hby d2_159) rfl (flt (fun q => absurd ((own_gtI (by decide)).mp q) (by omega : ¬ (64975 < p0.toInt)) : ¬ ((64975 : Int32) < p0))).2.2.2 (by decide) (by decide) ?_
                                      show Steps p.tables e below (s₁.setTop (mkF m 170 #[.val (.int p0)] [])) _
                                      refine XS.iloadN X0.here hx rfl (hb hby d2_170) rfl ?_
                                      show Steps p.tables e below (s₁.setTop (mkF m 171 #[.val (.int p0)] [(.int p0)])) _
                                      refine X0.ldcInt hx hown (mvT hZ (hw _ (List.mem_of_getElem? (i := 17) rfl))) (g := (mkF m 171 #[.val (.int p0)] [(.int p0)])) rfl (hb hby d2_171) _ ?_
                                      show Steps p.tables e below (s₁.setTop (mkF m 173 #[.val (.int p0)] [(.int (65533 : Int32)), (.int p0)])) _
                                      refine XS.icmpYes X0.here hx rfl (pc0 := 173) (pc' := 184) rfl (hb hby d2_173) rfl (flt (fun q => absurd ((own_gtI (by decide)).mp q) (by omega : ¬ (65533 < p0.toInt)) : ¬ ((65533 : Int32) < p0))).2.2.2 (by decide) (by decide) ?_
                                      show Steps p.tables e below (s₁.setTop (mkF m 184 #[.val (.int p0)] [])) _
                                      refine XS.iloadN X0.here hx rfl (hb hby d2_184) rfl ?_
                                      show Steps p.tables e below (s₁.setTop (mkF m 185 #[.val (.int p0)] [(.int p0)])) _
                                      refine X0.ldcInt hx hown (mvT hZ (hw _ (List.mem_of_getElem? (i := 18) rfl))) (g := (mkF m 185 #[.val (.int p0)] [(.int p0)])) rfl (hb hby d2_185) _ ?_
                                      show Steps p.tables e below (s₁.setTop (mkF m 187 #[.val (.int p0)] [(.int (983039 : Int32)), (.int p0)])) _
                                      refine XS.icmpYes X0.here hx rfl (pc0 := 187) (pc' := 194) rfl (hb hby d2_187) rfl (flt (fun q => absurd ((own_gtI (by decide)).mp q) (by omega : ¬ (983039 < p0.toInt)) : ¬ ((983039 : Int32) < p0))).2.2.2 (by decide) (by decide) ?_
                                      show Steps p.tables e below (s₁.setTop (mkF m 194 #[.val (.int p0)] [])) _
                                      refine XS.iconst X0.here hx rfl (hb hby d2_194) ?_
                                      exact kt)
                                    clear pre43
                                    have hv : f2 p0 = (0 : Int32) := by
                                      unfold f2
                                      rw [if_neg hc3_2, if_pos hc11_5, if_neg hc17_7, if_pos hc25_10, if_neg hc32_12, if_neg hc41_15, if_neg hc48_18, if_pos hc57_21, if_neg hc64_23, if_neg hc73_26, if_pos hc82_29, if_neg hc89_31, if_pos hc98_34, if_neg hc105_36, if_pos hc114_39, if_neg hc121_41, if_neg hc130_44]
                                    obtain ⟨fs, hr, hrun, hended, hW, hsame⟩ := X0.leave (v := some (.int (f2 p0))) (fun h => by rw [Bd.returns] at h; cases h)
                                    refine ⟨_, _, pre70 _ ?_, hrun, hended, _, _, rfl, ?_, ⟨_, rfl⟩, hW, hsame.mono (by decide) (by decide)⟩
                                    · rw [hv] at hr
                                      show Steps p.tables e below (s₁.setTop (mkF m 195 #[.val (.int p0)] [(.int (0 : Int32))])) _
                                      exact retN X0 hx (t := .boolean) Bd.returns (by simp) (hb hby d2_195) hr
                                    · show Q2 Z p0 h0 n0 _ s₁.heap _
                                      rw [e0]
                                      exact ⟨rfl, N0, rfl⟩
                              · have hc114_39z : ¬ (8591 < p0.toInt) := fun q => hc114_39 ((own_gtI (by decide)).mpr q)
                                have pre71 : ∀ t, Steps p.tables e below (s₁.setTop (mkF m 195 #[.val (.int p0)] [(.int (0 : Int32))])) t → Steps p.tables e below (s₁.setTop (entryFrame m #[(.int p0)] 1)) t := fun t kt => pre38 t (by
                                  show Steps p.tables e below (s₁.setTop (mkF m 114 #[.val (.int p0)] [(.int (8591 : Int32)), (.int p0)])) _
                                  refine XS.icmpYes X0.here hx rfl (pc0 := 114) (pc' := 126) rfl (hb hby d2_114) rfl (flt hc114_39).2.2.2 (by decide) (by decide) ?_
                                  show Steps p.tables e below (s₁.setTop (mkF m 126 #[.val (.int p0)] [])) _
                                  refine XS.iloadN X0.here hx rfl (hb hby d2_126) rfl ?_
                                  show Steps p.tables e below (s₁.setTop (mkF m 127 #[.val (.int p0)] [(.int p0)])) _
                                  refine XS.sipush X0.here hx rfl (hb hby d2_127) ?_
                                  show Steps p.tables e below (s₁.setTop (mkF m 130 #[.val (.int p0)] [(.int (12271 : Int32)), (.int p0)])) _
                                  refine XS.icmpYes X0.here hx rfl (pc0 := 130) (pc' := 142) rfl (hb hby d2_130) rfl (flt (fun q => absurd ((own_gtI (by decide)).mp q) (by omega : ¬ (12271 < p0.toInt)) : ¬ ((12271 : Int32) < p0))).2.2.2 (by decide) (by decide) ?_
                                  show Steps p.tables e below (s₁.setTop (mkF m 142 #[.val (.int p0)] [])) _
                                  refine XS.iloadN X0.here hx rfl (hb hby d2_142) rfl ?_
                                  show Steps p.tables e below (s₁.setTop (mkF m 143 #[.val (.int p0)] [(.int p0)])) _
                                  refine X0.ldcInt hx hown (mvT hZ (hw _ (List.mem_of_getElem? (i := 15) rfl))) (g := (mkF m 143 #[.val (.int p0)] [(.int p0)])) rfl (hb hby d2_143) _ ?_
                                  show Steps p.tables e below (s₁.setTop (mkF m 145 #[.val (.int p0)] [(.int (55295 : Int32)), (.int p0)])) _
                                  refine XS.icmpYes X0.here hx rfl (pc0 := 145) (pc' := 156) rfl (hb hby d2_145) rfl (flt (fun q => absurd ((own_gtI (by decide)).mp q) (by omega : ¬ (55295 < p0.toInt)) : ¬ ((55295 : Int32) < p0))).2.2.2 (by decide) (by decide) ?_
                                  show Steps p.tables e below (s₁.setTop (mkF m 156 #[.val (.int p0)] [])) _
                                  refine XS.iloadN X0.here hx rfl (hb hby d2_156) rfl ?_
                                  show Steps p.tables e below (s₁.setTop (mkF m 157 #[.val (.int p0)] [(.int p0)])) _
                                  refine X0.ldcInt hx hown (mvT hZ (hw _ (List.mem_of_getElem? (i := 16) rfl))) (g := (mkF m 157 #[.val (.int p0)] [(.int p0)])) rfl (hb hby d2_157) _ ?_
                                  show Steps p.tables e below (s₁.setTop (mkF m 159 #[.val (.int p0)] [(.int (64975 : Int32)), (.int p0)])) _
                                  refine XS.icmpYes X0.here hx rfl (pc0 := 159) (pc' := 170) rfl (hb hby d2_159) rfl (flt (fun q => absurd ((own_gtI (by decide)).mp q) (by omega : ¬ (64975 < p0.toInt)) : ¬ ((64975 : Int32) < p0))).2.2.2 (by decide) (by decide) ?_
                                  show Steps p.tables e below (s₁.setTop (mkF m 170 #[.val (.int p0)] [])) _
                                  refine XS.iloadN X0.here hx rfl (hb hby d2_170) rfl ?_
                                  show Steps p.tables e below (s₁.setTop (mkF m 171 #[.val (.int p0)] [(.int p0)])) _
                                  refine X0.ldcInt hx hown (mvT hZ (hw _ (List.mem_of_getElem? (i := 17) rfl))) (g := (mkF m 171 #[.val (.int p0)] [(.int p0)])) rfl (hb hby d2_171) _ ?_
                                  show Steps p.tables e below (s₁.setTop (mkF m 173 #[.val (.int p0)] [(.int (65533 : Int32)), (.int p0)])) _
                                  refine XS.icmpYes X0.here hx rfl (pc0 := 173) (pc' := 184) rfl (hb hby d2_173) rfl (flt (fun q => absurd ((own_gtI (by decide)).mp q) (by omega : ¬ (65533 < p0.toInt)) : ¬ ((65533 : Int32) < p0))).2.2.2 (by decide) (by decide) ?_
                                  show Steps p.tables e below (s₁.setTop (mkF m 184 #[.val (.int p0)] [])) _
                                  refine XS.iloadN X0.here hx rfl (hb hby d2_184) rfl ?_
                                  show Steps p.tables e below (s₁.setTop (mkF m 185 #[.val (.int p0)] [(.int p0)])) _
                                  refine X0.ldcInt hx hown (mvT hZ (hw _ (List.mem_of_getElem? (i := 18) rfl))) (g := (mkF m 185 #[.val (.int p0)] [(.int p0)])) rfl (hb hby d2_185) _ ?_
                                  show Steps p.tables e below (s₁.setTop (mkF m 187 #[.val (.int p0)] [(.int (983039 : Int32)), (.int p0)])) _
                                  refine XS.icmpYes X0.here hx rfl (pc0 := 187) (pc' := 194) rfl (hb hby d2_187) rfl (flt (fun q => absurd ((own_gtI (by decide)).mp q) (by omega : ¬ (983039 < p0.toInt)) : ¬ ((983039 : Int32) < p0))).2.2.2 (by decide) (by decide) ?_
                                  show Steps p.tables e below (s₁.setTop (mkF m 194 #[.val (.int p0)] [])) _
                                  refine XS.iconst X0.here hx rfl (hb hby d2_194) ?_
                                  exact kt)
                                clear pre38
                                have hv : f2 p0 = (0 : Int32) := by
                                  unfold f2
                                  rw [if_neg hc3_2, if_pos hc11_5, if_neg hc17_7, if_pos hc25_10, if_neg hc32_12, if_neg hc41_15, if_neg hc48_18, if_pos hc57_21, if_neg hc64_23, if_neg hc73_26, if_pos hc82_29, if_neg hc89_31, if_pos hc98_34, if_neg hc105_36, if_neg hc114_39]
                                obtain ⟨fs, hr, hrun, hended, hW, hsame⟩ := X0.leave (v := some (.int (f2 p0))) (fun h => by rw [Bd.returns] at h; cases h)
                                refine ⟨_, _, pre71 _ ?_, hrun, hended, _, _, rfl, ?_, ⟨_, rfl⟩, hW, hsame.mono (by decide) (by decide)⟩
                                · rw [hv] at hr
                                  show Steps p.tables e below (s₁.setTop (mkF m 195 #[.val (.int p0)] [(.int (0 : Int32))])) _
                                  exact retN X0 hx (t := .boolean) Bd.returns (by simp) (hb hby d2_195) hr
                                · show Q2 Z p0 h0 n0 _ s₁.heap _
                                  rw [e0]
                                  exact ⟨rfl, N0, rfl⟩
                          · have hc98_34z : ¬ (8205 < p0.toInt) := fun q => hc98_34 ((own_gtI (by decide)).mpr q)
                            have pre72 : ∀ t, Steps p.tables e below (s₁.setTop (mkF m 195 #[.val (.int p0)] [(.int (0 : Int32))])) t → Steps p.tables e below (s₁.setTop (entryFrame m #[(.int p0)] 1)) t := fun t kt => pre33 t (by
                              show Steps p.tables e below (s₁.setTop (mkF m 98 #[.val (.int p0)] [(.int (8205 : Int32)), (.int p0)])) _
                              refine XS.icmpYes X0.here hx rfl (pc0 := 98) (pc' := 110) rfl (hb hby d2_98) rfl (flt hc98_34).2.2.2 (by decide) (by decide) ?_
                              show Steps p.tables e below (s₁.setTop (mkF m 110 #[.val (.int p0)] [])) _
                              refine XS.iloadN X0.here hx rfl (hb hby d2_110) rfl ?_
                              show Steps p.tables e below (s₁.setTop (mkF m 111 #[.val (.int p0)] [(.int p0)])) _
                              refine XS.sipush X0.here hx rfl (hb hby d2_111) ?_
                              show Steps p.tables e below (s₁.setTop (mkF m 114 #[.val (.int p0)] [(.int (8591 : Int32)), (.int p0)])) _
                              refine XS.icmpYes X0.here hx rfl (pc0 := 114) (pc' := 126) rfl (hb hby d2_114) rfl (flt (fun q => absurd ((own_gtI (by decide)).mp q) (by omega : ¬ (8591 < p0.toInt)) : ¬ ((8591 : Int32) < p0))).2.2.2 (by decide) (by decide) ?_
                              show Steps p.tables e below (s₁.setTop (mkF m 126 #[.val (.int p0)] [])) _
                              refine XS.iloadN X0.here hx rfl (hb hby d2_126) rfl ?_
                              show Steps p.tables e below (s₁.setTop (mkF m 127 #[.val (.int p0)] [(.int p0)])) _
                              refine XS.sipush X0.here hx rfl (hb hby d2_127) ?_
                              show Steps p.tables e below (s₁.setTop (mkF m 130 #[.val (.int p0)] [(.int (12271 : Int32)), (.int p0)])) _
                              refine XS.icmpYes X0.here hx rfl (pc0 := 130) (pc' := 142) rfl (hb hby d2_130) rfl (flt (fun q => absurd ((own_gtI (by decide)).mp q) (by omega : ¬ (12271 < p0.toInt)) : ¬ ((12271 : Int32) < p0))).2.2.2 (by decide) (by decide) ?_
                              show Steps p.tables e below (s₁.setTop (mkF m 142 #[.val (.int p0)] [])) _
                              refine XS.iloadN X0.here hx rfl (hb hby d2_142) rfl ?_
                              show Steps p.tables e below (s₁.setTop (mkF m 143 #[.val (.int p0)] [(.int p0)])) _
                              refine X0.ldcInt hx hown (mvT hZ (hw _ (List.mem_of_getElem? (i := 15) rfl))) (g := (mkF m 143 #[.val (.int p0)] [(.int p0)])) rfl (hb hby d2_143) _ ?_
                              show Steps p.tables e below (s₁.setTop (mkF m 145 #[.val (.int p0)] [(.int (55295 : Int32)), (.int p0)])) _
                              refine XS.icmpYes X0.here hx rfl (pc0 := 145) (pc' := 156) rfl (hb hby d2_145) rfl (flt (fun q => absurd ((own_gtI (by decide)).mp q) (by omega : ¬ (55295 < p0.toInt)) : ¬ ((55295 : Int32) < p0))).2.2.2 (by decide) (by decide) ?_
                              show Steps p.tables e below (s₁.setTop (mkF m 156 #[.val (.int p0)] [])) _
                              refine XS.iloadN X0.here hx rfl (hb hby d2_156) rfl ?_
                              show Steps p.tables e below (s₁.setTop (mkF m 157 #[.val (.int p0)] [(.int p0)])) _
                              refine X0.ldcInt hx hown (mvT hZ (hw _ (List.mem_of_getElem? (i := 16) rfl))) (g := (mkF m 157 #[.val (.int p0)] [(.int p0)])) rfl (hb hby d2_157) _ ?_
                              show Steps p.tables e below (s₁.setTop (mkF m 159 #[.val (.int p0)] [(.int (64975 : Int32)), (.int p0)])) _
                              refine XS.icmpYes X0.here hx rfl (pc0 := 159) (pc' := 170) rfl (hb hby d2_159) rfl (flt (fun q => absurd ((own_gtI (by decide)).mp q) (by omega : ¬ (64975 < p0.toInt)) : ¬ ((64975 : Int32) < p0))).2.2.2 (by decide) (by decide) ?_
                              show Steps p.tables e below (s₁.setTop (mkF m 170 #[.val (.int p0)] [])) _
                              refine XS.iloadN X0.here hx rfl (hb hby d2_170) rfl ?_
                              show Steps p.tables e below (s₁.setTop (mkF m 171 #[.val (.int p0)] [(.int p0)])) _
                              refine X0.ldcInt hx hown (mvT hZ (hw _ (List.mem_of_getElem? (i := 17) rfl))) (g := (mkF m 171 #[.val (.int p0)] [(.int p0)])) rfl (hb hby d2_171) _ ?_
                              show Steps p.tables e below (s₁.setTop (mkF m 173 #[.val (.int p0)] [(.int (65533 : Int32)), (.int p0)])) _
                              refine XS.icmpYes X0.here hx rfl (pc0 := 173) (pc' := 184) rfl (hb hby d2_173) rfl (flt (fun q => absurd ((own_gtI (by decide)).mp q) (by omega : ¬ (65533 < p0.toInt)) : ¬ ((65533 : Int32) < p0))).2.2.2 (by decide) (by decide) ?_
                              show Steps p.tables e below (s₁.setTop (mkF m 184 #[.val (.int p0)] [])) _
                              refine XS.iloadN X0.here hx rfl (hb hby d2_184) rfl ?_
                              show Steps p.tables e below (s₁.setTop (mkF m 185 #[.val (.int p0)] [(.int p0)])) _
                              refine X0.ldcInt hx hown (mvT hZ (hw _ (List.mem_of_getElem? (i := 18) rfl))) (g := (mkF m 185 #[.val (.int p0)] [(.int p0)])) rfl (hb hby d2_185) _ ?_
                              show Steps p.tables e below (s₁.setTop (mkF m 187 #[.val (.int p0)] [(.int (983039 : Int32)), (.int p0)])) _
                              refine XS.icmpYes X0.here hx rfl (pc0 := 187) (pc' := 194) rfl (hb hby d2_187) rfl (flt (fun q => absurd ((own_gtI (by decide)).mp q) (by omega : ¬ (983039 < p0.toInt)) : ¬ ((983039 : Int32) < p0))).2.2.2 (by decide) (by decide) ?_
                              show Steps p.tables e below (s₁.setTop (mkF m 194 #[.val (.int p0)] [])) _
                              refine XS.iconst X0.here hx rfl (hb hby d2_194) ?_
                              exact kt)
                            clear pre33
                            have hv : f2 p0 = (0 : Int32) := by
                              unfold f2
                              rw [if_neg hc3_2, if_pos hc11_5, if_neg hc17_7, if_pos hc25_10, if_neg hc32_12, if_neg hc41_15, if_neg hc48_18, if_pos hc57_21, if_neg hc64_23, if_neg hc73_26, if_pos hc82_29, if_neg hc89_31, if_neg hc98_34]
                            obtain ⟨fs, hr, hrun, hended, hW, hsame⟩ := X0.leave (v := some (.int (f2 p0))) (fun h => by rw [Bd.returns] at h; cases h)
                            refine ⟨_, _, pre72 _ ?_, hrun, hended, _, _, rfl, ?_, ⟨_, rfl⟩, hW, hsame.mono (by decide) (by decide)⟩
                            · rw [hv] at hr
                              show Steps p.tables e below (s₁.setTop (mkF m 195 #[.val (.int p0)] [(.int (0 : Int32))])) _
                              exact retN X0 hx (t := .boolean) Bd.returns (by simp) (hb hby d2_195) hr
                            · show Q2 Z p0 h0 n0 _ s₁.heap _
                              rw [e0]
                              exact ⟨rfl, N0, rfl⟩
                      · have hc82_29z : ¬ (8191 < p0.toInt) := fun q => hc82_29 ((own_gtI (by decide)).mpr q)
                        have pre73 : ∀ t, Steps p.tables e below (s₁.setTop (mkF m 195 #[.val (.int p0)] [(.int (0 : Int32))])) t → Steps p.tables e below (s₁.setTop (entryFrame m #[(.int p0)] 1)) t := fun t kt => pre28 t (by
                          show Steps p.tables e below (s₁.setTop (mkF m 82 #[.val (.int p0)] [(.int (8191 : Int32)), (.int p0)])) _
                          refine XS.icmpYes X0.here hx rfl (pc0 := 82) (pc' := 94) rfl (hb hby d2_82) rfl (flt hc82_29).2.2.2 (by decide) (by decide) ?_
                          show Steps p.tables e below (s₁.setTop (mkF m 94 #[.val (.int p0)] [])) _
                          refine XS.iloadN X0.here hx rfl (hb hby d2_94) rfl ?_
                          show Steps p.tables e below (s₁.setTop (mkF m 95 #[.val (.int p0)] [(.int p0)])) _
                          refine XS.sipush X0.here hx rfl (hb hby d2_95) ?_
                          show Steps p.tables e below (s₁.setTop (mkF m 98 #[.val (.int p0)] [(.int (8205 : Int32)), (.int p0)])) _
                          refine XS.icmpYes X0.here hx rfl (pc0 := 98) (pc' := 110) rfl (hb hby d2_98) rfl (flt (fun q => absurd ((own_gtI (by decide)).mp q) (by omega : ¬ (8205 < p0.toInt)) : ¬ ((8205 : Int32) < p0))).2.2.2 (by decide) (by decide) ?_
                          show Steps p.tables e below (s₁.setTop (mkF m 110 #[.val (.int p0)] [])) _
                          refine XS.iloadN X0.here hx rfl (hb hby d2_110) rfl ?_
                          show Steps p.tables e below (s₁.setTop (mkF m 111 #[.val (.int p0)] [(.int p0)])) _
                          refine XS.sipush X0.here hx rfl (hb hby d2_111) ?_
                          show Steps p.tables e below (s₁.setTop (mkF m 114 #[.val (.int p0)] [(.int (8591 : Int32)), (.int p0)])) _
                          refine XS.icmpYes X0.here hx rfl (pc0 := 114) (pc' := 126) rfl (hb hby d2_114) rfl (flt (fun q => absurd ((own_gtI (by decide)).mp q) (by omega : ¬ (8591 < p0.toInt)) : ¬ ((8591 : Int32) < p0))).2.2.2 (by decide) (by decide) ?_
                          show Steps p.tables e below (s₁.setTop (mkF m 126 #[.val (.int p0)] [])) _
                          refine XS.iloadN X0.here hx rfl (hb hby d2_126) rfl ?_
                          show Steps p.tables e below (s₁.setTop (mkF m 127 #[.val (.int p0)] [(.int p0)])) _
                          refine XS.sipush X0.here hx rfl (hb hby d2_127) ?_
                          show Steps p.tables e below (s₁.setTop (mkF m 130 #[.val (.int p0)] [(.int (12271 : Int32)), (.int p0)])) _
                          refine XS.icmpYes X0.here hx rfl (pc0 := 130) (pc' := 142) rfl (hb hby d2_130) rfl (flt (fun q => absurd ((own_gtI (by decide)).mp q) (by omega : ¬ (12271 < p0.toInt)) : ¬ ((12271 : Int32) < p0))).2.2.2 (by decide) (by decide) ?_
                          show Steps p.tables e below (s₁.setTop (mkF m 142 #[.val (.int p0)] [])) _
                          refine XS.iloadN X0.here hx rfl (hb hby d2_142) rfl ?_
                          show Steps p.tables e below (s₁.setTop (mkF m 143 #[.val (.int p0)] [(.int p0)])) _
                          refine X0.ldcInt hx hown (mvT hZ (hw _ (List.mem_of_getElem? (i := 15) rfl))) (g := (mkF m 143 #[.val (.int p0)] [(.int p0)])) rfl (hb hby d2_143) _ ?_
                          show Steps p.tables e below (s₁.setTop (mkF m 145 #[.val (.int p0)] [(.int (55295 : Int32)), (.int p0)])) _
                          refine XS.icmpYes X0.here hx rfl (pc0 := 145) (pc' := 156) rfl (hb hby d2_145) rfl (flt (fun q => absurd ((own_gtI (by decide)).mp q) (by omega : ¬ (55295 < p0.toInt)) : ¬ ((55295 : Int32) < p0))).2.2.2 (by decide) (by decide) ?_
                          show Steps p.tables e below (s₁.setTop (mkF m 156 #[.val (.int p0)] [])) _
                          refine XS.iloadN X0.here hx rfl (hb hby d2_156) rfl ?_
                          show Steps p.tables e below (s₁.setTop (mkF m 157 #[.val (.int p0)] [(.int p0)])) _
                          refine X0.ldcInt hx hown (mvT hZ (hw _ (List.mem_of_getElem? (i := 16) rfl))) (g := (mkF m 157 #[.val (.int p0)] [(.int p0)])) rfl (hb hby d2_157) _ ?_
                          show Steps p.tables e below (s₁.setTop (mkF m 159 #[.val (.int p0)] [(.int (64975 : Int32)), (.int p0)])) _
                          refine XS.icmpYes X0.here hx rfl (pc0 := 159) (pc' := 170) rfl (hb hby d2_159) rfl (flt (fun q => absurd ((own_gtI (by decide)).mp q) (by omega : ¬ (64975 < p0.toInt)) : ¬ ((64975 : Int32) < p0))).2.2.2 (by decide) (by decide) ?_
                          show Steps p.tables e below (s₁.setTop (mkF m 170 #[.val (.int p0)] [])) _
                          refine XS.iloadN X0.here hx rfl (hb hby d2_170) rfl ?_
                          show Steps p.tables e below (s₁.setTop (mkF m 171 #[.val (.int p0)] [(.int p0)])) _
                          refine X0.ldcInt hx hown (mvT hZ (hw _ (List.mem_of_getElem? (i := 17) rfl))) (g := (mkF m 171 #[.val (.int p0)] [(.int p0)])) rfl (hb hby d2_171) _ ?_
                          show Steps p.tables e below (s₁.setTop (mkF m 173 #[.val (.int p0)] [(.int (65533 : Int32)), (.int p0)])) _
                          refine XS.icmpYes X0.here hx rfl (pc0 := 173) (pc' := 184) rfl (hb hby d2_173) rfl (flt (fun q => absurd ((own_gtI (by decide)).mp q) (by omega : ¬ (65533 < p0.toInt)) : ¬ ((65533 : Int32) < p0))).2.2.2 (by decide) (by decide) ?_
                          show Steps p.tables e below (s₁.setTop (mkF m 184 #[.val (.int p0)] [])) _
                          refine XS.iloadN X0.here hx rfl (hb hby d2_184) rfl ?_
                          show Steps p.tables e below (s₁.setTop (mkF m 185 #[.val (.int p0)] [(.int p0)])) _
                          refine X0.ldcInt hx hown (mvT hZ (hw _ (List.mem_of_getElem? (i := 18) rfl))) (g := (mkF m 185 #[.val (.int p0)] [(.int p0)])) rfl (hb hby d2_185) _ ?_
                          show Steps p.tables e below (s₁.setTop (mkF m 187 #[.val (.int p0)] [(.int (983039 : Int32)), (.int p0)])) _
                          refine XS.icmpYes X0.here hx rfl (pc0 := 187) (pc' := 194) rfl (hb hby d2_187) rfl (flt (fun q => absurd ((own_gtI (by decide)).mp q) (by omega : ¬ (983039 < p0.toInt)) : ¬ ((983039 : Int32) < p0))).2.2.2 (by decide) (by decide) ?_
                          show Steps p.tables e below (s₁.setTop (mkF m 194 #[.val (.int p0)] [])) _
                          refine XS.iconst X0.here hx rfl (hb hby d2_194) ?_
                          exact kt)
                        clear pre28
                        have hv : f2 p0 = (0 : Int32) := by
                          unfold f2
                          rw [if_neg hc3_2, if_pos hc11_5, if_neg hc17_7, if_pos hc25_10, if_neg hc32_12, if_neg hc41_15, if_neg hc48_18, if_pos hc57_21, if_neg hc64_23, if_neg hc73_26, if_neg hc82_29]
                        obtain ⟨fs, hr, hrun, hended, hW, hsame⟩ := X0.leave (v := some (.int (f2 p0))) (fun h => by rw [Bd.returns] at h; cases h)
                        refine ⟨_, _, pre73 _ ?_, hrun, hended, _, _, rfl, ?_, ⟨_, rfl⟩, hW, hsame.mono (by decide) (by decide)⟩
                        · rw [hv] at hr
                          show Steps p.tables e below (s₁.setTop (mkF m 195 #[.val (.int p0)] [(.int (0 : Int32))])) _
                          exact retN X0 hx (t := .boolean) Bd.returns (by simp) (hb hby d2_195) hr
                        · show Q2 Z p0 h0 n0 _ s₁.heap _
                          rw [e0]
                          exact ⟨rfl, N0, rfl⟩
                · have hc57_21z : ¬ (767 < p0.toInt) := fun q => hc57_21 ((own_gtI (by decide)).mpr q)
                  have pre74 : ∀ t, Steps p.tables e below (s₁.setTop (mkF m 195 #[.val (.int p0)] [(.int (0 : Int32))])) t → Steps p.tables e below (s₁.setTop (entryFrame m #[(.int p0)] 1)) t := fun t kt => pre20 t (by
                    show Steps p.tables e below (s₁.setTop (mkF m 57 #[.val (.int p0)] [(.int (767 : Int32)), (.int p0)])) _
                    refine XS.icmpYes X0.here hx rfl (pc0 := 57) (pc' := 69) rfl (hb hby d2_57) rfl (flt hc57_21).2.2.2 (by decide) (by decide) ?_
                    show Steps p.tables e below (s₁.setTop (mkF m 69 #[.val (.int p0)] [])) _
                    refine XS.iloadN X0.here hx rfl (hb hby d2_69) rfl ?_
                    show Steps p.tables e below (s₁.setTop (mkF m 70 #[.val (.int p0)] [(.int p0)])) _
                    refine XS.sipush X0.here hx rfl (hb hby d2_70) ?_
                    show Steps p.tables e below (s₁.setTop (mkF m 73 #[.val (.int p0)] [(.int (894 : Int32)), (.int p0)])) _
                    refine XS.icmpYes X0.here hx rfl (pc0 := 73) (pc' := 78) rfl (hb hby d2_73) rfl (feq (fun q => absurd ((own_eqI (by decide)).mp q) (by omega : ¬ (p0.toInt = 894)) : ¬ (p0 = (894 : Int32)))).2 (by decide) (by decide) ?_
                    show Steps p.tables e below (s₁.setTop (mkF m 78 #[.val (.int p0)] [])) _
                    refine XS.iloadN X0.here hx rfl (hb hby d2_78) rfl ?_
                    show Steps p.tables e below (s₁.setTop (mkF m 79 #[.val (.int p0)] [(.int p0)])) _
                    refine XS.sipush X0.here hx rfl (hb hby d2_79) ?_
                    show Steps p.tables e below (s₁.setTop (mkF m 82 #[.val (.int p0)] [(.int (8191 : Int32)), (.int p0)])) _
                    refine XS.icmpYes X0.here hx rfl (pc0 := 82) (pc' := 94) rfl (hb hby d2_82) rfl (flt (fun q => absurd ((own_gtI (by decide)).mp q) (by omega : ¬ (8191 < p0.toInt)) : ¬ ((8191 : Int32) < p0))).2.2.2 (by decide) (by decide) ?_
                    show Steps p.tables e below (s₁.setTop (mkF m 94 #[.val (.int p0)] [])) _
                    refine XS.iloadN X0.here hx rfl (hb hby d2_94) rfl ?_
                    show Steps p.tables e below (s₁.setTop (mkF m 95 #[.val (.int p0)] [(.int p0)])) _
                    refine XS.sipush X0.here hx rfl (hb hby d2_95) ?_
                    show Steps p.tables e below (s₁.setTop (mkF m 98 #[.val (.int p0)] [(.int (8205 : Int32)), (.int p0)])) _
                    refine XS.icmpYes X0.here hx rfl (pc0 := 98) (pc' := 110) rfl (hb hby d2_98) rfl (flt (fun q => absurd ((own_gtI (by decide)).mp q) (by omega : ¬ (8205 < p0.toInt)) : ¬ ((8205 : Int32) < p0))).2.2.2 (by decide) (by decide) ?_
                    show Steps p.tables e below (s₁.setTop (mkF m 110 #[.val (.int p0)] [])) _
                    refine XS.iloadN X0.here hx rfl (hb hby d2_110) rfl ?_
                    show Steps p.tables e below (s₁.setTop (mkF m 111 #[.val (.int p0)] [(.int p0)])) _
                    refine XS.sipush X0.here hx rfl (hb hby d2_111) ?_
                    show Steps p.tables e below (s₁.setTop (mkF m 114 #[.val (.int p0)] [(.int (8591 : Int32)), (.int p0)])) _
                    refine XS.icmpYes X0.here hx rfl (pc0 := 114) (pc' := 126) rfl (hb hby d2_114) rfl (flt (fun q => absurd ((own_gtI (by decide)).mp q) (by omega : ¬ (8591 < p0.toInt)) : ¬ ((8591 : Int32) < p0))).2.2.2 (by decide) (by decide) ?_
                    show Steps p.tables e below (s₁.setTop (mkF m 126 #[.val (.int p0)] [])) _
                    refine XS.iloadN X0.here hx rfl (hb hby d2_126) rfl ?_
                    show Steps p.tables e below (s₁.setTop (mkF m 127 #[.val (.int p0)] [(.int p0)])) _
                    refine XS.sipush X0.here hx rfl (hb hby d2_127) ?_
                    show Steps p.tables e below (s₁.setTop (mkF m 130 #[.val (.int p0)] [(.int (12271 : Int32)), (.int p0)])) _
                    refine XS.icmpYes X0.here hx rfl (pc0 := 130) (pc' := 142) rfl (hb hby d2_130) rfl (flt (fun q => absurd ((own_gtI (by decide)).mp q) (by omega : ¬ (12271 < p0.toInt)) : ¬ ((12271 : Int32) < p0))).2.2.2 (by decide) (by decide) ?_
                    show Steps p.tables e below (s₁.setTop (mkF m 142 #[.val (.int p0)] [])) _
                    refine XS.iloadN X0.here hx rfl (hb hby d2_142) rfl ?_
                    show Steps p.tables e below (s₁.setTop (mkF m 143 #[.val (.int p0)] [(.int p0)])) _
                    refine X0.ldcInt hx hown (mvT hZ (hw _ (List.mem_of_getElem? (i := 15) rfl))) (g := (mkF m 143 #[.val (.int p0)] [(.int p0)])) rfl (hb hby d2_143) _ ?_
                    show Steps p.tables e below (s₁.setTop (mkF m 145 #[.val (.int p0)] [(.int (55295 : Int32)), (.int p0)])) _
                    refine XS.icmpYes X0.here hx rfl (pc0 := 145) (pc' := 156) rfl (hb hby d2_145) rfl (flt (fun q => absurd ((own_gtI (by decide)).mp q) (by omega : ¬ (55295 < p0.toInt)) : ¬ ((55295 : Int32) < p0))).2.2.2 (by decide) (by decide) ?_
                    show Steps p.tables e below (s₁.setTop (mkF m 156 #[.val (.int p0)] [])) _
                    refine XS.iloadN X0.here hx rfl (hb hby d2_156) rfl ?_
                    show Steps p.tables e below (s₁.setTop (mkF m 157 #[.val (.int p0)] [(.int p0)])) _
                    refine X0.ldcInt hx hown (mvT hZ (hw _ (List.mem_of_getElem? (i := 16) rfl))) (g := (mkF m 157 #[.val (.int p0)] [(.int p0)])) rfl (hb hby d2_157) _ ?_
                    show Steps p.tables e below (s₁.setTop (mkF m 159 #[.val (.int p0)] [(.int (64975 : Int32)), (.int p0)])) _
                    refine XS.icmpYes X0.here hx rfl (pc0 := 159) (pc' := 170) rfl (hb hby d2_159) rfl (flt (fun q => absurd ((own_gtI (by decide)).mp q) (by omega : ¬ (64975 < p0.toInt)) : ¬ ((64975 : Int32) < p0))).2.2.2 (by decide) (by decide) ?_
                    show Steps p.tables e below (s₁.setTop (mkF m 170 #[.val (.int p0)] [])) _
                    refine XS.iloadN X0.here hx rfl (hb hby d2_170) rfl ?_
                    show Steps p.tables e below (s₁.setTop (mkF m 171 #[.val (.int p0)] [(.int p0)])) _
                    refine X0.ldcInt hx hown (mvT hZ (hw _ (List.mem_of_getElem? (i := 17) rfl))) (g := (mkF m 171 #[.val (.int p0)] [(.int p0)])) rfl (hb hby d2_171) _ ?_
                    show Steps p.tables e below (s₁.setTop (mkF m 173 #[.val (.int p0)] [(.int (65533 : Int32)), (.int p0)])) _
                    refine XS.icmpYes X0.here hx rfl (pc0 := 173) (pc' := 184) rfl (hb hby d2_173) rfl (flt (fun q => absurd ((own_gtI (by decide)).mp q) (by omega : ¬ (65533 < p0.toInt)) : ¬ ((65533 : Int32) < p0))).2.2.2 (by decide) (by decide) ?_
                    show Steps p.tables e below (s₁.setTop (mkF m 184 #[.val (.int p0)] [])) _
                    refine XS.iloadN X0.here hx rfl (hb hby d2_184) rfl ?_
                    show Steps p.tables e below (s₁.setTop (mkF m 185 #[.val (.int p0)] [(.int p0)])) _
                    refine X0.ldcInt hx hown (mvT hZ (hw _ (List.mem_of_getElem? (i := 18) rfl))) (g := (mkF m 185 #[.val (.int p0)] [(.int p0)])) rfl (hb hby d2_185) _ ?_
                    show Steps p.tables e below (s₁.setTop (mkF m 187 #[.val (.int p0)] [(.int (983039 : Int32)), (.int p0)])) _
                    refine XS.icmpYes X0.here hx rfl (pc0 := 187) (pc' := 194) rfl (hb hby d2_187) rfl (flt (fun q => absurd ((own_gtI (by decide)).mp q) (by omega : ¬ (983039 < p0.toInt)) : ¬ ((983039 : Int32) < p0))).2.2.2 (by decide) (by decide) ?_
                    show Steps p.tables e below (s₁.setTop (mkF m 194 #[.val (.int p0)] [])) _
                    refine XS.iconst X0.here hx rfl (hb hby d2_194) ?_
                    exact kt)
                  clear pre20
                  have hv : f2 p0 = (0 : Int32) := by
                    unfold f2
                    rw [if_neg hc3_2, if_pos hc11_5, if_neg hc17_7, if_pos hc25_10, if_neg hc32_12, if_neg hc41_15, if_neg hc48_18, if_neg hc57_21]
                  obtain ⟨fs, hr, hrun, hended, hW, hsame⟩ := X0.leave (v := some (.int (f2 p0))) (fun h => by rw [Bd.returns] at h; cases h)
                  refine ⟨_, _, pre74 _ ?_, hrun, hended, _, _, rfl, ?_, ⟨_, rfl⟩, hW, hsame.mono (by decide) (by decide)⟩
                  · rw [hv] at hr
                    show Steps p.tables e below (s₁.setTop (mkF m 195 #[.val (.int p0)] [(.int (0 : Int32))])) _
                    exact retN X0 hx (t := .boolean) Bd.returns (by simp) (hb hby d2_195) hr
                  · show Q2 Z p0 h0 n0 _ s₁.heap _
                    rw [e0]
                    exact ⟨rfl, N0, rfl⟩
        · have hc25_10z : ¬ (122 < p0.toInt) := fun q => hc25_10 ((own_gtI (by decide)).mpr q)
          have pre75 : ∀ t, Steps p.tables e below (s₁.setTop (mkF m 195 #[.val (.int p0)] [(.int (0 : Int32))])) t → Steps p.tables e below (s₁.setTop (entryFrame m #[(.int p0)] 1)) t := fun t kt => pre9 t (by
            show Steps p.tables e below (s₁.setTop (mkF m 25 #[.val (.int p0)] [(.int (122 : Int32)), (.int p0)])) _
            refine XS.icmpYes X0.here hx rfl (pc0 := 25) (pc' := 37) rfl (hb hby d2_25) rfl (flt hc25_10).2.2.2 (by decide) (by decide) ?_
            show Steps p.tables e below (s₁.setTop (mkF m 37 #[.val (.int p0)] [])) _
            refine XS.iloadN X0.here hx rfl (hb hby d2_37) rfl ?_
            show Steps p.tables e below (s₁.setTop (mkF m 38 #[.val (.int p0)] [(.int p0)])) _
            refine XS.sipush X0.here hx rfl (hb hby d2_38) ?_
            show Steps p.tables e below (s₁.setTop (mkF m 41 #[.val (.int p0)] [(.int (215 : Int32)), (.int p0)])) _
            refine XS.icmpNo X0.here hx rfl (hb hby d2_41) rfl (feq (fun q => absurd ((own_eqI (by decide)).mp q) (by omega : ¬ (p0.toInt = 215)) : ¬ (p0 = (215 : Int32)))).1 ?_
            show Steps p.tables e below (s₁.setTop (mkF m 44 #[.val (.int p0)] [])) _
            refine XS.iloadN X0.here hx rfl (hb hby d2_44) rfl ?_
            show Steps p.tables e below (s₁.setTop (mkF m 45 #[.val (.int p0)] [(.int p0)])) _
            refine XS.sipush X0.here hx rfl (hb hby d2_45) ?_
            show Steps p.tables e below (s₁.setTop (mkF m 48 #[.val (.int p0)] [(.int (247 : Int32)), (.int p0)])) _
            refine XS.icmpYes X0.here hx rfl (pc0 := 48) (pc' := 53) rfl (hb hby d2_48) rfl (feq (fun q => absurd ((own_eqI (by decide)).mp q) (by omega : ¬ (p0.toInt = 247)) : ¬ (p0 = (247 : Int32)))).2 (by decide) (by decide) ?_
            show Steps p.tables e below (s₁.setTop (mkF m 53 #[.val (.int p0)] [])) _
            refine XS.iloadN X0.here hx rfl (hb hby d2_53) rfl ?_
            show Steps p.tables e below (s₁.setTop (mkF m 54 #[.val (.int p0)] [(.int p0)])) _
            refine XS.sipush X0.here hx rfl (hb hby d2_54) ?_
            show Steps p.tables e below (s₁.setTop (mkF m 57 #[.val (.int p0)] [(.int (767 : Int32)), (.int p0)])) _
            refine XS.icmpYes X0.here hx rfl (pc0 := 57) (pc' := 69) rfl (hb hby d2_57) rfl (flt (fun q => absurd ((own_gtI (by decide)).mp q) (by omega : ¬ (767 < p0.toInt)) : ¬ ((767 : Int32) < p0))).2.2.2 (by decide) (by decide) ?_
            show Steps p.tables e below (s₁.setTop (mkF m 69 #[.val (.int p0)] [])) _
            refine XS.iloadN X0.here hx rfl (hb hby d2_69) rfl ?_
            show Steps p.tables e below (s₁.setTop (mkF m 70 #[.val (.int p0)] [(.int p0)])) _
            refine XS.sipush X0.here hx rfl (hb hby d2_70) ?_
            show Steps p.tables e below (s₁.setTop (mkF m 73 #[.val (.int p0)] [(.int (894 : Int32)), (.int p0)])) _
            refine XS.icmpYes X0.here hx rfl (pc0 := 73) (pc' := 78) rfl (hb hby d2_73) rfl (feq (fun q => absurd ((own_eqI (by decide)).mp q) (by omega : ¬ (p0.toInt = 894)) : ¬ (p0 = (894 : Int32)))).2 (by decide) (by decide) ?_
            show Steps p.tables e below (s₁.setTop (mkF m 78 #[.val (.int p0)] [])) _
            refine XS.iloadN X0.here hx rfl (hb hby d2_78) rfl ?_
            show Steps p.tables e below (s₁.setTop (mkF m 79 #[.val (.int p0)] [(.int p0)])) _
            refine XS.sipush X0.here hx rfl (hb hby d2_79) ?_
            show Steps p.tables e below (s₁.setTop (mkF m 82 #[.val (.int p0)] [(.int (8191 : Int32)), (.int p0)])) _
            refine XS.icmpYes X0.here hx rfl (pc0 := 82) (pc' := 94) rfl (hb hby d2_82) rfl (flt (fun q => absurd ((own_gtI (by decide)).mp q) (by omega : ¬ (8191 < p0.toInt)) : ¬ ((8191 : Int32) < p0))).2.2.2 (by decide) (by decide) ?_
            show Steps p.tables e below (s₁.setTop (mkF m 94 #[.val (.int p0)] [])) _
            refine XS.iloadN X0.here hx rfl (hb hby d2_94) rfl ?_
            show Steps p.tables e below (s₁.setTop (mkF m 95 #[.val (.int p0)] [(.int p0)])) _
            refine XS.sipush X0.here hx rfl (hb hby d2_95) ?_
            show Steps p.tables e below (s₁.setTop (mkF m 98 #[.val (.int p0)] [(.int (8205 : Int32)), (.int p0)])) _
            refine XS.icmpYes X0.here hx rfl (pc0 := 98) (pc' := 110) rfl (hb hby d2_98) rfl (flt (fun q => absurd ((own_gtI (by decide)).mp q) (by omega : ¬ (8205 < p0.toInt)) : ¬ ((8205 : Int32) < p0))).2.2.2 (by decide) (by decide) ?_
            show Steps p.tables e below (s₁.setTop (mkF m 110 #[.val (.int p0)] [])) _
            refine XS.iloadN X0.here hx rfl (hb hby d2_110) rfl ?_
            show Steps p.tables e below (s₁.setTop (mkF m 111 #[.val (.int p0)] [(.int p0)])) _
            refine XS.sipush X0.here hx rfl (hb hby d2_111) ?_
            show Steps p.tables e below (s₁.setTop (mkF m 114 #[.val (.int p0)] [(.int (8591 : Int32)), (.int p0)])) _
            refine XS.icmpYes X0.here hx rfl (pc0 := 114) (pc' := 126) rfl (hb hby d2_114) rfl (flt (fun q => absurd ((own_gtI (by decide)).mp q) (by omega : ¬ (8591 < p0.toInt)) : ¬ ((8591 : Int32) < p0))).2.2.2 (by decide) (by decide) ?_
            show Steps p.tables e below (s₁.setTop (mkF m 126 #[.val (.int p0)] [])) _
            refine XS.iloadN X0.here hx rfl (hb hby d2_126) rfl ?_
            show Steps p.tables e below (s₁.setTop (mkF m 127 #[.val (.int p0)] [(.int p0)])) _
            refine XS.sipush X0.here hx rfl (hb hby d2_127) ?_
            show Steps p.tables e below (s₁.setTop (mkF m 130 #[.val (.int p0)] [(.int (12271 : Int32)), (.int p0)])) _
            refine XS.icmpYes X0.here hx rfl (pc0 := 130) (pc' := 142) rfl (hb hby d2_130) rfl (flt (fun q => absurd ((own_gtI (by decide)).mp q) (by omega : ¬ (12271 < p0.toInt)) : ¬ ((12271 : Int32) < p0))).2.2.2 (by decide) (by decide) ?_
            show Steps p.tables e below (s₁.setTop (mkF m 142 #[.val (.int p0)] [])) _
            refine XS.iloadN X0.here hx rfl (hb hby d2_142) rfl ?_
            show Steps p.tables e below (s₁.setTop (mkF m 143 #[.val (.int p0)] [(.int p0)])) _
            refine X0.ldcInt hx hown (mvT hZ (hw _ (List.mem_of_getElem? (i := 15) rfl))) (g := (mkF m 143 #[.val (.int p0)] [(.int p0)])) rfl (hb hby d2_143) _ ?_
            show Steps p.tables e below (s₁.setTop (mkF m 145 #[.val (.int p0)] [(.int (55295 : Int32)), (.int p0)])) _
            refine XS.icmpYes X0.here hx rfl (pc0 := 145) (pc' := 156) rfl (hb hby d2_145) rfl (flt (fun q => absurd ((own_gtI (by decide)).mp q) (by omega : ¬ (55295 < p0.toInt)) : ¬ ((55295 : Int32) < p0))).2.2.2 (by decide) (by decide) ?_
            show Steps p.tables e below (s₁.setTop (mkF m 156 #[.val (.int p0)] [])) _
            refine XS.iloadN X0.here hx rfl (hb hby d2_156) rfl ?_
            show Steps p.tables e below (s₁.setTop (mkF m 157 #[.val (.int p0)] [(.int p0)])) _
            refine X0.ldcInt hx hown (mvT hZ (hw _ (List.mem_of_getElem? (i := 16) rfl))) (g := (mkF m 157 #[.val (.int p0)] [(.int p0)])) rfl (hb hby d2_157) _ ?_
            show Steps p.tables e below (s₁.setTop (mkF m 159 #[.val (.int p0)] [(.int (64975 : Int32)), (.int p0)])) _
            refine XS.icmpYes X0.here hx rfl (pc0 := 159) (pc' := 170) rfl (hb hby d2_159) rfl (flt (fun q => absurd ((own_gtI (by decide)).mp q) (by omega : ¬ (64975 < p0.toInt)) : ¬ ((64975 : Int32) < p0))).2.2.2 (by decide) (by decide) ?_
            show Steps p.tables e below (s₁.setTop (mkF m 170 #[.val (.int p0)] [])) _
            refine XS.iloadN X0.here hx rfl (hb hby d2_170) rfl ?_
            show Steps p.tables e below (s₁.setTop (mkF m 171 #[.val (.int p0)] [(.int p0)])) _
            refine X0.ldcInt hx hown (mvT hZ (hw _ (List.mem_of_getElem? (i := 17) rfl))) (g := (mkF m 171 #[.val (.int p0)] [(.int p0)])) rfl (hb hby d2_171) _ ?_
            show Steps p.tables e below (s₁.setTop (mkF m 173 #[.val (.int p0)] [(.int (65533 : Int32)), (.int p0)])) _
            refine XS.icmpYes X0.here hx rfl (pc0 := 173) (pc' := 184) rfl (hb hby d2_173) rfl (flt (fun q => absurd ((own_gtI (by decide)).mp q) (by omega : ¬ (65533 < p0.toInt)) : ¬ ((65533 : Int32) < p0))).2.2.2 (by decide) (by decide) ?_
            show Steps p.tables e below (s₁.setTop (mkF m 184 #[.val (.int p0)] [])) _
            refine XS.iloadN X0.here hx rfl (hb hby d2_184) rfl ?_
            show Steps p.tables e below (s₁.setTop (mkF m 185 #[.val (.int p0)] [(.int p0)])) _
            refine X0.ldcInt hx hown (mvT hZ (hw _ (List.mem_of_getElem? (i := 18) rfl))) (g := (mkF m 185 #[.val (.int p0)] [(.int p0)])) rfl (hb hby d2_185) _ ?_
            show Steps p.tables e below (s₁.setTop (mkF m 187 #[.val (.int p0)] [(.int (983039 : Int32)), (.int p0)])) _
            refine XS.icmpYes X0.here hx rfl (pc0 := 187) (pc' := 194) rfl (hb hby d2_187) rfl (flt (fun q => absurd ((own_gtI (by decide)).mp q) (by omega : ¬ (983039 < p0.toInt)) : ¬ ((983039 : Int32) < p0))).2.2.2 (by decide) (by decide) ?_
            show Steps p.tables e below (s₁.setTop (mkF m 194 #[.val (.int p0)] [])) _
            refine XS.iconst X0.here hx rfl (hb hby d2_194) ?_
            exact kt)
          clear pre9
          have hv : f2 p0 = (0 : Int32) := by
            unfold f2
            rw [if_neg hc3_2, if_pos hc11_5, if_neg hc17_7, if_neg hc25_10]
          obtain ⟨fs, hr, hrun, hended, hW, hsame⟩ := X0.leave (v := some (.int (f2 p0))) (fun h => by rw [Bd.returns] at h; cases h)
          refine ⟨_, _, pre75 _ ?_, hrun, hended, _, _, rfl, ?_, ⟨_, rfl⟩, hW, hsame.mono (by decide) (by decide)⟩
          · rw [hv] at hr
            show Steps p.tables e below (s₁.setTop (mkF m 195 #[.val (.int p0)] [(.int (0 : Int32))])) _
            exact retN X0 hx (t := .boolean) Bd.returns (by simp) (hb hby d2_195) hr
          · show Q2 Z p0 h0 n0 _ s₁.heap _
            rw [e0]
            exact ⟨rfl, N0, rfl⟩
    · have hc11_5z : ¬ (90 < p0.toInt) := fun q => hc11_5 ((own_gtI (by decide)).mpr q)
      have pre76 : ∀ t, Steps p.tables e below (s₁.setTop (mkF m 195 #[.val (.int p0)] [(.int (0 : Int32))])) t → Steps p.tables e below (s₁.setTop (entryFrame m #[(.int p0)] 1)) t := fun t kt => pre4 t (by
        show Steps p.tables e below (s₁.setTop (mkF m 11 #[.val (.int p0)] [(.int (90 : Int32)), (.int p0)])) _
        refine XS.icmpYes X0.here hx rfl (pc0 := 11) (pc' := 22) rfl (hb hby d2_11) rfl (flt hc11_5).2.2.2 (by decide) (by decide) ?_
        show Steps p.tables e below (s₁.setTop (mkF m 22 #[.val (.int p0)] [])) _
        refine XS.iloadN X0.here hx rfl (hb hby d2_22) rfl ?_
        show Steps p.tables e below (s₁.setTop (mkF m 23 #[.val (.int p0)] [(.int p0)])) _
        refine XS.bipush X0.here hx rfl (hb hby d2_23) ?_
        show Steps p.tables e below (s₁.setTop (mkF m 25 #[.val (.int p0)] [(.int (122 : Int32)), (.int p0)])) _
        refine XS.icmpYes X0.here hx rfl (pc0 := 25) (pc' := 37) rfl (hb hby d2_25) rfl (flt (fun q => absurd ((own_gtI (by decide)).mp q) (by omega : ¬ (122 < p0.toInt)) : ¬ ((122 : Int32) < p0))).2.2.2 (by decide) (by decide) ?_
        show Steps p.tables e below (s₁.setTop (mkF m 37 #[.val (.int p0)] [])) _
        refine XS.iloadN X0.here hx rfl (hb hby d2_37) rfl ?_
        show Steps p.tables e below (s₁.setTop (mkF m 38 #[.val (.int p0)] [(.int p0)])) _
        refine XS.sipush X0.here hx rfl (hb hby d2_38) ?_
        show Steps p.tables e below (s₁.setTop (mkF m 41 #[.val (.int p0)] [(.int (215 : Int32)), (.int p0)])) _
        refine XS.icmpNo X0.here hx rfl (hb hby d2_41) rfl (feq (fun q => absurd ((own_eqI (by decide)).mp q) (by omega : ¬ (p0.toInt = 215)) : ¬ (p0 = (215 : Int32)))).1 ?_
        show Steps p.tables e below (s₁.setTop (mkF m 44 #[.val (.int p0)] [])) _
        refine XS.iloadN X0.here hx rfl (hb hby d2_44) rfl ?_
        show Steps p.tables e below (s₁.setTop (mkF m 45 #[.val (.int p0)] [(.int p0)])) _
        refine XS.sipush X0.here hx rfl (hb hby d2_45) ?_
        show Steps p.tables e below (s₁.setTop (mkF m 48 #[.val (.int p0)] [(.int (247 : Int32)), (.int p0)])) _
        refine XS.icmpYes X0.here hx rfl (pc0 := 48) (pc' := 53) rfl (hb hby d2_48) rfl (feq (fun q => absurd ((own_eqI (by decide)).mp q) (by omega : ¬ (p0.toInt = 247)) : ¬ (p0 = (247 : Int32)))).2 (by decide) (by decide) ?_
        show Steps p.tables e below (s₁.setTop (mkF m 53 #[.val (.int p0)] [])) _
        refine XS.iloadN X0.here hx rfl (hb hby d2_53) rfl ?_
        show Steps p.tables e below (s₁.setTop (mkF m 54 #[.val (.int p0)] [(.int p0)])) _
        refine XS.sipush X0.here hx rfl (hb hby d2_54) ?_
        show Steps p.tables e below (s₁.setTop (mkF m 57 #[.val (.int p0)] [(.int (767 : Int32)), (.int p0)])) _
        refine XS.icmpYes X0.here hx rfl (pc0 := 57) (pc' := 69) rfl (hb hby d2_57) rfl (flt (fun q => absurd ((own_gtI (by decide)).mp q) (by omega : ¬ (767 < p0.toInt)) : ¬ ((767 : Int32) < p0))).2.2.2 (by decide) (by decide) ?_
        show Steps p.tables e below (s₁.setTop (mkF m 69 #[.val (.int p0)] [])) _
        refine XS.iloadN X0.here hx rfl (hb hby d2_69) rfl ?_
        show Steps p.tables e below (s₁.setTop (mkF m 70 #[.val (.int p0)] [(.int p0)])) _
        refine XS.sipush X0.here hx rfl (hb hby d2_70) ?_
        show Steps p.tables e below (s₁.setTop (mkF m 73 #[.val (.int p0)] [(.int (894 : Int32)), (.int p0)])) _
        refine XS.icmpYes X0.here hx rfl (pc0 := 73) (pc' := 78) rfl (hb hby d2_73) rfl (feq (fun q => absurd ((own_eqI (by decide)).mp q) (by omega : ¬ (p0.toInt = 894)) : ¬ (p0 = (894 : Int32)))).2 (by decide) (by decide) ?_
        show Steps p.tables e below (s₁.setTop (mkF m 78 #[.val (.int p0)] [])) _
        refine XS.iloadN X0.here hx rfl (hb hby d2_78) rfl ?_
        show Steps p.tables e below (s₁.setTop (mkF m 79 #[.val (.int p0)] [(.int p0)])) _
        refine XS.sipush X0.here hx rfl (hb hby d2_79) ?_
        show Steps p.tables e below (s₁.setTop (mkF m 82 #[.val (.int p0)] [(.int (8191 : Int32)), (.int p0)])) _
        refine XS.icmpYes X0.here hx rfl (pc0 := 82) (pc' := 94) rfl (hb hby d2_82) rfl (flt (fun q => absurd ((own_gtI (by decide)).mp q) (by omega : ¬ (8191 < p0.toInt)) : ¬ ((8191 : Int32) < p0))).2.2.2 (by decide) (by decide) ?_
        show Steps p.tables e below (s₁.setTop (mkF m 94 #[.val (.int p0)] [])) _
        refine XS.iloadN X0.here hx rfl (hb hby d2_94) rfl ?_
        show Steps p.tables e below (s₁.setTop (mkF m 95 #[.val (.int p0)] [(.int p0)])) _
        refine XS.sipush X0.here hx rfl (hb hby d2_95) ?_
        show Steps p.tables e below (s₁.setTop (mkF m 98 #[.val (.int p0)] [(.int (8205 : Int32)), (.int p0)])) _
        refine XS.icmpYes X0.here hx rfl (pc0 := 98) (pc' := 110) rfl (hb hby d2_98) rfl (flt (fun q => absurd ((own_gtI (by decide)).mp q) (by omega : ¬ (8205 < p0.toInt)) : ¬ ((8205 : Int32) < p0))).2.2.2 (by decide) (by decide) ?_
        show Steps p.tables e below (s₁.setTop (mkF m 110 #[.val (.int p0)] [])) _
        refine XS.iloadN X0.here hx rfl (hb hby d2_110) rfl ?_
        show Steps p.tables e below (s₁.setTop (mkF m 111 #[.val (.int p0)] [(.int p0)])) _
        refine XS.sipush X0.here hx rfl (hb hby d2_111) ?_
        show Steps p.tables e below (s₁.setTop (mkF m 114 #[.val (.int p0)] [(.int (8591 : Int32)), (.int p0)])) _
        refine XS.icmpYes X0.here hx rfl (pc0 := 114) (pc' := 126) rfl (hb hby d2_114) rfl (flt (fun q => absurd ((own_gtI (by decide)).mp q) (by omega : ¬ (8591 < p0.toInt)) : ¬ ((8591 : Int32) < p0))).2.2.2 (by decide) (by decide) ?_
        show Steps p.tables e below (s₁.setTop (mkF m 126 #[.val (.int p0)] [])) _
        refine XS.iloadN X0.here hx rfl (hb hby d2_126) rfl ?_
        show Steps p.tables e below (s₁.setTop (mkF m 127 #[.val (.int p0)] [(.int p0)])) _
        refine XS.sipush X0.here hx rfl (hb hby d2_127) ?_
        show Steps p.tables e below (s₁.setTop (mkF m 130 #[.val (.int p0)] [(.int (12271 : Int32)), (.int p0)])) _
        refine XS.icmpYes X0.here hx rfl (pc0 := 130) (pc' := 142) rfl (hb hby d2_130) rfl (flt (fun q => absurd ((own_gtI (by decide)).mp q) (by omega : ¬ (12271 < p0.toInt)) : ¬ ((12271 : Int32) < p0))).2.2.2 (by decide) (by decide) ?_
        show Steps p.tables e below (s₁.setTop (mkF m 142 #[.val (.int p0)] [])) _
        refine XS.iloadN X0.here hx rfl (hb hby d2_142) rfl ?_
        show Steps p.tables e below (s₁.setTop (mkF m 143 #[.val (.int p0)] [(.int p0)])) _
        refine X0.ldcInt hx hown (mvT hZ (hw _ (List.mem_of_getElem? (i := 15) rfl))) (g := (mkF m 143 #[.val (.int p0)] [(.int p0)])) rfl (hb hby d2_143) _ ?_
        show Steps p.tables e below (s₁.setTop (mkF m 145 #[.val (.int p0)] [(.int (55295 : Int32)), (.int p0)])) _
        refine XS.icmpYes X0.here hx rfl (pc0 := 145) (pc' := 156) rfl (hb hby d2_145) rfl (flt (fun q => absurd ((own_gtI (by decide)).mp q) (by omega : ¬ (55295 < p0.toInt)) : ¬ ((55295 : Int32) < p0))).2.2.2 (by decide) (by decide) ?_
        show Steps p.tables e below (s₁.setTop (mkF m 156 #[.val (.int p0)] [])) _
        refine XS.iloadN X0.here hx rfl (hb hby d2_156) rfl ?_
        show Steps p.tables e below (s₁.setTop (mkF m 157 #[.val (.int p0)] [(.int p0)])) _
        refine X0.ldcInt hx hown (mvT hZ (hw _ (List.mem_of_getElem? (i := 16) rfl))) (g := (mkF m 157 #[.val (.int p0)] [(.int p0)])) rfl (hb hby d2_157) _ ?_
        show Steps p.tables e below (s₁.setTop (mkF m 159 #[.val (.int p0)] [(.int (64975 : Int32)), (.int p0)])) _
        refine XS.icmpYes X0.here hx rfl (pc0 := 159) (pc' := 170) rfl (hb hby d2_159) rfl (flt (fun q => absurd ((own_gtI (by decide)).mp q) (by omega : ¬ (64975 < p0.toInt)) : ¬ ((64975 : Int32) < p0))).2.2.2 (by decide) (by decide) ?_
        show Steps p.tables e below (s₁.setTop (mkF m 170 #[.val (.int p0)] [])) _
        refine XS.iloadN X0.here hx rfl (hb hby d2_170) rfl ?_
        show Steps p.tables e below (s₁.setTop (mkF m 171 #[.val (.int p0)] [(.int p0)])) _
        refine X0.ldcInt hx hown (mvT hZ (hw _ (List.mem_of_getElem? (i := 17) rfl))) (g := (mkF m 171 #[.val (.int p0)] [(.int p0)])) rfl (hb hby d2_171) _ ?_
        show Steps p.tables e below (s₁.setTop (mkF m 173 #[.val (.int p0)] [(.int (65533 : Int32)), (.int p0)])) _
        refine XS.icmpYes X0.here hx rfl (pc0 := 173) (pc' := 184) rfl (hb hby d2_173) rfl (flt (fun q => absurd ((own_gtI (by decide)).mp q) (by omega : ¬ (65533 < p0.toInt)) : ¬ ((65533 : Int32) < p0))).2.2.2 (by decide) (by decide) ?_
        show Steps p.tables e below (s₁.setTop (mkF m 184 #[.val (.int p0)] [])) _
        refine XS.iloadN X0.here hx rfl (hb hby d2_184) rfl ?_
        show Steps p.tables e below (s₁.setTop (mkF m 185 #[.val (.int p0)] [(.int p0)])) _
        refine X0.ldcInt hx hown (mvT hZ (hw _ (List.mem_of_getElem? (i := 18) rfl))) (g := (mkF m 185 #[.val (.int p0)] [(.int p0)])) rfl (hb hby d2_185) _ ?_
        show Steps p.tables e below (s₁.setTop (mkF m 187 #[.val (.int p0)] [(.int (983039 : Int32)), (.int p0)])) _
        refine XS.icmpYes X0.here hx rfl (pc0 := 187) (pc' := 194) rfl (hb hby d2_187) rfl (flt (fun q => absurd ((own_gtI (by decide)).mp q) (by omega : ¬ (983039 < p0.toInt)) : ¬ ((983039 : Int32) < p0))).2.2.2 (by decide) (by decide) ?_
        show Steps p.tables e below (s₁.setTop (mkF m 194 #[.val (.int p0)] [])) _
        refine XS.iconst X0.here hx rfl (hb hby d2_194) ?_
        exact kt)
      clear pre4
      have hv : f2 p0 = (0 : Int32) := by
        unfold f2
        rw [if_neg hc3_2, if_neg hc11_5]
      obtain ⟨fs, hr, hrun, hended, hW, hsame⟩ := X0.leave (v := some (.int (f2 p0))) (fun h => by rw [Bd.returns] at h; cases h)
      refine ⟨_, _, pre76 _ ?_, hrun, hended, _, _, rfl, ?_, ⟨_, rfl⟩, hW, hsame.mono (by decide) (by decide)⟩
      · rw [hv] at hr
        show Steps p.tables e below (s₁.setTop (mkF m 195 #[.val (.int p0)] [(.int (0 : Int32))])) _
        exact retN X0 hx (t := .boolean) Bd.returns (by simp) (hb hby d2_195) hr
      · show Q2 Z p0 h0 n0 _ s₁.heap _
        rw [e0]
        exact ⟨rfl, N0, rfl⟩
set_option maxHeartbeats 40000000 in
theorem own_f1T (c : Int32) (h : (65 ≤ c.toInt ∧ c.toInt ≤ 90) ∨ (97 ≤ c.toInt ∧ c.toInt ≤ 122) ∨ (192 ≤ c.toInt ∧ c.toInt ≤ 214) ∨ (216 ≤ c.toInt ∧ c.toInt ≤ 246) ∨ (248 ≤ c.toInt ∧ c.toInt ≤ 767) ∨ (880 ≤ c.toInt ∧ c.toInt ≤ 893) ∨ (895 ≤ c.toInt ∧ c.toInt ≤ 8191) ∨ (8204 ≤ c.toInt ∧ c.toInt ≤ 8205) ∨ (8304 ≤ c.toInt ∧ c.toInt ≤ 8591) ∨ (11264 ≤ c.toInt ∧ c.toInt ≤ 12271) ∨ (12289 ≤ c.toInt ∧ c.toInt ≤ 55295) ∨ (63744 ≤ c.toInt ∧ c.toInt ≤ 64975) ∨ (65008 ≤ c.toInt ∧ c.toInt ≤ 65533) ∨ (65536 ≤ c.toInt ∧ c.toInt ≤ 983039)) : f1 c = (1 : Int32) := by
  unfold f1
  by_cases h1 : c < (65 : Int32)
  · have z1 : c.toInt < 65 := (own_ltI (by decide)).mp h1
    refine (if_pos h1).trans ?_
    exfalso
    rcases h with ⟨h1, h2⟩ | ⟨h1, h2⟩ | ⟨h1, h2⟩ | ⟨h1, h2⟩ | ⟨h1, h2⟩ | ⟨h1, h2⟩ | ⟨h1, h2⟩ | ⟨h1, h2⟩ | ⟨h1, h2⟩ | ⟨h1, h2⟩ | ⟨h1, h2⟩ | ⟨h1, h2⟩ | ⟨h1, h2⟩ | ⟨h1, h2⟩ <;> omega
  · have z1 : ¬ (c.toInt < 65) := fun q => h1 ((own_ltI (by decide)).mpr q)
    refine (if_neg h1).trans ?_
    by_cases h2 : (90 : Int32) < c
    · have z2 : 90 < c.toInt := (own_gtI (by decide)).mp h2
      refine (if_pos h2).trans ?_
      by_cases h3 : c < (97 : Int32)
      · have z3 : c.toInt < 97 := (own_ltI (by decide)).mp h3
        refine (if_pos h3).trans ?_
        exfalso
        rcases h with ⟨h1, h2⟩ | ⟨h1, h2⟩ | ⟨h1, h2⟩ | ⟨h1, h2⟩ | ⟨h1, h2⟩ | ⟨h1, h2⟩ | ⟨h1, h2⟩ | ⟨h1, h2⟩ | ⟨h1, h2⟩ | ⟨h1, h2⟩ | ⟨h1, h2⟩ | ⟨h1, h2⟩ | ⟨h1, h2⟩ | ⟨h1, h2⟩ <;> omega
      · have z3 : ¬ (c.toInt < 97) := fun q => h3 ((own_ltI (by decide)).mpr q)
        refine (if_neg h3).trans ?_
        by_cases h4 : (122 : Int32) < c
        · have z4 : 122 < c.toInt := (own_gtI (by decide)).mp h4
          refine (if_pos h4).trans ?_
          by_cases h5 : c < (192 : Int32)
          · have z5 : c.toInt < 192 := (own_ltI (by decide)).mp h5
            refine (if_pos h5).trans ?_
            exfalso
            rcases h with ⟨h1, h2⟩ | ⟨h1, h2⟩ | ⟨h1, h2⟩ | ⟨h1, h2⟩ | ⟨h1, h2⟩ | ⟨h1, h2⟩ | ⟨h1, h2⟩ | ⟨h1, h2⟩ | ⟨h1, h2⟩ | ⟨h1, h2⟩ | ⟨h1, h2⟩ | ⟨h1, h2⟩ | ⟨h1, h2⟩ | ⟨h1, h2⟩ <;> omega
          · have z5 : ¬ (c.toInt < 192) := fun q => h5 ((own_ltI (by decide)).mpr q)
            refine (if_neg h5).trans ?_
            by_cases h6 : (214 : Int32) < c
            · have z6 : 214 < c.toInt := (own_gtI (by decide)).mp h6
              refine (if_pos h6).trans ?_
              by_cases h7 : c < (216 : Int32)
              · have z7 : c.toInt < 216 := (own_ltI (by decide)).mp h7
                refine (if_pos h7).trans ?_
                exfalso
                rcases h with ⟨h1, h2⟩ | ⟨h1, h2⟩ | ⟨h1, h2⟩ | ⟨h1, h2⟩ | ⟨h1, h2⟩ | ⟨h1, h2⟩ | ⟨h1, h2⟩ | ⟨h1, h2⟩ | ⟨h1, h2⟩ | ⟨h1, h2⟩ | ⟨h1, h2⟩ | ⟨h1, h2⟩ | ⟨h1, h2⟩ | ⟨h1, h2⟩ <;> omega
              · have z7 : ¬ (c.toInt < 216) := fun q => h7 ((own_ltI (by decide)).mpr q)
                refine (if_neg h7).trans ?_
                by_cases h8 : (246 : Int32) < c
                · have z8 : 246 < c.toInt := (own_gtI (by decide)).mp h8
                  refine (if_pos h8).trans ?_
                  by_cases h9 : c < (248 : Int32)
                  · have z9 : c.toInt < 248 := (own_ltI (by decide)).mp h9
                    refine (if_pos h9).trans ?_
                    exfalso
                    rcases h with ⟨h1, h2⟩ | ⟨h1, h2⟩ | ⟨h1, h2⟩ | ⟨h1, h2⟩ | ⟨h1, h2⟩ | ⟨h1, h2⟩ | ⟨h1, h2⟩ | ⟨h1, h2⟩ | ⟨h1, h2⟩ | ⟨h1, h2⟩ | ⟨h1, h2⟩ | ⟨h1, h2⟩ | ⟨h1, h2⟩ | ⟨h1, h2⟩ <;> omega
                  · have z9 : ¬ (c.toInt < 248) := fun q => h9 ((own_ltI (by decide)).mpr q)
                    refine (if_neg h9).trans ?_
                    by_cases h10 : (767 : Int32) < c
                    · have z10 : 767 < c.toInt := (own_gtI (by decide)).mp h10
                      refine (if_pos h10).trans ?_
                      by_cases h11 : c < (880 : Int32)
                      · have z11 : c.toInt < 880 := (own_ltI (by decide)).mp h11
                        refine (if_pos h11).trans ?_
                        exfalso
                        rcases h with ⟨h1, h2⟩ | ⟨h1, h2⟩ | ⟨h1, h2⟩ | ⟨h1, h2⟩ | ⟨h1, h2⟩ | ⟨h1, h2⟩ | ⟨h1, h2⟩ | ⟨h1, h2⟩ | ⟨h1, h2⟩ | ⟨h1, h2⟩ | ⟨h1, h2⟩ | ⟨h1, h2⟩ | ⟨h1, h2⟩ | ⟨h1, h2⟩ <;> omega
                      · have z11 : ¬ (c.toInt < 880) := fun q => h11 ((own_ltI (by decide)).mpr q)
                        refine (if_neg h11).trans ?_
                        by_cases h12 : (893 : Int32) < c
                        · have z12 : 893 < c.toInt := (own_gtI (by decide)).mp h12
                          refine (if_pos h12).trans ?_
                          by_cases h13 : c < (895 : Int32)
                          · have z13 : c.toInt < 895 := (own_ltI (by decide)).mp h13
                            refine (if_pos h13).trans ?_
                            exfalso
                            rcases h with ⟨h1, h2⟩ | ⟨h1, h2⟩ | ⟨h1, h2⟩ | ⟨h1, h2⟩ | ⟨h1, h2⟩ | ⟨h1, h2⟩ | ⟨h1, h2⟩ | ⟨h1, h2⟩ | ⟨h1, h2⟩ | ⟨h1, h2⟩ | ⟨h1, h2⟩ | ⟨h1, h2⟩ | ⟨h1, h2⟩ | ⟨h1, h2⟩ <;> omega
                          · have z13 : ¬ (c.toInt < 895) := fun q => h13 ((own_ltI (by decide)).mpr q)
                            refine (if_neg h13).trans ?_
                            by_cases h14 : (8191 : Int32) < c
                            · have z14 : 8191 < c.toInt := (own_gtI (by decide)).mp h14
                              refine (if_pos h14).trans ?_
                              by_cases h15 : c < (8204 : Int32)
                              · have z15 : c.toInt < 8204 := (own_ltI (by decide)).mp h15
                                refine (if_pos h15).trans ?_
                                exfalso
                                rcases h with ⟨h1, h2⟩ | ⟨h1, h2⟩ | ⟨h1, h2⟩ | ⟨h1, h2⟩ | ⟨h1, h2⟩ | ⟨h1, h2⟩ | ⟨h1, h2⟩ | ⟨h1, h2⟩ | ⟨h1, h2⟩ | ⟨h1, h2⟩ | ⟨h1, h2⟩ | ⟨h1, h2⟩ | ⟨h1, h2⟩ | ⟨h1, h2⟩ <;> omega
                              · have z15 : ¬ (c.toInt < 8204) := fun q => h15 ((own_ltI (by decide)).mpr q)
                                refine (if_neg h15).trans ?_
                                by_cases h16 : (8205 : Int32) < c
                                · have z16 : 8205 < c.toInt := (own_gtI (by decide)).mp h16
                                  refine (if_pos h16).trans ?_
                                  by_cases h17 : c < (8304 : Int32)
                                  · have z17 : c.toInt < 8304 := (own_ltI (by decide)).mp h17
                                    refine (if_pos h17).trans ?_
                                    exfalso
                                    rcases h with ⟨h1, h2⟩ | ⟨h1, h2⟩ | ⟨h1, h2⟩ | ⟨h1, h2⟩ | ⟨h1, h2⟩ | ⟨h1, h2⟩ | ⟨h1, h2⟩ | ⟨h1, h2⟩ | ⟨h1, h2⟩ | ⟨h1, h2⟩ | ⟨h1, h2⟩ | ⟨h1, h2⟩ | ⟨h1, h2⟩ | ⟨h1, h2⟩ <;> omega
                                  · have z17 : ¬ (c.toInt < 8304) := fun q => h17 ((own_ltI (by decide)).mpr q)
                                    refine (if_neg h17).trans ?_
                                    by_cases h18 : (8591 : Int32) < c
                                    · have z18 : 8591 < c.toInt := (own_gtI (by decide)).mp h18
                                      refine (if_pos h18).trans ?_
                                      by_cases h19 : c < (11264 : Int32)
                                      · have z19 : c.toInt < 11264 := (own_ltI (by decide)).mp h19
                                        refine (if_pos h19).trans ?_
                                        exfalso
                                        rcases h with ⟨h1, h2⟩ | ⟨h1, h2⟩ | ⟨h1, h2⟩ | ⟨h1, h2⟩ | ⟨h1, h2⟩ | ⟨h1, h2⟩ | ⟨h1, h2⟩ | ⟨h1, h2⟩ | ⟨h1, h2⟩ | ⟨h1, h2⟩ | ⟨h1, h2⟩ | ⟨h1, h2⟩ | ⟨h1, h2⟩ | ⟨h1, h2⟩ <;> omega
                                      · have z19 : ¬ (c.toInt < 11264) := fun q => h19 ((own_ltI (by decide)).mpr q)
                                        refine (if_neg h19).trans ?_
                                        by_cases h20 : (12271 : Int32) < c
                                        · have z20 : 12271 < c.toInt := (own_gtI (by decide)).mp h20
                                          refine (if_pos h20).trans ?_
                                          by_cases h21 : c < (12289 : Int32)
                                          · have z21 : c.toInt < 12289 := (own_ltI (by decide)).mp h21
                                            refine (if_pos h21).trans ?_
                                            exfalso
                                            rcases h with ⟨h1, h2⟩ | ⟨h1, h2⟩ | ⟨h1, h2⟩ | ⟨h1, h2⟩ | ⟨h1, h2⟩ | ⟨h1, h2⟩ | ⟨h1, h2⟩ | ⟨h1, h2⟩ | ⟨h1, h2⟩ | ⟨h1, h2⟩ | ⟨h1, h2⟩ | ⟨h1, h2⟩ | ⟨h1, h2⟩ | ⟨h1, h2⟩ <;> omega
                                          · have z21 : ¬ (c.toInt < 12289) := fun q => h21 ((own_ltI (by decide)).mpr q)
                                            refine (if_neg h21).trans ?_
                                            by_cases h22 : (55295 : Int32) < c
                                            · have z22 : 55295 < c.toInt := (own_gtI (by decide)).mp h22
                                              refine (if_pos h22).trans ?_
                                              by_cases h23 : c < (63744 : Int32)
                                              · have z23 : c.toInt < 63744 := (own_ltI (by decide)).mp h23
                                                refine (if_pos h23).trans ?_
                                                exfalso
                                                rcases h with ⟨h1, h2⟩ | ⟨h1, h2⟩ | ⟨h1, h2⟩ | ⟨h1, h2⟩ | ⟨h1, h2⟩ | ⟨h1, h2⟩ | ⟨h1, h2⟩ | ⟨h1, h2⟩ | ⟨h1, h2⟩ | ⟨h1, h2⟩ | ⟨h1, h2⟩ | ⟨h1, h2⟩ | ⟨h1, h2⟩ | ⟨h1, h2⟩ <;> omega
                                              · have z23 : ¬ (c.toInt < 63744) := fun q => h23 ((own_ltI (by decide)).mpr q)
                                                refine (if_neg h23).trans ?_
                                                by_cases h24 : (64975 : Int32) < c
                                                · have z24 : 64975 < c.toInt := (own_gtI (by decide)).mp h24
                                                  refine (if_pos h24).trans ?_
                                                  by_cases h25 : c < (65008 : Int32)
                                                  · have z25 : c.toInt < 65008 := (own_ltI (by decide)).mp h25
                                                    refine (if_pos h25).trans ?_
                                                    exfalso
                                                    rcases h with ⟨h1, h2⟩ | ⟨h1, h2⟩ | ⟨h1, h2⟩ | ⟨h1, h2⟩ | ⟨h1, h2⟩ | ⟨h1, h2⟩ | ⟨h1, h2⟩ | ⟨h1, h2⟩ | ⟨h1, h2⟩ | ⟨h1, h2⟩ | ⟨h1, h2⟩ | ⟨h1, h2⟩ | ⟨h1, h2⟩ | ⟨h1, h2⟩ <;> omega
                                                  · have z25 : ¬ (c.toInt < 65008) := fun q => h25 ((own_ltI (by decide)).mpr q)
                                                    refine (if_neg h25).trans ?_
                                                    by_cases h26 : (65533 : Int32) < c
                                                    · have z26 : 65533 < c.toInt := (own_gtI (by decide)).mp h26
                                                      refine (if_pos h26).trans ?_
                                                      by_cases h27 : c < (65536 : Int32)
                                                      · have z27 : c.toInt < 65536 := (own_ltI (by decide)).mp h27
                                                        refine (if_pos h27).trans ?_
                                                        exfalso
                                                        rcases h with ⟨h1, h2⟩ | ⟨h1, h2⟩ | ⟨h1, h2⟩ | ⟨h1, h2⟩ | ⟨h1, h2⟩ | ⟨h1, h2⟩ | ⟨h1, h2⟩ | ⟨h1, h2⟩ | ⟨h1, h2⟩ | ⟨h1, h2⟩ | ⟨h1, h2⟩ | ⟨h1, h2⟩ | ⟨h1, h2⟩ | ⟨h1, h2⟩ <;> omega
                                                      · have z27 : ¬ (c.toInt < 65536) := fun q => h27 ((own_ltI (by decide)).mpr q)
                                                        refine (if_neg h27).trans ?_
                                                        by_cases h28 : (983039 : Int32) < c
                                                        · have z28 : 983039 < c.toInt := (own_gtI (by decide)).mp h28
                                                          refine (if_pos h28).trans ?_
                                                          exfalso
                                                          rcases h with ⟨h1, h2⟩ | ⟨h1, h2⟩ | ⟨h1, h2⟩ | ⟨h1, h2⟩ | ⟨h1, h2⟩ | ⟨h1, h2⟩ | ⟨h1, h2⟩ | ⟨h1, h2⟩ | ⟨h1, h2⟩ | ⟨h1, h2⟩ | ⟨h1, h2⟩ | ⟨h1, h2⟩ | ⟨h1, h2⟩ | ⟨h1, h2⟩ <;> omega
                                                        · have z28 : ¬ (983039 < c.toInt) := fun q => h28 ((own_gtI (by decide)).mpr q)
                                                          refine (if_neg h28).trans ?_
                                                          rfl
                                                    · have z26 : ¬ (65533 < c.toInt) := fun q => h26 ((own_gtI (by decide)).mpr q)
                                                      refine (if_neg h26).trans ?_
                                                      rfl
                                                · have z24 : ¬ (64975 < c.toInt) := fun q => h24 ((own_gtI (by decide)).mpr q)
                                                  refine (if_neg h24).trans ?_
                                                  rfl
                                            · have z22 : ¬ (55295 < c.toInt) := fun q => h22 ((own_gtI (by decide)).mpr q)
                                              refine (if_neg h22).trans ?_
                                              rfl
                                        · have z20 : ¬ (12271 < c.toInt) := fun q => h20 ((own_gtI (by decide)).mpr q)
                                          refine (if_neg h20).trans ?_
                                          rfl
                                    · have z18 : ¬ (8591 < c.toInt) := fun q => h18 ((own_gtI (by decide)).mpr q)
                                      refine (if_neg h18).trans ?_
                                      rfl
                                · have z16 : ¬ (8205 < c.toInt) := fun q => h16 ((own_gtI (by decide)).mpr q)
                                  refine (if_neg h16).trans ?_
                                  rfl
                            · have z14 : ¬ (8191 < c.toInt) := fun q => h14 ((own_gtI (by decide)).mpr q)
                              refine (if_neg h14).trans ?_
                              rfl
                        · have z12 : ¬ (893 < c.toInt) := fun q => h12 ((own_gtI (by decide)).mpr q)
                          refine (if_neg h12).trans ?_
                          rfl
                    · have z10 : ¬ (767 < c.toInt) := fun q => h10 ((own_gtI (by decide)).mpr q)
                      refine (if_neg h10).trans ?_
                      rfl
                · have z8 : ¬ (246 < c.toInt) := fun q => h8 ((own_gtI (by decide)).mpr q)
                  refine (if_neg h8).trans ?_
                  rfl
            · have z6 : ¬ (214 < c.toInt) := fun q => h6 ((own_gtI (by decide)).mpr q)
              refine (if_neg h6).trans ?_
              rfl
        · have z4 : ¬ (122 < c.toInt) := fun q => h4 ((own_gtI (by decide)).mpr q)
          refine (if_neg h4).trans ?_
          rfl
    · have z2 : ¬ (90 < c.toInt) := fun q => h2 ((own_gtI (by decide)).mpr q)
      refine (if_neg h2).trans ?_
      rfl
set_option maxHeartbeats 40000000 in
theorem own_f1F (c : Int32) (h : ¬ ((65 ≤ c.toInt ∧ c.toInt ≤ 90) ∨ (97 ≤ c.toInt ∧ c.toInt ≤ 122) ∨ (192 ≤ c.toInt ∧ c.toInt ≤ 214) ∨ (216 ≤ c.toInt ∧ c.toInt ≤ 246) ∨ (248 ≤ c.toInt ∧ c.toInt ≤ 767) ∨ (880 ≤ c.toInt ∧ c.toInt ≤ 893) ∨ (895 ≤ c.toInt ∧ c.toInt ≤ 8191) ∨ (8204 ≤ c.toInt ∧ c.toInt ≤ 8205) ∨ (8304 ≤ c.toInt ∧ c.toInt ≤ 8591) ∨ (11264 ≤ c.toInt ∧ c.toInt ≤ 12271) ∨ (12289 ≤ c.toInt ∧ c.toInt ≤ 55295) ∨ (63744 ≤ c.toInt ∧ c.toInt ≤ 64975) ∨ (65008 ≤ c.toInt ∧ c.toInt ≤ 65533) ∨ (65536 ≤ c.toInt ∧ c.toInt ≤ 983039))) : f1 c = (0 : Int32) := by
  unfold f1
  by_cases h29 : c < (65 : Int32)
  · have z29 : c.toInt < 65 := (own_ltI (by decide)).mp h29
    refine (if_pos h29).trans ?_
    rfl
  · have z29 : ¬ (c.toInt < 65) := fun q => h29 ((own_ltI (by decide)).mpr q)
    refine (if_neg h29).trans ?_
    by_cases h30 : (90 : Int32) < c
    · have z30 : 90 < c.toInt := (own_gtI (by decide)).mp h30
      refine (if_pos h30).trans ?_
      by_cases h31 : c < (97 : Int32)
      · have z31 : c.toInt < 97 := (own_ltI (by decide)).mp h31
        refine (if_pos h31).trans ?_
        rfl
      · have z31 : ¬ (c.toInt < 97) := fun q => h31 ((own_ltI (by decide)).mpr q)
        refine (if_neg h31).trans ?_
        by_cases h32 : (122 : Int32) < c
        · have z32 : 122 < c.toInt := (own_gtI (by decide)).mp h32
          refine (if_pos h32).trans ?_
          by_cases h33 : c < (192 : Int32)
          · have z33 : c.toInt < 192 := (own_ltI (by decide)).mp h33
            refine (if_pos h33).trans ?_
            rfl
          · have z33 : ¬ (c.toInt < 192) := fun q => h33 ((own_ltI (by decide)).mpr q)
            refine (if_neg h33).trans ?_
            by_cases h34 : (214 : Int32) < c
            · have z34 : 214 < c.toInt := (own_gtI (by decide)).mp h34
              refine (if_pos h34).trans ?_
              by_cases h35 : c < (216 : Int32)
              · have z35 : c.toInt < 216 := (own_ltI (by decide)).mp h35
                refine (if_pos h35).trans ?_
                rfl
              · have z35 : ¬ (c.toInt < 216) := fun q => h35 ((own_ltI (by decide)).mpr q)
                refine (if_neg h35).trans ?_
                by_cases h36 : (246 : Int32) < c
                · have z36 : 246 < c.toInt := (own_gtI (by decide)).mp h36
                  refine (if_pos h36).trans ?_
                  by_cases h37 : c < (248 : Int32)
                  · have z37 : c.toInt < 248 := (own_ltI (by decide)).mp h37
                    refine (if_pos h37).trans ?_
                    rfl
                  · have z37 : ¬ (c.toInt < 248) := fun q => h37 ((own_ltI (by decide)).mpr q)
                    refine (if_neg h37).trans ?_
                    by_cases h38 : (767 : Int32) < c
                    · have z38 : 767 < c.toInt := (own_gtI (by decide)).mp h38
                      refine (if_pos h38).trans ?_
                      by_cases h39 : c < (880 : Int32)
                      · have z39 : c.toInt < 880 := (own_ltI (by decide)).mp h39
                        refine (if_pos h39).trans ?_
                        rfl
                      · have z39 : ¬ (c.toInt < 880) := fun q => h39 ((own_ltI (by decide)).mpr q)
                        refine (if_neg h39).trans ?_
                        by_cases h40 : (893 : Int32) < c
                        · have z40 : 893 < c.toInt := (own_gtI (by decide)).mp h40
                          refine (if_pos h40).trans ?_
                          by_cases h41 : c < (895 : Int32)
                          · have z41 : c.toInt < 895 := (own_ltI (by decide)).mp h41
                            refine (if_pos h41).trans ?_
                            rfl
                          · have z41 : ¬ (c.toInt < 895) := fun q => h41 ((own_ltI (by decide)).mpr q)
                            refine (if_neg h41).trans ?_
                            by_cases h42 : (8191 : Int32) < c
                            · have z42 : 8191 < c.toInt := (own_gtI (by decide)).mp h42
                              refine (if_pos h42).trans ?_
                              by_cases h43 : c < (8204 : Int32)
                              · have z43 : c.toInt < 8204 := (own_ltI (by decide)).mp h43
                                refine (if_pos h43).trans ?_
                                rfl
                              · have z43 : ¬ (c.toInt < 8204) := fun q => h43 ((own_ltI (by decide)).mpr q)
                                refine (if_neg h43).trans ?_
                                by_cases h44 : (8205 : Int32) < c
                                · have z44 : 8205 < c.toInt := (own_gtI (by decide)).mp h44
                                  refine (if_pos h44).trans ?_
                                  by_cases h45 : c < (8304 : Int32)
                                  · have z45 : c.toInt < 8304 := (own_ltI (by decide)).mp h45
                                    refine (if_pos h45).trans ?_
                                    rfl
                                  · have z45 : ¬ (c.toInt < 8304) := fun q => h45 ((own_ltI (by decide)).mpr q)
                                    refine (if_neg h45).trans ?_
                                    by_cases h46 : (8591 : Int32) < c
                                    · have z46 : 8591 < c.toInt := (own_gtI (by decide)).mp h46
                                      refine (if_pos h46).trans ?_
                                      by_cases h47 : c < (11264 : Int32)
                                      · have z47 : c.toInt < 11264 := (own_ltI (by decide)).mp h47
                                        refine (if_pos h47).trans ?_
                                        rfl
                                      · have z47 : ¬ (c.toInt < 11264) := fun q => h47 ((own_ltI (by decide)).mpr q)
                                        refine (if_neg h47).trans ?_
                                        by_cases h48 : (12271 : Int32) < c
                                        · have z48 : 12271 < c.toInt := (own_gtI (by decide)).mp h48
                                          refine (if_pos h48).trans ?_
                                          by_cases h49 : c < (12289 : Int32)
                                          · have z49 : c.toInt < 12289 := (own_ltI (by decide)).mp h49
                                            refine (if_pos h49).trans ?_
                                            rfl
                                          · have z49 : ¬ (c.toInt < 12289) := fun q => h49 ((own_ltI (by decide)).mpr q)
                                            refine (if_neg h49).trans ?_
                                            by_cases h50 : (55295 : Int32) < c
                                            · have z50 : 55295 < c.toInt := (own_gtI (by decide)).mp h50
                                              refine (if_pos h50).trans ?_
                                              by_cases h51 : c < (63744 : Int32)
                                              · have z51 : c.toInt < 63744 := (own_ltI (by decide)).mp h51
                                                refine (if_pos h51).trans ?_
                                                rfl
                                              · have z51 : ¬ (c.toInt < 63744) := fun q => h51 ((own_ltI (by decide)).mpr q)
                                                refine (if_neg h51).trans ?_
                                                by_cases h52 : (64975 : Int32) < c
                                                · have z52 : 64975 < c.toInt := (own_gtI (by decide)).mp h52
                                                  refine (if_pos h52).trans ?_
                                                  by_cases h53 : c < (65008 : Int32)
                                                  · have z53 : c.toInt < 65008 := (own_ltI (by decide)).mp h53
                                                    refine (if_pos h53).trans ?_
                                                    rfl
                                                  · have z53 : ¬ (c.toInt < 65008) := fun q => h53 ((own_ltI (by decide)).mpr q)
                                                    refine (if_neg h53).trans ?_
                                                    by_cases h54 : (65533 : Int32) < c
                                                    · have z54 : 65533 < c.toInt := (own_gtI (by decide)).mp h54
                                                      refine (if_pos h54).trans ?_
                                                      by_cases h55 : c < (65536 : Int32)
                                                      · have z55 : c.toInt < 65536 := (own_ltI (by decide)).mp h55
                                                        refine (if_pos h55).trans ?_
                                                        rfl
                                                      · have z55 : ¬ (c.toInt < 65536) := fun q => h55 ((own_ltI (by decide)).mpr q)
                                                        refine (if_neg h55).trans ?_
                                                        by_cases h56 : (983039 : Int32) < c
                                                        · have z56 : 983039 < c.toInt := (own_gtI (by decide)).mp h56
                                                          refine (if_pos h56).trans ?_
                                                          rfl
                                                        · have z56 : ¬ (983039 < c.toInt) := fun q => h56 ((own_gtI (by decide)).mpr q)
                                                          refine (if_neg h56).trans ?_
                                                          exfalso
                                                          exact h (by omega)
                                                    · have z54 : ¬ (65533 < c.toInt) := fun q => h54 ((own_gtI (by decide)).mpr q)
                                                      refine (if_neg h54).trans ?_
                                                      exfalso
                                                      exact h (by omega)
                                                · have z52 : ¬ (64975 < c.toInt) := fun q => h52 ((own_gtI (by decide)).mpr q)
                                                  refine (if_neg h52).trans ?_
                                                  exfalso
                                                  exact h (by omega)
                                            · have z50 : ¬ (55295 < c.toInt) := fun q => h50 ((own_gtI (by decide)).mpr q)
                                              refine (if_neg h50).trans ?_
                                              exfalso
                                              exact h (by omega)
                                        · have z48 : ¬ (12271 < c.toInt) := fun q => h48 ((own_gtI (by decide)).mpr q)
                                          refine (if_neg h48).trans ?_
                                          exfalso
                                          exact h (by omega)
                                    · have z46 : ¬ (8591 < c.toInt) := fun q => h46 ((own_gtI (by decide)).mpr q)
                                      refine (if_neg h46).trans ?_
                                      exfalso
                                      exact h (by omega)
                                · have z44 : ¬ (8205 < c.toInt) := fun q => h44 ((own_gtI (by decide)).mpr q)
                                  refine (if_neg h44).trans ?_
                                  exfalso
                                  exact h (by omega)
                            · have z42 : ¬ (8191 < c.toInt) := fun q => h42 ((own_gtI (by decide)).mpr q)
                              refine (if_neg h42).trans ?_
                              exfalso
                              exact h (by omega)
                        · have z40 : ¬ (893 < c.toInt) := fun q => h40 ((own_gtI (by decide)).mpr q)
                          refine (if_neg h40).trans ?_
                          exfalso
                          exact h (by omega)
                    · have z38 : ¬ (767 < c.toInt) := fun q => h38 ((own_gtI (by decide)).mpr q)
                      refine (if_neg h38).trans ?_
                      exfalso
                      exact h (by omega)
                · have z36 : ¬ (246 < c.toInt) := fun q => h36 ((own_gtI (by decide)).mpr q)
                  refine (if_neg h36).trans ?_
                  exfalso
                  exact h (by omega)
            · have z34 : ¬ (214 < c.toInt) := fun q => h34 ((own_gtI (by decide)).mpr q)
              refine (if_neg h34).trans ?_
              exfalso
              exact h (by omega)
        · have z32 : ¬ (122 < c.toInt) := fun q => h32 ((own_gtI (by decide)).mpr q)
          refine (if_neg h32).trans ?_
          exfalso
          exact h (by omega)
    · have z30 : ¬ (90 < c.toInt) := fun q => h30 ((own_gtI (by decide)).mpr q)
      refine (if_neg h30).trans ?_
      exfalso
      exact h (by omega)
set_option maxHeartbeats 40000000 in
theorem own_f2T (c : Int32) (h : (65 ≤ c.toInt ∧ c.toInt ≤ 90) ∨ (97 ≤ c.toInt ∧ c.toInt ≤ 122) ∨ (192 ≤ c.toInt ∧ c.toInt ≤ 214) ∨ (216 ≤ c.toInt ∧ c.toInt ≤ 246) ∨ (248 ≤ c.toInt ∧ c.toInt ≤ 767) ∨ (880 ≤ c.toInt ∧ c.toInt ≤ 893) ∨ (895 ≤ c.toInt ∧ c.toInt ≤ 8191) ∨ (8204 ≤ c.toInt ∧ c.toInt ≤ 8205) ∨ (8304 ≤ c.toInt ∧ c.toInt ≤ 8591) ∨ (11264 ≤ c.toInt ∧ c.toInt ≤ 12271) ∨ (12289 ≤ c.toInt ∧ c.toInt ≤ 55295) ∨ (63744 ≤ c.toInt ∧ c.toInt ≤ 64975) ∨ (65008 ≤ c.toInt ∧ c.toInt ≤ 65533) ∨ (65536 ≤ c.toInt ∧ c.toInt ≤ 983039)) : f2 c = (0 : Int32) := by
  unfold f2
  by_cases h57 : c < (65 : Int32)
  · have z57 : c.toInt < 65 := (own_ltI (by decide)).mp h57
    refine (if_pos h57).trans ?_
    exfalso
    rcases h with ⟨h1, h2⟩ | ⟨h1, h2⟩ | ⟨h1, h2⟩ | ⟨h1, h2⟩ | ⟨h1, h2⟩ | ⟨h1, h2⟩ | ⟨h1, h2⟩ | ⟨h1, h2⟩ | ⟨h1, h2⟩ | ⟨h1, h2⟩ | ⟨h1, h2⟩ | ⟨h1, h2⟩ | ⟨h1, h2⟩ | ⟨h1, h2⟩ <;> omega
  · have z57 : ¬ (c.toInt < 65) := fun q => h57 ((own_ltI (by decide)).mpr q)
    refine (if_neg h57).trans ?_
    by_cases h58 : (90 : Int32) < c
    · have z58 : 90 < c.toInt := (own_gtI (by decide)).mp h58
      refine (if_pos h58).trans ?_
      by_cases h59 : c < (97 : Int32)
      · have z59 : c.toInt < 97 := (own_ltI (by decide)).mp h59
        refine (if_pos h59).trans ?_
        exfalso
        rcases h with ⟨h1, h2⟩ | ⟨h1, h2⟩ | ⟨h1, h2⟩ | ⟨h1, h2⟩ | ⟨h1, h2⟩ | ⟨h1, h2⟩ | ⟨h1, h2⟩ | ⟨h1, h2⟩ | ⟨h1, h2⟩ | ⟨h1, h2⟩ | ⟨h1, h2⟩ | ⟨h1, h2⟩ | ⟨h1, h2⟩ | ⟨h1, h2⟩ <;> omega
      · have z59 : ¬ (c.toInt < 97) := fun q => h59 ((own_ltI (by decide)).mpr q)
        refine (if_neg h59).trans ?_
        by_cases h60 : (122 : Int32) < c
        · have z60 : 122 < c.toInt := (own_gtI (by decide)).mp h60
          refine (if_pos h60).trans ?_
          by_cases h61 : c < (192 : Int32)
          · have z61 : c.toInt < 192 := (own_ltI (by decide)).mp h61
            refine (if_pos h61).trans ?_
            exfalso
            rcases h with ⟨h1, h2⟩ | ⟨h1, h2⟩ | ⟨h1, h2⟩ | ⟨h1, h2⟩ | ⟨h1, h2⟩ | ⟨h1, h2⟩ | ⟨h1, h2⟩ | ⟨h1, h2⟩ | ⟨h1, h2⟩ | ⟨h1, h2⟩ | ⟨h1, h2⟩ | ⟨h1, h2⟩ | ⟨h1, h2⟩ | ⟨h1, h2⟩ <;> omega
          · have z61 : ¬ (c.toInt < 192) := fun q => h61 ((own_ltI (by decide)).mpr q)
            refine (if_neg h61).trans ?_
            by_cases h62 : c = (215 : Int32)
            · have z62 : c.toInt = 215 := (own_eqI (by decide)).mp h62
              refine (if_pos h62).trans ?_
              exfalso
              rcases h with ⟨h1, h2⟩ | ⟨h1, h2⟩ | ⟨h1, h2⟩ | ⟨h1, h2⟩ | ⟨h1, h2⟩ | ⟨h1, h2⟩ | ⟨h1, h2⟩ | ⟨h1, h2⟩ | ⟨h1, h2⟩ | ⟨h1, h2⟩ | ⟨h1, h2⟩ | ⟨h1, h2⟩ | ⟨h1, h2⟩ | ⟨h1, h2⟩ <;> omega
            · have z62 : ¬ (c.toInt = 215) := fun q => h62 ((own_eqI (by decide)).mpr q)
              refine (if_neg h62).trans ?_
              by_cases h63 : c = (247 : Int32)
              · have z63 : c.toInt = 247 := (own_eqI (by decide)).mp h63
                refine (if_pos h63).trans ?_
                exfalso
                rcases h with ⟨h1, h2⟩ | ⟨h1, h2⟩ | ⟨h1, h2⟩ | ⟨h1, h2⟩ | ⟨h1, h2⟩ | ⟨h1, h2⟩ | ⟨h1, h2⟩ | ⟨h1, h2⟩ | ⟨h1, h2⟩ | ⟨h1, h2⟩ | ⟨h1, h2⟩ | ⟨h1, h2⟩ | ⟨h1, h2⟩ | ⟨h1, h2⟩ <;> omega
              · have z63 : ¬ (c.toInt = 247) := fun q => h63 ((own_eqI (by decide)).mpr q)
                refine (if_neg h63).trans ?_
                by_cases h64 : (767 : Int32) < c
                · have z64 : 767 < c.toInt := (own_gtI (by decide)).mp h64
                  refine (if_pos h64).trans ?_
                  by_cases h65 : c < (880 : Int32)
                  · have z65 : c.toInt < 880 := (own_ltI (by decide)).mp h65
                    refine (if_pos h65).trans ?_
                    exfalso
                    rcases h with ⟨h1, h2⟩ | ⟨h1, h2⟩ | ⟨h1, h2⟩ | ⟨h1, h2⟩ | ⟨h1, h2⟩ | ⟨h1, h2⟩ | ⟨h1, h2⟩ | ⟨h1, h2⟩ | ⟨h1, h2⟩ | ⟨h1, h2⟩ | ⟨h1, h2⟩ | ⟨h1, h2⟩ | ⟨h1, h2⟩ | ⟨h1, h2⟩ <;> omega
                  · have z65 : ¬ (c.toInt < 880) := fun q => h65 ((own_ltI (by decide)).mpr q)
                    refine (if_neg h65).trans ?_
                    by_cases h66 : c = (894 : Int32)
                    · have z66 : c.toInt = 894 := (own_eqI (by decide)).mp h66
                      refine (if_pos h66).trans ?_
                      exfalso
                      rcases h with ⟨h1, h2⟩ | ⟨h1, h2⟩ | ⟨h1, h2⟩ | ⟨h1, h2⟩ | ⟨h1, h2⟩ | ⟨h1, h2⟩ | ⟨h1, h2⟩ | ⟨h1, h2⟩ | ⟨h1, h2⟩ | ⟨h1, h2⟩ | ⟨h1, h2⟩ | ⟨h1, h2⟩ | ⟨h1, h2⟩ | ⟨h1, h2⟩ <;> omega
                    · have z66 : ¬ (c.toInt = 894) := fun q => h66 ((own_eqI (by decide)).mpr q)
                      refine (if_neg h66).trans ?_
                      by_cases h67 : (8191 : Int32) < c
                      · have z67 : 8191 < c.toInt := (own_gtI (by decide)).mp h67
                        refine (if_pos h67).trans ?_
                        by_cases h68 : c < (8204 : Int32)
                        · have z68 : c.toInt < 8204 := (own_ltI (by decide)).mp h68
                          refine (if_pos h68).trans ?_
                          exfalso
                          rcases h with ⟨h1, h2⟩ | ⟨h1, h2⟩ | ⟨h1, h2⟩ | ⟨h1, h2⟩ | ⟨h1, h2⟩ | ⟨h1, h2⟩ | ⟨h1, h2⟩ | ⟨h1, h2⟩ | ⟨h1, h2⟩ | ⟨h1, h2⟩ | ⟨h1, h2⟩ | ⟨h1, h2⟩ | ⟨h1, h2⟩ | ⟨h1, h2⟩ <;> omega
                        · have z68 : ¬ (c.toInt < 8204) := fun q => h68 ((own_ltI (by decide)).mpr q)
                          refine (if_neg h68).trans ?_
                          by_cases h69 : (8205 : Int32) < c
                          · have z69 : 8205 < c.toInt := (own_gtI (by decide)).mp h69
                            refine (if_pos h69).trans ?_
                            by_cases h70 : c < (8304 : Int32)
                            · have z70 : c.toInt < 8304 := (own_ltI (by decide)).mp h70
                              refine (if_pos h70).trans ?_
                              exfalso
                              rcases h with ⟨h1, h2⟩ | ⟨h1, h2⟩ | ⟨h1, h2⟩ | ⟨h1, h2⟩ | ⟨h1, h2⟩ | ⟨h1, h2⟩ | ⟨h1, h2⟩ | ⟨h1, h2⟩ | ⟨h1, h2⟩ | ⟨h1, h2⟩ | ⟨h1, h2⟩ | ⟨h1, h2⟩ | ⟨h1, h2⟩ | ⟨h1, h2⟩ <;> omega
                            · have z70 : ¬ (c.toInt < 8304) := fun q => h70 ((own_ltI (by decide)).mpr q)
                              refine (if_neg h70).trans ?_
                              by_cases h71 : (8591 : Int32) < c
                              · have z71 : 8591 < c.toInt := (own_gtI (by decide)).mp h71
                                refine (if_pos h71).trans ?_
                                by_cases h72 : c < (11264 : Int32)
                                · have z72 : c.toInt < 11264 := (own_ltI (by decide)).mp h72
                                  refine (if_pos h72).trans ?_
                                  exfalso
                                  rcases h with ⟨h1, h2⟩ | ⟨h1, h2⟩ | ⟨h1, h2⟩ | ⟨h1, h2⟩ | ⟨h1, h2⟩ | ⟨h1, h2⟩ | ⟨h1, h2⟩ | ⟨h1, h2⟩ | ⟨h1, h2⟩ | ⟨h1, h2⟩ | ⟨h1, h2⟩ | ⟨h1, h2⟩ | ⟨h1, h2⟩ | ⟨h1, h2⟩ <;> omega
                                · have z72 : ¬ (c.toInt < 11264) := fun q => h72 ((own_ltI (by decide)).mpr q)
                                  refine (if_neg h72).trans ?_
                                  by_cases h73 : (12271 : Int32) < c
                                  · have z73 : 12271 < c.toInt := (own_gtI (by decide)).mp h73
                                    refine (if_pos h73).trans ?_
                                    by_cases h74 : c < (12289 : Int32)
                                    · have z74 : c.toInt < 12289 := (own_ltI (by decide)).mp h74
                                      refine (if_pos h74).trans ?_
                                      exfalso
                                      rcases h with ⟨h1, h2⟩ | ⟨h1, h2⟩ | ⟨h1, h2⟩ | ⟨h1, h2⟩ | ⟨h1, h2⟩ | ⟨h1, h2⟩ | ⟨h1, h2⟩ | ⟨h1, h2⟩ | ⟨h1, h2⟩ | ⟨h1, h2⟩ | ⟨h1, h2⟩ | ⟨h1, h2⟩ | ⟨h1, h2⟩ | ⟨h1, h2⟩ <;> omega
                                    · have z74 : ¬ (c.toInt < 12289) := fun q => h74 ((own_ltI (by decide)).mpr q)
                                      refine (if_neg h74).trans ?_
                                      by_cases h75 : (55295 : Int32) < c
                                      · have z75 : 55295 < c.toInt := (own_gtI (by decide)).mp h75
                                        refine (if_pos h75).trans ?_
                                        by_cases h76 : c < (63744 : Int32)
                                        · have z76 : c.toInt < 63744 := (own_ltI (by decide)).mp h76
                                          refine (if_pos h76).trans ?_
                                          exfalso
                                          rcases h with ⟨h1, h2⟩ | ⟨h1, h2⟩ | ⟨h1, h2⟩ | ⟨h1, h2⟩ | ⟨h1, h2⟩ | ⟨h1, h2⟩ | ⟨h1, h2⟩ | ⟨h1, h2⟩ | ⟨h1, h2⟩ | ⟨h1, h2⟩ | ⟨h1, h2⟩ | ⟨h1, h2⟩ | ⟨h1, h2⟩ | ⟨h1, h2⟩ <;> omega
                                        · have z76 : ¬ (c.toInt < 63744) := fun q => h76 ((own_ltI (by decide)).mpr q)
                                          refine (if_neg h76).trans ?_
                                          by_cases h77 : (64975 : Int32) < c
                                          · have z77 : 64975 < c.toInt := (own_gtI (by decide)).mp h77
                                            refine (if_pos h77).trans ?_
                                            by_cases h78 : c < (65008 : Int32)
                                            · have z78 : c.toInt < 65008 := (own_ltI (by decide)).mp h78
                                              refine (if_pos h78).trans ?_
                                              exfalso
                                              rcases h with ⟨h1, h2⟩ | ⟨h1, h2⟩ | ⟨h1, h2⟩ | ⟨h1, h2⟩ | ⟨h1, h2⟩ | ⟨h1, h2⟩ | ⟨h1, h2⟩ | ⟨h1, h2⟩ | ⟨h1, h2⟩ | ⟨h1, h2⟩ | ⟨h1, h2⟩ | ⟨h1, h2⟩ | ⟨h1, h2⟩ | ⟨h1, h2⟩ <;> omega
                                            · have z78 : ¬ (c.toInt < 65008) := fun q => h78 ((own_ltI (by decide)).mpr q)
                                              refine (if_neg h78).trans ?_
                                              by_cases h79 : (65533 : Int32) < c
                                              · have z79 : 65533 < c.toInt := (own_gtI (by decide)).mp h79
                                                refine (if_pos h79).trans ?_
                                                by_cases h80 : c < (65536 : Int32)
                                                · have z80 : c.toInt < 65536 := (own_ltI (by decide)).mp h80
                                                  refine (if_pos h80).trans ?_
                                                  exfalso
                                                  rcases h with ⟨h1, h2⟩ | ⟨h1, h2⟩ | ⟨h1, h2⟩ | ⟨h1, h2⟩ | ⟨h1, h2⟩ | ⟨h1, h2⟩ | ⟨h1, h2⟩ | ⟨h1, h2⟩ | ⟨h1, h2⟩ | ⟨h1, h2⟩ | ⟨h1, h2⟩ | ⟨h1, h2⟩ | ⟨h1, h2⟩ | ⟨h1, h2⟩ <;> omega
                                                · have z80 : ¬ (c.toInt < 65536) := fun q => h80 ((own_ltI (by decide)).mpr q)
                                                  refine (if_neg h80).trans ?_
                                                  by_cases h81 : (983039 : Int32) < c
                                                  · have z81 : 983039 < c.toInt := (own_gtI (by decide)).mp h81
                                                    refine (if_pos h81).trans ?_
                                                    exfalso
                                                    rcases h with ⟨h1, h2⟩ | ⟨h1, h2⟩ | ⟨h1, h2⟩ | ⟨h1, h2⟩ | ⟨h1, h2⟩ | ⟨h1, h2⟩ | ⟨h1, h2⟩ | ⟨h1, h2⟩ | ⟨h1, h2⟩ | ⟨h1, h2⟩ | ⟨h1, h2⟩ | ⟨h1, h2⟩ | ⟨h1, h2⟩ | ⟨h1, h2⟩ <;> omega
                                                  · have z81 : ¬ (983039 < c.toInt) := fun q => h81 ((own_gtI (by decide)).mpr q)
                                                    refine (if_neg h81).trans ?_
                                                    rfl
                                              · have z79 : ¬ (65533 < c.toInt) := fun q => h79 ((own_gtI (by decide)).mpr q)
                                                refine (if_neg h79).trans ?_
                                                rfl
                                          · have z77 : ¬ (64975 < c.toInt) := fun q => h77 ((own_gtI (by decide)).mpr q)
                                            refine (if_neg h77).trans ?_
                                            rfl
                                      · have z75 : ¬ (55295 < c.toInt) := fun q => h75 ((own_gtI (by decide)).mpr q)
                                        refine (if_neg h75).trans ?_
                                        rfl
                                  · have z73 : ¬ (12271 < c.toInt) := fun q => h73 ((own_gtI (by decide)).mpr q)
                                    refine (if_neg h73).trans ?_
                                    rfl
                              · have z71 : ¬ (8591 < c.toInt) := fun q => h71 ((own_gtI (by decide)).mpr q)
                                refine (if_neg h71).trans ?_
                                rfl
                          · have z69 : ¬ (8205 < c.toInt) := fun q => h69 ((own_gtI (by decide)).mpr q)
                            refine (if_neg h69).trans ?_
                            rfl
                      · have z67 : ¬ (8191 < c.toInt) := fun q => h67 ((own_gtI (by decide)).mpr q)
                        refine (if_neg h67).trans ?_
                        rfl
                · have z64 : ¬ (767 < c.toInt) := fun q => h64 ((own_gtI (by decide)).mpr q)
                  refine (if_neg h64).trans ?_
                  rfl
        · have z60 : ¬ (122 < c.toInt) := fun q => h60 ((own_gtI (by decide)).mpr q)
          refine (if_neg h60).trans ?_
          rfl
    · have z58 : ¬ (90 < c.toInt) := fun q => h58 ((own_gtI (by decide)).mpr q)
      refine (if_neg h58).trans ?_
      rfl
set_option maxHeartbeats 40000000 in
theorem own_f2F (c : Int32) (h : ¬ ((65 ≤ c.toInt ∧ c.toInt ≤ 90) ∨ (97 ≤ c.toInt ∧ c.toInt ≤ 122) ∨ (192 ≤ c.toInt ∧ c.toInt ≤ 214) ∨ (216 ≤ c.toInt ∧ c.toInt ≤ 246) ∨ (248 ≤ c.toInt ∧ c.toInt ≤ 767) ∨ (880 ≤ c.toInt ∧ c.toInt ≤ 893) ∨ (895 ≤ c.toInt ∧ c.toInt ≤ 8191) ∨ (8204 ≤ c.toInt ∧ c.toInt ≤ 8205) ∨ (8304 ≤ c.toInt ∧ c.toInt ≤ 8591) ∨ (11264 ≤ c.toInt ∧ c.toInt ≤ 12271) ∨ (12289 ≤ c.toInt ∧ c.toInt ≤ 55295) ∨ (63744 ≤ c.toInt ∧ c.toInt ≤ 64975) ∨ (65008 ≤ c.toInt ∧ c.toInt ≤ 65533) ∨ (65536 ≤ c.toInt ∧ c.toInt ≤ 983039))) : f2 c = (1 : Int32) := by
  unfold f2
  by_cases h82 : c < (65 : Int32)
  · have z82 : c.toInt < 65 := (own_ltI (by decide)).mp h82
    refine (if_pos h82).trans ?_
    rfl
  · have z82 : ¬ (c.toInt < 65) := fun q => h82 ((own_ltI (by decide)).mpr q)
    refine (if_neg h82).trans ?_
    by_cases h83 : (90 : Int32) < c
    · have z83 : 90 < c.toInt := (own_gtI (by decide)).mp h83
      refine (if_pos h83).trans ?_
      by_cases h84 : c < (97 : Int32)
      · have z84 : c.toInt < 97 := (own_ltI (by decide)).mp h84
        refine (if_pos h84).trans ?_
        rfl
      · have z84 : ¬ (c.toInt < 97) := fun q => h84 ((own_ltI (by decide)).mpr q)
        refine (if_neg h84).trans ?_
        by_cases h85 : (122 : Int32) < c
        · have z85 : 122 < c.toInt := (own_gtI (by decide)).mp h85
          refine (if_pos h85).trans ?_
          by_cases h86 : c < (192 : Int32)
          · have z86 : c.toInt < 192 := (own_ltI (by decide)).mp h86
            refine (if_pos h86).trans ?_
            rfl
          · have z86 : ¬ (c.toInt < 192) := fun q => h86 ((own_ltI (by decide)).mpr q)
            refine (if_neg h86).trans ?_
            by_cases h87 : c = (215 : Int32)
            · have z87 : c.toInt = 215 := (own_eqI (by decide)).mp h87
              refine (if_pos h87).trans ?_
              rfl
            · have z87 : ¬ (c.toInt = 215) := fun q => h87 ((own_eqI (by decide)).mpr q)
              refine (if_neg h87).trans ?_
              by_cases h88 : c = (247 : Int32)
              · have z88 : c.toInt = 247 := (own_eqI (by decide)).mp h88
                refine (if_pos h88).trans ?_
                rfl
              · have z88 : ¬ (c.toInt = 247) := fun q => h88 ((own_eqI (by decide)).mpr q)
                refine (if_neg h88).trans ?_
                by_cases h89 : (767 : Int32) < c
                · have z89 : 767 < c.toInt := (own_gtI (by decide)).mp h89
                  refine (if_pos h89).trans ?_
                  by_cases h90 : c < (880 : Int32)
                  · have z90 : c.toInt < 880 := (own_ltI (by decide)).mp h90
                    refine (if_pos h90).trans ?_
                    rfl
                  · have z90 : ¬ (c.toInt < 880) := fun q => h90 ((own_ltI (by decide)).mpr q)
                    refine (if_neg h90).trans ?_
                    by_cases h91 : c = (894 : Int32)
                    · have z91 : c.toInt = 894 := (own_eqI (by decide)).mp h91
                      refine (if_pos h91).trans ?_
                      rfl
                    · have z91 : ¬ (c.toInt = 894) := fun q => h91 ((own_eqI (by decide)).mpr q)
                      refine (if_neg h91).trans ?_
                      by_cases h92 : (8191 : Int32) < c
                      · have z92 : 8191 < c.toInt := (own_gtI (by decide)).mp h92
                        refine (if_pos h92).trans ?_
                        by_cases h93 : c < (8204 : Int32)
                        · have z93 : c.toInt < 8204 := (own_ltI (by decide)).mp h93
                          refine (if_pos h93).trans ?_
                          rfl
                        · have z93 : ¬ (c.toInt < 8204) := fun q => h93 ((own_ltI (by decide)).mpr q)
                          refine (if_neg h93).trans ?_
                          by_cases h94 : (8205 : Int32) < c
                          · have z94 : 8205 < c.toInt := (own_gtI (by decide)).mp h94
                            refine (if_pos h94).trans ?_
                            by_cases h95 : c < (8304 : Int32)
                            · have z95 : c.toInt < 8304 := (own_ltI (by decide)).mp h95
                              refine (if_pos h95).trans ?_
                              rfl
                            · have z95 : ¬ (c.toInt < 8304) := fun q => h95 ((own_ltI (by decide)).mpr q)
                              refine (if_neg h95).trans ?_
                              by_cases h96 : (8591 : Int32) < c
                              · have z96 : 8591 < c.toInt := (own_gtI (by decide)).mp h96
                                refine (if_pos h96).trans ?_
                                by_cases h97 : c < (11264 : Int32)
                                · have z97 : c.toInt < 11264 := (own_ltI (by decide)).mp h97
                                  refine (if_pos h97).trans ?_
                                  rfl
                                · have z97 : ¬ (c.toInt < 11264) := fun q => h97 ((own_ltI (by decide)).mpr q)
                                  refine (if_neg h97).trans ?_
                                  by_cases h98 : (12271 : Int32) < c
                                  · have z98 : 12271 < c.toInt := (own_gtI (by decide)).mp h98
                                    refine (if_pos h98).trans ?_
                                    by_cases h99 : c < (12289 : Int32)
                                    · have z99 : c.toInt < 12289 := (own_ltI (by decide)).mp h99
                                      refine (if_pos h99).trans ?_
                                      rfl
                                    · have z99 : ¬ (c.toInt < 12289) := fun q => h99 ((own_ltI (by decide)).mpr q)
                                      refine (if_neg h99).trans ?_
                                      by_cases h100 : (55295 : Int32) < c
                                      · have z100 : 55295 < c.toInt := (own_gtI (by decide)).mp h100
                                        refine (if_pos h100).trans ?_
                                        by_cases h101 : c < (63744 : Int32)
                                        · have z101 : c.toInt < 63744 := (own_ltI (by decide)).mp h101
                                          refine (if_pos h101).trans ?_
                                          rfl
                                        · have z101 : ¬ (c.toInt < 63744) := fun q => h101 ((own_ltI (by decide)).mpr q)
                                          refine (if_neg h101).trans ?_
                                          by_cases h102 : (64975 : Int32) < c
                                          · have z102 : 64975 < c.toInt := (own_gtI (by decide)).mp h102
                                            refine (if_pos h102).trans ?_
                                            by_cases h103 : c < (65008 : Int32)
                                            · have z103 : c.toInt < 65008 := (own_ltI (by decide)).mp h103
                                              refine (if_pos h103).trans ?_
                                              rfl
                                            · have z103 : ¬ (c.toInt < 65008) := fun q => h103 ((own_ltI (by decide)).mpr q)
                                              refine (if_neg h103).trans ?_
                                              by_cases h104 : (65533 : Int32) < c
                                              · have z104 : 65533 < c.toInt := (own_gtI (by decide)).mp h104
                                                refine (if_pos h104).trans ?_
                                                by_cases h105 : c < (65536 : Int32)
                                                · have z105 : c.toInt < 65536 := (own_ltI (by decide)).mp h105
                                                  refine (if_pos h105).trans ?_
                                                  rfl
                                                · have z105 : ¬ (c.toInt < 65536) := fun q => h105 ((own_ltI (by decide)).mpr q)
                                                  refine (if_neg h105).trans ?_
                                                  by_cases h106 : (983039 : Int32) < c
                                                  · have z106 : 983039 < c.toInt := (own_gtI (by decide)).mp h106
                                                    refine (if_pos h106).trans ?_
                                                    rfl
                                                  · have z106 : ¬ (983039 < c.toInt) := fun q => h106 ((own_gtI (by decide)).mpr q)
                                                    refine (if_neg h106).trans ?_
                                                    exfalso
                                                    exact h (by omega)
                                              · have z104 : ¬ (65533 < c.toInt) := fun q => h104 ((own_gtI (by decide)).mpr q)
                                                refine (if_neg h104).trans ?_
                                                exfalso
                                                exact h (by omega)
                                          · have z102 : ¬ (64975 < c.toInt) := fun q => h102 ((own_gtI (by decide)).mpr q)
                                            refine (if_neg h102).trans ?_
                                            exfalso
                                            exact h (by omega)
                                      · have z100 : ¬ (55295 < c.toInt) := fun q => h100 ((own_gtI (by decide)).mpr q)
                                        refine (if_neg h100).trans ?_
                                        exfalso
                                        exact h (by omega)
                                  · have z98 : ¬ (12271 < c.toInt) := fun q => h98 ((own_gtI (by decide)).mpr q)
                                    refine (if_neg h98).trans ?_
                                    exfalso
                                    exact h (by omega)
                              · have z96 : ¬ (8591 < c.toInt) := fun q => h96 ((own_gtI (by decide)).mpr q)
                                refine (if_neg h96).trans ?_
                                exfalso
                                exact h (by omega)
                          · have z94 : ¬ (8205 < c.toInt) := fun q => h94 ((own_gtI (by decide)).mpr q)
                            refine (if_neg h94).trans ?_
                            exfalso
                            exact h (by omega)
                      · have z92 : ¬ (8191 < c.toInt) := fun q => h92 ((own_gtI (by decide)).mpr q)
                        refine (if_neg h92).trans ?_
                        exfalso
                        exact h (by omega)
                · have z89 : ¬ (767 < c.toInt) := fun q => h89 ((own_gtI (by decide)).mpr q)
                  refine (if_neg h89).trans ?_
                  exfalso
                  exact h (by omega)
        · have z85 : ¬ (122 < c.toInt) := fun q => h85 ((own_gtI (by decide)).mpr q)
          refine (if_neg h85).trans ?_
          exfalso
          exact h (by omega)
    · have z83 : ¬ (90 < c.toInt) := fun q => h83 ((own_gtI (by decide)).mpr q)
      refine (if_neg h83).trans ?_
      exfalso
      exact h (by omega)
theorem own_law (c : Int32) : ¬ (f1 c = f2 c) := by
  by_cases h : (65 ≤ c.toInt ∧ c.toInt ≤ 90) ∨ (97 ≤ c.toInt ∧ c.toInt ≤ 122) ∨ (192 ≤ c.toInt ∧ c.toInt ≤ 214) ∨ (216 ≤ c.toInt ∧ c.toInt ≤ 246) ∨ (248 ≤ c.toInt ∧ c.toInt ≤ 767) ∨ (880 ≤ c.toInt ∧ c.toInt ≤ 893) ∨ (895 ≤ c.toInt ∧ c.toInt ≤ 8191) ∨ (8204 ≤ c.toInt ∧ c.toInt ≤ 8205) ∨ (8304 ≤ c.toInt ∧ c.toInt ≤ 8591) ∨ (11264 ≤ c.toInt ∧ c.toInt ≤ 12271) ∨ (12289 ≤ c.toInt ∧ c.toInt ≤ 55295) ∨ (63744 ≤ c.toInt ∧ c.toInt ≤ 64975) ∨ (65008 ≤ c.toInt ∧ c.toInt ≤ 65533) ∨ (65536 ≤ c.toInt ∧ c.toInt ≤ 983039)
  · rw [own_f1T c h, own_f2T c h]
    decide
  · rw [own_f1F c h, own_f2F c h]
    decide
theorem own_pair (k : Nat) (h : k < 14) : ∃ a b : Int32, ([(.int (65 : Int32)), (.int (97 : Int32)), (.int (192 : Int32)), (.int (216 : Int32)), (.int (248 : Int32)), (.int (880 : Int32)), (.int (895 : Int32)), (.int (8204 : Int32)), (.int (8304 : Int32)), (.int (11264 : Int32)), (.int (12289 : Int32)), (.int (63744 : Int32)), (.int (65008 : Int32)), (.int (65536 : Int32))] : List Value).getD k (.int (0 : Int32)) = .int a ∧ ([(.int (90 : Int32)), (.int (122 : Int32)), (.int (214 : Int32)), (.int (246 : Int32)), (.int (767 : Int32)), (.int (893 : Int32)), (.int (8191 : Int32)), (.int (8205 : Int32)), (.int (8591 : Int32)), (.int (12271 : Int32)), (.int (55295 : Int32)), (.int (64975 : Int32)), (.int (65533 : Int32)), (.int (983039 : Int32))] : List Value).getD k (.int (0 : Int32)) = .int b ∧ ((a.toInt = 65 ∧ b.toInt = 90) ∨ (a.toInt = 97 ∧ b.toInt = 122) ∨ (a.toInt = 192 ∧ b.toInt = 214) ∨ (a.toInt = 216 ∧ b.toInt = 246) ∨ (a.toInt = 248 ∧ b.toInt = 767) ∨ (a.toInt = 880 ∧ b.toInt = 893) ∨ (a.toInt = 895 ∧ b.toInt = 8191) ∨ (a.toInt = 8204 ∧ b.toInt = 8205) ∨ (a.toInt = 8304 ∧ b.toInt = 8591) ∨ (a.toInt = 11264 ∧ b.toInt = 12271) ∨ (a.toInt = 12289 ∧ b.toInt = 55295) ∨ (a.toInt = 63744 ∧ b.toInt = 64975) ∨ (a.toInt = 65008 ∧ b.toInt = 65533) ∨ (a.toInt = 65536 ∧ b.toInt = 983039)) := by
  match k, h with
  | 0, _ => exact ⟨(65 : Int32), (90 : Int32), rfl, rfl, by decide⟩
  | 1, _ => exact ⟨(97 : Int32), (122 : Int32), rfl, rfl, by decide⟩
  | 2, _ => exact ⟨(192 : Int32), (214 : Int32), rfl, rfl, by decide⟩
  | 3, _ => exact ⟨(216 : Int32), (246 : Int32), rfl, rfl, by decide⟩
  | 4, _ => exact ⟨(248 : Int32), (767 : Int32), rfl, rfl, by decide⟩
  | 5, _ => exact ⟨(880 : Int32), (893 : Int32), rfl, rfl, by decide⟩
  | 6, _ => exact ⟨(895 : Int32), (8191 : Int32), rfl, rfl, by decide⟩
  | 7, _ => exact ⟨(8204 : Int32), (8205 : Int32), rfl, rfl, by decide⟩
  | 8, _ => exact ⟨(8304 : Int32), (8591 : Int32), rfl, rfl, by decide⟩
  | 9, _ => exact ⟨(11264 : Int32), (12271 : Int32), rfl, rfl, by decide⟩
  | 10, _ => exact ⟨(12289 : Int32), (55295 : Int32), rfl, rfl, by decide⟩
  | 11, _ => exact ⟨(63744 : Int32), (64975 : Int32), rfl, rfl, by decide⟩
  | 12, _ => exact ⟨(65008 : Int32), (65533 : Int32), rfl, rfl, by decide⟩
  | 13, _ => exact ⟨(65536 : Int32), (983039 : Int32), rfl, rfl, by decide⟩
theorem own_idx (x : Int32) : ¬ ((x &&& (2147483647 : Int32)) % (14 : Int32)) < 0 ∧ ((x &&& (2147483647 : Int32)) % (14 : Int32)) < (14 : Int32) := by
  have h := c_mask x (2147483647 : Int32) 31 (by decide) (by decide)
  have h2 := (c_irem (x &&& (2147483647 : Int32)) (14 : Int32) 14 (by decide)).1 (by omega)
  simp only [Int32.lt_iff_toInt_lt, Int32.reduceToInt]
  omega
theorem own_nz (a b : Int32) (h : (a.toInt = 65 ∧ b.toInt = 90) ∨ (a.toInt = 97 ∧ b.toInt = 122) ∨ (a.toInt = 192 ∧ b.toInt = 214) ∨ (a.toInt = 216 ∧ b.toInt = 246) ∨ (a.toInt = 248 ∧ b.toInt = 767) ∨ (a.toInt = 880 ∧ b.toInt = 893) ∨ (a.toInt = 895 ∧ b.toInt = 8191) ∨ (a.toInt = 8204 ∧ b.toInt = 8205) ∨ (a.toInt = 8304 ∧ b.toInt = 8591) ∨ (a.toInt = 11264 ∧ b.toInt = 12271) ∨ (a.toInt = 12289 ∧ b.toInt = 55295) ∨ (a.toInt = 63744 ∧ b.toInt = 64975) ∨ (a.toInt = 65008 ∧ b.toInt = 65533) ∨ (a.toInt = 65536 ∧ b.toInt = 983039)) : ((b - a) + (1 : Int32)) ≠ 0 := by
  have e1 := c_isub b a
  have e2 := c_iadd (b - a) (1 : Int32)
  have r1 := rng32 (b - a)
  have r2 := rng32 ((b - a) + (1 : Int32))
  intro q
  rw [← Int32.toInt_inj] at q
  simp only [Int32.reduceToInt] at *
  omega
theorem own_ins (a b d : Int32) (h : (a.toInt = 65 ∧ b.toInt = 90) ∨ (a.toInt = 97 ∧ b.toInt = 122) ∨ (a.toInt = 192 ∧ b.toInt = 214) ∨ (a.toInt = 216 ∧ b.toInt = 246) ∨ (a.toInt = 248 ∧ b.toInt = 767) ∨ (a.toInt = 880 ∧ b.toInt = 893) ∨ (a.toInt = 895 ∧ b.toInt = 8191) ∨ (a.toInt = 8204 ∧ b.toInt = 8205) ∨ (a.toInt = 8304 ∧ b.toInt = 8591) ∨ (a.toInt = 11264 ∧ b.toInt = 12271) ∨ (a.toInt = 12289 ∧ b.toInt = 55295) ∨ (a.toInt = 63744 ∧ b.toInt = 64975) ∨ (a.toInt = 65008 ∧ b.toInt = 65533) ∨ (a.toInt = 65536 ∧ b.toInt = 983039)) : a.toInt ≤ (a + ((d &&& (2147483647 : Int32)) % ((b - a) + (1 : Int32)))).toInt ∧ (a + ((d &&& (2147483647 : Int32)) % ((b - a) + (1 : Int32)))).toInt ≤ b.toInt := by
  have e1 := c_isub b a
  have e2 := c_iadd (b - a) (1 : Int32)
  have r1 := rng32 (b - a)
  have r2 := rng32 ((b - a) + (1 : Int32))
  have hm := c_mask d (2147483647 : Int32) 31 (by decide) (by decide)
  have hr := (c_iremV (d &&& (2147483647 : Int32)) ((b - a) + (1 : Int32))).1
  have e3 := c_iadd a ((d &&& (2147483647 : Int32)) % ((b - a) + (1 : Int32)))
  have r3 := rng32 (a + ((d &&& (2147483647 : Int32)) % ((b - a) + (1 : Int32))))
  simp only [Int32.reduceToInt] at *
  have hr' := hr (by omega) (by omega)
  omega
theorem own_in (a b c : Int32) (h : (a.toInt = 65 ∧ b.toInt = 90) ∨ (a.toInt = 97 ∧ b.toInt = 122) ∨ (a.toInt = 192 ∧ b.toInt = 214) ∨ (a.toInt = 216 ∧ b.toInt = 246) ∨ (a.toInt = 248 ∧ b.toInt = 767) ∨ (a.toInt = 880 ∧ b.toInt = 893) ∨ (a.toInt = 895 ∧ b.toInt = 8191) ∨ (a.toInt = 8204 ∧ b.toInt = 8205) ∨ (a.toInt = 8304 ∧ b.toInt = 8591) ∨ (a.toInt = 11264 ∧ b.toInt = 12271) ∨ (a.toInt = 12289 ∧ b.toInt = 55295) ∨ (a.toInt = 63744 ∧ b.toInt = 64975) ∨ (a.toInt = 65008 ∧ b.toInt = 65533) ∨ (a.toInt = 65536 ∧ b.toInt = 983039)) (h1 : a.toInt ≤ c.toInt) (h2 : c.toInt ≤ b.toInt) : f1 c = (1 : Int32) := by
  refine own_f1T c ?_
  rcases h with ⟨a1, b1⟩ | ⟨a1, b1⟩ | ⟨a1, b1⟩ | ⟨a1, b1⟩ | ⟨a1, b1⟩ | ⟨a1, b1⟩ | ⟨a1, b1⟩ | ⟨a1, b1⟩ | ⟨a1, b1⟩ | ⟨a1, b1⟩ | ⟨a1, b1⟩ | ⟨a1, b1⟩ | ⟨a1, b1⟩ | ⟨a1, b1⟩
  · exact Or.inl ⟨by omega, by omega⟩
  · exact Or.inr (Or.inl ⟨by omega, by omega⟩)
  · exact Or.inr (Or.inr (Or.inl ⟨by omega, by omega⟩))
  · exact Or.inr (Or.inr (Or.inr (Or.inl ⟨by omega, by omega⟩)))
  · exact Or.inr (Or.inr (Or.inr (Or.inr (Or.inl ⟨by omega, by omega⟩))))
  · exact Or.inr (Or.inr (Or.inr (Or.inr (Or.inr (Or.inl ⟨by omega, by omega⟩)))))
  · exact Or.inr (Or.inr (Or.inr (Or.inr (Or.inr (Or.inr (Or.inl ⟨by omega, by omega⟩))))))
  · exact Or.inr (Or.inr (Or.inr (Or.inr (Or.inr (Or.inr (Or.inr (Or.inl ⟨by omega, by omega⟩)))))))
  · exact Or.inr (Or.inr (Or.inr (Or.inr (Or.inr (Or.inr (Or.inr (Or.inr (Or.inl ⟨by omega, by omega⟩))))))))
  · exact Or.inr (Or.inr (Or.inr (Or.inr (Or.inr (Or.inr (Or.inr (Or.inr (Or.inr (Or.inl ⟨by omega, by omega⟩)))))))))
  · exact Or.inr (Or.inr (Or.inr (Or.inr (Or.inr (Or.inr (Or.inr (Or.inr (Or.inr (Or.inr (Or.inl ⟨by omega, by omega⟩))))))))))
  · exact Or.inr (Or.inr (Or.inr (Or.inr (Or.inr (Or.inr (Or.inr (Or.inr (Or.inr (Or.inr (Or.inr (Or.inl ⟨by omega, by omega⟩)))))))))))
  · exact Or.inr (Or.inr (Or.inr (Or.inr (Or.inr (Or.inr (Or.inr (Or.inr (Or.inr (Or.inr (Or.inr (Or.inr (Or.inl ⟨by omega, by omega⟩))))))))))))
  · exact Or.inr (Or.inr (Or.inr (Or.inr (Or.inr (Or.inr (Or.inr (Or.inr (Or.inr (Or.inr (Or.inr (Or.inr (Or.inr (⟨by omega, by omega⟩)))))))))))))
theorem own_below (a b : Int32) (h : (a.toInt = 65 ∧ b.toInt = 90) ∨ (a.toInt = 97 ∧ b.toInt = 122) ∨ (a.toInt = 192 ∧ b.toInt = 214) ∨ (a.toInt = 216 ∧ b.toInt = 246) ∨ (a.toInt = 248 ∧ b.toInt = 767) ∨ (a.toInt = 880 ∧ b.toInt = 893) ∨ (a.toInt = 895 ∧ b.toInt = 8191) ∨ (a.toInt = 8204 ∧ b.toInt = 8205) ∨ (a.toInt = 8304 ∧ b.toInt = 8591) ∨ (a.toInt = 11264 ∧ b.toInt = 12271) ∨ (a.toInt = 12289 ∧ b.toInt = 55295) ∨ (a.toInt = 63744 ∧ b.toInt = 64975) ∨ (a.toInt = 65008 ∧ b.toInt = 65533) ∨ (a.toInt = 65536 ∧ b.toInt = 983039)) : f1 (a - (1 : Int32)) = (0 : Int32) := by
  have e := c_isub a (1 : Int32)
  have r := rng32 (a - (1 : Int32))
  simp only [Int32.reduceToInt] at *
  refine own_f1F _ (fun q => ?_)
  rcases h with ⟨a1, b1⟩ | ⟨a1, b1⟩ | ⟨a1, b1⟩ | ⟨a1, b1⟩ | ⟨a1, b1⟩ | ⟨a1, b1⟩ | ⟨a1, b1⟩ | ⟨a1, b1⟩ | ⟨a1, b1⟩ | ⟨a1, b1⟩ | ⟨a1, b1⟩ | ⟨a1, b1⟩ | ⟨a1, b1⟩ | ⟨a1, b1⟩ <;> rcases q with ⟨c1, d1⟩ | ⟨c1, d1⟩ | ⟨c1, d1⟩ | ⟨c1, d1⟩ | ⟨c1, d1⟩ | ⟨c1, d1⟩ | ⟨c1, d1⟩ | ⟨c1, d1⟩ | ⟨c1, d1⟩ | ⟨c1, d1⟩ | ⟨c1, d1⟩ | ⟨c1, d1⟩ | ⟨c1, d1⟩ | ⟨c1, d1⟩ <;> omega
theorem own_above (a b : Int32) (h : (a.toInt = 65 ∧ b.toInt = 90) ∨ (a.toInt = 97 ∧ b.toInt = 122) ∨ (a.toInt = 192 ∧ b.toInt = 214) ∨ (a.toInt = 216 ∧ b.toInt = 246) ∨ (a.toInt = 248 ∧ b.toInt = 767) ∨ (a.toInt = 880 ∧ b.toInt = 893) ∨ (a.toInt = 895 ∧ b.toInt = 8191) ∨ (a.toInt = 8204 ∧ b.toInt = 8205) ∨ (a.toInt = 8304 ∧ b.toInt = 8591) ∨ (a.toInt = 11264 ∧ b.toInt = 12271) ∨ (a.toInt = 12289 ∧ b.toInt = 55295) ∨ (a.toInt = 63744 ∧ b.toInt = 64975) ∨ (a.toInt = 65008 ∧ b.toInt = 65533) ∨ (a.toInt = 65536 ∧ b.toInt = 983039)) : f1 (b + (1 : Int32)) = (0 : Int32) := by
  have e := c_iadd b (1 : Int32)
  have r := rng32 (b + (1 : Int32))
  simp only [Int32.reduceToInt] at *
  refine own_f1F _ (fun q => ?_)
  rcases h with ⟨a1, b1⟩ | ⟨a1, b1⟩ | ⟨a1, b1⟩ | ⟨a1, b1⟩ | ⟨a1, b1⟩ | ⟨a1, b1⟩ | ⟨a1, b1⟩ | ⟨a1, b1⟩ | ⟨a1, b1⟩ | ⟨a1, b1⟩ | ⟨a1, b1⟩ | ⟨a1, b1⟩ | ⟨a1, b1⟩ | ⟨a1, b1⟩ <;> rcases q with ⟨c1, d1⟩ | ⟨c1, d1⟩ | ⟨c1, d1⟩ | ⟨c1, d1⟩ | ⟨c1, d1⟩ | ⟨c1, d1⟩ | ⟨c1, d1⟩ | ⟨c1, d1⟩ | ⟨c1, d1⟩ | ⟨c1, d1⟩ | ⟨c1, d1⟩ | ⟨c1, d1⟩ | ⟨c1, d1⟩ | ⟨c1, d1⟩ <;> omega
theorem own_le (a b : Int32) (h : (a.toInt = 65 ∧ b.toInt = 90) ∨ (a.toInt = 97 ∧ b.toInt = 122) ∨ (a.toInt = 192 ∧ b.toInt = 214) ∨ (a.toInt = 216 ∧ b.toInt = 246) ∨ (a.toInt = 248 ∧ b.toInt = 767) ∨ (a.toInt = 880 ∧ b.toInt = 893) ∨ (a.toInt = 895 ∧ b.toInt = 8191) ∨ (a.toInt = 8204 ∧ b.toInt = 8205) ∨ (a.toInt = 8304 ∧ b.toInt = 8591) ∨ (a.toInt = 11264 ∧ b.toInt = 12271) ∨ (a.toInt = 12289 ∧ b.toInt = 55295) ∨ (a.toInt = 63744 ∧ b.toInt = 64975) ∨ (a.toInt = 65008 ∧ b.toInt = 65533) ∨ (a.toInt = 65536 ∧ b.toInt = 983039)) : a.toInt ≤ b.toInt := by omega
theorem pd__I_Z : parseMethodDescriptor "(I)Z" = some ⟨[.int], some .boolean⟩ := by decide +kernel
theorem own_irem (x y : Int32) : x - (x / y) * y = x % y := by
  rw [← Int32.toInt_inj, Int32.toInt_sub, Int32.toInt_mul, Int32.toInt_div, Int.bmod_mul_bmod, Int.sub_bmod_bmod, Int.mul_comm, ← Int.tmod_def, ← Int32.toInt_mod]
  exact Int32.toInt_bmod _
theorem ef0 (m : MethodId) (x0 : Int32) (x1 : Int32) (x2 : Int32) : entryFrame m #[(.int x0), (.int x1), (.int x2)] maxLocals = mkF m 0 #[.val (.int x0), .val (.int x1), .val (.int x2), .unset, .unset, .unset, .unset, .unset, .unset] [] := by first | (simp [entryFrame, mkF, argsToLocals, Value.category, maxLocals]; done) | rfl
def Q0 (Z : State) (p0 : Int32) (p1 : Int32) (p2 : Int32) (h0 : Heap) (n0 : Nat) (v : Option Value) (h : Heap) (L : List Loc) : Prop := v = some (.int 1) ∧ Fr n0 L
set_option maxRecDepth 65536 in
set_option maxHeartbeats 40000000 in
theorem rm0 (l : Launch) (Z : State) (av : Array Value) (hw : ∀ d ∈ tables_1, d.before av Z = true) (ws : List Jvm.Cond) (p0 : Int32) (p1 : Int32) (p2 : Int32) (h0 : Heap) (n0 : Nat) (Z0 : n0 ≤ h0.size) :
    MetFree l x (head1 (Jvm.Cond.code x code maxLocals ret :: ws) room_1) (fun a U => a = #[(.int p0), (.int p1), (.int p2)] ∧ Z.Warmed39 U.vm ∧ U.heap = h0) (fun _ _ _ _ _ => True) (fun _ U o U' => ∃ v L, o = .returned v ∧ Q0 Z p0 p1 p2 h0 n0 v U'.heap L ∧ FrameEnd U o U' L room_1.cells room_1.slots) := by
  refine MetFree.of_bodySF (plainFor_of_name pn_com_example_shapelint_shapelint_NamesIsBasePinLaw) hisR ?_
  intro p e s m args below meth c s₁ Bd hml0 hP hK
  obtain ⟨rfl, hZ, hh⟩ := hP
  have hx := Bd.exec
  have hby := Bd.bytes
  have hml : c.maxLocals = 9 := hml0
  have hown : s.vm.findClass "com/example/shapelint/shapelint/NamesIsBasePinLaw" = some m.cls := findClass_of_methodNamed Bd.named
  have hnm := (name_of_methodNamed Bd.named Bd.method).1
  have X0 : Stand p l e room_1 s m #[(.int p0), (.int p1), (.int p2)] below meth c s₁ [] 0 0 := Stand.of_body Bd
  have e0 : s₁.heap = h0 := by rw [← hh, Bd.state]; rfl
  have N0 := Fr.nil n0
  have K0 : Keep h0 h0 [] := Keep.refl h0 []
  have pre0 : ∀ t, Steps p.tables e below (s₁.setTop (mkF m 0 #[.val (.int p0), .val (.int p1), .val (.int p2), .unset, .unset, .unset, .unset, .unset, .unset] [])) t → Steps p.tables e below (s₁.setTop (entryFrame m #[(.int p0), (.int p1), (.int p2)] maxLocals)) t := fun t k => castTop (ef0 m p0 p1 p2) k
  have pre1 : ∀ t, Steps p.tables e below (s₁.setTop (mkF m 1 #[.val (.int p0), .val (.int p1), .val (.int p2), .unset, .unset, .unset, .unset, .unset, .unset] [(.int p0)])) t → Steps p.tables e below (s₁.setTop (entryFrame m #[(.int p0), (.int p1), (.int p2)] maxLocals)) t := fun t kt => pre0 t (by
    show Steps p.tables e below (s₁.setTop (mkF m 0 #[.val (.int p0), .val (.int p1), .val (.int p2), .unset, .unset, .unset, .unset, .unset, .unset] [])) _
    refine XS.iloadN X0.here hx rfl (hb hby at_0) rfl ?_
    exact kt)
  clear pre0
  obtain ⟨_, _, ⟨T2, L2, k2, n2⟩, -, X2, ⟨Lc2, hQ2, l2, y2, z2⟩, st2⟩ := Jvm.LawKit.callS X0 hx (y := (⟨"com/example/shapelint/shapelint/Names", "isBase", "(I)Z"⟩ : MethodName)) hown (mvT hZ (hw _ (List.mem_of_getElem? (i := 0) rfl))) (mvT hZ (hw _ (List.mem_of_getElem? (i := 1) rfl))) (mvT hZ (hw _ (List.mem_of_getElem? (i := 2) rfl))) (mvT hZ (hw _ (List.mem_of_getElem? (i := 3) rfl))) (by decide) (backOf (W := 0) (rm1 l Z av hw [] p0  h0 n0 Z0 ) hZ (hw _ (List.mem_of_getElem? (i := 3) rfl)) (hw _ (List.mem_of_getElem? (i := 2) rfl)) (by decide) (by decide)) (g := (mkF m 1 #[.val (.int p0), .val (.int p1), .val (.int p2), .unset, .unset, .unset, .unset, .unset, .unset] [(.int p0)])) rfl (by rw [hml]; rfl) (argsL := [(.int p0)]) (rest := []) (lenOf pd__I_Z rfl) rfl (by show 2 * 0 + _ ≤ _; exact Nat.le_of_eq rfl) (hb hby at_1) (fun _ _ => ⟨rfl, e0, (by decide : 0 + 0 ≤ _), (by decide : 0 + 0 ≤ _)⟩)
  dsimp only [Pt.U, Pt.locs, Pt.cells, Pt.slots] at X2 l2 y2 z2 st2 hQ2
  rw [l2, y2, z2] at X2
  clear l2 y2 z2
  obtain ⟨rfl, N2q, e2⟩ := hQ2
  have N2 := Fr.app N0 N2q
  have pre3 : ∀ t, Steps p.tables e below (T2.setTop (mkF m 4 #[.val (.int p0), .val (.int p1), .val (.int p2), .unset, .unset, .unset, .unset, .unset, .unset] [(.int (f1 p0))])) t → Steps p.tables e below (s₁.setTop (entryFrame m #[(.int p0), (.int p1), (.int p2)] maxLocals)) t := fun t kt => pre1 t (st2 _ kt)
  clear pre1 st2
  have pre4 : ∀ t, Steps p.tables e below (T2.setTop (mkF m 5 #[.val (.int p0), .val (.int p1), .val (.int p2), .unset, .unset, .unset, .unset, .unset, .unset] [(.int p0), (.int (f1 p0))])) t → Steps p.tables e below (s₁.setTop (entryFrame m #[(.int p0), (.int p1), (.int p2)] maxLocals)) t := fun t kt => pre3 t (by
    show Steps p.tables e below (T2.setTop (mkF m 4 #[.val (.int p0), .val (.int p1), .val (.int p2), .unset, .unset, .unset, .unset, .unset, .unset] [(.int (f1 p0))])) _
    refine XS.iloadN X2.here hx rfl (hb hby at_4) rfl ?_
    exact kt)
  clear pre3
  obtain ⟨_, _, ⟨T5, L5, k5, n5⟩, -, X5, ⟨Lc5, hQ5, l5, y5, z5⟩, st5⟩ := Jvm.LawKit.callS X2 hx (y := (⟨"com/example/shapelint/shapelint/NamesIsBasePinLaw", "inGap", "(I)Z"⟩ : MethodName)) hown (mvT hZ (hw _ (List.mem_of_getElem? (i := 7) rfl))) (mvT hZ (hw _ (List.mem_of_getElem? (i := 8) rfl))) (mvT hZ (hw _ (List.mem_of_getElem? (i := 9) rfl))) (mvT hZ (hw _ (List.mem_of_getElem? (i := 10) rfl))) (by decide) (backOf (W := 1) (rm2 l Z av hw [] p0  h0 n0 Z0 ) hZ (hw _ (List.mem_of_getElem? (i := 10) rfl)) (hw _ (List.mem_of_getElem? (i := 9) rfl)) (by decide) (by decide)) (g := (mkF m 5 #[.val (.int p0), .val (.int p1), .val (.int p2), .unset, .unset, .unset, .unset, .unset, .unset] [(.int p0), (.int (f1 p0))])) rfl (by rw [hml]; rfl) (argsL := [(.int p0)]) (rest := [(.int (f1 p0))]) (lenOf pd__I_Z rfl) rfl (by show 2 * 0 + _ ≤ _; exact Nat.le_of_eq rfl) (hb hby at_5) (fun _ _ => ⟨rfl, e2, (by decide : 0 + 0 ≤ _), (by decide : 0 + 0 ≤ _)⟩)
  dsimp only [Pt.U, Pt.locs, Pt.cells, Pt.slots] at X5 l5 y5 z5 st5 hQ5
  rw [l5, y5, z5] at X5
  clear l5 y5 z5
  obtain ⟨rfl, N5q, e5⟩ := hQ5
  have N5 := Fr.app N2 N5q
  have pre6 : ∀ t, Steps p.tables e below (T5.setTop (mkF m 8 #[.val (.int p0), .val (.int p1), .val (.int p2), .unset, .unset, .unset, .unset, .unset, .unset] [(.int (f2 p0)), (.int (f1 p0))])) t → Steps p.tables e below (s₁.setTop (entryFrame m #[(.int p0), (.int p1), (.int p2)] maxLocals)) t := fun t kt => pre4 t (st5 _ kt)
  clear pre4 st5
  have pre7 : ∀ t, Steps p.tables e below (T5.setTop (mkF m 15 #[.val (.int p0), .val (.int p1), .val (.int p2), .unset, .unset, .unset, .unset, .unset, .unset] [(.int (14 : Int32))])) t → Steps p.tables e below (s₁.setTop (entryFrame m #[(.int p0), (.int p1), (.int p2)] maxLocals)) t := fun t kt => pre6 t (by
    show Steps p.tables e below (T5.setTop (mkF m 8 #[.val (.int p0), .val (.int p1), .val (.int p2), .unset, .unset, .unset, .unset, .unset, .unset] [(.int (f2 p0)), (.int (f1 p0))])) _
    refine XS.icmpYes X5.here hx rfl (pc0 := 8) (pc' := 13) rfl (hb hby at_8) rfl (feq (own_law p0)).2 (by decide) (by decide) ?_
    show Steps p.tables e below (T5.setTop (mkF m 13 #[.val (.int p0), .val (.int p1), .val (.int p2), .unset, .unset, .unset, .unset, .unset, .unset] [])) _
    refine XS.bipush X5.here hx rfl (hb hby at_13) ?_
    exact kt)
  clear pre6
  obtain ⟨T8, h8, k8, X8, e8, E8, A8, st8⟩ := newP X5 hx hZ (hw _ (List.mem_of_getElem? (i := 11) rfl)) e5 (g := (mkF m 15 #[.val (.int p0), .val (.int p1), .val (.int p2), .unset, .unset, .unset, .unset, .unset, .unset] [(.int (14 : Int32))])) rfl (hb hby at_15) rfl (by decide) (cap := 14) (by decide) (by decide) (by decide) (by decide)
  obtain ⟨b8, g8⟩ : ∃ z, z = h0.size := ⟨_, rfl⟩
  rw [← g8] at A8 st8
  have pre9 : ∀ t, Steps p.tables e below (T8.setTop (mkF m 17 #[.val (.int p0), .val (.int p1), .val (.int p2), .unset, .unset, .unset, .unset, .unset, .unset] [(.ref b8)])) t → Steps p.tables e below (s₁.setTop (entryFrame m #[(.int p0), (.int p1), (.int p2)] maxLocals)) t := fun t kt => pre7 t (st8 _ kt)
  clear pre7 st8
  have gn8 : n0 ≤ b8 := Nat.le_trans Z0 (Nat.le_of_eq g8.symm)
  have sz8 : h0.size ≤ b8 := Nat.le_trans K0.1 (Nat.le_of_eq g8.symm)
  have K8 : Keep h0 h8 [] := K0.ext E8
  have Z8 : n0 ≤ h8.size := Nat.le_trans Z0 E8.1
  have V8 : Arv Z h8 b8 k8 .int (14 : Int32) [(.int (0 : Int32)), (.int (0 : Int32)), (.int (0 : Int32)), (.int (0 : Int32)), (.int (0 : Int32)), (.int (0 : Int32)), (.int (0 : Int32)), (.int (0 : Int32)), (.int (0 : Int32)), (.int (0 : Int32)), (.int (0 : Int32)), (.int (0 : Int32)), (.int (0 : Int32)), (.int (0 : Int32))] (.int (0 : Int32)) := (Arv.new A8 (by decide)).pad (pad_rep [] (.int (0 : Int32)) 14)
  have pre10 : ∀ t, Steps p.tables e below (T8.setTop (mkF m 21 #[.val (.int p0), .val (.int p1), .val (.int p2), .unset, .unset, .unset, .unset, .unset, .unset] [(.int (65 : Int32)), (.int (0 : Int32)), (.ref b8), (.ref b8)])) t → Steps p.tables e below (s₁.setTop (entryFrame m #[(.int p0), (.int p1), (.int p2)] maxLocals)) t := fun t kt => pre9 t (by
    show Steps p.tables e below (T8.setTop (mkF m 17 #[.val (.int p0), .val (.int p1), .val (.int p2), .unset, .unset, .unset, .unset, .unset, .unset] [(.ref b8)])) _
    refine XS.dup X8.here hx rfl (hb hby at_17) rfl rfl ?_
    show Steps p.tables e below (T8.setTop (mkF m 18 #[.val (.int p0), .val (.int p1), .val (.int p2), .unset, .unset, .unset, .unset, .unset, .unset] [(.ref b8), (.ref b8)])) _
    refine XS.iconst X8.here hx rfl (hb hby at_18) ?_
    show Steps p.tables e below (T8.setTop (mkF m 19 #[.val (.int p0), .val (.int p1), .val (.int p2), .unset, .unset, .unset, .unset, .unset, .unset] [(.int (0 : Int32)), (.ref b8), (.ref b8)])) _
    refine XS.bipush X8.here hx rfl (hb hby at_19) ?_
    exact kt)
  clear pre9
  have tv11 := V8
  obtain ⟨cl11, Ar11, q11, S11, Ng11, H11, G11⟩ := tv11
  have hin11 : ¬ ((0 : Int32) < 0 ∨ cl11.slots.size ≤ ((0 : Int32)).toNatClampNeg) := inb_of S11 ⟨by decide, by decide⟩
  obtain ⟨T12, h12, X12, e12, W12, st12⟩ := stI X8 hx hZ e8 Ar11 (j := (0 : Int32)) hin11 (g := (mkF m 21 #[.val (.int p0), .val (.int p1), .val (.int p2), .unset, .unset, .unset, .unset, .unset, .unset] [(.int (65 : Int32)), (.int (0 : Int32)), (.ref b8), (.ref b8)])) rfl rfl (hb hby at_21)
  have pre13 : ∀ t, Steps p.tables e below (T12.setTop (mkF m 22 #[.val (.int p0), .val (.int p1), .val (.int p2), .unset, .unset, .unset, .unset, .unset, .unset] [(.ref b8)])) t → Steps p.tables e below (s₁.setTop (entryFrame m #[(.int p0), (.int p1), (.int p2)] maxLocals)) t := fun t kt => pre10 t (st12 _ kt)
  clear pre10 st12
  have V12 : Arv Z h12 b8 k8 .int (14 : Int32) [(.int (65 : Int32)), (.int (0 : Int32)), (.int (0 : Int32)), (.int (0 : Int32)), (.int (0 : Int32)), (.int (0 : Int32)), (.int (0 : Int32)), (.int (0 : Int32)), (.int (0 : Int32)), (.int (0 : Int32)), (.int (0 : Int32)), (.int (0 : Int32)), (.int (0 : Int32)), (.int (0 : Int32))] (.int (0 : Int32)) := Arv.set Ar11 q11 S11 Ng11 H11 G11 rfl W12 0 rfl (Nat.le_of_ble_eq_true rfl)
  have K12 : Keep h0 h12 [] := K8.wr W12 (Or.inr sz8)
  have N12 := Fr.snoc X12 N5 gn8
  have Z12 : n0 ≤ h12.size := Nat.le_trans Z8 (Keep.of_wr W12).1
  have pre14 : ∀ t, Steps p.tables e below (T12.setTop (mkF m 26 #[.val (.int p0), .val (.int p1), .val (.int p2), .unset, .unset, .unset, .unset, .unset, .unset] [(.int (97 : Int32)), (.int (1 : Int32)), (.ref b8), (.ref b8)])) t → Steps p.tables e below (s₁.setTop (entryFrame m #[(.int p0), (.int p1), (.int p2)] maxLocals)) t := fun t kt => pre13 t (by
    show Steps p.tables e below (T12.setTop (mkF m 22 #[.val (.int p0), .val (.int p1), .val (.int p2), .unset, .unset, .unset, .unset, .unset, .unset] [(.ref b8)])) _
    refine XS.dup X12.here hx rfl (hb hby at_22) rfl rfl ?_
    show Steps p.tables e below (T12.setTop (mkF m 23 #[.val (.int p0), .val (.int p1), .val (.int p2), .unset, .unset, .unset, .unset, .unset, .unset] [(.ref b8), (.ref b8)])) _
    refine XS.iconst X12.here hx rfl (hb hby at_23) ?_
    show Steps p.tables e below (T12.setTop (mkF m 24 #[.val (.int p0), .val (.int p1), .val (.int p2), .unset, .unset, .unset, .unset, .unset, .unset] [(.int (1 : Int32)), (.ref b8), (.ref b8)])) _
    refine XS.bipush X12.here hx rfl (hb hby at_24) ?_
    exact kt)
  clear pre13
  have tv15 := V12
  obtain ⟨cl15, Ar15, q15, S15, Ng15, H15, G15⟩ := tv15
  have hin15 : ¬ ((1 : Int32) < 0 ∨ cl15.slots.size ≤ ((1 : Int32)).toNatClampNeg) := inb_of S15 ⟨by decide, by decide⟩
  obtain ⟨T16, h16, X16, e16, W16, st16⟩ := stI X12 hx hZ e12 Ar15 (j := (1 : Int32)) hin15 (g := (mkF m 26 #[.val (.int p0), .val (.int p1), .val (.int p2), .unset, .unset, .unset, .unset, .unset, .unset] [(.int (97 : Int32)), (.int (1 : Int32)), (.ref b8), (.ref b8)])) rfl rfl (hb hby at_26)
  have pre17 : ∀ t, Steps p.tables e below (T16.setTop (mkF m 27 #[.val (.int p0), .val (.int p1), .val (.int p2), .unset, .unset, .unset, .unset, .unset, .unset] [(.ref b8)])) t → Steps p.tables e below (s₁.setTop (entryFrame m #[(.int p0), (.int p1), (.int p2)] maxLocals)) t := fun t kt => pre14 t (st16 _ kt)
  clear pre14 st16
  have V16 : Arv Z h16 b8 k8 .int (14 : Int32) [(.int (65 : Int32)), (.int (97 : Int32)), (.int (0 : Int32)), (.int (0 : Int32)), (.int (0 : Int32)), (.int (0 : Int32)), (.int (0 : Int32)), (.int (0 : Int32)), (.int (0 : Int32)), (.int (0 : Int32)), (.int (0 : Int32)), (.int (0 : Int32)), (.int (0 : Int32)), (.int (0 : Int32))] (.int (0 : Int32)) := Arv.set Ar15 q15 S15 Ng15 H15 G15 rfl W16 1 rfl (Nat.le_of_ble_eq_true rfl)
  have K16 : Keep h0 h16 [] := K12.wr W16 (Or.inr sz8)
  have N16 := Fr.snoc X16 N12 gn8
  have Z16 : n0 ≤ h16.size := Nat.le_trans Z12 (Keep.of_wr W16).1
  have pre18 : ∀ t, Steps p.tables e below (T16.setTop (mkF m 32 #[.val (.int p0), .val (.int p1), .val (.int p2), .unset, .unset, .unset, .unset, .unset, .unset] [(.int (192 : Int32)), (.int (2 : Int32)), (.ref b8), (.ref b8)])) t → Steps p.tables e below (s₁.setTop (entryFrame m #[(.int p0), (.int p1), (.int p2)] maxLocals)) t := fun t kt => pre17 t (by
    show Steps p.tables e below (T16.setTop (mkF m 27 #[.val (.int p0), .val (.int p1), .val (.int p2), .unset, .unset, .unset, .unset, .unset, .unset] [(.ref b8)])) _
    refine XS.dup X16.here hx rfl (hb hby at_27) rfl rfl ?_
    show Steps p.tables e below (T16.setTop (mkF m 28 #[.val (.int p0), .val (.int p1), .val (.int p2), .unset, .unset, .unset, .unset, .unset, .unset] [(.ref b8), (.ref b8)])) _
    refine XS.iconst X16.here hx rfl (hb hby at_28) ?_
    show Steps p.tables e below (T16.setTop (mkF m 29 #[.val (.int p0), .val (.int p1), .val (.int p2), .unset, .unset, .unset, .unset, .unset, .unset] [(.int (2 : Int32)), (.ref b8), (.ref b8)])) _
    refine XS.sipush X16.here hx rfl (hb hby at_29) ?_
    exact kt)
  clear pre17
  have tv19 := V16
  obtain ⟨cl19, Ar19, q19, S19, Ng19, H19, G19⟩ := tv19
  have hin19 : ¬ ((2 : Int32) < 0 ∨ cl19.slots.size ≤ ((2 : Int32)).toNatClampNeg) := inb_of S19 ⟨by decide, by decide⟩
  obtain ⟨T20, h20, X20, e20, W20, st20⟩ := stI X16 hx hZ e16 Ar19 (j := (2 : Int32)) hin19 (g := (mkF m 32 #[.val (.int p0), .val (.int p1), .val (.int p2), .unset, .unset, .unset, .unset, .unset, .unset] [(.int (192 : Int32)), (.int (2 : Int32)), (.ref b8), (.ref b8)])) rfl rfl (hb hby at_32)
  have pre21 : ∀ t, Steps p.tables e below (T20.setTop (mkF m 33 #[.val (.int p0), .val (.int p1), .val (.int p2), .unset, .unset, .unset, .unset, .unset, .unset] [(.ref b8)])) t → Steps p.tables e below (s₁.setTop (entryFrame m #[(.int p0), (.int p1), (.int p2)] maxLocals)) t := fun t kt => pre18 t (st20 _ kt)
  clear pre18 st20
  have V20 : Arv Z h20 b8 k8 .int (14 : Int32) [(.int (65 : Int32)), (.int (97 : Int32)), (.int (192 : Int32)), (.int (0 : Int32)), (.int (0 : Int32)), (.int (0 : Int32)), (.int (0 : Int32)), (.int (0 : Int32)), (.int (0 : Int32)), (.int (0 : Int32)), (.int (0 : Int32)), (.int (0 : Int32)), (.int (0 : Int32)), (.int (0 : Int32))] (.int (0 : Int32)) := Arv.set Ar19 q19 S19 Ng19 H19 G19 rfl W20 2 rfl (Nat.le_of_ble_eq_true rfl)
  have K20 : Keep h0 h20 [] := K16.wr W20 (Or.inr sz8)
  have N20 := Fr.snoc X20 N16 gn8
  have Z20 : n0 ≤ h20.size := Nat.le_trans Z16 (Keep.of_wr W20).1
  have pre22 : ∀ t, Steps p.tables e below (T20.setTop (mkF m 38 #[.val (.int p0), .val (.int p1), .val (.int p2), .unset, .unset, .unset, .unset, .unset, .unset] [(.int (216 : Int32)), (.int (3 : Int32)), (.ref b8), (.ref b8)])) t → Steps p.tables e below (s₁.setTop (entryFrame m #[(.int p0), (.int p1), (.int p2)] maxLocals)) t := fun t kt => pre21 t (by
    show Steps p.tables e below (T20.setTop (mkF m 33 #[.val (.int p0), .val (.int p1), .val (.int p2), .unset, .unset, .unset, .unset, .unset, .unset] [(.ref b8)])) _
    refine XS.dup X20.here hx rfl (hb hby at_33) rfl rfl ?_
    show Steps p.tables e below (T20.setTop (mkF m 34 #[.val (.int p0), .val (.int p1), .val (.int p2), .unset, .unset, .unset, .unset, .unset, .unset] [(.ref b8), (.ref b8)])) _
    refine XS.iconst X20.here hx rfl (hb hby at_34) ?_
    show Steps p.tables e below (T20.setTop (mkF m 35 #[.val (.int p0), .val (.int p1), .val (.int p2), .unset, .unset, .unset, .unset, .unset, .unset] [(.int (3 : Int32)), (.ref b8), (.ref b8)])) _
    refine XS.sipush X20.here hx rfl (hb hby at_35) ?_
    exact kt)
  clear pre21
  have tv23 := V20
  obtain ⟨cl23, Ar23, q23, S23, Ng23, H23, G23⟩ := tv23
  have hin23 : ¬ ((3 : Int32) < 0 ∨ cl23.slots.size ≤ ((3 : Int32)).toNatClampNeg) := inb_of S23 ⟨by decide, by decide⟩
  obtain ⟨T24, h24, X24, e24, W24, st24⟩ := stI X20 hx hZ e20 Ar23 (j := (3 : Int32)) hin23 (g := (mkF m 38 #[.val (.int p0), .val (.int p1), .val (.int p2), .unset, .unset, .unset, .unset, .unset, .unset] [(.int (216 : Int32)), (.int (3 : Int32)), (.ref b8), (.ref b8)])) rfl rfl (hb hby at_38)
  have pre25 : ∀ t, Steps p.tables e below (T24.setTop (mkF m 39 #[.val (.int p0), .val (.int p1), .val (.int p2), .unset, .unset, .unset, .unset, .unset, .unset] [(.ref b8)])) t → Steps p.tables e below (s₁.setTop (entryFrame m #[(.int p0), (.int p1), (.int p2)] maxLocals)) t := fun t kt => pre22 t (st24 _ kt)
  clear pre22 st24
  have V24 : Arv Z h24 b8 k8 .int (14 : Int32) [(.int (65 : Int32)), (.int (97 : Int32)), (.int (192 : Int32)), (.int (216 : Int32)), (.int (0 : Int32)), (.int (0 : Int32)), (.int (0 : Int32)), (.int (0 : Int32)), (.int (0 : Int32)), (.int (0 : Int32)), (.int (0 : Int32)), (.int (0 : Int32)), (.int (0 : Int32)), (.int (0 : Int32))] (.int (0 : Int32)) := Arv.set Ar23 q23 S23 Ng23 H23 G23 rfl W24 3 rfl (Nat.le_of_ble_eq_true rfl)
  have K24 : Keep h0 h24 [] := K20.wr W24 (Or.inr sz8)
  have N24 := Fr.snoc X24 N20 gn8
  have Z24 : n0 ≤ h24.size := Nat.le_trans Z20 (Keep.of_wr W24).1
  have pre26 : ∀ t, Steps p.tables e below (T24.setTop (mkF m 44 #[.val (.int p0), .val (.int p1), .val (.int p2), .unset, .unset, .unset, .unset, .unset, .unset] [(.int (248 : Int32)), (.int (4 : Int32)), (.ref b8), (.ref b8)])) t → Steps p.tables e below (s₁.setTop (entryFrame m #[(.int p0), (.int p1), (.int p2)] maxLocals)) t := fun t kt => pre25 t (by
    show Steps p.tables e below (T24.setTop (mkF m 39 #[.val (.int p0), .val (.int p1), .val (.int p2), .unset, .unset, .unset, .unset, .unset, .unset] [(.ref b8)])) _
    refine XS.dup X24.here hx rfl (hb hby at_39) rfl rfl ?_
    show Steps p.tables e below (T24.setTop (mkF m 40 #[.val (.int p0), .val (.int p1), .val (.int p2), .unset, .unset, .unset, .unset, .unset, .unset] [(.ref b8), (.ref b8)])) _
    refine XS.iconst X24.here hx rfl (hb hby at_40) ?_
    show Steps p.tables e below (T24.setTop (mkF m 41 #[.val (.int p0), .val (.int p1), .val (.int p2), .unset, .unset, .unset, .unset, .unset, .unset] [(.int (4 : Int32)), (.ref b8), (.ref b8)])) _
    refine XS.sipush X24.here hx rfl (hb hby at_41) ?_
    exact kt)
  clear pre25
  have tv27 := V24
  obtain ⟨cl27, Ar27, q27, S27, Ng27, H27, G27⟩ := tv27
  have hin27 : ¬ ((4 : Int32) < 0 ∨ cl27.slots.size ≤ ((4 : Int32)).toNatClampNeg) := inb_of S27 ⟨by decide, by decide⟩
  obtain ⟨T28, h28, X28, e28, W28, st28⟩ := stI X24 hx hZ e24 Ar27 (j := (4 : Int32)) hin27 (g := (mkF m 44 #[.val (.int p0), .val (.int p1), .val (.int p2), .unset, .unset, .unset, .unset, .unset, .unset] [(.int (248 : Int32)), (.int (4 : Int32)), (.ref b8), (.ref b8)])) rfl rfl (hb hby at_44)
  have pre29 : ∀ t, Steps p.tables e below (T28.setTop (mkF m 45 #[.val (.int p0), .val (.int p1), .val (.int p2), .unset, .unset, .unset, .unset, .unset, .unset] [(.ref b8)])) t → Steps p.tables e below (s₁.setTop (entryFrame m #[(.int p0), (.int p1), (.int p2)] maxLocals)) t := fun t kt => pre26 t (st28 _ kt)
  clear pre26 st28
  have V28 : Arv Z h28 b8 k8 .int (14 : Int32) [(.int (65 : Int32)), (.int (97 : Int32)), (.int (192 : Int32)), (.int (216 : Int32)), (.int (248 : Int32)), (.int (0 : Int32)), (.int (0 : Int32)), (.int (0 : Int32)), (.int (0 : Int32)), (.int (0 : Int32)), (.int (0 : Int32)), (.int (0 : Int32)), (.int (0 : Int32)), (.int (0 : Int32))] (.int (0 : Int32)) := Arv.set Ar27 q27 S27 Ng27 H27 G27 rfl W28 4 rfl (Nat.le_of_ble_eq_true rfl)
  have K28 : Keep h0 h28 [] := K24.wr W28 (Or.inr sz8)
  have N28 := Fr.snoc X28 N24 gn8
  have Z28 : n0 ≤ h28.size := Nat.le_trans Z24 (Keep.of_wr W28).1
  have pre30 : ∀ t, Steps p.tables e below (T28.setTop (mkF m 50 #[.val (.int p0), .val (.int p1), .val (.int p2), .unset, .unset, .unset, .unset, .unset, .unset] [(.int (880 : Int32)), (.int (5 : Int32)), (.ref b8), (.ref b8)])) t → Steps p.tables e below (s₁.setTop (entryFrame m #[(.int p0), (.int p1), (.int p2)] maxLocals)) t := fun t kt => pre29 t (by
    show Steps p.tables e below (T28.setTop (mkF m 45 #[.val (.int p0), .val (.int p1), .val (.int p2), .unset, .unset, .unset, .unset, .unset, .unset] [(.ref b8)])) _
    refine XS.dup X28.here hx rfl (hb hby at_45) rfl rfl ?_
    show Steps p.tables e below (T28.setTop (mkF m 46 #[.val (.int p0), .val (.int p1), .val (.int p2), .unset, .unset, .unset, .unset, .unset, .unset] [(.ref b8), (.ref b8)])) _
    refine XS.iconst X28.here hx rfl (hb hby at_46) ?_
    show Steps p.tables e below (T28.setTop (mkF m 47 #[.val (.int p0), .val (.int p1), .val (.int p2), .unset, .unset, .unset, .unset, .unset, .unset] [(.int (5 : Int32)), (.ref b8), (.ref b8)])) _
    refine XS.sipush X28.here hx rfl (hb hby at_47) ?_
    exact kt)
  clear pre29
  have tv31 := V28
  obtain ⟨cl31, Ar31, q31, S31, Ng31, H31, G31⟩ := tv31
  have hin31 : ¬ ((5 : Int32) < 0 ∨ cl31.slots.size ≤ ((5 : Int32)).toNatClampNeg) := inb_of S31 ⟨by decide, by decide⟩
  obtain ⟨T32, h32, X32, e32, W32, st32⟩ := stI X28 hx hZ e28 Ar31 (j := (5 : Int32)) hin31 (g := (mkF m 50 #[.val (.int p0), .val (.int p1), .val (.int p2), .unset, .unset, .unset, .unset, .unset, .unset] [(.int (880 : Int32)), (.int (5 : Int32)), (.ref b8), (.ref b8)])) rfl rfl (hb hby at_50)
  have pre33 : ∀ t, Steps p.tables e below (T32.setTop (mkF m 51 #[.val (.int p0), .val (.int p1), .val (.int p2), .unset, .unset, .unset, .unset, .unset, .unset] [(.ref b8)])) t → Steps p.tables e below (s₁.setTop (entryFrame m #[(.int p0), (.int p1), (.int p2)] maxLocals)) t := fun t kt => pre30 t (st32 _ kt)
  clear pre30 st32
  have V32 : Arv Z h32 b8 k8 .int (14 : Int32) [(.int (65 : Int32)), (.int (97 : Int32)), (.int (192 : Int32)), (.int (216 : Int32)), (.int (248 : Int32)), (.int (880 : Int32)), (.int (0 : Int32)), (.int (0 : Int32)), (.int (0 : Int32)), (.int (0 : Int32)), (.int (0 : Int32)), (.int (0 : Int32)), (.int (0 : Int32)), (.int (0 : Int32))] (.int (0 : Int32)) := Arv.set Ar31 q31 S31 Ng31 H31 G31 rfl W32 5 rfl (Nat.le_of_ble_eq_true rfl)
  have K32 : Keep h0 h32 [] := K28.wr W32 (Or.inr sz8)
  have N32 := Fr.snoc X32 N28 gn8
  have Z32 : n0 ≤ h32.size := Nat.le_trans Z28 (Keep.of_wr W32).1
  have pre34 : ∀ t, Steps p.tables e below (T32.setTop (mkF m 57 #[.val (.int p0), .val (.int p1), .val (.int p2), .unset, .unset, .unset, .unset, .unset, .unset] [(.int (895 : Int32)), (.int (6 : Int32)), (.ref b8), (.ref b8)])) t → Steps p.tables e below (s₁.setTop (entryFrame m #[(.int p0), (.int p1), (.int p2)] maxLocals)) t := fun t kt => pre33 t (by
    show Steps p.tables e below (T32.setTop (mkF m 51 #[.val (.int p0), .val (.int p1), .val (.int p2), .unset, .unset, .unset, .unset, .unset, .unset] [(.ref b8)])) _
    refine XS.dup X32.here hx rfl (hb hby at_51) rfl rfl ?_
    show Steps p.tables e below (T32.setTop (mkF m 52 #[.val (.int p0), .val (.int p1), .val (.int p2), .unset, .unset, .unset, .unset, .unset, .unset] [(.ref b8), (.ref b8)])) _
    refine XS.bipush X32.here hx rfl (hb hby at_52) ?_
    show Steps p.tables e below (T32.setTop (mkF m 54 #[.val (.int p0), .val (.int p1), .val (.int p2), .unset, .unset, .unset, .unset, .unset, .unset] [(.int (6 : Int32)), (.ref b8), (.ref b8)])) _
    refine XS.sipush X32.here hx rfl (hb hby at_54) ?_
    exact kt)
  clear pre33
  have tv35 := V32
  obtain ⟨cl35, Ar35, q35, S35, Ng35, H35, G35⟩ := tv35
  have hin35 : ¬ ((6 : Int32) < 0 ∨ cl35.slots.size ≤ ((6 : Int32)).toNatClampNeg) := inb_of S35 ⟨by decide, by decide⟩
  obtain ⟨T36, h36, X36, e36, W36, st36⟩ := stI X32 hx hZ e32 Ar35 (j := (6 : Int32)) hin35 (g := (mkF m 57 #[.val (.int p0), .val (.int p1), .val (.int p2), .unset, .unset, .unset, .unset, .unset, .unset] [(.int (895 : Int32)), (.int (6 : Int32)), (.ref b8), (.ref b8)])) rfl rfl (hb hby at_57)
  have pre37 : ∀ t, Steps p.tables e below (T36.setTop (mkF m 58 #[.val (.int p0), .val (.int p1), .val (.int p2), .unset, .unset, .unset, .unset, .unset, .unset] [(.ref b8)])) t → Steps p.tables e below (s₁.setTop (entryFrame m #[(.int p0), (.int p1), (.int p2)] maxLocals)) t := fun t kt => pre34 t (st36 _ kt)
  clear pre34 st36
  have V36 : Arv Z h36 b8 k8 .int (14 : Int32) [(.int (65 : Int32)), (.int (97 : Int32)), (.int (192 : Int32)), (.int (216 : Int32)), (.int (248 : Int32)), (.int (880 : Int32)), (.int (895 : Int32)), (.int (0 : Int32)), (.int (0 : Int32)), (.int (0 : Int32)), (.int (0 : Int32)), (.int (0 : Int32)), (.int (0 : Int32)), (.int (0 : Int32))] (.int (0 : Int32)) := Arv.set Ar35 q35 S35 Ng35 H35 G35 rfl W36 6 rfl (Nat.le_of_ble_eq_true rfl)
  have K36 : Keep h0 h36 [] := K32.wr W36 (Or.inr sz8)
  have N36 := Fr.snoc X36 N32 gn8
  have Z36 : n0 ≤ h36.size := Nat.le_trans Z32 (Keep.of_wr W36).1
  have pre38 : ∀ t, Steps p.tables e below (T36.setTop (mkF m 64 #[.val (.int p0), .val (.int p1), .val (.int p2), .unset, .unset, .unset, .unset, .unset, .unset] [(.int (8204 : Int32)), (.int (7 : Int32)), (.ref b8), (.ref b8)])) t → Steps p.tables e below (s₁.setTop (entryFrame m #[(.int p0), (.int p1), (.int p2)] maxLocals)) t := fun t kt => pre37 t (by
    show Steps p.tables e below (T36.setTop (mkF m 58 #[.val (.int p0), .val (.int p1), .val (.int p2), .unset, .unset, .unset, .unset, .unset, .unset] [(.ref b8)])) _
    refine XS.dup X36.here hx rfl (hb hby at_58) rfl rfl ?_
    show Steps p.tables e below (T36.setTop (mkF m 59 #[.val (.int p0), .val (.int p1), .val (.int p2), .unset, .unset, .unset, .unset, .unset, .unset] [(.ref b8), (.ref b8)])) _
    refine XS.bipush X36.here hx rfl (hb hby at_59) ?_
    show Steps p.tables e below (T36.setTop (mkF m 61 #[.val (.int p0), .val (.int p1), .val (.int p2), .unset, .unset, .unset, .unset, .unset, .unset] [(.int (7 : Int32)), (.ref b8), (.ref b8)])) _
    refine XS.sipush X36.here hx rfl (hb hby at_61) ?_
    exact kt)
  clear pre37
  have tv39 := V36
  obtain ⟨cl39, Ar39, q39, S39, Ng39, H39, G39⟩ := tv39
  have hin39 : ¬ ((7 : Int32) < 0 ∨ cl39.slots.size ≤ ((7 : Int32)).toNatClampNeg) := inb_of S39 ⟨by decide, by decide⟩
  obtain ⟨T40, h40, X40, e40, W40, st40⟩ := stI X36 hx hZ e36 Ar39 (j := (7 : Int32)) hin39 (g := (mkF m 64 #[.val (.int p0), .val (.int p1), .val (.int p2), .unset, .unset, .unset, .unset, .unset, .unset] [(.int (8204 : Int32)), (.int (7 : Int32)), (.ref b8), (.ref b8)])) rfl rfl (hb hby at_64)
  have pre41 : ∀ t, Steps p.tables e below (T40.setTop (mkF m 65 #[.val (.int p0), .val (.int p1), .val (.int p2), .unset, .unset, .unset, .unset, .unset, .unset] [(.ref b8)])) t → Steps p.tables e below (s₁.setTop (entryFrame m #[(.int p0), (.int p1), (.int p2)] maxLocals)) t := fun t kt => pre38 t (st40 _ kt)
  clear pre38 st40
  have V40 : Arv Z h40 b8 k8 .int (14 : Int32) [(.int (65 : Int32)), (.int (97 : Int32)), (.int (192 : Int32)), (.int (216 : Int32)), (.int (248 : Int32)), (.int (880 : Int32)), (.int (895 : Int32)), (.int (8204 : Int32)), (.int (0 : Int32)), (.int (0 : Int32)), (.int (0 : Int32)), (.int (0 : Int32)), (.int (0 : Int32)), (.int (0 : Int32))] (.int (0 : Int32)) := Arv.set Ar39 q39 S39 Ng39 H39 G39 rfl W40 7 rfl (Nat.le_of_ble_eq_true rfl)
  have K40 : Keep h0 h40 [] := K36.wr W40 (Or.inr sz8)
  have N40 := Fr.snoc X40 N36 gn8
  have Z40 : n0 ≤ h40.size := Nat.le_trans Z36 (Keep.of_wr W40).1
  have pre42 : ∀ t, Steps p.tables e below (T40.setTop (mkF m 71 #[.val (.int p0), .val (.int p1), .val (.int p2), .unset, .unset, .unset, .unset, .unset, .unset] [(.int (8304 : Int32)), (.int (8 : Int32)), (.ref b8), (.ref b8)])) t → Steps p.tables e below (s₁.setTop (entryFrame m #[(.int p0), (.int p1), (.int p2)] maxLocals)) t := fun t kt => pre41 t (by
    show Steps p.tables e below (T40.setTop (mkF m 65 #[.val (.int p0), .val (.int p1), .val (.int p2), .unset, .unset, .unset, .unset, .unset, .unset] [(.ref b8)])) _
    refine XS.dup X40.here hx rfl (hb hby at_65) rfl rfl ?_
    show Steps p.tables e below (T40.setTop (mkF m 66 #[.val (.int p0), .val (.int p1), .val (.int p2), .unset, .unset, .unset, .unset, .unset, .unset] [(.ref b8), (.ref b8)])) _
    refine XS.bipush X40.here hx rfl (hb hby at_66) ?_
    show Steps p.tables e below (T40.setTop (mkF m 68 #[.val (.int p0), .val (.int p1), .val (.int p2), .unset, .unset, .unset, .unset, .unset, .unset] [(.int (8 : Int32)), (.ref b8), (.ref b8)])) _
    refine XS.sipush X40.here hx rfl (hb hby at_68) ?_
    exact kt)
  clear pre41
  have tv43 := V40
  obtain ⟨cl43, Ar43, q43, S43, Ng43, H43, G43⟩ := tv43
  have hin43 : ¬ ((8 : Int32) < 0 ∨ cl43.slots.size ≤ ((8 : Int32)).toNatClampNeg) := inb_of S43 ⟨by decide, by decide⟩
  obtain ⟨T44, h44, X44, e44, W44, st44⟩ := stI X40 hx hZ e40 Ar43 (j := (8 : Int32)) hin43 (g := (mkF m 71 #[.val (.int p0), .val (.int p1), .val (.int p2), .unset, .unset, .unset, .unset, .unset, .unset] [(.int (8304 : Int32)), (.int (8 : Int32)), (.ref b8), (.ref b8)])) rfl rfl (hb hby at_71)
  have pre45 : ∀ t, Steps p.tables e below (T44.setTop (mkF m 72 #[.val (.int p0), .val (.int p1), .val (.int p2), .unset, .unset, .unset, .unset, .unset, .unset] [(.ref b8)])) t → Steps p.tables e below (s₁.setTop (entryFrame m #[(.int p0), (.int p1), (.int p2)] maxLocals)) t := fun t kt => pre42 t (st44 _ kt)
  clear pre42 st44
  have V44 : Arv Z h44 b8 k8 .int (14 : Int32) [(.int (65 : Int32)), (.int (97 : Int32)), (.int (192 : Int32)), (.int (216 : Int32)), (.int (248 : Int32)), (.int (880 : Int32)), (.int (895 : Int32)), (.int (8204 : Int32)), (.int (8304 : Int32)), (.int (0 : Int32)), (.int (0 : Int32)), (.int (0 : Int32)), (.int (0 : Int32)), (.int (0 : Int32))] (.int (0 : Int32)) := Arv.set Ar43 q43 S43 Ng43 H43 G43 rfl W44 8 rfl (Nat.le_of_ble_eq_true rfl)
  have K44 : Keep h0 h44 [] := K40.wr W44 (Or.inr sz8)
  have N44 := Fr.snoc X44 N40 gn8
  have Z44 : n0 ≤ h44.size := Nat.le_trans Z40 (Keep.of_wr W44).1
  have pre46 : ∀ t, Steps p.tables e below (T44.setTop (mkF m 78 #[.val (.int p0), .val (.int p1), .val (.int p2), .unset, .unset, .unset, .unset, .unset, .unset] [(.int (11264 : Int32)), (.int (9 : Int32)), (.ref b8), (.ref b8)])) t → Steps p.tables e below (s₁.setTop (entryFrame m #[(.int p0), (.int p1), (.int p2)] maxLocals)) t := fun t kt => pre45 t (by
    show Steps p.tables e below (T44.setTop (mkF m 72 #[.val (.int p0), .val (.int p1), .val (.int p2), .unset, .unset, .unset, .unset, .unset, .unset] [(.ref b8)])) _
    refine XS.dup X44.here hx rfl (hb hby at_72) rfl rfl ?_
    show Steps p.tables e below (T44.setTop (mkF m 73 #[.val (.int p0), .val (.int p1), .val (.int p2), .unset, .unset, .unset, .unset, .unset, .unset] [(.ref b8), (.ref b8)])) _
    refine XS.bipush X44.here hx rfl (hb hby at_73) ?_
    show Steps p.tables e below (T44.setTop (mkF m 75 #[.val (.int p0), .val (.int p1), .val (.int p2), .unset, .unset, .unset, .unset, .unset, .unset] [(.int (9 : Int32)), (.ref b8), (.ref b8)])) _
    refine XS.sipush X44.here hx rfl (hb hby at_75) ?_
    exact kt)
  clear pre45
  have tv47 := V44
  obtain ⟨cl47, Ar47, q47, S47, Ng47, H47, G47⟩ := tv47
  have hin47 : ¬ ((9 : Int32) < 0 ∨ cl47.slots.size ≤ ((9 : Int32)).toNatClampNeg) := inb_of S47 ⟨by decide, by decide⟩
  obtain ⟨T48, h48, X48, e48, W48, st48⟩ := stI X44 hx hZ e44 Ar47 (j := (9 : Int32)) hin47 (g := (mkF m 78 #[.val (.int p0), .val (.int p1), .val (.int p2), .unset, .unset, .unset, .unset, .unset, .unset] [(.int (11264 : Int32)), (.int (9 : Int32)), (.ref b8), (.ref b8)])) rfl rfl (hb hby at_78)
  have pre49 : ∀ t, Steps p.tables e below (T48.setTop (mkF m 79 #[.val (.int p0), .val (.int p1), .val (.int p2), .unset, .unset, .unset, .unset, .unset, .unset] [(.ref b8)])) t → Steps p.tables e below (s₁.setTop (entryFrame m #[(.int p0), (.int p1), (.int p2)] maxLocals)) t := fun t kt => pre46 t (st48 _ kt)
  clear pre46 st48
  have V48 : Arv Z h48 b8 k8 .int (14 : Int32) [(.int (65 : Int32)), (.int (97 : Int32)), (.int (192 : Int32)), (.int (216 : Int32)), (.int (248 : Int32)), (.int (880 : Int32)), (.int (895 : Int32)), (.int (8204 : Int32)), (.int (8304 : Int32)), (.int (11264 : Int32)), (.int (0 : Int32)), (.int (0 : Int32)), (.int (0 : Int32)), (.int (0 : Int32))] (.int (0 : Int32)) := Arv.set Ar47 q47 S47 Ng47 H47 G47 rfl W48 9 rfl (Nat.le_of_ble_eq_true rfl)
  have K48 : Keep h0 h48 [] := K44.wr W48 (Or.inr sz8)
  have N48 := Fr.snoc X48 N44 gn8
  have Z48 : n0 ≤ h48.size := Nat.le_trans Z44 (Keep.of_wr W48).1
  have pre50 : ∀ t, Steps p.tables e below (T48.setTop (mkF m 85 #[.val (.int p0), .val (.int p1), .val (.int p2), .unset, .unset, .unset, .unset, .unset, .unset] [(.int (12289 : Int32)), (.int (10 : Int32)), (.ref b8), (.ref b8)])) t → Steps p.tables e below (s₁.setTop (entryFrame m #[(.int p0), (.int p1), (.int p2)] maxLocals)) t := fun t kt => pre49 t (by
    show Steps p.tables e below (T48.setTop (mkF m 79 #[.val (.int p0), .val (.int p1), .val (.int p2), .unset, .unset, .unset, .unset, .unset, .unset] [(.ref b8)])) _
    refine XS.dup X48.here hx rfl (hb hby at_79) rfl rfl ?_
    show Steps p.tables e below (T48.setTop (mkF m 80 #[.val (.int p0), .val (.int p1), .val (.int p2), .unset, .unset, .unset, .unset, .unset, .unset] [(.ref b8), (.ref b8)])) _
    refine XS.bipush X48.here hx rfl (hb hby at_80) ?_
    show Steps p.tables e below (T48.setTop (mkF m 82 #[.val (.int p0), .val (.int p1), .val (.int p2), .unset, .unset, .unset, .unset, .unset, .unset] [(.int (10 : Int32)), (.ref b8), (.ref b8)])) _
    refine XS.sipush X48.here hx rfl (hb hby at_82) ?_
    exact kt)
  clear pre49
  have tv51 := V48
  obtain ⟨cl51, Ar51, q51, S51, Ng51, H51, G51⟩ := tv51
  have hin51 : ¬ ((10 : Int32) < 0 ∨ cl51.slots.size ≤ ((10 : Int32)).toNatClampNeg) := inb_of S51 ⟨by decide, by decide⟩
  obtain ⟨T52, h52, X52, e52, W52, st52⟩ := stI X48 hx hZ e48 Ar51 (j := (10 : Int32)) hin51 (g := (mkF m 85 #[.val (.int p0), .val (.int p1), .val (.int p2), .unset, .unset, .unset, .unset, .unset, .unset] [(.int (12289 : Int32)), (.int (10 : Int32)), (.ref b8), (.ref b8)])) rfl rfl (hb hby at_85)
  have pre53 : ∀ t, Steps p.tables e below (T52.setTop (mkF m 86 #[.val (.int p0), .val (.int p1), .val (.int p2), .unset, .unset, .unset, .unset, .unset, .unset] [(.ref b8)])) t → Steps p.tables e below (s₁.setTop (entryFrame m #[(.int p0), (.int p1), (.int p2)] maxLocals)) t := fun t kt => pre50 t (st52 _ kt)
  clear pre50 st52
  have V52 : Arv Z h52 b8 k8 .int (14 : Int32) [(.int (65 : Int32)), (.int (97 : Int32)), (.int (192 : Int32)), (.int (216 : Int32)), (.int (248 : Int32)), (.int (880 : Int32)), (.int (895 : Int32)), (.int (8204 : Int32)), (.int (8304 : Int32)), (.int (11264 : Int32)), (.int (12289 : Int32)), (.int (0 : Int32)), (.int (0 : Int32)), (.int (0 : Int32))] (.int (0 : Int32)) := Arv.set Ar51 q51 S51 Ng51 H51 G51 rfl W52 10 rfl (Nat.le_of_ble_eq_true rfl)
  have K52 : Keep h0 h52 [] := K48.wr W52 (Or.inr sz8)
  have N52 := Fr.snoc X52 N48 gn8
  have Z52 : n0 ≤ h52.size := Nat.le_trans Z48 (Keep.of_wr W52).1
  have pre54 : ∀ t, Steps p.tables e below (T52.setTop (mkF m 91 #[.val (.int p0), .val (.int p1), .val (.int p2), .unset, .unset, .unset, .unset, .unset, .unset] [(.int (63744 : Int32)), (.int (11 : Int32)), (.ref b8), (.ref b8)])) t → Steps p.tables e below (s₁.setTop (entryFrame m #[(.int p0), (.int p1), (.int p2)] maxLocals)) t := fun t kt => pre53 t (by
    show Steps p.tables e below (T52.setTop (mkF m 86 #[.val (.int p0), .val (.int p1), .val (.int p2), .unset, .unset, .unset, .unset, .unset, .unset] [(.ref b8)])) _
    refine XS.dup X52.here hx rfl (hb hby at_86) rfl rfl ?_
    show Steps p.tables e below (T52.setTop (mkF m 87 #[.val (.int p0), .val (.int p1), .val (.int p2), .unset, .unset, .unset, .unset, .unset, .unset] [(.ref b8), (.ref b8)])) _
    refine XS.bipush X52.here hx rfl (hb hby at_87) ?_
    show Steps p.tables e below (T52.setTop (mkF m 89 #[.val (.int p0), .val (.int p1), .val (.int p2), .unset, .unset, .unset, .unset, .unset, .unset] [(.int (11 : Int32)), (.ref b8), (.ref b8)])) _
    refine X52.ldcInt hx hown (mvT hZ (hw _ (List.mem_of_getElem? (i := 12) rfl))) (g := (mkF m 89 #[.val (.int p0), .val (.int p1), .val (.int p2), .unset, .unset, .unset, .unset, .unset, .unset] [(.int (11 : Int32)), (.ref b8), (.ref b8)])) rfl (hb hby at_89) _ ?_
    exact kt)
  clear pre53
  have tv55 := V52
  obtain ⟨cl55, Ar55, q55, S55, Ng55, H55, G55⟩ := tv55
  have hin55 : ¬ ((11 : Int32) < 0 ∨ cl55.slots.size ≤ ((11 : Int32)).toNatClampNeg) := inb_of S55 ⟨by decide, by decide⟩
  obtain ⟨T56, h56, X56, e56, W56, st56⟩ := stI X52 hx hZ e52 Ar55 (j := (11 : Int32)) hin55 (g := (mkF m 91 #[.val (.int p0), .val (.int p1), .val (.int p2), .unset, .unset, .unset, .unset, .unset, .unset] [(.int (63744 : Int32)), (.int (11 : Int32)), (.ref b8), (.ref b8)])) rfl rfl (hb hby at_91)
  have pre57 : ∀ t, Steps p.tables e below (T56.setTop (mkF m 92 #[.val (.int p0), .val (.int p1), .val (.int p2), .unset, .unset, .unset, .unset, .unset, .unset] [(.ref b8)])) t → Steps p.tables e below (s₁.setTop (entryFrame m #[(.int p0), (.int p1), (.int p2)] maxLocals)) t := fun t kt => pre54 t (st56 _ kt)
  clear pre54 st56
  have V56 : Arv Z h56 b8 k8 .int (14 : Int32) [(.int (65 : Int32)), (.int (97 : Int32)), (.int (192 : Int32)), (.int (216 : Int32)), (.int (248 : Int32)), (.int (880 : Int32)), (.int (895 : Int32)), (.int (8204 : Int32)), (.int (8304 : Int32)), (.int (11264 : Int32)), (.int (12289 : Int32)), (.int (63744 : Int32)), (.int (0 : Int32)), (.int (0 : Int32))] (.int (0 : Int32)) := Arv.set Ar55 q55 S55 Ng55 H55 G55 rfl W56 11 rfl (Nat.le_of_ble_eq_true rfl)
  have K56 : Keep h0 h56 [] := K52.wr W56 (Or.inr sz8)
  have N56 := Fr.snoc X56 N52 gn8
  have Z56 : n0 ≤ h56.size := Nat.le_trans Z52 (Keep.of_wr W56).1
  have pre58 : ∀ t, Steps p.tables e below (T56.setTop (mkF m 97 #[.val (.int p0), .val (.int p1), .val (.int p2), .unset, .unset, .unset, .unset, .unset, .unset] [(.int (65008 : Int32)), (.int (12 : Int32)), (.ref b8), (.ref b8)])) t → Steps p.tables e below (s₁.setTop (entryFrame m #[(.int p0), (.int p1), (.int p2)] maxLocals)) t := fun t kt => pre57 t (by
    show Steps p.tables e below (T56.setTop (mkF m 92 #[.val (.int p0), .val (.int p1), .val (.int p2), .unset, .unset, .unset, .unset, .unset, .unset] [(.ref b8)])) _
    refine XS.dup X56.here hx rfl (hb hby at_92) rfl rfl ?_
    show Steps p.tables e below (T56.setTop (mkF m 93 #[.val (.int p0), .val (.int p1), .val (.int p2), .unset, .unset, .unset, .unset, .unset, .unset] [(.ref b8), (.ref b8)])) _
    refine XS.bipush X56.here hx rfl (hb hby at_93) ?_
    show Steps p.tables e below (T56.setTop (mkF m 95 #[.val (.int p0), .val (.int p1), .val (.int p2), .unset, .unset, .unset, .unset, .unset, .unset] [(.int (12 : Int32)), (.ref b8), (.ref b8)])) _
    refine X56.ldcInt hx hown (mvT hZ (hw _ (List.mem_of_getElem? (i := 13) rfl))) (g := (mkF m 95 #[.val (.int p0), .val (.int p1), .val (.int p2), .unset, .unset, .unset, .unset, .unset, .unset] [(.int (12 : Int32)), (.ref b8), (.ref b8)])) rfl (hb hby at_95) _ ?_
    exact kt)
  clear pre57
  have tv59 := V56
  obtain ⟨cl59, Ar59, q59, S59, Ng59, H59, G59⟩ := tv59
  have hin59 : ¬ ((12 : Int32) < 0 ∨ cl59.slots.size ≤ ((12 : Int32)).toNatClampNeg) := inb_of S59 ⟨by decide, by decide⟩
  obtain ⟨T60, h60, X60, e60, W60, st60⟩ := stI X56 hx hZ e56 Ar59 (j := (12 : Int32)) hin59 (g := (mkF m 97 #[.val (.int p0), .val (.int p1), .val (.int p2), .unset, .unset, .unset, .unset, .unset, .unset] [(.int (65008 : Int32)), (.int (12 : Int32)), (.ref b8), (.ref b8)])) rfl rfl (hb hby at_97)
  have pre61 : ∀ t, Steps p.tables e below (T60.setTop (mkF m 98 #[.val (.int p0), .val (.int p1), .val (.int p2), .unset, .unset, .unset, .unset, .unset, .unset] [(.ref b8)])) t → Steps p.tables e below (s₁.setTop (entryFrame m #[(.int p0), (.int p1), (.int p2)] maxLocals)) t := fun t kt => pre58 t (st60 _ kt)
  clear pre58 st60
  have V60 : Arv Z h60 b8 k8 .int (14 : Int32) [(.int (65 : Int32)), (.int (97 : Int32)), (.int (192 : Int32)), (.int (216 : Int32)), (.int (248 : Int32)), (.int (880 : Int32)), (.int (895 : Int32)), (.int (8204 : Int32)), (.int (8304 : Int32)), (.int (11264 : Int32)), (.int (12289 : Int32)), (.int (63744 : Int32)), (.int (65008 : Int32)), (.int (0 : Int32))] (.int (0 : Int32)) := Arv.set Ar59 q59 S59 Ng59 H59 G59 rfl W60 12 rfl (Nat.le_of_ble_eq_true rfl)
  have K60 : Keep h0 h60 [] := K56.wr W60 (Or.inr sz8)
  have N60 := Fr.snoc X60 N56 gn8
  have Z60 : n0 ≤ h60.size := Nat.le_trans Z56 (Keep.of_wr W60).1
  have pre62 : ∀ t, Steps p.tables e below (T60.setTop (mkF m 103 #[.val (.int p0), .val (.int p1), .val (.int p2), .unset, .unset, .unset, .unset, .unset, .unset] [(.int (65536 : Int32)), (.int (13 : Int32)), (.ref b8), (.ref b8)])) t → Steps p.tables e below (s₁.setTop (entryFrame m #[(.int p0), (.int p1), (.int p2)] maxLocals)) t := fun t kt => pre61 t (by
    show Steps p.tables e below (T60.setTop (mkF m 98 #[.val (.int p0), .val (.int p1), .val (.int p2), .unset, .unset, .unset, .unset, .unset, .unset] [(.ref b8)])) _
    refine XS.dup X60.here hx rfl (hb hby at_98) rfl rfl ?_
    show Steps p.tables e below (T60.setTop (mkF m 99 #[.val (.int p0), .val (.int p1), .val (.int p2), .unset, .unset, .unset, .unset, .unset, .unset] [(.ref b8), (.ref b8)])) _
    refine XS.bipush X60.here hx rfl (hb hby at_99) ?_
    show Steps p.tables e below (T60.setTop (mkF m 101 #[.val (.int p0), .val (.int p1), .val (.int p2), .unset, .unset, .unset, .unset, .unset, .unset] [(.int (13 : Int32)), (.ref b8), (.ref b8)])) _
    refine X60.ldcInt hx hown (mvT hZ (hw _ (List.mem_of_getElem? (i := 14) rfl))) (g := (mkF m 101 #[.val (.int p0), .val (.int p1), .val (.int p2), .unset, .unset, .unset, .unset, .unset, .unset] [(.int (13 : Int32)), (.ref b8), (.ref b8)])) rfl (hb hby at_101) _ ?_
    exact kt)
  clear pre61
  have tv63 := V60
  obtain ⟨cl63, Ar63, q63, S63, Ng63, H63, G63⟩ := tv63
  have hin63 : ¬ ((13 : Int32) < 0 ∨ cl63.slots.size ≤ ((13 : Int32)).toNatClampNeg) := inb_of S63 ⟨by decide, by decide⟩
  obtain ⟨T64, h64, X64, e64, W64, st64⟩ := stI X60 hx hZ e60 Ar63 (j := (13 : Int32)) hin63 (g := (mkF m 103 #[.val (.int p0), .val (.int p1), .val (.int p2), .unset, .unset, .unset, .unset, .unset, .unset] [(.int (65536 : Int32)), (.int (13 : Int32)), (.ref b8), (.ref b8)])) rfl rfl (hb hby at_103)
  have pre65 : ∀ t, Steps p.tables e below (T64.setTop (mkF m 104 #[.val (.int p0), .val (.int p1), .val (.int p2), .unset, .unset, .unset, .unset, .unset, .unset] [(.ref b8)])) t → Steps p.tables e below (s₁.setTop (entryFrame m #[(.int p0), (.int p1), (.int p2)] maxLocals)) t := fun t kt => pre62 t (st64 _ kt)
  clear pre62 st64
  have V64 : Arv Z h64 b8 k8 .int (14 : Int32) [(.int (65 : Int32)), (.int (97 : Int32)), (.int (192 : Int32)), (.int (216 : Int32)), (.int (248 : Int32)), (.int (880 : Int32)), (.int (895 : Int32)), (.int (8204 : Int32)), (.int (8304 : Int32)), (.int (11264 : Int32)), (.int (12289 : Int32)), (.int (63744 : Int32)), (.int (65008 : Int32)), (.int (65536 : Int32))] (.int (0 : Int32)) := Arv.set Ar63 q63 S63 Ng63 H63 G63 rfl W64 13 rfl (Nat.le_of_ble_eq_true rfl)
  have K64 : Keep h0 h64 [] := K60.wr W64 (Or.inr sz8)
  have N64 := Fr.snoc X64 N60 gn8
  have Z64 : n0 ≤ h64.size := Nat.le_trans Z60 (Keep.of_wr W64).1
  have pre66 : ∀ t, Steps p.tables e below (T64.setTop (mkF m 107 #[.val (.int p0), .val (.int p1), .val (.int p2), .val (.ref b8), .unset, .unset, .unset, .unset, .unset] [(.int (14 : Int32))])) t → Steps p.tables e below (s₁.setTop (entryFrame m #[(.int p0), (.int p1), (.int p2)] maxLocals)) t := fun t kt => pre65 t (by
    show Steps p.tables e below (T64.setTop (mkF m 104 #[.val (.int p0), .val (.int p1), .val (.int p2), .unset, .unset, .unset, .unset, .unset, .unset] [(.ref b8)])) _
    refine XS.astoreN X64.here hx rfl (hb hby at_104) rfl rfl (l' := #[.val (.int p0), .val (.int p1), .val (.int p2), .val (.ref b8), .unset, .unset, .unset, .unset, .unset]) rfl ?_
    show Steps p.tables e below (T64.setTop (mkF m 105 #[.val (.int p0), .val (.int p1), .val (.int p2), .val (.ref b8), .unset, .unset, .unset, .unset, .unset] [])) _
    refine XS.bipush X64.here hx rfl (hb hby at_105) ?_
    exact kt)
  clear pre65
  obtain ⟨T67, h67, k67, X67, e67, E67, A67, st67⟩ := newP X64 hx hZ (hw _ (List.mem_of_getElem? (i := 11) rfl)) e64 (g := (mkF m 107 #[.val (.int p0), .val (.int p1), .val (.int p2), .val (.ref b8), .unset, .unset, .unset, .unset, .unset] [(.int (14 : Int32))])) rfl (hb hby at_107) rfl (by decide) (cap := 14) (by decide) (by decide) (by decide) (by decide)
  obtain ⟨b67, g67⟩ : ∃ z, z = h64.size := ⟨_, rfl⟩
  rw [← g67] at A67 st67
  have ne_b8_b67 : b8 ≠ b67 := Nat.ne_of_lt (Nat.lt_of_lt_of_le V64.lt (Nat.le_of_eq g67.symm))
  have pre68 : ∀ t, Steps p.tables e below (T67.setTop (mkF m 109 #[.val (.int p0), .val (.int p1), .val (.int p2), .val (.ref b8), .unset, .unset, .unset, .unset, .unset] [(.ref b67)])) t → Steps p.tables e below (s₁.setTop (entryFrame m #[(.int p0), (.int p1), (.int p2)] maxLocals)) t := fun t kt => pre66 t (st67 _ kt)
  clear pre66 st67
  have F69 : Arv Z h67 b8 k8 .int (14 : Int32) [(.int (65 : Int32)), (.int (97 : Int32)), (.int (192 : Int32)), (.int (216 : Int32)), (.int (248 : Int32)), (.int (880 : Int32)), (.int (895 : Int32)), (.int (8204 : Int32)), (.int (8304 : Int32)), (.int (11264 : Int32)), (.int (12289 : Int32)), (.int (63744 : Int32)), (.int (65008 : Int32)), (.int (65536 : Int32))] (.int (0 : Int32)) := V64.ext E67
  have gn67 : n0 ≤ b67 := Nat.le_trans Z64 (Nat.le_of_eq g67.symm)
  have sz67 : h0.size ≤ b67 := Nat.le_trans K64.1 (Nat.le_of_eq g67.symm)
  have K67 : Keep h0 h67 [] := K64.ext E67
  have Z67 : n0 ≤ h67.size := Nat.le_trans Z64 E67.1
  have V67 : Arv Z h67 b67 k67 .int (14 : Int32) [(.int (0 : Int32)), (.int (0 : Int32)), (.int (0 : Int32)), (.int (0 : Int32)), (.int (0 : Int32)), (.int (0 : Int32)), (.int (0 : Int32)), (.int (0 : Int32)), (.int (0 : Int32)), (.int (0 : Int32)), (.int (0 : Int32)), (.int (0 : Int32)), (.int (0 : Int32)), (.int (0 : Int32))] (.int (0 : Int32)) := (Arv.new A67 (by decide)).pad (pad_rep [] (.int (0 : Int32)) 14)
  have pre70 : ∀ t, Steps p.tables e below (T67.setTop (mkF m 113 #[.val (.int p0), .val (.int p1), .val (.int p2), .val (.ref b8), .unset, .unset, .unset, .unset, .unset] [(.int (90 : Int32)), (.int (0 : Int32)), (.ref b67), (.ref b67)])) t → Steps p.tables e below (s₁.setTop (entryFrame m #[(.int p0), (.int p1), (.int p2)] maxLocals)) t := fun t kt => pre68 t (by
    show Steps p.tables e below (T67.setTop (mkF m 109 #[.val (.int p0), .val (.int p1), .val (.int p2), .val (.ref b8), .unset, .unset, .unset, .unset, .unset] [(.ref b67)])) _
    refine XS.dup X67.here hx rfl (hb hby at_109) rfl rfl ?_
    show Steps p.tables e below (T67.setTop (mkF m 110 #[.val (.int p0), .val (.int p1), .val (.int p2), .val (.ref b8), .unset, .unset, .unset, .unset, .unset] [(.ref b67), (.ref b67)])) _
    refine XS.iconst X67.here hx rfl (hb hby at_110) ?_
    show Steps p.tables e below (T67.setTop (mkF m 111 #[.val (.int p0), .val (.int p1), .val (.int p2), .val (.ref b8), .unset, .unset, .unset, .unset, .unset] [(.int (0 : Int32)), (.ref b67), (.ref b67)])) _
    refine XS.bipush X67.here hx rfl (hb hby at_111) ?_
    exact kt)
  clear pre68
  have tv71 := V67
  obtain ⟨cl71, Ar71, q71, S71, Ng71, H71, G71⟩ := tv71
  have hin71 : ¬ ((0 : Int32) < 0 ∨ cl71.slots.size ≤ ((0 : Int32)).toNatClampNeg) := inb_of S71 ⟨by decide, by decide⟩
  obtain ⟨T72, h72, X72, e72, W72, st72⟩ := stI X67 hx hZ e67 Ar71 (j := (0 : Int32)) hin71 (g := (mkF m 113 #[.val (.int p0), .val (.int p1), .val (.int p2), .val (.ref b8), .unset, .unset, .unset, .unset, .unset] [(.int (90 : Int32)), (.int (0 : Int32)), (.ref b67), (.ref b67)])) rfl rfl (hb hby at_113)
  have pre73 : ∀ t, Steps p.tables e below (T72.setTop (mkF m 114 #[.val (.int p0), .val (.int p1), .val (.int p2), .val (.ref b8), .unset, .unset, .unset, .unset, .unset] [(.ref b67)])) t → Steps p.tables e below (s₁.setTop (entryFrame m #[(.int p0), (.int p1), (.int p2)] maxLocals)) t := fun t kt => pre70 t (st72 _ kt)
  clear pre70 st72
  have V72 : Arv Z h72 b67 k67 .int (14 : Int32) [(.int (90 : Int32)), (.int (0 : Int32)), (.int (0 : Int32)), (.int (0 : Int32)), (.int (0 : Int32)), (.int (0 : Int32)), (.int (0 : Int32)), (.int (0 : Int32)), (.int (0 : Int32)), (.int (0 : Int32)), (.int (0 : Int32)), (.int (0 : Int32)), (.int (0 : Int32)), (.int (0 : Int32))] (.int (0 : Int32)) := Arv.set Ar71 q71 S71 Ng71 H71 G71 rfl W72 0 rfl (Nat.le_of_ble_eq_true rfl)
  have F74 : Arv Z h72 b8 k8 .int (14 : Int32) [(.int (65 : Int32)), (.int (97 : Int32)), (.int (192 : Int32)), (.int (216 : Int32)), (.int (248 : Int32)), (.int (880 : Int32)), (.int (895 : Int32)), (.int (8204 : Int32)), (.int (8304 : Int32)), (.int (11264 : Int32)), (.int (12289 : Int32)), (.int (63744 : Int32)), (.int (65008 : Int32)), (.int (65536 : Int32))] (.int (0 : Int32)) := F69.other W72 ne_b8_b67
  have K72 : Keep h0 h72 [] := K67.wr W72 (Or.inr sz67)
  have N72 := Fr.snoc X72 N64 gn67
  have Z72 : n0 ≤ h72.size := Nat.le_trans Z67 (Keep.of_wr W72).1
  have pre75 : ∀ t, Steps p.tables e below (T72.setTop (mkF m 118 #[.val (.int p0), .val (.int p1), .val (.int p2), .val (.ref b8), .unset, .unset, .unset, .unset, .unset] [(.int (122 : Int32)), (.int (1 : Int32)), (.ref b67), (.ref b67)])) t → Steps p.tables e below (s₁.setTop (entryFrame m #[(.int p0), (.int p1), (.int p2)] maxLocals)) t := fun t kt => pre73 t (by
    show Steps p.tables e below (T72.setTop (mkF m 114 #[.val (.int p0), .val (.int p1), .val (.int p2), .val (.ref b8), .unset, .unset, .unset, .unset, .unset] [(.ref b67)])) _
    refine XS.dup X72.here hx rfl (hb hby at_114) rfl rfl ?_
    show Steps p.tables e below (T72.setTop (mkF m 115 #[.val (.int p0), .val (.int p1), .val (.int p2), .val (.ref b8), .unset, .unset, .unset, .unset, .unset] [(.ref b67), (.ref b67)])) _
    refine XS.iconst X72.here hx rfl (hb hby at_115) ?_
    show Steps p.tables e below (T72.setTop (mkF m 116 #[.val (.int p0), .val (.int p1), .val (.int p2), .val (.ref b8), .unset, .unset, .unset, .unset, .unset] [(.int (1 : Int32)), (.ref b67), (.ref b67)])) _
    refine XS.bipush X72.here hx rfl (hb hby at_116) ?_
    exact kt)
  clear pre73
  have tv76 := V72
  obtain ⟨cl76, Ar76, q76, S76, Ng76, H76, G76⟩ := tv76
  have hin76 : ¬ ((1 : Int32) < 0 ∨ cl76.slots.size ≤ ((1 : Int32)).toNatClampNeg) := inb_of S76 ⟨by decide, by decide⟩
  obtain ⟨T77, h77, X77, e77, W77, st77⟩ := stI X72 hx hZ e72 Ar76 (j := (1 : Int32)) hin76 (g := (mkF m 118 #[.val (.int p0), .val (.int p1), .val (.int p2), .val (.ref b8), .unset, .unset, .unset, .unset, .unset] [(.int (122 : Int32)), (.int (1 : Int32)), (.ref b67), (.ref b67)])) rfl rfl (hb hby at_118)
  have pre78 : ∀ t, Steps p.tables e below (T77.setTop (mkF m 119 #[.val (.int p0), .val (.int p1), .val (.int p2), .val (.ref b8), .unset, .unset, .unset, .unset, .unset] [(.ref b67)])) t → Steps p.tables e below (s₁.setTop (entryFrame m #[(.int p0), (.int p1), (.int p2)] maxLocals)) t := fun t kt => pre75 t (st77 _ kt)
  clear pre75 st77
  have V77 : Arv Z h77 b67 k67 .int (14 : Int32) [(.int (90 : Int32)), (.int (122 : Int32)), (.int (0 : Int32)), (.int (0 : Int32)), (.int (0 : Int32)), (.int (0 : Int32)), (.int (0 : Int32)), (.int (0 : Int32)), (.int (0 : Int32)), (.int (0 : Int32)), (.int (0 : Int32)), (.int (0 : Int32)), (.int (0 : Int32)), (.int (0 : Int32))] (.int (0 : Int32)) := Arv.set Ar76 q76 S76 Ng76 H76 G76 rfl W77 1 rfl (Nat.le_of_ble_eq_true rfl)
  have F79 : Arv Z h77 b8 k8 .int (14 : Int32) [(.int (65 : Int32)), (.int (97 : Int32)), (.int (192 : Int32)), (.int (216 : Int32)), (.int (248 : Int32)), (.int (880 : Int32)), (.int (895 : Int32)), (.int (8204 : Int32)), (.int (8304 : Int32)), (.int (11264 : Int32)), (.int (12289 : Int32)), (.int (63744 : Int32)), (.int (65008 : Int32)), (.int (65536 : Int32))] (.int (0 : Int32)) := F74.other W77 ne_b8_b67
  have K77 : Keep h0 h77 [] := K72.wr W77 (Or.inr sz67)
  have N77 := Fr.snoc X77 N72 gn67
  have Z77 : n0 ≤ h77.size := Nat.le_trans Z72 (Keep.of_wr W77).1
  have pre80 : ∀ t, Steps p.tables e below (T77.setTop (mkF m 124 #[.val (.int p0), .val (.int p1), .val (.int p2), .val (.ref b8), .unset, .unset, .unset, .unset, .unset] [(.int (214 : Int32)), (.int (2 : Int32)), (.ref b67), (.ref b67)])) t → Steps p.tables e below (s₁.setTop (entryFrame m #[(.int p0), (.int p1), (.int p2)] maxLocals)) t := fun t kt => pre78 t (by
    show Steps p.tables e below (T77.setTop (mkF m 119 #[.val (.int p0), .val (.int p1), .val (.int p2), .val (.ref b8), .unset, .unset, .unset, .unset, .unset] [(.ref b67)])) _
    refine XS.dup X77.here hx rfl (hb hby at_119) rfl rfl ?_
    show Steps p.tables e below (T77.setTop (mkF m 120 #[.val (.int p0), .val (.int p1), .val (.int p2), .val (.ref b8), .unset, .unset, .unset, .unset, .unset] [(.ref b67), (.ref b67)])) _
    refine XS.iconst X77.here hx rfl (hb hby at_120) ?_
    show Steps p.tables e below (T77.setTop (mkF m 121 #[.val (.int p0), .val (.int p1), .val (.int p2), .val (.ref b8), .unset, .unset, .unset, .unset, .unset] [(.int (2 : Int32)), (.ref b67), (.ref b67)])) _
    refine XS.sipush X77.here hx rfl (hb hby at_121) ?_
    exact kt)
  clear pre78
  have tv81 := V77
  obtain ⟨cl81, Ar81, q81, S81, Ng81, H81, G81⟩ := tv81
  have hin81 : ¬ ((2 : Int32) < 0 ∨ cl81.slots.size ≤ ((2 : Int32)).toNatClampNeg) := inb_of S81 ⟨by decide, by decide⟩
  obtain ⟨T82, h82, X82, e82, W82, st82⟩ := stI X77 hx hZ e77 Ar81 (j := (2 : Int32)) hin81 (g := (mkF m 124 #[.val (.int p0), .val (.int p1), .val (.int p2), .val (.ref b8), .unset, .unset, .unset, .unset, .unset] [(.int (214 : Int32)), (.int (2 : Int32)), (.ref b67), (.ref b67)])) rfl rfl (hb hby at_124)
  have pre83 : ∀ t, Steps p.tables e below (T82.setTop (mkF m 125 #[.val (.int p0), .val (.int p1), .val (.int p2), .val (.ref b8), .unset, .unset, .unset, .unset, .unset] [(.ref b67)])) t → Steps p.tables e below (s₁.setTop (entryFrame m #[(.int p0), (.int p1), (.int p2)] maxLocals)) t := fun t kt => pre80 t (st82 _ kt)
  clear pre80 st82
  have V82 : Arv Z h82 b67 k67 .int (14 : Int32) [(.int (90 : Int32)), (.int (122 : Int32)), (.int (214 : Int32)), (.int (0 : Int32)), (.int (0 : Int32)), (.int (0 : Int32)), (.int (0 : Int32)), (.int (0 : Int32)), (.int (0 : Int32)), (.int (0 : Int32)), (.int (0 : Int32)), (.int (0 : Int32)), (.int (0 : Int32)), (.int (0 : Int32))] (.int (0 : Int32)) := Arv.set Ar81 q81 S81 Ng81 H81 G81 rfl W82 2 rfl (Nat.le_of_ble_eq_true rfl)
  have F84 : Arv Z h82 b8 k8 .int (14 : Int32) [(.int (65 : Int32)), (.int (97 : Int32)), (.int (192 : Int32)), (.int (216 : Int32)), (.int (248 : Int32)), (.int (880 : Int32)), (.int (895 : Int32)), (.int (8204 : Int32)), (.int (8304 : Int32)), (.int (11264 : Int32)), (.int (12289 : Int32)), (.int (63744 : Int32)), (.int (65008 : Int32)), (.int (65536 : Int32))] (.int (0 : Int32)) := F79.other W82 ne_b8_b67
  have K82 : Keep h0 h82 [] := K77.wr W82 (Or.inr sz67)
  have N82 := Fr.snoc X82 N77 gn67
  have Z82 : n0 ≤ h82.size := Nat.le_trans Z77 (Keep.of_wr W82).1
  have pre85 : ∀ t, Steps p.tables e below (T82.setTop (mkF m 130 #[.val (.int p0), .val (.int p1), .val (.int p2), .val (.ref b8), .unset, .unset, .unset, .unset, .unset] [(.int (246 : Int32)), (.int (3 : Int32)), (.ref b67), (.ref b67)])) t → Steps p.tables e below (s₁.setTop (entryFrame m #[(.int p0), (.int p1), (.int p2)] maxLocals)) t := fun t kt => pre83 t (by
    show Steps p.tables e below (T82.setTop (mkF m 125 #[.val (.int p0), .val (.int p1), .val (.int p2), .val (.ref b8), .unset, .unset, .unset, .unset, .unset] [(.ref b67)])) _
    refine XS.dup X82.here hx rfl (hb hby at_125) rfl rfl ?_
    show Steps p.tables e below (T82.setTop (mkF m 126 #[.val (.int p0), .val (.int p1), .val (.int p2), .val (.ref b8), .unset, .unset, .unset, .unset, .unset] [(.ref b67), (.ref b67)])) _
    refine XS.iconst X82.here hx rfl (hb hby at_126) ?_
    show Steps p.tables e below (T82.setTop (mkF m 127 #[.val (.int p0), .val (.int p1), .val (.int p2), .val (.ref b8), .unset, .unset, .unset, .unset, .unset] [(.int (3 : Int32)), (.ref b67), (.ref b67)])) _
    refine XS.sipush X82.here hx rfl (hb hby at_127) ?_
    exact kt)
  clear pre83
  have tv86 := V82
  obtain ⟨cl86, Ar86, q86, S86, Ng86, H86, G86⟩ := tv86
  have hin86 : ¬ ((3 : Int32) < 0 ∨ cl86.slots.size ≤ ((3 : Int32)).toNatClampNeg) := inb_of S86 ⟨by decide, by decide⟩
  obtain ⟨T87, h87, X87, e87, W87, st87⟩ := stI X82 hx hZ e82 Ar86 (j := (3 : Int32)) hin86 (g := (mkF m 130 #[.val (.int p0), .val (.int p1), .val (.int p2), .val (.ref b8), .unset, .unset, .unset, .unset, .unset] [(.int (246 : Int32)), (.int (3 : Int32)), (.ref b67), (.ref b67)])) rfl rfl (hb hby at_130)
  have pre88 : ∀ t, Steps p.tables e below (T87.setTop (mkF m 131 #[.val (.int p0), .val (.int p1), .val (.int p2), .val (.ref b8), .unset, .unset, .unset, .unset, .unset] [(.ref b67)])) t → Steps p.tables e below (s₁.setTop (entryFrame m #[(.int p0), (.int p1), (.int p2)] maxLocals)) t := fun t kt => pre85 t (st87 _ kt)
  clear pre85 st87
  have V87 : Arv Z h87 b67 k67 .int (14 : Int32) [(.int (90 : Int32)), (.int (122 : Int32)), (.int (214 : Int32)), (.int (246 : Int32)), (.int (0 : Int32)), (.int (0 : Int32)), (.int (0 : Int32)), (.int (0 : Int32)), (.int (0 : Int32)), (.int (0 : Int32)), (.int (0 : Int32)), (.int (0 : Int32)), (.int (0 : Int32)), (.int (0 : Int32))] (.int (0 : Int32)) := Arv.set Ar86 q86 S86 Ng86 H86 G86 rfl W87 3 rfl (Nat.le_of_ble_eq_true rfl)
  have F89 : Arv Z h87 b8 k8 .int (14 : Int32) [(.int (65 : Int32)), (.int (97 : Int32)), (.int (192 : Int32)), (.int (216 : Int32)), (.int (248 : Int32)), (.int (880 : Int32)), (.int (895 : Int32)), (.int (8204 : Int32)), (.int (8304 : Int32)), (.int (11264 : Int32)), (.int (12289 : Int32)), (.int (63744 : Int32)), (.int (65008 : Int32)), (.int (65536 : Int32))] (.int (0 : Int32)) := F84.other W87 ne_b8_b67
  have K87 : Keep h0 h87 [] := K82.wr W87 (Or.inr sz67)
  have N87 := Fr.snoc X87 N82 gn67
  have Z87 : n0 ≤ h87.size := Nat.le_trans Z82 (Keep.of_wr W87).1
  have pre90 : ∀ t, Steps p.tables e below (T87.setTop (mkF m 136 #[.val (.int p0), .val (.int p1), .val (.int p2), .val (.ref b8), .unset, .unset, .unset, .unset, .unset] [(.int (767 : Int32)), (.int (4 : Int32)), (.ref b67), (.ref b67)])) t → Steps p.tables e below (s₁.setTop (entryFrame m #[(.int p0), (.int p1), (.int p2)] maxLocals)) t := fun t kt => pre88 t (by
    show Steps p.tables e below (T87.setTop (mkF m 131 #[.val (.int p0), .val (.int p1), .val (.int p2), .val (.ref b8), .unset, .unset, .unset, .unset, .unset] [(.ref b67)])) _
    refine XS.dup X87.here hx rfl (hb hby at_131) rfl rfl ?_
    show Steps p.tables e below (T87.setTop (mkF m 132 #[.val (.int p0), .val (.int p1), .val (.int p2), .val (.ref b8), .unset, .unset, .unset, .unset, .unset] [(.ref b67), (.ref b67)])) _
    refine XS.iconst X87.here hx rfl (hb hby at_132) ?_
    show Steps p.tables e below (T87.setTop (mkF m 133 #[.val (.int p0), .val (.int p1), .val (.int p2), .val (.ref b8), .unset, .unset, .unset, .unset, .unset] [(.int (4 : Int32)), (.ref b67), (.ref b67)])) _
    refine XS.sipush X87.here hx rfl (hb hby at_133) ?_
    exact kt)
  clear pre88
  have tv91 := V87
  obtain ⟨cl91, Ar91, q91, S91, Ng91, H91, G91⟩ := tv91
  have hin91 : ¬ ((4 : Int32) < 0 ∨ cl91.slots.size ≤ ((4 : Int32)).toNatClampNeg) := inb_of S91 ⟨by decide, by decide⟩
  obtain ⟨T92, h92, X92, e92, W92, st92⟩ := stI X87 hx hZ e87 Ar91 (j := (4 : Int32)) hin91 (g := (mkF m 136 #[.val (.int p0), .val (.int p1), .val (.int p2), .val (.ref b8), .unset, .unset, .unset, .unset, .unset] [(.int (767 : Int32)), (.int (4 : Int32)), (.ref b67), (.ref b67)])) rfl rfl (hb hby at_136)
  have pre93 : ∀ t, Steps p.tables e below (T92.setTop (mkF m 137 #[.val (.int p0), .val (.int p1), .val (.int p2), .val (.ref b8), .unset, .unset, .unset, .unset, .unset] [(.ref b67)])) t → Steps p.tables e below (s₁.setTop (entryFrame m #[(.int p0), (.int p1), (.int p2)] maxLocals)) t := fun t kt => pre90 t (st92 _ kt)
  clear pre90 st92
  have V92 : Arv Z h92 b67 k67 .int (14 : Int32) [(.int (90 : Int32)), (.int (122 : Int32)), (.int (214 : Int32)), (.int (246 : Int32)), (.int (767 : Int32)), (.int (0 : Int32)), (.int (0 : Int32)), (.int (0 : Int32)), (.int (0 : Int32)), (.int (0 : Int32)), (.int (0 : Int32)), (.int (0 : Int32)), (.int (0 : Int32)), (.int (0 : Int32))] (.int (0 : Int32)) := Arv.set Ar91 q91 S91 Ng91 H91 G91 rfl W92 4 rfl (Nat.le_of_ble_eq_true rfl)
  have F94 : Arv Z h92 b8 k8 .int (14 : Int32) [(.int (65 : Int32)), (.int (97 : Int32)), (.int (192 : Int32)), (.int (216 : Int32)), (.int (248 : Int32)), (.int (880 : Int32)), (.int (895 : Int32)), (.int (8204 : Int32)), (.int (8304 : Int32)), (.int (11264 : Int32)), (.int (12289 : Int32)), (.int (63744 : Int32)), (.int (65008 : Int32)), (.int (65536 : Int32))] (.int (0 : Int32)) := F89.other W92 ne_b8_b67
  have K92 : Keep h0 h92 [] := K87.wr W92 (Or.inr sz67)
  have N92 := Fr.snoc X92 N87 gn67
  have Z92 : n0 ≤ h92.size := Nat.le_trans Z87 (Keep.of_wr W92).1
  have pre95 : ∀ t, Steps p.tables e below (T92.setTop (mkF m 142 #[.val (.int p0), .val (.int p1), .val (.int p2), .val (.ref b8), .unset, .unset, .unset, .unset, .unset] [(.int (893 : Int32)), (.int (5 : Int32)), (.ref b67), (.ref b67)])) t → Steps p.tables e below (s₁.setTop (entryFrame m #[(.int p0), (.int p1), (.int p2)] maxLocals)) t := fun t kt => pre93 t (by
    show Steps p.tables e below (T92.setTop (mkF m 137 #[.val (.int p0), .val (.int p1), .val (.int p2), .val (.ref b8), .unset, .unset, .unset, .unset, .unset] [(.ref b67)])) _
    refine XS.dup X92.here hx rfl (hb hby at_137) rfl rfl ?_
    show Steps p.tables e below (T92.setTop (mkF m 138 #[.val (.int p0), .val (.int p1), .val (.int p2), .val (.ref b8), .unset, .unset, .unset, .unset, .unset] [(.ref b67), (.ref b67)])) _
    refine XS.iconst X92.here hx rfl (hb hby at_138) ?_
    show Steps p.tables e below (T92.setTop (mkF m 139 #[.val (.int p0), .val (.int p1), .val (.int p2), .val (.ref b8), .unset, .unset, .unset, .unset, .unset] [(.int (5 : Int32)), (.ref b67), (.ref b67)])) _
    refine XS.sipush X92.here hx rfl (hb hby at_139) ?_
    exact kt)
  clear pre93
  have tv96 := V92
  obtain ⟨cl96, Ar96, q96, S96, Ng96, H96, G96⟩ := tv96
  have hin96 : ¬ ((5 : Int32) < 0 ∨ cl96.slots.size ≤ ((5 : Int32)).toNatClampNeg) := inb_of S96 ⟨by decide, by decide⟩
  obtain ⟨T97, h97, X97, e97, W97, st97⟩ := stI X92 hx hZ e92 Ar96 (j := (5 : Int32)) hin96 (g := (mkF m 142 #[.val (.int p0), .val (.int p1), .val (.int p2), .val (.ref b8), .unset, .unset, .unset, .unset, .unset] [(.int (893 : Int32)), (.int (5 : Int32)), (.ref b67), (.ref b67)])) rfl rfl (hb hby at_142)
  have pre98 : ∀ t, Steps p.tables e below (T97.setTop (mkF m 143 #[.val (.int p0), .val (.int p1), .val (.int p2), .val (.ref b8), .unset, .unset, .unset, .unset, .unset] [(.ref b67)])) t → Steps p.tables e below (s₁.setTop (entryFrame m #[(.int p0), (.int p1), (.int p2)] maxLocals)) t := fun t kt => pre95 t (st97 _ kt)
  clear pre95 st97
  have V97 : Arv Z h97 b67 k67 .int (14 : Int32) [(.int (90 : Int32)), (.int (122 : Int32)), (.int (214 : Int32)), (.int (246 : Int32)), (.int (767 : Int32)), (.int (893 : Int32)), (.int (0 : Int32)), (.int (0 : Int32)), (.int (0 : Int32)), (.int (0 : Int32)), (.int (0 : Int32)), (.int (0 : Int32)), (.int (0 : Int32)), (.int (0 : Int32))] (.int (0 : Int32)) := Arv.set Ar96 q96 S96 Ng96 H96 G96 rfl W97 5 rfl (Nat.le_of_ble_eq_true rfl)
  have F99 : Arv Z h97 b8 k8 .int (14 : Int32) [(.int (65 : Int32)), (.int (97 : Int32)), (.int (192 : Int32)), (.int (216 : Int32)), (.int (248 : Int32)), (.int (880 : Int32)), (.int (895 : Int32)), (.int (8204 : Int32)), (.int (8304 : Int32)), (.int (11264 : Int32)), (.int (12289 : Int32)), (.int (63744 : Int32)), (.int (65008 : Int32)), (.int (65536 : Int32))] (.int (0 : Int32)) := F94.other W97 ne_b8_b67
  have K97 : Keep h0 h97 [] := K92.wr W97 (Or.inr sz67)
  have N97 := Fr.snoc X97 N92 gn67
  have Z97 : n0 ≤ h97.size := Nat.le_trans Z92 (Keep.of_wr W97).1
  have pre100 : ∀ t, Steps p.tables e below (T97.setTop (mkF m 149 #[.val (.int p0), .val (.int p1), .val (.int p2), .val (.ref b8), .unset, .unset, .unset, .unset, .unset] [(.int (8191 : Int32)), (.int (6 : Int32)), (.ref b67), (.ref b67)])) t → Steps p.tables e below (s₁.setTop (entryFrame m #[(.int p0), (.int p1), (.int p2)] maxLocals)) t := fun t kt => pre98 t (by
    show Steps p.tables e below (T97.setTop (mkF m 143 #[.val (.int p0), .val (.int p1), .val (.int p2), .val (.ref b8), .unset, .unset, .unset, .unset, .unset] [(.ref b67)])) _
    refine XS.dup X97.here hx rfl (hb hby at_143) rfl rfl ?_
    show Steps p.tables e below (T97.setTop (mkF m 144 #[.val (.int p0), .val (.int p1), .val (.int p2), .val (.ref b8), .unset, .unset, .unset, .unset, .unset] [(.ref b67), (.ref b67)])) _
    refine XS.bipush X97.here hx rfl (hb hby at_144) ?_
    show Steps p.tables e below (T97.setTop (mkF m 146 #[.val (.int p0), .val (.int p1), .val (.int p2), .val (.ref b8), .unset, .unset, .unset, .unset, .unset] [(.int (6 : Int32)), (.ref b67), (.ref b67)])) _
    refine XS.sipush X97.here hx rfl (hb hby at_146) ?_
    exact kt)
  clear pre98
  have tv101 := V97
  obtain ⟨cl101, Ar101, q101, S101, Ng101, H101, G101⟩ := tv101
  have hin101 : ¬ ((6 : Int32) < 0 ∨ cl101.slots.size ≤ ((6 : Int32)).toNatClampNeg) := inb_of S101 ⟨by decide, by decide⟩
  obtain ⟨T102, h102, X102, e102, W102, st102⟩ := stI X97 hx hZ e97 Ar101 (j := (6 : Int32)) hin101 (g := (mkF m 149 #[.val (.int p0), .val (.int p1), .val (.int p2), .val (.ref b8), .unset, .unset, .unset, .unset, .unset] [(.int (8191 : Int32)), (.int (6 : Int32)), (.ref b67), (.ref b67)])) rfl rfl (hb hby at_149)
  have pre103 : ∀ t, Steps p.tables e below (T102.setTop (mkF m 150 #[.val (.int p0), .val (.int p1), .val (.int p2), .val (.ref b8), .unset, .unset, .unset, .unset, .unset] [(.ref b67)])) t → Steps p.tables e below (s₁.setTop (entryFrame m #[(.int p0), (.int p1), (.int p2)] maxLocals)) t := fun t kt => pre100 t (st102 _ kt)
  clear pre100 st102
  have V102 : Arv Z h102 b67 k67 .int (14 : Int32) [(.int (90 : Int32)), (.int (122 : Int32)), (.int (214 : Int32)), (.int (246 : Int32)), (.int (767 : Int32)), (.int (893 : Int32)), (.int (8191 : Int32)), (.int (0 : Int32)), (.int (0 : Int32)), (.int (0 : Int32)), (.int (0 : Int32)), (.int (0 : Int32)), (.int (0 : Int32)), (.int (0 : Int32))] (.int (0 : Int32)) := Arv.set Ar101 q101 S101 Ng101 H101 G101 rfl W102 6 rfl (Nat.le_of_ble_eq_true rfl)
  have F104 : Arv Z h102 b8 k8 .int (14 : Int32) [(.int (65 : Int32)), (.int (97 : Int32)), (.int (192 : Int32)), (.int (216 : Int32)), (.int (248 : Int32)), (.int (880 : Int32)), (.int (895 : Int32)), (.int (8204 : Int32)), (.int (8304 : Int32)), (.int (11264 : Int32)), (.int (12289 : Int32)), (.int (63744 : Int32)), (.int (65008 : Int32)), (.int (65536 : Int32))] (.int (0 : Int32)) := F99.other W102 ne_b8_b67
  have K102 : Keep h0 h102 [] := K97.wr W102 (Or.inr sz67)
  have N102 := Fr.snoc X102 N97 gn67
  have Z102 : n0 ≤ h102.size := Nat.le_trans Z97 (Keep.of_wr W102).1
  have pre105 : ∀ t, Steps p.tables e below (T102.setTop (mkF m 156 #[.val (.int p0), .val (.int p1), .val (.int p2), .val (.ref b8), .unset, .unset, .unset, .unset, .unset] [(.int (8205 : Int32)), (.int (7 : Int32)), (.ref b67), (.ref b67)])) t → Steps p.tables e below (s₁.setTop (entryFrame m #[(.int p0), (.int p1), (.int p2)] maxLocals)) t := fun t kt => pre103 t (by
    show Steps p.tables e below (T102.setTop (mkF m 150 #[.val (.int p0), .val (.int p1), .val (.int p2), .val (.ref b8), .unset, .unset, .unset, .unset, .unset] [(.ref b67)])) _
    refine XS.dup X102.here hx rfl (hb hby at_150) rfl rfl ?_
    show Steps p.tables e below (T102.setTop (mkF m 151 #[.val (.int p0), .val (.int p1), .val (.int p2), .val (.ref b8), .unset, .unset, .unset, .unset, .unset] [(.ref b67), (.ref b67)])) _
    refine XS.bipush X102.here hx rfl (hb hby at_151) ?_
    show Steps p.tables e below (T102.setTop (mkF m 153 #[.val (.int p0), .val (.int p1), .val (.int p2), .val (.ref b8), .unset, .unset, .unset, .unset, .unset] [(.int (7 : Int32)), (.ref b67), (.ref b67)])) _
    refine XS.sipush X102.here hx rfl (hb hby at_153) ?_
    exact kt)
  clear pre103
  have tv106 := V102
  obtain ⟨cl106, Ar106, q106, S106, Ng106, H106, G106⟩ := tv106
  have hin106 : ¬ ((7 : Int32) < 0 ∨ cl106.slots.size ≤ ((7 : Int32)).toNatClampNeg) := inb_of S106 ⟨by decide, by decide⟩
  obtain ⟨T107, h107, X107, e107, W107, st107⟩ := stI X102 hx hZ e102 Ar106 (j := (7 : Int32)) hin106 (g := (mkF m 156 #[.val (.int p0), .val (.int p1), .val (.int p2), .val (.ref b8), .unset, .unset, .unset, .unset, .unset] [(.int (8205 : Int32)), (.int (7 : Int32)), (.ref b67), (.ref b67)])) rfl rfl (hb hby at_156)
  have pre108 : ∀ t, Steps p.tables e below (T107.setTop (mkF m 157 #[.val (.int p0), .val (.int p1), .val (.int p2), .val (.ref b8), .unset, .unset, .unset, .unset, .unset] [(.ref b67)])) t → Steps p.tables e below (s₁.setTop (entryFrame m #[(.int p0), (.int p1), (.int p2)] maxLocals)) t := fun t kt => pre105 t (st107 _ kt)
  clear pre105 st107
  have V107 : Arv Z h107 b67 k67 .int (14 : Int32) [(.int (90 : Int32)), (.int (122 : Int32)), (.int (214 : Int32)), (.int (246 : Int32)), (.int (767 : Int32)), (.int (893 : Int32)), (.int (8191 : Int32)), (.int (8205 : Int32)), (.int (0 : Int32)), (.int (0 : Int32)), (.int (0 : Int32)), (.int (0 : Int32)), (.int (0 : Int32)), (.int (0 : Int32))] (.int (0 : Int32)) := Arv.set Ar106 q106 S106 Ng106 H106 G106 rfl W107 7 rfl (Nat.le_of_ble_eq_true rfl)
  have F109 : Arv Z h107 b8 k8 .int (14 : Int32) [(.int (65 : Int32)), (.int (97 : Int32)), (.int (192 : Int32)), (.int (216 : Int32)), (.int (248 : Int32)), (.int (880 : Int32)), (.int (895 : Int32)), (.int (8204 : Int32)), (.int (8304 : Int32)), (.int (11264 : Int32)), (.int (12289 : Int32)), (.int (63744 : Int32)), (.int (65008 : Int32)), (.int (65536 : Int32))] (.int (0 : Int32)) := F104.other W107 ne_b8_b67
  have K107 : Keep h0 h107 [] := K102.wr W107 (Or.inr sz67)
  have N107 := Fr.snoc X107 N102 gn67
  have Z107 : n0 ≤ h107.size := Nat.le_trans Z102 (Keep.of_wr W107).1
  have pre110 : ∀ t, Steps p.tables e below (T107.setTop (mkF m 163 #[.val (.int p0), .val (.int p1), .val (.int p2), .val (.ref b8), .unset, .unset, .unset, .unset, .unset] [(.int (8591 : Int32)), (.int (8 : Int32)), (.ref b67), (.ref b67)])) t → Steps p.tables e below (s₁.setTop (entryFrame m #[(.int p0), (.int p1), (.int p2)] maxLocals)) t := fun t kt => pre108 t (by
    show Steps p.tables e below (T107.setTop (mkF m 157 #[.val (.int p0), .val (.int p1), .val (.int p2), .val (.ref b8), .unset, .unset, .unset, .unset, .unset] [(.ref b67)])) _
    refine XS.dup X107.here hx rfl (hb hby at_157) rfl rfl ?_
    show Steps p.tables e below (T107.setTop (mkF m 158 #[.val (.int p0), .val (.int p1), .val (.int p2), .val (.ref b8), .unset, .unset, .unset, .unset, .unset] [(.ref b67), (.ref b67)])) _
    refine XS.bipush X107.here hx rfl (hb hby at_158) ?_
    show Steps p.tables e below (T107.setTop (mkF m 160 #[.val (.int p0), .val (.int p1), .val (.int p2), .val (.ref b8), .unset, .unset, .unset, .unset, .unset] [(.int (8 : Int32)), (.ref b67), (.ref b67)])) _
    refine XS.sipush X107.here hx rfl (hb hby at_160) ?_
    exact kt)
  clear pre108
  have tv111 := V107
  obtain ⟨cl111, Ar111, q111, S111, Ng111, H111, G111⟩ := tv111
  have hin111 : ¬ ((8 : Int32) < 0 ∨ cl111.slots.size ≤ ((8 : Int32)).toNatClampNeg) := inb_of S111 ⟨by decide, by decide⟩
  obtain ⟨T112, h112, X112, e112, W112, st112⟩ := stI X107 hx hZ e107 Ar111 (j := (8 : Int32)) hin111 (g := (mkF m 163 #[.val (.int p0), .val (.int p1), .val (.int p2), .val (.ref b8), .unset, .unset, .unset, .unset, .unset] [(.int (8591 : Int32)), (.int (8 : Int32)), (.ref b67), (.ref b67)])) rfl rfl (hb hby at_163)
  have pre113 : ∀ t, Steps p.tables e below (T112.setTop (mkF m 164 #[.val (.int p0), .val (.int p1), .val (.int p2), .val (.ref b8), .unset, .unset, .unset, .unset, .unset] [(.ref b67)])) t → Steps p.tables e below (s₁.setTop (entryFrame m #[(.int p0), (.int p1), (.int p2)] maxLocals)) t := fun t kt => pre110 t (st112 _ kt)
  clear pre110 st112
  have V112 : Arv Z h112 b67 k67 .int (14 : Int32) [(.int (90 : Int32)), (.int (122 : Int32)), (.int (214 : Int32)), (.int (246 : Int32)), (.int (767 : Int32)), (.int (893 : Int32)), (.int (8191 : Int32)), (.int (8205 : Int32)), (.int (8591 : Int32)), (.int (0 : Int32)), (.int (0 : Int32)), (.int (0 : Int32)), (.int (0 : Int32)), (.int (0 : Int32))] (.int (0 : Int32)) := Arv.set Ar111 q111 S111 Ng111 H111 G111 rfl W112 8 rfl (Nat.le_of_ble_eq_true rfl)
  have F114 : Arv Z h112 b8 k8 .int (14 : Int32) [(.int (65 : Int32)), (.int (97 : Int32)), (.int (192 : Int32)), (.int (216 : Int32)), (.int (248 : Int32)), (.int (880 : Int32)), (.int (895 : Int32)), (.int (8204 : Int32)), (.int (8304 : Int32)), (.int (11264 : Int32)), (.int (12289 : Int32)), (.int (63744 : Int32)), (.int (65008 : Int32)), (.int (65536 : Int32))] (.int (0 : Int32)) := F109.other W112 ne_b8_b67
  have K112 : Keep h0 h112 [] := K107.wr W112 (Or.inr sz67)
  have N112 := Fr.snoc X112 N107 gn67
  have Z112 : n0 ≤ h112.size := Nat.le_trans Z107 (Keep.of_wr W112).1
  have pre115 : ∀ t, Steps p.tables e below (T112.setTop (mkF m 170 #[.val (.int p0), .val (.int p1), .val (.int p2), .val (.ref b8), .unset, .unset, .unset, .unset, .unset] [(.int (12271 : Int32)), (.int (9 : Int32)), (.ref b67), (.ref b67)])) t → Steps p.tables e below (s₁.setTop (entryFrame m #[(.int p0), (.int p1), (.int p2)] maxLocals)) t := fun t kt => pre113 t (by
    show Steps p.tables e below (T112.setTop (mkF m 164 #[.val (.int p0), .val (.int p1), .val (.int p2), .val (.ref b8), .unset, .unset, .unset, .unset, .unset] [(.ref b67)])) _
    refine XS.dup X112.here hx rfl (hb hby at_164) rfl rfl ?_
    show Steps p.tables e below (T112.setTop (mkF m 165 #[.val (.int p0), .val (.int p1), .val (.int p2), .val (.ref b8), .unset, .unset, .unset, .unset, .unset] [(.ref b67), (.ref b67)])) _
    refine XS.bipush X112.here hx rfl (hb hby at_165) ?_
    show Steps p.tables e below (T112.setTop (mkF m 167 #[.val (.int p0), .val (.int p1), .val (.int p2), .val (.ref b8), .unset, .unset, .unset, .unset, .unset] [(.int (9 : Int32)), (.ref b67), (.ref b67)])) _
    refine XS.sipush X112.here hx rfl (hb hby at_167) ?_
    exact kt)
  clear pre113
  have tv116 := V112
  obtain ⟨cl116, Ar116, q116, S116, Ng116, H116, G116⟩ := tv116
  have hin116 : ¬ ((9 : Int32) < 0 ∨ cl116.slots.size ≤ ((9 : Int32)).toNatClampNeg) := inb_of S116 ⟨by decide, by decide⟩
  obtain ⟨T117, h117, X117, e117, W117, st117⟩ := stI X112 hx hZ e112 Ar116 (j := (9 : Int32)) hin116 (g := (mkF m 170 #[.val (.int p0), .val (.int p1), .val (.int p2), .val (.ref b8), .unset, .unset, .unset, .unset, .unset] [(.int (12271 : Int32)), (.int (9 : Int32)), (.ref b67), (.ref b67)])) rfl rfl (hb hby at_170)
  have pre118 : ∀ t, Steps p.tables e below (T117.setTop (mkF m 171 #[.val (.int p0), .val (.int p1), .val (.int p2), .val (.ref b8), .unset, .unset, .unset, .unset, .unset] [(.ref b67)])) t → Steps p.tables e below (s₁.setTop (entryFrame m #[(.int p0), (.int p1), (.int p2)] maxLocals)) t := fun t kt => pre115 t (st117 _ kt)
  clear pre115 st117
  have V117 : Arv Z h117 b67 k67 .int (14 : Int32) [(.int (90 : Int32)), (.int (122 : Int32)), (.int (214 : Int32)), (.int (246 : Int32)), (.int (767 : Int32)), (.int (893 : Int32)), (.int (8191 : Int32)), (.int (8205 : Int32)), (.int (8591 : Int32)), (.int (12271 : Int32)), (.int (0 : Int32)), (.int (0 : Int32)), (.int (0 : Int32)), (.int (0 : Int32))] (.int (0 : Int32)) := Arv.set Ar116 q116 S116 Ng116 H116 G116 rfl W117 9 rfl (Nat.le_of_ble_eq_true rfl)
  have F119 : Arv Z h117 b8 k8 .int (14 : Int32) [(.int (65 : Int32)), (.int (97 : Int32)), (.int (192 : Int32)), (.int (216 : Int32)), (.int (248 : Int32)), (.int (880 : Int32)), (.int (895 : Int32)), (.int (8204 : Int32)), (.int (8304 : Int32)), (.int (11264 : Int32)), (.int (12289 : Int32)), (.int (63744 : Int32)), (.int (65008 : Int32)), (.int (65536 : Int32))] (.int (0 : Int32)) := F114.other W117 ne_b8_b67
  have K117 : Keep h0 h117 [] := K112.wr W117 (Or.inr sz67)
  have N117 := Fr.snoc X117 N112 gn67
  have Z117 : n0 ≤ h117.size := Nat.le_trans Z112 (Keep.of_wr W117).1
  have pre120 : ∀ t, Steps p.tables e below (T117.setTop (mkF m 176 #[.val (.int p0), .val (.int p1), .val (.int p2), .val (.ref b8), .unset, .unset, .unset, .unset, .unset] [(.int (55295 : Int32)), (.int (10 : Int32)), (.ref b67), (.ref b67)])) t → Steps p.tables e below (s₁.setTop (entryFrame m #[(.int p0), (.int p1), (.int p2)] maxLocals)) t := fun t kt => pre118 t (by
    show Steps p.tables e below (T117.setTop (mkF m 171 #[.val (.int p0), .val (.int p1), .val (.int p2), .val (.ref b8), .unset, .unset, .unset, .unset, .unset] [(.ref b67)])) _
    refine XS.dup X117.here hx rfl (hb hby at_171) rfl rfl ?_
    show Steps p.tables e below (T117.setTop (mkF m 172 #[.val (.int p0), .val (.int p1), .val (.int p2), .val (.ref b8), .unset, .unset, .unset, .unset, .unset] [(.ref b67), (.ref b67)])) _
    refine XS.bipush X117.here hx rfl (hb hby at_172) ?_
    show Steps p.tables e below (T117.setTop (mkF m 174 #[.val (.int p0), .val (.int p1), .val (.int p2), .val (.ref b8), .unset, .unset, .unset, .unset, .unset] [(.int (10 : Int32)), (.ref b67), (.ref b67)])) _
    refine X117.ldcInt hx hown (mvT hZ (hw _ (List.mem_of_getElem? (i := 15) rfl))) (g := (mkF m 174 #[.val (.int p0), .val (.int p1), .val (.int p2), .val (.ref b8), .unset, .unset, .unset, .unset, .unset] [(.int (10 : Int32)), (.ref b67), (.ref b67)])) rfl (hb hby at_174) _ ?_
    exact kt)
  clear pre118
  have tv121 := V117
  obtain ⟨cl121, Ar121, q121, S121, Ng121, H121, G121⟩ := tv121
  have hin121 : ¬ ((10 : Int32) < 0 ∨ cl121.slots.size ≤ ((10 : Int32)).toNatClampNeg) := inb_of S121 ⟨by decide, by decide⟩
  obtain ⟨T122, h122, X122, e122, W122, st122⟩ := stI X117 hx hZ e117 Ar121 (j := (10 : Int32)) hin121 (g := (mkF m 176 #[.val (.int p0), .val (.int p1), .val (.int p2), .val (.ref b8), .unset, .unset, .unset, .unset, .unset] [(.int (55295 : Int32)), (.int (10 : Int32)), (.ref b67), (.ref b67)])) rfl rfl (hb hby at_176)
  have pre123 : ∀ t, Steps p.tables e below (T122.setTop (mkF m 177 #[.val (.int p0), .val (.int p1), .val (.int p2), .val (.ref b8), .unset, .unset, .unset, .unset, .unset] [(.ref b67)])) t → Steps p.tables e below (s₁.setTop (entryFrame m #[(.int p0), (.int p1), (.int p2)] maxLocals)) t := fun t kt => pre120 t (st122 _ kt)
  clear pre120 st122
  have V122 : Arv Z h122 b67 k67 .int (14 : Int32) [(.int (90 : Int32)), (.int (122 : Int32)), (.int (214 : Int32)), (.int (246 : Int32)), (.int (767 : Int32)), (.int (893 : Int32)), (.int (8191 : Int32)), (.int (8205 : Int32)), (.int (8591 : Int32)), (.int (12271 : Int32)), (.int (55295 : Int32)), (.int (0 : Int32)), (.int (0 : Int32)), (.int (0 : Int32))] (.int (0 : Int32)) := Arv.set Ar121 q121 S121 Ng121 H121 G121 rfl W122 10 rfl (Nat.le_of_ble_eq_true rfl)
  have F124 : Arv Z h122 b8 k8 .int (14 : Int32) [(.int (65 : Int32)), (.int (97 : Int32)), (.int (192 : Int32)), (.int (216 : Int32)), (.int (248 : Int32)), (.int (880 : Int32)), (.int (895 : Int32)), (.int (8204 : Int32)), (.int (8304 : Int32)), (.int (11264 : Int32)), (.int (12289 : Int32)), (.int (63744 : Int32)), (.int (65008 : Int32)), (.int (65536 : Int32))] (.int (0 : Int32)) := F119.other W122 ne_b8_b67
  have K122 : Keep h0 h122 [] := K117.wr W122 (Or.inr sz67)
  have N122 := Fr.snoc X122 N117 gn67
  have Z122 : n0 ≤ h122.size := Nat.le_trans Z117 (Keep.of_wr W122).1
  have pre125 : ∀ t, Steps p.tables e below (T122.setTop (mkF m 182 #[.val (.int p0), .val (.int p1), .val (.int p2), .val (.ref b8), .unset, .unset, .unset, .unset, .unset] [(.int (64975 : Int32)), (.int (11 : Int32)), (.ref b67), (.ref b67)])) t → Steps p.tables e below (s₁.setTop (entryFrame m #[(.int p0), (.int p1), (.int p2)] maxLocals)) t := fun t kt => pre123 t (by
    show Steps p.tables e below (T122.setTop (mkF m 177 #[.val (.int p0), .val (.int p1), .val (.int p2), .val (.ref b8), .unset, .unset, .unset, .unset, .unset] [(.ref b67)])) _
    refine XS.dup X122.here hx rfl (hb hby at_177) rfl rfl ?_
    show Steps p.tables e below (T122.setTop (mkF m 178 #[.val (.int p0), .val (.int p1), .val (.int p2), .val (.ref b8), .unset, .unset, .unset, .unset, .unset] [(.ref b67), (.ref b67)])) _
    refine XS.bipush X122.here hx rfl (hb hby at_178) ?_
    show Steps p.tables e below (T122.setTop (mkF m 180 #[.val (.int p0), .val (.int p1), .val (.int p2), .val (.ref b8), .unset, .unset, .unset, .unset, .unset] [(.int (11 : Int32)), (.ref b67), (.ref b67)])) _
    refine X122.ldcInt hx hown (mvT hZ (hw _ (List.mem_of_getElem? (i := 16) rfl))) (g := (mkF m 180 #[.val (.int p0), .val (.int p1), .val (.int p2), .val (.ref b8), .unset, .unset, .unset, .unset, .unset] [(.int (11 : Int32)), (.ref b67), (.ref b67)])) rfl (hb hby at_180) _ ?_
    exact kt)
  clear pre123
  have tv126 := V122
  obtain ⟨cl126, Ar126, q126, S126, Ng126, H126, G126⟩ := tv126
  have hin126 : ¬ ((11 : Int32) < 0 ∨ cl126.slots.size ≤ ((11 : Int32)).toNatClampNeg) := inb_of S126 ⟨by decide, by decide⟩
  obtain ⟨T127, h127, X127, e127, W127, st127⟩ := stI X122 hx hZ e122 Ar126 (j := (11 : Int32)) hin126 (g := (mkF m 182 #[.val (.int p0), .val (.int p1), .val (.int p2), .val (.ref b8), .unset, .unset, .unset, .unset, .unset] [(.int (64975 : Int32)), (.int (11 : Int32)), (.ref b67), (.ref b67)])) rfl rfl (hb hby at_182)
  have pre128 : ∀ t, Steps p.tables e below (T127.setTop (mkF m 183 #[.val (.int p0), .val (.int p1), .val (.int p2), .val (.ref b8), .unset, .unset, .unset, .unset, .unset] [(.ref b67)])) t → Steps p.tables e below (s₁.setTop (entryFrame m #[(.int p0), (.int p1), (.int p2)] maxLocals)) t := fun t kt => pre125 t (st127 _ kt)
  clear pre125 st127
  have V127 : Arv Z h127 b67 k67 .int (14 : Int32) [(.int (90 : Int32)), (.int (122 : Int32)), (.int (214 : Int32)), (.int (246 : Int32)), (.int (767 : Int32)), (.int (893 : Int32)), (.int (8191 : Int32)), (.int (8205 : Int32)), (.int (8591 : Int32)), (.int (12271 : Int32)), (.int (55295 : Int32)), (.int (64975 : Int32)), (.int (0 : Int32)), (.int (0 : Int32))] (.int (0 : Int32)) := Arv.set Ar126 q126 S126 Ng126 H126 G126 rfl W127 11 rfl (Nat.le_of_ble_eq_true rfl)
  have F129 : Arv Z h127 b8 k8 .int (14 : Int32) [(.int (65 : Int32)), (.int (97 : Int32)), (.int (192 : Int32)), (.int (216 : Int32)), (.int (248 : Int32)), (.int (880 : Int32)), (.int (895 : Int32)), (.int (8204 : Int32)), (.int (8304 : Int32)), (.int (11264 : Int32)), (.int (12289 : Int32)), (.int (63744 : Int32)), (.int (65008 : Int32)), (.int (65536 : Int32))] (.int (0 : Int32)) := F124.other W127 ne_b8_b67
  have K127 : Keep h0 h127 [] := K122.wr W127 (Or.inr sz67)
  have N127 := Fr.snoc X127 N122 gn67
  have Z127 : n0 ≤ h127.size := Nat.le_trans Z122 (Keep.of_wr W127).1
  have pre130 : ∀ t, Steps p.tables e below (T127.setTop (mkF m 188 #[.val (.int p0), .val (.int p1), .val (.int p2), .val (.ref b8), .unset, .unset, .unset, .unset, .unset] [(.int (65533 : Int32)), (.int (12 : Int32)), (.ref b67), (.ref b67)])) t → Steps p.tables e below (s₁.setTop (entryFrame m #[(.int p0), (.int p1), (.int p2)] maxLocals)) t := fun t kt => pre128 t (by
    show Steps p.tables e below (T127.setTop (mkF m 183 #[.val (.int p0), .val (.int p1), .val (.int p2), .val (.ref b8), .unset, .unset, .unset, .unset, .unset] [(.ref b67)])) _
    refine XS.dup X127.here hx rfl (hb hby at_183) rfl rfl ?_
    show Steps p.tables e below (T127.setTop (mkF m 184 #[.val (.int p0), .val (.int p1), .val (.int p2), .val (.ref b8), .unset, .unset, .unset, .unset, .unset] [(.ref b67), (.ref b67)])) _
    refine XS.bipush X127.here hx rfl (hb hby at_184) ?_
    show Steps p.tables e below (T127.setTop (mkF m 186 #[.val (.int p0), .val (.int p1), .val (.int p2), .val (.ref b8), .unset, .unset, .unset, .unset, .unset] [(.int (12 : Int32)), (.ref b67), (.ref b67)])) _
    refine X127.ldcInt hx hown (mvT hZ (hw _ (List.mem_of_getElem? (i := 17) rfl))) (g := (mkF m 186 #[.val (.int p0), .val (.int p1), .val (.int p2), .val (.ref b8), .unset, .unset, .unset, .unset, .unset] [(.int (12 : Int32)), (.ref b67), (.ref b67)])) rfl (hb hby at_186) _ ?_
    exact kt)
  clear pre128
  have tv131 := V127
  obtain ⟨cl131, Ar131, q131, S131, Ng131, H131, G131⟩ := tv131
  have hin131 : ¬ ((12 : Int32) < 0 ∨ cl131.slots.size ≤ ((12 : Int32)).toNatClampNeg) := inb_of S131 ⟨by decide, by decide⟩
  obtain ⟨T132, h132, X132, e132, W132, st132⟩ := stI X127 hx hZ e127 Ar131 (j := (12 : Int32)) hin131 (g := (mkF m 188 #[.val (.int p0), .val (.int p1), .val (.int p2), .val (.ref b8), .unset, .unset, .unset, .unset, .unset] [(.int (65533 : Int32)), (.int (12 : Int32)), (.ref b67), (.ref b67)])) rfl rfl (hb hby at_188)
  have pre133 : ∀ t, Steps p.tables e below (T132.setTop (mkF m 189 #[.val (.int p0), .val (.int p1), .val (.int p2), .val (.ref b8), .unset, .unset, .unset, .unset, .unset] [(.ref b67)])) t → Steps p.tables e below (s₁.setTop (entryFrame m #[(.int p0), (.int p1), (.int p2)] maxLocals)) t := fun t kt => pre130 t (st132 _ kt)
  clear pre130 st132
  have V132 : Arv Z h132 b67 k67 .int (14 : Int32) [(.int (90 : Int32)), (.int (122 : Int32)), (.int (214 : Int32)), (.int (246 : Int32)), (.int (767 : Int32)), (.int (893 : Int32)), (.int (8191 : Int32)), (.int (8205 : Int32)), (.int (8591 : Int32)), (.int (12271 : Int32)), (.int (55295 : Int32)), (.int (64975 : Int32)), (.int (65533 : Int32)), (.int (0 : Int32))] (.int (0 : Int32)) := Arv.set Ar131 q131 S131 Ng131 H131 G131 rfl W132 12 rfl (Nat.le_of_ble_eq_true rfl)
  have F134 : Arv Z h132 b8 k8 .int (14 : Int32) [(.int (65 : Int32)), (.int (97 : Int32)), (.int (192 : Int32)), (.int (216 : Int32)), (.int (248 : Int32)), (.int (880 : Int32)), (.int (895 : Int32)), (.int (8204 : Int32)), (.int (8304 : Int32)), (.int (11264 : Int32)), (.int (12289 : Int32)), (.int (63744 : Int32)), (.int (65008 : Int32)), (.int (65536 : Int32))] (.int (0 : Int32)) := F129.other W132 ne_b8_b67
  have K132 : Keep h0 h132 [] := K127.wr W132 (Or.inr sz67)
  have N132 := Fr.snoc X132 N127 gn67
  have Z132 : n0 ≤ h132.size := Nat.le_trans Z127 (Keep.of_wr W132).1
  have pre135 : ∀ t, Steps p.tables e below (T132.setTop (mkF m 194 #[.val (.int p0), .val (.int p1), .val (.int p2), .val (.ref b8), .unset, .unset, .unset, .unset, .unset] [(.int (983039 : Int32)), (.int (13 : Int32)), (.ref b67), (.ref b67)])) t → Steps p.tables e below (s₁.setTop (entryFrame m #[(.int p0), (.int p1), (.int p2)] maxLocals)) t := fun t kt => pre133 t (by
    show Steps p.tables e below (T132.setTop (mkF m 189 #[.val (.int p0), .val (.int p1), .val (.int p2), .val (.ref b8), .unset, .unset, .unset, .unset, .unset] [(.ref b67)])) _
    refine XS.dup X132.here hx rfl (hb hby at_189) rfl rfl ?_
    show Steps p.tables e below (T132.setTop (mkF m 190 #[.val (.int p0), .val (.int p1), .val (.int p2), .val (.ref b8), .unset, .unset, .unset, .unset, .unset] [(.ref b67), (.ref b67)])) _
    refine XS.bipush X132.here hx rfl (hb hby at_190) ?_
    show Steps p.tables e below (T132.setTop (mkF m 192 #[.val (.int p0), .val (.int p1), .val (.int p2), .val (.ref b8), .unset, .unset, .unset, .unset, .unset] [(.int (13 : Int32)), (.ref b67), (.ref b67)])) _
    refine X132.ldcInt hx hown (mvT hZ (hw _ (List.mem_of_getElem? (i := 18) rfl))) (g := (mkF m 192 #[.val (.int p0), .val (.int p1), .val (.int p2), .val (.ref b8), .unset, .unset, .unset, .unset, .unset] [(.int (13 : Int32)), (.ref b67), (.ref b67)])) rfl (hb hby at_192) _ ?_
    exact kt)
  clear pre133
  have tv136 := V132
  obtain ⟨cl136, Ar136, q136, S136, Ng136, H136, G136⟩ := tv136
  have hin136 : ¬ ((13 : Int32) < 0 ∨ cl136.slots.size ≤ ((13 : Int32)).toNatClampNeg) := inb_of S136 ⟨by decide, by decide⟩
  obtain ⟨T137, h137, X137, e137, W137, st137⟩ := stI X132 hx hZ e132 Ar136 (j := (13 : Int32)) hin136 (g := (mkF m 194 #[.val (.int p0), .val (.int p1), .val (.int p2), .val (.ref b8), .unset, .unset, .unset, .unset, .unset] [(.int (983039 : Int32)), (.int (13 : Int32)), (.ref b67), (.ref b67)])) rfl rfl (hb hby at_194)
  have pre138 : ∀ t, Steps p.tables e below (T137.setTop (mkF m 195 #[.val (.int p0), .val (.int p1), .val (.int p2), .val (.ref b8), .unset, .unset, .unset, .unset, .unset] [(.ref b67)])) t → Steps p.tables e below (s₁.setTop (entryFrame m #[(.int p0), (.int p1), (.int p2)] maxLocals)) t := fun t kt => pre135 t (st137 _ kt)
  clear pre135 st137
  have V137 : Arv Z h137 b67 k67 .int (14 : Int32) [(.int (90 : Int32)), (.int (122 : Int32)), (.int (214 : Int32)), (.int (246 : Int32)), (.int (767 : Int32)), (.int (893 : Int32)), (.int (8191 : Int32)), (.int (8205 : Int32)), (.int (8591 : Int32)), (.int (12271 : Int32)), (.int (55295 : Int32)), (.int (64975 : Int32)), (.int (65533 : Int32)), (.int (983039 : Int32))] (.int (0 : Int32)) := Arv.set Ar136 q136 S136 Ng136 H136 G136 rfl W137 13 rfl (Nat.le_of_ble_eq_true rfl)
  have F139 : Arv Z h137 b8 k8 .int (14 : Int32) [(.int (65 : Int32)), (.int (97 : Int32)), (.int (192 : Int32)), (.int (216 : Int32)), (.int (248 : Int32)), (.int (880 : Int32)), (.int (895 : Int32)), (.int (8204 : Int32)), (.int (8304 : Int32)), (.int (11264 : Int32)), (.int (12289 : Int32)), (.int (63744 : Int32)), (.int (65008 : Int32)), (.int (65536 : Int32))] (.int (0 : Int32)) := F134.other W137 ne_b8_b67
  have K137 : Keep h0 h137 [] := K132.wr W137 (Or.inr sz67)
  have N137 := Fr.snoc X137 N132 gn67
  have Z137 : n0 ≤ h137.size := Nat.le_trans Z132 (Keep.of_wr W137).1
  have pre140 : ∀ t, Steps p.tables e below (T137.setTop (mkF m 206 #[.val (.int p0), .val (.int p1), .val (.int p2), .val (.ref b8), .val (.ref b67), .val (.int ((p1 &&& (2147483647 : Int32)) % (14 : Int32))), .unset, .unset, .unset] [])) t → Steps p.tables e below (s₁.setTop (entryFrame m #[(.int p0), (.int p1), (.int p2)] maxLocals)) t := fun t kt => pre138 t (by
    show Steps p.tables e below (T137.setTop (mkF m 195 #[.val (.int p0), .val (.int p1), .val (.int p2), .val (.ref b8), .unset, .unset, .unset, .unset, .unset] [(.ref b67)])) _
    refine XS.astore X137.here hx rfl (hb hby at_195) rfl rfl (l' := #[.val (.int p0), .val (.int p1), .val (.int p2), .val (.ref b8), .val (.ref b67), .unset, .unset, .unset, .unset]) rfl ?_
    show Steps p.tables e below (T137.setTop (mkF m 197 #[.val (.int p0), .val (.int p1), .val (.int p2), .val (.ref b8), .val (.ref b67), .unset, .unset, .unset, .unset] [])) _
    refine XS.iloadN X137.here hx rfl (hb hby at_197) rfl ?_
    show Steps p.tables e below (T137.setTop (mkF m 198 #[.val (.int p0), .val (.int p1), .val (.int p2), .val (.ref b8), .val (.ref b67), .unset, .unset, .unset, .unset] [(.int p1)])) _
    refine X137.ldcInt hx hown (mvT hZ (hw _ (List.mem_of_getElem? (i := 19) rfl))) (g := (mkF m 198 #[.val (.int p0), .val (.int p1), .val (.int p2), .val (.ref b8), .val (.ref b67), .unset, .unset, .unset, .unset] [(.int p1)])) rfl (hb hby at_198) _ ?_
    show Steps p.tables e below (T137.setTop (mkF m 200 #[.val (.int p0), .val (.int p1), .val (.int p2), .val (.ref b8), .val (.ref b67), .unset, .unset, .unset, .unset] [(.int (2147483647 : Int32)), (.int p1)])) _
    refine XS.iand X137.here hx rfl (hb hby at_200) rfl ?_
    show Steps p.tables e below (T137.setTop (mkF m 201 #[.val (.int p0), .val (.int p1), .val (.int p2), .val (.ref b8), .val (.ref b67), .unset, .unset, .unset, .unset] [(.int (p1 &&& (2147483647 : Int32)))])) _
    refine XS.bipush X137.here hx rfl (hb hby at_201) ?_
    show Steps p.tables e below (T137.setTop (mkF m 203 #[.val (.int p0), .val (.int p1), .val (.int p2), .val (.ref b8), .val (.ref b67), .unset, .unset, .unset, .unset] [(.int (14 : Int32)), (.int (p1 &&& (2147483647 : Int32)))])) _
    refine XS.irem X137.here hx rfl (hb hby at_203) rfl (by decide) ?_
    rw [own_irem]
    show Steps p.tables e below (T137.setTop (mkF m 204 #[.val (.int p0), .val (.int p1), .val (.int p2), .val (.ref b8), .val (.ref b67), .unset, .unset, .unset, .unset] [(.int ((p1 &&& (2147483647 : Int32)) % (14 : Int32)))])) _
    refine XS.istore X137.here hx rfl (hb hby at_204) rfl (l' := #[.val (.int p0), .val (.int p1), .val (.int p2), .val (.ref b8), .val (.ref b67), .val (.int ((p1 &&& (2147483647 : Int32)) % (14 : Int32))), .unset, .unset, .unset]) rfl ?_
    exact kt)
  clear pre138
  obtain ⟨ix, hm141, pre141⟩ : ∃ (ix : Int32), (¬ ix < 0 ∧ ix < (14 : Int32)) ∧ ∀ t, Steps p.tables e below (T137.setTop (mkF m 206 #[.val (.int p0), .val (.int p1), .val (.int p2), .val (.ref b8), .val (.ref b67), .val (.int ix), .unset, .unset, .unset] [])) t → Steps p.tables e below (s₁.setTop (entryFrame m #[(.int p0), (.int p1), (.int p2)] maxLocals)) t := ⟨((p1 &&& (2147483647 : Int32)) % (14 : Int32)), own_idx p1, pre140⟩
  clear pre140
  obtain ⟨va, vb, hab⟩ := own_pair ix.toNatClampNeg (by
    have hk := hm141
    simp only [Int32.lt_iff_toInt_lt, Int32.reduceToInt] at hk
    simp only [Int32.toNatClampNeg]
    omega)
  have pre142 : ∀ t, Steps p.tables e below (T137.setTop (mkF m 209 #[.val (.int p0), .val (.int p1), .val (.int p2), .val (.ref b8), .val (.ref b67), .val (.int ix), .unset, .unset, .unset] [(.int ix), (.ref b8)])) t → Steps p.tables e below (s₁.setTop (entryFrame m #[(.int p0), (.int p1), (.int p2)] maxLocals)) t := fun t kt => pre141 t (by
    show Steps p.tables e below (T137.setTop (mkF m 206 #[.val (.int p0), .val (.int p1), .val (.int p2), .val (.ref b8), .val (.ref b67), .val (.int ix), .unset, .unset, .unset] [])) _
    refine XS.aloadN X137.here hx rfl (hb hby at_206) rfl rfl ?_
    show Steps p.tables e below (T137.setTop (mkF m 207 #[.val (.int p0), .val (.int p1), .val (.int p2), .val (.ref b8), .val (.ref b67), .val (.int ix), .unset, .unset, .unset] [(.ref b8)])) _
    refine XS.iload X137.here hx rfl (hb hby at_207) rfl ?_
    exact kt)
  clear pre141
  have tv143 := F139
  obtain ⟨cl143, Ar143, q143, S143, Ng143, H143, G143⟩ := tv143
  have hin143 : ¬ (ix < 0 ∨ cl143.slots.size ≤ (ix).toNatClampNeg) := inb_of S143 hm141
  have hat143 : cl143.slots[(ix).toNatClampNeg]? = some (.int va) := Has.at H143 hin143 hab.1
  have pre144 : ∀ t, Steps p.tables e below (T137.setTop (mkF m 216 #[.val (.int p0), .val (.int p1), .val (.int p2), .val (.ref b8), .val (.ref b67), .val (.int ix), .val (.int va), .unset, .unset] [(.int ix), (.ref b67)])) t → Steps p.tables e below (s₁.setTop (entryFrame m #[(.int p0), (.int p1), (.int p2)] maxLocals)) t := fun t kt => pre142 t (by
    show Steps p.tables e below (T137.setTop (mkF m 209 #[.val (.int p0), .val (.int p1), .val (.int p2), .val (.ref b8), .val (.ref b67), .val (.int ix), .unset, .unset, .unset] [(.int ix), (.ref b8)])) _
    refine X137.iaload hx (j := ix) (v := (.int va)) (by rw [e137]; exact Ar143.1) (State.isArrayOf_alike hZ.alike Ar143.2.1) Ar143.2.2 hin143 hat143 (g := (mkF m 209 #[.val (.int p0), .val (.int p1), .val (.int p2), .val (.ref b8), .val (.ref b67), .val (.int ix), .unset, .unset, .unset] [(.int ix), (.ref b8)])) rfl rfl (hb hby at_209) _ ?_
    show Steps p.tables e below (T137.setTop (mkF m 210 #[.val (.int p0), .val (.int p1), .val (.int p2), .val (.ref b8), .val (.ref b67), .val (.int ix), .unset, .unset, .unset] [(.int va)])) _
    refine XS.istore X137.here hx rfl (hb hby at_210) rfl (l' := #[.val (.int p0), .val (.int p1), .val (.int p2), .val (.ref b8), .val (.ref b67), .val (.int ix), .val (.int va), .unset, .unset]) rfl ?_
    show Steps p.tables e below (T137.setTop (mkF m 212 #[.val (.int p0), .val (.int p1), .val (.int p2), .val (.ref b8), .val (.ref b67), .val (.int ix), .val (.int va), .unset, .unset] [])) _
    refine XS.aload X137.here hx rfl (hb hby at_212) rfl rfl ?_
    show Steps p.tables e below (T137.setTop (mkF m 214 #[.val (.int p0), .val (.int p1), .val (.int p2), .val (.ref b8), .val (.ref b67), .val (.int ix), .val (.int va), .unset, .unset] [(.ref b67)])) _
    refine XS.iload X137.here hx rfl (hb hby at_214) rfl ?_
    exact kt)
  clear pre142
  have tv145 := V137
  obtain ⟨cl145, Ar145, q145, S145, Ng145, H145, G145⟩ := tv145
  have hin145 : ¬ (ix < 0 ∨ cl145.slots.size ≤ (ix).toNatClampNeg) := inb_of S145 hm141
  have hat145 : cl145.slots[(ix).toNatClampNeg]? = some (.int vb) := Has.at H145 hin145 hab.2.1
  have pre146 : ∀ t, Steps p.tables e below (T137.setTop (mkF m 236 #[.val (.int p0), .val (.int p1), .val (.int p2), .val (.ref b8), .val (.ref b67), .val (.int ix), .val (.int va), .val (.int vb), .val (.int (va + ((p2 &&& (2147483647 : Int32)) % ((vb - va) + (1 : Int32)))))] [])) t → Steps p.tables e below (s₁.setTop (entryFrame m #[(.int p0), (.int p1), (.int p2)] maxLocals)) t := fun t kt => pre144 t (by
    show Steps p.tables e below (T137.setTop (mkF m 216 #[.val (.int p0), .val (.int p1), .val (.int p2), .val (.ref b8), .val (.ref b67), .val (.int ix), .val (.int va), .unset, .unset] [(.int ix), (.ref b67)])) _
    refine X137.iaload hx (j := ix) (v := (.int vb)) (by rw [e137]; exact Ar145.1) (State.isArrayOf_alike hZ.alike Ar145.2.1) Ar145.2.2 hin145 hat145 (g := (mkF m 216 #[.val (.int p0), .val (.int p1), .val (.int p2), .val (.ref b8), .val (.ref b67), .val (.int ix), .val (.int va), .unset, .unset] [(.int ix), (.ref b67)])) rfl rfl (hb hby at_216) _ ?_
    show Steps p.tables e below (T137.setTop (mkF m 217 #[.val (.int p0), .val (.int p1), .val (.int p2), .val (.ref b8), .val (.ref b67), .val (.int ix), .val (.int va), .unset, .unset] [(.int vb)])) _
    refine XS.istore X137.here hx rfl (hb hby at_217) rfl (l' := #[.val (.int p0), .val (.int p1), .val (.int p2), .val (.ref b8), .val (.ref b67), .val (.int ix), .val (.int va), .val (.int vb), .unset]) rfl ?_
    show Steps p.tables e below (T137.setTop (mkF m 219 #[.val (.int p0), .val (.int p1), .val (.int p2), .val (.ref b8), .val (.ref b67), .val (.int ix), .val (.int va), .val (.int vb), .unset] [])) _
    refine XS.iload X137.here hx rfl (hb hby at_219) rfl ?_
    show Steps p.tables e below (T137.setTop (mkF m 221 #[.val (.int p0), .val (.int p1), .val (.int p2), .val (.ref b8), .val (.ref b67), .val (.int ix), .val (.int va), .val (.int vb), .unset] [(.int va)])) _
    refine XS.iloadN X137.here hx rfl (hb hby at_221) rfl ?_
    show Steps p.tables e below (T137.setTop (mkF m 222 #[.val (.int p0), .val (.int p1), .val (.int p2), .val (.ref b8), .val (.ref b67), .val (.int ix), .val (.int va), .val (.int vb), .unset] [(.int p2), (.int va)])) _
    refine X137.ldcInt hx hown (mvT hZ (hw _ (List.mem_of_getElem? (i := 19) rfl))) (g := (mkF m 222 #[.val (.int p0), .val (.int p1), .val (.int p2), .val (.ref b8), .val (.ref b67), .val (.int ix), .val (.int va), .val (.int vb), .unset] [(.int p2), (.int va)])) rfl (hb hby at_222) _ ?_
    show Steps p.tables e below (T137.setTop (mkF m 224 #[.val (.int p0), .val (.int p1), .val (.int p2), .val (.ref b8), .val (.ref b67), .val (.int ix), .val (.int va), .val (.int vb), .unset] [(.int (2147483647 : Int32)), (.int p2), (.int va)])) _
    refine XS.iand X137.here hx rfl (hb hby at_224) rfl ?_
    show Steps p.tables e below (T137.setTop (mkF m 225 #[.val (.int p0), .val (.int p1), .val (.int p2), .val (.ref b8), .val (.ref b67), .val (.int ix), .val (.int va), .val (.int vb), .unset] [(.int (p2 &&& (2147483647 : Int32))), (.int va)])) _
    refine XS.iload X137.here hx rfl (hb hby at_225) rfl ?_
    show Steps p.tables e below (T137.setTop (mkF m 227 #[.val (.int p0), .val (.int p1), .val (.int p2), .val (.ref b8), .val (.ref b67), .val (.int ix), .val (.int va), .val (.int vb), .unset] [(.int vb), (.int (p2 &&& (2147483647 : Int32))), (.int va)])) _
    refine XS.iload X137.here hx rfl (hb hby at_227) rfl ?_
    show Steps p.tables e below (T137.setTop (mkF m 229 #[.val (.int p0), .val (.int p1), .val (.int p2), .val (.ref b8), .val (.ref b67), .val (.int ix), .val (.int va), .val (.int vb), .unset] [(.int va), (.int vb), (.int (p2 &&& (2147483647 : Int32))), (.int va)])) _
    refine XS.isub X137.here hx rfl (hb hby at_229) rfl ?_
    show Steps p.tables e below (T137.setTop (mkF m 230 #[.val (.int p0), .val (.int p1), .val (.int p2), .val (.ref b8), .val (.ref b67), .val (.int ix), .val (.int va), .val (.int vb), .unset] [(.int (vb - va)), (.int (p2 &&& (2147483647 : Int32))), (.int va)])) _
    refine XS.iconst X137.here hx rfl (hb hby at_230) ?_
    show Steps p.tables e below (T137.setTop (mkF m 231 #[.val (.int p0), .val (.int p1), .val (.int p2), .val (.ref b8), .val (.ref b67), .val (.int ix), .val (.int va), .val (.int vb), .unset] [(.int (1 : Int32)), (.int (vb - va)), (.int (p2 &&& (2147483647 : Int32))), (.int va)])) _
    refine XS.iadd X137.here hx rfl (hb hby at_231) rfl ?_
    show Steps p.tables e below (T137.setTop (mkF m 232 #[.val (.int p0), .val (.int p1), .val (.int p2), .val (.ref b8), .val (.ref b67), .val (.int ix), .val (.int va), .val (.int vb), .unset] [(.int ((vb - va) + (1 : Int32))), (.int (p2 &&& (2147483647 : Int32))), (.int va)])) _
    refine XS.irem X137.here hx rfl (hb hby at_232) rfl (own_nz va vb hab.2.2) ?_
    rw [own_irem]
    show Steps p.tables e below (T137.setTop (mkF m 233 #[.val (.int p0), .val (.int p1), .val (.int p2), .val (.ref b8), .val (.ref b67), .val (.int ix), .val (.int va), .val (.int vb), .unset] [(.int ((p2 &&& (2147483647 : Int32)) % ((vb - va) + (1 : Int32)))), (.int va)])) _
    refine XS.iadd X137.here hx rfl (hb hby at_233) rfl ?_
    show Steps p.tables e below (T137.setTop (mkF m 234 #[.val (.int p0), .val (.int p1), .val (.int p2), .val (.ref b8), .val (.ref b67), .val (.int ix), .val (.int va), .val (.int vb), .unset] [(.int (va + ((p2 &&& (2147483647 : Int32)) % ((vb - va) + (1 : Int32)))))])) _
    refine XS.istore X137.here hx rfl (hb hby at_234) rfl (l' := #[.val (.int p0), .val (.int p1), .val (.int p2), .val (.ref b8), .val (.ref b67), .val (.int ix), .val (.int va), .val (.int vb), .val (.int (va + ((p2 &&& (2147483647 : Int32)) % ((vb - va) + (1 : Int32)))))]) rfl ?_
    exact kt)
  clear pre144
  obtain ⟨vi, hm147, pre147⟩ : ∃ (vi : Int32), (va.toInt ≤ vi.toInt ∧ vi.toInt ≤ vb.toInt) ∧ ∀ t, Steps p.tables e below (T137.setTop (mkF m 236 #[.val (.int p0), .val (.int p1), .val (.int p2), .val (.ref b8), .val (.ref b67), .val (.int ix), .val (.int va), .val (.int vb), .val (.int vi)] [])) t → Steps p.tables e below (s₁.setTop (entryFrame m #[(.int p0), (.int p1), (.int p2)] maxLocals)) t := ⟨(va + ((p2 &&& (2147483647 : Int32)) % ((vb - va) + (1 : Int32)))), own_ins va vb p2 hab.2.2, pre146⟩
  clear pre146
  have pre148 : ∀ t, Steps p.tables e below (T137.setTop (mkF m 238 #[.val (.int p0), .val (.int p1), .val (.int p2), .val (.ref b8), .val (.ref b67), .val (.int ix), .val (.int va), .val (.int vb), .val (.int vi)] [(.int va)])) t → Steps p.tables e below (s₁.setTop (entryFrame m #[(.int p0), (.int p1), (.int p2)] maxLocals)) t := fun t kt => pre147 t (by
    show Steps p.tables e below (T137.setTop (mkF m 236 #[.val (.int p0), .val (.int p1), .val (.int p2), .val (.ref b8), .val (.ref b67), .val (.int ix), .val (.int va), .val (.int vb), .val (.int vi)] [])) _
    refine XS.iload X137.here hx rfl (hb hby at_236) rfl ?_
    exact kt)
  clear pre147
  obtain ⟨_, _, ⟨T149, L149, k149, n149⟩, -, X149, ⟨Lc149, hQ149, l149, y149, z149⟩, st149⟩ := Jvm.LawKit.callS X137 hx (y := (⟨"com/example/shapelint/shapelint/Names", "isBase", "(I)Z"⟩ : MethodName)) hown (mvT hZ (hw _ (List.mem_of_getElem? (i := 0) rfl))) (mvT hZ (hw _ (List.mem_of_getElem? (i := 1) rfl))) (mvT hZ (hw _ (List.mem_of_getElem? (i := 2) rfl))) (mvT hZ (hw _ (List.mem_of_getElem? (i := 3) rfl))) (by decide) (backOf (W := 0) (rm1 l Z av hw [] va  h137 n0 Z137 ) hZ (hw _ (List.mem_of_getElem? (i := 3) rfl)) (hw _ (List.mem_of_getElem? (i := 2) rfl)) (by decide) (by decide)) (g := (mkF m 238 #[.val (.int p0), .val (.int p1), .val (.int p2), .val (.ref b8), .val (.ref b67), .val (.int ix), .val (.int va), .val (.int vb), .val (.int vi)] [(.int va)])) rfl (by rw [hml]; rfl) (argsL := [(.int va)]) (rest := []) (lenOf pd__I_Z rfl) rfl (by show 2 * 0 + _ ≤ _; exact Nat.le_of_eq rfl) (hb hby at_238) (fun _ _ => ⟨rfl, e137, (by decide : 2 + 0 ≤ _), (by decide : 28 + 0 ≤ _)⟩)
  dsimp only [Pt.U, Pt.locs, Pt.cells, Pt.slots] at X149 l149 y149 z149 st149 hQ149
  rw [l149, y149, z149] at X149
  clear l149 y149 z149
  obtain ⟨rfl, N149q, e149⟩ := hQ149
  have N149 := Fr.app N137 N149q
  have pre150 : ∀ t, Steps p.tables e below (T149.setTop (mkF m 241 #[.val (.int p0), .val (.int p1), .val (.int p2), .val (.ref b8), .val (.ref b67), .val (.int ix), .val (.int va), .val (.int vb), .val (.int vi)] [(.int (f1 va))])) t → Steps p.tables e below (s₁.setTop (entryFrame m #[(.int p0), (.int p1), (.int p2)] maxLocals)) t := fun t kt => pre148 t (st149 _ kt)
  clear pre148 st149
  have pre151 : ∀ t, Steps p.tables e below (T149.setTop (mkF m 246 #[.val (.int p0), .val (.int p1), .val (.int p2), .val (.ref b8), .val (.ref b67), .val (.int ix), .val (.int va), .val (.int vb), .val (.int vi)] [(.int vb)])) t → Steps p.tables e below (s₁.setTop (entryFrame m #[(.int p0), (.int p1), (.int p2)] maxLocals)) t := fun t kt => pre150 t (by
    show Steps p.tables e below (T149.setTop (mkF m 241 #[.val (.int p0), .val (.int p1), .val (.int p2), .val (.ref b8), .val (.ref b67), .val (.int ix), .val (.int va), .val (.int vb), .val (.int vi)] [(.int (f1 va))])) _
    refine XS.ifNo X149.here hx rfl (hb hby at_241) rfl ((if0 _ _).trans (feq (by rw [own_in va vb va hab.2.2 (Int.le_refl _) (own_le va vb hab.2.2)]; decide : ¬ ((f1 va) = (0 : Int32)))).1) ?_
    show Steps p.tables e below (T149.setTop (mkF m 244 #[.val (.int p0), .val (.int p1), .val (.int p2), .val (.ref b8), .val (.ref b67), .val (.int ix), .val (.int va), .val (.int vb), .val (.int vi)] [])) _
    refine XS.iload X149.here hx rfl (hb hby at_244) rfl ?_
    exact kt)
  clear pre150
  obtain ⟨_, _, ⟨T152, L152, k152, n152⟩, -, X152, ⟨Lc152, hQ152, l152, y152, z152⟩, st152⟩ := Jvm.LawKit.callS X149 hx (y := (⟨"com/example/shapelint/shapelint/Names", "isBase", "(I)Z"⟩ : MethodName)) hown (mvT hZ (hw _ (List.mem_of_getElem? (i := 0) rfl))) (mvT hZ (hw _ (List.mem_of_getElem? (i := 1) rfl))) (mvT hZ (hw _ (List.mem_of_getElem? (i := 2) rfl))) (mvT hZ (hw _ (List.mem_of_getElem? (i := 3) rfl))) (by decide) (backOf (W := 0) (rm1 l Z av hw [] vb  h137 n0 Z137 ) hZ (hw _ (List.mem_of_getElem? (i := 3) rfl)) (hw _ (List.mem_of_getElem? (i := 2) rfl)) (by decide) (by decide)) (g := (mkF m 246 #[.val (.int p0), .val (.int p1), .val (.int p2), .val (.ref b8), .val (.ref b67), .val (.int ix), .val (.int va), .val (.int vb), .val (.int vi)] [(.int vb)])) rfl (by rw [hml]; rfl) (argsL := [(.int vb)]) (rest := []) (lenOf pd__I_Z rfl) rfl (by show 2 * 0 + _ ≤ _; exact Nat.le_of_eq rfl) (hb hby at_246) (fun _ _ => ⟨rfl, e149, (by decide : 2 + 0 ≤ _), (by decide : 28 + 0 ≤ _)⟩)
  dsimp only [Pt.U, Pt.locs, Pt.cells, Pt.slots] at X152 l152 y152 z152 st152 hQ152
  rw [l152, y152, z152] at X152
  clear l152 y152 z152
  obtain ⟨rfl, N152q, e152⟩ := hQ152
  have N152 := Fr.app N149 N152q
  have pre153 : ∀ t, Steps p.tables e below (T152.setTop (mkF m 249 #[.val (.int p0), .val (.int p1), .val (.int p2), .val (.ref b8), .val (.ref b67), .val (.int ix), .val (.int va), .val (.int vb), .val (.int vi)] [(.int (f1 vb))])) t → Steps p.tables e below (s₁.setTop (entryFrame m #[(.int p0), (.int p1), (.int p2)] maxLocals)) t := fun t kt => pre151 t (st152 _ kt)
  clear pre151 st152
  have pre154 : ∀ t, Steps p.tables e below (T152.setTop (mkF m 254 #[.val (.int p0), .val (.int p1), .val (.int p2), .val (.ref b8), .val (.ref b67), .val (.int ix), .val (.int va), .val (.int vb), .val (.int vi)] [(.int vi)])) t → Steps p.tables e below (s₁.setTop (entryFrame m #[(.int p0), (.int p1), (.int p2)] maxLocals)) t := fun t kt => pre153 t (by
    show Steps p.tables e below (T152.setTop (mkF m 249 #[.val (.int p0), .val (.int p1), .val (.int p2), .val (.ref b8), .val (.ref b67), .val (.int ix), .val (.int va), .val (.int vb), .val (.int vi)] [(.int (f1 vb))])) _
    refine XS.ifNo X152.here hx rfl (hb hby at_249) rfl ((if0 _ _).trans (feq (by rw [own_in va vb vb hab.2.2 (own_le va vb hab.2.2) (Int.le_refl _)]; decide : ¬ ((f1 vb) = (0 : Int32)))).1) ?_
    show Steps p.tables e below (T152.setTop (mkF m 252 #[.val (.int p0), .val (.int p1), .val (.int p2), .val (.ref b8), .val (.ref b67), .val (.int ix), .val (.int va), .val (.int vb), .val (.int vi)] [])) _
    refine XS.iload X152.here hx rfl (hb hby at_252) rfl ?_
    exact kt)
  clear pre153
  obtain ⟨_, _, ⟨T155, L155, k155, n155⟩, -, X155, ⟨Lc155, hQ155, l155, y155, z155⟩, st155⟩ := Jvm.LawKit.callS X152 hx (y := (⟨"com/example/shapelint/shapelint/Names", "isBase", "(I)Z"⟩ : MethodName)) hown (mvT hZ (hw _ (List.mem_of_getElem? (i := 0) rfl))) (mvT hZ (hw _ (List.mem_of_getElem? (i := 1) rfl))) (mvT hZ (hw _ (List.mem_of_getElem? (i := 2) rfl))) (mvT hZ (hw _ (List.mem_of_getElem? (i := 3) rfl))) (by decide) (backOf (W := 0) (rm1 l Z av hw [] vi  h137 n0 Z137 ) hZ (hw _ (List.mem_of_getElem? (i := 3) rfl)) (hw _ (List.mem_of_getElem? (i := 2) rfl)) (by decide) (by decide)) (g := (mkF m 254 #[.val (.int p0), .val (.int p1), .val (.int p2), .val (.ref b8), .val (.ref b67), .val (.int ix), .val (.int va), .val (.int vb), .val (.int vi)] [(.int vi)])) rfl (by rw [hml]; rfl) (argsL := [(.int vi)]) (rest := []) (lenOf pd__I_Z rfl) rfl (by show 2 * 0 + _ ≤ _; exact Nat.le_of_eq rfl) (hb hby at_254) (fun _ _ => ⟨rfl, e152, (by decide : 2 + 0 ≤ _), (by decide : 28 + 0 ≤ _)⟩)
  dsimp only [Pt.U, Pt.locs, Pt.cells, Pt.slots] at X155 l155 y155 z155 st155 hQ155
  rw [l155, y155, z155] at X155
  clear l155 y155 z155
  obtain ⟨rfl, N155q, e155⟩ := hQ155
  have N155 := Fr.app N152 N155q
  have pre156 : ∀ t, Steps p.tables e below (T155.setTop (mkF m 257 #[.val (.int p0), .val (.int p1), .val (.int p2), .val (.ref b8), .val (.ref b67), .val (.int ix), .val (.int va), .val (.int vb), .val (.int vi)] [(.int (f1 vi))])) t → Steps p.tables e below (s₁.setTop (entryFrame m #[(.int p0), (.int p1), (.int p2)] maxLocals)) t := fun t kt => pre154 t (st155 _ kt)
  clear pre154 st155
  have pre157 : ∀ t, Steps p.tables e below (T155.setTop (mkF m 264 #[.val (.int p0), .val (.int p1), .val (.int p2), .val (.ref b8), .val (.ref b67), .val (.int ix), .val (.int va), .val (.int vb), .val (.int vi)] [(.int (va - (1 : Int32)))])) t → Steps p.tables e below (s₁.setTop (entryFrame m #[(.int p0), (.int p1), (.int p2)] maxLocals)) t := fun t kt => pre156 t (by
    show Steps p.tables e below (T155.setTop (mkF m 257 #[.val (.int p0), .val (.int p1), .val (.int p2), .val (.ref b8), .val (.ref b67), .val (.int ix), .val (.int va), .val (.int vb), .val (.int vi)] [(.int (f1 vi))])) _
    refine XS.ifNo X155.here hx rfl (hb hby at_257) rfl ((if0 _ _).trans (feq (by rw [own_in va vb vi hab.2.2 hm147.1 hm147.2]; decide : ¬ ((f1 vi) = (0 : Int32)))).1) ?_
    show Steps p.tables e below (T155.setTop (mkF m 260 #[.val (.int p0), .val (.int p1), .val (.int p2), .val (.ref b8), .val (.ref b67), .val (.int ix), .val (.int va), .val (.int vb), .val (.int vi)] [])) _
    refine XS.iload X155.here hx rfl (hb hby at_260) rfl ?_
    show Steps p.tables e below (T155.setTop (mkF m 262 #[.val (.int p0), .val (.int p1), .val (.int p2), .val (.ref b8), .val (.ref b67), .val (.int ix), .val (.int va), .val (.int vb), .val (.int vi)] [(.int va)])) _
    refine XS.iconst X155.here hx rfl (hb hby at_262) ?_
    show Steps p.tables e below (T155.setTop (mkF m 263 #[.val (.int p0), .val (.int p1), .val (.int p2), .val (.ref b8), .val (.ref b67), .val (.int ix), .val (.int va), .val (.int vb), .val (.int vi)] [(.int (1 : Int32)), (.int va)])) _
    refine XS.isub X155.here hx rfl (hb hby at_263) rfl ?_
    exact kt)
  clear pre156
  obtain ⟨_, _, ⟨T158, L158, k158, n158⟩, -, X158, ⟨Lc158, hQ158, l158, y158, z158⟩, st158⟩ := Jvm.LawKit.callS X155 hx (y := (⟨"com/example/shapelint/shapelint/Names", "isBase", "(I)Z"⟩ : MethodName)) hown (mvT hZ (hw _ (List.mem_of_getElem? (i := 0) rfl))) (mvT hZ (hw _ (List.mem_of_getElem? (i := 1) rfl))) (mvT hZ (hw _ (List.mem_of_getElem? (i := 2) rfl))) (mvT hZ (hw _ (List.mem_of_getElem? (i := 3) rfl))) (by decide) (backOf (W := 0) (rm1 l Z av hw [] (va - (1 : Int32))  h137 n0 Z137 ) hZ (hw _ (List.mem_of_getElem? (i := 3) rfl)) (hw _ (List.mem_of_getElem? (i := 2) rfl)) (by decide) (by decide)) (g := (mkF m 264 #[.val (.int p0), .val (.int p1), .val (.int p2), .val (.ref b8), .val (.ref b67), .val (.int ix), .val (.int va), .val (.int vb), .val (.int vi)] [(.int (va - (1 : Int32)))])) rfl (by rw [hml]; rfl) (argsL := [(.int (va - (1 : Int32)))]) (rest := []) (lenOf pd__I_Z rfl) rfl (by show 2 * 0 + _ ≤ _; exact Nat.le_of_eq rfl) (hb hby at_264) (fun _ _ => ⟨rfl, e155, (by decide : 2 + 0 ≤ _), (by decide : 28 + 0 ≤ _)⟩)
  dsimp only [Pt.U, Pt.locs, Pt.cells, Pt.slots] at X158 l158 y158 z158 st158 hQ158
  rw [l158, y158, z158] at X158
  clear l158 y158 z158
  obtain ⟨rfl, N158q, e158⟩ := hQ158
  have N158 := Fr.app N155 N158q
  have pre159 : ∀ t, Steps p.tables e below (T158.setTop (mkF m 267 #[.val (.int p0), .val (.int p1), .val (.int p2), .val (.ref b8), .val (.ref b67), .val (.int ix), .val (.int va), .val (.int vb), .val (.int vi)] [(.int (f1 (va - (1 : Int32))))])) t → Steps p.tables e below (s₁.setTop (entryFrame m #[(.int p0), (.int p1), (.int p2)] maxLocals)) t := fun t kt => pre157 t (st158 _ kt)
  clear pre157 st158
  have pre160 : ∀ t, Steps p.tables e below (T158.setTop (mkF m 274 #[.val (.int p0), .val (.int p1), .val (.int p2), .val (.ref b8), .val (.ref b67), .val (.int ix), .val (.int va), .val (.int vb), .val (.int vi)] [(.int (vb + (1 : Int32)))])) t → Steps p.tables e below (s₁.setTop (entryFrame m #[(.int p0), (.int p1), (.int p2)] maxLocals)) t := fun t kt => pre159 t (by
    show Steps p.tables e below (T158.setTop (mkF m 267 #[.val (.int p0), .val (.int p1), .val (.int p2), .val (.ref b8), .val (.ref b67), .val (.int ix), .val (.int va), .val (.int vb), .val (.int vi)] [(.int (f1 (va - (1 : Int32))))])) _
    refine XS.ifNo X158.here hx rfl (hb hby at_267) rfl ((if0 _ _).trans (teq (own_below va vb hab.2.2 : (f1 (va - (1 : Int32))) = (0 : Int32))).2) ?_
    show Steps p.tables e below (T158.setTop (mkF m 270 #[.val (.int p0), .val (.int p1), .val (.int p2), .val (.ref b8), .val (.ref b67), .val (.int ix), .val (.int va), .val (.int vb), .val (.int vi)] [])) _
    refine XS.iload X158.here hx rfl (hb hby at_270) rfl ?_
    show Steps p.tables e below (T158.setTop (mkF m 272 #[.val (.int p0), .val (.int p1), .val (.int p2), .val (.ref b8), .val (.ref b67), .val (.int ix), .val (.int va), .val (.int vb), .val (.int vi)] [(.int vb)])) _
    refine XS.iconst X158.here hx rfl (hb hby at_272) ?_
    show Steps p.tables e below (T158.setTop (mkF m 273 #[.val (.int p0), .val (.int p1), .val (.int p2), .val (.ref b8), .val (.ref b67), .val (.int ix), .val (.int va), .val (.int vb), .val (.int vi)] [(.int (1 : Int32)), (.int vb)])) _
    refine XS.iadd X158.here hx rfl (hb hby at_273) rfl ?_
    exact kt)
  clear pre159
  obtain ⟨_, _, ⟨T161, L161, k161, n161⟩, -, X161, ⟨Lc161, hQ161, l161, y161, z161⟩, st161⟩ := Jvm.LawKit.callS X158 hx (y := (⟨"com/example/shapelint/shapelint/Names", "isBase", "(I)Z"⟩ : MethodName)) hown (mvT hZ (hw _ (List.mem_of_getElem? (i := 0) rfl))) (mvT hZ (hw _ (List.mem_of_getElem? (i := 1) rfl))) (mvT hZ (hw _ (List.mem_of_getElem? (i := 2) rfl))) (mvT hZ (hw _ (List.mem_of_getElem? (i := 3) rfl))) (by decide) (backOf (W := 0) (rm1 l Z av hw [] (vb + (1 : Int32))  h137 n0 Z137 ) hZ (hw _ (List.mem_of_getElem? (i := 3) rfl)) (hw _ (List.mem_of_getElem? (i := 2) rfl)) (by decide) (by decide)) (g := (mkF m 274 #[.val (.int p0), .val (.int p1), .val (.int p2), .val (.ref b8), .val (.ref b67), .val (.int ix), .val (.int va), .val (.int vb), .val (.int vi)] [(.int (vb + (1 : Int32)))])) rfl (by rw [hml]; rfl) (argsL := [(.int (vb + (1 : Int32)))]) (rest := []) (lenOf pd__I_Z rfl) rfl (by show 2 * 0 + _ ≤ _; exact Nat.le_of_eq rfl) (hb hby at_274) (fun _ _ => ⟨rfl, e158, (by decide : 2 + 0 ≤ _), (by decide : 28 + 0 ≤ _)⟩)
  dsimp only [Pt.U, Pt.locs, Pt.cells, Pt.slots] at X161 l161 y161 z161 st161 hQ161
  rw [l161, y161, z161] at X161
  clear l161 y161 z161
  obtain ⟨rfl, N161q, e161⟩ := hQ161
  have N161 := Fr.app N158 N161q
  have pre162 : ∀ t, Steps p.tables e below (T161.setTop (mkF m 277 #[.val (.int p0), .val (.int p1), .val (.int p2), .val (.ref b8), .val (.ref b67), .val (.int ix), .val (.int va), .val (.int vb), .val (.int vi)] [(.int (f1 (vb + (1 : Int32))))])) t → Steps p.tables e below (s₁.setTop (entryFrame m #[(.int p0), (.int p1), (.int p2)] maxLocals)) t := fun t kt => pre160 t (st161 _ kt)
  clear pre160 st161
  have pre163 : ∀ t, Steps p.tables e below (T161.setTop (mkF m 285 #[.val (.int p0), .val (.int p1), .val (.int p2), .val (.ref b8), .val (.ref b67), .val (.int ix), .val (.int va), .val (.int vb), .val (.int vi)] [(.int (1 : Int32))])) t → Steps p.tables e below (s₁.setTop (entryFrame m #[(.int p0), (.int p1), (.int p2)] maxLocals)) t := fun t kt => pre162 t (by
    show Steps p.tables e below (T161.setTop (mkF m 277 #[.val (.int p0), .val (.int p1), .val (.int p2), .val (.ref b8), .val (.ref b67), .val (.int ix), .val (.int va), .val (.int vb), .val (.int vi)] [(.int (f1 (vb + (1 : Int32))))])) _
    refine XS.ifNo X161.here hx rfl (hb hby at_277) rfl ((if0 _ _).trans (teq (own_above va vb hab.2.2 : (f1 (vb + (1 : Int32))) = (0 : Int32))).2) ?_
    show Steps p.tables e below (T161.setTop (mkF m 280 #[.val (.int p0), .val (.int p1), .val (.int p2), .val (.ref b8), .val (.ref b67), .val (.int ix), .val (.int va), .val (.int vb), .val (.int vi)] [])) _
    refine XS.iconst X161.here hx rfl (hb hby at_280) ?_
    show Steps p.tables e below (T161.setTop (mkF m 281 #[.val (.int p0), .val (.int p1), .val (.int p2), .val (.ref b8), .val (.ref b67), .val (.int ix), .val (.int va), .val (.int vb), .val (.int vi)] [(.int (1 : Int32))])) _
    refine XS.goto X161.here hx rfl (pc0 := 281) (pc' := 285) rfl (hb hby at_281) (by decide) (by decide) ?_
    exact kt)
  clear pre162
  obtain ⟨fs, hr, hrun, hended, hW, hsame⟩ := X161.leave (v := some (.int (1 : Int32))) (fun h => by rw [Bd.returns] at h; cases h)
  refine ⟨_, _, pre163 _ ?_, hrun, hended, _, _, rfl, ?_, ⟨_, rfl⟩, hW, hsame.mono (by decide) (by decide)⟩
  · show Steps p.tables e below (T161.setTop (mkF m 285 #[.val (.int p0), .val (.int p1), .val (.int p2), .val (.ref b8), .val (.ref b67), .val (.int ix), .val (.int va), .val (.int vb), .val (.int vi)] [(.int (1 : Int32))])) _
    exact retN X161 hx (t := .boolean) Bd.returns (by simp) (hb hby at_285) hr
  · show Q0 Z p0 p1 p2 h0 n0 _ T161.heap _
    rw [e161]
    exact ⟨rfl, N161⟩
set_option maxRecDepth 65536 in
set_option maxHeartbeats 40000000 in
theorem comes_1 {Post : Tables → Env → Array Value → State → Outcome → State → Prop} (hpost : ∀ tb e args s v u, (limb_1_1.after args s (.returned v) u = true ∧ limb_1_2.after args s (.returned v) u = true ∧ True) → FrameEnd s (.returned v) u (Jvm.fieldLocs frame_1_writes args s ++ Jvm.arrayLocs frame_1_arrays args s ++ Jvm.staticLocs frame_1_statics s) 16 128 → Post tb e args s (.returned v) u) :
    ArmFor flags0 classFile x code maxLocals ret World_1 tables_1 room_1 Calls_1 rest_1 Pre_1 Post := by
  intro l hfl _ _ p e ha hc hk s m args below hf hA hF happ hP
  obtain ⟨hcalls, hrest, hpre⟩ := hP
  obtain ⟨-, -, -, hnamed, -, -, -, hat⟩ := (Spec.applies_iff hf).mp happ
  obtain ⟨hg, hn⟩ := and_e (Cond.before_iff.mp (show (Jvm.Cond.and given_1 narrow_1).before args s = true from hpre))
  obtain ⟨g1, g2⟩ := and_e hg
  obtain ⟨g3, g4⟩ := and_e g2
  obtain ⟨g5, g6⟩ := and_e g4
  obtain ⟨w0, w1, w2, rfl⟩ : ∃ w0 w1 w2 : Value, args = #[w0, w1, w2] := by
    have hs : args.size = 3 := by simpa [Cond.value, given_1] using g1
    obtain ⟨L⟩ := args
    match L, hs with
    | [w0, w1, w2], _ => exact ⟨w0, w1, w2, rfl⟩
  have hw := fun d (hd : d ∈ tables_1) => atoms_spec (ws := Jvm.Cond.code x code maxLocals ret :: tables_1) hat d (List.mem_cons_of_mem _ hd)
  obtain ⟨i0, ei0⟩ := is_v g3
  obtain rfl : w0 = (.int i0) := Option.some.inj ei0
  obtain ⟨i1, ei1⟩ := is_v g5
  obtain rfl : w1 = (.int i1) := Option.some.inj ei1
  obtain ⟨i2, ei2⟩ := is_v g6
  obtain rfl : w2 = (.int i2) := Option.some.inj ei2
  obtain ⟨n, o, h1, h2, h3, _, L, rfl, ⟨rfl, N⟩, hq⟩ := rm0 l s _ hw tables_1 i0 i1 i2 s.heap s.heap.size (Nat.le_refl _) p e ha hc hk s m _ below hf ((Spec.applies_iff_loose hf).mp happ).1 ⟨rfl, State.Warmed39.refl s, rfl⟩ trivial
  refine ⟨n, _, h1, h2, h3, hpost _ _ _ _ _ _ ⟨Cond.after_iff.mpr rfl, Cond.after_iff.mpr (eq_i res_at (Term.int_eval (1)) rfl), trivial⟩ ⟨hq.1, hq.2.1, (hq.2.2.sift fun y hy => Or.inr (N y hy)).mono (by decide) (by decide)⟩⟩
theorem main_1_1 : Claimed_1_1 := comes_1 fun _ _ _ _ _ _ h hF => ⟨h.1, hF⟩
theorem main_1_2 : Claimed_1_2 := comes_1 fun _ _ _ _ _ _ h hF => ⟨h.2.1, hF⟩
end Jvm.Pilot.@@N@@
namespace Jvm.Pilot.@@N@@
open Jvm Jvm.ClassFile Sem Op Lib Jvm.Free Jvm.Stand Jvm.Pilot.@@N@@.Jvm.D
/-! MADE BY PROGRAM (witnessworld.py) out of the Statement's table words and the real class files: 9 classes; the members and pool entries that the words name. The judged class is class 1, her method 2. -/
namespace start1
open Jvm.ClassFile
def u (s : String) : CpInfo := .utf8 (stringToUtf16 s)
/-- a pool by its gaps: so many unusable entries, then the entry; so many at the end -/
def gap : Nat → List CpInfo → List CpInfo
  | 0, r => r
  | n + 1, r => .unusable :: gap n r
def poolList (es : List (Nat × CpInfo)) (last : Nat) : List CpInfo := es.foldr (fun e r => gap e.1 (e.2 :: r)) (gap last [])
def pool (es : List (Nat × CpInfo)) (last : Nat) : Array CpInfo := ⟨poolList es last⟩
def fileOf (pool : Array CpInfo) (this : Nat) (attrs : Array Attribute := #[]) (ms : Array MethodInfo := #[]) (fl : Nat := 33) (sup : Nat := 0) (ifs : Array Nat := #[]) (fds : Array FieldInfo := #[]) : ClassFile where
  minorVersion := 0
  majorVersion := 65
  constantPool := pool
  accessFlags := fl
  thisClass := this
  superClass := sup
  interfaces := ifs
  fields := fds
  methods := ms
  attributes := attrs
def plain (name : String) (sup : Option ClassId) : Class where
  name := name
  kind := .ordinary
  loader := none
  accessFlags := 33
  super := sup
  interfaces := #[]
  cf := none
  fields := #[]
  methods := #[]
  instanceTypes := #[]
  staticTypes := #[]
  resolved := #[]
  callSites := []
  init := .initialized
  statics := none
  mirror := none

def pool0 : Array CpInfo := pool [(5, u "<init>"), (0, u "()V"), (1, .class_ 10), (1, u "java/lang/Object")] 113

def k0m0 : Method := { name := "<init>", desc := "()V", sig := { parameters := [], returnType := none }, accessFlags := 1, code := none }
/-- java/lang/Object -/
def k0 : Class := { plain "java/lang/Object" none with
  accessFlags := 33
  interfaces := #[]
  cf := some (fileOf pool0 8 #[] #[{ accessFlags := 1, nameIndex := 5, descriptorIndex := 6, attributes := #[] }] 33 0 #[] #[])
  fields := #[]
  methods := #[k0m0]
  instanceTypes := #[]
  staticTypes := #[]
  resolved := Array.replicate 124 none
  statics := none }

def pool1 : Array CpInfo := pool [(2, .class_ 4), (1, u "java/lang/Object"), (0, u "<init>"), (0, u "()V"), (0, .integer 55295), (0, .integer 63744), (0, .integer 64975), (0, .integer 65008), (0, .integer 65533), (0, .integer 65536), (0, .integer 983039), (0, .methodref 15 16), (0, .class_ 17), (0, .nameAndType 18 19), (0, u "com/example/shapelint/shapelint/Names"), (0, u "isBase"), (0, u "(I)Z"), (0, .methodref 21 22), (0, .class_ 23), (0, .nameAndType 24 19), (0, u "com/example/shapelint/shapelint/NamesIsBasePinLaw"), (0, u "inGap"), (0, .integer 2147483647), (3, u "law"), (0, u "(III)Z")] 4

def k1m0 : Method := { name := "<init>", desc := "()V", sig := { parameters := [], returnType := none }, accessFlags := 2, code := none }
def k1c1 : Code := { maxStack := 2, maxLocals := 1, code := method_2_code, exceptionTable := #[], attributes := #[] }
def k1m1 : Method := { name := "inGap", desc := "(I)Z", sig := { parameters := [.int], returnType := some .boolean }, accessFlags := 10, code := some k1c1 }
def k1c2 : Code := { maxStack := 4, maxLocals := 9, code := code, exceptionTable := #[], attributes := #[] }
def k1m2 : Method := { name := "law", desc := "(III)Z", sig := { parameters := [.int, .int, .int], returnType := some .boolean }, accessFlags := 9, code := some k1c2 }
/-- com/example/shapelint/shapelint/NamesIsBasePinLaw -/
def k1 : Class := { plain "com/example/shapelint/shapelint/NamesIsBasePinLaw" (some 0) with
  accessFlags := 49
  interfaces := #[]
  cf := some (fileOf pool1 21 #[] #[{ accessFlags := 2, nameIndex := 5, descriptorIndex := 6, attributes := #[] }, { accessFlags := 10, nameIndex := 24, descriptorIndex := 19, attributes := #[] }, { accessFlags := 9, nameIndex := 29, descriptorIndex := 30, attributes := #[] }] 49 2 #[] #[])
  fields := #[]
  methods := #[k1m0, k1m1, k1m2]
  instanceTypes := #[]
  staticTypes := #[]
  resolved := Array.replicate 35 none
  statics := none }

def pool2 : Array CpInfo := pool [(2, .class_ 4), (1, u "java/lang/Object"), (0, u "<init>"), (0, u "()V"), (1, .class_ 10), (1, u "com/example/shapelint/shapelint/Names"), (0, u "LANGUAGE_TAG"), (0, u "Ljava/util/regex/Pattern;"), (12, .integer 55295), (0, .integer 63744), (0, .integer 64975), (0, .integer 65008), (0, .integer 65533), (0, .integer 65536), (0, .integer 983039), (2, u "isBase"), (0, u "(I)Z")] 19

def k2m0 : Method := { name := "<init>", desc := "()V", sig := { parameters := [], returnType := none }, accessFlags := 2, code := none }
def k2c1 : Code := { maxStack := 2, maxLocals := 1, code := prog_12_method_3_code, exceptionTable := #[], attributes := #[] }
def k2m1 : Method := { name := "isBase", desc := "(I)Z", sig := { parameters := [.int], returnType := some .boolean }, accessFlags := 8, code := some k2c1 }
/-- com/example/shapelint/shapelint/Names -/
def k2 : Class := { plain "com/example/shapelint/shapelint/Names" (some 0) with
  accessFlags := 32
  interfaces := #[]
  cf := some (fileOf pool2 8 #[] #[{ accessFlags := 2, nameIndex := 5, descriptorIndex := 6, attributes := #[] }, { accessFlags := 8, nameIndex := 34, descriptorIndex := 35, attributes := #[] }] 32 2 #[] #[{ accessFlags := 26, nameIndex := 11, descriptorIndex := 12, attributes := #[] }])
  fields := #[{ name := "LANGUAGE_TAG", type := (.object "java/util/regex/Pattern"), accessFlags := 26, slot := 0, constantValue := 0 }]
  methods := #[k2m0, k2m1]
  instanceTypes := #[]
  staticTypes := #[(.object "java/util/regex/Pattern")]
  resolved := Array.replicate 55 none
  statics := none }

def pool3 : Array CpInfo := pool [(1, u "java/lang/Cloneable"), (0, .class_ 1), (0, u "java/lang/Object"), (0, .class_ 3)] 3

/-- java/lang/Cloneable -/
def k3 : Class := { plain "java/lang/Cloneable" (some 0) with
  accessFlags := 1537
  interfaces := #[]
  cf := some (fileOf pool3 2 #[] #[] 1537 4 #[] #[])
  fields := #[]
  methods := #[]
  instanceTypes := #[]
  staticTypes := #[]
  resolved := Array.replicate 8 none
  statics := none }

def pool4 : Array CpInfo := pool [(1, u "java/io/Serializable"), (0, .class_ 1), (0, u "java/lang/Object"), (0, .class_ 3)] 3

/-- java/io/Serializable -/
def k4 : Class := { plain "java/io/Serializable" (some 0) with
  accessFlags := 1537
  interfaces := #[]
  cf := some (fileOf pool4 2 #[] #[] 1537 4 #[] #[])
  fields := #[]
  methods := #[]
  instanceTypes := #[]
  staticTypes := #[]
  resolved := Array.replicate 8 none
  statics := none }

/-- the primitive byte -/
def k5 : Class := { plain "byte" none with kind := .primitive 'B', accessFlags := 0x411 }
/-- [B -/
def k6 : Class := { plain "[B" (some 0) with kind := .array 5 .byte, interfaces := #[3, 4], accessFlags := 1041 }

/-- the primitive int -/
def k7 : Class := { plain "int" none with kind := .primitive 'I', accessFlags := 0x411 }
/-- [I -/
def k8 : Class := { plain "[I" (some 0) with kind := .array 7 .int, interfaces := #[3, 4], accessFlags := 1041 }

def heap : Heap := #[]
def classes : Array Class := #[k0, k1, k2, k3, k4, k5, k6, k7, k8]
def interned : List (Array UInt16 × Addr) := []
def slotsUsed : Nat := 0
def theMethod : MethodId := ⟨1, 2⟩
def args0 : Array Value := #[.int 5, .int 5, .int 5]
def aboutOver (below : List Frame) : State where
  vm := { classes := classes, interned := interned.toArray }
  heap := heap
  slotsUsed := slotsUsed
  threads := #[{ frames := .invoking theMethod args0 :: below }]
def below0 : List Frame := [.native { method := ⟨0, 0⟩, args := #[] }]
def about1 : State := aboutOver below0
def p0 : Program := .bare "" "" ""
def e0 : Env := launch0.env 0 0 0
theorem w_frames : about1.frames = Frame.invoking theMethod args0 :: below0 := rfl
set_option maxRecDepth 65536 in
theorem w_args : argsFit about1.vm theMethod args0 = true := by decide +kernel
set_option maxRecDepth 65536 in
theorem w_heap : heapFits about1 = true := by decide +kernel
set_option maxRecDepth 65536 in
theorem w_runnable : about1.curStatus? = some .runnable := by decide +kernel
set_option maxRecDepth 65536 in
theorem w_alone : about1.alone = true := by decide +kernel
set_option maxRecDepth 65536 in
theorem w_named : about1.methodNamed? x = some theMethod := by decide +kernel
set_option maxRecDepth 65536 in
theorem w_hears : about1.hears theMethod below0 = true := by decide +kernel
set_option maxRecDepth 65536 in
theorem w_ripe : about1.ripe theMethod args0 below0 = true := by decide +kernel
theorem w_running : about1.status = .running := rfl
set_option maxRecDepth 65536 in
theorem w_room : about1.hasRoom e0.platform room_1 = true :=
  launch0.hasRoom_least _ room_1 (by decide +kernel) (by decide +kernel) (by decide +kernel) (by decide +kernel) (by decide +kernel) (by decide +kernel)
theorem allAtoms_all (ts : List Jvm.Cond) (a : Array Jvm.Value) (st : Jvm.State) : (allAtoms ts).before a st = ts.all (fun c => c.before a st) := by
  induction ts with
  | nil => rfl
  | cons c t ih =>
    show (Jvm.Cond.and c (allAtoms t)).before a st = _
    rw [Jvm.Cond.before_and, ih, List.all_cons]
def words1 : List Jvm.Cond := Jvm.Cond.code x code maxLocals ret :: tables_1
/-- a 'code' word, met by the world's own term for the bytes: nothing is compared byte by byte -/
theorem code_word {y : MethodName} {bytes : ByteArray} {mx : Nat} {rt : Option FieldType} {a : Array Value} {s : State} {m : MethodId} {meth : Method} {c : Code} (h1 : s.methodNamed? y = some m) (h2 : s.vm.method? m = some meth) (h3 : meth.code = some c) (h4 : c.code = bytes)
    (h5 : (c.maxLocals == mx && c.exceptionTable.isEmpty && decide (c.maxStack ≤ mostOperands) && decide (meth.sig.returnType = rt) && !meth.locks && decide (parseMethodDescriptor y.desc = some meth.sig)) = true) : (Jvm.Cond.code y bytes mx rt).before a s = true := by
  simp only [Bool.and_eq_true, beq_iff_eq, Bool.not_eq_true', decide_eq_true_eq] at h5
  obtain ⟨⟨⟨⟨⟨g1, g2⟩, g3⟩, g4⟩, g5⟩, g6⟩ := h5
  simp [Cond.before, Cond.holds, Cond.value, h1, h2, h3, h4, g1, g2, g3, g4, g5, g6]
def isCode : Jvm.Cond → Bool
  | .code _ _ _ _ => true
  | _ => false
theorem all_split {L : List Jvm.Cond} {P : Jvm.Cond → Bool} (h1 : L.all (fun c => isCode c || P c) = true) (h2 : ∀ c ∈ L.filter isCode, P c = true) : L.all P = true := by
  refine List.all_eq_true.mpr fun c hc => ?_
  have h := List.all_eq_true.mp h1 c hc
  rcases Bool.eq_false_or_eq_true (isCode c) with hi | hi
  · exact h2 c (List.mem_filter.mpr ⟨hc, hi⟩)
  · simpa [hi] using h
set_option maxRecDepth 65536 in
theorem w_c0 : (Jvm.Cond.code x code maxLocals ret).before args0 about1 = true := code_word (m := ⟨1, 2⟩) (meth := k1m2) (c := k1c2) (by decide +kernel) rfl rfl rfl (by decide +kernel)
set_option maxRecDepth 65536 in
theorem w_c1 : (Jvm.Cond.code ({ cls := "com/example/shapelint/shapelint/Names", name := "isBase", desc := "(I)Z" } : Jvm.MethodName) prog_12_method_3_code (1 : Nat) (Option.some Jvm.ClassFile.FieldType.boolean)).before args0 about1 = true := code_word (m := ⟨2, 1⟩) (meth := k2m1) (c := k2c1) (by decide +kernel) rfl rfl rfl (by decide +kernel)
set_option maxRecDepth 65536 in
theorem w_c2 : (Jvm.Cond.code ({ cls := "com/example/shapelint/shapelint/NamesIsBasePinLaw", name := "inGap", desc := "(I)Z" } : Jvm.MethodName) method_2_code (1 : Nat) (Option.some Jvm.ClassFile.FieldType.boolean)).before args0 about1 = true := code_word (m := ⟨1, 1⟩) (meth := k1m1) (c := k1c1) (by decide +kernel) rfl rfl rfl (by decide +kernel)
def codes1 : List Jvm.Cond := [Jvm.Cond.code x code maxLocals ret, Jvm.Cond.code ({ cls := "com/example/shapelint/shapelint/Names", name := "isBase", desc := "(I)Z" } : Jvm.MethodName) prog_12_method_3_code (1 : Nat) (Option.some Jvm.ClassFile.FieldType.boolean), Jvm.Cond.code ({ cls := "com/example/shapelint/shapelint/NamesIsBasePinLaw", name := "inGap", desc := "(I)Z" } : Jvm.MethodName) method_2_code (1 : Nat) (Option.some Jvm.ClassFile.FieldType.boolean)]
set_option maxRecDepth 65536 in
theorem codes_eq : words1.filter isCode = codes1 := rfl
theorem w_codes : ∀ c ∈ words1.filter isCode, c.before args0 about1 = true := by
  rw [codes_eq]
  intro c hc
  simp only [codes1, List.mem_cons, List.not_mem_nil, or_false] at hc
  rcases hc with rfl | rfl | rfl
  · exact w_c0
  · exact w_c1
  · exact w_c2
set_option maxRecDepth 65536 in
theorem w_t1 : (words1.take 24).all (fun c => isCode c || c.before args0 about1) = true := by decide +kernel
set_option maxRecDepth 65536 in
theorem w_t2 : (words1.drop 24).all (fun c => isCode c || c.before args0 about1) = true := by decide +kernel
theorem w_tables : (allAtoms (Jvm.Cond.code x code maxLocals ret :: tables_1)).before args0 about1 = true := by
  rw [allAtoms_all]
  show words1.all (fun c => c.before args0 about1) = true
  refine all_split ?_ w_codes
  rw [← List.take_append_drop 24 words1, List.all_append, w_t1, w_t2]
  rfl
set_option maxRecDepth 65536 in
theorem w_case : (Jvm.Cond.and given_1 narrow_1).before args0 about1 = true := by decide +kernel
theorem w_applies : (headSpec (Jvm.Cond.code x code maxLocals ret :: tables_1) room_1).applies x e0.platform about1 = true :=
  (Spec.applies_iff w_frames).mpr ⟨w_running, w_runnable, w_alone, w_named, w_hears, w_ripe, w_room, w_tables⟩
theorem atStart : AtStart classFile x code maxLocals ret World_1 tables_1 room_1 Calls_1 rest_1 Pre_1 launch0 p0 e0 about1 theMethod args0 below0 :=
  ⟨lists_1, trivial, launch0.admits_env _ _ _, launch0.least_env, fairChoices_fair.cas, fairChoices_fair.clock, w_frames, w_args, w_heap, w_applies, trivial, trivial, w_case⟩
end start1
theorem witness_1 : WitnessClaimed_1 := ⟨start1.p0, start1.e0, start1.about1, start1.theMethod, start1.args0, start1.below0, start1.atStart⟩
end Jvm.Pilot.@@N@@
