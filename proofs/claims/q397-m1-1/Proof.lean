import JvmDerived
import JvmDerived.Pilot.@@N@@Statement
import JvmDerived.Pilot.@@N@@Code
set_option linter.unusedVariables false
set_option linter.unusedSimpArgs false
namespace Jvm.RoadKit
open Sem ClassFile Op Lib Jvm.Stand Jvm.Free Jvm.LawKit
section New
variable {p : Program} {l : Launch} {e : Env} {R : Room} {s : State} {m : MethodId} {args : Array Value} {below : List Frame} {meth : Method} {c : Code} {T : State} {locs : List Loc} {cells slots : Nat}
theorem retI (X : Stand p l e R s m args below meth c T locs cells slots) (hx : p.tables.exec = Jvm.exec) {pc : Nat} {Ls : Array Slot} {z : Int32} {rest : List Value} (hret : meth.sig.returnType = some .int) (hd : decode c.code pc = .ok (.ireturn, 1)) {fs : List Frame}
    (hl : ∀ (f : JFrame) (acts : List Action), f.method = m → f.locked = none → f.entered = [] → (doReturn e (T.setTop f) acts (some (.int z))).1 = T.setFrames fs) : Steps p.tables e below (T.setTop (mkF m pc Ls (.int z :: rest))) (T.setFrames fs) := by
  have hm' : T.vm.method? m = some meth := X.method'
  have hn : narrow .int (.int z) = .int z := rfl
  show Steps p.tables e below (T.setTop { method := m, pc := pc, locals := Ls, stack := _ :: rest, locked := none }) _
  jvm_step X.here [X.here.top, hx, hd, hm', hret, hn]
  first | (intro acts; rw [hl _ acts rfl rfl rfl]) | rw [hl _ _ rfl rfl rfl]
  exact Steps.refl _
theorem retL (X : Stand p l e R s m args below meth c T locs cells slots) (hx : p.tables.exec = Jvm.exec) {pc : Nat} {Ls : Array Slot} {z : Int64} {rest : List Value} (hret : meth.sig.returnType = some .long) (hd : decode c.code pc = .ok (.lreturn, 1)) {fs : List Frame}
    (hl : ∀ (f : JFrame) (acts : List Action), f.method = m → f.locked = none → f.entered = [] → (doReturn e (T.setTop f) acts (some (.long z))).1 = T.setFrames fs) : Steps p.tables e below (T.setTop (mkF m pc Ls (.long z :: rest))) (T.setFrames fs) := by
  have hm' : T.vm.method? m = some meth := X.method'
  have hn : narrow .long (.long z) = .long z := rfl
  show Steps p.tables e below (T.setTop { method := m, pc := pc, locals := Ls, stack := _ :: rest, locked := none }) _
  jvm_step X.here [X.here.top, hx, hd, hm', hret, hn]
  first | (intro acts; rw [hl _ acts rfl rfl rfl]) | rw [hl _ _ rfl rfl rfl]
  exact Steps.refl _
end New
end Jvm.RoadKit
namespace Jvm.Pilot.@@N@@
open Jvm Jvm.ClassFile Sem Op Lib Jvm.Free Jvm.Stand Jvm.LawKit Jvm.RoadKit Bundle Jvm.Pilot.@@N@@.Jvm.D
theorem pn_com_example_tierfuse_tierfuse_format_BitReaderRemainingPinLaw : plainName "com/example/tierfuse/tierfuse/format/BitReaderRemainingPinLaw" = true := by first | (simp [plainName, overriddenIn]; done) | decide +kernel
theorem pn_com_example_tierfuse_tierfuse_format_BitReader : plainName "com/example/tierfuse/tierfuse/format/BitReader" = true := by first | (simp [plainName, overriddenIn]; done) | decide +kernel
def own_A (Z : State) (h : Heap) (ab : Addr) : Prop := ∃ (k : ClassId) (vs : List Value), Arv Z h ab k .byte (8 : Int32) vs (.int (0 : Int32))
theorem own_A.lt {Z : State} {h : Heap} {ab : Addr} (F : own_A Z h ab) : ab < h.size := by obtain ⟨k, vs, V⟩ := F; exact V.lt
theorem own_A.keep {Z : State} {h h' : Heap} {ab : Addr} {ws : List Addr} (F : own_A Z h ab) (K : Keep h h' ws) (q : ab ∉ ws) : own_A Z h' ab := by obtain ⟨k, vs, V⟩ := F; exact ⟨k, vs, V.keep K q⟩
theorem own_A.other {Z : State} {h h' : Heap} {ab a : Addr} {sl : Nat} {v : Value} (F : own_A Z h ab) (W : Wr h h' a sl v) (q : ab ≠ a) : own_A Z h' ab := by obtain ⟨k, vs, V⟩ := F; exact ⟨k, vs, V.other W q⟩
theorem own_fitsB {v : Value} (h : fits .byte v = true) : ∃ w : Int32, v = .int w := by cases v <;> first | exact ⟨_, rfl⟩ | (simp [fits] at h)
theorem own_elem {Z : State} {h : Heap} {ab : Addr} (F : own_A Z h ab) (j : Int32) (hj : ¬ j < 0 ∧ j < (8 : Int32)) : ∃ (c : Cell) (w : Int32), Arr Z h ab c .byte ∧ ¬ (j < 0 ∨ c.slots.size ≤ j.toNatClampNeg) ∧ c.slots[j.toNatClampNeg]? = some (.int w) := by
  obtain ⟨k, vs, c, A, q, S, N, H, G⟩ := F
  have hin := inb_of S hj
  have hlt : j.toNatClampNeg < c.slots.size := Nat.lt_of_not_le fun y => hin (Or.inr y)
  obtain ⟨w, hw⟩ := own_fitsB (G _ hlt)
  exact ⟨c, w, A, hin, by rw [H _ hlt, hw]⟩
def own_Two (s t : Slot) : Prop := (s = .unset ∧ t = .unset) ∨ ∃ x : Int64, s = .val (.long x) ∧ t = .second
theorem own_sel {s : State} {args : Array Value} {y r : MethodName} (hr : r.cls = y.cls) (hsel : (Cond.selects r.cls r r).before args s = true) (hpriv : s.PrivateAt y) (hinst : (Cond.instanceMethod y).before args s = true) (hy : y.cls ≠ "java/lang/invoke/MethodHandle" ∧ y.cls ≠ "java/lang/invoke/VarHandle") : (Cond.selects y.cls y y).before args s = true := by
  obtain ⟨c2, r2, m2, -, -, q3, -, kP, hkP, hkPi⟩ := Cond.selects_spec hsel
  have hc := findClass_of_methodNamed q3
  rw [hr] at hc
  exact selects_self_of_private hc hkP hkPi hpriv hinst hy
theorem d1_0 : decode prog_42_method_1_code 0 = .ok (.aload_n 0, 1) := by decide +kernel
theorem d1_1 : decode prog_42_method_1_code 1 = .ok (.invokespecial 3, 3) := by decide +kernel
theorem d1_4 : decode prog_42_method_1_code 4 = .ok (.aload_n 0, 1) := by decide +kernel
theorem d1_5 : decode prog_42_method_1_code 5 = .ok (.aload_n 1, 1) := by decide +kernel
theorem d1_6 : decode prog_42_method_1_code 6 = .ok (.putfield 9, 3) := by decide +kernel
theorem d1_9 : decode prog_42_method_1_code 9 = .ok (.aload_n 0, 1) := by decide +kernel
theorem d1_10 : decode prog_42_method_1_code 10 = .ok (.iload_n 2, 1) := by decide +kernel
theorem d1_11 : decode prog_42_method_1_code 11 = .ok (.putfield 15, 3) := by decide +kernel
theorem d1_14 : decode prog_42_method_1_code 14 = .ok (.aload_n 0, 1) := by decide +kernel
theorem d1_15 : decode prog_42_method_1_code 15 = .ok (.iload_n 3, 1) := by decide +kernel
theorem d1_16 : decode prog_42_method_1_code 16 = .ok (.putfield 19, 3) := by decide +kernel
theorem d1_19 : decode prog_42_method_1_code 19 = .ok (.return_, 1) := by decide +kernel
theorem ef1 (m : MethodId) (x0 : Addr) (x1 : Addr) (x2 : Int32) (x3 : Int32) : entryFrame m #[(.ref x0), (.ref x1), (.int x2), (.int x3)] 4 = mkF m 0 #[.val (.ref x0), .val (.ref x1), .val (.int x2), .val (.int x3)] [] := by first | (simp [entryFrame, mkF, argsToLocals, Value.category]; done) | rfl
def Q1 (Z : State) (a0 : Addr) (a1 : Addr) (p2 : Int32) (p3 : Int32) (h0 : Heap) (n0 : Nat) (v : Option Value) (h : Heap) (L : List Loc) : Prop := v = none ∧ Fr n0 L ∧ Keep h0 h [a0] ∧ Exa Z h a0 "com/example/tierfuse/tierfuse/format/BitReader" ∧ Fld Z h a0 "com/example/tierfuse/tierfuse/format/BitReader" "bytes" "[B" (.ref a1) ∧ Fld Z h a0 "com/example/tierfuse/tierfuse/format/BitReader" "next" "I" (.int p2) ∧ Fld Z h a0 "com/example/tierfuse/tierfuse/format/BitReader" "end" "I" (.int p3) ∧ Fld Z h a0 "com/example/tierfuse/tierfuse/format/BitReader" "window" "J" (.long (0 : Int64)) ∧ Fld Z h a0 "com/example/tierfuse/tierfuse/format/BitReader" "windowBits" "I" (.int (0 : Int32))
set_option maxRecDepth 65536 in
set_option maxHeartbeats 40000000 in
theorem rm1 (l : Launch) (Z : State) (av : Array Value) (hw : ∀ d ∈ tables_1, d.before av Z = true) (ws : List Jvm.Cond) (a0 : Addr) (a1 : Addr) (p2 : Int32) (p3 : Int32) (h0 : Heap) (n0 : Nat) (Z0 : n0 ≤ h0.size) (E_a0 : Exa Z h0 a0 "com/example/tierfuse/tierfuse/format/BitReader") (g_a0 : n0 ≤ a0) (I_bytes : Fld Z h0 a0 "com/example/tierfuse/tierfuse/format/BitReader" "bytes" "[B" .null) (I_next : Fld Z h0 a0 "com/example/tierfuse/tierfuse/format/BitReader" "next" "I" (.int (0 : Int32))) (I_end : Fld Z h0 a0 "com/example/tierfuse/tierfuse/format/BitReader" "end" "I" (.int (0 : Int32))) (I_window : Fld Z h0 a0 "com/example/tierfuse/tierfuse/format/BitReader" "window" "J" (.long (0 : Int64))) (I_windowBits : Fld Z h0 a0 "com/example/tierfuse/tierfuse/format/BitReader" "windowBits" "I" (.int (0 : Int32))) :
    MetFree l (⟨"com/example/tierfuse/tierfuse/format/BitReader", "<init>", "([BII)V"⟩ : MethodName) (head1 (Jvm.Cond.code (⟨"com/example/tierfuse/tierfuse/format/BitReader", "<init>", "([BII)V"⟩ : MethodName) prog_42_method_1_code 4 none :: ws) ({ frames := 1, cells := 0, slots := 0, locals := 12 } : Room)) (fun a U => a = #[(.ref a0), (.ref a1), (.int p2), (.int p3)] ∧ Z.Warmed39 U.vm ∧ U.heap = h0) (fun _ _ _ _ _ => True) (fun _ U o U' => ∃ v L, o = .returned v ∧ Q1 Z a0 a1 p2 p3 h0 n0 v U'.heap L ∧ FrameEnd U o U' L ({ frames := 1, cells := 0, slots := 0, locals := 12 } : Room).cells ({ frames := 1, cells := 0, slots := 0, locals := 12 } : Room).slots) := by
  refine MetFree.of_bodySF (plainFor_of_name pn_com_example_tierfuse_tierfuse_format_BitReader) hisR ?_
  intro p e s m args below meth c s₁ Bd hml0 hP hK
  obtain ⟨rfl, hZ, hh⟩ := hP
  have hx := Bd.exec
  have hby := Bd.bytes
  have hml : c.maxLocals = 4 := hml0
  have hown : s.vm.findClass "com/example/tierfuse/tierfuse/format/BitReader" = some m.cls := findClass_of_methodNamed Bd.named
  have hnm := (name_of_methodNamed Bd.named Bd.method).1
  have X0 : Stand p l e ({ frames := 1, cells := 0, slots := 0, locals := 12 } : Room) s m #[(.ref a0), (.ref a1), (.int p2), (.int p3)] below meth c s₁ [] 0 0 := Stand.of_body Bd
  have e0 : s₁.heap = h0 := by rw [← hh, Bd.state]; rfl
  have N0 := Fr.nil n0
  have K0 : Keep h0 h0 [a0] := Keep.refl h0 [a0]
  have pre0 : ∀ t, Steps p.tables e below (s₁.setTop (mkF m 0 #[.val (.ref a0), .val (.ref a1), .val (.int p2), .val (.int p3)] [])) t → Steps p.tables e below (s₁.setTop (entryFrame m #[(.ref a0), (.ref a1), (.int p2), (.int p3)] 4)) t := fun t k => castTop (ef1 m a0 a1 p2 p3) k
  have pre1 : ∀ t, Steps p.tables e below (s₁.setTop (mkF m 1 #[.val (.ref a0), .val (.ref a1), .val (.int p2), .val (.int p3)] [(.ref a0)])) t → Steps p.tables e below (s₁.setTop (entryFrame m #[(.ref a0), (.ref a1), (.int p2), (.int p3)] 4)) t := fun t kt => pre0 t (by
    show Steps p.tables e below (s₁.setTop (mkF m 0 #[.val (.ref a0), .val (.ref a1), .val (.int p2), .val (.int p3)] [])) _
    refine XS.aloadN X0.here hx rfl (hb hby d1_0) rfl rfl ?_
    exact kt)
  obtain ⟨T2, X2, e2, st2⟩ := initO X0 hx hZ hown (hw _ (List.mem_of_getElem? (i := 8) rfl)) (hw _ (List.mem_of_getElem? (i := 9) rfl)) (hw _ (List.mem_of_getElem? (i := 10) rfl)) e0 (g := (mkF m 1 #[.val (.ref a0), .val (.ref a1), .val (.int p2), .val (.int p3)] [(.ref a0)])) rfl (by rw [hml]; rfl) rfl (hb hby d1_1) (by decide) (W := 0) (by show 2 * 0 + _ ≤ _; exact Nat.le_of_eq rfl) (by decide)
  have pre3 : ∀ t, Steps p.tables e below (T2.setTop (mkF m 4 #[.val (.ref a0), .val (.ref a1), .val (.int p2), .val (.int p3)] [])) t → Steps p.tables e below (s₁.setTop (entryFrame m #[(.ref a0), (.ref a1), (.int p2), (.int p3)] 4)) t := fun t kt => pre1 t (st2 _ kt)
  have pre4 : ∀ t, Steps p.tables e below (T2.setTop (mkF m 6 #[.val (.ref a0), .val (.ref a1), .val (.int p2), .val (.int p3)] [(.ref a1), (.ref a0)])) t → Steps p.tables e below (s₁.setTop (entryFrame m #[(.ref a0), (.ref a1), (.int p2), (.int p3)] 4)) t := fun t kt => pre3 t (by
    show Steps p.tables e below (T2.setTop (mkF m 4 #[.val (.ref a0), .val (.ref a1), .val (.int p2), .val (.int p3)] [])) _
    refine XS.aloadN X2.here hx rfl (hb hby d1_4) rfl rfl ?_
    show Steps p.tables e below (T2.setTop (mkF m 5 #[.val (.ref a0), .val (.ref a1), .val (.int p2), .val (.int p3)] [(.ref a0)])) _
    refine XS.aloadN X2.here hx rfl (hb hby d1_5) rfl rfl ?_
    exact kt)
  obtain ⟨T5, h5, X5, e5, W5, st5⟩ := putF X2 hx hZ hown (host := "") (Or.inl (hw _ (List.mem_of_getElem? (i := 11) rfl))) Via.refl e2 I_bytes E_a0 (Or.inr ⟨(hw _ (List.mem_of_getElem? (i := 12) rfl)), rfl, hnm⟩) (hw _ (List.mem_of_getElem? (i := 3) rfl)) (ty := (.array .byte)) (by decide) rfl rfl (g := (mkF m 6 #[.val (.ref a0), .val (.ref a1), .val (.int p2), .val (.int p3)] [(.ref a1), (.ref a0)])) rfl rfl (hb hby d1_6)
  have pre6 : ∀ t, Steps p.tables e below (T5.setTop (mkF m 9 #[.val (.ref a0), .val (.ref a1), .val (.int p2), .val (.int p3)] [])) t → Steps p.tables e below (s₁.setTop (entryFrame m #[(.ref a0), (.ref a1), (.int p2), (.int p3)] 4)) t := fun t kt => pre4 t (st5 _ kt)
  have Fw5 : Fld Z h5 a0 "com/example/tierfuse/tierfuse/format/BitReader" "bytes" "[B" (.ref a1) := I_bytes.same W5
  have F7 : Exa Z h5 a0 "com/example/tierfuse/tierfuse/format/BitReader" := E_a0.wr W5
  have F8 : Fld Z h5 a0 "com/example/tierfuse/tierfuse/format/BitReader" "next" "I" (.int (0 : Int32)) := I_next.other W5 (Or.inr (slot_ne (Or.inl (hw _ (List.mem_of_getElem? (i := 14) rfl))) (Or.inr (hw _ (List.mem_of_getElem? (i := 12) rfl))) (by decide) (t := .int) (t' := (.array .byte)) (by decide) (by decide)))
  have F9 : Fld Z h5 a0 "com/example/tierfuse/tierfuse/format/BitReader" "end" "I" (.int (0 : Int32)) := I_end.other W5 (Or.inr (slot_ne (Or.inr (hw _ (List.mem_of_getElem? (i := 16) rfl))) (Or.inr (hw _ (List.mem_of_getElem? (i := 12) rfl))) (by decide) (t := .int) (t' := (.array .byte)) (by decide) (by decide)))
  have F10 : Fld Z h5 a0 "com/example/tierfuse/tierfuse/format/BitReader" "window" "J" (.long (0 : Int64)) := I_window.other W5 (Or.inr (slot_ne (Or.inl (hw _ (List.mem_of_getElem? (i := 40) rfl))) (Or.inr (hw _ (List.mem_of_getElem? (i := 12) rfl))) (by decide) (t := .long) (t' := (.array .byte)) (by decide) (by decide)))
  have F11 : Fld Z h5 a0 "com/example/tierfuse/tierfuse/format/BitReader" "windowBits" "I" (.int (0 : Int32)) := I_windowBits.other W5 (Or.inr (slot_ne (Or.inl (hw _ (List.mem_of_getElem? (i := 25) rfl))) (Or.inr (hw _ (List.mem_of_getElem? (i := 12) rfl))) (by decide) (t := .int) (t' := (.array .byte)) (by decide) (by decide)))
  have K5 : Keep h0 h5 [a0] := K0.wr W5 (Or.inl (List.mem_of_getElem? (i := 0) rfl))
  have N5 := Fr.snoc X5 N0 g_a0
  have Z5 : n0 ≤ h5.size := Nat.le_trans Z0 (Keep.of_wr W5).1
  have pre12 : ∀ t, Steps p.tables e below (T5.setTop (mkF m 11 #[.val (.ref a0), .val (.ref a1), .val (.int p2), .val (.int p3)] [(.int p2), (.ref a0)])) t → Steps p.tables e below (s₁.setTop (entryFrame m #[(.ref a0), (.ref a1), (.int p2), (.int p3)] 4)) t := fun t kt => pre6 t (by
    show Steps p.tables e below (T5.setTop (mkF m 9 #[.val (.ref a0), .val (.ref a1), .val (.int p2), .val (.int p3)] [])) _
    refine XS.aloadN X5.here hx rfl (hb hby d1_9) rfl rfl ?_
    show Steps p.tables e below (T5.setTop (mkF m 10 #[.val (.ref a0), .val (.ref a1), .val (.int p2), .val (.int p3)] [(.ref a0)])) _
    refine XS.iloadN X5.here hx rfl (hb hby d1_10) rfl ?_
    exact kt)
  obtain ⟨T13, h13, X13, e13, W13, st13⟩ := putF X5 hx hZ hown (host := "") (Or.inl (hw _ (List.mem_of_getElem? (i := 13) rfl))) Via.refl e5 F8 F7 (Or.inl (hw _ (List.mem_of_getElem? (i := 14) rfl))) (hw _ (List.mem_of_getElem? (i := 3) rfl)) (ty := .int) (by decide) rfl rfl (g := (mkF m 11 #[.val (.ref a0), .val (.ref a1), .val (.int p2), .val (.int p3)] [(.int p2), (.ref a0)])) rfl rfl (hb hby d1_11)
  have pre14 : ∀ t, Steps p.tables e below (T13.setTop (mkF m 14 #[.val (.ref a0), .val (.ref a1), .val (.int p2), .val (.int p3)] [])) t → Steps p.tables e below (s₁.setTop (entryFrame m #[(.ref a0), (.ref a1), (.int p2), (.int p3)] 4)) t := fun t kt => pre12 t (st13 _ kt)
  have Fw13 : Fld Z h13 a0 "com/example/tierfuse/tierfuse/format/BitReader" "next" "I" (.int p2) := F8.same W13
  have F15 : Exa Z h13 a0 "com/example/tierfuse/tierfuse/format/BitReader" := F7.wr W13
  have F16 : Fld Z h13 a0 "com/example/tierfuse/tierfuse/format/BitReader" "end" "I" (.int (0 : Int32)) := F9.other W13 (Or.inr (slot_ne (Or.inr (hw _ (List.mem_of_getElem? (i := 16) rfl))) (Or.inl (hw _ (List.mem_of_getElem? (i := 14) rfl))) (by decide) (t := .int) (t' := .int) (by decide) (by decide)))
  have F17 : Fld Z h13 a0 "com/example/tierfuse/tierfuse/format/BitReader" "window" "J" (.long (0 : Int64)) := F10.other W13 (Or.inr (slot_ne (Or.inl (hw _ (List.mem_of_getElem? (i := 40) rfl))) (Or.inl (hw _ (List.mem_of_getElem? (i := 14) rfl))) (by decide) (t := .long) (t' := .int) (by decide) (by decide)))
  have F18 : Fld Z h13 a0 "com/example/tierfuse/tierfuse/format/BitReader" "windowBits" "I" (.int (0 : Int32)) := F11.other W13 (Or.inr (slot_ne (Or.inl (hw _ (List.mem_of_getElem? (i := 25) rfl))) (Or.inl (hw _ (List.mem_of_getElem? (i := 14) rfl))) (by decide) (t := .int) (t' := .int) (by decide) (by decide)))
  have F19 : Fld Z h13 a0 "com/example/tierfuse/tierfuse/format/BitReader" "bytes" "[B" (.ref a1) := Fw5.other W13 (Or.inr (slot_ne (Or.inr (hw _ (List.mem_of_getElem? (i := 12) rfl))) (Or.inl (hw _ (List.mem_of_getElem? (i := 14) rfl))) (by decide) (t := (.array .byte)) (t' := .int) (by decide) (by decide)))
  have K13 : Keep h0 h13 [a0] := K5.wr W13 (Or.inl (List.mem_of_getElem? (i := 0) rfl))
  have N13 := Fr.snoc X13 N5 g_a0
  have Z13 : n0 ≤ h13.size := Nat.le_trans Z5 (Keep.of_wr W13).1
  have pre20 : ∀ t, Steps p.tables e below (T13.setTop (mkF m 16 #[.val (.ref a0), .val (.ref a1), .val (.int p2), .val (.int p3)] [(.int p3), (.ref a0)])) t → Steps p.tables e below (s₁.setTop (entryFrame m #[(.ref a0), (.ref a1), (.int p2), (.int p3)] 4)) t := fun t kt => pre14 t (by
    show Steps p.tables e below (T13.setTop (mkF m 14 #[.val (.ref a0), .val (.ref a1), .val (.int p2), .val (.int p3)] [])) _
    refine XS.aloadN X13.here hx rfl (hb hby d1_14) rfl rfl ?_
    show Steps p.tables e below (T13.setTop (mkF m 15 #[.val (.ref a0), .val (.ref a1), .val (.int p2), .val (.int p3)] [(.ref a0)])) _
    refine XS.iloadN X13.here hx rfl (hb hby d1_15) rfl ?_
    exact kt)
  obtain ⟨T21, h21, X21, e21, W21, st21⟩ := putF X13 hx hZ hown (host := "") (Or.inl (hw _ (List.mem_of_getElem? (i := 15) rfl))) Via.refl e13 F16 F15 (Or.inr ⟨(hw _ (List.mem_of_getElem? (i := 16) rfl)), rfl, hnm⟩) (hw _ (List.mem_of_getElem? (i := 3) rfl)) (ty := .int) (by decide) rfl rfl (g := (mkF m 16 #[.val (.ref a0), .val (.ref a1), .val (.int p2), .val (.int p3)] [(.int p3), (.ref a0)])) rfl rfl (hb hby d1_16)
  have pre22 : ∀ t, Steps p.tables e below (T21.setTop (mkF m 19 #[.val (.ref a0), .val (.ref a1), .val (.int p2), .val (.int p3)] [])) t → Steps p.tables e below (s₁.setTop (entryFrame m #[(.ref a0), (.ref a1), (.int p2), (.int p3)] 4)) t := fun t kt => pre20 t (st21 _ kt)
  have Fw21 : Fld Z h21 a0 "com/example/tierfuse/tierfuse/format/BitReader" "end" "I" (.int p3) := F16.same W21
  have F23 : Exa Z h21 a0 "com/example/tierfuse/tierfuse/format/BitReader" := F15.wr W21
  have F24 : Fld Z h21 a0 "com/example/tierfuse/tierfuse/format/BitReader" "window" "J" (.long (0 : Int64)) := F17.other W21 (Or.inr (slot_ne (Or.inl (hw _ (List.mem_of_getElem? (i := 40) rfl))) (Or.inr (hw _ (List.mem_of_getElem? (i := 16) rfl))) (by decide) (t := .long) (t' := .int) (by decide) (by decide)))
  have F25 : Fld Z h21 a0 "com/example/tierfuse/tierfuse/format/BitReader" "windowBits" "I" (.int (0 : Int32)) := F18.other W21 (Or.inr (slot_ne (Or.inl (hw _ (List.mem_of_getElem? (i := 25) rfl))) (Or.inr (hw _ (List.mem_of_getElem? (i := 16) rfl))) (by decide) (t := .int) (t' := .int) (by decide) (by decide)))
  have F26 : Fld Z h21 a0 "com/example/tierfuse/tierfuse/format/BitReader" "bytes" "[B" (.ref a1) := F19.other W21 (Or.inr (slot_ne (Or.inr (hw _ (List.mem_of_getElem? (i := 12) rfl))) (Or.inr (hw _ (List.mem_of_getElem? (i := 16) rfl))) (by decide) (t := (.array .byte)) (t' := .int) (by decide) (by decide)))
  have F27 : Fld Z h21 a0 "com/example/tierfuse/tierfuse/format/BitReader" "next" "I" (.int p2) := Fw13.other W21 (Or.inr (slot_ne (Or.inl (hw _ (List.mem_of_getElem? (i := 14) rfl))) (Or.inr (hw _ (List.mem_of_getElem? (i := 16) rfl))) (by decide) (t := .int) (t' := .int) (by decide) (by decide)))
  have K21 : Keep h0 h21 [a0] := K13.wr W21 (Or.inl (List.mem_of_getElem? (i := 0) rfl))
  have N21 := Fr.snoc X21 N13 g_a0
  have Z21 : n0 ≤ h21.size := Nat.le_trans Z13 (Keep.of_wr W21).1
  obtain ⟨fs, hr, hrun, hended, hW, hsame⟩ := X21.leave (v := none) (fun _ => rfl)
  refine ⟨_, _, pre22 _ ?_, hrun, hended, _, _, rfl, ?_, ⟨_, rfl⟩, hW, hsame.mono (by decide) (by decide)⟩
  · show Steps p.tables e below (T21.setTop (mkF m 19 #[.val (.ref a0), .val (.ref a1), .val (.int p2), .val (.int p3)] [])) _
    exact X21.returnOut hx Bd.returns (hb hby d1_19) hr
  · show Q1 Z a0 a1 p2 p3 h0 n0 _ T21.heap _
    rw [e21]
    exact ⟨rfl, N21, K21, F23, F26, F27, Fw21, F24, F25⟩
theorem d3_0 : decode prog_42_method_2_code 0 = .ok (.ldc2_w 22, 3) := by decide +kernel
theorem d3_3 : decode prog_42_method_2_code 3 = .ok (.aload_n 0, 1) := by decide +kernel
theorem d3_4 : decode prog_42_method_2_code 4 = .ok (.getfield 19, 3) := by decide +kernel
theorem d3_7 : decode prog_42_method_2_code 7 = .ok (.aload_n 0, 1) := by decide +kernel
theorem d3_8 : decode prog_42_method_2_code 8 = .ok (.getfield 15, 3) := by decide +kernel
theorem d3_11 : decode prog_42_method_2_code 11 = .ok (.isub, 1) := by decide +kernel
theorem d3_12 : decode prog_42_method_2_code 12 = .ok (.i2l, 1) := by decide +kernel
theorem d3_13 : decode prog_42_method_2_code 13 = .ok (.lmul, 1) := by decide +kernel
theorem d3_14 : decode prog_42_method_2_code 14 = .ok (.aload_n 0, 1) := by decide +kernel
theorem d3_15 : decode prog_42_method_2_code 15 = .ok (.getfield 24, 3) := by decide +kernel
theorem d3_18 : decode prog_42_method_2_code 18 = .ok (.i2l, 1) := by decide +kernel
theorem d3_19 : decode prog_42_method_2_code 19 = .ok (.ladd, 1) := by decide +kernel
theorem d3_20 : decode prog_42_method_2_code 20 = .ok (.lreturn, 1) := by decide +kernel
theorem ef3 (m : MethodId) (x0 : Addr) : entryFrame m #[(.ref x0)] 1 = mkF m 0 #[.val (.ref x0)] [] := by first | (simp [entryFrame, mkF, argsToLocals, Value.category]; done) | rfl
def f_rem (nx : Int32) (en : Int32) (wi : Int64) (wb : Int32) : Int64 :=
  (((8 : Int64) * ((en - nx).toInt64)) + (wb.toInt64))
def Q3 (Z : State) (a0 : Addr) (ab : Addr) (nx : Int32) (en : Int32) (wi : Int64) (wb : Int32) (h0 : Heap) (n0 : Nat) (v : Option Value) (h : Heap) (L : List Loc) : Prop := v = some (.long (f_rem nx en wi wb)) ∧ Fr n0 L ∧ h = h0
set_option maxRecDepth 65536 in
set_option maxHeartbeats 40000000 in
theorem rm3 (l : Launch) (Z : State) (av : Array Value) (hw : ∀ d ∈ tables_1, d.before av Z = true) (ws : List Jvm.Cond) (a0 : Addr) (ab : Addr) (nx : Int32) (en : Int32) (wi : Int64) (wb : Int32) (h0 : Heap) (n0 : Nat) (Z0 : n0 ≤ h0.size) (E_a0 : Exa Z h0 a0 "com/example/tierfuse/tierfuse/format/BitReader") (g_a0 : n0 ≤ a0) (I_bytes : Fld Z h0 a0 "com/example/tierfuse/tierfuse/format/BitReader" "bytes" "[B" (.ref ab)) (I_next : Fld Z h0 a0 "com/example/tierfuse/tierfuse/format/BitReader" "next" "I" (.int nx)) (I_end : Fld Z h0 a0 "com/example/tierfuse/tierfuse/format/BitReader" "end" "I" (.int en)) (I_window : Fld Z h0 a0 "com/example/tierfuse/tierfuse/format/BitReader" "window" "J" (.long wi)) (I_windowBits : Fld Z h0 a0 "com/example/tierfuse/tierfuse/format/BitReader" "windowBits" "I" (.int wb)) :
    MetFree l (⟨"com/example/tierfuse/tierfuse/format/BitReader", "remaining", "()J"⟩ : MethodName) (head1 (Jvm.Cond.code (⟨"com/example/tierfuse/tierfuse/format/BitReader", "remaining", "()J"⟩ : MethodName) prog_42_method_2_code 1 (some .long) :: ws) ({ frames := 0, cells := 0, slots := 0, locals := 0 } : Room)) (fun a U => a = #[(.ref a0)] ∧ Z.Warmed39 U.vm ∧ U.heap = h0) (fun _ _ _ _ _ => True) (fun _ U o U' => ∃ v L, o = .returned v ∧ Q3 Z a0 ab nx en wi wb h0 n0 v U'.heap L ∧ FrameEnd U o U' L ({ frames := 0, cells := 0, slots := 0, locals := 0 } : Room).cells ({ frames := 0, cells := 0, slots := 0, locals := 0 } : Room).slots) := by
  refine MetFree.of_bodySF (plainFor_of_name pn_com_example_tierfuse_tierfuse_format_BitReader) hisR ?_
  intro p e s m args below meth c s₁ Bd hml0 hP hK
  obtain ⟨rfl, hZ, hh⟩ := hP
  have hx := Bd.exec
  have hby := Bd.bytes
  have hml : c.maxLocals = 1 := hml0
  have hown : s.vm.findClass "com/example/tierfuse/tierfuse/format/BitReader" = some m.cls := findClass_of_methodNamed Bd.named
  have hnm := (name_of_methodNamed Bd.named Bd.method).1
  have X0 : Stand p l e ({ frames := 0, cells := 0, slots := 0, locals := 0 } : Room) s m #[(.ref a0)] below meth c s₁ [] 0 0 := Stand.of_body Bd
  have e0 : s₁.heap = h0 := by rw [← hh, Bd.state]; rfl
  have N0 := Fr.nil n0
  have K0 : Keep h0 h0 [] := Keep.refl h0 []
  have pre0 : ∀ t, Steps p.tables e below (s₁.setTop (mkF m 0 #[.val (.ref a0)] [])) t → Steps p.tables e below (s₁.setTop (entryFrame m #[(.ref a0)] 1)) t := fun t k => castTop (ef3 m a0) k
  have pre1 : ∀ t, Steps p.tables e below (s₁.setTop (mkF m 4 #[.val (.ref a0)] [(.ref a0), (.long (8 : Int64))])) t → Steps p.tables e below (s₁.setTop (entryFrame m #[(.ref a0)] 1)) t := fun t kt => pre0 t (by
    show Steps p.tables e below (s₁.setTop (mkF m 0 #[.val (.ref a0)] [])) _
    refine X0.ldc2Long hx hown (mvT hZ (hw _ (List.mem_of_getElem? (i := 23) rfl))) (g := (mkF m 0 #[.val (.ref a0)] [])) rfl (hb hby d3_0) _ ?_
    show Steps p.tables e below (s₁.setTop (mkF m 3 #[.val (.ref a0)] [(.long (8 : Int64))])) _
    refine XS.aloadN X0.here hx rfl (hb hby d3_3) rfl rfl ?_
    exact kt)
  obtain ⟨T2, X2, e2, st2⟩ := getF X0 hx hZ hown (host := "") (Or.inl (hw _ (List.mem_of_getElem? (i := 15) rfl))) Via.refl e0 I_end (g := (mkF m 4 #[.val (.ref a0)] [(.ref a0), (.long (8 : Int64))])) rfl rfl (hb hby d3_4)
  have pre3 : ∀ t, Steps p.tables e below (T2.setTop (mkF m 7 #[.val (.ref a0)] [(.int en), (.long (8 : Int64))])) t → Steps p.tables e below (s₁.setTop (entryFrame m #[(.ref a0)] 1)) t := fun t kt => pre1 t (st2 _ kt)
  have pre4 : ∀ t, Steps p.tables e below (T2.setTop (mkF m 8 #[.val (.ref a0)] [(.ref a0), (.int en), (.long (8 : Int64))])) t → Steps p.tables e below (s₁.setTop (entryFrame m #[(.ref a0)] 1)) t := fun t kt => pre3 t (by
    show Steps p.tables e below (T2.setTop (mkF m 7 #[.val (.ref a0)] [(.int en), (.long (8 : Int64))])) _
    refine XS.aloadN X2.here hx rfl (hb hby d3_7) rfl rfl ?_
    exact kt)
  obtain ⟨T5, X5, e5, st5⟩ := getF X2 hx hZ hown (host := "") (Or.inl (hw _ (List.mem_of_getElem? (i := 13) rfl))) Via.refl e2 I_next (g := (mkF m 8 #[.val (.ref a0)] [(.ref a0), (.int en), (.long (8 : Int64))])) rfl rfl (hb hby d3_8)
  have pre6 : ∀ t, Steps p.tables e below (T5.setTop (mkF m 11 #[.val (.ref a0)] [(.int nx), (.int en), (.long (8 : Int64))])) t → Steps p.tables e below (s₁.setTop (entryFrame m #[(.ref a0)] 1)) t := fun t kt => pre4 t (st5 _ kt)
  have pre7 : ∀ t, Steps p.tables e below (T5.setTop (mkF m 15 #[.val (.ref a0)] [(.ref a0), (.long ((8 : Int64) * ((en - nx).toInt64)))])) t → Steps p.tables e below (s₁.setTop (entryFrame m #[(.ref a0)] 1)) t := fun t kt => pre6 t (by
    show Steps p.tables e below (T5.setTop (mkF m 11 #[.val (.ref a0)] [(.int nx), (.int en), (.long (8 : Int64))])) _
    refine XS.isub X5.here hx rfl (hb hby d3_11) rfl ?_
    show Steps p.tables e below (T5.setTop (mkF m 12 #[.val (.ref a0)] [(.int (en - nx)), (.long (8 : Int64))])) _
    refine XS.i2l X5.here hx rfl (hb hby d3_12) rfl ?_
    show Steps p.tables e below (T5.setTop (mkF m 13 #[.val (.ref a0)] [(.long ((en - nx).toInt64)), (.long (8 : Int64))])) _
    refine XS.lmul X5.here hx rfl (hb hby d3_13) rfl ?_
    show Steps p.tables e below (T5.setTop (mkF m 14 #[.val (.ref a0)] [(.long ((8 : Int64) * ((en - nx).toInt64)))])) _
    refine XS.aloadN X5.here hx rfl (hb hby d3_14) rfl rfl ?_
    exact kt)
  obtain ⟨T8, X8, e8, st8⟩ := getF X5 hx hZ hown (host := "") (Or.inl (hw _ (List.mem_of_getElem? (i := 24) rfl))) Via.refl e5 I_windowBits (g := (mkF m 15 #[.val (.ref a0)] [(.ref a0), (.long ((8 : Int64) * ((en - nx).toInt64)))])) rfl rfl (hb hby d3_15)
  have pre9 : ∀ t, Steps p.tables e below (T8.setTop (mkF m 18 #[.val (.ref a0)] [(.int wb), (.long ((8 : Int64) * ((en - nx).toInt64)))])) t → Steps p.tables e below (s₁.setTop (entryFrame m #[(.ref a0)] 1)) t := fun t kt => pre7 t (st8 _ kt)
  have pre10 : ∀ t, Steps p.tables e below (T8.setTop (mkF m 20 #[.val (.ref a0)] [(.long (((8 : Int64) * ((en - nx).toInt64)) + (wb.toInt64)))])) t → Steps p.tables e below (s₁.setTop (entryFrame m #[(.ref a0)] 1)) t := fun t kt => pre9 t (by
    show Steps p.tables e below (T8.setTop (mkF m 18 #[.val (.ref a0)] [(.int wb), (.long ((8 : Int64) * ((en - nx).toInt64)))])) _
    refine XS.i2l X8.here hx rfl (hb hby d3_18) rfl ?_
    show Steps p.tables e below (T8.setTop (mkF m 19 #[.val (.ref a0)] [(.long (wb.toInt64)), (.long ((8 : Int64) * ((en - nx).toInt64)))])) _
    refine XS.ladd X8.here hx rfl (hb hby d3_19) rfl ?_
    exact kt)
  have hv : f_rem nx en wi wb = (((8 : Int64) * ((en - nx).toInt64)) + (wb.toInt64)) := by
    unfold f_rem
    rfl
  obtain ⟨fs, hr, hrun, hended, hW, hsame⟩ := X8.leave (v := some (.long (f_rem nx en wi wb))) (fun h => by rw [Bd.returns] at h; cases h)
  refine ⟨_, _, pre10 _ ?_, hrun, hended, _, _, rfl, ?_, ⟨_, rfl⟩, hW, hsame.mono (by decide) (by decide)⟩
  · rw [hv] at hr
    show Steps p.tables e below (T8.setTop (mkF m 20 #[.val (.ref a0)] [(.long (((8 : Int64) * ((en - nx).toInt64)) + (wb.toInt64)))])) _
    exact retL X8 hx Bd.returns (hb hby d3_20) hr
  · show Q3 Z a0 ab nx en wi wb h0 n0 _ T8.heap _
    rw [e8]
    exact ⟨rfl, N0, rfl⟩
theorem d7_0 : decode prog_42_method_8_code 0 = .ok (.aload_n 0, 1) := by decide +kernel
theorem d7_1 : decode prog_42_method_8_code 1 = .ok (.dup, 1) := by decide +kernel
theorem d7_2 : decode prog_42_method_8_code 2 = .ok (.getfield 34, 3) := by decide +kernel
theorem d7_5 : decode prog_42_method_8_code 5 = .ok (.iload_n 1, 1) := by decide +kernel
theorem d7_6 : decode prog_42_method_8_code 6 = .ok (.lshl, 1) := by decide +kernel
theorem d7_7 : decode prog_42_method_8_code 7 = .ok (.putfield 34, 3) := by decide +kernel
theorem d7_10 : decode prog_42_method_8_code 10 = .ok (.aload_n 0, 1) := by decide +kernel
theorem d7_11 : decode prog_42_method_8_code 11 = .ok (.dup, 1) := by decide +kernel
theorem d7_12 : decode prog_42_method_8_code 12 = .ok (.getfield 24, 3) := by decide +kernel
theorem d7_15 : decode prog_42_method_8_code 15 = .ok (.iload_n 1, 1) := by decide +kernel
theorem d7_16 : decode prog_42_method_8_code 16 = .ok (.isub, 1) := by decide +kernel
theorem d7_17 : decode prog_42_method_8_code 17 = .ok (.putfield 24, 3) := by decide +kernel
theorem d7_20 : decode prog_42_method_8_code 20 = .ok (.return_, 1) := by decide +kernel
theorem ef7 (m : MethodId) (x0 : Addr) (x1 : Int32) : entryFrame m #[(.ref x0), (.int x1)] 2 = mkF m 0 #[.val (.ref x0), .val (.int x1)] [] := by first | (simp [entryFrame, mkF, argsToLocals, Value.category]; done) | rfl
def Q7 (Z : State) (a0 : Addr) (p1 : Int32) (ab : Addr) (nx : Int32) (en : Int32) (wi : Int64) (wb : Int32) (h0 : Heap) (n0 : Nat) (v : Option Value) (h : Heap) (L : List Loc) : Prop := v = none ∧ Fr n0 L ∧ Keep h0 h [a0] ∧ Exa Z h a0 "com/example/tierfuse/tierfuse/format/BitReader" ∧ Fld Z h a0 "com/example/tierfuse/tierfuse/format/BitReader" "bytes" "[B" (.ref ab) ∧ Fld Z h a0 "com/example/tierfuse/tierfuse/format/BitReader" "next" "I" (.int nx) ∧ Fld Z h a0 "com/example/tierfuse/tierfuse/format/BitReader" "end" "I" (.int en) ∧ Fld Z h a0 "com/example/tierfuse/tierfuse/format/BitReader" "window" "J" (.long (wi <<< (p1 &&& 0x3f).toInt64)) ∧ Fld Z h a0 "com/example/tierfuse/tierfuse/format/BitReader" "windowBits" "I" (.int (wb - p1))
set_option maxRecDepth 65536 in
set_option maxHeartbeats 40000000 in
theorem rm7 (l : Launch) (Z : State) (av : Array Value) (hw : ∀ d ∈ tables_1, d.before av Z = true) (ws : List Jvm.Cond) (a0 : Addr) (p1 : Int32) (ab : Addr) (nx : Int32) (en : Int32) (wi : Int64) (wb : Int32) (h0 : Heap) (n0 : Nat) (Z0 : n0 ≤ h0.size) (E_a0 : Exa Z h0 a0 "com/example/tierfuse/tierfuse/format/BitReader") (g_a0 : n0 ≤ a0) (I_bytes : Fld Z h0 a0 "com/example/tierfuse/tierfuse/format/BitReader" "bytes" "[B" (.ref ab)) (I_next : Fld Z h0 a0 "com/example/tierfuse/tierfuse/format/BitReader" "next" "I" (.int nx)) (I_end : Fld Z h0 a0 "com/example/tierfuse/tierfuse/format/BitReader" "end" "I" (.int en)) (I_window : Fld Z h0 a0 "com/example/tierfuse/tierfuse/format/BitReader" "window" "J" (.long wi)) (I_windowBits : Fld Z h0 a0 "com/example/tierfuse/tierfuse/format/BitReader" "windowBits" "I" (.int wb)) :
    MetFree l (⟨"com/example/tierfuse/tierfuse/format/BitReader", "skip", "(I)V"⟩ : MethodName) (head1 (Jvm.Cond.code (⟨"com/example/tierfuse/tierfuse/format/BitReader", "skip", "(I)V"⟩ : MethodName) prog_42_method_8_code 2 none :: ws) ({ frames := 0, cells := 0, slots := 0, locals := 0 } : Room)) (fun a U => a = #[(.ref a0), (.int p1)] ∧ Z.Warmed39 U.vm ∧ U.heap = h0) (fun _ _ _ _ _ => True) (fun _ U o U' => ∃ v L, o = .returned v ∧ Q7 Z a0 p1 ab nx en wi wb h0 n0 v U'.heap L ∧ FrameEnd U o U' L ({ frames := 0, cells := 0, slots := 0, locals := 0 } : Room).cells ({ frames := 0, cells := 0, slots := 0, locals := 0 } : Room).slots) := by
  refine MetFree.of_bodySF (plainFor_of_name pn_com_example_tierfuse_tierfuse_format_BitReader) hisR ?_
  intro p e s m args below meth c s₁ Bd hml0 hP hK
  obtain ⟨rfl, hZ, hh⟩ := hP
  have hx := Bd.exec
  have hby := Bd.bytes
  have hml : c.maxLocals = 2 := hml0
  have hown : s.vm.findClass "com/example/tierfuse/tierfuse/format/BitReader" = some m.cls := findClass_of_methodNamed Bd.named
  have hnm := (name_of_methodNamed Bd.named Bd.method).1
  have X0 : Stand p l e ({ frames := 0, cells := 0, slots := 0, locals := 0 } : Room) s m #[(.ref a0), (.int p1)] below meth c s₁ [] 0 0 := Stand.of_body Bd
  have e0 : s₁.heap = h0 := by rw [← hh, Bd.state]; rfl
  have N0 := Fr.nil n0
  have K0 : Keep h0 h0 [a0] := Keep.refl h0 [a0]
  have pre0 : ∀ t, Steps p.tables e below (s₁.setTop (mkF m 0 #[.val (.ref a0), .val (.int p1)] [])) t → Steps p.tables e below (s₁.setTop (entryFrame m #[(.ref a0), (.int p1)] 2)) t := fun t k => castTop (ef7 m a0 p1) k
  have pre1 : ∀ t, Steps p.tables e below (s₁.setTop (mkF m 2 #[.val (.ref a0), .val (.int p1)] [(.ref a0), (.ref a0)])) t → Steps p.tables e below (s₁.setTop (entryFrame m #[(.ref a0), (.int p1)] 2)) t := fun t kt => pre0 t (by
    show Steps p.tables e below (s₁.setTop (mkF m 0 #[.val (.ref a0), .val (.int p1)] [])) _
    refine XS.aloadN X0.here hx rfl (hb hby d7_0) rfl rfl ?_
    show Steps p.tables e below (s₁.setTop (mkF m 1 #[.val (.ref a0), .val (.int p1)] [(.ref a0)])) _
    refine XS.dup X0.here hx rfl (hb hby d7_1) rfl rfl ?_
    exact kt)
  obtain ⟨T2, X2, e2, st2⟩ := getF X0 hx hZ hown (host := "") (Or.inl (hw _ (List.mem_of_getElem? (i := 39) rfl))) Via.refl e0 I_window (g := (mkF m 2 #[.val (.ref a0), .val (.int p1)] [(.ref a0), (.ref a0)])) rfl rfl (hb hby d7_2)
  have pre3 : ∀ t, Steps p.tables e below (T2.setTop (mkF m 5 #[.val (.ref a0), .val (.int p1)] [(.long wi), (.ref a0)])) t → Steps p.tables e below (s₁.setTop (entryFrame m #[(.ref a0), (.int p1)] 2)) t := fun t kt => pre1 t (st2 _ kt)
  have pre4 : ∀ t, Steps p.tables e below (T2.setTop (mkF m 7 #[.val (.ref a0), .val (.int p1)] [(.long (wi <<< (p1 &&& 0x3f).toInt64)), (.ref a0)])) t → Steps p.tables e below (s₁.setTop (entryFrame m #[(.ref a0), (.int p1)] 2)) t := fun t kt => pre3 t (by
    show Steps p.tables e below (T2.setTop (mkF m 5 #[.val (.ref a0), .val (.int p1)] [(.long wi), (.ref a0)])) _
    refine XS.iloadN X2.here hx rfl (hb hby d7_5) rfl ?_
    show Steps p.tables e below (T2.setTop (mkF m 6 #[.val (.ref a0), .val (.int p1)] [(.int p1), (.long wi), (.ref a0)])) _
    refine XS.lshl X2.here hx rfl (hb hby d7_6) rfl ?_
    exact kt)
  obtain ⟨T5, h5, X5, e5, W5, st5⟩ := putF X2 hx hZ hown (host := "") (Or.inl (hw _ (List.mem_of_getElem? (i := 39) rfl))) Via.refl e2 I_window E_a0 (Or.inl (hw _ (List.mem_of_getElem? (i := 40) rfl))) (hw _ (List.mem_of_getElem? (i := 3) rfl)) (ty := .long) (by decide) rfl rfl (g := (mkF m 7 #[.val (.ref a0), .val (.int p1)] [(.long (wi <<< (p1 &&& 0x3f).toInt64)), (.ref a0)])) rfl rfl (hb hby d7_7)
  have pre6 : ∀ t, Steps p.tables e below (T5.setTop (mkF m 10 #[.val (.ref a0), .val (.int p1)] [])) t → Steps p.tables e below (s₁.setTop (entryFrame m #[(.ref a0), (.int p1)] 2)) t := fun t kt => pre4 t (st5 _ kt)
  have Fw5 : Fld Z h5 a0 "com/example/tierfuse/tierfuse/format/BitReader" "window" "J" (.long (wi <<< (p1 &&& 0x3f).toInt64)) := I_window.same W5
  have F7 : Exa Z h5 a0 "com/example/tierfuse/tierfuse/format/BitReader" := E_a0.wr W5
  have F8 : Fld Z h5 a0 "com/example/tierfuse/tierfuse/format/BitReader" "bytes" "[B" (.ref ab) := I_bytes.other W5 (Or.inr (slot_ne (Or.inr (hw _ (List.mem_of_getElem? (i := 12) rfl))) (Or.inl (hw _ (List.mem_of_getElem? (i := 40) rfl))) (by decide) (t := (.array .byte)) (t' := .long) (by decide) (by decide)))
  have F9 : Fld Z h5 a0 "com/example/tierfuse/tierfuse/format/BitReader" "next" "I" (.int nx) := I_next.other W5 (Or.inr (slot_ne (Or.inl (hw _ (List.mem_of_getElem? (i := 14) rfl))) (Or.inl (hw _ (List.mem_of_getElem? (i := 40) rfl))) (by decide) (t := .int) (t' := .long) (by decide) (by decide)))
  have F10 : Fld Z h5 a0 "com/example/tierfuse/tierfuse/format/BitReader" "end" "I" (.int en) := I_end.other W5 (Or.inr (slot_ne (Or.inr (hw _ (List.mem_of_getElem? (i := 16) rfl))) (Or.inl (hw _ (List.mem_of_getElem? (i := 40) rfl))) (by decide) (t := .int) (t' := .long) (by decide) (by decide)))
  have F11 : Fld Z h5 a0 "com/example/tierfuse/tierfuse/format/BitReader" "windowBits" "I" (.int wb) := I_windowBits.other W5 (Or.inr (slot_ne (Or.inl (hw _ (List.mem_of_getElem? (i := 25) rfl))) (Or.inl (hw _ (List.mem_of_getElem? (i := 40) rfl))) (by decide) (t := .int) (t' := .long) (by decide) (by decide)))
  have K5 : Keep h0 h5 [a0] := K0.wr W5 (Or.inl (List.mem_of_getElem? (i := 0) rfl))
  have N5 := Fr.snoc X5 N0 g_a0
  have Z5 : n0 ≤ h5.size := Nat.le_trans Z0 (Keep.of_wr W5).1
  have pre12 : ∀ t, Steps p.tables e below (T5.setTop (mkF m 12 #[.val (.ref a0), .val (.int p1)] [(.ref a0), (.ref a0)])) t → Steps p.tables e below (s₁.setTop (entryFrame m #[(.ref a0), (.int p1)] 2)) t := fun t kt => pre6 t (by
    show Steps p.tables e below (T5.setTop (mkF m 10 #[.val (.ref a0), .val (.int p1)] [])) _
    refine XS.aloadN X5.here hx rfl (hb hby d7_10) rfl rfl ?_
    show Steps p.tables e below (T5.setTop (mkF m 11 #[.val (.ref a0), .val (.int p1)] [(.ref a0)])) _
    refine XS.dup X5.here hx rfl (hb hby d7_11) rfl rfl ?_
    exact kt)
  obtain ⟨T13, X13, e13, st13⟩ := getF X5 hx hZ hown (host := "") (Or.inl (hw _ (List.mem_of_getElem? (i := 24) rfl))) Via.refl e5 F11 (g := (mkF m 12 #[.val (.ref a0), .val (.int p1)] [(.ref a0), (.ref a0)])) rfl rfl (hb hby d7_12)
  have pre14 : ∀ t, Steps p.tables e below (T13.setTop (mkF m 15 #[.val (.ref a0), .val (.int p1)] [(.int wb), (.ref a0)])) t → Steps p.tables e below (s₁.setTop (entryFrame m #[(.ref a0), (.int p1)] 2)) t := fun t kt => pre12 t (st13 _ kt)
  have pre15 : ∀ t, Steps p.tables e below (T13.setTop (mkF m 17 #[.val (.ref a0), .val (.int p1)] [(.int (wb - p1)), (.ref a0)])) t → Steps p.tables e below (s₁.setTop (entryFrame m #[(.ref a0), (.int p1)] 2)) t := fun t kt => pre14 t (by
    show Steps p.tables e below (T13.setTop (mkF m 15 #[.val (.ref a0), .val (.int p1)] [(.int wb), (.ref a0)])) _
    refine XS.iloadN X13.here hx rfl (hb hby d7_15) rfl ?_
    show Steps p.tables e below (T13.setTop (mkF m 16 #[.val (.ref a0), .val (.int p1)] [(.int p1), (.int wb), (.ref a0)])) _
    refine XS.isub X13.here hx rfl (hb hby d7_16) rfl ?_
    exact kt)
  obtain ⟨T16, h16, X16, e16, W16, st16⟩ := putF X13 hx hZ hown (host := "") (Or.inl (hw _ (List.mem_of_getElem? (i := 24) rfl))) Via.refl e13 F11 F7 (Or.inl (hw _ (List.mem_of_getElem? (i := 25) rfl))) (hw _ (List.mem_of_getElem? (i := 3) rfl)) (ty := .int) (by decide) rfl rfl (g := (mkF m 17 #[.val (.ref a0), .val (.int p1)] [(.int (wb - p1)), (.ref a0)])) rfl rfl (hb hby d7_17)
  have pre17 : ∀ t, Steps p.tables e below (T16.setTop (mkF m 20 #[.val (.ref a0), .val (.int p1)] [])) t → Steps p.tables e below (s₁.setTop (entryFrame m #[(.ref a0), (.int p1)] 2)) t := fun t kt => pre15 t (st16 _ kt)
  have Fw16 : Fld Z h16 a0 "com/example/tierfuse/tierfuse/format/BitReader" "windowBits" "I" (.int (wb - p1)) := F11.same W16
  have F18 : Exa Z h16 a0 "com/example/tierfuse/tierfuse/format/BitReader" := F7.wr W16
  have F19 : Fld Z h16 a0 "com/example/tierfuse/tierfuse/format/BitReader" "bytes" "[B" (.ref ab) := F8.other W16 (Or.inr (slot_ne (Or.inr (hw _ (List.mem_of_getElem? (i := 12) rfl))) (Or.inl (hw _ (List.mem_of_getElem? (i := 25) rfl))) (by decide) (t := (.array .byte)) (t' := .int) (by decide) (by decide)))
  have F20 : Fld Z h16 a0 "com/example/tierfuse/tierfuse/format/BitReader" "next" "I" (.int nx) := F9.other W16 (Or.inr (slot_ne (Or.inl (hw _ (List.mem_of_getElem? (i := 14) rfl))) (Or.inl (hw _ (List.mem_of_getElem? (i := 25) rfl))) (by decide) (t := .int) (t' := .int) (by decide) (by decide)))
  have F21 : Fld Z h16 a0 "com/example/tierfuse/tierfuse/format/BitReader" "end" "I" (.int en) := F10.other W16 (Or.inr (slot_ne (Or.inr (hw _ (List.mem_of_getElem? (i := 16) rfl))) (Or.inl (hw _ (List.mem_of_getElem? (i := 25) rfl))) (by decide) (t := .int) (t' := .int) (by decide) (by decide)))
  have F22 : Fld Z h16 a0 "com/example/tierfuse/tierfuse/format/BitReader" "window" "J" (.long (wi <<< (p1 &&& 0x3f).toInt64)) := Fw5.other W16 (Or.inr (slot_ne (Or.inl (hw _ (List.mem_of_getElem? (i := 40) rfl))) (Or.inl (hw _ (List.mem_of_getElem? (i := 25) rfl))) (by decide) (t := .long) (t' := .int) (by decide) (by decide)))
  have K16 : Keep h0 h16 [a0] := K5.wr W16 (Or.inl (List.mem_of_getElem? (i := 0) rfl))
  have N16 := Fr.snoc X16 N5 g_a0
  have Z16 : n0 ≤ h16.size := Nat.le_trans Z5 (Keep.of_wr W16).1
  obtain ⟨fs, hr, hrun, hended, hW, hsame⟩ := X16.leave (v := none) (fun _ => rfl)
  refine ⟨_, _, pre17 _ ?_, hrun, hended, _, _, rfl, ?_, ⟨_, rfl⟩, hW, hsame.mono (by decide) (by decide)⟩
  · show Steps p.tables e below (T16.setTop (mkF m 20 #[.val (.ref a0), .val (.int p1)] [])) _
    exact X16.returnOut hx Bd.returns (hb hby d7_20) hr
  · show Q7 Z a0 p1 ab nx en wi wb h0 n0 _ T16.heap _
    rw [e16]
    exact ⟨rfl, N16, K16, F18, F19, F20, F21, F22, Fw16⟩
theorem own_lt8 {nx en : Int32} (h : nx < en) (he : en.toInt ≤ 8) : nx < (8 : Int32) := by
  simp only [Int32.lt_iff_toInt_lt, Int32.reduceToInt] at *
  omega
theorem d6_0 : decode prog_42_method_7_code 0 = .ok (.aload_n 0, 1) := by decide +kernel
theorem d6_1 : decode prog_42_method_7_code 1 = .ok (.getfield 24, 3) := by decide +kernel
theorem d6_4 : decode prog_42_method_7_code 4 = .ok (.bipush 56, 2) := by decide +kernel
theorem d6_6 : decode prog_42_method_7_code 6 = .ok (.if_icmp .gt 75, 3) := by decide +kernel
theorem d6_9 : decode prog_42_method_7_code 9 = .ok (.aload_n 0, 1) := by decide +kernel
theorem d6_10 : decode prog_42_method_7_code 10 = .ok (.getfield 15, 3) := by decide +kernel
theorem d6_13 : decode prog_42_method_7_code 13 = .ok (.aload_n 0, 1) := by decide +kernel
theorem d6_14 : decode prog_42_method_7_code 14 = .ok (.getfield 19, 3) := by decide +kernel
theorem d6_17 : decode prog_42_method_7_code 17 = .ok (.if_icmp .ge 20, 3) := by decide +kernel
theorem d6_20 : decode prog_42_method_7_code 20 = .ok (.aload_n 0, 1) := by decide +kernel
theorem d6_21 : decode prog_42_method_7_code 21 = .ok (.getfield 9, 3) := by decide +kernel
theorem d6_24 : decode prog_42_method_7_code 24 = .ok (.aload_n 0, 1) := by decide +kernel
theorem d6_25 : decode prog_42_method_7_code 25 = .ok (.getfield 15, 3) := by decide +kernel
theorem d6_28 : decode prog_42_method_7_code 28 = .ok (.baload, 1) := by decide +kernel
theorem d6_29 : decode prog_42_method_7_code 29 = .ok (.sipush 255, 3) := by decide +kernel
theorem d6_32 : decode prog_42_method_7_code 32 = .ok (.iand, 1) := by decide +kernel
theorem d6_33 : decode prog_42_method_7_code 33 = .ok (.i2l, 1) := by decide +kernel
theorem d6_34 : decode prog_42_method_7_code 34 = .ok (.goto 4, 3) := by decide +kernel
theorem os6_38 {y0 : Value} {s1 : Slot} {s2 : Slot} {v : Int64} (h : own_Two s1 s2) : storeLocals #[.val y0, s1, s2] 1 (.long v) = some #[.val y0, .val (.long v), .second] := by
  rcases h with ⟨rfl, rfl⟩ | ⟨w, rfl, rfl⟩ <;> rfl
theorem d6_38 : decode prog_42_method_7_code 38 = .ok (.lstore_n 1, 1) := by decide +kernel
theorem d6_39 : decode prog_42_method_7_code 39 = .ok (.aload_n 0, 1) := by decide +kernel
theorem d6_40 : decode prog_42_method_7_code 40 = .ok (.dup, 1) := by decide +kernel
theorem d6_41 : decode prog_42_method_7_code 41 = .ok (.getfield 34, 3) := by decide +kernel
theorem d6_44 : decode prog_42_method_7_code 44 = .ok (.lload_n 1, 1) := by decide +kernel
theorem d6_45 : decode prog_42_method_7_code 45 = .ok (.bipush 56, 2) := by decide +kernel
theorem d6_47 : decode prog_42_method_7_code 47 = .ok (.aload_n 0, 1) := by decide +kernel
theorem d6_48 : decode prog_42_method_7_code 48 = .ok (.getfield 24, 3) := by decide +kernel
theorem d6_51 : decode prog_42_method_7_code 51 = .ok (.isub, 1) := by decide +kernel
theorem d6_52 : decode prog_42_method_7_code 52 = .ok (.lshl, 1) := by decide +kernel
theorem d6_53 : decode prog_42_method_7_code 53 = .ok (.lor, 1) := by decide +kernel
theorem d6_54 : decode prog_42_method_7_code 54 = .ok (.putfield 34, 3) := by decide +kernel
theorem d6_57 : decode prog_42_method_7_code 57 = .ok (.aload_n 0, 1) := by decide +kernel
theorem d6_58 : decode prog_42_method_7_code 58 = .ok (.dup, 1) := by decide +kernel
theorem d6_59 : decode prog_42_method_7_code 59 = .ok (.getfield 24, 3) := by decide +kernel
theorem d6_62 : decode prog_42_method_7_code 62 = .ok (.bipush 8, 2) := by decide +kernel
theorem d6_64 : decode prog_42_method_7_code 64 = .ok (.iadd, 1) := by decide +kernel
theorem d6_65 : decode prog_42_method_7_code 65 = .ok (.putfield 24, 3) := by decide +kernel
theorem d6_68 : decode prog_42_method_7_code 68 = .ok (.aload_n 0, 1) := by decide +kernel
theorem d6_69 : decode prog_42_method_7_code 69 = .ok (.dup, 1) := by decide +kernel
theorem d6_70 : decode prog_42_method_7_code 70 = .ok (.getfield 15, 3) := by decide +kernel
theorem d6_73 : decode prog_42_method_7_code 73 = .ok (.iconst 1, 1) := by decide +kernel
theorem d6_74 : decode prog_42_method_7_code 74 = .ok (.iadd, 1) := by decide +kernel
theorem d6_75 : decode prog_42_method_7_code 75 = .ok (.putfield 15, 3) := by decide +kernel
theorem d6_78 : decode prog_42_method_7_code 78 = .ok (.goto (-78), 3) := by decide +kernel
theorem d6_37 : decode prog_42_method_7_code 37 = .ok (.lconst 0, 1) := by decide +kernel
set_option maxRecDepth 65536 in
set_option maxHeartbeats 40000000 in
theorem own_turn {p : Program} {l : Launch} {e : Env} {R : Room} {s : State} {m : MethodId} {args : Array Value} {below : List Frame} {meth : Method} {c : Code} {T0 : State} {locs : List Loc} {cells slots : Nat} {Z : State} {av : Array Value} {h0 : Heap} {n0 : Nat} (a0 : Addr) (s1 : Slot) (s2 : Slot) (ab : Addr) (nx : Int32) (en : Int32) (wi : Int64) (wb : Int32)
    (X0 : Stand p l e R s m args below meth c T0 locs cells slots) (hx : p.tables.exec = Jvm.exec) (hZ : Z.Warmed39 s.vm) (hw : ∀ d ∈ tables_1, d.before av Z = true) (hby : c.code = prog_42_method_7_code) (hml : c.maxLocals = 3) (hown : s.vm.findClass "com/example/tierfuse/tierfuse/format/BitReader" = some m.cls) (e0 : T0.heap = h0) (N0 : Fr n0 locs) (Z0 : n0 ≤ h0.size) (E_a0 : Exa Z h0 a0 "com/example/tierfuse/tierfuse/format/BitReader") (g_a0 : n0 ≤ a0) (I_bytes : Fld Z h0 a0 "com/example/tierfuse/tierfuse/format/BitReader" "bytes" "[B" (.ref ab)) (I_next : Fld Z h0 a0 "com/example/tierfuse/tierfuse/format/BitReader" "next" "I" (.int nx)) (I_end : Fld Z h0 a0 "com/example/tierfuse/tierfuse/format/BitReader" "end" "I" (.int en)) (I_window : Fld Z h0 a0 "com/example/tierfuse/tierfuse/format/BitReader" "window" "J" (.long wi)) (I_windowBits : Fld Z h0 a0 "com/example/tierfuse/tierfuse/format/BitReader" "windowBits" "I" (.int wb)) (A0 : own_A Z h0 ab) (ne0 : a0 ≠ ab) (hs1 : own_Two s1 s2) (hwb : ¬ ((56 : Int32) < wb)) (hnx : ¬ nx < 0) (hen : en.toInt ≤ 8) :
    ∃ (T' : State) (h' : Heap) (locs' : List Loc) (x1 : Int64) (wi' : Int64), Stand p l e R s m args below meth c T' locs' cells slots ∧ T'.heap = h' ∧ Fr n0 locs' ∧ Keep h0 h' [a0] ∧ Exa Z h' a0 "com/example/tierfuse/tierfuse/format/BitReader" ∧ Fld Z h' a0 "com/example/tierfuse/tierfuse/format/BitReader" "bytes" "[B" (.ref ab) ∧ Fld Z h' a0 "com/example/tierfuse/tierfuse/format/BitReader" "next" "I" (.int (nx + (1 : Int32))) ∧ Fld Z h' a0 "com/example/tierfuse/tierfuse/format/BitReader" "end" "I" (.int en) ∧ Fld Z h' a0 "com/example/tierfuse/tierfuse/format/BitReader" "window" "J" (.long wi') ∧ Fld Z h' a0 "com/example/tierfuse/tierfuse/format/BitReader" "windowBits" "I" (.int (wb + (8 : Int32))) ∧ ∀ target, Steps p.tables e below (T'.setTop (mkF m 0 #[.val (.ref a0), .val (.long x1), .second] [])) target → Steps p.tables e below (T0.setTop (mkF m 0 #[.val (.ref a0), s1, s2] [])) target := by
  have K0 : Keep h0 h0 [a0] := Keep.refl h0 [a0]
  have pre0 : ∀ t, Steps p.tables e below (T0.setTop (mkF m 0 #[.val (.ref a0), s1, s2] [])) t → Steps p.tables e below (T0.setTop (mkF m 0 #[.val (.ref a0), s1, s2] [])) t := fun t k => k
  have pre1 : ∀ t, Steps p.tables e below (T0.setTop (mkF m 1 #[.val (.ref a0), s1, s2] [(.ref a0)])) t → Steps p.tables e below (T0.setTop (mkF m 0 #[.val (.ref a0), s1, s2] [])) t := fun t kt => pre0 t (by
    show Steps p.tables e below (T0.setTop (mkF m 0 #[.val (.ref a0), s1, s2] [])) _
    refine XS.aloadN X0.here hx rfl (hb hby d6_0) rfl rfl ?_
    exact kt)
  obtain ⟨T2, X2, e2, st2⟩ := getF X0 hx hZ hown (host := "") (Or.inl (hw _ (List.mem_of_getElem? (i := 24) rfl))) Via.refl e0 I_windowBits (g := (mkF m 1 #[.val (.ref a0), s1, s2] [(.ref a0)])) rfl rfl (hb hby d6_1)
  have pre3 : ∀ t, Steps p.tables e below (T2.setTop (mkF m 4 #[.val (.ref a0), s1, s2] [(.int wb)])) t → Steps p.tables e below (T0.setTop (mkF m 0 #[.val (.ref a0), s1, s2] [])) t := fun t kt => pre1 t (st2 _ kt)
  have pre4 : ∀ t, Steps p.tables e below (T2.setTop (mkF m 10 #[.val (.ref a0), s1, s2] [(.ref a0)])) t → Steps p.tables e below (T0.setTop (mkF m 0 #[.val (.ref a0), s1, s2] [])) t := fun t kt => pre3 t (by
    show Steps p.tables e below (T2.setTop (mkF m 4 #[.val (.ref a0), s1, s2] [(.int wb)])) _
    refine XS.bipush X2.here hx rfl (hb hby d6_4) ?_
    show Steps p.tables e below (T2.setTop (mkF m 6 #[.val (.ref a0), s1, s2] [(.int (56 : Int32)), (.int wb)])) _
    refine XS.icmpNo X2.here hx rfl (hb hby d6_6) rfl (flt hwb).2.2.1 ?_
    show Steps p.tables e below (T2.setTop (mkF m 9 #[.val (.ref a0), s1, s2] [])) _
    refine XS.aloadN X2.here hx rfl (hb hby d6_9) rfl rfl ?_
    exact kt)
  obtain ⟨T5, X5, e5, st5⟩ := getF X2 hx hZ hown (host := "") (Or.inl (hw _ (List.mem_of_getElem? (i := 13) rfl))) Via.refl e2 I_next (g := (mkF m 10 #[.val (.ref a0), s1, s2] [(.ref a0)])) rfl rfl (hb hby d6_10)
  have pre6 : ∀ t, Steps p.tables e below (T5.setTop (mkF m 13 #[.val (.ref a0), s1, s2] [(.int nx)])) t → Steps p.tables e below (T0.setTop (mkF m 0 #[.val (.ref a0), s1, s2] [])) t := fun t kt => pre4 t (st5 _ kt)
  have pre7 : ∀ t, Steps p.tables e below (T5.setTop (mkF m 14 #[.val (.ref a0), s1, s2] [(.ref a0), (.int nx)])) t → Steps p.tables e below (T0.setTop (mkF m 0 #[.val (.ref a0), s1, s2] [])) t := fun t kt => pre6 t (by
    show Steps p.tables e below (T5.setTop (mkF m 13 #[.val (.ref a0), s1, s2] [(.int nx)])) _
    refine XS.aloadN X5.here hx rfl (hb hby d6_13) rfl rfl ?_
    exact kt)
  obtain ⟨T8, X8, e8, st8⟩ := getF X5 hx hZ hown (host := "") (Or.inl (hw _ (List.mem_of_getElem? (i := 15) rfl))) Via.refl e5 I_end (g := (mkF m 14 #[.val (.ref a0), s1, s2] [(.ref a0), (.int nx)])) rfl rfl (hb hby d6_14)
  have pre9 : ∀ t, Steps p.tables e below (T8.setTop (mkF m 17 #[.val (.ref a0), s1, s2] [(.int en), (.int nx)])) t → Steps p.tables e below (T0.setTop (mkF m 0 #[.val (.ref a0), s1, s2] [])) t := fun t kt => pre7 t (st8 _ kt)
  by_cases hc17_10 : nx < en
  · have pre11 : ∀ t, Steps p.tables e below (T8.setTop (mkF m 21 #[.val (.ref a0), s1, s2] [(.ref a0)])) t → Steps p.tables e below (T0.setTop (mkF m 0 #[.val (.ref a0), s1, s2] [])) t := fun t kt => pre9 t (by
      show Steps p.tables e below (T8.setTop (mkF m 17 #[.val (.ref a0), s1, s2] [(.int en), (.int nx)])) _
      refine XS.icmpNo X8.here hx rfl (hb hby d6_17) rfl (tlt hc17_10).2.1 ?_
      show Steps p.tables e below (T8.setTop (mkF m 20 #[.val (.ref a0), s1, s2] [])) _
      refine XS.aloadN X8.here hx rfl (hb hby d6_20) rfl rfl ?_
      exact kt)
    obtain ⟨T12, X12, e12, st12⟩ := getF X8 hx hZ hown (host := "") (Or.inl (hw _ (List.mem_of_getElem? (i := 11) rfl))) Via.refl e8 I_bytes (g := (mkF m 21 #[.val (.ref a0), s1, s2] [(.ref a0)])) rfl rfl (hb hby d6_21)
    have pre13 : ∀ t, Steps p.tables e below (T12.setTop (mkF m 24 #[.val (.ref a0), s1, s2] [(.ref ab)])) t → Steps p.tables e below (T0.setTop (mkF m 0 #[.val (.ref a0), s1, s2] [])) t := fun t kt => pre11 t (st12 _ kt)
    have pre14 : ∀ t, Steps p.tables e below (T12.setTop (mkF m 25 #[.val (.ref a0), s1, s2] [(.ref a0), (.ref ab)])) t → Steps p.tables e below (T0.setTop (mkF m 0 #[.val (.ref a0), s1, s2] [])) t := fun t kt => pre13 t (by
      show Steps p.tables e below (T12.setTop (mkF m 24 #[.val (.ref a0), s1, s2] [(.ref ab)])) _
      refine XS.aloadN X12.here hx rfl (hb hby d6_24) rfl rfl ?_
      exact kt)
    obtain ⟨T15, X15, e15, st15⟩ := getF X12 hx hZ hown (host := "") (Or.inl (hw _ (List.mem_of_getElem? (i := 13) rfl))) Via.refl e12 I_next (g := (mkF m 25 #[.val (.ref a0), s1, s2] [(.ref a0), (.ref ab)])) rfl rfl (hb hby d6_25)
    have pre16 : ∀ t, Steps p.tables e below (T15.setTop (mkF m 28 #[.val (.ref a0), s1, s2] [(.int nx), (.ref ab)])) t → Steps p.tables e below (T0.setTop (mkF m 0 #[.val (.ref a0), s1, s2] [])) t := fun t kt => pre14 t (st15 _ kt)
    obtain ⟨cl17, w17, Ar17, hin17, hat17⟩ := own_elem A0 nx ⟨hnx, own_lt8 hc17_10 hen⟩
    have pre18 : ∀ t, Steps p.tables e below (T15.setTop (mkF m 41 #[.val (.ref a0), .val (.long ((w17 &&& (255 : Int32)).toInt64)), .second] [(.ref a0), (.ref a0)])) t → Steps p.tables e below (T0.setTop (mkF m 0 #[.val (.ref a0), s1, s2] [])) t := fun t kt => pre16 t (by
      show Steps p.tables e below (T15.setTop (mkF m 28 #[.val (.ref a0), s1, s2] [(.int nx), (.ref ab)])) _
      refine X15.baloadBytes hx (j := nx) (v := (.int w17)) (by rw [e15]; exact Ar17.1) (State.isArrayOf_alike hZ.alike Ar17.2.1) Ar17.2.2 hin17 hat17 (g := (mkF m 28 #[.val (.ref a0), s1, s2] [(.int nx), (.ref ab)])) rfl rfl (hb hby d6_28) _ ?_
      show Steps p.tables e below (T15.setTop (mkF m 29 #[.val (.ref a0), s1, s2] [(.int w17)])) _
      refine XS.sipush X15.here hx rfl (hb hby d6_29) ?_
      show Steps p.tables e below (T15.setTop (mkF m 32 #[.val (.ref a0), s1, s2] [(.int (255 : Int32)), (.int w17)])) _
      refine XS.iand X15.here hx rfl (hb hby d6_32) rfl ?_
      show Steps p.tables e below (T15.setTop (mkF m 33 #[.val (.ref a0), s1, s2] [(.int (w17 &&& (255 : Int32)))])) _
      refine XS.i2l X15.here hx rfl (hb hby d6_33) rfl ?_
      show Steps p.tables e below (T15.setTop (mkF m 34 #[.val (.ref a0), s1, s2] [(.long ((w17 &&& (255 : Int32)).toInt64))])) _
      refine XS.goto X15.here hx rfl (pc0 := 34) (pc' := 38) rfl (hb hby d6_34) (by decide) (by decide) ?_
      show Steps p.tables e below (T15.setTop (mkF m 38 #[.val (.ref a0), s1, s2] [(.long ((w17 &&& (255 : Int32)).toInt64))])) _
      refine XS.lstoreN X15.here hx rfl (hb hby d6_38) rfl (l' := #[.val (.ref a0), .val (.long ((w17 &&& (255 : Int32)).toInt64)), .second]) (os6_38 hs1) ?_
      show Steps p.tables e below (T15.setTop (mkF m 39 #[.val (.ref a0), .val (.long ((w17 &&& (255 : Int32)).toInt64)), .second] [])) _
      refine XS.aloadN X15.here hx rfl (hb hby d6_39) rfl rfl ?_
      show Steps p.tables e below (T15.setTop (mkF m 40 #[.val (.ref a0), .val (.long ((w17 &&& (255 : Int32)).toInt64)), .second] [(.ref a0)])) _
      refine XS.dup X15.here hx rfl (hb hby d6_40) rfl rfl ?_
      exact kt)
    obtain ⟨T19, X19, e19, st19⟩ := getF X15 hx hZ hown (host := "") (Or.inl (hw _ (List.mem_of_getElem? (i := 39) rfl))) Via.refl e15 I_window (g := (mkF m 41 #[.val (.ref a0), .val (.long ((w17 &&& (255 : Int32)).toInt64)), .second] [(.ref a0), (.ref a0)])) rfl rfl (hb hby d6_41)
    have pre20 : ∀ t, Steps p.tables e below (T19.setTop (mkF m 44 #[.val (.ref a0), .val (.long ((w17 &&& (255 : Int32)).toInt64)), .second] [(.long wi), (.ref a0)])) t → Steps p.tables e below (T0.setTop (mkF m 0 #[.val (.ref a0), s1, s2] [])) t := fun t kt => pre18 t (st19 _ kt)
    have pre21 : ∀ t, Steps p.tables e below (T19.setTop (mkF m 48 #[.val (.ref a0), .val (.long ((w17 &&& (255 : Int32)).toInt64)), .second] [(.ref a0), (.int (56 : Int32)), (.long ((w17 &&& (255 : Int32)).toInt64)), (.long wi), (.ref a0)])) t → Steps p.tables e below (T0.setTop (mkF m 0 #[.val (.ref a0), s1, s2] [])) t := fun t kt => pre20 t (by
      show Steps p.tables e below (T19.setTop (mkF m 44 #[.val (.ref a0), .val (.long ((w17 &&& (255 : Int32)).toInt64)), .second] [(.long wi), (.ref a0)])) _
      refine XS.lloadN X19.here hx rfl (hb hby d6_44) rfl ?_
      show Steps p.tables e below (T19.setTop (mkF m 45 #[.val (.ref a0), .val (.long ((w17 &&& (255 : Int32)).toInt64)), .second] [(.long ((w17 &&& (255 : Int32)).toInt64)), (.long wi), (.ref a0)])) _
      refine XS.bipush X19.here hx rfl (hb hby d6_45) ?_
      show Steps p.tables e below (T19.setTop (mkF m 47 #[.val (.ref a0), .val (.long ((w17 &&& (255 : Int32)).toInt64)), .second] [(.int (56 : Int32)), (.long ((w17 &&& (255 : Int32)).toInt64)), (.long wi), (.ref a0)])) _
      refine XS.aloadN X19.here hx rfl (hb hby d6_47) rfl rfl ?_
      exact kt)
    obtain ⟨T22, X22, e22, st22⟩ := getF X19 hx hZ hown (host := "") (Or.inl (hw _ (List.mem_of_getElem? (i := 24) rfl))) Via.refl e19 I_windowBits (g := (mkF m 48 #[.val (.ref a0), .val (.long ((w17 &&& (255 : Int32)).toInt64)), .second] [(.ref a0), (.int (56 : Int32)), (.long ((w17 &&& (255 : Int32)).toInt64)), (.long wi), (.ref a0)])) rfl rfl (hb hby d6_48)
    have pre23 : ∀ t, Steps p.tables e below (T22.setTop (mkF m 51 #[.val (.ref a0), .val (.long ((w17 &&& (255 : Int32)).toInt64)), .second] [(.int wb), (.int (56 : Int32)), (.long ((w17 &&& (255 : Int32)).toInt64)), (.long wi), (.ref a0)])) t → Steps p.tables e below (T0.setTop (mkF m 0 #[.val (.ref a0), s1, s2] [])) t := fun t kt => pre21 t (st22 _ kt)
    have pre24 : ∀ t, Steps p.tables e below (T22.setTop (mkF m 54 #[.val (.ref a0), .val (.long ((w17 &&& (255 : Int32)).toInt64)), .second] [(.long (wi ||| (((w17 &&& (255 : Int32)).toInt64) <<< (((56 : Int32) - wb) &&& 0x3f).toInt64))), (.ref a0)])) t → Steps p.tables e below (T0.setTop (mkF m 0 #[.val (.ref a0), s1, s2] [])) t := fun t kt => pre23 t (by
      show Steps p.tables e below (T22.setTop (mkF m 51 #[.val (.ref a0), .val (.long ((w17 &&& (255 : Int32)).toInt64)), .second] [(.int wb), (.int (56 : Int32)), (.long ((w17 &&& (255 : Int32)).toInt64)), (.long wi), (.ref a0)])) _
      refine XS.isub X22.here hx rfl (hb hby d6_51) rfl ?_
      show Steps p.tables e below (T22.setTop (mkF m 52 #[.val (.ref a0), .val (.long ((w17 &&& (255 : Int32)).toInt64)), .second] [(.int ((56 : Int32) - wb)), (.long ((w17 &&& (255 : Int32)).toInt64)), (.long wi), (.ref a0)])) _
      refine XS.lshl X22.here hx rfl (hb hby d6_52) rfl ?_
      show Steps p.tables e below (T22.setTop (mkF m 53 #[.val (.ref a0), .val (.long ((w17 &&& (255 : Int32)).toInt64)), .second] [(.long (((w17 &&& (255 : Int32)).toInt64) <<< (((56 : Int32) - wb) &&& 0x3f).toInt64)), (.long wi), (.ref a0)])) _
      refine XS.lor X22.here hx rfl (hb hby d6_53) rfl ?_
      exact kt)
    obtain ⟨T25, h25, X25, e25, W25, st25⟩ := putF X22 hx hZ hown (host := "") (Or.inl (hw _ (List.mem_of_getElem? (i := 39) rfl))) Via.refl e22 I_window E_a0 (Or.inl (hw _ (List.mem_of_getElem? (i := 40) rfl))) (hw _ (List.mem_of_getElem? (i := 3) rfl)) (ty := .long) (by decide) rfl rfl (g := (mkF m 54 #[.val (.ref a0), .val (.long ((w17 &&& (255 : Int32)).toInt64)), .second] [(.long (wi ||| (((w17 &&& (255 : Int32)).toInt64) <<< (((56 : Int32) - wb) &&& 0x3f).toInt64))), (.ref a0)])) rfl rfl (hb hby d6_54)
    have pre26 : ∀ t, Steps p.tables e below (T25.setTop (mkF m 57 #[.val (.ref a0), .val (.long ((w17 &&& (255 : Int32)).toInt64)), .second] [])) t → Steps p.tables e below (T0.setTop (mkF m 0 #[.val (.ref a0), s1, s2] [])) t := fun t kt => pre24 t (st25 _ kt)
    have Fw25 : Fld Z h25 a0 "com/example/tierfuse/tierfuse/format/BitReader" "window" "J" (.long (wi ||| (((w17 &&& (255 : Int32)).toInt64) <<< (((56 : Int32) - wb) &&& 0x3f).toInt64))) := I_window.same W25
    have F27 : Exa Z h25 a0 "com/example/tierfuse/tierfuse/format/BitReader" := E_a0.wr W25
    have F28 : Fld Z h25 a0 "com/example/tierfuse/tierfuse/format/BitReader" "bytes" "[B" (.ref ab) := I_bytes.other W25 (Or.inr (slot_ne (Or.inr (hw _ (List.mem_of_getElem? (i := 12) rfl))) (Or.inl (hw _ (List.mem_of_getElem? (i := 40) rfl))) (by decide) (t := (.array .byte)) (t' := .long) (by decide) (by decide)))
    have F29 : Fld Z h25 a0 "com/example/tierfuse/tierfuse/format/BitReader" "next" "I" (.int nx) := I_next.other W25 (Or.inr (slot_ne (Or.inl (hw _ (List.mem_of_getElem? (i := 14) rfl))) (Or.inl (hw _ (List.mem_of_getElem? (i := 40) rfl))) (by decide) (t := .int) (t' := .long) (by decide) (by decide)))
    have F30 : Fld Z h25 a0 "com/example/tierfuse/tierfuse/format/BitReader" "end" "I" (.int en) := I_end.other W25 (Or.inr (slot_ne (Or.inr (hw _ (List.mem_of_getElem? (i := 16) rfl))) (Or.inl (hw _ (List.mem_of_getElem? (i := 40) rfl))) (by decide) (t := .int) (t' := .long) (by decide) (by decide)))
    have F31 : Fld Z h25 a0 "com/example/tierfuse/tierfuse/format/BitReader" "windowBits" "I" (.int wb) := I_windowBits.other W25 (Or.inr (slot_ne (Or.inl (hw _ (List.mem_of_getElem? (i := 25) rfl))) (Or.inl (hw _ (List.mem_of_getElem? (i := 40) rfl))) (by decide) (t := .int) (t' := .long) (by decide) (by decide)))
    have F32 : own_A Z h25 ab := A0.other W25 (Ne.symm ne0)
    have K25 : Keep h0 h25 [a0] := K0.wr W25 (Or.inl (List.mem_of_getElem? (i := 0) rfl))
    have N25 := Fr.snoc X25 N0 g_a0
    have Z25 : n0 ≤ h25.size := Nat.le_trans Z0 (Keep.of_wr W25).1
    have pre33 : ∀ t, Steps p.tables e below (T25.setTop (mkF m 59 #[.val (.ref a0), .val (.long ((w17 &&& (255 : Int32)).toInt64)), .second] [(.ref a0), (.ref a0)])) t → Steps p.tables e below (T0.setTop (mkF m 0 #[.val (.ref a0), s1, s2] [])) t := fun t kt => pre26 t (by
      show Steps p.tables e below (T25.setTop (mkF m 57 #[.val (.ref a0), .val (.long ((w17 &&& (255 : Int32)).toInt64)), .second] [])) _
      refine XS.aloadN X25.here hx rfl (hb hby d6_57) rfl rfl ?_
      show Steps p.tables e below (T25.setTop (mkF m 58 #[.val (.ref a0), .val (.long ((w17 &&& (255 : Int32)).toInt64)), .second] [(.ref a0)])) _
      refine XS.dup X25.here hx rfl (hb hby d6_58) rfl rfl ?_
      exact kt)
    obtain ⟨T34, X34, e34, st34⟩ := getF X25 hx hZ hown (host := "") (Or.inl (hw _ (List.mem_of_getElem? (i := 24) rfl))) Via.refl e25 F31 (g := (mkF m 59 #[.val (.ref a0), .val (.long ((w17 &&& (255 : Int32)).toInt64)), .second] [(.ref a0), (.ref a0)])) rfl rfl (hb hby d6_59)
    have pre35 : ∀ t, Steps p.tables e below (T34.setTop (mkF m 62 #[.val (.ref a0), .val (.long ((w17 &&& (255 : Int32)).toInt64)), .second] [(.int wb), (.ref a0)])) t → Steps p.tables e below (T0.setTop (mkF m 0 #[.val (.ref a0), s1, s2] [])) t := fun t kt => pre33 t (st34 _ kt)
    have pre36 : ∀ t, Steps p.tables e below (T34.setTop (mkF m 65 #[.val (.ref a0), .val (.long ((w17 &&& (255 : Int32)).toInt64)), .second] [(.int (wb + (8 : Int32))), (.ref a0)])) t → Steps p.tables e below (T0.setTop (mkF m 0 #[.val (.ref a0), s1, s2] [])) t := fun t kt => pre35 t (by
      show Steps p.tables e below (T34.setTop (mkF m 62 #[.val (.ref a0), .val (.long ((w17 &&& (255 : Int32)).toInt64)), .second] [(.int wb), (.ref a0)])) _
      refine XS.bipush X34.here hx rfl (hb hby d6_62) ?_
      show Steps p.tables e below (T34.setTop (mkF m 64 #[.val (.ref a0), .val (.long ((w17 &&& (255 : Int32)).toInt64)), .second] [(.int (8 : Int32)), (.int wb), (.ref a0)])) _
      refine XS.iadd X34.here hx rfl (hb hby d6_64) rfl ?_
      exact kt)
    obtain ⟨T37, h37, X37, e37, W37, st37⟩ := putF X34 hx hZ hown (host := "") (Or.inl (hw _ (List.mem_of_getElem? (i := 24) rfl))) Via.refl e34 F31 F27 (Or.inl (hw _ (List.mem_of_getElem? (i := 25) rfl))) (hw _ (List.mem_of_getElem? (i := 3) rfl)) (ty := .int) (by decide) rfl rfl (g := (mkF m 65 #[.val (.ref a0), .val (.long ((w17 &&& (255 : Int32)).toInt64)), .second] [(.int (wb + (8 : Int32))), (.ref a0)])) rfl rfl (hb hby d6_65)
    have pre38 : ∀ t, Steps p.tables e below (T37.setTop (mkF m 68 #[.val (.ref a0), .val (.long ((w17 &&& (255 : Int32)).toInt64)), .second] [])) t → Steps p.tables e below (T0.setTop (mkF m 0 #[.val (.ref a0), s1, s2] [])) t := fun t kt => pre36 t (st37 _ kt)
    have Fw37 : Fld Z h37 a0 "com/example/tierfuse/tierfuse/format/BitReader" "windowBits" "I" (.int (wb + (8 : Int32))) := F31.same W37
    have F39 : Exa Z h37 a0 "com/example/tierfuse/tierfuse/format/BitReader" := F27.wr W37
    have F40 : Fld Z h37 a0 "com/example/tierfuse/tierfuse/format/BitReader" "bytes" "[B" (.ref ab) := F28.other W37 (Or.inr (slot_ne (Or.inr (hw _ (List.mem_of_getElem? (i := 12) rfl))) (Or.inl (hw _ (List.mem_of_getElem? (i := 25) rfl))) (by decide) (t := (.array .byte)) (t' := .int) (by decide) (by decide)))
    have F41 : Fld Z h37 a0 "com/example/tierfuse/tierfuse/format/BitReader" "next" "I" (.int nx) := F29.other W37 (Or.inr (slot_ne (Or.inl (hw _ (List.mem_of_getElem? (i := 14) rfl))) (Or.inl (hw _ (List.mem_of_getElem? (i := 25) rfl))) (by decide) (t := .int) (t' := .int) (by decide) (by decide)))
    have F42 : Fld Z h37 a0 "com/example/tierfuse/tierfuse/format/BitReader" "end" "I" (.int en) := F30.other W37 (Or.inr (slot_ne (Or.inr (hw _ (List.mem_of_getElem? (i := 16) rfl))) (Or.inl (hw _ (List.mem_of_getElem? (i := 25) rfl))) (by decide) (t := .int) (t' := .int) (by decide) (by decide)))
    have F43 : own_A Z h37 ab := F32.other W37 (Ne.symm ne0)
    have F44 : Fld Z h37 a0 "com/example/tierfuse/tierfuse/format/BitReader" "window" "J" (.long (wi ||| (((w17 &&& (255 : Int32)).toInt64) <<< (((56 : Int32) - wb) &&& 0x3f).toInt64))) := Fw25.other W37 (Or.inr (slot_ne (Or.inl (hw _ (List.mem_of_getElem? (i := 40) rfl))) (Or.inl (hw _ (List.mem_of_getElem? (i := 25) rfl))) (by decide) (t := .long) (t' := .int) (by decide) (by decide)))
    have K37 : Keep h0 h37 [a0] := K25.wr W37 (Or.inl (List.mem_of_getElem? (i := 0) rfl))
    have N37 := Fr.snoc X37 N25 g_a0
    have Z37 : n0 ≤ h37.size := Nat.le_trans Z25 (Keep.of_wr W37).1
    have pre45 : ∀ t, Steps p.tables e below (T37.setTop (mkF m 70 #[.val (.ref a0), .val (.long ((w17 &&& (255 : Int32)).toInt64)), .second] [(.ref a0), (.ref a0)])) t → Steps p.tables e below (T0.setTop (mkF m 0 #[.val (.ref a0), s1, s2] [])) t := fun t kt => pre38 t (by
      show Steps p.tables e below (T37.setTop (mkF m 68 #[.val (.ref a0), .val (.long ((w17 &&& (255 : Int32)).toInt64)), .second] [])) _
      refine XS.aloadN X37.here hx rfl (hb hby d6_68) rfl rfl ?_
      show Steps p.tables e below (T37.setTop (mkF m 69 #[.val (.ref a0), .val (.long ((w17 &&& (255 : Int32)).toInt64)), .second] [(.ref a0)])) _
      refine XS.dup X37.here hx rfl (hb hby d6_69) rfl rfl ?_
      exact kt)
    obtain ⟨T46, X46, e46, st46⟩ := getF X37 hx hZ hown (host := "") (Or.inl (hw _ (List.mem_of_getElem? (i := 13) rfl))) Via.refl e37 F41 (g := (mkF m 70 #[.val (.ref a0), .val (.long ((w17 &&& (255 : Int32)).toInt64)), .second] [(.ref a0), (.ref a0)])) rfl rfl (hb hby d6_70)
    have pre47 : ∀ t, Steps p.tables e below (T46.setTop (mkF m 73 #[.val (.ref a0), .val (.long ((w17 &&& (255 : Int32)).toInt64)), .second] [(.int nx), (.ref a0)])) t → Steps p.tables e below (T0.setTop (mkF m 0 #[.val (.ref a0), s1, s2] [])) t := fun t kt => pre45 t (st46 _ kt)
    have pre48 : ∀ t, Steps p.tables e below (T46.setTop (mkF m 75 #[.val (.ref a0), .val (.long ((w17 &&& (255 : Int32)).toInt64)), .second] [(.int (nx + (1 : Int32))), (.ref a0)])) t → Steps p.tables e below (T0.setTop (mkF m 0 #[.val (.ref a0), s1, s2] [])) t := fun t kt => pre47 t (by
      show Steps p.tables e below (T46.setTop (mkF m 73 #[.val (.ref a0), .val (.long ((w17 &&& (255 : Int32)).toInt64)), .second] [(.int nx), (.ref a0)])) _
      refine XS.iconst X46.here hx rfl (hb hby d6_73) ?_
      show Steps p.tables e below (T46.setTop (mkF m 74 #[.val (.ref a0), .val (.long ((w17 &&& (255 : Int32)).toInt64)), .second] [(.int (1 : Int32)), (.int nx), (.ref a0)])) _
      refine XS.iadd X46.here hx rfl (hb hby d6_74) rfl ?_
      exact kt)
    obtain ⟨T49, h49, X49, e49, W49, st49⟩ := putF X46 hx hZ hown (host := "") (Or.inl (hw _ (List.mem_of_getElem? (i := 13) rfl))) Via.refl e46 F41 F39 (Or.inl (hw _ (List.mem_of_getElem? (i := 14) rfl))) (hw _ (List.mem_of_getElem? (i := 3) rfl)) (ty := .int) (by decide) rfl rfl (g := (mkF m 75 #[.val (.ref a0), .val (.long ((w17 &&& (255 : Int32)).toInt64)), .second] [(.int (nx + (1 : Int32))), (.ref a0)])) rfl rfl (hb hby d6_75)
    have pre50 : ∀ t, Steps p.tables e below (T49.setTop (mkF m 78 #[.val (.ref a0), .val (.long ((w17 &&& (255 : Int32)).toInt64)), .second] [])) t → Steps p.tables e below (T0.setTop (mkF m 0 #[.val (.ref a0), s1, s2] [])) t := fun t kt => pre48 t (st49 _ kt)
    have Fw49 : Fld Z h49 a0 "com/example/tierfuse/tierfuse/format/BitReader" "next" "I" (.int (nx + (1 : Int32))) := F41.same W49
    have F51 : Exa Z h49 a0 "com/example/tierfuse/tierfuse/format/BitReader" := F39.wr W49
    have F52 : Fld Z h49 a0 "com/example/tierfuse/tierfuse/format/BitReader" "bytes" "[B" (.ref ab) := F40.other W49 (Or.inr (slot_ne (Or.inr (hw _ (List.mem_of_getElem? (i := 12) rfl))) (Or.inl (hw _ (List.mem_of_getElem? (i := 14) rfl))) (by decide) (t := (.array .byte)) (t' := .int) (by decide) (by decide)))
    have F53 : Fld Z h49 a0 "com/example/tierfuse/tierfuse/format/BitReader" "end" "I" (.int en) := F42.other W49 (Or.inr (slot_ne (Or.inr (hw _ (List.mem_of_getElem? (i := 16) rfl))) (Or.inl (hw _ (List.mem_of_getElem? (i := 14) rfl))) (by decide) (t := .int) (t' := .int) (by decide) (by decide)))
    have F54 : own_A Z h49 ab := F43.other W49 (Ne.symm ne0)
    have F55 : Fld Z h49 a0 "com/example/tierfuse/tierfuse/format/BitReader" "window" "J" (.long (wi ||| (((w17 &&& (255 : Int32)).toInt64) <<< (((56 : Int32) - wb) &&& 0x3f).toInt64))) := F44.other W49 (Or.inr (slot_ne (Or.inl (hw _ (List.mem_of_getElem? (i := 40) rfl))) (Or.inl (hw _ (List.mem_of_getElem? (i := 14) rfl))) (by decide) (t := .long) (t' := .int) (by decide) (by decide)))
    have F56 : Fld Z h49 a0 "com/example/tierfuse/tierfuse/format/BitReader" "windowBits" "I" (.int (wb + (8 : Int32))) := Fw37.other W49 (Or.inr (slot_ne (Or.inl (hw _ (List.mem_of_getElem? (i := 25) rfl))) (Or.inl (hw _ (List.mem_of_getElem? (i := 14) rfl))) (by decide) (t := .int) (t' := .int) (by decide) (by decide)))
    have K49 : Keep h0 h49 [a0] := K37.wr W49 (Or.inl (List.mem_of_getElem? (i := 0) rfl))
    have N49 := Fr.snoc X49 N37 g_a0
    have Z49 : n0 ≤ h49.size := Nat.le_trans Z37 (Keep.of_wr W49).1
    have pre57 : ∀ t, Steps p.tables e below (T49.setTop (mkF m 0 #[.val (.ref a0), .val (.long ((w17 &&& (255 : Int32)).toInt64)), .second] [])) t → Steps p.tables e below (T0.setTop (mkF m 0 #[.val (.ref a0), s1, s2] [])) t := fun t kt => pre50 t (by
      show Steps p.tables e below (T49.setTop (mkF m 78 #[.val (.ref a0), .val (.long ((w17 &&& (255 : Int32)).toInt64)), .second] [])) _
      refine XS.goto X49.here hx rfl (pc0 := 78) (pc' := 0) rfl (hb hby d6_78) (by decide) (by decide) ?_
      exact kt)
    exact ⟨T49, h49, _, ((w17 &&& (255 : Int32)).toInt64), (wi ||| (((w17 &&& (255 : Int32)).toInt64) <<< (((56 : Int32) - wb) &&& 0x3f).toInt64)), X49, e49, N49, K49, F51, F52, Fw49, F53, F55, F56, pre57⟩
  · have pre58 : ∀ t, Steps p.tables e below (T8.setTop (mkF m 41 #[.val (.ref a0), .val (.long (0 : Int64)), .second] [(.ref a0), (.ref a0)])) t → Steps p.tables e below (T0.setTop (mkF m 0 #[.val (.ref a0), s1, s2] [])) t := fun t kt => pre9 t (by
      show Steps p.tables e below (T8.setTop (mkF m 17 #[.val (.ref a0), s1, s2] [(.int en), (.int nx)])) _
      refine XS.icmpYes X8.here hx rfl (pc0 := 17) (pc' := 37) rfl (hb hby d6_17) rfl (flt hc17_10).2.1 (by decide) (by decide) ?_
      show Steps p.tables e below (T8.setTop (mkF m 37 #[.val (.ref a0), s1, s2] [])) _
      refine XS.lconst X8.here hx rfl (hb hby d6_37) ?_
      show Steps p.tables e below (T8.setTop (mkF m 38 #[.val (.ref a0), s1, s2] [(.long (0 : Int64))])) _
      refine XS.lstoreN X8.here hx rfl (hb hby d6_38) rfl (l' := #[.val (.ref a0), .val (.long (0 : Int64)), .second]) (os6_38 hs1) ?_
      show Steps p.tables e below (T8.setTop (mkF m 39 #[.val (.ref a0), .val (.long (0 : Int64)), .second] [])) _
      refine XS.aloadN X8.here hx rfl (hb hby d6_39) rfl rfl ?_
      show Steps p.tables e below (T8.setTop (mkF m 40 #[.val (.ref a0), .val (.long (0 : Int64)), .second] [(.ref a0)])) _
      refine XS.dup X8.here hx rfl (hb hby d6_40) rfl rfl ?_
      exact kt)
    obtain ⟨T59, X59, e59, st59⟩ := getF X8 hx hZ hown (host := "") (Or.inl (hw _ (List.mem_of_getElem? (i := 39) rfl))) Via.refl e8 I_window (g := (mkF m 41 #[.val (.ref a0), .val (.long (0 : Int64)), .second] [(.ref a0), (.ref a0)])) rfl rfl (hb hby d6_41)
    have pre60 : ∀ t, Steps p.tables e below (T59.setTop (mkF m 44 #[.val (.ref a0), .val (.long (0 : Int64)), .second] [(.long wi), (.ref a0)])) t → Steps p.tables e below (T0.setTop (mkF m 0 #[.val (.ref a0), s1, s2] [])) t := fun t kt => pre58 t (st59 _ kt)
    have pre61 : ∀ t, Steps p.tables e below (T59.setTop (mkF m 48 #[.val (.ref a0), .val (.long (0 : Int64)), .second] [(.ref a0), (.int (56 : Int32)), (.long (0 : Int64)), (.long wi), (.ref a0)])) t → Steps p.tables e below (T0.setTop (mkF m 0 #[.val (.ref a0), s1, s2] [])) t := fun t kt => pre60 t (by
      show Steps p.tables e below (T59.setTop (mkF m 44 #[.val (.ref a0), .val (.long (0 : Int64)), .second] [(.long wi), (.ref a0)])) _
      refine XS.lloadN X59.here hx rfl (hb hby d6_44) rfl ?_
      show Steps p.tables e below (T59.setTop (mkF m 45 #[.val (.ref a0), .val (.long (0 : Int64)), .second] [(.long (0 : Int64)), (.long wi), (.ref a0)])) _
      refine XS.bipush X59.here hx rfl (hb hby d6_45) ?_
      show Steps p.tables e below (T59.setTop (mkF m 47 #[.val (.ref a0), .val (.long (0 : Int64)), .second] [(.int (56 : Int32)), (.long (0 : Int64)), (.long wi), (.ref a0)])) _
      refine XS.aloadN X59.here hx rfl (hb hby d6_47) rfl rfl ?_
      exact kt)
    obtain ⟨T62, X62, e62, st62⟩ := getF X59 hx hZ hown (host := "") (Or.inl (hw _ (List.mem_of_getElem? (i := 24) rfl))) Via.refl e59 I_windowBits (g := (mkF m 48 #[.val (.ref a0), .val (.long (0 : Int64)), .second] [(.ref a0), (.int (56 : Int32)), (.long (0 : Int64)), (.long wi), (.ref a0)])) rfl rfl (hb hby d6_48)
    have pre63 : ∀ t, Steps p.tables e below (T62.setTop (mkF m 51 #[.val (.ref a0), .val (.long (0 : Int64)), .second] [(.int wb), (.int (56 : Int32)), (.long (0 : Int64)), (.long wi), (.ref a0)])) t → Steps p.tables e below (T0.setTop (mkF m 0 #[.val (.ref a0), s1, s2] [])) t := fun t kt => pre61 t (st62 _ kt)
    have pre64 : ∀ t, Steps p.tables e below (T62.setTop (mkF m 54 #[.val (.ref a0), .val (.long (0 : Int64)), .second] [(.long (wi ||| ((0 : Int64) <<< (((56 : Int32) - wb) &&& 0x3f).toInt64))), (.ref a0)])) t → Steps p.tables e below (T0.setTop (mkF m 0 #[.val (.ref a0), s1, s2] [])) t := fun t kt => pre63 t (by
      show Steps p.tables e below (T62.setTop (mkF m 51 #[.val (.ref a0), .val (.long (0 : Int64)), .second] [(.int wb), (.int (56 : Int32)), (.long (0 : Int64)), (.long wi), (.ref a0)])) _
      refine XS.isub X62.here hx rfl (hb hby d6_51) rfl ?_
      show Steps p.tables e below (T62.setTop (mkF m 52 #[.val (.ref a0), .val (.long (0 : Int64)), .second] [(.int ((56 : Int32) - wb)), (.long (0 : Int64)), (.long wi), (.ref a0)])) _
      refine XS.lshl X62.here hx rfl (hb hby d6_52) rfl ?_
      show Steps p.tables e below (T62.setTop (mkF m 53 #[.val (.ref a0), .val (.long (0 : Int64)), .second] [(.long ((0 : Int64) <<< (((56 : Int32) - wb) &&& 0x3f).toInt64)), (.long wi), (.ref a0)])) _
      refine XS.lor X62.here hx rfl (hb hby d6_53) rfl ?_
      exact kt)
    obtain ⟨T65, h65, X65, e65, W65, st65⟩ := putF X62 hx hZ hown (host := "") (Or.inl (hw _ (List.mem_of_getElem? (i := 39) rfl))) Via.refl e62 I_window E_a0 (Or.inl (hw _ (List.mem_of_getElem? (i := 40) rfl))) (hw _ (List.mem_of_getElem? (i := 3) rfl)) (ty := .long) (by decide) rfl rfl (g := (mkF m 54 #[.val (.ref a0), .val (.long (0 : Int64)), .second] [(.long (wi ||| ((0 : Int64) <<< (((56 : Int32) - wb) &&& 0x3f).toInt64))), (.ref a0)])) rfl rfl (hb hby d6_54)
    have pre66 : ∀ t, Steps p.tables e below (T65.setTop (mkF m 57 #[.val (.ref a0), .val (.long (0 : Int64)), .second] [])) t → Steps p.tables e below (T0.setTop (mkF m 0 #[.val (.ref a0), s1, s2] [])) t := fun t kt => pre64 t (st65 _ kt)
    have Fw65 : Fld Z h65 a0 "com/example/tierfuse/tierfuse/format/BitReader" "window" "J" (.long (wi ||| ((0 : Int64) <<< (((56 : Int32) - wb) &&& 0x3f).toInt64))) := I_window.same W65
    have F67 : Exa Z h65 a0 "com/example/tierfuse/tierfuse/format/BitReader" := E_a0.wr W65
    have F68 : Fld Z h65 a0 "com/example/tierfuse/tierfuse/format/BitReader" "bytes" "[B" (.ref ab) := I_bytes.other W65 (Or.inr (slot_ne (Or.inr (hw _ (List.mem_of_getElem? (i := 12) rfl))) (Or.inl (hw _ (List.mem_of_getElem? (i := 40) rfl))) (by decide) (t := (.array .byte)) (t' := .long) (by decide) (by decide)))
    have F69 : Fld Z h65 a0 "com/example/tierfuse/tierfuse/format/BitReader" "next" "I" (.int nx) := I_next.other W65 (Or.inr (slot_ne (Or.inl (hw _ (List.mem_of_getElem? (i := 14) rfl))) (Or.inl (hw _ (List.mem_of_getElem? (i := 40) rfl))) (by decide) (t := .int) (t' := .long) (by decide) (by decide)))
    have F70 : Fld Z h65 a0 "com/example/tierfuse/tierfuse/format/BitReader" "end" "I" (.int en) := I_end.other W65 (Or.inr (slot_ne (Or.inr (hw _ (List.mem_of_getElem? (i := 16) rfl))) (Or.inl (hw _ (List.mem_of_getElem? (i := 40) rfl))) (by decide) (t := .int) (t' := .long) (by decide) (by decide)))
    have F71 : Fld Z h65 a0 "com/example/tierfuse/tierfuse/format/BitReader" "windowBits" "I" (.int wb) := I_windowBits.other W65 (Or.inr (slot_ne (Or.inl (hw _ (List.mem_of_getElem? (i := 25) rfl))) (Or.inl (hw _ (List.mem_of_getElem? (i := 40) rfl))) (by decide) (t := .int) (t' := .long) (by decide) (by decide)))
    have F72 : own_A Z h65 ab := A0.other W65 (Ne.symm ne0)
    have K65 : Keep h0 h65 [a0] := K0.wr W65 (Or.inl (List.mem_of_getElem? (i := 0) rfl))
    have N65 := Fr.snoc X65 N0 g_a0
    have Z65 : n0 ≤ h65.size := Nat.le_trans Z0 (Keep.of_wr W65).1
    have pre73 : ∀ t, Steps p.tables e below (T65.setTop (mkF m 59 #[.val (.ref a0), .val (.long (0 : Int64)), .second] [(.ref a0), (.ref a0)])) t → Steps p.tables e below (T0.setTop (mkF m 0 #[.val (.ref a0), s1, s2] [])) t := fun t kt => pre66 t (by
      show Steps p.tables e below (T65.setTop (mkF m 57 #[.val (.ref a0), .val (.long (0 : Int64)), .second] [])) _
      refine XS.aloadN X65.here hx rfl (hb hby d6_57) rfl rfl ?_
      show Steps p.tables e below (T65.setTop (mkF m 58 #[.val (.ref a0), .val (.long (0 : Int64)), .second] [(.ref a0)])) _
      refine XS.dup X65.here hx rfl (hb hby d6_58) rfl rfl ?_
      exact kt)
    obtain ⟨T74, X74, e74, st74⟩ := getF X65 hx hZ hown (host := "") (Or.inl (hw _ (List.mem_of_getElem? (i := 24) rfl))) Via.refl e65 F71 (g := (mkF m 59 #[.val (.ref a0), .val (.long (0 : Int64)), .second] [(.ref a0), (.ref a0)])) rfl rfl (hb hby d6_59)
    have pre75 : ∀ t, Steps p.tables e below (T74.setTop (mkF m 62 #[.val (.ref a0), .val (.long (0 : Int64)), .second] [(.int wb), (.ref a0)])) t → Steps p.tables e below (T0.setTop (mkF m 0 #[.val (.ref a0), s1, s2] [])) t := fun t kt => pre73 t (st74 _ kt)
    have pre76 : ∀ t, Steps p.tables e below (T74.setTop (mkF m 65 #[.val (.ref a0), .val (.long (0 : Int64)), .second] [(.int (wb + (8 : Int32))), (.ref a0)])) t → Steps p.tables e below (T0.setTop (mkF m 0 #[.val (.ref a0), s1, s2] [])) t := fun t kt => pre75 t (by
      show Steps p.tables e below (T74.setTop (mkF m 62 #[.val (.ref a0), .val (.long (0 : Int64)), .second] [(.int wb), (.ref a0)])) _
      refine XS.bipush X74.here hx rfl (hb hby d6_62) ?_
      show Steps p.tables e below (T74.setTop (mkF m 64 #[.val (.ref a0), .val (.long (0 : Int64)), .second] [(.int (8 : Int32)), (.int wb), (.ref a0)])) _
      refine XS.iadd X74.here hx rfl (hb hby d6_64) rfl ?_
      exact kt)
    obtain ⟨T77, h77, X77, e77, W77, st77⟩ := putF X74 hx hZ hown (host := "") (Or.inl (hw _ (List.mem_of_getElem? (i := 24) rfl))) Via.refl e74 F71 F67 (Or.inl (hw _ (List.mem_of_getElem? (i := 25) rfl))) (hw _ (List.mem_of_getElem? (i := 3) rfl)) (ty := .int) (by decide) rfl rfl (g := (mkF m 65 #[.val (.ref a0), .val (.long (0 : Int64)), .second] [(.int (wb + (8 : Int32))), (.ref a0)])) rfl rfl (hb hby d6_65)
    have pre78 : ∀ t, Steps p.tables e below (T77.setTop (mkF m 68 #[.val (.ref a0), .val (.long (0 : Int64)), .second] [])) t → Steps p.tables e below (T0.setTop (mkF m 0 #[.val (.ref a0), s1, s2] [])) t := fun t kt => pre76 t (st77 _ kt)
    have Fw77 : Fld Z h77 a0 "com/example/tierfuse/tierfuse/format/BitReader" "windowBits" "I" (.int (wb + (8 : Int32))) := F71.same W77
    have F79 : Exa Z h77 a0 "com/example/tierfuse/tierfuse/format/BitReader" := F67.wr W77
    have F80 : Fld Z h77 a0 "com/example/tierfuse/tierfuse/format/BitReader" "bytes" "[B" (.ref ab) := F68.other W77 (Or.inr (slot_ne (Or.inr (hw _ (List.mem_of_getElem? (i := 12) rfl))) (Or.inl (hw _ (List.mem_of_getElem? (i := 25) rfl))) (by decide) (t := (.array .byte)) (t' := .int) (by decide) (by decide)))
    have F81 : Fld Z h77 a0 "com/example/tierfuse/tierfuse/format/BitReader" "next" "I" (.int nx) := F69.other W77 (Or.inr (slot_ne (Or.inl (hw _ (List.mem_of_getElem? (i := 14) rfl))) (Or.inl (hw _ (List.mem_of_getElem? (i := 25) rfl))) (by decide) (t := .int) (t' := .int) (by decide) (by decide)))
    have F82 : Fld Z h77 a0 "com/example/tierfuse/tierfuse/format/BitReader" "end" "I" (.int en) := F70.other W77 (Or.inr (slot_ne (Or.inr (hw _ (List.mem_of_getElem? (i := 16) rfl))) (Or.inl (hw _ (List.mem_of_getElem? (i := 25) rfl))) (by decide) (t := .int) (t' := .int) (by decide) (by decide)))
    have F83 : own_A Z h77 ab := F72.other W77 (Ne.symm ne0)
    have F84 : Fld Z h77 a0 "com/example/tierfuse/tierfuse/format/BitReader" "window" "J" (.long (wi ||| ((0 : Int64) <<< (((56 : Int32) - wb) &&& 0x3f).toInt64))) := Fw65.other W77 (Or.inr (slot_ne (Or.inl (hw _ (List.mem_of_getElem? (i := 40) rfl))) (Or.inl (hw _ (List.mem_of_getElem? (i := 25) rfl))) (by decide) (t := .long) (t' := .int) (by decide) (by decide)))
    have K77 : Keep h0 h77 [a0] := K65.wr W77 (Or.inl (List.mem_of_getElem? (i := 0) rfl))
    have N77 := Fr.snoc X77 N65 g_a0
    have Z77 : n0 ≤ h77.size := Nat.le_trans Z65 (Keep.of_wr W77).1
    have pre85 : ∀ t, Steps p.tables e below (T77.setTop (mkF m 70 #[.val (.ref a0), .val (.long (0 : Int64)), .second] [(.ref a0), (.ref a0)])) t → Steps p.tables e below (T0.setTop (mkF m 0 #[.val (.ref a0), s1, s2] [])) t := fun t kt => pre78 t (by
      show Steps p.tables e below (T77.setTop (mkF m 68 #[.val (.ref a0), .val (.long (0 : Int64)), .second] [])) _
      refine XS.aloadN X77.here hx rfl (hb hby d6_68) rfl rfl ?_
      show Steps p.tables e below (T77.setTop (mkF m 69 #[.val (.ref a0), .val (.long (0 : Int64)), .second] [(.ref a0)])) _
      refine XS.dup X77.here hx rfl (hb hby d6_69) rfl rfl ?_
      exact kt)
    obtain ⟨T86, X86, e86, st86⟩ := getF X77 hx hZ hown (host := "") (Or.inl (hw _ (List.mem_of_getElem? (i := 13) rfl))) Via.refl e77 F81 (g := (mkF m 70 #[.val (.ref a0), .val (.long (0 : Int64)), .second] [(.ref a0), (.ref a0)])) rfl rfl (hb hby d6_70)
    have pre87 : ∀ t, Steps p.tables e below (T86.setTop (mkF m 73 #[.val (.ref a0), .val (.long (0 : Int64)), .second] [(.int nx), (.ref a0)])) t → Steps p.tables e below (T0.setTop (mkF m 0 #[.val (.ref a0), s1, s2] [])) t := fun t kt => pre85 t (st86 _ kt)
    have pre88 : ∀ t, Steps p.tables e below (T86.setTop (mkF m 75 #[.val (.ref a0), .val (.long (0 : Int64)), .second] [(.int (nx + (1 : Int32))), (.ref a0)])) t → Steps p.tables e below (T0.setTop (mkF m 0 #[.val (.ref a0), s1, s2] [])) t := fun t kt => pre87 t (by
      show Steps p.tables e below (T86.setTop (mkF m 73 #[.val (.ref a0), .val (.long (0 : Int64)), .second] [(.int nx), (.ref a0)])) _
      refine XS.iconst X86.here hx rfl (hb hby d6_73) ?_
      show Steps p.tables e below (T86.setTop (mkF m 74 #[.val (.ref a0), .val (.long (0 : Int64)), .second] [(.int (1 : Int32)), (.int nx), (.ref a0)])) _
      refine XS.iadd X86.here hx rfl (hb hby d6_74) rfl ?_
      exact kt)
    obtain ⟨T89, h89, X89, e89, W89, st89⟩ := putF X86 hx hZ hown (host := "") (Or.inl (hw _ (List.mem_of_getElem? (i := 13) rfl))) Via.refl e86 F81 F79 (Or.inl (hw _ (List.mem_of_getElem? (i := 14) rfl))) (hw _ (List.mem_of_getElem? (i := 3) rfl)) (ty := .int) (by decide) rfl rfl (g := (mkF m 75 #[.val (.ref a0), .val (.long (0 : Int64)), .second] [(.int (nx + (1 : Int32))), (.ref a0)])) rfl rfl (hb hby d6_75)
    have pre90 : ∀ t, Steps p.tables e below (T89.setTop (mkF m 78 #[.val (.ref a0), .val (.long (0 : Int64)), .second] [])) t → Steps p.tables e below (T0.setTop (mkF m 0 #[.val (.ref a0), s1, s2] [])) t := fun t kt => pre88 t (st89 _ kt)
    have Fw89 : Fld Z h89 a0 "com/example/tierfuse/tierfuse/format/BitReader" "next" "I" (.int (nx + (1 : Int32))) := F81.same W89
    have F91 : Exa Z h89 a0 "com/example/tierfuse/tierfuse/format/BitReader" := F79.wr W89
    have F92 : Fld Z h89 a0 "com/example/tierfuse/tierfuse/format/BitReader" "bytes" "[B" (.ref ab) := F80.other W89 (Or.inr (slot_ne (Or.inr (hw _ (List.mem_of_getElem? (i := 12) rfl))) (Or.inl (hw _ (List.mem_of_getElem? (i := 14) rfl))) (by decide) (t := (.array .byte)) (t' := .int) (by decide) (by decide)))
    have F93 : Fld Z h89 a0 "com/example/tierfuse/tierfuse/format/BitReader" "end" "I" (.int en) := F82.other W89 (Or.inr (slot_ne (Or.inr (hw _ (List.mem_of_getElem? (i := 16) rfl))) (Or.inl (hw _ (List.mem_of_getElem? (i := 14) rfl))) (by decide) (t := .int) (t' := .int) (by decide) (by decide)))
    have F94 : own_A Z h89 ab := F83.other W89 (Ne.symm ne0)
    have F95 : Fld Z h89 a0 "com/example/tierfuse/tierfuse/format/BitReader" "window" "J" (.long (wi ||| ((0 : Int64) <<< (((56 : Int32) - wb) &&& 0x3f).toInt64))) := F84.other W89 (Or.inr (slot_ne (Or.inl (hw _ (List.mem_of_getElem? (i := 40) rfl))) (Or.inl (hw _ (List.mem_of_getElem? (i := 14) rfl))) (by decide) (t := .long) (t' := .int) (by decide) (by decide)))
    have F96 : Fld Z h89 a0 "com/example/tierfuse/tierfuse/format/BitReader" "windowBits" "I" (.int (wb + (8 : Int32))) := Fw77.other W89 (Or.inr (slot_ne (Or.inl (hw _ (List.mem_of_getElem? (i := 25) rfl))) (Or.inl (hw _ (List.mem_of_getElem? (i := 14) rfl))) (by decide) (t := .int) (t' := .int) (by decide) (by decide)))
    have K89 : Keep h0 h89 [a0] := K77.wr W89 (Or.inl (List.mem_of_getElem? (i := 0) rfl))
    have N89 := Fr.snoc X89 N77 g_a0
    have Z89 : n0 ≤ h89.size := Nat.le_trans Z77 (Keep.of_wr W89).1
    have pre97 : ∀ t, Steps p.tables e below (T89.setTop (mkF m 0 #[.val (.ref a0), .val (.long (0 : Int64)), .second] [])) t → Steps p.tables e below (T0.setTop (mkF m 0 #[.val (.ref a0), s1, s2] [])) t := fun t kt => pre90 t (by
      show Steps p.tables e below (T89.setTop (mkF m 78 #[.val (.ref a0), .val (.long (0 : Int64)), .second] [])) _
      refine XS.goto X89.here hx rfl (pc0 := 78) (pc' := 0) rfl (hb hby d6_78) (by decide) (by decide) ?_
      exact kt)
    exact ⟨T89, h89, _, (0 : Int64), (wi ||| ((0 : Int64) <<< (((56 : Int32) - wb) &&& 0x3f).toInt64)), X89, e89, N89, K89, F91, F92, Fw89, F93, F95, F96, pre97⟩
set_option maxRecDepth 65536 in
set_option maxHeartbeats 40000000 in
theorem own_leave {p : Program} {l : Launch} {e : Env} {R : Room} {s : State} {m : MethodId} {args : Array Value} {below : List Frame} {meth : Method} {c : Code} {T0 : State} {locs : List Loc} {cells slots : Nat} {Z : State} {av : Array Value} {h0 : Heap} {n0 : Nat} (a0 : Addr) (s1 : Slot) (s2 : Slot) (ab : Addr) (nx : Int32) (en : Int32) (wi : Int64) (wb : Int32)
    (X0 : Stand p l e R s m args below meth c T0 locs cells slots) (hx : p.tables.exec = Jvm.exec) (hZ : Z.Warmed39 s.vm) (hw : ∀ d ∈ tables_1, d.before av Z = true) (hby : c.code = prog_42_method_7_code) (hml : c.maxLocals = 3) (hown : s.vm.findClass "com/example/tierfuse/tierfuse/format/BitReader" = some m.cls) (e0 : T0.heap = h0) (N0 : Fr n0 locs) (Z0 : n0 ≤ h0.size) (E_a0 : Exa Z h0 a0 "com/example/tierfuse/tierfuse/format/BitReader") (g_a0 : n0 ≤ a0) (I_bytes : Fld Z h0 a0 "com/example/tierfuse/tierfuse/format/BitReader" "bytes" "[B" (.ref ab)) (I_next : Fld Z h0 a0 "com/example/tierfuse/tierfuse/format/BitReader" "next" "I" (.int nx)) (I_end : Fld Z h0 a0 "com/example/tierfuse/tierfuse/format/BitReader" "end" "I" (.int en)) (I_window : Fld Z h0 a0 "com/example/tierfuse/tierfuse/format/BitReader" "window" "J" (.long wi)) (I_windowBits : Fld Z h0 a0 "com/example/tierfuse/tierfuse/format/BitReader" "windowBits" "I" (.int wb)) (A0 : own_A Z h0 ab) (ne0 : a0 ≠ ab) (hwb : (56 : Int32) < wb) :
    ∃ (T' : State) (h' : Heap) (locs' : List Loc), Stand p l e R s m args below meth c T' locs' cells slots ∧ T'.heap = h' ∧ Fr n0 locs' ∧ Keep h0 h' [a0] ∧ Exa Z h' a0 "com/example/tierfuse/tierfuse/format/BitReader" ∧ Fld Z h' a0 "com/example/tierfuse/tierfuse/format/BitReader" "bytes" "[B" (.ref ab) ∧ Fld Z h' a0 "com/example/tierfuse/tierfuse/format/BitReader" "next" "I" (.int nx) ∧ Fld Z h' a0 "com/example/tierfuse/tierfuse/format/BitReader" "end" "I" (.int en) ∧ Fld Z h' a0 "com/example/tierfuse/tierfuse/format/BitReader" "window" "J" (.long wi) ∧ Fld Z h' a0 "com/example/tierfuse/tierfuse/format/BitReader" "windowBits" "I" (.int wb) ∧ ∀ target, Steps p.tables e below (T'.setTop (mkF m 81 #[.val (.ref a0), s1, s2] [])) target → Steps p.tables e below (T0.setTop (mkF m 0 #[.val (.ref a0), s1, s2] [])) target := by
  have K0 : Keep h0 h0 [a0] := Keep.refl h0 [a0]
  have pre0 : ∀ t, Steps p.tables e below (T0.setTop (mkF m 0 #[.val (.ref a0), s1, s2] [])) t → Steps p.tables e below (T0.setTop (mkF m 0 #[.val (.ref a0), s1, s2] [])) t := fun t k => k
  have pre1 : ∀ t, Steps p.tables e below (T0.setTop (mkF m 1 #[.val (.ref a0), s1, s2] [(.ref a0)])) t → Steps p.tables e below (T0.setTop (mkF m 0 #[.val (.ref a0), s1, s2] [])) t := fun t kt => pre0 t (by
    show Steps p.tables e below (T0.setTop (mkF m 0 #[.val (.ref a0), s1, s2] [])) _
    refine XS.aloadN X0.here hx rfl (hb hby d6_0) rfl rfl ?_
    exact kt)
  obtain ⟨T2, X2, e2, st2⟩ := getF X0 hx hZ hown (host := "") (Or.inl (hw _ (List.mem_of_getElem? (i := 24) rfl))) Via.refl e0 I_windowBits (g := (mkF m 1 #[.val (.ref a0), s1, s2] [(.ref a0)])) rfl rfl (hb hby d6_1)
  have pre3 : ∀ t, Steps p.tables e below (T2.setTop (mkF m 4 #[.val (.ref a0), s1, s2] [(.int wb)])) t → Steps p.tables e below (T0.setTop (mkF m 0 #[.val (.ref a0), s1, s2] [])) t := fun t kt => pre1 t (st2 _ kt)
  have pre4 : ∀ t, Steps p.tables e below (T2.setTop (mkF m 81 #[.val (.ref a0), s1, s2] [])) t → Steps p.tables e below (T0.setTop (mkF m 0 #[.val (.ref a0), s1, s2] [])) t := fun t kt => pre3 t (by
    show Steps p.tables e below (T2.setTop (mkF m 4 #[.val (.ref a0), s1, s2] [(.int wb)])) _
    refine XS.bipush X2.here hx rfl (hb hby d6_4) ?_
    show Steps p.tables e below (T2.setTop (mkF m 6 #[.val (.ref a0), s1, s2] [(.int (56 : Int32)), (.int wb)])) _
    refine XS.icmpYes X2.here hx rfl (pc0 := 6) (pc' := 81) rfl (hb hby d6_6) rfl (tlt hwb).2.2.1 (by decide) (by decide) ?_
    exact kt)
  exact ⟨T2, h0, _, X2, e2, N0, K0, E_a0, I_bytes, I_next, I_end, I_window, I_windowBits, pre4⟩
theorem own_up (nx wb : Int32) (h1 : 0 ≤ wb.toInt) (h2 : wb.toInt ≤ 56) (h3 : 0 ≤ nx.toInt) (h4 : nx.toInt ≤ 1000) : (wb + (8 : Int32)).toInt = wb.toInt + 8 ∧ (nx + (1 : Int32)).toInt = nx.toInt + 1 := by
  have e1 := c_iadd wb (8 : Int32)
  have r1 := rng32 (wb + (8 : Int32))
  have e2 := c_iadd nx (1 : Int32)
  have r2 := rng32 (nx + (1 : Int32))
  simp only [Int32.reduceToInt] at *
  omega
set_option maxRecDepth 65536 in
set_option maxHeartbeats 40000000 in
theorem own_loop {p : Program} {l : Launch} {e : Env} {R : Room} {s : State} {m : MethodId} {args : Array Value} {below : List Frame} {meth : Method} {c : Code} {cells slots : Nat} {Z : State} {av : Array Value} {n0 : Nat} (a0 ab : Addr) (en : Int32)
    (hx : p.tables.exec = Jvm.exec) (hZ : Z.Warmed39 s.vm) (hw : ∀ d ∈ tables_1, d.before av Z = true) (hby : c.code = prog_42_method_7_code) (hml : c.maxLocals = 3) (hown : s.vm.findClass "com/example/tierfuse/tierfuse/format/BitReader" = some m.cls) (ne0 : a0 ≠ ab) (g_a0 : n0 ≤ a0) (hen : en.toInt ≤ 8) :
    ∀ (k : Nat) (nx : Int32) (wi : Int64) (wb : Int32), 57 ≤ wb.toInt + 8 * k → 0 ≤ wb.toInt → wb.toInt ≤ 64 → 0 ≤ nx.toInt → nx.toInt + k ≤ 1000 → ∀ {T0 : State} {locs : List Loc} {h0 : Heap} (s1 s2 : Slot), own_Two s1 s2 → Stand p l e R s m args below meth c T0 locs cells slots → T0.heap = h0 → Fr n0 locs → n0 ≤ h0.size → Exa Z h0 a0 "com/example/tierfuse/tierfuse/format/BitReader" → Fld Z h0 a0 "com/example/tierfuse/tierfuse/format/BitReader" "bytes" "[B" (.ref ab) → Fld Z h0 a0 "com/example/tierfuse/tierfuse/format/BitReader" "next" "I" (.int nx) → Fld Z h0 a0 "com/example/tierfuse/tierfuse/format/BitReader" "end" "I" (.int en) → Fld Z h0 a0 "com/example/tierfuse/tierfuse/format/BitReader" "window" "J" (.long wi) → Fld Z h0 a0 "com/example/tierfuse/tierfuse/format/BitReader" "windowBits" "I" (.int wb) → own_A Z h0 ab →
    ∃ (T' : State) (h' : Heap) (locs' : List Loc) (s1' s2' : Slot) (nx' : Int32) (wi' : Int64) (wb' : Int32), Stand p l e R s m args below meth c T' locs' cells slots ∧ T'.heap = h' ∧ Fr n0 locs' ∧ Keep h0 h' [a0] ∧ (Exa Z h' a0 "com/example/tierfuse/tierfuse/format/BitReader" ∧ Fld Z h' a0 "com/example/tierfuse/tierfuse/format/BitReader" "bytes" "[B" (.ref ab) ∧ Fld Z h' a0 "com/example/tierfuse/tierfuse/format/BitReader" "next" "I" (.int nx') ∧ Fld Z h' a0 "com/example/tierfuse/tierfuse/format/BitReader" "end" "I" (.int en) ∧ Fld Z h' a0 "com/example/tierfuse/tierfuse/format/BitReader" "window" "J" (.long wi') ∧ Fld Z h' a0 "com/example/tierfuse/tierfuse/format/BitReader" "windowBits" "I" (.int wb')) ∧ (wb'.toInt - 8 * nx'.toInt = wb.toInt - 8 * nx.toInt ∧ 57 ≤ wb'.toInt ∧ wb'.toInt ≤ 64 ∧ nx.toInt ≤ nx'.toInt ∧ nx'.toInt ≤ nx.toInt + k) ∧ ∀ target, Steps p.tables e below (T'.setTop (mkF m 81 #[.val (.ref a0), s1', s2'] [])) target → Steps p.tables e below (T0.setTop (mkF m 0 #[.val (.ref a0), s1, s2] [])) target := by
  intro k
  induction k with
  | zero =>
    intro nx wi wb b1 b2 b3 b4 b5 T0 locs h0 s1 s2 hs X0 e0 N0 Z0 E F1 F2 F3 F4 F5 A0
    obtain ⟨T1, h1, l1, X1, e1, N1, K1, G0, G1, G2, G3, G4, G5, st1⟩ := own_leave a0 s1 s2 ab nx en wi wb X0 hx hZ hw hby hml hown e0 N0 Z0 E g_a0 F1 F2 F3 F4 F5 A0 ne0 (by simp only [Int32.lt_iff_toInt_lt, Int32.reduceToInt]; omega)
    exact ⟨T1, h1, l1, s1, s2, nx, wi, wb, X1, e1, N1, K1, ⟨G0, G1, G2, G3, G4, G5⟩, by omega, st1⟩
  | succ k ih =>
    intro nx wi wb b1 b2 b3 b4 b5 T0 locs h0 s1 s2 hs X0 e0 N0 Z0 E F1 F2 F3 F4 F5 A0
    by_cases hc : (56 : Int32) < wb
    · have hc' := hc
      simp only [Int32.lt_iff_toInt_lt, Int32.reduceToInt] at hc'
      obtain ⟨T1, h1, l1, X1, e1, N1, K1, G0, G1, G2, G3, G4, G5, st1⟩ := own_leave a0 s1 s2 ab nx en wi wb X0 hx hZ hw hby hml hown e0 N0 Z0 E g_a0 F1 F2 F3 F4 F5 A0 ne0 hc
      exact ⟨T1, h1, l1, s1, s2, nx, wi, wb, X1, e1, N1, K1, ⟨G0, G1, G2, G3, G4, G5⟩, by omega, st1⟩
    · have hc' := hc
      simp only [Int32.lt_iff_toInt_lt, Int32.reduceToInt] at hc'
      obtain ⟨u1, u2⟩ := own_up nx wb b2 (by omega) b4 (by omega)
      obtain ⟨T1, h1, l1, x1, wi1, X1, e1, N1, K1, G0, G1, G2, G3, G4, G5, st1⟩ := own_turn a0 s1 s2 ab nx en wi wb X0 hx hZ hw hby hml hown e0 N0 Z0 E g_a0 F1 F2 F3 F4 F5 A0 ne0 hs hc (by simp only [Int32.lt_iff_toInt_lt, Int32.reduceToInt]; omega) hen
      obtain ⟨T2, h2, l2, s1', s2', nx', wi', wb', X2, e2, N2, K2, G, Rl, st2⟩ := ih _ _ _ (by rw [u1]; omega) (by rw [u1]; omega) (by rw [u1]; omega) (by rw [u2]; omega) (by rw [u2]; omega) _ _ (Or.inr ⟨x1, rfl, rfl⟩) X1 e1 N1 (Nat.le_trans Z0 K1.1) G0 G1 G2 G3 G4 G5 (A0.keep K1 (ninS (Ne.symm ne0) nin0))
      refine ⟨T2, h2, l2, s1', s2', nx', wi', wb', X2, e2, N2, K1.trans K2 (fun x hx => Or.inl hx), G, ?_, fun t kt => st1 t (st2 t kt)⟩
      rw [u1, u2] at Rl
      omega
theorem d6_81 : decode prog_42_method_7_code 81 = .ok (.return_, 1) := by decide +kernel
theorem ef6 (m : MethodId) (x0 : Addr) : entryFrame m #[(.ref x0)] 3 = mkF m 0 #[.val (.ref x0), .unset, .unset] [] := by first | (simp [entryFrame, mkF, argsToLocals, Value.category]; done) | rfl
def Q6 (Z : State) (a0 : Addr) (ab : Addr) (nx : Int32) (en : Int32) (wi : Int64) (wb : Int32) (h0 : Heap) (n0 : Nat) (v : Option Value) (h : Heap) (L : List Loc) : Prop := ∃ (nx' : Int32) (wi' : Int64) (wb' : Int32), v = none ∧ Fr n0 L ∧ Keep h0 h [a0] ∧ (Exa Z h a0 "com/example/tierfuse/tierfuse/format/BitReader" ∧ Fld Z h a0 "com/example/tierfuse/tierfuse/format/BitReader" "bytes" "[B" (.ref ab) ∧ Fld Z h a0 "com/example/tierfuse/tierfuse/format/BitReader" "next" "I" (.int nx') ∧ Fld Z h a0 "com/example/tierfuse/tierfuse/format/BitReader" "end" "I" (.int en) ∧ Fld Z h a0 "com/example/tierfuse/tierfuse/format/BitReader" "window" "J" (.long wi') ∧ Fld Z h a0 "com/example/tierfuse/tierfuse/format/BitReader" "windowBits" "I" (.int wb')) ∧ (wb'.toInt - 8 * nx'.toInt = wb.toInt - 8 * nx.toInt ∧ 57 ≤ wb'.toInt ∧ wb'.toInt ≤ 64 ∧ nx.toInt ≤ nx'.toInt ∧ nx'.toInt ≤ nx.toInt + 8)
set_option maxRecDepth 65536 in
set_option maxHeartbeats 40000000 in
theorem rm6 (l : Launch) (Z : State) (av : Array Value) (hw : ∀ d ∈ tables_1, d.before av Z = true) (ws : List Jvm.Cond) (a0 : Addr) (ab : Addr) (nx : Int32) (en : Int32) (wi : Int64) (wb : Int32) (h0 : Heap) (n0 : Nat) (Z0 : n0 ≤ h0.size) (E_a0 : Exa Z h0 a0 "com/example/tierfuse/tierfuse/format/BitReader") (g_a0 : n0 ≤ a0) (I_bytes : Fld Z h0 a0 "com/example/tierfuse/tierfuse/format/BitReader" "bytes" "[B" (.ref ab)) (I_next : Fld Z h0 a0 "com/example/tierfuse/tierfuse/format/BitReader" "next" "I" (.int nx)) (I_end : Fld Z h0 a0 "com/example/tierfuse/tierfuse/format/BitReader" "end" "I" (.int en)) (I_window : Fld Z h0 a0 "com/example/tierfuse/tierfuse/format/BitReader" "window" "J" (.long wi)) (I_windowBits : Fld Z h0 a0 "com/example/tierfuse/tierfuse/format/BitReader" "windowBits" "I" (.int wb)) (A0 : own_A Z h0 ab) (ne0 : a0 ≠ ab) (hwb : 0 ≤ wb.toInt ∧ wb.toInt ≤ 64) (hnx : 0 ≤ nx.toInt ∧ nx.toInt ≤ 500) (hen : en.toInt ≤ 8) :
    MetFree l (⟨"com/example/tierfuse/tierfuse/format/BitReader", "fill", "()V"⟩ : MethodName) (head1 (Jvm.Cond.code (⟨"com/example/tierfuse/tierfuse/format/BitReader", "fill", "()V"⟩ : MethodName) prog_42_method_7_code 3 none :: ws) ({ frames := 0, cells := 0, slots := 0, locals := 0 } : Room)) (fun a U => a = #[(.ref a0)] ∧ Z.Warmed39 U.vm ∧ U.heap = h0) (fun _ _ _ _ _ => True) (fun _ U o U' => ∃ v L, o = .returned v ∧ Q6 Z a0 ab nx en wi wb h0 n0 v U'.heap L ∧ FrameEnd U o U' L ({ frames := 0, cells := 0, slots := 0, locals := 0 } : Room).cells ({ frames := 0, cells := 0, slots := 0, locals := 0 } : Room).slots) := by
  refine MetFree.of_bodySF (plainFor_of_name pn_com_example_tierfuse_tierfuse_format_BitReader) hisR ?_
  intro p e s m args below meth c s₁ Bd hml0 hP hK
  obtain ⟨rfl, hZ, hh⟩ := hP
  have hx := Bd.exec
  have hby := Bd.bytes
  have hml : c.maxLocals = 3 := hml0
  have hown : s.vm.findClass "com/example/tierfuse/tierfuse/format/BitReader" = some m.cls := findClass_of_methodNamed Bd.named
  have hnm := (name_of_methodNamed Bd.named Bd.method).1
  have X0 : Stand p l e ({ frames := 0, cells := 0, slots := 0, locals := 0 } : Room) s m #[(.ref a0)] below meth c s₁ [] 0 0 := Stand.of_body Bd
  have e0 : s₁.heap = h0 := by rw [← hh, Bd.state]; rfl
  have N0 := Fr.nil n0
  have K0 : Keep h0 h0 [a0] := Keep.refl h0 [a0]
  have pre0 : ∀ t, Steps p.tables e below (s₁.setTop (mkF m 0 #[.val (.ref a0), .unset, .unset] [])) t → Steps p.tables e below (s₁.setTop (entryFrame m #[(.ref a0)] 3)) t := fun t k => castTop (ef6 m a0) k
  obtain ⟨T1, h1, l1, sa1, sb1, nx', wi', wb', X1, e1, N1, Kq1, G1, Rl1, st1⟩ := own_loop a0 ab en hx hZ hw hby hml hown ne0 g_a0 hen 8 nx wi wb (by omega) hwb.1 hwb.2 hnx.1 (by omega) .unset .unset (Or.inl ⟨rfl, rfl⟩) X0 e0 N0 Z0 E_a0 I_bytes I_next I_end I_window I_windowBits A0
  obtain ⟨G1_0, G1_1, G1_2, G1_3, G1_4, G1_5⟩ := G1
  have pre2 : ∀ t, Steps p.tables e below (T1.setTop (mkF m 81 #[.val (.ref a0), sa1, sb1] [])) t → Steps p.tables e below (s₁.setTop (entryFrame m #[(.ref a0)] 3)) t := fun t kt => pre0 t (st1 _ kt)
  obtain ⟨fs, hr, hrun, hended, hW, hsame⟩ := X1.leave (v := none) (fun _ => rfl)
  refine ⟨_, _, pre2 _ ?_, hrun, hended, _, _, rfl, ?_, ⟨_, rfl⟩, hW, hsame.mono (by decide) (by decide)⟩
  · show Steps p.tables e below (T1.setTop (mkF m 81 #[.val (.ref a0), sa1, sb1] [])) _
    exact X1.returnOut hx Bd.returns (hb hby d6_81) hr
  · show Q6 Z a0 ab nx en wi wb h0 n0 _ T1.heap _
    rw [e1]
    exact ⟨nx', wi', wb', rfl, N1, Kq1, ⟨G1_0, G1_1, G1_2, G1_3, G1_4, G1_5⟩, Rl1⟩
theorem own_isub (a b : Int32) (h1 : -1000 ≤ a.toInt - b.toInt) (h2 : a.toInt - b.toInt ≤ 1000) : (a - b).toInt = a.toInt - b.toInt := by
  have e1 := c_isub a b
  have r1 := rng32 (a - b)
  omega
theorem d5_0 : decode prog_42_method_6_code 0 = .ok (.aload_n 0, 1) := by decide +kernel
theorem pd___V : parseMethodDescriptor "()V" = some ⟨[], none⟩ := by decide +kernel
theorem d5_1 : decode prog_42_method_6_code 1 = .ok (.invokevirtual 31, 3) := by decide +kernel
theorem d5_4 : decode prog_42_method_6_code 4 = .ok (.aload_n 0, 1) := by decide +kernel
theorem d5_5 : decode prog_42_method_6_code 5 = .ok (.getfield 34, 3) := by decide +kernel
theorem d5_8 : decode prog_42_method_6_code 8 = .ok (.iconst 1, 1) := by decide +kernel
theorem d5_9 : decode prog_42_method_6_code 9 = .ok (.lushr, 1) := by decide +kernel
theorem d5_10 : decode prog_42_method_6_code 10 = .ok (.bipush 63, 2) := by decide +kernel
theorem d5_12 : decode prog_42_method_6_code 12 = .ok (.iload_n 1, 1) := by decide +kernel
theorem d5_13 : decode prog_42_method_6_code 13 = .ok (.isub, 1) := by decide +kernel
theorem d5_14 : decode prog_42_method_6_code 14 = .ok (.lushr, 1) := by decide +kernel
theorem d5_15 : decode prog_42_method_6_code 15 = .ok (.lstore_n 2, 1) := by decide +kernel
theorem d5_16 : decode prog_42_method_6_code 16 = .ok (.aload_n 0, 1) := by decide +kernel
theorem d5_17 : decode prog_42_method_6_code 17 = .ok (.iload_n 1, 1) := by decide +kernel
theorem pd__I_V : parseMethodDescriptor "(I)V" = some ⟨[.int], none⟩ := by decide +kernel
theorem d5_18 : decode prog_42_method_6_code 18 = .ok (.invokevirtual 40, 3) := by decide +kernel
theorem d5_21 : decode prog_42_method_6_code 21 = .ok (.lload_n 2, 1) := by decide +kernel
theorem d5_22 : decode prog_42_method_6_code 22 = .ok (.lreturn, 1) := by decide +kernel
theorem ef5 (m : MethodId) (x0 : Addr) (x1 : Int32) : entryFrame m #[(.ref x0), (.int x1)] 4 = mkF m 0 #[.val (.ref x0), .val (.int x1), .unset, .unset] [] := by first | (simp [entryFrame, mkF, argsToLocals, Value.category]; done) | rfl
def Q5 (Z : State) (a0 : Addr) (p1 : Int32) (ab : Addr) (nx : Int32) (en : Int32) (wi : Int64) (wb : Int32) (h0 : Heap) (n0 : Nat) (v : Option Value) (h : Heap) (L : List Loc) : Prop := ∃ (rr : Int64) (nx' : Int32) (wi' : Int64) (wb' : Int32), v = some (.long rr) ∧ Fr n0 L ∧ Keep h0 h [a0] ∧ (Exa Z h a0 "com/example/tierfuse/tierfuse/format/BitReader" ∧ Fld Z h a0 "com/example/tierfuse/tierfuse/format/BitReader" "bytes" "[B" (.ref ab) ∧ Fld Z h a0 "com/example/tierfuse/tierfuse/format/BitReader" "next" "I" (.int nx') ∧ Fld Z h a0 "com/example/tierfuse/tierfuse/format/BitReader" "end" "I" (.int en) ∧ Fld Z h a0 "com/example/tierfuse/tierfuse/format/BitReader" "window" "J" (.long wi') ∧ Fld Z h a0 "com/example/tierfuse/tierfuse/format/BitReader" "windowBits" "I" (.int wb')) ∧ (wb'.toInt - 8 * nx'.toInt = wb.toInt - 8 * nx.toInt - p1.toInt ∧ 0 ≤ wb'.toInt ∧ wb'.toInt ≤ 64 ∧ nx.toInt ≤ nx'.toInt ∧ nx'.toInt ≤ nx.toInt + 8)
set_option maxRecDepth 65536 in
set_option maxHeartbeats 40000000 in
theorem rm5 (l : Launch) (Z : State) (av : Array Value) (hw : ∀ d ∈ tables_1, d.before av Z = true) (ws : List Jvm.Cond) (a0 : Addr) (p1 : Int32) (ab : Addr) (nx : Int32) (en : Int32) (wi : Int64) (wb : Int32) (h0 : Heap) (n0 : Nat) (Z0 : n0 ≤ h0.size) (E_a0 : Exa Z h0 a0 "com/example/tierfuse/tierfuse/format/BitReader") (g_a0 : n0 ≤ a0) (I_bytes : Fld Z h0 a0 "com/example/tierfuse/tierfuse/format/BitReader" "bytes" "[B" (.ref ab)) (I_next : Fld Z h0 a0 "com/example/tierfuse/tierfuse/format/BitReader" "next" "I" (.int nx)) (I_end : Fld Z h0 a0 "com/example/tierfuse/tierfuse/format/BitReader" "end" "I" (.int en)) (I_window : Fld Z h0 a0 "com/example/tierfuse/tierfuse/format/BitReader" "window" "J" (.long wi)) (I_windowBits : Fld Z h0 a0 "com/example/tierfuse/tierfuse/format/BitReader" "windowBits" "I" (.int wb)) (A0 : own_A Z h0 ab) (ne0 : a0 ≠ ab) (hwb : 0 ≤ wb.toInt ∧ wb.toInt ≤ 64) (hnx : 0 ≤ nx.toInt ∧ nx.toInt ≤ 500) (hen : en.toInt ≤ 8) (hp1 : 0 ≤ p1.toInt ∧ p1.toInt ≤ 32) :
    MetFree l (⟨"com/example/tierfuse/tierfuse/format/BitReader", "take", "(I)J"⟩ : MethodName) (head1 (Jvm.Cond.code (⟨"com/example/tierfuse/tierfuse/format/BitReader", "take", "(I)J"⟩ : MethodName) prog_42_method_6_code 4 (some .long) :: ws) ({ frames := 1, cells := 0, slots := 0, locals := 14 } : Room)) (fun a U => a = #[(.ref a0), (.int p1)] ∧ Z.Warmed39 U.vm ∧ U.heap = h0) (fun _ _ _ _ _ => True) (fun _ U o U' => ∃ v L, o = .returned v ∧ Q5 Z a0 p1 ab nx en wi wb h0 n0 v U'.heap L ∧ FrameEnd U o U' L ({ frames := 1, cells := 0, slots := 0, locals := 14 } : Room).cells ({ frames := 1, cells := 0, slots := 0, locals := 14 } : Room).slots) := by
  refine MetFree.of_bodySF (plainFor_of_name pn_com_example_tierfuse_tierfuse_format_BitReader) hisR ?_
  intro p e s m args below meth c s₁ Bd hml0 hP hK
  obtain ⟨rfl, hZ, hh⟩ := hP
  have hx := Bd.exec
  have hby := Bd.bytes
  have hml : c.maxLocals = 4 := hml0
  have hown : s.vm.findClass "com/example/tierfuse/tierfuse/format/BitReader" = some m.cls := findClass_of_methodNamed Bd.named
  have hnm := (name_of_methodNamed Bd.named Bd.method).1
  have X0 : Stand p l e ({ frames := 1, cells := 0, slots := 0, locals := 14 } : Room) s m #[(.ref a0), (.int p1)] below meth c s₁ [] 0 0 := Stand.of_body Bd
  have e0 : s₁.heap = h0 := by rw [← hh, Bd.state]; rfl
  have N0 := Fr.nil n0
  have K0 : Keep h0 h0 [a0] := Keep.refl h0 [a0]
  have pre0 : ∀ t, Steps p.tables e below (s₁.setTop (mkF m 0 #[.val (.ref a0), .val (.int p1), .unset, .unset] [])) t → Steps p.tables e below (s₁.setTop (entryFrame m #[(.ref a0), (.int p1)] 4)) t := fun t k => castTop (ef5 m a0 p1) k
  have pre1 : ∀ t, Steps p.tables e below (s₁.setTop (mkF m 1 #[.val (.ref a0), .val (.int p1), .unset, .unset] [(.ref a0)])) t → Steps p.tables e below (s₁.setTop (entryFrame m #[(.ref a0), (.int p1)] 4)) t := fun t kt => pre0 t (by
    show Steps p.tables e below (s₁.setTop (mkF m 0 #[.val (.ref a0), .val (.int p1), .unset, .unset] [])) _
    refine XS.aloadN X0.here hx rfl (hb hby d5_0) rfl rfl ?_
    exact kt)
  obtain ⟨cq2, q2, q2'⟩ := E_a0.cell
  obtain ⟨_, _, ⟨T3, L3, k3, n3⟩, -, X3, ⟨Lc3, hQ3, l3, y3, z3⟩, st3⟩ := X0.privateBack hx (y := (⟨"com/example/tierfuse/tierfuse/format/BitReader", "fill", "()V"⟩ : MethodName)) hown (mvT hZ (hw _ (List.mem_of_getElem? (i := 35) rfl))) (mvT hZ (hw _ (List.mem_of_getElem? (i := 36) rfl))) (own_sel (r := (⟨"com/example/tierfuse/tierfuse/format/BitReader", "remaining", "()J"⟩ : MethodName)) rfl (mvT hZ (hw _ (List.mem_of_getElem? (i := 21) rfl))) (Cond.privateMethod_at (mvP hZ (hw _ (List.mem_of_getElem? (i := 37) rfl)) (args := #[]))) (mvT hZ (hw _ (List.mem_of_getElem? (i := 36) rfl))) (by decide)) (Cond.privateMethod_at (mvP hZ (hw _ (List.mem_of_getElem? (i := 37) rfl)) (args := #[]))) (mvT hZ (hw _ (List.mem_of_getElem? (i := 38) rfl))) (by decide) (backOf (W := 0) (rm6 l Z av hw [] a0 ab nx en wi wb h0 n0 Z0 E_a0 g_a0 I_bytes I_next I_end I_window I_windowBits A0 ne0 hwb hnx hen) hZ (hw _ (List.mem_of_getElem? (i := 38) rfl)) (hw _ (List.mem_of_getElem? (i := 4) rfl)) (by decide) (by decide)) (g := (mkF m 1 #[.val (.ref a0), .val (.int p1), .unset, .unset] [(.ref a0)])) rfl (by rw [hml]; rfl) (Steps.refl _) (a := a0) (by rw [e0]; exact q2) q2' (argsL := []) (rest := []) (lenOf pd___V rfl) rfl (by show 2 * 0 + _ ≤ _; exact Nat.le_of_eq rfl) (hb hby d5_1) (fun _ _ => ⟨rfl, e0, (by decide : 0 + 0 ≤ _), (by decide : 0 + 0 ≤ _)⟩)
  dsimp only [Pt.U, Pt.locs, Pt.cells, Pt.slots] at X3 l3 y3 z3 st3 hQ3
  subst l3 y3 z3
  obtain ⟨nx3, wi3, wb3, rfl, Nz3, Kz3, ⟨Gz0, Gz1, Gz2, Gz3, Gz4, Gz5⟩, Rl3⟩ := hQ3
  have hQ3 := And.intro (rfl : (0 : Nat) = 0) (And.intro Nz3 (And.intro Kz3 (And.intro Gz0 (And.intro Gz1 (And.intro Gz2 (And.intro Gz3 (And.intro Gz4 Gz5)))))))
  obtain ⟨-, N3q, Kq3, Fq3_0, Fq3_1, Fq3_2, Fq3_3, Fq3_4, Fq3_5⟩ := hQ3
  have N3 := Fr.app N0 N3q
  have F4 : own_A Z T3.heap ab := A0.keep Kq3 (ninS (Ne.symm ne0) nin0)
  have K3 : Keep h0 T3.heap [a0] := K0.trans Kq3 (allS (Or.inl (List.mem_of_getElem? (i := 0) rfl)) all0)
  have Z3 : n0 ≤ T3.heap.size := Nat.le_trans Z0 Kq3.1
  have Fq3_0' : Exa Z T3.heap a0 "com/example/tierfuse/tierfuse/format/BitReader" := Fq3_0
  have Fq3_1' : Fld Z T3.heap a0 "com/example/tierfuse/tierfuse/format/BitReader" "bytes" "[B" (.ref ab) := Fq3_1
  have Fq3_2' : Fld Z T3.heap a0 "com/example/tierfuse/tierfuse/format/BitReader" "next" "I" (.int nx3) := Fq3_2
  have Fq3_3' : Fld Z T3.heap a0 "com/example/tierfuse/tierfuse/format/BitReader" "end" "I" (.int en) := Fq3_3
  have Fq3_4' : Fld Z T3.heap a0 "com/example/tierfuse/tierfuse/format/BitReader" "window" "J" (.long wi3) := Fq3_4
  have Fq3_5' : Fld Z T3.heap a0 "com/example/tierfuse/tierfuse/format/BitReader" "windowBits" "I" (.int wb3) := Fq3_5
  have pre5 : ∀ t, Steps p.tables e below (T3.setTop (mkF m 4 #[.val (.ref a0), .val (.int p1), .unset, .unset] [])) t → Steps p.tables e below (s₁.setTop (entryFrame m #[(.ref a0), (.int p1)] 4)) t := fun t kt => pre1 t (st3.trans kt)
  have pre6 : ∀ t, Steps p.tables e below (T3.setTop (mkF m 5 #[.val (.ref a0), .val (.int p1), .unset, .unset] [(.ref a0)])) t → Steps p.tables e below (s₁.setTop (entryFrame m #[(.ref a0), (.int p1)] 4)) t := fun t kt => pre5 t (by
    show Steps p.tables e below (T3.setTop (mkF m 4 #[.val (.ref a0), .val (.int p1), .unset, .unset] [])) _
    refine XS.aloadN X3.here hx rfl (hb hby d5_4) rfl rfl ?_
    exact kt)
  obtain ⟨T7, X7, e7, st7⟩ := getF X3 hx hZ hown (host := "") (Or.inl (hw _ (List.mem_of_getElem? (i := 39) rfl))) Via.refl rfl Fq3_4' (g := (mkF m 5 #[.val (.ref a0), .val (.int p1), .unset, .unset] [(.ref a0)])) rfl rfl (hb hby d5_5)
  have pre8 : ∀ t, Steps p.tables e below (T7.setTop (mkF m 8 #[.val (.ref a0), .val (.int p1), .unset, .unset] [(.long wi3)])) t → Steps p.tables e below (s₁.setTop (entryFrame m #[(.ref a0), (.int p1)] 4)) t := fun t kt => pre6 t (st7 _ kt)
  have pre9 : ∀ t, Steps p.tables e below (T7.setTop (mkF m 18 #[.val (.ref a0), .val (.int p1), .val (.long ((((wi3.toUInt64 >>> ((1 : Int32) &&& 0x3f).toInt64.toUInt64).toInt64).toUInt64 >>> (((63 : Int32) - p1) &&& 0x3f).toInt64.toUInt64).toInt64)), .second] [(.int p1), (.ref a0)])) t → Steps p.tables e below (s₁.setTop (entryFrame m #[(.ref a0), (.int p1)] 4)) t := fun t kt => pre8 t (by
    show Steps p.tables e below (T7.setTop (mkF m 8 #[.val (.ref a0), .val (.int p1), .unset, .unset] [(.long wi3)])) _
    refine XS.iconst X7.here hx rfl (hb hby d5_8) ?_
    show Steps p.tables e below (T7.setTop (mkF m 9 #[.val (.ref a0), .val (.int p1), .unset, .unset] [(.int (1 : Int32)), (.long wi3)])) _
    refine XS.lushr X7.here hx rfl (hb hby d5_9) rfl ?_
    show Steps p.tables e below (T7.setTop (mkF m 10 #[.val (.ref a0), .val (.int p1), .unset, .unset] [(.long ((wi3.toUInt64 >>> ((1 : Int32) &&& 0x3f).toInt64.toUInt64).toInt64))])) _
    refine XS.bipush X7.here hx rfl (hb hby d5_10) ?_
    show Steps p.tables e below (T7.setTop (mkF m 12 #[.val (.ref a0), .val (.int p1), .unset, .unset] [(.int (63 : Int32)), (.long ((wi3.toUInt64 >>> ((1 : Int32) &&& 0x3f).toInt64.toUInt64).toInt64))])) _
    refine XS.iloadN X7.here hx rfl (hb hby d5_12) rfl ?_
    show Steps p.tables e below (T7.setTop (mkF m 13 #[.val (.ref a0), .val (.int p1), .unset, .unset] [(.int p1), (.int (63 : Int32)), (.long ((wi3.toUInt64 >>> ((1 : Int32) &&& 0x3f).toInt64.toUInt64).toInt64))])) _
    refine XS.isub X7.here hx rfl (hb hby d5_13) rfl ?_
    show Steps p.tables e below (T7.setTop (mkF m 14 #[.val (.ref a0), .val (.int p1), .unset, .unset] [(.int ((63 : Int32) - p1)), (.long ((wi3.toUInt64 >>> ((1 : Int32) &&& 0x3f).toInt64.toUInt64).toInt64))])) _
    refine XS.lushr X7.here hx rfl (hb hby d5_14) rfl ?_
    show Steps p.tables e below (T7.setTop (mkF m 15 #[.val (.ref a0), .val (.int p1), .unset, .unset] [(.long ((((wi3.toUInt64 >>> ((1 : Int32) &&& 0x3f).toInt64.toUInt64).toInt64).toUInt64 >>> (((63 : Int32) - p1) &&& 0x3f).toInt64.toUInt64).toInt64))])) _
    refine XS.lstoreN X7.here hx rfl (hb hby d5_15) rfl (l' := #[.val (.ref a0), .val (.int p1), .val (.long ((((wi3.toUInt64 >>> ((1 : Int32) &&& 0x3f).toInt64.toUInt64).toInt64).toUInt64 >>> (((63 : Int32) - p1) &&& 0x3f).toInt64.toUInt64).toInt64)), .second]) rfl ?_
    show Steps p.tables e below (T7.setTop (mkF m 16 #[.val (.ref a0), .val (.int p1), .val (.long ((((wi3.toUInt64 >>> ((1 : Int32) &&& 0x3f).toInt64.toUInt64).toInt64).toUInt64 >>> (((63 : Int32) - p1) &&& 0x3f).toInt64.toUInt64).toInt64)), .second] [])) _
    refine XS.aloadN X7.here hx rfl (hb hby d5_16) rfl rfl ?_
    show Steps p.tables e below (T7.setTop (mkF m 17 #[.val (.ref a0), .val (.int p1), .val (.long ((((wi3.toUInt64 >>> ((1 : Int32) &&& 0x3f).toInt64.toUInt64).toInt64).toUInt64 >>> (((63 : Int32) - p1) &&& 0x3f).toInt64.toUInt64).toInt64)), .second] [(.ref a0)])) _
    refine XS.iloadN X7.here hx rfl (hb hby d5_17) rfl ?_
    exact kt)
  obtain ⟨cq10, q10, q10'⟩ := Fq3_0'.cell
  obtain ⟨_, _, ⟨T11, L11, k11, n11⟩, -, X11, ⟨Lc11, hQ11, l11, y11, z11⟩, st11⟩ := X7.privateBack hx (y := (⟨"com/example/tierfuse/tierfuse/format/BitReader", "skip", "(I)V"⟩ : MethodName)) hown (mvT hZ (hw _ (List.mem_of_getElem? (i := 41) rfl))) (mvT hZ (hw _ (List.mem_of_getElem? (i := 42) rfl))) (own_sel (r := (⟨"com/example/tierfuse/tierfuse/format/BitReader", "remaining", "()J"⟩ : MethodName)) rfl (mvT hZ (hw _ (List.mem_of_getElem? (i := 21) rfl))) (Cond.privateMethod_at (mvP hZ (hw _ (List.mem_of_getElem? (i := 43) rfl)) (args := #[]))) (mvT hZ (hw _ (List.mem_of_getElem? (i := 42) rfl))) (by decide)) (Cond.privateMethod_at (mvP hZ (hw _ (List.mem_of_getElem? (i := 43) rfl)) (args := #[]))) (mvT hZ (hw _ (List.mem_of_getElem? (i := 44) rfl))) (by decide) (backOf (W := 0) (rm7 l Z av hw [] a0 p1 ab nx3 en wi3 wb3 T3.heap n0 Z3 Fq3_0' g_a0 Fq3_1' Fq3_2' Fq3_3' Fq3_4' Fq3_5') hZ (hw _ (List.mem_of_getElem? (i := 44) rfl)) (hw _ (List.mem_of_getElem? (i := 4) rfl)) (by decide) (by decide)) (g := (mkF m 18 #[.val (.ref a0), .val (.int p1), .val (.long ((((wi3.toUInt64 >>> ((1 : Int32) &&& 0x3f).toInt64.toUInt64).toInt64).toUInt64 >>> (((63 : Int32) - p1) &&& 0x3f).toInt64.toUInt64).toInt64)), .second] [(.int p1), (.ref a0)])) rfl (by rw [hml]; rfl) (Steps.refl _) (a := a0) (by rw [e7]; exact q10) q10' (argsL := [(.int p1)]) (rest := []) (lenOf pd__I_V rfl) rfl (by show 2 * 0 + _ ≤ _; exact Nat.le_of_eq rfl) (hb hby d5_18) (fun _ _ => ⟨rfl, e7, (by decide : 0 + 0 ≤ _), (by decide : 0 + 0 ≤ _)⟩)
  dsimp only [Pt.U, Pt.locs, Pt.cells, Pt.slots] at X11 l11 y11 z11 st11 hQ11
  subst l11 y11 z11
  obtain ⟨rfl, N11q, Kq11, Fq11_0, Fq11_1, Fq11_2, Fq11_3, Fq11_4, Fq11_5⟩ := hQ11
  have N11 := Fr.app N3 N11q
  have F12 : own_A Z T11.heap ab := F4.keep Kq11 (ninS (Ne.symm ne0) nin0)
  have K11 : Keep h0 T11.heap [a0] := K3.trans Kq11 (allS (Or.inl (List.mem_of_getElem? (i := 0) rfl)) all0)
  have Z11 : n0 ≤ T11.heap.size := Nat.le_trans Z3 Kq11.1
  have Fq11_0' : Exa Z T11.heap a0 "com/example/tierfuse/tierfuse/format/BitReader" := Fq11_0
  have Fq11_1' : Fld Z T11.heap a0 "com/example/tierfuse/tierfuse/format/BitReader" "bytes" "[B" (.ref ab) := Fq11_1
  have Fq11_2' : Fld Z T11.heap a0 "com/example/tierfuse/tierfuse/format/BitReader" "next" "I" (.int nx3) := Fq11_2
  have Fq11_3' : Fld Z T11.heap a0 "com/example/tierfuse/tierfuse/format/BitReader" "end" "I" (.int en) := Fq11_3
  have Fq11_4' : Fld Z T11.heap a0 "com/example/tierfuse/tierfuse/format/BitReader" "window" "J" (.long (wi3 <<< (p1 &&& 0x3f).toInt64)) := Fq11_4
  have Fq11_5' : Fld Z T11.heap a0 "com/example/tierfuse/tierfuse/format/BitReader" "windowBits" "I" (.int (wb3 - p1)) := Fq11_5
  have pre13 : ∀ t, Steps p.tables e below (T11.setTop (mkF m 21 #[.val (.ref a0), .val (.int p1), .val (.long ((((wi3.toUInt64 >>> ((1 : Int32) &&& 0x3f).toInt64.toUInt64).toInt64).toUInt64 >>> (((63 : Int32) - p1) &&& 0x3f).toInt64.toUInt64).toInt64)), .second] [])) t → Steps p.tables e below (s₁.setTop (entryFrame m #[(.ref a0), (.int p1)] 4)) t := fun t kt => pre9 t (st11.trans kt)
  have pre14 : ∀ t, Steps p.tables e below (T11.setTop (mkF m 22 #[.val (.ref a0), .val (.int p1), .val (.long ((((wi3.toUInt64 >>> ((1 : Int32) &&& 0x3f).toInt64.toUInt64).toInt64).toUInt64 >>> (((63 : Int32) - p1) &&& 0x3f).toInt64.toUInt64).toInt64)), .second] [(.long ((((wi3.toUInt64 >>> ((1 : Int32) &&& 0x3f).toInt64.toUInt64).toInt64).toUInt64 >>> (((63 : Int32) - p1) &&& 0x3f).toInt64.toUInt64).toInt64))])) t → Steps p.tables e below (s₁.setTop (entryFrame m #[(.ref a0), (.int p1)] 4)) t := fun t kt => pre13 t (by
    show Steps p.tables e below (T11.setTop (mkF m 21 #[.val (.ref a0), .val (.int p1), .val (.long ((((wi3.toUInt64 >>> ((1 : Int32) &&& 0x3f).toInt64.toUInt64).toInt64).toUInt64 >>> (((63 : Int32) - p1) &&& 0x3f).toInt64.toUInt64).toInt64)), .second] [])) _
    refine XS.lloadN X11.here hx rfl (hb hby d5_21) rfl ?_
    exact kt)
  obtain ⟨fs, hr, hrun, hended, hW, hsame⟩ := X11.leave (v := some (.long ((((wi3.toUInt64 >>> ((1 : Int32) &&& 0x3f).toInt64.toUInt64).toInt64).toUInt64 >>> (((63 : Int32) - p1) &&& 0x3f).toInt64.toUInt64).toInt64))) (fun h => by rw [Bd.returns] at h; cases h)
  refine ⟨_, _, pre14 _ ?_, hrun, hended, _, _, rfl, ?_, ⟨_, rfl⟩, hW, hsame.mono (by decide) (by decide)⟩
  · show Steps p.tables e below (T11.setTop (mkF m 22 #[.val (.ref a0), .val (.int p1), .val (.long ((((wi3.toUInt64 >>> ((1 : Int32) &&& 0x3f).toInt64.toUInt64).toInt64).toUInt64 >>> (((63 : Int32) - p1) &&& 0x3f).toInt64.toUInt64).toInt64)), .second] [(.long ((((wi3.toUInt64 >>> ((1 : Int32) &&& 0x3f).toInt64.toUInt64).toInt64).toUInt64 >>> (((63 : Int32) - p1) &&& 0x3f).toInt64.toUInt64).toInt64))])) _
    exact retL X11 hx Bd.returns (hb hby d5_22) hr
  · show Q5 Z a0 p1 ab nx en wi wb h0 n0 _ T11.heap _
    exact ⟨_, nx3, (wi3 <<< (p1 &&& 0x3f).toInt64), (wb3 - p1), rfl, N11, K11, ⟨Fq11_0', Fq11_1', Fq11_2', Fq11_3', Fq11_4', Fq11_5'⟩, by
      have q := Rl3
      have u := own_isub wb3 p1 (by omega) (by omega)
      rw [u]
      omega⟩
theorem own_p32 {n : Int32} (h : 0 ≤ n.toInt ∧ n.toInt ≤ 64) (h2 : (32 : Int32) < n) : 0 ≤ (n - (32 : Int32)).toInt ∧ (n - (32 : Int32)).toInt ≤ 32 := by
  have u := own_isub n (32 : Int32) (by simp only [Int32.reduceToInt]; omega) (by simp only [Int32.reduceToInt]; omega)
  simp only [Int32.lt_iff_toInt_lt, Int32.reduceToInt] at *
  omega
theorem own_q32 {n : Int32} (h : 0 ≤ n.toInt ∧ n.toInt ≤ 64) (h2 : ¬ (32 : Int32) < n) : 0 ≤ n.toInt ∧ n.toInt ≤ 32 := by
  simp only [Int32.lt_iff_toInt_lt, Int32.reduceToInt] at *
  omega
theorem own_s32 {n : Int32} (h : 0 ≤ n.toInt ∧ n.toInt ≤ 64) : (n - (32 : Int32)).toInt = n.toInt - 32 := by
  have u := own_isub n (32 : Int32) (by simp only [Int32.reduceToInt]; omega) (by simp only [Int32.reduceToInt]; omega)
  simpa only [Int32.reduceToInt] using u
theorem own_l32 : (32 : Int32).toInt = 32 := by decide
theorem d4_0 : decode prog_42_method_3_code 0 = .ok (.iload_n 1, 1) := by decide +kernel
theorem d4_1 : decode prog_42_method_3_code 1 = .ok (.bipush 32, 2) := by decide +kernel
theorem d4_3 : decode prog_42_method_3_code 3 = .ok (.if_icmp .le 29, 3) := by decide +kernel
theorem d4_6 : decode prog_42_method_3_code 6 = .ok (.aload_n 0, 1) := by decide +kernel
theorem d4_7 : decode prog_42_method_3_code 7 = .ok (.iload_n 1, 1) := by decide +kernel
theorem d4_8 : decode prog_42_method_3_code 8 = .ok (.bipush 32, 2) := by decide +kernel
theorem d4_10 : decode prog_42_method_3_code 10 = .ok (.isub, 1) := by decide +kernel
theorem pd__I_J : parseMethodDescriptor "(I)J" = some ⟨[.int], some .long⟩ := by decide +kernel
theorem d4_11 : decode prog_42_method_3_code 11 = .ok (.invokevirtual 27, 3) := by decide +kernel
theorem d4_14 : decode prog_42_method_3_code 14 = .ok (.lstore 4, 2) := by decide +kernel
theorem d4_16 : decode prog_42_method_3_code 16 = .ok (.lload 4, 2) := by decide +kernel
theorem d4_18 : decode prog_42_method_3_code 18 = .ok (.bipush 32, 2) := by decide +kernel
theorem d4_20 : decode prog_42_method_3_code 20 = .ok (.lshl, 1) := by decide +kernel
theorem d4_21 : decode prog_42_method_3_code 21 = .ok (.aload_n 0, 1) := by decide +kernel
theorem d4_22 : decode prog_42_method_3_code 22 = .ok (.bipush 32, 2) := by decide +kernel
theorem d4_24 : decode prog_42_method_3_code 24 = .ok (.invokevirtual 27, 3) := by decide +kernel
theorem d4_27 : decode prog_42_method_3_code 27 = .ok (.lor, 1) := by decide +kernel
theorem d4_28 : decode prog_42_method_3_code 28 = .ok (.lstore_n 2, 1) := by decide +kernel
theorem d4_29 : decode prog_42_method_3_code 29 = .ok (.goto 9, 3) := by decide +kernel
theorem d4_38 : decode prog_42_method_3_code 38 = .ok (.lload_n 2, 1) := by decide +kernel
theorem d4_39 : decode prog_42_method_3_code 39 = .ok (.lreturn, 1) := by decide +kernel
theorem d4_32 : decode prog_42_method_3_code 32 = .ok (.aload_n 0, 1) := by decide +kernel
theorem d4_33 : decode prog_42_method_3_code 33 = .ok (.iload_n 1, 1) := by decide +kernel
theorem d4_34 : decode prog_42_method_3_code 34 = .ok (.invokevirtual 27, 3) := by decide +kernel
theorem d4_37 : decode prog_42_method_3_code 37 = .ok (.lstore_n 2, 1) := by decide +kernel
theorem ef4 (m : MethodId) (x0 : Addr) (x1 : Int32) : entryFrame m #[(.ref x0), (.int x1)] 6 = mkF m 0 #[.val (.ref x0), .val (.int x1), .unset, .unset, .unset, .unset] [] := by first | (simp [entryFrame, mkF, argsToLocals, Value.category]; done) | rfl
def Q4 (Z : State) (a0 : Addr) (p1 : Int32) (ab : Addr) (nx : Int32) (en : Int32) (wi : Int64) (wb : Int32) (h0 : Heap) (n0 : Nat) (v : Option Value) (h : Heap) (L : List Loc) : Prop := ∃ (rr : Int64) (nx' : Int32) (wi' : Int64) (wb' : Int32), v = some (.long rr) ∧ Fr n0 L ∧ Keep h0 h [a0] ∧ (Exa Z h a0 "com/example/tierfuse/tierfuse/format/BitReader" ∧ Fld Z h a0 "com/example/tierfuse/tierfuse/format/BitReader" "bytes" "[B" (.ref ab) ∧ Fld Z h a0 "com/example/tierfuse/tierfuse/format/BitReader" "next" "I" (.int nx') ∧ Fld Z h a0 "com/example/tierfuse/tierfuse/format/BitReader" "end" "I" (.int en) ∧ Fld Z h a0 "com/example/tierfuse/tierfuse/format/BitReader" "window" "J" (.long wi') ∧ Fld Z h a0 "com/example/tierfuse/tierfuse/format/BitReader" "windowBits" "I" (.int wb')) ∧ (wb'.toInt - 8 * nx'.toInt = wb.toInt - 8 * nx.toInt - p1.toInt ∧ 0 ≤ wb'.toInt ∧ wb'.toInt ≤ 64 ∧ nx.toInt ≤ nx'.toInt ∧ nx'.toInt ≤ nx.toInt + 16)
set_option maxRecDepth 65536 in
set_option maxHeartbeats 40000000 in
theorem rm4 (l : Launch) (Z : State) (av : Array Value) (hw : ∀ d ∈ tables_1, d.before av Z = true) (ws : List Jvm.Cond) (a0 : Addr) (p1 : Int32) (ab : Addr) (nx : Int32) (en : Int32) (wi : Int64) (wb : Int32) (h0 : Heap) (n0 : Nat) (Z0 : n0 ≤ h0.size) (E_a0 : Exa Z h0 a0 "com/example/tierfuse/tierfuse/format/BitReader") (g_a0 : n0 ≤ a0) (I_bytes : Fld Z h0 a0 "com/example/tierfuse/tierfuse/format/BitReader" "bytes" "[B" (.ref ab)) (I_next : Fld Z h0 a0 "com/example/tierfuse/tierfuse/format/BitReader" "next" "I" (.int nx)) (I_end : Fld Z h0 a0 "com/example/tierfuse/tierfuse/format/BitReader" "end" "I" (.int en)) (I_window : Fld Z h0 a0 "com/example/tierfuse/tierfuse/format/BitReader" "window" "J" (.long wi)) (I_windowBits : Fld Z h0 a0 "com/example/tierfuse/tierfuse/format/BitReader" "windowBits" "I" (.int wb)) (A0 : own_A Z h0 ab) (ne0 : a0 ≠ ab) (hwb : 0 ≤ wb.toInt ∧ wb.toInt ≤ 64) (hnx : 0 ≤ nx.toInt ∧ nx.toInt ≤ 400) (hen : en.toInt ≤ 8) (hp1 : 0 ≤ p1.toInt ∧ p1.toInt ≤ 64) :
    MetFree l (⟨"com/example/tierfuse/tierfuse/format/BitReader", "read", "(I)J"⟩ : MethodName) (head1 (Jvm.Cond.code (⟨"com/example/tierfuse/tierfuse/format/BitReader", "read", "(I)J"⟩ : MethodName) prog_42_method_3_code 6 (some .long) :: ws) ({ frames := 2, cells := 0, slots := 0, locals := 31 } : Room)) (fun a U => a = #[(.ref a0), (.int p1)] ∧ Z.Warmed39 U.vm ∧ U.heap = h0) (fun _ _ _ _ _ => True) (fun _ U o U' => ∃ v L, o = .returned v ∧ Q4 Z a0 p1 ab nx en wi wb h0 n0 v U'.heap L ∧ FrameEnd U o U' L ({ frames := 2, cells := 0, slots := 0, locals := 31 } : Room).cells ({ frames := 2, cells := 0, slots := 0, locals := 31 } : Room).slots) := by
  refine MetFree.of_bodySF (plainFor_of_name pn_com_example_tierfuse_tierfuse_format_BitReader) hisR ?_
  intro p e s m args below meth c s₁ Bd hml0 hP hK
  obtain ⟨rfl, hZ, hh⟩ := hP
  have hx := Bd.exec
  have hby := Bd.bytes
  have hml : c.maxLocals = 6 := hml0
  have hown : s.vm.findClass "com/example/tierfuse/tierfuse/format/BitReader" = some m.cls := findClass_of_methodNamed Bd.named
  have hnm := (name_of_methodNamed Bd.named Bd.method).1
  have X0 : Stand p l e ({ frames := 2, cells := 0, slots := 0, locals := 31 } : Room) s m #[(.ref a0), (.int p1)] below meth c s₁ [] 0 0 := Stand.of_body Bd
  have e0 : s₁.heap = h0 := by rw [← hh, Bd.state]; rfl
  have N0 := Fr.nil n0
  have K0 : Keep h0 h0 [a0] := Keep.refl h0 [a0]
  have pre0 : ∀ t, Steps p.tables e below (s₁.setTop (mkF m 0 #[.val (.ref a0), .val (.int p1), .unset, .unset, .unset, .unset] [])) t → Steps p.tables e below (s₁.setTop (entryFrame m #[(.ref a0), (.int p1)] 6)) t := fun t k => castTop (ef4 m a0 p1) k
  have pre1 : ∀ t, Steps p.tables e below (s₁.setTop (mkF m 3 #[.val (.ref a0), .val (.int p1), .unset, .unset, .unset, .unset] [(.int (32 : Int32)), (.int p1)])) t → Steps p.tables e below (s₁.setTop (entryFrame m #[(.ref a0), (.int p1)] 6)) t := fun t kt => pre0 t (by
    show Steps p.tables e below (s₁.setTop (mkF m 0 #[.val (.ref a0), .val (.int p1), .unset, .unset, .unset, .unset] [])) _
    refine XS.iloadN X0.here hx rfl (hb hby d4_0) rfl ?_
    show Steps p.tables e below (s₁.setTop (mkF m 1 #[.val (.ref a0), .val (.int p1), .unset, .unset, .unset, .unset] [(.int p1)])) _
    refine XS.bipush X0.here hx rfl (hb hby d4_1) ?_
    exact kt)
  by_cases hc3_2 : (32 : Int32) < p1
  · have pre3 : ∀ t, Steps p.tables e below (s₁.setTop (mkF m 11 #[.val (.ref a0), .val (.int p1), .unset, .unset, .unset, .unset] [(.int (p1 - (32 : Int32))), (.ref a0)])) t → Steps p.tables e below (s₁.setTop (entryFrame m #[(.ref a0), (.int p1)] 6)) t := fun t kt => pre1 t (by
      show Steps p.tables e below (s₁.setTop (mkF m 3 #[.val (.ref a0), .val (.int p1), .unset, .unset, .unset, .unset] [(.int (32 : Int32)), (.int p1)])) _
      refine XS.icmpNo X0.here hx rfl (hb hby d4_3) rfl (tlt hc3_2).2.2.2 ?_
      show Steps p.tables e below (s₁.setTop (mkF m 6 #[.val (.ref a0), .val (.int p1), .unset, .unset, .unset, .unset] [])) _
      refine XS.aloadN X0.here hx rfl (hb hby d4_6) rfl rfl ?_
      show Steps p.tables e below (s₁.setTop (mkF m 7 #[.val (.ref a0), .val (.int p1), .unset, .unset, .unset, .unset] [(.ref a0)])) _
      refine XS.iloadN X0.here hx rfl (hb hby d4_7) rfl ?_
      show Steps p.tables e below (s₁.setTop (mkF m 8 #[.val (.ref a0), .val (.int p1), .unset, .unset, .unset, .unset] [(.int p1), (.ref a0)])) _
      refine XS.bipush X0.here hx rfl (hb hby d4_8) ?_
      show Steps p.tables e below (s₁.setTop (mkF m 10 #[.val (.ref a0), .val (.int p1), .unset, .unset, .unset, .unset] [(.int (32 : Int32)), (.int p1), (.ref a0)])) _
      refine XS.isub X0.here hx rfl (hb hby d4_10) rfl ?_
      exact kt)
    obtain ⟨cq4, q4, q4'⟩ := E_a0.cell
    obtain ⟨_, _, ⟨T5, L5, k5, n5⟩, -, X5, ⟨Lc5, hQ5, l5, y5, z5⟩, st5⟩ := X0.privateBack hx (y := (⟨"com/example/tierfuse/tierfuse/format/BitReader", "take", "(I)J"⟩ : MethodName)) hown (mvT hZ (hw _ (List.mem_of_getElem? (i := 31) rfl))) (mvT hZ (hw _ (List.mem_of_getElem? (i := 32) rfl))) (own_sel (r := (⟨"com/example/tierfuse/tierfuse/format/BitReader", "remaining", "()J"⟩ : MethodName)) rfl (mvT hZ (hw _ (List.mem_of_getElem? (i := 21) rfl))) (Cond.privateMethod_at (mvP hZ (hw _ (List.mem_of_getElem? (i := 33) rfl)) (args := #[]))) (mvT hZ (hw _ (List.mem_of_getElem? (i := 32) rfl))) (by decide)) (Cond.privateMethod_at (mvP hZ (hw _ (List.mem_of_getElem? (i := 33) rfl)) (args := #[]))) (mvT hZ (hw _ (List.mem_of_getElem? (i := 34) rfl))) (by decide) (backOf (W := 0) (rm5 l Z av hw [] a0 (p1 - (32 : Int32)) ab nx en wi wb h0 n0 Z0 E_a0 g_a0 I_bytes I_next I_end I_window I_windowBits A0 ne0 hwb ⟨hnx.1, by omega⟩ hen (own_p32 hp1 hc3_2)) hZ (hw _ (List.mem_of_getElem? (i := 34) rfl)) (hw _ (List.mem_of_getElem? (i := 4) rfl)) (by decide) (by decide)) (g := (mkF m 11 #[.val (.ref a0), .val (.int p1), .unset, .unset, .unset, .unset] [(.int (p1 - (32 : Int32))), (.ref a0)])) rfl (by rw [hml]; rfl) (Steps.refl _) (a := a0) (by rw [e0]; exact q4) q4' (argsL := [(.int (p1 - (32 : Int32)))]) (rest := []) (lenOf pd__I_J rfl) rfl (by show 2 * 0 + _ ≤ _; exact Nat.le_of_eq rfl) (hb hby d4_11) (fun _ _ => ⟨rfl, e0, (by decide : 0 + 0 ≤ _), (by decide : 0 + 0 ≤ _)⟩)
    dsimp only [Pt.U, Pt.locs, Pt.cells, Pt.slots] at X5 l5 y5 z5 st5 hQ5
    subst l5 y5 z5
    obtain ⟨rr5, nx5, wi5, wb5, rfl, Nz5, Kz5, ⟨Gz0, Gz1, Gz2, Gz3, Gz4, Gz5⟩, Rl5⟩ := hQ5
    have hQ5 := And.intro (rfl : (0 : Nat) = 0) (And.intro Nz5 (And.intro Kz5 (And.intro Gz0 (And.intro Gz1 (And.intro Gz2 (And.intro Gz3 (And.intro Gz4 Gz5)))))))
    obtain ⟨-, N5q, Kq5, Fq5_0, Fq5_1, Fq5_2, Fq5_3, Fq5_4, Fq5_5⟩ := hQ5
    have N5 := Fr.app N0 N5q
    have F6 : own_A Z T5.heap ab := A0.keep Kq5 (ninS (Ne.symm ne0) nin0)
    have K5 : Keep h0 T5.heap [a0] := K0.trans Kq5 (allS (Or.inl (List.mem_of_getElem? (i := 0) rfl)) all0)
    have Z5 : n0 ≤ T5.heap.size := Nat.le_trans Z0 Kq5.1
    have Fq5_0' : Exa Z T5.heap a0 "com/example/tierfuse/tierfuse/format/BitReader" := Fq5_0
    have Fq5_1' : Fld Z T5.heap a0 "com/example/tierfuse/tierfuse/format/BitReader" "bytes" "[B" (.ref ab) := Fq5_1
    have Fq5_2' : Fld Z T5.heap a0 "com/example/tierfuse/tierfuse/format/BitReader" "next" "I" (.int nx5) := Fq5_2
    have Fq5_3' : Fld Z T5.heap a0 "com/example/tierfuse/tierfuse/format/BitReader" "end" "I" (.int en) := Fq5_3
    have Fq5_4' : Fld Z T5.heap a0 "com/example/tierfuse/tierfuse/format/BitReader" "window" "J" (.long wi5) := Fq5_4
    have Fq5_5' : Fld Z T5.heap a0 "com/example/tierfuse/tierfuse/format/BitReader" "windowBits" "I" (.int wb5) := Fq5_5
    have pre7 : ∀ t, Steps p.tables e below (T5.setTop (mkF m 14 #[.val (.ref a0), .val (.int p1), .unset, .unset, .unset, .unset] [(.long rr5)])) t → Steps p.tables e below (s₁.setTop (entryFrame m #[(.ref a0), (.int p1)] 6)) t := fun t kt => pre3 t (st5.trans kt)
    have pre8 : ∀ t, Steps p.tables e below (T5.setTop (mkF m 24 #[.val (.ref a0), .val (.int p1), .unset, .unset, .val (.long rr5), .second] [(.int (32 : Int32)), (.ref a0), (.long (rr5 <<< ((32 : Int32) &&& 0x3f).toInt64))])) t → Steps p.tables e below (s₁.setTop (entryFrame m #[(.ref a0), (.int p1)] 6)) t := fun t kt => pre7 t (by
      show Steps p.tables e below (T5.setTop (mkF m 14 #[.val (.ref a0), .val (.int p1), .unset, .unset, .unset, .unset] [(.long rr5)])) _
      refine XS.lstore X5.here hx rfl (hb hby d4_14) rfl (l' := #[.val (.ref a0), .val (.int p1), .unset, .unset, .val (.long rr5), .second]) rfl ?_
      show Steps p.tables e below (T5.setTop (mkF m 16 #[.val (.ref a0), .val (.int p1), .unset, .unset, .val (.long rr5), .second] [])) _
      refine XS.lload X5.here hx rfl (hb hby d4_16) rfl ?_
      show Steps p.tables e below (T5.setTop (mkF m 18 #[.val (.ref a0), .val (.int p1), .unset, .unset, .val (.long rr5), .second] [(.long rr5)])) _
      refine XS.bipush X5.here hx rfl (hb hby d4_18) ?_
      show Steps p.tables e below (T5.setTop (mkF m 20 #[.val (.ref a0), .val (.int p1), .unset, .unset, .val (.long rr5), .second] [(.int (32 : Int32)), (.long rr5)])) _
      refine XS.lshl X5.here hx rfl (hb hby d4_20) rfl ?_
      show Steps p.tables e below (T5.setTop (mkF m 21 #[.val (.ref a0), .val (.int p1), .unset, .unset, .val (.long rr5), .second] [(.long (rr5 <<< ((32 : Int32) &&& 0x3f).toInt64))])) _
      refine XS.aloadN X5.here hx rfl (hb hby d4_21) rfl rfl ?_
      show Steps p.tables e below (T5.setTop (mkF m 22 #[.val (.ref a0), .val (.int p1), .unset, .unset, .val (.long rr5), .second] [(.ref a0), (.long (rr5 <<< ((32 : Int32) &&& 0x3f).toInt64))])) _
      refine XS.bipush X5.here hx rfl (hb hby d4_22) ?_
      exact kt)
    obtain ⟨cq9, q9, q9'⟩ := Fq5_0'.cell
    obtain ⟨_, _, ⟨T10, L10, k10, n10⟩, -, X10, ⟨Lc10, hQ10, l10, y10, z10⟩, st10⟩ := X5.privateBack hx (y := (⟨"com/example/tierfuse/tierfuse/format/BitReader", "take", "(I)J"⟩ : MethodName)) hown (mvT hZ (hw _ (List.mem_of_getElem? (i := 31) rfl))) (mvT hZ (hw _ (List.mem_of_getElem? (i := 32) rfl))) (own_sel (r := (⟨"com/example/tierfuse/tierfuse/format/BitReader", "remaining", "()J"⟩ : MethodName)) rfl (mvT hZ (hw _ (List.mem_of_getElem? (i := 21) rfl))) (Cond.privateMethod_at (mvP hZ (hw _ (List.mem_of_getElem? (i := 33) rfl)) (args := #[]))) (mvT hZ (hw _ (List.mem_of_getElem? (i := 32) rfl))) (by decide)) (Cond.privateMethod_at (mvP hZ (hw _ (List.mem_of_getElem? (i := 33) rfl)) (args := #[]))) (mvT hZ (hw _ (List.mem_of_getElem? (i := 34) rfl))) (by decide) (backOf (W := 2) (rm5 l Z av hw [] a0 (32 : Int32) ab nx5 en wi5 wb5 T5.heap n0 Z5 Fq5_0' g_a0 Fq5_1' Fq5_2' Fq5_3' Fq5_4' Fq5_5' F6 ne0 (by have q0 := Rl5; omega) (by have q0 := Rl5; omega) hen ⟨by decide, by decide⟩) hZ (hw _ (List.mem_of_getElem? (i := 34) rfl)) (hw _ (List.mem_of_getElem? (i := 4) rfl)) (by decide) (by decide)) (g := (mkF m 24 #[.val (.ref a0), .val (.int p1), .unset, .unset, .val (.long rr5), .second] [(.int (32 : Int32)), (.ref a0), (.long (rr5 <<< ((32 : Int32) &&& 0x3f).toInt64))])) rfl (by rw [hml]; rfl) (Steps.refl _) (a := a0) q9 q9' (argsL := [(.int (32 : Int32))]) (rest := [(.long (rr5 <<< ((32 : Int32) &&& 0x3f).toInt64))]) (lenOf pd__I_J rfl) rfl (by show 2 * 0 + _ ≤ _; exact Nat.le_of_eq rfl) (hb hby d4_24) (fun _ _ => ⟨rfl, rfl, (by decide : 0 + 0 ≤ _), (by decide : 0 + 0 ≤ _)⟩)
    dsimp only [Pt.U, Pt.locs, Pt.cells, Pt.slots] at X10 l10 y10 z10 st10 hQ10
    subst l10 y10 z10
    obtain ⟨rr10, nx10, wi10, wb10, rfl, Nz10, Kz10, ⟨Gz0, Gz1, Gz2, Gz3, Gz4, Gz5⟩, Rl10⟩ := hQ10
    have hQ10 := And.intro (rfl : (0 : Nat) = 0) (And.intro Nz10 (And.intro Kz10 (And.intro Gz0 (And.intro Gz1 (And.intro Gz2 (And.intro Gz3 (And.intro Gz4 Gz5)))))))
    obtain ⟨-, N10q, Kq10, Fq10_0, Fq10_1, Fq10_2, Fq10_3, Fq10_4, Fq10_5⟩ := hQ10
    have N10 := Fr.app N5 N10q
    have F11 : own_A Z T10.heap ab := F6.keep Kq10 (ninS (Ne.symm ne0) nin0)
    have K10 : Keep h0 T10.heap [a0] := K5.trans Kq10 (allS (Or.inl (List.mem_of_getElem? (i := 0) rfl)) all0)
    have Z10 : n0 ≤ T10.heap.size := Nat.le_trans Z5 Kq10.1
    have Fq10_0' : Exa Z T10.heap a0 "com/example/tierfuse/tierfuse/format/BitReader" := Fq10_0
    have Fq10_1' : Fld Z T10.heap a0 "com/example/tierfuse/tierfuse/format/BitReader" "bytes" "[B" (.ref ab) := Fq10_1
    have Fq10_2' : Fld Z T10.heap a0 "com/example/tierfuse/tierfuse/format/BitReader" "next" "I" (.int nx10) := Fq10_2
    have Fq10_3' : Fld Z T10.heap a0 "com/example/tierfuse/tierfuse/format/BitReader" "end" "I" (.int en) := Fq10_3
    have Fq10_4' : Fld Z T10.heap a0 "com/example/tierfuse/tierfuse/format/BitReader" "window" "J" (.long wi10) := Fq10_4
    have Fq10_5' : Fld Z T10.heap a0 "com/example/tierfuse/tierfuse/format/BitReader" "windowBits" "I" (.int wb10) := Fq10_5
    have pre12 : ∀ t, Steps p.tables e below (T10.setTop (mkF m 27 #[.val (.ref a0), .val (.int p1), .unset, .unset, .val (.long rr5), .second] [(.long rr10), (.long (rr5 <<< ((32 : Int32) &&& 0x3f).toInt64))])) t → Steps p.tables e below (s₁.setTop (entryFrame m #[(.ref a0), (.int p1)] 6)) t := fun t kt => pre8 t (st10.trans kt)
    have pre13 : ∀ t, Steps p.tables e below (T10.setTop (mkF m 39 #[.val (.ref a0), .val (.int p1), .val (.long ((rr5 <<< ((32 : Int32) &&& 0x3f).toInt64) ||| rr10)), .second, .val (.long rr5), .second] [(.long ((rr5 <<< ((32 : Int32) &&& 0x3f).toInt64) ||| rr10))])) t → Steps p.tables e below (s₁.setTop (entryFrame m #[(.ref a0), (.int p1)] 6)) t := fun t kt => pre12 t (by
      show Steps p.tables e below (T10.setTop (mkF m 27 #[.val (.ref a0), .val (.int p1), .unset, .unset, .val (.long rr5), .second] [(.long rr10), (.long (rr5 <<< ((32 : Int32) &&& 0x3f).toInt64))])) _
      refine XS.lor X10.here hx rfl (hb hby d4_27) rfl ?_
      show Steps p.tables e below (T10.setTop (mkF m 28 #[.val (.ref a0), .val (.int p1), .unset, .unset, .val (.long rr5), .second] [(.long ((rr5 <<< ((32 : Int32) &&& 0x3f).toInt64) ||| rr10))])) _
      refine XS.lstoreN X10.here hx rfl (hb hby d4_28) rfl (l' := #[.val (.ref a0), .val (.int p1), .val (.long ((rr5 <<< ((32 : Int32) &&& 0x3f).toInt64) ||| rr10)), .second, .val (.long rr5), .second]) rfl ?_
      show Steps p.tables e below (T10.setTop (mkF m 29 #[.val (.ref a0), .val (.int p1), .val (.long ((rr5 <<< ((32 : Int32) &&& 0x3f).toInt64) ||| rr10)), .second, .val (.long rr5), .second] [])) _
      refine XS.goto X10.here hx rfl (pc0 := 29) (pc' := 38) rfl (hb hby d4_29) (by decide) (by decide) ?_
      show Steps p.tables e below (T10.setTop (mkF m 38 #[.val (.ref a0), .val (.int p1), .val (.long ((rr5 <<< ((32 : Int32) &&& 0x3f).toInt64) ||| rr10)), .second, .val (.long rr5), .second] [])) _
      refine XS.lloadN X10.here hx rfl (hb hby d4_38) rfl ?_
      exact kt)
    obtain ⟨fs, hr, hrun, hended, hW, hsame⟩ := X10.leave (v := some (.long ((rr5 <<< ((32 : Int32) &&& 0x3f).toInt64) ||| rr10))) (fun h => by rw [Bd.returns] at h; cases h)
    refine ⟨_, _, pre13 _ ?_, hrun, hended, _, _, rfl, ?_, ⟨_, rfl⟩, hW, hsame.mono (by decide) (by decide)⟩
    · show Steps p.tables e below (T10.setTop (mkF m 39 #[.val (.ref a0), .val (.int p1), .val (.long ((rr5 <<< ((32 : Int32) &&& 0x3f).toInt64) ||| rr10)), .second, .val (.long rr5), .second] [(.long ((rr5 <<< ((32 : Int32) &&& 0x3f).toInt64) ||| rr10))])) _
      exact retL X10 hx Bd.returns (hb hby d4_39) hr
    · show Q4 Z a0 p1 ab nx en wi wb h0 n0 _ T10.heap _
      exact ⟨_, nx10, wi10, wb10, rfl, N10, K10, ⟨Fq10_0', Fq10_1', Fq10_2', Fq10_3', Fq10_4', Fq10_5'⟩, by
        have u := own_s32 hp1
        have u2 := own_l32
        have q0 := Rl5
        simp only [u, u2] at q0
        have q1 := Rl10
        simp only [u, u2] at q1
        omega⟩
  · have pre14 : ∀ t, Steps p.tables e below (s₁.setTop (mkF m 34 #[.val (.ref a0), .val (.int p1), .unset, .unset, .unset, .unset] [(.int p1), (.ref a0)])) t → Steps p.tables e below (s₁.setTop (entryFrame m #[(.ref a0), (.int p1)] 6)) t := fun t kt => pre1 t (by
      show Steps p.tables e below (s₁.setTop (mkF m 3 #[.val (.ref a0), .val (.int p1), .unset, .unset, .unset, .unset] [(.int (32 : Int32)), (.int p1)])) _
      refine XS.icmpYes X0.here hx rfl (pc0 := 3) (pc' := 32) rfl (hb hby d4_3) rfl (flt hc3_2).2.2.2 (by decide) (by decide) ?_
      show Steps p.tables e below (s₁.setTop (mkF m 32 #[.val (.ref a0), .val (.int p1), .unset, .unset, .unset, .unset] [])) _
      refine XS.aloadN X0.here hx rfl (hb hby d4_32) rfl rfl ?_
      show Steps p.tables e below (s₁.setTop (mkF m 33 #[.val (.ref a0), .val (.int p1), .unset, .unset, .unset, .unset] [(.ref a0)])) _
      refine XS.iloadN X0.here hx rfl (hb hby d4_33) rfl ?_
      exact kt)
    obtain ⟨cq15, q15, q15'⟩ := E_a0.cell
    obtain ⟨_, _, ⟨T16, L16, k16, n16⟩, -, X16, ⟨Lc16, hQ16, l16, y16, z16⟩, st16⟩ := X0.privateBack hx (y := (⟨"com/example/tierfuse/tierfuse/format/BitReader", "take", "(I)J"⟩ : MethodName)) hown (mvT hZ (hw _ (List.mem_of_getElem? (i := 31) rfl))) (mvT hZ (hw _ (List.mem_of_getElem? (i := 32) rfl))) (own_sel (r := (⟨"com/example/tierfuse/tierfuse/format/BitReader", "remaining", "()J"⟩ : MethodName)) rfl (mvT hZ (hw _ (List.mem_of_getElem? (i := 21) rfl))) (Cond.privateMethod_at (mvP hZ (hw _ (List.mem_of_getElem? (i := 33) rfl)) (args := #[]))) (mvT hZ (hw _ (List.mem_of_getElem? (i := 32) rfl))) (by decide)) (Cond.privateMethod_at (mvP hZ (hw _ (List.mem_of_getElem? (i := 33) rfl)) (args := #[]))) (mvT hZ (hw _ (List.mem_of_getElem? (i := 34) rfl))) (by decide) (backOf (W := 0) (rm5 l Z av hw [] a0 p1 ab nx en wi wb h0 n0 Z0 E_a0 g_a0 I_bytes I_next I_end I_window I_windowBits A0 ne0 hwb ⟨hnx.1, by omega⟩ hen (own_q32 hp1 hc3_2)) hZ (hw _ (List.mem_of_getElem? (i := 34) rfl)) (hw _ (List.mem_of_getElem? (i := 4) rfl)) (by decide) (by decide)) (g := (mkF m 34 #[.val (.ref a0), .val (.int p1), .unset, .unset, .unset, .unset] [(.int p1), (.ref a0)])) rfl (by rw [hml]; rfl) (Steps.refl _) (a := a0) (by rw [e0]; exact q15) q15' (argsL := [(.int p1)]) (rest := []) (lenOf pd__I_J rfl) rfl (by show 2 * 0 + _ ≤ _; exact Nat.le_of_eq rfl) (hb hby d4_34) (fun _ _ => ⟨rfl, e0, (by decide : 0 + 0 ≤ _), (by decide : 0 + 0 ≤ _)⟩)
    dsimp only [Pt.U, Pt.locs, Pt.cells, Pt.slots] at X16 l16 y16 z16 st16 hQ16
    subst l16 y16 z16
    obtain ⟨rr16, nx16, wi16, wb16, rfl, Nz16, Kz16, ⟨Gz0, Gz1, Gz2, Gz3, Gz4, Gz5⟩, Rl16⟩ := hQ16
    have hQ16 := And.intro (rfl : (0 : Nat) = 0) (And.intro Nz16 (And.intro Kz16 (And.intro Gz0 (And.intro Gz1 (And.intro Gz2 (And.intro Gz3 (And.intro Gz4 Gz5)))))))
    obtain ⟨-, N16q, Kq16, Fq16_0, Fq16_1, Fq16_2, Fq16_3, Fq16_4, Fq16_5⟩ := hQ16
    have N16 := Fr.app N0 N16q
    have F17 : own_A Z T16.heap ab := A0.keep Kq16 (ninS (Ne.symm ne0) nin0)
    have K16 : Keep h0 T16.heap [a0] := K0.trans Kq16 (allS (Or.inl (List.mem_of_getElem? (i := 0) rfl)) all0)
    have Z16 : n0 ≤ T16.heap.size := Nat.le_trans Z0 Kq16.1
    have Fq16_0' : Exa Z T16.heap a0 "com/example/tierfuse/tierfuse/format/BitReader" := Fq16_0
    have Fq16_1' : Fld Z T16.heap a0 "com/example/tierfuse/tierfuse/format/BitReader" "bytes" "[B" (.ref ab) := Fq16_1
    have Fq16_2' : Fld Z T16.heap a0 "com/example/tierfuse/tierfuse/format/BitReader" "next" "I" (.int nx16) := Fq16_2
    have Fq16_3' : Fld Z T16.heap a0 "com/example/tierfuse/tierfuse/format/BitReader" "end" "I" (.int en) := Fq16_3
    have Fq16_4' : Fld Z T16.heap a0 "com/example/tierfuse/tierfuse/format/BitReader" "window" "J" (.long wi16) := Fq16_4
    have Fq16_5' : Fld Z T16.heap a0 "com/example/tierfuse/tierfuse/format/BitReader" "windowBits" "I" (.int wb16) := Fq16_5
    have pre18 : ∀ t, Steps p.tables e below (T16.setTop (mkF m 37 #[.val (.ref a0), .val (.int p1), .unset, .unset, .unset, .unset] [(.long rr16)])) t → Steps p.tables e below (s₁.setTop (entryFrame m #[(.ref a0), (.int p1)] 6)) t := fun t kt => pre14 t (st16.trans kt)
    have pre19 : ∀ t, Steps p.tables e below (T16.setTop (mkF m 39 #[.val (.ref a0), .val (.int p1), .val (.long rr16), .second, .unset, .unset] [(.long rr16)])) t → Steps p.tables e below (s₁.setTop (entryFrame m #[(.ref a0), (.int p1)] 6)) t := fun t kt => pre18 t (by
      show Steps p.tables e below (T16.setTop (mkF m 37 #[.val (.ref a0), .val (.int p1), .unset, .unset, .unset, .unset] [(.long rr16)])) _
      refine XS.lstoreN X16.here hx rfl (hb hby d4_37) rfl (l' := #[.val (.ref a0), .val (.int p1), .val (.long rr16), .second, .unset, .unset]) rfl ?_
      show Steps p.tables e below (T16.setTop (mkF m 38 #[.val (.ref a0), .val (.int p1), .val (.long rr16), .second, .unset, .unset] [])) _
      refine XS.lloadN X16.here hx rfl (hb hby d4_38) rfl ?_
      exact kt)
    obtain ⟨fs, hr, hrun, hended, hW, hsame⟩ := X16.leave (v := some (.long rr16)) (fun h => by rw [Bd.returns] at h; cases h)
    refine ⟨_, _, pre19 _ ?_, hrun, hended, _, _, rfl, ?_, ⟨_, rfl⟩, hW, hsame.mono (by decide) (by decide)⟩
    · show Steps p.tables e below (T16.setTop (mkF m 39 #[.val (.ref a0), .val (.int p1), .val (.long rr16), .second, .unset, .unset] [(.long rr16)])) _
      exact retL X16 hx Bd.returns (hb hby d4_39) hr
    · show Q4 Z a0 p1 ab nx en wi wb h0 n0 _ T16.heap _
      exact ⟨_, nx16, wi16, wb16, rfl, N16, K16, ⟨Fq16_0', Fq16_1', Fq16_2', Fq16_3', Fq16_4', Fq16_5'⟩, by
        have u := own_s32 hp1
        have u2 := own_l32
        have q0 := Rl16
        omega⟩
theorem own_rem (nx en wb : Int32) (wi : Int64) (h1 : 0 ≤ nx.toInt ∧ nx.toInt ≤ 1000) (h2 : 0 ≤ en.toInt ∧ en.toInt ≤ 8) (h3 : 0 ≤ wb.toInt ∧ wb.toInt ≤ 64) : (f_rem nx en wi wb).toInt = 8 * (en.toInt - nx.toInt) + wb.toInt := by
  have u := own_isub en nx (by omega) (by omega)
  have e1 := c_i2l (en - nx)
  have e2 := c_lmul (8 : Int64) (en - nx).toInt64
  have r2 := rng64 ((8 : Int64) * (en - nx).toInt64)
  have e3 := c_i2l wb
  have e4 := c_ladd ((8 : Int64) * (en - nx).toInt64) wb.toInt64
  have r4 := rng64 ((8 : Int64) * (en - nx).toInt64 + wb.toInt64)
  unfold f_rem
  simp only [Int64.reduceToInt] at *
  omega
theorem own_nn (x : Int32) : 0 ≤ (x &&& (2147483647 : Int32)).toInt := by
  have := c_mask x (2147483647 : Int32) 31 (by decide) (by decide)
  omega
theorem own_fr (x : Int32) : 0 ≤ ((x &&& (2147483647 : Int32)) % (9 : Int32)).toInt ∧ ((x &&& (2147483647 : Int32)) % (9 : Int32)).toInt ≤ 8 := by
  have h2 := (c_irem (x &&& (2147483647 : Int32)) (9 : Int32) 9 (by decide)).1 (own_nn x)
  omega
theorem own_k (x : Int32) : 0 ≤ ((x &&& (2147483647 : Int32)) % (65 : Int32)).toInt ∧ ((x &&& (2147483647 : Int32)) % (65 : Int32)).toInt ≤ 64 := by
  have h2 := (c_irem (x &&& (2147483647 : Int32)) (65 : Int32) 65 (by decide)).1 (own_nn x)
  omega
theorem own_d9 (f : Int32) (h : 0 ≤ f.toInt ∧ f.toInt ≤ 8) : ((9 : Int32) - f).toInt = 9 - f.toInt := by
  have u := own_isub (9 : Int32) f (by simp only [Int32.reduceToInt]; omega) (by simp only [Int32.reduceToInt]; omega)
  simpa only [Int32.reduceToInt] using u
theorem own_nz9 (f : Int32) (h : 0 ≤ f.toInt ∧ f.toInt ≤ 8) : ((9 : Int32) - f) ≠ 0 := by
  intro q
  have u := own_d9 f h
  rw [q] at u
  simp only [Int32.reduceToInt] at u
  omega
theorem own_to (f t : Int32) (h : 0 ≤ f.toInt ∧ f.toInt ≤ 8) : f.toInt ≤ (f + ((t &&& (2147483647 : Int32)) % ((9 : Int32) - f))).toInt ∧ (f + ((t &&& (2147483647 : Int32)) % ((9 : Int32) - f))).toInt ≤ 8 := by
  have u := own_d9 f h
  have hn := own_nn t
  have hr := (c_iremV (t &&& (2147483647 : Int32)) ((9 : Int32) - f)).1 hn (by omega)
  have e := c_iadd f ((t &&& (2147483647 : Int32)) % ((9 : Int32) - f))
  have r := rng32 (f + ((t &&& (2147483647 : Int32)) % ((9 : Int32) - f)))
  omega
theorem own_tot (f t : Int32) (h : 0 ≤ f.toInt ∧ f.toInt ≤ 8) (h2 : f.toInt ≤ t.toInt ∧ t.toInt ≤ 8) : ((8 : Int64) * (t - f).toInt64).toInt = 8 * (t.toInt - f.toInt) := by
  have u := own_isub t f (by omega) (by omega)
  have e1 := c_i2l (t - f)
  have e2 := c_lmul (8 : Int64) (t - f).toInt64
  have r2 := rng64 ((8 : Int64) * (t - f).toInt64)
  simp only [Int64.reduceToInt] at *
  omega
theorem own_lk (x : Int64) (k : Int32) (h : -1000 ≤ x.toInt ∧ x.toInt ≤ 1000) (h2 : 0 ≤ k.toInt ∧ k.toInt ≤ 64) : (x - k.toInt64).toInt = x.toInt - k.toInt := by
  have e1 := c_i2l k
  have e2 := c_lsub x k.toInt64
  have r2 := rng64 (x - k.toInt64)
  omega
theorem own_irem (x y : Int32) : x - (x / y) * y = x % y := by
  rw [← Int32.toInt_inj, Int32.toInt_sub, Int32.toInt_mul, Int32.toInt_div, Int.bmod_mul_bmod, Int.sub_bmod_bmod, Int.mul_comm, ← Int.tmod_def, ← Int32.toInt_mod]
  exact Int32.toInt_bmod _
theorem pd___BII_V : parseMethodDescriptor "([BII)V" = some ⟨[(.array .byte), .int, .int], none⟩ := by decide +kernel
theorem pd___J : parseMethodDescriptor "()J" = some ⟨[], some .long⟩ := by decide +kernel
theorem ef0 (m : MethodId) (x0 : Int64) (x1 : Int32) (x2 : Int32) (x3 : Int32) (x4 : Int32) (x5 : Int32) : entryFrame m #[(.long x0), (.int x1), (.int x2), (.int x3), (.int x4), (.int x5)] maxLocals = mkF m 0 #[.val (.long x0), .second, .val (.int x1), .val (.int x2), .val (.int x3), .val (.int x4), .val (.int x5), .unset, .unset, .unset, .unset, .unset, .unset, .unset, .unset, .unset, .unset] [] := by first | (simp [entryFrame, mkF, argsToLocals, Value.category, maxLocals]; done) | rfl
def Q0 (Z : State) (q0 : Int64) (p1 : Int32) (p2 : Int32) (p3 : Int32) (p4 : Int32) (p5 : Int32) (h0 : Heap) (n0 : Nat) (v : Option Value) (h : Heap) (L : List Loc) : Prop := v = some (.int 1) ∧ Fr n0 L
set_option maxRecDepth 65536 in
set_option maxHeartbeats 40000000 in
theorem rm0 (l : Launch) (Z : State) (av : Array Value) (hw : ∀ d ∈ tables_1, d.before av Z = true) (ws : List Jvm.Cond) (q0 : Int64) (p1 : Int32) (p2 : Int32) (p3 : Int32) (p4 : Int32) (p5 : Int32) (h0 : Heap) (n0 : Nat) (Z0 : n0 ≤ h0.size) :
    MetFree l x (head1 (Jvm.Cond.code x code maxLocals ret :: ws) room_1) (fun a U => a = #[(.long q0), (.int p1), (.int p2), (.int p3), (.int p4), (.int p5)] ∧ Z.Warmed39 U.vm ∧ U.heap = h0) (fun _ _ _ _ _ => True) (fun _ U o U' => ∃ v L, o = .returned v ∧ Q0 Z q0 p1 p2 p3 p4 p5 h0 n0 v U'.heap L ∧ FrameEnd U o U' L room_1.cells room_1.slots) := by
  refine MetFree.of_bodySF (plainFor_of_name pn_com_example_tierfuse_tierfuse_format_BitReaderRemainingPinLaw) hisR ?_
  intro p e s m args below meth c s₁ Bd hml0 hP hK
  obtain ⟨rfl, hZ, hh⟩ := hP
  have hx := Bd.exec
  have hby := Bd.bytes
  have hml : c.maxLocals = 17 := hml0
  have hown : s.vm.findClass "com/example/tierfuse/tierfuse/format/BitReaderRemainingPinLaw" = some m.cls := findClass_of_methodNamed Bd.named
  have hnm := (name_of_methodNamed Bd.named Bd.method).1
  have X0 : Stand p l e room_1 s m #[(.long q0), (.int p1), (.int p2), (.int p3), (.int p4), (.int p5)] below meth c s₁ [] 0 0 := Stand.of_body Bd
  have e0 : s₁.heap = h0 := by rw [← hh, Bd.state]; rfl
  have N0 := Fr.nil n0
  have K0 : Keep h0 h0 [] := Keep.refl h0 []
  have pre0 : ∀ t, Steps p.tables e below (s₁.setTop (mkF m 0 #[.val (.long q0), .second, .val (.int p1), .val (.int p2), .val (.int p3), .val (.int p4), .val (.int p5), .unset, .unset, .unset, .unset, .unset, .unset, .unset, .unset, .unset, .unset] [])) t → Steps p.tables e below (s₁.setTop (entryFrame m #[(.long q0), (.int p1), (.int p2), (.int p3), (.int p4), (.int p5)] maxLocals)) t := fun t k => castTop (ef0 m q0 p1 p2 p3 p4 p5) k
  have pre1 : ∀ t, Steps p.tables e below (s₁.setTop (mkF m 2 #[.val (.long q0), .second, .val (.int p1), .val (.int p2), .val (.int p3), .val (.int p4), .val (.int p5), .unset, .unset, .unset, .unset, .unset, .unset, .unset, .unset, .unset, .unset] [(.int (8 : Int32))])) t → Steps p.tables e below (s₁.setTop (entryFrame m #[(.long q0), (.int p1), (.int p2), (.int p3), (.int p4), (.int p5)] maxLocals)) t := fun t kt => pre0 t (by
    show Steps p.tables e below (s₁.setTop (mkF m 0 #[.val (.long q0), .second, .val (.int p1), .val (.int p2), .val (.int p3), .val (.int p4), .val (.int p5), .unset, .unset, .unset, .unset, .unset, .unset, .unset, .unset, .unset, .unset] [])) _
    refine XS.bipush X0.here hx rfl (hb hby at_0) ?_
    exact kt)
  obtain ⟨T2, h2, k2, X2, e2, E2, A2, st2⟩ := newP X0 hx hZ (hw _ (List.mem_of_getElem? (i := 0) rfl)) e0 (g := (mkF m 2 #[.val (.long q0), .second, .val (.int p1), .val (.int p2), .val (.int p3), .val (.int p4), .val (.int p5), .unset, .unset, .unset, .unset, .unset, .unset, .unset, .unset, .unset, .unset] [(.int (8 : Int32))])) rfl (hb hby at_2) rfl (by decide) (cap := 8) (by decide) (by decide) (by decide) (by decide)
  obtain ⟨b2, g2⟩ : ∃ z, z = h0.size := ⟨_, rfl⟩
  rw [← g2] at A2 st2
  have pre3 : ∀ t, Steps p.tables e below (T2.setTop (mkF m 4 #[.val (.long q0), .second, .val (.int p1), .val (.int p2), .val (.int p3), .val (.int p4), .val (.int p5), .unset, .unset, .unset, .unset, .unset, .unset, .unset, .unset, .unset, .unset] [(.ref b2)])) t → Steps p.tables e below (s₁.setTop (entryFrame m #[(.long q0), (.int p1), (.int p2), (.int p3), (.int p4), (.int p5)] maxLocals)) t := fun t kt => pre1 t (st2 _ kt)
  have gn2 : n0 ≤ b2 := Nat.le_trans Z0 (Nat.le_of_eq g2.symm)
  have sz2 : h0.size ≤ b2 := Nat.le_trans K0.1 (Nat.le_of_eq g2.symm)
  have K2 : Keep h0 h2 [] := K0.ext E2
  have Z2 : n0 ≤ h2.size := Nat.le_trans Z0 E2.1
  have V2 : Arv Z h2 b2 k2 .byte (8 : Int32) [(.int (0 : Int32)), (.int (0 : Int32)), (.int (0 : Int32)), (.int (0 : Int32)), (.int (0 : Int32)), (.int (0 : Int32)), (.int (0 : Int32)), (.int (0 : Int32))] (.int (0 : Int32)) := (Arv.new A2 (by decide)).pad (pad_rep [] (.int (0 : Int32)) 8)
  have pre4 : ∀ t, Steps p.tables e below (T2.setTop (mkF m 15 #[.val (.long q0), .second, .val (.int p1), .val (.int p2), .val (.int p3), .val (.int p4), .val (.int p5), .val (.ref b2), .unset, .unset, .unset, .unset, .unset, .unset, .unset, .unset, .unset] [(.int ((((q0.toUInt64 >>> ((56 : Int32) &&& 0x3f).toInt64.toUInt64).toInt64).toInt32).toInt8.toInt32)), (.int (0 : Int32)), (.ref b2)])) t → Steps p.tables e below (s₁.setTop (entryFrame m #[(.long q0), (.int p1), (.int p2), (.int p3), (.int p4), (.int p5)] maxLocals)) t := fun t kt => pre3 t (by
    show Steps p.tables e below (T2.setTop (mkF m 4 #[.val (.long q0), .second, .val (.int p1), .val (.int p2), .val (.int p3), .val (.int p4), .val (.int p5), .unset, .unset, .unset, .unset, .unset, .unset, .unset, .unset, .unset, .unset] [(.ref b2)])) _
    refine XS.astore X2.here hx rfl (hb hby at_4) rfl rfl (l' := #[.val (.long q0), .second, .val (.int p1), .val (.int p2), .val (.int p3), .val (.int p4), .val (.int p5), .val (.ref b2), .unset, .unset, .unset, .unset, .unset, .unset, .unset, .unset, .unset]) rfl ?_
    show Steps p.tables e below (T2.setTop (mkF m 6 #[.val (.long q0), .second, .val (.int p1), .val (.int p2), .val (.int p3), .val (.int p4), .val (.int p5), .val (.ref b2), .unset, .unset, .unset, .unset, .unset, .unset, .unset, .unset, .unset] [])) _
    refine XS.aload X2.here hx rfl (hb hby at_6) rfl rfl ?_
    show Steps p.tables e below (T2.setTop (mkF m 8 #[.val (.long q0), .second, .val (.int p1), .val (.int p2), .val (.int p3), .val (.int p4), .val (.int p5), .val (.ref b2), .unset, .unset, .unset, .unset, .unset, .unset, .unset, .unset, .unset] [(.ref b2)])) _
    refine XS.iconst X2.here hx rfl (hb hby at_8) ?_
    show Steps p.tables e below (T2.setTop (mkF m 9 #[.val (.long q0), .second, .val (.int p1), .val (.int p2), .val (.int p3), .val (.int p4), .val (.int p5), .val (.ref b2), .unset, .unset, .unset, .unset, .unset, .unset, .unset, .unset, .unset] [(.int (0 : Int32)), (.ref b2)])) _
    refine XS.lloadN X2.here hx rfl (hb hby at_9) rfl ?_
    show Steps p.tables e below (T2.setTop (mkF m 10 #[.val (.long q0), .second, .val (.int p1), .val (.int p2), .val (.int p3), .val (.int p4), .val (.int p5), .val (.ref b2), .unset, .unset, .unset, .unset, .unset, .unset, .unset, .unset, .unset] [(.long q0), (.int (0 : Int32)), (.ref b2)])) _
    refine XS.bipush X2.here hx rfl (hb hby at_10) ?_
    show Steps p.tables e below (T2.setTop (mkF m 12 #[.val (.long q0), .second, .val (.int p1), .val (.int p2), .val (.int p3), .val (.int p4), .val (.int p5), .val (.ref b2), .unset, .unset, .unset, .unset, .unset, .unset, .unset, .unset, .unset] [(.int (56 : Int32)), (.long q0), (.int (0 : Int32)), (.ref b2)])) _
    refine XS.lushr X2.here hx rfl (hb hby at_12) rfl ?_
    show Steps p.tables e below (T2.setTop (mkF m 13 #[.val (.long q0), .second, .val (.int p1), .val (.int p2), .val (.int p3), .val (.int p4), .val (.int p5), .val (.ref b2), .unset, .unset, .unset, .unset, .unset, .unset, .unset, .unset, .unset] [(.long ((q0.toUInt64 >>> ((56 : Int32) &&& 0x3f).toInt64.toUInt64).toInt64)), (.int (0 : Int32)), (.ref b2)])) _
    refine XS.l2i X2.here hx rfl (hb hby at_13) rfl ?_
    show Steps p.tables e below (T2.setTop (mkF m 14 #[.val (.long q0), .second, .val (.int p1), .val (.int p2), .val (.int p3), .val (.int p4), .val (.int p5), .val (.ref b2), .unset, .unset, .unset, .unset, .unset, .unset, .unset, .unset, .unset] [(.int (((q0.toUInt64 >>> ((56 : Int32) &&& 0x3f).toInt64.toUInt64).toInt64).toInt32)), (.int (0 : Int32)), (.ref b2)])) _
    refine XS.i2b X2.here hx rfl (hb hby at_14) rfl ?_
    exact kt)
  have tv5 := V2
  obtain ⟨cl5, Ar5, q5, S5, Ng5, H5, G5⟩ := tv5
  have hin5 : ¬ ((0 : Int32) < 0 ∨ cl5.slots.size ≤ ((0 : Int32)).toNatClampNeg) := inb_of S5 ⟨by decide, by decide⟩
  obtain ⟨T6, h6, X6, e6, W6, st6⟩ := stB X2 hx hZ e2 Ar5 (j := (0 : Int32)) hin5 (g := (mkF m 15 #[.val (.long q0), .second, .val (.int p1), .val (.int p2), .val (.int p3), .val (.int p4), .val (.int p5), .val (.ref b2), .unset, .unset, .unset, .unset, .unset, .unset, .unset, .unset, .unset] [(.int ((((q0.toUInt64 >>> ((56 : Int32) &&& 0x3f).toInt64.toUInt64).toInt64).toInt32).toInt8.toInt32)), (.int (0 : Int32)), (.ref b2)])) rfl rfl (hb hby at_15)
  have pre7 : ∀ t, Steps p.tables e below (T6.setTop (mkF m 16 #[.val (.long q0), .second, .val (.int p1), .val (.int p2), .val (.int p3), .val (.int p4), .val (.int p5), .val (.ref b2), .unset, .unset, .unset, .unset, .unset, .unset, .unset, .unset, .unset] [])) t → Steps p.tables e below (s₁.setTop (entryFrame m #[(.long q0), (.int p1), (.int p2), (.int p3), (.int p4), (.int p5)] maxLocals)) t := fun t kt => pre4 t (st6 _ kt)
  have V6 : Arv Z h6 b2 k2 .byte (8 : Int32) [(.int (nar .byte ((((q0.toUInt64 >>> ((56 : Int32) &&& 0x3f).toInt64.toUInt64).toInt64).toInt32).toInt8.toInt32))), (.int (0 : Int32)), (.int (0 : Int32)), (.int (0 : Int32)), (.int (0 : Int32)), (.int (0 : Int32)), (.int (0 : Int32)), (.int (0 : Int32))] (.int (0 : Int32)) := Arv.set Ar5 q5 S5 Ng5 H5 G5 (fits_nar_byte ((((q0.toUInt64 >>> ((56 : Int32) &&& 0x3f).toInt64.toUInt64).toInt64).toInt32).toInt8.toInt32)) W6 0 rfl (Nat.le_of_ble_eq_true rfl)
  have K6 : Keep h0 h6 [] := K2.wr W6 (Or.inr sz2)
  have N6 := Fr.snoc X6 N0 gn2
  have Z6 : n0 ≤ h6.size := Nat.le_trans Z2 (Keep.of_wr W6).1
  have pre8 : ∀ t, Steps p.tables e below (T6.setTop (mkF m 25 #[.val (.long q0), .second, .val (.int p1), .val (.int p2), .val (.int p3), .val (.int p4), .val (.int p5), .val (.ref b2), .unset, .unset, .unset, .unset, .unset, .unset, .unset, .unset, .unset] [(.int ((((q0.toUInt64 >>> ((48 : Int32) &&& 0x3f).toInt64.toUInt64).toInt64).toInt32).toInt8.toInt32)), (.int (1 : Int32)), (.ref b2)])) t → Steps p.tables e below (s₁.setTop (entryFrame m #[(.long q0), (.int p1), (.int p2), (.int p3), (.int p4), (.int p5)] maxLocals)) t := fun t kt => pre7 t (by
    show Steps p.tables e below (T6.setTop (mkF m 16 #[.val (.long q0), .second, .val (.int p1), .val (.int p2), .val (.int p3), .val (.int p4), .val (.int p5), .val (.ref b2), .unset, .unset, .unset, .unset, .unset, .unset, .unset, .unset, .unset] [])) _
    refine XS.aload X6.here hx rfl (hb hby at_16) rfl rfl ?_
    show Steps p.tables e below (T6.setTop (mkF m 18 #[.val (.long q0), .second, .val (.int p1), .val (.int p2), .val (.int p3), .val (.int p4), .val (.int p5), .val (.ref b2), .unset, .unset, .unset, .unset, .unset, .unset, .unset, .unset, .unset] [(.ref b2)])) _
    refine XS.iconst X6.here hx rfl (hb hby at_18) ?_
    show Steps p.tables e below (T6.setTop (mkF m 19 #[.val (.long q0), .second, .val (.int p1), .val (.int p2), .val (.int p3), .val (.int p4), .val (.int p5), .val (.ref b2), .unset, .unset, .unset, .unset, .unset, .unset, .unset, .unset, .unset] [(.int (1 : Int32)), (.ref b2)])) _
    refine XS.lloadN X6.here hx rfl (hb hby at_19) rfl ?_
    show Steps p.tables e below (T6.setTop (mkF m 20 #[.val (.long q0), .second, .val (.int p1), .val (.int p2), .val (.int p3), .val (.int p4), .val (.int p5), .val (.ref b2), .unset, .unset, .unset, .unset, .unset, .unset, .unset, .unset, .unset] [(.long q0), (.int (1 : Int32)), (.ref b2)])) _
    refine XS.bipush X6.here hx rfl (hb hby at_20) ?_
    show Steps p.tables e below (T6.setTop (mkF m 22 #[.val (.long q0), .second, .val (.int p1), .val (.int p2), .val (.int p3), .val (.int p4), .val (.int p5), .val (.ref b2), .unset, .unset, .unset, .unset, .unset, .unset, .unset, .unset, .unset] [(.int (48 : Int32)), (.long q0), (.int (1 : Int32)), (.ref b2)])) _
    refine XS.lushr X6.here hx rfl (hb hby at_22) rfl ?_
    show Steps p.tables e below (T6.setTop (mkF m 23 #[.val (.long q0), .second, .val (.int p1), .val (.int p2), .val (.int p3), .val (.int p4), .val (.int p5), .val (.ref b2), .unset, .unset, .unset, .unset, .unset, .unset, .unset, .unset, .unset] [(.long ((q0.toUInt64 >>> ((48 : Int32) &&& 0x3f).toInt64.toUInt64).toInt64)), (.int (1 : Int32)), (.ref b2)])) _
    refine XS.l2i X6.here hx rfl (hb hby at_23) rfl ?_
    show Steps p.tables e below (T6.setTop (mkF m 24 #[.val (.long q0), .second, .val (.int p1), .val (.int p2), .val (.int p3), .val (.int p4), .val (.int p5), .val (.ref b2), .unset, .unset, .unset, .unset, .unset, .unset, .unset, .unset, .unset] [(.int (((q0.toUInt64 >>> ((48 : Int32) &&& 0x3f).toInt64.toUInt64).toInt64).toInt32)), (.int (1 : Int32)), (.ref b2)])) _
    refine XS.i2b X6.here hx rfl (hb hby at_24) rfl ?_
    exact kt)
  have tv9 := V6
  obtain ⟨cl9, Ar9, q9, S9, Ng9, H9, G9⟩ := tv9
  have hin9 : ¬ ((1 : Int32) < 0 ∨ cl9.slots.size ≤ ((1 : Int32)).toNatClampNeg) := inb_of S9 ⟨by decide, by decide⟩
  obtain ⟨T10, h10, X10, e10, W10, st10⟩ := stB X6 hx hZ e6 Ar9 (j := (1 : Int32)) hin9 (g := (mkF m 25 #[.val (.long q0), .second, .val (.int p1), .val (.int p2), .val (.int p3), .val (.int p4), .val (.int p5), .val (.ref b2), .unset, .unset, .unset, .unset, .unset, .unset, .unset, .unset, .unset] [(.int ((((q0.toUInt64 >>> ((48 : Int32) &&& 0x3f).toInt64.toUInt64).toInt64).toInt32).toInt8.toInt32)), (.int (1 : Int32)), (.ref b2)])) rfl rfl (hb hby at_25)
  have pre11 : ∀ t, Steps p.tables e below (T10.setTop (mkF m 26 #[.val (.long q0), .second, .val (.int p1), .val (.int p2), .val (.int p3), .val (.int p4), .val (.int p5), .val (.ref b2), .unset, .unset, .unset, .unset, .unset, .unset, .unset, .unset, .unset] [])) t → Steps p.tables e below (s₁.setTop (entryFrame m #[(.long q0), (.int p1), (.int p2), (.int p3), (.int p4), (.int p5)] maxLocals)) t := fun t kt => pre8 t (st10 _ kt)
  have V10 : Arv Z h10 b2 k2 .byte (8 : Int32) [(.int (nar .byte ((((q0.toUInt64 >>> ((56 : Int32) &&& 0x3f).toInt64.toUInt64).toInt64).toInt32).toInt8.toInt32))), (.int (nar .byte ((((q0.toUInt64 >>> ((48 : Int32) &&& 0x3f).toInt64.toUInt64).toInt64).toInt32).toInt8.toInt32))), (.int (0 : Int32)), (.int (0 : Int32)), (.int (0 : Int32)), (.int (0 : Int32)), (.int (0 : Int32)), (.int (0 : Int32))] (.int (0 : Int32)) := Arv.set Ar9 q9 S9 Ng9 H9 G9 (fits_nar_byte ((((q0.toUInt64 >>> ((48 : Int32) &&& 0x3f).toInt64.toUInt64).toInt64).toInt32).toInt8.toInt32)) W10 1 rfl (Nat.le_of_ble_eq_true rfl)
  have K10 : Keep h0 h10 [] := K6.wr W10 (Or.inr sz2)
  have N10 := Fr.snoc X10 N6 gn2
  have Z10 : n0 ≤ h10.size := Nat.le_trans Z6 (Keep.of_wr W10).1
  have pre12 : ∀ t, Steps p.tables e below (T10.setTop (mkF m 35 #[.val (.long q0), .second, .val (.int p1), .val (.int p2), .val (.int p3), .val (.int p4), .val (.int p5), .val (.ref b2), .unset, .unset, .unset, .unset, .unset, .unset, .unset, .unset, .unset] [(.int ((((q0.toUInt64 >>> ((40 : Int32) &&& 0x3f).toInt64.toUInt64).toInt64).toInt32).toInt8.toInt32)), (.int (2 : Int32)), (.ref b2)])) t → Steps p.tables e below (s₁.setTop (entryFrame m #[(.long q0), (.int p1), (.int p2), (.int p3), (.int p4), (.int p5)] maxLocals)) t := fun t kt => pre11 t (by
    show Steps p.tables e below (T10.setTop (mkF m 26 #[.val (.long q0), .second, .val (.int p1), .val (.int p2), .val (.int p3), .val (.int p4), .val (.int p5), .val (.ref b2), .unset, .unset, .unset, .unset, .unset, .unset, .unset, .unset, .unset] [])) _
    refine XS.aload X10.here hx rfl (hb hby at_26) rfl rfl ?_
    show Steps p.tables e below (T10.setTop (mkF m 28 #[.val (.long q0), .second, .val (.int p1), .val (.int p2), .val (.int p3), .val (.int p4), .val (.int p5), .val (.ref b2), .unset, .unset, .unset, .unset, .unset, .unset, .unset, .unset, .unset] [(.ref b2)])) _
    refine XS.iconst X10.here hx rfl (hb hby at_28) ?_
    show Steps p.tables e below (T10.setTop (mkF m 29 #[.val (.long q0), .second, .val (.int p1), .val (.int p2), .val (.int p3), .val (.int p4), .val (.int p5), .val (.ref b2), .unset, .unset, .unset, .unset, .unset, .unset, .unset, .unset, .unset] [(.int (2 : Int32)), (.ref b2)])) _
    refine XS.lloadN X10.here hx rfl (hb hby at_29) rfl ?_
    show Steps p.tables e below (T10.setTop (mkF m 30 #[.val (.long q0), .second, .val (.int p1), .val (.int p2), .val (.int p3), .val (.int p4), .val (.int p5), .val (.ref b2), .unset, .unset, .unset, .unset, .unset, .unset, .unset, .unset, .unset] [(.long q0), (.int (2 : Int32)), (.ref b2)])) _
    refine XS.bipush X10.here hx rfl (hb hby at_30) ?_
    show Steps p.tables e below (T10.setTop (mkF m 32 #[.val (.long q0), .second, .val (.int p1), .val (.int p2), .val (.int p3), .val (.int p4), .val (.int p5), .val (.ref b2), .unset, .unset, .unset, .unset, .unset, .unset, .unset, .unset, .unset] [(.int (40 : Int32)), (.long q0), (.int (2 : Int32)), (.ref b2)])) _
    refine XS.lushr X10.here hx rfl (hb hby at_32) rfl ?_
    show Steps p.tables e below (T10.setTop (mkF m 33 #[.val (.long q0), .second, .val (.int p1), .val (.int p2), .val (.int p3), .val (.int p4), .val (.int p5), .val (.ref b2), .unset, .unset, .unset, .unset, .unset, .unset, .unset, .unset, .unset] [(.long ((q0.toUInt64 >>> ((40 : Int32) &&& 0x3f).toInt64.toUInt64).toInt64)), (.int (2 : Int32)), (.ref b2)])) _
    refine XS.l2i X10.here hx rfl (hb hby at_33) rfl ?_
    show Steps p.tables e below (T10.setTop (mkF m 34 #[.val (.long q0), .second, .val (.int p1), .val (.int p2), .val (.int p3), .val (.int p4), .val (.int p5), .val (.ref b2), .unset, .unset, .unset, .unset, .unset, .unset, .unset, .unset, .unset] [(.int (((q0.toUInt64 >>> ((40 : Int32) &&& 0x3f).toInt64.toUInt64).toInt64).toInt32)), (.int (2 : Int32)), (.ref b2)])) _
    refine XS.i2b X10.here hx rfl (hb hby at_34) rfl ?_
    exact kt)
  have tv13 := V10
  obtain ⟨cl13, Ar13, q13, S13, Ng13, H13, G13⟩ := tv13
  have hin13 : ¬ ((2 : Int32) < 0 ∨ cl13.slots.size ≤ ((2 : Int32)).toNatClampNeg) := inb_of S13 ⟨by decide, by decide⟩
  obtain ⟨T14, h14, X14, e14, W14, st14⟩ := stB X10 hx hZ e10 Ar13 (j := (2 : Int32)) hin13 (g := (mkF m 35 #[.val (.long q0), .second, .val (.int p1), .val (.int p2), .val (.int p3), .val (.int p4), .val (.int p5), .val (.ref b2), .unset, .unset, .unset, .unset, .unset, .unset, .unset, .unset, .unset] [(.int ((((q0.toUInt64 >>> ((40 : Int32) &&& 0x3f).toInt64.toUInt64).toInt64).toInt32).toInt8.toInt32)), (.int (2 : Int32)), (.ref b2)])) rfl rfl (hb hby at_35)
  have pre15 : ∀ t, Steps p.tables e below (T14.setTop (mkF m 36 #[.val (.long q0), .second, .val (.int p1), .val (.int p2), .val (.int p3), .val (.int p4), .val (.int p5), .val (.ref b2), .unset, .unset, .unset, .unset, .unset, .unset, .unset, .unset, .unset] [])) t → Steps p.tables e below (s₁.setTop (entryFrame m #[(.long q0), (.int p1), (.int p2), (.int p3), (.int p4), (.int p5)] maxLocals)) t := fun t kt => pre12 t (st14 _ kt)
  have V14 : Arv Z h14 b2 k2 .byte (8 : Int32) [(.int (nar .byte ((((q0.toUInt64 >>> ((56 : Int32) &&& 0x3f).toInt64.toUInt64).toInt64).toInt32).toInt8.toInt32))), (.int (nar .byte ((((q0.toUInt64 >>> ((48 : Int32) &&& 0x3f).toInt64.toUInt64).toInt64).toInt32).toInt8.toInt32))), (.int (nar .byte ((((q0.toUInt64 >>> ((40 : Int32) &&& 0x3f).toInt64.toUInt64).toInt64).toInt32).toInt8.toInt32))), (.int (0 : Int32)), (.int (0 : Int32)), (.int (0 : Int32)), (.int (0 : Int32)), (.int (0 : Int32))] (.int (0 : Int32)) := Arv.set Ar13 q13 S13 Ng13 H13 G13 (fits_nar_byte ((((q0.toUInt64 >>> ((40 : Int32) &&& 0x3f).toInt64.toUInt64).toInt64).toInt32).toInt8.toInt32)) W14 2 rfl (Nat.le_of_ble_eq_true rfl)
  have K14 : Keep h0 h14 [] := K10.wr W14 (Or.inr sz2)
  have N14 := Fr.snoc X14 N10 gn2
  have Z14 : n0 ≤ h14.size := Nat.le_trans Z10 (Keep.of_wr W14).1
  have pre16 : ∀ t, Steps p.tables e below (T14.setTop (mkF m 45 #[.val (.long q0), .second, .val (.int p1), .val (.int p2), .val (.int p3), .val (.int p4), .val (.int p5), .val (.ref b2), .unset, .unset, .unset, .unset, .unset, .unset, .unset, .unset, .unset] [(.int ((((q0.toUInt64 >>> ((32 : Int32) &&& 0x3f).toInt64.toUInt64).toInt64).toInt32).toInt8.toInt32)), (.int (3 : Int32)), (.ref b2)])) t → Steps p.tables e below (s₁.setTop (entryFrame m #[(.long q0), (.int p1), (.int p2), (.int p3), (.int p4), (.int p5)] maxLocals)) t := fun t kt => pre15 t (by
    show Steps p.tables e below (T14.setTop (mkF m 36 #[.val (.long q0), .second, .val (.int p1), .val (.int p2), .val (.int p3), .val (.int p4), .val (.int p5), .val (.ref b2), .unset, .unset, .unset, .unset, .unset, .unset, .unset, .unset, .unset] [])) _
    refine XS.aload X14.here hx rfl (hb hby at_36) rfl rfl ?_
    show Steps p.tables e below (T14.setTop (mkF m 38 #[.val (.long q0), .second, .val (.int p1), .val (.int p2), .val (.int p3), .val (.int p4), .val (.int p5), .val (.ref b2), .unset, .unset, .unset, .unset, .unset, .unset, .unset, .unset, .unset] [(.ref b2)])) _
    refine XS.iconst X14.here hx rfl (hb hby at_38) ?_
    show Steps p.tables e below (T14.setTop (mkF m 39 #[.val (.long q0), .second, .val (.int p1), .val (.int p2), .val (.int p3), .val (.int p4), .val (.int p5), .val (.ref b2), .unset, .unset, .unset, .unset, .unset, .unset, .unset, .unset, .unset] [(.int (3 : Int32)), (.ref b2)])) _
    refine XS.lloadN X14.here hx rfl (hb hby at_39) rfl ?_
    show Steps p.tables e below (T14.setTop (mkF m 40 #[.val (.long q0), .second, .val (.int p1), .val (.int p2), .val (.int p3), .val (.int p4), .val (.int p5), .val (.ref b2), .unset, .unset, .unset, .unset, .unset, .unset, .unset, .unset, .unset] [(.long q0), (.int (3 : Int32)), (.ref b2)])) _
    refine XS.bipush X14.here hx rfl (hb hby at_40) ?_
    show Steps p.tables e below (T14.setTop (mkF m 42 #[.val (.long q0), .second, .val (.int p1), .val (.int p2), .val (.int p3), .val (.int p4), .val (.int p5), .val (.ref b2), .unset, .unset, .unset, .unset, .unset, .unset, .unset, .unset, .unset] [(.int (32 : Int32)), (.long q0), (.int (3 : Int32)), (.ref b2)])) _
    refine XS.lushr X14.here hx rfl (hb hby at_42) rfl ?_
    show Steps p.tables e below (T14.setTop (mkF m 43 #[.val (.long q0), .second, .val (.int p1), .val (.int p2), .val (.int p3), .val (.int p4), .val (.int p5), .val (.ref b2), .unset, .unset, .unset, .unset, .unset, .unset, .unset, .unset, .unset] [(.long ((q0.toUInt64 >>> ((32 : Int32) &&& 0x3f).toInt64.toUInt64).toInt64)), (.int (3 : Int32)), (.ref b2)])) _
    refine XS.l2i X14.here hx rfl (hb hby at_43) rfl ?_
    show Steps p.tables e below (T14.setTop (mkF m 44 #[.val (.long q0), .second, .val (.int p1), .val (.int p2), .val (.int p3), .val (.int p4), .val (.int p5), .val (.ref b2), .unset, .unset, .unset, .unset, .unset, .unset, .unset, .unset, .unset] [(.int (((q0.toUInt64 >>> ((32 : Int32) &&& 0x3f).toInt64.toUInt64).toInt64).toInt32)), (.int (3 : Int32)), (.ref b2)])) _
    refine XS.i2b X14.here hx rfl (hb hby at_44) rfl ?_
    exact kt)
  have tv17 := V14
  obtain ⟨cl17, Ar17, q17, S17, Ng17, H17, G17⟩ := tv17
  have hin17 : ¬ ((3 : Int32) < 0 ∨ cl17.slots.size ≤ ((3 : Int32)).toNatClampNeg) := inb_of S17 ⟨by decide, by decide⟩
  obtain ⟨T18, h18, X18, e18, W18, st18⟩ := stB X14 hx hZ e14 Ar17 (j := (3 : Int32)) hin17 (g := (mkF m 45 #[.val (.long q0), .second, .val (.int p1), .val (.int p2), .val (.int p3), .val (.int p4), .val (.int p5), .val (.ref b2), .unset, .unset, .unset, .unset, .unset, .unset, .unset, .unset, .unset] [(.int ((((q0.toUInt64 >>> ((32 : Int32) &&& 0x3f).toInt64.toUInt64).toInt64).toInt32).toInt8.toInt32)), (.int (3 : Int32)), (.ref b2)])) rfl rfl (hb hby at_45)
  have pre19 : ∀ t, Steps p.tables e below (T18.setTop (mkF m 46 #[.val (.long q0), .second, .val (.int p1), .val (.int p2), .val (.int p3), .val (.int p4), .val (.int p5), .val (.ref b2), .unset, .unset, .unset, .unset, .unset, .unset, .unset, .unset, .unset] [])) t → Steps p.tables e below (s₁.setTop (entryFrame m #[(.long q0), (.int p1), (.int p2), (.int p3), (.int p4), (.int p5)] maxLocals)) t := fun t kt => pre16 t (st18 _ kt)
  have V18 : Arv Z h18 b2 k2 .byte (8 : Int32) [(.int (nar .byte ((((q0.toUInt64 >>> ((56 : Int32) &&& 0x3f).toInt64.toUInt64).toInt64).toInt32).toInt8.toInt32))), (.int (nar .byte ((((q0.toUInt64 >>> ((48 : Int32) &&& 0x3f).toInt64.toUInt64).toInt64).toInt32).toInt8.toInt32))), (.int (nar .byte ((((q0.toUInt64 >>> ((40 : Int32) &&& 0x3f).toInt64.toUInt64).toInt64).toInt32).toInt8.toInt32))), (.int (nar .byte ((((q0.toUInt64 >>> ((32 : Int32) &&& 0x3f).toInt64.toUInt64).toInt64).toInt32).toInt8.toInt32))), (.int (0 : Int32)), (.int (0 : Int32)), (.int (0 : Int32)), (.int (0 : Int32))] (.int (0 : Int32)) := Arv.set Ar17 q17 S17 Ng17 H17 G17 (fits_nar_byte ((((q0.toUInt64 >>> ((32 : Int32) &&& 0x3f).toInt64.toUInt64).toInt64).toInt32).toInt8.toInt32)) W18 3 rfl (Nat.le_of_ble_eq_true rfl)
  have K18 : Keep h0 h18 [] := K14.wr W18 (Or.inr sz2)
  have N18 := Fr.snoc X18 N14 gn2
  have Z18 : n0 ≤ h18.size := Nat.le_trans Z14 (Keep.of_wr W18).1
  have pre20 : ∀ t, Steps p.tables e below (T18.setTop (mkF m 55 #[.val (.long q0), .second, .val (.int p1), .val (.int p2), .val (.int p3), .val (.int p4), .val (.int p5), .val (.ref b2), .unset, .unset, .unset, .unset, .unset, .unset, .unset, .unset, .unset] [(.int ((((q0.toUInt64 >>> ((24 : Int32) &&& 0x3f).toInt64.toUInt64).toInt64).toInt32).toInt8.toInt32)), (.int (4 : Int32)), (.ref b2)])) t → Steps p.tables e below (s₁.setTop (entryFrame m #[(.long q0), (.int p1), (.int p2), (.int p3), (.int p4), (.int p5)] maxLocals)) t := fun t kt => pre19 t (by
    show Steps p.tables e below (T18.setTop (mkF m 46 #[.val (.long q0), .second, .val (.int p1), .val (.int p2), .val (.int p3), .val (.int p4), .val (.int p5), .val (.ref b2), .unset, .unset, .unset, .unset, .unset, .unset, .unset, .unset, .unset] [])) _
    refine XS.aload X18.here hx rfl (hb hby at_46) rfl rfl ?_
    show Steps p.tables e below (T18.setTop (mkF m 48 #[.val (.long q0), .second, .val (.int p1), .val (.int p2), .val (.int p3), .val (.int p4), .val (.int p5), .val (.ref b2), .unset, .unset, .unset, .unset, .unset, .unset, .unset, .unset, .unset] [(.ref b2)])) _
    refine XS.iconst X18.here hx rfl (hb hby at_48) ?_
    show Steps p.tables e below (T18.setTop (mkF m 49 #[.val (.long q0), .second, .val (.int p1), .val (.int p2), .val (.int p3), .val (.int p4), .val (.int p5), .val (.ref b2), .unset, .unset, .unset, .unset, .unset, .unset, .unset, .unset, .unset] [(.int (4 : Int32)), (.ref b2)])) _
    refine XS.lloadN X18.here hx rfl (hb hby at_49) rfl ?_
    show Steps p.tables e below (T18.setTop (mkF m 50 #[.val (.long q0), .second, .val (.int p1), .val (.int p2), .val (.int p3), .val (.int p4), .val (.int p5), .val (.ref b2), .unset, .unset, .unset, .unset, .unset, .unset, .unset, .unset, .unset] [(.long q0), (.int (4 : Int32)), (.ref b2)])) _
    refine XS.bipush X18.here hx rfl (hb hby at_50) ?_
    show Steps p.tables e below (T18.setTop (mkF m 52 #[.val (.long q0), .second, .val (.int p1), .val (.int p2), .val (.int p3), .val (.int p4), .val (.int p5), .val (.ref b2), .unset, .unset, .unset, .unset, .unset, .unset, .unset, .unset, .unset] [(.int (24 : Int32)), (.long q0), (.int (4 : Int32)), (.ref b2)])) _
    refine XS.lushr X18.here hx rfl (hb hby at_52) rfl ?_
    show Steps p.tables e below (T18.setTop (mkF m 53 #[.val (.long q0), .second, .val (.int p1), .val (.int p2), .val (.int p3), .val (.int p4), .val (.int p5), .val (.ref b2), .unset, .unset, .unset, .unset, .unset, .unset, .unset, .unset, .unset] [(.long ((q0.toUInt64 >>> ((24 : Int32) &&& 0x3f).toInt64.toUInt64).toInt64)), (.int (4 : Int32)), (.ref b2)])) _
    refine XS.l2i X18.here hx rfl (hb hby at_53) rfl ?_
    show Steps p.tables e below (T18.setTop (mkF m 54 #[.val (.long q0), .second, .val (.int p1), .val (.int p2), .val (.int p3), .val (.int p4), .val (.int p5), .val (.ref b2), .unset, .unset, .unset, .unset, .unset, .unset, .unset, .unset, .unset] [(.int (((q0.toUInt64 >>> ((24 : Int32) &&& 0x3f).toInt64.toUInt64).toInt64).toInt32)), (.int (4 : Int32)), (.ref b2)])) _
    refine XS.i2b X18.here hx rfl (hb hby at_54) rfl ?_
    exact kt)
  have tv21 := V18
  obtain ⟨cl21, Ar21, q21, S21, Ng21, H21, G21⟩ := tv21
  have hin21 : ¬ ((4 : Int32) < 0 ∨ cl21.slots.size ≤ ((4 : Int32)).toNatClampNeg) := inb_of S21 ⟨by decide, by decide⟩
  obtain ⟨T22, h22, X22, e22, W22, st22⟩ := stB X18 hx hZ e18 Ar21 (j := (4 : Int32)) hin21 (g := (mkF m 55 #[.val (.long q0), .second, .val (.int p1), .val (.int p2), .val (.int p3), .val (.int p4), .val (.int p5), .val (.ref b2), .unset, .unset, .unset, .unset, .unset, .unset, .unset, .unset, .unset] [(.int ((((q0.toUInt64 >>> ((24 : Int32) &&& 0x3f).toInt64.toUInt64).toInt64).toInt32).toInt8.toInt32)), (.int (4 : Int32)), (.ref b2)])) rfl rfl (hb hby at_55)
  have pre23 : ∀ t, Steps p.tables e below (T22.setTop (mkF m 56 #[.val (.long q0), .second, .val (.int p1), .val (.int p2), .val (.int p3), .val (.int p4), .val (.int p5), .val (.ref b2), .unset, .unset, .unset, .unset, .unset, .unset, .unset, .unset, .unset] [])) t → Steps p.tables e below (s₁.setTop (entryFrame m #[(.long q0), (.int p1), (.int p2), (.int p3), (.int p4), (.int p5)] maxLocals)) t := fun t kt => pre20 t (st22 _ kt)
  have V22 : Arv Z h22 b2 k2 .byte (8 : Int32) [(.int (nar .byte ((((q0.toUInt64 >>> ((56 : Int32) &&& 0x3f).toInt64.toUInt64).toInt64).toInt32).toInt8.toInt32))), (.int (nar .byte ((((q0.toUInt64 >>> ((48 : Int32) &&& 0x3f).toInt64.toUInt64).toInt64).toInt32).toInt8.toInt32))), (.int (nar .byte ((((q0.toUInt64 >>> ((40 : Int32) &&& 0x3f).toInt64.toUInt64).toInt64).toInt32).toInt8.toInt32))), (.int (nar .byte ((((q0.toUInt64 >>> ((32 : Int32) &&& 0x3f).toInt64.toUInt64).toInt64).toInt32).toInt8.toInt32))), (.int (nar .byte ((((q0.toUInt64 >>> ((24 : Int32) &&& 0x3f).toInt64.toUInt64).toInt64).toInt32).toInt8.toInt32))), (.int (0 : Int32)), (.int (0 : Int32)), (.int (0 : Int32))] (.int (0 : Int32)) := Arv.set Ar21 q21 S21 Ng21 H21 G21 (fits_nar_byte ((((q0.toUInt64 >>> ((24 : Int32) &&& 0x3f).toInt64.toUInt64).toInt64).toInt32).toInt8.toInt32)) W22 4 rfl (Nat.le_of_ble_eq_true rfl)
  have K22 : Keep h0 h22 [] := K18.wr W22 (Or.inr sz2)
  have N22 := Fr.snoc X22 N18 gn2
  have Z22 : n0 ≤ h22.size := Nat.le_trans Z18 (Keep.of_wr W22).1
  have pre24 : ∀ t, Steps p.tables e below (T22.setTop (mkF m 65 #[.val (.long q0), .second, .val (.int p1), .val (.int p2), .val (.int p3), .val (.int p4), .val (.int p5), .val (.ref b2), .unset, .unset, .unset, .unset, .unset, .unset, .unset, .unset, .unset] [(.int ((((q0.toUInt64 >>> ((16 : Int32) &&& 0x3f).toInt64.toUInt64).toInt64).toInt32).toInt8.toInt32)), (.int (5 : Int32)), (.ref b2)])) t → Steps p.tables e below (s₁.setTop (entryFrame m #[(.long q0), (.int p1), (.int p2), (.int p3), (.int p4), (.int p5)] maxLocals)) t := fun t kt => pre23 t (by
    show Steps p.tables e below (T22.setTop (mkF m 56 #[.val (.long q0), .second, .val (.int p1), .val (.int p2), .val (.int p3), .val (.int p4), .val (.int p5), .val (.ref b2), .unset, .unset, .unset, .unset, .unset, .unset, .unset, .unset, .unset] [])) _
    refine XS.aload X22.here hx rfl (hb hby at_56) rfl rfl ?_
    show Steps p.tables e below (T22.setTop (mkF m 58 #[.val (.long q0), .second, .val (.int p1), .val (.int p2), .val (.int p3), .val (.int p4), .val (.int p5), .val (.ref b2), .unset, .unset, .unset, .unset, .unset, .unset, .unset, .unset, .unset] [(.ref b2)])) _
    refine XS.iconst X22.here hx rfl (hb hby at_58) ?_
    show Steps p.tables e below (T22.setTop (mkF m 59 #[.val (.long q0), .second, .val (.int p1), .val (.int p2), .val (.int p3), .val (.int p4), .val (.int p5), .val (.ref b2), .unset, .unset, .unset, .unset, .unset, .unset, .unset, .unset, .unset] [(.int (5 : Int32)), (.ref b2)])) _
    refine XS.lloadN X22.here hx rfl (hb hby at_59) rfl ?_
    show Steps p.tables e below (T22.setTop (mkF m 60 #[.val (.long q0), .second, .val (.int p1), .val (.int p2), .val (.int p3), .val (.int p4), .val (.int p5), .val (.ref b2), .unset, .unset, .unset, .unset, .unset, .unset, .unset, .unset, .unset] [(.long q0), (.int (5 : Int32)), (.ref b2)])) _
    refine XS.bipush X22.here hx rfl (hb hby at_60) ?_
    show Steps p.tables e below (T22.setTop (mkF m 62 #[.val (.long q0), .second, .val (.int p1), .val (.int p2), .val (.int p3), .val (.int p4), .val (.int p5), .val (.ref b2), .unset, .unset, .unset, .unset, .unset, .unset, .unset, .unset, .unset] [(.int (16 : Int32)), (.long q0), (.int (5 : Int32)), (.ref b2)])) _
    refine XS.lushr X22.here hx rfl (hb hby at_62) rfl ?_
    show Steps p.tables e below (T22.setTop (mkF m 63 #[.val (.long q0), .second, .val (.int p1), .val (.int p2), .val (.int p3), .val (.int p4), .val (.int p5), .val (.ref b2), .unset, .unset, .unset, .unset, .unset, .unset, .unset, .unset, .unset] [(.long ((q0.toUInt64 >>> ((16 : Int32) &&& 0x3f).toInt64.toUInt64).toInt64)), (.int (5 : Int32)), (.ref b2)])) _
    refine XS.l2i X22.here hx rfl (hb hby at_63) rfl ?_
    show Steps p.tables e below (T22.setTop (mkF m 64 #[.val (.long q0), .second, .val (.int p1), .val (.int p2), .val (.int p3), .val (.int p4), .val (.int p5), .val (.ref b2), .unset, .unset, .unset, .unset, .unset, .unset, .unset, .unset, .unset] [(.int (((q0.toUInt64 >>> ((16 : Int32) &&& 0x3f).toInt64.toUInt64).toInt64).toInt32)), (.int (5 : Int32)), (.ref b2)])) _
    refine XS.i2b X22.here hx rfl (hb hby at_64) rfl ?_
    exact kt)
  have tv25 := V22
  obtain ⟨cl25, Ar25, q25, S25, Ng25, H25, G25⟩ := tv25
  have hin25 : ¬ ((5 : Int32) < 0 ∨ cl25.slots.size ≤ ((5 : Int32)).toNatClampNeg) := inb_of S25 ⟨by decide, by decide⟩
  obtain ⟨T26, h26, X26, e26, W26, st26⟩ := stB X22 hx hZ e22 Ar25 (j := (5 : Int32)) hin25 (g := (mkF m 65 #[.val (.long q0), .second, .val (.int p1), .val (.int p2), .val (.int p3), .val (.int p4), .val (.int p5), .val (.ref b2), .unset, .unset, .unset, .unset, .unset, .unset, .unset, .unset, .unset] [(.int ((((q0.toUInt64 >>> ((16 : Int32) &&& 0x3f).toInt64.toUInt64).toInt64).toInt32).toInt8.toInt32)), (.int (5 : Int32)), (.ref b2)])) rfl rfl (hb hby at_65)
  have pre27 : ∀ t, Steps p.tables e below (T26.setTop (mkF m 66 #[.val (.long q0), .second, .val (.int p1), .val (.int p2), .val (.int p3), .val (.int p4), .val (.int p5), .val (.ref b2), .unset, .unset, .unset, .unset, .unset, .unset, .unset, .unset, .unset] [])) t → Steps p.tables e below (s₁.setTop (entryFrame m #[(.long q0), (.int p1), (.int p2), (.int p3), (.int p4), (.int p5)] maxLocals)) t := fun t kt => pre24 t (st26 _ kt)
  have V26 : Arv Z h26 b2 k2 .byte (8 : Int32) [(.int (nar .byte ((((q0.toUInt64 >>> ((56 : Int32) &&& 0x3f).toInt64.toUInt64).toInt64).toInt32).toInt8.toInt32))), (.int (nar .byte ((((q0.toUInt64 >>> ((48 : Int32) &&& 0x3f).toInt64.toUInt64).toInt64).toInt32).toInt8.toInt32))), (.int (nar .byte ((((q0.toUInt64 >>> ((40 : Int32) &&& 0x3f).toInt64.toUInt64).toInt64).toInt32).toInt8.toInt32))), (.int (nar .byte ((((q0.toUInt64 >>> ((32 : Int32) &&& 0x3f).toInt64.toUInt64).toInt64).toInt32).toInt8.toInt32))), (.int (nar .byte ((((q0.toUInt64 >>> ((24 : Int32) &&& 0x3f).toInt64.toUInt64).toInt64).toInt32).toInt8.toInt32))), (.int (nar .byte ((((q0.toUInt64 >>> ((16 : Int32) &&& 0x3f).toInt64.toUInt64).toInt64).toInt32).toInt8.toInt32))), (.int (0 : Int32)), (.int (0 : Int32))] (.int (0 : Int32)) := Arv.set Ar25 q25 S25 Ng25 H25 G25 (fits_nar_byte ((((q0.toUInt64 >>> ((16 : Int32) &&& 0x3f).toInt64.toUInt64).toInt64).toInt32).toInt8.toInt32)) W26 5 rfl (Nat.le_of_ble_eq_true rfl)
  have K26 : Keep h0 h26 [] := K22.wr W26 (Or.inr sz2)
  have N26 := Fr.snoc X26 N22 gn2
  have Z26 : n0 ≤ h26.size := Nat.le_trans Z22 (Keep.of_wr W26).1
  have pre28 : ∀ t, Steps p.tables e below (T26.setTop (mkF m 76 #[.val (.long q0), .second, .val (.int p1), .val (.int p2), .val (.int p3), .val (.int p4), .val (.int p5), .val (.ref b2), .unset, .unset, .unset, .unset, .unset, .unset, .unset, .unset, .unset] [(.int ((((q0.toUInt64 >>> ((8 : Int32) &&& 0x3f).toInt64.toUInt64).toInt64).toInt32).toInt8.toInt32)), (.int (6 : Int32)), (.ref b2)])) t → Steps p.tables e below (s₁.setTop (entryFrame m #[(.long q0), (.int p1), (.int p2), (.int p3), (.int p4), (.int p5)] maxLocals)) t := fun t kt => pre27 t (by
    show Steps p.tables e below (T26.setTop (mkF m 66 #[.val (.long q0), .second, .val (.int p1), .val (.int p2), .val (.int p3), .val (.int p4), .val (.int p5), .val (.ref b2), .unset, .unset, .unset, .unset, .unset, .unset, .unset, .unset, .unset] [])) _
    refine XS.aload X26.here hx rfl (hb hby at_66) rfl rfl ?_
    show Steps p.tables e below (T26.setTop (mkF m 68 #[.val (.long q0), .second, .val (.int p1), .val (.int p2), .val (.int p3), .val (.int p4), .val (.int p5), .val (.ref b2), .unset, .unset, .unset, .unset, .unset, .unset, .unset, .unset, .unset] [(.ref b2)])) _
    refine XS.bipush X26.here hx rfl (hb hby at_68) ?_
    show Steps p.tables e below (T26.setTop (mkF m 70 #[.val (.long q0), .second, .val (.int p1), .val (.int p2), .val (.int p3), .val (.int p4), .val (.int p5), .val (.ref b2), .unset, .unset, .unset, .unset, .unset, .unset, .unset, .unset, .unset] [(.int (6 : Int32)), (.ref b2)])) _
    refine XS.lloadN X26.here hx rfl (hb hby at_70) rfl ?_
    show Steps p.tables e below (T26.setTop (mkF m 71 #[.val (.long q0), .second, .val (.int p1), .val (.int p2), .val (.int p3), .val (.int p4), .val (.int p5), .val (.ref b2), .unset, .unset, .unset, .unset, .unset, .unset, .unset, .unset, .unset] [(.long q0), (.int (6 : Int32)), (.ref b2)])) _
    refine XS.bipush X26.here hx rfl (hb hby at_71) ?_
    show Steps p.tables e below (T26.setTop (mkF m 73 #[.val (.long q0), .second, .val (.int p1), .val (.int p2), .val (.int p3), .val (.int p4), .val (.int p5), .val (.ref b2), .unset, .unset, .unset, .unset, .unset, .unset, .unset, .unset, .unset] [(.int (8 : Int32)), (.long q0), (.int (6 : Int32)), (.ref b2)])) _
    refine XS.lushr X26.here hx rfl (hb hby at_73) rfl ?_
    show Steps p.tables e below (T26.setTop (mkF m 74 #[.val (.long q0), .second, .val (.int p1), .val (.int p2), .val (.int p3), .val (.int p4), .val (.int p5), .val (.ref b2), .unset, .unset, .unset, .unset, .unset, .unset, .unset, .unset, .unset] [(.long ((q0.toUInt64 >>> ((8 : Int32) &&& 0x3f).toInt64.toUInt64).toInt64)), (.int (6 : Int32)), (.ref b2)])) _
    refine XS.l2i X26.here hx rfl (hb hby at_74) rfl ?_
    show Steps p.tables e below (T26.setTop (mkF m 75 #[.val (.long q0), .second, .val (.int p1), .val (.int p2), .val (.int p3), .val (.int p4), .val (.int p5), .val (.ref b2), .unset, .unset, .unset, .unset, .unset, .unset, .unset, .unset, .unset] [(.int (((q0.toUInt64 >>> ((8 : Int32) &&& 0x3f).toInt64.toUInt64).toInt64).toInt32)), (.int (6 : Int32)), (.ref b2)])) _
    refine XS.i2b X26.here hx rfl (hb hby at_75) rfl ?_
    exact kt)
  have tv29 := V26
  obtain ⟨cl29, Ar29, q29, S29, Ng29, H29, G29⟩ := tv29
  have hin29 : ¬ ((6 : Int32) < 0 ∨ cl29.slots.size ≤ ((6 : Int32)).toNatClampNeg) := inb_of S29 ⟨by decide, by decide⟩
  obtain ⟨T30, h30, X30, e30, W30, st30⟩ := stB X26 hx hZ e26 Ar29 (j := (6 : Int32)) hin29 (g := (mkF m 76 #[.val (.long q0), .second, .val (.int p1), .val (.int p2), .val (.int p3), .val (.int p4), .val (.int p5), .val (.ref b2), .unset, .unset, .unset, .unset, .unset, .unset, .unset, .unset, .unset] [(.int ((((q0.toUInt64 >>> ((8 : Int32) &&& 0x3f).toInt64.toUInt64).toInt64).toInt32).toInt8.toInt32)), (.int (6 : Int32)), (.ref b2)])) rfl rfl (hb hby at_76)
  have pre31 : ∀ t, Steps p.tables e below (T30.setTop (mkF m 77 #[.val (.long q0), .second, .val (.int p1), .val (.int p2), .val (.int p3), .val (.int p4), .val (.int p5), .val (.ref b2), .unset, .unset, .unset, .unset, .unset, .unset, .unset, .unset, .unset] [])) t → Steps p.tables e below (s₁.setTop (entryFrame m #[(.long q0), (.int p1), (.int p2), (.int p3), (.int p4), (.int p5)] maxLocals)) t := fun t kt => pre28 t (st30 _ kt)
  have V30 : Arv Z h30 b2 k2 .byte (8 : Int32) [(.int (nar .byte ((((q0.toUInt64 >>> ((56 : Int32) &&& 0x3f).toInt64.toUInt64).toInt64).toInt32).toInt8.toInt32))), (.int (nar .byte ((((q0.toUInt64 >>> ((48 : Int32) &&& 0x3f).toInt64.toUInt64).toInt64).toInt32).toInt8.toInt32))), (.int (nar .byte ((((q0.toUInt64 >>> ((40 : Int32) &&& 0x3f).toInt64.toUInt64).toInt64).toInt32).toInt8.toInt32))), (.int (nar .byte ((((q0.toUInt64 >>> ((32 : Int32) &&& 0x3f).toInt64.toUInt64).toInt64).toInt32).toInt8.toInt32))), (.int (nar .byte ((((q0.toUInt64 >>> ((24 : Int32) &&& 0x3f).toInt64.toUInt64).toInt64).toInt32).toInt8.toInt32))), (.int (nar .byte ((((q0.toUInt64 >>> ((16 : Int32) &&& 0x3f).toInt64.toUInt64).toInt64).toInt32).toInt8.toInt32))), (.int (nar .byte ((((q0.toUInt64 >>> ((8 : Int32) &&& 0x3f).toInt64.toUInt64).toInt64).toInt32).toInt8.toInt32))), (.int (0 : Int32))] (.int (0 : Int32)) := Arv.set Ar29 q29 S29 Ng29 H29 G29 (fits_nar_byte ((((q0.toUInt64 >>> ((8 : Int32) &&& 0x3f).toInt64.toUInt64).toInt64).toInt32).toInt8.toInt32)) W30 6 rfl (Nat.le_of_ble_eq_true rfl)
  have K30 : Keep h0 h30 [] := K26.wr W30 (Or.inr sz2)
  have N30 := Fr.snoc X30 N26 gn2
  have Z30 : n0 ≤ h30.size := Nat.le_trans Z26 (Keep.of_wr W30).1
  have pre32 : ∀ t, Steps p.tables e below (T30.setTop (mkF m 84 #[.val (.long q0), .second, .val (.int p1), .val (.int p2), .val (.int p3), .val (.int p4), .val (.int p5), .val (.ref b2), .unset, .unset, .unset, .unset, .unset, .unset, .unset, .unset, .unset] [(.int ((q0.toInt32).toInt8.toInt32)), (.int (7 : Int32)), (.ref b2)])) t → Steps p.tables e below (s₁.setTop (entryFrame m #[(.long q0), (.int p1), (.int p2), (.int p3), (.int p4), (.int p5)] maxLocals)) t := fun t kt => pre31 t (by
    show Steps p.tables e below (T30.setTop (mkF m 77 #[.val (.long q0), .second, .val (.int p1), .val (.int p2), .val (.int p3), .val (.int p4), .val (.int p5), .val (.ref b2), .unset, .unset, .unset, .unset, .unset, .unset, .unset, .unset, .unset] [])) _
    refine XS.aload X30.here hx rfl (hb hby at_77) rfl rfl ?_
    show Steps p.tables e below (T30.setTop (mkF m 79 #[.val (.long q0), .second, .val (.int p1), .val (.int p2), .val (.int p3), .val (.int p4), .val (.int p5), .val (.ref b2), .unset, .unset, .unset, .unset, .unset, .unset, .unset, .unset, .unset] [(.ref b2)])) _
    refine XS.bipush X30.here hx rfl (hb hby at_79) ?_
    show Steps p.tables e below (T30.setTop (mkF m 81 #[.val (.long q0), .second, .val (.int p1), .val (.int p2), .val (.int p3), .val (.int p4), .val (.int p5), .val (.ref b2), .unset, .unset, .unset, .unset, .unset, .unset, .unset, .unset, .unset] [(.int (7 : Int32)), (.ref b2)])) _
    refine XS.lloadN X30.here hx rfl (hb hby at_81) rfl ?_
    show Steps p.tables e below (T30.setTop (mkF m 82 #[.val (.long q0), .second, .val (.int p1), .val (.int p2), .val (.int p3), .val (.int p4), .val (.int p5), .val (.ref b2), .unset, .unset, .unset, .unset, .unset, .unset, .unset, .unset, .unset] [(.long q0), (.int (7 : Int32)), (.ref b2)])) _
    refine XS.l2i X30.here hx rfl (hb hby at_82) rfl ?_
    show Steps p.tables e below (T30.setTop (mkF m 83 #[.val (.long q0), .second, .val (.int p1), .val (.int p2), .val (.int p3), .val (.int p4), .val (.int p5), .val (.ref b2), .unset, .unset, .unset, .unset, .unset, .unset, .unset, .unset, .unset] [(.int (q0.toInt32)), (.int (7 : Int32)), (.ref b2)])) _
    refine XS.i2b X30.here hx rfl (hb hby at_83) rfl ?_
    exact kt)
  have tv33 := V30
  obtain ⟨cl33, Ar33, q33, S33, Ng33, H33, G33⟩ := tv33
  have hin33 : ¬ ((7 : Int32) < 0 ∨ cl33.slots.size ≤ ((7 : Int32)).toNatClampNeg) := inb_of S33 ⟨by decide, by decide⟩
  obtain ⟨T34, h34, X34, e34, W34, st34⟩ := stB X30 hx hZ e30 Ar33 (j := (7 : Int32)) hin33 (g := (mkF m 84 #[.val (.long q0), .second, .val (.int p1), .val (.int p2), .val (.int p3), .val (.int p4), .val (.int p5), .val (.ref b2), .unset, .unset, .unset, .unset, .unset, .unset, .unset, .unset, .unset] [(.int ((q0.toInt32).toInt8.toInt32)), (.int (7 : Int32)), (.ref b2)])) rfl rfl (hb hby at_84)
  have pre35 : ∀ t, Steps p.tables e below (T34.setTop (mkF m 85 #[.val (.long q0), .second, .val (.int p1), .val (.int p2), .val (.int p3), .val (.int p4), .val (.int p5), .val (.ref b2), .unset, .unset, .unset, .unset, .unset, .unset, .unset, .unset, .unset] [])) t → Steps p.tables e below (s₁.setTop (entryFrame m #[(.long q0), (.int p1), (.int p2), (.int p3), (.int p4), (.int p5)] maxLocals)) t := fun t kt => pre32 t (st34 _ kt)
  have V34 : Arv Z h34 b2 k2 .byte (8 : Int32) [(.int (nar .byte ((((q0.toUInt64 >>> ((56 : Int32) &&& 0x3f).toInt64.toUInt64).toInt64).toInt32).toInt8.toInt32))), (.int (nar .byte ((((q0.toUInt64 >>> ((48 : Int32) &&& 0x3f).toInt64.toUInt64).toInt64).toInt32).toInt8.toInt32))), (.int (nar .byte ((((q0.toUInt64 >>> ((40 : Int32) &&& 0x3f).toInt64.toUInt64).toInt64).toInt32).toInt8.toInt32))), (.int (nar .byte ((((q0.toUInt64 >>> ((32 : Int32) &&& 0x3f).toInt64.toUInt64).toInt64).toInt32).toInt8.toInt32))), (.int (nar .byte ((((q0.toUInt64 >>> ((24 : Int32) &&& 0x3f).toInt64.toUInt64).toInt64).toInt32).toInt8.toInt32))), (.int (nar .byte ((((q0.toUInt64 >>> ((16 : Int32) &&& 0x3f).toInt64.toUInt64).toInt64).toInt32).toInt8.toInt32))), (.int (nar .byte ((((q0.toUInt64 >>> ((8 : Int32) &&& 0x3f).toInt64.toUInt64).toInt64).toInt32).toInt8.toInt32))), (.int (nar .byte ((q0.toInt32).toInt8.toInt32)))] (.int (0 : Int32)) := Arv.set Ar33 q33 S33 Ng33 H33 G33 (fits_nar_byte ((q0.toInt32).toInt8.toInt32)) W34 7 rfl (Nat.le_of_ble_eq_true rfl)
  have K34 : Keep h0 h34 [] := K30.wr W34 (Or.inr sz2)
  have N34 := Fr.snoc X34 N30 gn2
  have Z34 : n0 ≤ h34.size := Nat.le_trans Z30 (Keep.of_wr W34).1
  have pre36 : ∀ t, Steps p.tables e below (T34.setTop (mkF m 94 #[.val (.long q0), .second, .val (.int p1), .val (.int p2), .val (.int p3), .val (.int p4), .val (.int p5), .val (.ref b2), .val (.int ((p1 &&& (2147483647 : Int32)) % (9 : Int32))), .unset, .unset, .unset, .unset, .unset, .unset, .unset, .unset] [])) t → Steps p.tables e below (s₁.setTop (entryFrame m #[(.long q0), (.int p1), (.int p2), (.int p3), (.int p4), (.int p5)] maxLocals)) t := fun t kt => pre35 t (by
    show Steps p.tables e below (T34.setTop (mkF m 85 #[.val (.long q0), .second, .val (.int p1), .val (.int p2), .val (.int p3), .val (.int p4), .val (.int p5), .val (.ref b2), .unset, .unset, .unset, .unset, .unset, .unset, .unset, .unset, .unset] [])) _
    refine XS.iloadN X34.here hx rfl (hb hby at_85) rfl ?_
    show Steps p.tables e below (T34.setTop (mkF m 86 #[.val (.long q0), .second, .val (.int p1), .val (.int p2), .val (.int p3), .val (.int p4), .val (.int p5), .val (.ref b2), .unset, .unset, .unset, .unset, .unset, .unset, .unset, .unset, .unset] [(.int p1)])) _
    refine X34.ldcInt hx hown (mvT hZ (hw _ (List.mem_of_getElem? (i := 1) rfl))) (g := (mkF m 86 #[.val (.long q0), .second, .val (.int p1), .val (.int p2), .val (.int p3), .val (.int p4), .val (.int p5), .val (.ref b2), .unset, .unset, .unset, .unset, .unset, .unset, .unset, .unset, .unset] [(.int p1)])) rfl (hb hby at_86) _ ?_
    show Steps p.tables e below (T34.setTop (mkF m 88 #[.val (.long q0), .second, .val (.int p1), .val (.int p2), .val (.int p3), .val (.int p4), .val (.int p5), .val (.ref b2), .unset, .unset, .unset, .unset, .unset, .unset, .unset, .unset, .unset] [(.int (2147483647 : Int32)), (.int p1)])) _
    refine XS.iand X34.here hx rfl (hb hby at_88) rfl ?_
    show Steps p.tables e below (T34.setTop (mkF m 89 #[.val (.long q0), .second, .val (.int p1), .val (.int p2), .val (.int p3), .val (.int p4), .val (.int p5), .val (.ref b2), .unset, .unset, .unset, .unset, .unset, .unset, .unset, .unset, .unset] [(.int (p1 &&& (2147483647 : Int32)))])) _
    refine XS.bipush X34.here hx rfl (hb hby at_89) ?_
    show Steps p.tables e below (T34.setTop (mkF m 91 #[.val (.long q0), .second, .val (.int p1), .val (.int p2), .val (.int p3), .val (.int p4), .val (.int p5), .val (.ref b2), .unset, .unset, .unset, .unset, .unset, .unset, .unset, .unset, .unset] [(.int (9 : Int32)), (.int (p1 &&& (2147483647 : Int32)))])) _
    refine XS.irem X34.here hx rfl (hb hby at_91) rfl (by decide) ?_
    rw [own_irem]
    show Steps p.tables e below (T34.setTop (mkF m 92 #[.val (.long q0), .second, .val (.int p1), .val (.int p2), .val (.int p3), .val (.int p4), .val (.int p5), .val (.ref b2), .unset, .unset, .unset, .unset, .unset, .unset, .unset, .unset, .unset] [(.int ((p1 &&& (2147483647 : Int32)) % (9 : Int32)))])) _
    refine XS.istore X34.here hx rfl (hb hby at_92) rfl (l' := #[.val (.long q0), .second, .val (.int p1), .val (.int p2), .val (.int p3), .val (.int p4), .val (.int p5), .val (.ref b2), .val (.int ((p1 &&& (2147483647 : Int32)) % (9 : Int32))), .unset, .unset, .unset, .unset, .unset, .unset, .unset, .unset]) rfl ?_
    exact kt)
  obtain ⟨vf, hm37, pre37⟩ : ∃ (vf : Int32), (0 ≤ vf.toInt ∧ vf.toInt ≤ 8) ∧ ∀ t, Steps p.tables e below (T34.setTop (mkF m 94 #[.val (.long q0), .second, .val (.int p1), .val (.int p2), .val (.int p3), .val (.int p4), .val (.int p5), .val (.ref b2), .val (.int vf), .unset, .unset, .unset, .unset, .unset, .unset, .unset, .unset] [])) t → Steps p.tables e below (s₁.setTop (entryFrame m #[(.long q0), (.int p1), (.int p2), (.int p3), (.int p4), (.int p5)] maxLocals)) t := ⟨((p1 &&& (2147483647 : Int32)) % (9 : Int32)), own_fr p1, pre36⟩
  have pre38 : ∀ t, Steps p.tables e below (T34.setTop (mkF m 109 #[.val (.long q0), .second, .val (.int p1), .val (.int p2), .val (.int p3), .val (.int p4), .val (.int p5), .val (.ref b2), .val (.int vf), .val (.int (vf + ((p2 &&& (2147483647 : Int32)) % ((9 : Int32) - vf)))), .unset, .unset, .unset, .unset, .unset, .unset, .unset] [])) t → Steps p.tables e below (s₁.setTop (entryFrame m #[(.long q0), (.int p1), (.int p2), (.int p3), (.int p4), (.int p5)] maxLocals)) t := fun t kt => pre37 t (by
    show Steps p.tables e below (T34.setTop (mkF m 94 #[.val (.long q0), .second, .val (.int p1), .val (.int p2), .val (.int p3), .val (.int p4), .val (.int p5), .val (.ref b2), .val (.int vf), .unset, .unset, .unset, .unset, .unset, .unset, .unset, .unset] [])) _
    refine XS.iload X34.here hx rfl (hb hby at_94) rfl ?_
    show Steps p.tables e below (T34.setTop (mkF m 96 #[.val (.long q0), .second, .val (.int p1), .val (.int p2), .val (.int p3), .val (.int p4), .val (.int p5), .val (.ref b2), .val (.int vf), .unset, .unset, .unset, .unset, .unset, .unset, .unset, .unset] [(.int vf)])) _
    refine XS.iloadN X34.here hx rfl (hb hby at_96) rfl ?_
    show Steps p.tables e below (T34.setTop (mkF m 97 #[.val (.long q0), .second, .val (.int p1), .val (.int p2), .val (.int p3), .val (.int p4), .val (.int p5), .val (.ref b2), .val (.int vf), .unset, .unset, .unset, .unset, .unset, .unset, .unset, .unset] [(.int p2), (.int vf)])) _
    refine X34.ldcInt hx hown (mvT hZ (hw _ (List.mem_of_getElem? (i := 1) rfl))) (g := (mkF m 97 #[.val (.long q0), .second, .val (.int p1), .val (.int p2), .val (.int p3), .val (.int p4), .val (.int p5), .val (.ref b2), .val (.int vf), .unset, .unset, .unset, .unset, .unset, .unset, .unset, .unset] [(.int p2), (.int vf)])) rfl (hb hby at_97) _ ?_
    show Steps p.tables e below (T34.setTop (mkF m 99 #[.val (.long q0), .second, .val (.int p1), .val (.int p2), .val (.int p3), .val (.int p4), .val (.int p5), .val (.ref b2), .val (.int vf), .unset, .unset, .unset, .unset, .unset, .unset, .unset, .unset] [(.int (2147483647 : Int32)), (.int p2), (.int vf)])) _
    refine XS.iand X34.here hx rfl (hb hby at_99) rfl ?_
    show Steps p.tables e below (T34.setTop (mkF m 100 #[.val (.long q0), .second, .val (.int p1), .val (.int p2), .val (.int p3), .val (.int p4), .val (.int p5), .val (.ref b2), .val (.int vf), .unset, .unset, .unset, .unset, .unset, .unset, .unset, .unset] [(.int (p2 &&& (2147483647 : Int32))), (.int vf)])) _
    refine XS.bipush X34.here hx rfl (hb hby at_100) ?_
    show Steps p.tables e below (T34.setTop (mkF m 102 #[.val (.long q0), .second, .val (.int p1), .val (.int p2), .val (.int p3), .val (.int p4), .val (.int p5), .val (.ref b2), .val (.int vf), .unset, .unset, .unset, .unset, .unset, .unset, .unset, .unset] [(.int (9 : Int32)), (.int (p2 &&& (2147483647 : Int32))), (.int vf)])) _
    refine XS.iload X34.here hx rfl (hb hby at_102) rfl ?_
    show Steps p.tables e below (T34.setTop (mkF m 104 #[.val (.long q0), .second, .val (.int p1), .val (.int p2), .val (.int p3), .val (.int p4), .val (.int p5), .val (.ref b2), .val (.int vf), .unset, .unset, .unset, .unset, .unset, .unset, .unset, .unset] [(.int vf), (.int (9 : Int32)), (.int (p2 &&& (2147483647 : Int32))), (.int vf)])) _
    refine XS.isub X34.here hx rfl (hb hby at_104) rfl ?_
    show Steps p.tables e below (T34.setTop (mkF m 105 #[.val (.long q0), .second, .val (.int p1), .val (.int p2), .val (.int p3), .val (.int p4), .val (.int p5), .val (.ref b2), .val (.int vf), .unset, .unset, .unset, .unset, .unset, .unset, .unset, .unset] [(.int ((9 : Int32) - vf)), (.int (p2 &&& (2147483647 : Int32))), (.int vf)])) _
    refine XS.irem X34.here hx rfl (hb hby at_105) rfl (own_nz9 vf hm37) ?_
    rw [own_irem]
    show Steps p.tables e below (T34.setTop (mkF m 106 #[.val (.long q0), .second, .val (.int p1), .val (.int p2), .val (.int p3), .val (.int p4), .val (.int p5), .val (.ref b2), .val (.int vf), .unset, .unset, .unset, .unset, .unset, .unset, .unset, .unset] [(.int ((p2 &&& (2147483647 : Int32)) % ((9 : Int32) - vf))), (.int vf)])) _
    refine XS.iadd X34.here hx rfl (hb hby at_106) rfl ?_
    show Steps p.tables e below (T34.setTop (mkF m 107 #[.val (.long q0), .second, .val (.int p1), .val (.int p2), .val (.int p3), .val (.int p4), .val (.int p5), .val (.ref b2), .val (.int vf), .unset, .unset, .unset, .unset, .unset, .unset, .unset, .unset] [(.int (vf + ((p2 &&& (2147483647 : Int32)) % ((9 : Int32) - vf))))])) _
    refine XS.istore X34.here hx rfl (hb hby at_107) rfl (l' := #[.val (.long q0), .second, .val (.int p1), .val (.int p2), .val (.int p3), .val (.int p4), .val (.int p5), .val (.ref b2), .val (.int vf), .val (.int (vf + ((p2 &&& (2147483647 : Int32)) % ((9 : Int32) - vf)))), .unset, .unset, .unset, .unset, .unset, .unset, .unset]) rfl ?_
    exact kt)
  obtain ⟨vt, hm39, pre39⟩ : ∃ (vt : Int32), (vf.toInt ≤ vt.toInt ∧ vt.toInt ≤ 8) ∧ ∀ t, Steps p.tables e below (T34.setTop (mkF m 109 #[.val (.long q0), .second, .val (.int p1), .val (.int p2), .val (.int p3), .val (.int p4), .val (.int p5), .val (.ref b2), .val (.int vf), .val (.int vt), .unset, .unset, .unset, .unset, .unset, .unset, .unset] [])) t → Steps p.tables e below (s₁.setTop (entryFrame m #[(.long q0), (.int p1), (.int p2), (.int p3), (.int p4), (.int p5)] maxLocals)) t := ⟨(vf + ((p2 &&& (2147483647 : Int32)) % ((9 : Int32) - vf))), own_to vf p2 hm37, pre38⟩
  have pre40 : ∀ t, Steps p.tables e below (T34.setTop (mkF m 119 #[.val (.long q0), .second, .val (.int p1), .val (.int p2), .val (.int p3), .val (.int p4), .val (.int p5), .val (.ref b2), .val (.int vf), .val (.int vt), .val (.int ((p3 &&& (2147483647 : Int32)) % (65 : Int32))), .unset, .unset, .unset, .unset, .unset, .unset] [])) t → Steps p.tables e below (s₁.setTop (entryFrame m #[(.long q0), (.int p1), (.int p2), (.int p3), (.int p4), (.int p5)] maxLocals)) t := fun t kt => pre39 t (by
    show Steps p.tables e below (T34.setTop (mkF m 109 #[.val (.long q0), .second, .val (.int p1), .val (.int p2), .val (.int p3), .val (.int p4), .val (.int p5), .val (.ref b2), .val (.int vf), .val (.int vt), .unset, .unset, .unset, .unset, .unset, .unset, .unset] [])) _
    refine XS.iload X34.here hx rfl (hb hby at_109) rfl ?_
    show Steps p.tables e below (T34.setTop (mkF m 111 #[.val (.long q0), .second, .val (.int p1), .val (.int p2), .val (.int p3), .val (.int p4), .val (.int p5), .val (.ref b2), .val (.int vf), .val (.int vt), .unset, .unset, .unset, .unset, .unset, .unset, .unset] [(.int p3)])) _
    refine X34.ldcInt hx hown (mvT hZ (hw _ (List.mem_of_getElem? (i := 1) rfl))) (g := (mkF m 111 #[.val (.long q0), .second, .val (.int p1), .val (.int p2), .val (.int p3), .val (.int p4), .val (.int p5), .val (.ref b2), .val (.int vf), .val (.int vt), .unset, .unset, .unset, .unset, .unset, .unset, .unset] [(.int p3)])) rfl (hb hby at_111) _ ?_
    show Steps p.tables e below (T34.setTop (mkF m 113 #[.val (.long q0), .second, .val (.int p1), .val (.int p2), .val (.int p3), .val (.int p4), .val (.int p5), .val (.ref b2), .val (.int vf), .val (.int vt), .unset, .unset, .unset, .unset, .unset, .unset, .unset] [(.int (2147483647 : Int32)), (.int p3)])) _
    refine XS.iand X34.here hx rfl (hb hby at_113) rfl ?_
    show Steps p.tables e below (T34.setTop (mkF m 114 #[.val (.long q0), .second, .val (.int p1), .val (.int p2), .val (.int p3), .val (.int p4), .val (.int p5), .val (.ref b2), .val (.int vf), .val (.int vt), .unset, .unset, .unset, .unset, .unset, .unset, .unset] [(.int (p3 &&& (2147483647 : Int32)))])) _
    refine XS.bipush X34.here hx rfl (hb hby at_114) ?_
    show Steps p.tables e below (T34.setTop (mkF m 116 #[.val (.long q0), .second, .val (.int p1), .val (.int p2), .val (.int p3), .val (.int p4), .val (.int p5), .val (.ref b2), .val (.int vf), .val (.int vt), .unset, .unset, .unset, .unset, .unset, .unset, .unset] [(.int (65 : Int32)), (.int (p3 &&& (2147483647 : Int32)))])) _
    refine XS.irem X34.here hx rfl (hb hby at_116) rfl (by decide) ?_
    rw [own_irem]
    show Steps p.tables e below (T34.setTop (mkF m 117 #[.val (.long q0), .second, .val (.int p1), .val (.int p2), .val (.int p3), .val (.int p4), .val (.int p5), .val (.ref b2), .val (.int vf), .val (.int vt), .unset, .unset, .unset, .unset, .unset, .unset, .unset] [(.int ((p3 &&& (2147483647 : Int32)) % (65 : Int32)))])) _
    refine XS.istore X34.here hx rfl (hb hby at_117) rfl (l' := #[.val (.long q0), .second, .val (.int p1), .val (.int p2), .val (.int p3), .val (.int p4), .val (.int p5), .val (.ref b2), .val (.int vf), .val (.int vt), .val (.int ((p3 &&& (2147483647 : Int32)) % (65 : Int32))), .unset, .unset, .unset, .unset, .unset, .unset]) rfl ?_
    exact kt)
  obtain ⟨ka, hm41, pre41⟩ : ∃ (ka : Int32), (0 ≤ ka.toInt ∧ ka.toInt ≤ 64) ∧ ∀ t, Steps p.tables e below (T34.setTop (mkF m 119 #[.val (.long q0), .second, .val (.int p1), .val (.int p2), .val (.int p3), .val (.int p4), .val (.int p5), .val (.ref b2), .val (.int vf), .val (.int vt), .val (.int ka), .unset, .unset, .unset, .unset, .unset, .unset] [])) t → Steps p.tables e below (s₁.setTop (entryFrame m #[(.long q0), (.int p1), (.int p2), (.int p3), (.int p4), (.int p5)] maxLocals)) t := ⟨((p3 &&& (2147483647 : Int32)) % (65 : Int32)), own_k p3, pre40⟩
  have pre42 : ∀ t, Steps p.tables e below (T34.setTop (mkF m 129 #[.val (.long q0), .second, .val (.int p1), .val (.int p2), .val (.int p3), .val (.int p4), .val (.int p5), .val (.ref b2), .val (.int vf), .val (.int vt), .val (.int ka), .val (.int ((p4 &&& (2147483647 : Int32)) % (65 : Int32))), .unset, .unset, .unset, .unset, .unset] [])) t → Steps p.tables e below (s₁.setTop (entryFrame m #[(.long q0), (.int p1), (.int p2), (.int p3), (.int p4), (.int p5)] maxLocals)) t := fun t kt => pre41 t (by
    show Steps p.tables e below (T34.setTop (mkF m 119 #[.val (.long q0), .second, .val (.int p1), .val (.int p2), .val (.int p3), .val (.int p4), .val (.int p5), .val (.ref b2), .val (.int vf), .val (.int vt), .val (.int ka), .unset, .unset, .unset, .unset, .unset, .unset] [])) _
    refine XS.iload X34.here hx rfl (hb hby at_119) rfl ?_
    show Steps p.tables e below (T34.setTop (mkF m 121 #[.val (.long q0), .second, .val (.int p1), .val (.int p2), .val (.int p3), .val (.int p4), .val (.int p5), .val (.ref b2), .val (.int vf), .val (.int vt), .val (.int ka), .unset, .unset, .unset, .unset, .unset, .unset] [(.int p4)])) _
    refine X34.ldcInt hx hown (mvT hZ (hw _ (List.mem_of_getElem? (i := 1) rfl))) (g := (mkF m 121 #[.val (.long q0), .second, .val (.int p1), .val (.int p2), .val (.int p3), .val (.int p4), .val (.int p5), .val (.ref b2), .val (.int vf), .val (.int vt), .val (.int ka), .unset, .unset, .unset, .unset, .unset, .unset] [(.int p4)])) rfl (hb hby at_121) _ ?_
    show Steps p.tables e below (T34.setTop (mkF m 123 #[.val (.long q0), .second, .val (.int p1), .val (.int p2), .val (.int p3), .val (.int p4), .val (.int p5), .val (.ref b2), .val (.int vf), .val (.int vt), .val (.int ka), .unset, .unset, .unset, .unset, .unset, .unset] [(.int (2147483647 : Int32)), (.int p4)])) _
    refine XS.iand X34.here hx rfl (hb hby at_123) rfl ?_
    show Steps p.tables e below (T34.setTop (mkF m 124 #[.val (.long q0), .second, .val (.int p1), .val (.int p2), .val (.int p3), .val (.int p4), .val (.int p5), .val (.ref b2), .val (.int vf), .val (.int vt), .val (.int ka), .unset, .unset, .unset, .unset, .unset, .unset] [(.int (p4 &&& (2147483647 : Int32)))])) _
    refine XS.bipush X34.here hx rfl (hb hby at_124) ?_
    show Steps p.tables e below (T34.setTop (mkF m 126 #[.val (.long q0), .second, .val (.int p1), .val (.int p2), .val (.int p3), .val (.int p4), .val (.int p5), .val (.ref b2), .val (.int vf), .val (.int vt), .val (.int ka), .unset, .unset, .unset, .unset, .unset, .unset] [(.int (65 : Int32)), (.int (p4 &&& (2147483647 : Int32)))])) _
    refine XS.irem X34.here hx rfl (hb hby at_126) rfl (by decide) ?_
    rw [own_irem]
    show Steps p.tables e below (T34.setTop (mkF m 127 #[.val (.long q0), .second, .val (.int p1), .val (.int p2), .val (.int p3), .val (.int p4), .val (.int p5), .val (.ref b2), .val (.int vf), .val (.int vt), .val (.int ka), .unset, .unset, .unset, .unset, .unset, .unset] [(.int ((p4 &&& (2147483647 : Int32)) % (65 : Int32)))])) _
    refine XS.istore X34.here hx rfl (hb hby at_127) rfl (l' := #[.val (.long q0), .second, .val (.int p1), .val (.int p2), .val (.int p3), .val (.int p4), .val (.int p5), .val (.ref b2), .val (.int vf), .val (.int vt), .val (.int ka), .val (.int ((p4 &&& (2147483647 : Int32)) % (65 : Int32))), .unset, .unset, .unset, .unset, .unset]) rfl ?_
    exact kt)
  obtain ⟨kb, hm43, pre43⟩ : ∃ (kb : Int32), (0 ≤ kb.toInt ∧ kb.toInt ≤ 64) ∧ ∀ t, Steps p.tables e below (T34.setTop (mkF m 129 #[.val (.long q0), .second, .val (.int p1), .val (.int p2), .val (.int p3), .val (.int p4), .val (.int p5), .val (.ref b2), .val (.int vf), .val (.int vt), .val (.int ka), .val (.int kb), .unset, .unset, .unset, .unset, .unset] [])) t → Steps p.tables e below (s₁.setTop (entryFrame m #[(.long q0), (.int p1), (.int p2), (.int p3), (.int p4), (.int p5)] maxLocals)) t := ⟨((p4 &&& (2147483647 : Int32)) % (65 : Int32)), own_k p4, pre42⟩
  have pre44 : ∀ t, Steps p.tables e below (T34.setTop (mkF m 139 #[.val (.long q0), .second, .val (.int p1), .val (.int p2), .val (.int p3), .val (.int p4), .val (.int p5), .val (.ref b2), .val (.int vf), .val (.int vt), .val (.int ka), .val (.int kb), .val (.int ((p5 &&& (2147483647 : Int32)) % (65 : Int32))), .unset, .unset, .unset, .unset] [])) t → Steps p.tables e below (s₁.setTop (entryFrame m #[(.long q0), (.int p1), (.int p2), (.int p3), (.int p4), (.int p5)] maxLocals)) t := fun t kt => pre43 t (by
    show Steps p.tables e below (T34.setTop (mkF m 129 #[.val (.long q0), .second, .val (.int p1), .val (.int p2), .val (.int p3), .val (.int p4), .val (.int p5), .val (.ref b2), .val (.int vf), .val (.int vt), .val (.int ka), .val (.int kb), .unset, .unset, .unset, .unset, .unset] [])) _
    refine XS.iload X34.here hx rfl (hb hby at_129) rfl ?_
    show Steps p.tables e below (T34.setTop (mkF m 131 #[.val (.long q0), .second, .val (.int p1), .val (.int p2), .val (.int p3), .val (.int p4), .val (.int p5), .val (.ref b2), .val (.int vf), .val (.int vt), .val (.int ka), .val (.int kb), .unset, .unset, .unset, .unset, .unset] [(.int p5)])) _
    refine X34.ldcInt hx hown (mvT hZ (hw _ (List.mem_of_getElem? (i := 1) rfl))) (g := (mkF m 131 #[.val (.long q0), .second, .val (.int p1), .val (.int p2), .val (.int p3), .val (.int p4), .val (.int p5), .val (.ref b2), .val (.int vf), .val (.int vt), .val (.int ka), .val (.int kb), .unset, .unset, .unset, .unset, .unset] [(.int p5)])) rfl (hb hby at_131) _ ?_
    show Steps p.tables e below (T34.setTop (mkF m 133 #[.val (.long q0), .second, .val (.int p1), .val (.int p2), .val (.int p3), .val (.int p4), .val (.int p5), .val (.ref b2), .val (.int vf), .val (.int vt), .val (.int ka), .val (.int kb), .unset, .unset, .unset, .unset, .unset] [(.int (2147483647 : Int32)), (.int p5)])) _
    refine XS.iand X34.here hx rfl (hb hby at_133) rfl ?_
    show Steps p.tables e below (T34.setTop (mkF m 134 #[.val (.long q0), .second, .val (.int p1), .val (.int p2), .val (.int p3), .val (.int p4), .val (.int p5), .val (.ref b2), .val (.int vf), .val (.int vt), .val (.int ka), .val (.int kb), .unset, .unset, .unset, .unset, .unset] [(.int (p5 &&& (2147483647 : Int32)))])) _
    refine XS.bipush X34.here hx rfl (hb hby at_134) ?_
    show Steps p.tables e below (T34.setTop (mkF m 136 #[.val (.long q0), .second, .val (.int p1), .val (.int p2), .val (.int p3), .val (.int p4), .val (.int p5), .val (.ref b2), .val (.int vf), .val (.int vt), .val (.int ka), .val (.int kb), .unset, .unset, .unset, .unset, .unset] [(.int (65 : Int32)), (.int (p5 &&& (2147483647 : Int32)))])) _
    refine XS.irem X34.here hx rfl (hb hby at_136) rfl (by decide) ?_
    rw [own_irem]
    show Steps p.tables e below (T34.setTop (mkF m 137 #[.val (.long q0), .second, .val (.int p1), .val (.int p2), .val (.int p3), .val (.int p4), .val (.int p5), .val (.ref b2), .val (.int vf), .val (.int vt), .val (.int ka), .val (.int kb), .unset, .unset, .unset, .unset, .unset] [(.int ((p5 &&& (2147483647 : Int32)) % (65 : Int32)))])) _
    refine XS.istore X34.here hx rfl (hb hby at_137) rfl (l' := #[.val (.long q0), .second, .val (.int p1), .val (.int p2), .val (.int p3), .val (.int p4), .val (.int p5), .val (.ref b2), .val (.int vf), .val (.int vt), .val (.int ka), .val (.int kb), .val (.int ((p5 &&& (2147483647 : Int32)) % (65 : Int32))), .unset, .unset, .unset, .unset]) rfl ?_
    exact kt)
  obtain ⟨kc, hm45, pre45⟩ : ∃ (kc : Int32), (0 ≤ kc.toInt ∧ kc.toInt ≤ 64) ∧ ∀ t, Steps p.tables e below (T34.setTop (mkF m 139 #[.val (.long q0), .second, .val (.int p1), .val (.int p2), .val (.int p3), .val (.int p4), .val (.int p5), .val (.ref b2), .val (.int vf), .val (.int vt), .val (.int ka), .val (.int kb), .val (.int kc), .unset, .unset, .unset, .unset] [])) t → Steps p.tables e below (s₁.setTop (entryFrame m #[(.long q0), (.int p1), (.int p2), (.int p3), (.int p4), (.int p5)] maxLocals)) t := ⟨((p5 &&& (2147483647 : Int32)) % (65 : Int32)), own_k p5, pre44⟩
  obtain ⟨T46, h46, X46, e46, E46, A46, D46, -, st46⟩ := newO X34 hx hZ hown (hw _ (List.mem_of_getElem? (i := 2) rfl)) (hw _ (List.mem_of_getElem? (i := 3) rfl)) (hw _ (List.mem_of_getElem? (i := 4) rfl)) e34 (g := (mkF m 139 #[.val (.long q0), .second, .val (.int p1), .val (.int p2), .val (.int p3), .val (.int p4), .val (.int p5), .val (.ref b2), .val (.int vf), .val (.int vt), .val (.int ka), .val (.int kb), .val (.int kc), .unset, .unset, .unset, .unset] [])) rfl (hb hby at_139) (by decide) (by decide)
  obtain ⟨b46, g46⟩ : ∃ z, z = h34.size := ⟨_, rfl⟩
  rw [← g46] at A46 D46 st46
  have ne_b2_b46 : b2 ≠ b46 := Nat.ne_of_lt (Nat.lt_of_lt_of_le V34.lt (Nat.le_of_eq g46.symm))
  have pre47 : ∀ t, Steps p.tables e below (T46.setTop (mkF m 142 #[.val (.long q0), .second, .val (.int p1), .val (.int p2), .val (.int p3), .val (.int p4), .val (.int p5), .val (.ref b2), .val (.int vf), .val (.int vt), .val (.int ka), .val (.int kb), .val (.int kc), .unset, .unset, .unset, .unset] [(.ref b46)])) t → Steps p.tables e below (s₁.setTop (entryFrame m #[(.long q0), (.int p1), (.int p2), (.int p3), (.int p4), (.int p5)] maxLocals)) t := fun t kt => pre45 t (st46 _ kt)
  have F48 : Arv Z h46 b2 k2 .byte (8 : Int32) [(.int (nar .byte ((((q0.toUInt64 >>> ((56 : Int32) &&& 0x3f).toInt64.toUInt64).toInt64).toInt32).toInt8.toInt32))), (.int (nar .byte ((((q0.toUInt64 >>> ((48 : Int32) &&& 0x3f).toInt64.toUInt64).toInt64).toInt32).toInt8.toInt32))), (.int (nar .byte ((((q0.toUInt64 >>> ((40 : Int32) &&& 0x3f).toInt64.toUInt64).toInt64).toInt32).toInt8.toInt32))), (.int (nar .byte ((((q0.toUInt64 >>> ((32 : Int32) &&& 0x3f).toInt64.toUInt64).toInt64).toInt32).toInt8.toInt32))), (.int (nar .byte ((((q0.toUInt64 >>> ((24 : Int32) &&& 0x3f).toInt64.toUInt64).toInt64).toInt32).toInt8.toInt32))), (.int (nar .byte ((((q0.toUInt64 >>> ((16 : Int32) &&& 0x3f).toInt64.toUInt64).toInt64).toInt32).toInt8.toInt32))), (.int (nar .byte ((((q0.toUInt64 >>> ((8 : Int32) &&& 0x3f).toInt64.toUInt64).toInt64).toInt32).toInt8.toInt32))), (.int (nar .byte ((q0.toInt32).toInt8.toInt32)))] (.int (0 : Int32)) := V34.ext E46
  have gn46 : n0 ≤ b46 := Nat.le_trans Z34 (Nat.le_of_eq g46.symm)
  have sz46 : h0.size ≤ b46 := Nat.le_trans K34.1 (Nat.le_of_eq g46.symm)
  have K46 : Keep h0 h46 [] := K34.ext E46
  have Z46 : n0 ≤ h46.size := Nat.le_trans Z34 E46.1
  have Fn46_bytes : Fld Z h46 b46 "com/example/tierfuse/tierfuse/format/BitReader" "bytes" "[B" .null := D46 (Or.inr (hw _ (List.mem_of_getElem? (i := 12) rfl))) (ty := (.array .byte)) (by decide)
  have Fn46_next : Fld Z h46 b46 "com/example/tierfuse/tierfuse/format/BitReader" "next" "I" (.int (0 : Int32)) := D46 (Or.inl (hw _ (List.mem_of_getElem? (i := 14) rfl))) (ty := .int) (by decide)
  have Fn46_end : Fld Z h46 b46 "com/example/tierfuse/tierfuse/format/BitReader" "end" "I" (.int (0 : Int32)) := D46 (Or.inr (hw _ (List.mem_of_getElem? (i := 16) rfl))) (ty := .int) (by decide)
  have Fn46_windowBits : Fld Z h46 b46 "com/example/tierfuse/tierfuse/format/BitReader" "windowBits" "I" (.int (0 : Int32)) := D46 (Or.inl (hw _ (List.mem_of_getElem? (i := 25) rfl))) (ty := .int) (by decide)
  have Fn46_window : Fld Z h46 b46 "com/example/tierfuse/tierfuse/format/BitReader" "window" "J" (.long (0 : Int64)) := D46 (Or.inl (hw _ (List.mem_of_getElem? (i := 40) rfl))) (ty := .long) (by decide)
  have pre49 : ∀ t, Steps p.tables e below (T46.setTop (mkF m 149 #[.val (.long q0), .second, .val (.int p1), .val (.int p2), .val (.int p3), .val (.int p4), .val (.int p5), .val (.ref b2), .val (.int vf), .val (.int vt), .val (.int ka), .val (.int kb), .val (.int kc), .unset, .unset, .unset, .unset] [(.int vt), (.int vf), (.ref b2), (.ref b46), (.ref b46)])) t → Steps p.tables e below (s₁.setTop (entryFrame m #[(.long q0), (.int p1), (.int p2), (.int p3), (.int p4), (.int p5)] maxLocals)) t := fun t kt => pre47 t (by
    show Steps p.tables e below (T46.setTop (mkF m 142 #[.val (.long q0), .second, .val (.int p1), .val (.int p2), .val (.int p3), .val (.int p4), .val (.int p5), .val (.ref b2), .val (.int vf), .val (.int vt), .val (.int ka), .val (.int kb), .val (.int kc), .unset, .unset, .unset, .unset] [(.ref b46)])) _
    refine XS.dup X46.here hx rfl (hb hby at_142) rfl rfl ?_
    show Steps p.tables e below (T46.setTop (mkF m 143 #[.val (.long q0), .second, .val (.int p1), .val (.int p2), .val (.int p3), .val (.int p4), .val (.int p5), .val (.ref b2), .val (.int vf), .val (.int vt), .val (.int ka), .val (.int kb), .val (.int kc), .unset, .unset, .unset, .unset] [(.ref b46), (.ref b46)])) _
    refine XS.aload X46.here hx rfl (hb hby at_143) rfl rfl ?_
    show Steps p.tables e below (T46.setTop (mkF m 145 #[.val (.long q0), .second, .val (.int p1), .val (.int p2), .val (.int p3), .val (.int p4), .val (.int p5), .val (.ref b2), .val (.int vf), .val (.int vt), .val (.int ka), .val (.int kb), .val (.int kc), .unset, .unset, .unset, .unset] [(.ref b2), (.ref b46), (.ref b46)])) _
    refine XS.iload X46.here hx rfl (hb hby at_145) rfl ?_
    show Steps p.tables e below (T46.setTop (mkF m 147 #[.val (.long q0), .second, .val (.int p1), .val (.int p2), .val (.int p3), .val (.int p4), .val (.int p5), .val (.ref b2), .val (.int vf), .val (.int vt), .val (.int ka), .val (.int kb), .val (.int kc), .unset, .unset, .unset, .unset] [(.int vf), (.ref b2), (.ref b46), (.ref b46)])) _
    refine XS.iload X46.here hx rfl (hb hby at_147) rfl ?_
    exact kt)
  obtain ⟨_, _, ⟨T50, L50, k50, n50⟩, -, X50, ⟨Lc50, hQ50, l50, y50, z50⟩, st50⟩ := X46.specialBack hx (y := (⟨"com/example/tierfuse/tierfuse/format/BitReader", "<init>", "([BII)V"⟩ : MethodName)) rfl hown (mvT hZ (hw _ (List.mem_of_getElem? (i := 5) rfl))) (mvT hZ (hw _ (List.mem_of_getElem? (i := 6) rfl))) (mvT hZ (hw _ (List.mem_of_getElem? (i := 7) rfl))) (by decide) (backOf (W := 1) (rm1 l Z av hw [] b46 b2 vf vt  h46 n0 Z46 A46 gn46 Fn46_bytes Fn46_next Fn46_end Fn46_window Fn46_windowBits) hZ (hw _ (List.mem_of_getElem? (i := 7) rfl)) (hw _ (List.mem_of_getElem? (i := 4) rfl)) (by decide) (by decide)) (g := (mkF m 149 #[.val (.long q0), .second, .val (.int p1), .val (.int p2), .val (.int p3), .val (.int p4), .val (.int p5), .val (.ref b2), .val (.int vf), .val (.int vt), .val (.int ka), .val (.int kb), .val (.int kc), .unset, .unset, .unset, .unset] [(.int vt), (.int vf), (.ref b2), (.ref b46), (.ref b46)])) rfl (by rw [hml]; rfl) (Steps.refl _) (a := b46) (argsL := [(.ref b2), (.int vf), (.int vt)]) (rest := [(.ref b46)]) (lenOf pd___BII_V rfl) rfl (by show 2 * 0 + _ ≤ _; exact Nat.le_of_eq rfl) (hb hby at_149) (fun _ _ => ⟨rfl, e46, (by decide : 2 + 0 ≤ _), (by decide : 13 + 0 ≤ _)⟩)
  dsimp only [Pt.U, Pt.locs, Pt.cells, Pt.slots] at X50 l50 y50 z50 st50 hQ50
  subst l50 y50 z50
  obtain ⟨rfl, N50q, Kq50, Fq50_0, Fq50_1, Fq50_2, Fq50_3, Fq50_4, Fq50_5⟩ := hQ50
  have N50 := Fr.app N34 N50q
  have F51 : Arv Z T50.heap b2 k2 .byte (8 : Int32) [(.int (nar .byte ((((q0.toUInt64 >>> ((56 : Int32) &&& 0x3f).toInt64.toUInt64).toInt64).toInt32).toInt8.toInt32))), (.int (nar .byte ((((q0.toUInt64 >>> ((48 : Int32) &&& 0x3f).toInt64.toUInt64).toInt64).toInt32).toInt8.toInt32))), (.int (nar .byte ((((q0.toUInt64 >>> ((40 : Int32) &&& 0x3f).toInt64.toUInt64).toInt64).toInt32).toInt8.toInt32))), (.int (nar .byte ((((q0.toUInt64 >>> ((32 : Int32) &&& 0x3f).toInt64.toUInt64).toInt64).toInt32).toInt8.toInt32))), (.int (nar .byte ((((q0.toUInt64 >>> ((24 : Int32) &&& 0x3f).toInt64.toUInt64).toInt64).toInt32).toInt8.toInt32))), (.int (nar .byte ((((q0.toUInt64 >>> ((16 : Int32) &&& 0x3f).toInt64.toUInt64).toInt64).toInt32).toInt8.toInt32))), (.int (nar .byte ((((q0.toUInt64 >>> ((8 : Int32) &&& 0x3f).toInt64.toUInt64).toInt64).toInt32).toInt8.toInt32))), (.int (nar .byte ((q0.toInt32).toInt8.toInt32)))] (.int (0 : Int32)) := F48.keep Kq50 (ninS ne_b2_b46 nin0)
  have K50 : Keep h0 T50.heap [] := K46.trans Kq50 (allS (Or.inr sz46) all0)
  have Z50 : n0 ≤ T50.heap.size := Nat.le_trans Z46 Kq50.1
  have Fq50_0' : Exa Z T50.heap b46 "com/example/tierfuse/tierfuse/format/BitReader" := Fq50_0
  have Fq50_1' : Fld Z T50.heap b46 "com/example/tierfuse/tierfuse/format/BitReader" "bytes" "[B" (.ref b2) := Fq50_1
  have Fq50_2' : Fld Z T50.heap b46 "com/example/tierfuse/tierfuse/format/BitReader" "next" "I" (.int vf) := Fq50_2
  have Fq50_3' : Fld Z T50.heap b46 "com/example/tierfuse/tierfuse/format/BitReader" "end" "I" (.int vt) := Fq50_3
  have Fq50_4' : Fld Z T50.heap b46 "com/example/tierfuse/tierfuse/format/BitReader" "window" "J" (.long (0 : Int64)) := Fq50_4
  have Fq50_5' : Fld Z T50.heap b46 "com/example/tierfuse/tierfuse/format/BitReader" "windowBits" "I" (.int (0 : Int32)) := Fq50_5
  have pre52 : ∀ t, Steps p.tables e below (T50.setTop (mkF m 152 #[.val (.long q0), .second, .val (.int p1), .val (.int p2), .val (.int p3), .val (.int p4), .val (.int p5), .val (.ref b2), .val (.int vf), .val (.int vt), .val (.int ka), .val (.int kb), .val (.int kc), .unset, .unset, .unset, .unset] [(.ref b46)])) t → Steps p.tables e below (s₁.setTop (entryFrame m #[(.long q0), (.int p1), (.int p2), (.int p3), (.int p4), (.int p5)] maxLocals)) t := fun t kt => pre49 t (st50.trans kt)
  have pre53 : ∀ t, Steps p.tables e below (T50.setTop (mkF m 166 #[.val (.long q0), .second, .val (.int p1), .val (.int p2), .val (.int p3), .val (.int p4), .val (.int p5), .val (.ref b2), .val (.int vf), .val (.int vt), .val (.int ka), .val (.int kb), .val (.int kc), .val (.ref b46), .val (.long ((8 : Int64) * ((vt - vf).toInt64))), .second, .unset] [])) t → Steps p.tables e below (s₁.setTop (entryFrame m #[(.long q0), (.int p1), (.int p2), (.int p3), (.int p4), (.int p5)] maxLocals)) t := fun t kt => pre52 t (by
    show Steps p.tables e below (T50.setTop (mkF m 152 #[.val (.long q0), .second, .val (.int p1), .val (.int p2), .val (.int p3), .val (.int p4), .val (.int p5), .val (.ref b2), .val (.int vf), .val (.int vt), .val (.int ka), .val (.int kb), .val (.int kc), .unset, .unset, .unset, .unset] [(.ref b46)])) _
    refine XS.astore X50.here hx rfl (hb hby at_152) rfl rfl (l' := #[.val (.long q0), .second, .val (.int p1), .val (.int p2), .val (.int p3), .val (.int p4), .val (.int p5), .val (.ref b2), .val (.int vf), .val (.int vt), .val (.int ka), .val (.int kb), .val (.int kc), .val (.ref b46), .unset, .unset, .unset]) rfl ?_
    show Steps p.tables e below (T50.setTop (mkF m 154 #[.val (.long q0), .second, .val (.int p1), .val (.int p2), .val (.int p3), .val (.int p4), .val (.int p5), .val (.ref b2), .val (.int vf), .val (.int vt), .val (.int ka), .val (.int kb), .val (.int kc), .val (.ref b46), .unset, .unset, .unset] [])) _
    refine X50.ldc2Long hx hown (mvT hZ (hw _ (List.mem_of_getElem? (i := 17) rfl))) (g := (mkF m 154 #[.val (.long q0), .second, .val (.int p1), .val (.int p2), .val (.int p3), .val (.int p4), .val (.int p5), .val (.ref b2), .val (.int vf), .val (.int vt), .val (.int ka), .val (.int kb), .val (.int kc), .val (.ref b46), .unset, .unset, .unset] [])) rfl (hb hby at_154) _ ?_
    show Steps p.tables e below (T50.setTop (mkF m 157 #[.val (.long q0), .second, .val (.int p1), .val (.int p2), .val (.int p3), .val (.int p4), .val (.int p5), .val (.ref b2), .val (.int vf), .val (.int vt), .val (.int ka), .val (.int kb), .val (.int kc), .val (.ref b46), .unset, .unset, .unset] [(.long (8 : Int64))])) _
    refine XS.iload X50.here hx rfl (hb hby at_157) rfl ?_
    show Steps p.tables e below (T50.setTop (mkF m 159 #[.val (.long q0), .second, .val (.int p1), .val (.int p2), .val (.int p3), .val (.int p4), .val (.int p5), .val (.ref b2), .val (.int vf), .val (.int vt), .val (.int ka), .val (.int kb), .val (.int kc), .val (.ref b46), .unset, .unset, .unset] [(.int vt), (.long (8 : Int64))])) _
    refine XS.iload X50.here hx rfl (hb hby at_159) rfl ?_
    show Steps p.tables e below (T50.setTop (mkF m 161 #[.val (.long q0), .second, .val (.int p1), .val (.int p2), .val (.int p3), .val (.int p4), .val (.int p5), .val (.ref b2), .val (.int vf), .val (.int vt), .val (.int ka), .val (.int kb), .val (.int kc), .val (.ref b46), .unset, .unset, .unset] [(.int vf), (.int vt), (.long (8 : Int64))])) _
    refine XS.isub X50.here hx rfl (hb hby at_161) rfl ?_
    show Steps p.tables e below (T50.setTop (mkF m 162 #[.val (.long q0), .second, .val (.int p1), .val (.int p2), .val (.int p3), .val (.int p4), .val (.int p5), .val (.ref b2), .val (.int vf), .val (.int vt), .val (.int ka), .val (.int kb), .val (.int kc), .val (.ref b46), .unset, .unset, .unset] [(.int (vt - vf)), (.long (8 : Int64))])) _
    refine XS.i2l X50.here hx rfl (hb hby at_162) rfl ?_
    show Steps p.tables e below (T50.setTop (mkF m 163 #[.val (.long q0), .second, .val (.int p1), .val (.int p2), .val (.int p3), .val (.int p4), .val (.int p5), .val (.ref b2), .val (.int vf), .val (.int vt), .val (.int ka), .val (.int kb), .val (.int kc), .val (.ref b46), .unset, .unset, .unset] [(.long ((vt - vf).toInt64)), (.long (8 : Int64))])) _
    refine XS.lmul X50.here hx rfl (hb hby at_163) rfl ?_
    show Steps p.tables e below (T50.setTop (mkF m 164 #[.val (.long q0), .second, .val (.int p1), .val (.int p2), .val (.int p3), .val (.int p4), .val (.int p5), .val (.ref b2), .val (.int vf), .val (.int vt), .val (.int ka), .val (.int kb), .val (.int kc), .val (.ref b46), .unset, .unset, .unset] [(.long ((8 : Int64) * ((vt - vf).toInt64)))])) _
    refine XS.lstore X50.here hx rfl (hb hby at_164) rfl (l' := #[.val (.long q0), .second, .val (.int p1), .val (.int p2), .val (.int p3), .val (.int p4), .val (.int p5), .val (.ref b2), .val (.int vf), .val (.int vt), .val (.int ka), .val (.int kb), .val (.int kc), .val (.ref b46), .val (.long ((8 : Int64) * ((vt - vf).toInt64))), .second, .unset]) rfl ?_
    exact kt)
  obtain ⟨tot, hm54, pre54⟩ : ∃ (tot : Int64), (tot.toInt = 8 * (vt.toInt - vf.toInt)) ∧ ∀ t, Steps p.tables e below (T50.setTop (mkF m 166 #[.val (.long q0), .second, .val (.int p1), .val (.int p2), .val (.int p3), .val (.int p4), .val (.int p5), .val (.ref b2), .val (.int vf), .val (.int vt), .val (.int ka), .val (.int kb), .val (.int kc), .val (.ref b46), .val (.long tot), .second, .unset] [])) t → Steps p.tables e below (s₁.setTop (entryFrame m #[(.long q0), (.int p1), (.int p2), (.int p3), (.int p4), (.int p5)] maxLocals)) t := ⟨((8 : Int64) * ((vt - vf).toInt64)), own_tot vf vt hm37 hm39, pre53⟩
  have pre55 : ∀ t, Steps p.tables e below (T50.setTop (mkF m 168 #[.val (.long q0), .second, .val (.int p1), .val (.int p2), .val (.int p3), .val (.int p4), .val (.int p5), .val (.ref b2), .val (.int vf), .val (.int vt), .val (.int ka), .val (.int kb), .val (.int kc), .val (.ref b46), .val (.long tot), .second, .unset] [(.ref b46)])) t → Steps p.tables e below (s₁.setTop (entryFrame m #[(.long q0), (.int p1), (.int p2), (.int p3), (.int p4), (.int p5)] maxLocals)) t := fun t kt => pre54 t (by
    show Steps p.tables e below (T50.setTop (mkF m 166 #[.val (.long q0), .second, .val (.int p1), .val (.int p2), .val (.int p3), .val (.int p4), .val (.int p5), .val (.ref b2), .val (.int vf), .val (.int vt), .val (.int ka), .val (.int kb), .val (.int kc), .val (.ref b46), .val (.long tot), .second, .unset] [])) _
    refine XS.aload X50.here hx rfl (hb hby at_166) rfl rfl ?_
    exact kt)
  obtain ⟨cq56, kq56, q56a, q56b, q56c⟩ := isOf hZ rfl Fq50_0'
  obtain ⟨_, _, ⟨T57, L57, k57, n57⟩, -, X57, ⟨Lc57, hQ57, l57, y57, z57⟩, st57⟩ := X50.virtualBack hx (y := (⟨"com/example/tierfuse/tierfuse/format/BitReader", "remaining", "()J"⟩ : MethodName)) (z := (⟨"com/example/tierfuse/tierfuse/format/BitReader", "remaining", "()J"⟩ : MethodName)) hown (mvT hZ (hw _ (List.mem_of_getElem? (i := 18) rfl))) (mvT hZ (hw _ (List.mem_of_getElem? (i := 19) rfl))) (notFace_of_selects (args := #[]) (mvT hZ (hw _ (List.mem_of_getElem? (i := 21) rfl)))) (mvT hZ (hw _ (List.mem_of_getElem? (i := 21) rfl))) (mvT hZ (hw _ (List.mem_of_getElem? (i := 20) rfl))) (by decide) (backOf (W := 0) (rm3 l Z av hw [] b46 b2 vf vt (0 : Int64) (0 : Int32) T50.heap n0 Z50 Fq50_0' gn46 Fq50_1' Fq50_2' Fq50_3' Fq50_4' Fq50_5') hZ (hw _ (List.mem_of_getElem? (i := 22) rfl)) (hw _ (List.mem_of_getElem? (i := 4) rfl)) (by decide) (by decide)) q56a q56c (g := (mkF m 168 #[.val (.long q0), .second, .val (.int p1), .val (.int p2), .val (.int p3), .val (.int p4), .val (.int p5), .val (.ref b2), .val (.int vf), .val (.int vt), .val (.int ka), .val (.int kb), .val (.int kc), .val (.ref b46), .val (.long tot), .second, .unset] [(.ref b46)])) rfl (by rw [hml]; rfl) (Steps.refl _) (argsL := []) (rest := []) (lenOf pd___J rfl) rfl (by show 2 * 0 + _ ≤ _; exact Nat.le_of_eq rfl) (hb hby at_168) (fun _ _ => ⟨rfl, rfl, (by decide : 2 + 0 ≤ _), (by decide : 13 + 0 ≤ _)⟩)
  dsimp only [Pt.U, Pt.locs, Pt.cells, Pt.slots] at X57 l57 y57 z57 st57 hQ57
  subst l57 y57 z57
  obtain ⟨rfl, N57q, e57⟩ := hQ57
  have N57 := Fr.app N50 N57q
  have pre58 : ∀ t, Steps p.tables e below (T57.setTop (mkF m 171 #[.val (.long q0), .second, .val (.int p1), .val (.int p2), .val (.int p3), .val (.int p4), .val (.int p5), .val (.ref b2), .val (.int vf), .val (.int vt), .val (.int ka), .val (.int kb), .val (.int kc), .val (.ref b46), .val (.long tot), .second, .unset] [(.long (f_rem vf vt (0 : Int64) (0 : Int32)))])) t → Steps p.tables e below (s₁.setTop (entryFrame m #[(.long q0), (.int p1), (.int p2), (.int p3), (.int p4), (.int p5)] maxLocals)) t := fun t kt => pre55 t (st57.trans kt)
  have pre59 : ∀ t, Steps p.tables e below (T57.setTop (mkF m 174 #[.val (.long q0), .second, .val (.int p1), .val (.int p2), .val (.int p3), .val (.int p4), .val (.int p5), .val (.ref b2), .val (.int vf), .val (.int vt), .val (.int ka), .val (.int kb), .val (.int kc), .val (.ref b46), .val (.long tot), .second, .unset] [(.int (lcmpW (f_rem vf vt (0 : Int64) (0 : Int32)) tot))])) t → Steps p.tables e below (s₁.setTop (entryFrame m #[(.long q0), (.int p1), (.int p2), (.int p3), (.int p4), (.int p5)] maxLocals)) t := fun t kt => pre58 t (by
    show Steps p.tables e below (T57.setTop (mkF m 171 #[.val (.long q0), .second, .val (.int p1), .val (.int p2), .val (.int p3), .val (.int p4), .val (.int p5), .val (.ref b2), .val (.int vf), .val (.int vt), .val (.int ka), .val (.int kb), .val (.int kc), .val (.ref b46), .val (.long tot), .second, .unset] [(.long (f_rem vf vt (0 : Int64) (0 : Int32)))])) _
    refine XS.lload X57.here hx rfl (hb hby at_171) rfl ?_
    show Steps p.tables e below (T57.setTop (mkF m 173 #[.val (.long q0), .second, .val (.int p1), .val (.int p2), .val (.int p3), .val (.int p4), .val (.int p5), .val (.ref b2), .val (.int vf), .val (.int vt), .val (.int ka), .val (.int kb), .val (.int kc), .val (.ref b46), .val (.long tot), .second, .unset] [(.long tot), (.long (f_rem vf vt (0 : Int64) (0 : Int32)))])) _
    refine XS.lcmp X57.here hx rfl (hb hby at_173) rfl ?_
    exact kt)
  have hb60 : (f_rem vf vt (0 : Int64) (0 : Int32)) = tot := by
    have qf := hm37
    have qt := hm39
    have qtot := hm54
    have qa := hm41
    have qb := hm43
    have qc := hm45
    rw [← Int64.toInt_inj, own_rem vf vt (0 : Int32) (0 : Int64) (by omega) (by omega) (by decide)]
    simp only [Int32.reduceToInt]
    omega
  have pre61 : ∀ t, Steps p.tables e below (T57.setTop (mkF m 188 #[.val (.long q0), .second, .val (.int p1), .val (.int p2), .val (.int p3), .val (.int p4), .val (.int p5), .val (.ref b2), .val (.int vf), .val (.int vt), .val (.int ka), .val (.int kb), .val (.int kc), .val (.ref b46), .val (.long tot), .second, .val (.int (1 : Int32))] [(.int ka), (.ref b46)])) t → Steps p.tables e below (s₁.setTop (entryFrame m #[(.long q0), (.int p1), (.int p2), (.int p3), (.int p4), (.int p5)] maxLocals)) t := fun t kt => pre59 t (by
    show Steps p.tables e below (T57.setTop (mkF m 174 #[.val (.long q0), .second, .val (.int p1), .val (.int p2), .val (.int p3), .val (.int p4), .val (.int p5), .val (.ref b2), .val (.int vf), .val (.int vt), .val (.int ka), .val (.int kb), .val (.int kc), .val (.ref b46), .val (.long tot), .second, .unset] [(.int (lcmpW (f_rem vf vt (0 : Int64) (0 : Int32)) tot))])) _
    refine XS.ifNo X57.here hx rfl (hb hby at_174) rfl (Jvm.Free.XT.ll_ne_f hb60) ?_
    show Steps p.tables e below (T57.setTop (mkF m 177 #[.val (.long q0), .second, .val (.int p1), .val (.int p2), .val (.int p3), .val (.int p4), .val (.int p5), .val (.ref b2), .val (.int vf), .val (.int vt), .val (.int ka), .val (.int kb), .val (.int kc), .val (.ref b46), .val (.long tot), .second, .unset] [])) _
    refine XS.iconst X57.here hx rfl (hb hby at_177) ?_
    show Steps p.tables e below (T57.setTop (mkF m 178 #[.val (.long q0), .second, .val (.int p1), .val (.int p2), .val (.int p3), .val (.int p4), .val (.int p5), .val (.ref b2), .val (.int vf), .val (.int vt), .val (.int ka), .val (.int kb), .val (.int kc), .val (.ref b46), .val (.long tot), .second, .unset] [(.int (1 : Int32))])) _
    refine XS.goto X57.here hx rfl (pc0 := 178) (pc' := 182) rfl (hb hby at_178) (by decide) (by decide) ?_
    show Steps p.tables e below (T57.setTop (mkF m 182 #[.val (.long q0), .second, .val (.int p1), .val (.int p2), .val (.int p3), .val (.int p4), .val (.int p5), .val (.ref b2), .val (.int vf), .val (.int vt), .val (.int ka), .val (.int kb), .val (.int kc), .val (.ref b46), .val (.long tot), .second, .unset] [(.int (1 : Int32))])) _
    refine XS.istore X57.here hx rfl (hb hby at_182) rfl (l' := #[.val (.long q0), .second, .val (.int p1), .val (.int p2), .val (.int p3), .val (.int p4), .val (.int p5), .val (.ref b2), .val (.int vf), .val (.int vt), .val (.int ka), .val (.int kb), .val (.int kc), .val (.ref b46), .val (.long tot), .second, .val (.int (1 : Int32))]) rfl ?_
    show Steps p.tables e below (T57.setTop (mkF m 184 #[.val (.long q0), .second, .val (.int p1), .val (.int p2), .val (.int p3), .val (.int p4), .val (.int p5), .val (.ref b2), .val (.int vf), .val (.int vt), .val (.int ka), .val (.int kb), .val (.int kc), .val (.ref b46), .val (.long tot), .second, .val (.int (1 : Int32))] [])) _
    refine XS.aload X57.here hx rfl (hb hby at_184) rfl rfl ?_
    show Steps p.tables e below (T57.setTop (mkF m 186 #[.val (.long q0), .second, .val (.int p1), .val (.int p2), .val (.int p3), .val (.int p4), .val (.int p5), .val (.ref b2), .val (.int vf), .val (.int vt), .val (.int ka), .val (.int kb), .val (.int kc), .val (.ref b46), .val (.long tot), .second, .val (.int (1 : Int32))] [(.ref b46)])) _
    refine XS.iload X57.here hx rfl (hb hby at_186) rfl ?_
    exact kt)
  obtain ⟨cq62, kq62, q62a, q62b, q62c⟩ := isOf hZ e57 Fq50_0'
  obtain ⟨_, _, ⟨T63, L63, k63, n63⟩, -, X63, ⟨Lc63, hQ63, l63, y63, z63⟩, st63⟩ := X57.virtualBack hx (y := (⟨"com/example/tierfuse/tierfuse/format/BitReader", "read", "(I)J"⟩ : MethodName)) (z := (⟨"com/example/tierfuse/tierfuse/format/BitReader", "read", "(I)J"⟩ : MethodName)) hown (mvT hZ (hw _ (List.mem_of_getElem? (i := 26) rfl))) (mvT hZ (hw _ (List.mem_of_getElem? (i := 27) rfl))) (notFace_of_selects (args := #[]) (mvT hZ (hw _ (List.mem_of_getElem? (i := 29) rfl)))) (mvT hZ (hw _ (List.mem_of_getElem? (i := 29) rfl))) (mvT hZ (hw _ (List.mem_of_getElem? (i := 28) rfl))) (by decide) (backOf (W := 0) (rm4 l Z av hw [] b46 ka b2 vf vt (0 : Int64) (0 : Int32) T50.heap n0 Z50 Fq50_0' gn46 Fq50_1' Fq50_2' Fq50_3' Fq50_4' Fq50_5' ⟨_, _, F51⟩ (Ne.symm ne_b2_b46) (by decide) ⟨hm37.1, by have q := hm37; omega⟩ hm39.2 hm41) hZ (hw _ (List.mem_of_getElem? (i := 30) rfl)) (hw _ (List.mem_of_getElem? (i := 4) rfl)) (by decide) (by decide)) q62a q62c (g := (mkF m 188 #[.val (.long q0), .second, .val (.int p1), .val (.int p2), .val (.int p3), .val (.int p4), .val (.int p5), .val (.ref b2), .val (.int vf), .val (.int vt), .val (.int ka), .val (.int kb), .val (.int kc), .val (.ref b46), .val (.long tot), .second, .val (.int (1 : Int32))] [(.int ka), (.ref b46)])) rfl (by rw [hml]; rfl) (Steps.refl _) (argsL := [(.int ka)]) (rest := []) (lenOf pd__I_J rfl) rfl (by show 2 * 0 + _ ≤ _; exact Nat.le_of_eq rfl) (hb hby at_188) (fun _ _ => ⟨rfl, e57, (by decide : 2 + 0 ≤ _), (by decide : 13 + 0 ≤ _)⟩)
  dsimp only [Pt.U, Pt.locs, Pt.cells, Pt.slots] at X63 l63 y63 z63 st63 hQ63
  subst l63 y63 z63
  obtain ⟨rr63, nx63, wi63, wb63, rfl, Nz63, Kz63, ⟨Gz0, Gz1, Gz2, Gz3, Gz4, Gz5⟩, Rl63⟩ := hQ63
  have hQ63 := And.intro (rfl : (0 : Nat) = 0) (And.intro Nz63 (And.intro Kz63 (And.intro Gz0 (And.intro Gz1 (And.intro Gz2 (And.intro Gz3 (And.intro Gz4 Gz5)))))))
  obtain ⟨-, N63q, Kq63, Fq63_0, Fq63_1, Fq63_2, Fq63_3, Fq63_4, Fq63_5⟩ := hQ63
  have N63 := Fr.app N57 N63q
  have F64 : Arv Z T63.heap b2 k2 .byte (8 : Int32) [(.int (nar .byte ((((q0.toUInt64 >>> ((56 : Int32) &&& 0x3f).toInt64.toUInt64).toInt64).toInt32).toInt8.toInt32))), (.int (nar .byte ((((q0.toUInt64 >>> ((48 : Int32) &&& 0x3f).toInt64.toUInt64).toInt64).toInt32).toInt8.toInt32))), (.int (nar .byte ((((q0.toUInt64 >>> ((40 : Int32) &&& 0x3f).toInt64.toUInt64).toInt64).toInt32).toInt8.toInt32))), (.int (nar .byte ((((q0.toUInt64 >>> ((32 : Int32) &&& 0x3f).toInt64.toUInt64).toInt64).toInt32).toInt8.toInt32))), (.int (nar .byte ((((q0.toUInt64 >>> ((24 : Int32) &&& 0x3f).toInt64.toUInt64).toInt64).toInt32).toInt8.toInt32))), (.int (nar .byte ((((q0.toUInt64 >>> ((16 : Int32) &&& 0x3f).toInt64.toUInt64).toInt64).toInt32).toInt8.toInt32))), (.int (nar .byte ((((q0.toUInt64 >>> ((8 : Int32) &&& 0x3f).toInt64.toUInt64).toInt64).toInt32).toInt8.toInt32))), (.int (nar .byte ((q0.toInt32).toInt8.toInt32)))] (.int (0 : Int32)) := F51.keep Kq63 (ninS ne_b2_b46 nin0)
  have K63 : Keep h0 T63.heap [] := K50.trans Kq63 (allS (Or.inr sz46) all0)
  have Z63 : n0 ≤ T63.heap.size := Nat.le_trans Z50 Kq63.1
  have Fq63_0' : Exa Z T63.heap b46 "com/example/tierfuse/tierfuse/format/BitReader" := Fq63_0
  have Fq63_1' : Fld Z T63.heap b46 "com/example/tierfuse/tierfuse/format/BitReader" "bytes" "[B" (.ref b2) := Fq63_1
  have Fq63_2' : Fld Z T63.heap b46 "com/example/tierfuse/tierfuse/format/BitReader" "next" "I" (.int nx63) := Fq63_2
  have Fq63_3' : Fld Z T63.heap b46 "com/example/tierfuse/tierfuse/format/BitReader" "end" "I" (.int vt) := Fq63_3
  have Fq63_4' : Fld Z T63.heap b46 "com/example/tierfuse/tierfuse/format/BitReader" "window" "J" (.long wi63) := Fq63_4
  have Fq63_5' : Fld Z T63.heap b46 "com/example/tierfuse/tierfuse/format/BitReader" "windowBits" "I" (.int wb63) := Fq63_5
  have pre65 : ∀ t, Steps p.tables e below (T63.setTop (mkF m 191 #[.val (.long q0), .second, .val (.int p1), .val (.int p2), .val (.int p3), .val (.int p4), .val (.int p5), .val (.ref b2), .val (.int vf), .val (.int vt), .val (.int ka), .val (.int kb), .val (.int kc), .val (.ref b46), .val (.long tot), .second, .val (.int (1 : Int32))] [(.long rr63)])) t → Steps p.tables e below (s₁.setTop (entryFrame m #[(.long q0), (.int p1), (.int p2), (.int p3), (.int p4), (.int p5)] maxLocals)) t := fun t kt => pre61 t (st63.trans kt)
  have pre66 : ∀ t, Steps p.tables e below (T63.setTop (mkF m 199 #[.val (.long q0), .second, .val (.int p1), .val (.int p2), .val (.int p3), .val (.int p4), .val (.int p5), .val (.ref b2), .val (.int vf), .val (.int vt), .val (.int ka), .val (.int kb), .val (.int kc), .val (.ref b46), .val (.long tot), .second, .val (.int (1 : Int32))] [(.ref b46)])) t → Steps p.tables e below (s₁.setTop (entryFrame m #[(.long q0), (.int p1), (.int p2), (.int p3), (.int p4), (.int p5)] maxLocals)) t := fun t kt => pre65 t (by
    show Steps p.tables e below (T63.setTop (mkF m 191 #[.val (.long q0), .second, .val (.int p1), .val (.int p2), .val (.int p3), .val (.int p4), .val (.int p5), .val (.ref b2), .val (.int vf), .val (.int vt), .val (.int ka), .val (.int kb), .val (.int kc), .val (.ref b46), .val (.long tot), .second, .val (.int (1 : Int32))] [(.long rr63)])) _
    jvm_step X63.here [X63.here.top, hx, (hb hby at_191), Value.category]
    show Steps p.tables e below (T63.setTop (mkF m 192 #[.val (.long q0), .second, .val (.int p1), .val (.int p2), .val (.int p3), .val (.int p4), .val (.int p5), .val (.ref b2), .val (.int vf), .val (.int vt), .val (.int ka), .val (.int kb), .val (.int kc), .val (.ref b46), .val (.long tot), .second, .val (.int (1 : Int32))] [])) _
    refine XS.iload X63.here hx rfl (hb hby at_192) rfl ?_
    show Steps p.tables e below (T63.setTop (mkF m 194 #[.val (.long q0), .second, .val (.int p1), .val (.int p2), .val (.int p3), .val (.int p4), .val (.int p5), .val (.ref b2), .val (.int vf), .val (.int vt), .val (.int ka), .val (.int kb), .val (.int kc), .val (.ref b46), .val (.long tot), .second, .val (.int (1 : Int32))] [(.int (1 : Int32))])) _
    refine XS.ifNo X63.here hx rfl (hb hby at_194) rfl ((if0 _ _).trans (feq (by decide : ¬ ((1 : Int32) = (0 : Int32)))).1) ?_
    show Steps p.tables e below (T63.setTop (mkF m 197 #[.val (.long q0), .second, .val (.int p1), .val (.int p2), .val (.int p3), .val (.int p4), .val (.int p5), .val (.ref b2), .val (.int vf), .val (.int vt), .val (.int ka), .val (.int kb), .val (.int kc), .val (.ref b46), .val (.long tot), .second, .val (.int (1 : Int32))] [])) _
    refine XS.aload X63.here hx rfl (hb hby at_197) rfl rfl ?_
    exact kt)
  obtain ⟨cq67, kq67, q67a, q67b, q67c⟩ := isOf hZ rfl Fq63_0'
  obtain ⟨_, _, ⟨T68, L68, k68, n68⟩, -, X68, ⟨Lc68, hQ68, l68, y68, z68⟩, st68⟩ := X63.virtualBack hx (y := (⟨"com/example/tierfuse/tierfuse/format/BitReader", "remaining", "()J"⟩ : MethodName)) (z := (⟨"com/example/tierfuse/tierfuse/format/BitReader", "remaining", "()J"⟩ : MethodName)) hown (mvT hZ (hw _ (List.mem_of_getElem? (i := 18) rfl))) (mvT hZ (hw _ (List.mem_of_getElem? (i := 19) rfl))) (notFace_of_selects (args := #[]) (mvT hZ (hw _ (List.mem_of_getElem? (i := 21) rfl)))) (mvT hZ (hw _ (List.mem_of_getElem? (i := 21) rfl))) (mvT hZ (hw _ (List.mem_of_getElem? (i := 20) rfl))) (by decide) (backOf (W := 0) (rm3 l Z av hw [] b46 b2 nx63 vt wi63 wb63 T63.heap n0 Z63 Fq63_0' gn46 Fq63_1' Fq63_2' Fq63_3' Fq63_4' Fq63_5') hZ (hw _ (List.mem_of_getElem? (i := 22) rfl)) (hw _ (List.mem_of_getElem? (i := 4) rfl)) (by decide) (by decide)) q67a q67c (g := (mkF m 199 #[.val (.long q0), .second, .val (.int p1), .val (.int p2), .val (.int p3), .val (.int p4), .val (.int p5), .val (.ref b2), .val (.int vf), .val (.int vt), .val (.int ka), .val (.int kb), .val (.int kc), .val (.ref b46), .val (.long tot), .second, .val (.int (1 : Int32))] [(.ref b46)])) rfl (by rw [hml]; rfl) (Steps.refl _) (argsL := []) (rest := []) (lenOf pd___J rfl) rfl (by show 2 * 0 + _ ≤ _; exact Nat.le_of_eq rfl) (hb hby at_199) (fun _ _ => ⟨rfl, rfl, (by decide : 2 + 0 ≤ _), (by decide : 13 + 0 ≤ _)⟩)
  dsimp only [Pt.U, Pt.locs, Pt.cells, Pt.slots] at X68 l68 y68 z68 st68 hQ68
  subst l68 y68 z68
  obtain ⟨rfl, N68q, e68⟩ := hQ68
  have N68 := Fr.app N63 N68q
  have pre69 : ∀ t, Steps p.tables e below (T68.setTop (mkF m 202 #[.val (.long q0), .second, .val (.int p1), .val (.int p2), .val (.int p3), .val (.int p4), .val (.int p5), .val (.ref b2), .val (.int vf), .val (.int vt), .val (.int ka), .val (.int kb), .val (.int kc), .val (.ref b46), .val (.long tot), .second, .val (.int (1 : Int32))] [(.long (f_rem nx63 vt wi63 wb63))])) t → Steps p.tables e below (s₁.setTop (entryFrame m #[(.long q0), (.int p1), (.int p2), (.int p3), (.int p4), (.int p5)] maxLocals)) t := fun t kt => pre66 t (st68.trans kt)
  have pre70 : ∀ t, Steps p.tables e below (T68.setTop (mkF m 209 #[.val (.long q0), .second, .val (.int p1), .val (.int p2), .val (.int p3), .val (.int p4), .val (.int p5), .val (.ref b2), .val (.int vf), .val (.int vt), .val (.int ka), .val (.int kb), .val (.int kc), .val (.ref b46), .val (.long tot), .second, .val (.int (1 : Int32))] [(.int (lcmpW (f_rem nx63 vt wi63 wb63) (tot - (ka.toInt64))))])) t → Steps p.tables e below (s₁.setTop (entryFrame m #[(.long q0), (.int p1), (.int p2), (.int p3), (.int p4), (.int p5)] maxLocals)) t := fun t kt => pre69 t (by
    show Steps p.tables e below (T68.setTop (mkF m 202 #[.val (.long q0), .second, .val (.int p1), .val (.int p2), .val (.int p3), .val (.int p4), .val (.int p5), .val (.ref b2), .val (.int vf), .val (.int vt), .val (.int ka), .val (.int kb), .val (.int kc), .val (.ref b46), .val (.long tot), .second, .val (.int (1 : Int32))] [(.long (f_rem nx63 vt wi63 wb63))])) _
    refine XS.lload X68.here hx rfl (hb hby at_202) rfl ?_
    show Steps p.tables e below (T68.setTop (mkF m 204 #[.val (.long q0), .second, .val (.int p1), .val (.int p2), .val (.int p3), .val (.int p4), .val (.int p5), .val (.ref b2), .val (.int vf), .val (.int vt), .val (.int ka), .val (.int kb), .val (.int kc), .val (.ref b46), .val (.long tot), .second, .val (.int (1 : Int32))] [(.long tot), (.long (f_rem nx63 vt wi63 wb63))])) _
    refine XS.iload X68.here hx rfl (hb hby at_204) rfl ?_
    show Steps p.tables e below (T68.setTop (mkF m 206 #[.val (.long q0), .second, .val (.int p1), .val (.int p2), .val (.int p3), .val (.int p4), .val (.int p5), .val (.ref b2), .val (.int vf), .val (.int vt), .val (.int ka), .val (.int kb), .val (.int kc), .val (.ref b46), .val (.long tot), .second, .val (.int (1 : Int32))] [(.int ka), (.long tot), (.long (f_rem nx63 vt wi63 wb63))])) _
    refine XS.i2l X68.here hx rfl (hb hby at_206) rfl ?_
    show Steps p.tables e below (T68.setTop (mkF m 207 #[.val (.long q0), .second, .val (.int p1), .val (.int p2), .val (.int p3), .val (.int p4), .val (.int p5), .val (.ref b2), .val (.int vf), .val (.int vt), .val (.int ka), .val (.int kb), .val (.int kc), .val (.ref b46), .val (.long tot), .second, .val (.int (1 : Int32))] [(.long (ka.toInt64)), (.long tot), (.long (f_rem nx63 vt wi63 wb63))])) _
    refine XS.lsub X68.here hx rfl (hb hby at_207) rfl ?_
    show Steps p.tables e below (T68.setTop (mkF m 208 #[.val (.long q0), .second, .val (.int p1), .val (.int p2), .val (.int p3), .val (.int p4), .val (.int p5), .val (.ref b2), .val (.int vf), .val (.int vt), .val (.int ka), .val (.int kb), .val (.int kc), .val (.ref b46), .val (.long tot), .second, .val (.int (1 : Int32))] [(.long (tot - (ka.toInt64))), (.long (f_rem nx63 vt wi63 wb63))])) _
    refine XS.lcmp X68.here hx rfl (hb hby at_208) rfl ?_
    exact kt)
  have hb71 : (f_rem nx63 vt wi63 wb63) = (tot - (ka.toInt64)) := by
    have qf := hm37
    have qt := hm39
    have qtot := hm54
    have qa := hm41
    have qb := hm43
    have qc := hm45
    have r0 := Rl63
    simp only [Int32.reduceToInt] at r0
    have l0 := own_lk tot ka (by omega) (by omega)
    have rr := own_rem nx63 vt wb63 wi63 (by omega) (by omega) (by omega)
    rw [← Int64.toInt_inj]
    omega
  have pre72 : ∀ t, Steps p.tables e below (T68.setTop (mkF m 223 #[.val (.long q0), .second, .val (.int p1), .val (.int p2), .val (.int p3), .val (.int p4), .val (.int p5), .val (.ref b2), .val (.int vf), .val (.int vt), .val (.int ka), .val (.int kb), .val (.int kc), .val (.ref b46), .val (.long tot), .second, .val (.int (1 : Int32))] [(.int kb), (.ref b46)])) t → Steps p.tables e below (s₁.setTop (entryFrame m #[(.long q0), (.int p1), (.int p2), (.int p3), (.int p4), (.int p5)] maxLocals)) t := fun t kt => pre70 t (by
    show Steps p.tables e below (T68.setTop (mkF m 209 #[.val (.long q0), .second, .val (.int p1), .val (.int p2), .val (.int p3), .val (.int p4), .val (.int p5), .val (.ref b2), .val (.int vf), .val (.int vt), .val (.int ka), .val (.int kb), .val (.int kc), .val (.ref b46), .val (.long tot), .second, .val (.int (1 : Int32))] [(.int (lcmpW (f_rem nx63 vt wi63 wb63) (tot - (ka.toInt64))))])) _
    refine XS.ifNo X68.here hx rfl (hb hby at_209) rfl (Jvm.Free.XT.ll_ne_f hb71) ?_
    show Steps p.tables e below (T68.setTop (mkF m 212 #[.val (.long q0), .second, .val (.int p1), .val (.int p2), .val (.int p3), .val (.int p4), .val (.int p5), .val (.ref b2), .val (.int vf), .val (.int vt), .val (.int ka), .val (.int kb), .val (.int kc), .val (.ref b46), .val (.long tot), .second, .val (.int (1 : Int32))] [])) _
    refine XS.iconst X68.here hx rfl (hb hby at_212) ?_
    show Steps p.tables e below (T68.setTop (mkF m 213 #[.val (.long q0), .second, .val (.int p1), .val (.int p2), .val (.int p3), .val (.int p4), .val (.int p5), .val (.ref b2), .val (.int vf), .val (.int vt), .val (.int ka), .val (.int kb), .val (.int kc), .val (.ref b46), .val (.long tot), .second, .val (.int (1 : Int32))] [(.int (1 : Int32))])) _
    refine XS.goto X68.here hx rfl (pc0 := 213) (pc' := 217) rfl (hb hby at_213) (by decide) (by decide) ?_
    show Steps p.tables e below (T68.setTop (mkF m 217 #[.val (.long q0), .second, .val (.int p1), .val (.int p2), .val (.int p3), .val (.int p4), .val (.int p5), .val (.ref b2), .val (.int vf), .val (.int vt), .val (.int ka), .val (.int kb), .val (.int kc), .val (.ref b46), .val (.long tot), .second, .val (.int (1 : Int32))] [(.int (1 : Int32))])) _
    refine XS.istore X68.here hx rfl (hb hby at_217) rfl (l' := #[.val (.long q0), .second, .val (.int p1), .val (.int p2), .val (.int p3), .val (.int p4), .val (.int p5), .val (.ref b2), .val (.int vf), .val (.int vt), .val (.int ka), .val (.int kb), .val (.int kc), .val (.ref b46), .val (.long tot), .second, .val (.int (1 : Int32))]) rfl ?_
    show Steps p.tables e below (T68.setTop (mkF m 219 #[.val (.long q0), .second, .val (.int p1), .val (.int p2), .val (.int p3), .val (.int p4), .val (.int p5), .val (.ref b2), .val (.int vf), .val (.int vt), .val (.int ka), .val (.int kb), .val (.int kc), .val (.ref b46), .val (.long tot), .second, .val (.int (1 : Int32))] [])) _
    refine XS.aload X68.here hx rfl (hb hby at_219) rfl rfl ?_
    show Steps p.tables e below (T68.setTop (mkF m 221 #[.val (.long q0), .second, .val (.int p1), .val (.int p2), .val (.int p3), .val (.int p4), .val (.int p5), .val (.ref b2), .val (.int vf), .val (.int vt), .val (.int ka), .val (.int kb), .val (.int kc), .val (.ref b46), .val (.long tot), .second, .val (.int (1 : Int32))] [(.ref b46)])) _
    refine XS.iload X68.here hx rfl (hb hby at_221) rfl ?_
    exact kt)
  obtain ⟨cq73, kq73, q73a, q73b, q73c⟩ := isOf hZ e68 Fq63_0'
  obtain ⟨_, _, ⟨T74, L74, k74, n74⟩, -, X74, ⟨Lc74, hQ74, l74, y74, z74⟩, st74⟩ := X68.virtualBack hx (y := (⟨"com/example/tierfuse/tierfuse/format/BitReader", "read", "(I)J"⟩ : MethodName)) (z := (⟨"com/example/tierfuse/tierfuse/format/BitReader", "read", "(I)J"⟩ : MethodName)) hown (mvT hZ (hw _ (List.mem_of_getElem? (i := 26) rfl))) (mvT hZ (hw _ (List.mem_of_getElem? (i := 27) rfl))) (notFace_of_selects (args := #[]) (mvT hZ (hw _ (List.mem_of_getElem? (i := 29) rfl)))) (mvT hZ (hw _ (List.mem_of_getElem? (i := 29) rfl))) (mvT hZ (hw _ (List.mem_of_getElem? (i := 28) rfl))) (by decide) (backOf (W := 0) (rm4 l Z av hw [] b46 kb b2 nx63 vt wi63 wb63 T63.heap n0 Z63 Fq63_0' gn46 Fq63_1' Fq63_2' Fq63_3' Fq63_4' Fq63_5' ⟨_, _, F64⟩ (Ne.symm ne_b2_b46) (by have q0 := Rl63; have q1 := hm37; have q2 := hm41; have q3 := hm43; omega) (by have q0 := Rl63; have q1 := hm37; have q2 := hm41; have q3 := hm43; omega) hm39.2 hm43) hZ (hw _ (List.mem_of_getElem? (i := 30) rfl)) (hw _ (List.mem_of_getElem? (i := 4) rfl)) (by decide) (by decide)) q73a q73c (g := (mkF m 223 #[.val (.long q0), .second, .val (.int p1), .val (.int p2), .val (.int p3), .val (.int p4), .val (.int p5), .val (.ref b2), .val (.int vf), .val (.int vt), .val (.int ka), .val (.int kb), .val (.int kc), .val (.ref b46), .val (.long tot), .second, .val (.int (1 : Int32))] [(.int kb), (.ref b46)])) rfl (by rw [hml]; rfl) (Steps.refl _) (argsL := [(.int kb)]) (rest := []) (lenOf pd__I_J rfl) rfl (by show 2 * 0 + _ ≤ _; exact Nat.le_of_eq rfl) (hb hby at_223) (fun _ _ => ⟨rfl, e68, (by decide : 2 + 0 ≤ _), (by decide : 13 + 0 ≤ _)⟩)
  dsimp only [Pt.U, Pt.locs, Pt.cells, Pt.slots] at X74 l74 y74 z74 st74 hQ74
  subst l74 y74 z74
  obtain ⟨rr74, nx74, wi74, wb74, rfl, Nz74, Kz74, ⟨Gz0, Gz1, Gz2, Gz3, Gz4, Gz5⟩, Rl74⟩ := hQ74
  have hQ74 := And.intro (rfl : (0 : Nat) = 0) (And.intro Nz74 (And.intro Kz74 (And.intro Gz0 (And.intro Gz1 (And.intro Gz2 (And.intro Gz3 (And.intro Gz4 Gz5)))))))
  obtain ⟨-, N74q, Kq74, Fq74_0, Fq74_1, Fq74_2, Fq74_3, Fq74_4, Fq74_5⟩ := hQ74
  have N74 := Fr.app N68 N74q
  have F75 : Arv Z T74.heap b2 k2 .byte (8 : Int32) [(.int (nar .byte ((((q0.toUInt64 >>> ((56 : Int32) &&& 0x3f).toInt64.toUInt64).toInt64).toInt32).toInt8.toInt32))), (.int (nar .byte ((((q0.toUInt64 >>> ((48 : Int32) &&& 0x3f).toInt64.toUInt64).toInt64).toInt32).toInt8.toInt32))), (.int (nar .byte ((((q0.toUInt64 >>> ((40 : Int32) &&& 0x3f).toInt64.toUInt64).toInt64).toInt32).toInt8.toInt32))), (.int (nar .byte ((((q0.toUInt64 >>> ((32 : Int32) &&& 0x3f).toInt64.toUInt64).toInt64).toInt32).toInt8.toInt32))), (.int (nar .byte ((((q0.toUInt64 >>> ((24 : Int32) &&& 0x3f).toInt64.toUInt64).toInt64).toInt32).toInt8.toInt32))), (.int (nar .byte ((((q0.toUInt64 >>> ((16 : Int32) &&& 0x3f).toInt64.toUInt64).toInt64).toInt32).toInt8.toInt32))), (.int (nar .byte ((((q0.toUInt64 >>> ((8 : Int32) &&& 0x3f).toInt64.toUInt64).toInt64).toInt32).toInt8.toInt32))), (.int (nar .byte ((q0.toInt32).toInt8.toInt32)))] (.int (0 : Int32)) := F64.keep Kq74 (ninS ne_b2_b46 nin0)
  have K74 : Keep h0 T74.heap [] := K63.trans Kq74 (allS (Or.inr sz46) all0)
  have Z74 : n0 ≤ T74.heap.size := Nat.le_trans Z63 Kq74.1
  have Fq74_0' : Exa Z T74.heap b46 "com/example/tierfuse/tierfuse/format/BitReader" := Fq74_0
  have Fq74_1' : Fld Z T74.heap b46 "com/example/tierfuse/tierfuse/format/BitReader" "bytes" "[B" (.ref b2) := Fq74_1
  have Fq74_2' : Fld Z T74.heap b46 "com/example/tierfuse/tierfuse/format/BitReader" "next" "I" (.int nx74) := Fq74_2
  have Fq74_3' : Fld Z T74.heap b46 "com/example/tierfuse/tierfuse/format/BitReader" "end" "I" (.int vt) := Fq74_3
  have Fq74_4' : Fld Z T74.heap b46 "com/example/tierfuse/tierfuse/format/BitReader" "window" "J" (.long wi74) := Fq74_4
  have Fq74_5' : Fld Z T74.heap b46 "com/example/tierfuse/tierfuse/format/BitReader" "windowBits" "I" (.int wb74) := Fq74_5
  have pre76 : ∀ t, Steps p.tables e below (T74.setTop (mkF m 226 #[.val (.long q0), .second, .val (.int p1), .val (.int p2), .val (.int p3), .val (.int p4), .val (.int p5), .val (.ref b2), .val (.int vf), .val (.int vt), .val (.int ka), .val (.int kb), .val (.int kc), .val (.ref b46), .val (.long tot), .second, .val (.int (1 : Int32))] [(.long rr74)])) t → Steps p.tables e below (s₁.setTop (entryFrame m #[(.long q0), (.int p1), (.int p2), (.int p3), (.int p4), (.int p5)] maxLocals)) t := fun t kt => pre72 t (st74.trans kt)
  have pre77 : ∀ t, Steps p.tables e below (T74.setTop (mkF m 234 #[.val (.long q0), .second, .val (.int p1), .val (.int p2), .val (.int p3), .val (.int p4), .val (.int p5), .val (.ref b2), .val (.int vf), .val (.int vt), .val (.int ka), .val (.int kb), .val (.int kc), .val (.ref b46), .val (.long tot), .second, .val (.int (1 : Int32))] [(.ref b46)])) t → Steps p.tables e below (s₁.setTop (entryFrame m #[(.long q0), (.int p1), (.int p2), (.int p3), (.int p4), (.int p5)] maxLocals)) t := fun t kt => pre76 t (by
    show Steps p.tables e below (T74.setTop (mkF m 226 #[.val (.long q0), .second, .val (.int p1), .val (.int p2), .val (.int p3), .val (.int p4), .val (.int p5), .val (.ref b2), .val (.int vf), .val (.int vt), .val (.int ka), .val (.int kb), .val (.int kc), .val (.ref b46), .val (.long tot), .second, .val (.int (1 : Int32))] [(.long rr74)])) _
    jvm_step X74.here [X74.here.top, hx, (hb hby at_226), Value.category]
    show Steps p.tables e below (T74.setTop (mkF m 227 #[.val (.long q0), .second, .val (.int p1), .val (.int p2), .val (.int p3), .val (.int p4), .val (.int p5), .val (.ref b2), .val (.int vf), .val (.int vt), .val (.int ka), .val (.int kb), .val (.int kc), .val (.ref b46), .val (.long tot), .second, .val (.int (1 : Int32))] [])) _
    refine XS.iload X74.here hx rfl (hb hby at_227) rfl ?_
    show Steps p.tables e below (T74.setTop (mkF m 229 #[.val (.long q0), .second, .val (.int p1), .val (.int p2), .val (.int p3), .val (.int p4), .val (.int p5), .val (.ref b2), .val (.int vf), .val (.int vt), .val (.int ka), .val (.int kb), .val (.int kc), .val (.ref b46), .val (.long tot), .second, .val (.int (1 : Int32))] [(.int (1 : Int32))])) _
    refine XS.ifNo X74.here hx rfl (hb hby at_229) rfl ((if0 _ _).trans (feq (by decide : ¬ ((1 : Int32) = (0 : Int32)))).1) ?_
    show Steps p.tables e below (T74.setTop (mkF m 232 #[.val (.long q0), .second, .val (.int p1), .val (.int p2), .val (.int p3), .val (.int p4), .val (.int p5), .val (.ref b2), .val (.int vf), .val (.int vt), .val (.int ka), .val (.int kb), .val (.int kc), .val (.ref b46), .val (.long tot), .second, .val (.int (1 : Int32))] [])) _
    refine XS.aload X74.here hx rfl (hb hby at_232) rfl rfl ?_
    exact kt)
  obtain ⟨cq78, kq78, q78a, q78b, q78c⟩ := isOf hZ rfl Fq74_0'
  obtain ⟨_, _, ⟨T79, L79, k79, n79⟩, -, X79, ⟨Lc79, hQ79, l79, y79, z79⟩, st79⟩ := X74.virtualBack hx (y := (⟨"com/example/tierfuse/tierfuse/format/BitReader", "remaining", "()J"⟩ : MethodName)) (z := (⟨"com/example/tierfuse/tierfuse/format/BitReader", "remaining", "()J"⟩ : MethodName)) hown (mvT hZ (hw _ (List.mem_of_getElem? (i := 18) rfl))) (mvT hZ (hw _ (List.mem_of_getElem? (i := 19) rfl))) (notFace_of_selects (args := #[]) (mvT hZ (hw _ (List.mem_of_getElem? (i := 21) rfl)))) (mvT hZ (hw _ (List.mem_of_getElem? (i := 21) rfl))) (mvT hZ (hw _ (List.mem_of_getElem? (i := 20) rfl))) (by decide) (backOf (W := 0) (rm3 l Z av hw [] b46 b2 nx74 vt wi74 wb74 T74.heap n0 Z74 Fq74_0' gn46 Fq74_1' Fq74_2' Fq74_3' Fq74_4' Fq74_5') hZ (hw _ (List.mem_of_getElem? (i := 22) rfl)) (hw _ (List.mem_of_getElem? (i := 4) rfl)) (by decide) (by decide)) q78a q78c (g := (mkF m 234 #[.val (.long q0), .second, .val (.int p1), .val (.int p2), .val (.int p3), .val (.int p4), .val (.int p5), .val (.ref b2), .val (.int vf), .val (.int vt), .val (.int ka), .val (.int kb), .val (.int kc), .val (.ref b46), .val (.long tot), .second, .val (.int (1 : Int32))] [(.ref b46)])) rfl (by rw [hml]; rfl) (Steps.refl _) (argsL := []) (rest := []) (lenOf pd___J rfl) rfl (by show 2 * 0 + _ ≤ _; exact Nat.le_of_eq rfl) (hb hby at_234) (fun _ _ => ⟨rfl, rfl, (by decide : 2 + 0 ≤ _), (by decide : 13 + 0 ≤ _)⟩)
  dsimp only [Pt.U, Pt.locs, Pt.cells, Pt.slots] at X79 l79 y79 z79 st79 hQ79
  subst l79 y79 z79
  obtain ⟨rfl, N79q, e79⟩ := hQ79
  have N79 := Fr.app N74 N79q
  have pre80 : ∀ t, Steps p.tables e below (T79.setTop (mkF m 237 #[.val (.long q0), .second, .val (.int p1), .val (.int p2), .val (.int p3), .val (.int p4), .val (.int p5), .val (.ref b2), .val (.int vf), .val (.int vt), .val (.int ka), .val (.int kb), .val (.int kc), .val (.ref b46), .val (.long tot), .second, .val (.int (1 : Int32))] [(.long (f_rem nx74 vt wi74 wb74))])) t → Steps p.tables e below (s₁.setTop (entryFrame m #[(.long q0), (.int p1), (.int p2), (.int p3), (.int p4), (.int p5)] maxLocals)) t := fun t kt => pre77 t (st79.trans kt)
  have pre81 : ∀ t, Steps p.tables e below (T79.setTop (mkF m 248 #[.val (.long q0), .second, .val (.int p1), .val (.int p2), .val (.int p3), .val (.int p4), .val (.int p5), .val (.ref b2), .val (.int vf), .val (.int vt), .val (.int ka), .val (.int kb), .val (.int kc), .val (.ref b46), .val (.long tot), .second, .val (.int (1 : Int32))] [(.int (lcmpW (f_rem nx74 vt wi74 wb74) ((tot - (ka.toInt64)) - (kb.toInt64))))])) t → Steps p.tables e below (s₁.setTop (entryFrame m #[(.long q0), (.int p1), (.int p2), (.int p3), (.int p4), (.int p5)] maxLocals)) t := fun t kt => pre80 t (by
    show Steps p.tables e below (T79.setTop (mkF m 237 #[.val (.long q0), .second, .val (.int p1), .val (.int p2), .val (.int p3), .val (.int p4), .val (.int p5), .val (.ref b2), .val (.int vf), .val (.int vt), .val (.int ka), .val (.int kb), .val (.int kc), .val (.ref b46), .val (.long tot), .second, .val (.int (1 : Int32))] [(.long (f_rem nx74 vt wi74 wb74))])) _
    refine XS.lload X79.here hx rfl (hb hby at_237) rfl ?_
    show Steps p.tables e below (T79.setTop (mkF m 239 #[.val (.long q0), .second, .val (.int p1), .val (.int p2), .val (.int p3), .val (.int p4), .val (.int p5), .val (.ref b2), .val (.int vf), .val (.int vt), .val (.int ka), .val (.int kb), .val (.int kc), .val (.ref b46), .val (.long tot), .second, .val (.int (1 : Int32))] [(.long tot), (.long (f_rem nx74 vt wi74 wb74))])) _
    refine XS.iload X79.here hx rfl (hb hby at_239) rfl ?_
    show Steps p.tables e below (T79.setTop (mkF m 241 #[.val (.long q0), .second, .val (.int p1), .val (.int p2), .val (.int p3), .val (.int p4), .val (.int p5), .val (.ref b2), .val (.int vf), .val (.int vt), .val (.int ka), .val (.int kb), .val (.int kc), .val (.ref b46), .val (.long tot), .second, .val (.int (1 : Int32))] [(.int ka), (.long tot), (.long (f_rem nx74 vt wi74 wb74))])) _
    refine XS.i2l X79.here hx rfl (hb hby at_241) rfl ?_
    show Steps p.tables e below (T79.setTop (mkF m 242 #[.val (.long q0), .second, .val (.int p1), .val (.int p2), .val (.int p3), .val (.int p4), .val (.int p5), .val (.ref b2), .val (.int vf), .val (.int vt), .val (.int ka), .val (.int kb), .val (.int kc), .val (.ref b46), .val (.long tot), .second, .val (.int (1 : Int32))] [(.long (ka.toInt64)), (.long tot), (.long (f_rem nx74 vt wi74 wb74))])) _
    refine XS.lsub X79.here hx rfl (hb hby at_242) rfl ?_
    show Steps p.tables e below (T79.setTop (mkF m 243 #[.val (.long q0), .second, .val (.int p1), .val (.int p2), .val (.int p3), .val (.int p4), .val (.int p5), .val (.ref b2), .val (.int vf), .val (.int vt), .val (.int ka), .val (.int kb), .val (.int kc), .val (.ref b46), .val (.long tot), .second, .val (.int (1 : Int32))] [(.long (tot - (ka.toInt64))), (.long (f_rem nx74 vt wi74 wb74))])) _
    refine XS.iload X79.here hx rfl (hb hby at_243) rfl ?_
    show Steps p.tables e below (T79.setTop (mkF m 245 #[.val (.long q0), .second, .val (.int p1), .val (.int p2), .val (.int p3), .val (.int p4), .val (.int p5), .val (.ref b2), .val (.int vf), .val (.int vt), .val (.int ka), .val (.int kb), .val (.int kc), .val (.ref b46), .val (.long tot), .second, .val (.int (1 : Int32))] [(.int kb), (.long (tot - (ka.toInt64))), (.long (f_rem nx74 vt wi74 wb74))])) _
    refine XS.i2l X79.here hx rfl (hb hby at_245) rfl ?_
    show Steps p.tables e below (T79.setTop (mkF m 246 #[.val (.long q0), .second, .val (.int p1), .val (.int p2), .val (.int p3), .val (.int p4), .val (.int p5), .val (.ref b2), .val (.int vf), .val (.int vt), .val (.int ka), .val (.int kb), .val (.int kc), .val (.ref b46), .val (.long tot), .second, .val (.int (1 : Int32))] [(.long (kb.toInt64)), (.long (tot - (ka.toInt64))), (.long (f_rem nx74 vt wi74 wb74))])) _
    refine XS.lsub X79.here hx rfl (hb hby at_246) rfl ?_
    show Steps p.tables e below (T79.setTop (mkF m 247 #[.val (.long q0), .second, .val (.int p1), .val (.int p2), .val (.int p3), .val (.int p4), .val (.int p5), .val (.ref b2), .val (.int vf), .val (.int vt), .val (.int ka), .val (.int kb), .val (.int kc), .val (.ref b46), .val (.long tot), .second, .val (.int (1 : Int32))] [(.long ((tot - (ka.toInt64)) - (kb.toInt64))), (.long (f_rem nx74 vt wi74 wb74))])) _
    refine XS.lcmp X79.here hx rfl (hb hby at_247) rfl ?_
    exact kt)
  have hb82 : (f_rem nx74 vt wi74 wb74) = ((tot - (ka.toInt64)) - (kb.toInt64)) := by
    have qf := hm37
    have qt := hm39
    have qtot := hm54
    have qa := hm41
    have qb := hm43
    have qc := hm45
    have r0 := Rl63
    have r1 := Rl74
    simp only [Int32.reduceToInt] at r0
    have l0 := own_lk tot ka (by omega) (by omega)
    have l1 := own_lk (tot - (ka.toInt64)) kb (by omega) (by omega)
    have rr := own_rem nx74 vt wb74 wi74 (by omega) (by omega) (by omega)
    rw [← Int64.toInt_inj]
    omega
  have pre83 : ∀ t, Steps p.tables e below (T79.setTop (mkF m 262 #[.val (.long q0), .second, .val (.int p1), .val (.int p2), .val (.int p3), .val (.int p4), .val (.int p5), .val (.ref b2), .val (.int vf), .val (.int vt), .val (.int ka), .val (.int kb), .val (.int kc), .val (.ref b46), .val (.long tot), .second, .val (.int (1 : Int32))] [(.int kc), (.ref b46)])) t → Steps p.tables e below (s₁.setTop (entryFrame m #[(.long q0), (.int p1), (.int p2), (.int p3), (.int p4), (.int p5)] maxLocals)) t := fun t kt => pre81 t (by
    show Steps p.tables e below (T79.setTop (mkF m 248 #[.val (.long q0), .second, .val (.int p1), .val (.int p2), .val (.int p3), .val (.int p4), .val (.int p5), .val (.ref b2), .val (.int vf), .val (.int vt), .val (.int ka), .val (.int kb), .val (.int kc), .val (.ref b46), .val (.long tot), .second, .val (.int (1 : Int32))] [(.int (lcmpW (f_rem nx74 vt wi74 wb74) ((tot - (ka.toInt64)) - (kb.toInt64))))])) _
    refine XS.ifNo X79.here hx rfl (hb hby at_248) rfl (Jvm.Free.XT.ll_ne_f hb82) ?_
    show Steps p.tables e below (T79.setTop (mkF m 251 #[.val (.long q0), .second, .val (.int p1), .val (.int p2), .val (.int p3), .val (.int p4), .val (.int p5), .val (.ref b2), .val (.int vf), .val (.int vt), .val (.int ka), .val (.int kb), .val (.int kc), .val (.ref b46), .val (.long tot), .second, .val (.int (1 : Int32))] [])) _
    refine XS.iconst X79.here hx rfl (hb hby at_251) ?_
    show Steps p.tables e below (T79.setTop (mkF m 252 #[.val (.long q0), .second, .val (.int p1), .val (.int p2), .val (.int p3), .val (.int p4), .val (.int p5), .val (.ref b2), .val (.int vf), .val (.int vt), .val (.int ka), .val (.int kb), .val (.int kc), .val (.ref b46), .val (.long tot), .second, .val (.int (1 : Int32))] [(.int (1 : Int32))])) _
    refine XS.goto X79.here hx rfl (pc0 := 252) (pc' := 256) rfl (hb hby at_252) (by decide) (by decide) ?_
    show Steps p.tables e below (T79.setTop (mkF m 256 #[.val (.long q0), .second, .val (.int p1), .val (.int p2), .val (.int p3), .val (.int p4), .val (.int p5), .val (.ref b2), .val (.int vf), .val (.int vt), .val (.int ka), .val (.int kb), .val (.int kc), .val (.ref b46), .val (.long tot), .second, .val (.int (1 : Int32))] [(.int (1 : Int32))])) _
    refine XS.istore X79.here hx rfl (hb hby at_256) rfl (l' := #[.val (.long q0), .second, .val (.int p1), .val (.int p2), .val (.int p3), .val (.int p4), .val (.int p5), .val (.ref b2), .val (.int vf), .val (.int vt), .val (.int ka), .val (.int kb), .val (.int kc), .val (.ref b46), .val (.long tot), .second, .val (.int (1 : Int32))]) rfl ?_
    show Steps p.tables e below (T79.setTop (mkF m 258 #[.val (.long q0), .second, .val (.int p1), .val (.int p2), .val (.int p3), .val (.int p4), .val (.int p5), .val (.ref b2), .val (.int vf), .val (.int vt), .val (.int ka), .val (.int kb), .val (.int kc), .val (.ref b46), .val (.long tot), .second, .val (.int (1 : Int32))] [])) _
    refine XS.aload X79.here hx rfl (hb hby at_258) rfl rfl ?_
    show Steps p.tables e below (T79.setTop (mkF m 260 #[.val (.long q0), .second, .val (.int p1), .val (.int p2), .val (.int p3), .val (.int p4), .val (.int p5), .val (.ref b2), .val (.int vf), .val (.int vt), .val (.int ka), .val (.int kb), .val (.int kc), .val (.ref b46), .val (.long tot), .second, .val (.int (1 : Int32))] [(.ref b46)])) _
    refine XS.iload X79.here hx rfl (hb hby at_260) rfl ?_
    exact kt)
  obtain ⟨cq84, kq84, q84a, q84b, q84c⟩ := isOf hZ e79 Fq74_0'
  obtain ⟨_, _, ⟨T85, L85, k85, n85⟩, -, X85, ⟨Lc85, hQ85, l85, y85, z85⟩, st85⟩ := X79.virtualBack hx (y := (⟨"com/example/tierfuse/tierfuse/format/BitReader", "read", "(I)J"⟩ : MethodName)) (z := (⟨"com/example/tierfuse/tierfuse/format/BitReader", "read", "(I)J"⟩ : MethodName)) hown (mvT hZ (hw _ (List.mem_of_getElem? (i := 26) rfl))) (mvT hZ (hw _ (List.mem_of_getElem? (i := 27) rfl))) (notFace_of_selects (args := #[]) (mvT hZ (hw _ (List.mem_of_getElem? (i := 29) rfl)))) (mvT hZ (hw _ (List.mem_of_getElem? (i := 29) rfl))) (mvT hZ (hw _ (List.mem_of_getElem? (i := 28) rfl))) (by decide) (backOf (W := 0) (rm4 l Z av hw [] b46 kc b2 nx74 vt wi74 wb74 T74.heap n0 Z74 Fq74_0' gn46 Fq74_1' Fq74_2' Fq74_3' Fq74_4' Fq74_5' ⟨_, _, F75⟩ (Ne.symm ne_b2_b46) (by have q0 := Rl63; have q1 := Rl74; have q2 := hm37; have q3 := hm41; have q4 := hm43; omega) (by have q0 := Rl63; have q1 := Rl74; have q2 := hm37; have q3 := hm41; have q4 := hm43; omega) hm39.2 hm45) hZ (hw _ (List.mem_of_getElem? (i := 30) rfl)) (hw _ (List.mem_of_getElem? (i := 4) rfl)) (by decide) (by decide)) q84a q84c (g := (mkF m 262 #[.val (.long q0), .second, .val (.int p1), .val (.int p2), .val (.int p3), .val (.int p4), .val (.int p5), .val (.ref b2), .val (.int vf), .val (.int vt), .val (.int ka), .val (.int kb), .val (.int kc), .val (.ref b46), .val (.long tot), .second, .val (.int (1 : Int32))] [(.int kc), (.ref b46)])) rfl (by rw [hml]; rfl) (Steps.refl _) (argsL := [(.int kc)]) (rest := []) (lenOf pd__I_J rfl) rfl (by show 2 * 0 + _ ≤ _; exact Nat.le_of_eq rfl) (hb hby at_262) (fun _ _ => ⟨rfl, e79, (by decide : 2 + 0 ≤ _), (by decide : 13 + 0 ≤ _)⟩)
  dsimp only [Pt.U, Pt.locs, Pt.cells, Pt.slots] at X85 l85 y85 z85 st85 hQ85
  subst l85 y85 z85
  obtain ⟨rr85, nx85, wi85, wb85, rfl, Nz85, Kz85, ⟨Gz0, Gz1, Gz2, Gz3, Gz4, Gz5⟩, Rl85⟩ := hQ85
  have hQ85 := And.intro (rfl : (0 : Nat) = 0) (And.intro Nz85 (And.intro Kz85 (And.intro Gz0 (And.intro Gz1 (And.intro Gz2 (And.intro Gz3 (And.intro Gz4 Gz5)))))))
  obtain ⟨-, N85q, Kq85, Fq85_0, Fq85_1, Fq85_2, Fq85_3, Fq85_4, Fq85_5⟩ := hQ85
  have N85 := Fr.app N79 N85q
  have F86 : Arv Z T85.heap b2 k2 .byte (8 : Int32) [(.int (nar .byte ((((q0.toUInt64 >>> ((56 : Int32) &&& 0x3f).toInt64.toUInt64).toInt64).toInt32).toInt8.toInt32))), (.int (nar .byte ((((q0.toUInt64 >>> ((48 : Int32) &&& 0x3f).toInt64.toUInt64).toInt64).toInt32).toInt8.toInt32))), (.int (nar .byte ((((q0.toUInt64 >>> ((40 : Int32) &&& 0x3f).toInt64.toUInt64).toInt64).toInt32).toInt8.toInt32))), (.int (nar .byte ((((q0.toUInt64 >>> ((32 : Int32) &&& 0x3f).toInt64.toUInt64).toInt64).toInt32).toInt8.toInt32))), (.int (nar .byte ((((q0.toUInt64 >>> ((24 : Int32) &&& 0x3f).toInt64.toUInt64).toInt64).toInt32).toInt8.toInt32))), (.int (nar .byte ((((q0.toUInt64 >>> ((16 : Int32) &&& 0x3f).toInt64.toUInt64).toInt64).toInt32).toInt8.toInt32))), (.int (nar .byte ((((q0.toUInt64 >>> ((8 : Int32) &&& 0x3f).toInt64.toUInt64).toInt64).toInt32).toInt8.toInt32))), (.int (nar .byte ((q0.toInt32).toInt8.toInt32)))] (.int (0 : Int32)) := F75.keep Kq85 (ninS ne_b2_b46 nin0)
  have K85 : Keep h0 T85.heap [] := K74.trans Kq85 (allS (Or.inr sz46) all0)
  have Z85 : n0 ≤ T85.heap.size := Nat.le_trans Z74 Kq85.1
  have Fq85_0' : Exa Z T85.heap b46 "com/example/tierfuse/tierfuse/format/BitReader" := Fq85_0
  have Fq85_1' : Fld Z T85.heap b46 "com/example/tierfuse/tierfuse/format/BitReader" "bytes" "[B" (.ref b2) := Fq85_1
  have Fq85_2' : Fld Z T85.heap b46 "com/example/tierfuse/tierfuse/format/BitReader" "next" "I" (.int nx85) := Fq85_2
  have Fq85_3' : Fld Z T85.heap b46 "com/example/tierfuse/tierfuse/format/BitReader" "end" "I" (.int vt) := Fq85_3
  have Fq85_4' : Fld Z T85.heap b46 "com/example/tierfuse/tierfuse/format/BitReader" "window" "J" (.long wi85) := Fq85_4
  have Fq85_5' : Fld Z T85.heap b46 "com/example/tierfuse/tierfuse/format/BitReader" "windowBits" "I" (.int wb85) := Fq85_5
  have pre87 : ∀ t, Steps p.tables e below (T85.setTop (mkF m 265 #[.val (.long q0), .second, .val (.int p1), .val (.int p2), .val (.int p3), .val (.int p4), .val (.int p5), .val (.ref b2), .val (.int vf), .val (.int vt), .val (.int ka), .val (.int kb), .val (.int kc), .val (.ref b46), .val (.long tot), .second, .val (.int (1 : Int32))] [(.long rr85)])) t → Steps p.tables e below (s₁.setTop (entryFrame m #[(.long q0), (.int p1), (.int p2), (.int p3), (.int p4), (.int p5)] maxLocals)) t := fun t kt => pre83 t (st85.trans kt)
  have pre88 : ∀ t, Steps p.tables e below (T85.setTop (mkF m 273 #[.val (.long q0), .second, .val (.int p1), .val (.int p2), .val (.int p3), .val (.int p4), .val (.int p5), .val (.ref b2), .val (.int vf), .val (.int vt), .val (.int ka), .val (.int kb), .val (.int kc), .val (.ref b46), .val (.long tot), .second, .val (.int (1 : Int32))] [(.ref b46)])) t → Steps p.tables e below (s₁.setTop (entryFrame m #[(.long q0), (.int p1), (.int p2), (.int p3), (.int p4), (.int p5)] maxLocals)) t := fun t kt => pre87 t (by
    show Steps p.tables e below (T85.setTop (mkF m 265 #[.val (.long q0), .second, .val (.int p1), .val (.int p2), .val (.int p3), .val (.int p4), .val (.int p5), .val (.ref b2), .val (.int vf), .val (.int vt), .val (.int ka), .val (.int kb), .val (.int kc), .val (.ref b46), .val (.long tot), .second, .val (.int (1 : Int32))] [(.long rr85)])) _
    jvm_step X85.here [X85.here.top, hx, (hb hby at_265), Value.category]
    show Steps p.tables e below (T85.setTop (mkF m 266 #[.val (.long q0), .second, .val (.int p1), .val (.int p2), .val (.int p3), .val (.int p4), .val (.int p5), .val (.ref b2), .val (.int vf), .val (.int vt), .val (.int ka), .val (.int kb), .val (.int kc), .val (.ref b46), .val (.long tot), .second, .val (.int (1 : Int32))] [])) _
    refine XS.iload X85.here hx rfl (hb hby at_266) rfl ?_
    show Steps p.tables e below (T85.setTop (mkF m 268 #[.val (.long q0), .second, .val (.int p1), .val (.int p2), .val (.int p3), .val (.int p4), .val (.int p5), .val (.ref b2), .val (.int vf), .val (.int vt), .val (.int ka), .val (.int kb), .val (.int kc), .val (.ref b46), .val (.long tot), .second, .val (.int (1 : Int32))] [(.int (1 : Int32))])) _
    refine XS.ifNo X85.here hx rfl (hb hby at_268) rfl ((if0 _ _).trans (feq (by decide : ¬ ((1 : Int32) = (0 : Int32)))).1) ?_
    show Steps p.tables e below (T85.setTop (mkF m 271 #[.val (.long q0), .second, .val (.int p1), .val (.int p2), .val (.int p3), .val (.int p4), .val (.int p5), .val (.ref b2), .val (.int vf), .val (.int vt), .val (.int ka), .val (.int kb), .val (.int kc), .val (.ref b46), .val (.long tot), .second, .val (.int (1 : Int32))] [])) _
    refine XS.aload X85.here hx rfl (hb hby at_271) rfl rfl ?_
    exact kt)
  obtain ⟨cq89, kq89, q89a, q89b, q89c⟩ := isOf hZ rfl Fq85_0'
  obtain ⟨_, _, ⟨T90, L90, k90, n90⟩, -, X90, ⟨Lc90, hQ90, l90, y90, z90⟩, st90⟩ := X85.virtualBack hx (y := (⟨"com/example/tierfuse/tierfuse/format/BitReader", "remaining", "()J"⟩ : MethodName)) (z := (⟨"com/example/tierfuse/tierfuse/format/BitReader", "remaining", "()J"⟩ : MethodName)) hown (mvT hZ (hw _ (List.mem_of_getElem? (i := 18) rfl))) (mvT hZ (hw _ (List.mem_of_getElem? (i := 19) rfl))) (notFace_of_selects (args := #[]) (mvT hZ (hw _ (List.mem_of_getElem? (i := 21) rfl)))) (mvT hZ (hw _ (List.mem_of_getElem? (i := 21) rfl))) (mvT hZ (hw _ (List.mem_of_getElem? (i := 20) rfl))) (by decide) (backOf (W := 0) (rm3 l Z av hw [] b46 b2 nx85 vt wi85 wb85 T85.heap n0 Z85 Fq85_0' gn46 Fq85_1' Fq85_2' Fq85_3' Fq85_4' Fq85_5') hZ (hw _ (List.mem_of_getElem? (i := 22) rfl)) (hw _ (List.mem_of_getElem? (i := 4) rfl)) (by decide) (by decide)) q89a q89c (g := (mkF m 273 #[.val (.long q0), .second, .val (.int p1), .val (.int p2), .val (.int p3), .val (.int p4), .val (.int p5), .val (.ref b2), .val (.int vf), .val (.int vt), .val (.int ka), .val (.int kb), .val (.int kc), .val (.ref b46), .val (.long tot), .second, .val (.int (1 : Int32))] [(.ref b46)])) rfl (by rw [hml]; rfl) (Steps.refl _) (argsL := []) (rest := []) (lenOf pd___J rfl) rfl (by show 2 * 0 + _ ≤ _; exact Nat.le_of_eq rfl) (hb hby at_273) (fun _ _ => ⟨rfl, rfl, (by decide : 2 + 0 ≤ _), (by decide : 13 + 0 ≤ _)⟩)
  dsimp only [Pt.U, Pt.locs, Pt.cells, Pt.slots] at X90 l90 y90 z90 st90 hQ90
  subst l90 y90 z90
  obtain ⟨rfl, N90q, e90⟩ := hQ90
  have N90 := Fr.app N85 N90q
  have pre91 : ∀ t, Steps p.tables e below (T90.setTop (mkF m 276 #[.val (.long q0), .second, .val (.int p1), .val (.int p2), .val (.int p3), .val (.int p4), .val (.int p5), .val (.ref b2), .val (.int vf), .val (.int vt), .val (.int ka), .val (.int kb), .val (.int kc), .val (.ref b46), .val (.long tot), .second, .val (.int (1 : Int32))] [(.long (f_rem nx85 vt wi85 wb85))])) t → Steps p.tables e below (s₁.setTop (entryFrame m #[(.long q0), (.int p1), (.int p2), (.int p3), (.int p4), (.int p5)] maxLocals)) t := fun t kt => pre88 t (st90.trans kt)
  have pre92 : ∀ t, Steps p.tables e below (T90.setTop (mkF m 291 #[.val (.long q0), .second, .val (.int p1), .val (.int p2), .val (.int p3), .val (.int p4), .val (.int p5), .val (.ref b2), .val (.int vf), .val (.int vt), .val (.int ka), .val (.int kb), .val (.int kc), .val (.ref b46), .val (.long tot), .second, .val (.int (1 : Int32))] [(.int (lcmpW (f_rem nx85 vt wi85 wb85) (((tot - (ka.toInt64)) - (kb.toInt64)) - (kc.toInt64))))])) t → Steps p.tables e below (s₁.setTop (entryFrame m #[(.long q0), (.int p1), (.int p2), (.int p3), (.int p4), (.int p5)] maxLocals)) t := fun t kt => pre91 t (by
    show Steps p.tables e below (T90.setTop (mkF m 276 #[.val (.long q0), .second, .val (.int p1), .val (.int p2), .val (.int p3), .val (.int p4), .val (.int p5), .val (.ref b2), .val (.int vf), .val (.int vt), .val (.int ka), .val (.int kb), .val (.int kc), .val (.ref b46), .val (.long tot), .second, .val (.int (1 : Int32))] [(.long (f_rem nx85 vt wi85 wb85))])) _
    refine XS.lload X90.here hx rfl (hb hby at_276) rfl ?_
    show Steps p.tables e below (T90.setTop (mkF m 278 #[.val (.long q0), .second, .val (.int p1), .val (.int p2), .val (.int p3), .val (.int p4), .val (.int p5), .val (.ref b2), .val (.int vf), .val (.int vt), .val (.int ka), .val (.int kb), .val (.int kc), .val (.ref b46), .val (.long tot), .second, .val (.int (1 : Int32))] [(.long tot), (.long (f_rem nx85 vt wi85 wb85))])) _
    refine XS.iload X90.here hx rfl (hb hby at_278) rfl ?_
    show Steps p.tables e below (T90.setTop (mkF m 280 #[.val (.long q0), .second, .val (.int p1), .val (.int p2), .val (.int p3), .val (.int p4), .val (.int p5), .val (.ref b2), .val (.int vf), .val (.int vt), .val (.int ka), .val (.int kb), .val (.int kc), .val (.ref b46), .val (.long tot), .second, .val (.int (1 : Int32))] [(.int ka), (.long tot), (.long (f_rem nx85 vt wi85 wb85))])) _
    refine XS.i2l X90.here hx rfl (hb hby at_280) rfl ?_
    show Steps p.tables e below (T90.setTop (mkF m 281 #[.val (.long q0), .second, .val (.int p1), .val (.int p2), .val (.int p3), .val (.int p4), .val (.int p5), .val (.ref b2), .val (.int vf), .val (.int vt), .val (.int ka), .val (.int kb), .val (.int kc), .val (.ref b46), .val (.long tot), .second, .val (.int (1 : Int32))] [(.long (ka.toInt64)), (.long tot), (.long (f_rem nx85 vt wi85 wb85))])) _
    refine XS.lsub X90.here hx rfl (hb hby at_281) rfl ?_
    show Steps p.tables e below (T90.setTop (mkF m 282 #[.val (.long q0), .second, .val (.int p1), .val (.int p2), .val (.int p3), .val (.int p4), .val (.int p5), .val (.ref b2), .val (.int vf), .val (.int vt), .val (.int ka), .val (.int kb), .val (.int kc), .val (.ref b46), .val (.long tot), .second, .val (.int (1 : Int32))] [(.long (tot - (ka.toInt64))), (.long (f_rem nx85 vt wi85 wb85))])) _
    refine XS.iload X90.here hx rfl (hb hby at_282) rfl ?_
    show Steps p.tables e below (T90.setTop (mkF m 284 #[.val (.long q0), .second, .val (.int p1), .val (.int p2), .val (.int p3), .val (.int p4), .val (.int p5), .val (.ref b2), .val (.int vf), .val (.int vt), .val (.int ka), .val (.int kb), .val (.int kc), .val (.ref b46), .val (.long tot), .second, .val (.int (1 : Int32))] [(.int kb), (.long (tot - (ka.toInt64))), (.long (f_rem nx85 vt wi85 wb85))])) _
    refine XS.i2l X90.here hx rfl (hb hby at_284) rfl ?_
    show Steps p.tables e below (T90.setTop (mkF m 285 #[.val (.long q0), .second, .val (.int p1), .val (.int p2), .val (.int p3), .val (.int p4), .val (.int p5), .val (.ref b2), .val (.int vf), .val (.int vt), .val (.int ka), .val (.int kb), .val (.int kc), .val (.ref b46), .val (.long tot), .second, .val (.int (1 : Int32))] [(.long (kb.toInt64)), (.long (tot - (ka.toInt64))), (.long (f_rem nx85 vt wi85 wb85))])) _
    refine XS.lsub X90.here hx rfl (hb hby at_285) rfl ?_
    show Steps p.tables e below (T90.setTop (mkF m 286 #[.val (.long q0), .second, .val (.int p1), .val (.int p2), .val (.int p3), .val (.int p4), .val (.int p5), .val (.ref b2), .val (.int vf), .val (.int vt), .val (.int ka), .val (.int kb), .val (.int kc), .val (.ref b46), .val (.long tot), .second, .val (.int (1 : Int32))] [(.long ((tot - (ka.toInt64)) - (kb.toInt64))), (.long (f_rem nx85 vt wi85 wb85))])) _
    refine XS.iload X90.here hx rfl (hb hby at_286) rfl ?_
    show Steps p.tables e below (T90.setTop (mkF m 288 #[.val (.long q0), .second, .val (.int p1), .val (.int p2), .val (.int p3), .val (.int p4), .val (.int p5), .val (.ref b2), .val (.int vf), .val (.int vt), .val (.int ka), .val (.int kb), .val (.int kc), .val (.ref b46), .val (.long tot), .second, .val (.int (1 : Int32))] [(.int kc), (.long ((tot - (ka.toInt64)) - (kb.toInt64))), (.long (f_rem nx85 vt wi85 wb85))])) _
    refine XS.i2l X90.here hx rfl (hb hby at_288) rfl ?_
    show Steps p.tables e below (T90.setTop (mkF m 289 #[.val (.long q0), .second, .val (.int p1), .val (.int p2), .val (.int p3), .val (.int p4), .val (.int p5), .val (.ref b2), .val (.int vf), .val (.int vt), .val (.int ka), .val (.int kb), .val (.int kc), .val (.ref b46), .val (.long tot), .second, .val (.int (1 : Int32))] [(.long (kc.toInt64)), (.long ((tot - (ka.toInt64)) - (kb.toInt64))), (.long (f_rem nx85 vt wi85 wb85))])) _
    refine XS.lsub X90.here hx rfl (hb hby at_289) rfl ?_
    show Steps p.tables e below (T90.setTop (mkF m 290 #[.val (.long q0), .second, .val (.int p1), .val (.int p2), .val (.int p3), .val (.int p4), .val (.int p5), .val (.ref b2), .val (.int vf), .val (.int vt), .val (.int ka), .val (.int kb), .val (.int kc), .val (.ref b46), .val (.long tot), .second, .val (.int (1 : Int32))] [(.long (((tot - (ka.toInt64)) - (kb.toInt64)) - (kc.toInt64))), (.long (f_rem nx85 vt wi85 wb85))])) _
    refine XS.lcmp X90.here hx rfl (hb hby at_290) rfl ?_
    exact kt)
  have hb93 : (f_rem nx85 vt wi85 wb85) = (((tot - (ka.toInt64)) - (kb.toInt64)) - (kc.toInt64)) := by
    have qf := hm37
    have qt := hm39
    have qtot := hm54
    have qa := hm41
    have qb := hm43
    have qc := hm45
    have r0 := Rl63
    have r1 := Rl74
    have r2 := Rl85
    simp only [Int32.reduceToInt] at r0
    have l0 := own_lk tot ka (by omega) (by omega)
    have l1 := own_lk (tot - (ka.toInt64)) kb (by omega) (by omega)
    have l2 := own_lk ((tot - (ka.toInt64)) - (kb.toInt64)) kc (by omega) (by omega)
    have rr := own_rem nx85 vt wb85 wi85 (by omega) (by omega) (by omega)
    rw [← Int64.toInt_inj]
    omega
  have pre94 : ∀ t, Steps p.tables e below (T90.setTop (mkF m 303 #[.val (.long q0), .second, .val (.int p1), .val (.int p2), .val (.int p3), .val (.int p4), .val (.int p5), .val (.ref b2), .val (.int vf), .val (.int vt), .val (.int ka), .val (.int kb), .val (.int kc), .val (.ref b46), .val (.long tot), .second, .val (.int (1 : Int32))] [(.int (1 : Int32))])) t → Steps p.tables e below (s₁.setTop (entryFrame m #[(.long q0), (.int p1), (.int p2), (.int p3), (.int p4), (.int p5)] maxLocals)) t := fun t kt => pre92 t (by
    show Steps p.tables e below (T90.setTop (mkF m 291 #[.val (.long q0), .second, .val (.int p1), .val (.int p2), .val (.int p3), .val (.int p4), .val (.int p5), .val (.ref b2), .val (.int vf), .val (.int vt), .val (.int ka), .val (.int kb), .val (.int kc), .val (.ref b46), .val (.long tot), .second, .val (.int (1 : Int32))] [(.int (lcmpW (f_rem nx85 vt wi85 wb85) (((tot - (ka.toInt64)) - (kb.toInt64)) - (kc.toInt64))))])) _
    refine XS.ifNo X90.here hx rfl (hb hby at_291) rfl (Jvm.Free.XT.ll_ne_f hb93) ?_
    show Steps p.tables e below (T90.setTop (mkF m 294 #[.val (.long q0), .second, .val (.int p1), .val (.int p2), .val (.int p3), .val (.int p4), .val (.int p5), .val (.ref b2), .val (.int vf), .val (.int vt), .val (.int ka), .val (.int kb), .val (.int kc), .val (.ref b46), .val (.long tot), .second, .val (.int (1 : Int32))] [])) _
    refine XS.iconst X90.here hx rfl (hb hby at_294) ?_
    show Steps p.tables e below (T90.setTop (mkF m 295 #[.val (.long q0), .second, .val (.int p1), .val (.int p2), .val (.int p3), .val (.int p4), .val (.int p5), .val (.ref b2), .val (.int vf), .val (.int vt), .val (.int ka), .val (.int kb), .val (.int kc), .val (.ref b46), .val (.long tot), .second, .val (.int (1 : Int32))] [(.int (1 : Int32))])) _
    refine XS.goto X90.here hx rfl (pc0 := 295) (pc' := 299) rfl (hb hby at_295) (by decide) (by decide) ?_
    show Steps p.tables e below (T90.setTop (mkF m 299 #[.val (.long q0), .second, .val (.int p1), .val (.int p2), .val (.int p3), .val (.int p4), .val (.int p5), .val (.ref b2), .val (.int vf), .val (.int vt), .val (.int ka), .val (.int kb), .val (.int kc), .val (.ref b46), .val (.long tot), .second, .val (.int (1 : Int32))] [(.int (1 : Int32))])) _
    refine XS.istore X90.here hx rfl (hb hby at_299) rfl (l' := #[.val (.long q0), .second, .val (.int p1), .val (.int p2), .val (.int p3), .val (.int p4), .val (.int p5), .val (.ref b2), .val (.int vf), .val (.int vt), .val (.int ka), .val (.int kb), .val (.int kc), .val (.ref b46), .val (.long tot), .second, .val (.int (1 : Int32))]) rfl ?_
    show Steps p.tables e below (T90.setTop (mkF m 301 #[.val (.long q0), .second, .val (.int p1), .val (.int p2), .val (.int p3), .val (.int p4), .val (.int p5), .val (.ref b2), .val (.int vf), .val (.int vt), .val (.int ka), .val (.int kb), .val (.int kc), .val (.ref b46), .val (.long tot), .second, .val (.int (1 : Int32))] [])) _
    refine XS.iload X90.here hx rfl (hb hby at_301) rfl ?_
    exact kt)
  obtain ⟨fs, hr, hrun, hended, hW, hsame⟩ := X90.leave (v := some (.int (1 : Int32))) (fun h => by rw [Bd.returns] at h; cases h)
  refine ⟨_, _, pre94 _ ?_, hrun, hended, _, _, rfl, ?_, ⟨_, rfl⟩, hW, hsame.mono (by decide) (by decide)⟩
  · show Steps p.tables e below (T90.setTop (mkF m 303 #[.val (.long q0), .second, .val (.int p1), .val (.int p2), .val (.int p3), .val (.int p4), .val (.int p5), .val (.ref b2), .val (.int vf), .val (.int vt), .val (.int ka), .val (.int kb), .val (.int kc), .val (.ref b46), .val (.long tot), .second, .val (.int (1 : Int32))] [(.int (1 : Int32))])) _
    exact retN X90 hx (t := .boolean) Bd.returns (by simp) (hb hby at_303) hr
  · show Q0 Z q0 p1 p2 p3 p4 p5 h0 n0 _ T90.heap _
    rw [e90]
    exact ⟨rfl, N90⟩
set_option maxRecDepth 65536 in
set_option maxHeartbeats 40000000 in
theorem comes_1 {Post : Tables → Env → Array Value → State → Outcome → State → Prop} (hpost : ∀ tb e args s v u, (limb_1_1.after args s (.returned v) u = true ∧ limb_1_2.after args s (.returned v) u = true ∧ True) → FrameEnd s (.returned v) u (Jvm.fieldLocs frame_1_writes args s ++ Jvm.arrayLocs frame_1_arrays args s ++ Jvm.staticLocs frame_1_statics s) 16 128 → Post tb e args s (.returned v) u) :
    ArmFor flags0 classFile x code maxLocals ret World_1 tables_1 room_1 Calls_1 rest_1 Pre_1 Post := by
  intro l hfl _ _ p e ha hc hk s m args below hf hA hF happ hP
  obtain ⟨hcalls, hrest, hpre⟩ := hP
  obtain ⟨-, -, -, hnamed, -, -, -, hat⟩ := (Spec.applies_iff hf).mp happ
  obtain ⟨hg, hn⟩ := and_e (Cond.before_iff.mp (show (Jvm.Cond.and given_1 narrow_1).before args s = true from hpre))
  obtain ⟨g1, g2⟩ := and_e hg
  obtain ⟨g3, g4⟩ := and_e g2
  obtain ⟨g5, g6⟩ := and_e g4
  obtain ⟨g7, g8⟩ := and_e g6
  obtain ⟨g9, g10⟩ := and_e g8
  obtain ⟨g11, g12⟩ := and_e g10
  obtain ⟨w0, w1, w2, w3, w4, w5, rfl⟩ : ∃ w0 w1 w2 w3 w4 w5 : Value, args = #[w0, w1, w2, w3, w4, w5] := by
    have hs : args.size = 6 := by simpa [Cond.value, given_1] using g1
    obtain ⟨L⟩ := args
    match L, hs with
    | [w0, w1, w2, w3, w4, w5], _ => exact ⟨w0, w1, w2, w3, w4, w5, rfl⟩
  have hw := fun d (hd : d ∈ tables_1) => atoms_spec (ws := Jvm.Cond.code x code maxLocals ret :: tables_1) hat d (List.mem_cons_of_mem _ hd)
  obtain ⟨i0, ei0⟩ := isL_v g3
  obtain rfl : w0 = (.long i0) := Option.some.inj ei0
  obtain ⟨i1, ei1⟩ := is_v g5
  obtain rfl : w1 = (.int i1) := Option.some.inj ei1
  obtain ⟨i2, ei2⟩ := is_v g7
  obtain rfl : w2 = (.int i2) := Option.some.inj ei2
  obtain ⟨i3, ei3⟩ := is_v g9
  obtain rfl : w3 = (.int i3) := Option.some.inj ei3
  obtain ⟨i4, ei4⟩ := is_v g11
  obtain rfl : w4 = (.int i4) := Option.some.inj ei4
  obtain ⟨i5, ei5⟩ := is_v g12
  obtain rfl : w5 = (.int i5) := Option.some.inj ei5
  obtain ⟨n, o, h1, h2, h3, _, L, rfl, ⟨rfl, N⟩, hq⟩ := rm0 l s _ hw tables_1 i0 i1 i2 i3 i4 i5 s.heap s.heap.size (Nat.le_refl _) p e ha hc hk s m _ below hf ((Spec.applies_iff_loose hf).mp happ).1 ⟨rfl, State.Warmed39.refl s, rfl⟩ trivial
  refine ⟨n, _, h1, h2, h3, hpost _ _ _ _ _ _ ⟨Cond.after_iff.mpr rfl, Cond.after_iff.mpr (eq_i res_at (Term.int_eval (1)) rfl), trivial⟩ ⟨hq.1, hq.2.1, (hq.2.2.sift fun y hy => Or.inr (N y hy)).mono (by decide) (by decide)⟩⟩
theorem main_1_1 : Claimed_1_1 := comes_1 fun _ _ _ _ _ _ h hF => ⟨h.1, hF⟩
theorem main_1_2 : Claimed_1_2 := comes_1 fun _ _ _ _ _ _ h hF => ⟨h.2.1, hF⟩
end Jvm.Pilot.@@N@@
namespace Jvm.Pilot.@@N@@
open Jvm Jvm.ClassFile Sem Op Lib Jvm.Free Jvm.Stand Jvm.Pilot.@@N@@.Jvm.D
/-! MADE BY PROGRAM (witnessworld.py) out of the Statement's table words and the real class files: 9 classes; the members and pool entries that the words name. The judged class is class 1, her method 1. -/
namespace start1
open Jvm.ClassFile
def u (s : String) : CpInfo := .utf8 (stringToUtf16 s)
/-- a pool by its gaps: so many unusable entries, then the entry; so many at the end -/
def gap : Nat → List CpInfo → List CpInfo
  | 0, r => r
  | n + 1, r => .unusable :: gap n r
def poolList (es : List (Nat × CpInfo)) (last : Nat) : List CpInfo := es.foldr (fun e r => gap e.1 (e.2 :: r)) (gap last [])
def pool (es : List (Nat × CpInfo)) (last : Nat) : Array CpInfo := ⟨poolList es last⟩
def fileOf (pool : Array CpInfo) (this : Nat) (attrs : Array Attribute := #[]) (ms : Array MethodInfo := #[]) (fl : Nat := 33) (sup : Nat := 0) (ifs : Array Nat := #[]) (fds : Array FieldInfo := #[]) : ClassFile where
  minorVersion := 0
  majorVersion := 65
  constantPool := pool
  accessFlags := fl
  thisClass := this
  superClass := sup
  interfaces := ifs
  fields := fds
  methods := ms
  attributes := attrs
def plain (name : String) (sup : Option ClassId) : Class where
  name := name
  kind := .ordinary
  loader := none
  accessFlags := 33
  super := sup
  interfaces := #[]
  cf := none
  fields := #[]
  methods := #[]
  instanceTypes := #[]
  staticTypes := #[]
  resolved := #[]
  callSites := []
  init := .initialized
  statics := none
  mirror := none

def pool0 : Array CpInfo := pool [(5, u "<init>"), (0, u "()V"), (1, .class_ 10), (1, u "java/lang/Object")] 113

def k0c0 : Code := { maxStack := 0, maxLocals := 1, code := object_method_1_code, exceptionTable := #[], attributes := #[] }
def k0m0 : Method := { name := "<init>", desc := "()V", sig := { parameters := [], returnType := none }, accessFlags := 1, code := some k0c0 }
/-- java/lang/Object -/
def k0 : Class := { plain "java/lang/Object" none with
  accessFlags := 33
  interfaces := #[]
  cf := some (fileOf pool0 8 #[] #[{ accessFlags := 1, nameIndex := 5, descriptorIndex := 6, attributes := #[] }] 33 0 #[] #[])
  fields := #[]
  methods := #[k0m0]
  instanceTypes := #[]
  staticTypes := #[]
  resolved := Array.replicate 124 none
  statics := none }

def pool1 : Array CpInfo := pool [(2, .class_ 4), (1, u "java/lang/Object"), (0, u "<init>"), (0, u "()V"), (0, .integer 2147483647), (0, .class_ 9), (0, u "com/example/tierfuse/tierfuse/format/BitReader"), (0, .methodref 8 11), (0, .nameAndType 5 12), (0, u "([BII)V"), (0, .long 8), (1, .methodref 8 16), (0, .nameAndType 17 18), (0, u "remaining"), (0, u "()J"), (0, .methodref 8 20), (0, .nameAndType 21 22), (0, u "read"), (0, u "(I)J"), (0, .class_ 24), (0, u "com/example/tierfuse/tierfuse/format/BitReaderRemainingPinLaw"), (2, u "law"), (0, u "(JIIIII)Z")] 5

def k1m0 : Method := { name := "<init>", desc := "()V", sig := { parameters := [], returnType := none }, accessFlags := 1, code := none }
def k1c1 : Code := { maxStack := 6, maxLocals := 17, code := code, exceptionTable := #[], attributes := #[] }
def k1m1 : Method := { name := "law", desc := "(JIIIII)Z", sig := { parameters := [.long, .int, .int, .int, .int, .int], returnType := some .boolean }, accessFlags := 9, code := some k1c1 }
/-- com/example/tierfuse/tierfuse/format/BitReaderRemainingPinLaw -/
def k1 : Class := { plain "com/example/tierfuse/tierfuse/format/BitReaderRemainingPinLaw" (some 0) with
  accessFlags := 49
  interfaces := #[]
  cf := some (fileOf pool1 23 #[] #[{ accessFlags := 1, nameIndex := 5, descriptorIndex := 6, attributes := #[] }, { accessFlags := 9, nameIndex := 27, descriptorIndex := 28, attributes := #[] }] 49 2 #[] #[])
  fields := #[]
  methods := #[k1m0, k1m1]
  instanceTypes := #[]
  staticTypes := #[]
  resolved := Array.replicate 34 none
  statics := none }

def pool2 : Array CpInfo := pool [(3, .methodref 4 5), (0, .class_ 6), (0, .nameAndType 7 8), (0, u "java/lang/Object"), (0, u "<init>"), (0, u "()V"), (0, .fieldref 10 11), (0, .class_ 12), (0, .nameAndType 13 14), (0, u "com/example/tierfuse/tierfuse/format/BitReader"), (0, u "bytes"), (0, u "[B"), (0, .fieldref 10 16), (0, .nameAndType 17 18), (0, u "next"), (0, u "I"), (0, .fieldref 10 20), (0, .nameAndType 21 18), (0, u "end"), (0, .long 8), (1, .fieldref 10 25), (0, .nameAndType 26 18), (0, u "windowBits"), (0, .methodref 10 28), (0, .nameAndType 29 30), (0, u "take"), (0, u "(I)J"), (0, .methodref 10 32), (0, .nameAndType 33 8), (0, u "fill"), (0, .fieldref 10 35), (0, .nameAndType 36 37), (0, u "window"), (0, u "J"), (2, .methodref 10 41), (0, .nameAndType 42 43), (0, u "skip"), (0, u "(I)V"), (2, u "read"), (4, u "LONGS"), (0, u "Ljava/lang/invoke/VarHandle;"), (11, u "()J"), (29, u "HEAD_BITS"), (2, u "LENGTH_MASK"), (0, u "([BII)V"), (2, u "remaining")] 5

def k2c0 : Code := { maxStack := 2, maxLocals := 4, code := prog_42_method_1_code, exceptionTable := #[], attributes := #[] }
def k2m0 : Method := { name := "<init>", desc := "([BII)V", sig := { parameters := [(.array .byte), .int, .int], returnType := none }, accessFlags := 0, code := some k2c0 }
def k2c1 : Code := { maxStack := 4, maxLocals := 1, code := prog_42_method_2_code, exceptionTable := #[], attributes := #[] }
def k2m1 : Method := { name := "remaining", desc := "()J", sig := { parameters := [], returnType := some .long }, accessFlags := 0, code := some k2c1 }
def k2c2 : Code := { maxStack := 4, maxLocals := 6, code := prog_42_method_3_code, exceptionTable := #[], attributes := #[] }
def k2m2 : Method := { name := "read", desc := "(I)J", sig := { parameters := [.int], returnType := some .long }, accessFlags := 0, code := some k2c2 }
def k2c3 : Code := { maxStack := 4, maxLocals := 4, code := prog_42_method_6_code, exceptionTable := #[], attributes := #[] }
def k2m3 : Method := { name := "take", desc := "(I)J", sig := { parameters := [.int], returnType := some .long }, accessFlags := 2, code := some k2c3 }
def k2c4 : Code := { maxStack := 7, maxLocals := 3, code := prog_42_method_7_code, exceptionTable := #[], attributes := #[] }
def k2m4 : Method := { name := "fill", desc := "()V", sig := { parameters := [], returnType := none }, accessFlags := 2, code := some k2c4 }
def k2c5 : Code := { maxStack := 4, maxLocals := 2, code := prog_42_method_8_code, exceptionTable := #[], attributes := #[] }
def k2m5 : Method := { name := "skip", desc := "(I)V", sig := { parameters := [.int], returnType := none }, accessFlags := 2, code := some k2c5 }
/-- com/example/tierfuse/tierfuse/format/BitReader -/
def k2 : Class := { plain "com/example/tierfuse/tierfuse/format/BitReader" (some 0) with
  accessFlags := 48
  interfaces := #[]
  cf := some (fileOf pool2 10 #[] #[{ accessFlags := 0, nameIndex := 7, descriptorIndex := 98, attributes := #[] }, { accessFlags := 0, nameIndex := 101, descriptorIndex := 64, attributes := #[] }, { accessFlags := 0, nameIndex := 46, descriptorIndex := 30, attributes := #[] }, { accessFlags := 2, nameIndex := 29, descriptorIndex := 30, attributes := #[] }, { accessFlags := 2, nameIndex := 33, descriptorIndex := 8, attributes := #[] }, { accessFlags := 2, nameIndex := 42, descriptorIndex := 43, attributes := #[] }] 48 4 #[] #[{ accessFlags := 26, nameIndex := 94, descriptorIndex := 18, attributes := #[] }, { accessFlags := 26, nameIndex := 97, descriptorIndex := 37, attributes := #[] }, { accessFlags := 26, nameIndex := 51, descriptorIndex := 52, attributes := #[] }, { accessFlags := 18, nameIndex := 13, descriptorIndex := 14, attributes := #[] }, { accessFlags := 18, nameIndex := 21, descriptorIndex := 18, attributes := #[] }, { accessFlags := 2, nameIndex := 17, descriptorIndex := 18, attributes := #[] }, { accessFlags := 2, nameIndex := 36, descriptorIndex := 37, attributes := #[] }, { accessFlags := 2, nameIndex := 26, descriptorIndex := 18, attributes := #[] }])
  fields := #[{ name := "HEAD_BITS", type := .int, accessFlags := 26, slot := 0, constantValue := 0 }, { name := "LENGTH_MASK", type := .long, accessFlags := 26, slot := 1, constantValue := 0 }, { name := "LONGS", type := (.object "java/lang/invoke/VarHandle"), accessFlags := 26, slot := 2, constantValue := 0 }, { name := "bytes", type := (.array .byte), accessFlags := 18, slot := 0, constantValue := 0 }, { name := "end", type := .int, accessFlags := 18, slot := 1, constantValue := 0 }, { name := "next", type := .int, accessFlags := 2, slot := 2, constantValue := 0 }, { name := "window", type := .long, accessFlags := 2, slot := 3, constantValue := 0 }, { name := "windowBits", type := .int, accessFlags := 2, slot := 4, constantValue := 0 }]
  methods := #[k2m0, k2m1, k2m2, k2m3, k2m4, k2m5]
  instanceTypes := #[(.array .byte), .int, .int, .long, .int]
  staticTypes := #[.int, .long, (.object "java/lang/invoke/VarHandle")]
  resolved := Array.replicate 107 none
  statics := none }

def pool3 : Array CpInfo := pool [(1, u "java/lang/Cloneable"), (0, .class_ 1), (0, u "java/lang/Object"), (0, .class_ 3)] 3

/-- java/lang/Cloneable -/
def k3 : Class := { plain "java/lang/Cloneable" (some 0) with
  accessFlags := 1537
  interfaces := #[]
  cf := some (fileOf pool3 2 #[] #[] 1537 4 #[] #[])
  fields := #[]
  methods := #[]
  instanceTypes := #[]
  staticTypes := #[]
  resolved := Array.replicate 8 none
  statics := none }

def pool4 : Array CpInfo := pool [(1, u "java/io/Serializable"), (0, .class_ 1), (0, u "java/lang/Object"), (0, .class_ 3)] 3

/-- java/io/Serializable -/
def k4 : Class := { plain "java/io/Serializable" (some 0) with
  accessFlags := 1537
  interfaces := #[]
  cf := some (fileOf pool4 2 #[] #[] 1537 4 #[] #[])
  fields := #[]
  methods := #[]
  instanceTypes := #[]
  staticTypes := #[]
  resolved := Array.replicate 8 none
  statics := none }

/-- the primitive byte -/
def k5 : Class := { plain "byte" none with kind := .primitive 'B', accessFlags := 0x411 }
/-- [B -/
def k6 : Class := { plain "[B" (some 0) with kind := .array 5 .byte, interfaces := #[3, 4], accessFlags := 1041 }

/-- the primitive int -/
def k7 : Class := { plain "int" none with kind := .primitive 'I', accessFlags := 0x411 }
/-- [I -/
def k8 : Class := { plain "[I" (some 0) with kind := .array 7 .int, interfaces := #[3, 4], accessFlags := 1041 }

def heap : Heap := #[]
def classes : Array Class := #[k0, k1, k2, k3, k4, k5, k6, k7, k8]
def interned : List (Array UInt16 × Addr) := []
def slotsUsed : Nat := 0
def theMethod : MethodId := ⟨1, 1⟩
def args0 : Array Value := #[.long 5, .int 5, .int 5, .int 5, .int 5, .int 5]
def aboutOver (below : List Frame) : State where
  vm := { classes := classes, interned := interned.toArray }
  heap := heap
  slotsUsed := slotsUsed
  threads := #[{ frames := .invoking theMethod args0 :: below }]
def below0 : List Frame := [.native { method := ⟨0, 0⟩, args := #[] }]
def about1 : State := aboutOver below0
def p0 : Program := .bare "" "" ""
def e0 : Env := launch0.env 0 0 0
theorem w_frames : about1.frames = Frame.invoking theMethod args0 :: below0 := rfl
set_option maxRecDepth 65536 in
theorem w_args : argsFit about1.vm theMethod args0 = true := by decide +kernel
set_option maxRecDepth 65536 in
theorem w_heap : heapFits about1 = true := by decide +kernel
set_option maxRecDepth 65536 in
theorem w_runnable : about1.curStatus? = some .runnable := by decide +kernel
set_option maxRecDepth 65536 in
theorem w_alone : about1.alone = true := by decide +kernel
set_option maxRecDepth 65536 in
theorem w_named : about1.methodNamed? x = some theMethod := by decide +kernel
set_option maxRecDepth 65536 in
theorem w_hears : about1.hears theMethod below0 = true := by decide +kernel
set_option maxRecDepth 65536 in
theorem w_ripe : about1.ripe theMethod args0 below0 = true := by decide +kernel
theorem w_running : about1.status = .running := rfl
set_option maxRecDepth 65536 in
theorem w_room : about1.hasRoom e0.platform room_1 = true :=
  launch0.hasRoom_least _ room_1 (by decide +kernel) (by decide +kernel) (by decide +kernel) (by decide +kernel) (by decide +kernel) (by decide +kernel)
theorem allAtoms_all (ts : List Jvm.Cond) (a : Array Jvm.Value) (st : Jvm.State) : (allAtoms ts).before a st = ts.all (fun c => c.before a st) := by
  induction ts with
  | nil => rfl
  | cons c t ih =>
    show (Jvm.Cond.and c (allAtoms t)).before a st = _
    rw [Jvm.Cond.before_and, ih, List.all_cons]
def words1 : List Jvm.Cond := Jvm.Cond.code x code maxLocals ret :: tables_1
/-- a 'code' word, met by the world's own term for the bytes: nothing is compared byte by byte -/
theorem code_word {y : MethodName} {bytes : ByteArray} {mx : Nat} {rt : Option FieldType} {a : Array Value} {s : State} {m : MethodId} {meth : Method} {c : Code} (h1 : s.methodNamed? y = some m) (h2 : s.vm.method? m = some meth) (h3 : meth.code = some c) (h4 : c.code = bytes)
    (h5 : (c.maxLocals == mx && c.exceptionTable.isEmpty && decide (c.maxStack ≤ mostOperands) && decide (meth.sig.returnType = rt) && !meth.locks && decide (parseMethodDescriptor y.desc = some meth.sig)) = true) : (Jvm.Cond.code y bytes mx rt).before a s = true := by
  simp only [Bool.and_eq_true, beq_iff_eq, Bool.not_eq_true', decide_eq_true_eq] at h5
  obtain ⟨⟨⟨⟨⟨g1, g2⟩, g3⟩, g4⟩, g5⟩, g6⟩ := h5
  simp [Cond.before, Cond.holds, Cond.value, h1, h2, h3, h4, g1, g2, g3, g4, g5, g6]
def isCode : Jvm.Cond → Bool
  | .code _ _ _ _ => true
  | _ => false
theorem all_split {L : List Jvm.Cond} {P : Jvm.Cond → Bool} (h1 : L.all (fun c => isCode c || P c) = true) (h2 : ∀ c ∈ L.filter isCode, P c = true) : L.all P = true := by
  refine List.all_eq_true.mpr fun c hc => ?_
  have h := List.all_eq_true.mp h1 c hc
  rcases Bool.eq_false_or_eq_true (isCode c) with hi | hi
  · exact h2 c (List.mem_filter.mpr ⟨hc, hi⟩)
  · simpa [hi] using h
set_option maxRecDepth 65536 in
theorem w_c0 : (Jvm.Cond.code x code maxLocals ret).before args0 about1 = true := code_word (m := ⟨1, 1⟩) (meth := k1m1) (c := k1c1) (by decide +kernel) rfl rfl rfl (by decide +kernel)
set_option maxRecDepth 65536 in
theorem w_c1 : (Jvm.Cond.code ({ cls := "com/example/tierfuse/tierfuse/format/BitReader", name := "<init>", desc := "([BII)V" } : Jvm.MethodName) prog_42_method_1_code (4 : Nat) (Option.none : Option Jvm.ClassFile.FieldType)).before args0 about1 = true := code_word (m := ⟨2, 0⟩) (meth := k2m0) (c := k2c0) (by decide +kernel) rfl rfl rfl (by decide +kernel)
set_option maxRecDepth 65536 in
theorem w_c2 : (Jvm.Cond.code ({ cls := "java/lang/Object", name := "<init>", desc := "()V" } : Jvm.MethodName) object_method_1_code (1 : Nat) (Option.none : Option Jvm.ClassFile.FieldType)).before args0 about1 = true := code_word (m := ⟨0, 0⟩) (meth := k0m0) (c := k0c0) (by decide +kernel) rfl rfl rfl (by decide +kernel)
set_option maxRecDepth 65536 in
theorem w_c3 : (Jvm.Cond.code ({ cls := "com/example/tierfuse/tierfuse/format/BitReader", name := "remaining", desc := "()J" } : Jvm.MethodName) prog_42_method_2_code (1 : Nat) (Option.some Jvm.ClassFile.FieldType.long)).before args0 about1 = true := code_word (m := ⟨2, 1⟩) (meth := k2m1) (c := k2c1) (by decide +kernel) rfl rfl rfl (by decide +kernel)
set_option maxRecDepth 65536 in
theorem w_c4 : (Jvm.Cond.code ({ cls := "com/example/tierfuse/tierfuse/format/BitReader", name := "read", desc := "(I)J" } : Jvm.MethodName) prog_42_method_3_code (6 : Nat) (Option.some Jvm.ClassFile.FieldType.long)).before args0 about1 = true := code_word (m := ⟨2, 2⟩) (meth := k2m2) (c := k2c2) (by decide +kernel) rfl rfl rfl (by decide +kernel)
set_option maxRecDepth 65536 in
theorem w_c5 : (Jvm.Cond.code ({ cls := "com/example/tierfuse/tierfuse/format/BitReader", name := "take", desc := "(I)J" } : Jvm.MethodName) prog_42_method_6_code (4 : Nat) (Option.some Jvm.ClassFile.FieldType.long)).before args0 about1 = true := code_word (m := ⟨2, 3⟩) (meth := k2m3) (c := k2c3) (by decide +kernel) rfl rfl rfl (by decide +kernel)
set_option maxRecDepth 65536 in
theorem w_c6 : (Jvm.Cond.code ({ cls := "com/example/tierfuse/tierfuse/format/BitReader", name := "fill", desc := "()V" } : Jvm.MethodName) prog_42_method_7_code (3 : Nat) (Option.none : Option Jvm.ClassFile.FieldType)).before args0 about1 = true := code_word (m := ⟨2, 4⟩) (meth := k2m4) (c := k2c4) (by decide +kernel) rfl rfl rfl (by decide +kernel)
set_option maxRecDepth 65536 in
theorem w_c7 : (Jvm.Cond.code ({ cls := "com/example/tierfuse/tierfuse/format/BitReader", name := "skip", desc := "(I)V" } : Jvm.MethodName) prog_42_method_8_code (2 : Nat) (Option.none : Option Jvm.ClassFile.FieldType)).before args0 about1 = true := code_word (m := ⟨2, 5⟩) (meth := k2m5) (c := k2c5) (by decide +kernel) rfl rfl rfl (by decide +kernel)
def codes1 : List Jvm.Cond := [Jvm.Cond.code x code maxLocals ret, Jvm.Cond.code ({ cls := "com/example/tierfuse/tierfuse/format/BitReader", name := "<init>", desc := "([BII)V" } : Jvm.MethodName) prog_42_method_1_code (4 : Nat) (Option.none : Option Jvm.ClassFile.FieldType), Jvm.Cond.code ({ cls := "java/lang/Object", name := "<init>", desc := "()V" } : Jvm.MethodName) object_method_1_code (1 : Nat) (Option.none : Option Jvm.ClassFile.FieldType), Jvm.Cond.code ({ cls := "com/example/tierfuse/tierfuse/format/BitReader", name := "remaining", desc := "()J" } : Jvm.MethodName) prog_42_method_2_code (1 : Nat) (Option.some Jvm.ClassFile.FieldType.long), Jvm.Cond.code ({ cls := "com/example/tierfuse/tierfuse/format/BitReader", name := "read", desc := "(I)J" } : Jvm.MethodName) prog_42_method_3_code (6 : Nat) (Option.some Jvm.ClassFile.FieldType.long), Jvm.Cond.code ({ cls := "com/example/tierfuse/tierfuse/format/BitReader", name := "take", desc := "(I)J" } : Jvm.MethodName) prog_42_method_6_code (4 : Nat) (Option.some Jvm.ClassFile.FieldType.long), Jvm.Cond.code ({ cls := "com/example/tierfuse/tierfuse/format/BitReader", name := "fill", desc := "()V" } : Jvm.MethodName) prog_42_method_7_code (3 : Nat) (Option.none : Option Jvm.ClassFile.FieldType), Jvm.Cond.code ({ cls := "com/example/tierfuse/tierfuse/format/BitReader", name := "skip", desc := "(I)V" } : Jvm.MethodName) prog_42_method_8_code (2 : Nat) (Option.none : Option Jvm.ClassFile.FieldType)]
set_option maxRecDepth 65536 in
theorem codes_eq : words1.filter isCode = codes1 := rfl
theorem w_codes : ∀ c ∈ words1.filter isCode, c.before args0 about1 = true := by
  rw [codes_eq]
  intro c hc
  simp only [codes1, List.mem_cons, List.not_mem_nil, or_false] at hc
  rcases hc with rfl | rfl | rfl | rfl | rfl | rfl | rfl | rfl
  · exact w_c0
  · exact w_c1
  · exact w_c2
  · exact w_c3
  · exact w_c4
  · exact w_c5
  · exact w_c6
  · exact w_c7
set_option maxRecDepth 65536 in
theorem w_t1 : (words1.take 24).all (fun c => isCode c || c.before args0 about1) = true := by decide +kernel
set_option maxRecDepth 65536 in
theorem w_t2 : (words1.drop 24).all (fun c => isCode c || c.before args0 about1) = true := by decide +kernel
theorem w_tables : (allAtoms (Jvm.Cond.code x code maxLocals ret :: tables_1)).before args0 about1 = true := by
  rw [allAtoms_all]
  show words1.all (fun c => c.before args0 about1) = true
  refine all_split ?_ w_codes
  rw [← List.take_append_drop 24 words1, List.all_append, w_t1, w_t2]
  rfl
set_option maxRecDepth 65536 in
theorem w_case : (Jvm.Cond.and given_1 narrow_1).before args0 about1 = true := by decide +kernel
theorem w_applies : (headSpec (Jvm.Cond.code x code maxLocals ret :: tables_1) room_1).applies x e0.platform about1 = true :=
  (Spec.applies_iff w_frames).mpr ⟨w_running, w_runnable, w_alone, w_named, w_hears, w_ripe, w_room, w_tables⟩
theorem atStart : AtStart classFile x code maxLocals ret World_1 tables_1 room_1 Calls_1 rest_1 Pre_1 launch0 p0 e0 about1 theMethod args0 below0 :=
  ⟨lists_1, trivial, launch0.admits_env _ _ _, launch0.least_env, fairChoices_fair.cas, fairChoices_fair.clock, w_frames, w_args, w_heap, w_applies, trivial, trivial, w_case⟩
end start1
theorem witness_1 : WitnessClaimed_1 := ⟨start1.p0, start1.e0, start1.about1, start1.theMethod, start1.args0, start1.below0, start1.atStart⟩
end Jvm.Pilot.@@N@@
