import JvmDerived
import JvmDerived.Pilot.@@N@@Statement
import JvmDerived.Pilot.@@N@@Code
set_option linter.unusedVariables false
set_option linter.unusedSimpArgs false
namespace Jvm.RoadKit
open Sem ClassFile Op Lib Jvm.Stand Jvm.Free Jvm.LawKit
section New
variable {p : Program} {l : Launch} {e : Env} {R : Room} {s : State} {m : MethodId} {args : Array Value} {below : List Frame} {meth : Method} {c : Code} {T : State} {locs : List Loc} {cells slots : Nat}
theorem retI (X : Stand p l e R s m args below meth c T locs cells slots) (hx : p.tables.exec = Jvm.exec) {pc : Nat} {Ls : Array Slot} {z : Int32} {rest : List Value} (hret : meth.sig.returnType = some .int) (hd : decode c.code pc = .ok (.ireturn, 1)) {fs : List Frame}
    (hl : ∀ (f : JFrame) (acts : List Action), f.method = m → f.locked = none → f.entered = [] → (doReturn e (T.setTop f) acts (some (.int z))).1 = T.setFrames fs) : Steps p.tables e below (T.setTop (mkF m pc Ls (.int z :: rest))) (T.setFrames fs) := by
  have hm' : T.vm.method? m = some meth := X.method'
  have hn : narrow .int (.int z) = .int z := rfl
  show Steps p.tables e below (T.setTop { method := m, pc := pc, locals := Ls, stack := _ :: rest, locked := none }) _
  jvm_step X.here [X.here.top, hx, hd, hm', hret, hn]
  first | (intro acts; rw [hl _ acts rfl rfl rfl]) | rw [hl _ _ rfl rfl rfl]
  exact Steps.refl _
end New
end Jvm.RoadKit
namespace Jvm.Pilot.@@N@@
open Jvm Jvm.ClassFile Sem Op Lib Jvm.Free Jvm.Stand Jvm.LawKit Jvm.RoadKit Bundle Jvm.Pilot.@@N@@.Jvm.D
theorem own_selpriv {s : State} {args : Array Value} {y y' : MethodName} (hcls : y'.cls = y.cls) (h : (Cond.selects y'.cls y' y').before args s = true) (hpriv : s.PrivateAt y) (hinst : (Cond.instanceMethod y).before args s = true) (hy : y.cls ≠ "java/lang/invoke/MethodHandle" ∧ y.cls ≠ "java/lang/invoke/VarHandle") : (Cond.selects y.cls y y).before args s = true := by
  obtain ⟨c2, r2, m2, -, -, q3, -, kP, hkP, hkPi⟩ := Cond.selects_spec h
  have hc := findClass_of_methodNamed q3
  rw [hcls] at hc
  exact selects_self_of_private hc hkP hkPi hpriv hinst hy
theorem pn_0 : plainName "org/wayfold/search/Steps" = true := by first | (simp [plainName, overriddenIn]; done) | decide +kernel
theorem pn_1 : plainName "org/wayfold/search/StepsClearPinLaw" = true := by first | (simp [plainName, overriddenIn]; done) | decide +kernel
theorem pd_0 : parseMethodDescriptor "(I)I" = some ⟨[.int], some .int⟩ := by decide +kernel
theorem pd_1 : parseMethodDescriptor "(DD)D" = some ⟨[.double, .double], some .double⟩ := by decide +kernel
theorem pd_2 : parseMethodDescriptor "()V" = some ⟨[], none⟩ := by decide +kernel
theorem pd_3 : parseMethodDescriptor "(J)V" = some ⟨[.long], none⟩ := by decide +kernel
theorem pd_4 : parseMethodDescriptor "()I" = some ⟨[], some .int⟩ := by decide +kernel
theorem pd_5 : parseMethodDescriptor "()J" = some ⟨[], some .long⟩ := by decide +kernel
theorem pd_6 : parseMethodDescriptor "(ID)V" = some ⟨[.int, .double], none⟩ := by decide +kernel
theorem pd_7 : parseMethodDescriptor "(I)D" = some ⟨[.int], some .double⟩ := by decide +kernel
theorem own_and0 (x : Int64) : ((0 : Int64) &&& x) = (0 : Int64) := by
  refine Int64.toBitVec_inj.mp ?_
  rw [Int64.toBitVec_and]
  show 0#64 &&& _ = 0#64
  exact BitVec.zero_and
theorem d1_0 : decode prog_104_method_1_code 0 = .ok (.aload_n 0, 1) := by decide +kernel
theorem d1_1 : decode prog_104_method_1_code 1 = .ok (.invokespecial 1, 3) := by decide +kernel
theorem d1_4 : decode prog_104_method_1_code 4 = .ok (.aload_n 0, 1) := by decide +kernel
theorem d1_5 : decode prog_104_method_1_code 5 = .ok (.bipush 16, 2) := by decide +kernel
theorem d1_7 : decode prog_104_method_1_code 7 = .ok (.newarray .int, 2) := by decide +kernel
theorem d1_9 : decode prog_104_method_1_code 9 = .ok (.putfield 7, 3) := by decide +kernel
theorem d1_12 : decode prog_104_method_1_code 12 = .ok (.aload_n 0, 1) := by decide +kernel
theorem d1_13 : decode prog_104_method_1_code 13 = .ok (.bipush 16, 2) := by decide +kernel
theorem d1_15 : decode prog_104_method_1_code 15 = .ok (.newarray .double, 2) := by decide +kernel
theorem d1_17 : decode prog_104_method_1_code 17 = .ok (.putfield 13, 3) := by decide +kernel
theorem d1_20 : decode prog_104_method_1_code 20 = .ok (.aload_n 0, 1) := by decide +kernel
theorem d1_21 : decode prog_104_method_1_code 21 = .ok (.iconst 0, 1) := by decide +kernel
theorem d1_22 : decode prog_104_method_1_code 22 = .ok (.newarray .int, 2) := by decide +kernel
theorem d1_24 : decode prog_104_method_1_code 24 = .ok (.putfield 17, 3) := by decide +kernel
theorem d1_27 : decode prog_104_method_1_code 27 = .ok (.aload_n 0, 1) := by decide +kernel
theorem d1_28 : decode prog_104_method_1_code 28 = .ok (.bipush 16, 2) := by decide +kernel
theorem d1_30 : decode prog_104_method_1_code 30 = .ok (.newarray .int, 2) := by decide +kernel
theorem d1_32 : decode prog_104_method_1_code 32 = .ok (.putfield 20, 3) := by decide +kernel
theorem d1_35 : decode prog_104_method_1_code 35 = .ok (.return_, 1) := by decide +kernel
theorem ef_1 (m : MethodId) (x0 : Addr) : entryFrame m #[(.ref x0)] 1 = (mkF m 0 #[.val (.ref x0)] []) := by first | (simp [entryFrame, mkF, argsToLocals, Value.category]; done) | rfl
def Q1 (Z : State) (a : Addr) (h0 : Heap) (n0 : Nat) (vX : Option Value) (hX : Heap) (lX : List Loc) : Prop := ∃ (b1 : Addr) (b2 : Addr) (k1 : ClassId) (k2 : ClassId), vX = none ∧ Fr n0 lX ∧ (Keep h0 hX [a]) ∧ (Fld Z hX a "org/wayfold/search/Steps" "vertices" "[I" (.ref b1)) ∧ (Fld Z hX a "org/wayfold/search/Steps" "costs" "[D" (.ref b2)) ∧ (Fld Z hX a "org/wayfold/search/Steps" "size" "I" (.int (0 : Int32))) ∧ (Fld Z hX a "org/wayfold/search/Steps" "seen" "J" (.long (0 : Int64))) ∧ (Fld Z hX a "org/wayfold/search/Steps" "hashed" "Z" (.int (0 : Int32))) ∧ (Fld Z hX a "org/wayfold/search/Steps" "arcsRead" "J" (.long (0 : Int64))) ∧ (Arv Z hX b1 k1 .int (16 : Int32) [(.int (0 : Int32)), (.int (0 : Int32)), (.int (0 : Int32)), (.int (0 : Int32)), (.int (0 : Int32)), (.int (0 : Int32)), (.int (0 : Int32)), (.int (0 : Int32)), (.int (0 : Int32)), (.int (0 : Int32)), (.int (0 : Int32)), (.int (0 : Int32)), (.int (0 : Int32)), (.int (0 : Int32)), (.int (0 : Int32)), (.int (0 : Int32))] (.int (0 : Int32))) ∧ (Arv Z hX b2 k2 .double (16 : Int32) [(.double (0 : UInt64)), (.double (0 : UInt64)), (.double (0 : UInt64)), (.double (0 : UInt64)), (.double (0 : UInt64)), (.double (0 : UInt64)), (.double (0 : UInt64)), (.double (0 : UInt64)), (.double (0 : UInt64)), (.double (0 : UInt64)), (.double (0 : UInt64)), (.double (0 : UInt64)), (.double (0 : UInt64)), (.double (0 : UInt64)), (.double (0 : UInt64)), (.double (0 : UInt64))] (.double (0 : UInt64))) ∧ (h0.size ≤ b1) ∧ (h0.size ≤ b2) ∧ (a ≠ b1) ∧ (a ≠ b2) ∧ (b1 ≠ b2)
set_option maxRecDepth 65536 in
set_option maxHeartbeats 40000000 in
theorem rm1 (l : Launch) (Z : State) (a0 : Array Value) (hw : ∀ d ∈ tables_1, d.before a0 Z = true) (ws : List Jvm.Cond) (a : Addr) (h0 : Heap) (n0 : Nat) (Z0 : n0 ≤ h0.size) (pr0 : Exa Z h0 a "org/wayfold/search/Steps") (pr1 : Fld Z h0 a "org/wayfold/search/Steps" "vertices" "[I" .null) (pr2 : Fld Z h0 a "org/wayfold/search/Steps" "costs" "[D" .null) (pr3 : Fld Z h0 a "org/wayfold/search/Steps" "slots" "[I" .null) (pr4 : Fld Z h0 a "org/wayfold/search/Steps" "slotOf" "[I" .null) (pr5 : Fld Z h0 a "org/wayfold/search/Steps" "size" "I" (.int (0 : Int32))) (pr6 : Fld Z h0 a "org/wayfold/search/Steps" "seen" "J" (.long (0 : Int64))) (pr7 : Fld Z h0 a "org/wayfold/search/Steps" "hashed" "Z" (.int (0 : Int32))) (pr8 : Fld Z h0 a "org/wayfold/search/Steps" "arcsRead" "J" (.long (0 : Int64))) (pr9 : n0 ≤ a) :
    MetFree l (⟨"org/wayfold/search/Steps", "<init>", "()V"⟩ : MethodName) (head1 (Jvm.Cond.code (⟨"org/wayfold/search/Steps", "<init>", "()V"⟩ : MethodName) prog_104_method_1_code 1 none :: ws) ({ frames := 1, cells := 4, slots := 48, locals := 12 } : Room)) (fun aX uX => aX = #[(.ref a)] ∧ Z.Warmed39 uX.vm ∧ uX.heap = h0) (fun _ _ _ _ _ => True) (fun _ uX oX wX => ∃ vX lX, oX = .returned vX ∧ Q1 Z a h0 n0 vX wX.heap lX ∧ FrameEnd uX oX wX lX ({ frames := 1, cells := 4, slots := 48, locals := 12 } : Room).cells ({ frames := 1, cells := 4, slots := 48, locals := 12 } : Room).slots) := by
  refine MetFree.of_bodySF (plainFor_of_name pn_0) hisR ?_
  intro p e s m args below meth c s₁ Bd hml0 hP hK
  obtain ⟨rfl, hZ, hh⟩ := hP
  have hx := Bd.exec
  have hby := Bd.bytes
  have hml : c.maxLocals = 1 := hml0
  have hown : s.vm.findClass "org/wayfold/search/Steps" = some m.cls := findClass_of_methodNamed Bd.named
  have hnm := (name_of_methodNamed Bd.named Bd.method).1
  have X0 : Stand p l e ({ frames := 1, cells := 4, slots := 48, locals := 12 } : Room) s m #[(.ref a)] below meth c s₁ [] 0 0 := Stand.of_body Bd
  have e0 : s₁.heap = h0 := by rw [← hh, Bd.state]; rfl
  have N0 := Fr.nil n0
  have pre0 : ∀ t, Steps p.tables e below (s₁.setTop (mkF m 0 #[.val (.ref a)] [])) t → Steps p.tables e below (s₁.setTop (entryFrame m #[(.ref a)] 1)) t := fun t k => castTop (ef_1 m a) k
  obtain ⟨T1, X1, e1, st1⟩ := initO X0 hx hZ hown (hw _ (List.mem_of_getElem? (i := 6) rfl)) (hw _ (List.mem_of_getElem? (i := 7) rfl)) (hw _ (List.mem_of_getElem? (i := 8) rfl)) e0 (g := (mkF m 1 #[.val (.ref a)] [(.ref a)])) rfl (by rw [hml]; rfl) rfl (hb hby d1_1) (by decide) (W := 0) (by show 2 * 0 + _ ≤ _; exact Nat.le_of_eq rfl) (by decide)
  obtain ⟨T2, h2, k2, X2, e2, E2, A2, st2⟩ := newP X1 hx hZ (hw _ (List.mem_of_getElem? (i := 9) rfl)) e1 (g := (mkF m 7 #[.val (.ref a)] [(.int (16 : Int32)), (.ref a)])) rfl (hb hby d1_7) rfl (by decide) (cap := 16) (by decide) (by decide) (by decide) (by decide)
  obtain ⟨b2, g_b2⟩ : ∃ z, z = h0.size := ⟨_, rfl⟩
  rw [← g_b2] at A2 st2
  have ne_a_b2 : a ≠ b2 := Nat.ne_of_lt (Nat.lt_of_lt_of_le pr0.lt (Nat.le_of_eq g_b2.symm))
  have ge_b2 : n0 ≤ b2 := Nat.le_trans Z0 (Nat.le_of_eq g_b2.symm)
  have sz_b2 : h0.size ≤ b2 := Nat.le_trans (Keep.refl h0 [a]).1 (Nat.le_of_eq g_b2.symm)
  have V2 : Arv Z h2 b2 k2 .int (16 : Int32) [(.int (0 : Int32)), (.int (0 : Int32)), (.int (0 : Int32)), (.int (0 : Int32)), (.int (0 : Int32)), (.int (0 : Int32)), (.int (0 : Int32)), (.int (0 : Int32)), (.int (0 : Int32)), (.int (0 : Int32)), (.int (0 : Int32)), (.int (0 : Int32)), (.int (0 : Int32)), (.int (0 : Int32)), (.int (0 : Int32)), (.int (0 : Int32))] (.int (0 : Int32)) := (Arv.new A2 (by decide)).pad (pad_rep [] (.int (0 : Int32)) 16)
  have f3 := (Exa.ext E2 pr0)
  have f4 := (Fld.ext E2 pr1)
  obtain ⟨T5, h5, X5, e5, W5, st5⟩ := putF X2 hx hZ hown (host := "") (Or.inl (hw _ (List.mem_of_getElem? (i := 10) rfl))) Via.refl e2 f4 f3 (Or.inl (hw _ (List.mem_of_getElem? (i := 11) rfl))) (hw _ (List.mem_of_getElem? (i := 1) rfl)) (ty := (.array .int)) (by decide) rfl rfl (g := (mkF m 9 #[.val (.ref a)] [(.ref b2), (.ref a)])) rfl rfl (hb hby d1_9)
  have N5 := Fr.snoc X5 N0 pr9
  have Fw5 := Fld.same W5 f4
  obtain ⟨T6, h6, k6, X6, e6, E6, A6, st6⟩ := newP X5 hx hZ (hw _ (List.mem_of_getElem? (i := 12) rfl)) e5 (g := (mkF m 15 #[.val (.ref a)] [(.int (16 : Int32)), (.ref a)])) rfl (hb hby d1_15) rfl (by decide) (cap := 16) (by decide) (by decide) (by decide) (by decide)
  have f7 := (Exa.wr W5 f3)
  have f8 := (V2.other W5 (Ne.symm ne_a_b2))
  have z9 : n0 ≤ _ := (Nat.le_trans (Nat.le_trans Z0 E2.1) (Keep.of_wr W5).1)
  have k10 : Keep h0 h5 [a] := (Keep.wr (Keep.ext (Keep.refl h0 [a]) E2) W5 (Or.inl (List.mem_of_getElem? (i := 0) rfl)))
  obtain ⟨b6, g_b6⟩ : ∃ z, z = h5.size := ⟨_, rfl⟩
  rw [← g_b6] at A6 st6
  have ne_a_b6 : a ≠ b6 := Nat.ne_of_lt (Nat.lt_of_lt_of_le f7.lt (Nat.le_of_eq g_b6.symm))
  have ne_b2_b6 : b2 ≠ b6 := Nat.ne_of_lt (Nat.lt_of_lt_of_le f8.lt (Nat.le_of_eq g_b6.symm))
  have ge_b6 : n0 ≤ b6 := Nat.le_trans z9 (Nat.le_of_eq g_b6.symm)
  have sz_b6 : h0.size ≤ b6 := Nat.le_trans k10.1 (Nat.le_of_eq g_b6.symm)
  have V6 : Arv Z h6 b6 k6 .double (16 : Int32) [(.double (0 : UInt64)), (.double (0 : UInt64)), (.double (0 : UInt64)), (.double (0 : UInt64)), (.double (0 : UInt64)), (.double (0 : UInt64)), (.double (0 : UInt64)), (.double (0 : UInt64)), (.double (0 : UInt64)), (.double (0 : UInt64)), (.double (0 : UInt64)), (.double (0 : UInt64)), (.double (0 : UInt64)), (.double (0 : UInt64)), (.double (0 : UInt64)), (.double (0 : UInt64))] (.double (0 : UInt64)) := (Arv.new A6 (by decide)).pad (pad_rep [] (.double (0 : UInt64)) 16)
  have f11 := (Exa.ext E6 f7)
  have f12 := (Fld.ext E6 (Fld.other W5 (Fld.ext E2 pr2) (Or.inr (slot_ne (Or.inl (hw _ (List.mem_of_getElem? (i := 14) rfl))) (Or.inl (hw _ (List.mem_of_getElem? (i := 11) rfl))) (by decide) (t := (.array .double)) (t' := (.array .int)) (by decide) (by decide)))))
  obtain ⟨T13, h13, X13, e13, W13, st13⟩ := putF X6 hx hZ hown (host := "") (Or.inl (hw _ (List.mem_of_getElem? (i := 13) rfl))) Via.refl e6 f12 f11 (Or.inl (hw _ (List.mem_of_getElem? (i := 14) rfl))) (hw _ (List.mem_of_getElem? (i := 1) rfl)) (ty := (.array .double)) (by decide) rfl rfl (g := (mkF m 17 #[.val (.ref a)] [(.ref b6), (.ref a)])) rfl rfl (hb hby d1_17)
  have N13 := Fr.snoc X13 N5 pr9
  have Fw13 := Fld.same W13 f12
  obtain ⟨T14, h14, k14, X14, e14, E14, A14, st14⟩ := newP X13 hx hZ (hw _ (List.mem_of_getElem? (i := 9) rfl)) e13 (g := (mkF m 22 #[.val (.ref a)] [(.int (0 : Int32)), (.ref a)])) rfl (hb hby d1_22) rfl (by decide) (cap := 0) (by decide) (by decide) (by decide) (by decide)
  have f15 := (Exa.wr W13 f11)
  have f16 := ((f8.ext E6).other W13 (Ne.symm ne_a_b2))
  have f17 := (V6.other W13 (Ne.symm ne_a_b6))
  have z18 : n0 ≤ _ := (Nat.le_trans (Nat.le_trans z9 E6.1) (Keep.of_wr W13).1)
  have k19 : Keep h0 h13 [a] := (Keep.wr (Keep.ext k10 E6) W13 (Or.inl (List.mem_of_getElem? (i := 0) rfl)))
  obtain ⟨b14, g_b14⟩ : ∃ z, z = h13.size := ⟨_, rfl⟩
  rw [← g_b14] at A14 st14
  have ne_a_b14 : a ≠ b14 := Nat.ne_of_lt (Nat.lt_of_lt_of_le f15.lt (Nat.le_of_eq g_b14.symm))
  have ne_b2_b14 : b2 ≠ b14 := Nat.ne_of_lt (Nat.lt_of_lt_of_le f16.lt (Nat.le_of_eq g_b14.symm))
  have ne_b6_b14 : b6 ≠ b14 := Nat.ne_of_lt (Nat.lt_of_lt_of_le f17.lt (Nat.le_of_eq g_b14.symm))
  have ge_b14 : n0 ≤ b14 := Nat.le_trans z18 (Nat.le_of_eq g_b14.symm)
  have sz_b14 : h0.size ≤ b14 := Nat.le_trans k19.1 (Nat.le_of_eq g_b14.symm)
  have V14 : Arv Z h14 b14 k14 .int (0 : Int32) [] (.int (0 : Int32)) := (Arv.new A14 (by decide)).pad (pad_rep [] (.int (0 : Int32)) 0)
  have f20 := (Exa.ext E14 f15)
  have f21 := (Fld.ext E14 (Fld.other W13 (Fld.ext E6 (Fld.other W5 (Fld.ext E2 pr3) (Or.inr (slot_ne (Or.inl (hw _ (List.mem_of_getElem? (i := 16) rfl))) (Or.inl (hw _ (List.mem_of_getElem? (i := 11) rfl))) (by decide) (t := (.array .int)) (t' := (.array .int)) (by decide) (by decide))))) (Or.inr (slot_ne (Or.inl (hw _ (List.mem_of_getElem? (i := 16) rfl))) (Or.inl (hw _ (List.mem_of_getElem? (i := 14) rfl))) (by decide) (t := (.array .int)) (t' := (.array .double)) (by decide) (by decide)))))
  obtain ⟨T22, h22, X22, e22, W22, st22⟩ := putF X14 hx hZ hown (host := "") (Or.inl (hw _ (List.mem_of_getElem? (i := 15) rfl))) Via.refl e14 f21 f20 (Or.inl (hw _ (List.mem_of_getElem? (i := 16) rfl))) (hw _ (List.mem_of_getElem? (i := 1) rfl)) (ty := (.array .int)) (by decide) rfl rfl (g := (mkF m 24 #[.val (.ref a)] [(.ref b14), (.ref a)])) rfl rfl (hb hby d1_24)
  have N22 := Fr.snoc X22 N13 pr9
  have Fw22 := Fld.same W22 f21
  obtain ⟨T23, h23, k23, X23, e23, E23, A23, st23⟩ := newP X22 hx hZ (hw _ (List.mem_of_getElem? (i := 9) rfl)) e22 (g := (mkF m 30 #[.val (.ref a)] [(.int (16 : Int32)), (.ref a)])) rfl (hb hby d1_30) rfl (by decide) (cap := 16) (by decide) (by decide) (by decide) (by decide)
  have f24 := (Exa.wr W22 f20)
  have f25 := ((f16.ext E14).other W22 (Ne.symm ne_a_b2))
  have f26 := ((f17.ext E14).other W22 (Ne.symm ne_a_b6))
  have f27 := (V14.other W22 (Ne.symm ne_a_b14))
  have z28 : n0 ≤ _ := (Nat.le_trans (Nat.le_trans z18 E14.1) (Keep.of_wr W22).1)
  have k29 : Keep h0 h22 [a] := (Keep.wr (Keep.ext k19 E14) W22 (Or.inl (List.mem_of_getElem? (i := 0) rfl)))
  obtain ⟨b23, g_b23⟩ : ∃ z, z = h22.size := ⟨_, rfl⟩
  rw [← g_b23] at A23 st23
  have ne_a_b23 : a ≠ b23 := Nat.ne_of_lt (Nat.lt_of_lt_of_le f24.lt (Nat.le_of_eq g_b23.symm))
  have ne_b2_b23 : b2 ≠ b23 := Nat.ne_of_lt (Nat.lt_of_lt_of_le f25.lt (Nat.le_of_eq g_b23.symm))
  have ne_b6_b23 : b6 ≠ b23 := Nat.ne_of_lt (Nat.lt_of_lt_of_le f26.lt (Nat.le_of_eq g_b23.symm))
  have ne_b14_b23 : b14 ≠ b23 := Nat.ne_of_lt (Nat.lt_of_lt_of_le f27.lt (Nat.le_of_eq g_b23.symm))
  have ge_b23 : n0 ≤ b23 := Nat.le_trans z28 (Nat.le_of_eq g_b23.symm)
  have sz_b23 : h0.size ≤ b23 := Nat.le_trans k29.1 (Nat.le_of_eq g_b23.symm)
  have V23 : Arv Z h23 b23 k23 .int (16 : Int32) [(.int (0 : Int32)), (.int (0 : Int32)), (.int (0 : Int32)), (.int (0 : Int32)), (.int (0 : Int32)), (.int (0 : Int32)), (.int (0 : Int32)), (.int (0 : Int32)), (.int (0 : Int32)), (.int (0 : Int32)), (.int (0 : Int32)), (.int (0 : Int32)), (.int (0 : Int32)), (.int (0 : Int32)), (.int (0 : Int32)), (.int (0 : Int32))] (.int (0 : Int32)) := (Arv.new A23 (by decide)).pad (pad_rep [] (.int (0 : Int32)) 16)
  have f30 := (Exa.ext E23 f24)
  have f31 := (Fld.ext E23 (Fld.other W22 (Fld.ext E14 (Fld.other W13 (Fld.ext E6 (Fld.other W5 (Fld.ext E2 pr4) (Or.inr (slot_ne (Or.inl (hw _ (List.mem_of_getElem? (i := 18) rfl))) (Or.inl (hw _ (List.mem_of_getElem? (i := 11) rfl))) (by decide) (t := (.array .int)) (t' := (.array .int)) (by decide) (by decide))))) (Or.inr (slot_ne (Or.inl (hw _ (List.mem_of_getElem? (i := 18) rfl))) (Or.inl (hw _ (List.mem_of_getElem? (i := 14) rfl))) (by decide) (t := (.array .int)) (t' := (.array .double)) (by decide) (by decide))))) (Or.inr (slot_ne (Or.inl (hw _ (List.mem_of_getElem? (i := 18) rfl))) (Or.inl (hw _ (List.mem_of_getElem? (i := 16) rfl))) (by decide) (t := (.array .int)) (t' := (.array .int)) (by decide) (by decide)))))
  obtain ⟨T32, h32, X32, e32, W32, st32⟩ := putF X23 hx hZ hown (host := "") (Or.inl (hw _ (List.mem_of_getElem? (i := 17) rfl))) Via.refl e23 f31 f30 (Or.inl (hw _ (List.mem_of_getElem? (i := 18) rfl))) (hw _ (List.mem_of_getElem? (i := 1) rfl)) (ty := (.array .int)) (by decide) rfl rfl (g := (mkF m 32 #[.val (.ref a)] [(.ref b23), (.ref a)])) rfl rfl (hb hby d1_32)
  have N32 := Fr.snoc X32 N22 pr9
  have Fw32 := Fld.same W32 f31
  have P33 : ∀ t, Steps p.tables e below (T32.setTop (mkF m 35 #[.val (.ref a)] [])) t → Steps p.tables e below (s₁.setTop (entryFrame m #[(.ref a)] 1)) t := by
    intro t kk
    refine pre0 _ ?_
    show Steps p.tables e below (s₁.setTop (mkF m 0 #[.val (.ref a)] [])) _
    refine XS.aloadN X0.here hx rfl (hb hby d1_0) rfl rfl ?_
    show Steps p.tables e below (s₁.setTop (mkF m 1 #[.val (.ref a)] [(.ref a)])) _
    refine st1 _ ?_
    show Steps p.tables e below (T1.setTop (mkF m 4 #[.val (.ref a)] [])) _
    refine XS.aloadN X1.here hx rfl (hb hby d1_4) rfl rfl ?_
    show Steps p.tables e below (T1.setTop (mkF m 5 #[.val (.ref a)] [(.ref a)])) _
    refine XS.bipush X1.here hx rfl (hb hby d1_5) ?_
    show Steps p.tables e below (T1.setTop (mkF m 7 #[.val (.ref a)] [(.int (16 : Int32)), (.ref a)])) _
    refine st2 _ ?_
    show Steps p.tables e below (T2.setTop (mkF m 9 #[.val (.ref a)] [(.ref b2), (.ref a)])) _
    refine st5 _ ?_
    show Steps p.tables e below (T5.setTop (mkF m 12 #[.val (.ref a)] [])) _
    refine XS.aloadN X5.here hx rfl (hb hby d1_12) rfl rfl ?_
    show Steps p.tables e below (T5.setTop (mkF m 13 #[.val (.ref a)] [(.ref a)])) _
    refine XS.bipush X5.here hx rfl (hb hby d1_13) ?_
    show Steps p.tables e below (T5.setTop (mkF m 15 #[.val (.ref a)] [(.int (16 : Int32)), (.ref a)])) _
    refine st6 _ ?_
    show Steps p.tables e below (T6.setTop (mkF m 17 #[.val (.ref a)] [(.ref b6), (.ref a)])) _
    refine st13 _ ?_
    show Steps p.tables e below (T13.setTop (mkF m 20 #[.val (.ref a)] [])) _
    refine XS.aloadN X13.here hx rfl (hb hby d1_20) rfl rfl ?_
    show Steps p.tables e below (T13.setTop (mkF m 21 #[.val (.ref a)] [(.ref a)])) _
    refine XS.iconst X13.here hx rfl (hb hby d1_21) ?_
    show Steps p.tables e below (T13.setTop (mkF m 22 #[.val (.ref a)] [(.int (0 : Int32)), (.ref a)])) _
    refine st14 _ ?_
    show Steps p.tables e below (T14.setTop (mkF m 24 #[.val (.ref a)] [(.ref b14), (.ref a)])) _
    refine st22 _ ?_
    show Steps p.tables e below (T22.setTop (mkF m 27 #[.val (.ref a)] [])) _
    refine XS.aloadN X22.here hx rfl (hb hby d1_27) rfl rfl ?_
    show Steps p.tables e below (T22.setTop (mkF m 28 #[.val (.ref a)] [(.ref a)])) _
    refine XS.bipush X22.here hx rfl (hb hby d1_28) ?_
    show Steps p.tables e below (T22.setTop (mkF m 30 #[.val (.ref a)] [(.int (16 : Int32)), (.ref a)])) _
    refine st23 _ ?_
    show Steps p.tables e below (T23.setTop (mkF m 32 #[.val (.ref a)] [(.ref b23), (.ref a)])) _
    refine st32 _ ?_
    show Steps p.tables e below (T32.setTop (mkF m 35 #[.val (.ref a)] [])) _
    exact kk
  have k34 : Keep h0 h32 [a] := (Keep.wr (Keep.ext k29 E23) W32 (Or.inl (List.mem_of_getElem? (i := 0) rfl)))
  have f35 := (Fld.other W32 (Fld.ext E23 (Fld.other W22 (Fld.ext E14 (Fld.other W13 (Fld.ext E6 Fw5) (Or.inr (slot_ne (Or.inl (hw _ (List.mem_of_getElem? (i := 11) rfl))) (Or.inl (hw _ (List.mem_of_getElem? (i := 14) rfl))) (by decide) (t := (.array .int)) (t' := (.array .double)) (by decide) (by decide))))) (Or.inr (slot_ne (Or.inl (hw _ (List.mem_of_getElem? (i := 11) rfl))) (Or.inl (hw _ (List.mem_of_getElem? (i := 16) rfl))) (by decide) (t := (.array .int)) (t' := (.array .int)) (by decide) (by decide))))) (Or.inr (slot_ne (Or.inl (hw _ (List.mem_of_getElem? (i := 11) rfl))) (Or.inl (hw _ (List.mem_of_getElem? (i := 18) rfl))) (by decide) (t := (.array .int)) (t' := (.array .int)) (by decide) (by decide))))
  have f36 := (Fld.other W32 (Fld.ext E23 (Fld.other W22 (Fld.ext E14 Fw13) (Or.inr (slot_ne (Or.inl (hw _ (List.mem_of_getElem? (i := 14) rfl))) (Or.inl (hw _ (List.mem_of_getElem? (i := 16) rfl))) (by decide) (t := (.array .double)) (t' := (.array .int)) (by decide) (by decide))))) (Or.inr (slot_ne (Or.inl (hw _ (List.mem_of_getElem? (i := 14) rfl))) (Or.inl (hw _ (List.mem_of_getElem? (i := 18) rfl))) (by decide) (t := (.array .double)) (t' := (.array .int)) (by decide) (by decide))))
  have f37 := (Fld.other W32 (Fld.ext E23 (Fld.other W22 (Fld.ext E14 (Fld.other W13 (Fld.ext E6 (Fld.other W5 (Fld.ext E2 pr5) (Or.inr (slot_ne (Or.inl (hw _ (List.mem_of_getElem? (i := 34) rfl))) (Or.inl (hw _ (List.mem_of_getElem? (i := 11) rfl))) (by decide) (t := .int) (t' := (.array .int)) (by decide) (by decide))))) (Or.inr (slot_ne (Or.inl (hw _ (List.mem_of_getElem? (i := 34) rfl))) (Or.inl (hw _ (List.mem_of_getElem? (i := 14) rfl))) (by decide) (t := .int) (t' := (.array .double)) (by decide) (by decide))))) (Or.inr (slot_ne (Or.inl (hw _ (List.mem_of_getElem? (i := 34) rfl))) (Or.inl (hw _ (List.mem_of_getElem? (i := 16) rfl))) (by decide) (t := .int) (t' := (.array .int)) (by decide) (by decide))))) (Or.inr (slot_ne (Or.inl (hw _ (List.mem_of_getElem? (i := 34) rfl))) (Or.inl (hw _ (List.mem_of_getElem? (i := 18) rfl))) (by decide) (t := .int) (t' := (.array .int)) (by decide) (by decide))))
  have f38 := (Fld.other W32 (Fld.ext E23 (Fld.other W22 (Fld.ext E14 (Fld.other W13 (Fld.ext E6 (Fld.other W5 (Fld.ext E2 pr6) (Or.inr (slot_ne (Or.inl (hw _ (List.mem_of_getElem? (i := 36) rfl))) (Or.inl (hw _ (List.mem_of_getElem? (i := 11) rfl))) (by decide) (t := .long) (t' := (.array .int)) (by decide) (by decide))))) (Or.inr (slot_ne (Or.inl (hw _ (List.mem_of_getElem? (i := 36) rfl))) (Or.inl (hw _ (List.mem_of_getElem? (i := 14) rfl))) (by decide) (t := .long) (t' := (.array .double)) (by decide) (by decide))))) (Or.inr (slot_ne (Or.inl (hw _ (List.mem_of_getElem? (i := 36) rfl))) (Or.inl (hw _ (List.mem_of_getElem? (i := 16) rfl))) (by decide) (t := .long) (t' := (.array .int)) (by decide) (by decide))))) (Or.inr (slot_ne (Or.inl (hw _ (List.mem_of_getElem? (i := 36) rfl))) (Or.inl (hw _ (List.mem_of_getElem? (i := 18) rfl))) (by decide) (t := .long) (t' := (.array .int)) (by decide) (by decide))))
  have f39 := (Fld.other W32 (Fld.ext E23 (Fld.other W22 (Fld.ext E14 (Fld.other W13 (Fld.ext E6 (Fld.other W5 (Fld.ext E2 pr7) (Or.inr (slot_ne (Or.inl (hw _ (List.mem_of_getElem? (i := 32) rfl))) (Or.inl (hw _ (List.mem_of_getElem? (i := 11) rfl))) (by decide) (t := .boolean) (t' := (.array .int)) (by decide) (by decide))))) (Or.inr (slot_ne (Or.inl (hw _ (List.mem_of_getElem? (i := 32) rfl))) (Or.inl (hw _ (List.mem_of_getElem? (i := 14) rfl))) (by decide) (t := .boolean) (t' := (.array .double)) (by decide) (by decide))))) (Or.inr (slot_ne (Or.inl (hw _ (List.mem_of_getElem? (i := 32) rfl))) (Or.inl (hw _ (List.mem_of_getElem? (i := 16) rfl))) (by decide) (t := .boolean) (t' := (.array .int)) (by decide) (by decide))))) (Or.inr (slot_ne (Or.inl (hw _ (List.mem_of_getElem? (i := 32) rfl))) (Or.inl (hw _ (List.mem_of_getElem? (i := 18) rfl))) (by decide) (t := .boolean) (t' := (.array .int)) (by decide) (by decide))))
  have f40 := (Fld.other W32 (Fld.ext E23 (Fld.other W22 (Fld.ext E14 (Fld.other W13 (Fld.ext E6 (Fld.other W5 (Fld.ext E2 pr8) (Or.inr (slot_ne (Or.inl (hw _ (List.mem_of_getElem? (i := 25) rfl))) (Or.inl (hw _ (List.mem_of_getElem? (i := 11) rfl))) (by decide) (t := .long) (t' := (.array .int)) (by decide) (by decide))))) (Or.inr (slot_ne (Or.inl (hw _ (List.mem_of_getElem? (i := 25) rfl))) (Or.inl (hw _ (List.mem_of_getElem? (i := 14) rfl))) (by decide) (t := .long) (t' := (.array .double)) (by decide) (by decide))))) (Or.inr (slot_ne (Or.inl (hw _ (List.mem_of_getElem? (i := 25) rfl))) (Or.inl (hw _ (List.mem_of_getElem? (i := 16) rfl))) (by decide) (t := .long) (t' := (.array .int)) (by decide) (by decide))))) (Or.inr (slot_ne (Or.inl (hw _ (List.mem_of_getElem? (i := 25) rfl))) (Or.inl (hw _ (List.mem_of_getElem? (i := 18) rfl))) (by decide) (t := .long) (t' := (.array .int)) (by decide) (by decide))))
  have f41 := ((f25.ext E23).other W32 (Ne.symm ne_a_b2))
  have f42 := ((f26.ext E23).other W32 (Ne.symm ne_a_b6))
  obtain ⟨fs, hr, hrun, hended, hW, hsame⟩ := X32.leave (v := none) (fun _ => rfl)
  refine ⟨_, _, P33 _ ?_, hrun, hended, _, _, rfl, ?_, ⟨_, rfl⟩, hW, hsame.mono (by decide) (by decide)⟩
  · exact X32.returnOut hx Bd.returns (hb hby d1_35) hr
  · show Q1 Z a h0 n0 _ T32.heap _
    rw [e32]
    exact ⟨b2, b6, k2, k6, rfl, N32, k34, f35, f36, f37, f38, f39, f40, f41, f42, sz_b2, sz_b6, ne_a_b2, ne_a_b6, ne_b2_b6⟩
theorem d2_0 : decode prog_104_method_6_code 0 = .ok (.aload_n 0, 1) := by decide +kernel
theorem d2_1 : decode prog_104_method_6_code 1 = .ok (.lload_n 1, 1) := by decide +kernel
theorem d2_2 : decode prog_104_method_6_code 2 = .ok (.putfield 27, 3) := by decide +kernel
theorem d2_5 : decode prog_104_method_6_code 5 = .ok (.return_, 1) := by decide +kernel
theorem ef_2 (m : MethodId) (x0 : Addr) (x1 : Int64) : entryFrame m #[(.ref x0), (.long x1)] 3 = (mkF m 0 #[.val (.ref x0), .val (.long x1), .second] []) := by first | (simp [entryFrame, mkF, argsToLocals, Value.category]; done) | rfl
def Q2 (Z : State) (a : Addr) (x : Int64) (n_ : Int32) (sn : Int64) (ar : Int64) (b1 : Addr) (b2 : Addr) (h0 : Heap) (n0 : Nat) (vX : Option Value) (hX : Heap) (lX : List Loc) : Prop := vX = none ∧ Fr n0 lX ∧ (Keep h0 hX [a]) ∧ (Fld Z hX a "org/wayfold/search/Steps" "arcsRead" "J" (.long x)) ∧ (Fld Z hX a "org/wayfold/search/Steps" "vertices" "[I" (.ref b1)) ∧ (Fld Z hX a "org/wayfold/search/Steps" "costs" "[D" (.ref b2)) ∧ (Fld Z hX a "org/wayfold/search/Steps" "size" "I" (.int n_)) ∧ (Fld Z hX a "org/wayfold/search/Steps" "seen" "J" (.long sn)) ∧ (Fld Z hX a "org/wayfold/search/Steps" "hashed" "Z" (.int (0 : Int32)))
set_option maxRecDepth 65536 in
set_option maxHeartbeats 40000000 in
theorem rm2 (l : Launch) (Z : State) (a0 : Array Value) (hw : ∀ d ∈ tables_1, d.before a0 Z = true) (ws : List Jvm.Cond) (a : Addr) (x : Int64) (n_ : Int32) (sn : Int64) (ar : Int64) (b1 : Addr) (b2 : Addr) (h0 : Heap) (n0 : Nat) (Z0 : n0 ≤ h0.size) (pr0 : Exa Z h0 a "org/wayfold/search/Steps") (pr1 : Fld Z h0 a "org/wayfold/search/Steps" "vertices" "[I" (.ref b1)) (pr2 : Fld Z h0 a "org/wayfold/search/Steps" "costs" "[D" (.ref b2)) (pr3 : Fld Z h0 a "org/wayfold/search/Steps" "size" "I" (.int n_)) (pr4 : Fld Z h0 a "org/wayfold/search/Steps" "seen" "J" (.long sn)) (pr5 : Fld Z h0 a "org/wayfold/search/Steps" "hashed" "Z" (.int (0 : Int32))) (pr6 : Fld Z h0 a "org/wayfold/search/Steps" "arcsRead" "J" (.long ar)) (pr7 : n0 ≤ a) :
    MetFree l (⟨"org/wayfold/search/Steps", "arcsRead", "(J)V"⟩ : MethodName) (head1 (Jvm.Cond.code (⟨"org/wayfold/search/Steps", "arcsRead", "(J)V"⟩ : MethodName) prog_104_method_6_code 3 none :: ws) ({ frames := 0, cells := 0, slots := 0, locals := 0 } : Room)) (fun aX uX => aX = #[(.ref a), (.long x)] ∧ Z.Warmed39 uX.vm ∧ uX.heap = h0) (fun _ _ _ _ _ => True) (fun _ uX oX wX => ∃ vX lX, oX = .returned vX ∧ Q2 Z a x n_ sn ar b1 b2 h0 n0 vX wX.heap lX ∧ FrameEnd uX oX wX lX ({ frames := 0, cells := 0, slots := 0, locals := 0 } : Room).cells ({ frames := 0, cells := 0, slots := 0, locals := 0 } : Room).slots) := by
  refine MetFree.of_bodySF (plainFor_of_name pn_0) hisR ?_
  intro p e s m args below meth c s₁ Bd hml0 hP hK
  obtain ⟨rfl, hZ, hh⟩ := hP
  have hx := Bd.exec
  have hby := Bd.bytes
  have hml : c.maxLocals = 3 := hml0
  have hown : s.vm.findClass "org/wayfold/search/Steps" = some m.cls := findClass_of_methodNamed Bd.named
  have hnm := (name_of_methodNamed Bd.named Bd.method).1
  have X0 : Stand p l e ({ frames := 0, cells := 0, slots := 0, locals := 0 } : Room) s m #[(.ref a), (.long x)] below meth c s₁ [] 0 0 := Stand.of_body Bd
  have e0 : s₁.heap = h0 := by rw [← hh, Bd.state]; rfl
  have N0 := Fr.nil n0
  have pre0 : ∀ t, Steps p.tables e below (s₁.setTop (mkF m 0 #[.val (.ref a), .val (.long x), .second] [])) t → Steps p.tables e below (s₁.setTop (entryFrame m #[(.ref a), (.long x)] 3)) t := fun t k => castTop (ef_2 m a x) k
  obtain ⟨T1, h1, X1, e1, W1, st1⟩ := putF X0 hx hZ hown (host := "") (Or.inl (hw _ (List.mem_of_getElem? (i := 24) rfl))) Via.refl e0 pr6 pr0 (Or.inl (hw _ (List.mem_of_getElem? (i := 25) rfl))) (hw _ (List.mem_of_getElem? (i := 1) rfl)) (ty := .long) (by decide) rfl rfl (g := (mkF m 2 #[.val (.ref a), .val (.long x), .second] [(.long x), (.ref a)])) rfl rfl (hb hby d2_2)
  have N1 := Fr.snoc X1 N0 pr7
  have Fw1 := Fld.same W1 pr6
  have P2 : ∀ t, Steps p.tables e below (T1.setTop (mkF m 5 #[.val (.ref a), .val (.long x), .second] [])) t → Steps p.tables e below (s₁.setTop (entryFrame m #[(.ref a), (.long x)] 3)) t := by
    intro t kk
    refine pre0 _ ?_
    show Steps p.tables e below (s₁.setTop (mkF m 0 #[.val (.ref a), .val (.long x), .second] [])) _
    refine XS.aloadN X0.here hx rfl (hb hby d2_0) rfl rfl ?_
    show Steps p.tables e below (s₁.setTop (mkF m 1 #[.val (.ref a), .val (.long x), .second] [(.ref a)])) _
    refine XS.lloadN X0.here hx rfl (hb hby d2_1) rfl ?_
    show Steps p.tables e below (s₁.setTop (mkF m 2 #[.val (.ref a), .val (.long x), .second] [(.long x), (.ref a)])) _
    refine st1 _ ?_
    show Steps p.tables e below (T1.setTop (mkF m 5 #[.val (.ref a), .val (.long x), .second] [])) _
    exact kk
  have k3 : Keep h0 h1 [a] := (Keep.wr (Keep.refl h0 [a]) W1 (Or.inl (List.mem_of_getElem? (i := 0) rfl)))
  have f4 := (Fld.other W1 pr1 (Or.inr (slot_ne (Or.inl (hw _ (List.mem_of_getElem? (i := 11) rfl))) (Or.inl (hw _ (List.mem_of_getElem? (i := 25) rfl))) (by decide) (t := (.array .int)) (t' := .long) (by decide) (by decide))))
  have f5 := (Fld.other W1 pr2 (Or.inr (slot_ne (Or.inl (hw _ (List.mem_of_getElem? (i := 14) rfl))) (Or.inl (hw _ (List.mem_of_getElem? (i := 25) rfl))) (by decide) (t := (.array .double)) (t' := .long) (by decide) (by decide))))
  have f6 := (Fld.other W1 pr3 (Or.inr (slot_ne (Or.inl (hw _ (List.mem_of_getElem? (i := 34) rfl))) (Or.inl (hw _ (List.mem_of_getElem? (i := 25) rfl))) (by decide) (t := .int) (t' := .long) (by decide) (by decide))))
  have f7 := (Fld.other W1 pr4 (Or.inr (slot_ne (Or.inl (hw _ (List.mem_of_getElem? (i := 36) rfl))) (Or.inl (hw _ (List.mem_of_getElem? (i := 25) rfl))) (by decide) (t := .long) (t' := .long) (by decide) (by decide))))
  have f8 := (Fld.other W1 pr5 (Or.inr (slot_ne (Or.inl (hw _ (List.mem_of_getElem? (i := 32) rfl))) (Or.inl (hw _ (List.mem_of_getElem? (i := 25) rfl))) (by decide) (t := .boolean) (t' := .long) (by decide) (by decide))))
  obtain ⟨fs, hr, hrun, hended, hW, hsame⟩ := X1.leave (v := none) (fun _ => rfl)
  refine ⟨_, _, P2 _ ?_, hrun, hended, _, _, rfl, ?_, ⟨_, rfl⟩, hW, hsame.mono (by decide) (by decide)⟩
  · exact X1.returnOut hx Bd.returns (hb hby d2_5) hr
  · show Q2 Z a x n_ sn ar b1 b2 h0 n0 _ T1.heap _
    rw [e1]
    exact ⟨rfl, N1, k3, Fw1, f4, f5, f6, f7, f8⟩
theorem d3_0 : decode prog_104_method_7_code 0 = .ok (.aload_n 0, 1) := by decide +kernel
theorem d3_1 : decode prog_104_method_7_code 1 = .ok (.getfield 31, 3) := by decide +kernel
theorem d3_4 : decode prog_104_method_7_code 4 = .ok (.ifCond .eq 36, 3) := by decide +kernel
theorem d3_40 : decode prog_104_method_7_code 40 = .ok (.aload_n 0, 1) := by decide +kernel
theorem d3_41 : decode prog_104_method_7_code 41 = .ok (.iconst 0, 1) := by decide +kernel
theorem d3_42 : decode prog_104_method_7_code 42 = .ok (.putfield 23, 3) := by decide +kernel
theorem d3_45 : decode prog_104_method_7_code 45 = .ok (.aload_n 0, 1) := by decide +kernel
theorem d3_46 : decode prog_104_method_7_code 46 = .ok (.lconst 0, 1) := by decide +kernel
theorem d3_47 : decode prog_104_method_7_code 47 = .ok (.putfield 35, 3) := by decide +kernel
theorem d3_50 : decode prog_104_method_7_code 50 = .ok (.return_, 1) := by decide +kernel
theorem ef_3 (m : MethodId) (x0 : Addr) : entryFrame m #[(.ref x0)] 2 = (mkF m 0 #[.val (.ref x0), .unset] []) := by first | (simp [entryFrame, mkF, argsToLocals, Value.category]; done) | rfl
def Q3 (Z : State) (a : Addr) (n_ : Int32) (sn : Int64) (ar : Int64) (b1 : Addr) (b2 : Addr) (h0 : Heap) (n0 : Nat) (vX : Option Value) (hX : Heap) (lX : List Loc) : Prop := vX = none ∧ Fr n0 lX ∧ (Keep h0 hX [a]) ∧ (Fld Z hX a "org/wayfold/search/Steps" "size" "I" (.int (0 : Int32))) ∧ (Fld Z hX a "org/wayfold/search/Steps" "seen" "J" (.long (0 : Int64))) ∧ (Fld Z hX a "org/wayfold/search/Steps" "vertices" "[I" (.ref b1)) ∧ (Fld Z hX a "org/wayfold/search/Steps" "costs" "[D" (.ref b2)) ∧ (Fld Z hX a "org/wayfold/search/Steps" "hashed" "Z" (.int (0 : Int32))) ∧ (Fld Z hX a "org/wayfold/search/Steps" "arcsRead" "J" (.long ar))
set_option maxRecDepth 65536 in
set_option maxHeartbeats 40000000 in
theorem rm3 (l : Launch) (Z : State) (a0 : Array Value) (hw : ∀ d ∈ tables_1, d.before a0 Z = true) (ws : List Jvm.Cond) (a : Addr) (n_ : Int32) (sn : Int64) (ar : Int64) (b1 : Addr) (b2 : Addr) (h0 : Heap) (n0 : Nat) (Z0 : n0 ≤ h0.size) (pr0 : Exa Z h0 a "org/wayfold/search/Steps") (pr1 : Fld Z h0 a "org/wayfold/search/Steps" "vertices" "[I" (.ref b1)) (pr2 : Fld Z h0 a "org/wayfold/search/Steps" "costs" "[D" (.ref b2)) (pr3 : Fld Z h0 a "org/wayfold/search/Steps" "size" "I" (.int n_)) (pr4 : Fld Z h0 a "org/wayfold/search/Steps" "seen" "J" (.long sn)) (pr5 : Fld Z h0 a "org/wayfold/search/Steps" "hashed" "Z" (.int (0 : Int32))) (pr6 : Fld Z h0 a "org/wayfold/search/Steps" "arcsRead" "J" (.long ar)) (pr7 : n0 ≤ a) :
    MetFree l (⟨"org/wayfold/search/Steps", "clear", "()V"⟩ : MethodName) (head1 (Jvm.Cond.code (⟨"org/wayfold/search/Steps", "clear", "()V"⟩ : MethodName) prog_104_method_7_code 2 none :: ws) ({ frames := 0, cells := 0, slots := 0, locals := 0 } : Room)) (fun aX uX => aX = #[(.ref a)] ∧ Z.Warmed39 uX.vm ∧ uX.heap = h0) (fun _ _ _ _ _ => True) (fun _ uX oX wX => ∃ vX lX, oX = .returned vX ∧ Q3 Z a n_ sn ar b1 b2 h0 n0 vX wX.heap lX ∧ FrameEnd uX oX wX lX ({ frames := 0, cells := 0, slots := 0, locals := 0 } : Room).cells ({ frames := 0, cells := 0, slots := 0, locals := 0 } : Room).slots) := by
  refine MetFree.of_bodySF (plainFor_of_name pn_0) hisR ?_
  intro p e s m args below meth c s₁ Bd hml0 hP hK
  obtain ⟨rfl, hZ, hh⟩ := hP
  have hx := Bd.exec
  have hby := Bd.bytes
  have hml : c.maxLocals = 2 := hml0
  have hown : s.vm.findClass "org/wayfold/search/Steps" = some m.cls := findClass_of_methodNamed Bd.named
  have hnm := (name_of_methodNamed Bd.named Bd.method).1
  have X0 : Stand p l e ({ frames := 0, cells := 0, slots := 0, locals := 0 } : Room) s m #[(.ref a)] below meth c s₁ [] 0 0 := Stand.of_body Bd
  have e0 : s₁.heap = h0 := by rw [← hh, Bd.state]; rfl
  have N0 := Fr.nil n0
  have pre0 : ∀ t, Steps p.tables e below (s₁.setTop (mkF m 0 #[.val (.ref a), .unset] [])) t → Steps p.tables e below (s₁.setTop (entryFrame m #[(.ref a)] 2)) t := fun t k => castTop (ef_3 m a) k
  obtain ⟨T1, X1, e1, st1⟩ := getF X0 hx hZ hown (host := "") (Or.inl (hw _ (List.mem_of_getElem? (i := 31) rfl))) Via.refl e0 pr5 (g := (mkF m 1 #[.val (.ref a), .unset] [(.ref a)])) rfl rfl (hb hby d3_1)
  obtain ⟨T2, h2, X2, e2, W2, st2⟩ := putF X1 hx hZ hown (host := "") (Or.inl (hw _ (List.mem_of_getElem? (i := 33) rfl))) Via.refl e1 pr3 pr0 (Or.inl (hw _ (List.mem_of_getElem? (i := 34) rfl))) (hw _ (List.mem_of_getElem? (i := 1) rfl)) (ty := .int) (by decide) rfl rfl (g := (mkF m 42 #[.val (.ref a), .unset] [(.int (0 : Int32)), (.ref a)])) rfl rfl (hb hby d3_42)
  have N2 := Fr.snoc X2 N0 pr7
  have Fw2 := Fld.same W2 pr3
  have f3 := (Exa.wr W2 pr0)
  have f4 := (Fld.other W2 pr4 (Or.inr (slot_ne (Or.inl (hw _ (List.mem_of_getElem? (i := 36) rfl))) (Or.inl (hw _ (List.mem_of_getElem? (i := 34) rfl))) (by decide) (t := .long) (t' := .int) (by decide) (by decide))))
  obtain ⟨T5, h5, X5, e5, W5, st5⟩ := putF X2 hx hZ hown (host := "") (Or.inl (hw _ (List.mem_of_getElem? (i := 35) rfl))) Via.refl e2 f4 f3 (Or.inl (hw _ (List.mem_of_getElem? (i := 36) rfl))) (hw _ (List.mem_of_getElem? (i := 1) rfl)) (ty := .long) (by decide) rfl rfl (g := (mkF m 47 #[.val (.ref a), .unset] [(.long (0 : Int64)), (.ref a)])) rfl rfl (hb hby d3_47)
  have N5 := Fr.snoc X5 N2 pr7
  have Fw5 := Fld.same W5 f4
  have P6 : ∀ t, Steps p.tables e below (T5.setTop (mkF m 50 #[.val (.ref a), .unset] [])) t → Steps p.tables e below (s₁.setTop (entryFrame m #[(.ref a)] 2)) t := by
    intro t kk
    refine pre0 _ ?_
    show Steps p.tables e below (s₁.setTop (mkF m 0 #[.val (.ref a), .unset] [])) _
    refine XS.aloadN X0.here hx rfl (hb hby d3_0) rfl rfl ?_
    show Steps p.tables e below (s₁.setTop (mkF m 1 #[.val (.ref a), .unset] [(.ref a)])) _
    refine st1 _ ?_
    show Steps p.tables e below (T1.setTop (mkF m 4 #[.val (.ref a), .unset] [(.int (0 : Int32))])) _
    refine XS.ifYes X1.here hx rfl (pc0 := 4) (pc' := 40) rfl (hb hby d3_4) rfl (XT.i0_eq_t rfl) (by decide) (by decide) ?_
    show Steps p.tables e below (T1.setTop (mkF m 40 #[.val (.ref a), .unset] [])) _
    refine XS.aloadN X1.here hx rfl (hb hby d3_40) rfl rfl ?_
    show Steps p.tables e below (T1.setTop (mkF m 41 #[.val (.ref a), .unset] [(.ref a)])) _
    refine XS.iconst X1.here hx rfl (hb hby d3_41) ?_
    show Steps p.tables e below (T1.setTop (mkF m 42 #[.val (.ref a), .unset] [(.int (0 : Int32)), (.ref a)])) _
    refine st2 _ ?_
    show Steps p.tables e below (T2.setTop (mkF m 45 #[.val (.ref a), .unset] [])) _
    refine XS.aloadN X2.here hx rfl (hb hby d3_45) rfl rfl ?_
    show Steps p.tables e below (T2.setTop (mkF m 46 #[.val (.ref a), .unset] [(.ref a)])) _
    refine XS.lconst X2.here hx rfl (hb hby d3_46) ?_
    show Steps p.tables e below (T2.setTop (mkF m 47 #[.val (.ref a), .unset] [(.long (0 : Int64)), (.ref a)])) _
    refine st5 _ ?_
    show Steps p.tables e below (T5.setTop (mkF m 50 #[.val (.ref a), .unset] [])) _
    exact kk
  have k7 : Keep h0 h5 [a] := (Keep.wr (Keep.wr (Keep.refl h0 [a]) W2 (Or.inl (List.mem_of_getElem? (i := 0) rfl))) W5 (Or.inl (List.mem_of_getElem? (i := 0) rfl)))
  have f8 := (Fld.other W5 Fw2 (Or.inr (slot_ne (Or.inl (hw _ (List.mem_of_getElem? (i := 34) rfl))) (Or.inl (hw _ (List.mem_of_getElem? (i := 36) rfl))) (by decide) (t := .int) (t' := .long) (by decide) (by decide))))
  have f9 := (Fld.other W5 (Fld.other W2 pr1 (Or.inr (slot_ne (Or.inl (hw _ (List.mem_of_getElem? (i := 11) rfl))) (Or.inl (hw _ (List.mem_of_getElem? (i := 34) rfl))) (by decide) (t := (.array .int)) (t' := .int) (by decide) (by decide)))) (Or.inr (slot_ne (Or.inl (hw _ (List.mem_of_getElem? (i := 11) rfl))) (Or.inl (hw _ (List.mem_of_getElem? (i := 36) rfl))) (by decide) (t := (.array .int)) (t' := .long) (by decide) (by decide))))
  have f10 := (Fld.other W5 (Fld.other W2 pr2 (Or.inr (slot_ne (Or.inl (hw _ (List.mem_of_getElem? (i := 14) rfl))) (Or.inl (hw _ (List.mem_of_getElem? (i := 34) rfl))) (by decide) (t := (.array .double)) (t' := .int) (by decide) (by decide)))) (Or.inr (slot_ne (Or.inl (hw _ (List.mem_of_getElem? (i := 14) rfl))) (Or.inl (hw _ (List.mem_of_getElem? (i := 36) rfl))) (by decide) (t := (.array .double)) (t' := .long) (by decide) (by decide))))
  have f11 := (Fld.other W5 (Fld.other W2 pr5 (Or.inr (slot_ne (Or.inl (hw _ (List.mem_of_getElem? (i := 32) rfl))) (Or.inl (hw _ (List.mem_of_getElem? (i := 34) rfl))) (by decide) (t := .boolean) (t' := .int) (by decide) (by decide)))) (Or.inr (slot_ne (Or.inl (hw _ (List.mem_of_getElem? (i := 32) rfl))) (Or.inl (hw _ (List.mem_of_getElem? (i := 36) rfl))) (by decide) (t := .boolean) (t' := .long) (by decide) (by decide))))
  have f12 := (Fld.other W5 (Fld.other W2 pr6 (Or.inr (slot_ne (Or.inl (hw _ (List.mem_of_getElem? (i := 25) rfl))) (Or.inl (hw _ (List.mem_of_getElem? (i := 34) rfl))) (by decide) (t := .long) (t' := .int) (by decide) (by decide)))) (Or.inr (slot_ne (Or.inl (hw _ (List.mem_of_getElem? (i := 25) rfl))) (Or.inl (hw _ (List.mem_of_getElem? (i := 36) rfl))) (by decide) (t := .long) (t' := .long) (by decide) (by decide))))
  obtain ⟨fs, hr, hrun, hended, hW, hsame⟩ := X5.leave (v := none) (fun _ => rfl)
  refine ⟨_, _, P6 _ ?_, hrun, hended, _, _, rfl, ?_, ⟨_, rfl⟩, hW, hsame.mono (by decide) (by decide)⟩
  · exact X5.returnOut hx Bd.returns (hb hby d3_50) hr
  · show Q3 Z a n_ sn ar b1 b2 h0 n0 _ T5.heap _
    rw [e5]
    exact ⟨rfl, N5, k7, f8, Fw5, f9, f10, f11, f12⟩
theorem d4_0 : decode prog_104_method_2_code 0 = .ok (.aload_n 0, 1) := by decide +kernel
theorem d4_1 : decode prog_104_method_2_code 1 = .ok (.getfield 23, 3) := by decide +kernel
theorem d4_4 : decode prog_104_method_2_code 4 = .ok (.ireturn, 1) := by decide +kernel
theorem ef_4 (m : MethodId) (x0 : Addr) : entryFrame m #[(.ref x0)] 1 = (mkF m 0 #[.val (.ref x0)] []) := by first | (simp [entryFrame, mkF, argsToLocals, Value.category]; done) | rfl
def Q4 (Z : State) (a : Addr) (n_ : Int32) (h0 : Heap) (n0 : Nat) (vX : Option Value) (hX : Heap) (lX : List Loc) : Prop := vX = some (.int n_) ∧ Fr n0 lX ∧ (hX = h0)
set_option maxRecDepth 65536 in
set_option maxHeartbeats 40000000 in
theorem rm4 (l : Launch) (Z : State) (a0 : Array Value) (hw : ∀ d ∈ tables_1, d.before a0 Z = true) (ws : List Jvm.Cond) (a : Addr) (n_ : Int32) (h0 : Heap) (n0 : Nat) (Z0 : n0 ≤ h0.size) (pr0 : Fld Z h0 a "org/wayfold/search/Steps" "size" "I" (.int n_)) :
    MetFree l (⟨"org/wayfold/search/Steps", "size", "()I"⟩ : MethodName) (head1 (Jvm.Cond.code (⟨"org/wayfold/search/Steps", "size", "()I"⟩ : MethodName) prog_104_method_2_code 1 (some .int) :: ws) ({ frames := 0, cells := 0, slots := 0, locals := 0 } : Room)) (fun aX uX => aX = #[(.ref a)] ∧ Z.Warmed39 uX.vm ∧ uX.heap = h0) (fun _ _ _ _ _ => True) (fun _ uX oX wX => ∃ vX lX, oX = .returned vX ∧ Q4 Z a n_ h0 n0 vX wX.heap lX ∧ FrameEnd uX oX wX lX ({ frames := 0, cells := 0, slots := 0, locals := 0 } : Room).cells ({ frames := 0, cells := 0, slots := 0, locals := 0 } : Room).slots) := by
  refine MetFree.of_bodySF (plainFor_of_name pn_0) hisR ?_
  intro p e s m args below meth c s₁ Bd hml0 hP hK
  obtain ⟨rfl, hZ, hh⟩ := hP
  have hx := Bd.exec
  have hby := Bd.bytes
  have hml : c.maxLocals = 1 := hml0
  have hown : s.vm.findClass "org/wayfold/search/Steps" = some m.cls := findClass_of_methodNamed Bd.named
  have hnm := (name_of_methodNamed Bd.named Bd.method).1
  have X0 : Stand p l e ({ frames := 0, cells := 0, slots := 0, locals := 0 } : Room) s m #[(.ref a)] below meth c s₁ [] 0 0 := Stand.of_body Bd
  have e0 : s₁.heap = h0 := by rw [← hh, Bd.state]; rfl
  have N0 := Fr.nil n0
  have pre0 : ∀ t, Steps p.tables e below (s₁.setTop (mkF m 0 #[.val (.ref a)] [])) t → Steps p.tables e below (s₁.setTop (entryFrame m #[(.ref a)] 1)) t := fun t k => castTop (ef_4 m a) k
  obtain ⟨T1, X1, e1, st1⟩ := getF X0 hx hZ hown (host := "") (Or.inl (hw _ (List.mem_of_getElem? (i := 33) rfl))) Via.refl e0 pr0 (g := (mkF m 1 #[.val (.ref a)] [(.ref a)])) rfl rfl (hb hby d4_1)
  have P2 : ∀ t, Steps p.tables e below (T1.setTop (mkF m 4 #[.val (.ref a)] [(.int n_)])) t → Steps p.tables e below (s₁.setTop (entryFrame m #[(.ref a)] 1)) t := by
    intro t kk
    refine pre0 _ ?_
    show Steps p.tables e below (s₁.setTop (mkF m 0 #[.val (.ref a)] [])) _
    refine XS.aloadN X0.here hx rfl (hb hby d4_0) rfl rfl ?_
    show Steps p.tables e below (s₁.setTop (mkF m 1 #[.val (.ref a)] [(.ref a)])) _
    refine st1 _ ?_
    show Steps p.tables e below (T1.setTop (mkF m 4 #[.val (.ref a)] [(.int n_)])) _
    exact kk
  obtain ⟨fs, hr, hrun, hended, hW, hsame⟩ := X1.leave (v := some (.int n_)) (fun h => by rw [Bd.returns] at h; cases h)
  refine ⟨_, _, P2 _ ?_, hrun, hended, _, _, rfl, ?_, ⟨_, rfl⟩, hW, hsame.mono (by decide) (by decide)⟩
  · exact retI X1 hx Bd.returns (hb hby d4_4) hr
  · show Q4 Z a n_ h0 n0 _ T1.heap _
    rw [e1]
    exact ⟨rfl, N0, rfl⟩
theorem d5_0 : decode prog_104_method_5_code 0 = .ok (.aload_n 0, 1) := by decide +kernel
theorem d5_1 : decode prog_104_method_5_code 1 = .ok (.getfield 27, 3) := by decide +kernel
theorem d5_4 : decode prog_104_method_5_code 4 = .ok (.lreturn, 1) := by decide +kernel
theorem ef_5 (m : MethodId) (x0 : Addr) : entryFrame m #[(.ref x0)] 1 = (mkF m 0 #[.val (.ref x0)] []) := by first | (simp [entryFrame, mkF, argsToLocals, Value.category]; done) | rfl
def Q5 (Z : State) (a : Addr) (ar : Int64) (h0 : Heap) (n0 : Nat) (vX : Option Value) (hX : Heap) (lX : List Loc) : Prop := vX = some (.long ar) ∧ Fr n0 lX ∧ (hX = h0)
set_option maxRecDepth 65536 in
set_option maxHeartbeats 40000000 in
theorem rm5 (l : Launch) (Z : State) (a0 : Array Value) (hw : ∀ d ∈ tables_1, d.before a0 Z = true) (ws : List Jvm.Cond) (a : Addr) (ar : Int64) (h0 : Heap) (n0 : Nat) (Z0 : n0 ≤ h0.size) (pr0 : Fld Z h0 a "org/wayfold/search/Steps" "arcsRead" "J" (.long ar)) :
    MetFree l (⟨"org/wayfold/search/Steps", "arcsRead", "()J"⟩ : MethodName) (head1 (Jvm.Cond.code (⟨"org/wayfold/search/Steps", "arcsRead", "()J"⟩ : MethodName) prog_104_method_5_code 1 (some .long) :: ws) ({ frames := 0, cells := 0, slots := 0, locals := 0 } : Room)) (fun aX uX => aX = #[(.ref a)] ∧ Z.Warmed39 uX.vm ∧ uX.heap = h0) (fun _ _ _ _ _ => True) (fun _ uX oX wX => ∃ vX lX, oX = .returned vX ∧ Q5 Z a ar h0 n0 vX wX.heap lX ∧ FrameEnd uX oX wX lX ({ frames := 0, cells := 0, slots := 0, locals := 0 } : Room).cells ({ frames := 0, cells := 0, slots := 0, locals := 0 } : Room).slots) := by
  refine MetFree.of_bodySF (plainFor_of_name pn_0) hisR ?_
  intro p e s m args below meth c s₁ Bd hml0 hP hK
  obtain ⟨rfl, hZ, hh⟩ := hP
  have hx := Bd.exec
  have hby := Bd.bytes
  have hml : c.maxLocals = 1 := hml0
  have hown : s.vm.findClass "org/wayfold/search/Steps" = some m.cls := findClass_of_methodNamed Bd.named
  have hnm := (name_of_methodNamed Bd.named Bd.method).1
  have X0 : Stand p l e ({ frames := 0, cells := 0, slots := 0, locals := 0 } : Room) s m #[(.ref a)] below meth c s₁ [] 0 0 := Stand.of_body Bd
  have e0 : s₁.heap = h0 := by rw [← hh, Bd.state]; rfl
  have N0 := Fr.nil n0
  have pre0 : ∀ t, Steps p.tables e below (s₁.setTop (mkF m 0 #[.val (.ref a)] [])) t → Steps p.tables e below (s₁.setTop (entryFrame m #[(.ref a)] 1)) t := fun t k => castTop (ef_5 m a) k
  obtain ⟨T1, X1, e1, st1⟩ := getF X0 hx hZ hown (host := "") (Or.inl (hw _ (List.mem_of_getElem? (i := 24) rfl))) Via.refl e0 pr0 (g := (mkF m 1 #[.val (.ref a)] [(.ref a)])) rfl rfl (hb hby d5_1)
  have P2 : ∀ t, Steps p.tables e below (T1.setTop (mkF m 4 #[.val (.ref a)] [(.long ar)])) t → Steps p.tables e below (s₁.setTop (entryFrame m #[(.ref a)] 1)) t := by
    intro t kk
    refine pre0 _ ?_
    show Steps p.tables e below (s₁.setTop (mkF m 0 #[.val (.ref a)] [])) _
    refine XS.aloadN X0.here hx rfl (hb hby d5_0) rfl rfl ?_
    show Steps p.tables e below (s₁.setTop (mkF m 1 #[.val (.ref a)] [(.ref a)])) _
    refine st1 _ ?_
    show Steps p.tables e below (T1.setTop (mkF m 4 #[.val (.ref a)] [(.long ar)])) _
    exact kk
  obtain ⟨fs, hr, hrun, hended, hW, hsame⟩ := X1.leave (v := some (.long ar)) (fun h => by rw [Bd.returns] at h; cases h)
  refine ⟨_, _, P2 _ ?_, hrun, hended, _, _, rfl, ?_, ⟨_, rfl⟩, hW, hsame.mono (by decide) (by decide)⟩
  · exact X1.lreturnOut hx Bd.returns (hb hby d5_4) hr
  · show Q5 Z a ar h0 n0 _ T1.heap _
    rw [e1]
    exact ⟨rfl, N0, rfl⟩
theorem d6_0 : decode prog_104_method_3_code 0 = .ok (.aload_n 0, 1) := by decide +kernel
theorem d6_1 : decode prog_104_method_3_code 1 = .ok (.getfield 7, 3) := by decide +kernel
theorem d6_4 : decode prog_104_method_3_code 4 = .ok (.iload_n 1, 1) := by decide +kernel
theorem d6_5 : decode prog_104_method_3_code 5 = .ok (.iaload, 1) := by decide +kernel
theorem d6_6 : decode prog_104_method_3_code 6 = .ok (.ireturn, 1) := by decide +kernel
theorem ef_6 (m : MethodId) (x0 : Addr) (x1 : Int32) : entryFrame m #[(.ref x0), (.int x1)] 2 = (mkF m 0 #[.val (.ref x0), .val (.int x1)] []) := by first | (simp [entryFrame, mkF, argsToLocals, Value.category]; done) | rfl
def Q6 (Z : State) (a : Addr) (i : Int32) (b1 : Addr) (k1 : ClassId) (vs : List Value) (d1 : Value) (y : Int32) (h0 : Heap) (n0 : Nat) (vX : Option Value) (hX : Heap) (lX : List Loc) : Prop := vX = some (.int y) ∧ Fr n0 lX ∧ (hX = h0)
set_option maxRecDepth 65536 in
set_option maxHeartbeats 40000000 in
theorem rm6 (l : Launch) (Z : State) (a0 : Array Value) (hw : ∀ d ∈ tables_1, d.before a0 Z = true) (ws : List Jvm.Cond) (a : Addr) (i : Int32) (b1 : Addr) (k1 : ClassId) (vs : List Value) (d1 : Value) (y : Int32) (h0 : Heap) (n0 : Nat) (Z0 : n0 ≤ h0.size) (pr0 : Fld Z h0 a "org/wayfold/search/Steps" "vertices" "[I" (.ref b1)) (pr1 : Arv Z h0 b1 k1 .int (16 : Int32) vs d1) (pr2 : ¬ i < 0 ∧ i < (16 : Int32)) (pr3 : vs.getD i.toNatClampNeg d1 = .int y) :
    MetFree l (⟨"org/wayfold/search/Steps", "vertex", "(I)I"⟩ : MethodName) (head1 (Jvm.Cond.code (⟨"org/wayfold/search/Steps", "vertex", "(I)I"⟩ : MethodName) prog_104_method_3_code 2 (some .int) :: ws) ({ frames := 0, cells := 0, slots := 0, locals := 0 } : Room)) (fun aX uX => aX = #[(.ref a), (.int i)] ∧ Z.Warmed39 uX.vm ∧ uX.heap = h0) (fun _ _ _ _ _ => True) (fun _ uX oX wX => ∃ vX lX, oX = .returned vX ∧ Q6 Z a i b1 k1 vs d1 y h0 n0 vX wX.heap lX ∧ FrameEnd uX oX wX lX ({ frames := 0, cells := 0, slots := 0, locals := 0 } : Room).cells ({ frames := 0, cells := 0, slots := 0, locals := 0 } : Room).slots) := by
  refine MetFree.of_bodySF (plainFor_of_name pn_0) hisR ?_
  intro p e s m args below meth c s₁ Bd hml0 hP hK
  obtain ⟨rfl, hZ, hh⟩ := hP
  have hx := Bd.exec
  have hby := Bd.bytes
  have hml : c.maxLocals = 2 := hml0
  have hown : s.vm.findClass "org/wayfold/search/Steps" = some m.cls := findClass_of_methodNamed Bd.named
  have hnm := (name_of_methodNamed Bd.named Bd.method).1
  have X0 : Stand p l e ({ frames := 0, cells := 0, slots := 0, locals := 0 } : Room) s m #[(.ref a), (.int i)] below meth c s₁ [] 0 0 := Stand.of_body Bd
  have e0 : s₁.heap = h0 := by rw [← hh, Bd.state]; rfl
  have N0 := Fr.nil n0
  have pre0 : ∀ t, Steps p.tables e below (s₁.setTop (mkF m 0 #[.val (.ref a), .val (.int i)] [])) t → Steps p.tables e below (s₁.setTop (entryFrame m #[(.ref a), (.int i)] 2)) t := fun t k => castTop (ef_6 m a i) k
  obtain ⟨T1, X1, e1, st1⟩ := getF X0 hx hZ hown (host := "") (Or.inl (hw _ (List.mem_of_getElem? (i := 10) rfl))) Via.refl e0 pr0 (g := (mkF m 1 #[.val (.ref a), .val (.int i)] [(.ref a)])) rfl rfl (hb hby d6_1)
  obtain ⟨cl_a2, Ar_a2, q_a2, S_a2, N_a2, H_a2, G_a2⟩ := id pr1
  have hin_a2 : ¬ (i < 0 ∨ cl_a2.slots.size ≤ (i).toNatClampNeg) := inb_of S_a2 pr2
  have hat_a2 := Has.at (v := (.int y)) H_a2 hin_a2 pr3
  have P3 : ∀ t, Steps p.tables e below (T1.setTop (mkF m 6 #[.val (.ref a), .val (.int i)] [(.int y)])) t → Steps p.tables e below (s₁.setTop (entryFrame m #[(.ref a), (.int i)] 2)) t := by
    intro t kk
    refine pre0 _ ?_
    show Steps p.tables e below (s₁.setTop (mkF m 0 #[.val (.ref a), .val (.int i)] [])) _
    refine XS.aloadN X0.here hx rfl (hb hby d6_0) rfl rfl ?_
    show Steps p.tables e below (s₁.setTop (mkF m 1 #[.val (.ref a), .val (.int i)] [(.ref a)])) _
    refine st1 _ ?_
    show Steps p.tables e below (T1.setTop (mkF m 4 #[.val (.ref a), .val (.int i)] [(.ref b1)])) _
    refine XS.iloadN X1.here hx rfl (hb hby d6_4) rfl ?_
    show Steps p.tables e below (T1.setTop (mkF m 5 #[.val (.ref a), .val (.int i)] [(.int i), (.ref b1)])) _
    refine X1.iaload hx (j := i) (v := (.int y)) (by rw [e1]; exact Ar_a2.1) (State.isArrayOf_alike hZ.alike Ar_a2.2.1) Ar_a2.2.2 hin_a2 hat_a2 (g := (mkF m 5 #[.val (.ref a), .val (.int i)] [(.int i), (.ref b1)])) rfl rfl (hb hby d6_5) _ ?_
    show Steps p.tables e below (T1.setTop (mkF m 6 #[.val (.ref a), .val (.int i)] [(.int y)])) _
    exact kk
  obtain ⟨fs, hr, hrun, hended, hW, hsame⟩ := X1.leave (v := some (.int y)) (fun h => by rw [Bd.returns] at h; cases h)
  refine ⟨_, _, P3 _ ?_, hrun, hended, _, _, rfl, ?_, ⟨_, rfl⟩, hW, hsame.mono (by decide) (by decide)⟩
  · exact retI X1 hx Bd.returns (hb hby d6_6) hr
  · show Q6 Z a i b1 k1 vs d1 y h0 n0 _ T1.heap _
    rw [e1]
    exact ⟨rfl, N0, rfl⟩
theorem d7_0 : decode prog_104_method_4_code 0 = .ok (.aload_n 0, 1) := by decide +kernel
theorem d7_1 : decode prog_104_method_4_code 1 = .ok (.getfield 13, 3) := by decide +kernel
theorem d7_4 : decode prog_104_method_4_code 4 = .ok (.iload_n 1, 1) := by decide +kernel
theorem d7_5 : decode prog_104_method_4_code 5 = .ok (.daload, 1) := by decide +kernel
theorem d7_6 : decode prog_104_method_4_code 6 = .ok (.dreturn, 1) := by decide +kernel
theorem ef_7 (m : MethodId) (x0 : Addr) (x1 : Int32) : entryFrame m #[(.ref x0), (.int x1)] 2 = (mkF m 0 #[.val (.ref x0), .val (.int x1)] []) := by first | (simp [entryFrame, mkF, argsToLocals, Value.category]; done) | rfl
def Q7 (Z : State) (a : Addr) (i : Int32) (b2 : Addr) (k2 : ClassId) (ds : List Value) (d2 : Value) (y : UInt64) (h0 : Heap) (n0 : Nat) (vX : Option Value) (hX : Heap) (lX : List Loc) : Prop := vX = some (.double y) ∧ Fr n0 lX ∧ (hX = h0)
set_option maxRecDepth 65536 in
set_option maxHeartbeats 40000000 in
theorem rm7 (l : Launch) (Z : State) (a0 : Array Value) (hw : ∀ d ∈ tables_1, d.before a0 Z = true) (ws : List Jvm.Cond) (a : Addr) (i : Int32) (b2 : Addr) (k2 : ClassId) (ds : List Value) (d2 : Value) (y : UInt64) (h0 : Heap) (n0 : Nat) (Z0 : n0 ≤ h0.size) (pr0 : Fld Z h0 a "org/wayfold/search/Steps" "costs" "[D" (.ref b2)) (pr1 : Arv Z h0 b2 k2 .double (16 : Int32) ds d2) (pr2 : ¬ i < 0 ∧ i < (16 : Int32)) (pr3 : ds.getD i.toNatClampNeg d2 = .double y) :
    MetFree l (⟨"org/wayfold/search/Steps", "cost", "(I)D"⟩ : MethodName) (head1 (Jvm.Cond.code (⟨"org/wayfold/search/Steps", "cost", "(I)D"⟩ : MethodName) prog_104_method_4_code 2 (some .double) :: ws) ({ frames := 0, cells := 0, slots := 0, locals := 0 } : Room)) (fun aX uX => aX = #[(.ref a), (.int i)] ∧ Z.Warmed39 uX.vm ∧ uX.heap = h0) (fun _ _ _ _ _ => True) (fun _ uX oX wX => ∃ vX lX, oX = .returned vX ∧ Q7 Z a i b2 k2 ds d2 y h0 n0 vX wX.heap lX ∧ FrameEnd uX oX wX lX ({ frames := 0, cells := 0, slots := 0, locals := 0 } : Room).cells ({ frames := 0, cells := 0, slots := 0, locals := 0 } : Room).slots) := by
  refine MetFree.of_bodySF (plainFor_of_name pn_0) hisR ?_
  intro p e s m args below meth c s₁ Bd hml0 hP hK
  obtain ⟨rfl, hZ, hh⟩ := hP
  have hx := Bd.exec
  have hby := Bd.bytes
  have hml : c.maxLocals = 2 := hml0
  have hown : s.vm.findClass "org/wayfold/search/Steps" = some m.cls := findClass_of_methodNamed Bd.named
  have hnm := (name_of_methodNamed Bd.named Bd.method).1
  have X0 : Stand p l e ({ frames := 0, cells := 0, slots := 0, locals := 0 } : Room) s m #[(.ref a), (.int i)] below meth c s₁ [] 0 0 := Stand.of_body Bd
  have e0 : s₁.heap = h0 := by rw [← hh, Bd.state]; rfl
  have N0 := Fr.nil n0
  have pre0 : ∀ t, Steps p.tables e below (s₁.setTop (mkF m 0 #[.val (.ref a), .val (.int i)] [])) t → Steps p.tables e below (s₁.setTop (entryFrame m #[(.ref a), (.int i)] 2)) t := fun t k => castTop (ef_7 m a i) k
  obtain ⟨T1, X1, e1, st1⟩ := getF X0 hx hZ hown (host := "") (Or.inl (hw _ (List.mem_of_getElem? (i := 13) rfl))) Via.refl e0 pr0 (g := (mkF m 1 #[.val (.ref a), .val (.int i)] [(.ref a)])) rfl rfl (hb hby d7_1)
  obtain ⟨cl_a2, Ar_a2, q_a2, S_a2, N_a2, H_a2, G_a2⟩ := id pr1
  have hin_a2 : ¬ (i < 0 ∨ cl_a2.slots.size ≤ (i).toNatClampNeg) := inb_of S_a2 pr2
  have hat_a2 := Has.at (v := (.double y)) H_a2 hin_a2 pr3
  have P3 : ∀ t, Steps p.tables e below (T1.setTop (mkF m 6 #[.val (.ref a), .val (.int i)] [(.double y)])) t → Steps p.tables e below (s₁.setTop (entryFrame m #[(.ref a), (.int i)] 2)) t := by
    intro t kk
    refine pre0 _ ?_
    show Steps p.tables e below (s₁.setTop (mkF m 0 #[.val (.ref a), .val (.int i)] [])) _
    refine XS.aloadN X0.here hx rfl (hb hby d7_0) rfl rfl ?_
    show Steps p.tables e below (s₁.setTop (mkF m 1 #[.val (.ref a), .val (.int i)] [(.ref a)])) _
    refine st1 _ ?_
    show Steps p.tables e below (T1.setTop (mkF m 4 #[.val (.ref a), .val (.int i)] [(.ref b2)])) _
    refine XS.iloadN X1.here hx rfl (hb hby d7_4) rfl ?_
    show Steps p.tables e below (T1.setTop (mkF m 5 #[.val (.ref a), .val (.int i)] [(.int i), (.ref b2)])) _
    refine X1.daload hx (j := i) (v := (.double y)) (by rw [e1]; exact Ar_a2.1) (State.isArrayOf_alike hZ.alike Ar_a2.2.1) Ar_a2.2.2 hin_a2 hat_a2 (g := (mkF m 5 #[.val (.ref a), .val (.int i)] [(.int i), (.ref b2)])) rfl rfl (hb hby d7_5) _ ?_
    show Steps p.tables e below (T1.setTop (mkF m 6 #[.val (.ref a), .val (.int i)] [(.double y)])) _
    exact kk
  obtain ⟨fs, hr, hrun, hended, hW, hsame⟩ := X1.leave (v := some (.double y)) (fun h => by rw [Bd.returns] at h; cases h)
  refine ⟨_, _, P3 _ ?_, hrun, hended, _, _, rfl, ?_, ⟨_, rfl⟩, hW, hsame.mono (by decide) (by decide)⟩
  · exact retOut X1 hx Bd.returns rfl (Or.inr (Or.inr (Or.inl ⟨rfl, rfl, _, rfl⟩))) (hb hby d7_6) hr
  · show Q7 Z a i b2 k2 ds d2 y h0 n0 _ T1.heap _
    rw [e1]
    exact ⟨rfl, N0, rfl⟩
theorem d8_0 : decode prog_104_method_11_code 0 = .ok (.aload_n 0, 1) := by decide +kernel
theorem d8_1 : decode prog_104_method_11_code 1 = .ok (.getfield 31, 3) := by decide +kernel
theorem d8_4 : decode prog_104_method_11_code 4 = .ok (.ifCond .ne 33, 3) := by decide +kernel
theorem d8_7 : decode prog_104_method_11_code 7 = .ok (.iconst 0, 1) := by decide +kernel
theorem d8_8 : decode prog_104_method_11_code 8 = .ok (.istore_n 2, 1) := by decide +kernel
theorem d8_9 : decode prog_104_method_11_code 9 = .ok (.iload_n 2, 1) := by decide +kernel
theorem d8_10 : decode prog_104_method_11_code 10 = .ok (.aload_n 0, 1) := by decide +kernel
theorem d8_11 : decode prog_104_method_11_code 11 = .ok (.getfield 23, 3) := by decide +kernel
theorem d8_14 : decode prog_104_method_11_code 14 = .ok (.if_icmp .ge 21, 3) := by decide +kernel
theorem d8_17 : decode prog_104_method_11_code 17 = .ok (.aload_n 0, 1) := by decide +kernel
theorem d8_18 : decode prog_104_method_11_code 18 = .ok (.getfield 7, 3) := by decide +kernel
theorem d8_21 : decode prog_104_method_11_code 21 = .ok (.iload_n 2, 1) := by decide +kernel
theorem d8_22 : decode prog_104_method_11_code 22 = .ok (.iaload, 1) := by decide +kernel
theorem d8_23 : decode prog_104_method_11_code 23 = .ok (.iload_n 1, 1) := by decide +kernel
theorem d8_24 : decode prog_104_method_11_code 24 = .ok (.if_icmp .ne 5, 3) := by decide +kernel
theorem d8_29 : decode prog_104_method_11_code 29 = .ok (.iinc 2 1, 3) := by decide +kernel
theorem d8_32 : decode prog_104_method_11_code 32 = .ok (.goto (-23), 3) := by decide +kernel
theorem d8_35 : decode prog_104_method_11_code 35 = .ok (.iconst (-1), 1) := by decide +kernel
theorem d8_36 : decode prog_104_method_11_code 36 = .ok (.ireturn, 1) := by decide +kernel
theorem ef_8 (m : MethodId) (x0 : Addr) (x1 : Int32) : entryFrame m #[(.ref x0), (.int x1)] 4 = (mkF m 0 #[.val (.ref x0), .val (.int x1), .unset, .unset] []) := by first | (simp [entryFrame, mkF, argsToLocals, Value.category]; done) | rfl
def Q8 (Z : State) (a : Addr) (v : Int32) (b1 : Addr) (k1 : ClassId) (vs : List Value) (d1 : Value) (y0 : Int32) (h0 : Heap) (n0 : Nat) (vX : Option Value) (hX : Heap) (lX : List Loc) : Prop := vX = some (.int (-1 : Int32)) ∧ Fr n0 lX ∧ (hX = h0)
set_option maxRecDepth 65536 in
set_option maxHeartbeats 40000000 in
theorem rm8 (l : Launch) (Z : State) (a0 : Array Value) (hw : ∀ d ∈ tables_1, d.before a0 Z = true) (ws : List Jvm.Cond) (a : Addr) (v : Int32) (b1 : Addr) (k1 : ClassId) (vs : List Value) (d1 : Value) (y0 : Int32) (h0 : Heap) (n0 : Nat) (Z0 : n0 ≤ h0.size) (pr0 : Exa Z h0 a "org/wayfold/search/Steps") (pr1 : Fld Z h0 a "org/wayfold/search/Steps" "hashed" "Z" (.int (0 : Int32))) (pr2 : Fld Z h0 a "org/wayfold/search/Steps" "size" "I" (.int (1 : Int32))) (pr3 : Fld Z h0 a "org/wayfold/search/Steps" "vertices" "[I" (.ref b1)) (pr4 : Arv Z h0 b1 k1 .int (16 : Int32) vs d1) (pr5 : vs.getD (0 : Int32).toNatClampNeg d1 = .int y0) (pr6 : ¬ y0 = v) :
    MetFree l (⟨"org/wayfold/search/Steps", "find", "(I)I"⟩ : MethodName) (head1 (Jvm.Cond.code (⟨"org/wayfold/search/Steps", "find", "(I)I"⟩ : MethodName) prog_104_method_11_code 4 (some .int) :: ws) ({ frames := 0, cells := 0, slots := 0, locals := 0 } : Room)) (fun aX uX => aX = #[(.ref a), (.int v)] ∧ Z.Warmed39 uX.vm ∧ uX.heap = h0) (fun _ _ _ _ _ => True) (fun _ uX oX wX => ∃ vX lX, oX = .returned vX ∧ Q8 Z a v b1 k1 vs d1 y0 h0 n0 vX wX.heap lX ∧ FrameEnd uX oX wX lX ({ frames := 0, cells := 0, slots := 0, locals := 0 } : Room).cells ({ frames := 0, cells := 0, slots := 0, locals := 0 } : Room).slots) := by
  refine MetFree.of_bodySF (plainFor_of_name pn_0) hisR ?_
  intro p e s m args below meth c s₁ Bd hml0 hP hK
  obtain ⟨rfl, hZ, hh⟩ := hP
  have hx := Bd.exec
  have hby := Bd.bytes
  have hml : c.maxLocals = 4 := hml0
  have hown : s.vm.findClass "org/wayfold/search/Steps" = some m.cls := findClass_of_methodNamed Bd.named
  have hnm := (name_of_methodNamed Bd.named Bd.method).1
  have X0 : Stand p l e ({ frames := 0, cells := 0, slots := 0, locals := 0 } : Room) s m #[(.ref a), (.int v)] below meth c s₁ [] 0 0 := Stand.of_body Bd
  have e0 : s₁.heap = h0 := by rw [← hh, Bd.state]; rfl
  have N0 := Fr.nil n0
  have pre0 : ∀ t, Steps p.tables e below (s₁.setTop (mkF m 0 #[.val (.ref a), .val (.int v), .unset, .unset] [])) t → Steps p.tables e below (s₁.setTop (entryFrame m #[(.ref a), (.int v)] 4)) t := fun t k => castTop (ef_8 m a v) k
  obtain ⟨T1, X1, e1, st1⟩ := getF X0 hx hZ hown (host := "") (Or.inl (hw _ (List.mem_of_getElem? (i := 31) rfl))) Via.refl e0 pr1 (g := (mkF m 1 #[.val (.ref a), .val (.int v), .unset, .unset] [(.ref a)])) rfl rfl (hb hby d8_1)
  obtain ⟨T2, X2, e2, st2⟩ := getF X1 hx hZ hown (host := "") (Or.inl (hw _ (List.mem_of_getElem? (i := 33) rfl))) Via.refl e1 pr2 (g := (mkF m 11 #[.val (.ref a), .val (.int v), .val (.int (0 : Int32)), .unset] [(.ref a), (.int (0 : Int32))])) rfl rfl (hb hby d8_11)
  obtain ⟨T3, X3, e3, st3⟩ := getF X2 hx hZ hown (host := "") (Or.inl (hw _ (List.mem_of_getElem? (i := 10) rfl))) Via.refl e2 pr3 (g := (mkF m 18 #[.val (.ref a), .val (.int v), .val (.int (0 : Int32)), .unset] [(.ref a)])) rfl rfl (hb hby d8_18)
  obtain ⟨cl_a4, Ar_a4, q_a4, S_a4, N_a4, H_a4, G_a4⟩ := id pr4
  have hin_a4 : ¬ ((0 : Int32) < 0 ∨ cl_a4.slots.size ≤ ((0 : Int32)).toNatClampNeg) := inb_of S_a4 ⟨by decide, by decide⟩
  have hat_a4 := Has.at (v := (.int y0)) H_a4 hin_a4 pr5
  obtain ⟨T5, X5, e5, st5⟩ := getF X3 hx hZ hown (host := "") (Or.inl (hw _ (List.mem_of_getElem? (i := 33) rfl))) Via.refl e3 pr2 (g := (mkF m 11 #[.val (.ref a), .val (.int v), .val (.int (1 : Int32)), .unset] [(.ref a), (.int (1 : Int32))])) rfl rfl (hb hby d8_11)
  have P6 : ∀ t, Steps p.tables e below (T5.setTop (mkF m 36 #[.val (.ref a), .val (.int v), .val (.int (1 : Int32)), .unset] [(.int (-1 : Int32))])) t → Steps p.tables e below (s₁.setTop (entryFrame m #[(.ref a), (.int v)] 4)) t := by
    intro t kk
    refine pre0 _ ?_
    show Steps p.tables e below (s₁.setTop (mkF m 0 #[.val (.ref a), .val (.int v), .unset, .unset] [])) _
    refine XS.aloadN X0.here hx rfl (hb hby d8_0) rfl rfl ?_
    show Steps p.tables e below (s₁.setTop (mkF m 1 #[.val (.ref a), .val (.int v), .unset, .unset] [(.ref a)])) _
    refine st1 _ ?_
    show Steps p.tables e below (T1.setTop (mkF m 4 #[.val (.ref a), .val (.int v), .unset, .unset] [(.int (0 : Int32))])) _
    refine XS.ifNo X1.here hx rfl (hb hby d8_4) rfl (XT.i0_ne_f rfl) ?_
    show Steps p.tables e below (T1.setTop (mkF m 7 #[.val (.ref a), .val (.int v), .unset, .unset] [])) _
    refine XS.iconst X1.here hx rfl (hb hby d8_7) ?_
    show Steps p.tables e below (T1.setTop (mkF m 8 #[.val (.ref a), .val (.int v), .unset, .unset] [(.int (0 : Int32))])) _
    refine XS.istoreN X1.here hx rfl (hb hby d8_8) rfl (l' := #[.val (.ref a), .val (.int v), .val (.int (0 : Int32)), .unset]) rfl ?_
    show Steps p.tables e below (T1.setTop (mkF m 9 #[.val (.ref a), .val (.int v), .val (.int (0 : Int32)), .unset] [])) _
    refine XS.iloadN X1.here hx rfl (hb hby d8_9) rfl ?_
    show Steps p.tables e below (T1.setTop (mkF m 10 #[.val (.ref a), .val (.int v), .val (.int (0 : Int32)), .unset] [(.int (0 : Int32))])) _
    refine XS.aloadN X1.here hx rfl (hb hby d8_10) rfl rfl ?_
    show Steps p.tables e below (T1.setTop (mkF m 11 #[.val (.ref a), .val (.int v), .val (.int (0 : Int32)), .unset] [(.ref a), (.int (0 : Int32))])) _
    refine st2 _ ?_
    show Steps p.tables e below (T2.setTop (mkF m 14 #[.val (.ref a), .val (.int v), .val (.int (0 : Int32)), .unset] [(.int (1 : Int32)), (.int (0 : Int32))])) _
    refine XS.icmpNo X2.here hx rfl (hb hby d8_14) rfl (XT.ii_ge_f (by decide)) ?_
    show Steps p.tables e below (T2.setTop (mkF m 17 #[.val (.ref a), .val (.int v), .val (.int (0 : Int32)), .unset] [])) _
    refine XS.aloadN X2.here hx rfl (hb hby d8_17) rfl rfl ?_
    show Steps p.tables e below (T2.setTop (mkF m 18 #[.val (.ref a), .val (.int v), .val (.int (0 : Int32)), .unset] [(.ref a)])) _
    refine st3 _ ?_
    show Steps p.tables e below (T3.setTop (mkF m 21 #[.val (.ref a), .val (.int v), .val (.int (0 : Int32)), .unset] [(.ref b1)])) _
    refine XS.iloadN X3.here hx rfl (hb hby d8_21) rfl ?_
    show Steps p.tables e below (T3.setTop (mkF m 22 #[.val (.ref a), .val (.int v), .val (.int (0 : Int32)), .unset] [(.int (0 : Int32)), (.ref b1)])) _
    refine X3.iaload hx (j := (0 : Int32)) (v := (.int y0)) (by rw [e3]; exact Ar_a4.1) (State.isArrayOf_alike hZ.alike Ar_a4.2.1) Ar_a4.2.2 hin_a4 hat_a4 (g := (mkF m 22 #[.val (.ref a), .val (.int v), .val (.int (0 : Int32)), .unset] [(.int (0 : Int32)), (.ref b1)])) rfl rfl (hb hby d8_22) _ ?_
    show Steps p.tables e below (T3.setTop (mkF m 23 #[.val (.ref a), .val (.int v), .val (.int (0 : Int32)), .unset] [(.int y0)])) _
    refine XS.iloadN X3.here hx rfl (hb hby d8_23) rfl ?_
    show Steps p.tables e below (T3.setTop (mkF m 24 #[.val (.ref a), .val (.int v), .val (.int (0 : Int32)), .unset] [(.int v), (.int y0)])) _
    refine XS.icmpYes X3.here hx rfl (pc0 := 24) (pc' := 29) rfl (hb hby d8_24) rfl (XT.ii_ne_t pr6) (by decide) (by decide) ?_
    show Steps p.tables e below (T3.setTop (mkF m 29 #[.val (.ref a), .val (.int v), .val (.int (0 : Int32)), .unset] [])) _
    refine XS.iinc X3.here hx rfl (hb hby d8_29) rfl (l' := #[.val (.ref a), .val (.int v), .val (.int (1 : Int32)), .unset]) rfl ?_
    show Steps p.tables e below (T3.setTop (mkF m 32 #[.val (.ref a), .val (.int v), .val (.int (1 : Int32)), .unset] [])) _
    refine XS.goto X3.here hx rfl (pc0 := 32) (pc' := 9) rfl (hb hby d8_32) (by decide) (by decide) ?_
    show Steps p.tables e below (T3.setTop (mkF m 9 #[.val (.ref a), .val (.int v), .val (.int (1 : Int32)), .unset] [])) _
    refine XS.iloadN X3.here hx rfl (hb hby d8_9) rfl ?_
    show Steps p.tables e below (T3.setTop (mkF m 10 #[.val (.ref a), .val (.int v), .val (.int (1 : Int32)), .unset] [(.int (1 : Int32))])) _
    refine XS.aloadN X3.here hx rfl (hb hby d8_10) rfl rfl ?_
    show Steps p.tables e below (T3.setTop (mkF m 11 #[.val (.ref a), .val (.int v), .val (.int (1 : Int32)), .unset] [(.ref a), (.int (1 : Int32))])) _
    refine st5 _ ?_
    show Steps p.tables e below (T5.setTop (mkF m 14 #[.val (.ref a), .val (.int v), .val (.int (1 : Int32)), .unset] [(.int (1 : Int32)), (.int (1 : Int32))])) _
    refine XS.icmpYes X5.here hx rfl (pc0 := 14) (pc' := 35) rfl (hb hby d8_14) rfl (XT.ii_ge_t (by decide)) (by decide) (by decide) ?_
    show Steps p.tables e below (T5.setTop (mkF m 35 #[.val (.ref a), .val (.int v), .val (.int (1 : Int32)), .unset] [])) _
    refine XT.iconstV X5.here hx rfl (-1 : Int32) (hb hby d8_35) (by decide) ?_
    show Steps p.tables e below (T5.setTop (mkF m 36 #[.val (.ref a), .val (.int v), .val (.int (1 : Int32)), .unset] [(.int (-1 : Int32))])) _
    exact kk
  obtain ⟨fs, hr, hrun, hended, hW, hsame⟩ := X5.leave (v := some (.int (-1 : Int32))) (fun h => by rw [Bd.returns] at h; cases h)
  refine ⟨_, _, P6 _ ?_, hrun, hended, _, _, rfl, ?_, ⟨_, rfl⟩, hW, hsame.mono (by decide) (by decide)⟩
  · exact retI X5 hx Bd.returns (hb hby d8_36) hr
  · show Q8 Z a v b1 k1 vs d1 y0 h0 n0 _ T5.heap _
    rw [e5]
    exact ⟨rfl, N0, rfl⟩
theorem d9_0 : decode prog_104_method_11_code 0 = .ok (.aload_n 0, 1) := by decide +kernel
theorem d9_1 : decode prog_104_method_11_code 1 = .ok (.getfield 31, 3) := by decide +kernel
theorem d9_4 : decode prog_104_method_11_code 4 = .ok (.ifCond .ne 33, 3) := by decide +kernel
theorem d9_7 : decode prog_104_method_11_code 7 = .ok (.iconst 0, 1) := by decide +kernel
theorem d9_8 : decode prog_104_method_11_code 8 = .ok (.istore_n 2, 1) := by decide +kernel
theorem d9_9 : decode prog_104_method_11_code 9 = .ok (.iload_n 2, 1) := by decide +kernel
theorem d9_10 : decode prog_104_method_11_code 10 = .ok (.aload_n 0, 1) := by decide +kernel
theorem d9_11 : decode prog_104_method_11_code 11 = .ok (.getfield 23, 3) := by decide +kernel
theorem d9_14 : decode prog_104_method_11_code 14 = .ok (.if_icmp .ge 21, 3) := by decide +kernel
theorem d9_17 : decode prog_104_method_11_code 17 = .ok (.aload_n 0, 1) := by decide +kernel
theorem d9_18 : decode prog_104_method_11_code 18 = .ok (.getfield 7, 3) := by decide +kernel
theorem d9_21 : decode prog_104_method_11_code 21 = .ok (.iload_n 2, 1) := by decide +kernel
theorem d9_22 : decode prog_104_method_11_code 22 = .ok (.iaload, 1) := by decide +kernel
theorem d9_23 : decode prog_104_method_11_code 23 = .ok (.iload_n 1, 1) := by decide +kernel
theorem d9_24 : decode prog_104_method_11_code 24 = .ok (.if_icmp .ne 5, 3) := by decide +kernel
theorem d9_27 : decode prog_104_method_11_code 27 = .ok (.iload_n 2, 1) := by decide +kernel
theorem d9_28 : decode prog_104_method_11_code 28 = .ok (.ireturn, 1) := by decide +kernel
theorem ef_9 (m : MethodId) (x0 : Addr) (x1 : Int32) : entryFrame m #[(.ref x0), (.int x1)] 4 = (mkF m 0 #[.val (.ref x0), .val (.int x1), .unset, .unset] []) := by first | (simp [entryFrame, mkF, argsToLocals, Value.category]; done) | rfl
def Q9 (Z : State) (a : Addr) (v : Int32) (b1 : Addr) (k1 : ClassId) (vs : List Value) (d1 : Value) (y0 : Int32) (h0 : Heap) (n0 : Nat) (vX : Option Value) (hX : Heap) (lX : List Loc) : Prop := vX = some (.int (0 : Int32)) ∧ Fr n0 lX ∧ (hX = h0)
set_option maxRecDepth 65536 in
set_option maxHeartbeats 40000000 in
theorem rm9 (l : Launch) (Z : State) (a0 : Array Value) (hw : ∀ d ∈ tables_1, d.before a0 Z = true) (ws : List Jvm.Cond) (a : Addr) (v : Int32) (b1 : Addr) (k1 : ClassId) (vs : List Value) (d1 : Value) (y0 : Int32) (h0 : Heap) (n0 : Nat) (Z0 : n0 ≤ h0.size) (pr0 : Exa Z h0 a "org/wayfold/search/Steps") (pr1 : Fld Z h0 a "org/wayfold/search/Steps" "hashed" "Z" (.int (0 : Int32))) (pr2 : Fld Z h0 a "org/wayfold/search/Steps" "size" "I" (.int (1 : Int32))) (pr3 : Fld Z h0 a "org/wayfold/search/Steps" "vertices" "[I" (.ref b1)) (pr4 : Arv Z h0 b1 k1 .int (16 : Int32) vs d1) (pr5 : vs.getD (0 : Int32).toNatClampNeg d1 = .int y0) (pr6 : y0 = v) :
    MetFree l (⟨"org/wayfold/search/Steps", "find", "(I)I"⟩ : MethodName) (head1 (Jvm.Cond.code (⟨"org/wayfold/search/Steps", "find", "(I)I"⟩ : MethodName) prog_104_method_11_code 4 (some .int) :: ws) ({ frames := 0, cells := 0, slots := 0, locals := 0 } : Room)) (fun aX uX => aX = #[(.ref a), (.int v)] ∧ Z.Warmed39 uX.vm ∧ uX.heap = h0) (fun _ _ _ _ _ => True) (fun _ uX oX wX => ∃ vX lX, oX = .returned vX ∧ Q9 Z a v b1 k1 vs d1 y0 h0 n0 vX wX.heap lX ∧ FrameEnd uX oX wX lX ({ frames := 0, cells := 0, slots := 0, locals := 0 } : Room).cells ({ frames := 0, cells := 0, slots := 0, locals := 0 } : Room).slots) := by
  refine MetFree.of_bodySF (plainFor_of_name pn_0) hisR ?_
  intro p e s m args below meth c s₁ Bd hml0 hP hK
  obtain ⟨rfl, hZ, hh⟩ := hP
  have hx := Bd.exec
  have hby := Bd.bytes
  have hml : c.maxLocals = 4 := hml0
  have hown : s.vm.findClass "org/wayfold/search/Steps" = some m.cls := findClass_of_methodNamed Bd.named
  have hnm := (name_of_methodNamed Bd.named Bd.method).1
  have X0 : Stand p l e ({ frames := 0, cells := 0, slots := 0, locals := 0 } : Room) s m #[(.ref a), (.int v)] below meth c s₁ [] 0 0 := Stand.of_body Bd
  have e0 : s₁.heap = h0 := by rw [← hh, Bd.state]; rfl
  have N0 := Fr.nil n0
  have pre0 : ∀ t, Steps p.tables e below (s₁.setTop (mkF m 0 #[.val (.ref a), .val (.int v), .unset, .unset] [])) t → Steps p.tables e below (s₁.setTop (entryFrame m #[(.ref a), (.int v)] 4)) t := fun t k => castTop (ef_9 m a v) k
  obtain ⟨T1, X1, e1, st1⟩ := getF X0 hx hZ hown (host := "") (Or.inl (hw _ (List.mem_of_getElem? (i := 31) rfl))) Via.refl e0 pr1 (g := (mkF m 1 #[.val (.ref a), .val (.int v), .unset, .unset] [(.ref a)])) rfl rfl (hb hby d9_1)
  obtain ⟨T2, X2, e2, st2⟩ := getF X1 hx hZ hown (host := "") (Or.inl (hw _ (List.mem_of_getElem? (i := 33) rfl))) Via.refl e1 pr2 (g := (mkF m 11 #[.val (.ref a), .val (.int v), .val (.int (0 : Int32)), .unset] [(.ref a), (.int (0 : Int32))])) rfl rfl (hb hby d9_11)
  obtain ⟨T3, X3, e3, st3⟩ := getF X2 hx hZ hown (host := "") (Or.inl (hw _ (List.mem_of_getElem? (i := 10) rfl))) Via.refl e2 pr3 (g := (mkF m 18 #[.val (.ref a), .val (.int v), .val (.int (0 : Int32)), .unset] [(.ref a)])) rfl rfl (hb hby d9_18)
  obtain ⟨cl_a4, Ar_a4, q_a4, S_a4, N_a4, H_a4, G_a4⟩ := id pr4
  have hin_a4 : ¬ ((0 : Int32) < 0 ∨ cl_a4.slots.size ≤ ((0 : Int32)).toNatClampNeg) := inb_of S_a4 ⟨by decide, by decide⟩
  have hat_a4 := Has.at (v := (.int y0)) H_a4 hin_a4 pr5
  have P5 : ∀ t, Steps p.tables e below (T3.setTop (mkF m 28 #[.val (.ref a), .val (.int v), .val (.int (0 : Int32)), .unset] [(.int (0 : Int32))])) t → Steps p.tables e below (s₁.setTop (entryFrame m #[(.ref a), (.int v)] 4)) t := by
    intro t kk
    refine pre0 _ ?_
    show Steps p.tables e below (s₁.setTop (mkF m 0 #[.val (.ref a), .val (.int v), .unset, .unset] [])) _
    refine XS.aloadN X0.here hx rfl (hb hby d9_0) rfl rfl ?_
    show Steps p.tables e below (s₁.setTop (mkF m 1 #[.val (.ref a), .val (.int v), .unset, .unset] [(.ref a)])) _
    refine st1 _ ?_
    show Steps p.tables e below (T1.setTop (mkF m 4 #[.val (.ref a), .val (.int v), .unset, .unset] [(.int (0 : Int32))])) _
    refine XS.ifNo X1.here hx rfl (hb hby d9_4) rfl (XT.i0_ne_f rfl) ?_
    show Steps p.tables e below (T1.setTop (mkF m 7 #[.val (.ref a), .val (.int v), .unset, .unset] [])) _
    refine XS.iconst X1.here hx rfl (hb hby d9_7) ?_
    show Steps p.tables e below (T1.setTop (mkF m 8 #[.val (.ref a), .val (.int v), .unset, .unset] [(.int (0 : Int32))])) _
    refine XS.istoreN X1.here hx rfl (hb hby d9_8) rfl (l' := #[.val (.ref a), .val (.int v), .val (.int (0 : Int32)), .unset]) rfl ?_
    show Steps p.tables e below (T1.setTop (mkF m 9 #[.val (.ref a), .val (.int v), .val (.int (0 : Int32)), .unset] [])) _
    refine XS.iloadN X1.here hx rfl (hb hby d9_9) rfl ?_
    show Steps p.tables e below (T1.setTop (mkF m 10 #[.val (.ref a), .val (.int v), .val (.int (0 : Int32)), .unset] [(.int (0 : Int32))])) _
    refine XS.aloadN X1.here hx rfl (hb hby d9_10) rfl rfl ?_
    show Steps p.tables e below (T1.setTop (mkF m 11 #[.val (.ref a), .val (.int v), .val (.int (0 : Int32)), .unset] [(.ref a), (.int (0 : Int32))])) _
    refine st2 _ ?_
    show Steps p.tables e below (T2.setTop (mkF m 14 #[.val (.ref a), .val (.int v), .val (.int (0 : Int32)), .unset] [(.int (1 : Int32)), (.int (0 : Int32))])) _
    refine XS.icmpNo X2.here hx rfl (hb hby d9_14) rfl (XT.ii_ge_f (by decide)) ?_
    show Steps p.tables e below (T2.setTop (mkF m 17 #[.val (.ref a), .val (.int v), .val (.int (0 : Int32)), .unset] [])) _
    refine XS.aloadN X2.here hx rfl (hb hby d9_17) rfl rfl ?_
    show Steps p.tables e below (T2.setTop (mkF m 18 #[.val (.ref a), .val (.int v), .val (.int (0 : Int32)), .unset] [(.ref a)])) _
    refine st3 _ ?_
    show Steps p.tables e below (T3.setTop (mkF m 21 #[.val (.ref a), .val (.int v), .val (.int (0 : Int32)), .unset] [(.ref b1)])) _
    refine XS.iloadN X3.here hx rfl (hb hby d9_21) rfl ?_
    show Steps p.tables e below (T3.setTop (mkF m 22 #[.val (.ref a), .val (.int v), .val (.int (0 : Int32)), .unset] [(.int (0 : Int32)), (.ref b1)])) _
    refine X3.iaload hx (j := (0 : Int32)) (v := (.int y0)) (by rw [e3]; exact Ar_a4.1) (State.isArrayOf_alike hZ.alike Ar_a4.2.1) Ar_a4.2.2 hin_a4 hat_a4 (g := (mkF m 22 #[.val (.ref a), .val (.int v), .val (.int (0 : Int32)), .unset] [(.int (0 : Int32)), (.ref b1)])) rfl rfl (hb hby d9_22) _ ?_
    show Steps p.tables e below (T3.setTop (mkF m 23 #[.val (.ref a), .val (.int v), .val (.int (0 : Int32)), .unset] [(.int y0)])) _
    refine XS.iloadN X3.here hx rfl (hb hby d9_23) rfl ?_
    show Steps p.tables e below (T3.setTop (mkF m 24 #[.val (.ref a), .val (.int v), .val (.int (0 : Int32)), .unset] [(.int v), (.int y0)])) _
    refine XS.icmpNo X3.here hx rfl (hb hby d9_24) rfl (XT.ii_ne_f pr6) ?_
    show Steps p.tables e below (T3.setTop (mkF m 27 #[.val (.ref a), .val (.int v), .val (.int (0 : Int32)), .unset] [])) _
    refine XS.iloadN X3.here hx rfl (hb hby d9_27) rfl ?_
    show Steps p.tables e below (T3.setTop (mkF m 28 #[.val (.ref a), .val (.int v), .val (.int (0 : Int32)), .unset] [(.int (0 : Int32))])) _
    exact kk
  obtain ⟨fs, hr, hrun, hended, hW, hsame⟩ := X3.leave (v := some (.int (0 : Int32))) (fun h => by rw [Bd.returns] at h; cases h)
  refine ⟨_, _, P5 _ ?_, hrun, hended, _, _, rfl, ?_, ⟨_, rfl⟩, hW, hsame.mono (by decide) (by decide)⟩
  · exact retI X3 hx Bd.returns (hb hby d9_28) hr
  · show Q9 Z a v b1 k1 vs d1 y0 h0 n0 _ T3.heap _
    rw [e3]
    exact ⟨rfl, N0, rfl⟩
theorem d10_0 : decode prog_104_method_11_code 0 = .ok (.aload_n 0, 1) := by decide +kernel
theorem d10_1 : decode prog_104_method_11_code 1 = .ok (.getfield 31, 3) := by decide +kernel
theorem d10_4 : decode prog_104_method_11_code 4 = .ok (.ifCond .ne 33, 3) := by decide +kernel
theorem d10_7 : decode prog_104_method_11_code 7 = .ok (.iconst 0, 1) := by decide +kernel
theorem d10_8 : decode prog_104_method_11_code 8 = .ok (.istore_n 2, 1) := by decide +kernel
theorem d10_9 : decode prog_104_method_11_code 9 = .ok (.iload_n 2, 1) := by decide +kernel
theorem d10_10 : decode prog_104_method_11_code 10 = .ok (.aload_n 0, 1) := by decide +kernel
theorem d10_11 : decode prog_104_method_11_code 11 = .ok (.getfield 23, 3) := by decide +kernel
theorem d10_14 : decode prog_104_method_11_code 14 = .ok (.if_icmp .ge 21, 3) := by decide +kernel
theorem d10_17 : decode prog_104_method_11_code 17 = .ok (.aload_n 0, 1) := by decide +kernel
theorem d10_18 : decode prog_104_method_11_code 18 = .ok (.getfield 7, 3) := by decide +kernel
theorem d10_21 : decode prog_104_method_11_code 21 = .ok (.iload_n 2, 1) := by decide +kernel
theorem d10_22 : decode prog_104_method_11_code 22 = .ok (.iaload, 1) := by decide +kernel
theorem d10_23 : decode prog_104_method_11_code 23 = .ok (.iload_n 1, 1) := by decide +kernel
theorem d10_24 : decode prog_104_method_11_code 24 = .ok (.if_icmp .ne 5, 3) := by decide +kernel
theorem d10_29 : decode prog_104_method_11_code 29 = .ok (.iinc 2 1, 3) := by decide +kernel
theorem d10_32 : decode prog_104_method_11_code 32 = .ok (.goto (-23), 3) := by decide +kernel
theorem d10_35 : decode prog_104_method_11_code 35 = .ok (.iconst (-1), 1) := by decide +kernel
theorem d10_36 : decode prog_104_method_11_code 36 = .ok (.ireturn, 1) := by decide +kernel
theorem ef_10 (m : MethodId) (x0 : Addr) (x1 : Int32) : entryFrame m #[(.ref x0), (.int x1)] 4 = (mkF m 0 #[.val (.ref x0), .val (.int x1), .unset, .unset] []) := by first | (simp [entryFrame, mkF, argsToLocals, Value.category]; done) | rfl
def Q10 (Z : State) (a : Addr) (v : Int32) (b1 : Addr) (k1 : ClassId) (vs : List Value) (d1 : Value) (y0 : Int32) (y1 : Int32) (h0 : Heap) (n0 : Nat) (vX : Option Value) (hX : Heap) (lX : List Loc) : Prop := vX = some (.int (-1 : Int32)) ∧ Fr n0 lX ∧ (hX = h0)
set_option maxRecDepth 65536 in
set_option maxHeartbeats 40000000 in
theorem rm10 (l : Launch) (Z : State) (a0 : Array Value) (hw : ∀ d ∈ tables_1, d.before a0 Z = true) (ws : List Jvm.Cond) (a : Addr) (v : Int32) (b1 : Addr) (k1 : ClassId) (vs : List Value) (d1 : Value) (y0 : Int32) (y1 : Int32) (h0 : Heap) (n0 : Nat) (Z0 : n0 ≤ h0.size) (pr0 : Exa Z h0 a "org/wayfold/search/Steps") (pr1 : Fld Z h0 a "org/wayfold/search/Steps" "hashed" "Z" (.int (0 : Int32))) (pr2 : Fld Z h0 a "org/wayfold/search/Steps" "size" "I" (.int (2 : Int32))) (pr3 : Fld Z h0 a "org/wayfold/search/Steps" "vertices" "[I" (.ref b1)) (pr4 : Arv Z h0 b1 k1 .int (16 : Int32) vs d1) (pr5 : vs.getD (0 : Int32).toNatClampNeg d1 = .int y0) (pr6 : ¬ y0 = v) (pr7 : vs.getD (1 : Int32).toNatClampNeg d1 = .int y1) (pr8 : ¬ y1 = v) :
    MetFree l (⟨"org/wayfold/search/Steps", "find", "(I)I"⟩ : MethodName) (head1 (Jvm.Cond.code (⟨"org/wayfold/search/Steps", "find", "(I)I"⟩ : MethodName) prog_104_method_11_code 4 (some .int) :: ws) ({ frames := 0, cells := 0, slots := 0, locals := 0 } : Room)) (fun aX uX => aX = #[(.ref a), (.int v)] ∧ Z.Warmed39 uX.vm ∧ uX.heap = h0) (fun _ _ _ _ _ => True) (fun _ uX oX wX => ∃ vX lX, oX = .returned vX ∧ Q10 Z a v b1 k1 vs d1 y0 y1 h0 n0 vX wX.heap lX ∧ FrameEnd uX oX wX lX ({ frames := 0, cells := 0, slots := 0, locals := 0 } : Room).cells ({ frames := 0, cells := 0, slots := 0, locals := 0 } : Room).slots) := by
  refine MetFree.of_bodySF (plainFor_of_name pn_0) hisR ?_
  intro p e s m args below meth c s₁ Bd hml0 hP hK
  obtain ⟨rfl, hZ, hh⟩ := hP
  have hx := Bd.exec
  have hby := Bd.bytes
  have hml : c.maxLocals = 4 := hml0
  have hown : s.vm.findClass "org/wayfold/search/Steps" = some m.cls := findClass_of_methodNamed Bd.named
  have hnm := (name_of_methodNamed Bd.named Bd.method).1
  have X0 : Stand p l e ({ frames := 0, cells := 0, slots := 0, locals := 0 } : Room) s m #[(.ref a), (.int v)] below meth c s₁ [] 0 0 := Stand.of_body Bd
  have e0 : s₁.heap = h0 := by rw [← hh, Bd.state]; rfl
  have N0 := Fr.nil n0
  have pre0 : ∀ t, Steps p.tables e below (s₁.setTop (mkF m 0 #[.val (.ref a), .val (.int v), .unset, .unset] [])) t → Steps p.tables e below (s₁.setTop (entryFrame m #[(.ref a), (.int v)] 4)) t := fun t k => castTop (ef_10 m a v) k
  obtain ⟨T1, X1, e1, st1⟩ := getF X0 hx hZ hown (host := "") (Or.inl (hw _ (List.mem_of_getElem? (i := 31) rfl))) Via.refl e0 pr1 (g := (mkF m 1 #[.val (.ref a), .val (.int v), .unset, .unset] [(.ref a)])) rfl rfl (hb hby d10_1)
  obtain ⟨T2, X2, e2, st2⟩ := getF X1 hx hZ hown (host := "") (Or.inl (hw _ (List.mem_of_getElem? (i := 33) rfl))) Via.refl e1 pr2 (g := (mkF m 11 #[.val (.ref a), .val (.int v), .val (.int (0 : Int32)), .unset] [(.ref a), (.int (0 : Int32))])) rfl rfl (hb hby d10_11)
  obtain ⟨T3, X3, e3, st3⟩ := getF X2 hx hZ hown (host := "") (Or.inl (hw _ (List.mem_of_getElem? (i := 10) rfl))) Via.refl e2 pr3 (g := (mkF m 18 #[.val (.ref a), .val (.int v), .val (.int (0 : Int32)), .unset] [(.ref a)])) rfl rfl (hb hby d10_18)
  obtain ⟨cl_a4, Ar_a4, q_a4, S_a4, N_a4, H_a4, G_a4⟩ := id pr4
  have hin_a4 : ¬ ((0 : Int32) < 0 ∨ cl_a4.slots.size ≤ ((0 : Int32)).toNatClampNeg) := inb_of S_a4 ⟨by decide, by decide⟩
  have hat_a4 := Has.at (v := (.int y0)) H_a4 hin_a4 pr5
  obtain ⟨T5, X5, e5, st5⟩ := getF X3 hx hZ hown (host := "") (Or.inl (hw _ (List.mem_of_getElem? (i := 33) rfl))) Via.refl e3 pr2 (g := (mkF m 11 #[.val (.ref a), .val (.int v), .val (.int (1 : Int32)), .unset] [(.ref a), (.int (1 : Int32))])) rfl rfl (hb hby d10_11)
  obtain ⟨T6, X6, e6, st6⟩ := getF X5 hx hZ hown (host := "") (Or.inl (hw _ (List.mem_of_getElem? (i := 10) rfl))) Via.refl e5 pr3 (g := (mkF m 18 #[.val (.ref a), .val (.int v), .val (.int (1 : Int32)), .unset] [(.ref a)])) rfl rfl (hb hby d10_18)
  obtain ⟨cl_a7, Ar_a7, q_a7, S_a7, N_a7, H_a7, G_a7⟩ := id pr4
  have hin_a7 : ¬ ((1 : Int32) < 0 ∨ cl_a7.slots.size ≤ ((1 : Int32)).toNatClampNeg) := inb_of S_a7 ⟨by decide, by decide⟩
  have hat_a7 := Has.at (v := (.int y1)) H_a7 hin_a7 pr7
  have P8 : ∀ t, Steps p.tables e below (T6.setTop (mkF m 10 #[.val (.ref a), .val (.int v), .val (.int (2 : Int32)), .unset] [(.int (2 : Int32))])) t → Steps p.tables e below (s₁.setTop (entryFrame m #[(.ref a), (.int v)] 4)) t := by
    intro t kk
    refine pre0 _ ?_
    show Steps p.tables e below (s₁.setTop (mkF m 0 #[.val (.ref a), .val (.int v), .unset, .unset] [])) _
    refine XS.aloadN X0.here hx rfl (hb hby d10_0) rfl rfl ?_
    show Steps p.tables e below (s₁.setTop (mkF m 1 #[.val (.ref a), .val (.int v), .unset, .unset] [(.ref a)])) _
    refine st1 _ ?_
    show Steps p.tables e below (T1.setTop (mkF m 4 #[.val (.ref a), .val (.int v), .unset, .unset] [(.int (0 : Int32))])) _
    refine XS.ifNo X1.here hx rfl (hb hby d10_4) rfl (XT.i0_ne_f rfl) ?_
    show Steps p.tables e below (T1.setTop (mkF m 7 #[.val (.ref a), .val (.int v), .unset, .unset] [])) _
    refine XS.iconst X1.here hx rfl (hb hby d10_7) ?_
    show Steps p.tables e below (T1.setTop (mkF m 8 #[.val (.ref a), .val (.int v), .unset, .unset] [(.int (0 : Int32))])) _
    refine XS.istoreN X1.here hx rfl (hb hby d10_8) rfl (l' := #[.val (.ref a), .val (.int v), .val (.int (0 : Int32)), .unset]) rfl ?_
    show Steps p.tables e below (T1.setTop (mkF m 9 #[.val (.ref a), .val (.int v), .val (.int (0 : Int32)), .unset] [])) _
    refine XS.iloadN X1.here hx rfl (hb hby d10_9) rfl ?_
    show Steps p.tables e below (T1.setTop (mkF m 10 #[.val (.ref a), .val (.int v), .val (.int (0 : Int32)), .unset] [(.int (0 : Int32))])) _
    refine XS.aloadN X1.here hx rfl (hb hby d10_10) rfl rfl ?_
    show Steps p.tables e below (T1.setTop (mkF m 11 #[.val (.ref a), .val (.int v), .val (.int (0 : Int32)), .unset] [(.ref a), (.int (0 : Int32))])) _
    refine st2 _ ?_
    show Steps p.tables e below (T2.setTop (mkF m 14 #[.val (.ref a), .val (.int v), .val (.int (0 : Int32)), .unset] [(.int (2 : Int32)), (.int (0 : Int32))])) _
    refine XS.icmpNo X2.here hx rfl (hb hby d10_14) rfl (XT.ii_ge_f (by decide)) ?_
    show Steps p.tables e below (T2.setTop (mkF m 17 #[.val (.ref a), .val (.int v), .val (.int (0 : Int32)), .unset] [])) _
    refine XS.aloadN X2.here hx rfl (hb hby d10_17) rfl rfl ?_
    show Steps p.tables e below (T2.setTop (mkF m 18 #[.val (.ref a), .val (.int v), .val (.int (0 : Int32)), .unset] [(.ref a)])) _
    refine st3 _ ?_
    show Steps p.tables e below (T3.setTop (mkF m 21 #[.val (.ref a), .val (.int v), .val (.int (0 : Int32)), .unset] [(.ref b1)])) _
    refine XS.iloadN X3.here hx rfl (hb hby d10_21) rfl ?_
    show Steps p.tables e below (T3.setTop (mkF m 22 #[.val (.ref a), .val (.int v), .val (.int (0 : Int32)), .unset] [(.int (0 : Int32)), (.ref b1)])) _
    refine X3.iaload hx (j := (0 : Int32)) (v := (.int y0)) (by rw [e3]; exact Ar_a4.1) (State.isArrayOf_alike hZ.alike Ar_a4.2.1) Ar_a4.2.2 hin_a4 hat_a4 (g := (mkF m 22 #[.val (.ref a), .val (.int v), .val (.int (0 : Int32)), .unset] [(.int (0 : Int32)), (.ref b1)])) rfl rfl (hb hby d10_22) _ ?_
    show Steps p.tables e below (T3.setTop (mkF m 23 #[.val (.ref a), .val (.int v), .val (.int (0 : Int32)), .unset] [(.int y0)])) _
    refine XS.iloadN X3.here hx rfl (hb hby d10_23) rfl ?_
    show Steps p.tables e below (T3.setTop (mkF m 24 #[.val (.ref a), .val (.int v), .val (.int (0 : Int32)), .unset] [(.int v), (.int y0)])) _
    refine XS.icmpYes X3.here hx rfl (pc0 := 24) (pc' := 29) rfl (hb hby d10_24) rfl (XT.ii_ne_t pr6) (by decide) (by decide) ?_
    show Steps p.tables e below (T3.setTop (mkF m 29 #[.val (.ref a), .val (.int v), .val (.int (0 : Int32)), .unset] [])) _
    refine XS.iinc X3.here hx rfl (hb hby d10_29) rfl (l' := #[.val (.ref a), .val (.int v), .val (.int (1 : Int32)), .unset]) rfl ?_
    show Steps p.tables e below (T3.setTop (mkF m 32 #[.val (.ref a), .val (.int v), .val (.int (1 : Int32)), .unset] [])) _
    refine XS.goto X3.here hx rfl (pc0 := 32) (pc' := 9) rfl (hb hby d10_32) (by decide) (by decide) ?_
    show Steps p.tables e below (T3.setTop (mkF m 9 #[.val (.ref a), .val (.int v), .val (.int (1 : Int32)), .unset] [])) _
    refine XS.iloadN X3.here hx rfl (hb hby d10_9) rfl ?_
    show Steps p.tables e below (T3.setTop (mkF m 10 #[.val (.ref a), .val (.int v), .val (.int (1 : Int32)), .unset] [(.int (1 : Int32))])) _
    refine XS.aloadN X3.here hx rfl (hb hby d10_10) rfl rfl ?_
    show Steps p.tables e below (T3.setTop (mkF m 11 #[.val (.ref a), .val (.int v), .val (.int (1 : Int32)), .unset] [(.ref a), (.int (1 : Int32))])) _
    refine st5 _ ?_
    show Steps p.tables e below (T5.setTop (mkF m 14 #[.val (.ref a), .val (.int v), .val (.int (1 : Int32)), .unset] [(.int (2 : Int32)), (.int (1 : Int32))])) _
    refine XS.icmpNo X5.here hx rfl (hb hby d10_14) rfl (XT.ii_ge_f (by decide)) ?_
    show Steps p.tables e below (T5.setTop (mkF m 17 #[.val (.ref a), .val (.int v), .val (.int (1 : Int32)), .unset] [])) _
    refine XS.aloadN X5.here hx rfl (hb hby d10_17) rfl rfl ?_
    show Steps p.tables e below (T5.setTop (mkF m 18 #[.val (.ref a), .val (.int v), .val (.int (1 : Int32)), .unset] [(.ref a)])) _
    refine st6 _ ?_
    show Steps p.tables e below (T6.setTop (mkF m 21 #[.val (.ref a), .val (.int v), .val (.int (1 : Int32)), .unset] [(.ref b1)])) _
    refine XS.iloadN X6.here hx rfl (hb hby d10_21) rfl ?_
    show Steps p.tables e below (T6.setTop (mkF m 22 #[.val (.ref a), .val (.int v), .val (.int (1 : Int32)), .unset] [(.int (1 : Int32)), (.ref b1)])) _
    refine X6.iaload hx (j := (1 : Int32)) (v := (.int y1)) (by rw [e6]; exact Ar_a7.1) (State.isArrayOf_alike hZ.alike Ar_a7.2.1) Ar_a7.2.2 hin_a7 hat_a7 (g := (mkF m 22 #[.val (.ref a), .val (.int v), .val (.int (1 : Int32)), .unset] [(.int (1 : Int32)), (.ref b1)])) rfl rfl (hb hby d10_22) _ ?_
    show Steps p.tables e below (T6.setTop (mkF m 23 #[.val (.ref a), .val (.int v), .val (.int (1 : Int32)), .unset] [(.int y1)])) _
    refine XS.iloadN X6.here hx rfl (hb hby d10_23) rfl ?_
    show Steps p.tables e below (T6.setTop (mkF m 24 #[.val (.ref a), .val (.int v), .val (.int (1 : Int32)), .unset] [(.int v), (.int y1)])) _
    refine XS.icmpYes X6.here hx rfl (pc0 := 24) (pc' := 29) rfl (hb hby d10_24) rfl (XT.ii_ne_t pr8) (by decide) (by decide) ?_
    show Steps p.tables e below (T6.setTop (mkF m 29 #[.val (.ref a), .val (.int v), .val (.int (1 : Int32)), .unset] [])) _
    refine XS.iinc X6.here hx rfl (hb hby d10_29) rfl (l' := #[.val (.ref a), .val (.int v), .val (.int (2 : Int32)), .unset]) rfl ?_
    show Steps p.tables e below (T6.setTop (mkF m 32 #[.val (.ref a), .val (.int v), .val (.int (2 : Int32)), .unset] [])) _
    refine XS.goto X6.here hx rfl (pc0 := 32) (pc' := 9) rfl (hb hby d10_32) (by decide) (by decide) ?_
    show Steps p.tables e below (T6.setTop (mkF m 9 #[.val (.ref a), .val (.int v), .val (.int (2 : Int32)), .unset] [])) _
    refine XS.iloadN X6.here hx rfl (hb hby d10_9) rfl ?_
    show Steps p.tables e below (T6.setTop (mkF m 10 #[.val (.ref a), .val (.int v), .val (.int (2 : Int32)), .unset] [(.int (2 : Int32))])) _
    exact kk
  obtain ⟨T9, X9, e9, st9⟩ := getF X6 hx hZ hown (host := "") (Or.inl (hw _ (List.mem_of_getElem? (i := 33) rfl))) Via.refl e6 pr2 (g := (mkF m 11 #[.val (.ref a), .val (.int v), .val (.int (2 : Int32)), .unset] [(.ref a), (.int (2 : Int32))])) rfl rfl (hb hby d10_11)
  have P10 : ∀ t, Steps p.tables e below (T9.setTop (mkF m 36 #[.val (.ref a), .val (.int v), .val (.int (2 : Int32)), .unset] [(.int (-1 : Int32))])) t → Steps p.tables e below (s₁.setTop (entryFrame m #[(.ref a), (.int v)] 4)) t := by
    intro t kk
    refine P8 _ ?_
    show Steps p.tables e below (T6.setTop (mkF m 10 #[.val (.ref a), .val (.int v), .val (.int (2 : Int32)), .unset] [(.int (2 : Int32))])) _
    refine XS.aloadN X6.here hx rfl (hb hby d10_10) rfl rfl ?_
    show Steps p.tables e below (T6.setTop (mkF m 11 #[.val (.ref a), .val (.int v), .val (.int (2 : Int32)), .unset] [(.ref a), (.int (2 : Int32))])) _
    refine st9 _ ?_
    show Steps p.tables e below (T9.setTop (mkF m 14 #[.val (.ref a), .val (.int v), .val (.int (2 : Int32)), .unset] [(.int (2 : Int32)), (.int (2 : Int32))])) _
    refine XS.icmpYes X9.here hx rfl (pc0 := 14) (pc' := 35) rfl (hb hby d10_14) rfl (XT.ii_ge_t (by decide)) (by decide) (by decide) ?_
    show Steps p.tables e below (T9.setTop (mkF m 35 #[.val (.ref a), .val (.int v), .val (.int (2 : Int32)), .unset] [])) _
    refine XT.iconstV X9.here hx rfl (-1 : Int32) (hb hby d10_35) (by decide) ?_
    show Steps p.tables e below (T9.setTop (mkF m 36 #[.val (.ref a), .val (.int v), .val (.int (2 : Int32)), .unset] [(.int (-1 : Int32))])) _
    exact kk
  obtain ⟨fs, hr, hrun, hended, hW, hsame⟩ := X9.leave (v := some (.int (-1 : Int32))) (fun h => by rw [Bd.returns] at h; cases h)
  refine ⟨_, _, P10 _ ?_, hrun, hended, _, _, rfl, ?_, ⟨_, rfl⟩, hW, hsame.mono (by decide) (by decide)⟩
  · exact retI X9 hx Bd.returns (hb hby d10_36) hr
  · show Q10 Z a v b1 k1 vs d1 y0 y1 h0 n0 _ T9.heap _
    rw [e9]
    exact ⟨rfl, N0, rfl⟩
theorem d11_0 : decode prog_104_method_11_code 0 = .ok (.aload_n 0, 1) := by decide +kernel
theorem d11_1 : decode prog_104_method_11_code 1 = .ok (.getfield 31, 3) := by decide +kernel
theorem d11_4 : decode prog_104_method_11_code 4 = .ok (.ifCond .ne 33, 3) := by decide +kernel
theorem d11_7 : decode prog_104_method_11_code 7 = .ok (.iconst 0, 1) := by decide +kernel
theorem d11_8 : decode prog_104_method_11_code 8 = .ok (.istore_n 2, 1) := by decide +kernel
theorem d11_9 : decode prog_104_method_11_code 9 = .ok (.iload_n 2, 1) := by decide +kernel
theorem d11_10 : decode prog_104_method_11_code 10 = .ok (.aload_n 0, 1) := by decide +kernel
theorem d11_11 : decode prog_104_method_11_code 11 = .ok (.getfield 23, 3) := by decide +kernel
theorem d11_14 : decode prog_104_method_11_code 14 = .ok (.if_icmp .ge 21, 3) := by decide +kernel
theorem d11_17 : decode prog_104_method_11_code 17 = .ok (.aload_n 0, 1) := by decide +kernel
theorem d11_18 : decode prog_104_method_11_code 18 = .ok (.getfield 7, 3) := by decide +kernel
theorem d11_21 : decode prog_104_method_11_code 21 = .ok (.iload_n 2, 1) := by decide +kernel
theorem d11_22 : decode prog_104_method_11_code 22 = .ok (.iaload, 1) := by decide +kernel
theorem d11_23 : decode prog_104_method_11_code 23 = .ok (.iload_n 1, 1) := by decide +kernel
theorem d11_24 : decode prog_104_method_11_code 24 = .ok (.if_icmp .ne 5, 3) := by decide +kernel
theorem d11_27 : decode prog_104_method_11_code 27 = .ok (.iload_n 2, 1) := by decide +kernel
theorem d11_28 : decode prog_104_method_11_code 28 = .ok (.ireturn, 1) := by decide +kernel
theorem ef_11 (m : MethodId) (x0 : Addr) (x1 : Int32) : entryFrame m #[(.ref x0), (.int x1)] 4 = (mkF m 0 #[.val (.ref x0), .val (.int x1), .unset, .unset] []) := by first | (simp [entryFrame, mkF, argsToLocals, Value.category]; done) | rfl
def Q11 (Z : State) (a : Addr) (v : Int32) (b1 : Addr) (k1 : ClassId) (vs : List Value) (d1 : Value) (y0 : Int32) (h0 : Heap) (n0 : Nat) (vX : Option Value) (hX : Heap) (lX : List Loc) : Prop := vX = some (.int (0 : Int32)) ∧ Fr n0 lX ∧ (hX = h0)
set_option maxRecDepth 65536 in
set_option maxHeartbeats 40000000 in
theorem rm11 (l : Launch) (Z : State) (a0 : Array Value) (hw : ∀ d ∈ tables_1, d.before a0 Z = true) (ws : List Jvm.Cond) (a : Addr) (v : Int32) (b1 : Addr) (k1 : ClassId) (vs : List Value) (d1 : Value) (y0 : Int32) (h0 : Heap) (n0 : Nat) (Z0 : n0 ≤ h0.size) (pr0 : Exa Z h0 a "org/wayfold/search/Steps") (pr1 : Fld Z h0 a "org/wayfold/search/Steps" "hashed" "Z" (.int (0 : Int32))) (pr2 : Fld Z h0 a "org/wayfold/search/Steps" "size" "I" (.int (2 : Int32))) (pr3 : Fld Z h0 a "org/wayfold/search/Steps" "vertices" "[I" (.ref b1)) (pr4 : Arv Z h0 b1 k1 .int (16 : Int32) vs d1) (pr5 : vs.getD (0 : Int32).toNatClampNeg d1 = .int y0) (pr6 : y0 = v) :
    MetFree l (⟨"org/wayfold/search/Steps", "find", "(I)I"⟩ : MethodName) (head1 (Jvm.Cond.code (⟨"org/wayfold/search/Steps", "find", "(I)I"⟩ : MethodName) prog_104_method_11_code 4 (some .int) :: ws) ({ frames := 0, cells := 0, slots := 0, locals := 0 } : Room)) (fun aX uX => aX = #[(.ref a), (.int v)] ∧ Z.Warmed39 uX.vm ∧ uX.heap = h0) (fun _ _ _ _ _ => True) (fun _ uX oX wX => ∃ vX lX, oX = .returned vX ∧ Q11 Z a v b1 k1 vs d1 y0 h0 n0 vX wX.heap lX ∧ FrameEnd uX oX wX lX ({ frames := 0, cells := 0, slots := 0, locals := 0 } : Room).cells ({ frames := 0, cells := 0, slots := 0, locals := 0 } : Room).slots) := by
  refine MetFree.of_bodySF (plainFor_of_name pn_0) hisR ?_
  intro p e s m args below meth c s₁ Bd hml0 hP hK
  obtain ⟨rfl, hZ, hh⟩ := hP
  have hx := Bd.exec
  have hby := Bd.bytes
  have hml : c.maxLocals = 4 := hml0
  have hown : s.vm.findClass "org/wayfold/search/Steps" = some m.cls := findClass_of_methodNamed Bd.named
  have hnm := (name_of_methodNamed Bd.named Bd.method).1
  have X0 : Stand p l e ({ frames := 0, cells := 0, slots := 0, locals := 0 } : Room) s m #[(.ref a), (.int v)] below meth c s₁ [] 0 0 := Stand.of_body Bd
  have e0 : s₁.heap = h0 := by rw [← hh, Bd.state]; rfl
  have N0 := Fr.nil n0
  have pre0 : ∀ t, Steps p.tables e below (s₁.setTop (mkF m 0 #[.val (.ref a), .val (.int v), .unset, .unset] [])) t → Steps p.tables e below (s₁.setTop (entryFrame m #[(.ref a), (.int v)] 4)) t := fun t k => castTop (ef_11 m a v) k
  obtain ⟨T1, X1, e1, st1⟩ := getF X0 hx hZ hown (host := "") (Or.inl (hw _ (List.mem_of_getElem? (i := 31) rfl))) Via.refl e0 pr1 (g := (mkF m 1 #[.val (.ref a), .val (.int v), .unset, .unset] [(.ref a)])) rfl rfl (hb hby d11_1)
  obtain ⟨T2, X2, e2, st2⟩ := getF X1 hx hZ hown (host := "") (Or.inl (hw _ (List.mem_of_getElem? (i := 33) rfl))) Via.refl e1 pr2 (g := (mkF m 11 #[.val (.ref a), .val (.int v), .val (.int (0 : Int32)), .unset] [(.ref a), (.int (0 : Int32))])) rfl rfl (hb hby d11_11)
  obtain ⟨T3, X3, e3, st3⟩ := getF X2 hx hZ hown (host := "") (Or.inl (hw _ (List.mem_of_getElem? (i := 10) rfl))) Via.refl e2 pr3 (g := (mkF m 18 #[.val (.ref a), .val (.int v), .val (.int (0 : Int32)), .unset] [(.ref a)])) rfl rfl (hb hby d11_18)
  obtain ⟨cl_a4, Ar_a4, q_a4, S_a4, N_a4, H_a4, G_a4⟩ := id pr4
  have hin_a4 : ¬ ((0 : Int32) < 0 ∨ cl_a4.slots.size ≤ ((0 : Int32)).toNatClampNeg) := inb_of S_a4 ⟨by decide, by decide⟩
  have hat_a4 := Has.at (v := (.int y0)) H_a4 hin_a4 pr5
  have P5 : ∀ t, Steps p.tables e below (T3.setTop (mkF m 28 #[.val (.ref a), .val (.int v), .val (.int (0 : Int32)), .unset] [(.int (0 : Int32))])) t → Steps p.tables e below (s₁.setTop (entryFrame m #[(.ref a), (.int v)] 4)) t := by
    intro t kk
    refine pre0 _ ?_
    show Steps p.tables e below (s₁.setTop (mkF m 0 #[.val (.ref a), .val (.int v), .unset, .unset] [])) _
    refine XS.aloadN X0.here hx rfl (hb hby d11_0) rfl rfl ?_
    show Steps p.tables e below (s₁.setTop (mkF m 1 #[.val (.ref a), .val (.int v), .unset, .unset] [(.ref a)])) _
    refine st1 _ ?_
    show Steps p.tables e below (T1.setTop (mkF m 4 #[.val (.ref a), .val (.int v), .unset, .unset] [(.int (0 : Int32))])) _
    refine XS.ifNo X1.here hx rfl (hb hby d11_4) rfl (XT.i0_ne_f rfl) ?_
    show Steps p.tables e below (T1.setTop (mkF m 7 #[.val (.ref a), .val (.int v), .unset, .unset] [])) _
    refine XS.iconst X1.here hx rfl (hb hby d11_7) ?_
    show Steps p.tables e below (T1.setTop (mkF m 8 #[.val (.ref a), .val (.int v), .unset, .unset] [(.int (0 : Int32))])) _
    refine XS.istoreN X1.here hx rfl (hb hby d11_8) rfl (l' := #[.val (.ref a), .val (.int v), .val (.int (0 : Int32)), .unset]) rfl ?_
    show Steps p.tables e below (T1.setTop (mkF m 9 #[.val (.ref a), .val (.int v), .val (.int (0 : Int32)), .unset] [])) _
    refine XS.iloadN X1.here hx rfl (hb hby d11_9) rfl ?_
    show Steps p.tables e below (T1.setTop (mkF m 10 #[.val (.ref a), .val (.int v), .val (.int (0 : Int32)), .unset] [(.int (0 : Int32))])) _
    refine XS.aloadN X1.here hx rfl (hb hby d11_10) rfl rfl ?_
    show Steps p.tables e below (T1.setTop (mkF m 11 #[.val (.ref a), .val (.int v), .val (.int (0 : Int32)), .unset] [(.ref a), (.int (0 : Int32))])) _
    refine st2 _ ?_
    show Steps p.tables e below (T2.setTop (mkF m 14 #[.val (.ref a), .val (.int v), .val (.int (0 : Int32)), .unset] [(.int (2 : Int32)), (.int (0 : Int32))])) _
    refine XS.icmpNo X2.here hx rfl (hb hby d11_14) rfl (XT.ii_ge_f (by decide)) ?_
    show Steps p.tables e below (T2.setTop (mkF m 17 #[.val (.ref a), .val (.int v), .val (.int (0 : Int32)), .unset] [])) _
    refine XS.aloadN X2.here hx rfl (hb hby d11_17) rfl rfl ?_
    show Steps p.tables e below (T2.setTop (mkF m 18 #[.val (.ref a), .val (.int v), .val (.int (0 : Int32)), .unset] [(.ref a)])) _
    refine st3 _ ?_
    show Steps p.tables e below (T3.setTop (mkF m 21 #[.val (.ref a), .val (.int v), .val (.int (0 : Int32)), .unset] [(.ref b1)])) _
    refine XS.iloadN X3.here hx rfl (hb hby d11_21) rfl ?_
    show Steps p.tables e below (T3.setTop (mkF m 22 #[.val (.ref a), .val (.int v), .val (.int (0 : Int32)), .unset] [(.int (0 : Int32)), (.ref b1)])) _
    refine X3.iaload hx (j := (0 : Int32)) (v := (.int y0)) (by rw [e3]; exact Ar_a4.1) (State.isArrayOf_alike hZ.alike Ar_a4.2.1) Ar_a4.2.2 hin_a4 hat_a4 (g := (mkF m 22 #[.val (.ref a), .val (.int v), .val (.int (0 : Int32)), .unset] [(.int (0 : Int32)), (.ref b1)])) rfl rfl (hb hby d11_22) _ ?_
    show Steps p.tables e below (T3.setTop (mkF m 23 #[.val (.ref a), .val (.int v), .val (.int (0 : Int32)), .unset] [(.int y0)])) _
    refine XS.iloadN X3.here hx rfl (hb hby d11_23) rfl ?_
    show Steps p.tables e below (T3.setTop (mkF m 24 #[.val (.ref a), .val (.int v), .val (.int (0 : Int32)), .unset] [(.int v), (.int y0)])) _
    refine XS.icmpNo X3.here hx rfl (hb hby d11_24) rfl (XT.ii_ne_f pr6) ?_
    show Steps p.tables e below (T3.setTop (mkF m 27 #[.val (.ref a), .val (.int v), .val (.int (0 : Int32)), .unset] [])) _
    refine XS.iloadN X3.here hx rfl (hb hby d11_27) rfl ?_
    show Steps p.tables e below (T3.setTop (mkF m 28 #[.val (.ref a), .val (.int v), .val (.int (0 : Int32)), .unset] [(.int (0 : Int32))])) _
    exact kk
  obtain ⟨fs, hr, hrun, hended, hW, hsame⟩ := X3.leave (v := some (.int (0 : Int32))) (fun h => by rw [Bd.returns] at h; cases h)
  refine ⟨_, _, P5 _ ?_, hrun, hended, _, _, rfl, ?_, ⟨_, rfl⟩, hW, hsame.mono (by decide) (by decide)⟩
  · exact retI X3 hx Bd.returns (hb hby d11_28) hr
  · show Q11 Z a v b1 k1 vs d1 y0 h0 n0 _ T3.heap _
    rw [e3]
    exact ⟨rfl, N0, rfl⟩
theorem d12_0 : decode prog_104_method_11_code 0 = .ok (.aload_n 0, 1) := by decide +kernel
theorem d12_1 : decode prog_104_method_11_code 1 = .ok (.getfield 31, 3) := by decide +kernel
theorem d12_4 : decode prog_104_method_11_code 4 = .ok (.ifCond .ne 33, 3) := by decide +kernel
theorem d12_7 : decode prog_104_method_11_code 7 = .ok (.iconst 0, 1) := by decide +kernel
theorem d12_8 : decode prog_104_method_11_code 8 = .ok (.istore_n 2, 1) := by decide +kernel
theorem d12_9 : decode prog_104_method_11_code 9 = .ok (.iload_n 2, 1) := by decide +kernel
theorem d12_10 : decode prog_104_method_11_code 10 = .ok (.aload_n 0, 1) := by decide +kernel
theorem d12_11 : decode prog_104_method_11_code 11 = .ok (.getfield 23, 3) := by decide +kernel
theorem d12_14 : decode prog_104_method_11_code 14 = .ok (.if_icmp .ge 21, 3) := by decide +kernel
theorem d12_17 : decode prog_104_method_11_code 17 = .ok (.aload_n 0, 1) := by decide +kernel
theorem d12_18 : decode prog_104_method_11_code 18 = .ok (.getfield 7, 3) := by decide +kernel
theorem d12_21 : decode prog_104_method_11_code 21 = .ok (.iload_n 2, 1) := by decide +kernel
theorem d12_22 : decode prog_104_method_11_code 22 = .ok (.iaload, 1) := by decide +kernel
theorem d12_23 : decode prog_104_method_11_code 23 = .ok (.iload_n 1, 1) := by decide +kernel
theorem d12_24 : decode prog_104_method_11_code 24 = .ok (.if_icmp .ne 5, 3) := by decide +kernel
theorem d12_27 : decode prog_104_method_11_code 27 = .ok (.iload_n 2, 1) := by decide +kernel
theorem d12_28 : decode prog_104_method_11_code 28 = .ok (.ireturn, 1) := by decide +kernel
theorem d12_29 : decode prog_104_method_11_code 29 = .ok (.iinc 2 1, 3) := by decide +kernel
theorem d12_32 : decode prog_104_method_11_code 32 = .ok (.goto (-23), 3) := by decide +kernel
theorem ef_12 (m : MethodId) (x0 : Addr) (x1 : Int32) : entryFrame m #[(.ref x0), (.int x1)] 4 = (mkF m 0 #[.val (.ref x0), .val (.int x1), .unset, .unset] []) := by first | (simp [entryFrame, mkF, argsToLocals, Value.category]; done) | rfl
def Q12 (Z : State) (a : Addr) (v : Int32) (b1 : Addr) (k1 : ClassId) (vs : List Value) (d1 : Value) (y0 : Int32) (y1 : Int32) (h0 : Heap) (n0 : Nat) (vX : Option Value) (hX : Heap) (lX : List Loc) : Prop := vX = some (.int (1 : Int32)) ∧ Fr n0 lX ∧ (hX = h0)
set_option maxRecDepth 65536 in
set_option maxHeartbeats 40000000 in
theorem rm12 (l : Launch) (Z : State) (a0 : Array Value) (hw : ∀ d ∈ tables_1, d.before a0 Z = true) (ws : List Jvm.Cond) (a : Addr) (v : Int32) (b1 : Addr) (k1 : ClassId) (vs : List Value) (d1 : Value) (y0 : Int32) (y1 : Int32) (h0 : Heap) (n0 : Nat) (Z0 : n0 ≤ h0.size) (pr0 : Exa Z h0 a "org/wayfold/search/Steps") (pr1 : Fld Z h0 a "org/wayfold/search/Steps" "hashed" "Z" (.int (0 : Int32))) (pr2 : Fld Z h0 a "org/wayfold/search/Steps" "size" "I" (.int (2 : Int32))) (pr3 : Fld Z h0 a "org/wayfold/search/Steps" "vertices" "[I" (.ref b1)) (pr4 : Arv Z h0 b1 k1 .int (16 : Int32) vs d1) (pr5 : vs.getD (0 : Int32).toNatClampNeg d1 = .int y0) (pr6 : ¬ y0 = v) (pr7 : vs.getD (1 : Int32).toNatClampNeg d1 = .int y1) (pr8 : y1 = v) :
    MetFree l (⟨"org/wayfold/search/Steps", "find", "(I)I"⟩ : MethodName) (head1 (Jvm.Cond.code (⟨"org/wayfold/search/Steps", "find", "(I)I"⟩ : MethodName) prog_104_method_11_code 4 (some .int) :: ws) ({ frames := 0, cells := 0, slots := 0, locals := 0 } : Room)) (fun aX uX => aX = #[(.ref a), (.int v)] ∧ Z.Warmed39 uX.vm ∧ uX.heap = h0) (fun _ _ _ _ _ => True) (fun _ uX oX wX => ∃ vX lX, oX = .returned vX ∧ Q12 Z a v b1 k1 vs d1 y0 y1 h0 n0 vX wX.heap lX ∧ FrameEnd uX oX wX lX ({ frames := 0, cells := 0, slots := 0, locals := 0 } : Room).cells ({ frames := 0, cells := 0, slots := 0, locals := 0 } : Room).slots) := by
  refine MetFree.of_bodySF (plainFor_of_name pn_0) hisR ?_
  intro p e s m args below meth c s₁ Bd hml0 hP hK
  obtain ⟨rfl, hZ, hh⟩ := hP
  have hx := Bd.exec
  have hby := Bd.bytes
  have hml : c.maxLocals = 4 := hml0
  have hown : s.vm.findClass "org/wayfold/search/Steps" = some m.cls := findClass_of_methodNamed Bd.named
  have hnm := (name_of_methodNamed Bd.named Bd.method).1
  have X0 : Stand p l e ({ frames := 0, cells := 0, slots := 0, locals := 0 } : Room) s m #[(.ref a), (.int v)] below meth c s₁ [] 0 0 := Stand.of_body Bd
  have e0 : s₁.heap = h0 := by rw [← hh, Bd.state]; rfl
  have N0 := Fr.nil n0
  have pre0 : ∀ t, Steps p.tables e below (s₁.setTop (mkF m 0 #[.val (.ref a), .val (.int v), .unset, .unset] [])) t → Steps p.tables e below (s₁.setTop (entryFrame m #[(.ref a), (.int v)] 4)) t := fun t k => castTop (ef_12 m a v) k
  obtain ⟨T1, X1, e1, st1⟩ := getF X0 hx hZ hown (host := "") (Or.inl (hw _ (List.mem_of_getElem? (i := 31) rfl))) Via.refl e0 pr1 (g := (mkF m 1 #[.val (.ref a), .val (.int v), .unset, .unset] [(.ref a)])) rfl rfl (hb hby d12_1)
  obtain ⟨T2, X2, e2, st2⟩ := getF X1 hx hZ hown (host := "") (Or.inl (hw _ (List.mem_of_getElem? (i := 33) rfl))) Via.refl e1 pr2 (g := (mkF m 11 #[.val (.ref a), .val (.int v), .val (.int (0 : Int32)), .unset] [(.ref a), (.int (0 : Int32))])) rfl rfl (hb hby d12_11)
  obtain ⟨T3, X3, e3, st3⟩ := getF X2 hx hZ hown (host := "") (Or.inl (hw _ (List.mem_of_getElem? (i := 10) rfl))) Via.refl e2 pr3 (g := (mkF m 18 #[.val (.ref a), .val (.int v), .val (.int (0 : Int32)), .unset] [(.ref a)])) rfl rfl (hb hby d12_18)
  obtain ⟨cl_a4, Ar_a4, q_a4, S_a4, N_a4, H_a4, G_a4⟩ := id pr4
  have hin_a4 : ¬ ((0 : Int32) < 0 ∨ cl_a4.slots.size ≤ ((0 : Int32)).toNatClampNeg) := inb_of S_a4 ⟨by decide, by decide⟩
  have hat_a4 := Has.at (v := (.int y0)) H_a4 hin_a4 pr5
  obtain ⟨T5, X5, e5, st5⟩ := getF X3 hx hZ hown (host := "") (Or.inl (hw _ (List.mem_of_getElem? (i := 33) rfl))) Via.refl e3 pr2 (g := (mkF m 11 #[.val (.ref a), .val (.int v), .val (.int (1 : Int32)), .unset] [(.ref a), (.int (1 : Int32))])) rfl rfl (hb hby d12_11)
  obtain ⟨T6, X6, e6, st6⟩ := getF X5 hx hZ hown (host := "") (Or.inl (hw _ (List.mem_of_getElem? (i := 10) rfl))) Via.refl e5 pr3 (g := (mkF m 18 #[.val (.ref a), .val (.int v), .val (.int (1 : Int32)), .unset] [(.ref a)])) rfl rfl (hb hby d12_18)
  obtain ⟨cl_a7, Ar_a7, q_a7, S_a7, N_a7, H_a7, G_a7⟩ := id pr4
  have hin_a7 : ¬ ((1 : Int32) < 0 ∨ cl_a7.slots.size ≤ ((1 : Int32)).toNatClampNeg) := inb_of S_a7 ⟨by decide, by decide⟩
  have hat_a7 := Has.at (v := (.int y1)) H_a7 hin_a7 pr7
  have P8 : ∀ t, Steps p.tables e below (T6.setTop (mkF m 28 #[.val (.ref a), .val (.int v), .val (.int (1 : Int32)), .unset] [(.int (1 : Int32))])) t → Steps p.tables e below (s₁.setTop (entryFrame m #[(.ref a), (.int v)] 4)) t := by
    intro t kk
    refine pre0 _ ?_
    show Steps p.tables e below (s₁.setTop (mkF m 0 #[.val (.ref a), .val (.int v), .unset, .unset] [])) _
    refine XS.aloadN X0.here hx rfl (hb hby d12_0) rfl rfl ?_
    show Steps p.tables e below (s₁.setTop (mkF m 1 #[.val (.ref a), .val (.int v), .unset, .unset] [(.ref a)])) _
    refine st1 _ ?_
    show Steps p.tables e below (T1.setTop (mkF m 4 #[.val (.ref a), .val (.int v), .unset, .unset] [(.int (0 : Int32))])) _
    refine XS.ifNo X1.here hx rfl (hb hby d12_4) rfl (XT.i0_ne_f rfl) ?_
    show Steps p.tables e below (T1.setTop (mkF m 7 #[.val (.ref a), .val (.int v), .unset, .unset] [])) _
    refine XS.iconst X1.here hx rfl (hb hby d12_7) ?_
    show Steps p.tables e below (T1.setTop (mkF m 8 #[.val (.ref a), .val (.int v), .unset, .unset] [(.int (0 : Int32))])) _
    refine XS.istoreN X1.here hx rfl (hb hby d12_8) rfl (l' := #[.val (.ref a), .val (.int v), .val (.int (0 : Int32)), .unset]) rfl ?_
    show Steps p.tables e below (T1.setTop (mkF m 9 #[.val (.ref a), .val (.int v), .val (.int (0 : Int32)), .unset] [])) _
    refine XS.iloadN X1.here hx rfl (hb hby d12_9) rfl ?_
    show Steps p.tables e below (T1.setTop (mkF m 10 #[.val (.ref a), .val (.int v), .val (.int (0 : Int32)), .unset] [(.int (0 : Int32))])) _
    refine XS.aloadN X1.here hx rfl (hb hby d12_10) rfl rfl ?_
    show Steps p.tables e below (T1.setTop (mkF m 11 #[.val (.ref a), .val (.int v), .val (.int (0 : Int32)), .unset] [(.ref a), (.int (0 : Int32))])) _
    refine st2 _ ?_
    show Steps p.tables e below (T2.setTop (mkF m 14 #[.val (.ref a), .val (.int v), .val (.int (0 : Int32)), .unset] [(.int (2 : Int32)), (.int (0 : Int32))])) _
    refine XS.icmpNo X2.here hx rfl (hb hby d12_14) rfl (XT.ii_ge_f (by decide)) ?_
    show Steps p.tables e below (T2.setTop (mkF m 17 #[.val (.ref a), .val (.int v), .val (.int (0 : Int32)), .unset] [])) _
    refine XS.aloadN X2.here hx rfl (hb hby d12_17) rfl rfl ?_
    show Steps p.tables e below (T2.setTop (mkF m 18 #[.val (.ref a), .val (.int v), .val (.int (0 : Int32)), .unset] [(.ref a)])) _
    refine st3 _ ?_
    show Steps p.tables e below (T3.setTop (mkF m 21 #[.val (.ref a), .val (.int v), .val (.int (0 : Int32)), .unset] [(.ref b1)])) _
    refine XS.iloadN X3.here hx rfl (hb hby d12_21) rfl ?_
    show Steps p.tables e below (T3.setTop (mkF m 22 #[.val (.ref a), .val (.int v), .val (.int (0 : Int32)), .unset] [(.int (0 : Int32)), (.ref b1)])) _
    refine X3.iaload hx (j := (0 : Int32)) (v := (.int y0)) (by rw [e3]; exact Ar_a4.1) (State.isArrayOf_alike hZ.alike Ar_a4.2.1) Ar_a4.2.2 hin_a4 hat_a4 (g := (mkF m 22 #[.val (.ref a), .val (.int v), .val (.int (0 : Int32)), .unset] [(.int (0 : Int32)), (.ref b1)])) rfl rfl (hb hby d12_22) _ ?_
    show Steps p.tables e below (T3.setTop (mkF m 23 #[.val (.ref a), .val (.int v), .val (.int (0 : Int32)), .unset] [(.int y0)])) _
    refine XS.iloadN X3.here hx rfl (hb hby d12_23) rfl ?_
    show Steps p.tables e below (T3.setTop (mkF m 24 #[.val (.ref a), .val (.int v), .val (.int (0 : Int32)), .unset] [(.int v), (.int y0)])) _
    refine XS.icmpYes X3.here hx rfl (pc0 := 24) (pc' := 29) rfl (hb hby d12_24) rfl (XT.ii_ne_t pr6) (by decide) (by decide) ?_
    show Steps p.tables e below (T3.setTop (mkF m 29 #[.val (.ref a), .val (.int v), .val (.int (0 : Int32)), .unset] [])) _
    refine XS.iinc X3.here hx rfl (hb hby d12_29) rfl (l' := #[.val (.ref a), .val (.int v), .val (.int (1 : Int32)), .unset]) rfl ?_
    show Steps p.tables e below (T3.setTop (mkF m 32 #[.val (.ref a), .val (.int v), .val (.int (1 : Int32)), .unset] [])) _
    refine XS.goto X3.here hx rfl (pc0 := 32) (pc' := 9) rfl (hb hby d12_32) (by decide) (by decide) ?_
    show Steps p.tables e below (T3.setTop (mkF m 9 #[.val (.ref a), .val (.int v), .val (.int (1 : Int32)), .unset] [])) _
    refine XS.iloadN X3.here hx rfl (hb hby d12_9) rfl ?_
    show Steps p.tables e below (T3.setTop (mkF m 10 #[.val (.ref a), .val (.int v), .val (.int (1 : Int32)), .unset] [(.int (1 : Int32))])) _
    refine XS.aloadN X3.here hx rfl (hb hby d12_10) rfl rfl ?_
    show Steps p.tables e below (T3.setTop (mkF m 11 #[.val (.ref a), .val (.int v), .val (.int (1 : Int32)), .unset] [(.ref a), (.int (1 : Int32))])) _
    refine st5 _ ?_
    show Steps p.tables e below (T5.setTop (mkF m 14 #[.val (.ref a), .val (.int v), .val (.int (1 : Int32)), .unset] [(.int (2 : Int32)), (.int (1 : Int32))])) _
    refine XS.icmpNo X5.here hx rfl (hb hby d12_14) rfl (XT.ii_ge_f (by decide)) ?_
    show Steps p.tables e below (T5.setTop (mkF m 17 #[.val (.ref a), .val (.int v), .val (.int (1 : Int32)), .unset] [])) _
    refine XS.aloadN X5.here hx rfl (hb hby d12_17) rfl rfl ?_
    show Steps p.tables e below (T5.setTop (mkF m 18 #[.val (.ref a), .val (.int v), .val (.int (1 : Int32)), .unset] [(.ref a)])) _
    refine st6 _ ?_
    show Steps p.tables e below (T6.setTop (mkF m 21 #[.val (.ref a), .val (.int v), .val (.int (1 : Int32)), .unset] [(.ref b1)])) _
    refine XS.iloadN X6.here hx rfl (hb hby d12_21) rfl ?_
    show Steps p.tables e below (T6.setTop (mkF m 22 #[.val (.ref a), .val (.int v), .val (.int (1 : Int32)), .unset] [(.int (1 : Int32)), (.ref b1)])) _
    refine X6.iaload hx (j := (1 : Int32)) (v := (.int y1)) (by rw [e6]; exact Ar_a7.1) (State.isArrayOf_alike hZ.alike Ar_a7.2.1) Ar_a7.2.2 hin_a7 hat_a7 (g := (mkF m 22 #[.val (.ref a), .val (.int v), .val (.int (1 : Int32)), .unset] [(.int (1 : Int32)), (.ref b1)])) rfl rfl (hb hby d12_22) _ ?_
    show Steps p.tables e below (T6.setTop (mkF m 23 #[.val (.ref a), .val (.int v), .val (.int (1 : Int32)), .unset] [(.int y1)])) _
    refine XS.iloadN X6.here hx rfl (hb hby d12_23) rfl ?_
    show Steps p.tables e below (T6.setTop (mkF m 24 #[.val (.ref a), .val (.int v), .val (.int (1 : Int32)), .unset] [(.int v), (.int y1)])) _
    refine XS.icmpNo X6.here hx rfl (hb hby d12_24) rfl (XT.ii_ne_f pr8) ?_
    show Steps p.tables e below (T6.setTop (mkF m 27 #[.val (.ref a), .val (.int v), .val (.int (1 : Int32)), .unset] [])) _
    refine XS.iloadN X6.here hx rfl (hb hby d12_27) rfl ?_
    show Steps p.tables e below (T6.setTop (mkF m 28 #[.val (.ref a), .val (.int v), .val (.int (1 : Int32)), .unset] [(.int (1 : Int32))])) _
    exact kk
  obtain ⟨fs, hr, hrun, hended, hW, hsame⟩ := X6.leave (v := some (.int (1 : Int32))) (fun h => by rw [Bd.returns] at h; cases h)
  refine ⟨_, _, P8 _ ?_, hrun, hended, _, _, rfl, ?_, ⟨_, rfl⟩, hW, hsame.mono (by decide) (by decide)⟩
  · exact retI X6 hx Bd.returns (hb hby d12_28) hr
  · show Q12 Z a v b1 k1 vs d1 y0 y1 h0 n0 _ T6.heap _
    rw [e6]
    exact ⟨rfl, N0, rfl⟩
theorem d13_0 : decode prog_104_method_8_code 0 = .ok (.lconst 1, 1) := by decide +kernel
theorem d13_1 : decode prog_104_method_8_code 1 = .ok (.iload_n 1, 1) := by decide +kernel
theorem d13_2 : decode prog_104_method_8_code 2 = .ok (.lshl, 1) := by decide +kernel
theorem d13_3 : decode prog_104_method_8_code 3 = .ok (.lstore 4, 2) := by decide +kernel
theorem d13_5 : decode prog_104_method_8_code 5 = .ok (.aload_n 0, 1) := by decide +kernel
theorem d13_6 : decode prog_104_method_8_code 6 = .ok (.getfield 31, 3) := by decide +kernel
theorem d13_9 : decode prog_104_method_8_code 9 = .ok (.ifCond .ne 15, 3) := by decide +kernel
theorem d13_12 : decode prog_104_method_8_code 12 = .ok (.aload_n 0, 1) := by decide +kernel
theorem d13_13 : decode prog_104_method_8_code 13 = .ok (.getfield 35, 3) := by decide +kernel
theorem d13_16 : decode prog_104_method_8_code 16 = .ok (.lload 4, 2) := by decide +kernel
theorem d13_18 : decode prog_104_method_8_code 18 = .ok (.land, 1) := by decide +kernel
theorem d13_19 : decode prog_104_method_8_code 19 = .ok (.lconst 0, 1) := by decide +kernel
theorem d13_20 : decode prog_104_method_8_code 20 = .ok (.lcmp, 1) := by decide +kernel
theorem d13_21 : decode prog_104_method_8_code 21 = .ok (.ifCond .eq 11, 3) := by decide +kernel
theorem d13_32 : decode prog_104_method_8_code 32 = .ok (.iconst (-1), 1) := by decide +kernel
theorem d13_33 : decode prog_104_method_8_code 33 = .ok (.istore 6, 2) := by decide +kernel
theorem d13_35 : decode prog_104_method_8_code 35 = .ok (.aload_n 0, 1) := by decide +kernel
theorem d13_36 : decode prog_104_method_8_code 36 = .ok (.dup, 1) := by decide +kernel
theorem d13_37 : decode prog_104_method_8_code 37 = .ok (.getfield 35, 3) := by decide +kernel
theorem d13_40 : decode prog_104_method_8_code 40 = .ok (.lload 4, 2) := by decide +kernel
theorem d13_42 : decode prog_104_method_8_code 42 = .ok (.lor, 1) := by decide +kernel
theorem d13_43 : decode prog_104_method_8_code 43 = .ok (.putfield 35, 3) := by decide +kernel
theorem d13_46 : decode prog_104_method_8_code 46 = .ok (.iload 6, 2) := by decide +kernel
theorem d13_48 : decode prog_104_method_8_code 48 = .ok (.ifCond .lt 22, 3) := by decide +kernel
theorem d13_70 : decode prog_104_method_8_code 70 = .ok (.aload_n 0, 1) := by decide +kernel
theorem d13_71 : decode prog_104_method_8_code 71 = .ok (.getfield 23, 3) := by decide +kernel
theorem d13_74 : decode prog_104_method_8_code 74 = .ok (.aload_n 0, 1) := by decide +kernel
theorem d13_75 : decode prog_104_method_8_code 75 = .ok (.getfield 7, 3) := by decide +kernel
theorem d13_78 : decode prog_104_method_8_code 78 = .ok (.arraylength, 1) := by decide +kernel
theorem d13_79 : decode prog_104_method_8_code 79 = .ok (.if_icmp .ne 7, 3) := by decide +kernel
theorem d13_86 : decode prog_104_method_8_code 86 = .ok (.aload_n 0, 1) := by decide +kernel
theorem d13_87 : decode prog_104_method_8_code 87 = .ok (.getfield 7, 3) := by decide +kernel
theorem d13_90 : decode prog_104_method_8_code 90 = .ok (.aload_n 0, 1) := by decide +kernel
theorem d13_91 : decode prog_104_method_8_code 91 = .ok (.getfield 23, 3) := by decide +kernel
theorem d13_94 : decode prog_104_method_8_code 94 = .ok (.iload_n 1, 1) := by decide +kernel
theorem d13_95 : decode prog_104_method_8_code 95 = .ok (.iastore, 1) := by decide +kernel
theorem d13_96 : decode prog_104_method_8_code 96 = .ok (.aload_n 0, 1) := by decide +kernel
theorem d13_97 : decode prog_104_method_8_code 97 = .ok (.getfield 13, 3) := by decide +kernel
theorem d13_100 : decode prog_104_method_8_code 100 = .ok (.aload_n 0, 1) := by decide +kernel
theorem d13_101 : decode prog_104_method_8_code 101 = .ok (.getfield 23, 3) := by decide +kernel
theorem d13_104 : decode prog_104_method_8_code 104 = .ok (.dload_n 2, 1) := by decide +kernel
theorem d13_105 : decode prog_104_method_8_code 105 = .ok (.dastore, 1) := by decide +kernel
theorem d13_106 : decode prog_104_method_8_code 106 = .ok (.aload_n 0, 1) := by decide +kernel
theorem d13_107 : decode prog_104_method_8_code 107 = .ok (.dup, 1) := by decide +kernel
theorem d13_108 : decode prog_104_method_8_code 108 = .ok (.getfield 23, 3) := by decide +kernel
theorem d13_111 : decode prog_104_method_8_code 111 = .ok (.iconst 1, 1) := by decide +kernel
theorem d13_112 : decode prog_104_method_8_code 112 = .ok (.iadd, 1) := by decide +kernel
theorem d13_113 : decode prog_104_method_8_code 113 = .ok (.putfield 23, 3) := by decide +kernel
theorem d13_116 : decode prog_104_method_8_code 116 = .ok (.aload_n 0, 1) := by decide +kernel
theorem d13_117 : decode prog_104_method_8_code 117 = .ok (.getfield 31, 3) := by decide +kernel
theorem d13_120 : decode prog_104_method_8_code 120 = .ok (.ifCond .eq 16, 3) := by decide +kernel
theorem d13_136 : decode prog_104_method_8_code 136 = .ok (.aload_n 0, 1) := by decide +kernel
theorem d13_137 : decode prog_104_method_8_code 137 = .ok (.getfield 23, 3) := by decide +kernel
theorem d13_140 : decode prog_104_method_8_code 140 = .ok (.bipush 32, 2) := by decide +kernel
theorem d13_142 : decode prog_104_method_8_code 142 = .ok (.if_icmp .le 7, 3) := by decide +kernel
theorem d13_149 : decode prog_104_method_8_code 149 = .ok (.return_, 1) := by decide +kernel
theorem ef_13 (m : MethodId) (x0 : Addr) (x1 : Int32) (x2 : UInt64) : entryFrame m #[(.ref x0), (.int x1), (.double x2)] 7 = (mkF m 0 #[.val (.ref x0), .val (.int x1), .val (.double x2), .second, .unset, .unset, .unset] []) := by first | (simp [entryFrame, mkF, argsToLocals, Value.category]; done) | rfl
def Q13 (Z : State) (a : Addr) (v : Int32) (x : UInt64) (ar : Int64) (b1 : Addr) (k1 : ClassId) (vs : List Value) (d1 : Value) (b2 : Addr) (k2 : ClassId) (ds : List Value) (d2 : Value) (h0 : Heap) (n0 : Nat) (vX : Option Value) (hX : Heap) (lX : List Loc) : Prop := vX = none ∧ Fr n0 lX ∧ (Keep h0 hX [a, b1, b2]) ∧ (Fld Z hX a "org/wayfold/search/Steps" "size" "I" (.int (1 : Int32))) ∧ (Fld Z hX a "org/wayfold/search/Steps" "seen" "J" (.long ((0 : Int64) ||| ((1 : Int64) <<< (v &&& 0x3f).toInt64)))) ∧ (Arv Z hX b1 k1 .int (16 : Int32) (vs.set 0 (.int v)) d1) ∧ (Arv Z hX b2 k2 .double (16 : Int32) (ds.set 0 (.double x)) d2) ∧ (Fld Z hX a "org/wayfold/search/Steps" "hashed" "Z" (.int (0 : Int32))) ∧ (Fld Z hX a "org/wayfold/search/Steps" "arcsRead" "J" (.long ar)) ∧ (Fld Z hX a "org/wayfold/search/Steps" "vertices" "[I" (.ref b1)) ∧ (Fld Z hX a "org/wayfold/search/Steps" "costs" "[D" (.ref b2))
set_option maxRecDepth 65536 in
set_option maxHeartbeats 40000000 in
theorem rm13 (l : Launch) (Z : State) (a0 : Array Value) (hw : ∀ d ∈ tables_1, d.before a0 Z = true) (ws : List Jvm.Cond) (a : Addr) (v : Int32) (x : UInt64) (ar : Int64) (b1 : Addr) (k1 : ClassId) (vs : List Value) (d1 : Value) (b2 : Addr) (k2 : ClassId) (ds : List Value) (d2 : Value) (h0 : Heap) (n0 : Nat) (Z0 : n0 ≤ h0.size) (pr0 : Exa Z h0 a "org/wayfold/search/Steps") (pr1 : Fld Z h0 a "org/wayfold/search/Steps" "hashed" "Z" (.int (0 : Int32))) (pr2 : Fld Z h0 a "org/wayfold/search/Steps" "size" "I" (.int (0 : Int32))) (pr3 : Fld Z h0 a "org/wayfold/search/Steps" "seen" "J" (.long (0 : Int64))) (pr4 : Fld Z h0 a "org/wayfold/search/Steps" "arcsRead" "J" (.long ar)) (pr5 : Fld Z h0 a "org/wayfold/search/Steps" "vertices" "[I" (.ref b1)) (pr6 : Fld Z h0 a "org/wayfold/search/Steps" "costs" "[D" (.ref b2)) (pr7 : Arv Z h0 b1 k1 .int (16 : Int32) vs d1) (pr8 : Arv Z h0 b2 k2 .double (16 : Int32) ds d2) (pr9 : n0 ≤ a) (pr10 : n0 ≤ b1) (pr11 : n0 ≤ b2) (pr12 : a ≠ b1) (pr13 : a ≠ b2) (pr14 : b1 ≠ b2) (pr15 : vs.length = 16) (pr16 : ds.length = 16) :
    MetFree l (⟨"org/wayfold/search/Steps", "merge", "(ID)V"⟩ : MethodName) (head1 (Jvm.Cond.code (⟨"org/wayfold/search/Steps", "merge", "(ID)V"⟩ : MethodName) prog_104_method_8_code 7 none :: ws) ({ frames := 0, cells := 0, slots := 0, locals := 0 } : Room)) (fun aX uX => aX = #[(.ref a), (.int v), (.double x)] ∧ Z.Warmed39 uX.vm ∧ uX.heap = h0) (fun _ _ _ _ _ => True) (fun _ uX oX wX => ∃ vX lX, oX = .returned vX ∧ Q13 Z a v x ar b1 k1 vs d1 b2 k2 ds d2 h0 n0 vX wX.heap lX ∧ FrameEnd uX oX wX lX ({ frames := 0, cells := 0, slots := 0, locals := 0 } : Room).cells ({ frames := 0, cells := 0, slots := 0, locals := 0 } : Room).slots) := by
  refine MetFree.of_bodySF (plainFor_of_name pn_0) hisR ?_
  intro p e s m args below meth c s₁ Bd hml0 hP hK
  obtain ⟨rfl, hZ, hh⟩ := hP
  have hx := Bd.exec
  have hby := Bd.bytes
  have hml : c.maxLocals = 7 := hml0
  have hown : s.vm.findClass "org/wayfold/search/Steps" = some m.cls := findClass_of_methodNamed Bd.named
  have hnm := (name_of_methodNamed Bd.named Bd.method).1
  have X0 : Stand p l e ({ frames := 0, cells := 0, slots := 0, locals := 0 } : Room) s m #[(.ref a), (.int v), (.double x)] below meth c s₁ [] 0 0 := Stand.of_body Bd
  have e0 : s₁.heap = h0 := by rw [← hh, Bd.state]; rfl
  have N0 := Fr.nil n0
  have pre0 : ∀ t, Steps p.tables e below (s₁.setTop (mkF m 0 #[.val (.ref a), .val (.int v), .val (.double x), .second, .unset, .unset, .unset] [])) t → Steps p.tables e below (s₁.setTop (entryFrame m #[(.ref a), (.int v), (.double x)] 7)) t := fun t k => castTop (ef_13 m a v x) k
  obtain ⟨T1, X1, e1, st1⟩ := getF X0 hx hZ hown (host := "") (Or.inl (hw _ (List.mem_of_getElem? (i := 31) rfl))) Via.refl e0 pr1 (g := (mkF m 6 #[.val (.ref a), .val (.int v), .val (.double x), .second, .val (.long (((1 : Int64) <<< (v &&& 0x3f).toInt64))), .second, .unset] [(.ref a)])) rfl rfl (hb hby d13_6)
  obtain ⟨T2, X2, e2, st2⟩ := getF X1 hx hZ hown (host := "") (Or.inl (hw _ (List.mem_of_getElem? (i := 35) rfl))) Via.refl e1 pr3 (g := (mkF m 13 #[.val (.ref a), .val (.int v), .val (.double x), .second, .val (.long (((1 : Int64) <<< (v &&& 0x3f).toInt64))), .second, .unset] [(.ref a)])) rfl rfl (hb hby d13_13)
  obtain ⟨T3, X3, e3, st3⟩ := getF X2 hx hZ hown (host := "") (Or.inl (hw _ (List.mem_of_getElem? (i := 35) rfl))) Via.refl e2 pr3 (g := (mkF m 37 #[.val (.ref a), .val (.int v), .val (.double x), .second, .val (.long (((1 : Int64) <<< (v &&& 0x3f).toInt64))), .second, .val (.int (-1 : Int32))] [(.ref a), (.ref a)])) rfl rfl (hb hby d13_37)
  obtain ⟨T4, h4, X4, e4, W4, st4⟩ := putF X3 hx hZ hown (host := "") (Or.inl (hw _ (List.mem_of_getElem? (i := 35) rfl))) Via.refl e3 pr3 pr0 (Or.inl (hw _ (List.mem_of_getElem? (i := 36) rfl))) (hw _ (List.mem_of_getElem? (i := 1) rfl)) (ty := .long) (by decide) rfl rfl (g := (mkF m 43 #[.val (.ref a), .val (.int v), .val (.double x), .second, .val (.long (((1 : Int64) <<< (v &&& 0x3f).toInt64))), .second, .val (.int (-1 : Int32))] [(.long ((0 : Int64) ||| (((1 : Int64) <<< (v &&& 0x3f).toInt64)))), (.ref a)])) rfl rfl (hb hby d13_43)
  have N4 := Fr.snoc X4 N0 pr9
  have Fw4 := Fld.same W4 pr3
  have f5 := (Fld.other W4 pr2 (Or.inr (slot_ne (Or.inl (hw _ (List.mem_of_getElem? (i := 34) rfl))) (Or.inl (hw _ (List.mem_of_getElem? (i := 36) rfl))) (by decide) (t := .int) (t' := .long) (by decide) (by decide))))
  obtain ⟨T6, X6, e6, st6⟩ := getF X4 hx hZ hown (host := "") (Or.inl (hw _ (List.mem_of_getElem? (i := 33) rfl))) Via.refl e4 f5 (g := (mkF m 71 #[.val (.ref a), .val (.int v), .val (.double x), .second, .val (.long (((1 : Int64) <<< (v &&& 0x3f).toInt64))), .second, .val (.int (-1 : Int32))] [(.ref a)])) rfl rfl (hb hby d13_71)
  have f7 := (Fld.other W4 pr5 (Or.inr (slot_ne (Or.inl (hw _ (List.mem_of_getElem? (i := 11) rfl))) (Or.inl (hw _ (List.mem_of_getElem? (i := 36) rfl))) (by decide) (t := (.array .int)) (t' := .long) (by decide) (by decide))))
  obtain ⟨T8, X8, e8, st8⟩ := getF X6 hx hZ hown (host := "") (Or.inl (hw _ (List.mem_of_getElem? (i := 10) rfl))) Via.refl e6 f7 (g := (mkF m 75 #[.val (.ref a), .val (.int v), .val (.double x), .second, .val (.long (((1 : Int64) <<< (v &&& 0x3f).toInt64))), .second, .val (.int (-1 : Int32))] [(.ref a), (.int (0 : Int32))])) rfl rfl (hb hby d13_75)
  have f9 := (pr7.other W4 (Ne.symm pr12))
  obtain ⟨cl_a10, Ar_a10, q_a10, S_a10, N_a10, H_a10, G_a10⟩ := id f9
  have P11 : ∀ t, Steps p.tables e below (T8.setTop (mkF m 86 #[.val (.ref a), .val (.int v), .val (.double x), .second, .val (.long (((1 : Int64) <<< (v &&& 0x3f).toInt64))), .second, .val (.int (-1 : Int32))] [])) t → Steps p.tables e below (s₁.setTop (entryFrame m #[(.ref a), (.int v), (.double x)] 7)) t := by
    intro t kk
    refine pre0 _ ?_
    show Steps p.tables e below (s₁.setTop (mkF m 0 #[.val (.ref a), .val (.int v), .val (.double x), .second, .unset, .unset, .unset] [])) _
    refine XS.lconst X0.here hx rfl (hb hby d13_0) ?_
    show Steps p.tables e below (s₁.setTop (mkF m 1 #[.val (.ref a), .val (.int v), .val (.double x), .second, .unset, .unset, .unset] [(.long (1 : Int64))])) _
    refine XS.iloadN X0.here hx rfl (hb hby d13_1) rfl ?_
    show Steps p.tables e below (s₁.setTop (mkF m 2 #[.val (.ref a), .val (.int v), .val (.double x), .second, .unset, .unset, .unset] [(.int v), (.long (1 : Int64))])) _
    refine XS.lshl X0.here hx rfl (hb hby d13_2) rfl ?_
    show Steps p.tables e below (s₁.setTop (mkF m 3 #[.val (.ref a), .val (.int v), .val (.double x), .second, .unset, .unset, .unset] [(.long (((1 : Int64) <<< (v &&& 0x3f).toInt64)))])) _
    refine XS.lstore X0.here hx rfl (hb hby d13_3) rfl (l' := #[.val (.ref a), .val (.int v), .val (.double x), .second, .val (.long (((1 : Int64) <<< (v &&& 0x3f).toInt64))), .second, .unset]) rfl ?_
    show Steps p.tables e below (s₁.setTop (mkF m 5 #[.val (.ref a), .val (.int v), .val (.double x), .second, .val (.long (((1 : Int64) <<< (v &&& 0x3f).toInt64))), .second, .unset] [])) _
    refine XS.aloadN X0.here hx rfl (hb hby d13_5) rfl rfl ?_
    show Steps p.tables e below (s₁.setTop (mkF m 6 #[.val (.ref a), .val (.int v), .val (.double x), .second, .val (.long (((1 : Int64) <<< (v &&& 0x3f).toInt64))), .second, .unset] [(.ref a)])) _
    refine st1 _ ?_
    show Steps p.tables e below (T1.setTop (mkF m 9 #[.val (.ref a), .val (.int v), .val (.double x), .second, .val (.long (((1 : Int64) <<< (v &&& 0x3f).toInt64))), .second, .unset] [(.int (0 : Int32))])) _
    refine XS.ifNo X1.here hx rfl (hb hby d13_9) rfl (XT.i0_ne_f rfl) ?_
    show Steps p.tables e below (T1.setTop (mkF m 12 #[.val (.ref a), .val (.int v), .val (.double x), .second, .val (.long (((1 : Int64) <<< (v &&& 0x3f).toInt64))), .second, .unset] [])) _
    refine XS.aloadN X1.here hx rfl (hb hby d13_12) rfl rfl ?_
    show Steps p.tables e below (T1.setTop (mkF m 13 #[.val (.ref a), .val (.int v), .val (.double x), .second, .val (.long (((1 : Int64) <<< (v &&& 0x3f).toInt64))), .second, .unset] [(.ref a)])) _
    refine st2 _ ?_
    show Steps p.tables e below (T2.setTop (mkF m 16 #[.val (.ref a), .val (.int v), .val (.double x), .second, .val (.long (((1 : Int64) <<< (v &&& 0x3f).toInt64))), .second, .unset] [(.long (0 : Int64))])) _
    refine XS.lload X2.here hx rfl (hb hby d13_16) rfl ?_
    show Steps p.tables e below (T2.setTop (mkF m 18 #[.val (.ref a), .val (.int v), .val (.double x), .second, .val (.long (((1 : Int64) <<< (v &&& 0x3f).toInt64))), .second, .unset] [(.long (((1 : Int64) <<< (v &&& 0x3f).toInt64))), (.long (0 : Int64))])) _
    refine XS.land X2.here hx rfl (hb hby d13_18) rfl ?_
    show Steps p.tables e below (T2.setTop (mkF m 19 #[.val (.ref a), .val (.int v), .val (.double x), .second, .val (.long (((1 : Int64) <<< (v &&& 0x3f).toInt64))), .second, .unset] [(.long ((0 : Int64) &&& (((1 : Int64) <<< (v &&& 0x3f).toInt64))))])) _
    refine XS.lconst X2.here hx rfl (hb hby d13_19) ?_
    show Steps p.tables e below (T2.setTop (mkF m 20 #[.val (.ref a), .val (.int v), .val (.double x), .second, .val (.long (((1 : Int64) <<< (v &&& 0x3f).toInt64))), .second, .unset] [(.long (0 : Int64)), (.long ((0 : Int64) &&& (((1 : Int64) <<< (v &&& 0x3f).toInt64))))])) _
    refine XT.lcmp X2.here hx rfl (hb hby d13_20) rfl ?_
    show Steps p.tables e below (T2.setTop (mkF m 21 #[.val (.ref a), .val (.int v), .val (.double x), .second, .val (.long (((1 : Int64) <<< (v &&& 0x3f).toInt64))), .second, .unset] [(.int (XT.cmpL ((0 : Int64) &&& (((1 : Int64) <<< (v &&& 0x3f).toInt64))) (0 : Int64)))])) _
    refine XS.ifYes X2.here hx rfl (pc0 := 21) (pc' := 32) rfl (hb hby d13_21) rfl (XT.ll_eq_t (own_and0 _)) (by decide) (by decide) ?_
    show Steps p.tables e below (T2.setTop (mkF m 32 #[.val (.ref a), .val (.int v), .val (.double x), .second, .val (.long (((1 : Int64) <<< (v &&& 0x3f).toInt64))), .second, .unset] [])) _
    refine XT.iconstV X2.here hx rfl (-1 : Int32) (hb hby d13_32) (by decide) ?_
    show Steps p.tables e below (T2.setTop (mkF m 33 #[.val (.ref a), .val (.int v), .val (.double x), .second, .val (.long (((1 : Int64) <<< (v &&& 0x3f).toInt64))), .second, .unset] [(.int (-1 : Int32))])) _
    refine XS.istore X2.here hx rfl (hb hby d13_33) rfl (l' := #[.val (.ref a), .val (.int v), .val (.double x), .second, .val (.long (((1 : Int64) <<< (v &&& 0x3f).toInt64))), .second, .val (.int (-1 : Int32))]) rfl ?_
    show Steps p.tables e below (T2.setTop (mkF m 35 #[.val (.ref a), .val (.int v), .val (.double x), .second, .val (.long (((1 : Int64) <<< (v &&& 0x3f).toInt64))), .second, .val (.int (-1 : Int32))] [])) _
    refine XS.aloadN X2.here hx rfl (hb hby d13_35) rfl rfl ?_
    show Steps p.tables e below (T2.setTop (mkF m 36 #[.val (.ref a), .val (.int v), .val (.double x), .second, .val (.long (((1 : Int64) <<< (v &&& 0x3f).toInt64))), .second, .val (.int (-1 : Int32))] [(.ref a)])) _
    refine XS.dup X2.here hx rfl (hb hby d13_36) rfl rfl ?_
    show Steps p.tables e below (T2.setTop (mkF m 37 #[.val (.ref a), .val (.int v), .val (.double x), .second, .val (.long (((1 : Int64) <<< (v &&& 0x3f).toInt64))), .second, .val (.int (-1 : Int32))] [(.ref a), (.ref a)])) _
    refine st3 _ ?_
    show Steps p.tables e below (T3.setTop (mkF m 40 #[.val (.ref a), .val (.int v), .val (.double x), .second, .val (.long (((1 : Int64) <<< (v &&& 0x3f).toInt64))), .second, .val (.int (-1 : Int32))] [(.long (0 : Int64)), (.ref a)])) _
    refine XS.lload X3.here hx rfl (hb hby d13_40) rfl ?_
    show Steps p.tables e below (T3.setTop (mkF m 42 #[.val (.ref a), .val (.int v), .val (.double x), .second, .val (.long (((1 : Int64) <<< (v &&& 0x3f).toInt64))), .second, .val (.int (-1 : Int32))] [(.long (((1 : Int64) <<< (v &&& 0x3f).toInt64))), (.long (0 : Int64)), (.ref a)])) _
    refine XS.lor X3.here hx rfl (hb hby d13_42) rfl ?_
    show Steps p.tables e below (T3.setTop (mkF m 43 #[.val (.ref a), .val (.int v), .val (.double x), .second, .val (.long (((1 : Int64) <<< (v &&& 0x3f).toInt64))), .second, .val (.int (-1 : Int32))] [(.long ((0 : Int64) ||| (((1 : Int64) <<< (v &&& 0x3f).toInt64)))), (.ref a)])) _
    refine st4 _ ?_
    show Steps p.tables e below (T4.setTop (mkF m 46 #[.val (.ref a), .val (.int v), .val (.double x), .second, .val (.long (((1 : Int64) <<< (v &&& 0x3f).toInt64))), .second, .val (.int (-1 : Int32))] [])) _
    refine XS.iload X4.here hx rfl (hb hby d13_46) rfl ?_
    show Steps p.tables e below (T4.setTop (mkF m 48 #[.val (.ref a), .val (.int v), .val (.double x), .second, .val (.long (((1 : Int64) <<< (v &&& 0x3f).toInt64))), .second, .val (.int (-1 : Int32))] [(.int (-1 : Int32))])) _
    refine XS.ifYes X4.here hx rfl (pc0 := 48) (pc' := 70) rfl (hb hby d13_48) rfl (XT.i0_lt_t (by decide)) (by decide) (by decide) ?_
    show Steps p.tables e below (T4.setTop (mkF m 70 #[.val (.ref a), .val (.int v), .val (.double x), .second, .val (.long (((1 : Int64) <<< (v &&& 0x3f).toInt64))), .second, .val (.int (-1 : Int32))] [])) _
    refine XS.aloadN X4.here hx rfl (hb hby d13_70) rfl rfl ?_
    show Steps p.tables e below (T4.setTop (mkF m 71 #[.val (.ref a), .val (.int v), .val (.double x), .second, .val (.long (((1 : Int64) <<< (v &&& 0x3f).toInt64))), .second, .val (.int (-1 : Int32))] [(.ref a)])) _
    refine st6 _ ?_
    show Steps p.tables e below (T6.setTop (mkF m 74 #[.val (.ref a), .val (.int v), .val (.double x), .second, .val (.long (((1 : Int64) <<< (v &&& 0x3f).toInt64))), .second, .val (.int (-1 : Int32))] [(.int (0 : Int32))])) _
    refine XS.aloadN X6.here hx rfl (hb hby d13_74) rfl rfl ?_
    show Steps p.tables e below (T6.setTop (mkF m 75 #[.val (.ref a), .val (.int v), .val (.double x), .second, .val (.long (((1 : Int64) <<< (v &&& 0x3f).toInt64))), .second, .val (.int (-1 : Int32))] [(.ref a), (.int (0 : Int32))])) _
    refine st8 _ ?_
    show Steps p.tables e below (T8.setTop (mkF m 78 #[.val (.ref a), .val (.int v), .val (.double x), .second, .val (.long (((1 : Int64) <<< (v &&& 0x3f).toInt64))), .second, .val (.int (-1 : Int32))] [(.ref b1), (.int (0 : Int32))])) _
    refine X8.arraylength hx (by rw [e8]; exact Ar_a10.1) (State.isArrayOf_alike hZ.alike Ar_a10.2.1) (g := (mkF m 78 #[.val (.ref a), .val (.int v), .val (.double x), .second, .val (.long (((1 : Int64) <<< (v &&& 0x3f).toInt64))), .second, .val (.int (-1 : Int32))] [(.ref b1), (.int (0 : Int32))])) rfl rfl (hb hby d13_78) _ ?_
    rw [len_of S_a10 N_a10]
    show Steps p.tables e below (T8.setTop (mkF m 79 #[.val (.ref a), .val (.int v), .val (.double x), .second, .val (.long (((1 : Int64) <<< (v &&& 0x3f).toInt64))), .second, .val (.int (-1 : Int32))] [(.int (16 : Int32)), (.int (0 : Int32))])) _
    refine XS.icmpYes X8.here hx rfl (pc0 := 79) (pc' := 86) rfl (hb hby d13_79) rfl (XT.ii_ne_t (by decide)) (by decide) (by decide) ?_
    show Steps p.tables e below (T8.setTop (mkF m 86 #[.val (.ref a), .val (.int v), .val (.double x), .second, .val (.long (((1 : Int64) <<< (v &&& 0x3f).toInt64))), .second, .val (.int (-1 : Int32))] [])) _
    exact kk
  obtain ⟨T12, X12, e12, st12⟩ := getF X8 hx hZ hown (host := "") (Or.inl (hw _ (List.mem_of_getElem? (i := 10) rfl))) Via.refl e8 f7 (g := (mkF m 87 #[.val (.ref a), .val (.int v), .val (.double x), .second, .val (.long (((1 : Int64) <<< (v &&& 0x3f).toInt64))), .second, .val (.int (-1 : Int32))] [(.ref a)])) rfl rfl (hb hby d13_87)
  obtain ⟨T13, X13, e13, st13⟩ := getF X12 hx hZ hown (host := "") (Or.inl (hw _ (List.mem_of_getElem? (i := 33) rfl))) Via.refl e12 f5 (g := (mkF m 91 #[.val (.ref a), .val (.int v), .val (.double x), .second, .val (.long (((1 : Int64) <<< (v &&& 0x3f).toInt64))), .second, .val (.int (-1 : Int32))] [(.ref a), (.ref b1)])) rfl rfl (hb hby d13_91)
  obtain ⟨cl_a14, Ar_a14, q_a14, S_a14, N_a14, H_a14, G_a14⟩ := id f9
  have hin_a14 : ¬ ((0 : Int32) < 0 ∨ cl_a14.slots.size ≤ ((0 : Int32)).toNatClampNeg) := inb_of S_a14 ⟨by decide, by decide⟩
  obtain ⟨T15, h15, X15, e15, W15, st15⟩ := stI X13 hx hZ e13 Ar_a14 (j := (0 : Int32)) hin_a14 (g := (mkF m 95 #[.val (.ref a), .val (.int v), .val (.double x), .second, .val (.long (((1 : Int64) <<< (v &&& 0x3f).toInt64))), .second, .val (.int (-1 : Int32))] [(.int v), (.int (0 : Int32)), (.ref b1)])) rfl rfl (hb hby d13_95)
  have V15 : Arv Z h15 b1 k1 .int (16 : Int32) (vs.set 0 (.int v)) d1 := Arv.set Ar_a14 q_a14 S_a14 N_a14 H_a14 G_a14 rfl W15 0 rfl (by rw [pr15]; decide)
  have N15 := Fr.snoc X15 N4 pr10
  have f16 := (Fld.other W15 (Fld.other W4 pr6 (Or.inr (slot_ne (Or.inl (hw _ (List.mem_of_getElem? (i := 14) rfl))) (Or.inl (hw _ (List.mem_of_getElem? (i := 36) rfl))) (by decide) (t := (.array .double)) (t' := .long) (by decide) (by decide)))) (Or.inl pr12))
  obtain ⟨T17, X17, e17, st17⟩ := getF X15 hx hZ hown (host := "") (Or.inl (hw _ (List.mem_of_getElem? (i := 13) rfl))) Via.refl e15 f16 (g := (mkF m 97 #[.val (.ref a), .val (.int v), .val (.double x), .second, .val (.long (((1 : Int64) <<< (v &&& 0x3f).toInt64))), .second, .val (.int (-1 : Int32))] [(.ref a)])) rfl rfl (hb hby d13_97)
  have f18 := (Fld.other W15 f5 (Or.inl pr12))
  obtain ⟨T19, X19, e19, st19⟩ := getF X17 hx hZ hown (host := "") (Or.inl (hw _ (List.mem_of_getElem? (i := 33) rfl))) Via.refl e17 f18 (g := (mkF m 101 #[.val (.ref a), .val (.int v), .val (.double x), .second, .val (.long (((1 : Int64) <<< (v &&& 0x3f).toInt64))), .second, .val (.int (-1 : Int32))] [(.ref a), (.ref b2)])) rfl rfl (hb hby d13_101)
  have f20 := ((pr8.other W4 (Ne.symm pr13)).other W15 (Ne.symm pr14))
  obtain ⟨cl_a21, Ar_a21, q_a21, S_a21, N_a21, H_a21, G_a21⟩ := id f20
  have hin_a21 : ¬ ((0 : Int32) < 0 ∨ cl_a21.slots.size ≤ ((0 : Int32)).toNatClampNeg) := inb_of S_a21 ⟨by decide, by decide⟩
  obtain ⟨T22, h22, X22, e22, W22, st22⟩ := stD X19 hx hZ e19 Ar_a21 (j := (0 : Int32)) hin_a21 (g := (mkF m 105 #[.val (.ref a), .val (.int v), .val (.double x), .second, .val (.long (((1 : Int64) <<< (v &&& 0x3f).toInt64))), .second, .val (.int (-1 : Int32))] [(.double x), (.int (0 : Int32)), (.ref b2)])) rfl rfl (hb hby d13_105)
  have V22 : Arv Z h22 b2 k2 .double (16 : Int32) (ds.set 0 (.double x)) d2 := Arv.set Ar_a21 q_a21 S_a21 N_a21 H_a21 G_a21 rfl W22 0 rfl (by rw [pr16]; decide)
  have N22 := Fr.snoc X22 N15 pr11
  have f23 := (Fld.other W22 f18 (Or.inl pr13))
  obtain ⟨T24, X24, e24, st24⟩ := getF X22 hx hZ hown (host := "") (Or.inl (hw _ (List.mem_of_getElem? (i := 33) rfl))) Via.refl e22 f23 (g := (mkF m 108 #[.val (.ref a), .val (.int v), .val (.double x), .second, .val (.long (((1 : Int64) <<< (v &&& 0x3f).toInt64))), .second, .val (.int (-1 : Int32))] [(.ref a), (.ref a)])) rfl rfl (hb hby d13_108)
  have f25 := (Exa.wr W22 (Exa.wr W15 (Exa.wr W4 pr0)))
  obtain ⟨T26, h26, X26, e26, W26, st26⟩ := putF X24 hx hZ hown (host := "") (Or.inl (hw _ (List.mem_of_getElem? (i := 33) rfl))) Via.refl e24 f23 f25 (Or.inl (hw _ (List.mem_of_getElem? (i := 34) rfl))) (hw _ (List.mem_of_getElem? (i := 1) rfl)) (ty := .int) (by decide) rfl rfl (g := (mkF m 113 #[.val (.ref a), .val (.int v), .val (.double x), .second, .val (.long (((1 : Int64) <<< (v &&& 0x3f).toInt64))), .second, .val (.int (-1 : Int32))] [(.int (1 : Int32)), (.ref a)])) rfl rfl (hb hby d13_113)
  have N26 := Fr.snoc X26 N22 pr9
  have Fw26 := Fld.same W26 f23
  have f27 := (Fld.other W26 (Fld.other W22 (Fld.other W15 (Fld.other W4 pr1 (Or.inr (slot_ne (Or.inl (hw _ (List.mem_of_getElem? (i := 32) rfl))) (Or.inl (hw _ (List.mem_of_getElem? (i := 36) rfl))) (by decide) (t := .boolean) (t' := .long) (by decide) (by decide)))) (Or.inl pr12)) (Or.inl pr13)) (Or.inr (slot_ne (Or.inl (hw _ (List.mem_of_getElem? (i := 32) rfl))) (Or.inl (hw _ (List.mem_of_getElem? (i := 34) rfl))) (by decide) (t := .boolean) (t' := .int) (by decide) (by decide))))
  obtain ⟨T28, X28, e28, st28⟩ := getF X26 hx hZ hown (host := "") (Or.inl (hw _ (List.mem_of_getElem? (i := 31) rfl))) Via.refl e26 f27 (g := (mkF m 117 #[.val (.ref a), .val (.int v), .val (.double x), .second, .val (.long (((1 : Int64) <<< (v &&& 0x3f).toInt64))), .second, .val (.int (-1 : Int32))] [(.ref a)])) rfl rfl (hb hby d13_117)
  obtain ⟨T29, X29, e29, st29⟩ := getF X28 hx hZ hown (host := "") (Or.inl (hw _ (List.mem_of_getElem? (i := 33) rfl))) Via.refl e28 Fw26 (g := (mkF m 137 #[.val (.ref a), .val (.int v), .val (.double x), .second, .val (.long (((1 : Int64) <<< (v &&& 0x3f).toInt64))), .second, .val (.int (-1 : Int32))] [(.ref a)])) rfl rfl (hb hby d13_137)
  have P30 : ∀ t, Steps p.tables e below (T29.setTop (mkF m 149 #[.val (.ref a), .val (.int v), .val (.double x), .second, .val (.long (((1 : Int64) <<< (v &&& 0x3f).toInt64))), .second, .val (.int (-1 : Int32))] [])) t → Steps p.tables e below (s₁.setTop (entryFrame m #[(.ref a), (.int v), (.double x)] 7)) t := by
    intro t kk
    refine P11 _ ?_
    show Steps p.tables e below (T8.setTop (mkF m 86 #[.val (.ref a), .val (.int v), .val (.double x), .second, .val (.long (((1 : Int64) <<< (v &&& 0x3f).toInt64))), .second, .val (.int (-1 : Int32))] [])) _
    refine XS.aloadN X8.here hx rfl (hb hby d13_86) rfl rfl ?_
    show Steps p.tables e below (T8.setTop (mkF m 87 #[.val (.ref a), .val (.int v), .val (.double x), .second, .val (.long (((1 : Int64) <<< (v &&& 0x3f).toInt64))), .second, .val (.int (-1 : Int32))] [(.ref a)])) _
    refine st12 _ ?_
    show Steps p.tables e below (T12.setTop (mkF m 90 #[.val (.ref a), .val (.int v), .val (.double x), .second, .val (.long (((1 : Int64) <<< (v &&& 0x3f).toInt64))), .second, .val (.int (-1 : Int32))] [(.ref b1)])) _
    refine XS.aloadN X12.here hx rfl (hb hby d13_90) rfl rfl ?_
    show Steps p.tables e below (T12.setTop (mkF m 91 #[.val (.ref a), .val (.int v), .val (.double x), .second, .val (.long (((1 : Int64) <<< (v &&& 0x3f).toInt64))), .second, .val (.int (-1 : Int32))] [(.ref a), (.ref b1)])) _
    refine st13 _ ?_
    show Steps p.tables e below (T13.setTop (mkF m 94 #[.val (.ref a), .val (.int v), .val (.double x), .second, .val (.long (((1 : Int64) <<< (v &&& 0x3f).toInt64))), .second, .val (.int (-1 : Int32))] [(.int (0 : Int32)), (.ref b1)])) _
    refine XS.iloadN X13.here hx rfl (hb hby d13_94) rfl ?_
    show Steps p.tables e below (T13.setTop (mkF m 95 #[.val (.ref a), .val (.int v), .val (.double x), .second, .val (.long (((1 : Int64) <<< (v &&& 0x3f).toInt64))), .second, .val (.int (-1 : Int32))] [(.int v), (.int (0 : Int32)), (.ref b1)])) _
    refine st15 _ ?_
    show Steps p.tables e below (T15.setTop (mkF m 96 #[.val (.ref a), .val (.int v), .val (.double x), .second, .val (.long (((1 : Int64) <<< (v &&& 0x3f).toInt64))), .second, .val (.int (-1 : Int32))] [])) _
    refine XS.aloadN X15.here hx rfl (hb hby d13_96) rfl rfl ?_
    show Steps p.tables e below (T15.setTop (mkF m 97 #[.val (.ref a), .val (.int v), .val (.double x), .second, .val (.long (((1 : Int64) <<< (v &&& 0x3f).toInt64))), .second, .val (.int (-1 : Int32))] [(.ref a)])) _
    refine st17 _ ?_
    show Steps p.tables e below (T17.setTop (mkF m 100 #[.val (.ref a), .val (.int v), .val (.double x), .second, .val (.long (((1 : Int64) <<< (v &&& 0x3f).toInt64))), .second, .val (.int (-1 : Int32))] [(.ref b2)])) _
    refine XS.aloadN X17.here hx rfl (hb hby d13_100) rfl rfl ?_
    show Steps p.tables e below (T17.setTop (mkF m 101 #[.val (.ref a), .val (.int v), .val (.double x), .second, .val (.long (((1 : Int64) <<< (v &&& 0x3f).toInt64))), .second, .val (.int (-1 : Int32))] [(.ref a), (.ref b2)])) _
    refine st19 _ ?_
    show Steps p.tables e below (T19.setTop (mkF m 104 #[.val (.ref a), .val (.int v), .val (.double x), .second, .val (.long (((1 : Int64) <<< (v &&& 0x3f).toInt64))), .second, .val (.int (-1 : Int32))] [(.int (0 : Int32)), (.ref b2)])) _
    refine XS.dloadN X19.here hx rfl (hb hby d13_104) rfl ?_
    show Steps p.tables e below (T19.setTop (mkF m 105 #[.val (.ref a), .val (.int v), .val (.double x), .second, .val (.long (((1 : Int64) <<< (v &&& 0x3f).toInt64))), .second, .val (.int (-1 : Int32))] [(.double x), (.int (0 : Int32)), (.ref b2)])) _
    refine st22 _ ?_
    show Steps p.tables e below (T22.setTop (mkF m 106 #[.val (.ref a), .val (.int v), .val (.double x), .second, .val (.long (((1 : Int64) <<< (v &&& 0x3f).toInt64))), .second, .val (.int (-1 : Int32))] [])) _
    refine XS.aloadN X22.here hx rfl (hb hby d13_106) rfl rfl ?_
    show Steps p.tables e below (T22.setTop (mkF m 107 #[.val (.ref a), .val (.int v), .val (.double x), .second, .val (.long (((1 : Int64) <<< (v &&& 0x3f).toInt64))), .second, .val (.int (-1 : Int32))] [(.ref a)])) _
    refine XS.dup X22.here hx rfl (hb hby d13_107) rfl rfl ?_
    show Steps p.tables e below (T22.setTop (mkF m 108 #[.val (.ref a), .val (.int v), .val (.double x), .second, .val (.long (((1 : Int64) <<< (v &&& 0x3f).toInt64))), .second, .val (.int (-1 : Int32))] [(.ref a), (.ref a)])) _
    refine st24 _ ?_
    show Steps p.tables e below (T24.setTop (mkF m 111 #[.val (.ref a), .val (.int v), .val (.double x), .second, .val (.long (((1 : Int64) <<< (v &&& 0x3f).toInt64))), .second, .val (.int (-1 : Int32))] [(.int (0 : Int32)), (.ref a)])) _
    refine XS.iconst X24.here hx rfl (hb hby d13_111) ?_
    show Steps p.tables e below (T24.setTop (mkF m 112 #[.val (.ref a), .val (.int v), .val (.double x), .second, .val (.long (((1 : Int64) <<< (v &&& 0x3f).toInt64))), .second, .val (.int (-1 : Int32))] [(.int (1 : Int32)), (.int (0 : Int32)), (.ref a)])) _
    refine XS.iadd X24.here hx rfl (hb hby d13_112) rfl ?_
    show Steps p.tables e below (T24.setTop (mkF m 113 #[.val (.ref a), .val (.int v), .val (.double x), .second, .val (.long (((1 : Int64) <<< (v &&& 0x3f).toInt64))), .second, .val (.int (-1 : Int32))] [(.int (1 : Int32)), (.ref a)])) _
    refine st26 _ ?_
    show Steps p.tables e below (T26.setTop (mkF m 116 #[.val (.ref a), .val (.int v), .val (.double x), .second, .val (.long (((1 : Int64) <<< (v &&& 0x3f).toInt64))), .second, .val (.int (-1 : Int32))] [])) _
    refine XS.aloadN X26.here hx rfl (hb hby d13_116) rfl rfl ?_
    show Steps p.tables e below (T26.setTop (mkF m 117 #[.val (.ref a), .val (.int v), .val (.double x), .second, .val (.long (((1 : Int64) <<< (v &&& 0x3f).toInt64))), .second, .val (.int (-1 : Int32))] [(.ref a)])) _
    refine st28 _ ?_
    show Steps p.tables e below (T28.setTop (mkF m 120 #[.val (.ref a), .val (.int v), .val (.double x), .second, .val (.long (((1 : Int64) <<< (v &&& 0x3f).toInt64))), .second, .val (.int (-1 : Int32))] [(.int (0 : Int32))])) _
    refine XS.ifYes X28.here hx rfl (pc0 := 120) (pc' := 136) rfl (hb hby d13_120) rfl (XT.i0_eq_t rfl) (by decide) (by decide) ?_
    show Steps p.tables e below (T28.setTop (mkF m 136 #[.val (.ref a), .val (.int v), .val (.double x), .second, .val (.long (((1 : Int64) <<< (v &&& 0x3f).toInt64))), .second, .val (.int (-1 : Int32))] [])) _
    refine XS.aloadN X28.here hx rfl (hb hby d13_136) rfl rfl ?_
    show Steps p.tables e below (T28.setTop (mkF m 137 #[.val (.ref a), .val (.int v), .val (.double x), .second, .val (.long (((1 : Int64) <<< (v &&& 0x3f).toInt64))), .second, .val (.int (-1 : Int32))] [(.ref a)])) _
    refine st29 _ ?_
    show Steps p.tables e below (T29.setTop (mkF m 140 #[.val (.ref a), .val (.int v), .val (.double x), .second, .val (.long (((1 : Int64) <<< (v &&& 0x3f).toInt64))), .second, .val (.int (-1 : Int32))] [(.int (1 : Int32))])) _
    refine XS.bipush X29.here hx rfl (hb hby d13_140) ?_
    show Steps p.tables e below (T29.setTop (mkF m 142 #[.val (.ref a), .val (.int v), .val (.double x), .second, .val (.long (((1 : Int64) <<< (v &&& 0x3f).toInt64))), .second, .val (.int (-1 : Int32))] [(.int (32 : Int32)), (.int (1 : Int32))])) _
    refine XS.icmpYes X29.here hx rfl (pc0 := 142) (pc' := 149) rfl (hb hby d13_142) rfl (XT.ii_le_t (by decide)) (by decide) (by decide) ?_
    show Steps p.tables e below (T29.setTop (mkF m 149 #[.val (.ref a), .val (.int v), .val (.double x), .second, .val (.long (((1 : Int64) <<< (v &&& 0x3f).toInt64))), .second, .val (.int (-1 : Int32))] [])) _
    exact kk
  have k31 : Keep h0 h26 [a, b1, b2] := (Keep.wr (Keep.wr (Keep.wr (Keep.wr (Keep.refl h0 [a, b1, b2]) W4 (Or.inl (List.mem_of_getElem? (i := 0) rfl))) W15 (Or.inl (List.mem_of_getElem? (i := 1) rfl))) W22 (Or.inl (List.mem_of_getElem? (i := 2) rfl))) W26 (Or.inl (List.mem_of_getElem? (i := 0) rfl)))
  have f32 := (Fld.other W26 (Fld.other W22 (Fld.other W15 Fw4 (Or.inl pr12)) (Or.inl pr13)) (Or.inr (slot_ne (Or.inl (hw _ (List.mem_of_getElem? (i := 36) rfl))) (Or.inl (hw _ (List.mem_of_getElem? (i := 34) rfl))) (by decide) (t := .long) (t' := .int) (by decide) (by decide))))
  have f33 := ((V15.other W22 pr14).other W26 (Ne.symm pr12))
  have f34 := (V22.other W26 (Ne.symm pr13))
  have f35 := (Fld.other W26 (Fld.other W22 (Fld.other W15 (Fld.other W4 pr4 (Or.inr (slot_ne (Or.inl (hw _ (List.mem_of_getElem? (i := 25) rfl))) (Or.inl (hw _ (List.mem_of_getElem? (i := 36) rfl))) (by decide) (t := .long) (t' := .long) (by decide) (by decide)))) (Or.inl pr12)) (Or.inl pr13)) (Or.inr (slot_ne (Or.inl (hw _ (List.mem_of_getElem? (i := 25) rfl))) (Or.inl (hw _ (List.mem_of_getElem? (i := 34) rfl))) (by decide) (t := .long) (t' := .int) (by decide) (by decide))))
  have f36 := (Fld.other W26 (Fld.other W22 (Fld.other W15 f7 (Or.inl pr12)) (Or.inl pr13)) (Or.inr (slot_ne (Or.inl (hw _ (List.mem_of_getElem? (i := 11) rfl))) (Or.inl (hw _ (List.mem_of_getElem? (i := 34) rfl))) (by decide) (t := (.array .int)) (t' := .int) (by decide) (by decide))))
  have f37 := (Fld.other W26 (Fld.other W22 f16 (Or.inl pr13)) (Or.inr (slot_ne (Or.inl (hw _ (List.mem_of_getElem? (i := 14) rfl))) (Or.inl (hw _ (List.mem_of_getElem? (i := 34) rfl))) (by decide) (t := (.array .double)) (t' := .int) (by decide) (by decide))))
  obtain ⟨fs, hr, hrun, hended, hW, hsame⟩ := X29.leave (v := none) (fun _ => rfl)
  refine ⟨_, _, P30 _ ?_, hrun, hended, _, _, rfl, ?_, ⟨_, rfl⟩, hW, hsame.mono (by decide) (by decide)⟩
  · exact X29.returnOut hx Bd.returns (hb hby d13_149) hr
  · show Q13 Z a v x ar b1 k1 vs d1 b2 k2 ds d2 h0 n0 _ T29.heap _
    rw [e29]
    exact ⟨rfl, N26, k31, Fw26, f32, f33, f34, f27, f35, f36, f37⟩
theorem d14_0 : decode prog_104_method_8_code 0 = .ok (.lconst 1, 1) := by decide +kernel
theorem d14_1 : decode prog_104_method_8_code 1 = .ok (.iload_n 1, 1) := by decide +kernel
theorem d14_2 : decode prog_104_method_8_code 2 = .ok (.lshl, 1) := by decide +kernel
theorem d14_3 : decode prog_104_method_8_code 3 = .ok (.lstore 4, 2) := by decide +kernel
theorem d14_5 : decode prog_104_method_8_code 5 = .ok (.aload_n 0, 1) := by decide +kernel
theorem d14_6 : decode prog_104_method_8_code 6 = .ok (.getfield 31, 3) := by decide +kernel
theorem d14_9 : decode prog_104_method_8_code 9 = .ok (.ifCond .ne 15, 3) := by decide +kernel
theorem d14_12 : decode prog_104_method_8_code 12 = .ok (.aload_n 0, 1) := by decide +kernel
theorem d14_13 : decode prog_104_method_8_code 13 = .ok (.getfield 35, 3) := by decide +kernel
theorem d14_16 : decode prog_104_method_8_code 16 = .ok (.lload 4, 2) := by decide +kernel
theorem d14_18 : decode prog_104_method_8_code 18 = .ok (.land, 1) := by decide +kernel
theorem d14_19 : decode prog_104_method_8_code 19 = .ok (.lconst 0, 1) := by decide +kernel
theorem d14_20 : decode prog_104_method_8_code 20 = .ok (.lcmp, 1) := by decide +kernel
theorem d14_21 : decode prog_104_method_8_code 21 = .ok (.ifCond .eq 11, 3) := by decide +kernel
theorem d14_24 : decode prog_104_method_8_code 24 = .ok (.aload_n 0, 1) := by decide +kernel
theorem d14_25 : decode prog_104_method_8_code 25 = .ok (.iload_n 1, 1) := by decide +kernel
theorem d14_26 : decode prog_104_method_8_code 26 = .ok (.invokevirtual 38, 3) := by decide +kernel
theorem d14_29 : decode prog_104_method_8_code 29 = .ok (.goto 4, 3) := by decide +kernel
theorem d14_32 : decode prog_104_method_8_code 32 = .ok (.iconst (-1), 1) := by decide +kernel
theorem d14_33 : decode prog_104_method_8_code 33 = .ok (.istore 6, 2) := by decide +kernel
theorem d14_35 : decode prog_104_method_8_code 35 = .ok (.aload_n 0, 1) := by decide +kernel
theorem d14_36 : decode prog_104_method_8_code 36 = .ok (.dup, 1) := by decide +kernel
theorem d14_37 : decode prog_104_method_8_code 37 = .ok (.getfield 35, 3) := by decide +kernel
theorem d14_40 : decode prog_104_method_8_code 40 = .ok (.lload 4, 2) := by decide +kernel
theorem d14_42 : decode prog_104_method_8_code 42 = .ok (.lor, 1) := by decide +kernel
theorem d14_43 : decode prog_104_method_8_code 43 = .ok (.putfield 35, 3) := by decide +kernel
theorem d14_46 : decode prog_104_method_8_code 46 = .ok (.iload 6, 2) := by decide +kernel
theorem d14_48 : decode prog_104_method_8_code 48 = .ok (.ifCond .lt 22, 3) := by decide +kernel
theorem d14_70 : decode prog_104_method_8_code 70 = .ok (.aload_n 0, 1) := by decide +kernel
theorem d14_71 : decode prog_104_method_8_code 71 = .ok (.getfield 23, 3) := by decide +kernel
theorem d14_74 : decode prog_104_method_8_code 74 = .ok (.aload_n 0, 1) := by decide +kernel
theorem d14_75 : decode prog_104_method_8_code 75 = .ok (.getfield 7, 3) := by decide +kernel
theorem d14_78 : decode prog_104_method_8_code 78 = .ok (.arraylength, 1) := by decide +kernel
theorem d14_79 : decode prog_104_method_8_code 79 = .ok (.if_icmp .ne 7, 3) := by decide +kernel
theorem d14_86 : decode prog_104_method_8_code 86 = .ok (.aload_n 0, 1) := by decide +kernel
theorem d14_87 : decode prog_104_method_8_code 87 = .ok (.getfield 7, 3) := by decide +kernel
theorem d14_90 : decode prog_104_method_8_code 90 = .ok (.aload_n 0, 1) := by decide +kernel
theorem d14_91 : decode prog_104_method_8_code 91 = .ok (.getfield 23, 3) := by decide +kernel
theorem d14_94 : decode prog_104_method_8_code 94 = .ok (.iload_n 1, 1) := by decide +kernel
theorem d14_95 : decode prog_104_method_8_code 95 = .ok (.iastore, 1) := by decide +kernel
theorem d14_96 : decode prog_104_method_8_code 96 = .ok (.aload_n 0, 1) := by decide +kernel
theorem d14_97 : decode prog_104_method_8_code 97 = .ok (.getfield 13, 3) := by decide +kernel
theorem d14_100 : decode prog_104_method_8_code 100 = .ok (.aload_n 0, 1) := by decide +kernel
theorem d14_101 : decode prog_104_method_8_code 101 = .ok (.getfield 23, 3) := by decide +kernel
theorem d14_104 : decode prog_104_method_8_code 104 = .ok (.dload_n 2, 1) := by decide +kernel
theorem d14_105 : decode prog_104_method_8_code 105 = .ok (.dastore, 1) := by decide +kernel
theorem d14_106 : decode prog_104_method_8_code 106 = .ok (.aload_n 0, 1) := by decide +kernel
theorem d14_107 : decode prog_104_method_8_code 107 = .ok (.dup, 1) := by decide +kernel
theorem d14_108 : decode prog_104_method_8_code 108 = .ok (.getfield 23, 3) := by decide +kernel
theorem d14_111 : decode prog_104_method_8_code 111 = .ok (.iconst 1, 1) := by decide +kernel
theorem d14_112 : decode prog_104_method_8_code 112 = .ok (.iadd, 1) := by decide +kernel
theorem d14_113 : decode prog_104_method_8_code 113 = .ok (.putfield 23, 3) := by decide +kernel
theorem d14_116 : decode prog_104_method_8_code 116 = .ok (.aload_n 0, 1) := by decide +kernel
theorem d14_117 : decode prog_104_method_8_code 117 = .ok (.getfield 31, 3) := by decide +kernel
theorem d14_120 : decode prog_104_method_8_code 120 = .ok (.ifCond .eq 16, 3) := by decide +kernel
theorem d14_136 : decode prog_104_method_8_code 136 = .ok (.aload_n 0, 1) := by decide +kernel
theorem d14_137 : decode prog_104_method_8_code 137 = .ok (.getfield 23, 3) := by decide +kernel
theorem d14_140 : decode prog_104_method_8_code 140 = .ok (.bipush 32, 2) := by decide +kernel
theorem d14_142 : decode prog_104_method_8_code 142 = .ok (.if_icmp .le 7, 3) := by decide +kernel
theorem d14_149 : decode prog_104_method_8_code 149 = .ok (.return_, 1) := by decide +kernel
theorem ef_14 (m : MethodId) (x0 : Addr) (x1 : Int32) (x2 : UInt64) : entryFrame m #[(.ref x0), (.int x1), (.double x2)] 7 = (mkF m 0 #[.val (.ref x0), .val (.int x1), .val (.double x2), .second, .unset, .unset, .unset] []) := by first | (simp [entryFrame, mkF, argsToLocals, Value.category]; done) | rfl
def Q14 (Z : State) (a : Addr) (v : Int32) (x : UInt64) (ar : Int64) (sn : Int64) (b1 : Addr) (k1 : ClassId) (vs : List Value) (d1 : Value) (b2 : Addr) (k2 : ClassId) (ds : List Value) (d2 : Value) (y0 : Int32) (h0 : Heap) (n0 : Nat) (vX : Option Value) (hX : Heap) (lX : List Loc) : Prop := vX = none ∧ Fr n0 lX ∧ (Keep h0 hX [a, b1, b2]) ∧ (Fld Z hX a "org/wayfold/search/Steps" "size" "I" (.int (2 : Int32))) ∧ (Fld Z hX a "org/wayfold/search/Steps" "seen" "J" (.long (sn ||| ((1 : Int64) <<< (v &&& 0x3f).toInt64)))) ∧ (Arv Z hX b1 k1 .int (16 : Int32) (vs.set 1 (.int v)) d1) ∧ (Arv Z hX b2 k2 .double (16 : Int32) (ds.set 1 (.double x)) d2) ∧ (Fld Z hX a "org/wayfold/search/Steps" "hashed" "Z" (.int (0 : Int32))) ∧ (Fld Z hX a "org/wayfold/search/Steps" "arcsRead" "J" (.long ar)) ∧ (Fld Z hX a "org/wayfold/search/Steps" "vertices" "[I" (.ref b1)) ∧ (Fld Z hX a "org/wayfold/search/Steps" "costs" "[D" (.ref b2))
set_option maxRecDepth 65536 in
set_option maxHeartbeats 40000000 in
theorem rm14 (l : Launch) (Z : State) (a0 : Array Value) (hw : ∀ d ∈ tables_1, d.before a0 Z = true) (ws : List Jvm.Cond) (a : Addr) (v : Int32) (x : UInt64) (ar : Int64) (sn : Int64) (b1 : Addr) (k1 : ClassId) (vs : List Value) (d1 : Value) (b2 : Addr) (k2 : ClassId) (ds : List Value) (d2 : Value) (y0 : Int32) (h0 : Heap) (n0 : Nat) (Z0 : n0 ≤ h0.size) (pr0 : Exa Z h0 a "org/wayfold/search/Steps") (pr1 : Fld Z h0 a "org/wayfold/search/Steps" "hashed" "Z" (.int (0 : Int32))) (pr2 : Fld Z h0 a "org/wayfold/search/Steps" "size" "I" (.int (1 : Int32))) (pr3 : Fld Z h0 a "org/wayfold/search/Steps" "seen" "J" (.long sn)) (pr4 : Fld Z h0 a "org/wayfold/search/Steps" "arcsRead" "J" (.long ar)) (pr5 : Fld Z h0 a "org/wayfold/search/Steps" "vertices" "[I" (.ref b1)) (pr6 : Fld Z h0 a "org/wayfold/search/Steps" "costs" "[D" (.ref b2)) (pr7 : Arv Z h0 b1 k1 .int (16 : Int32) vs d1) (pr8 : Arv Z h0 b2 k2 .double (16 : Int32) ds d2) (pr9 : n0 ≤ a) (pr10 : n0 ≤ b1) (pr11 : n0 ≤ b2) (pr12 : a ≠ b1) (pr13 : a ≠ b2) (pr14 : b1 ≠ b2) (pr15 : vs.length = 16) (pr16 : ds.length = 16) (pr17 : vs.getD (0 : Int32).toNatClampNeg d1 = .int y0) (pr18 : ¬ y0 = v) :
    MetFree l (⟨"org/wayfold/search/Steps", "merge", "(ID)V"⟩ : MethodName) (head1 (Jvm.Cond.code (⟨"org/wayfold/search/Steps", "merge", "(ID)V"⟩ : MethodName) prog_104_method_8_code 7 none :: ws) ({ frames := 1, cells := 0, slots := 0, locals := 15 } : Room)) (fun aX uX => aX = #[(.ref a), (.int v), (.double x)] ∧ Z.Warmed39 uX.vm ∧ uX.heap = h0) (fun _ _ _ _ _ => True) (fun _ uX oX wX => ∃ vX lX, oX = .returned vX ∧ Q14 Z a v x ar sn b1 k1 vs d1 b2 k2 ds d2 y0 h0 n0 vX wX.heap lX ∧ FrameEnd uX oX wX lX ({ frames := 1, cells := 0, slots := 0, locals := 15 } : Room).cells ({ frames := 1, cells := 0, slots := 0, locals := 15 } : Room).slots) := by
  refine MetFree.of_bodySF (plainFor_of_name pn_0) hisR ?_
  intro p e s m args below meth c s₁ Bd hml0 hP hK
  obtain ⟨rfl, hZ, hh⟩ := hP
  have hx := Bd.exec
  have hby := Bd.bytes
  have hml : c.maxLocals = 7 := hml0
  have hown : s.vm.findClass "org/wayfold/search/Steps" = some m.cls := findClass_of_methodNamed Bd.named
  have hnm := (name_of_methodNamed Bd.named Bd.method).1
  have X0 : Stand p l e ({ frames := 1, cells := 0, slots := 0, locals := 15 } : Room) s m #[(.ref a), (.int v), (.double x)] below meth c s₁ [] 0 0 := Stand.of_body Bd
  have e0 : s₁.heap = h0 := by rw [← hh, Bd.state]; rfl
  have N0 := Fr.nil n0
  have pre0 : ∀ t, Steps p.tables e below (s₁.setTop (mkF m 0 #[.val (.ref a), .val (.int v), .val (.double x), .second, .unset, .unset, .unset] [])) t → Steps p.tables e below (s₁.setTop (entryFrame m #[(.ref a), (.int v), (.double x)] 7)) t := fun t k => castTop (ef_14 m a v x) k
  obtain ⟨T1, X1, e1, st1⟩ := getF X0 hx hZ hown (host := "") (Or.inl (hw _ (List.mem_of_getElem? (i := 31) rfl))) Via.refl e0 pr1 (g := (mkF m 6 #[.val (.ref a), .val (.int v), .val (.double x), .second, .val (.long (((1 : Int64) <<< (v &&& 0x3f).toInt64))), .second, .unset] [(.ref a)])) rfl rfl (hb hby d14_6)
  obtain ⟨T2, X2, e2, st2⟩ := getF X1 hx hZ hown (host := "") (Or.inl (hw _ (List.mem_of_getElem? (i := 35) rfl))) Via.refl e1 pr3 (g := (mkF m 13 #[.val (.ref a), .val (.int v), .val (.double x), .second, .val (.long (((1 : Int64) <<< (v &&& 0x3f).toInt64))), .second, .unset] [(.ref a)])) rfl rfl (hb hby d14_13)
  have P3 : ∀ t, Steps p.tables e below (T2.setTop (mkF m 21 #[.val (.ref a), .val (.int v), .val (.double x), .second, .val (.long (((1 : Int64) <<< (v &&& 0x3f).toInt64))), .second, .unset] [(.int (XT.cmpL (sn &&& (((1 : Int64) <<< (v &&& 0x3f).toInt64))) (0 : Int64)))])) t → Steps p.tables e below (s₁.setTop (entryFrame m #[(.ref a), (.int v), (.double x)] 7)) t := by
    intro t kk
    refine pre0 _ ?_
    show Steps p.tables e below (s₁.setTop (mkF m 0 #[.val (.ref a), .val (.int v), .val (.double x), .second, .unset, .unset, .unset] [])) _
    refine XS.lconst X0.here hx rfl (hb hby d14_0) ?_
    show Steps p.tables e below (s₁.setTop (mkF m 1 #[.val (.ref a), .val (.int v), .val (.double x), .second, .unset, .unset, .unset] [(.long (1 : Int64))])) _
    refine XS.iloadN X0.here hx rfl (hb hby d14_1) rfl ?_
    show Steps p.tables e below (s₁.setTop (mkF m 2 #[.val (.ref a), .val (.int v), .val (.double x), .second, .unset, .unset, .unset] [(.int v), (.long (1 : Int64))])) _
    refine XS.lshl X0.here hx rfl (hb hby d14_2) rfl ?_
    show Steps p.tables e below (s₁.setTop (mkF m 3 #[.val (.ref a), .val (.int v), .val (.double x), .second, .unset, .unset, .unset] [(.long (((1 : Int64) <<< (v &&& 0x3f).toInt64)))])) _
    refine XS.lstore X0.here hx rfl (hb hby d14_3) rfl (l' := #[.val (.ref a), .val (.int v), .val (.double x), .second, .val (.long (((1 : Int64) <<< (v &&& 0x3f).toInt64))), .second, .unset]) rfl ?_
    show Steps p.tables e below (s₁.setTop (mkF m 5 #[.val (.ref a), .val (.int v), .val (.double x), .second, .val (.long (((1 : Int64) <<< (v &&& 0x3f).toInt64))), .second, .unset] [])) _
    refine XS.aloadN X0.here hx rfl (hb hby d14_5) rfl rfl ?_
    show Steps p.tables e below (s₁.setTop (mkF m 6 #[.val (.ref a), .val (.int v), .val (.double x), .second, .val (.long (((1 : Int64) <<< (v &&& 0x3f).toInt64))), .second, .unset] [(.ref a)])) _
    refine st1 _ ?_
    show Steps p.tables e below (T1.setTop (mkF m 9 #[.val (.ref a), .val (.int v), .val (.double x), .second, .val (.long (((1 : Int64) <<< (v &&& 0x3f).toInt64))), .second, .unset] [(.int (0 : Int32))])) _
    refine XS.ifNo X1.here hx rfl (hb hby d14_9) rfl (XT.i0_ne_f rfl) ?_
    show Steps p.tables e below (T1.setTop (mkF m 12 #[.val (.ref a), .val (.int v), .val (.double x), .second, .val (.long (((1 : Int64) <<< (v &&& 0x3f).toInt64))), .second, .unset] [])) _
    refine XS.aloadN X1.here hx rfl (hb hby d14_12) rfl rfl ?_
    show Steps p.tables e below (T1.setTop (mkF m 13 #[.val (.ref a), .val (.int v), .val (.double x), .second, .val (.long (((1 : Int64) <<< (v &&& 0x3f).toInt64))), .second, .unset] [(.ref a)])) _
    refine st2 _ ?_
    show Steps p.tables e below (T2.setTop (mkF m 16 #[.val (.ref a), .val (.int v), .val (.double x), .second, .val (.long (((1 : Int64) <<< (v &&& 0x3f).toInt64))), .second, .unset] [(.long sn)])) _
    refine XS.lload X2.here hx rfl (hb hby d14_16) rfl ?_
    show Steps p.tables e below (T2.setTop (mkF m 18 #[.val (.ref a), .val (.int v), .val (.double x), .second, .val (.long (((1 : Int64) <<< (v &&& 0x3f).toInt64))), .second, .unset] [(.long (((1 : Int64) <<< (v &&& 0x3f).toInt64))), (.long sn)])) _
    refine XS.land X2.here hx rfl (hb hby d14_18) rfl ?_
    show Steps p.tables e below (T2.setTop (mkF m 19 #[.val (.ref a), .val (.int v), .val (.double x), .second, .val (.long (((1 : Int64) <<< (v &&& 0x3f).toInt64))), .second, .unset] [(.long (sn &&& (((1 : Int64) <<< (v &&& 0x3f).toInt64))))])) _
    refine XS.lconst X2.here hx rfl (hb hby d14_19) ?_
    show Steps p.tables e below (T2.setTop (mkF m 20 #[.val (.ref a), .val (.int v), .val (.double x), .second, .val (.long (((1 : Int64) <<< (v &&& 0x3f).toInt64))), .second, .unset] [(.long (0 : Int64)), (.long (sn &&& (((1 : Int64) <<< (v &&& 0x3f).toInt64))))])) _
    refine XT.lcmp X2.here hx rfl (hb hby d14_20) rfl ?_
    show Steps p.tables e below (T2.setTop (mkF m 21 #[.val (.ref a), .val (.int v), .val (.double x), .second, .val (.long (((1 : Int64) <<< (v &&& 0x3f).toInt64))), .second, .unset] [(.int (XT.cmpL (sn &&& (((1 : Int64) <<< (v &&& 0x3f).toInt64))) (0 : Int64)))])) _
    exact kk
  by_cases c4 : (sn &&& (((1 : Int64) <<< (v &&& 0x3f).toInt64))) = (0 : Int64)
  · skip
    obtain ⟨T5, X5, e5, st5⟩ := getF X2 hx hZ hown (host := "") (Or.inl (hw _ (List.mem_of_getElem? (i := 35) rfl))) Via.refl e2 pr3 (g := (mkF m 37 #[.val (.ref a), .val (.int v), .val (.double x), .second, .val (.long (((1 : Int64) <<< (v &&& 0x3f).toInt64))), .second, .val (.int (-1 : Int32))] [(.ref a), (.ref a)])) rfl rfl (hb hby d14_37)
    obtain ⟨T6, h6, X6, e6, W6, st6⟩ := putF X5 hx hZ hown (host := "") (Or.inl (hw _ (List.mem_of_getElem? (i := 35) rfl))) Via.refl e5 pr3 pr0 (Or.inl (hw _ (List.mem_of_getElem? (i := 36) rfl))) (hw _ (List.mem_of_getElem? (i := 1) rfl)) (ty := .long) (by decide) rfl rfl (g := (mkF m 43 #[.val (.ref a), .val (.int v), .val (.double x), .second, .val (.long (((1 : Int64) <<< (v &&& 0x3f).toInt64))), .second, .val (.int (-1 : Int32))] [(.long (sn ||| (((1 : Int64) <<< (v &&& 0x3f).toInt64)))), (.ref a)])) rfl rfl (hb hby d14_43)
    have N6 := Fr.snoc X6 N0 pr9
    have Fw6 := Fld.same W6 pr3
    have f7 := (Fld.other W6 pr2 (Or.inr (slot_ne (Or.inl (hw _ (List.mem_of_getElem? (i := 34) rfl))) (Or.inl (hw _ (List.mem_of_getElem? (i := 36) rfl))) (by decide) (t := .int) (t' := .long) (by decide) (by decide))))
    obtain ⟨T8, X8, e8, st8⟩ := getF X6 hx hZ hown (host := "") (Or.inl (hw _ (List.mem_of_getElem? (i := 33) rfl))) Via.refl e6 f7 (g := (mkF m 71 #[.val (.ref a), .val (.int v), .val (.double x), .second, .val (.long (((1 : Int64) <<< (v &&& 0x3f).toInt64))), .second, .val (.int (-1 : Int32))] [(.ref a)])) rfl rfl (hb hby d14_71)
    have f9 := (Fld.other W6 pr5 (Or.inr (slot_ne (Or.inl (hw _ (List.mem_of_getElem? (i := 11) rfl))) (Or.inl (hw _ (List.mem_of_getElem? (i := 36) rfl))) (by decide) (t := (.array .int)) (t' := .long) (by decide) (by decide))))
    obtain ⟨T10, X10, e10, st10⟩ := getF X8 hx hZ hown (host := "") (Or.inl (hw _ (List.mem_of_getElem? (i := 10) rfl))) Via.refl e8 f9 (g := (mkF m 75 #[.val (.ref a), .val (.int v), .val (.double x), .second, .val (.long (((1 : Int64) <<< (v &&& 0x3f).toInt64))), .second, .val (.int (-1 : Int32))] [(.ref a), (.int (1 : Int32))])) rfl rfl (hb hby d14_75)
    have f11 := (pr7.other W6 (Ne.symm pr12))
    obtain ⟨cl_a12, Ar_a12, q_a12, S_a12, N_a12, H_a12, G_a12⟩ := id f11
    obtain ⟨T13, X13, e13, st13⟩ := getF X10 hx hZ hown (host := "") (Or.inl (hw _ (List.mem_of_getElem? (i := 10) rfl))) Via.refl e10 f9 (g := (mkF m 87 #[.val (.ref a), .val (.int v), .val (.double x), .second, .val (.long (((1 : Int64) <<< (v &&& 0x3f).toInt64))), .second, .val (.int (-1 : Int32))] [(.ref a)])) rfl rfl (hb hby d14_87)
    obtain ⟨T14, X14, e14, st14⟩ := getF X13 hx hZ hown (host := "") (Or.inl (hw _ (List.mem_of_getElem? (i := 33) rfl))) Via.refl e13 f7 (g := (mkF m 91 #[.val (.ref a), .val (.int v), .val (.double x), .second, .val (.long (((1 : Int64) <<< (v &&& 0x3f).toInt64))), .second, .val (.int (-1 : Int32))] [(.ref a), (.ref b1)])) rfl rfl (hb hby d14_91)
    obtain ⟨cl_a15, Ar_a15, q_a15, S_a15, N_a15, H_a15, G_a15⟩ := id f11
    have hin_a15 : ¬ ((1 : Int32) < 0 ∨ cl_a15.slots.size ≤ ((1 : Int32)).toNatClampNeg) := inb_of S_a15 ⟨by decide, by decide⟩
    obtain ⟨T16, h16, X16, e16, W16, st16⟩ := stI X14 hx hZ e14 Ar_a15 (j := (1 : Int32)) hin_a15 (g := (mkF m 95 #[.val (.ref a), .val (.int v), .val (.double x), .second, .val (.long (((1 : Int64) <<< (v &&& 0x3f).toInt64))), .second, .val (.int (-1 : Int32))] [(.int v), (.int (1 : Int32)), (.ref b1)])) rfl rfl (hb hby d14_95)
    have V16 : Arv Z h16 b1 k1 .int (16 : Int32) (vs.set 1 (.int v)) d1 := Arv.set Ar_a15 q_a15 S_a15 N_a15 H_a15 G_a15 rfl W16 1 rfl (by rw [pr15]; decide)
    have N16 := Fr.snoc X16 N6 pr10
    have f17 := (Fld.other W16 (Fld.other W6 pr6 (Or.inr (slot_ne (Or.inl (hw _ (List.mem_of_getElem? (i := 14) rfl))) (Or.inl (hw _ (List.mem_of_getElem? (i := 36) rfl))) (by decide) (t := (.array .double)) (t' := .long) (by decide) (by decide)))) (Or.inl pr12))
    obtain ⟨T18, X18, e18, st18⟩ := getF X16 hx hZ hown (host := "") (Or.inl (hw _ (List.mem_of_getElem? (i := 13) rfl))) Via.refl e16 f17 (g := (mkF m 97 #[.val (.ref a), .val (.int v), .val (.double x), .second, .val (.long (((1 : Int64) <<< (v &&& 0x3f).toInt64))), .second, .val (.int (-1 : Int32))] [(.ref a)])) rfl rfl (hb hby d14_97)
    have f19 := (Fld.other W16 f7 (Or.inl pr12))
    obtain ⟨T20, X20, e20, st20⟩ := getF X18 hx hZ hown (host := "") (Or.inl (hw _ (List.mem_of_getElem? (i := 33) rfl))) Via.refl e18 f19 (g := (mkF m 101 #[.val (.ref a), .val (.int v), .val (.double x), .second, .val (.long (((1 : Int64) <<< (v &&& 0x3f).toInt64))), .second, .val (.int (-1 : Int32))] [(.ref a), (.ref b2)])) rfl rfl (hb hby d14_101)
    have f21 := ((pr8.other W6 (Ne.symm pr13)).other W16 (Ne.symm pr14))
    obtain ⟨cl_a22, Ar_a22, q_a22, S_a22, N_a22, H_a22, G_a22⟩ := id f21
    have hin_a22 : ¬ ((1 : Int32) < 0 ∨ cl_a22.slots.size ≤ ((1 : Int32)).toNatClampNeg) := inb_of S_a22 ⟨by decide, by decide⟩
    obtain ⟨T23, h23, X23, e23, W23, st23⟩ := stD X20 hx hZ e20 Ar_a22 (j := (1 : Int32)) hin_a22 (g := (mkF m 105 #[.val (.ref a), .val (.int v), .val (.double x), .second, .val (.long (((1 : Int64) <<< (v &&& 0x3f).toInt64))), .second, .val (.int (-1 : Int32))] [(.double x), (.int (1 : Int32)), (.ref b2)])) rfl rfl (hb hby d14_105)
    have V23 : Arv Z h23 b2 k2 .double (16 : Int32) (ds.set 1 (.double x)) d2 := Arv.set Ar_a22 q_a22 S_a22 N_a22 H_a22 G_a22 rfl W23 1 rfl (by rw [pr16]; decide)
    have N23 := Fr.snoc X23 N16 pr11
    have P24 : ∀ t, Steps p.tables e below (T23.setTop (mkF m 107 #[.val (.ref a), .val (.int v), .val (.double x), .second, .val (.long (((1 : Int64) <<< (v &&& 0x3f).toInt64))), .second, .val (.int (-1 : Int32))] [(.ref a)])) t → Steps p.tables e below (s₁.setTop (entryFrame m #[(.ref a), (.int v), (.double x)] 7)) t := by
      intro t kk
      refine P3 _ ?_
      show Steps p.tables e below (T2.setTop (mkF m 21 #[.val (.ref a), .val (.int v), .val (.double x), .second, .val (.long (((1 : Int64) <<< (v &&& 0x3f).toInt64))), .second, .unset] [(.int (XT.cmpL (sn &&& (((1 : Int64) <<< (v &&& 0x3f).toInt64))) (0 : Int64)))])) _
      refine XS.ifYes X2.here hx rfl (pc0 := 21) (pc' := 32) rfl (hb hby d14_21) rfl (XT.ll_eq_t c4) (by decide) (by decide) ?_
      show Steps p.tables e below (T2.setTop (mkF m 32 #[.val (.ref a), .val (.int v), .val (.double x), .second, .val (.long (((1 : Int64) <<< (v &&& 0x3f).toInt64))), .second, .unset] [])) _
      refine XT.iconstV X2.here hx rfl (-1 : Int32) (hb hby d14_32) (by decide) ?_
      show Steps p.tables e below (T2.setTop (mkF m 33 #[.val (.ref a), .val (.int v), .val (.double x), .second, .val (.long (((1 : Int64) <<< (v &&& 0x3f).toInt64))), .second, .unset] [(.int (-1 : Int32))])) _
      refine XS.istore X2.here hx rfl (hb hby d14_33) rfl (l' := #[.val (.ref a), .val (.int v), .val (.double x), .second, .val (.long (((1 : Int64) <<< (v &&& 0x3f).toInt64))), .second, .val (.int (-1 : Int32))]) rfl ?_
      show Steps p.tables e below (T2.setTop (mkF m 35 #[.val (.ref a), .val (.int v), .val (.double x), .second, .val (.long (((1 : Int64) <<< (v &&& 0x3f).toInt64))), .second, .val (.int (-1 : Int32))] [])) _
      refine XS.aloadN X2.here hx rfl (hb hby d14_35) rfl rfl ?_
      show Steps p.tables e below (T2.setTop (mkF m 36 #[.val (.ref a), .val (.int v), .val (.double x), .second, .val (.long (((1 : Int64) <<< (v &&& 0x3f).toInt64))), .second, .val (.int (-1 : Int32))] [(.ref a)])) _
      refine XS.dup X2.here hx rfl (hb hby d14_36) rfl rfl ?_
      show Steps p.tables e below (T2.setTop (mkF m 37 #[.val (.ref a), .val (.int v), .val (.double x), .second, .val (.long (((1 : Int64) <<< (v &&& 0x3f).toInt64))), .second, .val (.int (-1 : Int32))] [(.ref a), (.ref a)])) _
      refine st5 _ ?_
      show Steps p.tables e below (T5.setTop (mkF m 40 #[.val (.ref a), .val (.int v), .val (.double x), .second, .val (.long (((1 : Int64) <<< (v &&& 0x3f).toInt64))), .second, .val (.int (-1 : Int32))] [(.long sn), (.ref a)])) _
      refine XS.lload X5.here hx rfl (hb hby d14_40) rfl ?_
      show Steps p.tables e below (T5.setTop (mkF m 42 #[.val (.ref a), .val (.int v), .val (.double x), .second, .val (.long (((1 : Int64) <<< (v &&& 0x3f).toInt64))), .second, .val (.int (-1 : Int32))] [(.long (((1 : Int64) <<< (v &&& 0x3f).toInt64))), (.long sn), (.ref a)])) _
      refine XS.lor X5.here hx rfl (hb hby d14_42) rfl ?_
      show Steps p.tables e below (T5.setTop (mkF m 43 #[.val (.ref a), .val (.int v), .val (.double x), .second, .val (.long (((1 : Int64) <<< (v &&& 0x3f).toInt64))), .second, .val (.int (-1 : Int32))] [(.long (sn ||| (((1 : Int64) <<< (v &&& 0x3f).toInt64)))), (.ref a)])) _
      refine st6 _ ?_
      show Steps p.tables e below (T6.setTop (mkF m 46 #[.val (.ref a), .val (.int v), .val (.double x), .second, .val (.long (((1 : Int64) <<< (v &&& 0x3f).toInt64))), .second, .val (.int (-1 : Int32))] [])) _
      refine XS.iload X6.here hx rfl (hb hby d14_46) rfl ?_
      show Steps p.tables e below (T6.setTop (mkF m 48 #[.val (.ref a), .val (.int v), .val (.double x), .second, .val (.long (((1 : Int64) <<< (v &&& 0x3f).toInt64))), .second, .val (.int (-1 : Int32))] [(.int (-1 : Int32))])) _
      refine XS.ifYes X6.here hx rfl (pc0 := 48) (pc' := 70) rfl (hb hby d14_48) rfl (XT.i0_lt_t (by decide)) (by decide) (by decide) ?_
      show Steps p.tables e below (T6.setTop (mkF m 70 #[.val (.ref a), .val (.int v), .val (.double x), .second, .val (.long (((1 : Int64) <<< (v &&& 0x3f).toInt64))), .second, .val (.int (-1 : Int32))] [])) _
      refine XS.aloadN X6.here hx rfl (hb hby d14_70) rfl rfl ?_
      show Steps p.tables e below (T6.setTop (mkF m 71 #[.val (.ref a), .val (.int v), .val (.double x), .second, .val (.long (((1 : Int64) <<< (v &&& 0x3f).toInt64))), .second, .val (.int (-1 : Int32))] [(.ref a)])) _
      refine st8 _ ?_
      show Steps p.tables e below (T8.setTop (mkF m 74 #[.val (.ref a), .val (.int v), .val (.double x), .second, .val (.long (((1 : Int64) <<< (v &&& 0x3f).toInt64))), .second, .val (.int (-1 : Int32))] [(.int (1 : Int32))])) _
      refine XS.aloadN X8.here hx rfl (hb hby d14_74) rfl rfl ?_
      show Steps p.tables e below (T8.setTop (mkF m 75 #[.val (.ref a), .val (.int v), .val (.double x), .second, .val (.long (((1 : Int64) <<< (v &&& 0x3f).toInt64))), .second, .val (.int (-1 : Int32))] [(.ref a), (.int (1 : Int32))])) _
      refine st10 _ ?_
      show Steps p.tables e below (T10.setTop (mkF m 78 #[.val (.ref a), .val (.int v), .val (.double x), .second, .val (.long (((1 : Int64) <<< (v &&& 0x3f).toInt64))), .second, .val (.int (-1 : Int32))] [(.ref b1), (.int (1 : Int32))])) _
      refine X10.arraylength hx (by rw [e10]; exact Ar_a12.1) (State.isArrayOf_alike hZ.alike Ar_a12.2.1) (g := (mkF m 78 #[.val (.ref a), .val (.int v), .val (.double x), .second, .val (.long (((1 : Int64) <<< (v &&& 0x3f).toInt64))), .second, .val (.int (-1 : Int32))] [(.ref b1), (.int (1 : Int32))])) rfl rfl (hb hby d14_78) _ ?_
      rw [len_of S_a12 N_a12]
      show Steps p.tables e below (T10.setTop (mkF m 79 #[.val (.ref a), .val (.int v), .val (.double x), .second, .val (.long (((1 : Int64) <<< (v &&& 0x3f).toInt64))), .second, .val (.int (-1 : Int32))] [(.int (16 : Int32)), (.int (1 : Int32))])) _
      refine XS.icmpYes X10.here hx rfl (pc0 := 79) (pc' := 86) rfl (hb hby d14_79) rfl (XT.ii_ne_t (by decide)) (by decide) (by decide) ?_
      show Steps p.tables e below (T10.setTop (mkF m 86 #[.val (.ref a), .val (.int v), .val (.double x), .second, .val (.long (((1 : Int64) <<< (v &&& 0x3f).toInt64))), .second, .val (.int (-1 : Int32))] [])) _
      refine XS.aloadN X10.here hx rfl (hb hby d14_86) rfl rfl ?_
      show Steps p.tables e below (T10.setTop (mkF m 87 #[.val (.ref a), .val (.int v), .val (.double x), .second, .val (.long (((1 : Int64) <<< (v &&& 0x3f).toInt64))), .second, .val (.int (-1 : Int32))] [(.ref a)])) _
      refine st13 _ ?_
      show Steps p.tables e below (T13.setTop (mkF m 90 #[.val (.ref a), .val (.int v), .val (.double x), .second, .val (.long (((1 : Int64) <<< (v &&& 0x3f).toInt64))), .second, .val (.int (-1 : Int32))] [(.ref b1)])) _
      refine XS.aloadN X13.here hx rfl (hb hby d14_90) rfl rfl ?_
      show Steps p.tables e below (T13.setTop (mkF m 91 #[.val (.ref a), .val (.int v), .val (.double x), .second, .val (.long (((1 : Int64) <<< (v &&& 0x3f).toInt64))), .second, .val (.int (-1 : Int32))] [(.ref a), (.ref b1)])) _
      refine st14 _ ?_
      show Steps p.tables e below (T14.setTop (mkF m 94 #[.val (.ref a), .val (.int v), .val (.double x), .second, .val (.long (((1 : Int64) <<< (v &&& 0x3f).toInt64))), .second, .val (.int (-1 : Int32))] [(.int (1 : Int32)), (.ref b1)])) _
      refine XS.iloadN X14.here hx rfl (hb hby d14_94) rfl ?_
      show Steps p.tables e below (T14.setTop (mkF m 95 #[.val (.ref a), .val (.int v), .val (.double x), .second, .val (.long (((1 : Int64) <<< (v &&& 0x3f).toInt64))), .second, .val (.int (-1 : Int32))] [(.int v), (.int (1 : Int32)), (.ref b1)])) _
      refine st16 _ ?_
      show Steps p.tables e below (T16.setTop (mkF m 96 #[.val (.ref a), .val (.int v), .val (.double x), .second, .val (.long (((1 : Int64) <<< (v &&& 0x3f).toInt64))), .second, .val (.int (-1 : Int32))] [])) _
      refine XS.aloadN X16.here hx rfl (hb hby d14_96) rfl rfl ?_
      show Steps p.tables e below (T16.setTop (mkF m 97 #[.val (.ref a), .val (.int v), .val (.double x), .second, .val (.long (((1 : Int64) <<< (v &&& 0x3f).toInt64))), .second, .val (.int (-1 : Int32))] [(.ref a)])) _
      refine st18 _ ?_
      show Steps p.tables e below (T18.setTop (mkF m 100 #[.val (.ref a), .val (.int v), .val (.double x), .second, .val (.long (((1 : Int64) <<< (v &&& 0x3f).toInt64))), .second, .val (.int (-1 : Int32))] [(.ref b2)])) _
      refine XS.aloadN X18.here hx rfl (hb hby d14_100) rfl rfl ?_
      show Steps p.tables e below (T18.setTop (mkF m 101 #[.val (.ref a), .val (.int v), .val (.double x), .second, .val (.long (((1 : Int64) <<< (v &&& 0x3f).toInt64))), .second, .val (.int (-1 : Int32))] [(.ref a), (.ref b2)])) _
      refine st20 _ ?_
      show Steps p.tables e below (T20.setTop (mkF m 104 #[.val (.ref a), .val (.int v), .val (.double x), .second, .val (.long (((1 : Int64) <<< (v &&& 0x3f).toInt64))), .second, .val (.int (-1 : Int32))] [(.int (1 : Int32)), (.ref b2)])) _
      refine XS.dloadN X20.here hx rfl (hb hby d14_104) rfl ?_
      show Steps p.tables e below (T20.setTop (mkF m 105 #[.val (.ref a), .val (.int v), .val (.double x), .second, .val (.long (((1 : Int64) <<< (v &&& 0x3f).toInt64))), .second, .val (.int (-1 : Int32))] [(.double x), (.int (1 : Int32)), (.ref b2)])) _
      refine st23 _ ?_
      show Steps p.tables e below (T23.setTop (mkF m 106 #[.val (.ref a), .val (.int v), .val (.double x), .second, .val (.long (((1 : Int64) <<< (v &&& 0x3f).toInt64))), .second, .val (.int (-1 : Int32))] [])) _
      refine XS.aloadN X23.here hx rfl (hb hby d14_106) rfl rfl ?_
      show Steps p.tables e below (T23.setTop (mkF m 107 #[.val (.ref a), .val (.int v), .val (.double x), .second, .val (.long (((1 : Int64) <<< (v &&& 0x3f).toInt64))), .second, .val (.int (-1 : Int32))] [(.ref a)])) _
      exact kk
    have f25 := (Fld.other W23 f19 (Or.inl pr13))
    obtain ⟨T26, X26, e26, st26⟩ := getF X23 hx hZ hown (host := "") (Or.inl (hw _ (List.mem_of_getElem? (i := 33) rfl))) Via.refl e23 f25 (g := (mkF m 108 #[.val (.ref a), .val (.int v), .val (.double x), .second, .val (.long (((1 : Int64) <<< (v &&& 0x3f).toInt64))), .second, .val (.int (-1 : Int32))] [(.ref a), (.ref a)])) rfl rfl (hb hby d14_108)
    have f27 := (Exa.wr W23 (Exa.wr W16 (Exa.wr W6 pr0)))
    obtain ⟨T28, h28, X28, e28, W28, st28⟩ := putF X26 hx hZ hown (host := "") (Or.inl (hw _ (List.mem_of_getElem? (i := 33) rfl))) Via.refl e26 f25 f27 (Or.inl (hw _ (List.mem_of_getElem? (i := 34) rfl))) (hw _ (List.mem_of_getElem? (i := 1) rfl)) (ty := .int) (by decide) rfl rfl (g := (mkF m 113 #[.val (.ref a), .val (.int v), .val (.double x), .second, .val (.long (((1 : Int64) <<< (v &&& 0x3f).toInt64))), .second, .val (.int (-1 : Int32))] [(.int (2 : Int32)), (.ref a)])) rfl rfl (hb hby d14_113)
    have N28 := Fr.snoc X28 N23 pr9
    have Fw28 := Fld.same W28 f25
    have f29 := (Fld.other W28 (Fld.other W23 (Fld.other W16 (Fld.other W6 pr1 (Or.inr (slot_ne (Or.inl (hw _ (List.mem_of_getElem? (i := 32) rfl))) (Or.inl (hw _ (List.mem_of_getElem? (i := 36) rfl))) (by decide) (t := .boolean) (t' := .long) (by decide) (by decide)))) (Or.inl pr12)) (Or.inl pr13)) (Or.inr (slot_ne (Or.inl (hw _ (List.mem_of_getElem? (i := 32) rfl))) (Or.inl (hw _ (List.mem_of_getElem? (i := 34) rfl))) (by decide) (t := .boolean) (t' := .int) (by decide) (by decide))))
    obtain ⟨T30, X30, e30, st30⟩ := getF X28 hx hZ hown (host := "") (Or.inl (hw _ (List.mem_of_getElem? (i := 31) rfl))) Via.refl e28 f29 (g := (mkF m 117 #[.val (.ref a), .val (.int v), .val (.double x), .second, .val (.long (((1 : Int64) <<< (v &&& 0x3f).toInt64))), .second, .val (.int (-1 : Int32))] [(.ref a)])) rfl rfl (hb hby d14_117)
    obtain ⟨T31, X31, e31, st31⟩ := getF X30 hx hZ hown (host := "") (Or.inl (hw _ (List.mem_of_getElem? (i := 33) rfl))) Via.refl e30 Fw28 (g := (mkF m 137 #[.val (.ref a), .val (.int v), .val (.double x), .second, .val (.long (((1 : Int64) <<< (v &&& 0x3f).toInt64))), .second, .val (.int (-1 : Int32))] [(.ref a)])) rfl rfl (hb hby d14_137)
    have P32 : ∀ t, Steps p.tables e below (T31.setTop (mkF m 149 #[.val (.ref a), .val (.int v), .val (.double x), .second, .val (.long (((1 : Int64) <<< (v &&& 0x3f).toInt64))), .second, .val (.int (-1 : Int32))] [])) t → Steps p.tables e below (s₁.setTop (entryFrame m #[(.ref a), (.int v), (.double x)] 7)) t := by
      intro t kk
      refine P24 _ ?_
      show Steps p.tables e below (T23.setTop (mkF m 107 #[.val (.ref a), .val (.int v), .val (.double x), .second, .val (.long (((1 : Int64) <<< (v &&& 0x3f).toInt64))), .second, .val (.int (-1 : Int32))] [(.ref a)])) _
      refine XS.dup X23.here hx rfl (hb hby d14_107) rfl rfl ?_
      show Steps p.tables e below (T23.setTop (mkF m 108 #[.val (.ref a), .val (.int v), .val (.double x), .second, .val (.long (((1 : Int64) <<< (v &&& 0x3f).toInt64))), .second, .val (.int (-1 : Int32))] [(.ref a), (.ref a)])) _
      refine st26 _ ?_
      show Steps p.tables e below (T26.setTop (mkF m 111 #[.val (.ref a), .val (.int v), .val (.double x), .second, .val (.long (((1 : Int64) <<< (v &&& 0x3f).toInt64))), .second, .val (.int (-1 : Int32))] [(.int (1 : Int32)), (.ref a)])) _
      refine XS.iconst X26.here hx rfl (hb hby d14_111) ?_
      show Steps p.tables e below (T26.setTop (mkF m 112 #[.val (.ref a), .val (.int v), .val (.double x), .second, .val (.long (((1 : Int64) <<< (v &&& 0x3f).toInt64))), .second, .val (.int (-1 : Int32))] [(.int (1 : Int32)), (.int (1 : Int32)), (.ref a)])) _
      refine XS.iadd X26.here hx rfl (hb hby d14_112) rfl ?_
      show Steps p.tables e below (T26.setTop (mkF m 113 #[.val (.ref a), .val (.int v), .val (.double x), .second, .val (.long (((1 : Int64) <<< (v &&& 0x3f).toInt64))), .second, .val (.int (-1 : Int32))] [(.int (2 : Int32)), (.ref a)])) _
      refine st28 _ ?_
      show Steps p.tables e below (T28.setTop (mkF m 116 #[.val (.ref a), .val (.int v), .val (.double x), .second, .val (.long (((1 : Int64) <<< (v &&& 0x3f).toInt64))), .second, .val (.int (-1 : Int32))] [])) _
      refine XS.aloadN X28.here hx rfl (hb hby d14_116) rfl rfl ?_
      show Steps p.tables e below (T28.setTop (mkF m 117 #[.val (.ref a), .val (.int v), .val (.double x), .second, .val (.long (((1 : Int64) <<< (v &&& 0x3f).toInt64))), .second, .val (.int (-1 : Int32))] [(.ref a)])) _
      refine st30 _ ?_
      show Steps p.tables e below (T30.setTop (mkF m 120 #[.val (.ref a), .val (.int v), .val (.double x), .second, .val (.long (((1 : Int64) <<< (v &&& 0x3f).toInt64))), .second, .val (.int (-1 : Int32))] [(.int (0 : Int32))])) _
      refine XS.ifYes X30.here hx rfl (pc0 := 120) (pc' := 136) rfl (hb hby d14_120) rfl (XT.i0_eq_t rfl) (by decide) (by decide) ?_
      show Steps p.tables e below (T30.setTop (mkF m 136 #[.val (.ref a), .val (.int v), .val (.double x), .second, .val (.long (((1 : Int64) <<< (v &&& 0x3f).toInt64))), .second, .val (.int (-1 : Int32))] [])) _
      refine XS.aloadN X30.here hx rfl (hb hby d14_136) rfl rfl ?_
      show Steps p.tables e below (T30.setTop (mkF m 137 #[.val (.ref a), .val (.int v), .val (.double x), .second, .val (.long (((1 : Int64) <<< (v &&& 0x3f).toInt64))), .second, .val (.int (-1 : Int32))] [(.ref a)])) _
      refine st31 _ ?_
      show Steps p.tables e below (T31.setTop (mkF m 140 #[.val (.ref a), .val (.int v), .val (.double x), .second, .val (.long (((1 : Int64) <<< (v &&& 0x3f).toInt64))), .second, .val (.int (-1 : Int32))] [(.int (2 : Int32))])) _
      refine XS.bipush X31.here hx rfl (hb hby d14_140) ?_
      show Steps p.tables e below (T31.setTop (mkF m 142 #[.val (.ref a), .val (.int v), .val (.double x), .second, .val (.long (((1 : Int64) <<< (v &&& 0x3f).toInt64))), .second, .val (.int (-1 : Int32))] [(.int (32 : Int32)), (.int (2 : Int32))])) _
      refine XS.icmpYes X31.here hx rfl (pc0 := 142) (pc' := 149) rfl (hb hby d14_142) rfl (XT.ii_le_t (by decide)) (by decide) (by decide) ?_
      show Steps p.tables e below (T31.setTop (mkF m 149 #[.val (.ref a), .val (.int v), .val (.double x), .second, .val (.long (((1 : Int64) <<< (v &&& 0x3f).toInt64))), .second, .val (.int (-1 : Int32))] [])) _
      exact kk
    have k33 : Keep h0 h28 [a, b1, b2] := (Keep.wr (Keep.wr (Keep.wr (Keep.wr (Keep.refl h0 [a, b1, b2]) W6 (Or.inl (List.mem_of_getElem? (i := 0) rfl))) W16 (Or.inl (List.mem_of_getElem? (i := 1) rfl))) W23 (Or.inl (List.mem_of_getElem? (i := 2) rfl))) W28 (Or.inl (List.mem_of_getElem? (i := 0) rfl)))
    have f34 := (Fld.other W28 (Fld.other W23 (Fld.other W16 Fw6 (Or.inl pr12)) (Or.inl pr13)) (Or.inr (slot_ne (Or.inl (hw _ (List.mem_of_getElem? (i := 36) rfl))) (Or.inl (hw _ (List.mem_of_getElem? (i := 34) rfl))) (by decide) (t := .long) (t' := .int) (by decide) (by decide))))
    have f35 := ((V16.other W23 pr14).other W28 (Ne.symm pr12))
    have f36 := (V23.other W28 (Ne.symm pr13))
    have f37 := (Fld.other W28 (Fld.other W23 (Fld.other W16 (Fld.other W6 pr4 (Or.inr (slot_ne (Or.inl (hw _ (List.mem_of_getElem? (i := 25) rfl))) (Or.inl (hw _ (List.mem_of_getElem? (i := 36) rfl))) (by decide) (t := .long) (t' := .long) (by decide) (by decide)))) (Or.inl pr12)) (Or.inl pr13)) (Or.inr (slot_ne (Or.inl (hw _ (List.mem_of_getElem? (i := 25) rfl))) (Or.inl (hw _ (List.mem_of_getElem? (i := 34) rfl))) (by decide) (t := .long) (t' := .int) (by decide) (by decide))))
    have f38 := (Fld.other W28 (Fld.other W23 (Fld.other W16 f9 (Or.inl pr12)) (Or.inl pr13)) (Or.inr (slot_ne (Or.inl (hw _ (List.mem_of_getElem? (i := 11) rfl))) (Or.inl (hw _ (List.mem_of_getElem? (i := 34) rfl))) (by decide) (t := (.array .int)) (t' := .int) (by decide) (by decide))))
    have f39 := (Fld.other W28 (Fld.other W23 f17 (Or.inl pr13)) (Or.inr (slot_ne (Or.inl (hw _ (List.mem_of_getElem? (i := 14) rfl))) (Or.inl (hw _ (List.mem_of_getElem? (i := 34) rfl))) (by decide) (t := (.array .double)) (t' := .int) (by decide) (by decide))))
    obtain ⟨fs, hr, hrun, hended, hW, hsame⟩ := X31.leave (v := none) (fun _ => rfl)
    refine ⟨_, _, P32 _ ?_, hrun, hended, _, _, rfl, ?_, ⟨_, rfl⟩, hW, hsame.mono (by decide) (by decide)⟩
    · exact X31.returnOut hx Bd.returns (hb hby d14_149) hr
    · show Q14 Z a v x ar sn b1 k1 vs d1 b2 k2 ds d2 y0 h0 n0 _ T31.heap _
      rw [e31]
      exact ⟨rfl, N28, k33, Fw28, f34, f35, f36, f29, f37, f38, f39⟩
  · skip
    obtain ⟨cq40, q40, q40'⟩ := pr0.cell
    obtain ⟨_, _, ⟨T40, L40, k40, n40⟩, -, X40, ⟨Lc40, hQ40, l40, y40, z40⟩, st40⟩ := X2.privateBack hx (y := (⟨"org/wayfold/search/Steps", "find", "(I)I"⟩ : MethodName)) hown (mvT hZ (hw _ (List.mem_of_getElem? (i := 65) rfl))) (mvT hZ (hw _ (List.mem_of_getElem? (i := 66) rfl))) (own_selpriv (y := (⟨"org/wayfold/search/Steps", "find", "(I)I"⟩ : MethodName)) (y' := (⟨"org/wayfold/search/Steps", "arcsRead", "(J)V"⟩ : MethodName)) rfl (mvT hZ (hw _ (List.mem_of_getElem? (i := 22) rfl))) (Cond.privateMethod_at (mvP hZ (hw _ (List.mem_of_getElem? (i := 67) rfl)) (args := #[]))) (mvT hZ (hw _ (List.mem_of_getElem? (i := 66) rfl))) (by decide)) (Cond.privateMethod_at (mvP hZ (hw _ (List.mem_of_getElem? (i := 67) rfl)) (args := #[]))) (mvT hZ (hw _ (List.mem_of_getElem? (i := 68) rfl))) (by decide) (backOf (W := 0) (rm8 l Z a0 hw [] a v b1 k1 vs d1 y0 h0 n0 Z0 pr0 pr1 pr2 pr5 pr7 pr17 pr18) hZ (hw _ (List.mem_of_getElem? (i := 68) rfl)) (hw _ (List.mem_of_getElem? (i := 2) rfl)) (by decide) (by decide)) (g := (mkF m 26 #[.val (.ref a), .val (.int v), .val (.double x), .second, .val (.long (((1 : Int64) <<< (v &&& 0x3f).toInt64))), .second, .unset] [(.int v), (.ref a)])) rfl (by rw [hml]; rfl) (Steps.refl _) (a := a) (by rw [e2]; exact q40) q40' (argsL := [(.int v)]) (rest := []) (lenOf pd_0 rfl) rfl (by show 2 * 0 + _ ≤ _; exact Nat.le_of_eq rfl) (hb hby d14_26) (fun _ _ => ⟨rfl, e2, (by decide : 0 + 0 ≤ _), (by decide : 0 + 0 ≤ _)⟩)
    dsimp only [Pt.U, Pt.locs, Pt.cells, Pt.slots] at X40 l40 y40 z40 st40 hQ40
    subst l40 y40 z40
    obtain ⟨rfl, Nq40, e40⟩ := hQ40
    have N40 := Fr.app N0 Nq40
    obtain ⟨T41, X41, e41, st41⟩ := getF X40 hx hZ hown (host := "") (Or.inl (hw _ (List.mem_of_getElem? (i := 35) rfl))) Via.refl e40 pr3 (g := (mkF m 37 #[.val (.ref a), .val (.int v), .val (.double x), .second, .val (.long (((1 : Int64) <<< (v &&& 0x3f).toInt64))), .second, .val (.int (-1 : Int32))] [(.ref a), (.ref a)])) rfl rfl (hb hby d14_37)
    obtain ⟨T42, h42, X42, e42, W42, st42⟩ := putF X41 hx hZ hown (host := "") (Or.inl (hw _ (List.mem_of_getElem? (i := 35) rfl))) Via.refl e41 pr3 pr0 (Or.inl (hw _ (List.mem_of_getElem? (i := 36) rfl))) (hw _ (List.mem_of_getElem? (i := 1) rfl)) (ty := .long) (by decide) rfl rfl (g := (mkF m 43 #[.val (.ref a), .val (.int v), .val (.double x), .second, .val (.long (((1 : Int64) <<< (v &&& 0x3f).toInt64))), .second, .val (.int (-1 : Int32))] [(.long (sn ||| (((1 : Int64) <<< (v &&& 0x3f).toInt64)))), (.ref a)])) rfl rfl (hb hby d14_43)
    have N42 := Fr.snoc X42 N40 pr9
    have Fw42 := Fld.same W42 pr3
    have f43 := (Fld.other W42 pr2 (Or.inr (slot_ne (Or.inl (hw _ (List.mem_of_getElem? (i := 34) rfl))) (Or.inl (hw _ (List.mem_of_getElem? (i := 36) rfl))) (by decide) (t := .int) (t' := .long) (by decide) (by decide))))
    obtain ⟨T44, X44, e44, st44⟩ := getF X42 hx hZ hown (host := "") (Or.inl (hw _ (List.mem_of_getElem? (i := 33) rfl))) Via.refl e42 f43 (g := (mkF m 71 #[.val (.ref a), .val (.int v), .val (.double x), .second, .val (.long (((1 : Int64) <<< (v &&& 0x3f).toInt64))), .second, .val (.int (-1 : Int32))] [(.ref a)])) rfl rfl (hb hby d14_71)
    have f45 := (Fld.other W42 pr5 (Or.inr (slot_ne (Or.inl (hw _ (List.mem_of_getElem? (i := 11) rfl))) (Or.inl (hw _ (List.mem_of_getElem? (i := 36) rfl))) (by decide) (t := (.array .int)) (t' := .long) (by decide) (by decide))))
    obtain ⟨T46, X46, e46, st46⟩ := getF X44 hx hZ hown (host := "") (Or.inl (hw _ (List.mem_of_getElem? (i := 10) rfl))) Via.refl e44 f45 (g := (mkF m 75 #[.val (.ref a), .val (.int v), .val (.double x), .second, .val (.long (((1 : Int64) <<< (v &&& 0x3f).toInt64))), .second, .val (.int (-1 : Int32))] [(.ref a), (.int (1 : Int32))])) rfl rfl (hb hby d14_75)
    have f47 := (pr7.other W42 (Ne.symm pr12))
    obtain ⟨cl_a48, Ar_a48, q_a48, S_a48, N_a48, H_a48, G_a48⟩ := id f47
    obtain ⟨T49, X49, e49, st49⟩ := getF X46 hx hZ hown (host := "") (Or.inl (hw _ (List.mem_of_getElem? (i := 10) rfl))) Via.refl e46 f45 (g := (mkF m 87 #[.val (.ref a), .val (.int v), .val (.double x), .second, .val (.long (((1 : Int64) <<< (v &&& 0x3f).toInt64))), .second, .val (.int (-1 : Int32))] [(.ref a)])) rfl rfl (hb hby d14_87)
    obtain ⟨T50, X50, e50, st50⟩ := getF X49 hx hZ hown (host := "") (Or.inl (hw _ (List.mem_of_getElem? (i := 33) rfl))) Via.refl e49 f43 (g := (mkF m 91 #[.val (.ref a), .val (.int v), .val (.double x), .second, .val (.long (((1 : Int64) <<< (v &&& 0x3f).toInt64))), .second, .val (.int (-1 : Int32))] [(.ref a), (.ref b1)])) rfl rfl (hb hby d14_91)
    obtain ⟨cl_a51, Ar_a51, q_a51, S_a51, N_a51, H_a51, G_a51⟩ := id f47
    have hin_a51 : ¬ ((1 : Int32) < 0 ∨ cl_a51.slots.size ≤ ((1 : Int32)).toNatClampNeg) := inb_of S_a51 ⟨by decide, by decide⟩
    obtain ⟨T52, h52, X52, e52, W52, st52⟩ := stI X50 hx hZ e50 Ar_a51 (j := (1 : Int32)) hin_a51 (g := (mkF m 95 #[.val (.ref a), .val (.int v), .val (.double x), .second, .val (.long (((1 : Int64) <<< (v &&& 0x3f).toInt64))), .second, .val (.int (-1 : Int32))] [(.int v), (.int (1 : Int32)), (.ref b1)])) rfl rfl (hb hby d14_95)
    have V52 : Arv Z h52 b1 k1 .int (16 : Int32) (vs.set 1 (.int v)) d1 := Arv.set Ar_a51 q_a51 S_a51 N_a51 H_a51 G_a51 rfl W52 1 rfl (by rw [pr15]; decide)
    have N52 := Fr.snoc X52 N42 pr10
    have f53 := (Fld.other W52 (Fld.other W42 pr6 (Or.inr (slot_ne (Or.inl (hw _ (List.mem_of_getElem? (i := 14) rfl))) (Or.inl (hw _ (List.mem_of_getElem? (i := 36) rfl))) (by decide) (t := (.array .double)) (t' := .long) (by decide) (by decide)))) (Or.inl pr12))
    obtain ⟨T54, X54, e54, st54⟩ := getF X52 hx hZ hown (host := "") (Or.inl (hw _ (List.mem_of_getElem? (i := 13) rfl))) Via.refl e52 f53 (g := (mkF m 97 #[.val (.ref a), .val (.int v), .val (.double x), .second, .val (.long (((1 : Int64) <<< (v &&& 0x3f).toInt64))), .second, .val (.int (-1 : Int32))] [(.ref a)])) rfl rfl (hb hby d14_97)
    have f55 := (Fld.other W52 f43 (Or.inl pr12))
    obtain ⟨T56, X56, e56, st56⟩ := getF X54 hx hZ hown (host := "") (Or.inl (hw _ (List.mem_of_getElem? (i := 33) rfl))) Via.refl e54 f55 (g := (mkF m 101 #[.val (.ref a), .val (.int v), .val (.double x), .second, .val (.long (((1 : Int64) <<< (v &&& 0x3f).toInt64))), .second, .val (.int (-1 : Int32))] [(.ref a), (.ref b2)])) rfl rfl (hb hby d14_101)
    have P57 : ∀ t, Steps p.tables e below (T56.setTop (mkF m 104 #[.val (.ref a), .val (.int v), .val (.double x), .second, .val (.long (((1 : Int64) <<< (v &&& 0x3f).toInt64))), .second, .val (.int (-1 : Int32))] [(.int (1 : Int32)), (.ref b2)])) t → Steps p.tables e below (s₁.setTop (entryFrame m #[(.ref a), (.int v), (.double x)] 7)) t := by
      intro t kk
      refine P3 _ ?_
      show Steps p.tables e below (T2.setTop (mkF m 21 #[.val (.ref a), .val (.int v), .val (.double x), .second, .val (.long (((1 : Int64) <<< (v &&& 0x3f).toInt64))), .second, .unset] [(.int (XT.cmpL (sn &&& (((1 : Int64) <<< (v &&& 0x3f).toInt64))) (0 : Int64)))])) _
      refine XS.ifNo X2.here hx rfl (hb hby d14_21) rfl (XT.ll_eq_f c4) ?_
      show Steps p.tables e below (T2.setTop (mkF m 24 #[.val (.ref a), .val (.int v), .val (.double x), .second, .val (.long (((1 : Int64) <<< (v &&& 0x3f).toInt64))), .second, .unset] [])) _
      refine XS.aloadN X2.here hx rfl (hb hby d14_24) rfl rfl ?_
      show Steps p.tables e below (T2.setTop (mkF m 25 #[.val (.ref a), .val (.int v), .val (.double x), .second, .val (.long (((1 : Int64) <<< (v &&& 0x3f).toInt64))), .second, .unset] [(.ref a)])) _
      refine XS.iloadN X2.here hx rfl (hb hby d14_25) rfl ?_
      show Steps p.tables e below (T2.setTop (mkF m 26 #[.val (.ref a), .val (.int v), .val (.double x), .second, .val (.long (((1 : Int64) <<< (v &&& 0x3f).toInt64))), .second, .unset] [(.int v), (.ref a)])) _
      refine st40.trans ?_
      show Steps p.tables e below (T40.setTop (mkF m 29 #[.val (.ref a), .val (.int v), .val (.double x), .second, .val (.long (((1 : Int64) <<< (v &&& 0x3f).toInt64))), .second, .unset] [(.int (-1 : Int32))])) _
      refine XS.goto X40.here hx rfl (pc0 := 29) (pc' := 33) rfl (hb hby d14_29) (by decide) (by decide) ?_
      show Steps p.tables e below (T40.setTop (mkF m 33 #[.val (.ref a), .val (.int v), .val (.double x), .second, .val (.long (((1 : Int64) <<< (v &&& 0x3f).toInt64))), .second, .unset] [(.int (-1 : Int32))])) _
      refine XS.istore X40.here hx rfl (hb hby d14_33) rfl (l' := #[.val (.ref a), .val (.int v), .val (.double x), .second, .val (.long (((1 : Int64) <<< (v &&& 0x3f).toInt64))), .second, .val (.int (-1 : Int32))]) rfl ?_
      show Steps p.tables e below (T40.setTop (mkF m 35 #[.val (.ref a), .val (.int v), .val (.double x), .second, .val (.long (((1 : Int64) <<< (v &&& 0x3f).toInt64))), .second, .val (.int (-1 : Int32))] [])) _
      refine XS.aloadN X40.here hx rfl (hb hby d14_35) rfl rfl ?_
      show Steps p.tables e below (T40.setTop (mkF m 36 #[.val (.ref a), .val (.int v), .val (.double x), .second, .val (.long (((1 : Int64) <<< (v &&& 0x3f).toInt64))), .second, .val (.int (-1 : Int32))] [(.ref a)])) _
      refine XS.dup X40.here hx rfl (hb hby d14_36) rfl rfl ?_
      show Steps p.tables e below (T40.setTop (mkF m 37 #[.val (.ref a), .val (.int v), .val (.double x), .second, .val (.long (((1 : Int64) <<< (v &&& 0x3f).toInt64))), .second, .val (.int (-1 : Int32))] [(.ref a), (.ref a)])) _
      refine st41 _ ?_
      show Steps p.tables e below (T41.setTop (mkF m 40 #[.val (.ref a), .val (.int v), .val (.double x), .second, .val (.long (((1 : Int64) <<< (v &&& 0x3f).toInt64))), .second, .val (.int (-1 : Int32))] [(.long sn), (.ref a)])) _
      refine XS.lload X41.here hx rfl (hb hby d14_40) rfl ?_
      show Steps p.tables e below (T41.setTop (mkF m 42 #[.val (.ref a), .val (.int v), .val (.double x), .second, .val (.long (((1 : Int64) <<< (v &&& 0x3f).toInt64))), .second, .val (.int (-1 : Int32))] [(.long (((1 : Int64) <<< (v &&& 0x3f).toInt64))), (.long sn), (.ref a)])) _
      refine XS.lor X41.here hx rfl (hb hby d14_42) rfl ?_
      show Steps p.tables e below (T41.setTop (mkF m 43 #[.val (.ref a), .val (.int v), .val (.double x), .second, .val (.long (((1 : Int64) <<< (v &&& 0x3f).toInt64))), .second, .val (.int (-1 : Int32))] [(.long (sn ||| (((1 : Int64) <<< (v &&& 0x3f).toInt64)))), (.ref a)])) _
      refine st42 _ ?_
      show Steps p.tables e below (T42.setTop (mkF m 46 #[.val (.ref a), .val (.int v), .val (.double x), .second, .val (.long (((1 : Int64) <<< (v &&& 0x3f).toInt64))), .second, .val (.int (-1 : Int32))] [])) _
      refine XS.iload X42.here hx rfl (hb hby d14_46) rfl ?_
      show Steps p.tables e below (T42.setTop (mkF m 48 #[.val (.ref a), .val (.int v), .val (.double x), .second, .val (.long (((1 : Int64) <<< (v &&& 0x3f).toInt64))), .second, .val (.int (-1 : Int32))] [(.int (-1 : Int32))])) _
      refine XS.ifYes X42.here hx rfl (pc0 := 48) (pc' := 70) rfl (hb hby d14_48) rfl (XT.i0_lt_t (by decide)) (by decide) (by decide) ?_
      show Steps p.tables e below (T42.setTop (mkF m 70 #[.val (.ref a), .val (.int v), .val (.double x), .second, .val (.long (((1 : Int64) <<< (v &&& 0x3f).toInt64))), .second, .val (.int (-1 : Int32))] [])) _
      refine XS.aloadN X42.here hx rfl (hb hby d14_70) rfl rfl ?_
      show Steps p.tables e below (T42.setTop (mkF m 71 #[.val (.ref a), .val (.int v), .val (.double x), .second, .val (.long (((1 : Int64) <<< (v &&& 0x3f).toInt64))), .second, .val (.int (-1 : Int32))] [(.ref a)])) _
      refine st44 _ ?_
      show Steps p.tables e below (T44.setTop (mkF m 74 #[.val (.ref a), .val (.int v), .val (.double x), .second, .val (.long (((1 : Int64) <<< (v &&& 0x3f).toInt64))), .second, .val (.int (-1 : Int32))] [(.int (1 : Int32))])) _
      refine XS.aloadN X44.here hx rfl (hb hby d14_74) rfl rfl ?_
      show Steps p.tables e below (T44.setTop (mkF m 75 #[.val (.ref a), .val (.int v), .val (.double x), .second, .val (.long (((1 : Int64) <<< (v &&& 0x3f).toInt64))), .second, .val (.int (-1 : Int32))] [(.ref a), (.int (1 : Int32))])) _
      refine st46 _ ?_
      show Steps p.tables e below (T46.setTop (mkF m 78 #[.val (.ref a), .val (.int v), .val (.double x), .second, .val (.long (((1 : Int64) <<< (v &&& 0x3f).toInt64))), .second, .val (.int (-1 : Int32))] [(.ref b1), (.int (1 : Int32))])) _
      refine X46.arraylength hx (by rw [e46]; exact Ar_a48.1) (State.isArrayOf_alike hZ.alike Ar_a48.2.1) (g := (mkF m 78 #[.val (.ref a), .val (.int v), .val (.double x), .second, .val (.long (((1 : Int64) <<< (v &&& 0x3f).toInt64))), .second, .val (.int (-1 : Int32))] [(.ref b1), (.int (1 : Int32))])) rfl rfl (hb hby d14_78) _ ?_
      rw [len_of S_a48 N_a48]
      show Steps p.tables e below (T46.setTop (mkF m 79 #[.val (.ref a), .val (.int v), .val (.double x), .second, .val (.long (((1 : Int64) <<< (v &&& 0x3f).toInt64))), .second, .val (.int (-1 : Int32))] [(.int (16 : Int32)), (.int (1 : Int32))])) _
      refine XS.icmpYes X46.here hx rfl (pc0 := 79) (pc' := 86) rfl (hb hby d14_79) rfl (XT.ii_ne_t (by decide)) (by decide) (by decide) ?_
      show Steps p.tables e below (T46.setTop (mkF m 86 #[.val (.ref a), .val (.int v), .val (.double x), .second, .val (.long (((1 : Int64) <<< (v &&& 0x3f).toInt64))), .second, .val (.int (-1 : Int32))] [])) _
      refine XS.aloadN X46.here hx rfl (hb hby d14_86) rfl rfl ?_
      show Steps p.tables e below (T46.setTop (mkF m 87 #[.val (.ref a), .val (.int v), .val (.double x), .second, .val (.long (((1 : Int64) <<< (v &&& 0x3f).toInt64))), .second, .val (.int (-1 : Int32))] [(.ref a)])) _
      refine st49 _ ?_
      show Steps p.tables e below (T49.setTop (mkF m 90 #[.val (.ref a), .val (.int v), .val (.double x), .second, .val (.long (((1 : Int64) <<< (v &&& 0x3f).toInt64))), .second, .val (.int (-1 : Int32))] [(.ref b1)])) _
      refine XS.aloadN X49.here hx rfl (hb hby d14_90) rfl rfl ?_
      show Steps p.tables e below (T49.setTop (mkF m 91 #[.val (.ref a), .val (.int v), .val (.double x), .second, .val (.long (((1 : Int64) <<< (v &&& 0x3f).toInt64))), .second, .val (.int (-1 : Int32))] [(.ref a), (.ref b1)])) _
      refine st50 _ ?_
      show Steps p.tables e below (T50.setTop (mkF m 94 #[.val (.ref a), .val (.int v), .val (.double x), .second, .val (.long (((1 : Int64) <<< (v &&& 0x3f).toInt64))), .second, .val (.int (-1 : Int32))] [(.int (1 : Int32)), (.ref b1)])) _
      refine XS.iloadN X50.here hx rfl (hb hby d14_94) rfl ?_
      show Steps p.tables e below (T50.setTop (mkF m 95 #[.val (.ref a), .val (.int v), .val (.double x), .second, .val (.long (((1 : Int64) <<< (v &&& 0x3f).toInt64))), .second, .val (.int (-1 : Int32))] [(.int v), (.int (1 : Int32)), (.ref b1)])) _
      refine st52 _ ?_
      show Steps p.tables e below (T52.setTop (mkF m 96 #[.val (.ref a), .val (.int v), .val (.double x), .second, .val (.long (((1 : Int64) <<< (v &&& 0x3f).toInt64))), .second, .val (.int (-1 : Int32))] [])) _
      refine XS.aloadN X52.here hx rfl (hb hby d14_96) rfl rfl ?_
      show Steps p.tables e below (T52.setTop (mkF m 97 #[.val (.ref a), .val (.int v), .val (.double x), .second, .val (.long (((1 : Int64) <<< (v &&& 0x3f).toInt64))), .second, .val (.int (-1 : Int32))] [(.ref a)])) _
      refine st54 _ ?_
      show Steps p.tables e below (T54.setTop (mkF m 100 #[.val (.ref a), .val (.int v), .val (.double x), .second, .val (.long (((1 : Int64) <<< (v &&& 0x3f).toInt64))), .second, .val (.int (-1 : Int32))] [(.ref b2)])) _
      refine XS.aloadN X54.here hx rfl (hb hby d14_100) rfl rfl ?_
      show Steps p.tables e below (T54.setTop (mkF m 101 #[.val (.ref a), .val (.int v), .val (.double x), .second, .val (.long (((1 : Int64) <<< (v &&& 0x3f).toInt64))), .second, .val (.int (-1 : Int32))] [(.ref a), (.ref b2)])) _
      refine st56 _ ?_
      show Steps p.tables e below (T56.setTop (mkF m 104 #[.val (.ref a), .val (.int v), .val (.double x), .second, .val (.long (((1 : Int64) <<< (v &&& 0x3f).toInt64))), .second, .val (.int (-1 : Int32))] [(.int (1 : Int32)), (.ref b2)])) _
      exact kk
    have f58 := ((pr8.other W42 (Ne.symm pr13)).other W52 (Ne.symm pr14))
    obtain ⟨cl_a59, Ar_a59, q_a59, S_a59, N_a59, H_a59, G_a59⟩ := id f58
    have hin_a59 : ¬ ((1 : Int32) < 0 ∨ cl_a59.slots.size ≤ ((1 : Int32)).toNatClampNeg) := inb_of S_a59 ⟨by decide, by decide⟩
    obtain ⟨T60, h60, X60, e60, W60, st60⟩ := stD X56 hx hZ e56 Ar_a59 (j := (1 : Int32)) hin_a59 (g := (mkF m 105 #[.val (.ref a), .val (.int v), .val (.double x), .second, .val (.long (((1 : Int64) <<< (v &&& 0x3f).toInt64))), .second, .val (.int (-1 : Int32))] [(.double x), (.int (1 : Int32)), (.ref b2)])) rfl rfl (hb hby d14_105)
    have V60 : Arv Z h60 b2 k2 .double (16 : Int32) (ds.set 1 (.double x)) d2 := Arv.set Ar_a59 q_a59 S_a59 N_a59 H_a59 G_a59 rfl W60 1 rfl (by rw [pr16]; decide)
    have N60 := Fr.snoc X60 N52 pr11
    have f61 := (Fld.other W60 f55 (Or.inl pr13))
    obtain ⟨T62, X62, e62, st62⟩ := getF X60 hx hZ hown (host := "") (Or.inl (hw _ (List.mem_of_getElem? (i := 33) rfl))) Via.refl e60 f61 (g := (mkF m 108 #[.val (.ref a), .val (.int v), .val (.double x), .second, .val (.long (((1 : Int64) <<< (v &&& 0x3f).toInt64))), .second, .val (.int (-1 : Int32))] [(.ref a), (.ref a)])) rfl rfl (hb hby d14_108)
    have f63 := (Exa.wr W60 (Exa.wr W52 (Exa.wr W42 pr0)))
    obtain ⟨T64, h64, X64, e64, W64, st64⟩ := putF X62 hx hZ hown (host := "") (Or.inl (hw _ (List.mem_of_getElem? (i := 33) rfl))) Via.refl e62 f61 f63 (Or.inl (hw _ (List.mem_of_getElem? (i := 34) rfl))) (hw _ (List.mem_of_getElem? (i := 1) rfl)) (ty := .int) (by decide) rfl rfl (g := (mkF m 113 #[.val (.ref a), .val (.int v), .val (.double x), .second, .val (.long (((1 : Int64) <<< (v &&& 0x3f).toInt64))), .second, .val (.int (-1 : Int32))] [(.int (2 : Int32)), (.ref a)])) rfl rfl (hb hby d14_113)
    have N64 := Fr.snoc X64 N60 pr9
    have Fw64 := Fld.same W64 f61
    have f65 := (Fld.other W64 (Fld.other W60 (Fld.other W52 (Fld.other W42 pr1 (Or.inr (slot_ne (Or.inl (hw _ (List.mem_of_getElem? (i := 32) rfl))) (Or.inl (hw _ (List.mem_of_getElem? (i := 36) rfl))) (by decide) (t := .boolean) (t' := .long) (by decide) (by decide)))) (Or.inl pr12)) (Or.inl pr13)) (Or.inr (slot_ne (Or.inl (hw _ (List.mem_of_getElem? (i := 32) rfl))) (Or.inl (hw _ (List.mem_of_getElem? (i := 34) rfl))) (by decide) (t := .boolean) (t' := .int) (by decide) (by decide))))
    obtain ⟨T66, X66, e66, st66⟩ := getF X64 hx hZ hown (host := "") (Or.inl (hw _ (List.mem_of_getElem? (i := 31) rfl))) Via.refl e64 f65 (g := (mkF m 117 #[.val (.ref a), .val (.int v), .val (.double x), .second, .val (.long (((1 : Int64) <<< (v &&& 0x3f).toInt64))), .second, .val (.int (-1 : Int32))] [(.ref a)])) rfl rfl (hb hby d14_117)
    obtain ⟨T67, X67, e67, st67⟩ := getF X66 hx hZ hown (host := "") (Or.inl (hw _ (List.mem_of_getElem? (i := 33) rfl))) Via.refl e66 Fw64 (g := (mkF m 137 #[.val (.ref a), .val (.int v), .val (.double x), .second, .val (.long (((1 : Int64) <<< (v &&& 0x3f).toInt64))), .second, .val (.int (-1 : Int32))] [(.ref a)])) rfl rfl (hb hby d14_137)
    have P68 : ∀ t, Steps p.tables e below (T67.setTop (mkF m 149 #[.val (.ref a), .val (.int v), .val (.double x), .second, .val (.long (((1 : Int64) <<< (v &&& 0x3f).toInt64))), .second, .val (.int (-1 : Int32))] [])) t → Steps p.tables e below (s₁.setTop (entryFrame m #[(.ref a), (.int v), (.double x)] 7)) t := by
      intro t kk
      refine P57 _ ?_
      show Steps p.tables e below (T56.setTop (mkF m 104 #[.val (.ref a), .val (.int v), .val (.double x), .second, .val (.long (((1 : Int64) <<< (v &&& 0x3f).toInt64))), .second, .val (.int (-1 : Int32))] [(.int (1 : Int32)), (.ref b2)])) _
      refine XS.dloadN X56.here hx rfl (hb hby d14_104) rfl ?_
      show Steps p.tables e below (T56.setTop (mkF m 105 #[.val (.ref a), .val (.int v), .val (.double x), .second, .val (.long (((1 : Int64) <<< (v &&& 0x3f).toInt64))), .second, .val (.int (-1 : Int32))] [(.double x), (.int (1 : Int32)), (.ref b2)])) _
      refine st60 _ ?_
      show Steps p.tables e below (T60.setTop (mkF m 106 #[.val (.ref a), .val (.int v), .val (.double x), .second, .val (.long (((1 : Int64) <<< (v &&& 0x3f).toInt64))), .second, .val (.int (-1 : Int32))] [])) _
      refine XS.aloadN X60.here hx rfl (hb hby d14_106) rfl rfl ?_
      show Steps p.tables e below (T60.setTop (mkF m 107 #[.val (.ref a), .val (.int v), .val (.double x), .second, .val (.long (((1 : Int64) <<< (v &&& 0x3f).toInt64))), .second, .val (.int (-1 : Int32))] [(.ref a)])) _
      refine XS.dup X60.here hx rfl (hb hby d14_107) rfl rfl ?_
      show Steps p.tables e below (T60.setTop (mkF m 108 #[.val (.ref a), .val (.int v), .val (.double x), .second, .val (.long (((1 : Int64) <<< (v &&& 0x3f).toInt64))), .second, .val (.int (-1 : Int32))] [(.ref a), (.ref a)])) _
      refine st62 _ ?_
      show Steps p.tables e below (T62.setTop (mkF m 111 #[.val (.ref a), .val (.int v), .val (.double x), .second, .val (.long (((1 : Int64) <<< (v &&& 0x3f).toInt64))), .second, .val (.int (-1 : Int32))] [(.int (1 : Int32)), (.ref a)])) _
      refine XS.iconst X62.here hx rfl (hb hby d14_111) ?_
      show Steps p.tables e below (T62.setTop (mkF m 112 #[.val (.ref a), .val (.int v), .val (.double x), .second, .val (.long (((1 : Int64) <<< (v &&& 0x3f).toInt64))), .second, .val (.int (-1 : Int32))] [(.int (1 : Int32)), (.int (1 : Int32)), (.ref a)])) _
      refine XS.iadd X62.here hx rfl (hb hby d14_112) rfl ?_
      show Steps p.tables e below (T62.setTop (mkF m 113 #[.val (.ref a), .val (.int v), .val (.double x), .second, .val (.long (((1 : Int64) <<< (v &&& 0x3f).toInt64))), .second, .val (.int (-1 : Int32))] [(.int (2 : Int32)), (.ref a)])) _
      refine st64 _ ?_
      show Steps p.tables e below (T64.setTop (mkF m 116 #[.val (.ref a), .val (.int v), .val (.double x), .second, .val (.long (((1 : Int64) <<< (v &&& 0x3f).toInt64))), .second, .val (.int (-1 : Int32))] [])) _
      refine XS.aloadN X64.here hx rfl (hb hby d14_116) rfl rfl ?_
      show Steps p.tables e below (T64.setTop (mkF m 117 #[.val (.ref a), .val (.int v), .val (.double x), .second, .val (.long (((1 : Int64) <<< (v &&& 0x3f).toInt64))), .second, .val (.int (-1 : Int32))] [(.ref a)])) _
      refine st66 _ ?_
      show Steps p.tables e below (T66.setTop (mkF m 120 #[.val (.ref a), .val (.int v), .val (.double x), .second, .val (.long (((1 : Int64) <<< (v &&& 0x3f).toInt64))), .second, .val (.int (-1 : Int32))] [(.int (0 : Int32))])) _
      refine XS.ifYes X66.here hx rfl (pc0 := 120) (pc' := 136) rfl (hb hby d14_120) rfl (XT.i0_eq_t rfl) (by decide) (by decide) ?_
      show Steps p.tables e below (T66.setTop (mkF m 136 #[.val (.ref a), .val (.int v), .val (.double x), .second, .val (.long (((1 : Int64) <<< (v &&& 0x3f).toInt64))), .second, .val (.int (-1 : Int32))] [])) _
      refine XS.aloadN X66.here hx rfl (hb hby d14_136) rfl rfl ?_
      show Steps p.tables e below (T66.setTop (mkF m 137 #[.val (.ref a), .val (.int v), .val (.double x), .second, .val (.long (((1 : Int64) <<< (v &&& 0x3f).toInt64))), .second, .val (.int (-1 : Int32))] [(.ref a)])) _
      refine st67 _ ?_
      show Steps p.tables e below (T67.setTop (mkF m 140 #[.val (.ref a), .val (.int v), .val (.double x), .second, .val (.long (((1 : Int64) <<< (v &&& 0x3f).toInt64))), .second, .val (.int (-1 : Int32))] [(.int (2 : Int32))])) _
      refine XS.bipush X67.here hx rfl (hb hby d14_140) ?_
      show Steps p.tables e below (T67.setTop (mkF m 142 #[.val (.ref a), .val (.int v), .val (.double x), .second, .val (.long (((1 : Int64) <<< (v &&& 0x3f).toInt64))), .second, .val (.int (-1 : Int32))] [(.int (32 : Int32)), (.int (2 : Int32))])) _
      refine XS.icmpYes X67.here hx rfl (pc0 := 142) (pc' := 149) rfl (hb hby d14_142) rfl (XT.ii_le_t (by decide)) (by decide) (by decide) ?_
      show Steps p.tables e below (T67.setTop (mkF m 149 #[.val (.ref a), .val (.int v), .val (.double x), .second, .val (.long (((1 : Int64) <<< (v &&& 0x3f).toInt64))), .second, .val (.int (-1 : Int32))] [])) _
      exact kk
    have k69 : Keep h0 h64 [a, b1, b2] := (Keep.wr (Keep.wr (Keep.wr (Keep.wr (Keep.refl h0 [a, b1, b2]) W42 (Or.inl (List.mem_of_getElem? (i := 0) rfl))) W52 (Or.inl (List.mem_of_getElem? (i := 1) rfl))) W60 (Or.inl (List.mem_of_getElem? (i := 2) rfl))) W64 (Or.inl (List.mem_of_getElem? (i := 0) rfl)))
    have f70 := (Fld.other W64 (Fld.other W60 (Fld.other W52 Fw42 (Or.inl pr12)) (Or.inl pr13)) (Or.inr (slot_ne (Or.inl (hw _ (List.mem_of_getElem? (i := 36) rfl))) (Or.inl (hw _ (List.mem_of_getElem? (i := 34) rfl))) (by decide) (t := .long) (t' := .int) (by decide) (by decide))))
    have f71 := ((V52.other W60 pr14).other W64 (Ne.symm pr12))
    have f72 := (V60.other W64 (Ne.symm pr13))
    have f73 := (Fld.other W64 (Fld.other W60 (Fld.other W52 (Fld.other W42 pr4 (Or.inr (slot_ne (Or.inl (hw _ (List.mem_of_getElem? (i := 25) rfl))) (Or.inl (hw _ (List.mem_of_getElem? (i := 36) rfl))) (by decide) (t := .long) (t' := .long) (by decide) (by decide)))) (Or.inl pr12)) (Or.inl pr13)) (Or.inr (slot_ne (Or.inl (hw _ (List.mem_of_getElem? (i := 25) rfl))) (Or.inl (hw _ (List.mem_of_getElem? (i := 34) rfl))) (by decide) (t := .long) (t' := .int) (by decide) (by decide))))
    have f74 := (Fld.other W64 (Fld.other W60 (Fld.other W52 f45 (Or.inl pr12)) (Or.inl pr13)) (Or.inr (slot_ne (Or.inl (hw _ (List.mem_of_getElem? (i := 11) rfl))) (Or.inl (hw _ (List.mem_of_getElem? (i := 34) rfl))) (by decide) (t := (.array .int)) (t' := .int) (by decide) (by decide))))
    have f75 := (Fld.other W64 (Fld.other W60 f53 (Or.inl pr13)) (Or.inr (slot_ne (Or.inl (hw _ (List.mem_of_getElem? (i := 14) rfl))) (Or.inl (hw _ (List.mem_of_getElem? (i := 34) rfl))) (by decide) (t := (.array .double)) (t' := .int) (by decide) (by decide))))
    obtain ⟨fs, hr, hrun, hended, hW, hsame⟩ := X67.leave (v := none) (fun _ => rfl)
    refine ⟨_, _, P68 _ ?_, hrun, hended, _, _, rfl, ?_, ⟨_, rfl⟩, hW, hsame.mono (by decide) (by decide)⟩
    · exact X67.returnOut hx Bd.returns (hb hby d14_149) hr
    · show Q14 Z a v x ar sn b1 k1 vs d1 b2 k2 ds d2 y0 h0 n0 _ T67.heap _
      rw [e67]
      exact ⟨rfl, N64, k69, Fw64, f70, f71, f72, f65, f73, f74, f75⟩
theorem d15_0 : decode prog_104_method_8_code 0 = .ok (.lconst 1, 1) := by decide +kernel
theorem d15_1 : decode prog_104_method_8_code 1 = .ok (.iload_n 1, 1) := by decide +kernel
theorem d15_2 : decode prog_104_method_8_code 2 = .ok (.lshl, 1) := by decide +kernel
theorem d15_3 : decode prog_104_method_8_code 3 = .ok (.lstore 4, 2) := by decide +kernel
theorem d15_5 : decode prog_104_method_8_code 5 = .ok (.aload_n 0, 1) := by decide +kernel
theorem d15_6 : decode prog_104_method_8_code 6 = .ok (.getfield 31, 3) := by decide +kernel
theorem d15_9 : decode prog_104_method_8_code 9 = .ok (.ifCond .ne 15, 3) := by decide +kernel
theorem d15_12 : decode prog_104_method_8_code 12 = .ok (.aload_n 0, 1) := by decide +kernel
theorem d15_13 : decode prog_104_method_8_code 13 = .ok (.getfield 35, 3) := by decide +kernel
theorem d15_16 : decode prog_104_method_8_code 16 = .ok (.lload 4, 2) := by decide +kernel
theorem d15_18 : decode prog_104_method_8_code 18 = .ok (.land, 1) := by decide +kernel
theorem d15_19 : decode prog_104_method_8_code 19 = .ok (.lconst 0, 1) := by decide +kernel
theorem d15_20 : decode prog_104_method_8_code 20 = .ok (.lcmp, 1) := by decide +kernel
theorem d15_21 : decode prog_104_method_8_code 21 = .ok (.ifCond .eq 11, 3) := by decide +kernel
theorem d15_24 : decode prog_104_method_8_code 24 = .ok (.aload_n 0, 1) := by decide +kernel
theorem d15_25 : decode prog_104_method_8_code 25 = .ok (.iload_n 1, 1) := by decide +kernel
theorem d15_26 : decode prog_104_method_8_code 26 = .ok (.invokevirtual 38, 3) := by decide +kernel
theorem d15_29 : decode prog_104_method_8_code 29 = .ok (.goto 4, 3) := by decide +kernel
theorem d15_33 : decode prog_104_method_8_code 33 = .ok (.istore 6, 2) := by decide +kernel
theorem d15_35 : decode prog_104_method_8_code 35 = .ok (.aload_n 0, 1) := by decide +kernel
theorem d15_36 : decode prog_104_method_8_code 36 = .ok (.dup, 1) := by decide +kernel
theorem d15_37 : decode prog_104_method_8_code 37 = .ok (.getfield 35, 3) := by decide +kernel
theorem d15_40 : decode prog_104_method_8_code 40 = .ok (.lload 4, 2) := by decide +kernel
theorem d15_42 : decode prog_104_method_8_code 42 = .ok (.lor, 1) := by decide +kernel
theorem d15_43 : decode prog_104_method_8_code 43 = .ok (.putfield 35, 3) := by decide +kernel
theorem d15_46 : decode prog_104_method_8_code 46 = .ok (.iload 6, 2) := by decide +kernel
theorem d15_48 : decode prog_104_method_8_code 48 = .ok (.ifCond .lt 22, 3) := by decide +kernel
theorem d15_51 : decode prog_104_method_8_code 51 = .ok (.aload_n 0, 1) := by decide +kernel
theorem d15_52 : decode prog_104_method_8_code 52 = .ok (.getfield 13, 3) := by decide +kernel
theorem d15_55 : decode prog_104_method_8_code 55 = .ok (.iload 6, 2) := by decide +kernel
theorem d15_57 : decode prog_104_method_8_code 57 = .ok (.aload_n 0, 1) := by decide +kernel
theorem d15_58 : decode prog_104_method_8_code 58 = .ok (.getfield 13, 3) := by decide +kernel
theorem d15_61 : decode prog_104_method_8_code 61 = .ok (.iload 6, 2) := by decide +kernel
theorem d15_63 : decode prog_104_method_8_code 63 = .ok (.daload, 1) := by decide +kernel
theorem d15_64 : decode prog_104_method_8_code 64 = .ok (.dload_n 2, 1) := by decide +kernel
theorem d15_65 : decode prog_104_method_8_code 65 = .ok (.invokestatic 42, 3) := by decide +kernel
theorem d15_68 : decode prog_104_method_8_code 68 = .ok (.dastore, 1) := by decide +kernel
theorem d15_69 : decode prog_104_method_8_code 69 = .ok (.return_, 1) := by decide +kernel
theorem ef_15 (m : MethodId) (x0 : Addr) (x1 : Int32) (x2 : UInt64) : entryFrame m #[(.ref x0), (.int x1), (.double x2)] 7 = (mkF m 0 #[.val (.ref x0), .val (.int x1), .val (.double x2), .second, .unset, .unset, .unset] []) := by first | (simp [entryFrame, mkF, argsToLocals, Value.category]; done) | rfl
def Q15 (Z : State) (a : Addr) (v : Int32) (x : UInt64) (ar : Int64) (sn : Int64) (b1 : Addr) (k1 : ClassId) (vs : List Value) (d1 : Value) (b2 : Addr) (k2 : ClassId) (ds : List Value) (d2 : Value) (y0 : Int32) (cc : UInt64) (h0 : Heap) (n0 : Nat) (vX : Option Value) (hX : Heap) (lX : List Loc) : Prop := vX = none ∧ Fr n0 lX ∧ (Keep h0 hX [a, b1, b2]) ∧ (Fld Z hX a "org/wayfold/search/Steps" "seen" "J" (.long (sn ||| ((1 : Int64) <<< (v &&& 0x3f).toInt64)))) ∧ (Arv Z hX b1 k1 .int (16 : Int32) vs d1) ∧ (Arv Z hX b2 k2 .double (16 : Int32) (ds.set 0 (.double (Native.java_lang_Math.nans.pick64 false cc x))) d2) ∧ (Fld Z hX a "org/wayfold/search/Steps" "hashed" "Z" (.int (0 : Int32))) ∧ (Fld Z hX a "org/wayfold/search/Steps" "size" "I" (.int (1 : Int32))) ∧ (Fld Z hX a "org/wayfold/search/Steps" "arcsRead" "J" (.long ar)) ∧ (Fld Z hX a "org/wayfold/search/Steps" "vertices" "[I" (.ref b1)) ∧ (Fld Z hX a "org/wayfold/search/Steps" "costs" "[D" (.ref b2))
set_option maxRecDepth 65536 in
set_option maxHeartbeats 40000000 in
theorem rm15 (l : Launch) (Z : State) (a0 : Array Value) (hw : ∀ d ∈ tables_1, d.before a0 Z = true) (ws : List Jvm.Cond) (a : Addr) (v : Int32) (x : UInt64) (ar : Int64) (sn : Int64) (b1 : Addr) (k1 : ClassId) (vs : List Value) (d1 : Value) (b2 : Addr) (k2 : ClassId) (ds : List Value) (d2 : Value) (y0 : Int32) (cc : UInt64) (h0 : Heap) (n0 : Nat) (Z0 : n0 ≤ h0.size) (pr0 : Exa Z h0 a "org/wayfold/search/Steps") (pr1 : Fld Z h0 a "org/wayfold/search/Steps" "hashed" "Z" (.int (0 : Int32))) (pr2 : Fld Z h0 a "org/wayfold/search/Steps" "size" "I" (.int (1 : Int32))) (pr3 : Fld Z h0 a "org/wayfold/search/Steps" "seen" "J" (.long sn)) (pr4 : Fld Z h0 a "org/wayfold/search/Steps" "arcsRead" "J" (.long ar)) (pr5 : Fld Z h0 a "org/wayfold/search/Steps" "vertices" "[I" (.ref b1)) (pr6 : Fld Z h0 a "org/wayfold/search/Steps" "costs" "[D" (.ref b2)) (pr7 : Arv Z h0 b1 k1 .int (16 : Int32) vs d1) (pr8 : Arv Z h0 b2 k2 .double (16 : Int32) ds d2) (pr9 : n0 ≤ a) (pr10 : n0 ≤ b1) (pr11 : n0 ≤ b2) (pr12 : a ≠ b1) (pr13 : a ≠ b2) (pr14 : b1 ≠ b2) (pr15 : vs.length = 16) (pr16 : ds.length = 16) (pr17 : vs.getD (0 : Int32).toNatClampNeg d1 = .int y0) (pr18 : y0 = v) (pr19 : ¬ (sn &&& ((1 : Int64) <<< (v &&& 0x3f).toInt64)) = (0 : Int64)) (pr20 : ds.getD (0 : Int32).toNatClampNeg d2 = .double cc) (pr21 : Jvm.Free.Fl.NoNaN64 cc) (pr22 : Jvm.Free.Fl.NoNaN64 x) :
    MetFree l (⟨"org/wayfold/search/Steps", "merge", "(ID)V"⟩ : MethodName) (head1 (Jvm.Cond.code (⟨"org/wayfold/search/Steps", "merge", "(ID)V"⟩ : MethodName) prog_104_method_8_code 7 none :: ws) ({ frames := 1, cells := 0, slots := 0, locals := 17 } : Room)) (fun aX uX => aX = #[(.ref a), (.int v), (.double x)] ∧ Z.Warmed39 uX.vm ∧ uX.heap = h0) (fun _ _ _ _ _ => True) (fun _ uX oX wX => ∃ vX lX, oX = .returned vX ∧ Q15 Z a v x ar sn b1 k1 vs d1 b2 k2 ds d2 y0 cc h0 n0 vX wX.heap lX ∧ FrameEnd uX oX wX lX ({ frames := 1, cells := 0, slots := 0, locals := 17 } : Room).cells ({ frames := 1, cells := 0, slots := 0, locals := 17 } : Room).slots) := by
  refine MetFree.of_bodySF (plainFor_of_name pn_0) hisR ?_
  intro p e s m args below meth c s₁ Bd hml0 hP hK
  obtain ⟨rfl, hZ, hh⟩ := hP
  have hx := Bd.exec
  have hby := Bd.bytes
  have hml : c.maxLocals = 7 := hml0
  have hown : s.vm.findClass "org/wayfold/search/Steps" = some m.cls := findClass_of_methodNamed Bd.named
  have hnm := (name_of_methodNamed Bd.named Bd.method).1
  have X0 : Stand p l e ({ frames := 1, cells := 0, slots := 0, locals := 17 } : Room) s m #[(.ref a), (.int v), (.double x)] below meth c s₁ [] 0 0 := Stand.of_body Bd
  have e0 : s₁.heap = h0 := by rw [← hh, Bd.state]; rfl
  have N0 := Fr.nil n0
  have pre0 : ∀ t, Steps p.tables e below (s₁.setTop (mkF m 0 #[.val (.ref a), .val (.int v), .val (.double x), .second, .unset, .unset, .unset] [])) t → Steps p.tables e below (s₁.setTop (entryFrame m #[(.ref a), (.int v), (.double x)] 7)) t := fun t k => castTop (ef_15 m a v x) k
  obtain ⟨T1, X1, e1, st1⟩ := getF X0 hx hZ hown (host := "") (Or.inl (hw _ (List.mem_of_getElem? (i := 31) rfl))) Via.refl e0 pr1 (g := (mkF m 6 #[.val (.ref a), .val (.int v), .val (.double x), .second, .val (.long (((1 : Int64) <<< (v &&& 0x3f).toInt64))), .second, .unset] [(.ref a)])) rfl rfl (hb hby d15_6)
  obtain ⟨T2, X2, e2, st2⟩ := getF X1 hx hZ hown (host := "") (Or.inl (hw _ (List.mem_of_getElem? (i := 35) rfl))) Via.refl e1 pr3 (g := (mkF m 13 #[.val (.ref a), .val (.int v), .val (.double x), .second, .val (.long (((1 : Int64) <<< (v &&& 0x3f).toInt64))), .second, .unset] [(.ref a)])) rfl rfl (hb hby d15_13)
  obtain ⟨cq3, q3, q3'⟩ := pr0.cell
  obtain ⟨_, _, ⟨T3, L3, k3, n3⟩, -, X3, ⟨Lc3, hQ3, l3, y3, z3⟩, st3⟩ := X2.privateBack hx (y := (⟨"org/wayfold/search/Steps", "find", "(I)I"⟩ : MethodName)) hown (mvT hZ (hw _ (List.mem_of_getElem? (i := 65) rfl))) (mvT hZ (hw _ (List.mem_of_getElem? (i := 66) rfl))) (own_selpriv (y := (⟨"org/wayfold/search/Steps", "find", "(I)I"⟩ : MethodName)) (y' := (⟨"org/wayfold/search/Steps", "arcsRead", "(J)V"⟩ : MethodName)) rfl (mvT hZ (hw _ (List.mem_of_getElem? (i := 22) rfl))) (Cond.privateMethod_at (mvP hZ (hw _ (List.mem_of_getElem? (i := 67) rfl)) (args := #[]))) (mvT hZ (hw _ (List.mem_of_getElem? (i := 66) rfl))) (by decide)) (Cond.privateMethod_at (mvP hZ (hw _ (List.mem_of_getElem? (i := 67) rfl)) (args := #[]))) (mvT hZ (hw _ (List.mem_of_getElem? (i := 68) rfl))) (by decide) (backOf (W := 0) (rm9 l Z a0 hw [] a v b1 k1 vs d1 y0 h0 n0 Z0 pr0 pr1 pr2 pr5 pr7 pr17 pr18) hZ (hw _ (List.mem_of_getElem? (i := 68) rfl)) (hw _ (List.mem_of_getElem? (i := 2) rfl)) (by decide) (by decide)) (g := (mkF m 26 #[.val (.ref a), .val (.int v), .val (.double x), .second, .val (.long (((1 : Int64) <<< (v &&& 0x3f).toInt64))), .second, .unset] [(.int v), (.ref a)])) rfl (by rw [hml]; rfl) (Steps.refl _) (a := a) (by rw [e2]; exact q3) q3' (argsL := [(.int v)]) (rest := []) (lenOf pd_0 rfl) rfl (by show 2 * 0 + _ ≤ _; exact Nat.le_of_eq rfl) (hb hby d15_26) (fun _ _ => ⟨rfl, e2, (by decide : 0 + 0 ≤ _), (by decide : 0 + 0 ≤ _)⟩)
  dsimp only [Pt.U, Pt.locs, Pt.cells, Pt.slots] at X3 l3 y3 z3 st3 hQ3
  subst l3 y3 z3
  obtain ⟨rfl, Nq3, e3⟩ := hQ3
  have N3 := Fr.app N0 Nq3
  obtain ⟨T4, X4, e4, st4⟩ := getF X3 hx hZ hown (host := "") (Or.inl (hw _ (List.mem_of_getElem? (i := 35) rfl))) Via.refl e3 pr3 (g := (mkF m 37 #[.val (.ref a), .val (.int v), .val (.double x), .second, .val (.long (((1 : Int64) <<< (v &&& 0x3f).toInt64))), .second, .val (.int (0 : Int32))] [(.ref a), (.ref a)])) rfl rfl (hb hby d15_37)
  obtain ⟨T5, h5, X5, e5, W5, st5⟩ := putF X4 hx hZ hown (host := "") (Or.inl (hw _ (List.mem_of_getElem? (i := 35) rfl))) Via.refl e4 pr3 pr0 (Or.inl (hw _ (List.mem_of_getElem? (i := 36) rfl))) (hw _ (List.mem_of_getElem? (i := 1) rfl)) (ty := .long) (by decide) rfl rfl (g := (mkF m 43 #[.val (.ref a), .val (.int v), .val (.double x), .second, .val (.long (((1 : Int64) <<< (v &&& 0x3f).toInt64))), .second, .val (.int (0 : Int32))] [(.long (sn ||| (((1 : Int64) <<< (v &&& 0x3f).toInt64)))), (.ref a)])) rfl rfl (hb hby d15_43)
  have N5 := Fr.snoc X5 N3 pr9
  have Fw5 := Fld.same W5 pr3
  have f6 := (Fld.other W5 pr6 (Or.inr (slot_ne (Or.inl (hw _ (List.mem_of_getElem? (i := 14) rfl))) (Or.inl (hw _ (List.mem_of_getElem? (i := 36) rfl))) (by decide) (t := (.array .double)) (t' := .long) (by decide) (by decide))))
  obtain ⟨T7, X7, e7, st7⟩ := getF X5 hx hZ hown (host := "") (Or.inl (hw _ (List.mem_of_getElem? (i := 13) rfl))) Via.refl e5 f6 (g := (mkF m 52 #[.val (.ref a), .val (.int v), .val (.double x), .second, .val (.long (((1 : Int64) <<< (v &&& 0x3f).toInt64))), .second, .val (.int (0 : Int32))] [(.ref a)])) rfl rfl (hb hby d15_52)
  have P8 : ∀ t, Steps p.tables e below (T7.setTop (mkF m 57 #[.val (.ref a), .val (.int v), .val (.double x), .second, .val (.long (((1 : Int64) <<< (v &&& 0x3f).toInt64))), .second, .val (.int (0 : Int32))] [(.int (0 : Int32)), (.ref b2)])) t → Steps p.tables e below (s₁.setTop (entryFrame m #[(.ref a), (.int v), (.double x)] 7)) t := by
    intro t kk
    refine pre0 _ ?_
    show Steps p.tables e below (s₁.setTop (mkF m 0 #[.val (.ref a), .val (.int v), .val (.double x), .second, .unset, .unset, .unset] [])) _
    refine XS.lconst X0.here hx rfl (hb hby d15_0) ?_
    show Steps p.tables e below (s₁.setTop (mkF m 1 #[.val (.ref a), .val (.int v), .val (.double x), .second, .unset, .unset, .unset] [(.long (1 : Int64))])) _
    refine XS.iloadN X0.here hx rfl (hb hby d15_1) rfl ?_
    show Steps p.tables e below (s₁.setTop (mkF m 2 #[.val (.ref a), .val (.int v), .val (.double x), .second, .unset, .unset, .unset] [(.int v), (.long (1 : Int64))])) _
    refine XS.lshl X0.here hx rfl (hb hby d15_2) rfl ?_
    show Steps p.tables e below (s₁.setTop (mkF m 3 #[.val (.ref a), .val (.int v), .val (.double x), .second, .unset, .unset, .unset] [(.long (((1 : Int64) <<< (v &&& 0x3f).toInt64)))])) _
    refine XS.lstore X0.here hx rfl (hb hby d15_3) rfl (l' := #[.val (.ref a), .val (.int v), .val (.double x), .second, .val (.long (((1 : Int64) <<< (v &&& 0x3f).toInt64))), .second, .unset]) rfl ?_
    show Steps p.tables e below (s₁.setTop (mkF m 5 #[.val (.ref a), .val (.int v), .val (.double x), .second, .val (.long (((1 : Int64) <<< (v &&& 0x3f).toInt64))), .second, .unset] [])) _
    refine XS.aloadN X0.here hx rfl (hb hby d15_5) rfl rfl ?_
    show Steps p.tables e below (s₁.setTop (mkF m 6 #[.val (.ref a), .val (.int v), .val (.double x), .second, .val (.long (((1 : Int64) <<< (v &&& 0x3f).toInt64))), .second, .unset] [(.ref a)])) _
    refine st1 _ ?_
    show Steps p.tables e below (T1.setTop (mkF m 9 #[.val (.ref a), .val (.int v), .val (.double x), .second, .val (.long (((1 : Int64) <<< (v &&& 0x3f).toInt64))), .second, .unset] [(.int (0 : Int32))])) _
    refine XS.ifNo X1.here hx rfl (hb hby d15_9) rfl (XT.i0_ne_f rfl) ?_
    show Steps p.tables e below (T1.setTop (mkF m 12 #[.val (.ref a), .val (.int v), .val (.double x), .second, .val (.long (((1 : Int64) <<< (v &&& 0x3f).toInt64))), .second, .unset] [])) _
    refine XS.aloadN X1.here hx rfl (hb hby d15_12) rfl rfl ?_
    show Steps p.tables e below (T1.setTop (mkF m 13 #[.val (.ref a), .val (.int v), .val (.double x), .second, .val (.long (((1 : Int64) <<< (v &&& 0x3f).toInt64))), .second, .unset] [(.ref a)])) _
    refine st2 _ ?_
    show Steps p.tables e below (T2.setTop (mkF m 16 #[.val (.ref a), .val (.int v), .val (.double x), .second, .val (.long (((1 : Int64) <<< (v &&& 0x3f).toInt64))), .second, .unset] [(.long sn)])) _
    refine XS.lload X2.here hx rfl (hb hby d15_16) rfl ?_
    show Steps p.tables e below (T2.setTop (mkF m 18 #[.val (.ref a), .val (.int v), .val (.double x), .second, .val (.long (((1 : Int64) <<< (v &&& 0x3f).toInt64))), .second, .unset] [(.long (((1 : Int64) <<< (v &&& 0x3f).toInt64))), (.long sn)])) _
    refine XS.land X2.here hx rfl (hb hby d15_18) rfl ?_
    show Steps p.tables e below (T2.setTop (mkF m 19 #[.val (.ref a), .val (.int v), .val (.double x), .second, .val (.long (((1 : Int64) <<< (v &&& 0x3f).toInt64))), .second, .unset] [(.long (sn &&& (((1 : Int64) <<< (v &&& 0x3f).toInt64))))])) _
    refine XS.lconst X2.here hx rfl (hb hby d15_19) ?_
    show Steps p.tables e below (T2.setTop (mkF m 20 #[.val (.ref a), .val (.int v), .val (.double x), .second, .val (.long (((1 : Int64) <<< (v &&& 0x3f).toInt64))), .second, .unset] [(.long (0 : Int64)), (.long (sn &&& (((1 : Int64) <<< (v &&& 0x3f).toInt64))))])) _
    refine XT.lcmp X2.here hx rfl (hb hby d15_20) rfl ?_
    show Steps p.tables e below (T2.setTop (mkF m 21 #[.val (.ref a), .val (.int v), .val (.double x), .second, .val (.long (((1 : Int64) <<< (v &&& 0x3f).toInt64))), .second, .unset] [(.int (XT.cmpL (sn &&& (((1 : Int64) <<< (v &&& 0x3f).toInt64))) (0 : Int64)))])) _
    refine XS.ifNo X2.here hx rfl (hb hby d15_21) rfl (XT.ll_eq_f pr19) ?_
    show Steps p.tables e below (T2.setTop (mkF m 24 #[.val (.ref a), .val (.int v), .val (.double x), .second, .val (.long (((1 : Int64) <<< (v &&& 0x3f).toInt64))), .second, .unset] [])) _
    refine XS.aloadN X2.here hx rfl (hb hby d15_24) rfl rfl ?_
    show Steps p.tables e below (T2.setTop (mkF m 25 #[.val (.ref a), .val (.int v), .val (.double x), .second, .val (.long (((1 : Int64) <<< (v &&& 0x3f).toInt64))), .second, .unset] [(.ref a)])) _
    refine XS.iloadN X2.here hx rfl (hb hby d15_25) rfl ?_
    show Steps p.tables e below (T2.setTop (mkF m 26 #[.val (.ref a), .val (.int v), .val (.double x), .second, .val (.long (((1 : Int64) <<< (v &&& 0x3f).toInt64))), .second, .unset] [(.int v), (.ref a)])) _
    refine st3.trans ?_
    show Steps p.tables e below (T3.setTop (mkF m 29 #[.val (.ref a), .val (.int v), .val (.double x), .second, .val (.long (((1 : Int64) <<< (v &&& 0x3f).toInt64))), .second, .unset] [(.int (0 : Int32))])) _
    refine XS.goto X3.here hx rfl (pc0 := 29) (pc' := 33) rfl (hb hby d15_29) (by decide) (by decide) ?_
    show Steps p.tables e below (T3.setTop (mkF m 33 #[.val (.ref a), .val (.int v), .val (.double x), .second, .val (.long (((1 : Int64) <<< (v &&& 0x3f).toInt64))), .second, .unset] [(.int (0 : Int32))])) _
    refine XS.istore X3.here hx rfl (hb hby d15_33) rfl (l' := #[.val (.ref a), .val (.int v), .val (.double x), .second, .val (.long (((1 : Int64) <<< (v &&& 0x3f).toInt64))), .second, .val (.int (0 : Int32))]) rfl ?_
    show Steps p.tables e below (T3.setTop (mkF m 35 #[.val (.ref a), .val (.int v), .val (.double x), .second, .val (.long (((1 : Int64) <<< (v &&& 0x3f).toInt64))), .second, .val (.int (0 : Int32))] [])) _
    refine XS.aloadN X3.here hx rfl (hb hby d15_35) rfl rfl ?_
    show Steps p.tables e below (T3.setTop (mkF m 36 #[.val (.ref a), .val (.int v), .val (.double x), .second, .val (.long (((1 : Int64) <<< (v &&& 0x3f).toInt64))), .second, .val (.int (0 : Int32))] [(.ref a)])) _
    refine XS.dup X3.here hx rfl (hb hby d15_36) rfl rfl ?_
    show Steps p.tables e below (T3.setTop (mkF m 37 #[.val (.ref a), .val (.int v), .val (.double x), .second, .val (.long (((1 : Int64) <<< (v &&& 0x3f).toInt64))), .second, .val (.int (0 : Int32))] [(.ref a), (.ref a)])) _
    refine st4 _ ?_
    show Steps p.tables e below (T4.setTop (mkF m 40 #[.val (.ref a), .val (.int v), .val (.double x), .second, .val (.long (((1 : Int64) <<< (v &&& 0x3f).toInt64))), .second, .val (.int (0 : Int32))] [(.long sn), (.ref a)])) _
    refine XS.lload X4.here hx rfl (hb hby d15_40) rfl ?_
    show Steps p.tables e below (T4.setTop (mkF m 42 #[.val (.ref a), .val (.int v), .val (.double x), .second, .val (.long (((1 : Int64) <<< (v &&& 0x3f).toInt64))), .second, .val (.int (0 : Int32))] [(.long (((1 : Int64) <<< (v &&& 0x3f).toInt64))), (.long sn), (.ref a)])) _
    refine XS.lor X4.here hx rfl (hb hby d15_42) rfl ?_
    show Steps p.tables e below (T4.setTop (mkF m 43 #[.val (.ref a), .val (.int v), .val (.double x), .second, .val (.long (((1 : Int64) <<< (v &&& 0x3f).toInt64))), .second, .val (.int (0 : Int32))] [(.long (sn ||| (((1 : Int64) <<< (v &&& 0x3f).toInt64)))), (.ref a)])) _
    refine st5 _ ?_
    show Steps p.tables e below (T5.setTop (mkF m 46 #[.val (.ref a), .val (.int v), .val (.double x), .second, .val (.long (((1 : Int64) <<< (v &&& 0x3f).toInt64))), .second, .val (.int (0 : Int32))] [])) _
    refine XS.iload X5.here hx rfl (hb hby d15_46) rfl ?_
    show Steps p.tables e below (T5.setTop (mkF m 48 #[.val (.ref a), .val (.int v), .val (.double x), .second, .val (.long (((1 : Int64) <<< (v &&& 0x3f).toInt64))), .second, .val (.int (0 : Int32))] [(.int (0 : Int32))])) _
    refine XS.ifNo X5.here hx rfl (hb hby d15_48) rfl (XT.i0_lt_f (by decide)) ?_
    show Steps p.tables e below (T5.setTop (mkF m 51 #[.val (.ref a), .val (.int v), .val (.double x), .second, .val (.long (((1 : Int64) <<< (v &&& 0x3f).toInt64))), .second, .val (.int (0 : Int32))] [])) _
    refine XS.aloadN X5.here hx rfl (hb hby d15_51) rfl rfl ?_
    show Steps p.tables e below (T5.setTop (mkF m 52 #[.val (.ref a), .val (.int v), .val (.double x), .second, .val (.long (((1 : Int64) <<< (v &&& 0x3f).toInt64))), .second, .val (.int (0 : Int32))] [(.ref a)])) _
    refine st7 _ ?_
    show Steps p.tables e below (T7.setTop (mkF m 55 #[.val (.ref a), .val (.int v), .val (.double x), .second, .val (.long (((1 : Int64) <<< (v &&& 0x3f).toInt64))), .second, .val (.int (0 : Int32))] [(.ref b2)])) _
    refine XS.iload X7.here hx rfl (hb hby d15_55) rfl ?_
    show Steps p.tables e below (T7.setTop (mkF m 57 #[.val (.ref a), .val (.int v), .val (.double x), .second, .val (.long (((1 : Int64) <<< (v &&& 0x3f).toInt64))), .second, .val (.int (0 : Int32))] [(.int (0 : Int32)), (.ref b2)])) _
    exact kk
  obtain ⟨T9, X9, e9, st9⟩ := getF X7 hx hZ hown (host := "") (Or.inl (hw _ (List.mem_of_getElem? (i := 13) rfl))) Via.refl e7 f6 (g := (mkF m 58 #[.val (.ref a), .val (.int v), .val (.double x), .second, .val (.long (((1 : Int64) <<< (v &&& 0x3f).toInt64))), .second, .val (.int (0 : Int32))] [(.ref a), (.int (0 : Int32)), (.ref b2)])) rfl rfl (hb hby d15_58)
  have f10 := (pr8.other W5 (Ne.symm pr13))
  obtain ⟨cl_a11, Ar_a11, q_a11, S_a11, N_a11, H_a11, G_a11⟩ := id f10
  have hin_a11 : ¬ ((0 : Int32) < 0 ∨ cl_a11.slots.size ≤ ((0 : Int32)).toNatClampNeg) := inb_of S_a11 ⟨by decide, by decide⟩
  have hat_a11 := Has.at (v := (.double cc)) H_a11 hin_a11 pr20
  obtain ⟨T12, X12, e12, st12⟩ := natS X9 hx hZ hown (hw _ (List.mem_of_getElem? (i := 69) rfl)) (hw _ (List.mem_of_getElem? (i := 70) rfl)) (hw _ (List.mem_of_getElem? (i := 71) rfl)) (hw _ (List.mem_of_getElem? (i := 72) rfl)) (by decide) e9 (W := 2) (fun cz => Jvm.Free.Fl.Abs.minD_pays (W := 2) cc x cz (by decide) (by decide)) (g := (mkF m 65 #[.val (.ref a), .val (.int v), .val (.double x), .second, .val (.long (((1 : Int64) <<< (v &&& 0x3f).toInt64))), .second, .val (.int (0 : Int32))] [(.double x), (.double cc), (.int (0 : Int32)), (.ref b2)])) rfl (by rw [hml]; rfl) (argsL := [(.double cc), (.double x)]) (rest := [(.int (0 : Int32)), (.ref b2)]) (lenOf pd_1 rfl) rfl (by show 2 * 0 + _ ≤ _; exact Nat.le_of_eq rfl) (hb hby d15_65) (by decide) (by decide) ⟨rfl, pr21, pr22⟩ rfl
  obtain ⟨cl_a13, Ar_a13, q_a13, S_a13, N_a13, H_a13, G_a13⟩ := id f10
  have hin_a13 : ¬ ((0 : Int32) < 0 ∨ cl_a13.slots.size ≤ ((0 : Int32)).toNatClampNeg) := inb_of S_a13 ⟨by decide, by decide⟩
  obtain ⟨T14, h14, X14, e14, W14, st14⟩ := stD X12 hx hZ e12 Ar_a13 (j := (0 : Int32)) hin_a13 (g := (mkF m 68 #[.val (.ref a), .val (.int v), .val (.double x), .second, .val (.long (((1 : Int64) <<< (v &&& 0x3f).toInt64))), .second, .val (.int (0 : Int32))] [(.double (Native.java_lang_Math.nans.pick64 false cc x)), (.int (0 : Int32)), (.ref b2)])) rfl rfl (hb hby d15_68)
  have V14 : Arv Z h14 b2 k2 .double (16 : Int32) (ds.set 0 (.double (Native.java_lang_Math.nans.pick64 false cc x))) d2 := Arv.set Ar_a13 q_a13 S_a13 N_a13 H_a13 G_a13 rfl W14 0 rfl (by rw [pr16]; decide)
  have N14 := Fr.snoc X14 N5 pr11
  have P15 : ∀ t, Steps p.tables e below (T14.setTop (mkF m 69 #[.val (.ref a), .val (.int v), .val (.double x), .second, .val (.long (((1 : Int64) <<< (v &&& 0x3f).toInt64))), .second, .val (.int (0 : Int32))] [])) t → Steps p.tables e below (s₁.setTop (entryFrame m #[(.ref a), (.int v), (.double x)] 7)) t := by
    intro t kk
    refine P8 _ ?_
    show Steps p.tables e below (T7.setTop (mkF m 57 #[.val (.ref a), .val (.int v), .val (.double x), .second, .val (.long (((1 : Int64) <<< (v &&& 0x3f).toInt64))), .second, .val (.int (0 : Int32))] [(.int (0 : Int32)), (.ref b2)])) _
    refine XS.aloadN X7.here hx rfl (hb hby d15_57) rfl rfl ?_
    show Steps p.tables e below (T7.setTop (mkF m 58 #[.val (.ref a), .val (.int v), .val (.double x), .second, .val (.long (((1 : Int64) <<< (v &&& 0x3f).toInt64))), .second, .val (.int (0 : Int32))] [(.ref a), (.int (0 : Int32)), (.ref b2)])) _
    refine st9 _ ?_
    show Steps p.tables e below (T9.setTop (mkF m 61 #[.val (.ref a), .val (.int v), .val (.double x), .second, .val (.long (((1 : Int64) <<< (v &&& 0x3f).toInt64))), .second, .val (.int (0 : Int32))] [(.ref b2), (.int (0 : Int32)), (.ref b2)])) _
    refine XS.iload X9.here hx rfl (hb hby d15_61) rfl ?_
    show Steps p.tables e below (T9.setTop (mkF m 63 #[.val (.ref a), .val (.int v), .val (.double x), .second, .val (.long (((1 : Int64) <<< (v &&& 0x3f).toInt64))), .second, .val (.int (0 : Int32))] [(.int (0 : Int32)), (.ref b2), (.int (0 : Int32)), (.ref b2)])) _
    refine X9.daload hx (j := (0 : Int32)) (v := (.double cc)) (by rw [e9]; exact Ar_a11.1) (State.isArrayOf_alike hZ.alike Ar_a11.2.1) Ar_a11.2.2 hin_a11 hat_a11 (g := (mkF m 63 #[.val (.ref a), .val (.int v), .val (.double x), .second, .val (.long (((1 : Int64) <<< (v &&& 0x3f).toInt64))), .second, .val (.int (0 : Int32))] [(.int (0 : Int32)), (.ref b2), (.int (0 : Int32)), (.ref b2)])) rfl rfl (hb hby d15_63) _ ?_
    show Steps p.tables e below (T9.setTop (mkF m 64 #[.val (.ref a), .val (.int v), .val (.double x), .second, .val (.long (((1 : Int64) <<< (v &&& 0x3f).toInt64))), .second, .val (.int (0 : Int32))] [(.double cc), (.int (0 : Int32)), (.ref b2)])) _
    refine XS.dloadN X9.here hx rfl (hb hby d15_64) rfl ?_
    show Steps p.tables e below (T9.setTop (mkF m 65 #[.val (.ref a), .val (.int v), .val (.double x), .second, .val (.long (((1 : Int64) <<< (v &&& 0x3f).toInt64))), .second, .val (.int (0 : Int32))] [(.double x), (.double cc), (.int (0 : Int32)), (.ref b2)])) _
    refine st12 _ ?_
    show Steps p.tables e below (T12.setTop (mkF m 68 #[.val (.ref a), .val (.int v), .val (.double x), .second, .val (.long (((1 : Int64) <<< (v &&& 0x3f).toInt64))), .second, .val (.int (0 : Int32))] [(.double (Native.java_lang_Math.nans.pick64 false cc x)), (.int (0 : Int32)), (.ref b2)])) _
    refine st14 _ ?_
    show Steps p.tables e below (T14.setTop (mkF m 69 #[.val (.ref a), .val (.int v), .val (.double x), .second, .val (.long (((1 : Int64) <<< (v &&& 0x3f).toInt64))), .second, .val (.int (0 : Int32))] [])) _
    exact kk
  have k16 : Keep h0 h14 [a, b1, b2] := (Keep.wr (Keep.wr (Keep.refl h0 [a, b1, b2]) W5 (Or.inl (List.mem_of_getElem? (i := 0) rfl))) W14 (Or.inl (List.mem_of_getElem? (i := 2) rfl)))
  have f17 := (Fld.other W14 Fw5 (Or.inl pr13))
  have f18 := ((pr7.other W5 (Ne.symm pr12)).other W14 pr14)
  have f19 := (Fld.other W14 (Fld.other W5 pr1 (Or.inr (slot_ne (Or.inl (hw _ (List.mem_of_getElem? (i := 32) rfl))) (Or.inl (hw _ (List.mem_of_getElem? (i := 36) rfl))) (by decide) (t := .boolean) (t' := .long) (by decide) (by decide)))) (Or.inl pr13))
  have f20 := (Fld.other W14 (Fld.other W5 pr2 (Or.inr (slot_ne (Or.inl (hw _ (List.mem_of_getElem? (i := 34) rfl))) (Or.inl (hw _ (List.mem_of_getElem? (i := 36) rfl))) (by decide) (t := .int) (t' := .long) (by decide) (by decide)))) (Or.inl pr13))
  have f21 := (Fld.other W14 (Fld.other W5 pr4 (Or.inr (slot_ne (Or.inl (hw _ (List.mem_of_getElem? (i := 25) rfl))) (Or.inl (hw _ (List.mem_of_getElem? (i := 36) rfl))) (by decide) (t := .long) (t' := .long) (by decide) (by decide)))) (Or.inl pr13))
  have f22 := (Fld.other W14 (Fld.other W5 pr5 (Or.inr (slot_ne (Or.inl (hw _ (List.mem_of_getElem? (i := 11) rfl))) (Or.inl (hw _ (List.mem_of_getElem? (i := 36) rfl))) (by decide) (t := (.array .int)) (t' := .long) (by decide) (by decide)))) (Or.inl pr13))
  have f23 := (Fld.other W14 f6 (Or.inl pr13))
  obtain ⟨fs, hr, hrun, hended, hW, hsame⟩ := X14.leave (v := none) (fun _ => rfl)
  refine ⟨_, _, P15 _ ?_, hrun, hended, _, _, rfl, ?_, ⟨_, rfl⟩, hW, hsame.mono (by decide) (by decide)⟩
  · exact X14.returnOut hx Bd.returns (hb hby d15_69) hr
  · show Q15 Z a v x ar sn b1 k1 vs d1 b2 k2 ds d2 y0 cc h0 n0 _ T14.heap _
    rw [e14]
    exact ⟨rfl, N14, k16, f17, f18, V14, f19, f20, f21, f22, f23⟩
theorem d16_0 : decode prog_104_method_8_code 0 = .ok (.lconst 1, 1) := by decide +kernel
theorem d16_1 : decode prog_104_method_8_code 1 = .ok (.iload_n 1, 1) := by decide +kernel
theorem d16_2 : decode prog_104_method_8_code 2 = .ok (.lshl, 1) := by decide +kernel
theorem d16_3 : decode prog_104_method_8_code 3 = .ok (.lstore 4, 2) := by decide +kernel
theorem d16_5 : decode prog_104_method_8_code 5 = .ok (.aload_n 0, 1) := by decide +kernel
theorem d16_6 : decode prog_104_method_8_code 6 = .ok (.getfield 31, 3) := by decide +kernel
theorem d16_9 : decode prog_104_method_8_code 9 = .ok (.ifCond .ne 15, 3) := by decide +kernel
theorem d16_12 : decode prog_104_method_8_code 12 = .ok (.aload_n 0, 1) := by decide +kernel
theorem d16_13 : decode prog_104_method_8_code 13 = .ok (.getfield 35, 3) := by decide +kernel
theorem d16_16 : decode prog_104_method_8_code 16 = .ok (.lload 4, 2) := by decide +kernel
theorem d16_18 : decode prog_104_method_8_code 18 = .ok (.land, 1) := by decide +kernel
theorem d16_19 : decode prog_104_method_8_code 19 = .ok (.lconst 0, 1) := by decide +kernel
theorem d16_20 : decode prog_104_method_8_code 20 = .ok (.lcmp, 1) := by decide +kernel
theorem d16_21 : decode prog_104_method_8_code 21 = .ok (.ifCond .eq 11, 3) := by decide +kernel
theorem d16_24 : decode prog_104_method_8_code 24 = .ok (.aload_n 0, 1) := by decide +kernel
theorem d16_25 : decode prog_104_method_8_code 25 = .ok (.iload_n 1, 1) := by decide +kernel
theorem d16_26 : decode prog_104_method_8_code 26 = .ok (.invokevirtual 38, 3) := by decide +kernel
theorem d16_29 : decode prog_104_method_8_code 29 = .ok (.goto 4, 3) := by decide +kernel
theorem d16_32 : decode prog_104_method_8_code 32 = .ok (.iconst (-1), 1) := by decide +kernel
theorem d16_33 : decode prog_104_method_8_code 33 = .ok (.istore 6, 2) := by decide +kernel
theorem d16_35 : decode prog_104_method_8_code 35 = .ok (.aload_n 0, 1) := by decide +kernel
theorem d16_36 : decode prog_104_method_8_code 36 = .ok (.dup, 1) := by decide +kernel
theorem d16_37 : decode prog_104_method_8_code 37 = .ok (.getfield 35, 3) := by decide +kernel
theorem d16_40 : decode prog_104_method_8_code 40 = .ok (.lload 4, 2) := by decide +kernel
theorem d16_42 : decode prog_104_method_8_code 42 = .ok (.lor, 1) := by decide +kernel
theorem d16_43 : decode prog_104_method_8_code 43 = .ok (.putfield 35, 3) := by decide +kernel
theorem d16_46 : decode prog_104_method_8_code 46 = .ok (.iload 6, 2) := by decide +kernel
theorem d16_48 : decode prog_104_method_8_code 48 = .ok (.ifCond .lt 22, 3) := by decide +kernel
theorem d16_70 : decode prog_104_method_8_code 70 = .ok (.aload_n 0, 1) := by decide +kernel
theorem d16_71 : decode prog_104_method_8_code 71 = .ok (.getfield 23, 3) := by decide +kernel
theorem d16_74 : decode prog_104_method_8_code 74 = .ok (.aload_n 0, 1) := by decide +kernel
theorem d16_75 : decode prog_104_method_8_code 75 = .ok (.getfield 7, 3) := by decide +kernel
theorem d16_78 : decode prog_104_method_8_code 78 = .ok (.arraylength, 1) := by decide +kernel
theorem d16_79 : decode prog_104_method_8_code 79 = .ok (.if_icmp .ne 7, 3) := by decide +kernel
theorem d16_86 : decode prog_104_method_8_code 86 = .ok (.aload_n 0, 1) := by decide +kernel
theorem d16_87 : decode prog_104_method_8_code 87 = .ok (.getfield 7, 3) := by decide +kernel
theorem d16_90 : decode prog_104_method_8_code 90 = .ok (.aload_n 0, 1) := by decide +kernel
theorem d16_91 : decode prog_104_method_8_code 91 = .ok (.getfield 23, 3) := by decide +kernel
theorem d16_94 : decode prog_104_method_8_code 94 = .ok (.iload_n 1, 1) := by decide +kernel
theorem d16_95 : decode prog_104_method_8_code 95 = .ok (.iastore, 1) := by decide +kernel
theorem d16_96 : decode prog_104_method_8_code 96 = .ok (.aload_n 0, 1) := by decide +kernel
theorem d16_97 : decode prog_104_method_8_code 97 = .ok (.getfield 13, 3) := by decide +kernel
theorem d16_100 : decode prog_104_method_8_code 100 = .ok (.aload_n 0, 1) := by decide +kernel
theorem d16_101 : decode prog_104_method_8_code 101 = .ok (.getfield 23, 3) := by decide +kernel
theorem d16_104 : decode prog_104_method_8_code 104 = .ok (.dload_n 2, 1) := by decide +kernel
theorem d16_105 : decode prog_104_method_8_code 105 = .ok (.dastore, 1) := by decide +kernel
theorem d16_106 : decode prog_104_method_8_code 106 = .ok (.aload_n 0, 1) := by decide +kernel
theorem d16_107 : decode prog_104_method_8_code 107 = .ok (.dup, 1) := by decide +kernel
theorem d16_108 : decode prog_104_method_8_code 108 = .ok (.getfield 23, 3) := by decide +kernel
theorem d16_111 : decode prog_104_method_8_code 111 = .ok (.iconst 1, 1) := by decide +kernel
theorem d16_112 : decode prog_104_method_8_code 112 = .ok (.iadd, 1) := by decide +kernel
theorem d16_113 : decode prog_104_method_8_code 113 = .ok (.putfield 23, 3) := by decide +kernel
theorem d16_116 : decode prog_104_method_8_code 116 = .ok (.aload_n 0, 1) := by decide +kernel
theorem d16_117 : decode prog_104_method_8_code 117 = .ok (.getfield 31, 3) := by decide +kernel
theorem d16_120 : decode prog_104_method_8_code 120 = .ok (.ifCond .eq 16, 3) := by decide +kernel
theorem d16_136 : decode prog_104_method_8_code 136 = .ok (.aload_n 0, 1) := by decide +kernel
theorem d16_137 : decode prog_104_method_8_code 137 = .ok (.getfield 23, 3) := by decide +kernel
theorem d16_140 : decode prog_104_method_8_code 140 = .ok (.bipush 32, 2) := by decide +kernel
theorem d16_142 : decode prog_104_method_8_code 142 = .ok (.if_icmp .le 7, 3) := by decide +kernel
theorem d16_149 : decode prog_104_method_8_code 149 = .ok (.return_, 1) := by decide +kernel
theorem ef_16 (m : MethodId) (x0 : Addr) (x1 : Int32) (x2 : UInt64) : entryFrame m #[(.ref x0), (.int x1), (.double x2)] 7 = (mkF m 0 #[.val (.ref x0), .val (.int x1), .val (.double x2), .second, .unset, .unset, .unset] []) := by first | (simp [entryFrame, mkF, argsToLocals, Value.category]; done) | rfl
def Q16 (Z : State) (a : Addr) (v : Int32) (x : UInt64) (ar : Int64) (sn : Int64) (b1 : Addr) (k1 : ClassId) (vs : List Value) (d1 : Value) (b2 : Addr) (k2 : ClassId) (ds : List Value) (d2 : Value) (y0 : Int32) (y1 : Int32) (h0 : Heap) (n0 : Nat) (vX : Option Value) (hX : Heap) (lX : List Loc) : Prop := vX = none ∧ Fr n0 lX ∧ (Keep h0 hX [a, b1, b2]) ∧ (Fld Z hX a "org/wayfold/search/Steps" "size" "I" (.int (3 : Int32))) ∧ (Fld Z hX a "org/wayfold/search/Steps" "seen" "J" (.long (sn ||| ((1 : Int64) <<< (v &&& 0x3f).toInt64)))) ∧ (Arv Z hX b1 k1 .int (16 : Int32) (vs.set 2 (.int v)) d1) ∧ (Arv Z hX b2 k2 .double (16 : Int32) (ds.set 2 (.double x)) d2) ∧ (Fld Z hX a "org/wayfold/search/Steps" "hashed" "Z" (.int (0 : Int32))) ∧ (Fld Z hX a "org/wayfold/search/Steps" "arcsRead" "J" (.long ar)) ∧ (Fld Z hX a "org/wayfold/search/Steps" "vertices" "[I" (.ref b1)) ∧ (Fld Z hX a "org/wayfold/search/Steps" "costs" "[D" (.ref b2))
set_option maxRecDepth 65536 in
set_option maxHeartbeats 40000000 in
theorem rm16 (l : Launch) (Z : State) (a0 : Array Value) (hw : ∀ d ∈ tables_1, d.before a0 Z = true) (ws : List Jvm.Cond) (a : Addr) (v : Int32) (x : UInt64) (ar : Int64) (sn : Int64) (b1 : Addr) (k1 : ClassId) (vs : List Value) (d1 : Value) (b2 : Addr) (k2 : ClassId) (ds : List Value) (d2 : Value) (y0 : Int32) (y1 : Int32) (h0 : Heap) (n0 : Nat) (Z0 : n0 ≤ h0.size) (pr0 : Exa Z h0 a "org/wayfold/search/Steps") (pr1 : Fld Z h0 a "org/wayfold/search/Steps" "hashed" "Z" (.int (0 : Int32))) (pr2 : Fld Z h0 a "org/wayfold/search/Steps" "size" "I" (.int (2 : Int32))) (pr3 : Fld Z h0 a "org/wayfold/search/Steps" "seen" "J" (.long sn)) (pr4 : Fld Z h0 a "org/wayfold/search/Steps" "arcsRead" "J" (.long ar)) (pr5 : Fld Z h0 a "org/wayfold/search/Steps" "vertices" "[I" (.ref b1)) (pr6 : Fld Z h0 a "org/wayfold/search/Steps" "costs" "[D" (.ref b2)) (pr7 : Arv Z h0 b1 k1 .int (16 : Int32) vs d1) (pr8 : Arv Z h0 b2 k2 .double (16 : Int32) ds d2) (pr9 : n0 ≤ a) (pr10 : n0 ≤ b1) (pr11 : n0 ≤ b2) (pr12 : a ≠ b1) (pr13 : a ≠ b2) (pr14 : b1 ≠ b2) (pr15 : vs.length = 16) (pr16 : ds.length = 16) (pr17 : vs.getD (0 : Int32).toNatClampNeg d1 = .int y0) (pr18 : ¬ y0 = v) (pr19 : vs.getD (1 : Int32).toNatClampNeg d1 = .int y1) (pr20 : ¬ y1 = v) :
    MetFree l (⟨"org/wayfold/search/Steps", "merge", "(ID)V"⟩ : MethodName) (head1 (Jvm.Cond.code (⟨"org/wayfold/search/Steps", "merge", "(ID)V"⟩ : MethodName) prog_104_method_8_code 7 none :: ws) ({ frames := 1, cells := 0, slots := 0, locals := 15 } : Room)) (fun aX uX => aX = #[(.ref a), (.int v), (.double x)] ∧ Z.Warmed39 uX.vm ∧ uX.heap = h0) (fun _ _ _ _ _ => True) (fun _ uX oX wX => ∃ vX lX, oX = .returned vX ∧ Q16 Z a v x ar sn b1 k1 vs d1 b2 k2 ds d2 y0 y1 h0 n0 vX wX.heap lX ∧ FrameEnd uX oX wX lX ({ frames := 1, cells := 0, slots := 0, locals := 15 } : Room).cells ({ frames := 1, cells := 0, slots := 0, locals := 15 } : Room).slots) := by
  refine MetFree.of_bodySF (plainFor_of_name pn_0) hisR ?_
  intro p e s m args below meth c s₁ Bd hml0 hP hK
  obtain ⟨rfl, hZ, hh⟩ := hP
  have hx := Bd.exec
  have hby := Bd.bytes
  have hml : c.maxLocals = 7 := hml0
  have hown : s.vm.findClass "org/wayfold/search/Steps" = some m.cls := findClass_of_methodNamed Bd.named
  have hnm := (name_of_methodNamed Bd.named Bd.method).1
  have X0 : Stand p l e ({ frames := 1, cells := 0, slots := 0, locals := 15 } : Room) s m #[(.ref a), (.int v), (.double x)] below meth c s₁ [] 0 0 := Stand.of_body Bd
  have e0 : s₁.heap = h0 := by rw [← hh, Bd.state]; rfl
  have N0 := Fr.nil n0
  have pre0 : ∀ t, Steps p.tables e below (s₁.setTop (mkF m 0 #[.val (.ref a), .val (.int v), .val (.double x), .second, .unset, .unset, .unset] [])) t → Steps p.tables e below (s₁.setTop (entryFrame m #[(.ref a), (.int v), (.double x)] 7)) t := fun t k => castTop (ef_16 m a v x) k
  obtain ⟨T1, X1, e1, st1⟩ := getF X0 hx hZ hown (host := "") (Or.inl (hw _ (List.mem_of_getElem? (i := 31) rfl))) Via.refl e0 pr1 (g := (mkF m 6 #[.val (.ref a), .val (.int v), .val (.double x), .second, .val (.long (((1 : Int64) <<< (v &&& 0x3f).toInt64))), .second, .unset] [(.ref a)])) rfl rfl (hb hby d16_6)
  obtain ⟨T2, X2, e2, st2⟩ := getF X1 hx hZ hown (host := "") (Or.inl (hw _ (List.mem_of_getElem? (i := 35) rfl))) Via.refl e1 pr3 (g := (mkF m 13 #[.val (.ref a), .val (.int v), .val (.double x), .second, .val (.long (((1 : Int64) <<< (v &&& 0x3f).toInt64))), .second, .unset] [(.ref a)])) rfl rfl (hb hby d16_13)
  have P3 : ∀ t, Steps p.tables e below (T2.setTop (mkF m 21 #[.val (.ref a), .val (.int v), .val (.double x), .second, .val (.long (((1 : Int64) <<< (v &&& 0x3f).toInt64))), .second, .unset] [(.int (XT.cmpL (sn &&& (((1 : Int64) <<< (v &&& 0x3f).toInt64))) (0 : Int64)))])) t → Steps p.tables e below (s₁.setTop (entryFrame m #[(.ref a), (.int v), (.double x)] 7)) t := by
    intro t kk
    refine pre0 _ ?_
    show Steps p.tables e below (s₁.setTop (mkF m 0 #[.val (.ref a), .val (.int v), .val (.double x), .second, .unset, .unset, .unset] [])) _
    refine XS.lconst X0.here hx rfl (hb hby d16_0) ?_
    show Steps p.tables e below (s₁.setTop (mkF m 1 #[.val (.ref a), .val (.int v), .val (.double x), .second, .unset, .unset, .unset] [(.long (1 : Int64))])) _
    refine XS.iloadN X0.here hx rfl (hb hby d16_1) rfl ?_
    show Steps p.tables e below (s₁.setTop (mkF m 2 #[.val (.ref a), .val (.int v), .val (.double x), .second, .unset, .unset, .unset] [(.int v), (.long (1 : Int64))])) _
    refine XS.lshl X0.here hx rfl (hb hby d16_2) rfl ?_
    show Steps p.tables e below (s₁.setTop (mkF m 3 #[.val (.ref a), .val (.int v), .val (.double x), .second, .unset, .unset, .unset] [(.long (((1 : Int64) <<< (v &&& 0x3f).toInt64)))])) _
    refine XS.lstore X0.here hx rfl (hb hby d16_3) rfl (l' := #[.val (.ref a), .val (.int v), .val (.double x), .second, .val (.long (((1 : Int64) <<< (v &&& 0x3f).toInt64))), .second, .unset]) rfl ?_
    show Steps p.tables e below (s₁.setTop (mkF m 5 #[.val (.ref a), .val (.int v), .val (.double x), .second, .val (.long (((1 : Int64) <<< (v &&& 0x3f).toInt64))), .second, .unset] [])) _
    refine XS.aloadN X0.here hx rfl (hb hby d16_5) rfl rfl ?_
    show Steps p.tables e below (s₁.setTop (mkF m 6 #[.val (.ref a), .val (.int v), .val (.double x), .second, .val (.long (((1 : Int64) <<< (v &&& 0x3f).toInt64))), .second, .unset] [(.ref a)])) _
    refine st1 _ ?_
    show Steps p.tables e below (T1.setTop (mkF m 9 #[.val (.ref a), .val (.int v), .val (.double x), .second, .val (.long (((1 : Int64) <<< (v &&& 0x3f).toInt64))), .second, .unset] [(.int (0 : Int32))])) _
    refine XS.ifNo X1.here hx rfl (hb hby d16_9) rfl (XT.i0_ne_f rfl) ?_
    show Steps p.tables e below (T1.setTop (mkF m 12 #[.val (.ref a), .val (.int v), .val (.double x), .second, .val (.long (((1 : Int64) <<< (v &&& 0x3f).toInt64))), .second, .unset] [])) _
    refine XS.aloadN X1.here hx rfl (hb hby d16_12) rfl rfl ?_
    show Steps p.tables e below (T1.setTop (mkF m 13 #[.val (.ref a), .val (.int v), .val (.double x), .second, .val (.long (((1 : Int64) <<< (v &&& 0x3f).toInt64))), .second, .unset] [(.ref a)])) _
    refine st2 _ ?_
    show Steps p.tables e below (T2.setTop (mkF m 16 #[.val (.ref a), .val (.int v), .val (.double x), .second, .val (.long (((1 : Int64) <<< (v &&& 0x3f).toInt64))), .second, .unset] [(.long sn)])) _
    refine XS.lload X2.here hx rfl (hb hby d16_16) rfl ?_
    show Steps p.tables e below (T2.setTop (mkF m 18 #[.val (.ref a), .val (.int v), .val (.double x), .second, .val (.long (((1 : Int64) <<< (v &&& 0x3f).toInt64))), .second, .unset] [(.long (((1 : Int64) <<< (v &&& 0x3f).toInt64))), (.long sn)])) _
    refine XS.land X2.here hx rfl (hb hby d16_18) rfl ?_
    show Steps p.tables e below (T2.setTop (mkF m 19 #[.val (.ref a), .val (.int v), .val (.double x), .second, .val (.long (((1 : Int64) <<< (v &&& 0x3f).toInt64))), .second, .unset] [(.long (sn &&& (((1 : Int64) <<< (v &&& 0x3f).toInt64))))])) _
    refine XS.lconst X2.here hx rfl (hb hby d16_19) ?_
    show Steps p.tables e below (T2.setTop (mkF m 20 #[.val (.ref a), .val (.int v), .val (.double x), .second, .val (.long (((1 : Int64) <<< (v &&& 0x3f).toInt64))), .second, .unset] [(.long (0 : Int64)), (.long (sn &&& (((1 : Int64) <<< (v &&& 0x3f).toInt64))))])) _
    refine XT.lcmp X2.here hx rfl (hb hby d16_20) rfl ?_
    show Steps p.tables e below (T2.setTop (mkF m 21 #[.val (.ref a), .val (.int v), .val (.double x), .second, .val (.long (((1 : Int64) <<< (v &&& 0x3f).toInt64))), .second, .unset] [(.int (XT.cmpL (sn &&& (((1 : Int64) <<< (v &&& 0x3f).toInt64))) (0 : Int64)))])) _
    exact kk
  by_cases c4 : (sn &&& (((1 : Int64) <<< (v &&& 0x3f).toInt64))) = (0 : Int64)
  · skip
    obtain ⟨T5, X5, e5, st5⟩ := getF X2 hx hZ hown (host := "") (Or.inl (hw _ (List.mem_of_getElem? (i := 35) rfl))) Via.refl e2 pr3 (g := (mkF m 37 #[.val (.ref a), .val (.int v), .val (.double x), .second, .val (.long (((1 : Int64) <<< (v &&& 0x3f).toInt64))), .second, .val (.int (-1 : Int32))] [(.ref a), (.ref a)])) rfl rfl (hb hby d16_37)
    obtain ⟨T6, h6, X6, e6, W6, st6⟩ := putF X5 hx hZ hown (host := "") (Or.inl (hw _ (List.mem_of_getElem? (i := 35) rfl))) Via.refl e5 pr3 pr0 (Or.inl (hw _ (List.mem_of_getElem? (i := 36) rfl))) (hw _ (List.mem_of_getElem? (i := 1) rfl)) (ty := .long) (by decide) rfl rfl (g := (mkF m 43 #[.val (.ref a), .val (.int v), .val (.double x), .second, .val (.long (((1 : Int64) <<< (v &&& 0x3f).toInt64))), .second, .val (.int (-1 : Int32))] [(.long (sn ||| (((1 : Int64) <<< (v &&& 0x3f).toInt64)))), (.ref a)])) rfl rfl (hb hby d16_43)
    have N6 := Fr.snoc X6 N0 pr9
    have Fw6 := Fld.same W6 pr3
    have f7 := (Fld.other W6 pr2 (Or.inr (slot_ne (Or.inl (hw _ (List.mem_of_getElem? (i := 34) rfl))) (Or.inl (hw _ (List.mem_of_getElem? (i := 36) rfl))) (by decide) (t := .int) (t' := .long) (by decide) (by decide))))
    obtain ⟨T8, X8, e8, st8⟩ := getF X6 hx hZ hown (host := "") (Or.inl (hw _ (List.mem_of_getElem? (i := 33) rfl))) Via.refl e6 f7 (g := (mkF m 71 #[.val (.ref a), .val (.int v), .val (.double x), .second, .val (.long (((1 : Int64) <<< (v &&& 0x3f).toInt64))), .second, .val (.int (-1 : Int32))] [(.ref a)])) rfl rfl (hb hby d16_71)
    have f9 := (Fld.other W6 pr5 (Or.inr (slot_ne (Or.inl (hw _ (List.mem_of_getElem? (i := 11) rfl))) (Or.inl (hw _ (List.mem_of_getElem? (i := 36) rfl))) (by decide) (t := (.array .int)) (t' := .long) (by decide) (by decide))))
    obtain ⟨T10, X10, e10, st10⟩ := getF X8 hx hZ hown (host := "") (Or.inl (hw _ (List.mem_of_getElem? (i := 10) rfl))) Via.refl e8 f9 (g := (mkF m 75 #[.val (.ref a), .val (.int v), .val (.double x), .second, .val (.long (((1 : Int64) <<< (v &&& 0x3f).toInt64))), .second, .val (.int (-1 : Int32))] [(.ref a), (.int (2 : Int32))])) rfl rfl (hb hby d16_75)
    have f11 := (pr7.other W6 (Ne.symm pr12))
    obtain ⟨cl_a12, Ar_a12, q_a12, S_a12, N_a12, H_a12, G_a12⟩ := id f11
    obtain ⟨T13, X13, e13, st13⟩ := getF X10 hx hZ hown (host := "") (Or.inl (hw _ (List.mem_of_getElem? (i := 10) rfl))) Via.refl e10 f9 (g := (mkF m 87 #[.val (.ref a), .val (.int v), .val (.double x), .second, .val (.long (((1 : Int64) <<< (v &&& 0x3f).toInt64))), .second, .val (.int (-1 : Int32))] [(.ref a)])) rfl rfl (hb hby d16_87)
    obtain ⟨T14, X14, e14, st14⟩ := getF X13 hx hZ hown (host := "") (Or.inl (hw _ (List.mem_of_getElem? (i := 33) rfl))) Via.refl e13 f7 (g := (mkF m 91 #[.val (.ref a), .val (.int v), .val (.double x), .second, .val (.long (((1 : Int64) <<< (v &&& 0x3f).toInt64))), .second, .val (.int (-1 : Int32))] [(.ref a), (.ref b1)])) rfl rfl (hb hby d16_91)
    obtain ⟨cl_a15, Ar_a15, q_a15, S_a15, N_a15, H_a15, G_a15⟩ := id f11
    have hin_a15 : ¬ ((2 : Int32) < 0 ∨ cl_a15.slots.size ≤ ((2 : Int32)).toNatClampNeg) := inb_of S_a15 ⟨by decide, by decide⟩
    obtain ⟨T16, h16, X16, e16, W16, st16⟩ := stI X14 hx hZ e14 Ar_a15 (j := (2 : Int32)) hin_a15 (g := (mkF m 95 #[.val (.ref a), .val (.int v), .val (.double x), .second, .val (.long (((1 : Int64) <<< (v &&& 0x3f).toInt64))), .second, .val (.int (-1 : Int32))] [(.int v), (.int (2 : Int32)), (.ref b1)])) rfl rfl (hb hby d16_95)
    have V16 : Arv Z h16 b1 k1 .int (16 : Int32) (vs.set 2 (.int v)) d1 := Arv.set Ar_a15 q_a15 S_a15 N_a15 H_a15 G_a15 rfl W16 2 rfl (by rw [pr15]; decide)
    have N16 := Fr.snoc X16 N6 pr10
    have f17 := (Fld.other W16 (Fld.other W6 pr6 (Or.inr (slot_ne (Or.inl (hw _ (List.mem_of_getElem? (i := 14) rfl))) (Or.inl (hw _ (List.mem_of_getElem? (i := 36) rfl))) (by decide) (t := (.array .double)) (t' := .long) (by decide) (by decide)))) (Or.inl pr12))
    obtain ⟨T18, X18, e18, st18⟩ := getF X16 hx hZ hown (host := "") (Or.inl (hw _ (List.mem_of_getElem? (i := 13) rfl))) Via.refl e16 f17 (g := (mkF m 97 #[.val (.ref a), .val (.int v), .val (.double x), .second, .val (.long (((1 : Int64) <<< (v &&& 0x3f).toInt64))), .second, .val (.int (-1 : Int32))] [(.ref a)])) rfl rfl (hb hby d16_97)
    have f19 := (Fld.other W16 f7 (Or.inl pr12))
    obtain ⟨T20, X20, e20, st20⟩ := getF X18 hx hZ hown (host := "") (Or.inl (hw _ (List.mem_of_getElem? (i := 33) rfl))) Via.refl e18 f19 (g := (mkF m 101 #[.val (.ref a), .val (.int v), .val (.double x), .second, .val (.long (((1 : Int64) <<< (v &&& 0x3f).toInt64))), .second, .val (.int (-1 : Int32))] [(.ref a), (.ref b2)])) rfl rfl (hb hby d16_101)
    have f21 := ((pr8.other W6 (Ne.symm pr13)).other W16 (Ne.symm pr14))
    obtain ⟨cl_a22, Ar_a22, q_a22, S_a22, N_a22, H_a22, G_a22⟩ := id f21
    have hin_a22 : ¬ ((2 : Int32) < 0 ∨ cl_a22.slots.size ≤ ((2 : Int32)).toNatClampNeg) := inb_of S_a22 ⟨by decide, by decide⟩
    obtain ⟨T23, h23, X23, e23, W23, st23⟩ := stD X20 hx hZ e20 Ar_a22 (j := (2 : Int32)) hin_a22 (g := (mkF m 105 #[.val (.ref a), .val (.int v), .val (.double x), .second, .val (.long (((1 : Int64) <<< (v &&& 0x3f).toInt64))), .second, .val (.int (-1 : Int32))] [(.double x), (.int (2 : Int32)), (.ref b2)])) rfl rfl (hb hby d16_105)
    have V23 : Arv Z h23 b2 k2 .double (16 : Int32) (ds.set 2 (.double x)) d2 := Arv.set Ar_a22 q_a22 S_a22 N_a22 H_a22 G_a22 rfl W23 2 rfl (by rw [pr16]; decide)
    have N23 := Fr.snoc X23 N16 pr11
    have P24 : ∀ t, Steps p.tables e below (T23.setTop (mkF m 107 #[.val (.ref a), .val (.int v), .val (.double x), .second, .val (.long (((1 : Int64) <<< (v &&& 0x3f).toInt64))), .second, .val (.int (-1 : Int32))] [(.ref a)])) t → Steps p.tables e below (s₁.setTop (entryFrame m #[(.ref a), (.int v), (.double x)] 7)) t := by
      intro t kk
      refine P3 _ ?_
      show Steps p.tables e below (T2.setTop (mkF m 21 #[.val (.ref a), .val (.int v), .val (.double x), .second, .val (.long (((1 : Int64) <<< (v &&& 0x3f).toInt64))), .second, .unset] [(.int (XT.cmpL (sn &&& (((1 : Int64) <<< (v &&& 0x3f).toInt64))) (0 : Int64)))])) _
      refine XS.ifYes X2.here hx rfl (pc0 := 21) (pc' := 32) rfl (hb hby d16_21) rfl (XT.ll_eq_t c4) (by decide) (by decide) ?_
      show Steps p.tables e below (T2.setTop (mkF m 32 #[.val (.ref a), .val (.int v), .val (.double x), .second, .val (.long (((1 : Int64) <<< (v &&& 0x3f).toInt64))), .second, .unset] [])) _
      refine XT.iconstV X2.here hx rfl (-1 : Int32) (hb hby d16_32) (by decide) ?_
      show Steps p.tables e below (T2.setTop (mkF m 33 #[.val (.ref a), .val (.int v), .val (.double x), .second, .val (.long (((1 : Int64) <<< (v &&& 0x3f).toInt64))), .second, .unset] [(.int (-1 : Int32))])) _
      refine XS.istore X2.here hx rfl (hb hby d16_33) rfl (l' := #[.val (.ref a), .val (.int v), .val (.double x), .second, .val (.long (((1 : Int64) <<< (v &&& 0x3f).toInt64))), .second, .val (.int (-1 : Int32))]) rfl ?_
      show Steps p.tables e below (T2.setTop (mkF m 35 #[.val (.ref a), .val (.int v), .val (.double x), .second, .val (.long (((1 : Int64) <<< (v &&& 0x3f).toInt64))), .second, .val (.int (-1 : Int32))] [])) _
      refine XS.aloadN X2.here hx rfl (hb hby d16_35) rfl rfl ?_
      show Steps p.tables e below (T2.setTop (mkF m 36 #[.val (.ref a), .val (.int v), .val (.double x), .second, .val (.long (((1 : Int64) <<< (v &&& 0x3f).toInt64))), .second, .val (.int (-1 : Int32))] [(.ref a)])) _
      refine XS.dup X2.here hx rfl (hb hby d16_36) rfl rfl ?_
      show Steps p.tables e below (T2.setTop (mkF m 37 #[.val (.ref a), .val (.int v), .val (.double x), .second, .val (.long (((1 : Int64) <<< (v &&& 0x3f).toInt64))), .second, .val (.int (-1 : Int32))] [(.ref a), (.ref a)])) _
      refine st5 _ ?_
      show Steps p.tables e below (T5.setTop (mkF m 40 #[.val (.ref a), .val (.int v), .val (.double x), .second, .val (.long (((1 : Int64) <<< (v &&& 0x3f).toInt64))), .second, .val (.int (-1 : Int32))] [(.long sn), (.ref a)])) _
      refine XS.lload X5.here hx rfl (hb hby d16_40) rfl ?_
      show Steps p.tables e below (T5.setTop (mkF m 42 #[.val (.ref a), .val (.int v), .val (.double x), .second, .val (.long (((1 : Int64) <<< (v &&& 0x3f).toInt64))), .second, .val (.int (-1 : Int32))] [(.long (((1 : Int64) <<< (v &&& 0x3f).toInt64))), (.long sn), (.ref a)])) _
      refine XS.lor X5.here hx rfl (hb hby d16_42) rfl ?_
      show Steps p.tables e below (T5.setTop (mkF m 43 #[.val (.ref a), .val (.int v), .val (.double x), .second, .val (.long (((1 : Int64) <<< (v &&& 0x3f).toInt64))), .second, .val (.int (-1 : Int32))] [(.long (sn ||| (((1 : Int64) <<< (v &&& 0x3f).toInt64)))), (.ref a)])) _
      refine st6 _ ?_
      show Steps p.tables e below (T6.setTop (mkF m 46 #[.val (.ref a), .val (.int v), .val (.double x), .second, .val (.long (((1 : Int64) <<< (v &&& 0x3f).toInt64))), .second, .val (.int (-1 : Int32))] [])) _
      refine XS.iload X6.here hx rfl (hb hby d16_46) rfl ?_
      show Steps p.tables e below (T6.setTop (mkF m 48 #[.val (.ref a), .val (.int v), .val (.double x), .second, .val (.long (((1 : Int64) <<< (v &&& 0x3f).toInt64))), .second, .val (.int (-1 : Int32))] [(.int (-1 : Int32))])) _
      refine XS.ifYes X6.here hx rfl (pc0 := 48) (pc' := 70) rfl (hb hby d16_48) rfl (XT.i0_lt_t (by decide)) (by decide) (by decide) ?_
      show Steps p.tables e below (T6.setTop (mkF m 70 #[.val (.ref a), .val (.int v), .val (.double x), .second, .val (.long (((1 : Int64) <<< (v &&& 0x3f).toInt64))), .second, .val (.int (-1 : Int32))] [])) _
      refine XS.aloadN X6.here hx rfl (hb hby d16_70) rfl rfl ?_
      show Steps p.tables e below (T6.setTop (mkF m 71 #[.val (.ref a), .val (.int v), .val (.double x), .second, .val (.long (((1 : Int64) <<< (v &&& 0x3f).toInt64))), .second, .val (.int (-1 : Int32))] [(.ref a)])) _
      refine st8 _ ?_
      show Steps p.tables e below (T8.setTop (mkF m 74 #[.val (.ref a), .val (.int v), .val (.double x), .second, .val (.long (((1 : Int64) <<< (v &&& 0x3f).toInt64))), .second, .val (.int (-1 : Int32))] [(.int (2 : Int32))])) _
      refine XS.aloadN X8.here hx rfl (hb hby d16_74) rfl rfl ?_
      show Steps p.tables e below (T8.setTop (mkF m 75 #[.val (.ref a), .val (.int v), .val (.double x), .second, .val (.long (((1 : Int64) <<< (v &&& 0x3f).toInt64))), .second, .val (.int (-1 : Int32))] [(.ref a), (.int (2 : Int32))])) _
      refine st10 _ ?_
      show Steps p.tables e below (T10.setTop (mkF m 78 #[.val (.ref a), .val (.int v), .val (.double x), .second, .val (.long (((1 : Int64) <<< (v &&& 0x3f).toInt64))), .second, .val (.int (-1 : Int32))] [(.ref b1), (.int (2 : Int32))])) _
      refine X10.arraylength hx (by rw [e10]; exact Ar_a12.1) (State.isArrayOf_alike hZ.alike Ar_a12.2.1) (g := (mkF m 78 #[.val (.ref a), .val (.int v), .val (.double x), .second, .val (.long (((1 : Int64) <<< (v &&& 0x3f).toInt64))), .second, .val (.int (-1 : Int32))] [(.ref b1), (.int (2 : Int32))])) rfl rfl (hb hby d16_78) _ ?_
      rw [len_of S_a12 N_a12]
      show Steps p.tables e below (T10.setTop (mkF m 79 #[.val (.ref a), .val (.int v), .val (.double x), .second, .val (.long (((1 : Int64) <<< (v &&& 0x3f).toInt64))), .second, .val (.int (-1 : Int32))] [(.int (16 : Int32)), (.int (2 : Int32))])) _
      refine XS.icmpYes X10.here hx rfl (pc0 := 79) (pc' := 86) rfl (hb hby d16_79) rfl (XT.ii_ne_t (by decide)) (by decide) (by decide) ?_
      show Steps p.tables e below (T10.setTop (mkF m 86 #[.val (.ref a), .val (.int v), .val (.double x), .second, .val (.long (((1 : Int64) <<< (v &&& 0x3f).toInt64))), .second, .val (.int (-1 : Int32))] [])) _
      refine XS.aloadN X10.here hx rfl (hb hby d16_86) rfl rfl ?_
      show Steps p.tables e below (T10.setTop (mkF m 87 #[.val (.ref a), .val (.int v), .val (.double x), .second, .val (.long (((1 : Int64) <<< (v &&& 0x3f).toInt64))), .second, .val (.int (-1 : Int32))] [(.ref a)])) _
      refine st13 _ ?_
      show Steps p.tables e below (T13.setTop (mkF m 90 #[.val (.ref a), .val (.int v), .val (.double x), .second, .val (.long (((1 : Int64) <<< (v &&& 0x3f).toInt64))), .second, .val (.int (-1 : Int32))] [(.ref b1)])) _
      refine XS.aloadN X13.here hx rfl (hb hby d16_90) rfl rfl ?_
      show Steps p.tables e below (T13.setTop (mkF m 91 #[.val (.ref a), .val (.int v), .val (.double x), .second, .val (.long (((1 : Int64) <<< (v &&& 0x3f).toInt64))), .second, .val (.int (-1 : Int32))] [(.ref a), (.ref b1)])) _
      refine st14 _ ?_
      show Steps p.tables e below (T14.setTop (mkF m 94 #[.val (.ref a), .val (.int v), .val (.double x), .second, .val (.long (((1 : Int64) <<< (v &&& 0x3f).toInt64))), .second, .val (.int (-1 : Int32))] [(.int (2 : Int32)), (.ref b1)])) _
      refine XS.iloadN X14.here hx rfl (hb hby d16_94) rfl ?_
      show Steps p.tables e below (T14.setTop (mkF m 95 #[.val (.ref a), .val (.int v), .val (.double x), .second, .val (.long (((1 : Int64) <<< (v &&& 0x3f).toInt64))), .second, .val (.int (-1 : Int32))] [(.int v), (.int (2 : Int32)), (.ref b1)])) _
      refine st16 _ ?_
      show Steps p.tables e below (T16.setTop (mkF m 96 #[.val (.ref a), .val (.int v), .val (.double x), .second, .val (.long (((1 : Int64) <<< (v &&& 0x3f).toInt64))), .second, .val (.int (-1 : Int32))] [])) _
      refine XS.aloadN X16.here hx rfl (hb hby d16_96) rfl rfl ?_
      show Steps p.tables e below (T16.setTop (mkF m 97 #[.val (.ref a), .val (.int v), .val (.double x), .second, .val (.long (((1 : Int64) <<< (v &&& 0x3f).toInt64))), .second, .val (.int (-1 : Int32))] [(.ref a)])) _
      refine st18 _ ?_
      show Steps p.tables e below (T18.setTop (mkF m 100 #[.val (.ref a), .val (.int v), .val (.double x), .second, .val (.long (((1 : Int64) <<< (v &&& 0x3f).toInt64))), .second, .val (.int (-1 : Int32))] [(.ref b2)])) _
      refine XS.aloadN X18.here hx rfl (hb hby d16_100) rfl rfl ?_
      show Steps p.tables e below (T18.setTop (mkF m 101 #[.val (.ref a), .val (.int v), .val (.double x), .second, .val (.long (((1 : Int64) <<< (v &&& 0x3f).toInt64))), .second, .val (.int (-1 : Int32))] [(.ref a), (.ref b2)])) _
      refine st20 _ ?_
      show Steps p.tables e below (T20.setTop (mkF m 104 #[.val (.ref a), .val (.int v), .val (.double x), .second, .val (.long (((1 : Int64) <<< (v &&& 0x3f).toInt64))), .second, .val (.int (-1 : Int32))] [(.int (2 : Int32)), (.ref b2)])) _
      refine XS.dloadN X20.here hx rfl (hb hby d16_104) rfl ?_
      show Steps p.tables e below (T20.setTop (mkF m 105 #[.val (.ref a), .val (.int v), .val (.double x), .second, .val (.long (((1 : Int64) <<< (v &&& 0x3f).toInt64))), .second, .val (.int (-1 : Int32))] [(.double x), (.int (2 : Int32)), (.ref b2)])) _
      refine st23 _ ?_
      show Steps p.tables e below (T23.setTop (mkF m 106 #[.val (.ref a), .val (.int v), .val (.double x), .second, .val (.long (((1 : Int64) <<< (v &&& 0x3f).toInt64))), .second, .val (.int (-1 : Int32))] [])) _
      refine XS.aloadN X23.here hx rfl (hb hby d16_106) rfl rfl ?_
      show Steps p.tables e below (T23.setTop (mkF m 107 #[.val (.ref a), .val (.int v), .val (.double x), .second, .val (.long (((1 : Int64) <<< (v &&& 0x3f).toInt64))), .second, .val (.int (-1 : Int32))] [(.ref a)])) _
      exact kk
    have f25 := (Fld.other W23 f19 (Or.inl pr13))
    obtain ⟨T26, X26, e26, st26⟩ := getF X23 hx hZ hown (host := "") (Or.inl (hw _ (List.mem_of_getElem? (i := 33) rfl))) Via.refl e23 f25 (g := (mkF m 108 #[.val (.ref a), .val (.int v), .val (.double x), .second, .val (.long (((1 : Int64) <<< (v &&& 0x3f).toInt64))), .second, .val (.int (-1 : Int32))] [(.ref a), (.ref a)])) rfl rfl (hb hby d16_108)
    have f27 := (Exa.wr W23 (Exa.wr W16 (Exa.wr W6 pr0)))
    obtain ⟨T28, h28, X28, e28, W28, st28⟩ := putF X26 hx hZ hown (host := "") (Or.inl (hw _ (List.mem_of_getElem? (i := 33) rfl))) Via.refl e26 f25 f27 (Or.inl (hw _ (List.mem_of_getElem? (i := 34) rfl))) (hw _ (List.mem_of_getElem? (i := 1) rfl)) (ty := .int) (by decide) rfl rfl (g := (mkF m 113 #[.val (.ref a), .val (.int v), .val (.double x), .second, .val (.long (((1 : Int64) <<< (v &&& 0x3f).toInt64))), .second, .val (.int (-1 : Int32))] [(.int (3 : Int32)), (.ref a)])) rfl rfl (hb hby d16_113)
    have N28 := Fr.snoc X28 N23 pr9
    have Fw28 := Fld.same W28 f25
    have f29 := (Fld.other W28 (Fld.other W23 (Fld.other W16 (Fld.other W6 pr1 (Or.inr (slot_ne (Or.inl (hw _ (List.mem_of_getElem? (i := 32) rfl))) (Or.inl (hw _ (List.mem_of_getElem? (i := 36) rfl))) (by decide) (t := .boolean) (t' := .long) (by decide) (by decide)))) (Or.inl pr12)) (Or.inl pr13)) (Or.inr (slot_ne (Or.inl (hw _ (List.mem_of_getElem? (i := 32) rfl))) (Or.inl (hw _ (List.mem_of_getElem? (i := 34) rfl))) (by decide) (t := .boolean) (t' := .int) (by decide) (by decide))))
    obtain ⟨T30, X30, e30, st30⟩ := getF X28 hx hZ hown (host := "") (Or.inl (hw _ (List.mem_of_getElem? (i := 31) rfl))) Via.refl e28 f29 (g := (mkF m 117 #[.val (.ref a), .val (.int v), .val (.double x), .second, .val (.long (((1 : Int64) <<< (v &&& 0x3f).toInt64))), .second, .val (.int (-1 : Int32))] [(.ref a)])) rfl rfl (hb hby d16_117)
    obtain ⟨T31, X31, e31, st31⟩ := getF X30 hx hZ hown (host := "") (Or.inl (hw _ (List.mem_of_getElem? (i := 33) rfl))) Via.refl e30 Fw28 (g := (mkF m 137 #[.val (.ref a), .val (.int v), .val (.double x), .second, .val (.long (((1 : Int64) <<< (v &&& 0x3f).toInt64))), .second, .val (.int (-1 : Int32))] [(.ref a)])) rfl rfl (hb hby d16_137)
    have P32 : ∀ t, Steps p.tables e below (T31.setTop (mkF m 149 #[.val (.ref a), .val (.int v), .val (.double x), .second, .val (.long (((1 : Int64) <<< (v &&& 0x3f).toInt64))), .second, .val (.int (-1 : Int32))] [])) t → Steps p.tables e below (s₁.setTop (entryFrame m #[(.ref a), (.int v), (.double x)] 7)) t := by
      intro t kk
      refine P24 _ ?_
      show Steps p.tables e below (T23.setTop (mkF m 107 #[.val (.ref a), .val (.int v), .val (.double x), .second, .val (.long (((1 : Int64) <<< (v &&& 0x3f).toInt64))), .second, .val (.int (-1 : Int32))] [(.ref a)])) _
      refine XS.dup X23.here hx rfl (hb hby d16_107) rfl rfl ?_
      show Steps p.tables e below (T23.setTop (mkF m 108 #[.val (.ref a), .val (.int v), .val (.double x), .second, .val (.long (((1 : Int64) <<< (v &&& 0x3f).toInt64))), .second, .val (.int (-1 : Int32))] [(.ref a), (.ref a)])) _
      refine st26 _ ?_
      show Steps p.tables e below (T26.setTop (mkF m 111 #[.val (.ref a), .val (.int v), .val (.double x), .second, .val (.long (((1 : Int64) <<< (v &&& 0x3f).toInt64))), .second, .val (.int (-1 : Int32))] [(.int (2 : Int32)), (.ref a)])) _
      refine XS.iconst X26.here hx rfl (hb hby d16_111) ?_
      show Steps p.tables e below (T26.setTop (mkF m 112 #[.val (.ref a), .val (.int v), .val (.double x), .second, .val (.long (((1 : Int64) <<< (v &&& 0x3f).toInt64))), .second, .val (.int (-1 : Int32))] [(.int (1 : Int32)), (.int (2 : Int32)), (.ref a)])) _
      refine XS.iadd X26.here hx rfl (hb hby d16_112) rfl ?_
      show Steps p.tables e below (T26.setTop (mkF m 113 #[.val (.ref a), .val (.int v), .val (.double x), .second, .val (.long (((1 : Int64) <<< (v &&& 0x3f).toInt64))), .second, .val (.int (-1 : Int32))] [(.int (3 : Int32)), (.ref a)])) _
      refine st28 _ ?_
      show Steps p.tables e below (T28.setTop (mkF m 116 #[.val (.ref a), .val (.int v), .val (.double x), .second, .val (.long (((1 : Int64) <<< (v &&& 0x3f).toInt64))), .second, .val (.int (-1 : Int32))] [])) _
      refine XS.aloadN X28.here hx rfl (hb hby d16_116) rfl rfl ?_
      show Steps p.tables e below (T28.setTop (mkF m 117 #[.val (.ref a), .val (.int v), .val (.double x), .second, .val (.long (((1 : Int64) <<< (v &&& 0x3f).toInt64))), .second, .val (.int (-1 : Int32))] [(.ref a)])) _
      refine st30 _ ?_
      show Steps p.tables e below (T30.setTop (mkF m 120 #[.val (.ref a), .val (.int v), .val (.double x), .second, .val (.long (((1 : Int64) <<< (v &&& 0x3f).toInt64))), .second, .val (.int (-1 : Int32))] [(.int (0 : Int32))])) _
      refine XS.ifYes X30.here hx rfl (pc0 := 120) (pc' := 136) rfl (hb hby d16_120) rfl (XT.i0_eq_t rfl) (by decide) (by decide) ?_
      show Steps p.tables e below (T30.setTop (mkF m 136 #[.val (.ref a), .val (.int v), .val (.double x), .second, .val (.long (((1 : Int64) <<< (v &&& 0x3f).toInt64))), .second, .val (.int (-1 : Int32))] [])) _
      refine XS.aloadN X30.here hx rfl (hb hby d16_136) rfl rfl ?_
      show Steps p.tables e below (T30.setTop (mkF m 137 #[.val (.ref a), .val (.int v), .val (.double x), .second, .val (.long (((1 : Int64) <<< (v &&& 0x3f).toInt64))), .second, .val (.int (-1 : Int32))] [(.ref a)])) _
      refine st31 _ ?_
      show Steps p.tables e below (T31.setTop (mkF m 140 #[.val (.ref a), .val (.int v), .val (.double x), .second, .val (.long (((1 : Int64) <<< (v &&& 0x3f).toInt64))), .second, .val (.int (-1 : Int32))] [(.int (3 : Int32))])) _
      refine XS.bipush X31.here hx rfl (hb hby d16_140) ?_
      show Steps p.tables e below (T31.setTop (mkF m 142 #[.val (.ref a), .val (.int v), .val (.double x), .second, .val (.long (((1 : Int64) <<< (v &&& 0x3f).toInt64))), .second, .val (.int (-1 : Int32))] [(.int (32 : Int32)), (.int (3 : Int32))])) _
      refine XS.icmpYes X31.here hx rfl (pc0 := 142) (pc' := 149) rfl (hb hby d16_142) rfl (XT.ii_le_t (by decide)) (by decide) (by decide) ?_
      show Steps p.tables e below (T31.setTop (mkF m 149 #[.val (.ref a), .val (.int v), .val (.double x), .second, .val (.long (((1 : Int64) <<< (v &&& 0x3f).toInt64))), .second, .val (.int (-1 : Int32))] [])) _
      exact kk
    have k33 : Keep h0 h28 [a, b1, b2] := (Keep.wr (Keep.wr (Keep.wr (Keep.wr (Keep.refl h0 [a, b1, b2]) W6 (Or.inl (List.mem_of_getElem? (i := 0) rfl))) W16 (Or.inl (List.mem_of_getElem? (i := 1) rfl))) W23 (Or.inl (List.mem_of_getElem? (i := 2) rfl))) W28 (Or.inl (List.mem_of_getElem? (i := 0) rfl)))
    have f34 := (Fld.other W28 (Fld.other W23 (Fld.other W16 Fw6 (Or.inl pr12)) (Or.inl pr13)) (Or.inr (slot_ne (Or.inl (hw _ (List.mem_of_getElem? (i := 36) rfl))) (Or.inl (hw _ (List.mem_of_getElem? (i := 34) rfl))) (by decide) (t := .long) (t' := .int) (by decide) (by decide))))
    have f35 := ((V16.other W23 pr14).other W28 (Ne.symm pr12))
    have f36 := (V23.other W28 (Ne.symm pr13))
    have f37 := (Fld.other W28 (Fld.other W23 (Fld.other W16 (Fld.other W6 pr4 (Or.inr (slot_ne (Or.inl (hw _ (List.mem_of_getElem? (i := 25) rfl))) (Or.inl (hw _ (List.mem_of_getElem? (i := 36) rfl))) (by decide) (t := .long) (t' := .long) (by decide) (by decide)))) (Or.inl pr12)) (Or.inl pr13)) (Or.inr (slot_ne (Or.inl (hw _ (List.mem_of_getElem? (i := 25) rfl))) (Or.inl (hw _ (List.mem_of_getElem? (i := 34) rfl))) (by decide) (t := .long) (t' := .int) (by decide) (by decide))))
    have f38 := (Fld.other W28 (Fld.other W23 (Fld.other W16 f9 (Or.inl pr12)) (Or.inl pr13)) (Or.inr (slot_ne (Or.inl (hw _ (List.mem_of_getElem? (i := 11) rfl))) (Or.inl (hw _ (List.mem_of_getElem? (i := 34) rfl))) (by decide) (t := (.array .int)) (t' := .int) (by decide) (by decide))))
    have f39 := (Fld.other W28 (Fld.other W23 f17 (Or.inl pr13)) (Or.inr (slot_ne (Or.inl (hw _ (List.mem_of_getElem? (i := 14) rfl))) (Or.inl (hw _ (List.mem_of_getElem? (i := 34) rfl))) (by decide) (t := (.array .double)) (t' := .int) (by decide) (by decide))))
    obtain ⟨fs, hr, hrun, hended, hW, hsame⟩ := X31.leave (v := none) (fun _ => rfl)
    refine ⟨_, _, P32 _ ?_, hrun, hended, _, _, rfl, ?_, ⟨_, rfl⟩, hW, hsame.mono (by decide) (by decide)⟩
    · exact X31.returnOut hx Bd.returns (hb hby d16_149) hr
    · show Q16 Z a v x ar sn b1 k1 vs d1 b2 k2 ds d2 y0 y1 h0 n0 _ T31.heap _
      rw [e31]
      exact ⟨rfl, N28, k33, Fw28, f34, f35, f36, f29, f37, f38, f39⟩
  · skip
    obtain ⟨cq40, q40, q40'⟩ := pr0.cell
    obtain ⟨_, _, ⟨T40, L40, k40, n40⟩, -, X40, ⟨Lc40, hQ40, l40, y40, z40⟩, st40⟩ := X2.privateBack hx (y := (⟨"org/wayfold/search/Steps", "find", "(I)I"⟩ : MethodName)) hown (mvT hZ (hw _ (List.mem_of_getElem? (i := 65) rfl))) (mvT hZ (hw _ (List.mem_of_getElem? (i := 66) rfl))) (own_selpriv (y := (⟨"org/wayfold/search/Steps", "find", "(I)I"⟩ : MethodName)) (y' := (⟨"org/wayfold/search/Steps", "arcsRead", "(J)V"⟩ : MethodName)) rfl (mvT hZ (hw _ (List.mem_of_getElem? (i := 22) rfl))) (Cond.privateMethod_at (mvP hZ (hw _ (List.mem_of_getElem? (i := 67) rfl)) (args := #[]))) (mvT hZ (hw _ (List.mem_of_getElem? (i := 66) rfl))) (by decide)) (Cond.privateMethod_at (mvP hZ (hw _ (List.mem_of_getElem? (i := 67) rfl)) (args := #[]))) (mvT hZ (hw _ (List.mem_of_getElem? (i := 68) rfl))) (by decide) (backOf (W := 0) (rm10 l Z a0 hw [] a v b1 k1 vs d1 y0 y1 h0 n0 Z0 pr0 pr1 pr2 pr5 pr7 pr17 pr18 pr19 pr20) hZ (hw _ (List.mem_of_getElem? (i := 68) rfl)) (hw _ (List.mem_of_getElem? (i := 2) rfl)) (by decide) (by decide)) (g := (mkF m 26 #[.val (.ref a), .val (.int v), .val (.double x), .second, .val (.long (((1 : Int64) <<< (v &&& 0x3f).toInt64))), .second, .unset] [(.int v), (.ref a)])) rfl (by rw [hml]; rfl) (Steps.refl _) (a := a) (by rw [e2]; exact q40) q40' (argsL := [(.int v)]) (rest := []) (lenOf pd_0 rfl) rfl (by show 2 * 0 + _ ≤ _; exact Nat.le_of_eq rfl) (hb hby d16_26) (fun _ _ => ⟨rfl, e2, (by decide : 0 + 0 ≤ _), (by decide : 0 + 0 ≤ _)⟩)
    dsimp only [Pt.U, Pt.locs, Pt.cells, Pt.slots] at X40 l40 y40 z40 st40 hQ40
    subst l40 y40 z40
    obtain ⟨rfl, Nq40, e40⟩ := hQ40
    have N40 := Fr.app N0 Nq40
    obtain ⟨T41, X41, e41, st41⟩ := getF X40 hx hZ hown (host := "") (Or.inl (hw _ (List.mem_of_getElem? (i := 35) rfl))) Via.refl e40 pr3 (g := (mkF m 37 #[.val (.ref a), .val (.int v), .val (.double x), .second, .val (.long (((1 : Int64) <<< (v &&& 0x3f).toInt64))), .second, .val (.int (-1 : Int32))] [(.ref a), (.ref a)])) rfl rfl (hb hby d16_37)
    obtain ⟨T42, h42, X42, e42, W42, st42⟩ := putF X41 hx hZ hown (host := "") (Or.inl (hw _ (List.mem_of_getElem? (i := 35) rfl))) Via.refl e41 pr3 pr0 (Or.inl (hw _ (List.mem_of_getElem? (i := 36) rfl))) (hw _ (List.mem_of_getElem? (i := 1) rfl)) (ty := .long) (by decide) rfl rfl (g := (mkF m 43 #[.val (.ref a), .val (.int v), .val (.double x), .second, .val (.long (((1 : Int64) <<< (v &&& 0x3f).toInt64))), .second, .val (.int (-1 : Int32))] [(.long (sn ||| (((1 : Int64) <<< (v &&& 0x3f).toInt64)))), (.ref a)])) rfl rfl (hb hby d16_43)
    have N42 := Fr.snoc X42 N40 pr9
    have Fw42 := Fld.same W42 pr3
    have f43 := (Fld.other W42 pr2 (Or.inr (slot_ne (Or.inl (hw _ (List.mem_of_getElem? (i := 34) rfl))) (Or.inl (hw _ (List.mem_of_getElem? (i := 36) rfl))) (by decide) (t := .int) (t' := .long) (by decide) (by decide))))
    obtain ⟨T44, X44, e44, st44⟩ := getF X42 hx hZ hown (host := "") (Or.inl (hw _ (List.mem_of_getElem? (i := 33) rfl))) Via.refl e42 f43 (g := (mkF m 71 #[.val (.ref a), .val (.int v), .val (.double x), .second, .val (.long (((1 : Int64) <<< (v &&& 0x3f).toInt64))), .second, .val (.int (-1 : Int32))] [(.ref a)])) rfl rfl (hb hby d16_71)
    have f45 := (Fld.other W42 pr5 (Or.inr (slot_ne (Or.inl (hw _ (List.mem_of_getElem? (i := 11) rfl))) (Or.inl (hw _ (List.mem_of_getElem? (i := 36) rfl))) (by decide) (t := (.array .int)) (t' := .long) (by decide) (by decide))))
    obtain ⟨T46, X46, e46, st46⟩ := getF X44 hx hZ hown (host := "") (Or.inl (hw _ (List.mem_of_getElem? (i := 10) rfl))) Via.refl e44 f45 (g := (mkF m 75 #[.val (.ref a), .val (.int v), .val (.double x), .second, .val (.long (((1 : Int64) <<< (v &&& 0x3f).toInt64))), .second, .val (.int (-1 : Int32))] [(.ref a), (.int (2 : Int32))])) rfl rfl (hb hby d16_75)
    have f47 := (pr7.other W42 (Ne.symm pr12))
    obtain ⟨cl_a48, Ar_a48, q_a48, S_a48, N_a48, H_a48, G_a48⟩ := id f47
    obtain ⟨T49, X49, e49, st49⟩ := getF X46 hx hZ hown (host := "") (Or.inl (hw _ (List.mem_of_getElem? (i := 10) rfl))) Via.refl e46 f45 (g := (mkF m 87 #[.val (.ref a), .val (.int v), .val (.double x), .second, .val (.long (((1 : Int64) <<< (v &&& 0x3f).toInt64))), .second, .val (.int (-1 : Int32))] [(.ref a)])) rfl rfl (hb hby d16_87)
    obtain ⟨T50, X50, e50, st50⟩ := getF X49 hx hZ hown (host := "") (Or.inl (hw _ (List.mem_of_getElem? (i := 33) rfl))) Via.refl e49 f43 (g := (mkF m 91 #[.val (.ref a), .val (.int v), .val (.double x), .second, .val (.long (((1 : Int64) <<< (v &&& 0x3f).toInt64))), .second, .val (.int (-1 : Int32))] [(.ref a), (.ref b1)])) rfl rfl (hb hby d16_91)
    obtain ⟨cl_a51, Ar_a51, q_a51, S_a51, N_a51, H_a51, G_a51⟩ := id f47
    have hin_a51 : ¬ ((2 : Int32) < 0 ∨ cl_a51.slots.size ≤ ((2 : Int32)).toNatClampNeg) := inb_of S_a51 ⟨by decide, by decide⟩
    obtain ⟨T52, h52, X52, e52, W52, st52⟩ := stI X50 hx hZ e50 Ar_a51 (j := (2 : Int32)) hin_a51 (g := (mkF m 95 #[.val (.ref a), .val (.int v), .val (.double x), .second, .val (.long (((1 : Int64) <<< (v &&& 0x3f).toInt64))), .second, .val (.int (-1 : Int32))] [(.int v), (.int (2 : Int32)), (.ref b1)])) rfl rfl (hb hby d16_95)
    have V52 : Arv Z h52 b1 k1 .int (16 : Int32) (vs.set 2 (.int v)) d1 := Arv.set Ar_a51 q_a51 S_a51 N_a51 H_a51 G_a51 rfl W52 2 rfl (by rw [pr15]; decide)
    have N52 := Fr.snoc X52 N42 pr10
    have f53 := (Fld.other W52 (Fld.other W42 pr6 (Or.inr (slot_ne (Or.inl (hw _ (List.mem_of_getElem? (i := 14) rfl))) (Or.inl (hw _ (List.mem_of_getElem? (i := 36) rfl))) (by decide) (t := (.array .double)) (t' := .long) (by decide) (by decide)))) (Or.inl pr12))
    obtain ⟨T54, X54, e54, st54⟩ := getF X52 hx hZ hown (host := "") (Or.inl (hw _ (List.mem_of_getElem? (i := 13) rfl))) Via.refl e52 f53 (g := (mkF m 97 #[.val (.ref a), .val (.int v), .val (.double x), .second, .val (.long (((1 : Int64) <<< (v &&& 0x3f).toInt64))), .second, .val (.int (-1 : Int32))] [(.ref a)])) rfl rfl (hb hby d16_97)
    have f55 := (Fld.other W52 f43 (Or.inl pr12))
    obtain ⟨T56, X56, e56, st56⟩ := getF X54 hx hZ hown (host := "") (Or.inl (hw _ (List.mem_of_getElem? (i := 33) rfl))) Via.refl e54 f55 (g := (mkF m 101 #[.val (.ref a), .val (.int v), .val (.double x), .second, .val (.long (((1 : Int64) <<< (v &&& 0x3f).toInt64))), .second, .val (.int (-1 : Int32))] [(.ref a), (.ref b2)])) rfl rfl (hb hby d16_101)
    have P57 : ∀ t, Steps p.tables e below (T56.setTop (mkF m 104 #[.val (.ref a), .val (.int v), .val (.double x), .second, .val (.long (((1 : Int64) <<< (v &&& 0x3f).toInt64))), .second, .val (.int (-1 : Int32))] [(.int (2 : Int32)), (.ref b2)])) t → Steps p.tables e below (s₁.setTop (entryFrame m #[(.ref a), (.int v), (.double x)] 7)) t := by
      intro t kk
      refine P3 _ ?_
      show Steps p.tables e below (T2.setTop (mkF m 21 #[.val (.ref a), .val (.int v), .val (.double x), .second, .val (.long (((1 : Int64) <<< (v &&& 0x3f).toInt64))), .second, .unset] [(.int (XT.cmpL (sn &&& (((1 : Int64) <<< (v &&& 0x3f).toInt64))) (0 : Int64)))])) _
      refine XS.ifNo X2.here hx rfl (hb hby d16_21) rfl (XT.ll_eq_f c4) ?_
      show Steps p.tables e below (T2.setTop (mkF m 24 #[.val (.ref a), .val (.int v), .val (.double x), .second, .val (.long (((1 : Int64) <<< (v &&& 0x3f).toInt64))), .second, .unset] [])) _
      refine XS.aloadN X2.here hx rfl (hb hby d16_24) rfl rfl ?_
      show Steps p.tables e below (T2.setTop (mkF m 25 #[.val (.ref a), .val (.int v), .val (.double x), .second, .val (.long (((1 : Int64) <<< (v &&& 0x3f).toInt64))), .second, .unset] [(.ref a)])) _
      refine XS.iloadN X2.here hx rfl (hb hby d16_25) rfl ?_
      show Steps p.tables e below (T2.setTop (mkF m 26 #[.val (.ref a), .val (.int v), .val (.double x), .second, .val (.long (((1 : Int64) <<< (v &&& 0x3f).toInt64))), .second, .unset] [(.int v), (.ref a)])) _
      refine st40.trans ?_
      show Steps p.tables e below (T40.setTop (mkF m 29 #[.val (.ref a), .val (.int v), .val (.double x), .second, .val (.long (((1 : Int64) <<< (v &&& 0x3f).toInt64))), .second, .unset] [(.int (-1 : Int32))])) _
      refine XS.goto X40.here hx rfl (pc0 := 29) (pc' := 33) rfl (hb hby d16_29) (by decide) (by decide) ?_
      show Steps p.tables e below (T40.setTop (mkF m 33 #[.val (.ref a), .val (.int v), .val (.double x), .second, .val (.long (((1 : Int64) <<< (v &&& 0x3f).toInt64))), .second, .unset] [(.int (-1 : Int32))])) _
      refine XS.istore X40.here hx rfl (hb hby d16_33) rfl (l' := #[.val (.ref a), .val (.int v), .val (.double x), .second, .val (.long (((1 : Int64) <<< (v &&& 0x3f).toInt64))), .second, .val (.int (-1 : Int32))]) rfl ?_
      show Steps p.tables e below (T40.setTop (mkF m 35 #[.val (.ref a), .val (.int v), .val (.double x), .second, .val (.long (((1 : Int64) <<< (v &&& 0x3f).toInt64))), .second, .val (.int (-1 : Int32))] [])) _
      refine XS.aloadN X40.here hx rfl (hb hby d16_35) rfl rfl ?_
      show Steps p.tables e below (T40.setTop (mkF m 36 #[.val (.ref a), .val (.int v), .val (.double x), .second, .val (.long (((1 : Int64) <<< (v &&& 0x3f).toInt64))), .second, .val (.int (-1 : Int32))] [(.ref a)])) _
      refine XS.dup X40.here hx rfl (hb hby d16_36) rfl rfl ?_
      show Steps p.tables e below (T40.setTop (mkF m 37 #[.val (.ref a), .val (.int v), .val (.double x), .second, .val (.long (((1 : Int64) <<< (v &&& 0x3f).toInt64))), .second, .val (.int (-1 : Int32))] [(.ref a), (.ref a)])) _
      refine st41 _ ?_
      show Steps p.tables e below (T41.setTop (mkF m 40 #[.val (.ref a), .val (.int v), .val (.double x), .second, .val (.long (((1 : Int64) <<< (v &&& 0x3f).toInt64))), .second, .val (.int (-1 : Int32))] [(.long sn), (.ref a)])) _
      refine XS.lload X41.here hx rfl (hb hby d16_40) rfl ?_
      show Steps p.tables e below (T41.setTop (mkF m 42 #[.val (.ref a), .val (.int v), .val (.double x), .second, .val (.long (((1 : Int64) <<< (v &&& 0x3f).toInt64))), .second, .val (.int (-1 : Int32))] [(.long (((1 : Int64) <<< (v &&& 0x3f).toInt64))), (.long sn), (.ref a)])) _
      refine XS.lor X41.here hx rfl (hb hby d16_42) rfl ?_
      show Steps p.tables e below (T41.setTop (mkF m 43 #[.val (.ref a), .val (.int v), .val (.double x), .second, .val (.long (((1 : Int64) <<< (v &&& 0x3f).toInt64))), .second, .val (.int (-1 : Int32))] [(.long (sn ||| (((1 : Int64) <<< (v &&& 0x3f).toInt64)))), (.ref a)])) _
      refine st42 _ ?_
      show Steps p.tables e below (T42.setTop (mkF m 46 #[.val (.ref a), .val (.int v), .val (.double x), .second, .val (.long (((1 : Int64) <<< (v &&& 0x3f).toInt64))), .second, .val (.int (-1 : Int32))] [])) _
      refine XS.iload X42.here hx rfl (hb hby d16_46) rfl ?_
      show Steps p.tables e below (T42.setTop (mkF m 48 #[.val (.ref a), .val (.int v), .val (.double x), .second, .val (.long (((1 : Int64) <<< (v &&& 0x3f).toInt64))), .second, .val (.int (-1 : Int32))] [(.int (-1 : Int32))])) _
      refine XS.ifYes X42.here hx rfl (pc0 := 48) (pc' := 70) rfl (hb hby d16_48) rfl (XT.i0_lt_t (by decide)) (by decide) (by decide) ?_
      show Steps p.tables e below (T42.setTop (mkF m 70 #[.val (.ref a), .val (.int v), .val (.double x), .second, .val (.long (((1 : Int64) <<< (v &&& 0x3f).toInt64))), .second, .val (.int (-1 : Int32))] [])) _
      refine XS.aloadN X42.here hx rfl (hb hby d16_70) rfl rfl ?_
      show Steps p.tables e below (T42.setTop (mkF m 71 #[.val (.ref a), .val (.int v), .val (.double x), .second, .val (.long (((1 : Int64) <<< (v &&& 0x3f).toInt64))), .second, .val (.int (-1 : Int32))] [(.ref a)])) _
      refine st44 _ ?_
      show Steps p.tables e below (T44.setTop (mkF m 74 #[.val (.ref a), .val (.int v), .val (.double x), .second, .val (.long (((1 : Int64) <<< (v &&& 0x3f).toInt64))), .second, .val (.int (-1 : Int32))] [(.int (2 : Int32))])) _
      refine XS.aloadN X44.here hx rfl (hb hby d16_74) rfl rfl ?_
      show Steps p.tables e below (T44.setTop (mkF m 75 #[.val (.ref a), .val (.int v), .val (.double x), .second, .val (.long (((1 : Int64) <<< (v &&& 0x3f).toInt64))), .second, .val (.int (-1 : Int32))] [(.ref a), (.int (2 : Int32))])) _
      refine st46 _ ?_
      show Steps p.tables e below (T46.setTop (mkF m 78 #[.val (.ref a), .val (.int v), .val (.double x), .second, .val (.long (((1 : Int64) <<< (v &&& 0x3f).toInt64))), .second, .val (.int (-1 : Int32))] [(.ref b1), (.int (2 : Int32))])) _
      refine X46.arraylength hx (by rw [e46]; exact Ar_a48.1) (State.isArrayOf_alike hZ.alike Ar_a48.2.1) (g := (mkF m 78 #[.val (.ref a), .val (.int v), .val (.double x), .second, .val (.long (((1 : Int64) <<< (v &&& 0x3f).toInt64))), .second, .val (.int (-1 : Int32))] [(.ref b1), (.int (2 : Int32))])) rfl rfl (hb hby d16_78) _ ?_
      rw [len_of S_a48 N_a48]
      show Steps p.tables e below (T46.setTop (mkF m 79 #[.val (.ref a), .val (.int v), .val (.double x), .second, .val (.long (((1 : Int64) <<< (v &&& 0x3f).toInt64))), .second, .val (.int (-1 : Int32))] [(.int (16 : Int32)), (.int (2 : Int32))])) _
      refine XS.icmpYes X46.here hx rfl (pc0 := 79) (pc' := 86) rfl (hb hby d16_79) rfl (XT.ii_ne_t (by decide)) (by decide) (by decide) ?_
      show Steps p.tables e below (T46.setTop (mkF m 86 #[.val (.ref a), .val (.int v), .val (.double x), .second, .val (.long (((1 : Int64) <<< (v &&& 0x3f).toInt64))), .second, .val (.int (-1 : Int32))] [])) _
      refine XS.aloadN X46.here hx rfl (hb hby d16_86) rfl rfl ?_
      show Steps p.tables e below (T46.setTop (mkF m 87 #[.val (.ref a), .val (.int v), .val (.double x), .second, .val (.long (((1 : Int64) <<< (v &&& 0x3f).toInt64))), .second, .val (.int (-1 : Int32))] [(.ref a)])) _
      refine st49 _ ?_
      show Steps p.tables e below (T49.setTop (mkF m 90 #[.val (.ref a), .val (.int v), .val (.double x), .second, .val (.long (((1 : Int64) <<< (v &&& 0x3f).toInt64))), .second, .val (.int (-1 : Int32))] [(.ref b1)])) _
      refine XS.aloadN X49.here hx rfl (hb hby d16_90) rfl rfl ?_
      show Steps p.tables e below (T49.setTop (mkF m 91 #[.val (.ref a), .val (.int v), .val (.double x), .second, .val (.long (((1 : Int64) <<< (v &&& 0x3f).toInt64))), .second, .val (.int (-1 : Int32))] [(.ref a), (.ref b1)])) _
      refine st50 _ ?_
      show Steps p.tables e below (T50.setTop (mkF m 94 #[.val (.ref a), .val (.int v), .val (.double x), .second, .val (.long (((1 : Int64) <<< (v &&& 0x3f).toInt64))), .second, .val (.int (-1 : Int32))] [(.int (2 : Int32)), (.ref b1)])) _
      refine XS.iloadN X50.here hx rfl (hb hby d16_94) rfl ?_
      show Steps p.tables e below (T50.setTop (mkF m 95 #[.val (.ref a), .val (.int v), .val (.double x), .second, .val (.long (((1 : Int64) <<< (v &&& 0x3f).toInt64))), .second, .val (.int (-1 : Int32))] [(.int v), (.int (2 : Int32)), (.ref b1)])) _
      refine st52 _ ?_
      show Steps p.tables e below (T52.setTop (mkF m 96 #[.val (.ref a), .val (.int v), .val (.double x), .second, .val (.long (((1 : Int64) <<< (v &&& 0x3f).toInt64))), .second, .val (.int (-1 : Int32))] [])) _
      refine XS.aloadN X52.here hx rfl (hb hby d16_96) rfl rfl ?_
      show Steps p.tables e below (T52.setTop (mkF m 97 #[.val (.ref a), .val (.int v), .val (.double x), .second, .val (.long (((1 : Int64) <<< (v &&& 0x3f).toInt64))), .second, .val (.int (-1 : Int32))] [(.ref a)])) _
      refine st54 _ ?_
      show Steps p.tables e below (T54.setTop (mkF m 100 #[.val (.ref a), .val (.int v), .val (.double x), .second, .val (.long (((1 : Int64) <<< (v &&& 0x3f).toInt64))), .second, .val (.int (-1 : Int32))] [(.ref b2)])) _
      refine XS.aloadN X54.here hx rfl (hb hby d16_100) rfl rfl ?_
      show Steps p.tables e below (T54.setTop (mkF m 101 #[.val (.ref a), .val (.int v), .val (.double x), .second, .val (.long (((1 : Int64) <<< (v &&& 0x3f).toInt64))), .second, .val (.int (-1 : Int32))] [(.ref a), (.ref b2)])) _
      refine st56 _ ?_
      show Steps p.tables e below (T56.setTop (mkF m 104 #[.val (.ref a), .val (.int v), .val (.double x), .second, .val (.long (((1 : Int64) <<< (v &&& 0x3f).toInt64))), .second, .val (.int (-1 : Int32))] [(.int (2 : Int32)), (.ref b2)])) _
      exact kk
    have f58 := ((pr8.other W42 (Ne.symm pr13)).other W52 (Ne.symm pr14))
    obtain ⟨cl_a59, Ar_a59, q_a59, S_a59, N_a59, H_a59, G_a59⟩ := id f58
    have hin_a59 : ¬ ((2 : Int32) < 0 ∨ cl_a59.slots.size ≤ ((2 : Int32)).toNatClampNeg) := inb_of S_a59 ⟨by decide, by decide⟩
    obtain ⟨T60, h60, X60, e60, W60, st60⟩ := stD X56 hx hZ e56 Ar_a59 (j := (2 : Int32)) hin_a59 (g := (mkF m 105 #[.val (.ref a), .val (.int v), .val (.double x), .second, .val (.long (((1 : Int64) <<< (v &&& 0x3f).toInt64))), .second, .val (.int (-1 : Int32))] [(.double x), (.int (2 : Int32)), (.ref b2)])) rfl rfl (hb hby d16_105)
    have V60 : Arv Z h60 b2 k2 .double (16 : Int32) (ds.set 2 (.double x)) d2 := Arv.set Ar_a59 q_a59 S_a59 N_a59 H_a59 G_a59 rfl W60 2 rfl (by rw [pr16]; decide)
    have N60 := Fr.snoc X60 N52 pr11
    have f61 := (Fld.other W60 f55 (Or.inl pr13))
    obtain ⟨T62, X62, e62, st62⟩ := getF X60 hx hZ hown (host := "") (Or.inl (hw _ (List.mem_of_getElem? (i := 33) rfl))) Via.refl e60 f61 (g := (mkF m 108 #[.val (.ref a), .val (.int v), .val (.double x), .second, .val (.long (((1 : Int64) <<< (v &&& 0x3f).toInt64))), .second, .val (.int (-1 : Int32))] [(.ref a), (.ref a)])) rfl rfl (hb hby d16_108)
    have f63 := (Exa.wr W60 (Exa.wr W52 (Exa.wr W42 pr0)))
    obtain ⟨T64, h64, X64, e64, W64, st64⟩ := putF X62 hx hZ hown (host := "") (Or.inl (hw _ (List.mem_of_getElem? (i := 33) rfl))) Via.refl e62 f61 f63 (Or.inl (hw _ (List.mem_of_getElem? (i := 34) rfl))) (hw _ (List.mem_of_getElem? (i := 1) rfl)) (ty := .int) (by decide) rfl rfl (g := (mkF m 113 #[.val (.ref a), .val (.int v), .val (.double x), .second, .val (.long (((1 : Int64) <<< (v &&& 0x3f).toInt64))), .second, .val (.int (-1 : Int32))] [(.int (3 : Int32)), (.ref a)])) rfl rfl (hb hby d16_113)
    have N64 := Fr.snoc X64 N60 pr9
    have Fw64 := Fld.same W64 f61
    have f65 := (Fld.other W64 (Fld.other W60 (Fld.other W52 (Fld.other W42 pr1 (Or.inr (slot_ne (Or.inl (hw _ (List.mem_of_getElem? (i := 32) rfl))) (Or.inl (hw _ (List.mem_of_getElem? (i := 36) rfl))) (by decide) (t := .boolean) (t' := .long) (by decide) (by decide)))) (Or.inl pr12)) (Or.inl pr13)) (Or.inr (slot_ne (Or.inl (hw _ (List.mem_of_getElem? (i := 32) rfl))) (Or.inl (hw _ (List.mem_of_getElem? (i := 34) rfl))) (by decide) (t := .boolean) (t' := .int) (by decide) (by decide))))
    obtain ⟨T66, X66, e66, st66⟩ := getF X64 hx hZ hown (host := "") (Or.inl (hw _ (List.mem_of_getElem? (i := 31) rfl))) Via.refl e64 f65 (g := (mkF m 117 #[.val (.ref a), .val (.int v), .val (.double x), .second, .val (.long (((1 : Int64) <<< (v &&& 0x3f).toInt64))), .second, .val (.int (-1 : Int32))] [(.ref a)])) rfl rfl (hb hby d16_117)
    obtain ⟨T67, X67, e67, st67⟩ := getF X66 hx hZ hown (host := "") (Or.inl (hw _ (List.mem_of_getElem? (i := 33) rfl))) Via.refl e66 Fw64 (g := (mkF m 137 #[.val (.ref a), .val (.int v), .val (.double x), .second, .val (.long (((1 : Int64) <<< (v &&& 0x3f).toInt64))), .second, .val (.int (-1 : Int32))] [(.ref a)])) rfl rfl (hb hby d16_137)
    have P68 : ∀ t, Steps p.tables e below (T67.setTop (mkF m 149 #[.val (.ref a), .val (.int v), .val (.double x), .second, .val (.long (((1 : Int64) <<< (v &&& 0x3f).toInt64))), .second, .val (.int (-1 : Int32))] [])) t → Steps p.tables e below (s₁.setTop (entryFrame m #[(.ref a), (.int v), (.double x)] 7)) t := by
      intro t kk
      refine P57 _ ?_
      show Steps p.tables e below (T56.setTop (mkF m 104 #[.val (.ref a), .val (.int v), .val (.double x), .second, .val (.long (((1 : Int64) <<< (v &&& 0x3f).toInt64))), .second, .val (.int (-1 : Int32))] [(.int (2 : Int32)), (.ref b2)])) _
      refine XS.dloadN X56.here hx rfl (hb hby d16_104) rfl ?_
      show Steps p.tables e below (T56.setTop (mkF m 105 #[.val (.ref a), .val (.int v), .val (.double x), .second, .val (.long (((1 : Int64) <<< (v &&& 0x3f).toInt64))), .second, .val (.int (-1 : Int32))] [(.double x), (.int (2 : Int32)), (.ref b2)])) _
      refine st60 _ ?_
      show Steps p.tables e below (T60.setTop (mkF m 106 #[.val (.ref a), .val (.int v), .val (.double x), .second, .val (.long (((1 : Int64) <<< (v &&& 0x3f).toInt64))), .second, .val (.int (-1 : Int32))] [])) _
      refine XS.aloadN X60.here hx rfl (hb hby d16_106) rfl rfl ?_
      show Steps p.tables e below (T60.setTop (mkF m 107 #[.val (.ref a), .val (.int v), .val (.double x), .second, .val (.long (((1 : Int64) <<< (v &&& 0x3f).toInt64))), .second, .val (.int (-1 : Int32))] [(.ref a)])) _
      refine XS.dup X60.here hx rfl (hb hby d16_107) rfl rfl ?_
      show Steps p.tables e below (T60.setTop (mkF m 108 #[.val (.ref a), .val (.int v), .val (.double x), .second, .val (.long (((1 : Int64) <<< (v &&& 0x3f).toInt64))), .second, .val (.int (-1 : Int32))] [(.ref a), (.ref a)])) _
      refine st62 _ ?_
      show Steps p.tables e below (T62.setTop (mkF m 111 #[.val (.ref a), .val (.int v), .val (.double x), .second, .val (.long (((1 : Int64) <<< (v &&& 0x3f).toInt64))), .second, .val (.int (-1 : Int32))] [(.int (2 : Int32)), (.ref a)])) _
      refine XS.iconst X62.here hx rfl (hb hby d16_111) ?_
      show Steps p.tables e below (T62.setTop (mkF m 112 #[.val (.ref a), .val (.int v), .val (.double x), .second, .val (.long (((1 : Int64) <<< (v &&& 0x3f).toInt64))), .second, .val (.int (-1 : Int32))] [(.int (1 : Int32)), (.int (2 : Int32)), (.ref a)])) _
      refine XS.iadd X62.here hx rfl (hb hby d16_112) rfl ?_
      show Steps p.tables e below (T62.setTop (mkF m 113 #[.val (.ref a), .val (.int v), .val (.double x), .second, .val (.long (((1 : Int64) <<< (v &&& 0x3f).toInt64))), .second, .val (.int (-1 : Int32))] [(.int (3 : Int32)), (.ref a)])) _
      refine st64 _ ?_
      show Steps p.tables e below (T64.setTop (mkF m 116 #[.val (.ref a), .val (.int v), .val (.double x), .second, .val (.long (((1 : Int64) <<< (v &&& 0x3f).toInt64))), .second, .val (.int (-1 : Int32))] [])) _
      refine XS.aloadN X64.here hx rfl (hb hby d16_116) rfl rfl ?_
      show Steps p.tables e below (T64.setTop (mkF m 117 #[.val (.ref a), .val (.int v), .val (.double x), .second, .val (.long (((1 : Int64) <<< (v &&& 0x3f).toInt64))), .second, .val (.int (-1 : Int32))] [(.ref a)])) _
      refine st66 _ ?_
      show Steps p.tables e below (T66.setTop (mkF m 120 #[.val (.ref a), .val (.int v), .val (.double x), .second, .val (.long (((1 : Int64) <<< (v &&& 0x3f).toInt64))), .second, .val (.int (-1 : Int32))] [(.int (0 : Int32))])) _
      refine XS.ifYes X66.here hx rfl (pc0 := 120) (pc' := 136) rfl (hb hby d16_120) rfl (XT.i0_eq_t rfl) (by decide) (by decide) ?_
      show Steps p.tables e below (T66.setTop (mkF m 136 #[.val (.ref a), .val (.int v), .val (.double x), .second, .val (.long (((1 : Int64) <<< (v &&& 0x3f).toInt64))), .second, .val (.int (-1 : Int32))] [])) _
      refine XS.aloadN X66.here hx rfl (hb hby d16_136) rfl rfl ?_
      show Steps p.tables e below (T66.setTop (mkF m 137 #[.val (.ref a), .val (.int v), .val (.double x), .second, .val (.long (((1 : Int64) <<< (v &&& 0x3f).toInt64))), .second, .val (.int (-1 : Int32))] [(.ref a)])) _
      refine st67 _ ?_
      show Steps p.tables e below (T67.setTop (mkF m 140 #[.val (.ref a), .val (.int v), .val (.double x), .second, .val (.long (((1 : Int64) <<< (v &&& 0x3f).toInt64))), .second, .val (.int (-1 : Int32))] [(.int (3 : Int32))])) _
      refine XS.bipush X67.here hx rfl (hb hby d16_140) ?_
      show Steps p.tables e below (T67.setTop (mkF m 142 #[.val (.ref a), .val (.int v), .val (.double x), .second, .val (.long (((1 : Int64) <<< (v &&& 0x3f).toInt64))), .second, .val (.int (-1 : Int32))] [(.int (32 : Int32)), (.int (3 : Int32))])) _
      refine XS.icmpYes X67.here hx rfl (pc0 := 142) (pc' := 149) rfl (hb hby d16_142) rfl (XT.ii_le_t (by decide)) (by decide) (by decide) ?_
      show Steps p.tables e below (T67.setTop (mkF m 149 #[.val (.ref a), .val (.int v), .val (.double x), .second, .val (.long (((1 : Int64) <<< (v &&& 0x3f).toInt64))), .second, .val (.int (-1 : Int32))] [])) _
      exact kk
    have k69 : Keep h0 h64 [a, b1, b2] := (Keep.wr (Keep.wr (Keep.wr (Keep.wr (Keep.refl h0 [a, b1, b2]) W42 (Or.inl (List.mem_of_getElem? (i := 0) rfl))) W52 (Or.inl (List.mem_of_getElem? (i := 1) rfl))) W60 (Or.inl (List.mem_of_getElem? (i := 2) rfl))) W64 (Or.inl (List.mem_of_getElem? (i := 0) rfl)))
    have f70 := (Fld.other W64 (Fld.other W60 (Fld.other W52 Fw42 (Or.inl pr12)) (Or.inl pr13)) (Or.inr (slot_ne (Or.inl (hw _ (List.mem_of_getElem? (i := 36) rfl))) (Or.inl (hw _ (List.mem_of_getElem? (i := 34) rfl))) (by decide) (t := .long) (t' := .int) (by decide) (by decide))))
    have f71 := ((V52.other W60 pr14).other W64 (Ne.symm pr12))
    have f72 := (V60.other W64 (Ne.symm pr13))
    have f73 := (Fld.other W64 (Fld.other W60 (Fld.other W52 (Fld.other W42 pr4 (Or.inr (slot_ne (Or.inl (hw _ (List.mem_of_getElem? (i := 25) rfl))) (Or.inl (hw _ (List.mem_of_getElem? (i := 36) rfl))) (by decide) (t := .long) (t' := .long) (by decide) (by decide)))) (Or.inl pr12)) (Or.inl pr13)) (Or.inr (slot_ne (Or.inl (hw _ (List.mem_of_getElem? (i := 25) rfl))) (Or.inl (hw _ (List.mem_of_getElem? (i := 34) rfl))) (by decide) (t := .long) (t' := .int) (by decide) (by decide))))
    have f74 := (Fld.other W64 (Fld.other W60 (Fld.other W52 f45 (Or.inl pr12)) (Or.inl pr13)) (Or.inr (slot_ne (Or.inl (hw _ (List.mem_of_getElem? (i := 11) rfl))) (Or.inl (hw _ (List.mem_of_getElem? (i := 34) rfl))) (by decide) (t := (.array .int)) (t' := .int) (by decide) (by decide))))
    have f75 := (Fld.other W64 (Fld.other W60 f53 (Or.inl pr13)) (Or.inr (slot_ne (Or.inl (hw _ (List.mem_of_getElem? (i := 14) rfl))) (Or.inl (hw _ (List.mem_of_getElem? (i := 34) rfl))) (by decide) (t := (.array .double)) (t' := .int) (by decide) (by decide))))
    obtain ⟨fs, hr, hrun, hended, hW, hsame⟩ := X67.leave (v := none) (fun _ => rfl)
    refine ⟨_, _, P68 _ ?_, hrun, hended, _, _, rfl, ?_, ⟨_, rfl⟩, hW, hsame.mono (by decide) (by decide)⟩
    · exact X67.returnOut hx Bd.returns (hb hby d16_149) hr
    · show Q16 Z a v x ar sn b1 k1 vs d1 b2 k2 ds d2 y0 y1 h0 n0 _ T67.heap _
      rw [e67]
      exact ⟨rfl, N64, k69, Fw64, f70, f71, f72, f65, f73, f74, f75⟩
theorem d17_0 : decode prog_104_method_8_code 0 = .ok (.lconst 1, 1) := by decide +kernel
theorem d17_1 : decode prog_104_method_8_code 1 = .ok (.iload_n 1, 1) := by decide +kernel
theorem d17_2 : decode prog_104_method_8_code 2 = .ok (.lshl, 1) := by decide +kernel
theorem d17_3 : decode prog_104_method_8_code 3 = .ok (.lstore 4, 2) := by decide +kernel
theorem d17_5 : decode prog_104_method_8_code 5 = .ok (.aload_n 0, 1) := by decide +kernel
theorem d17_6 : decode prog_104_method_8_code 6 = .ok (.getfield 31, 3) := by decide +kernel
theorem d17_9 : decode prog_104_method_8_code 9 = .ok (.ifCond .ne 15, 3) := by decide +kernel
theorem d17_12 : decode prog_104_method_8_code 12 = .ok (.aload_n 0, 1) := by decide +kernel
theorem d17_13 : decode prog_104_method_8_code 13 = .ok (.getfield 35, 3) := by decide +kernel
theorem d17_16 : decode prog_104_method_8_code 16 = .ok (.lload 4, 2) := by decide +kernel
theorem d17_18 : decode prog_104_method_8_code 18 = .ok (.land, 1) := by decide +kernel
theorem d17_19 : decode prog_104_method_8_code 19 = .ok (.lconst 0, 1) := by decide +kernel
theorem d17_20 : decode prog_104_method_8_code 20 = .ok (.lcmp, 1) := by decide +kernel
theorem d17_21 : decode prog_104_method_8_code 21 = .ok (.ifCond .eq 11, 3) := by decide +kernel
theorem d17_24 : decode prog_104_method_8_code 24 = .ok (.aload_n 0, 1) := by decide +kernel
theorem d17_25 : decode prog_104_method_8_code 25 = .ok (.iload_n 1, 1) := by decide +kernel
theorem d17_26 : decode prog_104_method_8_code 26 = .ok (.invokevirtual 38, 3) := by decide +kernel
theorem d17_29 : decode prog_104_method_8_code 29 = .ok (.goto 4, 3) := by decide +kernel
theorem d17_33 : decode prog_104_method_8_code 33 = .ok (.istore 6, 2) := by decide +kernel
theorem d17_35 : decode prog_104_method_8_code 35 = .ok (.aload_n 0, 1) := by decide +kernel
theorem d17_36 : decode prog_104_method_8_code 36 = .ok (.dup, 1) := by decide +kernel
theorem d17_37 : decode prog_104_method_8_code 37 = .ok (.getfield 35, 3) := by decide +kernel
theorem d17_40 : decode prog_104_method_8_code 40 = .ok (.lload 4, 2) := by decide +kernel
theorem d17_42 : decode prog_104_method_8_code 42 = .ok (.lor, 1) := by decide +kernel
theorem d17_43 : decode prog_104_method_8_code 43 = .ok (.putfield 35, 3) := by decide +kernel
theorem d17_46 : decode prog_104_method_8_code 46 = .ok (.iload 6, 2) := by decide +kernel
theorem d17_48 : decode prog_104_method_8_code 48 = .ok (.ifCond .lt 22, 3) := by decide +kernel
theorem d17_51 : decode prog_104_method_8_code 51 = .ok (.aload_n 0, 1) := by decide +kernel
theorem d17_52 : decode prog_104_method_8_code 52 = .ok (.getfield 13, 3) := by decide +kernel
theorem d17_55 : decode prog_104_method_8_code 55 = .ok (.iload 6, 2) := by decide +kernel
theorem d17_57 : decode prog_104_method_8_code 57 = .ok (.aload_n 0, 1) := by decide +kernel
theorem d17_58 : decode prog_104_method_8_code 58 = .ok (.getfield 13, 3) := by decide +kernel
theorem d17_61 : decode prog_104_method_8_code 61 = .ok (.iload 6, 2) := by decide +kernel
theorem d17_63 : decode prog_104_method_8_code 63 = .ok (.daload, 1) := by decide +kernel
theorem d17_64 : decode prog_104_method_8_code 64 = .ok (.dload_n 2, 1) := by decide +kernel
theorem d17_65 : decode prog_104_method_8_code 65 = .ok (.invokestatic 42, 3) := by decide +kernel
theorem d17_68 : decode prog_104_method_8_code 68 = .ok (.dastore, 1) := by decide +kernel
theorem d17_69 : decode prog_104_method_8_code 69 = .ok (.return_, 1) := by decide +kernel
theorem ef_17 (m : MethodId) (x0 : Addr) (x1 : Int32) (x2 : UInt64) : entryFrame m #[(.ref x0), (.int x1), (.double x2)] 7 = (mkF m 0 #[.val (.ref x0), .val (.int x1), .val (.double x2), .second, .unset, .unset, .unset] []) := by first | (simp [entryFrame, mkF, argsToLocals, Value.category]; done) | rfl
def Q17 (Z : State) (a : Addr) (v : Int32) (x : UInt64) (ar : Int64) (sn : Int64) (b1 : Addr) (k1 : ClassId) (vs : List Value) (d1 : Value) (b2 : Addr) (k2 : ClassId) (ds : List Value) (d2 : Value) (y0 : Int32) (cc : UInt64) (h0 : Heap) (n0 : Nat) (vX : Option Value) (hX : Heap) (lX : List Loc) : Prop := vX = none ∧ Fr n0 lX ∧ (Keep h0 hX [a, b1, b2]) ∧ (Fld Z hX a "org/wayfold/search/Steps" "seen" "J" (.long (sn ||| ((1 : Int64) <<< (v &&& 0x3f).toInt64)))) ∧ (Arv Z hX b1 k1 .int (16 : Int32) vs d1) ∧ (Arv Z hX b2 k2 .double (16 : Int32) (ds.set 0 (.double (Native.java_lang_Math.nans.pick64 false cc x))) d2) ∧ (Fld Z hX a "org/wayfold/search/Steps" "hashed" "Z" (.int (0 : Int32))) ∧ (Fld Z hX a "org/wayfold/search/Steps" "size" "I" (.int (2 : Int32))) ∧ (Fld Z hX a "org/wayfold/search/Steps" "arcsRead" "J" (.long ar)) ∧ (Fld Z hX a "org/wayfold/search/Steps" "vertices" "[I" (.ref b1)) ∧ (Fld Z hX a "org/wayfold/search/Steps" "costs" "[D" (.ref b2))
set_option maxRecDepth 65536 in
set_option maxHeartbeats 40000000 in
theorem rm17 (l : Launch) (Z : State) (a0 : Array Value) (hw : ∀ d ∈ tables_1, d.before a0 Z = true) (ws : List Jvm.Cond) (a : Addr) (v : Int32) (x : UInt64) (ar : Int64) (sn : Int64) (b1 : Addr) (k1 : ClassId) (vs : List Value) (d1 : Value) (b2 : Addr) (k2 : ClassId) (ds : List Value) (d2 : Value) (y0 : Int32) (cc : UInt64) (h0 : Heap) (n0 : Nat) (Z0 : n0 ≤ h0.size) (pr0 : Exa Z h0 a "org/wayfold/search/Steps") (pr1 : Fld Z h0 a "org/wayfold/search/Steps" "hashed" "Z" (.int (0 : Int32))) (pr2 : Fld Z h0 a "org/wayfold/search/Steps" "size" "I" (.int (2 : Int32))) (pr3 : Fld Z h0 a "org/wayfold/search/Steps" "seen" "J" (.long sn)) (pr4 : Fld Z h0 a "org/wayfold/search/Steps" "arcsRead" "J" (.long ar)) (pr5 : Fld Z h0 a "org/wayfold/search/Steps" "vertices" "[I" (.ref b1)) (pr6 : Fld Z h0 a "org/wayfold/search/Steps" "costs" "[D" (.ref b2)) (pr7 : Arv Z h0 b1 k1 .int (16 : Int32) vs d1) (pr8 : Arv Z h0 b2 k2 .double (16 : Int32) ds d2) (pr9 : n0 ≤ a) (pr10 : n0 ≤ b1) (pr11 : n0 ≤ b2) (pr12 : a ≠ b1) (pr13 : a ≠ b2) (pr14 : b1 ≠ b2) (pr15 : vs.length = 16) (pr16 : ds.length = 16) (pr17 : vs.getD (0 : Int32).toNatClampNeg d1 = .int y0) (pr18 : y0 = v) (pr19 : ¬ (sn &&& ((1 : Int64) <<< (v &&& 0x3f).toInt64)) = (0 : Int64)) (pr20 : ds.getD (0 : Int32).toNatClampNeg d2 = .double cc) (pr21 : Jvm.Free.Fl.NoNaN64 cc) (pr22 : Jvm.Free.Fl.NoNaN64 x) :
    MetFree l (⟨"org/wayfold/search/Steps", "merge", "(ID)V"⟩ : MethodName) (head1 (Jvm.Cond.code (⟨"org/wayfold/search/Steps", "merge", "(ID)V"⟩ : MethodName) prog_104_method_8_code 7 none :: ws) ({ frames := 1, cells := 0, slots := 0, locals := 17 } : Room)) (fun aX uX => aX = #[(.ref a), (.int v), (.double x)] ∧ Z.Warmed39 uX.vm ∧ uX.heap = h0) (fun _ _ _ _ _ => True) (fun _ uX oX wX => ∃ vX lX, oX = .returned vX ∧ Q17 Z a v x ar sn b1 k1 vs d1 b2 k2 ds d2 y0 cc h0 n0 vX wX.heap lX ∧ FrameEnd uX oX wX lX ({ frames := 1, cells := 0, slots := 0, locals := 17 } : Room).cells ({ frames := 1, cells := 0, slots := 0, locals := 17 } : Room).slots) := by
  refine MetFree.of_bodySF (plainFor_of_name pn_0) hisR ?_
  intro p e s m args below meth c s₁ Bd hml0 hP hK
  obtain ⟨rfl, hZ, hh⟩ := hP
  have hx := Bd.exec
  have hby := Bd.bytes
  have hml : c.maxLocals = 7 := hml0
  have hown : s.vm.findClass "org/wayfold/search/Steps" = some m.cls := findClass_of_methodNamed Bd.named
  have hnm := (name_of_methodNamed Bd.named Bd.method).1
  have X0 : Stand p l e ({ frames := 1, cells := 0, slots := 0, locals := 17 } : Room) s m #[(.ref a), (.int v), (.double x)] below meth c s₁ [] 0 0 := Stand.of_body Bd
  have e0 : s₁.heap = h0 := by rw [← hh, Bd.state]; rfl
  have N0 := Fr.nil n0
  have pre0 : ∀ t, Steps p.tables e below (s₁.setTop (mkF m 0 #[.val (.ref a), .val (.int v), .val (.double x), .second, .unset, .unset, .unset] [])) t → Steps p.tables e below (s₁.setTop (entryFrame m #[(.ref a), (.int v), (.double x)] 7)) t := fun t k => castTop (ef_17 m a v x) k
  obtain ⟨T1, X1, e1, st1⟩ := getF X0 hx hZ hown (host := "") (Or.inl (hw _ (List.mem_of_getElem? (i := 31) rfl))) Via.refl e0 pr1 (g := (mkF m 6 #[.val (.ref a), .val (.int v), .val (.double x), .second, .val (.long (((1 : Int64) <<< (v &&& 0x3f).toInt64))), .second, .unset] [(.ref a)])) rfl rfl (hb hby d17_6)
  obtain ⟨T2, X2, e2, st2⟩ := getF X1 hx hZ hown (host := "") (Or.inl (hw _ (List.mem_of_getElem? (i := 35) rfl))) Via.refl e1 pr3 (g := (mkF m 13 #[.val (.ref a), .val (.int v), .val (.double x), .second, .val (.long (((1 : Int64) <<< (v &&& 0x3f).toInt64))), .second, .unset] [(.ref a)])) rfl rfl (hb hby d17_13)
  obtain ⟨cq3, q3, q3'⟩ := pr0.cell
  obtain ⟨_, _, ⟨T3, L3, k3, n3⟩, -, X3, ⟨Lc3, hQ3, l3, y3, z3⟩, st3⟩ := X2.privateBack hx (y := (⟨"org/wayfold/search/Steps", "find", "(I)I"⟩ : MethodName)) hown (mvT hZ (hw _ (List.mem_of_getElem? (i := 65) rfl))) (mvT hZ (hw _ (List.mem_of_getElem? (i := 66) rfl))) (own_selpriv (y := (⟨"org/wayfold/search/Steps", "find", "(I)I"⟩ : MethodName)) (y' := (⟨"org/wayfold/search/Steps", "arcsRead", "(J)V"⟩ : MethodName)) rfl (mvT hZ (hw _ (List.mem_of_getElem? (i := 22) rfl))) (Cond.privateMethod_at (mvP hZ (hw _ (List.mem_of_getElem? (i := 67) rfl)) (args := #[]))) (mvT hZ (hw _ (List.mem_of_getElem? (i := 66) rfl))) (by decide)) (Cond.privateMethod_at (mvP hZ (hw _ (List.mem_of_getElem? (i := 67) rfl)) (args := #[]))) (mvT hZ (hw _ (List.mem_of_getElem? (i := 68) rfl))) (by decide) (backOf (W := 0) (rm11 l Z a0 hw [] a v b1 k1 vs d1 y0 h0 n0 Z0 pr0 pr1 pr2 pr5 pr7 pr17 pr18) hZ (hw _ (List.mem_of_getElem? (i := 68) rfl)) (hw _ (List.mem_of_getElem? (i := 2) rfl)) (by decide) (by decide)) (g := (mkF m 26 #[.val (.ref a), .val (.int v), .val (.double x), .second, .val (.long (((1 : Int64) <<< (v &&& 0x3f).toInt64))), .second, .unset] [(.int v), (.ref a)])) rfl (by rw [hml]; rfl) (Steps.refl _) (a := a) (by rw [e2]; exact q3) q3' (argsL := [(.int v)]) (rest := []) (lenOf pd_0 rfl) rfl (by show 2 * 0 + _ ≤ _; exact Nat.le_of_eq rfl) (hb hby d17_26) (fun _ _ => ⟨rfl, e2, (by decide : 0 + 0 ≤ _), (by decide : 0 + 0 ≤ _)⟩)
  dsimp only [Pt.U, Pt.locs, Pt.cells, Pt.slots] at X3 l3 y3 z3 st3 hQ3
  subst l3 y3 z3
  obtain ⟨rfl, Nq3, e3⟩ := hQ3
  have N3 := Fr.app N0 Nq3
  obtain ⟨T4, X4, e4, st4⟩ := getF X3 hx hZ hown (host := "") (Or.inl (hw _ (List.mem_of_getElem? (i := 35) rfl))) Via.refl e3 pr3 (g := (mkF m 37 #[.val (.ref a), .val (.int v), .val (.double x), .second, .val (.long (((1 : Int64) <<< (v &&& 0x3f).toInt64))), .second, .val (.int (0 : Int32))] [(.ref a), (.ref a)])) rfl rfl (hb hby d17_37)
  obtain ⟨T5, h5, X5, e5, W5, st5⟩ := putF X4 hx hZ hown (host := "") (Or.inl (hw _ (List.mem_of_getElem? (i := 35) rfl))) Via.refl e4 pr3 pr0 (Or.inl (hw _ (List.mem_of_getElem? (i := 36) rfl))) (hw _ (List.mem_of_getElem? (i := 1) rfl)) (ty := .long) (by decide) rfl rfl (g := (mkF m 43 #[.val (.ref a), .val (.int v), .val (.double x), .second, .val (.long (((1 : Int64) <<< (v &&& 0x3f).toInt64))), .second, .val (.int (0 : Int32))] [(.long (sn ||| (((1 : Int64) <<< (v &&& 0x3f).toInt64)))), (.ref a)])) rfl rfl (hb hby d17_43)
  have N5 := Fr.snoc X5 N3 pr9
  have Fw5 := Fld.same W5 pr3
  have f6 := (Fld.other W5 pr6 (Or.inr (slot_ne (Or.inl (hw _ (List.mem_of_getElem? (i := 14) rfl))) (Or.inl (hw _ (List.mem_of_getElem? (i := 36) rfl))) (by decide) (t := (.array .double)) (t' := .long) (by decide) (by decide))))
  obtain ⟨T7, X7, e7, st7⟩ := getF X5 hx hZ hown (host := "") (Or.inl (hw _ (List.mem_of_getElem? (i := 13) rfl))) Via.refl e5 f6 (g := (mkF m 52 #[.val (.ref a), .val (.int v), .val (.double x), .second, .val (.long (((1 : Int64) <<< (v &&& 0x3f).toInt64))), .second, .val (.int (0 : Int32))] [(.ref a)])) rfl rfl (hb hby d17_52)
  have P8 : ∀ t, Steps p.tables e below (T7.setTop (mkF m 57 #[.val (.ref a), .val (.int v), .val (.double x), .second, .val (.long (((1 : Int64) <<< (v &&& 0x3f).toInt64))), .second, .val (.int (0 : Int32))] [(.int (0 : Int32)), (.ref b2)])) t → Steps p.tables e below (s₁.setTop (entryFrame m #[(.ref a), (.int v), (.double x)] 7)) t := by
    intro t kk
    refine pre0 _ ?_
    show Steps p.tables e below (s₁.setTop (mkF m 0 #[.val (.ref a), .val (.int v), .val (.double x), .second, .unset, .unset, .unset] [])) _
    refine XS.lconst X0.here hx rfl (hb hby d17_0) ?_
    show Steps p.tables e below (s₁.setTop (mkF m 1 #[.val (.ref a), .val (.int v), .val (.double x), .second, .unset, .unset, .unset] [(.long (1 : Int64))])) _
    refine XS.iloadN X0.here hx rfl (hb hby d17_1) rfl ?_
    show Steps p.tables e below (s₁.setTop (mkF m 2 #[.val (.ref a), .val (.int v), .val (.double x), .second, .unset, .unset, .unset] [(.int v), (.long (1 : Int64))])) _
    refine XS.lshl X0.here hx rfl (hb hby d17_2) rfl ?_
    show Steps p.tables e below (s₁.setTop (mkF m 3 #[.val (.ref a), .val (.int v), .val (.double x), .second, .unset, .unset, .unset] [(.long (((1 : Int64) <<< (v &&& 0x3f).toInt64)))])) _
    refine XS.lstore X0.here hx rfl (hb hby d17_3) rfl (l' := #[.val (.ref a), .val (.int v), .val (.double x), .second, .val (.long (((1 : Int64) <<< (v &&& 0x3f).toInt64))), .second, .unset]) rfl ?_
    show Steps p.tables e below (s₁.setTop (mkF m 5 #[.val (.ref a), .val (.int v), .val (.double x), .second, .val (.long (((1 : Int64) <<< (v &&& 0x3f).toInt64))), .second, .unset] [])) _
    refine XS.aloadN X0.here hx rfl (hb hby d17_5) rfl rfl ?_
    show Steps p.tables e below (s₁.setTop (mkF m 6 #[.val (.ref a), .val (.int v), .val (.double x), .second, .val (.long (((1 : Int64) <<< (v &&& 0x3f).toInt64))), .second, .unset] [(.ref a)])) _
    refine st1 _ ?_
    show Steps p.tables e below (T1.setTop (mkF m 9 #[.val (.ref a), .val (.int v), .val (.double x), .second, .val (.long (((1 : Int64) <<< (v &&& 0x3f).toInt64))), .second, .unset] [(.int (0 : Int32))])) _
    refine XS.ifNo X1.here hx rfl (hb hby d17_9) rfl (XT.i0_ne_f rfl) ?_
    show Steps p.tables e below (T1.setTop (mkF m 12 #[.val (.ref a), .val (.int v), .val (.double x), .second, .val (.long (((1 : Int64) <<< (v &&& 0x3f).toInt64))), .second, .unset] [])) _
    refine XS.aloadN X1.here hx rfl (hb hby d17_12) rfl rfl ?_
    show Steps p.tables e below (T1.setTop (mkF m 13 #[.val (.ref a), .val (.int v), .val (.double x), .second, .val (.long (((1 : Int64) <<< (v &&& 0x3f).toInt64))), .second, .unset] [(.ref a)])) _
    refine st2 _ ?_
    show Steps p.tables e below (T2.setTop (mkF m 16 #[.val (.ref a), .val (.int v), .val (.double x), .second, .val (.long (((1 : Int64) <<< (v &&& 0x3f).toInt64))), .second, .unset] [(.long sn)])) _
    refine XS.lload X2.here hx rfl (hb hby d17_16) rfl ?_
    show Steps p.tables e below (T2.setTop (mkF m 18 #[.val (.ref a), .val (.int v), .val (.double x), .second, .val (.long (((1 : Int64) <<< (v &&& 0x3f).toInt64))), .second, .unset] [(.long (((1 : Int64) <<< (v &&& 0x3f).toInt64))), (.long sn)])) _
    refine XS.land X2.here hx rfl (hb hby d17_18) rfl ?_
    show Steps p.tables e below (T2.setTop (mkF m 19 #[.val (.ref a), .val (.int v), .val (.double x), .second, .val (.long (((1 : Int64) <<< (v &&& 0x3f).toInt64))), .second, .unset] [(.long (sn &&& (((1 : Int64) <<< (v &&& 0x3f).toInt64))))])) _
    refine XS.lconst X2.here hx rfl (hb hby d17_19) ?_
    show Steps p.tables e below (T2.setTop (mkF m 20 #[.val (.ref a), .val (.int v), .val (.double x), .second, .val (.long (((1 : Int64) <<< (v &&& 0x3f).toInt64))), .second, .unset] [(.long (0 : Int64)), (.long (sn &&& (((1 : Int64) <<< (v &&& 0x3f).toInt64))))])) _
    refine XT.lcmp X2.here hx rfl (hb hby d17_20) rfl ?_
    show Steps p.tables e below (T2.setTop (mkF m 21 #[.val (.ref a), .val (.int v), .val (.double x), .second, .val (.long (((1 : Int64) <<< (v &&& 0x3f).toInt64))), .second, .unset] [(.int (XT.cmpL (sn &&& (((1 : Int64) <<< (v &&& 0x3f).toInt64))) (0 : Int64)))])) _
    refine XS.ifNo X2.here hx rfl (hb hby d17_21) rfl (XT.ll_eq_f pr19) ?_
    show Steps p.tables e below (T2.setTop (mkF m 24 #[.val (.ref a), .val (.int v), .val (.double x), .second, .val (.long (((1 : Int64) <<< (v &&& 0x3f).toInt64))), .second, .unset] [])) _
    refine XS.aloadN X2.here hx rfl (hb hby d17_24) rfl rfl ?_
    show Steps p.tables e below (T2.setTop (mkF m 25 #[.val (.ref a), .val (.int v), .val (.double x), .second, .val (.long (((1 : Int64) <<< (v &&& 0x3f).toInt64))), .second, .unset] [(.ref a)])) _
    refine XS.iloadN X2.here hx rfl (hb hby d17_25) rfl ?_
    show Steps p.tables e below (T2.setTop (mkF m 26 #[.val (.ref a), .val (.int v), .val (.double x), .second, .val (.long (((1 : Int64) <<< (v &&& 0x3f).toInt64))), .second, .unset] [(.int v), (.ref a)])) _
    refine st3.trans ?_
    show Steps p.tables e below (T3.setTop (mkF m 29 #[.val (.ref a), .val (.int v), .val (.double x), .second, .val (.long (((1 : Int64) <<< (v &&& 0x3f).toInt64))), .second, .unset] [(.int (0 : Int32))])) _
    refine XS.goto X3.here hx rfl (pc0 := 29) (pc' := 33) rfl (hb hby d17_29) (by decide) (by decide) ?_
    show Steps p.tables e below (T3.setTop (mkF m 33 #[.val (.ref a), .val (.int v), .val (.double x), .second, .val (.long (((1 : Int64) <<< (v &&& 0x3f).toInt64))), .second, .unset] [(.int (0 : Int32))])) _
    refine XS.istore X3.here hx rfl (hb hby d17_33) rfl (l' := #[.val (.ref a), .val (.int v), .val (.double x), .second, .val (.long (((1 : Int64) <<< (v &&& 0x3f).toInt64))), .second, .val (.int (0 : Int32))]) rfl ?_
    show Steps p.tables e below (T3.setTop (mkF m 35 #[.val (.ref a), .val (.int v), .val (.double x), .second, .val (.long (((1 : Int64) <<< (v &&& 0x3f).toInt64))), .second, .val (.int (0 : Int32))] [])) _
    refine XS.aloadN X3.here hx rfl (hb hby d17_35) rfl rfl ?_
    show Steps p.tables e below (T3.setTop (mkF m 36 #[.val (.ref a), .val (.int v), .val (.double x), .second, .val (.long (((1 : Int64) <<< (v &&& 0x3f).toInt64))), .second, .val (.int (0 : Int32))] [(.ref a)])) _
    refine XS.dup X3.here hx rfl (hb hby d17_36) rfl rfl ?_
    show Steps p.tables e below (T3.setTop (mkF m 37 #[.val (.ref a), .val (.int v), .val (.double x), .second, .val (.long (((1 : Int64) <<< (v &&& 0x3f).toInt64))), .second, .val (.int (0 : Int32))] [(.ref a), (.ref a)])) _
    refine st4 _ ?_
    show Steps p.tables e below (T4.setTop (mkF m 40 #[.val (.ref a), .val (.int v), .val (.double x), .second, .val (.long (((1 : Int64) <<< (v &&& 0x3f).toInt64))), .second, .val (.int (0 : Int32))] [(.long sn), (.ref a)])) _
    refine XS.lload X4.here hx rfl (hb hby d17_40) rfl ?_
    show Steps p.tables e below (T4.setTop (mkF m 42 #[.val (.ref a), .val (.int v), .val (.double x), .second, .val (.long (((1 : Int64) <<< (v &&& 0x3f).toInt64))), .second, .val (.int (0 : Int32))] [(.long (((1 : Int64) <<< (v &&& 0x3f).toInt64))), (.long sn), (.ref a)])) _
    refine XS.lor X4.here hx rfl (hb hby d17_42) rfl ?_
    show Steps p.tables e below (T4.setTop (mkF m 43 #[.val (.ref a), .val (.int v), .val (.double x), .second, .val (.long (((1 : Int64) <<< (v &&& 0x3f).toInt64))), .second, .val (.int (0 : Int32))] [(.long (sn ||| (((1 : Int64) <<< (v &&& 0x3f).toInt64)))), (.ref a)])) _
    refine st5 _ ?_
    show Steps p.tables e below (T5.setTop (mkF m 46 #[.val (.ref a), .val (.int v), .val (.double x), .second, .val (.long (((1 : Int64) <<< (v &&& 0x3f).toInt64))), .second, .val (.int (0 : Int32))] [])) _
    refine XS.iload X5.here hx rfl (hb hby d17_46) rfl ?_
    show Steps p.tables e below (T5.setTop (mkF m 48 #[.val (.ref a), .val (.int v), .val (.double x), .second, .val (.long (((1 : Int64) <<< (v &&& 0x3f).toInt64))), .second, .val (.int (0 : Int32))] [(.int (0 : Int32))])) _
    refine XS.ifNo X5.here hx rfl (hb hby d17_48) rfl (XT.i0_lt_f (by decide)) ?_
    show Steps p.tables e below (T5.setTop (mkF m 51 #[.val (.ref a), .val (.int v), .val (.double x), .second, .val (.long (((1 : Int64) <<< (v &&& 0x3f).toInt64))), .second, .val (.int (0 : Int32))] [])) _
    refine XS.aloadN X5.here hx rfl (hb hby d17_51) rfl rfl ?_
    show Steps p.tables e below (T5.setTop (mkF m 52 #[.val (.ref a), .val (.int v), .val (.double x), .second, .val (.long (((1 : Int64) <<< (v &&& 0x3f).toInt64))), .second, .val (.int (0 : Int32))] [(.ref a)])) _
    refine st7 _ ?_
    show Steps p.tables e below (T7.setTop (mkF m 55 #[.val (.ref a), .val (.int v), .val (.double x), .second, .val (.long (((1 : Int64) <<< (v &&& 0x3f).toInt64))), .second, .val (.int (0 : Int32))] [(.ref b2)])) _
    refine XS.iload X7.here hx rfl (hb hby d17_55) rfl ?_
    show Steps p.tables e below (T7.setTop (mkF m 57 #[.val (.ref a), .val (.int v), .val (.double x), .second, .val (.long (((1 : Int64) <<< (v &&& 0x3f).toInt64))), .second, .val (.int (0 : Int32))] [(.int (0 : Int32)), (.ref b2)])) _
    exact kk
  obtain ⟨T9, X9, e9, st9⟩ := getF X7 hx hZ hown (host := "") (Or.inl (hw _ (List.mem_of_getElem? (i := 13) rfl))) Via.refl e7 f6 (g := (mkF m 58 #[.val (.ref a), .val (.int v), .val (.double x), .second, .val (.long (((1 : Int64) <<< (v &&& 0x3f).toInt64))), .second, .val (.int (0 : Int32))] [(.ref a), (.int (0 : Int32)), (.ref b2)])) rfl rfl (hb hby d17_58)
  have f10 := (pr8.other W5 (Ne.symm pr13))
  obtain ⟨cl_a11, Ar_a11, q_a11, S_a11, N_a11, H_a11, G_a11⟩ := id f10
  have hin_a11 : ¬ ((0 : Int32) < 0 ∨ cl_a11.slots.size ≤ ((0 : Int32)).toNatClampNeg) := inb_of S_a11 ⟨by decide, by decide⟩
  have hat_a11 := Has.at (v := (.double cc)) H_a11 hin_a11 pr20
  obtain ⟨T12, X12, e12, st12⟩ := natS X9 hx hZ hown (hw _ (List.mem_of_getElem? (i := 69) rfl)) (hw _ (List.mem_of_getElem? (i := 70) rfl)) (hw _ (List.mem_of_getElem? (i := 71) rfl)) (hw _ (List.mem_of_getElem? (i := 72) rfl)) (by decide) e9 (W := 2) (fun cz => Jvm.Free.Fl.Abs.minD_pays (W := 2) cc x cz (by decide) (by decide)) (g := (mkF m 65 #[.val (.ref a), .val (.int v), .val (.double x), .second, .val (.long (((1 : Int64) <<< (v &&& 0x3f).toInt64))), .second, .val (.int (0 : Int32))] [(.double x), (.double cc), (.int (0 : Int32)), (.ref b2)])) rfl (by rw [hml]; rfl) (argsL := [(.double cc), (.double x)]) (rest := [(.int (0 : Int32)), (.ref b2)]) (lenOf pd_1 rfl) rfl (by show 2 * 0 + _ ≤ _; exact Nat.le_of_eq rfl) (hb hby d17_65) (by decide) (by decide) ⟨rfl, pr21, pr22⟩ rfl
  obtain ⟨cl_a13, Ar_a13, q_a13, S_a13, N_a13, H_a13, G_a13⟩ := id f10
  have hin_a13 : ¬ ((0 : Int32) < 0 ∨ cl_a13.slots.size ≤ ((0 : Int32)).toNatClampNeg) := inb_of S_a13 ⟨by decide, by decide⟩
  obtain ⟨T14, h14, X14, e14, W14, st14⟩ := stD X12 hx hZ e12 Ar_a13 (j := (0 : Int32)) hin_a13 (g := (mkF m 68 #[.val (.ref a), .val (.int v), .val (.double x), .second, .val (.long (((1 : Int64) <<< (v &&& 0x3f).toInt64))), .second, .val (.int (0 : Int32))] [(.double (Native.java_lang_Math.nans.pick64 false cc x)), (.int (0 : Int32)), (.ref b2)])) rfl rfl (hb hby d17_68)
  have V14 : Arv Z h14 b2 k2 .double (16 : Int32) (ds.set 0 (.double (Native.java_lang_Math.nans.pick64 false cc x))) d2 := Arv.set Ar_a13 q_a13 S_a13 N_a13 H_a13 G_a13 rfl W14 0 rfl (by rw [pr16]; decide)
  have N14 := Fr.snoc X14 N5 pr11
  have P15 : ∀ t, Steps p.tables e below (T14.setTop (mkF m 69 #[.val (.ref a), .val (.int v), .val (.double x), .second, .val (.long (((1 : Int64) <<< (v &&& 0x3f).toInt64))), .second, .val (.int (0 : Int32))] [])) t → Steps p.tables e below (s₁.setTop (entryFrame m #[(.ref a), (.int v), (.double x)] 7)) t := by
    intro t kk
    refine P8 _ ?_
    show Steps p.tables e below (T7.setTop (mkF m 57 #[.val (.ref a), .val (.int v), .val (.double x), .second, .val (.long (((1 : Int64) <<< (v &&& 0x3f).toInt64))), .second, .val (.int (0 : Int32))] [(.int (0 : Int32)), (.ref b2)])) _
    refine XS.aloadN X7.here hx rfl (hb hby d17_57) rfl rfl ?_
    show Steps p.tables e below (T7.setTop (mkF m 58 #[.val (.ref a), .val (.int v), .val (.double x), .second, .val (.long (((1 : Int64) <<< (v &&& 0x3f).toInt64))), .second, .val (.int (0 : Int32))] [(.ref a), (.int (0 : Int32)), (.ref b2)])) _
    refine st9 _ ?_
    show Steps p.tables e below (T9.setTop (mkF m 61 #[.val (.ref a), .val (.int v), .val (.double x), .second, .val (.long (((1 : Int64) <<< (v &&& 0x3f).toInt64))), .second, .val (.int (0 : Int32))] [(.ref b2), (.int (0 : Int32)), (.ref b2)])) _
    refine XS.iload X9.here hx rfl (hb hby d17_61) rfl ?_
    show Steps p.tables e below (T9.setTop (mkF m 63 #[.val (.ref a), .val (.int v), .val (.double x), .second, .val (.long (((1 : Int64) <<< (v &&& 0x3f).toInt64))), .second, .val (.int (0 : Int32))] [(.int (0 : Int32)), (.ref b2), (.int (0 : Int32)), (.ref b2)])) _
    refine X9.daload hx (j := (0 : Int32)) (v := (.double cc)) (by rw [e9]; exact Ar_a11.1) (State.isArrayOf_alike hZ.alike Ar_a11.2.1) Ar_a11.2.2 hin_a11 hat_a11 (g := (mkF m 63 #[.val (.ref a), .val (.int v), .val (.double x), .second, .val (.long (((1 : Int64) <<< (v &&& 0x3f).toInt64))), .second, .val (.int (0 : Int32))] [(.int (0 : Int32)), (.ref b2), (.int (0 : Int32)), (.ref b2)])) rfl rfl (hb hby d17_63) _ ?_
    show Steps p.tables e below (T9.setTop (mkF m 64 #[.val (.ref a), .val (.int v), .val (.double x), .second, .val (.long (((1 : Int64) <<< (v &&& 0x3f).toInt64))), .second, .val (.int (0 : Int32))] [(.double cc), (.int (0 : Int32)), (.ref b2)])) _
    refine XS.dloadN X9.here hx rfl (hb hby d17_64) rfl ?_
    show Steps p.tables e below (T9.setTop (mkF m 65 #[.val (.ref a), .val (.int v), .val (.double x), .second, .val (.long (((1 : Int64) <<< (v &&& 0x3f).toInt64))), .second, .val (.int (0 : Int32))] [(.double x), (.double cc), (.int (0 : Int32)), (.ref b2)])) _
    refine st12 _ ?_
    show Steps p.tables e below (T12.setTop (mkF m 68 #[.val (.ref a), .val (.int v), .val (.double x), .second, .val (.long (((1 : Int64) <<< (v &&& 0x3f).toInt64))), .second, .val (.int (0 : Int32))] [(.double (Native.java_lang_Math.nans.pick64 false cc x)), (.int (0 : Int32)), (.ref b2)])) _
    refine st14 _ ?_
    show Steps p.tables e below (T14.setTop (mkF m 69 #[.val (.ref a), .val (.int v), .val (.double x), .second, .val (.long (((1 : Int64) <<< (v &&& 0x3f).toInt64))), .second, .val (.int (0 : Int32))] [])) _
    exact kk
  have k16 : Keep h0 h14 [a, b1, b2] := (Keep.wr (Keep.wr (Keep.refl h0 [a, b1, b2]) W5 (Or.inl (List.mem_of_getElem? (i := 0) rfl))) W14 (Or.inl (List.mem_of_getElem? (i := 2) rfl)))
  have f17 := (Fld.other W14 Fw5 (Or.inl pr13))
  have f18 := ((pr7.other W5 (Ne.symm pr12)).other W14 pr14)
  have f19 := (Fld.other W14 (Fld.other W5 pr1 (Or.inr (slot_ne (Or.inl (hw _ (List.mem_of_getElem? (i := 32) rfl))) (Or.inl (hw _ (List.mem_of_getElem? (i := 36) rfl))) (by decide) (t := .boolean) (t' := .long) (by decide) (by decide)))) (Or.inl pr13))
  have f20 := (Fld.other W14 (Fld.other W5 pr2 (Or.inr (slot_ne (Or.inl (hw _ (List.mem_of_getElem? (i := 34) rfl))) (Or.inl (hw _ (List.mem_of_getElem? (i := 36) rfl))) (by decide) (t := .int) (t' := .long) (by decide) (by decide)))) (Or.inl pr13))
  have f21 := (Fld.other W14 (Fld.other W5 pr4 (Or.inr (slot_ne (Or.inl (hw _ (List.mem_of_getElem? (i := 25) rfl))) (Or.inl (hw _ (List.mem_of_getElem? (i := 36) rfl))) (by decide) (t := .long) (t' := .long) (by decide) (by decide)))) (Or.inl pr13))
  have f22 := (Fld.other W14 (Fld.other W5 pr5 (Or.inr (slot_ne (Or.inl (hw _ (List.mem_of_getElem? (i := 11) rfl))) (Or.inl (hw _ (List.mem_of_getElem? (i := 36) rfl))) (by decide) (t := (.array .int)) (t' := .long) (by decide) (by decide)))) (Or.inl pr13))
  have f23 := (Fld.other W14 f6 (Or.inl pr13))
  obtain ⟨fs, hr, hrun, hended, hW, hsame⟩ := X14.leave (v := none) (fun _ => rfl)
  refine ⟨_, _, P15 _ ?_, hrun, hended, _, _, rfl, ?_, ⟨_, rfl⟩, hW, hsame.mono (by decide) (by decide)⟩
  · exact X14.returnOut hx Bd.returns (hb hby d17_69) hr
  · show Q17 Z a v x ar sn b1 k1 vs d1 b2 k2 ds d2 y0 cc h0 n0 _ T14.heap _
    rw [e14]
    exact ⟨rfl, N14, k16, f17, f18, V14, f19, f20, f21, f22, f23⟩
theorem d18_0 : decode prog_104_method_8_code 0 = .ok (.lconst 1, 1) := by decide +kernel
theorem d18_1 : decode prog_104_method_8_code 1 = .ok (.iload_n 1, 1) := by decide +kernel
theorem d18_2 : decode prog_104_method_8_code 2 = .ok (.lshl, 1) := by decide +kernel
theorem d18_3 : decode prog_104_method_8_code 3 = .ok (.lstore 4, 2) := by decide +kernel
theorem d18_5 : decode prog_104_method_8_code 5 = .ok (.aload_n 0, 1) := by decide +kernel
theorem d18_6 : decode prog_104_method_8_code 6 = .ok (.getfield 31, 3) := by decide +kernel
theorem d18_9 : decode prog_104_method_8_code 9 = .ok (.ifCond .ne 15, 3) := by decide +kernel
theorem d18_12 : decode prog_104_method_8_code 12 = .ok (.aload_n 0, 1) := by decide +kernel
theorem d18_13 : decode prog_104_method_8_code 13 = .ok (.getfield 35, 3) := by decide +kernel
theorem d18_16 : decode prog_104_method_8_code 16 = .ok (.lload 4, 2) := by decide +kernel
theorem d18_18 : decode prog_104_method_8_code 18 = .ok (.land, 1) := by decide +kernel
theorem d18_19 : decode prog_104_method_8_code 19 = .ok (.lconst 0, 1) := by decide +kernel
theorem d18_20 : decode prog_104_method_8_code 20 = .ok (.lcmp, 1) := by decide +kernel
theorem d18_21 : decode prog_104_method_8_code 21 = .ok (.ifCond .eq 11, 3) := by decide +kernel
theorem d18_24 : decode prog_104_method_8_code 24 = .ok (.aload_n 0, 1) := by decide +kernel
theorem d18_25 : decode prog_104_method_8_code 25 = .ok (.iload_n 1, 1) := by decide +kernel
theorem d18_26 : decode prog_104_method_8_code 26 = .ok (.invokevirtual 38, 3) := by decide +kernel
theorem d18_29 : decode prog_104_method_8_code 29 = .ok (.goto 4, 3) := by decide +kernel
theorem d18_33 : decode prog_104_method_8_code 33 = .ok (.istore 6, 2) := by decide +kernel
theorem d18_35 : decode prog_104_method_8_code 35 = .ok (.aload_n 0, 1) := by decide +kernel
theorem d18_36 : decode prog_104_method_8_code 36 = .ok (.dup, 1) := by decide +kernel
theorem d18_37 : decode prog_104_method_8_code 37 = .ok (.getfield 35, 3) := by decide +kernel
theorem d18_40 : decode prog_104_method_8_code 40 = .ok (.lload 4, 2) := by decide +kernel
theorem d18_42 : decode prog_104_method_8_code 42 = .ok (.lor, 1) := by decide +kernel
theorem d18_43 : decode prog_104_method_8_code 43 = .ok (.putfield 35, 3) := by decide +kernel
theorem d18_46 : decode prog_104_method_8_code 46 = .ok (.iload 6, 2) := by decide +kernel
theorem d18_48 : decode prog_104_method_8_code 48 = .ok (.ifCond .lt 22, 3) := by decide +kernel
theorem d18_51 : decode prog_104_method_8_code 51 = .ok (.aload_n 0, 1) := by decide +kernel
theorem d18_52 : decode prog_104_method_8_code 52 = .ok (.getfield 13, 3) := by decide +kernel
theorem d18_55 : decode prog_104_method_8_code 55 = .ok (.iload 6, 2) := by decide +kernel
theorem d18_57 : decode prog_104_method_8_code 57 = .ok (.aload_n 0, 1) := by decide +kernel
theorem d18_58 : decode prog_104_method_8_code 58 = .ok (.getfield 13, 3) := by decide +kernel
theorem d18_61 : decode prog_104_method_8_code 61 = .ok (.iload 6, 2) := by decide +kernel
theorem d18_63 : decode prog_104_method_8_code 63 = .ok (.daload, 1) := by decide +kernel
theorem d18_64 : decode prog_104_method_8_code 64 = .ok (.dload_n 2, 1) := by decide +kernel
theorem d18_65 : decode prog_104_method_8_code 65 = .ok (.invokestatic 42, 3) := by decide +kernel
theorem d18_68 : decode prog_104_method_8_code 68 = .ok (.dastore, 1) := by decide +kernel
theorem d18_69 : decode prog_104_method_8_code 69 = .ok (.return_, 1) := by decide +kernel
theorem ef_18 (m : MethodId) (x0 : Addr) (x1 : Int32) (x2 : UInt64) : entryFrame m #[(.ref x0), (.int x1), (.double x2)] 7 = (mkF m 0 #[.val (.ref x0), .val (.int x1), .val (.double x2), .second, .unset, .unset, .unset] []) := by first | (simp [entryFrame, mkF, argsToLocals, Value.category]; done) | rfl
def Q18 (Z : State) (a : Addr) (v : Int32) (x : UInt64) (ar : Int64) (sn : Int64) (b1 : Addr) (k1 : ClassId) (vs : List Value) (d1 : Value) (b2 : Addr) (k2 : ClassId) (ds : List Value) (d2 : Value) (y0 : Int32) (y1 : Int32) (cc : UInt64) (h0 : Heap) (n0 : Nat) (vX : Option Value) (hX : Heap) (lX : List Loc) : Prop := vX = none ∧ Fr n0 lX ∧ (Keep h0 hX [a, b1, b2]) ∧ (Fld Z hX a "org/wayfold/search/Steps" "seen" "J" (.long (sn ||| ((1 : Int64) <<< (v &&& 0x3f).toInt64)))) ∧ (Arv Z hX b1 k1 .int (16 : Int32) vs d1) ∧ (Arv Z hX b2 k2 .double (16 : Int32) (ds.set 1 (.double (Native.java_lang_Math.nans.pick64 false cc x))) d2) ∧ (Fld Z hX a "org/wayfold/search/Steps" "hashed" "Z" (.int (0 : Int32))) ∧ (Fld Z hX a "org/wayfold/search/Steps" "size" "I" (.int (2 : Int32))) ∧ (Fld Z hX a "org/wayfold/search/Steps" "arcsRead" "J" (.long ar)) ∧ (Fld Z hX a "org/wayfold/search/Steps" "vertices" "[I" (.ref b1)) ∧ (Fld Z hX a "org/wayfold/search/Steps" "costs" "[D" (.ref b2))
set_option maxRecDepth 65536 in
set_option maxHeartbeats 40000000 in
theorem rm18 (l : Launch) (Z : State) (a0 : Array Value) (hw : ∀ d ∈ tables_1, d.before a0 Z = true) (ws : List Jvm.Cond) (a : Addr) (v : Int32) (x : UInt64) (ar : Int64) (sn : Int64) (b1 : Addr) (k1 : ClassId) (vs : List Value) (d1 : Value) (b2 : Addr) (k2 : ClassId) (ds : List Value) (d2 : Value) (y0 : Int32) (y1 : Int32) (cc : UInt64) (h0 : Heap) (n0 : Nat) (Z0 : n0 ≤ h0.size) (pr0 : Exa Z h0 a "org/wayfold/search/Steps") (pr1 : Fld Z h0 a "org/wayfold/search/Steps" "hashed" "Z" (.int (0 : Int32))) (pr2 : Fld Z h0 a "org/wayfold/search/Steps" "size" "I" (.int (2 : Int32))) (pr3 : Fld Z h0 a "org/wayfold/search/Steps" "seen" "J" (.long sn)) (pr4 : Fld Z h0 a "org/wayfold/search/Steps" "arcsRead" "J" (.long ar)) (pr5 : Fld Z h0 a "org/wayfold/search/Steps" "vertices" "[I" (.ref b1)) (pr6 : Fld Z h0 a "org/wayfold/search/Steps" "costs" "[D" (.ref b2)) (pr7 : Arv Z h0 b1 k1 .int (16 : Int32) vs d1) (pr8 : Arv Z h0 b2 k2 .double (16 : Int32) ds d2) (pr9 : n0 ≤ a) (pr10 : n0 ≤ b1) (pr11 : n0 ≤ b2) (pr12 : a ≠ b1) (pr13 : a ≠ b2) (pr14 : b1 ≠ b2) (pr15 : vs.length = 16) (pr16 : ds.length = 16) (pr17 : vs.getD (0 : Int32).toNatClampNeg d1 = .int y0) (pr18 : ¬ y0 = v) (pr19 : vs.getD (1 : Int32).toNatClampNeg d1 = .int y1) (pr20 : y1 = v) (pr21 : ¬ (sn &&& ((1 : Int64) <<< (v &&& 0x3f).toInt64)) = (0 : Int64)) (pr22 : ds.getD (1 : Int32).toNatClampNeg d2 = .double cc) (pr23 : Jvm.Free.Fl.NoNaN64 cc) (pr24 : Jvm.Free.Fl.NoNaN64 x) :
    MetFree l (⟨"org/wayfold/search/Steps", "merge", "(ID)V"⟩ : MethodName) (head1 (Jvm.Cond.code (⟨"org/wayfold/search/Steps", "merge", "(ID)V"⟩ : MethodName) prog_104_method_8_code 7 none :: ws) ({ frames := 1, cells := 0, slots := 0, locals := 17 } : Room)) (fun aX uX => aX = #[(.ref a), (.int v), (.double x)] ∧ Z.Warmed39 uX.vm ∧ uX.heap = h0) (fun _ _ _ _ _ => True) (fun _ uX oX wX => ∃ vX lX, oX = .returned vX ∧ Q18 Z a v x ar sn b1 k1 vs d1 b2 k2 ds d2 y0 y1 cc h0 n0 vX wX.heap lX ∧ FrameEnd uX oX wX lX ({ frames := 1, cells := 0, slots := 0, locals := 17 } : Room).cells ({ frames := 1, cells := 0, slots := 0, locals := 17 } : Room).slots) := by
  refine MetFree.of_bodySF (plainFor_of_name pn_0) hisR ?_
  intro p e s m args below meth c s₁ Bd hml0 hP hK
  obtain ⟨rfl, hZ, hh⟩ := hP
  have hx := Bd.exec
  have hby := Bd.bytes
  have hml : c.maxLocals = 7 := hml0
  have hown : s.vm.findClass "org/wayfold/search/Steps" = some m.cls := findClass_of_methodNamed Bd.named
  have hnm := (name_of_methodNamed Bd.named Bd.method).1
  have X0 : Stand p l e ({ frames := 1, cells := 0, slots := 0, locals := 17 } : Room) s m #[(.ref a), (.int v), (.double x)] below meth c s₁ [] 0 0 := Stand.of_body Bd
  have e0 : s₁.heap = h0 := by rw [← hh, Bd.state]; rfl
  have N0 := Fr.nil n0
  have pre0 : ∀ t, Steps p.tables e below (s₁.setTop (mkF m 0 #[.val (.ref a), .val (.int v), .val (.double x), .second, .unset, .unset, .unset] [])) t → Steps p.tables e below (s₁.setTop (entryFrame m #[(.ref a), (.int v), (.double x)] 7)) t := fun t k => castTop (ef_18 m a v x) k
  obtain ⟨T1, X1, e1, st1⟩ := getF X0 hx hZ hown (host := "") (Or.inl (hw _ (List.mem_of_getElem? (i := 31) rfl))) Via.refl e0 pr1 (g := (mkF m 6 #[.val (.ref a), .val (.int v), .val (.double x), .second, .val (.long (((1 : Int64) <<< (v &&& 0x3f).toInt64))), .second, .unset] [(.ref a)])) rfl rfl (hb hby d18_6)
  obtain ⟨T2, X2, e2, st2⟩ := getF X1 hx hZ hown (host := "") (Or.inl (hw _ (List.mem_of_getElem? (i := 35) rfl))) Via.refl e1 pr3 (g := (mkF m 13 #[.val (.ref a), .val (.int v), .val (.double x), .second, .val (.long (((1 : Int64) <<< (v &&& 0x3f).toInt64))), .second, .unset] [(.ref a)])) rfl rfl (hb hby d18_13)
  obtain ⟨cq3, q3, q3'⟩ := pr0.cell
  obtain ⟨_, _, ⟨T3, L3, k3, n3⟩, -, X3, ⟨Lc3, hQ3, l3, y3, z3⟩, st3⟩ := X2.privateBack hx (y := (⟨"org/wayfold/search/Steps", "find", "(I)I"⟩ : MethodName)) hown (mvT hZ (hw _ (List.mem_of_getElem? (i := 65) rfl))) (mvT hZ (hw _ (List.mem_of_getElem? (i := 66) rfl))) (own_selpriv (y := (⟨"org/wayfold/search/Steps", "find", "(I)I"⟩ : MethodName)) (y' := (⟨"org/wayfold/search/Steps", "arcsRead", "(J)V"⟩ : MethodName)) rfl (mvT hZ (hw _ (List.mem_of_getElem? (i := 22) rfl))) (Cond.privateMethod_at (mvP hZ (hw _ (List.mem_of_getElem? (i := 67) rfl)) (args := #[]))) (mvT hZ (hw _ (List.mem_of_getElem? (i := 66) rfl))) (by decide)) (Cond.privateMethod_at (mvP hZ (hw _ (List.mem_of_getElem? (i := 67) rfl)) (args := #[]))) (mvT hZ (hw _ (List.mem_of_getElem? (i := 68) rfl))) (by decide) (backOf (W := 0) (rm12 l Z a0 hw [] a v b1 k1 vs d1 y0 y1 h0 n0 Z0 pr0 pr1 pr2 pr5 pr7 pr17 pr18 pr19 pr20) hZ (hw _ (List.mem_of_getElem? (i := 68) rfl)) (hw _ (List.mem_of_getElem? (i := 2) rfl)) (by decide) (by decide)) (g := (mkF m 26 #[.val (.ref a), .val (.int v), .val (.double x), .second, .val (.long (((1 : Int64) <<< (v &&& 0x3f).toInt64))), .second, .unset] [(.int v), (.ref a)])) rfl (by rw [hml]; rfl) (Steps.refl _) (a := a) (by rw [e2]; exact q3) q3' (argsL := [(.int v)]) (rest := []) (lenOf pd_0 rfl) rfl (by show 2 * 0 + _ ≤ _; exact Nat.le_of_eq rfl) (hb hby d18_26) (fun _ _ => ⟨rfl, e2, (by decide : 0 + 0 ≤ _), (by decide : 0 + 0 ≤ _)⟩)
  dsimp only [Pt.U, Pt.locs, Pt.cells, Pt.slots] at X3 l3 y3 z3 st3 hQ3
  subst l3 y3 z3
  obtain ⟨rfl, Nq3, e3⟩ := hQ3
  have N3 := Fr.app N0 Nq3
  obtain ⟨T4, X4, e4, st4⟩ := getF X3 hx hZ hown (host := "") (Or.inl (hw _ (List.mem_of_getElem? (i := 35) rfl))) Via.refl e3 pr3 (g := (mkF m 37 #[.val (.ref a), .val (.int v), .val (.double x), .second, .val (.long (((1 : Int64) <<< (v &&& 0x3f).toInt64))), .second, .val (.int (1 : Int32))] [(.ref a), (.ref a)])) rfl rfl (hb hby d18_37)
  obtain ⟨T5, h5, X5, e5, W5, st5⟩ := putF X4 hx hZ hown (host := "") (Or.inl (hw _ (List.mem_of_getElem? (i := 35) rfl))) Via.refl e4 pr3 pr0 (Or.inl (hw _ (List.mem_of_getElem? (i := 36) rfl))) (hw _ (List.mem_of_getElem? (i := 1) rfl)) (ty := .long) (by decide) rfl rfl (g := (mkF m 43 #[.val (.ref a), .val (.int v), .val (.double x), .second, .val (.long (((1 : Int64) <<< (v &&& 0x3f).toInt64))), .second, .val (.int (1 : Int32))] [(.long (sn ||| (((1 : Int64) <<< (v &&& 0x3f).toInt64)))), (.ref a)])) rfl rfl (hb hby d18_43)
  have N5 := Fr.snoc X5 N3 pr9
  have Fw5 := Fld.same W5 pr3
  have f6 := (Fld.other W5 pr6 (Or.inr (slot_ne (Or.inl (hw _ (List.mem_of_getElem? (i := 14) rfl))) (Or.inl (hw _ (List.mem_of_getElem? (i := 36) rfl))) (by decide) (t := (.array .double)) (t' := .long) (by decide) (by decide))))
  obtain ⟨T7, X7, e7, st7⟩ := getF X5 hx hZ hown (host := "") (Or.inl (hw _ (List.mem_of_getElem? (i := 13) rfl))) Via.refl e5 f6 (g := (mkF m 52 #[.val (.ref a), .val (.int v), .val (.double x), .second, .val (.long (((1 : Int64) <<< (v &&& 0x3f).toInt64))), .second, .val (.int (1 : Int32))] [(.ref a)])) rfl rfl (hb hby d18_52)
  have P8 : ∀ t, Steps p.tables e below (T7.setTop (mkF m 57 #[.val (.ref a), .val (.int v), .val (.double x), .second, .val (.long (((1 : Int64) <<< (v &&& 0x3f).toInt64))), .second, .val (.int (1 : Int32))] [(.int (1 : Int32)), (.ref b2)])) t → Steps p.tables e below (s₁.setTop (entryFrame m #[(.ref a), (.int v), (.double x)] 7)) t := by
    intro t kk
    refine pre0 _ ?_
    show Steps p.tables e below (s₁.setTop (mkF m 0 #[.val (.ref a), .val (.int v), .val (.double x), .second, .unset, .unset, .unset] [])) _
    refine XS.lconst X0.here hx rfl (hb hby d18_0) ?_
    show Steps p.tables e below (s₁.setTop (mkF m 1 #[.val (.ref a), .val (.int v), .val (.double x), .second, .unset, .unset, .unset] [(.long (1 : Int64))])) _
    refine XS.iloadN X0.here hx rfl (hb hby d18_1) rfl ?_
    show Steps p.tables e below (s₁.setTop (mkF m 2 #[.val (.ref a), .val (.int v), .val (.double x), .second, .unset, .unset, .unset] [(.int v), (.long (1 : Int64))])) _
    refine XS.lshl X0.here hx rfl (hb hby d18_2) rfl ?_
    show Steps p.tables e below (s₁.setTop (mkF m 3 #[.val (.ref a), .val (.int v), .val (.double x), .second, .unset, .unset, .unset] [(.long (((1 : Int64) <<< (v &&& 0x3f).toInt64)))])) _
    refine XS.lstore X0.here hx rfl (hb hby d18_3) rfl (l' := #[.val (.ref a), .val (.int v), .val (.double x), .second, .val (.long (((1 : Int64) <<< (v &&& 0x3f).toInt64))), .second, .unset]) rfl ?_
    show Steps p.tables e below (s₁.setTop (mkF m 5 #[.val (.ref a), .val (.int v), .val (.double x), .second, .val (.long (((1 : Int64) <<< (v &&& 0x3f).toInt64))), .second, .unset] [])) _
    refine XS.aloadN X0.here hx rfl (hb hby d18_5) rfl rfl ?_
    show Steps p.tables e below (s₁.setTop (mkF m 6 #[.val (.ref a), .val (.int v), .val (.double x), .second, .val (.long (((1 : Int64) <<< (v &&& 0x3f).toInt64))), .second, .unset] [(.ref a)])) _
    refine st1 _ ?_
    show Steps p.tables e below (T1.setTop (mkF m 9 #[.val (.ref a), .val (.int v), .val (.double x), .second, .val (.long (((1 : Int64) <<< (v &&& 0x3f).toInt64))), .second, .unset] [(.int (0 : Int32))])) _
    refine XS.ifNo X1.here hx rfl (hb hby d18_9) rfl (XT.i0_ne_f rfl) ?_
    show Steps p.tables e below (T1.setTop (mkF m 12 #[.val (.ref a), .val (.int v), .val (.double x), .second, .val (.long (((1 : Int64) <<< (v &&& 0x3f).toInt64))), .second, .unset] [])) _
    refine XS.aloadN X1.here hx rfl (hb hby d18_12) rfl rfl ?_
    show Steps p.tables e below (T1.setTop (mkF m 13 #[.val (.ref a), .val (.int v), .val (.double x), .second, .val (.long (((1 : Int64) <<< (v &&& 0x3f).toInt64))), .second, .unset] [(.ref a)])) _
    refine st2 _ ?_
    show Steps p.tables e below (T2.setTop (mkF m 16 #[.val (.ref a), .val (.int v), .val (.double x), .second, .val (.long (((1 : Int64) <<< (v &&& 0x3f).toInt64))), .second, .unset] [(.long sn)])) _
    refine XS.lload X2.here hx rfl (hb hby d18_16) rfl ?_
    show Steps p.tables e below (T2.setTop (mkF m 18 #[.val (.ref a), .val (.int v), .val (.double x), .second, .val (.long (((1 : Int64) <<< (v &&& 0x3f).toInt64))), .second, .unset] [(.long (((1 : Int64) <<< (v &&& 0x3f).toInt64))), (.long sn)])) _
    refine XS.land X2.here hx rfl (hb hby d18_18) rfl ?_
    show Steps p.tables e below (T2.setTop (mkF m 19 #[.val (.ref a), .val (.int v), .val (.double x), .second, .val (.long (((1 : Int64) <<< (v &&& 0x3f).toInt64))), .second, .unset] [(.long (sn &&& (((1 : Int64) <<< (v &&& 0x3f).toInt64))))])) _
    refine XS.lconst X2.here hx rfl (hb hby d18_19) ?_
    show Steps p.tables e below (T2.setTop (mkF m 20 #[.val (.ref a), .val (.int v), .val (.double x), .second, .val (.long (((1 : Int64) <<< (v &&& 0x3f).toInt64))), .second, .unset] [(.long (0 : Int64)), (.long (sn &&& (((1 : Int64) <<< (v &&& 0x3f).toInt64))))])) _
    refine XT.lcmp X2.here hx rfl (hb hby d18_20) rfl ?_
    show Steps p.tables e below (T2.setTop (mkF m 21 #[.val (.ref a), .val (.int v), .val (.double x), .second, .val (.long (((1 : Int64) <<< (v &&& 0x3f).toInt64))), .second, .unset] [(.int (XT.cmpL (sn &&& (((1 : Int64) <<< (v &&& 0x3f).toInt64))) (0 : Int64)))])) _
    refine XS.ifNo X2.here hx rfl (hb hby d18_21) rfl (XT.ll_eq_f pr21) ?_
    show Steps p.tables e below (T2.setTop (mkF m 24 #[.val (.ref a), .val (.int v), .val (.double x), .second, .val (.long (((1 : Int64) <<< (v &&& 0x3f).toInt64))), .second, .unset] [])) _
    refine XS.aloadN X2.here hx rfl (hb hby d18_24) rfl rfl ?_
    show Steps p.tables e below (T2.setTop (mkF m 25 #[.val (.ref a), .val (.int v), .val (.double x), .second, .val (.long (((1 : Int64) <<< (v &&& 0x3f).toInt64))), .second, .unset] [(.ref a)])) _
    refine XS.iloadN X2.here hx rfl (hb hby d18_25) rfl ?_
    show Steps p.tables e below (T2.setTop (mkF m 26 #[.val (.ref a), .val (.int v), .val (.double x), .second, .val (.long (((1 : Int64) <<< (v &&& 0x3f).toInt64))), .second, .unset] [(.int v), (.ref a)])) _
    refine st3.trans ?_
    show Steps p.tables e below (T3.setTop (mkF m 29 #[.val (.ref a), .val (.int v), .val (.double x), .second, .val (.long (((1 : Int64) <<< (v &&& 0x3f).toInt64))), .second, .unset] [(.int (1 : Int32))])) _
    refine XS.goto X3.here hx rfl (pc0 := 29) (pc' := 33) rfl (hb hby d18_29) (by decide) (by decide) ?_
    show Steps p.tables e below (T3.setTop (mkF m 33 #[.val (.ref a), .val (.int v), .val (.double x), .second, .val (.long (((1 : Int64) <<< (v &&& 0x3f).toInt64))), .second, .unset] [(.int (1 : Int32))])) _
    refine XS.istore X3.here hx rfl (hb hby d18_33) rfl (l' := #[.val (.ref a), .val (.int v), .val (.double x), .second, .val (.long (((1 : Int64) <<< (v &&& 0x3f).toInt64))), .second, .val (.int (1 : Int32))]) rfl ?_
    show Steps p.tables e below (T3.setTop (mkF m 35 #[.val (.ref a), .val (.int v), .val (.double x), .second, .val (.long (((1 : Int64) <<< (v &&& 0x3f).toInt64))), .second, .val (.int (1 : Int32))] [])) _
    refine XS.aloadN X3.here hx rfl (hb hby d18_35) rfl rfl ?_
    show Steps p.tables e below (T3.setTop (mkF m 36 #[.val (.ref a), .val (.int v), .val (.double x), .second, .val (.long (((1 : Int64) <<< (v &&& 0x3f).toInt64))), .second, .val (.int (1 : Int32))] [(.ref a)])) _
    refine XS.dup X3.here hx rfl (hb hby d18_36) rfl rfl ?_
    show Steps p.tables e below (T3.setTop (mkF m 37 #[.val (.ref a), .val (.int v), .val (.double x), .second, .val (.long (((1 : Int64) <<< (v &&& 0x3f).toInt64))), .second, .val (.int (1 : Int32))] [(.ref a), (.ref a)])) _
    refine st4 _ ?_
    show Steps p.tables e below (T4.setTop (mkF m 40 #[.val (.ref a), .val (.int v), .val (.double x), .second, .val (.long (((1 : Int64) <<< (v &&& 0x3f).toInt64))), .second, .val (.int (1 : Int32))] [(.long sn), (.ref a)])) _
    refine XS.lload X4.here hx rfl (hb hby d18_40) rfl ?_
    show Steps p.tables e below (T4.setTop (mkF m 42 #[.val (.ref a), .val (.int v), .val (.double x), .second, .val (.long (((1 : Int64) <<< (v &&& 0x3f).toInt64))), .second, .val (.int (1 : Int32))] [(.long (((1 : Int64) <<< (v &&& 0x3f).toInt64))), (.long sn), (.ref a)])) _
    refine XS.lor X4.here hx rfl (hb hby d18_42) rfl ?_
    show Steps p.tables e below (T4.setTop (mkF m 43 #[.val (.ref a), .val (.int v), .val (.double x), .second, .val (.long (((1 : Int64) <<< (v &&& 0x3f).toInt64))), .second, .val (.int (1 : Int32))] [(.long (sn ||| (((1 : Int64) <<< (v &&& 0x3f).toInt64)))), (.ref a)])) _
    refine st5 _ ?_
    show Steps p.tables e below (T5.setTop (mkF m 46 #[.val (.ref a), .val (.int v), .val (.double x), .second, .val (.long (((1 : Int64) <<< (v &&& 0x3f).toInt64))), .second, .val (.int (1 : Int32))] [])) _
    refine XS.iload X5.here hx rfl (hb hby d18_46) rfl ?_
    show Steps p.tables e below (T5.setTop (mkF m 48 #[.val (.ref a), .val (.int v), .val (.double x), .second, .val (.long (((1 : Int64) <<< (v &&& 0x3f).toInt64))), .second, .val (.int (1 : Int32))] [(.int (1 : Int32))])) _
    refine XS.ifNo X5.here hx rfl (hb hby d18_48) rfl (XT.i0_lt_f (by decide)) ?_
    show Steps p.tables e below (T5.setTop (mkF m 51 #[.val (.ref a), .val (.int v), .val (.double x), .second, .val (.long (((1 : Int64) <<< (v &&& 0x3f).toInt64))), .second, .val (.int (1 : Int32))] [])) _
    refine XS.aloadN X5.here hx rfl (hb hby d18_51) rfl rfl ?_
    show Steps p.tables e below (T5.setTop (mkF m 52 #[.val (.ref a), .val (.int v), .val (.double x), .second, .val (.long (((1 : Int64) <<< (v &&& 0x3f).toInt64))), .second, .val (.int (1 : Int32))] [(.ref a)])) _
    refine st7 _ ?_
    show Steps p.tables e below (T7.setTop (mkF m 55 #[.val (.ref a), .val (.int v), .val (.double x), .second, .val (.long (((1 : Int64) <<< (v &&& 0x3f).toInt64))), .second, .val (.int (1 : Int32))] [(.ref b2)])) _
    refine XS.iload X7.here hx rfl (hb hby d18_55) rfl ?_
    show Steps p.tables e below (T7.setTop (mkF m 57 #[.val (.ref a), .val (.int v), .val (.double x), .second, .val (.long (((1 : Int64) <<< (v &&& 0x3f).toInt64))), .second, .val (.int (1 : Int32))] [(.int (1 : Int32)), (.ref b2)])) _
    exact kk
  obtain ⟨T9, X9, e9, st9⟩ := getF X7 hx hZ hown (host := "") (Or.inl (hw _ (List.mem_of_getElem? (i := 13) rfl))) Via.refl e7 f6 (g := (mkF m 58 #[.val (.ref a), .val (.int v), .val (.double x), .second, .val (.long (((1 : Int64) <<< (v &&& 0x3f).toInt64))), .second, .val (.int (1 : Int32))] [(.ref a), (.int (1 : Int32)), (.ref b2)])) rfl rfl (hb hby d18_58)
  have f10 := (pr8.other W5 (Ne.symm pr13))
  obtain ⟨cl_a11, Ar_a11, q_a11, S_a11, N_a11, H_a11, G_a11⟩ := id f10
  have hin_a11 : ¬ ((1 : Int32) < 0 ∨ cl_a11.slots.size ≤ ((1 : Int32)).toNatClampNeg) := inb_of S_a11 ⟨by decide, by decide⟩
  have hat_a11 := Has.at (v := (.double cc)) H_a11 hin_a11 pr22
  obtain ⟨T12, X12, e12, st12⟩ := natS X9 hx hZ hown (hw _ (List.mem_of_getElem? (i := 69) rfl)) (hw _ (List.mem_of_getElem? (i := 70) rfl)) (hw _ (List.mem_of_getElem? (i := 71) rfl)) (hw _ (List.mem_of_getElem? (i := 72) rfl)) (by decide) e9 (W := 2) (fun cz => Jvm.Free.Fl.Abs.minD_pays (W := 2) cc x cz (by decide) (by decide)) (g := (mkF m 65 #[.val (.ref a), .val (.int v), .val (.double x), .second, .val (.long (((1 : Int64) <<< (v &&& 0x3f).toInt64))), .second, .val (.int (1 : Int32))] [(.double x), (.double cc), (.int (1 : Int32)), (.ref b2)])) rfl (by rw [hml]; rfl) (argsL := [(.double cc), (.double x)]) (rest := [(.int (1 : Int32)), (.ref b2)]) (lenOf pd_1 rfl) rfl (by show 2 * 0 + _ ≤ _; exact Nat.le_of_eq rfl) (hb hby d18_65) (by decide) (by decide) ⟨rfl, pr23, pr24⟩ rfl
  obtain ⟨cl_a13, Ar_a13, q_a13, S_a13, N_a13, H_a13, G_a13⟩ := id f10
  have hin_a13 : ¬ ((1 : Int32) < 0 ∨ cl_a13.slots.size ≤ ((1 : Int32)).toNatClampNeg) := inb_of S_a13 ⟨by decide, by decide⟩
  obtain ⟨T14, h14, X14, e14, W14, st14⟩ := stD X12 hx hZ e12 Ar_a13 (j := (1 : Int32)) hin_a13 (g := (mkF m 68 #[.val (.ref a), .val (.int v), .val (.double x), .second, .val (.long (((1 : Int64) <<< (v &&& 0x3f).toInt64))), .second, .val (.int (1 : Int32))] [(.double (Native.java_lang_Math.nans.pick64 false cc x)), (.int (1 : Int32)), (.ref b2)])) rfl rfl (hb hby d18_68)
  have V14 : Arv Z h14 b2 k2 .double (16 : Int32) (ds.set 1 (.double (Native.java_lang_Math.nans.pick64 false cc x))) d2 := Arv.set Ar_a13 q_a13 S_a13 N_a13 H_a13 G_a13 rfl W14 1 rfl (by rw [pr16]; decide)
  have N14 := Fr.snoc X14 N5 pr11
  have P15 : ∀ t, Steps p.tables e below (T14.setTop (mkF m 69 #[.val (.ref a), .val (.int v), .val (.double x), .second, .val (.long (((1 : Int64) <<< (v &&& 0x3f).toInt64))), .second, .val (.int (1 : Int32))] [])) t → Steps p.tables e below (s₁.setTop (entryFrame m #[(.ref a), (.int v), (.double x)] 7)) t := by
    intro t kk
    refine P8 _ ?_
    show Steps p.tables e below (T7.setTop (mkF m 57 #[.val (.ref a), .val (.int v), .val (.double x), .second, .val (.long (((1 : Int64) <<< (v &&& 0x3f).toInt64))), .second, .val (.int (1 : Int32))] [(.int (1 : Int32)), (.ref b2)])) _
    refine XS.aloadN X7.here hx rfl (hb hby d18_57) rfl rfl ?_
    show Steps p.tables e below (T7.setTop (mkF m 58 #[.val (.ref a), .val (.int v), .val (.double x), .second, .val (.long (((1 : Int64) <<< (v &&& 0x3f).toInt64))), .second, .val (.int (1 : Int32))] [(.ref a), (.int (1 : Int32)), (.ref b2)])) _
    refine st9 _ ?_
    show Steps p.tables e below (T9.setTop (mkF m 61 #[.val (.ref a), .val (.int v), .val (.double x), .second, .val (.long (((1 : Int64) <<< (v &&& 0x3f).toInt64))), .second, .val (.int (1 : Int32))] [(.ref b2), (.int (1 : Int32)), (.ref b2)])) _
    refine XS.iload X9.here hx rfl (hb hby d18_61) rfl ?_
    show Steps p.tables e below (T9.setTop (mkF m 63 #[.val (.ref a), .val (.int v), .val (.double x), .second, .val (.long (((1 : Int64) <<< (v &&& 0x3f).toInt64))), .second, .val (.int (1 : Int32))] [(.int (1 : Int32)), (.ref b2), (.int (1 : Int32)), (.ref b2)])) _
    refine X9.daload hx (j := (1 : Int32)) (v := (.double cc)) (by rw [e9]; exact Ar_a11.1) (State.isArrayOf_alike hZ.alike Ar_a11.2.1) Ar_a11.2.2 hin_a11 hat_a11 (g := (mkF m 63 #[.val (.ref a), .val (.int v), .val (.double x), .second, .val (.long (((1 : Int64) <<< (v &&& 0x3f).toInt64))), .second, .val (.int (1 : Int32))] [(.int (1 : Int32)), (.ref b2), (.int (1 : Int32)), (.ref b2)])) rfl rfl (hb hby d18_63) _ ?_
    show Steps p.tables e below (T9.setTop (mkF m 64 #[.val (.ref a), .val (.int v), .val (.double x), .second, .val (.long (((1 : Int64) <<< (v &&& 0x3f).toInt64))), .second, .val (.int (1 : Int32))] [(.double cc), (.int (1 : Int32)), (.ref b2)])) _
    refine XS.dloadN X9.here hx rfl (hb hby d18_64) rfl ?_
    show Steps p.tables e below (T9.setTop (mkF m 65 #[.val (.ref a), .val (.int v), .val (.double x), .second, .val (.long (((1 : Int64) <<< (v &&& 0x3f).toInt64))), .second, .val (.int (1 : Int32))] [(.double x), (.double cc), (.int (1 : Int32)), (.ref b2)])) _
    refine st12 _ ?_
    show Steps p.tables e below (T12.setTop (mkF m 68 #[.val (.ref a), .val (.int v), .val (.double x), .second, .val (.long (((1 : Int64) <<< (v &&& 0x3f).toInt64))), .second, .val (.int (1 : Int32))] [(.double (Native.java_lang_Math.nans.pick64 false cc x)), (.int (1 : Int32)), (.ref b2)])) _
    refine st14 _ ?_
    show Steps p.tables e below (T14.setTop (mkF m 69 #[.val (.ref a), .val (.int v), .val (.double x), .second, .val (.long (((1 : Int64) <<< (v &&& 0x3f).toInt64))), .second, .val (.int (1 : Int32))] [])) _
    exact kk
  have k16 : Keep h0 h14 [a, b1, b2] := (Keep.wr (Keep.wr (Keep.refl h0 [a, b1, b2]) W5 (Or.inl (List.mem_of_getElem? (i := 0) rfl))) W14 (Or.inl (List.mem_of_getElem? (i := 2) rfl)))
  have f17 := (Fld.other W14 Fw5 (Or.inl pr13))
  have f18 := ((pr7.other W5 (Ne.symm pr12)).other W14 pr14)
  have f19 := (Fld.other W14 (Fld.other W5 pr1 (Or.inr (slot_ne (Or.inl (hw _ (List.mem_of_getElem? (i := 32) rfl))) (Or.inl (hw _ (List.mem_of_getElem? (i := 36) rfl))) (by decide) (t := .boolean) (t' := .long) (by decide) (by decide)))) (Or.inl pr13))
  have f20 := (Fld.other W14 (Fld.other W5 pr2 (Or.inr (slot_ne (Or.inl (hw _ (List.mem_of_getElem? (i := 34) rfl))) (Or.inl (hw _ (List.mem_of_getElem? (i := 36) rfl))) (by decide) (t := .int) (t' := .long) (by decide) (by decide)))) (Or.inl pr13))
  have f21 := (Fld.other W14 (Fld.other W5 pr4 (Or.inr (slot_ne (Or.inl (hw _ (List.mem_of_getElem? (i := 25) rfl))) (Or.inl (hw _ (List.mem_of_getElem? (i := 36) rfl))) (by decide) (t := .long) (t' := .long) (by decide) (by decide)))) (Or.inl pr13))
  have f22 := (Fld.other W14 (Fld.other W5 pr5 (Or.inr (slot_ne (Or.inl (hw _ (List.mem_of_getElem? (i := 11) rfl))) (Or.inl (hw _ (List.mem_of_getElem? (i := 36) rfl))) (by decide) (t := (.array .int)) (t' := .long) (by decide) (by decide)))) (Or.inl pr13))
  have f23 := (Fld.other W14 f6 (Or.inl pr13))
  obtain ⟨fs, hr, hrun, hended, hW, hsame⟩ := X14.leave (v := none) (fun _ => rfl)
  refine ⟨_, _, P15 _ ?_, hrun, hended, _, _, rfl, ?_, ⟨_, rfl⟩, hW, hsame.mono (by decide) (by decide)⟩
  · exact X14.returnOut hx Bd.returns (hb hby d18_69) hr
  · show Q18 Z a v x ar sn b1 k1 vs d1 b2 k2 ds d2 y0 y1 cc h0 n0 _ T14.heap _
    rw [e14]
    exact ⟨rfl, N14, k16, f17, f18, V14, f19, f20, f21, f22, f23⟩
open Jvm.FP Jvm.Free.Fl in
theorem own_i2d_nn (a : Int32) : NoNaN64 (FP.i2d a) := nn_w (i2d_w a)
theorem own_b53 (p : Int32) : B53 (p &&& (255 : Int32)).toInt64 := by
  have h := c_mask p 255 8 (by decide) (by decide)
  have e := c_i2l (p &&& (255 : Int32))
  refine b53 ?_ ?_
  · rw [Int64.lt_iff_toInt_lt, e, show (-9007199254740992 : Int64).toInt = -9007199254740992 by decide]; omega
  · rw [Int64.lt_iff_toInt_lt, e, show (9007199254740992 : Int64).toInt = 9007199254740992 by decide]; omega
theorem own_min_eq (p q : Int32) (m : UInt64) (h : m = (if (cmpValue (FP.dcmp (FP.i2d (p &&& (255 : Int32))) (FP.i2d (q &&& (255 : Int32)))) .g) < (0 : Int32) then (FP.i2d (p &&& (255 : Int32))) else (FP.i2d (q &&& (255 : Int32))))) : cmpValue (FP.dcmp (Native.java_lang_Math.nans.pick64 false (FP.i2d (p &&& (255 : Int32))) (FP.i2d (q &&& (255 : Int32)))) m) .l = (0 : Int32) := by
  have ha := own_b53 p
  have hb := own_b53 q
  have e : Native.java_lang_Math.nans.pick64 false (FP.i2d (p &&& (255 : Int32))) (FP.i2d (q &&& (255 : Int32))) = m := by
    rw [i2d_w, i2d_w, dcmpV_w ha hb] at h
    rw [i2d_w, i2d_w]
    by_cases c : (p &&& (255 : Int32)).toInt64 < (q &&& (255 : Int32)).toInt64
    · rw [if_pos ((lw_lt _ _).mpr c)] at h
      rw [h]; exact min_l ha hb c
    · rw [if_neg (fun q => c ((lw_lt _ _).mp q))] at h
      rw [h]; exact min_g ha hb c
  rw [e]
  refine dcmpV_self ?_ .l
  rw [h]
  split
  · exact nn_w (i2d_w _)
  · exact nn_w (i2d_w _)
theorem own_has (s x : Int64) : ((s ||| x) &&& x) = x := by
  refine Int64.toBitVec_inj.mp (BitVec.eq_of_getLsbD_eq fun i hi => ?_)
  rw [Int64.toBitVec_and, Int64.toBitVec_or, BitVec.getLsbD_and, BitVec.getLsbD_or]
  cases s.toBitVec.getLsbD i <;> cases x.toBitVec.getLsbD i <;> rfl
theorem own_has2 {s x : Int64} (y : Int64) (h : (s &&& x) = x) : ((s ||| y) &&& x) = x := by
  refine Int64.toBitVec_inj.mp (BitVec.eq_of_getLsbD_eq fun i hi => ?_)
  have h' := congrArg (fun z => z.toBitVec.getLsbD i) h
  simp only [Int64.toBitVec_and, BitVec.getLsbD_and] at h'
  rw [Int64.toBitVec_and, Int64.toBitVec_or, BitVec.getLsbD_and, BitVec.getLsbD_or]
  revert h'
  cases s.toBitVec.getLsbD i <;> cases x.toBitVec.getLsbD i <;> cases y.toBitVec.getLsbD i <;> simp
theorem own_bit0 (v : Int32) : ¬ ((1 : Int64) <<< (v &&& 0x3f).toInt64) = (0 : Int64) := by
  intro h
  obtain ⟨h1, h2⟩ := sm64 v (v.toBitVec.toNat % 64) rfl
  have h' := congrArg Int64.toBitVec h
  rw [Int64.toBitVec_shiftLeft, h1, BitVec.shiftLeft_eq', smod64 _ h2] at h'
  have h3 := congrArg (fun z => BitVec.getLsbD z (v.toBitVec.toNat % 64)) h'
  have o1 : (1 : Int64).toBitVec = 1#64 := rfl
  have o0 : (0 : Int64).toBitVec = 0#64 := rfl
  simp [o1, o0, h2] at h3
theorem own_hb {s : Int64} (v : Int32) (h : (s &&& ((1 : Int64) <<< (v &&& 0x3f).toInt64)) = ((1 : Int64) <<< (v &&& 0x3f).toInt64)) : ¬ (s &&& ((1 : Int64) <<< (v &&& 0x3f).toInt64)) = (0 : Int64) := by
  rw [h]; exact own_bit0 v
theorem own_g0 (vs : List Value) (h : vs.length = 16) (x d : Value) : (vs.set 0 x).getD (0 : Int32).toNatClampNeg d = x := by
  show (vs.set 0 x).getD 0 d = x
  simp [List.getD_eq_getElem?_getD, List.getElem?_set, h]
theorem own_g00 (vs : List Value) (h : vs.length = 16) (x y d : Value) : ((vs.set 0 x).set 0 y).getD (0 : Int32).toNatClampNeg d = y := own_g0 _ (by rw [List.length_set]; exact h) y d
theorem own_g01 (vs : List Value) (h : vs.length = 16) (x y d : Value) : ((vs.set 0 x).set 1 y).getD (0 : Int32).toNatClampNeg d = x := by
  show ((vs.set 0 x).set 1 y).getD 0 d = x
  simp [List.getD_eq_getElem?_getD, List.getElem?_set, h]
theorem own_g11 (vs : List Value) (h : vs.length = 16) (x y d : Value) : ((vs.set 0 x).set 1 y).getD (1 : Int32).toNatClampNeg d = y := by
  show ((vs.set 0 x).set 1 y).getD 1 d = y
  simp [List.getD_eq_getElem?_getD, List.getElem?_set, h]
theorem own_em3 (a b c : Int32) : a = c ∨ (¬ a = c ∧ b = c) ∨ (¬ a = c ∧ ¬ b = c) := by
  by_cases h1 : a = c
  · exact Or.inl h1
  · by_cases h2 : b = c
    · exact Or.inr (Or.inl ⟨h1, h2⟩)
    · exact Or.inr (Or.inr ⟨h1, h2⟩)
theorem own_lt (x : Int32) : (x < (1 : Int32) → x < (2 : Int32)) ∧ (x < (2 : Int32) → x < (3 : Int32)) := by
  have l1 : (1 : Int32).toInt = 1 := by decide
  have l2 : (2 : Int32).toInt = 2 := by decide
  have l3 : (3 : Int32).toInt = 3 := by decide
  rw [Int32.lt_iff_toInt_lt, Int32.lt_iff_toInt_lt, Int32.lt_iff_toInt_lt, l1, l2, l3]
  omega
theorem ef_0 (m : MethodId) (x0 : Int32) (x1 : Int32) (x2 : Int32) (x3 : Int32) (x4 : Int32) (x5 : Int64) : entryFrame m #[(.int x0), (.int x1), (.int x2), (.int x3), (.int x4), (.long x5)] maxLocals = (mkF m 0 #[.val (.int x0), .val (.int x1), .val (.int x2), .val (.int x3), .val (.int x4), .val (.long x5), .second, .unset, .unset, .unset, .unset, .unset, .unset, .unset, .unset, .unset] []) := by first | (simp [entryFrame, mkF, argsToLocals, Value.category, maxLocals]; done) | rfl
def Q0 (Z : State) (h0 : Heap) (n0 : Nat) (v : Option Value) (h : Heap) (L : List Loc) : Prop := v = some (.int (1 : Int32)) ∧ Fr n0 L
set_option maxRecDepth 65536 in
set_option maxHeartbeats 400000000 in
theorem rm0 (l : Launch) (Z : State) (a0 : Array Value) (hw : ∀ d ∈ tables_1, d.before a0 Z = true) (ws : List Jvm.Cond) (p0 : Int32) (p1 : Int32) (p2 : Int32) (p3 : Int32) (p4 : Int32) (p5 : Int64) (h0 : Heap) (n0 : Nat) (Z0 : n0 ≤ h0.size)  :
    MetFree l x (head1 (Jvm.Cond.code x code maxLocals ret :: ws) room_1) (fun a U => a = #[(.int p0), (.int p1), (.int p2), (.int p3), (.int p4), (.long p5)] ∧ Z.Warmed39 U.vm ∧ U.heap = h0) (fun _ _ _ _ _ => True) (fun _ U o U' => ∃ v L, o = .returned v ∧ Q0 Z h0 n0 v U'.heap L ∧ FrameEnd U o U' L room_1.cells room_1.slots) := by
  refine MetFree.of_bodySF (plainFor_of_name pn_1) hisR ?_
  intro p e s m args below meth c s₁ Bd hml0 hP hK
  obtain ⟨rfl, hZ, hh⟩ := hP
  have hx := Bd.exec
  have hby := Bd.bytes
  have hml : c.maxLocals = 16 := hml0
  have hown : s.vm.findClass "org/wayfold/search/StepsClearPinLaw" = some m.cls := findClass_of_methodNamed Bd.named
  have hnm := (name_of_methodNamed Bd.named Bd.method).1
  have X0 : Stand p l e room_1 s m #[(.int p0), (.int p1), (.int p2), (.int p3), (.int p4), (.long p5)] below meth c s₁ [] 0 0 := Stand.of_body Bd
  have e0 : s₁.heap = h0 := by rw [← hh, Bd.state]; rfl
  have N0 := Fr.nil n0
  have pre0 : ∀ t, Steps p.tables e below (s₁.setTop (mkF m 0 #[.val (.int p0), .val (.int p1), .val (.int p2), .val (.int p3), .val (.int p4), .val (.long p5), .second, .unset, .unset, .unset, .unset, .unset, .unset, .unset, .unset, .unset] [])) t → Steps p.tables e below (s₁.setTop (entryFrame m #[(.int p0), (.int p1), (.int p2), (.int p3), (.int p4), (.long p5)] maxLocals)) t := fun t k => castTop (ef_0 m p0 p1 p2 p3 p4 p5) k
  obtain ⟨i1, h_i1⟩ : ∃ z : Int32, z = ((((p4).toUInt32 >>> ((8 : Int32) &&& 31).toUInt32).toInt32) &&& (3 : Int32)) := ⟨_, rfl⟩
  obtain ⟨T2, h2, X2, e2, E2, A2, D2, -, st2⟩ := newO X0 hx hZ hown (hw _ (List.mem_of_getElem? (i := 0) rfl)) (hw _ (List.mem_of_getElem? (i := 1) rfl)) (hw _ (List.mem_of_getElem? (i := 2) rfl)) e0 (g := (mkF m 26 #[.val (.int p0), .val (.int p1), .val (.int p2), .val (.int p3), .val (.int p4), .val (.long p5), .second, .val (.int i1), .val (.double (FP.i2d (p3 &&& (255 : Int32)))), .second, .val (.double (FP.i2d (p4 &&& (255 : Int32)))), .second, .unset, .unset, .unset, .unset] [])) rfl (hb hby at_26) (by decide) (by decide)
  obtain ⟨b2, g_b2⟩ : ∃ z, z = h0.size := ⟨_, rfl⟩
  rw [← g_b2] at A2 D2 st2
  have ge_b2 : n0 ≤ b2 := Nat.le_trans Z0 (Nat.le_of_eq g_b2.symm)
  have sz_b2 : h0.size ≤ b2 := Nat.le_trans (Keep.refl h0 []).1 (Nat.le_of_eq g_b2.symm)
  have F2_11 : Fld Z h2 b2 "org/wayfold/search/Steps" "vertices" "[I" .null := D2 (Or.inl (hw _ (List.mem_of_getElem? (i := 11) rfl))) (ty := (.array .int)) (by decide)
  have F2_14 : Fld Z h2 b2 "org/wayfold/search/Steps" "costs" "[D" .null := D2 (Or.inl (hw _ (List.mem_of_getElem? (i := 14) rfl))) (ty := (.array .double)) (by decide)
  have F2_16 : Fld Z h2 b2 "org/wayfold/search/Steps" "slots" "[I" .null := D2 (Or.inl (hw _ (List.mem_of_getElem? (i := 16) rfl))) (ty := (.array .int)) (by decide)
  have F2_18 : Fld Z h2 b2 "org/wayfold/search/Steps" "slotOf" "[I" .null := D2 (Or.inl (hw _ (List.mem_of_getElem? (i := 18) rfl))) (ty := (.array .int)) (by decide)
  have F2_25 : Fld Z h2 b2 "org/wayfold/search/Steps" "arcsRead" "J" (.long (0 : Int64)) := D2 (Or.inl (hw _ (List.mem_of_getElem? (i := 25) rfl))) (ty := .long) (by decide)
  have F2_32 : Fld Z h2 b2 "org/wayfold/search/Steps" "hashed" "Z" (.int (0 : Int32)) := D2 (Or.inl (hw _ (List.mem_of_getElem? (i := 32) rfl))) (ty := .boolean) (by decide)
  have F2_34 : Fld Z h2 b2 "org/wayfold/search/Steps" "size" "I" (.int (0 : Int32)) := D2 (Or.inl (hw _ (List.mem_of_getElem? (i := 34) rfl))) (ty := .int) (by decide)
  have F2_36 : Fld Z h2 b2 "org/wayfold/search/Steps" "seen" "J" (.long (0 : Int64)) := D2 (Or.inl (hw _ (List.mem_of_getElem? (i := 36) rfl))) (ty := .long) (by decide)
  have z4 : n0 ≤ _ := (Nat.le_trans Z0 E2.1)
  obtain ⟨_, _, ⟨T3, L3, k3, n3⟩, -, X3, ⟨Lc3, hQ3, l3, y3, z3⟩, st3⟩ := X2.specialBack hx (y := (⟨"org/wayfold/search/Steps", "<init>", "()V"⟩ : MethodName)) rfl hown (mvT hZ (hw _ (List.mem_of_getElem? (i := 3) rfl))) (mvT hZ (hw _ (List.mem_of_getElem? (i := 4) rfl))) (mvT hZ (hw _ (List.mem_of_getElem? (i := 5) rfl))) (by decide) (backOf (W := 1) (rm1 l Z a0 hw [] b2 h2 n0 z4 A2 F2_11 F2_14 F2_16 F2_18 F2_34 F2_36 F2_32 F2_25 ge_b2) hZ (hw _ (List.mem_of_getElem? (i := 5) rfl)) (hw _ (List.mem_of_getElem? (i := 2) rfl)) (by decide) (by decide)) (g := (mkF m 30 #[.val (.int p0), .val (.int p1), .val (.int p2), .val (.int p3), .val (.int p4), .val (.long p5), .second, .val (.int i1), .val (.double (FP.i2d (p3 &&& (255 : Int32)))), .second, .val (.double (FP.i2d (p4 &&& (255 : Int32)))), .second, .unset, .unset, .unset, .unset] [(.ref b2), (.ref b2)])) rfl (by rw [hml]; rfl) (Steps.refl _) (a := b2) (argsL := []) (rest := [(.ref b2)]) (lenOf pd_2 rfl) rfl (by show 2 * 0 + _ ≤ _; exact Nat.le_of_eq rfl) (hb hby at_30) (fun _ _ => ⟨rfl, e2, (by decide : 1 + 4 ≤ _), (by decide : 8 + 48 ≤ _)⟩)
  dsimp only [Pt.U, Pt.locs, Pt.cells, Pt.slots] at X3 l3 y3 z3 st3 hQ3
  subst l3 y3 z3
  have k5 : Keep h0 h2 [] := (Keep.ext (Keep.refl h0 []) E2)
  obtain ⟨b1_3, b2_3, k1_3, k2_3, rfl, Nq3, K3, q3_0, q3_1, q3_2, q3_3, q3_4, q3_5, q3_6, q3_7, q3_8, q3_9, q3_10, q3_11, q3_12⟩ := hQ3
  have N3 := Fr.app N0 Nq3
  have ne_b2_b1_3 : b2 ≠ b1_3 := Nat.ne_of_lt (Nat.lt_of_lt_of_le A2.lt q3_8)
  have ge_b1_3 : n0 ≤ b1_3 := Nat.le_trans z4 q3_8
  have sz_b1_3 : h0.size ≤ b1_3 := Nat.le_trans k5.1 q3_8
  have ne_b2_b2_3 : b2 ≠ b2_3 := Nat.ne_of_lt (Nat.lt_of_lt_of_le A2.lt q3_9)
  have ge_b2_3 : n0 ≤ b2_3 := Nat.le_trans z4 q3_9
  have sz_b2_3 : h0.size ≤ b2_3 := Nat.le_trans k5.1 q3_9
  have P6 : ∀ t, Steps p.tables e below (T3.setTop (mkF m 35 #[.val (.int p0), .val (.int p1), .val (.int p2), .val (.int p3), .val (.int p4), .val (.long p5), .second, .val (.int i1), .val (.double (FP.i2d (p3 &&& (255 : Int32)))), .second, .val (.double (FP.i2d (p4 &&& (255 : Int32)))), .second, .val (.ref b2), .unset, .unset, .unset] [])) t → Steps p.tables e below (s₁.setTop (entryFrame m #[(.int p0), (.int p1), (.int p2), (.int p3), (.int p4), (.long p5)] maxLocals)) t := by
    intro t kk
    refine pre0 _ ?_
    show Steps p.tables e below (s₁.setTop (mkF m 0 #[.val (.int p0), .val (.int p1), .val (.int p2), .val (.int p3), .val (.int p4), .val (.long p5), .second, .unset, .unset, .unset, .unset, .unset, .unset, .unset, .unset, .unset] [])) _
    refine XS.iload X0.here hx rfl (hb hby at_0) rfl ?_
    show Steps p.tables e below (s₁.setTop (mkF m 2 #[.val (.int p0), .val (.int p1), .val (.int p2), .val (.int p3), .val (.int p4), .val (.long p5), .second, .unset, .unset, .unset, .unset, .unset, .unset, .unset, .unset, .unset] [(.int p4)])) _
    refine XS.bipush X0.here hx rfl (hb hby at_2) ?_
    show Steps p.tables e below (s₁.setTop (mkF m 4 #[.val (.int p0), .val (.int p1), .val (.int p2), .val (.int p3), .val (.int p4), .val (.long p5), .second, .unset, .unset, .unset, .unset, .unset, .unset, .unset, .unset, .unset] [(.int (8 : Int32)), (.int p4)])) _
    refine XS.iushr X0.here hx rfl (hb hby at_4) rfl ?_
    show Steps p.tables e below (s₁.setTop (mkF m 5 #[.val (.int p0), .val (.int p1), .val (.int p2), .val (.int p3), .val (.int p4), .val (.long p5), .second, .unset, .unset, .unset, .unset, .unset, .unset, .unset, .unset, .unset] [(.int (((p4).toUInt32 >>> ((8 : Int32) &&& 31).toUInt32).toInt32))])) _
    refine XS.iconst X0.here hx rfl (hb hby at_5) ?_
    show Steps p.tables e below (s₁.setTop (mkF m 6 #[.val (.int p0), .val (.int p1), .val (.int p2), .val (.int p3), .val (.int p4), .val (.long p5), .second, .unset, .unset, .unset, .unset, .unset, .unset, .unset, .unset, .unset] [(.int (3 : Int32)), (.int (((p4).toUInt32 >>> ((8 : Int32) &&& 31).toUInt32).toInt32))])) _
    refine XS.iand X0.here hx rfl (hb hby at_6) rfl ?_
    show Steps p.tables e below (s₁.setTop (mkF m 7 #[.val (.int p0), .val (.int p1), .val (.int p2), .val (.int p3), .val (.int p4), .val (.long p5), .second, .unset, .unset, .unset, .unset, .unset, .unset, .unset, .unset, .unset] [(.int ((((p4).toUInt32 >>> ((8 : Int32) &&& 31).toUInt32).toInt32) &&& (3 : Int32)))])) _
    rw [← h_i1]
    show Steps p.tables e below (s₁.setTop (mkF m 7 #[.val (.int p0), .val (.int p1), .val (.int p2), .val (.int p3), .val (.int p4), .val (.long p5), .second, .unset, .unset, .unset, .unset, .unset, .unset, .unset, .unset, .unset] [(.int i1)])) _
    refine XS.istore X0.here hx rfl (hb hby at_7) rfl (l' := #[.val (.int p0), .val (.int p1), .val (.int p2), .val (.int p3), .val (.int p4), .val (.long p5), .second, .val (.int i1), .unset, .unset, .unset, .unset, .unset, .unset, .unset, .unset]) rfl ?_
    show Steps p.tables e below (s₁.setTop (mkF m 9 #[.val (.int p0), .val (.int p1), .val (.int p2), .val (.int p3), .val (.int p4), .val (.long p5), .second, .val (.int i1), .unset, .unset, .unset, .unset, .unset, .unset, .unset, .unset] [])) _
    refine XS.iloadN X0.here hx rfl (hb hby at_9) rfl ?_
    show Steps p.tables e below (s₁.setTop (mkF m 10 #[.val (.int p0), .val (.int p1), .val (.int p2), .val (.int p3), .val (.int p4), .val (.long p5), .second, .val (.int i1), .unset, .unset, .unset, .unset, .unset, .unset, .unset, .unset] [(.int p3)])) _
    refine XS.sipush X0.here hx rfl (hb hby at_10) ?_
    show Steps p.tables e below (s₁.setTop (mkF m 13 #[.val (.int p0), .val (.int p1), .val (.int p2), .val (.int p3), .val (.int p4), .val (.long p5), .second, .val (.int i1), .unset, .unset, .unset, .unset, .unset, .unset, .unset, .unset] [(.int (255 : Int32)), (.int p3)])) _
    refine XS.iand X0.here hx rfl (hb hby at_13) rfl ?_
    show Steps p.tables e below (s₁.setTop (mkF m 14 #[.val (.int p0), .val (.int p1), .val (.int p2), .val (.int p3), .val (.int p4), .val (.long p5), .second, .val (.int i1), .unset, .unset, .unset, .unset, .unset, .unset, .unset, .unset] [(.int (p3 &&& (255 : Int32)))])) _
    refine XS.i2dS X0.here hx rfl (hb hby at_14) rfl rfl ?_
    show Steps p.tables e below (s₁.setTop (mkF m 15 #[.val (.int p0), .val (.int p1), .val (.int p2), .val (.int p3), .val (.int p4), .val (.long p5), .second, .val (.int i1), .unset, .unset, .unset, .unset, .unset, .unset, .unset, .unset] [(.double (FP.i2d (p3 &&& (255 : Int32))))])) _
    refine XS.dstore X0.here hx rfl (hb hby at_15) rfl (l' := #[.val (.int p0), .val (.int p1), .val (.int p2), .val (.int p3), .val (.int p4), .val (.long p5), .second, .val (.int i1), .val (.double (FP.i2d (p3 &&& (255 : Int32)))), .second, .unset, .unset, .unset, .unset, .unset, .unset]) rfl ?_
    show Steps p.tables e below (s₁.setTop (mkF m 17 #[.val (.int p0), .val (.int p1), .val (.int p2), .val (.int p3), .val (.int p4), .val (.long p5), .second, .val (.int i1), .val (.double (FP.i2d (p3 &&& (255 : Int32)))), .second, .unset, .unset, .unset, .unset, .unset, .unset] [])) _
    refine XS.iload X0.here hx rfl (hb hby at_17) rfl ?_
    show Steps p.tables e below (s₁.setTop (mkF m 19 #[.val (.int p0), .val (.int p1), .val (.int p2), .val (.int p3), .val (.int p4), .val (.long p5), .second, .val (.int i1), .val (.double (FP.i2d (p3 &&& (255 : Int32)))), .second, .unset, .unset, .unset, .unset, .unset, .unset] [(.int p4)])) _
    refine XS.sipush X0.here hx rfl (hb hby at_19) ?_
    show Steps p.tables e below (s₁.setTop (mkF m 22 #[.val (.int p0), .val (.int p1), .val (.int p2), .val (.int p3), .val (.int p4), .val (.long p5), .second, .val (.int i1), .val (.double (FP.i2d (p3 &&& (255 : Int32)))), .second, .unset, .unset, .unset, .unset, .unset, .unset] [(.int (255 : Int32)), (.int p4)])) _
    refine XS.iand X0.here hx rfl (hb hby at_22) rfl ?_
    show Steps p.tables e below (s₁.setTop (mkF m 23 #[.val (.int p0), .val (.int p1), .val (.int p2), .val (.int p3), .val (.int p4), .val (.long p5), .second, .val (.int i1), .val (.double (FP.i2d (p3 &&& (255 : Int32)))), .second, .unset, .unset, .unset, .unset, .unset, .unset] [(.int (p4 &&& (255 : Int32)))])) _
    refine XS.i2dS X0.here hx rfl (hb hby at_23) rfl rfl ?_
    show Steps p.tables e below (s₁.setTop (mkF m 24 #[.val (.int p0), .val (.int p1), .val (.int p2), .val (.int p3), .val (.int p4), .val (.long p5), .second, .val (.int i1), .val (.double (FP.i2d (p3 &&& (255 : Int32)))), .second, .unset, .unset, .unset, .unset, .unset, .unset] [(.double (FP.i2d (p4 &&& (255 : Int32))))])) _
    refine XS.dstore X0.here hx rfl (hb hby at_24) rfl (l' := #[.val (.int p0), .val (.int p1), .val (.int p2), .val (.int p3), .val (.int p4), .val (.long p5), .second, .val (.int i1), .val (.double (FP.i2d (p3 &&& (255 : Int32)))), .second, .val (.double (FP.i2d (p4 &&& (255 : Int32)))), .second, .unset, .unset, .unset, .unset]) rfl ?_
    show Steps p.tables e below (s₁.setTop (mkF m 26 #[.val (.int p0), .val (.int p1), .val (.int p2), .val (.int p3), .val (.int p4), .val (.long p5), .second, .val (.int i1), .val (.double (FP.i2d (p3 &&& (255 : Int32)))), .second, .val (.double (FP.i2d (p4 &&& (255 : Int32)))), .second, .unset, .unset, .unset, .unset] [])) _
    refine st2 _ ?_
    show Steps p.tables e below (T2.setTop (mkF m 29 #[.val (.int p0), .val (.int p1), .val (.int p2), .val (.int p3), .val (.int p4), .val (.long p5), .second, .val (.int i1), .val (.double (FP.i2d (p3 &&& (255 : Int32)))), .second, .val (.double (FP.i2d (p4 &&& (255 : Int32)))), .second, .unset, .unset, .unset, .unset] [(.ref b2)])) _
    refine XS.dup X2.here hx rfl (hb hby at_29) rfl rfl ?_
    show Steps p.tables e below (T2.setTop (mkF m 30 #[.val (.int p0), .val (.int p1), .val (.int p2), .val (.int p3), .val (.int p4), .val (.long p5), .second, .val (.int i1), .val (.double (FP.i2d (p3 &&& (255 : Int32)))), .second, .val (.double (FP.i2d (p4 &&& (255 : Int32)))), .second, .unset, .unset, .unset, .unset] [(.ref b2), (.ref b2)])) _
    refine st3.trans ?_
    show Steps p.tables e below (T3.setTop (mkF m 33 #[.val (.int p0), .val (.int p1), .val (.int p2), .val (.int p3), .val (.int p4), .val (.long p5), .second, .val (.int i1), .val (.double (FP.i2d (p3 &&& (255 : Int32)))), .second, .val (.double (FP.i2d (p4 &&& (255 : Int32)))), .second, .unset, .unset, .unset, .unset] [(.ref b2)])) _
    refine XS.astore X3.here hx rfl (hb hby at_33) rfl rfl (l' := #[.val (.int p0), .val (.int p1), .val (.int p2), .val (.int p3), .val (.int p4), .val (.long p5), .second, .val (.int i1), .val (.double (FP.i2d (p3 &&& (255 : Int32)))), .second, .val (.double (FP.i2d (p4 &&& (255 : Int32)))), .second, .val (.ref b2), .unset, .unset, .unset]) rfl ?_
    show Steps p.tables e below (T3.setTop (mkF m 35 #[.val (.int p0), .val (.int p1), .val (.int p2), .val (.int p3), .val (.int p4), .val (.long p5), .second, .val (.int i1), .val (.double (FP.i2d (p3 &&& (255 : Int32)))), .second, .val (.double (FP.i2d (p4 &&& (255 : Int32)))), .second, .val (.ref b2), .unset, .unset, .unset] [])) _
    exact kk
  have own_tail : ∀ (Tt : State) (Lt : List Loc) (ht : Heap) (bo : Addr) (b1 : Addr) (b2 : Addr) (k1 : ClassId) (k2 : ClassId) (vs : List Value) (ds : List Value) (sz : Int32) (sn : Int64) (Xt : Stand p l e room_1 s m #[(.int p0), (.int p1), (.int p2), (.int p3), (.int p4), (.long p5)] below meth c Tt Lt 5 64) (et : Tt.heap = ht) (Nt : Fr n0 Lt) (zt : n0 ≤ ht.size) (ft0 : Exa Z ht bo "org/wayfold/search/Steps") (ft1 : Fld Z ht bo "org/wayfold/search/Steps" "vertices" "[I" (.ref b1)) (ft2 : Fld Z ht bo "org/wayfold/search/Steps" "costs" "[D" (.ref b2)) (ft3 : Fld Z ht bo "org/wayfold/search/Steps" "size" "I" (.int sz)) (ft4 : Fld Z ht bo "org/wayfold/search/Steps" "seen" "J" (.long sn)) (ft5 : Fld Z ht bo "org/wayfold/search/Steps" "hashed" "Z" (.int (0 : Int32))) (ft6 : Fld Z ht bo "org/wayfold/search/Steps" "arcsRead" "J" (.long (0 : Int64))) (ft7 : Arv Z ht b1 k1 .int (16 : Int32) vs (.int (0 : Int32))) (ft8 : Arv Z ht b2 k2 .double (16 : Int32) ds (.double (0 : UInt64))) (ft9 : n0 ≤ bo) (ft10 : n0 ≤ b1) (ft11 : n0 ≤ b2) (ft12 : bo ≠ b1) (ft13 : bo ≠ b2) (ft14 : b1 ≠ b2) (ft15 : vs.length = 16) (ft16 : ds.length = 16) (Pt_ : ∀ t, Steps p.tables e below (Tt.setTop (mkF m 80 #[.val (.int p0), .val (.int p1), .val (.int p2), .val (.int p3), .val (.int p4), .val (.long p5), .second, .val (.int i1), .val (.double (FP.i2d (p3 &&& (255 : Int32)))), .second, .val (.double (FP.i2d (p4 &&& (255 : Int32)))), .second, .val (.ref bo), .unset, .unset, .unset] [])) t → Steps p.tables e below (s₁.setTop (entryFrame m #[(.int p0), (.int p1), (.int p2), (.int p3), (.int p4), (.long p5)] maxLocals)) t), ∃ s₂ oX, Steps p.tables e below (s₁.setTop (entryFrame m #[(.int p0), (.int p1), (.int p2), (.int p3), (.int p4), (.long p5)] maxLocals)) s₂ ∧ s₂.status = .running ∧ Ended s₂ below oX ∧ (∃ vX lX, oX = .returned vX ∧ Q0 Z h0 n0 vX s₂.heap lX ∧ FrameEnd s oX s₂ lX room_1.cells room_1.slots) := by
    intro Tt Lt ht bo b1 b2 k1 k2 vs ds sz sn Xt et Nt zt ft0 ft1 ft2 ft3 ft4 ft5 ft6 ft7 ft8 ft9 ft10 ft11 ft12 ft13 ft14 ft15 ft16 Pt_
    obtain ⟨cq7, kq7, q7a, q7b, q7c⟩ := isOf hZ et ft0
    obtain ⟨_, _, ⟨T7, L7, k7, n7⟩, -, X7, ⟨Lc7, hQ7, l7, y7, z7⟩, st7⟩ := Xt.virtualBack hx (y := (⟨"org/wayfold/search/Steps", "arcsRead", "(J)V"⟩ : MethodName)) (z := (⟨"org/wayfold/search/Steps", "arcsRead", "(J)V"⟩ : MethodName)) hown (mvT hZ (hw _ (List.mem_of_getElem? (i := 19) rfl))) (mvT hZ (hw _ (List.mem_of_getElem? (i := 20) rfl))) (notFace_of_selects (args := #[]) (mvT hZ (hw _ (List.mem_of_getElem? (i := 22) rfl)))) (mvT hZ (hw _ (List.mem_of_getElem? (i := 22) rfl))) (mvT hZ (hw _ (List.mem_of_getElem? (i := 21) rfl))) (by decide) (backOf (W := 0) (rm2 l Z a0 hw [] bo p5 sz sn (0 : Int64) b1 b2 ht n0 zt ft0 ft1 ft2 ft3 ft4 ft5 ft6 ft9) hZ (hw _ (List.mem_of_getElem? (i := 23) rfl)) (hw _ (List.mem_of_getElem? (i := 2) rfl)) (by decide) (by decide)) q7a q7c (g := (mkF m 84 #[.val (.int p0), .val (.int p1), .val (.int p2), .val (.int p3), .val (.int p4), .val (.long p5), .second, .val (.int i1), .val (.double (FP.i2d (p3 &&& (255 : Int32)))), .second, .val (.double (FP.i2d (p4 &&& (255 : Int32)))), .second, .val (.ref bo), .unset, .unset, .unset] [(.long p5), (.ref bo)])) rfl (by rw [hml]; rfl) (Steps.refl _) (argsL := [(.long p5)]) (rest := []) (lenOf pd_3 rfl) rfl (by show 2 * 0 + _ ≤ _; exact Nat.le_of_eq rfl) (hb hby at_84) (fun _ _ => ⟨rfl, et, (by decide : 5 + 0 ≤ _), (by decide : 64 + 0 ≤ _)⟩)
    dsimp only [Pt.U, Pt.locs, Pt.cells, Pt.slots] at X7 l7 y7 z7 st7 hQ7
    subst l7 y7 z7
    obtain ⟨rfl, Nq7, K7, q7_0, q7_1, q7_2, q7_3, q7_4, q7_5⟩ := hQ7
    have N7 := Fr.app Nt Nq7
    have f9 := (Exa.keep ft0 K7)
    have z10 : n0 ≤ _ := (Nat.le_trans zt K7.1)
    obtain ⟨cq8, kq8, q8a, q8b, q8c⟩ := isOf hZ rfl f9
    obtain ⟨_, _, ⟨T8, L8, k8, n8⟩, -, X8, ⟨Lc8, hQ8, l8, y8, z8⟩, st8⟩ := X7.virtualBack hx (y := (⟨"org/wayfold/search/Steps", "clear", "()V"⟩ : MethodName)) (z := (⟨"org/wayfold/search/Steps", "clear", "()V"⟩ : MethodName)) hown (mvT hZ (hw _ (List.mem_of_getElem? (i := 26) rfl))) (mvT hZ (hw _ (List.mem_of_getElem? (i := 27) rfl))) (notFace_of_selects (args := #[]) (mvT hZ (hw _ (List.mem_of_getElem? (i := 29) rfl)))) (mvT hZ (hw _ (List.mem_of_getElem? (i := 29) rfl))) (mvT hZ (hw _ (List.mem_of_getElem? (i := 28) rfl))) (by decide) (backOf (W := 0) (rm3 l Z a0 hw [] bo sz sn p5 b1 b2 T7.heap n0 z10 f9 q7_1 q7_2 q7_3 q7_4 q7_5 q7_0 ft9) hZ (hw _ (List.mem_of_getElem? (i := 30) rfl)) (hw _ (List.mem_of_getElem? (i := 2) rfl)) (by decide) (by decide)) q8a q8c (g := (mkF m 89 #[.val (.int p0), .val (.int p1), .val (.int p2), .val (.int p3), .val (.int p4), .val (.long p5), .second, .val (.int i1), .val (.double (FP.i2d (p3 &&& (255 : Int32)))), .second, .val (.double (FP.i2d (p4 &&& (255 : Int32)))), .second, .val (.ref bo), .unset, .unset, .unset] [(.ref bo)])) rfl (by rw [hml]; rfl) (Steps.refl _) (argsL := []) (rest := []) (lenOf pd_2 rfl) rfl (by show 2 * 0 + _ ≤ _; exact Nat.le_of_eq rfl) (hb hby at_89) (fun _ _ => ⟨rfl, rfl, (by decide : 5 + 0 ≤ _), (by decide : 64 + 0 ≤ _)⟩)
    dsimp only [Pt.U, Pt.locs, Pt.cells, Pt.slots] at X8 l8 y8 z8 st8 hQ8
    subst l8 y8 z8
    obtain ⟨rfl, Nq8, K8, q8_0, q8_1, q8_2, q8_3, q8_4, q8_5⟩ := hQ8
    have N8 := Fr.app N7 Nq8
    have z12 : n0 ≤ _ := (Nat.le_trans z10 K8.1)
    have f13 := (Exa.keep f9 K8)
    obtain ⟨cq11, kq11, q11a, q11b, q11c⟩ := isOf hZ rfl f13
    obtain ⟨_, _, ⟨T11, L11, k11, n11⟩, -, X11, ⟨Lc11, hQ11, l11, y11, z11⟩, st11⟩ := X8.virtualBack hx (y := (⟨"org/wayfold/search/Steps", "size", "()I"⟩ : MethodName)) (z := (⟨"org/wayfold/search/Steps", "size", "()I"⟩ : MethodName)) hown (mvT hZ (hw _ (List.mem_of_getElem? (i := 37) rfl))) (mvT hZ (hw _ (List.mem_of_getElem? (i := 38) rfl))) (notFace_of_selects (args := #[]) (mvT hZ (hw _ (List.mem_of_getElem? (i := 40) rfl)))) (mvT hZ (hw _ (List.mem_of_getElem? (i := 40) rfl))) (mvT hZ (hw _ (List.mem_of_getElem? (i := 39) rfl))) (by decide) (backOf (W := 0) (rm4 l Z a0 hw [] bo (0 : Int32) T8.heap n0 z12 q8_0) hZ (hw _ (List.mem_of_getElem? (i := 41) rfl)) (hw _ (List.mem_of_getElem? (i := 2) rfl)) (by decide) (by decide)) q11a q11c (g := (mkF m 94 #[.val (.int p0), .val (.int p1), .val (.int p2), .val (.int p3), .val (.int p4), .val (.long p5), .second, .val (.int i1), .val (.double (FP.i2d (p3 &&& (255 : Int32)))), .second, .val (.double (FP.i2d (p4 &&& (255 : Int32)))), .second, .val (.ref bo), .unset, .unset, .unset] [(.ref bo)])) rfl (by rw [hml]; rfl) (Steps.refl _) (argsL := []) (rest := []) (lenOf pd_4 rfl) rfl (by show 2 * 0 + _ ≤ _; exact Nat.le_of_eq rfl) (hb hby at_94) (fun _ _ => ⟨rfl, rfl, (by decide : 5 + 0 ≤ _), (by decide : 64 + 0 ≤ _)⟩)
    dsimp only [Pt.U, Pt.locs, Pt.cells, Pt.slots] at X11 l11 y11 z11 st11 hQ11
    subst l11 y11 z11
    obtain ⟨rfl, Nq11, e11⟩ := hQ11
    have N11 := Fr.app N8 Nq11
    obtain ⟨cq14, kq14, q14a, q14b, q14c⟩ := isOf hZ e11 f13
    obtain ⟨_, _, ⟨T14, L14, k14, n14⟩, -, X14, ⟨Lc14, hQ14, l14, y14, z14⟩, st14⟩ := X11.virtualBack hx (y := (⟨"org/wayfold/search/Steps", "arcsRead", "()J"⟩ : MethodName)) (z := (⟨"org/wayfold/search/Steps", "arcsRead", "()J"⟩ : MethodName)) hown (mvT hZ (hw _ (List.mem_of_getElem? (i := 42) rfl))) (mvT hZ (hw _ (List.mem_of_getElem? (i := 43) rfl))) (notFace_of_selects (args := #[]) (mvT hZ (hw _ (List.mem_of_getElem? (i := 45) rfl)))) (mvT hZ (hw _ (List.mem_of_getElem? (i := 45) rfl))) (mvT hZ (hw _ (List.mem_of_getElem? (i := 44) rfl))) (by decide) (backOf (W := 0) (rm5 l Z a0 hw [] bo p5 T8.heap n0 z12 q8_5) hZ (hw _ (List.mem_of_getElem? (i := 46) rfl)) (hw _ (List.mem_of_getElem? (i := 2) rfl)) (by decide) (by decide)) q14a q14c (g := (mkF m 102 #[.val (.int p0), .val (.int p1), .val (.int p2), .val (.int p3), .val (.int p4), .val (.long p5), .second, .val (.int i1), .val (.double (FP.i2d (p3 &&& (255 : Int32)))), .second, .val (.double (FP.i2d (p4 &&& (255 : Int32)))), .second, .val (.ref bo), .unset, .unset, .unset] [(.ref bo)])) rfl (by rw [hml]; rfl) (Steps.refl _) (argsL := []) (rest := []) (lenOf pd_5 rfl) rfl (by show 2 * 0 + _ ≤ _; exact Nat.le_of_eq rfl) (hb hby at_102) (fun _ _ => ⟨rfl, e11, (by decide : 5 + 0 ≤ _), (by decide : 64 + 0 ≤ _)⟩)
    dsimp only [Pt.U, Pt.locs, Pt.cells, Pt.slots] at X14 l14 y14 z14 st14 hQ14
    subst l14 y14 z14
    obtain ⟨rfl, Nq14, e14⟩ := hQ14
    have N14 := Fr.app N11 Nq14
    have f16 := (Arv.keep (Arv.keep ft7 K7 (ninS (Ne.symm ft12) nin0)) K8 (ninS (Ne.symm ft12) nin0))
    have f17 := (Arv.keep (Arv.keep ft8 K7 (ninS (Ne.symm ft13) nin0)) K8 (ninS (Ne.symm ft13) nin0))
    obtain ⟨cq15, kq15, q15a, q15b, q15c⟩ := isOf hZ e14 f13
    obtain ⟨_, _, ⟨T15, L15, k15, n15⟩, -, X15, ⟨Lc15, hQ15, l15, y15, z15⟩, st15⟩ := X14.virtualBack hx (y := (⟨"org/wayfold/search/Steps", "merge", "(ID)V"⟩ : MethodName)) (z := (⟨"org/wayfold/search/Steps", "merge", "(ID)V"⟩ : MethodName)) hown (mvT hZ (hw _ (List.mem_of_getElem? (i := 47) rfl))) (mvT hZ (hw _ (List.mem_of_getElem? (i := 48) rfl))) (notFace_of_selects (args := #[]) (mvT hZ (hw _ (List.mem_of_getElem? (i := 50) rfl)))) (mvT hZ (hw _ (List.mem_of_getElem? (i := 50) rfl))) (mvT hZ (hw _ (List.mem_of_getElem? (i := 49) rfl))) (by decide) (backOf (W := 0) (rm13 l Z a0 hw [] bo p0 (FP.i2d (p3 &&& (255 : Int32))) p5 b1 k1 vs (.int (0 : Int32)) b2 k2 ds (.double (0 : UInt64)) T8.heap n0 z12 f13 q8_4 q8_0 q8_1 q8_5 q8_2 q8_3 f16 f17 ft9 ft10 ft11 ft12 ft13 ft14 ft15 ft16) hZ (hw _ (List.mem_of_getElem? (i := 51) rfl)) (hw _ (List.mem_of_getElem? (i := 2) rfl)) (by decide) (by decide)) q15a q15c (g := (mkF m 130 #[.val (.int p0), .val (.int p1), .val (.int p2), .val (.int p3), .val (.int p4), .val (.long p5), .second, .val (.int i1), .val (.double (FP.i2d (p3 &&& (255 : Int32)))), .second, .val (.double (FP.i2d (p4 &&& (255 : Int32)))), .second, .val (.ref bo), .val (.int (1 : Int32)), .unset, .unset] [(.double (FP.i2d (p3 &&& (255 : Int32)))), (.int p0), (.ref bo)])) rfl (by rw [hml]; rfl) (Steps.refl _) (argsL := [(.int p0), (.double (FP.i2d (p3 &&& (255 : Int32))))]) (rest := []) (lenOf pd_6 rfl) rfl (by show 2 * 0 + _ ≤ _; exact Nat.le_of_eq rfl) (hb hby at_130) (fun _ _ => ⟨rfl, e14, (by decide : 5 + 0 ≤ _), (by decide : 64 + 0 ≤ _)⟩)
    dsimp only [Pt.U, Pt.locs, Pt.cells, Pt.slots] at X15 l15 y15 z15 st15 hQ15
    subst l15 y15 z15
    obtain ⟨rfl, Nq15, K15, q15_0, q15_1, q15_2, q15_3, q15_4, q15_5, q15_6, q15_7⟩ := hQ15
    have N15 := Fr.app N14 Nq15
    have P18 : ∀ t, Steps p.tables e below (T15.setTop (mkF m 133 #[.val (.int p0), .val (.int p1), .val (.int p2), .val (.int p3), .val (.int p4), .val (.long p5), .second, .val (.int i1), .val (.double (FP.i2d (p3 &&& (255 : Int32)))), .second, .val (.double (FP.i2d (p4 &&& (255 : Int32)))), .second, .val (.ref bo), .val (.int (1 : Int32)), .unset, .unset] [])) t → Steps p.tables e below (s₁.setTop (entryFrame m #[(.int p0), (.int p1), (.int p2), (.int p3), (.int p4), (.long p5)] maxLocals)) t := by
      intro t kk
      refine Pt_ _ ?_
      show Steps p.tables e below (Tt.setTop (mkF m 80 #[.val (.int p0), .val (.int p1), .val (.int p2), .val (.int p3), .val (.int p4), .val (.long p5), .second, .val (.int i1), .val (.double (FP.i2d (p3 &&& (255 : Int32)))), .second, .val (.double (FP.i2d (p4 &&& (255 : Int32)))), .second, .val (.ref bo), .unset, .unset, .unset] [])) _
      refine XS.aload Xt.here hx rfl (hb hby at_80) rfl rfl ?_
      show Steps p.tables e below (Tt.setTop (mkF m 82 #[.val (.int p0), .val (.int p1), .val (.int p2), .val (.int p3), .val (.int p4), .val (.long p5), .second, .val (.int i1), .val (.double (FP.i2d (p3 &&& (255 : Int32)))), .second, .val (.double (FP.i2d (p4 &&& (255 : Int32)))), .second, .val (.ref bo), .unset, .unset, .unset] [(.ref bo)])) _
      refine XS.lload Xt.here hx rfl (hb hby at_82) rfl ?_
      show Steps p.tables e below (Tt.setTop (mkF m 84 #[.val (.int p0), .val (.int p1), .val (.int p2), .val (.int p3), .val (.int p4), .val (.long p5), .second, .val (.int i1), .val (.double (FP.i2d (p3 &&& (255 : Int32)))), .second, .val (.double (FP.i2d (p4 &&& (255 : Int32)))), .second, .val (.ref bo), .unset, .unset, .unset] [(.long p5), (.ref bo)])) _
      refine st7.trans ?_
      show Steps p.tables e below (T7.setTop (mkF m 87 #[.val (.int p0), .val (.int p1), .val (.int p2), .val (.int p3), .val (.int p4), .val (.long p5), .second, .val (.int i1), .val (.double (FP.i2d (p3 &&& (255 : Int32)))), .second, .val (.double (FP.i2d (p4 &&& (255 : Int32)))), .second, .val (.ref bo), .unset, .unset, .unset] [])) _
      refine XS.aload X7.here hx rfl (hb hby at_87) rfl rfl ?_
      show Steps p.tables e below (T7.setTop (mkF m 89 #[.val (.int p0), .val (.int p1), .val (.int p2), .val (.int p3), .val (.int p4), .val (.long p5), .second, .val (.int i1), .val (.double (FP.i2d (p3 &&& (255 : Int32)))), .second, .val (.double (FP.i2d (p4 &&& (255 : Int32)))), .second, .val (.ref bo), .unset, .unset, .unset] [(.ref bo)])) _
      refine st8.trans ?_
      show Steps p.tables e below (T8.setTop (mkF m 92 #[.val (.int p0), .val (.int p1), .val (.int p2), .val (.int p3), .val (.int p4), .val (.long p5), .second, .val (.int i1), .val (.double (FP.i2d (p3 &&& (255 : Int32)))), .second, .val (.double (FP.i2d (p4 &&& (255 : Int32)))), .second, .val (.ref bo), .unset, .unset, .unset] [])) _
      refine XS.aload X8.here hx rfl (hb hby at_92) rfl rfl ?_
      show Steps p.tables e below (T8.setTop (mkF m 94 #[.val (.int p0), .val (.int p1), .val (.int p2), .val (.int p3), .val (.int p4), .val (.long p5), .second, .val (.int i1), .val (.double (FP.i2d (p3 &&& (255 : Int32)))), .second, .val (.double (FP.i2d (p4 &&& (255 : Int32)))), .second, .val (.ref bo), .unset, .unset, .unset] [(.ref bo)])) _
      refine st11.trans ?_
      show Steps p.tables e below (T11.setTop (mkF m 97 #[.val (.int p0), .val (.int p1), .val (.int p2), .val (.int p3), .val (.int p4), .val (.long p5), .second, .val (.int i1), .val (.double (FP.i2d (p3 &&& (255 : Int32)))), .second, .val (.double (FP.i2d (p4 &&& (255 : Int32)))), .second, .val (.ref bo), .unset, .unset, .unset] [(.int (0 : Int32))])) _
      refine XS.ifNo X11.here hx rfl (hb hby at_97) rfl (XT.i0_ne_f rfl) ?_
      show Steps p.tables e below (T11.setTop (mkF m 100 #[.val (.int p0), .val (.int p1), .val (.int p2), .val (.int p3), .val (.int p4), .val (.long p5), .second, .val (.int i1), .val (.double (FP.i2d (p3 &&& (255 : Int32)))), .second, .val (.double (FP.i2d (p4 &&& (255 : Int32)))), .second, .val (.ref bo), .unset, .unset, .unset] [])) _
      refine XS.aload X11.here hx rfl (hb hby at_100) rfl rfl ?_
      show Steps p.tables e below (T11.setTop (mkF m 102 #[.val (.int p0), .val (.int p1), .val (.int p2), .val (.int p3), .val (.int p4), .val (.long p5), .second, .val (.int i1), .val (.double (FP.i2d (p3 &&& (255 : Int32)))), .second, .val (.double (FP.i2d (p4 &&& (255 : Int32)))), .second, .val (.ref bo), .unset, .unset, .unset] [(.ref bo)])) _
      refine st14.trans ?_
      show Steps p.tables e below (T14.setTop (mkF m 105 #[.val (.int p0), .val (.int p1), .val (.int p2), .val (.int p3), .val (.int p4), .val (.long p5), .second, .val (.int i1), .val (.double (FP.i2d (p3 &&& (255 : Int32)))), .second, .val (.double (FP.i2d (p4 &&& (255 : Int32)))), .second, .val (.ref bo), .unset, .unset, .unset] [(.long p5)])) _
      refine XS.lload X14.here hx rfl (hb hby at_105) rfl ?_
      show Steps p.tables e below (T14.setTop (mkF m 107 #[.val (.int p0), .val (.int p1), .val (.int p2), .val (.int p3), .val (.int p4), .val (.long p5), .second, .val (.int i1), .val (.double (FP.i2d (p3 &&& (255 : Int32)))), .second, .val (.double (FP.i2d (p4 &&& (255 : Int32)))), .second, .val (.ref bo), .unset, .unset, .unset] [(.long p5), (.long p5)])) _
      refine XT.lcmp X14.here hx rfl (hb hby at_107) rfl ?_
      show Steps p.tables e below (T14.setTop (mkF m 108 #[.val (.int p0), .val (.int p1), .val (.int p2), .val (.int p3), .val (.int p4), .val (.long p5), .second, .val (.int i1), .val (.double (FP.i2d (p3 &&& (255 : Int32)))), .second, .val (.double (FP.i2d (p4 &&& (255 : Int32)))), .second, .val (.ref bo), .unset, .unset, .unset] [(.int (XT.cmpL p5 p5))])) _
      refine XS.ifNo X14.here hx rfl (hb hby at_108) rfl (XT.ll_ne_f rfl) ?_
      show Steps p.tables e below (T14.setTop (mkF m 111 #[.val (.int p0), .val (.int p1), .val (.int p2), .val (.int p3), .val (.int p4), .val (.long p5), .second, .val (.int i1), .val (.double (FP.i2d (p3 &&& (255 : Int32)))), .second, .val (.double (FP.i2d (p4 &&& (255 : Int32)))), .second, .val (.ref bo), .unset, .unset, .unset] [])) _
      refine XS.iconst X14.here hx rfl (hb hby at_111) ?_
      show Steps p.tables e below (T14.setTop (mkF m 112 #[.val (.int p0), .val (.int p1), .val (.int p2), .val (.int p3), .val (.int p4), .val (.long p5), .second, .val (.int i1), .val (.double (FP.i2d (p3 &&& (255 : Int32)))), .second, .val (.double (FP.i2d (p4 &&& (255 : Int32)))), .second, .val (.ref bo), .unset, .unset, .unset] [(.int (1 : Int32))])) _
      refine XS.goto X14.here hx rfl (pc0 := 112) (pc' := 116) rfl (hb hby at_112) (by decide) (by decide) ?_
      show Steps p.tables e below (T14.setTop (mkF m 116 #[.val (.int p0), .val (.int p1), .val (.int p2), .val (.int p3), .val (.int p4), .val (.long p5), .second, .val (.int i1), .val (.double (FP.i2d (p3 &&& (255 : Int32)))), .second, .val (.double (FP.i2d (p4 &&& (255 : Int32)))), .second, .val (.ref bo), .unset, .unset, .unset] [(.int (1 : Int32))])) _
      refine XS.istore X14.here hx rfl (hb hby at_116) rfl (l' := #[.val (.int p0), .val (.int p1), .val (.int p2), .val (.int p3), .val (.int p4), .val (.long p5), .second, .val (.int i1), .val (.double (FP.i2d (p3 &&& (255 : Int32)))), .second, .val (.double (FP.i2d (p4 &&& (255 : Int32)))), .second, .val (.ref bo), .val (.int (1 : Int32)), .unset, .unset]) rfl ?_
      show Steps p.tables e below (T14.setTop (mkF m 118 #[.val (.int p0), .val (.int p1), .val (.int p2), .val (.int p3), .val (.int p4), .val (.long p5), .second, .val (.int i1), .val (.double (FP.i2d (p3 &&& (255 : Int32)))), .second, .val (.double (FP.i2d (p4 &&& (255 : Int32)))), .second, .val (.ref bo), .val (.int (1 : Int32)), .unset, .unset] [])) _
      refine XS.iload X14.here hx rfl (hb hby at_118) rfl ?_
      show Steps p.tables e below (T14.setTop (mkF m 120 #[.val (.int p0), .val (.int p1), .val (.int p2), .val (.int p3), .val (.int p4), .val (.long p5), .second, .val (.int i1), .val (.double (FP.i2d (p3 &&& (255 : Int32)))), .second, .val (.double (FP.i2d (p4 &&& (255 : Int32)))), .second, .val (.ref bo), .val (.int (1 : Int32)), .unset, .unset] [(.int (1 : Int32))])) _
      refine XS.ifYes X14.here hx rfl (pc0 := 120) (pc' := 125) rfl (hb hby at_120) rfl (XT.i0_ne_t (by decide)) (by decide) (by decide) ?_
      show Steps p.tables e below (T14.setTop (mkF m 125 #[.val (.int p0), .val (.int p1), .val (.int p2), .val (.int p3), .val (.int p4), .val (.long p5), .second, .val (.int i1), .val (.double (FP.i2d (p3 &&& (255 : Int32)))), .second, .val (.double (FP.i2d (p4 &&& (255 : Int32)))), .second, .val (.ref bo), .val (.int (1 : Int32)), .unset, .unset] [])) _
      refine XS.aload X14.here hx rfl (hb hby at_125) rfl rfl ?_
      show Steps p.tables e below (T14.setTop (mkF m 127 #[.val (.int p0), .val (.int p1), .val (.int p2), .val (.int p3), .val (.int p4), .val (.long p5), .second, .val (.int i1), .val (.double (FP.i2d (p3 &&& (255 : Int32)))), .second, .val (.double (FP.i2d (p4 &&& (255 : Int32)))), .second, .val (.ref bo), .val (.int (1 : Int32)), .unset, .unset] [(.ref bo)])) _
      refine XS.iloadN X14.here hx rfl (hb hby at_127) rfl ?_
      show Steps p.tables e below (T14.setTop (mkF m 128 #[.val (.int p0), .val (.int p1), .val (.int p2), .val (.int p3), .val (.int p4), .val (.long p5), .second, .val (.int i1), .val (.double (FP.i2d (p3 &&& (255 : Int32)))), .second, .val (.double (FP.i2d (p4 &&& (255 : Int32)))), .second, .val (.ref bo), .val (.int (1 : Int32)), .unset, .unset] [(.int p0), (.ref bo)])) _
      refine XS.dload X14.here hx rfl (hb hby at_128) rfl ?_
      show Steps p.tables e below (T14.setTop (mkF m 130 #[.val (.int p0), .val (.int p1), .val (.int p2), .val (.int p3), .val (.int p4), .val (.long p5), .second, .val (.int i1), .val (.double (FP.i2d (p3 &&& (255 : Int32)))), .second, .val (.double (FP.i2d (p4 &&& (255 : Int32)))), .second, .val (.ref bo), .val (.int (1 : Int32)), .unset, .unset] [(.double (FP.i2d (p3 &&& (255 : Int32)))), (.int p0), (.ref bo)])) _
      refine st15.trans ?_
      show Steps p.tables e below (T15.setTop (mkF m 133 #[.val (.int p0), .val (.int p1), .val (.int p2), .val (.int p3), .val (.int p4), .val (.long p5), .second, .val (.int i1), .val (.double (FP.i2d (p3 &&& (255 : Int32)))), .second, .val (.double (FP.i2d (p4 &&& (255 : Int32)))), .second, .val (.ref bo), .val (.int (1 : Int32)), .unset, .unset] [])) _
      exact kk
    rcases Classical.em (p0 = p1) with hk19 | hk19
    · skip
      have f21 := (Exa.keep f13 K15)
      have z22 : n0 ≤ _ := (Nat.le_trans z12 K15.1)
      obtain ⟨cq20, kq20, q20a, q20b, q20c⟩ := isOf hZ rfl f21
      obtain ⟨_, _, ⟨T20, L20, k20, n20⟩, -, X20, ⟨Lc20, hQ20, l20, y20, z20⟩, st20⟩ := X15.virtualBack hx (y := (⟨"org/wayfold/search/Steps", "merge", "(ID)V"⟩ : MethodName)) (z := (⟨"org/wayfold/search/Steps", "merge", "(ID)V"⟩ : MethodName)) hown (mvT hZ (hw _ (List.mem_of_getElem? (i := 47) rfl))) (mvT hZ (hw _ (List.mem_of_getElem? (i := 48) rfl))) (notFace_of_selects (args := #[]) (mvT hZ (hw _ (List.mem_of_getElem? (i := 50) rfl)))) (mvT hZ (hw _ (List.mem_of_getElem? (i := 50) rfl))) (mvT hZ (hw _ (List.mem_of_getElem? (i := 49) rfl))) (by decide) (backOf (W := 0) (rm15 l Z a0 hw [] bo p1 (FP.i2d (p4 &&& (255 : Int32))) p5 ((0 : Int64) ||| ((1 : Int64) <<< (p0 &&& 0x3f).toInt64)) b1 k1 (vs.set 0 (.int p0)) (.int (0 : Int32)) b2 k2 (ds.set 0 (.double (FP.i2d (p3 &&& (255 : Int32))))) (.double (0 : UInt64)) p0 (FP.i2d (p3 &&& (255 : Int32))) T15.heap n0 z22 f21 q15_4 q15_0 q15_1 q15_5 q15_6 q15_7 q15_2 q15_3 ft9 ft10 ft11 ft12 ft13 ft14 (by rw [List.length_set]; exact ft15) (by rw [List.length_set]; exact ft16) (own_g0 vs ft15 _ _) hk19 (by rw [← (hk19)]; exact own_hb p0 (own_has (0 : Int64) ((1 : Int64) <<< (p0 &&& 0x3f).toInt64))) (own_g0 ds ft16 _ _) (own_i2d_nn _) (own_i2d_nn _)) hZ (hw _ (List.mem_of_getElem? (i := 51) rfl)) (hw _ (List.mem_of_getElem? (i := 2) rfl)) (by decide) (by decide)) q20a q20c (g := (mkF m 138 #[.val (.int p0), .val (.int p1), .val (.int p2), .val (.int p3), .val (.int p4), .val (.long p5), .second, .val (.int i1), .val (.double (FP.i2d (p3 &&& (255 : Int32)))), .second, .val (.double (FP.i2d (p4 &&& (255 : Int32)))), .second, .val (.ref bo), .val (.int (1 : Int32)), .unset, .unset] [(.double (FP.i2d (p4 &&& (255 : Int32)))), (.int p1), (.ref bo)])) rfl (by rw [hml]; rfl) (Steps.refl _) (argsL := [(.int p1), (.double (FP.i2d (p4 &&& (255 : Int32))))]) (rest := []) (lenOf pd_6 rfl) rfl (by show 2 * 0 + _ ≤ _; exact Nat.le_of_eq rfl) (hb hby at_138) (fun _ _ => ⟨rfl, rfl, (by decide : 5 + 0 ≤ _), (by decide : 64 + 0 ≤ _)⟩)
      dsimp only [Pt.U, Pt.locs, Pt.cells, Pt.slots] at X20 l20 y20 z20 st20 hQ20
      subst l20 y20 z20
      obtain ⟨rfl, Nq20, K20, q20_0, q20_1, q20_2, q20_3, q20_4, q20_5, q20_6, q20_7⟩ := hQ20
      have N20 := Fr.app N15 Nq20
      have P23 : ∀ t, Steps p.tables e below (T20.setTop (mkF m 151 #[.val (.int p0), .val (.int p1), .val (.int p2), .val (.int p3), .val (.int p4), .val (.long p5), .second, .val (.int i1), .val (.double (FP.i2d (p3 &&& (255 : Int32)))), .second, .val (.double (FP.i2d (p4 &&& (255 : Int32)))), .second, .val (.ref bo), .val (.int (1 : Int32)), .unset, .unset] [(.int (cmpValue (FP.dcmp (FP.i2d (p3 &&& (255 : Int32))) (FP.i2d (p4 &&& (255 : Int32)))) .g))])) t → Steps p.tables e below (s₁.setTop (entryFrame m #[(.int p0), (.int p1), (.int p2), (.int p3), (.int p4), (.long p5)] maxLocals)) t := by
        intro t kk
        refine P18 _ ?_
        show Steps p.tables e below (T15.setTop (mkF m 133 #[.val (.int p0), .val (.int p1), .val (.int p2), .val (.int p3), .val (.int p4), .val (.long p5), .second, .val (.int i1), .val (.double (FP.i2d (p3 &&& (255 : Int32)))), .second, .val (.double (FP.i2d (p4 &&& (255 : Int32)))), .second, .val (.ref bo), .val (.int (1 : Int32)), .unset, .unset] [])) _
        refine XS.aload X15.here hx rfl (hb hby at_133) rfl rfl ?_
        show Steps p.tables e below (T15.setTop (mkF m 135 #[.val (.int p0), .val (.int p1), .val (.int p2), .val (.int p3), .val (.int p4), .val (.long p5), .second, .val (.int i1), .val (.double (FP.i2d (p3 &&& (255 : Int32)))), .second, .val (.double (FP.i2d (p4 &&& (255 : Int32)))), .second, .val (.ref bo), .val (.int (1 : Int32)), .unset, .unset] [(.ref bo)])) _
        refine XS.iloadN X15.here hx rfl (hb hby at_135) rfl ?_
        show Steps p.tables e below (T15.setTop (mkF m 136 #[.val (.int p0), .val (.int p1), .val (.int p2), .val (.int p3), .val (.int p4), .val (.long p5), .second, .val (.int i1), .val (.double (FP.i2d (p3 &&& (255 : Int32)))), .second, .val (.double (FP.i2d (p4 &&& (255 : Int32)))), .second, .val (.ref bo), .val (.int (1 : Int32)), .unset, .unset] [(.int p1), (.ref bo)])) _
        refine XS.dload X15.here hx rfl (hb hby at_136) rfl ?_
        show Steps p.tables e below (T15.setTop (mkF m 138 #[.val (.int p0), .val (.int p1), .val (.int p2), .val (.int p3), .val (.int p4), .val (.long p5), .second, .val (.int i1), .val (.double (FP.i2d (p3 &&& (255 : Int32)))), .second, .val (.double (FP.i2d (p4 &&& (255 : Int32)))), .second, .val (.ref bo), .val (.int (1 : Int32)), .unset, .unset] [(.double (FP.i2d (p4 &&& (255 : Int32)))), (.int p1), (.ref bo)])) _
        refine st20.trans ?_
        show Steps p.tables e below (T20.setTop (mkF m 141 #[.val (.int p0), .val (.int p1), .val (.int p2), .val (.int p3), .val (.int p4), .val (.long p5), .second, .val (.int i1), .val (.double (FP.i2d (p3 &&& (255 : Int32)))), .second, .val (.double (FP.i2d (p4 &&& (255 : Int32)))), .second, .val (.ref bo), .val (.int (1 : Int32)), .unset, .unset] [])) _
        refine XS.iloadN X20.here hx rfl (hb hby at_141) rfl ?_
        show Steps p.tables e below (T20.setTop (mkF m 142 #[.val (.int p0), .val (.int p1), .val (.int p2), .val (.int p3), .val (.int p4), .val (.long p5), .second, .val (.int i1), .val (.double (FP.i2d (p3 &&& (255 : Int32)))), .second, .val (.double (FP.i2d (p4 &&& (255 : Int32)))), .second, .val (.ref bo), .val (.int (1 : Int32)), .unset, .unset] [(.int p0)])) _
        refine XS.iloadN X20.here hx rfl (hb hby at_142) rfl ?_
        show Steps p.tables e below (T20.setTop (mkF m 143 #[.val (.int p0), .val (.int p1), .val (.int p2), .val (.int p3), .val (.int p4), .val (.long p5), .second, .val (.int i1), .val (.double (FP.i2d (p3 &&& (255 : Int32)))), .second, .val (.double (FP.i2d (p4 &&& (255 : Int32)))), .second, .val (.ref bo), .val (.int (1 : Int32)), .unset, .unset] [(.int p1), (.int p0)])) _
        refine XS.icmpNo X20.here hx rfl (hb hby at_143) rfl (XT.ii_ne_f hk19) ?_
        show Steps p.tables e below (T20.setTop (mkF m 146 #[.val (.int p0), .val (.int p1), .val (.int p2), .val (.int p3), .val (.int p4), .val (.long p5), .second, .val (.int i1), .val (.double (FP.i2d (p3 &&& (255 : Int32)))), .second, .val (.double (FP.i2d (p4 &&& (255 : Int32)))), .second, .val (.ref bo), .val (.int (1 : Int32)), .unset, .unset] [])) _
        refine XS.dload X20.here hx rfl (hb hby at_146) rfl ?_
        show Steps p.tables e below (T20.setTop (mkF m 148 #[.val (.int p0), .val (.int p1), .val (.int p2), .val (.int p3), .val (.int p4), .val (.long p5), .second, .val (.int i1), .val (.double (FP.i2d (p3 &&& (255 : Int32)))), .second, .val (.double (FP.i2d (p4 &&& (255 : Int32)))), .second, .val (.ref bo), .val (.int (1 : Int32)), .unset, .unset] [(.double (FP.i2d (p3 &&& (255 : Int32))))])) _
        refine XS.dload X20.here hx rfl (hb hby at_148) rfl ?_
        show Steps p.tables e below (T20.setTop (mkF m 150 #[.val (.int p0), .val (.int p1), .val (.int p2), .val (.int p3), .val (.int p4), .val (.long p5), .second, .val (.int i1), .val (.double (FP.i2d (p3 &&& (255 : Int32)))), .second, .val (.double (FP.i2d (p4 &&& (255 : Int32)))), .second, .val (.ref bo), .val (.int (1 : Int32)), .unset, .unset] [(.double (FP.i2d (p4 &&& (255 : Int32)))), (.double (FP.i2d (p3 &&& (255 : Int32))))])) _
        refine XS.dcmpS X20.here hx rfl (hb hby at_150) rfl rfl ?_
        show Steps p.tables e below (T20.setTop (mkF m 151 #[.val (.int p0), .val (.int p1), .val (.int p2), .val (.int p3), .val (.int p4), .val (.long p5), .second, .val (.int i1), .val (.double (FP.i2d (p3 &&& (255 : Int32)))), .second, .val (.double (FP.i2d (p4 &&& (255 : Int32)))), .second, .val (.ref bo), .val (.int (1 : Int32)), .unset, .unset] [(.int (cmpValue (FP.dcmp (FP.i2d (p3 &&& (255 : Int32))) (FP.i2d (p4 &&& (255 : Int32)))) .g))])) _
        exact kk
      obtain ⟨d24, h_d24, P25⟩ : ∃ (d24 : UInt64), d24 = (if (cmpValue (FP.dcmp (FP.i2d (p3 &&& (255 : Int32))) (FP.i2d (p4 &&& (255 : Int32)))) .g) < (0 : Int32) then (FP.i2d (p3 &&& (255 : Int32))) else (FP.i2d (p4 &&& (255 : Int32)))) ∧ ∀ t, Steps p.tables e below (T20.setTop (mkF m 161 #[.val (.int p0), .val (.int p1), .val (.int p2), .val (.int p3), .val (.int p4), .val (.long p5), .second, .val (.int i1), .val (.double (FP.i2d (p3 &&& (255 : Int32)))), .second, .val (.double (FP.i2d (p4 &&& (255 : Int32)))), .second, .val (.ref bo), .val (.int (1 : Int32)), .unset, .unset] [(.double d24)])) t → Steps p.tables e below (s₁.setTop (entryFrame m #[(.int p0), (.int p1), (.int p2), (.int p3), (.int p4), (.long p5)] maxLocals)) t := by
        by_cases c26 : (cmpValue (FP.dcmp (FP.i2d (p3 &&& (255 : Int32))) (FP.i2d (p4 &&& (255 : Int32)))) .g) < (0 : Int32)
        · skip
          refine ⟨(FP.i2d (p3 &&& (255 : Int32))), ((if_pos c26).trans rfl).symm, fun t kk => P23 t ?_⟩
          show Steps p.tables e below (T20.setTop (mkF m 151 #[.val (.int p0), .val (.int p1), .val (.int p2), .val (.int p3), .val (.int p4), .val (.long p5), .second, .val (.int i1), .val (.double (FP.i2d (p3 &&& (255 : Int32)))), .second, .val (.double (FP.i2d (p4 &&& (255 : Int32)))), .second, .val (.ref bo), .val (.int (1 : Int32)), .unset, .unset] [(.int (cmpValue (FP.dcmp (FP.i2d (p3 &&& (255 : Int32))) (FP.i2d (p4 &&& (255 : Int32)))) .g))])) _
          refine XS.ifNo X20.here hx rfl (hb hby at_151) rfl (XT.i0_ge_f c26) ?_
          show Steps p.tables e below (T20.setTop (mkF m 154 #[.val (.int p0), .val (.int p1), .val (.int p2), .val (.int p3), .val (.int p4), .val (.long p5), .second, .val (.int i1), .val (.double (FP.i2d (p3 &&& (255 : Int32)))), .second, .val (.double (FP.i2d (p4 &&& (255 : Int32)))), .second, .val (.ref bo), .val (.int (1 : Int32)), .unset, .unset] [])) _
          refine XS.dload X20.here hx rfl (hb hby at_154) rfl ?_
          show Steps p.tables e below (T20.setTop (mkF m 156 #[.val (.int p0), .val (.int p1), .val (.int p2), .val (.int p3), .val (.int p4), .val (.long p5), .second, .val (.int i1), .val (.double (FP.i2d (p3 &&& (255 : Int32)))), .second, .val (.double (FP.i2d (p4 &&& (255 : Int32)))), .second, .val (.ref bo), .val (.int (1 : Int32)), .unset, .unset] [(.double (FP.i2d (p3 &&& (255 : Int32))))])) _
          refine XS.goto X20.here hx rfl (pc0 := 156) (pc' := 161) rfl (hb hby at_156) (by decide) (by decide) ?_
          show Steps p.tables e below (T20.setTop (mkF m 161 #[.val (.int p0), .val (.int p1), .val (.int p2), .val (.int p3), .val (.int p4), .val (.long p5), .second, .val (.int i1), .val (.double (FP.i2d (p3 &&& (255 : Int32)))), .second, .val (.double (FP.i2d (p4 &&& (255 : Int32)))), .second, .val (.ref bo), .val (.int (1 : Int32)), .unset, .unset] [(.double (FP.i2d (p3 &&& (255 : Int32))))])) _
          exact kk
        · skip
          refine ⟨(FP.i2d (p4 &&& (255 : Int32))), ((if_neg c26).trans rfl).symm, fun t kk => P23 t ?_⟩
          show Steps p.tables e below (T20.setTop (mkF m 151 #[.val (.int p0), .val (.int p1), .val (.int p2), .val (.int p3), .val (.int p4), .val (.long p5), .second, .val (.int i1), .val (.double (FP.i2d (p3 &&& (255 : Int32)))), .second, .val (.double (FP.i2d (p4 &&& (255 : Int32)))), .second, .val (.ref bo), .val (.int (1 : Int32)), .unset, .unset] [(.int (cmpValue (FP.dcmp (FP.i2d (p3 &&& (255 : Int32))) (FP.i2d (p4 &&& (255 : Int32)))) .g))])) _
          refine XS.ifYes X20.here hx rfl (pc0 := 151) (pc' := 159) rfl (hb hby at_151) rfl (XT.i0_ge_t c26) (by decide) (by decide) ?_
          show Steps p.tables e below (T20.setTop (mkF m 159 #[.val (.int p0), .val (.int p1), .val (.int p2), .val (.int p3), .val (.int p4), .val (.long p5), .second, .val (.int i1), .val (.double (FP.i2d (p3 &&& (255 : Int32)))), .second, .val (.double (FP.i2d (p4 &&& (255 : Int32)))), .second, .val (.ref bo), .val (.int (1 : Int32)), .unset, .unset] [])) _
          refine XS.dload X20.here hx rfl (hb hby at_159) rfl ?_
          show Steps p.tables e below (T20.setTop (mkF m 161 #[.val (.int p0), .val (.int p1), .val (.int p2), .val (.int p3), .val (.int p4), .val (.long p5), .second, .val (.int i1), .val (.double (FP.i2d (p3 &&& (255 : Int32)))), .second, .val (.double (FP.i2d (p4 &&& (255 : Int32)))), .second, .val (.ref bo), .val (.int (1 : Int32)), .unset, .unset] [(.double (FP.i2d (p4 &&& (255 : Int32))))])) _
          exact kk
      have z28 : n0 ≤ _ := (Nat.le_trans z22 K20.1)
      have f29 := (Exa.keep f21 K20)
      obtain ⟨cq27, kq27, q27a, q27b, q27c⟩ := isOf hZ rfl f29
      obtain ⟨_, _, ⟨T27, L27, k27, n27⟩, -, X27, ⟨Lc27, hQ27, l27, y27, z27⟩, st27⟩ := X20.virtualBack hx (y := (⟨"org/wayfold/search/Steps", "size", "()I"⟩ : MethodName)) (z := (⟨"org/wayfold/search/Steps", "size", "()I"⟩ : MethodName)) hown (mvT hZ (hw _ (List.mem_of_getElem? (i := 37) rfl))) (mvT hZ (hw _ (List.mem_of_getElem? (i := 38) rfl))) (notFace_of_selects (args := #[]) (mvT hZ (hw _ (List.mem_of_getElem? (i := 40) rfl)))) (mvT hZ (hw _ (List.mem_of_getElem? (i := 40) rfl))) (mvT hZ (hw _ (List.mem_of_getElem? (i := 39) rfl))) (by decide) (backOf (W := 0) (rm4 l Z a0 hw [] bo (1 : Int32) T20.heap n0 z28 q20_4) hZ (hw _ (List.mem_of_getElem? (i := 41) rfl)) (hw _ (List.mem_of_getElem? (i := 2) rfl)) (by decide) (by decide)) q27a q27c (g := (mkF m 165 #[.val (.int p0), .val (.int p1), .val (.int p2), .val (.int p3), .val (.int p4), .val (.long p5), .second, .val (.int i1), .val (.double (FP.i2d (p3 &&& (255 : Int32)))), .second, .val (.double (FP.i2d (p4 &&& (255 : Int32)))), .second, .val (.ref bo), .val (.int (1 : Int32)), .val (.double d24), .second] [(.ref bo)])) rfl (by rw [hml]; rfl) (Steps.refl _) (argsL := []) (rest := []) (lenOf pd_4 rfl) rfl (by show 2 * 0 + _ ≤ _; exact Nat.le_of_eq rfl) (hb hby at_165) (fun _ _ => ⟨rfl, rfl, (by decide : 5 + 0 ≤ _), (by decide : 64 + 0 ≤ _)⟩)
      dsimp only [Pt.U, Pt.locs, Pt.cells, Pt.slots] at X27 l27 y27 z27 st27 hQ27
      subst l27 y27 z27
      obtain ⟨rfl, Nq27, e27⟩ := hQ27
      have N27 := Fr.app N20 Nq27
      obtain ⟨cq30, kq30, q30a, q30b, q30c⟩ := isOf hZ e27 f29
      obtain ⟨_, _, ⟨T30, L30, k30, n30⟩, -, X30, ⟨Lc30, hQ30, l30, y30, z30⟩, st30⟩ := X27.virtualBack hx (y := (⟨"org/wayfold/search/Steps", "vertex", "(I)I"⟩ : MethodName)) (z := (⟨"org/wayfold/search/Steps", "vertex", "(I)I"⟩ : MethodName)) hown (mvT hZ (hw _ (List.mem_of_getElem? (i := 52) rfl))) (mvT hZ (hw _ (List.mem_of_getElem? (i := 53) rfl))) (notFace_of_selects (args := #[]) (mvT hZ (hw _ (List.mem_of_getElem? (i := 55) rfl)))) (mvT hZ (hw _ (List.mem_of_getElem? (i := 55) rfl))) (mvT hZ (hw _ (List.mem_of_getElem? (i := 54) rfl))) (by decide) (backOf (W := 0) (rm6 l Z a0 hw [] bo (0 : Int32) b1 k1 (vs.set 0 (.int p0)) (.int (0 : Int32)) p0 T20.heap n0 z28 q20_6 q20_1 ⟨by decide, by decide⟩ (own_g0 vs ft15 _ _)) hZ (hw _ (List.mem_of_getElem? (i := 56) rfl)) (hw _ (List.mem_of_getElem? (i := 2) rfl)) (by decide) (by decide)) q30a q30c (g := (mkF m 175 #[.val (.int p0), .val (.int p1), .val (.int p2), .val (.int p3), .val (.int p4), .val (.long p5), .second, .val (.int i1), .val (.double (FP.i2d (p3 &&& (255 : Int32)))), .second, .val (.double (FP.i2d (p4 &&& (255 : Int32)))), .second, .val (.ref bo), .val (.int (1 : Int32)), .val (.double d24), .second] [(.int (0 : Int32)), (.ref bo)])) rfl (by rw [hml]; rfl) (Steps.refl _) (argsL := [(.int (0 : Int32))]) (rest := []) (lenOf pd_0 rfl) rfl (by show 2 * 0 + _ ≤ _; exact Nat.le_of_eq rfl) (hb hby at_175) (fun _ _ => ⟨rfl, e27, (by decide : 5 + 0 ≤ _), (by decide : 64 + 0 ≤ _)⟩)
      dsimp only [Pt.U, Pt.locs, Pt.cells, Pt.slots] at X30 l30 y30 z30 st30 hQ30
      subst l30 y30 z30
      obtain ⟨rfl, Nq30, e30⟩ := hQ30
      have N30 := Fr.app N27 Nq30
      obtain ⟨cq31, kq31, q31a, q31b, q31c⟩ := isOf hZ e30 f29
      obtain ⟨_, _, ⟨T31, L31, k31, n31⟩, -, X31, ⟨Lc31, hQ31, l31, y31, z31⟩, st31⟩ := X30.virtualBack hx (y := (⟨"org/wayfold/search/Steps", "cost", "(I)D"⟩ : MethodName)) (z := (⟨"org/wayfold/search/Steps", "cost", "(I)D"⟩ : MethodName)) hown (mvT hZ (hw _ (List.mem_of_getElem? (i := 57) rfl))) (mvT hZ (hw _ (List.mem_of_getElem? (i := 58) rfl))) (notFace_of_selects (args := #[]) (mvT hZ (hw _ (List.mem_of_getElem? (i := 60) rfl)))) (mvT hZ (hw _ (List.mem_of_getElem? (i := 60) rfl))) (mvT hZ (hw _ (List.mem_of_getElem? (i := 59) rfl))) (by decide) (backOf (W := 0) (rm7 l Z a0 hw [] bo (0 : Int32) b2 k2 ((ds.set 0 (.double (FP.i2d (p3 &&& (255 : Int32))))).set 0 (.double (Native.java_lang_Math.nans.pick64 false (FP.i2d (p3 &&& (255 : Int32))) (FP.i2d (p4 &&& (255 : Int32)))))) (.double (0 : UInt64)) (Native.java_lang_Math.nans.pick64 false (FP.i2d (p3 &&& (255 : Int32))) (FP.i2d (p4 &&& (255 : Int32)))) T20.heap n0 z28 q20_7 q20_2 ⟨by decide, by decide⟩ (own_g00 ds ft16 _ _ _)) hZ (hw _ (List.mem_of_getElem? (i := 61) rfl)) (hw _ (List.mem_of_getElem? (i := 2) rfl)) (by decide) (by decide)) q31a q31c (g := (mkF m 185 #[.val (.int p0), .val (.int p1), .val (.int p2), .val (.int p3), .val (.int p4), .val (.long p5), .second, .val (.int i1), .val (.double (FP.i2d (p3 &&& (255 : Int32)))), .second, .val (.double (FP.i2d (p4 &&& (255 : Int32)))), .second, .val (.ref bo), .val (.int (1 : Int32)), .val (.double d24), .second] [(.int (0 : Int32)), (.ref bo)])) rfl (by rw [hml]; rfl) (Steps.refl _) (argsL := [(.int (0 : Int32))]) (rest := []) (lenOf pd_7 rfl) rfl (by show 2 * 0 + _ ≤ _; exact Nat.le_of_eq rfl) (hb hby at_185) (fun _ _ => ⟨rfl, e30, (by decide : 5 + 0 ≤ _), (by decide : 64 + 0 ≤ _)⟩)
      dsimp only [Pt.U, Pt.locs, Pt.cells, Pt.slots] at X31 l31 y31 z31 st31 hQ31
      subst l31 y31 z31
      obtain ⟨rfl, Nq31, e31⟩ := hQ31
      have N31 := Fr.app N30 Nq31
      have P32 : ∀ t, Steps p.tables e below (T31.setTop (mkF m 199 #[.val (.int p0), .val (.int p1), .val (.int p2), .val (.int p3), .val (.int p4), .val (.long p5), .second, .val (.int i1), .val (.double (FP.i2d (p3 &&& (255 : Int32)))), .second, .val (.double (FP.i2d (p4 &&& (255 : Int32)))), .second, .val (.ref bo), .val (.int (1 : Int32)), .val (.double d24), .second] [(.int (1 : Int32))])) t → Steps p.tables e below (s₁.setTop (entryFrame m #[(.int p0), (.int p1), (.int p2), (.int p3), (.int p4), (.long p5)] maxLocals)) t := by
        intro t kk
        refine P25 _ ?_
        show Steps p.tables e below (T20.setTop (mkF m 161 #[.val (.int p0), .val (.int p1), .val (.int p2), .val (.int p3), .val (.int p4), .val (.long p5), .second, .val (.int i1), .val (.double (FP.i2d (p3 &&& (255 : Int32)))), .second, .val (.double (FP.i2d (p4 &&& (255 : Int32)))), .second, .val (.ref bo), .val (.int (1 : Int32)), .unset, .unset] [(.double d24)])) _
        refine XS.dstore X20.here hx rfl (hb hby at_161) rfl (l' := #[.val (.int p0), .val (.int p1), .val (.int p2), .val (.int p3), .val (.int p4), .val (.long p5), .second, .val (.int i1), .val (.double (FP.i2d (p3 &&& (255 : Int32)))), .second, .val (.double (FP.i2d (p4 &&& (255 : Int32)))), .second, .val (.ref bo), .val (.int (1 : Int32)), .val (.double d24), .second]) rfl ?_
        show Steps p.tables e below (T20.setTop (mkF m 163 #[.val (.int p0), .val (.int p1), .val (.int p2), .val (.int p3), .val (.int p4), .val (.long p5), .second, .val (.int i1), .val (.double (FP.i2d (p3 &&& (255 : Int32)))), .second, .val (.double (FP.i2d (p4 &&& (255 : Int32)))), .second, .val (.ref bo), .val (.int (1 : Int32)), .val (.double d24), .second] [])) _
        refine XS.aload X20.here hx rfl (hb hby at_163) rfl rfl ?_
        show Steps p.tables e below (T20.setTop (mkF m 165 #[.val (.int p0), .val (.int p1), .val (.int p2), .val (.int p3), .val (.int p4), .val (.long p5), .second, .val (.int i1), .val (.double (FP.i2d (p3 &&& (255 : Int32)))), .second, .val (.double (FP.i2d (p4 &&& (255 : Int32)))), .second, .val (.ref bo), .val (.int (1 : Int32)), .val (.double d24), .second] [(.ref bo)])) _
        refine st27.trans ?_
        show Steps p.tables e below (T27.setTop (mkF m 168 #[.val (.int p0), .val (.int p1), .val (.int p2), .val (.int p3), .val (.int p4), .val (.long p5), .second, .val (.int i1), .val (.double (FP.i2d (p3 &&& (255 : Int32)))), .second, .val (.double (FP.i2d (p4 &&& (255 : Int32)))), .second, .val (.ref bo), .val (.int (1 : Int32)), .val (.double d24), .second] [(.int (1 : Int32))])) _
        refine XS.iconst X27.here hx rfl (hb hby at_168) ?_
        show Steps p.tables e below (T27.setTop (mkF m 169 #[.val (.int p0), .val (.int p1), .val (.int p2), .val (.int p3), .val (.int p4), .val (.long p5), .second, .val (.int i1), .val (.double (FP.i2d (p3 &&& (255 : Int32)))), .second, .val (.double (FP.i2d (p4 &&& (255 : Int32)))), .second, .val (.ref bo), .val (.int (1 : Int32)), .val (.double d24), .second] [(.int (1 : Int32)), (.int (1 : Int32))])) _
        refine XS.icmpNo X27.here hx rfl (hb hby at_169) rfl (XT.ii_ne_f rfl) ?_
        show Steps p.tables e below (T27.setTop (mkF m 172 #[.val (.int p0), .val (.int p1), .val (.int p2), .val (.int p3), .val (.int p4), .val (.long p5), .second, .val (.int i1), .val (.double (FP.i2d (p3 &&& (255 : Int32)))), .second, .val (.double (FP.i2d (p4 &&& (255 : Int32)))), .second, .val (.ref bo), .val (.int (1 : Int32)), .val (.double d24), .second] [])) _
        refine XS.aload X27.here hx rfl (hb hby at_172) rfl rfl ?_
        show Steps p.tables e below (T27.setTop (mkF m 174 #[.val (.int p0), .val (.int p1), .val (.int p2), .val (.int p3), .val (.int p4), .val (.long p5), .second, .val (.int i1), .val (.double (FP.i2d (p3 &&& (255 : Int32)))), .second, .val (.double (FP.i2d (p4 &&& (255 : Int32)))), .second, .val (.ref bo), .val (.int (1 : Int32)), .val (.double d24), .second] [(.ref bo)])) _
        refine XS.iconst X27.here hx rfl (hb hby at_174) ?_
        show Steps p.tables e below (T27.setTop (mkF m 175 #[.val (.int p0), .val (.int p1), .val (.int p2), .val (.int p3), .val (.int p4), .val (.long p5), .second, .val (.int i1), .val (.double (FP.i2d (p3 &&& (255 : Int32)))), .second, .val (.double (FP.i2d (p4 &&& (255 : Int32)))), .second, .val (.ref bo), .val (.int (1 : Int32)), .val (.double d24), .second] [(.int (0 : Int32)), (.ref bo)])) _
        refine st30.trans ?_
        show Steps p.tables e below (T30.setTop (mkF m 178 #[.val (.int p0), .val (.int p1), .val (.int p2), .val (.int p3), .val (.int p4), .val (.long p5), .second, .val (.int i1), .val (.double (FP.i2d (p3 &&& (255 : Int32)))), .second, .val (.double (FP.i2d (p4 &&& (255 : Int32)))), .second, .val (.ref bo), .val (.int (1 : Int32)), .val (.double d24), .second] [(.int p0)])) _
        refine XS.iloadN X30.here hx rfl (hb hby at_178) rfl ?_
        show Steps p.tables e below (T30.setTop (mkF m 179 #[.val (.int p0), .val (.int p1), .val (.int p2), .val (.int p3), .val (.int p4), .val (.long p5), .second, .val (.int i1), .val (.double (FP.i2d (p3 &&& (255 : Int32)))), .second, .val (.double (FP.i2d (p4 &&& (255 : Int32)))), .second, .val (.ref bo), .val (.int (1 : Int32)), .val (.double d24), .second] [(.int p0), (.int p0)])) _
        refine XS.icmpNo X30.here hx rfl (hb hby at_179) rfl (XT.ii_ne_f rfl) ?_
        show Steps p.tables e below (T30.setTop (mkF m 182 #[.val (.int p0), .val (.int p1), .val (.int p2), .val (.int p3), .val (.int p4), .val (.long p5), .second, .val (.int i1), .val (.double (FP.i2d (p3 &&& (255 : Int32)))), .second, .val (.double (FP.i2d (p4 &&& (255 : Int32)))), .second, .val (.ref bo), .val (.int (1 : Int32)), .val (.double d24), .second] [])) _
        refine XS.aload X30.here hx rfl (hb hby at_182) rfl rfl ?_
        show Steps p.tables e below (T30.setTop (mkF m 184 #[.val (.int p0), .val (.int p1), .val (.int p2), .val (.int p3), .val (.int p4), .val (.long p5), .second, .val (.int i1), .val (.double (FP.i2d (p3 &&& (255 : Int32)))), .second, .val (.double (FP.i2d (p4 &&& (255 : Int32)))), .second, .val (.ref bo), .val (.int (1 : Int32)), .val (.double d24), .second] [(.ref bo)])) _
        refine XS.iconst X30.here hx rfl (hb hby at_184) ?_
        show Steps p.tables e below (T30.setTop (mkF m 185 #[.val (.int p0), .val (.int p1), .val (.int p2), .val (.int p3), .val (.int p4), .val (.long p5), .second, .val (.int i1), .val (.double (FP.i2d (p3 &&& (255 : Int32)))), .second, .val (.double (FP.i2d (p4 &&& (255 : Int32)))), .second, .val (.ref bo), .val (.int (1 : Int32)), .val (.double d24), .second] [(.int (0 : Int32)), (.ref bo)])) _
        refine st31.trans ?_
        show Steps p.tables e below (T31.setTop (mkF m 188 #[.val (.int p0), .val (.int p1), .val (.int p2), .val (.int p3), .val (.int p4), .val (.long p5), .second, .val (.int i1), .val (.double (FP.i2d (p3 &&& (255 : Int32)))), .second, .val (.double (FP.i2d (p4 &&& (255 : Int32)))), .second, .val (.ref bo), .val (.int (1 : Int32)), .val (.double d24), .second] [(.double (Native.java_lang_Math.nans.pick64 false (FP.i2d (p3 &&& (255 : Int32))) (FP.i2d (p4 &&& (255 : Int32)))))])) _
        refine XS.dload X31.here hx rfl (hb hby at_188) rfl ?_
        show Steps p.tables e below (T31.setTop (mkF m 190 #[.val (.int p0), .val (.int p1), .val (.int p2), .val (.int p3), .val (.int p4), .val (.long p5), .second, .val (.int i1), .val (.double (FP.i2d (p3 &&& (255 : Int32)))), .second, .val (.double (FP.i2d (p4 &&& (255 : Int32)))), .second, .val (.ref bo), .val (.int (1 : Int32)), .val (.double d24), .second] [(.double d24), (.double (Native.java_lang_Math.nans.pick64 false (FP.i2d (p3 &&& (255 : Int32))) (FP.i2d (p4 &&& (255 : Int32)))))])) _
        refine XS.dcmpS X31.here hx rfl (hb hby at_190) rfl rfl ?_
        show Steps p.tables e below (T31.setTop (mkF m 191 #[.val (.int p0), .val (.int p1), .val (.int p2), .val (.int p3), .val (.int p4), .val (.long p5), .second, .val (.int i1), .val (.double (FP.i2d (p3 &&& (255 : Int32)))), .second, .val (.double (FP.i2d (p4 &&& (255 : Int32)))), .second, .val (.ref bo), .val (.int (1 : Int32)), .val (.double d24), .second] [(.int (cmpValue (FP.dcmp (Native.java_lang_Math.nans.pick64 false (FP.i2d (p3 &&& (255 : Int32))) (FP.i2d (p4 &&& (255 : Int32)))) d24) .l))])) _
        refine XS.ifNo X31.here hx rfl (hb hby at_191) rfl (XT.i0_ne_f (own_min_eq p3 p4 d24 h_d24)) ?_
        show Steps p.tables e below (T31.setTop (mkF m 194 #[.val (.int p0), .val (.int p1), .val (.int p2), .val (.int p3), .val (.int p4), .val (.long p5), .second, .val (.int i1), .val (.double (FP.i2d (p3 &&& (255 : Int32)))), .second, .val (.double (FP.i2d (p4 &&& (255 : Int32)))), .second, .val (.ref bo), .val (.int (1 : Int32)), .val (.double d24), .second] [])) _
        refine XS.iconst X31.here hx rfl (hb hby at_194) ?_
        show Steps p.tables e below (T31.setTop (mkF m 195 #[.val (.int p0), .val (.int p1), .val (.int p2), .val (.int p3), .val (.int p4), .val (.long p5), .second, .val (.int i1), .val (.double (FP.i2d (p3 &&& (255 : Int32)))), .second, .val (.double (FP.i2d (p4 &&& (255 : Int32)))), .second, .val (.ref bo), .val (.int (1 : Int32)), .val (.double d24), .second] [(.int (1 : Int32))])) _
        refine XS.goto X31.here hx rfl (pc0 := 195) (pc' := 199) rfl (hb hby at_195) (by decide) (by decide) ?_
        show Steps p.tables e below (T31.setTop (mkF m 199 #[.val (.int p0), .val (.int p1), .val (.int p2), .val (.int p3), .val (.int p4), .val (.long p5), .second, .val (.int i1), .val (.double (FP.i2d (p3 &&& (255 : Int32)))), .second, .val (.double (FP.i2d (p4 &&& (255 : Int32)))), .second, .val (.ref bo), .val (.int (1 : Int32)), .val (.double d24), .second] [(.int (1 : Int32))])) _
        exact kk
      obtain ⟨fs, hr, hrun, hended, hW, hsame⟩ := X31.leave (v := some (.int (1 : Int32))) (fun h => by rw [Bd.returns] at h; cases h)
      refine ⟨_, _, P32 _ ?_, hrun, hended, _, _, rfl, ?_, ⟨_, rfl⟩, hW, hsame.mono (by decide) (by decide)⟩
      · exact retN X31 hx (t := .boolean) Bd.returns (by simp) (hb hby at_199) hr
      · exact ⟨rfl, N31⟩
    · skip
      have f34 := (Exa.keep f13 K15)
      have z35 : n0 ≤ _ := (Nat.le_trans z12 K15.1)
      obtain ⟨cq33, kq33, q33a, q33b, q33c⟩ := isOf hZ rfl f34
      obtain ⟨_, _, ⟨T33, L33, k33, n33⟩, -, X33, ⟨Lc33, hQ33, l33, y33, z33⟩, st33⟩ := X15.virtualBack hx (y := (⟨"org/wayfold/search/Steps", "merge", "(ID)V"⟩ : MethodName)) (z := (⟨"org/wayfold/search/Steps", "merge", "(ID)V"⟩ : MethodName)) hown (mvT hZ (hw _ (List.mem_of_getElem? (i := 47) rfl))) (mvT hZ (hw _ (List.mem_of_getElem? (i := 48) rfl))) (notFace_of_selects (args := #[]) (mvT hZ (hw _ (List.mem_of_getElem? (i := 50) rfl)))) (mvT hZ (hw _ (List.mem_of_getElem? (i := 50) rfl))) (mvT hZ (hw _ (List.mem_of_getElem? (i := 49) rfl))) (by decide) (backOf (W := 0) (rm14 l Z a0 hw [] bo p1 (FP.i2d (p4 &&& (255 : Int32))) p5 ((0 : Int64) ||| ((1 : Int64) <<< (p0 &&& 0x3f).toInt64)) b1 k1 (vs.set 0 (.int p0)) (.int (0 : Int32)) b2 k2 (ds.set 0 (.double (FP.i2d (p3 &&& (255 : Int32))))) (.double (0 : UInt64)) p0 T15.heap n0 z35 f34 q15_4 q15_0 q15_1 q15_5 q15_6 q15_7 q15_2 q15_3 ft9 ft10 ft11 ft12 ft13 ft14 (by rw [List.length_set]; exact ft15) (by rw [List.length_set]; exact ft16) (own_g0 vs ft15 _ _) hk19) hZ (hw _ (List.mem_of_getElem? (i := 51) rfl)) (hw _ (List.mem_of_getElem? (i := 2) rfl)) (by decide) (by decide)) q33a q33c (g := (mkF m 138 #[.val (.int p0), .val (.int p1), .val (.int p2), .val (.int p3), .val (.int p4), .val (.long p5), .second, .val (.int i1), .val (.double (FP.i2d (p3 &&& (255 : Int32)))), .second, .val (.double (FP.i2d (p4 &&& (255 : Int32)))), .second, .val (.ref bo), .val (.int (1 : Int32)), .unset, .unset] [(.double (FP.i2d (p4 &&& (255 : Int32)))), (.int p1), (.ref bo)])) rfl (by rw [hml]; rfl) (Steps.refl _) (argsL := [(.int p1), (.double (FP.i2d (p4 &&& (255 : Int32))))]) (rest := []) (lenOf pd_6 rfl) rfl (by show 2 * 0 + _ ≤ _; exact Nat.le_of_eq rfl) (hb hby at_138) (fun _ _ => ⟨rfl, rfl, (by decide : 5 + 0 ≤ _), (by decide : 64 + 0 ≤ _)⟩)
      dsimp only [Pt.U, Pt.locs, Pt.cells, Pt.slots] at X33 l33 y33 z33 st33 hQ33
      subst l33 y33 z33
      obtain ⟨rfl, Nq33, K33, q33_0, q33_1, q33_2, q33_3, q33_4, q33_5, q33_6, q33_7⟩ := hQ33
      have N33 := Fr.app N15 Nq33
      have z37 : n0 ≤ _ := (Nat.le_trans z35 K33.1)
      have f38 := (Exa.keep f34 K33)
      obtain ⟨cq36, kq36, q36a, q36b, q36c⟩ := isOf hZ rfl f38
      obtain ⟨_, _, ⟨T36, L36, k36, n36⟩, -, X36, ⟨Lc36, hQ36, l36, y36, z36⟩, st36⟩ := X33.virtualBack hx (y := (⟨"org/wayfold/search/Steps", "size", "()I"⟩ : MethodName)) (z := (⟨"org/wayfold/search/Steps", "size", "()I"⟩ : MethodName)) hown (mvT hZ (hw _ (List.mem_of_getElem? (i := 37) rfl))) (mvT hZ (hw _ (List.mem_of_getElem? (i := 38) rfl))) (notFace_of_selects (args := #[]) (mvT hZ (hw _ (List.mem_of_getElem? (i := 40) rfl)))) (mvT hZ (hw _ (List.mem_of_getElem? (i := 40) rfl))) (mvT hZ (hw _ (List.mem_of_getElem? (i := 39) rfl))) (by decide) (backOf (W := 0) (rm4 l Z a0 hw [] bo (2 : Int32) T33.heap n0 z37 q33_0) hZ (hw _ (List.mem_of_getElem? (i := 41) rfl)) (hw _ (List.mem_of_getElem? (i := 2) rfl)) (by decide) (by decide)) q36a q36c (g := (mkF m 202 #[.val (.int p0), .val (.int p1), .val (.int p2), .val (.int p3), .val (.int p4), .val (.long p5), .second, .val (.int i1), .val (.double (FP.i2d (p3 &&& (255 : Int32)))), .second, .val (.double (FP.i2d (p4 &&& (255 : Int32)))), .second, .val (.ref bo), .val (.int (1 : Int32)), .unset, .unset] [(.ref bo)])) rfl (by rw [hml]; rfl) (Steps.refl _) (argsL := []) (rest := []) (lenOf pd_4 rfl) rfl (by show 2 * 0 + _ ≤ _; exact Nat.le_of_eq rfl) (hb hby at_202) (fun _ _ => ⟨rfl, rfl, (by decide : 5 + 0 ≤ _), (by decide : 64 + 0 ≤ _)⟩)
      dsimp only [Pt.U, Pt.locs, Pt.cells, Pt.slots] at X36 l36 y36 z36 st36 hQ36
      subst l36 y36 z36
      obtain ⟨rfl, Nq36, e36⟩ := hQ36
      have N36 := Fr.app N33 Nq36
      obtain ⟨cq39, kq39, q39a, q39b, q39c⟩ := isOf hZ e36 f38
      obtain ⟨_, _, ⟨T39, L39, k39, n39⟩, -, X39, ⟨Lc39, hQ39, l39, y39, z39⟩, st39⟩ := X36.virtualBack hx (y := (⟨"org/wayfold/search/Steps", "vertex", "(I)I"⟩ : MethodName)) (z := (⟨"org/wayfold/search/Steps", "vertex", "(I)I"⟩ : MethodName)) hown (mvT hZ (hw _ (List.mem_of_getElem? (i := 52) rfl))) (mvT hZ (hw _ (List.mem_of_getElem? (i := 53) rfl))) (notFace_of_selects (args := #[]) (mvT hZ (hw _ (List.mem_of_getElem? (i := 55) rfl)))) (mvT hZ (hw _ (List.mem_of_getElem? (i := 55) rfl))) (mvT hZ (hw _ (List.mem_of_getElem? (i := 54) rfl))) (by decide) (backOf (W := 0) (rm6 l Z a0 hw [] bo (0 : Int32) b1 k1 ((vs.set 0 (.int p0)).set 1 (.int p1)) (.int (0 : Int32)) p0 T33.heap n0 z37 q33_6 q33_2 ⟨by decide, by decide⟩ (own_g01 vs ft15 _ _ _)) hZ (hw _ (List.mem_of_getElem? (i := 56) rfl)) (hw _ (List.mem_of_getElem? (i := 2) rfl)) (by decide) (by decide)) q39a q39c (g := (mkF m 212 #[.val (.int p0), .val (.int p1), .val (.int p2), .val (.int p3), .val (.int p4), .val (.long p5), .second, .val (.int i1), .val (.double (FP.i2d (p3 &&& (255 : Int32)))), .second, .val (.double (FP.i2d (p4 &&& (255 : Int32)))), .second, .val (.ref bo), .val (.int (1 : Int32)), .unset, .unset] [(.int (0 : Int32)), (.ref bo)])) rfl (by rw [hml]; rfl) (Steps.refl _) (argsL := [(.int (0 : Int32))]) (rest := []) (lenOf pd_0 rfl) rfl (by show 2 * 0 + _ ≤ _; exact Nat.le_of_eq rfl) (hb hby at_212) (fun _ _ => ⟨rfl, e36, (by decide : 5 + 0 ≤ _), (by decide : 64 + 0 ≤ _)⟩)
      dsimp only [Pt.U, Pt.locs, Pt.cells, Pt.slots] at X39 l39 y39 z39 st39 hQ39
      subst l39 y39 z39
      obtain ⟨rfl, Nq39, e39⟩ := hQ39
      have N39 := Fr.app N36 Nq39
      obtain ⟨cq40, kq40, q40a, q40b, q40c⟩ := isOf hZ e39 f38
      obtain ⟨_, _, ⟨T40, L40, k40, n40⟩, -, X40, ⟨Lc40, hQ40, l40, y40, z40⟩, st40⟩ := X39.virtualBack hx (y := (⟨"org/wayfold/search/Steps", "cost", "(I)D"⟩ : MethodName)) (z := (⟨"org/wayfold/search/Steps", "cost", "(I)D"⟩ : MethodName)) hown (mvT hZ (hw _ (List.mem_of_getElem? (i := 57) rfl))) (mvT hZ (hw _ (List.mem_of_getElem? (i := 58) rfl))) (notFace_of_selects (args := #[]) (mvT hZ (hw _ (List.mem_of_getElem? (i := 60) rfl)))) (mvT hZ (hw _ (List.mem_of_getElem? (i := 60) rfl))) (mvT hZ (hw _ (List.mem_of_getElem? (i := 59) rfl))) (by decide) (backOf (W := 0) (rm7 l Z a0 hw [] bo (0 : Int32) b2 k2 ((ds.set 0 (.double (FP.i2d (p3 &&& (255 : Int32))))).set 1 (.double (FP.i2d (p4 &&& (255 : Int32))))) (.double (0 : UInt64)) (FP.i2d (p3 &&& (255 : Int32))) T33.heap n0 z37 q33_7 q33_3 ⟨by decide, by decide⟩ (own_g01 ds ft16 _ _ _)) hZ (hw _ (List.mem_of_getElem? (i := 61) rfl)) (hw _ (List.mem_of_getElem? (i := 2) rfl)) (by decide) (by decide)) q40a q40c (g := (mkF m 222 #[.val (.int p0), .val (.int p1), .val (.int p2), .val (.int p3), .val (.int p4), .val (.long p5), .second, .val (.int i1), .val (.double (FP.i2d (p3 &&& (255 : Int32)))), .second, .val (.double (FP.i2d (p4 &&& (255 : Int32)))), .second, .val (.ref bo), .val (.int (1 : Int32)), .unset, .unset] [(.int (0 : Int32)), (.ref bo)])) rfl (by rw [hml]; rfl) (Steps.refl _) (argsL := [(.int (0 : Int32))]) (rest := []) (lenOf pd_7 rfl) rfl (by show 2 * 0 + _ ≤ _; exact Nat.le_of_eq rfl) (hb hby at_222) (fun _ _ => ⟨rfl, e39, (by decide : 5 + 0 ≤ _), (by decide : 64 + 0 ≤ _)⟩)
      dsimp only [Pt.U, Pt.locs, Pt.cells, Pt.slots] at X40 l40 y40 z40 st40 hQ40
      subst l40 y40 z40
      obtain ⟨rfl, Nq40, e40⟩ := hQ40
      have N40 := Fr.app N39 Nq40
      obtain ⟨cq41, kq41, q41a, q41b, q41c⟩ := isOf hZ e40 f38
      obtain ⟨_, _, ⟨T41, L41, k41, n41⟩, -, X41, ⟨Lc41, hQ41, l41, y41, z41⟩, st41⟩ := X40.virtualBack hx (y := (⟨"org/wayfold/search/Steps", "vertex", "(I)I"⟩ : MethodName)) (z := (⟨"org/wayfold/search/Steps", "vertex", "(I)I"⟩ : MethodName)) hown (mvT hZ (hw _ (List.mem_of_getElem? (i := 52) rfl))) (mvT hZ (hw _ (List.mem_of_getElem? (i := 53) rfl))) (notFace_of_selects (args := #[]) (mvT hZ (hw _ (List.mem_of_getElem? (i := 55) rfl)))) (mvT hZ (hw _ (List.mem_of_getElem? (i := 55) rfl))) (mvT hZ (hw _ (List.mem_of_getElem? (i := 54) rfl))) (by decide) (backOf (W := 0) (rm6 l Z a0 hw [] bo (1 : Int32) b1 k1 ((vs.set 0 (.int p0)).set 1 (.int p1)) (.int (0 : Int32)) p1 T33.heap n0 z37 q33_6 q33_2 ⟨by decide, by decide⟩ (own_g11 vs ft15 _ _ _)) hZ (hw _ (List.mem_of_getElem? (i := 56) rfl)) (hw _ (List.mem_of_getElem? (i := 2) rfl)) (by decide) (by decide)) q41a q41c (g := (mkF m 234 #[.val (.int p0), .val (.int p1), .val (.int p2), .val (.int p3), .val (.int p4), .val (.long p5), .second, .val (.int i1), .val (.double (FP.i2d (p3 &&& (255 : Int32)))), .second, .val (.double (FP.i2d (p4 &&& (255 : Int32)))), .second, .val (.ref bo), .val (.int (1 : Int32)), .unset, .unset] [(.int (1 : Int32)), (.ref bo)])) rfl (by rw [hml]; rfl) (Steps.refl _) (argsL := [(.int (1 : Int32))]) (rest := []) (lenOf pd_0 rfl) rfl (by show 2 * 0 + _ ≤ _; exact Nat.le_of_eq rfl) (hb hby at_234) (fun _ _ => ⟨rfl, e40, (by decide : 5 + 0 ≤ _), (by decide : 64 + 0 ≤ _)⟩)
      dsimp only [Pt.U, Pt.locs, Pt.cells, Pt.slots] at X41 l41 y41 z41 st41 hQ41
      subst l41 y41 z41
      obtain ⟨rfl, Nq41, e41⟩ := hQ41
      have N41 := Fr.app N40 Nq41
      obtain ⟨cq42, kq42, q42a, q42b, q42c⟩ := isOf hZ e41 f38
      obtain ⟨_, _, ⟨T42, L42, k42, n42⟩, -, X42, ⟨Lc42, hQ42, l42, y42, z42⟩, st42⟩ := X41.virtualBack hx (y := (⟨"org/wayfold/search/Steps", "cost", "(I)D"⟩ : MethodName)) (z := (⟨"org/wayfold/search/Steps", "cost", "(I)D"⟩ : MethodName)) hown (mvT hZ (hw _ (List.mem_of_getElem? (i := 57) rfl))) (mvT hZ (hw _ (List.mem_of_getElem? (i := 58) rfl))) (notFace_of_selects (args := #[]) (mvT hZ (hw _ (List.mem_of_getElem? (i := 60) rfl)))) (mvT hZ (hw _ (List.mem_of_getElem? (i := 60) rfl))) (mvT hZ (hw _ (List.mem_of_getElem? (i := 59) rfl))) (by decide) (backOf (W := 0) (rm7 l Z a0 hw [] bo (1 : Int32) b2 k2 ((ds.set 0 (.double (FP.i2d (p3 &&& (255 : Int32))))).set 1 (.double (FP.i2d (p4 &&& (255 : Int32))))) (.double (0 : UInt64)) (FP.i2d (p4 &&& (255 : Int32))) T33.heap n0 z37 q33_7 q33_3 ⟨by decide, by decide⟩ (own_g11 ds ft16 _ _ _)) hZ (hw _ (List.mem_of_getElem? (i := 61) rfl)) (hw _ (List.mem_of_getElem? (i := 2) rfl)) (by decide) (by decide)) q42a q42c (g := (mkF m 244 #[.val (.int p0), .val (.int p1), .val (.int p2), .val (.int p3), .val (.int p4), .val (.long p5), .second, .val (.int i1), .val (.double (FP.i2d (p3 &&& (255 : Int32)))), .second, .val (.double (FP.i2d (p4 &&& (255 : Int32)))), .second, .val (.ref bo), .val (.int (1 : Int32)), .unset, .unset] [(.int (1 : Int32)), (.ref bo)])) rfl (by rw [hml]; rfl) (Steps.refl _) (argsL := [(.int (1 : Int32))]) (rest := []) (lenOf pd_7 rfl) rfl (by show 2 * 0 + _ ≤ _; exact Nat.le_of_eq rfl) (hb hby at_244) (fun _ _ => ⟨rfl, e41, (by decide : 5 + 0 ≤ _), (by decide : 64 + 0 ≤ _)⟩)
      dsimp only [Pt.U, Pt.locs, Pt.cells, Pt.slots] at X42 l42 y42 z42 st42 hQ42
      subst l42 y42 z42
      obtain ⟨rfl, Nq42, e42⟩ := hQ42
      have N42 := Fr.app N41 Nq42
      have P43 : ∀ t, Steps p.tables e below (T42.setTop (mkF m 247 #[.val (.int p0), .val (.int p1), .val (.int p2), .val (.int p3), .val (.int p4), .val (.long p5), .second, .val (.int i1), .val (.double (FP.i2d (p3 &&& (255 : Int32)))), .second, .val (.double (FP.i2d (p4 &&& (255 : Int32)))), .second, .val (.ref bo), .val (.int (1 : Int32)), .unset, .unset] [(.double (FP.i2d (p4 &&& (255 : Int32))))])) t → Steps p.tables e below (s₁.setTop (entryFrame m #[(.int p0), (.int p1), (.int p2), (.int p3), (.int p4), (.long p5)] maxLocals)) t := by
        intro t kk
        refine P18 _ ?_
        show Steps p.tables e below (T15.setTop (mkF m 133 #[.val (.int p0), .val (.int p1), .val (.int p2), .val (.int p3), .val (.int p4), .val (.long p5), .second, .val (.int i1), .val (.double (FP.i2d (p3 &&& (255 : Int32)))), .second, .val (.double (FP.i2d (p4 &&& (255 : Int32)))), .second, .val (.ref bo), .val (.int (1 : Int32)), .unset, .unset] [])) _
        refine XS.aload X15.here hx rfl (hb hby at_133) rfl rfl ?_
        show Steps p.tables e below (T15.setTop (mkF m 135 #[.val (.int p0), .val (.int p1), .val (.int p2), .val (.int p3), .val (.int p4), .val (.long p5), .second, .val (.int i1), .val (.double (FP.i2d (p3 &&& (255 : Int32)))), .second, .val (.double (FP.i2d (p4 &&& (255 : Int32)))), .second, .val (.ref bo), .val (.int (1 : Int32)), .unset, .unset] [(.ref bo)])) _
        refine XS.iloadN X15.here hx rfl (hb hby at_135) rfl ?_
        show Steps p.tables e below (T15.setTop (mkF m 136 #[.val (.int p0), .val (.int p1), .val (.int p2), .val (.int p3), .val (.int p4), .val (.long p5), .second, .val (.int i1), .val (.double (FP.i2d (p3 &&& (255 : Int32)))), .second, .val (.double (FP.i2d (p4 &&& (255 : Int32)))), .second, .val (.ref bo), .val (.int (1 : Int32)), .unset, .unset] [(.int p1), (.ref bo)])) _
        refine XS.dload X15.here hx rfl (hb hby at_136) rfl ?_
        show Steps p.tables e below (T15.setTop (mkF m 138 #[.val (.int p0), .val (.int p1), .val (.int p2), .val (.int p3), .val (.int p4), .val (.long p5), .second, .val (.int i1), .val (.double (FP.i2d (p3 &&& (255 : Int32)))), .second, .val (.double (FP.i2d (p4 &&& (255 : Int32)))), .second, .val (.ref bo), .val (.int (1 : Int32)), .unset, .unset] [(.double (FP.i2d (p4 &&& (255 : Int32)))), (.int p1), (.ref bo)])) _
        refine st33.trans ?_
        show Steps p.tables e below (T33.setTop (mkF m 141 #[.val (.int p0), .val (.int p1), .val (.int p2), .val (.int p3), .val (.int p4), .val (.long p5), .second, .val (.int i1), .val (.double (FP.i2d (p3 &&& (255 : Int32)))), .second, .val (.double (FP.i2d (p4 &&& (255 : Int32)))), .second, .val (.ref bo), .val (.int (1 : Int32)), .unset, .unset] [])) _
        refine XS.iloadN X33.here hx rfl (hb hby at_141) rfl ?_
        show Steps p.tables e below (T33.setTop (mkF m 142 #[.val (.int p0), .val (.int p1), .val (.int p2), .val (.int p3), .val (.int p4), .val (.long p5), .second, .val (.int i1), .val (.double (FP.i2d (p3 &&& (255 : Int32)))), .second, .val (.double (FP.i2d (p4 &&& (255 : Int32)))), .second, .val (.ref bo), .val (.int (1 : Int32)), .unset, .unset] [(.int p0)])) _
        refine XS.iloadN X33.here hx rfl (hb hby at_142) rfl ?_
        show Steps p.tables e below (T33.setTop (mkF m 143 #[.val (.int p0), .val (.int p1), .val (.int p2), .val (.int p3), .val (.int p4), .val (.long p5), .second, .val (.int i1), .val (.double (FP.i2d (p3 &&& (255 : Int32)))), .second, .val (.double (FP.i2d (p4 &&& (255 : Int32)))), .second, .val (.ref bo), .val (.int (1 : Int32)), .unset, .unset] [(.int p1), (.int p0)])) _
        refine XS.icmpYes X33.here hx rfl (pc0 := 143) (pc' := 200) rfl (hb hby at_143) rfl (XT.ii_ne_t hk19) (by decide) (by decide) ?_
        show Steps p.tables e below (T33.setTop (mkF m 200 #[.val (.int p0), .val (.int p1), .val (.int p2), .val (.int p3), .val (.int p4), .val (.long p5), .second, .val (.int i1), .val (.double (FP.i2d (p3 &&& (255 : Int32)))), .second, .val (.double (FP.i2d (p4 &&& (255 : Int32)))), .second, .val (.ref bo), .val (.int (1 : Int32)), .unset, .unset] [])) _
        refine XS.aload X33.here hx rfl (hb hby at_200) rfl rfl ?_
        show Steps p.tables e below (T33.setTop (mkF m 202 #[.val (.int p0), .val (.int p1), .val (.int p2), .val (.int p3), .val (.int p4), .val (.long p5), .second, .val (.int i1), .val (.double (FP.i2d (p3 &&& (255 : Int32)))), .second, .val (.double (FP.i2d (p4 &&& (255 : Int32)))), .second, .val (.ref bo), .val (.int (1 : Int32)), .unset, .unset] [(.ref bo)])) _
        refine st36.trans ?_
        show Steps p.tables e below (T36.setTop (mkF m 205 #[.val (.int p0), .val (.int p1), .val (.int p2), .val (.int p3), .val (.int p4), .val (.long p5), .second, .val (.int i1), .val (.double (FP.i2d (p3 &&& (255 : Int32)))), .second, .val (.double (FP.i2d (p4 &&& (255 : Int32)))), .second, .val (.ref bo), .val (.int (1 : Int32)), .unset, .unset] [(.int (2 : Int32))])) _
        refine XS.iconst X36.here hx rfl (hb hby at_205) ?_
        show Steps p.tables e below (T36.setTop (mkF m 206 #[.val (.int p0), .val (.int p1), .val (.int p2), .val (.int p3), .val (.int p4), .val (.long p5), .second, .val (.int i1), .val (.double (FP.i2d (p3 &&& (255 : Int32)))), .second, .val (.double (FP.i2d (p4 &&& (255 : Int32)))), .second, .val (.ref bo), .val (.int (1 : Int32)), .unset, .unset] [(.int (2 : Int32)), (.int (2 : Int32))])) _
        refine XS.icmpNo X36.here hx rfl (hb hby at_206) rfl (XT.ii_ne_f rfl) ?_
        show Steps p.tables e below (T36.setTop (mkF m 209 #[.val (.int p0), .val (.int p1), .val (.int p2), .val (.int p3), .val (.int p4), .val (.long p5), .second, .val (.int i1), .val (.double (FP.i2d (p3 &&& (255 : Int32)))), .second, .val (.double (FP.i2d (p4 &&& (255 : Int32)))), .second, .val (.ref bo), .val (.int (1 : Int32)), .unset, .unset] [])) _
        refine XS.aload X36.here hx rfl (hb hby at_209) rfl rfl ?_
        show Steps p.tables e below (T36.setTop (mkF m 211 #[.val (.int p0), .val (.int p1), .val (.int p2), .val (.int p3), .val (.int p4), .val (.long p5), .second, .val (.int i1), .val (.double (FP.i2d (p3 &&& (255 : Int32)))), .second, .val (.double (FP.i2d (p4 &&& (255 : Int32)))), .second, .val (.ref bo), .val (.int (1 : Int32)), .unset, .unset] [(.ref bo)])) _
        refine XS.iconst X36.here hx rfl (hb hby at_211) ?_
        show Steps p.tables e below (T36.setTop (mkF m 212 #[.val (.int p0), .val (.int p1), .val (.int p2), .val (.int p3), .val (.int p4), .val (.long p5), .second, .val (.int i1), .val (.double (FP.i2d (p3 &&& (255 : Int32)))), .second, .val (.double (FP.i2d (p4 &&& (255 : Int32)))), .second, .val (.ref bo), .val (.int (1 : Int32)), .unset, .unset] [(.int (0 : Int32)), (.ref bo)])) _
        refine st39.trans ?_
        show Steps p.tables e below (T39.setTop (mkF m 215 #[.val (.int p0), .val (.int p1), .val (.int p2), .val (.int p3), .val (.int p4), .val (.long p5), .second, .val (.int i1), .val (.double (FP.i2d (p3 &&& (255 : Int32)))), .second, .val (.double (FP.i2d (p4 &&& (255 : Int32)))), .second, .val (.ref bo), .val (.int (1 : Int32)), .unset, .unset] [(.int p0)])) _
        refine XS.iloadN X39.here hx rfl (hb hby at_215) rfl ?_
        show Steps p.tables e below (T39.setTop (mkF m 216 #[.val (.int p0), .val (.int p1), .val (.int p2), .val (.int p3), .val (.int p4), .val (.long p5), .second, .val (.int i1), .val (.double (FP.i2d (p3 &&& (255 : Int32)))), .second, .val (.double (FP.i2d (p4 &&& (255 : Int32)))), .second, .val (.ref bo), .val (.int (1 : Int32)), .unset, .unset] [(.int p0), (.int p0)])) _
        refine XS.icmpNo X39.here hx rfl (hb hby at_216) rfl (XT.ii_ne_f rfl) ?_
        show Steps p.tables e below (T39.setTop (mkF m 219 #[.val (.int p0), .val (.int p1), .val (.int p2), .val (.int p3), .val (.int p4), .val (.long p5), .second, .val (.int i1), .val (.double (FP.i2d (p3 &&& (255 : Int32)))), .second, .val (.double (FP.i2d (p4 &&& (255 : Int32)))), .second, .val (.ref bo), .val (.int (1 : Int32)), .unset, .unset] [])) _
        refine XS.aload X39.here hx rfl (hb hby at_219) rfl rfl ?_
        show Steps p.tables e below (T39.setTop (mkF m 221 #[.val (.int p0), .val (.int p1), .val (.int p2), .val (.int p3), .val (.int p4), .val (.long p5), .second, .val (.int i1), .val (.double (FP.i2d (p3 &&& (255 : Int32)))), .second, .val (.double (FP.i2d (p4 &&& (255 : Int32)))), .second, .val (.ref bo), .val (.int (1 : Int32)), .unset, .unset] [(.ref bo)])) _
        refine XS.iconst X39.here hx rfl (hb hby at_221) ?_
        show Steps p.tables e below (T39.setTop (mkF m 222 #[.val (.int p0), .val (.int p1), .val (.int p2), .val (.int p3), .val (.int p4), .val (.long p5), .second, .val (.int i1), .val (.double (FP.i2d (p3 &&& (255 : Int32)))), .second, .val (.double (FP.i2d (p4 &&& (255 : Int32)))), .second, .val (.ref bo), .val (.int (1 : Int32)), .unset, .unset] [(.int (0 : Int32)), (.ref bo)])) _
        refine st40.trans ?_
        show Steps p.tables e below (T40.setTop (mkF m 225 #[.val (.int p0), .val (.int p1), .val (.int p2), .val (.int p3), .val (.int p4), .val (.long p5), .second, .val (.int i1), .val (.double (FP.i2d (p3 &&& (255 : Int32)))), .second, .val (.double (FP.i2d (p4 &&& (255 : Int32)))), .second, .val (.ref bo), .val (.int (1 : Int32)), .unset, .unset] [(.double (FP.i2d (p3 &&& (255 : Int32))))])) _
        refine XS.dload X40.here hx rfl (hb hby at_225) rfl ?_
        show Steps p.tables e below (T40.setTop (mkF m 227 #[.val (.int p0), .val (.int p1), .val (.int p2), .val (.int p3), .val (.int p4), .val (.long p5), .second, .val (.int i1), .val (.double (FP.i2d (p3 &&& (255 : Int32)))), .second, .val (.double (FP.i2d (p4 &&& (255 : Int32)))), .second, .val (.ref bo), .val (.int (1 : Int32)), .unset, .unset] [(.double (FP.i2d (p3 &&& (255 : Int32)))), (.double (FP.i2d (p3 &&& (255 : Int32))))])) _
        refine XS.dcmpS X40.here hx rfl (hb hby at_227) rfl rfl ?_
        show Steps p.tables e below (T40.setTop (mkF m 228 #[.val (.int p0), .val (.int p1), .val (.int p2), .val (.int p3), .val (.int p4), .val (.long p5), .second, .val (.int i1), .val (.double (FP.i2d (p3 &&& (255 : Int32)))), .second, .val (.double (FP.i2d (p4 &&& (255 : Int32)))), .second, .val (.ref bo), .val (.int (1 : Int32)), .unset, .unset] [(.int (cmpValue (FP.dcmp (FP.i2d (p3 &&& (255 : Int32))) (FP.i2d (p3 &&& (255 : Int32)))) .l))])) _
        refine XS.ifNo X40.here hx rfl (hb hby at_228) rfl (XT.i0_ne_f (dcmpV_self (own_i2d_nn _) .l)) ?_
        show Steps p.tables e below (T40.setTop (mkF m 231 #[.val (.int p0), .val (.int p1), .val (.int p2), .val (.int p3), .val (.int p4), .val (.long p5), .second, .val (.int i1), .val (.double (FP.i2d (p3 &&& (255 : Int32)))), .second, .val (.double (FP.i2d (p4 &&& (255 : Int32)))), .second, .val (.ref bo), .val (.int (1 : Int32)), .unset, .unset] [])) _
        refine XS.aload X40.here hx rfl (hb hby at_231) rfl rfl ?_
        show Steps p.tables e below (T40.setTop (mkF m 233 #[.val (.int p0), .val (.int p1), .val (.int p2), .val (.int p3), .val (.int p4), .val (.long p5), .second, .val (.int i1), .val (.double (FP.i2d (p3 &&& (255 : Int32)))), .second, .val (.double (FP.i2d (p4 &&& (255 : Int32)))), .second, .val (.ref bo), .val (.int (1 : Int32)), .unset, .unset] [(.ref bo)])) _
        refine XS.iconst X40.here hx rfl (hb hby at_233) ?_
        show Steps p.tables e below (T40.setTop (mkF m 234 #[.val (.int p0), .val (.int p1), .val (.int p2), .val (.int p3), .val (.int p4), .val (.long p5), .second, .val (.int i1), .val (.double (FP.i2d (p3 &&& (255 : Int32)))), .second, .val (.double (FP.i2d (p4 &&& (255 : Int32)))), .second, .val (.ref bo), .val (.int (1 : Int32)), .unset, .unset] [(.int (1 : Int32)), (.ref bo)])) _
        refine st41.trans ?_
        show Steps p.tables e below (T41.setTop (mkF m 237 #[.val (.int p0), .val (.int p1), .val (.int p2), .val (.int p3), .val (.int p4), .val (.long p5), .second, .val (.int i1), .val (.double (FP.i2d (p3 &&& (255 : Int32)))), .second, .val (.double (FP.i2d (p4 &&& (255 : Int32)))), .second, .val (.ref bo), .val (.int (1 : Int32)), .unset, .unset] [(.int p1)])) _
        refine XS.iloadN X41.here hx rfl (hb hby at_237) rfl ?_
        show Steps p.tables e below (T41.setTop (mkF m 238 #[.val (.int p0), .val (.int p1), .val (.int p2), .val (.int p3), .val (.int p4), .val (.long p5), .second, .val (.int i1), .val (.double (FP.i2d (p3 &&& (255 : Int32)))), .second, .val (.double (FP.i2d (p4 &&& (255 : Int32)))), .second, .val (.ref bo), .val (.int (1 : Int32)), .unset, .unset] [(.int p1), (.int p1)])) _
        refine XS.icmpNo X41.here hx rfl (hb hby at_238) rfl (XT.ii_ne_f rfl) ?_
        show Steps p.tables e below (T41.setTop (mkF m 241 #[.val (.int p0), .val (.int p1), .val (.int p2), .val (.int p3), .val (.int p4), .val (.long p5), .second, .val (.int i1), .val (.double (FP.i2d (p3 &&& (255 : Int32)))), .second, .val (.double (FP.i2d (p4 &&& (255 : Int32)))), .second, .val (.ref bo), .val (.int (1 : Int32)), .unset, .unset] [])) _
        refine XS.aload X41.here hx rfl (hb hby at_241) rfl rfl ?_
        show Steps p.tables e below (T41.setTop (mkF m 243 #[.val (.int p0), .val (.int p1), .val (.int p2), .val (.int p3), .val (.int p4), .val (.long p5), .second, .val (.int i1), .val (.double (FP.i2d (p3 &&& (255 : Int32)))), .second, .val (.double (FP.i2d (p4 &&& (255 : Int32)))), .second, .val (.ref bo), .val (.int (1 : Int32)), .unset, .unset] [(.ref bo)])) _
        refine XS.iconst X41.here hx rfl (hb hby at_243) ?_
        show Steps p.tables e below (T41.setTop (mkF m 244 #[.val (.int p0), .val (.int p1), .val (.int p2), .val (.int p3), .val (.int p4), .val (.long p5), .second, .val (.int i1), .val (.double (FP.i2d (p3 &&& (255 : Int32)))), .second, .val (.double (FP.i2d (p4 &&& (255 : Int32)))), .second, .val (.ref bo), .val (.int (1 : Int32)), .unset, .unset] [(.int (1 : Int32)), (.ref bo)])) _
        refine st42.trans ?_
        show Steps p.tables e below (T42.setTop (mkF m 247 #[.val (.int p0), .val (.int p1), .val (.int p2), .val (.int p3), .val (.int p4), .val (.long p5), .second, .val (.int i1), .val (.double (FP.i2d (p3 &&& (255 : Int32)))), .second, .val (.double (FP.i2d (p4 &&& (255 : Int32)))), .second, .val (.ref bo), .val (.int (1 : Int32)), .unset, .unset] [(.double (FP.i2d (p4 &&& (255 : Int32))))])) _
        exact kk
      have P44 : ∀ t, Steps p.tables e below (T42.setTop (mkF m 258 #[.val (.int p0), .val (.int p1), .val (.int p2), .val (.int p3), .val (.int p4), .val (.long p5), .second, .val (.int i1), .val (.double (FP.i2d (p3 &&& (255 : Int32)))), .second, .val (.double (FP.i2d (p4 &&& (255 : Int32)))), .second, .val (.ref bo), .val (.int (1 : Int32)), .unset, .unset] [(.int (1 : Int32))])) t → Steps p.tables e below (s₁.setTop (entryFrame m #[(.int p0), (.int p1), (.int p2), (.int p3), (.int p4), (.long p5)] maxLocals)) t := by
        intro t kk
        refine P43 _ ?_
        show Steps p.tables e below (T42.setTop (mkF m 247 #[.val (.int p0), .val (.int p1), .val (.int p2), .val (.int p3), .val (.int p4), .val (.long p5), .second, .val (.int i1), .val (.double (FP.i2d (p3 &&& (255 : Int32)))), .second, .val (.double (FP.i2d (p4 &&& (255 : Int32)))), .second, .val (.ref bo), .val (.int (1 : Int32)), .unset, .unset] [(.double (FP.i2d (p4 &&& (255 : Int32))))])) _
        refine XS.dload X42.here hx rfl (hb hby at_247) rfl ?_
        show Steps p.tables e below (T42.setTop (mkF m 249 #[.val (.int p0), .val (.int p1), .val (.int p2), .val (.int p3), .val (.int p4), .val (.long p5), .second, .val (.int i1), .val (.double (FP.i2d (p3 &&& (255 : Int32)))), .second, .val (.double (FP.i2d (p4 &&& (255 : Int32)))), .second, .val (.ref bo), .val (.int (1 : Int32)), .unset, .unset] [(.double (FP.i2d (p4 &&& (255 : Int32)))), (.double (FP.i2d (p4 &&& (255 : Int32))))])) _
        refine XS.dcmpS X42.here hx rfl (hb hby at_249) rfl rfl ?_
        show Steps p.tables e below (T42.setTop (mkF m 250 #[.val (.int p0), .val (.int p1), .val (.int p2), .val (.int p3), .val (.int p4), .val (.long p5), .second, .val (.int i1), .val (.double (FP.i2d (p3 &&& (255 : Int32)))), .second, .val (.double (FP.i2d (p4 &&& (255 : Int32)))), .second, .val (.ref bo), .val (.int (1 : Int32)), .unset, .unset] [(.int (cmpValue (FP.dcmp (FP.i2d (p4 &&& (255 : Int32))) (FP.i2d (p4 &&& (255 : Int32)))) .l))])) _
        refine XS.ifNo X42.here hx rfl (hb hby at_250) rfl (XT.i0_ne_f (dcmpV_self (own_i2d_nn _) .l)) ?_
        show Steps p.tables e below (T42.setTop (mkF m 253 #[.val (.int p0), .val (.int p1), .val (.int p2), .val (.int p3), .val (.int p4), .val (.long p5), .second, .val (.int i1), .val (.double (FP.i2d (p3 &&& (255 : Int32)))), .second, .val (.double (FP.i2d (p4 &&& (255 : Int32)))), .second, .val (.ref bo), .val (.int (1 : Int32)), .unset, .unset] [])) _
        refine XS.iconst X42.here hx rfl (hb hby at_253) ?_
        show Steps p.tables e below (T42.setTop (mkF m 254 #[.val (.int p0), .val (.int p1), .val (.int p2), .val (.int p3), .val (.int p4), .val (.long p5), .second, .val (.int i1), .val (.double (FP.i2d (p3 &&& (255 : Int32)))), .second, .val (.double (FP.i2d (p4 &&& (255 : Int32)))), .second, .val (.ref bo), .val (.int (1 : Int32)), .unset, .unset] [(.int (1 : Int32))])) _
        refine XS.goto X42.here hx rfl (pc0 := 254) (pc' := 258) rfl (hb hby at_254) (by decide) (by decide) ?_
        show Steps p.tables e below (T42.setTop (mkF m 258 #[.val (.int p0), .val (.int p1), .val (.int p2), .val (.int p3), .val (.int p4), .val (.long p5), .second, .val (.int i1), .val (.double (FP.i2d (p3 &&& (255 : Int32)))), .second, .val (.double (FP.i2d (p4 &&& (255 : Int32)))), .second, .val (.ref bo), .val (.int (1 : Int32)), .unset, .unset] [(.int (1 : Int32))])) _
        exact kk
      obtain ⟨fs, hr, hrun, hended, hW, hsame⟩ := X42.leave (v := some (.int (1 : Int32))) (fun h => by rw [Bd.returns] at h; cases h)
      refine ⟨_, _, P44 _ ?_, hrun, hended, _, _, rfl, ?_, ⟨_, rfl⟩, hW, hsame.mono (by decide) (by decide)⟩
      · exact retN X42 hx (t := .boolean) Bd.returns (by simp) (hb hby at_258) hr
      · exact ⟨rfl, N42⟩
  have P45 : ∀ t, Steps p.tables e below (T3.setTop (mkF m 38 #[.val (.int p0), .val (.int p1), .val (.int p2), .val (.int p3), .val (.int p4), .val (.long p5), .second, .val (.int i1), .val (.double (FP.i2d (p3 &&& (255 : Int32)))), .second, .val (.double (FP.i2d (p4 &&& (255 : Int32)))), .second, .val (.ref b2), .unset, .unset, .unset] [(.int (1 : Int32)), (.int i1)])) t → Steps p.tables e below (s₁.setTop (entryFrame m #[(.int p0), (.int p1), (.int p2), (.int p3), (.int p4), (.long p5)] maxLocals)) t := by
    intro t kk
    refine P6 _ ?_
    show Steps p.tables e below (T3.setTop (mkF m 35 #[.val (.int p0), .val (.int p1), .val (.int p2), .val (.int p3), .val (.int p4), .val (.long p5), .second, .val (.int i1), .val (.double (FP.i2d (p3 &&& (255 : Int32)))), .second, .val (.double (FP.i2d (p4 &&& (255 : Int32)))), .second, .val (.ref b2), .unset, .unset, .unset] [])) _
    refine XS.iload X3.here hx rfl (hb hby at_35) rfl ?_
    show Steps p.tables e below (T3.setTop (mkF m 37 #[.val (.int p0), .val (.int p1), .val (.int p2), .val (.int p3), .val (.int p4), .val (.long p5), .second, .val (.int i1), .val (.double (FP.i2d (p3 &&& (255 : Int32)))), .second, .val (.double (FP.i2d (p4 &&& (255 : Int32)))), .second, .val (.ref b2), .unset, .unset, .unset] [(.int i1)])) _
    refine XS.iconst X3.here hx rfl (hb hby at_37) ?_
    show Steps p.tables e below (T3.setTop (mkF m 38 #[.val (.int p0), .val (.int p1), .val (.int p2), .val (.int p3), .val (.int p4), .val (.long p5), .second, .val (.int i1), .val (.double (FP.i2d (p3 &&& (255 : Int32)))), .second, .val (.double (FP.i2d (p4 &&& (255 : Int32)))), .second, .val (.ref b2), .unset, .unset, .unset] [(.int (1 : Int32)), (.int i1)])) _
    exact kk
  by_cases c46 : i1 < (1 : Int32)
  · skip
    have P47 : ∀ t, Steps p.tables e below (T3.setTop (mkF m 80 #[.val (.int p0), .val (.int p1), .val (.int p2), .val (.int p3), .val (.int p4), .val (.long p5), .second, .val (.int i1), .val (.double (FP.i2d (p3 &&& (255 : Int32)))), .second, .val (.double (FP.i2d (p4 &&& (255 : Int32)))), .second, .val (.ref b2), .unset, .unset, .unset] [])) t → Steps p.tables e below (s₁.setTop (entryFrame m #[(.int p0), (.int p1), (.int p2), (.int p3), (.int p4), (.long p5)] maxLocals)) t := by
      intro t kk
      refine P45 _ ?_
      show Steps p.tables e below (T3.setTop (mkF m 38 #[.val (.int p0), .val (.int p1), .val (.int p2), .val (.int p3), .val (.int p4), .val (.long p5), .second, .val (.int i1), .val (.double (FP.i2d (p3 &&& (255 : Int32)))), .second, .val (.double (FP.i2d (p4 &&& (255 : Int32)))), .second, .val (.ref b2), .unset, .unset, .unset] [(.int (1 : Int32)), (.int i1)])) _
      refine XS.icmpYes X3.here hx rfl (pc0 := 38) (pc' := 50) rfl (hb hby at_38) rfl (XT.ii_lt_t c46) (by decide) (by decide) ?_
      show Steps p.tables e below (T3.setTop (mkF m 50 #[.val (.int p0), .val (.int p1), .val (.int p2), .val (.int p3), .val (.int p4), .val (.long p5), .second, .val (.int i1), .val (.double (FP.i2d (p3 &&& (255 : Int32)))), .second, .val (.double (FP.i2d (p4 &&& (255 : Int32)))), .second, .val (.ref b2), .unset, .unset, .unset] [])) _
      refine XS.iload X3.here hx rfl (hb hby at_50) rfl ?_
      show Steps p.tables e below (T3.setTop (mkF m 52 #[.val (.int p0), .val (.int p1), .val (.int p2), .val (.int p3), .val (.int p4), .val (.long p5), .second, .val (.int i1), .val (.double (FP.i2d (p3 &&& (255 : Int32)))), .second, .val (.double (FP.i2d (p4 &&& (255 : Int32)))), .second, .val (.ref b2), .unset, .unset, .unset] [(.int i1)])) _
      refine XS.iconst X3.here hx rfl (hb hby at_52) ?_
      show Steps p.tables e below (T3.setTop (mkF m 53 #[.val (.int p0), .val (.int p1), .val (.int p2), .val (.int p3), .val (.int p4), .val (.long p5), .second, .val (.int i1), .val (.double (FP.i2d (p3 &&& (255 : Int32)))), .second, .val (.double (FP.i2d (p4 &&& (255 : Int32)))), .second, .val (.ref b2), .unset, .unset, .unset] [(.int (2 : Int32)), (.int i1)])) _
      refine XS.icmpYes X3.here hx rfl (pc0 := 53) (pc' := 65) rfl (hb hby at_53) rfl (XT.ii_lt_t ((own_lt _).1 c46)) (by decide) (by decide) ?_
      show Steps p.tables e below (T3.setTop (mkF m 65 #[.val (.int p0), .val (.int p1), .val (.int p2), .val (.int p3), .val (.int p4), .val (.long p5), .second, .val (.int i1), .val (.double (FP.i2d (p3 &&& (255 : Int32)))), .second, .val (.double (FP.i2d (p4 &&& (255 : Int32)))), .second, .val (.ref b2), .unset, .unset, .unset] [])) _
      refine XS.iload X3.here hx rfl (hb hby at_65) rfl ?_
      show Steps p.tables e below (T3.setTop (mkF m 67 #[.val (.int p0), .val (.int p1), .val (.int p2), .val (.int p3), .val (.int p4), .val (.long p5), .second, .val (.int i1), .val (.double (FP.i2d (p3 &&& (255 : Int32)))), .second, .val (.double (FP.i2d (p4 &&& (255 : Int32)))), .second, .val (.ref b2), .unset, .unset, .unset] [(.int i1)])) _
      refine XS.iconst X3.here hx rfl (hb hby at_67) ?_
      show Steps p.tables e below (T3.setTop (mkF m 68 #[.val (.int p0), .val (.int p1), .val (.int p2), .val (.int p3), .val (.int p4), .val (.long p5), .second, .val (.int i1), .val (.double (FP.i2d (p3 &&& (255 : Int32)))), .second, .val (.double (FP.i2d (p4 &&& (255 : Int32)))), .second, .val (.ref b2), .unset, .unset, .unset] [(.int (3 : Int32)), (.int i1)])) _
      refine XS.icmpYes X3.here hx rfl (pc0 := 68) (pc' := 80) rfl (hb hby at_68) rfl (XT.ii_lt_t ((own_lt _).2 ((own_lt _).1 c46))) (by decide) (by decide) ?_
      show Steps p.tables e below (T3.setTop (mkF m 80 #[.val (.int p0), .val (.int p1), .val (.int p2), .val (.int p3), .val (.int p4), .val (.long p5), .second, .val (.int i1), .val (.double (FP.i2d (p3 &&& (255 : Int32)))), .second, .val (.double (FP.i2d (p4 &&& (255 : Int32)))), .second, .val (.ref b2), .unset, .unset, .unset] [])) _
      exact kk
    have f48 := (Exa.keep A2 K3)
    have z49 : n0 ≤ _ := (Nat.le_trans z4 K3.1)
    exact own_tail _ _ _ b2 b1_3 b2_3 k1_3 k2_3 _ _ _ _ (X3.more (by decide) (by decide)) rfl N3 z49 f48 q3_0 q3_1 q3_2 q3_3 q3_4 q3_5 q3_6 q3_7 ge_b2 ge_b1_3 ge_b2_3 q3_10 q3_11 q3_12 rfl rfl P47
  · skip
    have f51 := (Exa.keep A2 K3)
    have z52 : n0 ≤ _ := (Nat.le_trans z4 K3.1)
    obtain ⟨cq50, kq50, q50a, q50b, q50c⟩ := isOf hZ rfl f51
    obtain ⟨_, _, ⟨T50, L50, k50, n50⟩, -, X50, ⟨Lc50, hQ50, l50, y50, z50⟩, st50⟩ := X3.virtualBack hx (y := (⟨"org/wayfold/search/Steps", "merge", "(ID)V"⟩ : MethodName)) (z := (⟨"org/wayfold/search/Steps", "merge", "(ID)V"⟩ : MethodName)) hown (mvT hZ (hw _ (List.mem_of_getElem? (i := 47) rfl))) (mvT hZ (hw _ (List.mem_of_getElem? (i := 48) rfl))) (notFace_of_selects (args := #[]) (mvT hZ (hw _ (List.mem_of_getElem? (i := 50) rfl)))) (mvT hZ (hw _ (List.mem_of_getElem? (i := 50) rfl))) (mvT hZ (hw _ (List.mem_of_getElem? (i := 49) rfl))) (by decide) (backOf (W := 0) (rm13 l Z a0 hw [] b2 p0 (13830554455654793216 : UInt64) (0 : Int64) b1_3 k1_3 [(.int (0 : Int32)), (.int (0 : Int32)), (.int (0 : Int32)), (.int (0 : Int32)), (.int (0 : Int32)), (.int (0 : Int32)), (.int (0 : Int32)), (.int (0 : Int32)), (.int (0 : Int32)), (.int (0 : Int32)), (.int (0 : Int32)), (.int (0 : Int32)), (.int (0 : Int32)), (.int (0 : Int32)), (.int (0 : Int32)), (.int (0 : Int32))] (.int (0 : Int32)) b2_3 k2_3 [(.double (0 : UInt64)), (.double (0 : UInt64)), (.double (0 : UInt64)), (.double (0 : UInt64)), (.double (0 : UInt64)), (.double (0 : UInt64)), (.double (0 : UInt64)), (.double (0 : UInt64)), (.double (0 : UInt64)), (.double (0 : UInt64)), (.double (0 : UInt64)), (.double (0 : UInt64)), (.double (0 : UInt64)), (.double (0 : UInt64)), (.double (0 : UInt64)), (.double (0 : UInt64))] (.double (0 : UInt64)) T3.heap n0 z52 f51 q3_4 q3_2 q3_3 q3_5 q3_0 q3_1 q3_6 q3_7 ge_b2 ge_b1_3 ge_b2_3 q3_10 q3_11 q3_12 rfl rfl) hZ (hw _ (List.mem_of_getElem? (i := 51) rfl)) (hw _ (List.mem_of_getElem? (i := 2) rfl)) (by decide) (by decide)) q50a q50c (g := (mkF m 47 #[.val (.int p0), .val (.int p1), .val (.int p2), .val (.int p3), .val (.int p4), .val (.long p5), .second, .val (.int i1), .val (.double (FP.i2d (p3 &&& (255 : Int32)))), .second, .val (.double (FP.i2d (p4 &&& (255 : Int32)))), .second, .val (.ref b2), .unset, .unset, .unset] [(.double (13830554455654793216 : UInt64)), (.int p0), (.ref b2)])) rfl (by rw [hml]; rfl) (Steps.refl _) (argsL := [(.int p0), (.double (13830554455654793216 : UInt64))]) (rest := []) (lenOf pd_6 rfl) rfl (by show 2 * 0 + _ ≤ _; exact Nat.le_of_eq rfl) (hb hby at_47) (fun _ _ => ⟨rfl, rfl, (by decide : 5 + 0 ≤ _), (by decide : 56 + 0 ≤ _)⟩)
    dsimp only [Pt.U, Pt.locs, Pt.cells, Pt.slots] at X50 l50 y50 z50 st50 hQ50
    subst l50 y50 z50
    obtain ⟨rfl, Nq50, K50, q50_0, q50_1, q50_2, q50_3, q50_4, q50_5, q50_6, q50_7⟩ := hQ50
    have N50 := Fr.app N3 Nq50
    have q50_2' : Arv Z T50.heap b1_3 k1_3 .int (16 : Int32) [(.int p0), (.int (0 : Int32)), (.int (0 : Int32)), (.int (0 : Int32)), (.int (0 : Int32)), (.int (0 : Int32)), (.int (0 : Int32)), (.int (0 : Int32)), (.int (0 : Int32)), (.int (0 : Int32)), (.int (0 : Int32)), (.int (0 : Int32)), (.int (0 : Int32)), (.int (0 : Int32)), (.int (0 : Int32)), (.int (0 : Int32))] (.int (0 : Int32)) := q50_2
    have q50_3' : Arv Z T50.heap b2_3 k2_3 .double (16 : Int32) [(.double (13830554455654793216 : UInt64)), (.double (0 : UInt64)), (.double (0 : UInt64)), (.double (0 : UInt64)), (.double (0 : UInt64)), (.double (0 : UInt64)), (.double (0 : UInt64)), (.double (0 : UInt64)), (.double (0 : UInt64)), (.double (0 : UInt64)), (.double (0 : UInt64)), (.double (0 : UInt64)), (.double (0 : UInt64)), (.double (0 : UInt64)), (.double (0 : UInt64)), (.double (0 : UInt64))] (.double (0 : UInt64)) := q50_3
    have P53 : ∀ t, Steps p.tables e below (T50.setTop (mkF m 53 #[.val (.int p0), .val (.int p1), .val (.int p2), .val (.int p3), .val (.int p4), .val (.long p5), .second, .val (.int i1), .val (.double (FP.i2d (p3 &&& (255 : Int32)))), .second, .val (.double (FP.i2d (p4 &&& (255 : Int32)))), .second, .val (.ref b2), .unset, .unset, .unset] [(.int (2 : Int32)), (.int i1)])) t → Steps p.tables e below (s₁.setTop (entryFrame m #[(.int p0), (.int p1), (.int p2), (.int p3), (.int p4), (.long p5)] maxLocals)) t := by
      intro t kk
      refine P45 _ ?_
      show Steps p.tables e below (T3.setTop (mkF m 38 #[.val (.int p0), .val (.int p1), .val (.int p2), .val (.int p3), .val (.int p4), .val (.long p5), .second, .val (.int i1), .val (.double (FP.i2d (p3 &&& (255 : Int32)))), .second, .val (.double (FP.i2d (p4 &&& (255 : Int32)))), .second, .val (.ref b2), .unset, .unset, .unset] [(.int (1 : Int32)), (.int i1)])) _
      refine XS.icmpNo X3.here hx rfl (hb hby at_38) rfl (XT.ii_lt_f c46) ?_
      show Steps p.tables e below (T3.setTop (mkF m 41 #[.val (.int p0), .val (.int p1), .val (.int p2), .val (.int p3), .val (.int p4), .val (.long p5), .second, .val (.int i1), .val (.double (FP.i2d (p3 &&& (255 : Int32)))), .second, .val (.double (FP.i2d (p4 &&& (255 : Int32)))), .second, .val (.ref b2), .unset, .unset, .unset] [])) _
      refine XS.aload X3.here hx rfl (hb hby at_41) rfl rfl ?_
      show Steps p.tables e below (T3.setTop (mkF m 43 #[.val (.int p0), .val (.int p1), .val (.int p2), .val (.int p3), .val (.int p4), .val (.long p5), .second, .val (.int i1), .val (.double (FP.i2d (p3 &&& (255 : Int32)))), .second, .val (.double (FP.i2d (p4 &&& (255 : Int32)))), .second, .val (.ref b2), .unset, .unset, .unset] [(.ref b2)])) _
      refine XS.iloadN X3.here hx rfl (hb hby at_43) rfl ?_
      show Steps p.tables e below (T3.setTop (mkF m 44 #[.val (.int p0), .val (.int p1), .val (.int p2), .val (.int p3), .val (.int p4), .val (.long p5), .second, .val (.int i1), .val (.double (FP.i2d (p3 &&& (255 : Int32)))), .second, .val (.double (FP.i2d (p4 &&& (255 : Int32)))), .second, .val (.ref b2), .unset, .unset, .unset] [(.int p0), (.ref b2)])) _
      refine X3.ldc2DoubleC hx hown (mvT hZ (hw _ (List.mem_of_getElem? (i := 62) rfl))) (g := (mkF m 44 #[.val (.int p0), .val (.int p1), .val (.int p2), .val (.int p3), .val (.int p4), .val (.long p5), .second, .val (.int i1), .val (.double (FP.i2d (p3 &&& (255 : Int32)))), .second, .val (.double (FP.i2d (p4 &&& (255 : Int32)))), .second, .val (.ref b2), .unset, .unset, .unset] [(.int p0), (.ref b2)])) rfl (hb hby at_44) _ ?_
      show Steps p.tables e below (T3.setTop (mkF m 47 #[.val (.int p0), .val (.int p1), .val (.int p2), .val (.int p3), .val (.int p4), .val (.long p5), .second, .val (.int i1), .val (.double (FP.i2d (p3 &&& (255 : Int32)))), .second, .val (.double (FP.i2d (p4 &&& (255 : Int32)))), .second, .val (.ref b2), .unset, .unset, .unset] [(.double (13830554455654793216 : UInt64)), (.int p0), (.ref b2)])) _
      refine st50.trans ?_
      show Steps p.tables e below (T50.setTop (mkF m 50 #[.val (.int p0), .val (.int p1), .val (.int p2), .val (.int p3), .val (.int p4), .val (.long p5), .second, .val (.int i1), .val (.double (FP.i2d (p3 &&& (255 : Int32)))), .second, .val (.double (FP.i2d (p4 &&& (255 : Int32)))), .second, .val (.ref b2), .unset, .unset, .unset] [])) _
      refine XS.iload X50.here hx rfl (hb hby at_50) rfl ?_
      show Steps p.tables e below (T50.setTop (mkF m 52 #[.val (.int p0), .val (.int p1), .val (.int p2), .val (.int p3), .val (.int p4), .val (.long p5), .second, .val (.int i1), .val (.double (FP.i2d (p3 &&& (255 : Int32)))), .second, .val (.double (FP.i2d (p4 &&& (255 : Int32)))), .second, .val (.ref b2), .unset, .unset, .unset] [(.int i1)])) _
      refine XS.iconst X50.here hx rfl (hb hby at_52) ?_
      show Steps p.tables e below (T50.setTop (mkF m 53 #[.val (.int p0), .val (.int p1), .val (.int p2), .val (.int p3), .val (.int p4), .val (.long p5), .second, .val (.int i1), .val (.double (FP.i2d (p3 &&& (255 : Int32)))), .second, .val (.double (FP.i2d (p4 &&& (255 : Int32)))), .second, .val (.ref b2), .unset, .unset, .unset] [(.int (2 : Int32)), (.int i1)])) _
      exact kk
    by_cases c54 : i1 < (2 : Int32)
    · skip
      have P55 : ∀ t, Steps p.tables e below (T50.setTop (mkF m 80 #[.val (.int p0), .val (.int p1), .val (.int p2), .val (.int p3), .val (.int p4), .val (.long p5), .second, .val (.int i1), .val (.double (FP.i2d (p3 &&& (255 : Int32)))), .second, .val (.double (FP.i2d (p4 &&& (255 : Int32)))), .second, .val (.ref b2), .unset, .unset, .unset] [])) t → Steps p.tables e below (s₁.setTop (entryFrame m #[(.int p0), (.int p1), (.int p2), (.int p3), (.int p4), (.long p5)] maxLocals)) t := by
        intro t kk
        refine P53 _ ?_
        show Steps p.tables e below (T50.setTop (mkF m 53 #[.val (.int p0), .val (.int p1), .val (.int p2), .val (.int p3), .val (.int p4), .val (.long p5), .second, .val (.int i1), .val (.double (FP.i2d (p3 &&& (255 : Int32)))), .second, .val (.double (FP.i2d (p4 &&& (255 : Int32)))), .second, .val (.ref b2), .unset, .unset, .unset] [(.int (2 : Int32)), (.int i1)])) _
        refine XS.icmpYes X50.here hx rfl (pc0 := 53) (pc' := 65) rfl (hb hby at_53) rfl (XT.ii_lt_t c54) (by decide) (by decide) ?_
        show Steps p.tables e below (T50.setTop (mkF m 65 #[.val (.int p0), .val (.int p1), .val (.int p2), .val (.int p3), .val (.int p4), .val (.long p5), .second, .val (.int i1), .val (.double (FP.i2d (p3 &&& (255 : Int32)))), .second, .val (.double (FP.i2d (p4 &&& (255 : Int32)))), .second, .val (.ref b2), .unset, .unset, .unset] [])) _
        refine XS.iload X50.here hx rfl (hb hby at_65) rfl ?_
        show Steps p.tables e below (T50.setTop (mkF m 67 #[.val (.int p0), .val (.int p1), .val (.int p2), .val (.int p3), .val (.int p4), .val (.long p5), .second, .val (.int i1), .val (.double (FP.i2d (p3 &&& (255 : Int32)))), .second, .val (.double (FP.i2d (p4 &&& (255 : Int32)))), .second, .val (.ref b2), .unset, .unset, .unset] [(.int i1)])) _
        refine XS.iconst X50.here hx rfl (hb hby at_67) ?_
        show Steps p.tables e below (T50.setTop (mkF m 68 #[.val (.int p0), .val (.int p1), .val (.int p2), .val (.int p3), .val (.int p4), .val (.long p5), .second, .val (.int i1), .val (.double (FP.i2d (p3 &&& (255 : Int32)))), .second, .val (.double (FP.i2d (p4 &&& (255 : Int32)))), .second, .val (.ref b2), .unset, .unset, .unset] [(.int (3 : Int32)), (.int i1)])) _
        refine XS.icmpYes X50.here hx rfl (pc0 := 68) (pc' := 80) rfl (hb hby at_68) rfl (XT.ii_lt_t ((own_lt _).2 c54)) (by decide) (by decide) ?_
        show Steps p.tables e below (T50.setTop (mkF m 80 #[.val (.int p0), .val (.int p1), .val (.int p2), .val (.int p3), .val (.int p4), .val (.long p5), .second, .val (.int i1), .val (.double (FP.i2d (p3 &&& (255 : Int32)))), .second, .val (.double (FP.i2d (p4 &&& (255 : Int32)))), .second, .val (.ref b2), .unset, .unset, .unset] [])) _
        exact kk
      have f56 := (Exa.keep f51 K50)
      have z57 : n0 ≤ _ := (Nat.le_trans z52 K50.1)
      exact own_tail _ _ _ b2 b1_3 b2_3 k1_3 k2_3 _ _ _ _ (X50.more (by decide) (by decide)) rfl N50 z57 f56 q50_6 q50_7 q50_0 q50_1 q50_4 q50_5 q50_2' q50_3' ge_b2 ge_b1_3 ge_b2_3 q3_10 q3_11 q3_12 rfl rfl P55
    · skip
      have P58 : ∀ t, Steps p.tables e below (T50.setTop (mkF m 56 #[.val (.int p0), .val (.int p1), .val (.int p2), .val (.int p3), .val (.int p4), .val (.long p5), .second, .val (.int i1), .val (.double (FP.i2d (p3 &&& (255 : Int32)))), .second, .val (.double (FP.i2d (p4 &&& (255 : Int32)))), .second, .val (.ref b2), .unset, .unset, .unset] [])) t → Steps p.tables e below (s₁.setTop (entryFrame m #[(.int p0), (.int p1), (.int p2), (.int p3), (.int p4), (.long p5)] maxLocals)) t := by
        intro t kk
        refine P53 _ ?_
        show Steps p.tables e below (T50.setTop (mkF m 53 #[.val (.int p0), .val (.int p1), .val (.int p2), .val (.int p3), .val (.int p4), .val (.long p5), .second, .val (.int i1), .val (.double (FP.i2d (p3 &&& (255 : Int32)))), .second, .val (.double (FP.i2d (p4 &&& (255 : Int32)))), .second, .val (.ref b2), .unset, .unset, .unset] [(.int (2 : Int32)), (.int i1)])) _
        refine XS.icmpNo X50.here hx rfl (hb hby at_53) rfl (XT.ii_lt_f c54) ?_
        show Steps p.tables e below (T50.setTop (mkF m 56 #[.val (.int p0), .val (.int p1), .val (.int p2), .val (.int p3), .val (.int p4), .val (.long p5), .second, .val (.int i1), .val (.double (FP.i2d (p3 &&& (255 : Int32)))), .second, .val (.double (FP.i2d (p4 &&& (255 : Int32)))), .second, .val (.ref b2), .unset, .unset, .unset] [])) _
        exact kk
      rcases Classical.em (p0 = p1) with hk59 | hk59
      · skip
        have f61 := (Exa.keep f51 K50)
        have z62 : n0 ≤ _ := (Nat.le_trans z52 K50.1)
        obtain ⟨cq60, kq60, q60a, q60b, q60c⟩ := isOf hZ rfl f61
        obtain ⟨_, _, ⟨T60, L60, k60, n60⟩, -, X60, ⟨Lc60, hQ60, l60, y60, z60⟩, st60⟩ := X50.virtualBack hx (y := (⟨"org/wayfold/search/Steps", "merge", "(ID)V"⟩ : MethodName)) (z := (⟨"org/wayfold/search/Steps", "merge", "(ID)V"⟩ : MethodName)) hown (mvT hZ (hw _ (List.mem_of_getElem? (i := 47) rfl))) (mvT hZ (hw _ (List.mem_of_getElem? (i := 48) rfl))) (notFace_of_selects (args := #[]) (mvT hZ (hw _ (List.mem_of_getElem? (i := 50) rfl)))) (mvT hZ (hw _ (List.mem_of_getElem? (i := 50) rfl))) (mvT hZ (hw _ (List.mem_of_getElem? (i := 49) rfl))) (by decide) (backOf (W := 0) (rm15 l Z a0 hw [] b2 p1 (13835058055282163712 : UInt64) (0 : Int64) ((0 : Int64) ||| ((1 : Int64) <<< (p0 &&& 0x3f).toInt64)) b1_3 k1_3 [(.int p0), (.int (0 : Int32)), (.int (0 : Int32)), (.int (0 : Int32)), (.int (0 : Int32)), (.int (0 : Int32)), (.int (0 : Int32)), (.int (0 : Int32)), (.int (0 : Int32)), (.int (0 : Int32)), (.int (0 : Int32)), (.int (0 : Int32)), (.int (0 : Int32)), (.int (0 : Int32)), (.int (0 : Int32)), (.int (0 : Int32))] (.int (0 : Int32)) b2_3 k2_3 [(.double (13830554455654793216 : UInt64)), (.double (0 : UInt64)), (.double (0 : UInt64)), (.double (0 : UInt64)), (.double (0 : UInt64)), (.double (0 : UInt64)), (.double (0 : UInt64)), (.double (0 : UInt64)), (.double (0 : UInt64)), (.double (0 : UInt64)), (.double (0 : UInt64)), (.double (0 : UInt64)), (.double (0 : UInt64)), (.double (0 : UInt64)), (.double (0 : UInt64)), (.double (0 : UInt64))] (.double (0 : UInt64)) p0 (13830554455654793216 : UInt64) T50.heap n0 z62 f61 q50_4 q50_0 q50_1 q50_5 q50_6 q50_7 q50_2' q50_3' ge_b2 ge_b1_3 ge_b2_3 q3_10 q3_11 q3_12 rfl rfl rfl hk59 (by rw [← (hk59)]; exact own_hb p0 (own_has (0 : Int64) ((1 : Int64) <<< (p0 &&& 0x3f).toInt64))) rfl (by decide) (by decide)) hZ (hw _ (List.mem_of_getElem? (i := 51) rfl)) (hw _ (List.mem_of_getElem? (i := 2) rfl)) (by decide) (by decide)) q60a q60c (g := (mkF m 62 #[.val (.int p0), .val (.int p1), .val (.int p2), .val (.int p3), .val (.int p4), .val (.long p5), .second, .val (.int i1), .val (.double (FP.i2d (p3 &&& (255 : Int32)))), .second, .val (.double (FP.i2d (p4 &&& (255 : Int32)))), .second, .val (.ref b2), .unset, .unset, .unset] [(.double (13835058055282163712 : UInt64)), (.int p1), (.ref b2)])) rfl (by rw [hml]; rfl) (Steps.refl _) (argsL := [(.int p1), (.double (13835058055282163712 : UInt64))]) (rest := []) (lenOf pd_6 rfl) rfl (by show 2 * 0 + _ ≤ _; exact Nat.le_of_eq rfl) (hb hby at_62) (fun _ _ => ⟨rfl, rfl, (by decide : 5 + 0 ≤ _), (by decide : 56 + 0 ≤ _)⟩)
        dsimp only [Pt.U, Pt.locs, Pt.cells, Pt.slots] at X60 l60 y60 z60 st60 hQ60
        subst l60 y60 z60
        obtain ⟨rfl, Nq60, K60, q60_0, q60_1, q60_2, q60_3, q60_4, q60_5, q60_6, q60_7⟩ := hQ60
        have N60 := Fr.app N50 Nq60
        have q60_2' : Arv Z T60.heap b2_3 k2_3 .double (16 : Int32) [(.double (Native.java_lang_Math.nans.pick64 false (13830554455654793216 : UInt64) (13835058055282163712 : UInt64))), (.double (0 : UInt64)), (.double (0 : UInt64)), (.double (0 : UInt64)), (.double (0 : UInt64)), (.double (0 : UInt64)), (.double (0 : UInt64)), (.double (0 : UInt64)), (.double (0 : UInt64)), (.double (0 : UInt64)), (.double (0 : UInt64)), (.double (0 : UInt64)), (.double (0 : UInt64)), (.double (0 : UInt64)), (.double (0 : UInt64)), (.double (0 : UInt64))] (.double (0 : UInt64)) := q60_2
        have P63 : ∀ t, Steps p.tables e below (T60.setTop (mkF m 68 #[.val (.int p0), .val (.int p1), .val (.int p2), .val (.int p3), .val (.int p4), .val (.long p5), .second, .val (.int i1), .val (.double (FP.i2d (p3 &&& (255 : Int32)))), .second, .val (.double (FP.i2d (p4 &&& (255 : Int32)))), .second, .val (.ref b2), .unset, .unset, .unset] [(.int (3 : Int32)), (.int i1)])) t → Steps p.tables e below (s₁.setTop (entryFrame m #[(.int p0), (.int p1), (.int p2), (.int p3), (.int p4), (.long p5)] maxLocals)) t := by
          intro t kk
          refine P58 _ ?_
          show Steps p.tables e below (T50.setTop (mkF m 56 #[.val (.int p0), .val (.int p1), .val (.int p2), .val (.int p3), .val (.int p4), .val (.long p5), .second, .val (.int i1), .val (.double (FP.i2d (p3 &&& (255 : Int32)))), .second, .val (.double (FP.i2d (p4 &&& (255 : Int32)))), .second, .val (.ref b2), .unset, .unset, .unset] [])) _
          refine XS.aload X50.here hx rfl (hb hby at_56) rfl rfl ?_
          show Steps p.tables e below (T50.setTop (mkF m 58 #[.val (.int p0), .val (.int p1), .val (.int p2), .val (.int p3), .val (.int p4), .val (.long p5), .second, .val (.int i1), .val (.double (FP.i2d (p3 &&& (255 : Int32)))), .second, .val (.double (FP.i2d (p4 &&& (255 : Int32)))), .second, .val (.ref b2), .unset, .unset, .unset] [(.ref b2)])) _
          refine XS.iloadN X50.here hx rfl (hb hby at_58) rfl ?_
          show Steps p.tables e below (T50.setTop (mkF m 59 #[.val (.int p0), .val (.int p1), .val (.int p2), .val (.int p3), .val (.int p4), .val (.long p5), .second, .val (.int i1), .val (.double (FP.i2d (p3 &&& (255 : Int32)))), .second, .val (.double (FP.i2d (p4 &&& (255 : Int32)))), .second, .val (.ref b2), .unset, .unset, .unset] [(.int p1), (.ref b2)])) _
          refine X50.ldc2DoubleC hx hown (mvT hZ (hw _ (List.mem_of_getElem? (i := 63) rfl))) (g := (mkF m 59 #[.val (.int p0), .val (.int p1), .val (.int p2), .val (.int p3), .val (.int p4), .val (.long p5), .second, .val (.int i1), .val (.double (FP.i2d (p3 &&& (255 : Int32)))), .second, .val (.double (FP.i2d (p4 &&& (255 : Int32)))), .second, .val (.ref b2), .unset, .unset, .unset] [(.int p1), (.ref b2)])) rfl (hb hby at_59) _ ?_
          show Steps p.tables e below (T50.setTop (mkF m 62 #[.val (.int p0), .val (.int p1), .val (.int p2), .val (.int p3), .val (.int p4), .val (.long p5), .second, .val (.int i1), .val (.double (FP.i2d (p3 &&& (255 : Int32)))), .second, .val (.double (FP.i2d (p4 &&& (255 : Int32)))), .second, .val (.ref b2), .unset, .unset, .unset] [(.double (13835058055282163712 : UInt64)), (.int p1), (.ref b2)])) _
          refine st60.trans ?_
          show Steps p.tables e below (T60.setTop (mkF m 65 #[.val (.int p0), .val (.int p1), .val (.int p2), .val (.int p3), .val (.int p4), .val (.long p5), .second, .val (.int i1), .val (.double (FP.i2d (p3 &&& (255 : Int32)))), .second, .val (.double (FP.i2d (p4 &&& (255 : Int32)))), .second, .val (.ref b2), .unset, .unset, .unset] [])) _
          refine XS.iload X60.here hx rfl (hb hby at_65) rfl ?_
          show Steps p.tables e below (T60.setTop (mkF m 67 #[.val (.int p0), .val (.int p1), .val (.int p2), .val (.int p3), .val (.int p4), .val (.long p5), .second, .val (.int i1), .val (.double (FP.i2d (p3 &&& (255 : Int32)))), .second, .val (.double (FP.i2d (p4 &&& (255 : Int32)))), .second, .val (.ref b2), .unset, .unset, .unset] [(.int i1)])) _
          refine XS.iconst X60.here hx rfl (hb hby at_67) ?_
          show Steps p.tables e below (T60.setTop (mkF m 68 #[.val (.int p0), .val (.int p1), .val (.int p2), .val (.int p3), .val (.int p4), .val (.long p5), .second, .val (.int i1), .val (.double (FP.i2d (p3 &&& (255 : Int32)))), .second, .val (.double (FP.i2d (p4 &&& (255 : Int32)))), .second, .val (.ref b2), .unset, .unset, .unset] [(.int (3 : Int32)), (.int i1)])) _
          exact kk
        by_cases c64 : i1 < (3 : Int32)
        · skip
          have P65 : ∀ t, Steps p.tables e below (T60.setTop (mkF m 80 #[.val (.int p0), .val (.int p1), .val (.int p2), .val (.int p3), .val (.int p4), .val (.long p5), .second, .val (.int i1), .val (.double (FP.i2d (p3 &&& (255 : Int32)))), .second, .val (.double (FP.i2d (p4 &&& (255 : Int32)))), .second, .val (.ref b2), .unset, .unset, .unset] [])) t → Steps p.tables e below (s₁.setTop (entryFrame m #[(.int p0), (.int p1), (.int p2), (.int p3), (.int p4), (.long p5)] maxLocals)) t := by
            intro t kk
            refine P63 _ ?_
            show Steps p.tables e below (T60.setTop (mkF m 68 #[.val (.int p0), .val (.int p1), .val (.int p2), .val (.int p3), .val (.int p4), .val (.long p5), .second, .val (.int i1), .val (.double (FP.i2d (p3 &&& (255 : Int32)))), .second, .val (.double (FP.i2d (p4 &&& (255 : Int32)))), .second, .val (.ref b2), .unset, .unset, .unset] [(.int (3 : Int32)), (.int i1)])) _
            refine XS.icmpYes X60.here hx rfl (pc0 := 68) (pc' := 80) rfl (hb hby at_68) rfl (XT.ii_lt_t c64) (by decide) (by decide) ?_
            show Steps p.tables e below (T60.setTop (mkF m 80 #[.val (.int p0), .val (.int p1), .val (.int p2), .val (.int p3), .val (.int p4), .val (.long p5), .second, .val (.int i1), .val (.double (FP.i2d (p3 &&& (255 : Int32)))), .second, .val (.double (FP.i2d (p4 &&& (255 : Int32)))), .second, .val (.ref b2), .unset, .unset, .unset] [])) _
            exact kk
          have f66 := (Exa.keep f61 K60)
          have z67 : n0 ≤ _ := (Nat.le_trans z62 K60.1)
          exact own_tail _ _ _ b2 b1_3 b2_3 k1_3 k2_3 _ _ _ _ (X60.more (by decide) (by decide)) rfl N60 z67 f66 q60_6 q60_7 q60_4 q60_0 q60_3 q60_5 q60_1 q60_2' ge_b2 ge_b1_3 ge_b2_3 q3_10 q3_11 q3_12 rfl rfl P65
        · skip
          have P68 : ∀ t, Steps p.tables e below (T60.setTop (mkF m 71 #[.val (.int p0), .val (.int p1), .val (.int p2), .val (.int p3), .val (.int p4), .val (.long p5), .second, .val (.int i1), .val (.double (FP.i2d (p3 &&& (255 : Int32)))), .second, .val (.double (FP.i2d (p4 &&& (255 : Int32)))), .second, .val (.ref b2), .unset, .unset, .unset] [])) t → Steps p.tables e below (s₁.setTop (entryFrame m #[(.int p0), (.int p1), (.int p2), (.int p3), (.int p4), (.long p5)] maxLocals)) t := by
            intro t kk
            refine P63 _ ?_
            show Steps p.tables e below (T60.setTop (mkF m 68 #[.val (.int p0), .val (.int p1), .val (.int p2), .val (.int p3), .val (.int p4), .val (.long p5), .second, .val (.int i1), .val (.double (FP.i2d (p3 &&& (255 : Int32)))), .second, .val (.double (FP.i2d (p4 &&& (255 : Int32)))), .second, .val (.ref b2), .unset, .unset, .unset] [(.int (3 : Int32)), (.int i1)])) _
            refine XS.icmpNo X60.here hx rfl (hb hby at_68) rfl (XT.ii_lt_f c64) ?_
            show Steps p.tables e below (T60.setTop (mkF m 71 #[.val (.int p0), .val (.int p1), .val (.int p2), .val (.int p3), .val (.int p4), .val (.long p5), .second, .val (.int i1), .val (.double (FP.i2d (p3 &&& (255 : Int32)))), .second, .val (.double (FP.i2d (p4 &&& (255 : Int32)))), .second, .val (.ref b2), .unset, .unset, .unset] [])) _
            exact kk
          rcases Classical.em (p0 = p2) with hk69 | hk69
          · skip
            have f71 := (Exa.keep f61 K60)
            have z72 : n0 ≤ _ := (Nat.le_trans z62 K60.1)
            obtain ⟨cq70, kq70, q70a, q70b, q70c⟩ := isOf hZ rfl f71
            obtain ⟨_, _, ⟨T70, L70, k70, n70⟩, -, X70, ⟨Lc70, hQ70, l70, y70, z70⟩, st70⟩ := X60.virtualBack hx (y := (⟨"org/wayfold/search/Steps", "merge", "(ID)V"⟩ : MethodName)) (z := (⟨"org/wayfold/search/Steps", "merge", "(ID)V"⟩ : MethodName)) hown (mvT hZ (hw _ (List.mem_of_getElem? (i := 47) rfl))) (mvT hZ (hw _ (List.mem_of_getElem? (i := 48) rfl))) (notFace_of_selects (args := #[]) (mvT hZ (hw _ (List.mem_of_getElem? (i := 50) rfl)))) (mvT hZ (hw _ (List.mem_of_getElem? (i := 50) rfl))) (mvT hZ (hw _ (List.mem_of_getElem? (i := 49) rfl))) (by decide) (backOf (W := 0) (rm15 l Z a0 hw [] b2 p2 (13837309855095848960 : UInt64) (0 : Int64) (((0 : Int64) ||| ((1 : Int64) <<< (p0 &&& 0x3f).toInt64)) ||| ((1 : Int64) <<< (p1 &&& 0x3f).toInt64)) b1_3 k1_3 [(.int p0), (.int (0 : Int32)), (.int (0 : Int32)), (.int (0 : Int32)), (.int (0 : Int32)), (.int (0 : Int32)), (.int (0 : Int32)), (.int (0 : Int32)), (.int (0 : Int32)), (.int (0 : Int32)), (.int (0 : Int32)), (.int (0 : Int32)), (.int (0 : Int32)), (.int (0 : Int32)), (.int (0 : Int32)), (.int (0 : Int32))] (.int (0 : Int32)) b2_3 k2_3 [(.double (Native.java_lang_Math.nans.pick64 false (13830554455654793216 : UInt64) (13835058055282163712 : UInt64))), (.double (0 : UInt64)), (.double (0 : UInt64)), (.double (0 : UInt64)), (.double (0 : UInt64)), (.double (0 : UInt64)), (.double (0 : UInt64)), (.double (0 : UInt64)), (.double (0 : UInt64)), (.double (0 : UInt64)), (.double (0 : UInt64)), (.double (0 : UInt64)), (.double (0 : UInt64)), (.double (0 : UInt64)), (.double (0 : UInt64)), (.double (0 : UInt64))] (.double (0 : UInt64)) p0 (Native.java_lang_Math.nans.pick64 false (13830554455654793216 : UInt64) (13835058055282163712 : UInt64)) T60.heap n0 z72 f71 q60_3 q60_4 q60_0 q60_5 q60_6 q60_7 q60_1 q60_2' ge_b2 ge_b1_3 ge_b2_3 q3_10 q3_11 q3_12 rfl rfl rfl hk69 (by rw [← (hk69)]; exact own_hb p0 (own_has2 ((1 : Int64) <<< (p1 &&& 0x3f).toInt64) (own_has (0 : Int64) ((1 : Int64) <<< (p0 &&& 0x3f).toInt64)))) rfl (Jvm.Free.Fl.pick64_noNaN (by decide) (by decide)) (by decide)) hZ (hw _ (List.mem_of_getElem? (i := 51) rfl)) (hw _ (List.mem_of_getElem? (i := 2) rfl)) (by decide) (by decide)) q70a q70c (g := (mkF m 77 #[.val (.int p0), .val (.int p1), .val (.int p2), .val (.int p3), .val (.int p4), .val (.long p5), .second, .val (.int i1), .val (.double (FP.i2d (p3 &&& (255 : Int32)))), .second, .val (.double (FP.i2d (p4 &&& (255 : Int32)))), .second, .val (.ref b2), .unset, .unset, .unset] [(.double (13837309855095848960 : UInt64)), (.int p2), (.ref b2)])) rfl (by rw [hml]; rfl) (Steps.refl _) (argsL := [(.int p2), (.double (13837309855095848960 : UInt64))]) (rest := []) (lenOf pd_6 rfl) rfl (by show 2 * 0 + _ ≤ _; exact Nat.le_of_eq rfl) (hb hby at_77) (fun _ _ => ⟨rfl, rfl, (by decide : 5 + 0 ≤ _), (by decide : 56 + 0 ≤ _)⟩)
            dsimp only [Pt.U, Pt.locs, Pt.cells, Pt.slots] at X70 l70 y70 z70 st70 hQ70
            subst l70 y70 z70
            obtain ⟨rfl, Nq70, K70, q70_0, q70_1, q70_2, q70_3, q70_4, q70_5, q70_6, q70_7⟩ := hQ70
            have N70 := Fr.app N60 Nq70
            have q70_2' : Arv Z T70.heap b2_3 k2_3 .double (16 : Int32) [(.double (Native.java_lang_Math.nans.pick64 false (Native.java_lang_Math.nans.pick64 false (13830554455654793216 : UInt64) (13835058055282163712 : UInt64)) (13837309855095848960 : UInt64))), (.double (0 : UInt64)), (.double (0 : UInt64)), (.double (0 : UInt64)), (.double (0 : UInt64)), (.double (0 : UInt64)), (.double (0 : UInt64)), (.double (0 : UInt64)), (.double (0 : UInt64)), (.double (0 : UInt64)), (.double (0 : UInt64)), (.double (0 : UInt64)), (.double (0 : UInt64)), (.double (0 : UInt64)), (.double (0 : UInt64)), (.double (0 : UInt64))] (.double (0 : UInt64)) := q70_2
            have P73 : ∀ t, Steps p.tables e below (T70.setTop (mkF m 80 #[.val (.int p0), .val (.int p1), .val (.int p2), .val (.int p3), .val (.int p4), .val (.long p5), .second, .val (.int i1), .val (.double (FP.i2d (p3 &&& (255 : Int32)))), .second, .val (.double (FP.i2d (p4 &&& (255 : Int32)))), .second, .val (.ref b2), .unset, .unset, .unset] [])) t → Steps p.tables e below (s₁.setTop (entryFrame m #[(.int p0), (.int p1), (.int p2), (.int p3), (.int p4), (.long p5)] maxLocals)) t := by
              intro t kk
              refine P68 _ ?_
              show Steps p.tables e below (T60.setTop (mkF m 71 #[.val (.int p0), .val (.int p1), .val (.int p2), .val (.int p3), .val (.int p4), .val (.long p5), .second, .val (.int i1), .val (.double (FP.i2d (p3 &&& (255 : Int32)))), .second, .val (.double (FP.i2d (p4 &&& (255 : Int32)))), .second, .val (.ref b2), .unset, .unset, .unset] [])) _
              refine XS.aload X60.here hx rfl (hb hby at_71) rfl rfl ?_
              show Steps p.tables e below (T60.setTop (mkF m 73 #[.val (.int p0), .val (.int p1), .val (.int p2), .val (.int p3), .val (.int p4), .val (.long p5), .second, .val (.int i1), .val (.double (FP.i2d (p3 &&& (255 : Int32)))), .second, .val (.double (FP.i2d (p4 &&& (255 : Int32)))), .second, .val (.ref b2), .unset, .unset, .unset] [(.ref b2)])) _
              refine XS.iloadN X60.here hx rfl (hb hby at_73) rfl ?_
              show Steps p.tables e below (T60.setTop (mkF m 74 #[.val (.int p0), .val (.int p1), .val (.int p2), .val (.int p3), .val (.int p4), .val (.long p5), .second, .val (.int i1), .val (.double (FP.i2d (p3 &&& (255 : Int32)))), .second, .val (.double (FP.i2d (p4 &&& (255 : Int32)))), .second, .val (.ref b2), .unset, .unset, .unset] [(.int p2), (.ref b2)])) _
              refine X60.ldc2DoubleC hx hown (mvT hZ (hw _ (List.mem_of_getElem? (i := 64) rfl))) (g := (mkF m 74 #[.val (.int p0), .val (.int p1), .val (.int p2), .val (.int p3), .val (.int p4), .val (.long p5), .second, .val (.int i1), .val (.double (FP.i2d (p3 &&& (255 : Int32)))), .second, .val (.double (FP.i2d (p4 &&& (255 : Int32)))), .second, .val (.ref b2), .unset, .unset, .unset] [(.int p2), (.ref b2)])) rfl (hb hby at_74) _ ?_
              show Steps p.tables e below (T60.setTop (mkF m 77 #[.val (.int p0), .val (.int p1), .val (.int p2), .val (.int p3), .val (.int p4), .val (.long p5), .second, .val (.int i1), .val (.double (FP.i2d (p3 &&& (255 : Int32)))), .second, .val (.double (FP.i2d (p4 &&& (255 : Int32)))), .second, .val (.ref b2), .unset, .unset, .unset] [(.double (13837309855095848960 : UInt64)), (.int p2), (.ref b2)])) _
              refine st70.trans ?_
              show Steps p.tables e below (T70.setTop (mkF m 80 #[.val (.int p0), .val (.int p1), .val (.int p2), .val (.int p3), .val (.int p4), .val (.long p5), .second, .val (.int i1), .val (.double (FP.i2d (p3 &&& (255 : Int32)))), .second, .val (.double (FP.i2d (p4 &&& (255 : Int32)))), .second, .val (.ref b2), .unset, .unset, .unset] [])) _
              exact kk
            have f74 := (Exa.keep f71 K70)
            have z75 : n0 ≤ _ := (Nat.le_trans z72 K70.1)
            exact own_tail _ _ _ b2 b1_3 b2_3 k1_3 k2_3 _ _ _ _ (X70.more (by decide) (by decide)) rfl N70 z75 f74 q70_6 q70_7 q70_4 q70_0 q70_3 q70_5 q70_1 q70_2' ge_b2 ge_b1_3 ge_b2_3 q3_10 q3_11 q3_12 rfl rfl P73
          · skip
            have f77 := (Exa.keep f61 K60)
            have z78 : n0 ≤ _ := (Nat.le_trans z62 K60.1)
            obtain ⟨cq76, kq76, q76a, q76b, q76c⟩ := isOf hZ rfl f77
            obtain ⟨_, _, ⟨T76, L76, k76, n76⟩, -, X76, ⟨Lc76, hQ76, l76, y76, z76⟩, st76⟩ := X60.virtualBack hx (y := (⟨"org/wayfold/search/Steps", "merge", "(ID)V"⟩ : MethodName)) (z := (⟨"org/wayfold/search/Steps", "merge", "(ID)V"⟩ : MethodName)) hown (mvT hZ (hw _ (List.mem_of_getElem? (i := 47) rfl))) (mvT hZ (hw _ (List.mem_of_getElem? (i := 48) rfl))) (notFace_of_selects (args := #[]) (mvT hZ (hw _ (List.mem_of_getElem? (i := 50) rfl)))) (mvT hZ (hw _ (List.mem_of_getElem? (i := 50) rfl))) (mvT hZ (hw _ (List.mem_of_getElem? (i := 49) rfl))) (by decide) (backOf (W := 0) (rm14 l Z a0 hw [] b2 p2 (13837309855095848960 : UInt64) (0 : Int64) (((0 : Int64) ||| ((1 : Int64) <<< (p0 &&& 0x3f).toInt64)) ||| ((1 : Int64) <<< (p1 &&& 0x3f).toInt64)) b1_3 k1_3 [(.int p0), (.int (0 : Int32)), (.int (0 : Int32)), (.int (0 : Int32)), (.int (0 : Int32)), (.int (0 : Int32)), (.int (0 : Int32)), (.int (0 : Int32)), (.int (0 : Int32)), (.int (0 : Int32)), (.int (0 : Int32)), (.int (0 : Int32)), (.int (0 : Int32)), (.int (0 : Int32)), (.int (0 : Int32)), (.int (0 : Int32))] (.int (0 : Int32)) b2_3 k2_3 [(.double (Native.java_lang_Math.nans.pick64 false (13830554455654793216 : UInt64) (13835058055282163712 : UInt64))), (.double (0 : UInt64)), (.double (0 : UInt64)), (.double (0 : UInt64)), (.double (0 : UInt64)), (.double (0 : UInt64)), (.double (0 : UInt64)), (.double (0 : UInt64)), (.double (0 : UInt64)), (.double (0 : UInt64)), (.double (0 : UInt64)), (.double (0 : UInt64)), (.double (0 : UInt64)), (.double (0 : UInt64)), (.double (0 : UInt64)), (.double (0 : UInt64))] (.double (0 : UInt64)) p0 T60.heap n0 z78 f77 q60_3 q60_4 q60_0 q60_5 q60_6 q60_7 q60_1 q60_2' ge_b2 ge_b1_3 ge_b2_3 q3_10 q3_11 q3_12 rfl rfl rfl hk69) hZ (hw _ (List.mem_of_getElem? (i := 51) rfl)) (hw _ (List.mem_of_getElem? (i := 2) rfl)) (by decide) (by decide)) q76a q76c (g := (mkF m 77 #[.val (.int p0), .val (.int p1), .val (.int p2), .val (.int p3), .val (.int p4), .val (.long p5), .second, .val (.int i1), .val (.double (FP.i2d (p3 &&& (255 : Int32)))), .second, .val (.double (FP.i2d (p4 &&& (255 : Int32)))), .second, .val (.ref b2), .unset, .unset, .unset] [(.double (13837309855095848960 : UInt64)), (.int p2), (.ref b2)])) rfl (by rw [hml]; rfl) (Steps.refl _) (argsL := [(.int p2), (.double (13837309855095848960 : UInt64))]) (rest := []) (lenOf pd_6 rfl) rfl (by show 2 * 0 + _ ≤ _; exact Nat.le_of_eq rfl) (hb hby at_77) (fun _ _ => ⟨rfl, rfl, (by decide : 5 + 0 ≤ _), (by decide : 56 + 0 ≤ _)⟩)
            dsimp only [Pt.U, Pt.locs, Pt.cells, Pt.slots] at X76 l76 y76 z76 st76 hQ76
            subst l76 y76 z76
            obtain ⟨rfl, Nq76, K76, q76_0, q76_1, q76_2, q76_3, q76_4, q76_5, q76_6, q76_7⟩ := hQ76
            have N76 := Fr.app N60 Nq76
            have q76_2' : Arv Z T76.heap b1_3 k1_3 .int (16 : Int32) [(.int p0), (.int p2), (.int (0 : Int32)), (.int (0 : Int32)), (.int (0 : Int32)), (.int (0 : Int32)), (.int (0 : Int32)), (.int (0 : Int32)), (.int (0 : Int32)), (.int (0 : Int32)), (.int (0 : Int32)), (.int (0 : Int32)), (.int (0 : Int32)), (.int (0 : Int32)), (.int (0 : Int32)), (.int (0 : Int32))] (.int (0 : Int32)) := q76_2
            have q76_3' : Arv Z T76.heap b2_3 k2_3 .double (16 : Int32) [(.double (Native.java_lang_Math.nans.pick64 false (13830554455654793216 : UInt64) (13835058055282163712 : UInt64))), (.double (13837309855095848960 : UInt64)), (.double (0 : UInt64)), (.double (0 : UInt64)), (.double (0 : UInt64)), (.double (0 : UInt64)), (.double (0 : UInt64)), (.double (0 : UInt64)), (.double (0 : UInt64)), (.double (0 : UInt64)), (.double (0 : UInt64)), (.double (0 : UInt64)), (.double (0 : UInt64)), (.double (0 : UInt64)), (.double (0 : UInt64)), (.double (0 : UInt64))] (.double (0 : UInt64)) := q76_3
            have P79 : ∀ t, Steps p.tables e below (T76.setTop (mkF m 80 #[.val (.int p0), .val (.int p1), .val (.int p2), .val (.int p3), .val (.int p4), .val (.long p5), .second, .val (.int i1), .val (.double (FP.i2d (p3 &&& (255 : Int32)))), .second, .val (.double (FP.i2d (p4 &&& (255 : Int32)))), .second, .val (.ref b2), .unset, .unset, .unset] [])) t → Steps p.tables e below (s₁.setTop (entryFrame m #[(.int p0), (.int p1), (.int p2), (.int p3), (.int p4), (.long p5)] maxLocals)) t := by
              intro t kk
              refine P68 _ ?_
              show Steps p.tables e below (T60.setTop (mkF m 71 #[.val (.int p0), .val (.int p1), .val (.int p2), .val (.int p3), .val (.int p4), .val (.long p5), .second, .val (.int i1), .val (.double (FP.i2d (p3 &&& (255 : Int32)))), .second, .val (.double (FP.i2d (p4 &&& (255 : Int32)))), .second, .val (.ref b2), .unset, .unset, .unset] [])) _
              refine XS.aload X60.here hx rfl (hb hby at_71) rfl rfl ?_
              show Steps p.tables e below (T60.setTop (mkF m 73 #[.val (.int p0), .val (.int p1), .val (.int p2), .val (.int p3), .val (.int p4), .val (.long p5), .second, .val (.int i1), .val (.double (FP.i2d (p3 &&& (255 : Int32)))), .second, .val (.double (FP.i2d (p4 &&& (255 : Int32)))), .second, .val (.ref b2), .unset, .unset, .unset] [(.ref b2)])) _
              refine XS.iloadN X60.here hx rfl (hb hby at_73) rfl ?_
              show Steps p.tables e below (T60.setTop (mkF m 74 #[.val (.int p0), .val (.int p1), .val (.int p2), .val (.int p3), .val (.int p4), .val (.long p5), .second, .val (.int i1), .val (.double (FP.i2d (p3 &&& (255 : Int32)))), .second, .val (.double (FP.i2d (p4 &&& (255 : Int32)))), .second, .val (.ref b2), .unset, .unset, .unset] [(.int p2), (.ref b2)])) _
              refine X60.ldc2DoubleC hx hown (mvT hZ (hw _ (List.mem_of_getElem? (i := 64) rfl))) (g := (mkF m 74 #[.val (.int p0), .val (.int p1), .val (.int p2), .val (.int p3), .val (.int p4), .val (.long p5), .second, .val (.int i1), .val (.double (FP.i2d (p3 &&& (255 : Int32)))), .second, .val (.double (FP.i2d (p4 &&& (255 : Int32)))), .second, .val (.ref b2), .unset, .unset, .unset] [(.int p2), (.ref b2)])) rfl (hb hby at_74) _ ?_
              show Steps p.tables e below (T60.setTop (mkF m 77 #[.val (.int p0), .val (.int p1), .val (.int p2), .val (.int p3), .val (.int p4), .val (.long p5), .second, .val (.int i1), .val (.double (FP.i2d (p3 &&& (255 : Int32)))), .second, .val (.double (FP.i2d (p4 &&& (255 : Int32)))), .second, .val (.ref b2), .unset, .unset, .unset] [(.double (13837309855095848960 : UInt64)), (.int p2), (.ref b2)])) _
              refine st76.trans ?_
              show Steps p.tables e below (T76.setTop (mkF m 80 #[.val (.int p0), .val (.int p1), .val (.int p2), .val (.int p3), .val (.int p4), .val (.long p5), .second, .val (.int i1), .val (.double (FP.i2d (p3 &&& (255 : Int32)))), .second, .val (.double (FP.i2d (p4 &&& (255 : Int32)))), .second, .val (.ref b2), .unset, .unset, .unset] [])) _
              exact kk
            have f80 := (Exa.keep f77 K76)
            have z81 : n0 ≤ _ := (Nat.le_trans z78 K76.1)
            exact own_tail _ _ _ b2 b1_3 b2_3 k1_3 k2_3 _ _ _ _ (X76.more (by decide) (by decide)) rfl N76 z81 f80 q76_6 q76_7 q76_0 q76_1 q76_4 q76_5 q76_2' q76_3' ge_b2 ge_b1_3 ge_b2_3 q3_10 q3_11 q3_12 rfl rfl P79
      · skip
        have f83 := (Exa.keep f51 K50)
        have z84 : n0 ≤ _ := (Nat.le_trans z52 K50.1)
        obtain ⟨cq82, kq82, q82a, q82b, q82c⟩ := isOf hZ rfl f83
        obtain ⟨_, _, ⟨T82, L82, k82, n82⟩, -, X82, ⟨Lc82, hQ82, l82, y82, z82⟩, st82⟩ := X50.virtualBack hx (y := (⟨"org/wayfold/search/Steps", "merge", "(ID)V"⟩ : MethodName)) (z := (⟨"org/wayfold/search/Steps", "merge", "(ID)V"⟩ : MethodName)) hown (mvT hZ (hw _ (List.mem_of_getElem? (i := 47) rfl))) (mvT hZ (hw _ (List.mem_of_getElem? (i := 48) rfl))) (notFace_of_selects (args := #[]) (mvT hZ (hw _ (List.mem_of_getElem? (i := 50) rfl)))) (mvT hZ (hw _ (List.mem_of_getElem? (i := 50) rfl))) (mvT hZ (hw _ (List.mem_of_getElem? (i := 49) rfl))) (by decide) (backOf (W := 0) (rm14 l Z a0 hw [] b2 p1 (13835058055282163712 : UInt64) (0 : Int64) ((0 : Int64) ||| ((1 : Int64) <<< (p0 &&& 0x3f).toInt64)) b1_3 k1_3 [(.int p0), (.int (0 : Int32)), (.int (0 : Int32)), (.int (0 : Int32)), (.int (0 : Int32)), (.int (0 : Int32)), (.int (0 : Int32)), (.int (0 : Int32)), (.int (0 : Int32)), (.int (0 : Int32)), (.int (0 : Int32)), (.int (0 : Int32)), (.int (0 : Int32)), (.int (0 : Int32)), (.int (0 : Int32)), (.int (0 : Int32))] (.int (0 : Int32)) b2_3 k2_3 [(.double (13830554455654793216 : UInt64)), (.double (0 : UInt64)), (.double (0 : UInt64)), (.double (0 : UInt64)), (.double (0 : UInt64)), (.double (0 : UInt64)), (.double (0 : UInt64)), (.double (0 : UInt64)), (.double (0 : UInt64)), (.double (0 : UInt64)), (.double (0 : UInt64)), (.double (0 : UInt64)), (.double (0 : UInt64)), (.double (0 : UInt64)), (.double (0 : UInt64)), (.double (0 : UInt64))] (.double (0 : UInt64)) p0 T50.heap n0 z84 f83 q50_4 q50_0 q50_1 q50_5 q50_6 q50_7 q50_2' q50_3' ge_b2 ge_b1_3 ge_b2_3 q3_10 q3_11 q3_12 rfl rfl rfl hk59) hZ (hw _ (List.mem_of_getElem? (i := 51) rfl)) (hw _ (List.mem_of_getElem? (i := 2) rfl)) (by decide) (by decide)) q82a q82c (g := (mkF m 62 #[.val (.int p0), .val (.int p1), .val (.int p2), .val (.int p3), .val (.int p4), .val (.long p5), .second, .val (.int i1), .val (.double (FP.i2d (p3 &&& (255 : Int32)))), .second, .val (.double (FP.i2d (p4 &&& (255 : Int32)))), .second, .val (.ref b2), .unset, .unset, .unset] [(.double (13835058055282163712 : UInt64)), (.int p1), (.ref b2)])) rfl (by rw [hml]; rfl) (Steps.refl _) (argsL := [(.int p1), (.double (13835058055282163712 : UInt64))]) (rest := []) (lenOf pd_6 rfl) rfl (by show 2 * 0 + _ ≤ _; exact Nat.le_of_eq rfl) (hb hby at_62) (fun _ _ => ⟨rfl, rfl, (by decide : 5 + 0 ≤ _), (by decide : 56 + 0 ≤ _)⟩)
        dsimp only [Pt.U, Pt.locs, Pt.cells, Pt.slots] at X82 l82 y82 z82 st82 hQ82
        subst l82 y82 z82
        obtain ⟨rfl, Nq82, K82, q82_0, q82_1, q82_2, q82_3, q82_4, q82_5, q82_6, q82_7⟩ := hQ82
        have N82 := Fr.app N50 Nq82
        have q82_2' : Arv Z T82.heap b1_3 k1_3 .int (16 : Int32) [(.int p0), (.int p1), (.int (0 : Int32)), (.int (0 : Int32)), (.int (0 : Int32)), (.int (0 : Int32)), (.int (0 : Int32)), (.int (0 : Int32)), (.int (0 : Int32)), (.int (0 : Int32)), (.int (0 : Int32)), (.int (0 : Int32)), (.int (0 : Int32)), (.int (0 : Int32)), (.int (0 : Int32)), (.int (0 : Int32))] (.int (0 : Int32)) := q82_2
        have q82_3' : Arv Z T82.heap b2_3 k2_3 .double (16 : Int32) [(.double (13830554455654793216 : UInt64)), (.double (13835058055282163712 : UInt64)), (.double (0 : UInt64)), (.double (0 : UInt64)), (.double (0 : UInt64)), (.double (0 : UInt64)), (.double (0 : UInt64)), (.double (0 : UInt64)), (.double (0 : UInt64)), (.double (0 : UInt64)), (.double (0 : UInt64)), (.double (0 : UInt64)), (.double (0 : UInt64)), (.double (0 : UInt64)), (.double (0 : UInt64)), (.double (0 : UInt64))] (.double (0 : UInt64)) := q82_3
        have P85 : ∀ t, Steps p.tables e below (T82.setTop (mkF m 68 #[.val (.int p0), .val (.int p1), .val (.int p2), .val (.int p3), .val (.int p4), .val (.long p5), .second, .val (.int i1), .val (.double (FP.i2d (p3 &&& (255 : Int32)))), .second, .val (.double (FP.i2d (p4 &&& (255 : Int32)))), .second, .val (.ref b2), .unset, .unset, .unset] [(.int (3 : Int32)), (.int i1)])) t → Steps p.tables e below (s₁.setTop (entryFrame m #[(.int p0), (.int p1), (.int p2), (.int p3), (.int p4), (.long p5)] maxLocals)) t := by
          intro t kk
          refine P58 _ ?_
          show Steps p.tables e below (T50.setTop (mkF m 56 #[.val (.int p0), .val (.int p1), .val (.int p2), .val (.int p3), .val (.int p4), .val (.long p5), .second, .val (.int i1), .val (.double (FP.i2d (p3 &&& (255 : Int32)))), .second, .val (.double (FP.i2d (p4 &&& (255 : Int32)))), .second, .val (.ref b2), .unset, .unset, .unset] [])) _
          refine XS.aload X50.here hx rfl (hb hby at_56) rfl rfl ?_
          show Steps p.tables e below (T50.setTop (mkF m 58 #[.val (.int p0), .val (.int p1), .val (.int p2), .val (.int p3), .val (.int p4), .val (.long p5), .second, .val (.int i1), .val (.double (FP.i2d (p3 &&& (255 : Int32)))), .second, .val (.double (FP.i2d (p4 &&& (255 : Int32)))), .second, .val (.ref b2), .unset, .unset, .unset] [(.ref b2)])) _
          refine XS.iloadN X50.here hx rfl (hb hby at_58) rfl ?_
          show Steps p.tables e below (T50.setTop (mkF m 59 #[.val (.int p0), .val (.int p1), .val (.int p2), .val (.int p3), .val (.int p4), .val (.long p5), .second, .val (.int i1), .val (.double (FP.i2d (p3 &&& (255 : Int32)))), .second, .val (.double (FP.i2d (p4 &&& (255 : Int32)))), .second, .val (.ref b2), .unset, .unset, .unset] [(.int p1), (.ref b2)])) _
          refine X50.ldc2DoubleC hx hown (mvT hZ (hw _ (List.mem_of_getElem? (i := 63) rfl))) (g := (mkF m 59 #[.val (.int p0), .val (.int p1), .val (.int p2), .val (.int p3), .val (.int p4), .val (.long p5), .second, .val (.int i1), .val (.double (FP.i2d (p3 &&& (255 : Int32)))), .second, .val (.double (FP.i2d (p4 &&& (255 : Int32)))), .second, .val (.ref b2), .unset, .unset, .unset] [(.int p1), (.ref b2)])) rfl (hb hby at_59) _ ?_
          show Steps p.tables e below (T50.setTop (mkF m 62 #[.val (.int p0), .val (.int p1), .val (.int p2), .val (.int p3), .val (.int p4), .val (.long p5), .second, .val (.int i1), .val (.double (FP.i2d (p3 &&& (255 : Int32)))), .second, .val (.double (FP.i2d (p4 &&& (255 : Int32)))), .second, .val (.ref b2), .unset, .unset, .unset] [(.double (13835058055282163712 : UInt64)), (.int p1), (.ref b2)])) _
          refine st82.trans ?_
          show Steps p.tables e below (T82.setTop (mkF m 65 #[.val (.int p0), .val (.int p1), .val (.int p2), .val (.int p3), .val (.int p4), .val (.long p5), .second, .val (.int i1), .val (.double (FP.i2d (p3 &&& (255 : Int32)))), .second, .val (.double (FP.i2d (p4 &&& (255 : Int32)))), .second, .val (.ref b2), .unset, .unset, .unset] [])) _
          refine XS.iload X82.here hx rfl (hb hby at_65) rfl ?_
          show Steps p.tables e below (T82.setTop (mkF m 67 #[.val (.int p0), .val (.int p1), .val (.int p2), .val (.int p3), .val (.int p4), .val (.long p5), .second, .val (.int i1), .val (.double (FP.i2d (p3 &&& (255 : Int32)))), .second, .val (.double (FP.i2d (p4 &&& (255 : Int32)))), .second, .val (.ref b2), .unset, .unset, .unset] [(.int i1)])) _
          refine XS.iconst X82.here hx rfl (hb hby at_67) ?_
          show Steps p.tables e below (T82.setTop (mkF m 68 #[.val (.int p0), .val (.int p1), .val (.int p2), .val (.int p3), .val (.int p4), .val (.long p5), .second, .val (.int i1), .val (.double (FP.i2d (p3 &&& (255 : Int32)))), .second, .val (.double (FP.i2d (p4 &&& (255 : Int32)))), .second, .val (.ref b2), .unset, .unset, .unset] [(.int (3 : Int32)), (.int i1)])) _
          exact kk
        by_cases c86 : i1 < (3 : Int32)
        · skip
          have P87 : ∀ t, Steps p.tables e below (T82.setTop (mkF m 80 #[.val (.int p0), .val (.int p1), .val (.int p2), .val (.int p3), .val (.int p4), .val (.long p5), .second, .val (.int i1), .val (.double (FP.i2d (p3 &&& (255 : Int32)))), .second, .val (.double (FP.i2d (p4 &&& (255 : Int32)))), .second, .val (.ref b2), .unset, .unset, .unset] [])) t → Steps p.tables e below (s₁.setTop (entryFrame m #[(.int p0), (.int p1), (.int p2), (.int p3), (.int p4), (.long p5)] maxLocals)) t := by
            intro t kk
            refine P85 _ ?_
            show Steps p.tables e below (T82.setTop (mkF m 68 #[.val (.int p0), .val (.int p1), .val (.int p2), .val (.int p3), .val (.int p4), .val (.long p5), .second, .val (.int i1), .val (.double (FP.i2d (p3 &&& (255 : Int32)))), .second, .val (.double (FP.i2d (p4 &&& (255 : Int32)))), .second, .val (.ref b2), .unset, .unset, .unset] [(.int (3 : Int32)), (.int i1)])) _
            refine XS.icmpYes X82.here hx rfl (pc0 := 68) (pc' := 80) rfl (hb hby at_68) rfl (XT.ii_lt_t c86) (by decide) (by decide) ?_
            show Steps p.tables e below (T82.setTop (mkF m 80 #[.val (.int p0), .val (.int p1), .val (.int p2), .val (.int p3), .val (.int p4), .val (.long p5), .second, .val (.int i1), .val (.double (FP.i2d (p3 &&& (255 : Int32)))), .second, .val (.double (FP.i2d (p4 &&& (255 : Int32)))), .second, .val (.ref b2), .unset, .unset, .unset] [])) _
            exact kk
          have f88 := (Exa.keep f83 K82)
          have z89 : n0 ≤ _ := (Nat.le_trans z84 K82.1)
          exact own_tail _ _ _ b2 b1_3 b2_3 k1_3 k2_3 _ _ _ _ (X82.more (by decide) (by decide)) rfl N82 z89 f88 q82_6 q82_7 q82_0 q82_1 q82_4 q82_5 q82_2' q82_3' ge_b2 ge_b1_3 ge_b2_3 q3_10 q3_11 q3_12 rfl rfl P87
        · skip
          have P90 : ∀ t, Steps p.tables e below (T82.setTop (mkF m 71 #[.val (.int p0), .val (.int p1), .val (.int p2), .val (.int p3), .val (.int p4), .val (.long p5), .second, .val (.int i1), .val (.double (FP.i2d (p3 &&& (255 : Int32)))), .second, .val (.double (FP.i2d (p4 &&& (255 : Int32)))), .second, .val (.ref b2), .unset, .unset, .unset] [])) t → Steps p.tables e below (s₁.setTop (entryFrame m #[(.int p0), (.int p1), (.int p2), (.int p3), (.int p4), (.long p5)] maxLocals)) t := by
            intro t kk
            refine P85 _ ?_
            show Steps p.tables e below (T82.setTop (mkF m 68 #[.val (.int p0), .val (.int p1), .val (.int p2), .val (.int p3), .val (.int p4), .val (.long p5), .second, .val (.int i1), .val (.double (FP.i2d (p3 &&& (255 : Int32)))), .second, .val (.double (FP.i2d (p4 &&& (255 : Int32)))), .second, .val (.ref b2), .unset, .unset, .unset] [(.int (3 : Int32)), (.int i1)])) _
            refine XS.icmpNo X82.here hx rfl (hb hby at_68) rfl (XT.ii_lt_f c86) ?_
            show Steps p.tables e below (T82.setTop (mkF m 71 #[.val (.int p0), .val (.int p1), .val (.int p2), .val (.int p3), .val (.int p4), .val (.long p5), .second, .val (.int i1), .val (.double (FP.i2d (p3 &&& (255 : Int32)))), .second, .val (.double (FP.i2d (p4 &&& (255 : Int32)))), .second, .val (.ref b2), .unset, .unset, .unset] [])) _
            exact kk
          rcases own_em3 p0 p1 p2 with hk91 | hk91 | hk91
          · skip
            have f93 := (Exa.keep f83 K82)
            have z94 : n0 ≤ _ := (Nat.le_trans z84 K82.1)
            obtain ⟨cq92, kq92, q92a, q92b, q92c⟩ := isOf hZ rfl f93
            obtain ⟨_, _, ⟨T92, L92, k92, n92⟩, -, X92, ⟨Lc92, hQ92, l92, y92, z92⟩, st92⟩ := X82.virtualBack hx (y := (⟨"org/wayfold/search/Steps", "merge", "(ID)V"⟩ : MethodName)) (z := (⟨"org/wayfold/search/Steps", "merge", "(ID)V"⟩ : MethodName)) hown (mvT hZ (hw _ (List.mem_of_getElem? (i := 47) rfl))) (mvT hZ (hw _ (List.mem_of_getElem? (i := 48) rfl))) (notFace_of_selects (args := #[]) (mvT hZ (hw _ (List.mem_of_getElem? (i := 50) rfl)))) (mvT hZ (hw _ (List.mem_of_getElem? (i := 50) rfl))) (mvT hZ (hw _ (List.mem_of_getElem? (i := 49) rfl))) (by decide) (backOf (W := 0) (rm17 l Z a0 hw [] b2 p2 (13837309855095848960 : UInt64) (0 : Int64) (((0 : Int64) ||| ((1 : Int64) <<< (p0 &&& 0x3f).toInt64)) ||| ((1 : Int64) <<< (p1 &&& 0x3f).toInt64)) b1_3 k1_3 [(.int p0), (.int p1), (.int (0 : Int32)), (.int (0 : Int32)), (.int (0 : Int32)), (.int (0 : Int32)), (.int (0 : Int32)), (.int (0 : Int32)), (.int (0 : Int32)), (.int (0 : Int32)), (.int (0 : Int32)), (.int (0 : Int32)), (.int (0 : Int32)), (.int (0 : Int32)), (.int (0 : Int32)), (.int (0 : Int32))] (.int (0 : Int32)) b2_3 k2_3 [(.double (13830554455654793216 : UInt64)), (.double (13835058055282163712 : UInt64)), (.double (0 : UInt64)), (.double (0 : UInt64)), (.double (0 : UInt64)), (.double (0 : UInt64)), (.double (0 : UInt64)), (.double (0 : UInt64)), (.double (0 : UInt64)), (.double (0 : UInt64)), (.double (0 : UInt64)), (.double (0 : UInt64)), (.double (0 : UInt64)), (.double (0 : UInt64)), (.double (0 : UInt64)), (.double (0 : UInt64))] (.double (0 : UInt64)) p0 (13830554455654793216 : UInt64) T82.heap n0 z94 f93 q82_4 q82_0 q82_1 q82_5 q82_6 q82_7 q82_2' q82_3' ge_b2 ge_b1_3 ge_b2_3 q3_10 q3_11 q3_12 rfl rfl rfl hk91 (by rw [← (hk91)]; exact own_hb p0 (own_has2 ((1 : Int64) <<< (p1 &&& 0x3f).toInt64) (own_has (0 : Int64) ((1 : Int64) <<< (p0 &&& 0x3f).toInt64)))) rfl (by decide) (by decide)) hZ (hw _ (List.mem_of_getElem? (i := 51) rfl)) (hw _ (List.mem_of_getElem? (i := 2) rfl)) (by decide) (by decide)) q92a q92c (g := (mkF m 77 #[.val (.int p0), .val (.int p1), .val (.int p2), .val (.int p3), .val (.int p4), .val (.long p5), .second, .val (.int i1), .val (.double (FP.i2d (p3 &&& (255 : Int32)))), .second, .val (.double (FP.i2d (p4 &&& (255 : Int32)))), .second, .val (.ref b2), .unset, .unset, .unset] [(.double (13837309855095848960 : UInt64)), (.int p2), (.ref b2)])) rfl (by rw [hml]; rfl) (Steps.refl _) (argsL := [(.int p2), (.double (13837309855095848960 : UInt64))]) (rest := []) (lenOf pd_6 rfl) rfl (by show 2 * 0 + _ ≤ _; exact Nat.le_of_eq rfl) (hb hby at_77) (fun _ _ => ⟨rfl, rfl, (by decide : 5 + 0 ≤ _), (by decide : 56 + 0 ≤ _)⟩)
            dsimp only [Pt.U, Pt.locs, Pt.cells, Pt.slots] at X92 l92 y92 z92 st92 hQ92
            subst l92 y92 z92
            obtain ⟨rfl, Nq92, K92, q92_0, q92_1, q92_2, q92_3, q92_4, q92_5, q92_6, q92_7⟩ := hQ92
            have N92 := Fr.app N82 Nq92
            have q92_2' : Arv Z T92.heap b2_3 k2_3 .double (16 : Int32) [(.double (Native.java_lang_Math.nans.pick64 false (13830554455654793216 : UInt64) (13837309855095848960 : UInt64))), (.double (13835058055282163712 : UInt64)), (.double (0 : UInt64)), (.double (0 : UInt64)), (.double (0 : UInt64)), (.double (0 : UInt64)), (.double (0 : UInt64)), (.double (0 : UInt64)), (.double (0 : UInt64)), (.double (0 : UInt64)), (.double (0 : UInt64)), (.double (0 : UInt64)), (.double (0 : UInt64)), (.double (0 : UInt64)), (.double (0 : UInt64)), (.double (0 : UInt64))] (.double (0 : UInt64)) := q92_2
            have P95 : ∀ t, Steps p.tables e below (T92.setTop (mkF m 80 #[.val (.int p0), .val (.int p1), .val (.int p2), .val (.int p3), .val (.int p4), .val (.long p5), .second, .val (.int i1), .val (.double (FP.i2d (p3 &&& (255 : Int32)))), .second, .val (.double (FP.i2d (p4 &&& (255 : Int32)))), .second, .val (.ref b2), .unset, .unset, .unset] [])) t → Steps p.tables e below (s₁.setTop (entryFrame m #[(.int p0), (.int p1), (.int p2), (.int p3), (.int p4), (.long p5)] maxLocals)) t := by
              intro t kk
              refine P90 _ ?_
              show Steps p.tables e below (T82.setTop (mkF m 71 #[.val (.int p0), .val (.int p1), .val (.int p2), .val (.int p3), .val (.int p4), .val (.long p5), .second, .val (.int i1), .val (.double (FP.i2d (p3 &&& (255 : Int32)))), .second, .val (.double (FP.i2d (p4 &&& (255 : Int32)))), .second, .val (.ref b2), .unset, .unset, .unset] [])) _
              refine XS.aload X82.here hx rfl (hb hby at_71) rfl rfl ?_
              show Steps p.tables e below (T82.setTop (mkF m 73 #[.val (.int p0), .val (.int p1), .val (.int p2), .val (.int p3), .val (.int p4), .val (.long p5), .second, .val (.int i1), .val (.double (FP.i2d (p3 &&& (255 : Int32)))), .second, .val (.double (FP.i2d (p4 &&& (255 : Int32)))), .second, .val (.ref b2), .unset, .unset, .unset] [(.ref b2)])) _
              refine XS.iloadN X82.here hx rfl (hb hby at_73) rfl ?_
              show Steps p.tables e below (T82.setTop (mkF m 74 #[.val (.int p0), .val (.int p1), .val (.int p2), .val (.int p3), .val (.int p4), .val (.long p5), .second, .val (.int i1), .val (.double (FP.i2d (p3 &&& (255 : Int32)))), .second, .val (.double (FP.i2d (p4 &&& (255 : Int32)))), .second, .val (.ref b2), .unset, .unset, .unset] [(.int p2), (.ref b2)])) _
              refine X82.ldc2DoubleC hx hown (mvT hZ (hw _ (List.mem_of_getElem? (i := 64) rfl))) (g := (mkF m 74 #[.val (.int p0), .val (.int p1), .val (.int p2), .val (.int p3), .val (.int p4), .val (.long p5), .second, .val (.int i1), .val (.double (FP.i2d (p3 &&& (255 : Int32)))), .second, .val (.double (FP.i2d (p4 &&& (255 : Int32)))), .second, .val (.ref b2), .unset, .unset, .unset] [(.int p2), (.ref b2)])) rfl (hb hby at_74) _ ?_
              show Steps p.tables e below (T82.setTop (mkF m 77 #[.val (.int p0), .val (.int p1), .val (.int p2), .val (.int p3), .val (.int p4), .val (.long p5), .second, .val (.int i1), .val (.double (FP.i2d (p3 &&& (255 : Int32)))), .second, .val (.double (FP.i2d (p4 &&& (255 : Int32)))), .second, .val (.ref b2), .unset, .unset, .unset] [(.double (13837309855095848960 : UInt64)), (.int p2), (.ref b2)])) _
              refine st92.trans ?_
              show Steps p.tables e below (T92.setTop (mkF m 80 #[.val (.int p0), .val (.int p1), .val (.int p2), .val (.int p3), .val (.int p4), .val (.long p5), .second, .val (.int i1), .val (.double (FP.i2d (p3 &&& (255 : Int32)))), .second, .val (.double (FP.i2d (p4 &&& (255 : Int32)))), .second, .val (.ref b2), .unset, .unset, .unset] [])) _
              exact kk
            have f96 := (Exa.keep f93 K92)
            have z97 : n0 ≤ _ := (Nat.le_trans z94 K92.1)
            exact own_tail _ _ _ b2 b1_3 b2_3 k1_3 k2_3 _ _ _ _ (X92.more (by decide) (by decide)) rfl N92 z97 f96 q92_6 q92_7 q92_4 q92_0 q92_3 q92_5 q92_1 q92_2' ge_b2 ge_b1_3 ge_b2_3 q3_10 q3_11 q3_12 rfl rfl P95
          · skip
            have f99 := (Exa.keep f83 K82)
            have z100 : n0 ≤ _ := (Nat.le_trans z84 K82.1)
            obtain ⟨cq98, kq98, q98a, q98b, q98c⟩ := isOf hZ rfl f99
            obtain ⟨_, _, ⟨T98, L98, k98, n98⟩, -, X98, ⟨Lc98, hQ98, l98, y98, z98⟩, st98⟩ := X82.virtualBack hx (y := (⟨"org/wayfold/search/Steps", "merge", "(ID)V"⟩ : MethodName)) (z := (⟨"org/wayfold/search/Steps", "merge", "(ID)V"⟩ : MethodName)) hown (mvT hZ (hw _ (List.mem_of_getElem? (i := 47) rfl))) (mvT hZ (hw _ (List.mem_of_getElem? (i := 48) rfl))) (notFace_of_selects (args := #[]) (mvT hZ (hw _ (List.mem_of_getElem? (i := 50) rfl)))) (mvT hZ (hw _ (List.mem_of_getElem? (i := 50) rfl))) (mvT hZ (hw _ (List.mem_of_getElem? (i := 49) rfl))) (by decide) (backOf (W := 0) (rm18 l Z a0 hw [] b2 p2 (13837309855095848960 : UInt64) (0 : Int64) (((0 : Int64) ||| ((1 : Int64) <<< (p0 &&& 0x3f).toInt64)) ||| ((1 : Int64) <<< (p1 &&& 0x3f).toInt64)) b1_3 k1_3 [(.int p0), (.int p1), (.int (0 : Int32)), (.int (0 : Int32)), (.int (0 : Int32)), (.int (0 : Int32)), (.int (0 : Int32)), (.int (0 : Int32)), (.int (0 : Int32)), (.int (0 : Int32)), (.int (0 : Int32)), (.int (0 : Int32)), (.int (0 : Int32)), (.int (0 : Int32)), (.int (0 : Int32)), (.int (0 : Int32))] (.int (0 : Int32)) b2_3 k2_3 [(.double (13830554455654793216 : UInt64)), (.double (13835058055282163712 : UInt64)), (.double (0 : UInt64)), (.double (0 : UInt64)), (.double (0 : UInt64)), (.double (0 : UInt64)), (.double (0 : UInt64)), (.double (0 : UInt64)), (.double (0 : UInt64)), (.double (0 : UInt64)), (.double (0 : UInt64)), (.double (0 : UInt64)), (.double (0 : UInt64)), (.double (0 : UInt64)), (.double (0 : UInt64)), (.double (0 : UInt64))] (.double (0 : UInt64)) p0 p1 (13835058055282163712 : UInt64) T82.heap n0 z100 f99 q82_4 q82_0 q82_1 q82_5 q82_6 q82_7 q82_2' q82_3' ge_b2 ge_b1_3 ge_b2_3 q3_10 q3_11 q3_12 rfl rfl rfl hk91.1 rfl hk91.2 (by rw [← (hk91.2)]; exact own_hb p1 (own_has ((0 : Int64) ||| ((1 : Int64) <<< (p0 &&& 0x3f).toInt64)) ((1 : Int64) <<< (p1 &&& 0x3f).toInt64))) rfl (by decide) (by decide)) hZ (hw _ (List.mem_of_getElem? (i := 51) rfl)) (hw _ (List.mem_of_getElem? (i := 2) rfl)) (by decide) (by decide)) q98a q98c (g := (mkF m 77 #[.val (.int p0), .val (.int p1), .val (.int p2), .val (.int p3), .val (.int p4), .val (.long p5), .second, .val (.int i1), .val (.double (FP.i2d (p3 &&& (255 : Int32)))), .second, .val (.double (FP.i2d (p4 &&& (255 : Int32)))), .second, .val (.ref b2), .unset, .unset, .unset] [(.double (13837309855095848960 : UInt64)), (.int p2), (.ref b2)])) rfl (by rw [hml]; rfl) (Steps.refl _) (argsL := [(.int p2), (.double (13837309855095848960 : UInt64))]) (rest := []) (lenOf pd_6 rfl) rfl (by show 2 * 0 + _ ≤ _; exact Nat.le_of_eq rfl) (hb hby at_77) (fun _ _ => ⟨rfl, rfl, (by decide : 5 + 0 ≤ _), (by decide : 56 + 0 ≤ _)⟩)
            dsimp only [Pt.U, Pt.locs, Pt.cells, Pt.slots] at X98 l98 y98 z98 st98 hQ98
            subst l98 y98 z98
            obtain ⟨rfl, Nq98, K98, q98_0, q98_1, q98_2, q98_3, q98_4, q98_5, q98_6, q98_7⟩ := hQ98
            have N98 := Fr.app N82 Nq98
            have q98_2' : Arv Z T98.heap b2_3 k2_3 .double (16 : Int32) [(.double (13830554455654793216 : UInt64)), (.double (Native.java_lang_Math.nans.pick64 false (13835058055282163712 : UInt64) (13837309855095848960 : UInt64))), (.double (0 : UInt64)), (.double (0 : UInt64)), (.double (0 : UInt64)), (.double (0 : UInt64)), (.double (0 : UInt64)), (.double (0 : UInt64)), (.double (0 : UInt64)), (.double (0 : UInt64)), (.double (0 : UInt64)), (.double (0 : UInt64)), (.double (0 : UInt64)), (.double (0 : UInt64)), (.double (0 : UInt64)), (.double (0 : UInt64))] (.double (0 : UInt64)) := q98_2
            have P101 : ∀ t, Steps p.tables e below (T98.setTop (mkF m 80 #[.val (.int p0), .val (.int p1), .val (.int p2), .val (.int p3), .val (.int p4), .val (.long p5), .second, .val (.int i1), .val (.double (FP.i2d (p3 &&& (255 : Int32)))), .second, .val (.double (FP.i2d (p4 &&& (255 : Int32)))), .second, .val (.ref b2), .unset, .unset, .unset] [])) t → Steps p.tables e below (s₁.setTop (entryFrame m #[(.int p0), (.int p1), (.int p2), (.int p3), (.int p4), (.long p5)] maxLocals)) t := by
              intro t kk
              refine P90 _ ?_
              show Steps p.tables e below (T82.setTop (mkF m 71 #[.val (.int p0), .val (.int p1), .val (.int p2), .val (.int p3), .val (.int p4), .val (.long p5), .second, .val (.int i1), .val (.double (FP.i2d (p3 &&& (255 : Int32)))), .second, .val (.double (FP.i2d (p4 &&& (255 : Int32)))), .second, .val (.ref b2), .unset, .unset, .unset] [])) _
              refine XS.aload X82.here hx rfl (hb hby at_71) rfl rfl ?_
              show Steps p.tables e below (T82.setTop (mkF m 73 #[.val (.int p0), .val (.int p1), .val (.int p2), .val (.int p3), .val (.int p4), .val (.long p5), .second, .val (.int i1), .val (.double (FP.i2d (p3 &&& (255 : Int32)))), .second, .val (.double (FP.i2d (p4 &&& (255 : Int32)))), .second, .val (.ref b2), .unset, .unset, .unset] [(.ref b2)])) _
              refine XS.iloadN X82.here hx rfl (hb hby at_73) rfl ?_
              show Steps p.tables e below (T82.setTop (mkF m 74 #[.val (.int p0), .val (.int p1), .val (.int p2), .val (.int p3), .val (.int p4), .val (.long p5), .second, .val (.int i1), .val (.double (FP.i2d (p3 &&& (255 : Int32)))), .second, .val (.double (FP.i2d (p4 &&& (255 : Int32)))), .second, .val (.ref b2), .unset, .unset, .unset] [(.int p2), (.ref b2)])) _
              refine X82.ldc2DoubleC hx hown (mvT hZ (hw _ (List.mem_of_getElem? (i := 64) rfl))) (g := (mkF m 74 #[.val (.int p0), .val (.int p1), .val (.int p2), .val (.int p3), .val (.int p4), .val (.long p5), .second, .val (.int i1), .val (.double (FP.i2d (p3 &&& (255 : Int32)))), .second, .val (.double (FP.i2d (p4 &&& (255 : Int32)))), .second, .val (.ref b2), .unset, .unset, .unset] [(.int p2), (.ref b2)])) rfl (hb hby at_74) _ ?_
              show Steps p.tables e below (T82.setTop (mkF m 77 #[.val (.int p0), .val (.int p1), .val (.int p2), .val (.int p3), .val (.int p4), .val (.long p5), .second, .val (.int i1), .val (.double (FP.i2d (p3 &&& (255 : Int32)))), .second, .val (.double (FP.i2d (p4 &&& (255 : Int32)))), .second, .val (.ref b2), .unset, .unset, .unset] [(.double (13837309855095848960 : UInt64)), (.int p2), (.ref b2)])) _
              refine st98.trans ?_
              show Steps p.tables e below (T98.setTop (mkF m 80 #[.val (.int p0), .val (.int p1), .val (.int p2), .val (.int p3), .val (.int p4), .val (.long p5), .second, .val (.int i1), .val (.double (FP.i2d (p3 &&& (255 : Int32)))), .second, .val (.double (FP.i2d (p4 &&& (255 : Int32)))), .second, .val (.ref b2), .unset, .unset, .unset] [])) _
              exact kk
            have f102 := (Exa.keep f99 K98)
            have z103 : n0 ≤ _ := (Nat.le_trans z100 K98.1)
            exact own_tail _ _ _ b2 b1_3 b2_3 k1_3 k2_3 _ _ _ _ (X98.more (by decide) (by decide)) rfl N98 z103 f102 q98_6 q98_7 q98_4 q98_0 q98_3 q98_5 q98_1 q98_2' ge_b2 ge_b1_3 ge_b2_3 q3_10 q3_11 q3_12 rfl rfl P101
          · skip
            have f105 := (Exa.keep f83 K82)
            have z106 : n0 ≤ _ := (Nat.le_trans z84 K82.1)
            obtain ⟨cq104, kq104, q104a, q104b, q104c⟩ := isOf hZ rfl f105
            obtain ⟨_, _, ⟨T104, L104, k104, n104⟩, -, X104, ⟨Lc104, hQ104, l104, y104, z104⟩, st104⟩ := X82.virtualBack hx (y := (⟨"org/wayfold/search/Steps", "merge", "(ID)V"⟩ : MethodName)) (z := (⟨"org/wayfold/search/Steps", "merge", "(ID)V"⟩ : MethodName)) hown (mvT hZ (hw _ (List.mem_of_getElem? (i := 47) rfl))) (mvT hZ (hw _ (List.mem_of_getElem? (i := 48) rfl))) (notFace_of_selects (args := #[]) (mvT hZ (hw _ (List.mem_of_getElem? (i := 50) rfl)))) (mvT hZ (hw _ (List.mem_of_getElem? (i := 50) rfl))) (mvT hZ (hw _ (List.mem_of_getElem? (i := 49) rfl))) (by decide) (backOf (W := 0) (rm16 l Z a0 hw [] b2 p2 (13837309855095848960 : UInt64) (0 : Int64) (((0 : Int64) ||| ((1 : Int64) <<< (p0 &&& 0x3f).toInt64)) ||| ((1 : Int64) <<< (p1 &&& 0x3f).toInt64)) b1_3 k1_3 [(.int p0), (.int p1), (.int (0 : Int32)), (.int (0 : Int32)), (.int (0 : Int32)), (.int (0 : Int32)), (.int (0 : Int32)), (.int (0 : Int32)), (.int (0 : Int32)), (.int (0 : Int32)), (.int (0 : Int32)), (.int (0 : Int32)), (.int (0 : Int32)), (.int (0 : Int32)), (.int (0 : Int32)), (.int (0 : Int32))] (.int (0 : Int32)) b2_3 k2_3 [(.double (13830554455654793216 : UInt64)), (.double (13835058055282163712 : UInt64)), (.double (0 : UInt64)), (.double (0 : UInt64)), (.double (0 : UInt64)), (.double (0 : UInt64)), (.double (0 : UInt64)), (.double (0 : UInt64)), (.double (0 : UInt64)), (.double (0 : UInt64)), (.double (0 : UInt64)), (.double (0 : UInt64)), (.double (0 : UInt64)), (.double (0 : UInt64)), (.double (0 : UInt64)), (.double (0 : UInt64))] (.double (0 : UInt64)) p0 p1 T82.heap n0 z106 f105 q82_4 q82_0 q82_1 q82_5 q82_6 q82_7 q82_2' q82_3' ge_b2 ge_b1_3 ge_b2_3 q3_10 q3_11 q3_12 rfl rfl rfl hk91.1 rfl hk91.2) hZ (hw _ (List.mem_of_getElem? (i := 51) rfl)) (hw _ (List.mem_of_getElem? (i := 2) rfl)) (by decide) (by decide)) q104a q104c (g := (mkF m 77 #[.val (.int p0), .val (.int p1), .val (.int p2), .val (.int p3), .val (.int p4), .val (.long p5), .second, .val (.int i1), .val (.double (FP.i2d (p3 &&& (255 : Int32)))), .second, .val (.double (FP.i2d (p4 &&& (255 : Int32)))), .second, .val (.ref b2), .unset, .unset, .unset] [(.double (13837309855095848960 : UInt64)), (.int p2), (.ref b2)])) rfl (by rw [hml]; rfl) (Steps.refl _) (argsL := [(.int p2), (.double (13837309855095848960 : UInt64))]) (rest := []) (lenOf pd_6 rfl) rfl (by show 2 * 0 + _ ≤ _; exact Nat.le_of_eq rfl) (hb hby at_77) (fun _ _ => ⟨rfl, rfl, (by decide : 5 + 0 ≤ _), (by decide : 56 + 0 ≤ _)⟩)
            dsimp only [Pt.U, Pt.locs, Pt.cells, Pt.slots] at X104 l104 y104 z104 st104 hQ104
            subst l104 y104 z104
            obtain ⟨rfl, Nq104, K104, q104_0, q104_1, q104_2, q104_3, q104_4, q104_5, q104_6, q104_7⟩ := hQ104
            have N104 := Fr.app N82 Nq104
            have q104_2' : Arv Z T104.heap b1_3 k1_3 .int (16 : Int32) [(.int p0), (.int p1), (.int p2), (.int (0 : Int32)), (.int (0 : Int32)), (.int (0 : Int32)), (.int (0 : Int32)), (.int (0 : Int32)), (.int (0 : Int32)), (.int (0 : Int32)), (.int (0 : Int32)), (.int (0 : Int32)), (.int (0 : Int32)), (.int (0 : Int32)), (.int (0 : Int32)), (.int (0 : Int32))] (.int (0 : Int32)) := q104_2
            have q104_3' : Arv Z T104.heap b2_3 k2_3 .double (16 : Int32) [(.double (13830554455654793216 : UInt64)), (.double (13835058055282163712 : UInt64)), (.double (13837309855095848960 : UInt64)), (.double (0 : UInt64)), (.double (0 : UInt64)), (.double (0 : UInt64)), (.double (0 : UInt64)), (.double (0 : UInt64)), (.double (0 : UInt64)), (.double (0 : UInt64)), (.double (0 : UInt64)), (.double (0 : UInt64)), (.double (0 : UInt64)), (.double (0 : UInt64)), (.double (0 : UInt64)), (.double (0 : UInt64))] (.double (0 : UInt64)) := q104_3
            have P107 : ∀ t, Steps p.tables e below (T104.setTop (mkF m 80 #[.val (.int p0), .val (.int p1), .val (.int p2), .val (.int p3), .val (.int p4), .val (.long p5), .second, .val (.int i1), .val (.double (FP.i2d (p3 &&& (255 : Int32)))), .second, .val (.double (FP.i2d (p4 &&& (255 : Int32)))), .second, .val (.ref b2), .unset, .unset, .unset] [])) t → Steps p.tables e below (s₁.setTop (entryFrame m #[(.int p0), (.int p1), (.int p2), (.int p3), (.int p4), (.long p5)] maxLocals)) t := by
              intro t kk
              refine P90 _ ?_
              show Steps p.tables e below (T82.setTop (mkF m 71 #[.val (.int p0), .val (.int p1), .val (.int p2), .val (.int p3), .val (.int p4), .val (.long p5), .second, .val (.int i1), .val (.double (FP.i2d (p3 &&& (255 : Int32)))), .second, .val (.double (FP.i2d (p4 &&& (255 : Int32)))), .second, .val (.ref b2), .unset, .unset, .unset] [])) _
              refine XS.aload X82.here hx rfl (hb hby at_71) rfl rfl ?_
              show Steps p.tables e below (T82.setTop (mkF m 73 #[.val (.int p0), .val (.int p1), .val (.int p2), .val (.int p3), .val (.int p4), .val (.long p5), .second, .val (.int i1), .val (.double (FP.i2d (p3 &&& (255 : Int32)))), .second, .val (.double (FP.i2d (p4 &&& (255 : Int32)))), .second, .val (.ref b2), .unset, .unset, .unset] [(.ref b2)])) _
              refine XS.iloadN X82.here hx rfl (hb hby at_73) rfl ?_
              show Steps p.tables e below (T82.setTop (mkF m 74 #[.val (.int p0), .val (.int p1), .val (.int p2), .val (.int p3), .val (.int p4), .val (.long p5), .second, .val (.int i1), .val (.double (FP.i2d (p3 &&& (255 : Int32)))), .second, .val (.double (FP.i2d (p4 &&& (255 : Int32)))), .second, .val (.ref b2), .unset, .unset, .unset] [(.int p2), (.ref b2)])) _
              refine X82.ldc2DoubleC hx hown (mvT hZ (hw _ (List.mem_of_getElem? (i := 64) rfl))) (g := (mkF m 74 #[.val (.int p0), .val (.int p1), .val (.int p2), .val (.int p3), .val (.int p4), .val (.long p5), .second, .val (.int i1), .val (.double (FP.i2d (p3 &&& (255 : Int32)))), .second, .val (.double (FP.i2d (p4 &&& (255 : Int32)))), .second, .val (.ref b2), .unset, .unset, .unset] [(.int p2), (.ref b2)])) rfl (hb hby at_74) _ ?_
              show Steps p.tables e below (T82.setTop (mkF m 77 #[.val (.int p0), .val (.int p1), .val (.int p2), .val (.int p3), .val (.int p4), .val (.long p5), .second, .val (.int i1), .val (.double (FP.i2d (p3 &&& (255 : Int32)))), .second, .val (.double (FP.i2d (p4 &&& (255 : Int32)))), .second, .val (.ref b2), .unset, .unset, .unset] [(.double (13837309855095848960 : UInt64)), (.int p2), (.ref b2)])) _
              refine st104.trans ?_
              show Steps p.tables e below (T104.setTop (mkF m 80 #[.val (.int p0), .val (.int p1), .val (.int p2), .val (.int p3), .val (.int p4), .val (.long p5), .second, .val (.int i1), .val (.double (FP.i2d (p3 &&& (255 : Int32)))), .second, .val (.double (FP.i2d (p4 &&& (255 : Int32)))), .second, .val (.ref b2), .unset, .unset, .unset] [])) _
              exact kk
            have f108 := (Exa.keep f105 K104)
            have z109 : n0 ≤ _ := (Nat.le_trans z106 K104.1)
            exact own_tail _ _ _ b2 b1_3 b2_3 k1_3 k2_3 _ _ _ _ (X104.more (by decide) (by decide)) rfl N104 z109 f108 q104_6 q104_7 q104_0 q104_1 q104_4 q104_5 q104_2' q104_3' ge_b2 ge_b1_3 ge_b2_3 q3_10 q3_11 q3_12 rfl rfl P107
set_option maxRecDepth 65536 in
set_option maxHeartbeats 40000000 in
theorem comes_1 {Post : Tables → Env → Array Value → State → Outcome → State → Prop} (hpost : ∀ tb e args s v u, (limb_1_1.after args s (.returned v) u = true ∧ limb_1_2.after args s (.returned v) u = true ∧ True) → FrameEnd s (.returned v) u (Jvm.fieldLocs frame_1_writes args s ++ Jvm.arrayLocs frame_1_arrays args s ++ Jvm.staticLocs frame_1_statics s) 24 192 → Post tb e args s (.returned v) u) :
    ArmFor flags0 classFile x code maxLocals ret World_1 tables_1 room_1 Calls_1 rest_1 Pre_1 Post := by
  intro l hfl _ _ p e ha hc hk s m args below hf hA hF happ hP
  obtain ⟨hcalls, hrest, hpre⟩ := hP
  obtain ⟨-, -, -, hnamed, -, -, -, hat⟩ := (Spec.applies_iff hf).mp happ
  obtain ⟨hg, hn⟩ := and_e (Cond.before_iff.mp (show (Jvm.Cond.and given_1 narrow_1).before args s = true from hpre))
  obtain ⟨g0, gr0⟩ := and_e hg
  obtain ⟨g1, gr1⟩ := and_e gr0
  obtain ⟨g2, gr2⟩ := and_e gr1
  obtain ⟨g3, gr3⟩ := and_e gr2
  obtain ⟨g4, gr4⟩ := and_e gr3
  obtain ⟨g5, gr5⟩ := and_e gr4
  obtain ⟨w0, w1, w2, w3, w4, w5, rfl⟩ : ∃ w0 w1 w2 w3 w4 w5 : Value, args = #[w0, w1, w2, w3, w4, w5] := by
    have hs : args.size = 6 := by simpa [Cond.value, given_1] using g0
    obtain ⟨L⟩ := args
    match L, hs with
    | [w0, w1, w2, w3, w4, w5], _ => exact ⟨w0, w1, w2, w3, w4, w5, rfl⟩
  have hw := fun d (hd : d ∈ tables_1) => atoms_spec (ws := Jvm.Cond.code x code maxLocals ret :: tables_1) hat d (List.mem_cons_of_mem _ hd)
  have hfit : Fit s := fun {y c} hc i hi => by
    obtain ⟨ha, rfl⟩ := Array.getElem?_eq_some_iff.mp hc
    have q := List.all_eq_true.mp ((Array.all_eq_true_iff_forall_mem.mp hF) _ (Array.getElem_mem ha)) i (List.mem_range.mpr hi)
    simpa [Array.getElem?_eq_getElem hi] using q
  obtain ⟨i0, ei0⟩ := is_v g1
  obtain rfl : w0 = (.int i0) := Option.some.inj ei0
  obtain ⟨i1, ei1⟩ := is_v g2
  obtain rfl : w1 = (.int i1) := Option.some.inj ei1
  obtain ⟨i2, ei2⟩ := is_v g3
  obtain rfl : w2 = (.int i2) := Option.some.inj ei2
  obtain ⟨i3, ei3⟩ := is_v g4
  obtain rfl : w3 = (.int i3) := Option.some.inj ei3
  obtain ⟨i4, ei4⟩ := is_v g5
  obtain rfl : w4 = (.int i4) := Option.some.inj ei4
  obtain ⟨i5, ei5⟩ := isL_v gr5
  obtain rfl : w5 = (.long i5) := Option.some.inj ei5
  obtain ⟨n, o, h1, h2, h3, _, L, rfl, ⟨rfl, N⟩, hq⟩ := rm0 l s _ hw tables_1 i0 i1 i2 i3 i4 i5  s.heap s.heap.size (Nat.le_refl _)  p e ha hc hk s m _ below hf ((Spec.applies_iff_loose hf).mp happ).1 ⟨rfl, State.Warmed39.refl s, rfl⟩ trivial
  refine ⟨n, _, h1, h2, h3, hpost _ _ _ _ _ _ ⟨Cond.after_iff.mpr rfl, Cond.after_iff.mpr (eq_i res_at (Term.int_eval (1)) rfl), trivial⟩ ⟨hq.1, hq.2.1, (hq.2.2.sift fun y hy => Or.inr (N y hy)).mono (by decide) (by decide)⟩⟩
theorem main_1_1 : Claimed_1_1 := comes_1 fun _ _ _ _ _ _ h hF => ⟨h.1, hF⟩
theorem main_1_2 : Claimed_1_2 := comes_1 fun _ _ _ _ _ _ h hF => ⟨h.2.1, hF⟩
end Jvm.Pilot.@@N@@
namespace Jvm.Pilot.@@N@@
open Jvm Jvm.ClassFile Sem Op Lib Jvm.Free Jvm.Stand Jvm.Pilot.@@N@@.Jvm.D
/-! MADE BY PROGRAM (witnessworld.py) out of the Statement's table words and the real class files: 12 classes; the members and pool entries that the words name. The judged class is class 1, her method 1. -/
namespace start1
open Jvm.ClassFile
def u (s : String) : CpInfo := .utf8 (stringToUtf16 s)
/-- a pool by its gaps: so many unusable entries, then the entry; so many at the end -/
def gap : Nat → List CpInfo → List CpInfo
  | 0, r => r
  | n + 1, r => .unusable :: gap n r
def poolList (es : List (Nat × CpInfo)) (last : Nat) : List CpInfo := es.foldr (fun e r => gap e.1 (e.2 :: r)) (gap last [])
def pool (es : List (Nat × CpInfo)) (last : Nat) : Array CpInfo := ⟨poolList es last⟩
def fileOf (pool : Array CpInfo) (this : Nat) (attrs : Array Attribute := #[]) (ms : Array MethodInfo := #[]) (fl : Nat := 33) (sup : Nat := 0) (ifs : Array Nat := #[]) (fds : Array FieldInfo := #[]) : ClassFile where
  minorVersion := 0
  majorVersion := 65
  constantPool := pool
  accessFlags := fl
  thisClass := this
  superClass := sup
  interfaces := ifs
  fields := fds
  methods := ms
  attributes := attrs
def plain (name : String) (sup : Option ClassId) : Class where
  name := name
  kind := .ordinary
  loader := none
  accessFlags := 33
  super := sup
  interfaces := #[]
  cf := none
  fields := #[]
  methods := #[]
  instanceTypes := #[]
  staticTypes := #[]
  resolved := #[]
  callSites := []
  init := .initialized
  statics := none
  mirror := none

def pool0 : Array CpInfo := pool [(5, u "<init>"), (0, u "()V"), (1, .class_ 10), (1, u "java/lang/Object")] 113

def k0c0 : Code := { maxStack := 0, maxLocals := 1, code := object_method_1_code, exceptionTable := #[], attributes := #[] }
def k0m0 : Method := { name := "<init>", desc := "()V", sig := { parameters := [], returnType := none }, accessFlags := 1, code := some k0c0 }
/-- java/lang/Object -/
def k0 : Class := { plain "java/lang/Object" none with
  accessFlags := 33
  interfaces := #[]
  cf := some (fileOf pool0 8 #[] #[{ accessFlags := 1, nameIndex := 5, descriptorIndex := 6, attributes := #[] }] 33 0 #[] #[])
  fields := #[]
  methods := #[k0m0]
  instanceTypes := #[]
  staticTypes := #[]
  resolved := Array.replicate 124 none
  statics := none }

def pool1 : Array CpInfo := pool [(2, .class_ 4), (0, .nameAndType 5 6), (0, u "java/lang/Object"), (0, u "<init>"), (0, u "()V"), (0, .class_ 8), (0, u "org/wayfold/search/Steps"), (0, .methodref 7 3), (0, .double 13830554455654793216), (1, .methodref 7 13), (0, .nameAndType 14 15), (0, u "merge"), (0, u "(ID)V"), (0, .double 13835058055282163712), (1, .double 13837309855095848960), (1, .methodref 7 21), (0, .nameAndType 22 23), (0, u "arcsRead"), (0, u "(J)V"), (0, .methodref 7 25), (0, .nameAndType 26 6), (0, u "clear"), (0, .methodref 7 28), (0, .nameAndType 29 30), (0, u "size"), (0, u "()I"), (0, .methodref 7 32), (0, .nameAndType 22 33), (0, u "()J"), (0, .methodref 7 35), (0, .nameAndType 36 37), (0, u "vertex"), (0, u "(I)I"), (0, .methodref 7 39), (0, .nameAndType 40 41), (0, u "cost"), (0, u "(I)D"), (0, .class_ 43), (0, u "org/wayfold/search/StepsClearPinLaw"), (2, u "law"), (0, u "(IIIIIJ)Z")] 3

def k1m0 : Method := { name := "<init>", desc := "()V", sig := { parameters := [], returnType := none }, accessFlags := 1, code := none }
def k1c1 : Code := { maxStack := 4, maxLocals := 16, code := code, exceptionTable := #[], attributes := #[] }
def k1m1 : Method := { name := "law", desc := "(IIIIIJ)Z", sig := { parameters := [.int, .int, .int, .int, .int, .long], returnType := some .boolean }, accessFlags := 9, code := some k1c1 }
/-- org/wayfold/search/StepsClearPinLaw -/
def k1 : Class := { plain "org/wayfold/search/StepsClearPinLaw" (some 0) with
  accessFlags := 49
  interfaces := #[]
  cf := some (fileOf pool1 42 #[] #[{ accessFlags := 1, nameIndex := 5, descriptorIndex := 6, attributes := #[] }, { accessFlags := 9, nameIndex := 46, descriptorIndex := 47, attributes := #[] }] 49 2 #[] #[])
  fields := #[]
  methods := #[k1m0, k1m1]
  instanceTypes := #[]
  staticTypes := #[]
  resolved := Array.replicate 51 none
  statics := none }

def pool2 : Array CpInfo := pool [(1, .methodref 2 3), (0, .class_ 4), (0, .nameAndType 5 6), (0, u "java/lang/Object"), (0, u "<init>"), (0, u "()V"), (0, .fieldref 8 9), (0, .class_ 10), (0, .nameAndType 11 12), (0, u "org/wayfold/search/Steps"), (0, u "vertices"), (0, u "[I"), (0, .fieldref 8 14), (0, .nameAndType 15 16), (0, u "costs"), (0, u "[D"), (0, .fieldref 8 18), (0, .nameAndType 19 12), (0, u "slots"), (0, .fieldref 8 21), (0, .nameAndType 22 12), (0, u "slotOf"), (0, .fieldref 8 24), (0, .nameAndType 25 26), (0, u "size"), (0, u "I"), (0, .fieldref 8 28), (0, .nameAndType 29 30), (0, u "arcsRead"), (0, u "J"), (0, .fieldref 8 32), (0, .nameAndType 33 34), (0, u "hashed"), (0, u "Z"), (0, .fieldref 8 36), (0, .nameAndType 37 30), (0, u "seen"), (0, .methodref 8 39), (0, .nameAndType 40 41), (0, u "find"), (0, u "(I)I"), (0, .methodref 43 44), (0, .class_ 45), (0, .nameAndType 46 47), (0, u "java/lang/Math"), (0, u "min"), (0, u "(DD)D"), (23, u "SCANNED"), (4, u "()I"), (0, u "vertex"), (0, u "cost"), (0, u "(I)D"), (0, u "()J"), (0, u "(J)V"), (0, u "clear"), (1, u "merge"), (0, u "(ID)V")] 3

def k2c0 : Code := { maxStack := 2, maxLocals := 1, code := prog_104_method_1_code, exceptionTable := #[], attributes := #[] }
def k2m0 : Method := { name := "<init>", desc := "()V", sig := { parameters := [], returnType := none }, accessFlags := 1, code := some k2c0 }
def k2c1 : Code := { maxStack := 1, maxLocals := 1, code := prog_104_method_2_code, exceptionTable := #[], attributes := #[] }
def k2m1 : Method := { name := "size", desc := "()I", sig := { parameters := [], returnType := some .int }, accessFlags := 1, code := some k2c1 }
def k2c2 : Code := { maxStack := 2, maxLocals := 2, code := prog_104_method_3_code, exceptionTable := #[], attributes := #[] }
def k2m2 : Method := { name := "vertex", desc := "(I)I", sig := { parameters := [.int], returnType := some .int }, accessFlags := 1, code := some k2c2 }
def k2c3 : Code := { maxStack := 2, maxLocals := 2, code := prog_104_method_4_code, exceptionTable := #[], attributes := #[] }
def k2m3 : Method := { name := "cost", desc := "(I)D", sig := { parameters := [.int], returnType := some .double }, accessFlags := 1, code := some k2c3 }
def k2c4 : Code := { maxStack := 2, maxLocals := 1, code := prog_104_method_5_code, exceptionTable := #[], attributes := #[] }
def k2m4 : Method := { name := "arcsRead", desc := "()J", sig := { parameters := [], returnType := some .long }, accessFlags := 1, code := some k2c4 }
def k2c5 : Code := { maxStack := 3, maxLocals := 3, code := prog_104_method_6_code, exceptionTable := #[], attributes := #[] }
def k2m5 : Method := { name := "arcsRead", desc := "(J)V", sig := { parameters := [.long], returnType := none }, accessFlags := 0, code := some k2c5 }
def k2c6 : Code := { maxStack := 3, maxLocals := 2, code := prog_104_method_7_code, exceptionTable := #[], attributes := #[] }
def k2m6 : Method := { name := "clear", desc := "()V", sig := { parameters := [], returnType := none }, accessFlags := 0, code := some k2c6 }
def k2c7 : Code := { maxStack := 6, maxLocals := 7, code := prog_104_method_8_code, exceptionTable := #[], attributes := #[] }
def k2m7 : Method := { name := "merge", desc := "(ID)V", sig := { parameters := [.int, .double], returnType := none }, accessFlags := 0, code := some k2c7 }
def k2c8 : Code := { maxStack := 3, maxLocals := 4, code := prog_104_method_11_code, exceptionTable := #[], attributes := #[] }
def k2m8 : Method := { name := "find", desc := "(I)I", sig := { parameters := [.int], returnType := some .int }, accessFlags := 2, code := some k2c8 }
/-- org/wayfold/search/Steps -/
def k2 : Class := { plain "org/wayfold/search/Steps" (some 0) with
  accessFlags := 49
  interfaces := #[]
  cf := some (fileOf pool2 8 #[] #[{ accessFlags := 1, nameIndex := 5, descriptorIndex := 6, attributes := #[] }, { accessFlags := 1, nameIndex := 25, descriptorIndex := 76, attributes := #[] }, { accessFlags := 1, nameIndex := 77, descriptorIndex := 41, attributes := #[] }, { accessFlags := 1, nameIndex := 78, descriptorIndex := 79, attributes := #[] }, { accessFlags := 1, nameIndex := 29, descriptorIndex := 80, attributes := #[] }, { accessFlags := 0, nameIndex := 29, descriptorIndex := 81, attributes := #[] }, { accessFlags := 0, nameIndex := 82, descriptorIndex := 6, attributes := #[] }, { accessFlags := 0, nameIndex := 84, descriptorIndex := 85, attributes := #[] }, { accessFlags := 2, nameIndex := 40, descriptorIndex := 41, attributes := #[] }] 49 2 #[] #[{ accessFlags := 26, nameIndex := 71, descriptorIndex := 26, attributes := #[] }, { accessFlags := 2, nameIndex := 11, descriptorIndex := 12, attributes := #[] }, { accessFlags := 2, nameIndex := 15, descriptorIndex := 16, attributes := #[] }, { accessFlags := 2, nameIndex := 25, descriptorIndex := 26, attributes := #[] }, { accessFlags := 2, nameIndex := 29, descriptorIndex := 30, attributes := #[] }, { accessFlags := 2, nameIndex := 19, descriptorIndex := 12, attributes := #[] }, { accessFlags := 2, nameIndex := 22, descriptorIndex := 12, attributes := #[] }, { accessFlags := 2, nameIndex := 33, descriptorIndex := 34, attributes := #[] }, { accessFlags := 2, nameIndex := 37, descriptorIndex := 30, attributes := #[] }])
  fields := #[{ name := "SCANNED", type := .int, accessFlags := 26, slot := 0, constantValue := 0 }, { name := "vertices", type := (.array .int), accessFlags := 2, slot := 0, constantValue := 0 }, { name := "costs", type := (.array .double), accessFlags := 2, slot := 1, constantValue := 0 }, { name := "size", type := .int, accessFlags := 2, slot := 2, constantValue := 0 }, { name := "arcsRead", type := .long, accessFlags := 2, slot := 3, constantValue := 0 }, { name := "slots", type := (.array .int), accessFlags := 2, slot := 4, constantValue := 0 }, { name := "slotOf", type := (.array .int), accessFlags := 2, slot := 5, constantValue := 0 }, { name := "hashed", type := .boolean, accessFlags := 2, slot := 6, constantValue := 0 }, { name := "seen", type := .long, accessFlags := 2, slot := 7, constantValue := 0 }]
  methods := #[k2m0, k2m1, k2m2, k2m3, k2m4, k2m5, k2m6, k2m7, k2m8]
  instanceTypes := #[(.array .int), (.array .double), .int, .long, (.array .int), (.array .int), .boolean, .long]
  staticTypes := #[.int]
  resolved := Array.replicate 89 none
  statics := none }

def pool3 : Array CpInfo := pool [(1, .class_ 2), (0, u "java/lang/Math"), (1, .class_ 6), (1, u "java/lang/Object"), (0, u "<init>"), (0, u "()V"), (43, u "(DD)D"), (45, .class_ 100), (1, u "java/lang/Math$RandomNumberGeneratorHolder"), (71, u "negativeZeroFloatBits"), (0, u "J"), (2, u "negativeZeroDoubleBits"), (24, u "min"), (43, u "$assertionsDisabled"), (0, u "Z"), (91, u "twoToTheDoubleScaleDown"), (0, u "D"), (4, u "twoToTheDoubleScaleUp"), (9, u "E"), (3, u "PI"), (2, u "TAU"), (2, u "DEGREES_TO_RADIANS"), (0, u "RADIANS_TO_DEGREES")] 94

def k3m0 : Method := { name := "<init>", desc := "()V", sig := { parameters := [], returnType := none }, accessFlags := 2, code := none }
def k3c1 : Code := { maxStack := 4, maxLocals := 4, code := jdk_29_method_72_code, exceptionTable := #[], attributes := #[] }
def k3m1 : Method := { name := "min", desc := "(DD)D", sig := { parameters := [.double, .double], returnType := some .double }, accessFlags := 9, code := some k3c1 }
/-- java/lang/Math -/
def k3 : Class := { plain "java/lang/Math" (some 0) with
  accessFlags := 49
  interfaces := #[]
  cf := some (fileOf pool3 1 #[.nestMembers #[98]] #[{ accessFlags := 2, nameIndex := 7, descriptorIndex := 8, attributes := #[] }, { accessFlags := 9, nameIndex := 201, descriptorIndex := 52, attributes := #[] }] 49 4 #[] #[{ accessFlags := 25, nameIndex := 354, descriptorIndex := 339, attributes := #[] }, { accessFlags := 25, nameIndex := 358, descriptorIndex := 339, attributes := #[] }, { accessFlags := 25, nameIndex := 361, descriptorIndex := 339, attributes := #[] }, { accessFlags := 26, nameIndex := 364, descriptorIndex := 339, attributes := #[] }, { accessFlags := 26, nameIndex := 365, descriptorIndex := 339, attributes := #[] }, { accessFlags := 26, nameIndex := 172, descriptorIndex := 173, attributes := #[] }, { accessFlags := 26, nameIndex := 176, descriptorIndex := 173, attributes := #[] }, { accessFlags := 8, nameIndex := 344, descriptorIndex := 339, attributes := #[] }, { accessFlags := 8, nameIndex := 338, descriptorIndex := 339, attributes := #[] }, { accessFlags := 4120, nameIndex := 245, descriptorIndex := 246, attributes := #[] }])
  fields := #[{ name := "E", type := .double, accessFlags := 25, slot := 0, constantValue := 0 }, { name := "PI", type := .double, accessFlags := 25, slot := 1, constantValue := 0 }, { name := "TAU", type := .double, accessFlags := 25, slot := 2, constantValue := 0 }, { name := "DEGREES_TO_RADIANS", type := .double, accessFlags := 26, slot := 3, constantValue := 0 }, { name := "RADIANS_TO_DEGREES", type := .double, accessFlags := 26, slot := 4, constantValue := 0 }, { name := "negativeZeroFloatBits", type := .long, accessFlags := 26, slot := 5, constantValue := 0 }, { name := "negativeZeroDoubleBits", type := .long, accessFlags := 26, slot := 6, constantValue := 0 }, { name := "twoToTheDoubleScaleUp", type := .double, accessFlags := 8, slot := 7, constantValue := 0 }, { name := "twoToTheDoubleScaleDown", type := .double, accessFlags := 8, slot := 8, constantValue := 0 }, { name := "$assertionsDisabled", type := .boolean, accessFlags := 4120, slot := 9, constantValue := 0 }]
  methods := #[k3m0, k3m1]
  instanceTypes := #[]
  staticTypes := #[.double, .double, .double, .double, .double, .long, .long, .double, .double, .boolean]
  resolved := Array.replicate 460 none
  statics := none }

def pool4 : Array CpInfo := pool [(1, u "java/lang/Cloneable"), (0, .class_ 1), (0, u "java/lang/Object"), (0, .class_ 3)] 3

/-- java/lang/Cloneable -/
def k4 : Class := { plain "java/lang/Cloneable" (some 0) with
  accessFlags := 1537
  interfaces := #[]
  cf := some (fileOf pool4 2 #[] #[] 1537 4 #[] #[])
  fields := #[]
  methods := #[]
  instanceTypes := #[]
  staticTypes := #[]
  resolved := Array.replicate 8 none
  statics := none }

def pool5 : Array CpInfo := pool [(1, u "java/io/Serializable"), (0, .class_ 1), (0, u "java/lang/Object"), (0, .class_ 3)] 3

/-- java/io/Serializable -/
def k5 : Class := { plain "java/io/Serializable" (some 0) with
  accessFlags := 1537
  interfaces := #[]
  cf := some (fileOf pool5 2 #[] #[] 1537 4 #[] #[])
  fields := #[]
  methods := #[]
  instanceTypes := #[]
  staticTypes := #[]
  resolved := Array.replicate 8 none
  statics := none }

/-- the primitive byte -/
def k6 : Class := { plain "byte" none with kind := .primitive 'B', accessFlags := 0x411 }
/-- [B -/
def k7 : Class := { plain "[B" (some 0) with kind := .array 6 .byte, interfaces := #[4, 5], accessFlags := 1041 }

/-- the primitive double -/
def k8 : Class := { plain "double" none with kind := .primitive 'D', accessFlags := 0x411 }
/-- [D -/
def k9 : Class := { plain "[D" (some 0) with kind := .array 8 .double, interfaces := #[4, 5], accessFlags := 1041 }

/-- the primitive int -/
def k10 : Class := { plain "int" none with kind := .primitive 'I', accessFlags := 0x411 }
/-- [I -/
def k11 : Class := { plain "[I" (some 0) with kind := .array 10 .int, interfaces := #[4, 5], accessFlags := 1041 }

def heap : Heap := #[]
def classes : Array Class := #[k0, k1, k2, k3, k4, k5, k6, k7, k8, k9, k10, k11]
def interned : List (Array UInt16 × Addr) := []
def slotsUsed : Nat := 0
def theMethod : MethodId := ⟨1, 1⟩
def args0 : Array Value := #[.int 5, .int 5, .int 5, .int 5, .int 5, .long 5]
def aboutOver (below : List Frame) : State where
  vm := { classes := classes, interned := interned.toArray }
  heap := heap
  slotsUsed := slotsUsed
  threads := #[{ frames := .invoking theMethod args0 :: below }]
def below0 : List Frame := [.native { method := ⟨0, 0⟩, args := #[] }]
def about1 : State := aboutOver below0
def p0 : Program := .bare "" "" ""
def e0 : Env := launch0.env 0 0 0
theorem w_frames : about1.frames = Frame.invoking theMethod args0 :: below0 := rfl
set_option maxRecDepth 65536 in
theorem w_args : argsFit about1.vm theMethod args0 = true := by decide +kernel
set_option maxRecDepth 65536 in
theorem w_heap : heapFits about1 = true := by decide +kernel
set_option maxRecDepth 65536 in
theorem w_runnable : about1.curStatus? = some .runnable := by decide +kernel
set_option maxRecDepth 65536 in
theorem w_alone : about1.alone = true := by decide +kernel
set_option maxRecDepth 65536 in
theorem w_named : about1.methodNamed? x = some theMethod := by decide +kernel
set_option maxRecDepth 65536 in
theorem w_hears : about1.hears theMethod below0 = true := by decide +kernel
set_option maxRecDepth 65536 in
theorem w_ripe : about1.ripe theMethod args0 below0 = true := by decide +kernel
theorem w_running : about1.status = .running := rfl
set_option maxRecDepth 65536 in
theorem w_room : about1.hasRoom e0.platform room_1 = true :=
  launch0.hasRoom_least _ room_1 (by decide +kernel) (by decide +kernel) (by decide +kernel) (by decide +kernel) (by decide +kernel) (by decide +kernel)
theorem allAtoms_all (ts : List Jvm.Cond) (a : Array Jvm.Value) (st : Jvm.State) : (allAtoms ts).before a st = ts.all (fun c => c.before a st) := by
  induction ts with
  | nil => rfl
  | cons c t ih =>
    show (Jvm.Cond.and c (allAtoms t)).before a st = _
    rw [Jvm.Cond.before_and, ih, List.all_cons]
def words1 : List Jvm.Cond := Jvm.Cond.code x code maxLocals ret :: tables_1
/-- a 'code' word, met by the world's own term for the bytes: nothing is compared byte by byte -/
theorem code_word {y : MethodName} {bytes : ByteArray} {mx : Nat} {rt : Option FieldType} {a : Array Value} {s : State} {m : MethodId} {meth : Method} {c : Code} (h1 : s.methodNamed? y = some m) (h2 : s.vm.method? m = some meth) (h3 : meth.code = some c) (h4 : c.code = bytes)
    (h5 : (c.maxLocals == mx && c.exceptionTable.isEmpty && decide (c.maxStack ≤ mostOperands) && decide (meth.sig.returnType = rt) && !meth.locks && decide (parseMethodDescriptor y.desc = some meth.sig)) = true) : (Jvm.Cond.code y bytes mx rt).before a s = true := by
  simp only [Bool.and_eq_true, beq_iff_eq, Bool.not_eq_true', decide_eq_true_eq] at h5
  obtain ⟨⟨⟨⟨⟨g1, g2⟩, g3⟩, g4⟩, g5⟩, g6⟩ := h5
  simp [Cond.before, Cond.holds, Cond.value, h1, h2, h3, h4, g1, g2, g3, g4, g5, g6]
def isCode : Jvm.Cond → Bool
  | .code _ _ _ _ => true
  | _ => false
theorem all_split {L : List Jvm.Cond} {P : Jvm.Cond → Bool} (h1 : L.all (fun c => isCode c || P c) = true) (h2 : ∀ c ∈ L.filter isCode, P c = true) : L.all P = true := by
  refine List.all_eq_true.mpr fun c hc => ?_
  have h := List.all_eq_true.mp h1 c hc
  rcases Bool.eq_false_or_eq_true (isCode c) with hi | hi
  · exact h2 c (List.mem_filter.mpr ⟨hc, hi⟩)
  · simpa [hi] using h
set_option maxRecDepth 65536 in
theorem w_c0 : (Jvm.Cond.code x code maxLocals ret).before args0 about1 = true := code_word (m := ⟨1, 1⟩) (meth := k1m1) (c := k1c1) (by decide +kernel) rfl rfl rfl (by decide +kernel)
set_option maxRecDepth 65536 in
theorem w_c1 : (Jvm.Cond.code ({ cls := "org/wayfold/search/Steps", name := "<init>", desc := "()V" } : Jvm.MethodName) prog_104_method_1_code (1 : Nat) (Option.none : Option Jvm.ClassFile.FieldType)).before args0 about1 = true := code_word (m := ⟨2, 0⟩) (meth := k2m0) (c := k2c0) (by decide +kernel) rfl rfl rfl (by decide +kernel)
set_option maxRecDepth 65536 in
theorem w_c2 : (Jvm.Cond.code ({ cls := "java/lang/Object", name := "<init>", desc := "()V" } : Jvm.MethodName) object_method_1_code (1 : Nat) (Option.none : Option Jvm.ClassFile.FieldType)).before args0 about1 = true := code_word (m := ⟨0, 0⟩) (meth := k0m0) (c := k0c0) (by decide +kernel) rfl rfl rfl (by decide +kernel)
set_option maxRecDepth 65536 in
theorem w_c3 : (Jvm.Cond.code ({ cls := "org/wayfold/search/Steps", name := "arcsRead", desc := "(J)V" } : Jvm.MethodName) prog_104_method_6_code (3 : Nat) (Option.none : Option Jvm.ClassFile.FieldType)).before args0 about1 = true := code_word (m := ⟨2, 5⟩) (meth := k2m5) (c := k2c5) (by decide +kernel) rfl rfl rfl (by decide +kernel)
set_option maxRecDepth 65536 in
theorem w_c4 : (Jvm.Cond.code ({ cls := "org/wayfold/search/Steps", name := "clear", desc := "()V" } : Jvm.MethodName) prog_104_method_7_code (2 : Nat) (Option.none : Option Jvm.ClassFile.FieldType)).before args0 about1 = true := code_word (m := ⟨2, 6⟩) (meth := k2m6) (c := k2c6) (by decide +kernel) rfl rfl rfl (by decide +kernel)
set_option maxRecDepth 65536 in
theorem w_c5 : (Jvm.Cond.code ({ cls := "org/wayfold/search/Steps", name := "size", desc := "()I" } : Jvm.MethodName) prog_104_method_2_code (1 : Nat) (Option.some Jvm.ClassFile.FieldType.int)).before args0 about1 = true := code_word (m := ⟨2, 1⟩) (meth := k2m1) (c := k2c1) (by decide +kernel) rfl rfl rfl (by decide +kernel)
set_option maxRecDepth 65536 in
theorem w_c6 : (Jvm.Cond.code ({ cls := "org/wayfold/search/Steps", name := "arcsRead", desc := "()J" } : Jvm.MethodName) prog_104_method_5_code (1 : Nat) (Option.some Jvm.ClassFile.FieldType.long)).before args0 about1 = true := code_word (m := ⟨2, 4⟩) (meth := k2m4) (c := k2c4) (by decide +kernel) rfl rfl rfl (by decide +kernel)
set_option maxRecDepth 65536 in
theorem w_c7 : (Jvm.Cond.code ({ cls := "org/wayfold/search/Steps", name := "merge", desc := "(ID)V" } : Jvm.MethodName) prog_104_method_8_code (7 : Nat) (Option.none : Option Jvm.ClassFile.FieldType)).before args0 about1 = true := code_word (m := ⟨2, 7⟩) (meth := k2m7) (c := k2c7) (by decide +kernel) rfl rfl rfl (by decide +kernel)
set_option maxRecDepth 65536 in
theorem w_c8 : (Jvm.Cond.code ({ cls := "org/wayfold/search/Steps", name := "vertex", desc := "(I)I" } : Jvm.MethodName) prog_104_method_3_code (2 : Nat) (Option.some Jvm.ClassFile.FieldType.int)).before args0 about1 = true := code_word (m := ⟨2, 2⟩) (meth := k2m2) (c := k2c2) (by decide +kernel) rfl rfl rfl (by decide +kernel)
set_option maxRecDepth 65536 in
theorem w_c9 : (Jvm.Cond.code ({ cls := "org/wayfold/search/Steps", name := "cost", desc := "(I)D" } : Jvm.MethodName) prog_104_method_4_code (2 : Nat) (Option.some Jvm.ClassFile.FieldType.double)).before args0 about1 = true := code_word (m := ⟨2, 3⟩) (meth := k2m3) (c := k2c3) (by decide +kernel) rfl rfl rfl (by decide +kernel)
set_option maxRecDepth 65536 in
theorem w_c10 : (Jvm.Cond.code ({ cls := "org/wayfold/search/Steps", name := "find", desc := "(I)I" } : Jvm.MethodName) prog_104_method_11_code (4 : Nat) (Option.some Jvm.ClassFile.FieldType.int)).before args0 about1 = true := code_word (m := ⟨2, 8⟩) (meth := k2m8) (c := k2c8) (by decide +kernel) rfl rfl rfl (by decide +kernel)
set_option maxRecDepth 65536 in
theorem w_c11 : (Jvm.Cond.code ({ cls := "java/lang/Math", name := "min", desc := "(DD)D" } : Jvm.MethodName) jdk_29_method_72_code (4 : Nat) (Option.some Jvm.ClassFile.FieldType.double)).before args0 about1 = true := code_word (m := ⟨3, 1⟩) (meth := k3m1) (c := k3c1) (by decide +kernel) rfl rfl rfl (by decide +kernel)
def codes1 : List Jvm.Cond := [Jvm.Cond.code x code maxLocals ret, Jvm.Cond.code ({ cls := "org/wayfold/search/Steps", name := "<init>", desc := "()V" } : Jvm.MethodName) prog_104_method_1_code (1 : Nat) (Option.none : Option Jvm.ClassFile.FieldType), Jvm.Cond.code ({ cls := "java/lang/Object", name := "<init>", desc := "()V" } : Jvm.MethodName) object_method_1_code (1 : Nat) (Option.none : Option Jvm.ClassFile.FieldType), Jvm.Cond.code ({ cls := "org/wayfold/search/Steps", name := "arcsRead", desc := "(J)V" } : Jvm.MethodName) prog_104_method_6_code (3 : Nat) (Option.none : Option Jvm.ClassFile.FieldType), Jvm.Cond.code ({ cls := "org/wayfold/search/Steps", name := "clear", desc := "()V" } : Jvm.MethodName) prog_104_method_7_code (2 : Nat) (Option.none : Option Jvm.ClassFile.FieldType), Jvm.Cond.code ({ cls := "org/wayfold/search/Steps", name := "size", desc := "()I" } : Jvm.MethodName) prog_104_method_2_code (1 : Nat) (Option.some Jvm.ClassFile.FieldType.int), Jvm.Cond.code ({ cls := "org/wayfold/search/Steps", name := "arcsRead", desc := "()J" } : Jvm.MethodName) prog_104_method_5_code (1 : Nat) (Option.some Jvm.ClassFile.FieldType.long), Jvm.Cond.code ({ cls := "org/wayfold/search/Steps", name := "merge", desc := "(ID)V" } : Jvm.MethodName) prog_104_method_8_code (7 : Nat) (Option.none : Option Jvm.ClassFile.FieldType), Jvm.Cond.code ({ cls := "org/wayfold/search/Steps", name := "vertex", desc := "(I)I" } : Jvm.MethodName) prog_104_method_3_code (2 : Nat) (Option.some Jvm.ClassFile.FieldType.int), Jvm.Cond.code ({ cls := "org/wayfold/search/Steps", name := "cost", desc := "(I)D" } : Jvm.MethodName) prog_104_method_4_code (2 : Nat) (Option.some Jvm.ClassFile.FieldType.double), Jvm.Cond.code ({ cls := "org/wayfold/search/Steps", name := "find", desc := "(I)I" } : Jvm.MethodName) prog_104_method_11_code (4 : Nat) (Option.some Jvm.ClassFile.FieldType.int), Jvm.Cond.code ({ cls := "java/lang/Math", name := "min", desc := "(DD)D" } : Jvm.MethodName) jdk_29_method_72_code (4 : Nat) (Option.some Jvm.ClassFile.FieldType.double)]
set_option maxRecDepth 65536 in
theorem codes_eq : words1.filter isCode = codes1 := rfl
theorem w_codes : ∀ c ∈ words1.filter isCode, c.before args0 about1 = true := by
  rw [codes_eq]
  intro c hc
  simp only [codes1, List.mem_cons, List.not_mem_nil, or_false] at hc
  rcases hc with rfl | rfl | rfl | rfl | rfl | rfl | rfl | rfl | rfl | rfl | rfl | rfl
  · exact w_c0
  · exact w_c1
  · exact w_c2
  · exact w_c3
  · exact w_c4
  · exact w_c5
  · exact w_c6
  · exact w_c7
  · exact w_c8
  · exact w_c9
  · exact w_c10
  · exact w_c11
set_option maxRecDepth 65536 in
theorem w_t1 : (words1.take 24).all (fun c => isCode c || c.before args0 about1) = true := by decide +kernel
set_option maxRecDepth 65536 in
theorem w_t2 : ((words1.drop 24).take 24).all (fun c => isCode c || c.before args0 about1) = true := by decide +kernel
set_option maxRecDepth 65536 in
theorem w_t3 : (((words1.drop 24).drop 24).take 24).all (fun c => isCode c || c.before args0 about1) = true := by decide +kernel
set_option maxRecDepth 65536 in
theorem w_t4 : (((words1.drop 24).drop 24).drop 24).all (fun c => isCode c || c.before args0 about1) = true := by decide +kernel
theorem w_tables : (allAtoms (Jvm.Cond.code x code maxLocals ret :: tables_1)).before args0 about1 = true := by
  rw [allAtoms_all]
  show words1.all (fun c => c.before args0 about1) = true
  refine all_split ?_ w_codes
  rw [← List.take_append_drop 24 words1, List.all_append, w_t1, ← List.take_append_drop 24 (words1.drop 24), List.all_append, w_t2, ← List.take_append_drop 24 ((words1.drop 24).drop 24), List.all_append, w_t3, w_t4]
  rfl
set_option maxRecDepth 65536 in
theorem w_case : (Jvm.Cond.and given_1 narrow_1).before args0 about1 = true := by decide +kernel
theorem w_applies : (headSpec (Jvm.Cond.code x code maxLocals ret :: tables_1) room_1).applies x e0.platform about1 = true :=
  (Spec.applies_iff w_frames).mpr ⟨w_running, w_runnable, w_alone, w_named, w_hears, w_ripe, w_room, w_tables⟩
theorem atStart : AtStart classFile x code maxLocals ret World_1 tables_1 room_1 Calls_1 rest_1 Pre_1 launch0 p0 e0 about1 theMethod args0 below0 :=
  ⟨lists_1, trivial, launch0.admits_env _ _ _, launch0.least_env, fairChoices_fair.cas, fairChoices_fair.clock, w_frames, w_args, w_heap, w_applies, trivial, trivial, w_case⟩
end start1
theorem witness_1 : WitnessClaimed_1 := ⟨start1.p0, start1.e0, start1.about1, start1.theMethod, start1.args0, start1.below0, start1.atStart⟩
end Jvm.Pilot.@@N@@
