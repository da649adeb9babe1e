import JvmDerived
import JvmDerived.Pilot.@@N@@Statement
import JvmDerived.Pilot.@@N@@Code
set_option linter.unusedVariables false
set_option linter.unusedSimpArgs false
namespace Jvm.RoadKit
open Sem ClassFile Op Lib Jvm.Stand Jvm.Free Jvm.LawKit
section New
variable {p : Program} {l : Launch} {e : Env} {R : Room} {s : State} {m : MethodId} {args : Array Value} {below : List Frame} {meth : Method} {c : Code} {T : State} {locs : List Loc} {cells slots : Nat}
theorem retI (X : Stand p l e R s m args below meth c T locs cells slots) (hx : p.tables.exec = Jvm.exec) {pc : Nat} {Ls : Array Slot} {z : Int32} {rest : List Value} (hret : meth.sig.returnType = some .int) (hd : decode c.code pc = .ok (.ireturn, 1)) {fs : List Frame}
    (hl : ∀ (f : JFrame) (acts : List Action), f.method = m → f.locked = none → f.entered = [] → (doReturn e (T.setTop f) acts (some (.int z))).1 = T.setFrames fs) : Steps p.tables e below (T.setTop (mkF m pc Ls (.int z :: rest))) (T.setFrames fs) := by
  have hm' : T.vm.method? m = some meth := X.method'
  have hn : narrow .int (.int z) = .int z := rfl
  show Steps p.tables e below (T.setTop { method := m, pc := pc, locals := Ls, stack := _ :: rest, locked := none }) _
  jvm_step X.here [X.here.top, hx, hd, hm', hret, hn]
  first | (intro acts; rw [hl _ acts rfl rfl rfl]) | rw [hl _ _ rfl rfl rfl]
  exact Steps.refl _
end New
end Jvm.RoadKit
namespace Jvm.Pilot.@@N@@
open Jvm Jvm.ClassFile Sem Op Lib Jvm.Free Jvm.Stand Jvm.LawKit Jvm.RoadKit Bundle Jvm.Pilot.@@N@@.Jvm.D
theorem pn_0 : plainName "org/wayfold/generate/RandomSource" = true := by first | (simp [plainName, overriddenIn]; done) | decide +kernel
theorem pn_1 : plainName "org/wayfold/generate/RandomSourceNextPinLaw" = true := by first | (simp [plainName, overriddenIn]; done) | decide +kernel
theorem pd_0 : parseMethodDescriptor "(J)V" = some ⟨[.long], none⟩ := by decide +kernel
theorem pd_1 : parseMethodDescriptor "()J" = some ⟨[], some .long⟩ := by decide +kernel
def own_xs (k : Int32) (x : Int64) : Int64 := x ^^^ (((x).toUInt64 >>> (k &&& 0x3f).toInt64.toUInt64).toInt64)
def own_fin (x : Int64) : Int64 := own_xs 31 ((own_xs 27 ((own_xs 30 x) * (-4658895280553007687 : Int64))) * (-7723592293110705685 : Int64))
theorem own_xsB (k : Nat) (hk : 0 < k) (x y : BitVec 64) (h : x ^^^ (x >>> k) = y ^^^ (y >>> k)) : x = y := by
  have key : ∀ n i, 64 ≤ i + n → x.getLsbD i = y.getLsbD i := by
    intro n
    induction n with
    | zero => intro i hi; rw [BitVec.getLsbD_of_ge _ _ (by omega), BitVec.getLsbD_of_ge _ _ (by omega)]
    | succ n ih =>
      intro i hi
      have h1 := congrArg (fun z => BitVec.getLsbD z i) h
      simp only [BitVec.getLsbD_xor, BitVec.getLsbD_ushiftRight] at h1
      rw [ih (k + i) (by omega)] at h1
      revert h1
      cases x.getLsbD i <;> cases y.getLsbD i <;> cases y.getLsbD (k + i) <;> simp
  exact BitVec.eq_of_getLsbD_eq (fun i hi => key 64 i (by omega))
theorem own_xs_bv (q : Int32) (k : Nat) (hk : (q &&& 0x3f).toInt64.toUInt64.toBitVec % 64 = BitVec.ofNat 64 k) (h64 : k < 64) (x : Int64) : (own_xs q x).toBitVec = x.toBitVec ^^^ (x.toBitVec >>> k) := by
  have e : (((x).toUInt64 >>> (q &&& 0x3f).toInt64.toUInt64).toInt64).toBitVec = x.toBitVec >>> ((q &&& 0x3f).toInt64.toUInt64.toBitVec % 64) := rfl
  unfold own_xs
  rw [Int64.toBitVec_xor, e, hk]
  congr 1
  show x.toBitVec >>> (BitVec.ofNat 64 k).toNat = _
  rw [BitVec.toNat_ofNat, Nat.mod_eq_of_lt (by omega)]
theorem own_xs_inj (q : Int32) (k : Nat) (hk : (q &&& 0x3f).toInt64.toUInt64.toBitVec % 64 = BitVec.ofNat 64 k) (h0 : 0 < k) (h64 : k < 64) {x y : Int64} (h : own_xs q x = own_xs q y) : x = y := by
  have h' := congrArg Int64.toBitVec h
  rw [own_xs_bv q k hk h64, own_xs_bv q k hk h64] at h'
  exact Int64.toBitVec_inj.mp (own_xsB k h0 _ _ h')
theorem own_mul_inj (A B : Int64) (hAB : A * B = 1) {x y : Int64} (h : x * A = y * A) : x = y := by
  have h' := congrArg (· * B) h
  simpa [Int64.mul_assoc, hAB] using h'
theorem own_fin_inj {x y : Int64} (h : own_fin x = own_fin y) : x = y := by
  unfold own_fin at h
  have h1 := own_xs_inj 31 31 (by decide) (by decide) (by decide) h
  have h2 := own_mul_inj (-7723592293110705685) (3573116690164977347) (by decide) h1
  have h3 := own_xs_inj 27 27 (by decide) (by decide) (by decide) h2
  have h4 := own_mul_inj (-4658895280553007687) (-7575587736534282103) (by decide) h3
  exact own_xs_inj 30 30 (by decide) (by decide) (by decide) h4
theorem d1_0 : decode prog_31_method_1_code 0 = .ok (.aload_n 0, 1) := by decide +kernel
theorem d1_1 : decode prog_31_method_1_code 1 = .ok (.invokespecial 1, 3) := by decide +kernel
theorem d1_4 : decode prog_31_method_1_code 4 = .ok (.aload_n 0, 1) := by decide +kernel
theorem d1_5 : decode prog_31_method_1_code 5 = .ok (.lload_n 1, 1) := by decide +kernel
theorem d1_6 : decode prog_31_method_1_code 6 = .ok (.putfield 7, 3) := by decide +kernel
theorem d1_9 : decode prog_31_method_1_code 9 = .ok (.return_, 1) := by decide +kernel
theorem ef_1 (m : MethodId) (x0 : Addr) (x1 : Int64) : entryFrame m #[(.ref x0), (.long x1)] 3 = (mkF m 0 #[.val (.ref x0), .val (.long x1), .second] []) := by first | (simp [entryFrame, mkF, argsToLocals, Value.category]; done) | rfl
def Q1 (Z : State) (a : Addr) (v : Int64) (u : Int64) (h0 : Heap) (n0 : Nat) (vX : Option Value) (hX : Heap) (lX : List Loc) : Prop := vX = none ∧ Fr n0 lX ∧ (Keep h0 hX [a]) ∧ (Fld Z hX a "org/wayfold/generate/RandomSource" "state" "J" (.long v))
set_option maxRecDepth 65536 in
set_option maxHeartbeats 40000000 in
theorem rm1 (l : Launch) (Z : State) (a0 : Array Value) (hw : ∀ d ∈ tables_1, d.before a0 Z = true) (ws : List Jvm.Cond) (a : Addr) (v : Int64) (u : Int64) (h0 : Heap) (n0 : Nat) (Z0 : n0 ≤ h0.size) (pr0 : Exa Z h0 a "org/wayfold/generate/RandomSource") (pr1 : Fld Z h0 a "org/wayfold/generate/RandomSource" "state" "J" (.long u)) (pr2 : n0 ≤ a) :
    MetFree l (⟨"org/wayfold/generate/RandomSource", "<init>", "(J)V"⟩ : MethodName) (head1 (Jvm.Cond.code (⟨"org/wayfold/generate/RandomSource", "<init>", "(J)V"⟩ : MethodName) prog_31_method_1_code 3 none :: ws) ({ frames := 1, cells := 0, slots := 0, locals := 12 } : Room)) (fun aX uX => aX = #[(.ref a), (.long v)] ∧ Z.Warmed39 uX.vm ∧ uX.heap = h0) (fun _ _ _ _ _ => True) (fun _ uX oX wX => ∃ vX lX, oX = .returned vX ∧ Q1 Z a v u h0 n0 vX wX.heap lX ∧ FrameEnd uX oX wX lX ({ frames := 1, cells := 0, slots := 0, locals := 12 } : Room).cells ({ frames := 1, cells := 0, slots := 0, locals := 12 } : Room).slots) := by
  refine MetFree.of_bodySF (plainFor_of_name pn_0) hisR ?_
  intro p e s m args below meth c s₁ Bd hml0 hP hK
  obtain ⟨rfl, hZ, hh⟩ := hP
  have hx := Bd.exec
  have hby := Bd.bytes
  have hml : c.maxLocals = 3 := hml0
  have hown : s.vm.findClass "org/wayfold/generate/RandomSource" = some m.cls := findClass_of_methodNamed Bd.named
  have hnm := (name_of_methodNamed Bd.named Bd.method).1
  have X0 : Stand p l e ({ frames := 1, cells := 0, slots := 0, locals := 12 } : Room) s m #[(.ref a), (.long v)] below meth c s₁ [] 0 0 := Stand.of_body Bd
  have e0 : s₁.heap = h0 := by rw [← hh, Bd.state]; rfl
  have N0 := Fr.nil n0
  have pre0 : ∀ t, Steps p.tables e below (s₁.setTop (mkF m 0 #[.val (.ref a), .val (.long v), .second] [])) t → Steps p.tables e below (s₁.setTop (entryFrame m #[(.ref a), (.long v)] 3)) t := fun t k => castTop (ef_1 m a v) k
  obtain ⟨T1, X1, e1, st1⟩ := initO X0 hx hZ hown (hw _ (List.mem_of_getElem? (i := 6) rfl)) (hw _ (List.mem_of_getElem? (i := 7) rfl)) (hw _ (List.mem_of_getElem? (i := 8) rfl)) e0 (g := (mkF m 1 #[.val (.ref a), .val (.long v), .second] [(.ref a)])) rfl (by rw [hml]; rfl) rfl (hb hby d1_1) (by decide) (W := 0) (by show 2 * 0 + _ ≤ _; exact Nat.le_of_eq rfl) (by decide)
  obtain ⟨T2, h2, X2, e2, W2, st2⟩ := putF X1 hx hZ hown (host := "") (Or.inl (hw _ (List.mem_of_getElem? (i := 9) rfl))) Via.refl e1 pr1 pr0 (Or.inl (hw _ (List.mem_of_getElem? (i := 10) rfl))) (hw _ (List.mem_of_getElem? (i := 1) rfl)) (ty := .long) (by decide) rfl rfl (g := (mkF m 6 #[.val (.ref a), .val (.long v), .second] [(.long v), (.ref a)])) rfl rfl (hb hby d1_6)
  have N2 := Fr.snoc X2 N0 pr2
  have Fw2 := Fld.same W2 pr1
  have P3 : ∀ t, Steps p.tables e below (T2.setTop (mkF m 9 #[.val (.ref a), .val (.long v), .second] [])) t → Steps p.tables e below (s₁.setTop (entryFrame m #[(.ref a), (.long v)] 3)) t := by
    intro t kk
    refine pre0 _ ?_
    show Steps p.tables e below (s₁.setTop (mkF m 0 #[.val (.ref a), .val (.long v), .second] [])) _
    refine XS.aloadN X0.here hx rfl (hb hby d1_0) rfl rfl ?_
    show Steps p.tables e below (s₁.setTop (mkF m 1 #[.val (.ref a), .val (.long v), .second] [(.ref a)])) _
    refine st1 _ ?_
    show Steps p.tables e below (T1.setTop (mkF m 4 #[.val (.ref a), .val (.long v), .second] [])) _
    refine XS.aloadN X1.here hx rfl (hb hby d1_4) rfl rfl ?_
    show Steps p.tables e below (T1.setTop (mkF m 5 #[.val (.ref a), .val (.long v), .second] [(.ref a)])) _
    refine XS.lloadN X1.here hx rfl (hb hby d1_5) rfl ?_
    show Steps p.tables e below (T1.setTop (mkF m 6 #[.val (.ref a), .val (.long v), .second] [(.long v), (.ref a)])) _
    refine st2 _ ?_
    show Steps p.tables e below (T2.setTop (mkF m 9 #[.val (.ref a), .val (.long v), .second] [])) _
    exact kk
  have k4 : Keep h0 h2 [a] := (Keep.wr (Keep.refl h0 [a]) W2 (Or.inl (List.mem_of_getElem? (i := 0) rfl)))
  obtain ⟨fs, hr, hrun, hended, hW, hsame⟩ := X2.leave (v := none) (fun _ => rfl)
  refine ⟨_, _, P3 _ ?_, hrun, hended, _, _, rfl, ?_, ⟨_, rfl⟩, hW, hsame.mono (by decide) (by decide)⟩
  · exact X2.returnOut hx Bd.returns (hb hby d1_9) hr
  · show Q1 Z a v u h0 n0 _ T2.heap _
    rw [e2]
    exact ⟨rfl, N2, k4, Fw2⟩
theorem d2_0 : decode prog_31_method_2_code 0 = .ok (.aload_n 0, 1) := by decide +kernel
theorem d2_1 : decode prog_31_method_2_code 1 = .ok (.dup, 1) := by decide +kernel
theorem d2_2 : decode prog_31_method_2_code 2 = .ok (.getfield 7, 3) := by decide +kernel
theorem d2_5 : decode prog_31_method_2_code 5 = .ok (.ldc2_w 13, 3) := by decide +kernel
theorem d2_8 : decode prog_31_method_2_code 8 = .ok (.ladd, 1) := by decide +kernel
theorem d2_9 : decode prog_31_method_2_code 9 = .ok (.putfield 7, 3) := by decide +kernel
theorem d2_12 : decode prog_31_method_2_code 12 = .ok (.aload_n 0, 1) := by decide +kernel
theorem d2_13 : decode prog_31_method_2_code 13 = .ok (.getfield 7, 3) := by decide +kernel
theorem d2_16 : decode prog_31_method_2_code 16 = .ok (.lstore_n 1, 1) := by decide +kernel
theorem d2_17 : decode prog_31_method_2_code 17 = .ok (.lload_n 1, 1) := by decide +kernel
theorem d2_18 : decode prog_31_method_2_code 18 = .ok (.lload_n 1, 1) := by decide +kernel
theorem d2_19 : decode prog_31_method_2_code 19 = .ok (.bipush 30, 2) := by decide +kernel
theorem d2_21 : decode prog_31_method_2_code 21 = .ok (.lushr, 1) := by decide +kernel
theorem d2_22 : decode prog_31_method_2_code 22 = .ok (.lxor, 1) := by decide +kernel
theorem d2_23 : decode prog_31_method_2_code 23 = .ok (.ldc2_w 15, 3) := by decide +kernel
theorem d2_26 : decode prog_31_method_2_code 26 = .ok (.lmul, 1) := by decide +kernel
theorem d2_27 : decode prog_31_method_2_code 27 = .ok (.lstore_n 1, 1) := by decide +kernel
theorem d2_28 : decode prog_31_method_2_code 28 = .ok (.lload_n 1, 1) := by decide +kernel
theorem d2_29 : decode prog_31_method_2_code 29 = .ok (.lload_n 1, 1) := by decide +kernel
theorem d2_30 : decode prog_31_method_2_code 30 = .ok (.bipush 27, 2) := by decide +kernel
theorem d2_32 : decode prog_31_method_2_code 32 = .ok (.lushr, 1) := by decide +kernel
theorem d2_33 : decode prog_31_method_2_code 33 = .ok (.lxor, 1) := by decide +kernel
theorem d2_34 : decode prog_31_method_2_code 34 = .ok (.ldc2_w 17, 3) := by decide +kernel
theorem d2_37 : decode prog_31_method_2_code 37 = .ok (.lmul, 1) := by decide +kernel
theorem d2_38 : decode prog_31_method_2_code 38 = .ok (.lstore_n 1, 1) := by decide +kernel
theorem d2_39 : decode prog_31_method_2_code 39 = .ok (.lload_n 1, 1) := by decide +kernel
theorem d2_40 : decode prog_31_method_2_code 40 = .ok (.lload_n 1, 1) := by decide +kernel
theorem d2_41 : decode prog_31_method_2_code 41 = .ok (.bipush 31, 2) := by decide +kernel
theorem d2_43 : decode prog_31_method_2_code 43 = .ok (.lushr, 1) := by decide +kernel
theorem d2_44 : decode prog_31_method_2_code 44 = .ok (.lxor, 1) := by decide +kernel
theorem d2_45 : decode prog_31_method_2_code 45 = .ok (.lreturn, 1) := by decide +kernel
theorem ef_2 (m : MethodId) (x0 : Addr) : entryFrame m #[(.ref x0)] 3 = (mkF m 0 #[.val (.ref x0), .unset, .unset] []) := by first | (simp [entryFrame, mkF, argsToLocals, Value.category]; done) | rfl
def F2 (u : Int64) : Int64 := ((((((u + (-7046029254386353131 : Int64)) ^^^ ((((u + (-7046029254386353131 : Int64))).toUInt64 >>> ((30 : Int32) &&& 0x3f).toInt64.toUInt64).toInt64)) * (-4658895280553007687 : Int64)) ^^^ ((((((u + (-7046029254386353131 : Int64)) ^^^ ((((u + (-7046029254386353131 : Int64))).toUInt64 >>> ((30 : Int32) &&& 0x3f).toInt64.toUInt64).toInt64)) * (-4658895280553007687 : Int64))).toUInt64 >>> ((27 : Int32) &&& 0x3f).toInt64.toUInt64).toInt64)) * (-7723592293110705685 : Int64)) ^^^ ((((((((u + (-7046029254386353131 : Int64)) ^^^ ((((u + (-7046029254386353131 : Int64))).toUInt64 >>> ((30 : Int32) &&& 0x3f).toInt64.toUInt64).toInt64)) * (-4658895280553007687 : Int64)) ^^^ ((((((u + (-7046029254386353131 : Int64)) ^^^ ((((u + (-7046029254386353131 : Int64))).toUInt64 >>> ((30 : Int32) &&& 0x3f).toInt64.toUInt64).toInt64)) * (-4658895280553007687 : Int64))).toUInt64 >>> ((27 : Int32) &&& 0x3f).toInt64.toUInt64).toInt64)) * (-7723592293110705685 : Int64))).toUInt64 >>> ((31 : Int32) &&& 0x3f).toInt64.toUInt64).toInt64))
def Q2 (Z : State) (a : Addr) (u : Int64) (h0 : Heap) (n0 : Nat) (vX : Option Value) (hX : Heap) (lX : List Loc) : Prop := vX = some (.long (F2 u)) ∧ Fr n0 lX ∧ (Keep h0 hX [a]) ∧ (Fld Z hX a "org/wayfold/generate/RandomSource" "state" "J" (.long (u + (-7046029254386353131 : Int64))))
set_option maxRecDepth 65536 in
set_option maxHeartbeats 40000000 in
theorem rm2 (l : Launch) (Z : State) (a0 : Array Value) (hw : ∀ d ∈ tables_1, d.before a0 Z = true) (ws : List Jvm.Cond) (a : Addr) (u : Int64) (h0 : Heap) (n0 : Nat) (Z0 : n0 ≤ h0.size) (pr0 : Exa Z h0 a "org/wayfold/generate/RandomSource") (pr1 : Fld Z h0 a "org/wayfold/generate/RandomSource" "state" "J" (.long u)) (pr2 : n0 ≤ a) :
    MetFree l (⟨"org/wayfold/generate/RandomSource", "next", "()J"⟩ : MethodName) (head1 (Jvm.Cond.code (⟨"org/wayfold/generate/RandomSource", "next", "()J"⟩ : MethodName) prog_31_method_2_code 3 (some .long) :: ws) ({ frames := 0, cells := 0, slots := 0, locals := 0 } : Room)) (fun aX uX => aX = #[(.ref a)] ∧ Z.Warmed39 uX.vm ∧ uX.heap = h0) (fun _ _ _ _ _ => True) (fun _ uX oX wX => ∃ vX lX, oX = .returned vX ∧ Q2 Z a u h0 n0 vX wX.heap lX ∧ FrameEnd uX oX wX lX ({ frames := 0, cells := 0, slots := 0, locals := 0 } : Room).cells ({ frames := 0, cells := 0, slots := 0, locals := 0 } : Room).slots) := by
  refine MetFree.of_bodySF (plainFor_of_name pn_0) hisR ?_
  intro p e s m args below meth c s₁ Bd hml0 hP hK
  obtain ⟨rfl, hZ, hh⟩ := hP
  have hx := Bd.exec
  have hby := Bd.bytes
  have hml : c.maxLocals = 3 := hml0
  have hown : s.vm.findClass "org/wayfold/generate/RandomSource" = some m.cls := findClass_of_methodNamed Bd.named
  have hnm := (name_of_methodNamed Bd.named Bd.method).1
  have X0 : Stand p l e ({ frames := 0, cells := 0, slots := 0, locals := 0 } : Room) s m #[(.ref a)] below meth c s₁ [] 0 0 := Stand.of_body Bd
  have e0 : s₁.heap = h0 := by rw [← hh, Bd.state]; rfl
  have N0 := Fr.nil n0
  have pre0 : ∀ t, Steps p.tables e below (s₁.setTop (mkF m 0 #[.val (.ref a), .unset, .unset] [])) t → Steps p.tables e below (s₁.setTop (entryFrame m #[(.ref a)] 3)) t := fun t k => castTop (ef_2 m a) k
  obtain ⟨T1, X1, e1, st1⟩ := getF X0 hx hZ hown (host := "") (Or.inl (hw _ (List.mem_of_getElem? (i := 9) rfl))) Via.refl e0 pr1 (g := (mkF m 2 #[.val (.ref a), .unset, .unset] [(.ref a), (.ref a)])) rfl rfl (hb hby d2_2)
  obtain ⟨T2, h2, X2, e2, W2, st2⟩ := putF X1 hx hZ hown (host := "") (Or.inl (hw _ (List.mem_of_getElem? (i := 9) rfl))) Via.refl e1 pr1 pr0 (Or.inl (hw _ (List.mem_of_getElem? (i := 10) rfl))) (hw _ (List.mem_of_getElem? (i := 1) rfl)) (ty := .long) (by decide) rfl rfl (g := (mkF m 9 #[.val (.ref a), .unset, .unset] [(.long (u + (-7046029254386353131 : Int64))), (.ref a)])) rfl rfl (hb hby d2_9)
  have N2 := Fr.snoc X2 N0 pr2
  have Fw2 := Fld.same W2 pr1
  obtain ⟨T3, X3, e3, st3⟩ := getF X2 hx hZ hown (host := "") (Or.inl (hw _ (List.mem_of_getElem? (i := 9) rfl))) Via.refl e2 Fw2 (g := (mkF m 13 #[.val (.ref a), .unset, .unset] [(.ref a)])) rfl rfl (hb hby d2_13)
  have P4 : ∀ t, Steps p.tables e below (T3.setTop (mkF m 45 #[.val (.ref a), .val (.long (((((u + (-7046029254386353131 : Int64)) ^^^ ((((u + (-7046029254386353131 : Int64))).toUInt64 >>> ((30 : Int32) &&& 0x3f).toInt64.toUInt64).toInt64)) * (-4658895280553007687 : Int64)) ^^^ ((((((u + (-7046029254386353131 : Int64)) ^^^ ((((u + (-7046029254386353131 : Int64))).toUInt64 >>> ((30 : Int32) &&& 0x3f).toInt64.toUInt64).toInt64)) * (-4658895280553007687 : Int64))).toUInt64 >>> ((27 : Int32) &&& 0x3f).toInt64.toUInt64).toInt64)) * (-7723592293110705685 : Int64))), .second] [(.long ((((((u + (-7046029254386353131 : Int64)) ^^^ ((((u + (-7046029254386353131 : Int64))).toUInt64 >>> ((30 : Int32) &&& 0x3f).toInt64.toUInt64).toInt64)) * (-4658895280553007687 : Int64)) ^^^ ((((((u + (-7046029254386353131 : Int64)) ^^^ ((((u + (-7046029254386353131 : Int64))).toUInt64 >>> ((30 : Int32) &&& 0x3f).toInt64.toUInt64).toInt64)) * (-4658895280553007687 : Int64))).toUInt64 >>> ((27 : Int32) &&& 0x3f).toInt64.toUInt64).toInt64)) * (-7723592293110705685 : Int64)) ^^^ ((((((((u + (-7046029254386353131 : Int64)) ^^^ ((((u + (-7046029254386353131 : Int64))).toUInt64 >>> ((30 : Int32) &&& 0x3f).toInt64.toUInt64).toInt64)) * (-4658895280553007687 : Int64)) ^^^ ((((((u + (-7046029254386353131 : Int64)) ^^^ ((((u + (-7046029254386353131 : Int64))).toUInt64 >>> ((30 : Int32) &&& 0x3f).toInt64.toUInt64).toInt64)) * (-4658895280553007687 : Int64))).toUInt64 >>> ((27 : Int32) &&& 0x3f).toInt64.toUInt64).toInt64)) * (-7723592293110705685 : Int64))).toUInt64 >>> ((31 : Int32) &&& 0x3f).toInt64.toUInt64).toInt64)))])) t → Steps p.tables e below (s₁.setTop (entryFrame m #[(.ref a)] 3)) t := by
    intro t kk
    refine pre0 _ ?_
    show Steps p.tables e below (s₁.setTop (mkF m 0 #[.val (.ref a), .unset, .unset] [])) _
    refine XS.aloadN X0.here hx rfl (hb hby d2_0) rfl rfl ?_
    show Steps p.tables e below (s₁.setTop (mkF m 1 #[.val (.ref a), .unset, .unset] [(.ref a)])) _
    refine XS.dup X0.here hx rfl (hb hby d2_1) rfl rfl ?_
    show Steps p.tables e below (s₁.setTop (mkF m 2 #[.val (.ref a), .unset, .unset] [(.ref a), (.ref a)])) _
    refine st1 _ ?_
    show Steps p.tables e below (T1.setTop (mkF m 5 #[.val (.ref a), .unset, .unset] [(.long u), (.ref a)])) _
    refine X1.ldc2Long hx hown (mvT hZ (hw _ (List.mem_of_getElem? (i := 16) rfl))) (g := (mkF m 5 #[.val (.ref a), .unset, .unset] [(.long u), (.ref a)])) rfl (hb hby d2_5) _ ?_
    show Steps p.tables e below (T1.setTop (mkF m 8 #[.val (.ref a), .unset, .unset] [(.long (-7046029254386353131 : Int64)), (.long u), (.ref a)])) _
    refine XS.ladd X1.here hx rfl (hb hby d2_8) rfl ?_
    show Steps p.tables e below (T1.setTop (mkF m 9 #[.val (.ref a), .unset, .unset] [(.long (u + (-7046029254386353131 : Int64))), (.ref a)])) _
    refine st2 _ ?_
    show Steps p.tables e below (T2.setTop (mkF m 12 #[.val (.ref a), .unset, .unset] [])) _
    refine XS.aloadN X2.here hx rfl (hb hby d2_12) rfl rfl ?_
    show Steps p.tables e below (T2.setTop (mkF m 13 #[.val (.ref a), .unset, .unset] [(.ref a)])) _
    refine st3 _ ?_
    show Steps p.tables e below (T3.setTop (mkF m 16 #[.val (.ref a), .unset, .unset] [(.long (u + (-7046029254386353131 : Int64)))])) _
    refine XS.lstoreN X3.here hx rfl (hb hby d2_16) rfl (l' := #[.val (.ref a), .val (.long (u + (-7046029254386353131 : Int64))), .second]) rfl ?_
    show Steps p.tables e below (T3.setTop (mkF m 17 #[.val (.ref a), .val (.long (u + (-7046029254386353131 : Int64))), .second] [])) _
    refine XS.lloadN X3.here hx rfl (hb hby d2_17) rfl ?_
    show Steps p.tables e below (T3.setTop (mkF m 18 #[.val (.ref a), .val (.long (u + (-7046029254386353131 : Int64))), .second] [(.long (u + (-7046029254386353131 : Int64)))])) _
    refine XS.lloadN X3.here hx rfl (hb hby d2_18) rfl ?_
    show Steps p.tables e below (T3.setTop (mkF m 19 #[.val (.ref a), .val (.long (u + (-7046029254386353131 : Int64))), .second] [(.long (u + (-7046029254386353131 : Int64))), (.long (u + (-7046029254386353131 : Int64)))])) _
    refine XS.bipush X3.here hx rfl (hb hby d2_19) ?_
    show Steps p.tables e below (T3.setTop (mkF m 21 #[.val (.ref a), .val (.long (u + (-7046029254386353131 : Int64))), .second] [(.int (30 : Int32)), (.long (u + (-7046029254386353131 : Int64))), (.long (u + (-7046029254386353131 : Int64)))])) _
    refine XS.lushr X3.here hx rfl (hb hby d2_21) rfl ?_
    show Steps p.tables e below (T3.setTop (mkF m 22 #[.val (.ref a), .val (.long (u + (-7046029254386353131 : Int64))), .second] [(.long ((((u + (-7046029254386353131 : Int64))).toUInt64 >>> ((30 : Int32) &&& 0x3f).toInt64.toUInt64).toInt64)), (.long (u + (-7046029254386353131 : Int64)))])) _
    refine XS.lxor X3.here hx rfl (hb hby d2_22) rfl ?_
    show Steps p.tables e below (T3.setTop (mkF m 23 #[.val (.ref a), .val (.long (u + (-7046029254386353131 : Int64))), .second] [(.long ((u + (-7046029254386353131 : Int64)) ^^^ ((((u + (-7046029254386353131 : Int64))).toUInt64 >>> ((30 : Int32) &&& 0x3f).toInt64.toUInt64).toInt64)))])) _
    refine X3.ldc2Long hx hown (mvT hZ (hw _ (List.mem_of_getElem? (i := 17) rfl))) (g := (mkF m 23 #[.val (.ref a), .val (.long (u + (-7046029254386353131 : Int64))), .second] [(.long ((u + (-7046029254386353131 : Int64)) ^^^ ((((u + (-7046029254386353131 : Int64))).toUInt64 >>> ((30 : Int32) &&& 0x3f).toInt64.toUInt64).toInt64)))])) rfl (hb hby d2_23) _ ?_
    show Steps p.tables e below (T3.setTop (mkF m 26 #[.val (.ref a), .val (.long (u + (-7046029254386353131 : Int64))), .second] [(.long (-4658895280553007687 : Int64)), (.long ((u + (-7046029254386353131 : Int64)) ^^^ ((((u + (-7046029254386353131 : Int64))).toUInt64 >>> ((30 : Int32) &&& 0x3f).toInt64.toUInt64).toInt64)))])) _
    refine XS.lmul X3.here hx rfl (hb hby d2_26) rfl ?_
    show Steps p.tables e below (T3.setTop (mkF m 27 #[.val (.ref a), .val (.long (u + (-7046029254386353131 : Int64))), .second] [(.long (((u + (-7046029254386353131 : Int64)) ^^^ ((((u + (-7046029254386353131 : Int64))).toUInt64 >>> ((30 : Int32) &&& 0x3f).toInt64.toUInt64).toInt64)) * (-4658895280553007687 : Int64)))])) _
    refine XS.lstoreN X3.here hx rfl (hb hby d2_27) rfl (l' := #[.val (.ref a), .val (.long (((u + (-7046029254386353131 : Int64)) ^^^ ((((u + (-7046029254386353131 : Int64))).toUInt64 >>> ((30 : Int32) &&& 0x3f).toInt64.toUInt64).toInt64)) * (-4658895280553007687 : Int64))), .second]) rfl ?_
    show Steps p.tables e below (T3.setTop (mkF m 28 #[.val (.ref a), .val (.long (((u + (-7046029254386353131 : Int64)) ^^^ ((((u + (-7046029254386353131 : Int64))).toUInt64 >>> ((30 : Int32) &&& 0x3f).toInt64.toUInt64).toInt64)) * (-4658895280553007687 : Int64))), .second] [])) _
    refine XS.lloadN X3.here hx rfl (hb hby d2_28) rfl ?_
    show Steps p.tables e below (T3.setTop (mkF m 29 #[.val (.ref a), .val (.long (((u + (-7046029254386353131 : Int64)) ^^^ ((((u + (-7046029254386353131 : Int64))).toUInt64 >>> ((30 : Int32) &&& 0x3f).toInt64.toUInt64).toInt64)) * (-4658895280553007687 : Int64))), .second] [(.long (((u + (-7046029254386353131 : Int64)) ^^^ ((((u + (-7046029254386353131 : Int64))).toUInt64 >>> ((30 : Int32) &&& 0x3f).toInt64.toUInt64).toInt64)) * (-4658895280553007687 : Int64)))])) _
    refine XS.lloadN X3.here hx rfl (hb hby d2_29) rfl ?_
    show Steps p.tables e below (T3.setTop (mkF m 30 #[.val (.ref a), .val (.long (((u + (-7046029254386353131 : Int64)) ^^^ ((((u + (-7046029254386353131 : Int64))).toUInt64 >>> ((30 : Int32) &&& 0x3f).toInt64.toUInt64).toInt64)) * (-4658895280553007687 : Int64))), .second] [(.long (((u + (-7046029254386353131 : Int64)) ^^^ ((((u + (-7046029254386353131 : Int64))).toUInt64 >>> ((30 : Int32) &&& 0x3f).toInt64.toUInt64).toInt64)) * (-4658895280553007687 : Int64))), (.long (((u + (-7046029254386353131 : Int64)) ^^^ ((((u + (-7046029254386353131 : Int64))).toUInt64 >>> ((30 : Int32) &&& 0x3f).toInt64.toUInt64).toInt64)) * (-4658895280553007687 : Int64)))])) _
    refine XS.bipush X3.here hx rfl (hb hby d2_30) ?_
    show Steps p.tables e below (T3.setTop (mkF m 32 #[.val (.ref a), .val (.long (((u + (-7046029254386353131 : Int64)) ^^^ ((((u + (-7046029254386353131 : Int64))).toUInt64 >>> ((30 : Int32) &&& 0x3f).toInt64.toUInt64).toInt64)) * (-4658895280553007687 : Int64))), .second] [(.int (27 : Int32)), (.long (((u + (-7046029254386353131 : Int64)) ^^^ ((((u + (-7046029254386353131 : Int64))).toUInt64 >>> ((30 : Int32) &&& 0x3f).toInt64.toUInt64).toInt64)) * (-4658895280553007687 : Int64))), (.long (((u + (-7046029254386353131 : Int64)) ^^^ ((((u + (-7046029254386353131 : Int64))).toUInt64 >>> ((30 : Int32) &&& 0x3f).toInt64.toUInt64).toInt64)) * (-4658895280553007687 : Int64)))])) _
    refine XS.lushr X3.here hx rfl (hb hby d2_32) rfl ?_
    show Steps p.tables e below (T3.setTop (mkF m 33 #[.val (.ref a), .val (.long (((u + (-7046029254386353131 : Int64)) ^^^ ((((u + (-7046029254386353131 : Int64))).toUInt64 >>> ((30 : Int32) &&& 0x3f).toInt64.toUInt64).toInt64)) * (-4658895280553007687 : Int64))), .second] [(.long ((((((u + (-7046029254386353131 : Int64)) ^^^ ((((u + (-7046029254386353131 : Int64))).toUInt64 >>> ((30 : Int32) &&& 0x3f).toInt64.toUInt64).toInt64)) * (-4658895280553007687 : Int64))).toUInt64 >>> ((27 : Int32) &&& 0x3f).toInt64.toUInt64).toInt64)), (.long (((u + (-7046029254386353131 : Int64)) ^^^ ((((u + (-7046029254386353131 : Int64))).toUInt64 >>> ((30 : Int32) &&& 0x3f).toInt64.toUInt64).toInt64)) * (-4658895280553007687 : Int64)))])) _
    refine XS.lxor X3.here hx rfl (hb hby d2_33) rfl ?_
    show Steps p.tables e below (T3.setTop (mkF m 34 #[.val (.ref a), .val (.long (((u + (-7046029254386353131 : Int64)) ^^^ ((((u + (-7046029254386353131 : Int64))).toUInt64 >>> ((30 : Int32) &&& 0x3f).toInt64.toUInt64).toInt64)) * (-4658895280553007687 : Int64))), .second] [(.long ((((u + (-7046029254386353131 : Int64)) ^^^ ((((u + (-7046029254386353131 : Int64))).toUInt64 >>> ((30 : Int32) &&& 0x3f).toInt64.toUInt64).toInt64)) * (-4658895280553007687 : Int64)) ^^^ ((((((u + (-7046029254386353131 : Int64)) ^^^ ((((u + (-7046029254386353131 : Int64))).toUInt64 >>> ((30 : Int32) &&& 0x3f).toInt64.toUInt64).toInt64)) * (-4658895280553007687 : Int64))).toUInt64 >>> ((27 : Int32) &&& 0x3f).toInt64.toUInt64).toInt64)))])) _
    refine X3.ldc2Long hx hown (mvT hZ (hw _ (List.mem_of_getElem? (i := 18) rfl))) (g := (mkF m 34 #[.val (.ref a), .val (.long (((u + (-7046029254386353131 : Int64)) ^^^ ((((u + (-7046029254386353131 : Int64))).toUInt64 >>> ((30 : Int32) &&& 0x3f).toInt64.toUInt64).toInt64)) * (-4658895280553007687 : Int64))), .second] [(.long ((((u + (-7046029254386353131 : Int64)) ^^^ ((((u + (-7046029254386353131 : Int64))).toUInt64 >>> ((30 : Int32) &&& 0x3f).toInt64.toUInt64).toInt64)) * (-4658895280553007687 : Int64)) ^^^ ((((((u + (-7046029254386353131 : Int64)) ^^^ ((((u + (-7046029254386353131 : Int64))).toUInt64 >>> ((30 : Int32) &&& 0x3f).toInt64.toUInt64).toInt64)) * (-4658895280553007687 : Int64))).toUInt64 >>> ((27 : Int32) &&& 0x3f).toInt64.toUInt64).toInt64)))])) rfl (hb hby d2_34) _ ?_
    show Steps p.tables e below (T3.setTop (mkF m 37 #[.val (.ref a), .val (.long (((u + (-7046029254386353131 : Int64)) ^^^ ((((u + (-7046029254386353131 : Int64))).toUInt64 >>> ((30 : Int32) &&& 0x3f).toInt64.toUInt64).toInt64)) * (-4658895280553007687 : Int64))), .second] [(.long (-7723592293110705685 : Int64)), (.long ((((u + (-7046029254386353131 : Int64)) ^^^ ((((u + (-7046029254386353131 : Int64))).toUInt64 >>> ((30 : Int32) &&& 0x3f).toInt64.toUInt64).toInt64)) * (-4658895280553007687 : Int64)) ^^^ ((((((u + (-7046029254386353131 : Int64)) ^^^ ((((u + (-7046029254386353131 : Int64))).toUInt64 >>> ((30 : Int32) &&& 0x3f).toInt64.toUInt64).toInt64)) * (-4658895280553007687 : Int64))).toUInt64 >>> ((27 : Int32) &&& 0x3f).toInt64.toUInt64).toInt64)))])) _
    refine XS.lmul X3.here hx rfl (hb hby d2_37) rfl ?_
    show Steps p.tables e below (T3.setTop (mkF m 38 #[.val (.ref a), .val (.long (((u + (-7046029254386353131 : Int64)) ^^^ ((((u + (-7046029254386353131 : Int64))).toUInt64 >>> ((30 : Int32) &&& 0x3f).toInt64.toUInt64).toInt64)) * (-4658895280553007687 : Int64))), .second] [(.long (((((u + (-7046029254386353131 : Int64)) ^^^ ((((u + (-7046029254386353131 : Int64))).toUInt64 >>> ((30 : Int32) &&& 0x3f).toInt64.toUInt64).toInt64)) * (-4658895280553007687 : Int64)) ^^^ ((((((u + (-7046029254386353131 : Int64)) ^^^ ((((u + (-7046029254386353131 : Int64))).toUInt64 >>> ((30 : Int32) &&& 0x3f).toInt64.toUInt64).toInt64)) * (-4658895280553007687 : Int64))).toUInt64 >>> ((27 : Int32) &&& 0x3f).toInt64.toUInt64).toInt64)) * (-7723592293110705685 : Int64)))])) _
    refine XS.lstoreN X3.here hx rfl (hb hby d2_38) rfl (l' := #[.val (.ref a), .val (.long (((((u + (-7046029254386353131 : Int64)) ^^^ ((((u + (-7046029254386353131 : Int64))).toUInt64 >>> ((30 : Int32) &&& 0x3f).toInt64.toUInt64).toInt64)) * (-4658895280553007687 : Int64)) ^^^ ((((((u + (-7046029254386353131 : Int64)) ^^^ ((((u + (-7046029254386353131 : Int64))).toUInt64 >>> ((30 : Int32) &&& 0x3f).toInt64.toUInt64).toInt64)) * (-4658895280553007687 : Int64))).toUInt64 >>> ((27 : Int32) &&& 0x3f).toInt64.toUInt64).toInt64)) * (-7723592293110705685 : Int64))), .second]) rfl ?_
    show Steps p.tables e below (T3.setTop (mkF m 39 #[.val (.ref a), .val (.long (((((u + (-7046029254386353131 : Int64)) ^^^ ((((u + (-7046029254386353131 : Int64))).toUInt64 >>> ((30 : Int32) &&& 0x3f).toInt64.toUInt64).toInt64)) * (-4658895280553007687 : Int64)) ^^^ ((((((u + (-7046029254386353131 : Int64)) ^^^ ((((u + (-7046029254386353131 : Int64))).toUInt64 >>> ((30 : Int32) &&& 0x3f).toInt64.toUInt64).toInt64)) * (-4658895280553007687 : Int64))).toUInt64 >>> ((27 : Int32) &&& 0x3f).toInt64.toUInt64).toInt64)) * (-7723592293110705685 : Int64))), .second] [])) _
    refine XS.lloadN X3.here hx rfl (hb hby d2_39) rfl ?_
    show Steps p.tables e below (T3.setTop (mkF m 40 #[.val (.ref a), .val (.long (((((u + (-7046029254386353131 : Int64)) ^^^ ((((u + (-7046029254386353131 : Int64))).toUInt64 >>> ((30 : Int32) &&& 0x3f).toInt64.toUInt64).toInt64)) * (-4658895280553007687 : Int64)) ^^^ ((((((u + (-7046029254386353131 : Int64)) ^^^ ((((u + (-7046029254386353131 : Int64))).toUInt64 >>> ((30 : Int32) &&& 0x3f).toInt64.toUInt64).toInt64)) * (-4658895280553007687 : Int64))).toUInt64 >>> ((27 : Int32) &&& 0x3f).toInt64.toUInt64).toInt64)) * (-7723592293110705685 : Int64))), .second] [(.long (((((u + (-7046029254386353131 : Int64)) ^^^ ((((u + (-7046029254386353131 : Int64))).toUInt64 >>> ((30 : Int32) &&& 0x3f).toInt64.toUInt64).toInt64)) * (-4658895280553007687 : Int64)) ^^^ ((((((u + (-7046029254386353131 : Int64)) ^^^ ((((u + (-7046029254386353131 : Int64))).toUInt64 >>> ((30 : Int32) &&& 0x3f).toInt64.toUInt64).toInt64)) * (-4658895280553007687 : Int64))).toUInt64 >>> ((27 : Int32) &&& 0x3f).toInt64.toUInt64).toInt64)) * (-7723592293110705685 : Int64)))])) _
    refine XS.lloadN X3.here hx rfl (hb hby d2_40) rfl ?_
    show Steps p.tables e below (T3.setTop (mkF m 41 #[.val (.ref a), .val (.long (((((u + (-7046029254386353131 : Int64)) ^^^ ((((u + (-7046029254386353131 : Int64))).toUInt64 >>> ((30 : Int32) &&& 0x3f).toInt64.toUInt64).toInt64)) * (-4658895280553007687 : Int64)) ^^^ ((((((u + (-7046029254386353131 : Int64)) ^^^ ((((u + (-7046029254386353131 : Int64))).toUInt64 >>> ((30 : Int32) &&& 0x3f).toInt64.toUInt64).toInt64)) * (-4658895280553007687 : Int64))).toUInt64 >>> ((27 : Int32) &&& 0x3f).toInt64.toUInt64).toInt64)) * (-7723592293110705685 : Int64))), .second] [(.long (((((u + (-7046029254386353131 : Int64)) ^^^ ((((u + (-7046029254386353131 : Int64))).toUInt64 >>> ((30 : Int32) &&& 0x3f).toInt64.toUInt64).toInt64)) * (-4658895280553007687 : Int64)) ^^^ ((((((u + (-7046029254386353131 : Int64)) ^^^ ((((u + (-7046029254386353131 : Int64))).toUInt64 >>> ((30 : Int32) &&& 0x3f).toInt64.toUInt64).toInt64)) * (-4658895280553007687 : Int64))).toUInt64 >>> ((27 : Int32) &&& 0x3f).toInt64.toUInt64).toInt64)) * (-7723592293110705685 : Int64))), (.long (((((u + (-7046029254386353131 : Int64)) ^^^ ((((u + (-7046029254386353131 : Int64))).toUInt64 >>> ((30 : Int32) &&& 0x3f).toInt64.toUInt64).toInt64)) * (-4658895280553007687 : Int64)) ^^^ ((((((u + (-7046029254386353131 : Int64)) ^^^ ((((u + (-7046029254386353131 : Int64))).toUInt64 >>> ((30 : Int32) &&& 0x3f).toInt64.toUInt64).toInt64)) * (-4658895280553007687 : Int64))).toUInt64 >>> ((27 : Int32) &&& 0x3f).toInt64.toUInt64).toInt64)) * (-7723592293110705685 : Int64)))])) _
    refine XS.bipush X3.here hx rfl (hb hby d2_41) ?_
    show Steps p.tables e below (T3.setTop (mkF m 43 #[.val (.ref a), .val (.long (((((u + (-7046029254386353131 : Int64)) ^^^ ((((u + (-7046029254386353131 : Int64))).toUInt64 >>> ((30 : Int32) &&& 0x3f).toInt64.toUInt64).toInt64)) * (-4658895280553007687 : Int64)) ^^^ ((((((u + (-7046029254386353131 : Int64)) ^^^ ((((u + (-7046029254386353131 : Int64))).toUInt64 >>> ((30 : Int32) &&& 0x3f).toInt64.toUInt64).toInt64)) * (-4658895280553007687 : Int64))).toUInt64 >>> ((27 : Int32) &&& 0x3f).toInt64.toUInt64).toInt64)) * (-7723592293110705685 : Int64))), .second] [(.int (31 : Int32)), (.long (((((u + (-7046029254386353131 : Int64)) ^^^ ((((u + (-7046029254386353131 : Int64))).toUInt64 >>> ((30 : Int32) &&& 0x3f).toInt64.toUInt64).toInt64)) * (-4658895280553007687 : Int64)) ^^^ ((((((u + (-7046029254386353131 : Int64)) ^^^ ((((u + (-7046029254386353131 : Int64))).toUInt64 >>> ((30 : Int32) &&& 0x3f).toInt64.toUInt64).toInt64)) * (-4658895280553007687 : Int64))).toUInt64 >>> ((27 : Int32) &&& 0x3f).toInt64.toUInt64).toInt64)) * (-7723592293110705685 : Int64))), (.long (((((u + (-7046029254386353131 : Int64)) ^^^ ((((u + (-7046029254386353131 : Int64))).toUInt64 >>> ((30 : Int32) &&& 0x3f).toInt64.toUInt64).toInt64)) * (-4658895280553007687 : Int64)) ^^^ ((((((u + (-7046029254386353131 : Int64)) ^^^ ((((u + (-7046029254386353131 : Int64))).toUInt64 >>> ((30 : Int32) &&& 0x3f).toInt64.toUInt64).toInt64)) * (-4658895280553007687 : Int64))).toUInt64 >>> ((27 : Int32) &&& 0x3f).toInt64.toUInt64).toInt64)) * (-7723592293110705685 : Int64)))])) _
    refine XS.lushr X3.here hx rfl (hb hby d2_43) rfl ?_
    show Steps p.tables e below (T3.setTop (mkF m 44 #[.val (.ref a), .val (.long (((((u + (-7046029254386353131 : Int64)) ^^^ ((((u + (-7046029254386353131 : Int64))).toUInt64 >>> ((30 : Int32) &&& 0x3f).toInt64.toUInt64).toInt64)) * (-4658895280553007687 : Int64)) ^^^ ((((((u + (-7046029254386353131 : Int64)) ^^^ ((((u + (-7046029254386353131 : Int64))).toUInt64 >>> ((30 : Int32) &&& 0x3f).toInt64.toUInt64).toInt64)) * (-4658895280553007687 : Int64))).toUInt64 >>> ((27 : Int32) &&& 0x3f).toInt64.toUInt64).toInt64)) * (-7723592293110705685 : Int64))), .second] [(.long ((((((((u + (-7046029254386353131 : Int64)) ^^^ ((((u + (-7046029254386353131 : Int64))).toUInt64 >>> ((30 : Int32) &&& 0x3f).toInt64.toUInt64).toInt64)) * (-4658895280553007687 : Int64)) ^^^ ((((((u + (-7046029254386353131 : Int64)) ^^^ ((((u + (-7046029254386353131 : Int64))).toUInt64 >>> ((30 : Int32) &&& 0x3f).toInt64.toUInt64).toInt64)) * (-4658895280553007687 : Int64))).toUInt64 >>> ((27 : Int32) &&& 0x3f).toInt64.toUInt64).toInt64)) * (-7723592293110705685 : Int64))).toUInt64 >>> ((31 : Int32) &&& 0x3f).toInt64.toUInt64).toInt64)), (.long (((((u + (-7046029254386353131 : Int64)) ^^^ ((((u + (-7046029254386353131 : Int64))).toUInt64 >>> ((30 : Int32) &&& 0x3f).toInt64.toUInt64).toInt64)) * (-4658895280553007687 : Int64)) ^^^ ((((((u + (-7046029254386353131 : Int64)) ^^^ ((((u + (-7046029254386353131 : Int64))).toUInt64 >>> ((30 : Int32) &&& 0x3f).toInt64.toUInt64).toInt64)) * (-4658895280553007687 : Int64))).toUInt64 >>> ((27 : Int32) &&& 0x3f).toInt64.toUInt64).toInt64)) * (-7723592293110705685 : Int64)))])) _
    refine XS.lxor X3.here hx rfl (hb hby d2_44) rfl ?_
    show Steps p.tables e below (T3.setTop (mkF m 45 #[.val (.ref a), .val (.long (((((u + (-7046029254386353131 : Int64)) ^^^ ((((u + (-7046029254386353131 : Int64))).toUInt64 >>> ((30 : Int32) &&& 0x3f).toInt64.toUInt64).toInt64)) * (-4658895280553007687 : Int64)) ^^^ ((((((u + (-7046029254386353131 : Int64)) ^^^ ((((u + (-7046029254386353131 : Int64))).toUInt64 >>> ((30 : Int32) &&& 0x3f).toInt64.toUInt64).toInt64)) * (-4658895280553007687 : Int64))).toUInt64 >>> ((27 : Int32) &&& 0x3f).toInt64.toUInt64).toInt64)) * (-7723592293110705685 : Int64))), .second] [(.long ((((((u + (-7046029254386353131 : Int64)) ^^^ ((((u + (-7046029254386353131 : Int64))).toUInt64 >>> ((30 : Int32) &&& 0x3f).toInt64.toUInt64).toInt64)) * (-4658895280553007687 : Int64)) ^^^ ((((((u + (-7046029254386353131 : Int64)) ^^^ ((((u + (-7046029254386353131 : Int64))).toUInt64 >>> ((30 : Int32) &&& 0x3f).toInt64.toUInt64).toInt64)) * (-4658895280553007687 : Int64))).toUInt64 >>> ((27 : Int32) &&& 0x3f).toInt64.toUInt64).toInt64)) * (-7723592293110705685 : Int64)) ^^^ ((((((((u + (-7046029254386353131 : Int64)) ^^^ ((((u + (-7046029254386353131 : Int64))).toUInt64 >>> ((30 : Int32) &&& 0x3f).toInt64.toUInt64).toInt64)) * (-4658895280553007687 : Int64)) ^^^ ((((((u + (-7046029254386353131 : Int64)) ^^^ ((((u + (-7046029254386353131 : Int64))).toUInt64 >>> ((30 : Int32) &&& 0x3f).toInt64.toUInt64).toInt64)) * (-4658895280553007687 : Int64))).toUInt64 >>> ((27 : Int32) &&& 0x3f).toInt64.toUInt64).toInt64)) * (-7723592293110705685 : Int64))).toUInt64 >>> ((31 : Int32) &&& 0x3f).toInt64.toUInt64).toInt64)))])) _
    exact kk
  have P5 : ∀ t, Steps p.tables e below (T3.setTop (mkF m 45 #[.val (.ref a), .val (.long (((((u + (-7046029254386353131 : Int64)) ^^^ ((((u + (-7046029254386353131 : Int64))).toUInt64 >>> ((30 : Int32) &&& 0x3f).toInt64.toUInt64).toInt64)) * (-4658895280553007687 : Int64)) ^^^ ((((((u + (-7046029254386353131 : Int64)) ^^^ ((((u + (-7046029254386353131 : Int64))).toUInt64 >>> ((30 : Int32) &&& 0x3f).toInt64.toUInt64).toInt64)) * (-4658895280553007687 : Int64))).toUInt64 >>> ((27 : Int32) &&& 0x3f).toInt64.toUInt64).toInt64)) * (-7723592293110705685 : Int64))), .second] [(.long ((((((u + (-7046029254386353131 : Int64)) ^^^ ((((u + (-7046029254386353131 : Int64))).toUInt64 >>> ((30 : Int32) &&& 0x3f).toInt64.toUInt64).toInt64)) * (-4658895280553007687 : Int64)) ^^^ ((((((u + (-7046029254386353131 : Int64)) ^^^ ((((u + (-7046029254386353131 : Int64))).toUInt64 >>> ((30 : Int32) &&& 0x3f).toInt64.toUInt64).toInt64)) * (-4658895280553007687 : Int64))).toUInt64 >>> ((27 : Int32) &&& 0x3f).toInt64.toUInt64).toInt64)) * (-7723592293110705685 : Int64)) ^^^ ((((((((u + (-7046029254386353131 : Int64)) ^^^ ((((u + (-7046029254386353131 : Int64))).toUInt64 >>> ((30 : Int32) &&& 0x3f).toInt64.toUInt64).toInt64)) * (-4658895280553007687 : Int64)) ^^^ ((((((u + (-7046029254386353131 : Int64)) ^^^ ((((u + (-7046029254386353131 : Int64))).toUInt64 >>> ((30 : Int32) &&& 0x3f).toInt64.toUInt64).toInt64)) * (-4658895280553007687 : Int64))).toUInt64 >>> ((27 : Int32) &&& 0x3f).toInt64.toUInt64).toInt64)) * (-7723592293110705685 : Int64))).toUInt64 >>> ((31 : Int32) &&& 0x3f).toInt64.toUInt64).toInt64)))])) t → Steps p.tables e below (s₁.setTop (entryFrame m #[(.ref a)] 3)) t := by
    intro t kk
    refine P4 _ ?_
    show Steps p.tables e below (T3.setTop (mkF m 45 #[.val (.ref a), .val (.long (((((u + (-7046029254386353131 : Int64)) ^^^ ((((u + (-7046029254386353131 : Int64))).toUInt64 >>> ((30 : Int32) &&& 0x3f).toInt64.toUInt64).toInt64)) * (-4658895280553007687 : Int64)) ^^^ ((((((u + (-7046029254386353131 : Int64)) ^^^ ((((u + (-7046029254386353131 : Int64))).toUInt64 >>> ((30 : Int32) &&& 0x3f).toInt64.toUInt64).toInt64)) * (-4658895280553007687 : Int64))).toUInt64 >>> ((27 : Int32) &&& 0x3f).toInt64.toUInt64).toInt64)) * (-7723592293110705685 : Int64))), .second] [(.long ((((((u + (-7046029254386353131 : Int64)) ^^^ ((((u + (-7046029254386353131 : Int64))).toUInt64 >>> ((30 : Int32) &&& 0x3f).toInt64.toUInt64).toInt64)) * (-4658895280553007687 : Int64)) ^^^ ((((((u + (-7046029254386353131 : Int64)) ^^^ ((((u + (-7046029254386353131 : Int64))).toUInt64 >>> ((30 : Int32) &&& 0x3f).toInt64.toUInt64).toInt64)) * (-4658895280553007687 : Int64))).toUInt64 >>> ((27 : Int32) &&& 0x3f).toInt64.toUInt64).toInt64)) * (-7723592293110705685 : Int64)) ^^^ ((((((((u + (-7046029254386353131 : Int64)) ^^^ ((((u + (-7046029254386353131 : Int64))).toUInt64 >>> ((30 : Int32) &&& 0x3f).toInt64.toUInt64).toInt64)) * (-4658895280553007687 : Int64)) ^^^ ((((((u + (-7046029254386353131 : Int64)) ^^^ ((((u + (-7046029254386353131 : Int64))).toUInt64 >>> ((30 : Int32) &&& 0x3f).toInt64.toUInt64).toInt64)) * (-4658895280553007687 : Int64))).toUInt64 >>> ((27 : Int32) &&& 0x3f).toInt64.toUInt64).toInt64)) * (-7723592293110705685 : Int64))).toUInt64 >>> ((31 : Int32) &&& 0x3f).toInt64.toUInt64).toInt64)))])) _
    exact kk
  have k6 : Keep h0 h2 [a] := (Keep.wr (Keep.refl h0 [a]) W2 (Or.inl (List.mem_of_getElem? (i := 0) rfl)))
  obtain ⟨fs, hr, hrun, hended, hW, hsame⟩ := X3.leave (v := some (.long ((((((u + (-7046029254386353131 : Int64)) ^^^ ((((u + (-7046029254386353131 : Int64))).toUInt64 >>> ((30 : Int32) &&& 0x3f).toInt64.toUInt64).toInt64)) * (-4658895280553007687 : Int64)) ^^^ ((((((u + (-7046029254386353131 : Int64)) ^^^ ((((u + (-7046029254386353131 : Int64))).toUInt64 >>> ((30 : Int32) &&& 0x3f).toInt64.toUInt64).toInt64)) * (-4658895280553007687 : Int64))).toUInt64 >>> ((27 : Int32) &&& 0x3f).toInt64.toUInt64).toInt64)) * (-7723592293110705685 : Int64)) ^^^ ((((((((u + (-7046029254386353131 : Int64)) ^^^ ((((u + (-7046029254386353131 : Int64))).toUInt64 >>> ((30 : Int32) &&& 0x3f).toInt64.toUInt64).toInt64)) * (-4658895280553007687 : Int64)) ^^^ ((((((u + (-7046029254386353131 : Int64)) ^^^ ((((u + (-7046029254386353131 : Int64))).toUInt64 >>> ((30 : Int32) &&& 0x3f).toInt64.toUInt64).toInt64)) * (-4658895280553007687 : Int64))).toUInt64 >>> ((27 : Int32) &&& 0x3f).toInt64.toUInt64).toInt64)) * (-7723592293110705685 : Int64))).toUInt64 >>> ((31 : Int32) &&& 0x3f).toInt64.toUInt64).toInt64)))) (fun h => by rw [Bd.returns] at h; cases h)
  refine ⟨_, _, P5 _ ?_, hrun, hended, _, _, rfl, ?_, ⟨_, rfl⟩, hW, hsame.mono (by decide) (by decide)⟩
  · exact X3.lreturnOut hx Bd.returns (hb hby d2_45) hr
  · show Q2 Z a u h0 n0 _ T3.heap _
    rw [e3]
    exact ⟨congrArg (fun z => some (Value.long z)) (show (F2 u) = _ from rfl).symm, N2, k6, Fw2⟩
theorem own_F (u : Int64) : F2 u = own_fin (u + (-7046029254386353131 : Int64)) := rfl
theorem own_Finj {u v : Int64} (h : F2 u = F2 v) : u = v := by
  rw [own_F, own_F] at h
  have h1 := own_fin_inj h
  have h2 := congrArg (· - (-7046029254386353131 : Int64)) h1
  simpa using h2
theorem own_plain0 (p0 : Int64) (p1 : Int64) (i54 : Int32) (h_i54 : i54 = (if p0 = p1 then (1 : Int32) else (0 : Int32))) (i58 : Int32) (h_i58 : i58 = (if (F2 p0) = (F2 p1) then (1 : Int32) else (0 : Int32))) (i62 : Int32) (h_i62 : i62 = (if i54 = i58 then (1 : Int32) else (0 : Int32))) (i66 : Int32) (h_i66 : i66 = (if (F2 (7046029254386353131 : Int64)) = (0 : Int64) then (1 : Int32) else (0 : Int32))) (i70 : Int32) (h_i70 : i70 = (if (F2 (-2177342773878488077 : Int64)) = (-5543615919044805280 : Int64) then (1 : Int32) else (0 : Int32))) (i74 : Int32) (h_i74 : i74 = (if i62 = (0 : Int32) then (0 : Int32) else (if i66 = (0 : Int32) then (0 : Int32) else (if i70 = (0 : Int32) then (0 : Int32) else (1 : Int32)))))  : i74 = (1 : Int32) := by
  have n10 : ¬ (1 : Int32) = (0 : Int32) := by decide
  have k1 : (F2 (7046029254386353131 : Int64)) = (0 : Int64) := by decide +kernel
  have k2 : (F2 (-2177342773878488077 : Int64)) = (-5543615919044805280 : Int64) := by decide +kernel
  rw [if_pos k1] at h_i66
  rw [if_pos k2] at h_i70
  have k3 : i54 = i58 := by
    rw [h_i54, h_i58]
    by_cases q : p0 = p1
    · rw [if_pos q, if_pos (congrArg F2 q)]
    · rw [if_neg q, if_neg (fun h => q (own_Finj h))]
  rw [if_pos k3] at h_i62
  rw [h_i74, h_i62, h_i66, h_i70, if_neg n10, if_neg n10, if_neg n10]
theorem ef_0 (m : MethodId) (x0 : Int64) (x1 : Int64) : entryFrame m #[(.long x0), (.long x1)] maxLocals = (mkF m 0 #[.val (.long x0), .second, .val (.long x1), .second, .unset, .unset, .unset, .unset, .unset, .unset, .unset, .unset, .unset, .unset, .unset, .unset, .unset, .unset, .unset, .unset, .unset, .unset, .unset, .unset, .unset] []) := by first | (simp [entryFrame, mkF, argsToLocals, Value.category, maxLocals]; done) | rfl
def Q0 (Z : State) (h0 : Heap) (n0 : Nat) (v : Option Value) (h : Heap) (L : List Loc) : Prop := v = some (.int (1 : Int32)) ∧ Fr n0 L
set_option maxRecDepth 65536 in
set_option maxHeartbeats 400000000 in
theorem rm0 (l : Launch) (Z : State) (a0 : Array Value) (hw : ∀ d ∈ tables_1, d.before a0 Z = true) (ws : List Jvm.Cond) (p0 : Int64) (p1 : Int64) (h0 : Heap) (n0 : Nat) (Z0 : n0 ≤ h0.size)  :
    MetFree l x (head1 (Jvm.Cond.code x code maxLocals ret :: ws) room_1) (fun a U => a = #[(.long p0), (.long p1)] ∧ Z.Warmed39 U.vm ∧ U.heap = h0) (fun _ _ _ _ _ => True) (fun _ U o U' => ∃ v L, o = .returned v ∧ Q0 Z h0 n0 v U'.heap L ∧ FrameEnd U o U' L room_1.cells room_1.slots) := by
  refine MetFree.of_bodySF (plainFor_of_name pn_1) hisR ?_
  intro p e s m args below meth c s₁ Bd hml0 hP hK
  obtain ⟨rfl, hZ, hh⟩ := hP
  have hx := Bd.exec
  have hby := Bd.bytes
  have hml : c.maxLocals = 25 := hml0
  have hown : s.vm.findClass "org/wayfold/generate/RandomSourceNextPinLaw" = some m.cls := findClass_of_methodNamed Bd.named
  have hnm := (name_of_methodNamed Bd.named Bd.method).1
  have X0 : Stand p l e room_1 s m #[(.long p0), (.long p1)] below meth c s₁ [] 0 0 := Stand.of_body Bd
  have e0 : s₁.heap = h0 := by rw [← hh, Bd.state]; rfl
  have N0 := Fr.nil n0
  have pre0 : ∀ t, Steps p.tables e below (s₁.setTop (mkF m 0 #[.val (.long p0), .second, .val (.long p1), .second, .unset, .unset, .unset, .unset, .unset, .unset, .unset, .unset, .unset, .unset, .unset, .unset, .unset, .unset, .unset, .unset, .unset, .unset, .unset, .unset, .unset] [])) t → Steps p.tables e below (s₁.setTop (entryFrame m #[(.long p0), (.long p1)] maxLocals)) t := fun t k => castTop (ef_0 m p0 p1) k
  obtain ⟨T1, h1, X1, e1, E1, A1, D1, -, st1⟩ := newO X0 hx hZ hown (hw _ (List.mem_of_getElem? (i := 0) rfl)) (hw _ (List.mem_of_getElem? (i := 1) rfl)) (hw _ (List.mem_of_getElem? (i := 2) rfl)) e0 (g := (mkF m 0 #[.val (.long p0), .second, .val (.long p1), .second, .unset, .unset, .unset, .unset, .unset, .unset, .unset, .unset, .unset, .unset, .unset, .unset, .unset, .unset, .unset, .unset, .unset, .unset, .unset, .unset, .unset] [])) rfl (hb hby at_0) (by decide) (by decide)
  obtain ⟨b1, g_b1⟩ : ∃ z, z = h0.size := ⟨_, rfl⟩
  rw [← g_b1] at A1 D1 st1
  have ge_b1 : n0 ≤ b1 := Nat.le_trans Z0 (Nat.le_of_eq g_b1.symm)
  have sz_b1 : h0.size ≤ b1 := Nat.le_trans (Keep.refl h0 []).1 (Nat.le_of_eq g_b1.symm)
  have F1_10 : Fld Z h1 b1 "org/wayfold/generate/RandomSource" "state" "J" (.long (0 : Int64)) := D1 (Or.inl (hw _ (List.mem_of_getElem? (i := 10) rfl))) (ty := .long) (by decide)
  have z3 : n0 ≤ _ := (Nat.le_trans Z0 E1.1)
  obtain ⟨_, _, ⟨T2, L2, k2, n2⟩, -, X2, ⟨Lc2, hQ2, l2, y2, z2⟩, st2⟩ := X1.specialBack hx (y := (⟨"org/wayfold/generate/RandomSource", "<init>", "(J)V"⟩ : MethodName)) rfl hown (mvT hZ (hw _ (List.mem_of_getElem? (i := 3) rfl))) (mvT hZ (hw _ (List.mem_of_getElem? (i := 4) rfl))) (mvT hZ (hw _ (List.mem_of_getElem? (i := 5) rfl))) (by decide) (backOf (W := 1) (rm1 l Z a0 hw [] b1 p0 (0 : Int64) h1 n0 z3 A1 F1_10 ge_b1) hZ (hw _ (List.mem_of_getElem? (i := 5) rfl)) (hw _ (List.mem_of_getElem? (i := 2) rfl)) (by decide) (by decide)) (g := (mkF m 5 #[.val (.long p0), .second, .val (.long p1), .second, .unset, .unset, .unset, .unset, .unset, .unset, .unset, .unset, .unset, .unset, .unset, .unset, .unset, .unset, .unset, .unset, .unset, .unset, .unset, .unset, .unset] [(.long p0), (.ref b1), (.ref b1)])) rfl (by rw [hml]; rfl) (Steps.refl _) (a := b1) (argsL := [(.long p0)]) (rest := [(.ref b1)]) (lenOf pd_0 rfl) rfl (by show 2 * 0 + _ ≤ _; exact Nat.le_of_eq rfl) (hb hby at_5) (fun _ _ => ⟨rfl, e1, (by decide : 1 + 0 ≤ _), (by decide : 1 + 0 ≤ _)⟩)
  dsimp only [Pt.U, Pt.locs, Pt.cells, Pt.slots] at X2 l2 y2 z2 st2 hQ2
  subst l2 y2 z2
  obtain ⟨rfl, Nq2, K2, q2_0⟩ := hQ2
  have N2 := Fr.app N0 Nq2
  have f5 := (Exa.keep A1 K2)
  have z6 : n0 ≤ _ := (Nat.le_trans z3 K2.1)
  obtain ⟨cq4, kq4, q4a, q4b, q4c⟩ := isOf hZ rfl f5
  obtain ⟨_, _, ⟨T4, L4, k4, n4⟩, -, X4, ⟨Lc4, hQ4, l4, y4, z4⟩, st4⟩ := X2.virtualBack hx (y := (⟨"org/wayfold/generate/RandomSource", "next", "()J"⟩ : MethodName)) (z := (⟨"org/wayfold/generate/RandomSource", "next", "()J"⟩ : MethodName)) hown (mvT hZ (hw _ (List.mem_of_getElem? (i := 11) rfl))) (mvT hZ (hw _ (List.mem_of_getElem? (i := 12) rfl))) (notFace_of_selects (args := #[]) (mvT hZ (hw _ (List.mem_of_getElem? (i := 14) rfl)))) (mvT hZ (hw _ (List.mem_of_getElem? (i := 14) rfl))) (mvT hZ (hw _ (List.mem_of_getElem? (i := 13) rfl))) (by decide) (backOf (W := 0) (rm2 l Z a0 hw [] b1 p0 T2.heap n0 z6 f5 q2_0 ge_b1) hZ (hw _ (List.mem_of_getElem? (i := 15) rfl)) (hw _ (List.mem_of_getElem? (i := 2) rfl)) (by decide) (by decide)) q4a q4c (g := (mkF m 12 #[.val (.long p0), .second, .val (.long p1), .second, .val (.ref b1), .unset, .unset, .unset, .unset, .unset, .unset, .unset, .unset, .unset, .unset, .unset, .unset, .unset, .unset, .unset, .unset, .unset, .unset, .unset, .unset] [(.ref b1)])) rfl (by rw [hml]; rfl) (Steps.refl _) (argsL := []) (rest := []) (lenOf pd_1 rfl) rfl (by show 2 * 0 + _ ≤ _; exact Nat.le_of_eq rfl) (hb hby at_12) (fun _ _ => ⟨rfl, rfl, (by decide : 1 + 0 ≤ _), (by decide : 1 + 0 ≤ _)⟩)
  dsimp only [Pt.U, Pt.locs, Pt.cells, Pt.slots] at X4 l4 y4 z4 st4 hQ4
  subst l4 y4 z4
  obtain ⟨rfl, Nq4, K4, q4_0⟩ := hQ4
  have N4 := Fr.app N2 Nq4
  have f8 := (Exa.keep f5 K4)
  have z9 : n0 ≤ _ := (Nat.le_trans z6 K4.1)
  obtain ⟨cq7, kq7, q7a, q7b, q7c⟩ := isOf hZ rfl f8
  obtain ⟨_, _, ⟨T7, L7, k7, n7⟩, -, X7, ⟨Lc7, hQ7, l7, y7, z7⟩, st7⟩ := X4.virtualBack hx (y := (⟨"org/wayfold/generate/RandomSource", "next", "()J"⟩ : MethodName)) (z := (⟨"org/wayfold/generate/RandomSource", "next", "()J"⟩ : MethodName)) hown (mvT hZ (hw _ (List.mem_of_getElem? (i := 11) rfl))) (mvT hZ (hw _ (List.mem_of_getElem? (i := 12) rfl))) (notFace_of_selects (args := #[]) (mvT hZ (hw _ (List.mem_of_getElem? (i := 14) rfl)))) (mvT hZ (hw _ (List.mem_of_getElem? (i := 14) rfl))) (mvT hZ (hw _ (List.mem_of_getElem? (i := 13) rfl))) (by decide) (backOf (W := 0) (rm2 l Z a0 hw [] b1 (p0 + (-7046029254386353131 : Int64)) T4.heap n0 z9 f8 q4_0 ge_b1) hZ (hw _ (List.mem_of_getElem? (i := 15) rfl)) (hw _ (List.mem_of_getElem? (i := 2) rfl)) (by decide) (by decide)) q7a q7c (g := (mkF m 19 #[.val (.long p0), .second, .val (.long p1), .second, .val (.ref b1), .val (.long (F2 p0)), .second, .unset, .unset, .unset, .unset, .unset, .unset, .unset, .unset, .unset, .unset, .unset, .unset, .unset, .unset, .unset, .unset, .unset, .unset] [(.ref b1)])) rfl (by rw [hml]; rfl) (Steps.refl _) (argsL := []) (rest := []) (lenOf pd_1 rfl) rfl (by show 2 * 0 + _ ≤ _; exact Nat.le_of_eq rfl) (hb hby at_19) (fun _ _ => ⟨rfl, rfl, (by decide : 1 + 0 ≤ _), (by decide : 1 + 0 ≤ _)⟩)
  dsimp only [Pt.U, Pt.locs, Pt.cells, Pt.slots] at X7 l7 y7 z7 st7 hQ7
  subst l7 y7 z7
  obtain ⟨rfl, Nq7, K7, q7_0⟩ := hQ7
  have N7 := Fr.app N4 Nq7
  obtain ⟨T10, h10, X10, e10, E10, A10, D10, -, st10⟩ := newO X7 hx hZ hown (hw _ (List.mem_of_getElem? (i := 0) rfl)) (hw _ (List.mem_of_getElem? (i := 1) rfl)) (hw _ (List.mem_of_getElem? (i := 2) rfl)) rfl (g := (mkF m 24 #[.val (.long p0), .second, .val (.long p1), .second, .val (.ref b1), .val (.long (F2 p0)), .second, .val (.long (F2 (p0 + (-7046029254386353131 : Int64)))), .second, .unset, .unset, .unset, .unset, .unset, .unset, .unset, .unset, .unset, .unset, .unset, .unset, .unset, .unset, .unset, .unset] [])) rfl (hb hby at_24) (by decide) (by decide)
  have f11 := (Exa.keep f8 K7)
  have z12 : n0 ≤ _ := (Nat.le_trans z9 K7.1)
  have k13 : Keep h0 T7.heap [] := (Keep.trans (Keep.trans (Keep.trans (Keep.ext (Keep.refl h0 []) E1) K2 (allS (Or.inr sz_b1) all0)) K4 (allS (Or.inr sz_b1) all0)) K7 (allS (Or.inr sz_b1) all0))
  obtain ⟨b10, g_b10⟩ : ∃ z, z = T7.heap.size := ⟨_, rfl⟩
  rw [← g_b10] at A10 D10 st10
  have ne_b1_b10 : b1 ≠ b10 := Nat.ne_of_lt (Nat.lt_of_lt_of_le f11.lt (Nat.le_of_eq g_b10.symm))
  have ge_b10 : n0 ≤ b10 := Nat.le_trans z12 (Nat.le_of_eq g_b10.symm)
  have sz_b10 : h0.size ≤ b10 := Nat.le_trans k13.1 (Nat.le_of_eq g_b10.symm)
  have F10_10 : Fld Z h10 b10 "org/wayfold/generate/RandomSource" "state" "J" (.long (0 : Int64)) := D10 (Or.inl (hw _ (List.mem_of_getElem? (i := 10) rfl))) (ty := .long) (by decide)
  have z15 : n0 ≤ _ := (Nat.le_trans z12 E10.1)
  obtain ⟨_, _, ⟨T14, L14, k14, n14⟩, -, X14, ⟨Lc14, hQ14, l14, y14, z14⟩, st14⟩ := X10.specialBack hx (y := (⟨"org/wayfold/generate/RandomSource", "<init>", "(J)V"⟩ : MethodName)) rfl hown (mvT hZ (hw _ (List.mem_of_getElem? (i := 3) rfl))) (mvT hZ (hw _ (List.mem_of_getElem? (i := 4) rfl))) (mvT hZ (hw _ (List.mem_of_getElem? (i := 5) rfl))) (by decide) (backOf (W := 1) (rm1 l Z a0 hw [] b10 (p0 + (-7046029254386353131 : Int64)) (0 : Int64) h10 n0 z15 A10 F10_10 ge_b10) hZ (hw _ (List.mem_of_getElem? (i := 5) rfl)) (hw _ (List.mem_of_getElem? (i := 2) rfl)) (by decide) (by decide)) (g := (mkF m 33 #[.val (.long p0), .second, .val (.long p1), .second, .val (.ref b1), .val (.long (F2 p0)), .second, .val (.long (F2 (p0 + (-7046029254386353131 : Int64)))), .second, .unset, .unset, .unset, .unset, .unset, .unset, .unset, .unset, .unset, .unset, .unset, .unset, .unset, .unset, .unset, .unset] [(.long (p0 + (-7046029254386353131 : Int64))), (.ref b10), (.ref b10)])) rfl (by rw [hml]; rfl) (Steps.refl _) (a := b10) (argsL := [(.long (p0 + (-7046029254386353131 : Int64)))]) (rest := [(.ref b10)]) (lenOf pd_0 rfl) rfl (by show 2 * 0 + _ ≤ _; exact Nat.le_of_eq rfl) (hb hby at_33) (fun _ _ => ⟨rfl, e10, (by decide : 2 + 0 ≤ _), (by decide : 2 + 0 ≤ _)⟩)
  dsimp only [Pt.U, Pt.locs, Pt.cells, Pt.slots] at X14 l14 y14 z14 st14 hQ14
  subst l14 y14 z14
  obtain ⟨rfl, Nq14, K14, q14_0⟩ := hQ14
  have N14 := Fr.app N7 Nq14
  have f17 := (Exa.keep A10 K14)
  have z18 : n0 ≤ _ := (Nat.le_trans z15 K14.1)
  obtain ⟨cq16, kq16, q16a, q16b, q16c⟩ := isOf hZ rfl f17
  obtain ⟨_, _, ⟨T16, L16, k16, n16⟩, -, X16, ⟨Lc16, hQ16, l16, y16, z16⟩, st16⟩ := X14.virtualBack hx (y := (⟨"org/wayfold/generate/RandomSource", "next", "()J"⟩ : MethodName)) (z := (⟨"org/wayfold/generate/RandomSource", "next", "()J"⟩ : MethodName)) hown (mvT hZ (hw _ (List.mem_of_getElem? (i := 11) rfl))) (mvT hZ (hw _ (List.mem_of_getElem? (i := 12) rfl))) (notFace_of_selects (args := #[]) (mvT hZ (hw _ (List.mem_of_getElem? (i := 14) rfl)))) (mvT hZ (hw _ (List.mem_of_getElem? (i := 14) rfl))) (mvT hZ (hw _ (List.mem_of_getElem? (i := 13) rfl))) (by decide) (backOf (W := 0) (rm2 l Z a0 hw [] b10 (p0 + (-7046029254386353131 : Int64)) T14.heap n0 z18 f17 q14_0 ge_b10) hZ (hw _ (List.mem_of_getElem? (i := 15) rfl)) (hw _ (List.mem_of_getElem? (i := 2) rfl)) (by decide) (by decide)) q16a q16c (g := (mkF m 40 #[.val (.long p0), .second, .val (.long p1), .second, .val (.ref b1), .val (.long (F2 p0)), .second, .val (.long (F2 (p0 + (-7046029254386353131 : Int64)))), .second, .val (.ref b10), .unset, .unset, .unset, .unset, .unset, .unset, .unset, .unset, .unset, .unset, .unset, .unset, .unset, .unset, .unset] [(.ref b10)])) rfl (by rw [hml]; rfl) (Steps.refl _) (argsL := []) (rest := []) (lenOf pd_1 rfl) rfl (by show 2 * 0 + _ ≤ _; exact Nat.le_of_eq rfl) (hb hby at_40) (fun _ _ => ⟨rfl, rfl, (by decide : 2 + 0 ≤ _), (by decide : 2 + 0 ≤ _)⟩)
  dsimp only [Pt.U, Pt.locs, Pt.cells, Pt.slots] at X16 l16 y16 z16 st16 hQ16
  subst l16 y16 z16
  obtain ⟨rfl, Nq16, K16, q16_0⟩ := hQ16
  have N16 := Fr.app N14 Nq16
  obtain ⟨T19, h19, X19, e19, E19, A19, D19, -, st19⟩ := newO X16 hx hZ hown (hw _ (List.mem_of_getElem? (i := 0) rfl)) (hw _ (List.mem_of_getElem? (i := 1) rfl)) (hw _ (List.mem_of_getElem? (i := 2) rfl)) rfl (g := (mkF m 45 #[.val (.long p0), .second, .val (.long p1), .second, .val (.ref b1), .val (.long (F2 p0)), .second, .val (.long (F2 (p0 + (-7046029254386353131 : Int64)))), .second, .val (.ref b10), .val (.long (F2 (p0 + (-7046029254386353131 : Int64)))), .second, .unset, .unset, .unset, .unset, .unset, .unset, .unset, .unset, .unset, .unset, .unset, .unset, .unset] [])) rfl (hb hby at_45) (by decide) (by decide)
  have f20 := (Exa.keep (Exa.keep (Exa.ext E10 f11) K14) K16)
  have f21 := (Exa.keep f17 K16)
  have z22 : n0 ≤ _ := (Nat.le_trans z18 K16.1)
  have k23 : Keep h0 T16.heap [] := (Keep.trans (Keep.trans (Keep.ext k13 E10) K14 (allS (Or.inr sz_b10) all0)) K16 (allS (Or.inr sz_b10) all0))
  obtain ⟨b19, g_b19⟩ : ∃ z, z = T16.heap.size := ⟨_, rfl⟩
  rw [← g_b19] at A19 D19 st19
  have ne_b1_b19 : b1 ≠ b19 := Nat.ne_of_lt (Nat.lt_of_lt_of_le f20.lt (Nat.le_of_eq g_b19.symm))
  have ne_b10_b19 : b10 ≠ b19 := Nat.ne_of_lt (Nat.lt_of_lt_of_le f21.lt (Nat.le_of_eq g_b19.symm))
  have ge_b19 : n0 ≤ b19 := Nat.le_trans z22 (Nat.le_of_eq g_b19.symm)
  have sz_b19 : h0.size ≤ b19 := Nat.le_trans k23.1 (Nat.le_of_eq g_b19.symm)
  have F19_10 : Fld Z h19 b19 "org/wayfold/generate/RandomSource" "state" "J" (.long (0 : Int64)) := D19 (Or.inl (hw _ (List.mem_of_getElem? (i := 10) rfl))) (ty := .long) (by decide)
  have z25 : n0 ≤ _ := (Nat.le_trans z22 E19.1)
  obtain ⟨_, _, ⟨T24, L24, k24, n24⟩, -, X24, ⟨Lc24, hQ24, l24, y24, z24⟩, st24⟩ := X19.specialBack hx (y := (⟨"org/wayfold/generate/RandomSource", "<init>", "(J)V"⟩ : MethodName)) rfl hown (mvT hZ (hw _ (List.mem_of_getElem? (i := 3) rfl))) (mvT hZ (hw _ (List.mem_of_getElem? (i := 4) rfl))) (mvT hZ (hw _ (List.mem_of_getElem? (i := 5) rfl))) (by decide) (backOf (W := 1) (rm1 l Z a0 hw [] b19 p1 (0 : Int64) h19 n0 z25 A19 F19_10 ge_b19) hZ (hw _ (List.mem_of_getElem? (i := 5) rfl)) (hw _ (List.mem_of_getElem? (i := 2) rfl)) (by decide) (by decide)) (g := (mkF m 50 #[.val (.long p0), .second, .val (.long p1), .second, .val (.ref b1), .val (.long (F2 p0)), .second, .val (.long (F2 (p0 + (-7046029254386353131 : Int64)))), .second, .val (.ref b10), .val (.long (F2 (p0 + (-7046029254386353131 : Int64)))), .second, .unset, .unset, .unset, .unset, .unset, .unset, .unset, .unset, .unset, .unset, .unset, .unset, .unset] [(.long p1), (.ref b19), (.ref b19)])) rfl (by rw [hml]; rfl) (Steps.refl _) (a := b19) (argsL := [(.long p1)]) (rest := [(.ref b19)]) (lenOf pd_0 rfl) rfl (by show 2 * 0 + _ ≤ _; exact Nat.le_of_eq rfl) (hb hby at_50) (fun _ _ => ⟨rfl, e19, (by decide : 3 + 0 ≤ _), (by decide : 3 + 0 ≤ _)⟩)
  dsimp only [Pt.U, Pt.locs, Pt.cells, Pt.slots] at X24 l24 y24 z24 st24 hQ24
  subst l24 y24 z24
  obtain ⟨rfl, Nq24, K24, q24_0⟩ := hQ24
  have N24 := Fr.app N16 Nq24
  have f27 := (Exa.keep A19 K24)
  have z28 : n0 ≤ _ := (Nat.le_trans z25 K24.1)
  obtain ⟨cq26, kq26, q26a, q26b, q26c⟩ := isOf hZ rfl f27
  obtain ⟨_, _, ⟨T26, L26, k26, n26⟩, -, X26, ⟨Lc26, hQ26, l26, y26, z26⟩, st26⟩ := X24.virtualBack hx (y := (⟨"org/wayfold/generate/RandomSource", "next", "()J"⟩ : MethodName)) (z := (⟨"org/wayfold/generate/RandomSource", "next", "()J"⟩ : MethodName)) hown (mvT hZ (hw _ (List.mem_of_getElem? (i := 11) rfl))) (mvT hZ (hw _ (List.mem_of_getElem? (i := 12) rfl))) (notFace_of_selects (args := #[]) (mvT hZ (hw _ (List.mem_of_getElem? (i := 14) rfl)))) (mvT hZ (hw _ (List.mem_of_getElem? (i := 14) rfl))) (mvT hZ (hw _ (List.mem_of_getElem? (i := 13) rfl))) (by decide) (backOf (W := 0) (rm2 l Z a0 hw [] b19 p1 T24.heap n0 z28 f27 q24_0 ge_b19) hZ (hw _ (List.mem_of_getElem? (i := 15) rfl)) (hw _ (List.mem_of_getElem? (i := 2) rfl)) (by decide) (by decide)) q26a q26c (g := (mkF m 57 #[.val (.long p0), .second, .val (.long p1), .second, .val (.ref b1), .val (.long (F2 p0)), .second, .val (.long (F2 (p0 + (-7046029254386353131 : Int64)))), .second, .val (.ref b10), .val (.long (F2 (p0 + (-7046029254386353131 : Int64)))), .second, .val (.ref b19), .unset, .unset, .unset, .unset, .unset, .unset, .unset, .unset, .unset, .unset, .unset, .unset] [(.ref b19)])) rfl (by rw [hml]; rfl) (Steps.refl _) (argsL := []) (rest := []) (lenOf pd_1 rfl) rfl (by show 2 * 0 + _ ≤ _; exact Nat.le_of_eq rfl) (hb hby at_57) (fun _ _ => ⟨rfl, rfl, (by decide : 3 + 0 ≤ _), (by decide : 3 + 0 ≤ _)⟩)
  dsimp only [Pt.U, Pt.locs, Pt.cells, Pt.slots] at X26 l26 y26 z26 st26 hQ26
  subst l26 y26 z26
  obtain ⟨rfl, Nq26, K26, q26_0⟩ := hQ26
  have N26 := Fr.app N24 Nq26
  obtain ⟨T29, h29, X29, e29, E29, A29, D29, -, st29⟩ := newO X26 hx hZ hown (hw _ (List.mem_of_getElem? (i := 0) rfl)) (hw _ (List.mem_of_getElem? (i := 1) rfl)) (hw _ (List.mem_of_getElem? (i := 2) rfl)) rfl (g := (mkF m 62 #[.val (.long p0), .second, .val (.long p1), .second, .val (.ref b1), .val (.long (F2 p0)), .second, .val (.long (F2 (p0 + (-7046029254386353131 : Int64)))), .second, .val (.ref b10), .val (.long (F2 (p0 + (-7046029254386353131 : Int64)))), .second, .val (.ref b19), .val (.long (F2 p1)), .second, .unset, .unset, .unset, .unset, .unset, .unset, .unset, .unset, .unset, .unset] [])) rfl (hb hby at_62) (by decide) (by decide)
  have f30 := (Exa.keep (Exa.keep (Exa.ext E19 f20) K24) K26)
  have f31 := (Exa.keep (Exa.keep (Exa.ext E19 f21) K24) K26)
  have f32 := (Exa.keep f27 K26)
  have z33 : n0 ≤ _ := (Nat.le_trans z28 K26.1)
  have k34 : Keep h0 T26.heap [] := (Keep.trans (Keep.trans (Keep.ext k23 E19) K24 (allS (Or.inr sz_b19) all0)) K26 (allS (Or.inr sz_b19) all0))
  obtain ⟨b29, g_b29⟩ : ∃ z, z = T26.heap.size := ⟨_, rfl⟩
  rw [← g_b29] at A29 D29 st29
  have ne_b1_b29 : b1 ≠ b29 := Nat.ne_of_lt (Nat.lt_of_lt_of_le f30.lt (Nat.le_of_eq g_b29.symm))
  have ne_b10_b29 : b10 ≠ b29 := Nat.ne_of_lt (Nat.lt_of_lt_of_le f31.lt (Nat.le_of_eq g_b29.symm))
  have ne_b19_b29 : b19 ≠ b29 := Nat.ne_of_lt (Nat.lt_of_lt_of_le f32.lt (Nat.le_of_eq g_b29.symm))
  have ge_b29 : n0 ≤ b29 := Nat.le_trans z33 (Nat.le_of_eq g_b29.symm)
  have sz_b29 : h0.size ≤ b29 := Nat.le_trans k34.1 (Nat.le_of_eq g_b29.symm)
  have F29_10 : Fld Z h29 b29 "org/wayfold/generate/RandomSource" "state" "J" (.long (0 : Int64)) := D29 (Or.inl (hw _ (List.mem_of_getElem? (i := 10) rfl))) (ty := .long) (by decide)
  have P35 : ∀ t, Steps p.tables e below (T29.setTop (mkF m 65 #[.val (.long p0), .second, .val (.long p1), .second, .val (.ref b1), .val (.long (F2 p0)), .second, .val (.long (F2 (p0 + (-7046029254386353131 : Int64)))), .second, .val (.ref b10), .val (.long (F2 (p0 + (-7046029254386353131 : Int64)))), .second, .val (.ref b19), .val (.long (F2 p1)), .second, .unset, .unset, .unset, .unset, .unset, .unset, .unset, .unset, .unset, .unset] [(.ref b29)])) t → Steps p.tables e below (s₁.setTop (entryFrame m #[(.long p0), (.long p1)] maxLocals)) t := by
    intro t kk
    refine pre0 _ ?_
    show Steps p.tables e below (s₁.setTop (mkF m 0 #[.val (.long p0), .second, .val (.long p1), .second, .unset, .unset, .unset, .unset, .unset, .unset, .unset, .unset, .unset, .unset, .unset, .unset, .unset, .unset, .unset, .unset, .unset, .unset, .unset, .unset, .unset] [])) _
    refine st1 _ ?_
    show Steps p.tables e below (T1.setTop (mkF m 3 #[.val (.long p0), .second, .val (.long p1), .second, .unset, .unset, .unset, .unset, .unset, .unset, .unset, .unset, .unset, .unset, .unset, .unset, .unset, .unset, .unset, .unset, .unset, .unset, .unset, .unset, .unset] [(.ref b1)])) _
    refine XS.dup X1.here hx rfl (hb hby at_3) rfl rfl ?_
    show Steps p.tables e below (T1.setTop (mkF m 4 #[.val (.long p0), .second, .val (.long p1), .second, .unset, .unset, .unset, .unset, .unset, .unset, .unset, .unset, .unset, .unset, .unset, .unset, .unset, .unset, .unset, .unset, .unset, .unset, .unset, .unset, .unset] [(.ref b1), (.ref b1)])) _
    refine XS.lloadN X1.here hx rfl (hb hby at_4) rfl ?_
    show Steps p.tables e below (T1.setTop (mkF m 5 #[.val (.long p0), .second, .val (.long p1), .second, .unset, .unset, .unset, .unset, .unset, .unset, .unset, .unset, .unset, .unset, .unset, .unset, .unset, .unset, .unset, .unset, .unset, .unset, .unset, .unset, .unset] [(.long p0), (.ref b1), (.ref b1)])) _
    refine st2.trans ?_
    show Steps p.tables e below (T2.setTop (mkF m 8 #[.val (.long p0), .second, .val (.long p1), .second, .unset, .unset, .unset, .unset, .unset, .unset, .unset, .unset, .unset, .unset, .unset, .unset, .unset, .unset, .unset, .unset, .unset, .unset, .unset, .unset, .unset] [(.ref b1)])) _
    refine XS.astore X2.here hx rfl (hb hby at_8) rfl rfl (l' := #[.val (.long p0), .second, .val (.long p1), .second, .val (.ref b1), .unset, .unset, .unset, .unset, .unset, .unset, .unset, .unset, .unset, .unset, .unset, .unset, .unset, .unset, .unset, .unset, .unset, .unset, .unset, .unset]) rfl ?_
    show Steps p.tables e below (T2.setTop (mkF m 10 #[.val (.long p0), .second, .val (.long p1), .second, .val (.ref b1), .unset, .unset, .unset, .unset, .unset, .unset, .unset, .unset, .unset, .unset, .unset, .unset, .unset, .unset, .unset, .unset, .unset, .unset, .unset, .unset] [])) _
    refine XS.aload X2.here hx rfl (hb hby at_10) rfl rfl ?_
    show Steps p.tables e below (T2.setTop (mkF m 12 #[.val (.long p0), .second, .val (.long p1), .second, .val (.ref b1), .unset, .unset, .unset, .unset, .unset, .unset, .unset, .unset, .unset, .unset, .unset, .unset, .unset, .unset, .unset, .unset, .unset, .unset, .unset, .unset] [(.ref b1)])) _
    refine st4.trans ?_
    show Steps p.tables e below (T4.setTop (mkF m 15 #[.val (.long p0), .second, .val (.long p1), .second, .val (.ref b1), .unset, .unset, .unset, .unset, .unset, .unset, .unset, .unset, .unset, .unset, .unset, .unset, .unset, .unset, .unset, .unset, .unset, .unset, .unset, .unset] [(.long (F2 p0))])) _
    refine XS.lstore X4.here hx rfl (hb hby at_15) rfl (l' := #[.val (.long p0), .second, .val (.long p1), .second, .val (.ref b1), .val (.long (F2 p0)), .second, .unset, .unset, .unset, .unset, .unset, .unset, .unset, .unset, .unset, .unset, .unset, .unset, .unset, .unset, .unset, .unset, .unset, .unset]) rfl ?_
    show Steps p.tables e below (T4.setTop (mkF m 17 #[.val (.long p0), .second, .val (.long p1), .second, .val (.ref b1), .val (.long (F2 p0)), .second, .unset, .unset, .unset, .unset, .unset, .unset, .unset, .unset, .unset, .unset, .unset, .unset, .unset, .unset, .unset, .unset, .unset, .unset] [])) _
    refine XS.aload X4.here hx rfl (hb hby at_17) rfl rfl ?_
    show Steps p.tables e below (T4.setTop (mkF m 19 #[.val (.long p0), .second, .val (.long p1), .second, .val (.ref b1), .val (.long (F2 p0)), .second, .unset, .unset, .unset, .unset, .unset, .unset, .unset, .unset, .unset, .unset, .unset, .unset, .unset, .unset, .unset, .unset, .unset, .unset] [(.ref b1)])) _
    refine st7.trans ?_
    show Steps p.tables e below (T7.setTop (mkF m 22 #[.val (.long p0), .second, .val (.long p1), .second, .val (.ref b1), .val (.long (F2 p0)), .second, .unset, .unset, .unset, .unset, .unset, .unset, .unset, .unset, .unset, .unset, .unset, .unset, .unset, .unset, .unset, .unset, .unset, .unset] [(.long (F2 (p0 + (-7046029254386353131 : Int64))))])) _
    refine XS.lstore X7.here hx rfl (hb hby at_22) rfl (l' := #[.val (.long p0), .second, .val (.long p1), .second, .val (.ref b1), .val (.long (F2 p0)), .second, .val (.long (F2 (p0 + (-7046029254386353131 : Int64)))), .second, .unset, .unset, .unset, .unset, .unset, .unset, .unset, .unset, .unset, .unset, .unset, .unset, .unset, .unset, .unset, .unset]) rfl ?_
    show Steps p.tables e below (T7.setTop (mkF m 24 #[.val (.long p0), .second, .val (.long p1), .second, .val (.ref b1), .val (.long (F2 p0)), .second, .val (.long (F2 (p0 + (-7046029254386353131 : Int64)))), .second, .unset, .unset, .unset, .unset, .unset, .unset, .unset, .unset, .unset, .unset, .unset, .unset, .unset, .unset, .unset, .unset] [])) _
    refine st10 _ ?_
    show Steps p.tables e below (T10.setTop (mkF m 27 #[.val (.long p0), .second, .val (.long p1), .second, .val (.ref b1), .val (.long (F2 p0)), .second, .val (.long (F2 (p0 + (-7046029254386353131 : Int64)))), .second, .unset, .unset, .unset, .unset, .unset, .unset, .unset, .unset, .unset, .unset, .unset, .unset, .unset, .unset, .unset, .unset] [(.ref b10)])) _
    refine XS.dup X10.here hx rfl (hb hby at_27) rfl rfl ?_
    show Steps p.tables e below (T10.setTop (mkF m 28 #[.val (.long p0), .second, .val (.long p1), .second, .val (.ref b1), .val (.long (F2 p0)), .second, .val (.long (F2 (p0 + (-7046029254386353131 : Int64)))), .second, .unset, .unset, .unset, .unset, .unset, .unset, .unset, .unset, .unset, .unset, .unset, .unset, .unset, .unset, .unset, .unset] [(.ref b10), (.ref b10)])) _
    refine XS.lloadN X10.here hx rfl (hb hby at_28) rfl ?_
    show Steps p.tables e below (T10.setTop (mkF m 29 #[.val (.long p0), .second, .val (.long p1), .second, .val (.ref b1), .val (.long (F2 p0)), .second, .val (.long (F2 (p0 + (-7046029254386353131 : Int64)))), .second, .unset, .unset, .unset, .unset, .unset, .unset, .unset, .unset, .unset, .unset, .unset, .unset, .unset, .unset, .unset, .unset] [(.long p0), (.ref b10), (.ref b10)])) _
    refine X10.ldc2Long hx hown (mvT hZ (hw _ (List.mem_of_getElem? (i := 19) rfl))) (g := (mkF m 29 #[.val (.long p0), .second, .val (.long p1), .second, .val (.ref b1), .val (.long (F2 p0)), .second, .val (.long (F2 (p0 + (-7046029254386353131 : Int64)))), .second, .unset, .unset, .unset, .unset, .unset, .unset, .unset, .unset, .unset, .unset, .unset, .unset, .unset, .unset, .unset, .unset] [(.long p0), (.ref b10), (.ref b10)])) rfl (hb hby at_29) _ ?_
    show Steps p.tables e below (T10.setTop (mkF m 32 #[.val (.long p0), .second, .val (.long p1), .second, .val (.ref b1), .val (.long (F2 p0)), .second, .val (.long (F2 (p0 + (-7046029254386353131 : Int64)))), .second, .unset, .unset, .unset, .unset, .unset, .unset, .unset, .unset, .unset, .unset, .unset, .unset, .unset, .unset, .unset, .unset] [(.long (-7046029254386353131 : Int64)), (.long p0), (.ref b10), (.ref b10)])) _
    refine XS.ladd X10.here hx rfl (hb hby at_32) rfl ?_
    show Steps p.tables e below (T10.setTop (mkF m 33 #[.val (.long p0), .second, .val (.long p1), .second, .val (.ref b1), .val (.long (F2 p0)), .second, .val (.long (F2 (p0 + (-7046029254386353131 : Int64)))), .second, .unset, .unset, .unset, .unset, .unset, .unset, .unset, .unset, .unset, .unset, .unset, .unset, .unset, .unset, .unset, .unset] [(.long (p0 + (-7046029254386353131 : Int64))), (.ref b10), (.ref b10)])) _
    refine st14.trans ?_
    show Steps p.tables e below (T14.setTop (mkF m 36 #[.val (.long p0), .second, .val (.long p1), .second, .val (.ref b1), .val (.long (F2 p0)), .second, .val (.long (F2 (p0 + (-7046029254386353131 : Int64)))), .second, .unset, .unset, .unset, .unset, .unset, .unset, .unset, .unset, .unset, .unset, .unset, .unset, .unset, .unset, .unset, .unset] [(.ref b10)])) _
    refine XS.astore X14.here hx rfl (hb hby at_36) rfl rfl (l' := #[.val (.long p0), .second, .val (.long p1), .second, .val (.ref b1), .val (.long (F2 p0)), .second, .val (.long (F2 (p0 + (-7046029254386353131 : Int64)))), .second, .val (.ref b10), .unset, .unset, .unset, .unset, .unset, .unset, .unset, .unset, .unset, .unset, .unset, .unset, .unset, .unset, .unset]) rfl ?_
    show Steps p.tables e below (T14.setTop (mkF m 38 #[.val (.long p0), .second, .val (.long p1), .second, .val (.ref b1), .val (.long (F2 p0)), .second, .val (.long (F2 (p0 + (-7046029254386353131 : Int64)))), .second, .val (.ref b10), .unset, .unset, .unset, .unset, .unset, .unset, .unset, .unset, .unset, .unset, .unset, .unset, .unset, .unset, .unset] [])) _
    refine XS.aload X14.here hx rfl (hb hby at_38) rfl rfl ?_
    show Steps p.tables e below (T14.setTop (mkF m 40 #[.val (.long p0), .second, .val (.long p1), .second, .val (.ref b1), .val (.long (F2 p0)), .second, .val (.long (F2 (p0 + (-7046029254386353131 : Int64)))), .second, .val (.ref b10), .unset, .unset, .unset, .unset, .unset, .unset, .unset, .unset, .unset, .unset, .unset, .unset, .unset, .unset, .unset] [(.ref b10)])) _
    refine st16.trans ?_
    show Steps p.tables e below (T16.setTop (mkF m 43 #[.val (.long p0), .second, .val (.long p1), .second, .val (.ref b1), .val (.long (F2 p0)), .second, .val (.long (F2 (p0 + (-7046029254386353131 : Int64)))), .second, .val (.ref b10), .unset, .unset, .unset, .unset, .unset, .unset, .unset, .unset, .unset, .unset, .unset, .unset, .unset, .unset, .unset] [(.long (F2 (p0 + (-7046029254386353131 : Int64))))])) _
    refine XS.lstore X16.here hx rfl (hb hby at_43) rfl (l' := #[.val (.long p0), .second, .val (.long p1), .second, .val (.ref b1), .val (.long (F2 p0)), .second, .val (.long (F2 (p0 + (-7046029254386353131 : Int64)))), .second, .val (.ref b10), .val (.long (F2 (p0 + (-7046029254386353131 : Int64)))), .second, .unset, .unset, .unset, .unset, .unset, .unset, .unset, .unset, .unset, .unset, .unset, .unset, .unset]) rfl ?_
    show Steps p.tables e below (T16.setTop (mkF m 45 #[.val (.long p0), .second, .val (.long p1), .second, .val (.ref b1), .val (.long (F2 p0)), .second, .val (.long (F2 (p0 + (-7046029254386353131 : Int64)))), .second, .val (.ref b10), .val (.long (F2 (p0 + (-7046029254386353131 : Int64)))), .second, .unset, .unset, .unset, .unset, .unset, .unset, .unset, .unset, .unset, .unset, .unset, .unset, .unset] [])) _
    refine st19 _ ?_
    show Steps p.tables e below (T19.setTop (mkF m 48 #[.val (.long p0), .second, .val (.long p1), .second, .val (.ref b1), .val (.long (F2 p0)), .second, .val (.long (F2 (p0 + (-7046029254386353131 : Int64)))), .second, .val (.ref b10), .val (.long (F2 (p0 + (-7046029254386353131 : Int64)))), .second, .unset, .unset, .unset, .unset, .unset, .unset, .unset, .unset, .unset, .unset, .unset, .unset, .unset] [(.ref b19)])) _
    refine XS.dup X19.here hx rfl (hb hby at_48) rfl rfl ?_
    show Steps p.tables e below (T19.setTop (mkF m 49 #[.val (.long p0), .second, .val (.long p1), .second, .val (.ref b1), .val (.long (F2 p0)), .second, .val (.long (F2 (p0 + (-7046029254386353131 : Int64)))), .second, .val (.ref b10), .val (.long (F2 (p0 + (-7046029254386353131 : Int64)))), .second, .unset, .unset, .unset, .unset, .unset, .unset, .unset, .unset, .unset, .unset, .unset, .unset, .unset] [(.ref b19), (.ref b19)])) _
    refine XS.lloadN X19.here hx rfl (hb hby at_49) rfl ?_
    show Steps p.tables e below (T19.setTop (mkF m 50 #[.val (.long p0), .second, .val (.long p1), .second, .val (.ref b1), .val (.long (F2 p0)), .second, .val (.long (F2 (p0 + (-7046029254386353131 : Int64)))), .second, .val (.ref b10), .val (.long (F2 (p0 + (-7046029254386353131 : Int64)))), .second, .unset, .unset, .unset, .unset, .unset, .unset, .unset, .unset, .unset, .unset, .unset, .unset, .unset] [(.long p1), (.ref b19), (.ref b19)])) _
    refine st24.trans ?_
    show Steps p.tables e below (T24.setTop (mkF m 53 #[.val (.long p0), .second, .val (.long p1), .second, .val (.ref b1), .val (.long (F2 p0)), .second, .val (.long (F2 (p0 + (-7046029254386353131 : Int64)))), .second, .val (.ref b10), .val (.long (F2 (p0 + (-7046029254386353131 : Int64)))), .second, .unset, .unset, .unset, .unset, .unset, .unset, .unset, .unset, .unset, .unset, .unset, .unset, .unset] [(.ref b19)])) _
    refine XS.astore X24.here hx rfl (hb hby at_53) rfl rfl (l' := #[.val (.long p0), .second, .val (.long p1), .second, .val (.ref b1), .val (.long (F2 p0)), .second, .val (.long (F2 (p0 + (-7046029254386353131 : Int64)))), .second, .val (.ref b10), .val (.long (F2 (p0 + (-7046029254386353131 : Int64)))), .second, .val (.ref b19), .unset, .unset, .unset, .unset, .unset, .unset, .unset, .unset, .unset, .unset, .unset, .unset]) rfl ?_
    show Steps p.tables e below (T24.setTop (mkF m 55 #[.val (.long p0), .second, .val (.long p1), .second, .val (.ref b1), .val (.long (F2 p0)), .second, .val (.long (F2 (p0 + (-7046029254386353131 : Int64)))), .second, .val (.ref b10), .val (.long (F2 (p0 + (-7046029254386353131 : Int64)))), .second, .val (.ref b19), .unset, .unset, .unset, .unset, .unset, .unset, .unset, .unset, .unset, .unset, .unset, .unset] [])) _
    refine XS.aload X24.here hx rfl (hb hby at_55) rfl rfl ?_
    show Steps p.tables e below (T24.setTop (mkF m 57 #[.val (.long p0), .second, .val (.long p1), .second, .val (.ref b1), .val (.long (F2 p0)), .second, .val (.long (F2 (p0 + (-7046029254386353131 : Int64)))), .second, .val (.ref b10), .val (.long (F2 (p0 + (-7046029254386353131 : Int64)))), .second, .val (.ref b19), .unset, .unset, .unset, .unset, .unset, .unset, .unset, .unset, .unset, .unset, .unset, .unset] [(.ref b19)])) _
    refine st26.trans ?_
    show Steps p.tables e below (T26.setTop (mkF m 60 #[.val (.long p0), .second, .val (.long p1), .second, .val (.ref b1), .val (.long (F2 p0)), .second, .val (.long (F2 (p0 + (-7046029254386353131 : Int64)))), .second, .val (.ref b10), .val (.long (F2 (p0 + (-7046029254386353131 : Int64)))), .second, .val (.ref b19), .unset, .unset, .unset, .unset, .unset, .unset, .unset, .unset, .unset, .unset, .unset, .unset] [(.long (F2 p1))])) _
    refine XS.lstore X26.here hx rfl (hb hby at_60) rfl (l' := #[.val (.long p0), .second, .val (.long p1), .second, .val (.ref b1), .val (.long (F2 p0)), .second, .val (.long (F2 (p0 + (-7046029254386353131 : Int64)))), .second, .val (.ref b10), .val (.long (F2 (p0 + (-7046029254386353131 : Int64)))), .second, .val (.ref b19), .val (.long (F2 p1)), .second, .unset, .unset, .unset, .unset, .unset, .unset, .unset, .unset, .unset, .unset]) rfl ?_
    show Steps p.tables e below (T26.setTop (mkF m 62 #[.val (.long p0), .second, .val (.long p1), .second, .val (.ref b1), .val (.long (F2 p0)), .second, .val (.long (F2 (p0 + (-7046029254386353131 : Int64)))), .second, .val (.ref b10), .val (.long (F2 (p0 + (-7046029254386353131 : Int64)))), .second, .val (.ref b19), .val (.long (F2 p1)), .second, .unset, .unset, .unset, .unset, .unset, .unset, .unset, .unset, .unset, .unset] [])) _
    refine st29 _ ?_
    show Steps p.tables e below (T29.setTop (mkF m 65 #[.val (.long p0), .second, .val (.long p1), .second, .val (.ref b1), .val (.long (F2 p0)), .second, .val (.long (F2 (p0 + (-7046029254386353131 : Int64)))), .second, .val (.ref b10), .val (.long (F2 (p0 + (-7046029254386353131 : Int64)))), .second, .val (.ref b19), .val (.long (F2 p1)), .second, .unset, .unset, .unset, .unset, .unset, .unset, .unset, .unset, .unset, .unset] [(.ref b29)])) _
    exact kk
  have z37 : n0 ≤ _ := (Nat.le_trans z33 E29.1)
  obtain ⟨_, _, ⟨T36, L36, k36, n36⟩, -, X36, ⟨Lc36, hQ36, l36, y36, z36⟩, st36⟩ := X29.specialBack hx (y := (⟨"org/wayfold/generate/RandomSource", "<init>", "(J)V"⟩ : MethodName)) rfl hown (mvT hZ (hw _ (List.mem_of_getElem? (i := 3) rfl))) (mvT hZ (hw _ (List.mem_of_getElem? (i := 4) rfl))) (mvT hZ (hw _ (List.mem_of_getElem? (i := 5) rfl))) (by decide) (backOf (W := 1) (rm1 l Z a0 hw [] b29 (7046029254386353131 : Int64) (0 : Int64) h29 n0 z37 A29 F29_10 ge_b29) hZ (hw _ (List.mem_of_getElem? (i := 5) rfl)) (hw _ (List.mem_of_getElem? (i := 2) rfl)) (by decide) (by decide)) (g := (mkF m 69 #[.val (.long p0), .second, .val (.long p1), .second, .val (.ref b1), .val (.long (F2 p0)), .second, .val (.long (F2 (p0 + (-7046029254386353131 : Int64)))), .second, .val (.ref b10), .val (.long (F2 (p0 + (-7046029254386353131 : Int64)))), .second, .val (.ref b19), .val (.long (F2 p1)), .second, .unset, .unset, .unset, .unset, .unset, .unset, .unset, .unset, .unset, .unset] [(.long (7046029254386353131 : Int64)), (.ref b29), (.ref b29)])) rfl (by rw [hml]; rfl) (Steps.refl _) (a := b29) (argsL := [(.long (7046029254386353131 : Int64))]) (rest := [(.ref b29)]) (lenOf pd_0 rfl) rfl (by show 2 * 0 + _ ≤ _; exact Nat.le_of_eq rfl) (hb hby at_69) (fun _ _ => ⟨rfl, e29, (by decide : 4 + 0 ≤ _), (by decide : 4 + 0 ≤ _)⟩)
  dsimp only [Pt.U, Pt.locs, Pt.cells, Pt.slots] at X36 l36 y36 z36 st36 hQ36
  subst l36 y36 z36
  obtain ⟨rfl, Nq36, K36, q36_0⟩ := hQ36
  have N36 := Fr.app N26 Nq36
  have f39 := (Exa.keep A29 K36)
  have z40 : n0 ≤ _ := (Nat.le_trans z37 K36.1)
  obtain ⟨cq38, kq38, q38a, q38b, q38c⟩ := isOf hZ rfl f39
  obtain ⟨_, _, ⟨T38, L38, k38, n38⟩, -, X38, ⟨Lc38, hQ38, l38, y38, z38⟩, st38⟩ := X36.virtualBack hx (y := (⟨"org/wayfold/generate/RandomSource", "next", "()J"⟩ : MethodName)) (z := (⟨"org/wayfold/generate/RandomSource", "next", "()J"⟩ : MethodName)) hown (mvT hZ (hw _ (List.mem_of_getElem? (i := 11) rfl))) (mvT hZ (hw _ (List.mem_of_getElem? (i := 12) rfl))) (notFace_of_selects (args := #[]) (mvT hZ (hw _ (List.mem_of_getElem? (i := 14) rfl)))) (mvT hZ (hw _ (List.mem_of_getElem? (i := 14) rfl))) (mvT hZ (hw _ (List.mem_of_getElem? (i := 13) rfl))) (by decide) (backOf (W := 0) (rm2 l Z a0 hw [] b29 (7046029254386353131 : Int64) T36.heap n0 z40 f39 q36_0 ge_b29) hZ (hw _ (List.mem_of_getElem? (i := 15) rfl)) (hw _ (List.mem_of_getElem? (i := 2) rfl)) (by decide) (by decide)) q38a q38c (g := (mkF m 76 #[.val (.long p0), .second, .val (.long p1), .second, .val (.ref b1), .val (.long (F2 p0)), .second, .val (.long (F2 (p0 + (-7046029254386353131 : Int64)))), .second, .val (.ref b10), .val (.long (F2 (p0 + (-7046029254386353131 : Int64)))), .second, .val (.ref b19), .val (.long (F2 p1)), .second, .val (.ref b29), .unset, .unset, .unset, .unset, .unset, .unset, .unset, .unset, .unset] [(.ref b29)])) rfl (by rw [hml]; rfl) (Steps.refl _) (argsL := []) (rest := []) (lenOf pd_1 rfl) rfl (by show 2 * 0 + _ ≤ _; exact Nat.le_of_eq rfl) (hb hby at_76) (fun _ _ => ⟨rfl, rfl, (by decide : 4 + 0 ≤ _), (by decide : 4 + 0 ≤ _)⟩)
  dsimp only [Pt.U, Pt.locs, Pt.cells, Pt.slots] at X38 l38 y38 z38 st38 hQ38
  subst l38 y38 z38
  obtain ⟨rfl, Nq38, K38, q38_0⟩ := hQ38
  have N38 := Fr.app N36 Nq38
  have q38_0' : Fld Z T38.heap b29 "org/wayfold/generate/RandomSource" "state" "J" (.long (0 : Int64)) := q38_0
  obtain ⟨T41, h41, X41, e41, E41, A41, D41, -, st41⟩ := newO X38 hx hZ hown (hw _ (List.mem_of_getElem? (i := 0) rfl)) (hw _ (List.mem_of_getElem? (i := 1) rfl)) (hw _ (List.mem_of_getElem? (i := 2) rfl)) rfl (g := (mkF m 81 #[.val (.long p0), .second, .val (.long p1), .second, .val (.ref b1), .val (.long (F2 p0)), .second, .val (.long (F2 (p0 + (-7046029254386353131 : Int64)))), .second, .val (.ref b10), .val (.long (F2 (p0 + (-7046029254386353131 : Int64)))), .second, .val (.ref b19), .val (.long (F2 p1)), .second, .val (.ref b29), .val (.long (F2 (7046029254386353131 : Int64))), .second, .unset, .unset, .unset, .unset, .unset, .unset, .unset] [])) rfl (hb hby at_81) (by decide) (by decide)
  have f42 := (Exa.keep (Exa.keep (Exa.ext E29 f30) K36) K38)
  have f43 := (Exa.keep (Exa.keep (Exa.ext E29 f31) K36) K38)
  have f44 := (Exa.keep (Exa.keep (Exa.ext E29 f32) K36) K38)
  have f45 := (Exa.keep f39 K38)
  have z46 : n0 ≤ _ := (Nat.le_trans z40 K38.1)
  have k47 : Keep h0 T38.heap [] := (Keep.trans (Keep.trans (Keep.ext k34 E29) K36 (allS (Or.inr sz_b29) all0)) K38 (allS (Or.inr sz_b29) all0))
  obtain ⟨b41, g_b41⟩ : ∃ z, z = T38.heap.size := ⟨_, rfl⟩
  rw [← g_b41] at A41 D41 st41
  have ne_b1_b41 : b1 ≠ b41 := Nat.ne_of_lt (Nat.lt_of_lt_of_le f42.lt (Nat.le_of_eq g_b41.symm))
  have ne_b10_b41 : b10 ≠ b41 := Nat.ne_of_lt (Nat.lt_of_lt_of_le f43.lt (Nat.le_of_eq g_b41.symm))
  have ne_b19_b41 : b19 ≠ b41 := Nat.ne_of_lt (Nat.lt_of_lt_of_le f44.lt (Nat.le_of_eq g_b41.symm))
  have ne_b29_b41 : b29 ≠ b41 := Nat.ne_of_lt (Nat.lt_of_lt_of_le f45.lt (Nat.le_of_eq g_b41.symm))
  have ge_b41 : n0 ≤ b41 := Nat.le_trans z46 (Nat.le_of_eq g_b41.symm)
  have sz_b41 : h0.size ≤ b41 := Nat.le_trans k47.1 (Nat.le_of_eq g_b41.symm)
  have F41_10 : Fld Z h41 b41 "org/wayfold/generate/RandomSource" "state" "J" (.long (0 : Int64)) := D41 (Or.inl (hw _ (List.mem_of_getElem? (i := 10) rfl))) (ty := .long) (by decide)
  have z49 : n0 ≤ _ := (Nat.le_trans z46 E41.1)
  obtain ⟨_, _, ⟨T48, L48, k48, n48⟩, -, X48, ⟨Lc48, hQ48, l48, y48, z48⟩, st48⟩ := X41.specialBack hx (y := (⟨"org/wayfold/generate/RandomSource", "<init>", "(J)V"⟩ : MethodName)) rfl hown (mvT hZ (hw _ (List.mem_of_getElem? (i := 3) rfl))) (mvT hZ (hw _ (List.mem_of_getElem? (i := 4) rfl))) (mvT hZ (hw _ (List.mem_of_getElem? (i := 5) rfl))) (by decide) (backOf (W := 1) (rm1 l Z a0 hw [] b41 (-2177342773878488077 : Int64) (0 : Int64) h41 n0 z49 A41 F41_10 ge_b41) hZ (hw _ (List.mem_of_getElem? (i := 5) rfl)) (hw _ (List.mem_of_getElem? (i := 2) rfl)) (by decide) (by decide)) (g := (mkF m 88 #[.val (.long p0), .second, .val (.long p1), .second, .val (.ref b1), .val (.long (F2 p0)), .second, .val (.long (F2 (p0 + (-7046029254386353131 : Int64)))), .second, .val (.ref b10), .val (.long (F2 (p0 + (-7046029254386353131 : Int64)))), .second, .val (.ref b19), .val (.long (F2 p1)), .second, .val (.ref b29), .val (.long (F2 (7046029254386353131 : Int64))), .second, .unset, .unset, .unset, .unset, .unset, .unset, .unset] [(.long (-2177342773878488077 : Int64)), (.ref b41), (.ref b41)])) rfl (by rw [hml]; rfl) (Steps.refl _) (a := b41) (argsL := [(.long (-2177342773878488077 : Int64))]) (rest := [(.ref b41)]) (lenOf pd_0 rfl) rfl (by show 2 * 0 + _ ≤ _; exact Nat.le_of_eq rfl) (hb hby at_88) (fun _ _ => ⟨rfl, e41, (by decide : 5 + 0 ≤ _), (by decide : 5 + 0 ≤ _)⟩)
  dsimp only [Pt.U, Pt.locs, Pt.cells, Pt.slots] at X48 l48 y48 z48 st48 hQ48
  subst l48 y48 z48
  obtain ⟨rfl, Nq48, K48, q48_0⟩ := hQ48
  have N48 := Fr.app N38 Nq48
  have f51 := (Exa.keep A41 K48)
  have z52 : n0 ≤ _ := (Nat.le_trans z49 K48.1)
  obtain ⟨cq50, kq50, q50a, q50b, q50c⟩ := isOf hZ rfl f51
  obtain ⟨_, _, ⟨T50, L50, k50, n50⟩, -, X50, ⟨Lc50, hQ50, l50, y50, z50⟩, st50⟩ := X48.virtualBack hx (y := (⟨"org/wayfold/generate/RandomSource", "next", "()J"⟩ : MethodName)) (z := (⟨"org/wayfold/generate/RandomSource", "next", "()J"⟩ : MethodName)) hown (mvT hZ (hw _ (List.mem_of_getElem? (i := 11) rfl))) (mvT hZ (hw _ (List.mem_of_getElem? (i := 12) rfl))) (notFace_of_selects (args := #[]) (mvT hZ (hw _ (List.mem_of_getElem? (i := 14) rfl)))) (mvT hZ (hw _ (List.mem_of_getElem? (i := 14) rfl))) (mvT hZ (hw _ (List.mem_of_getElem? (i := 13) rfl))) (by decide) (backOf (W := 0) (rm2 l Z a0 hw [] b41 (-2177342773878488077 : Int64) T48.heap n0 z52 f51 q48_0 ge_b41) hZ (hw _ (List.mem_of_getElem? (i := 15) rfl)) (hw _ (List.mem_of_getElem? (i := 2) rfl)) (by decide) (by decide)) q50a q50c (g := (mkF m 95 #[.val (.long p0), .second, .val (.long p1), .second, .val (.ref b1), .val (.long (F2 p0)), .second, .val (.long (F2 (p0 + (-7046029254386353131 : Int64)))), .second, .val (.ref b10), .val (.long (F2 (p0 + (-7046029254386353131 : Int64)))), .second, .val (.ref b19), .val (.long (F2 p1)), .second, .val (.ref b29), .val (.long (F2 (7046029254386353131 : Int64))), .second, .val (.ref b41), .unset, .unset, .unset, .unset, .unset, .unset] [(.ref b41)])) rfl (by rw [hml]; rfl) (Steps.refl _) (argsL := []) (rest := []) (lenOf pd_1 rfl) rfl (by show 2 * 0 + _ ≤ _; exact Nat.le_of_eq rfl) (hb hby at_95) (fun _ _ => ⟨rfl, rfl, (by decide : 5 + 0 ≤ _), (by decide : 5 + 0 ≤ _)⟩)
  dsimp only [Pt.U, Pt.locs, Pt.cells, Pt.slots] at X50 l50 y50 z50 st50 hQ50
  subst l50 y50 z50
  obtain ⟨rfl, Nq50, K50, q50_0⟩ := hQ50
  have N50 := Fr.app N48 Nq50
  have q50_0' : Fld Z T50.heap b41 "org/wayfold/generate/RandomSource" "state" "J" (.long (-9223372028264841208 : Int64)) := q50_0
  have P53 : ∀ t, Steps p.tables e below (T50.setTop (mkF m 118 #[.val (.long p0), .second, .val (.long p1), .second, .val (.ref b1), .val (.long (F2 p0)), .second, .val (.long (F2 (p0 + (-7046029254386353131 : Int64)))), .second, .val (.ref b10), .val (.long (F2 (p0 + (-7046029254386353131 : Int64)))), .second, .val (.ref b19), .val (.long (F2 p1)), .second, .val (.ref b29), .val (.long (F2 (7046029254386353131 : Int64))), .second, .val (.ref b41), .val (.long (F2 (-2177342773878488077 : Int64))), .second, .val (.int (1 : Int32)), .unset, .unset, .unset] [(.int (XT.cmpL p0 p1))])) t → Steps p.tables e below (s₁.setTop (entryFrame m #[(.long p0), (.long p1)] maxLocals)) t := by
    intro t kk
    refine P35 _ ?_
    show Steps p.tables e below (T29.setTop (mkF m 65 #[.val (.long p0), .second, .val (.long p1), .second, .val (.ref b1), .val (.long (F2 p0)), .second, .val (.long (F2 (p0 + (-7046029254386353131 : Int64)))), .second, .val (.ref b10), .val (.long (F2 (p0 + (-7046029254386353131 : Int64)))), .second, .val (.ref b19), .val (.long (F2 p1)), .second, .unset, .unset, .unset, .unset, .unset, .unset, .unset, .unset, .unset, .unset] [(.ref b29)])) _
    refine XS.dup X29.here hx rfl (hb hby at_65) rfl rfl ?_
    show Steps p.tables e below (T29.setTop (mkF m 66 #[.val (.long p0), .second, .val (.long p1), .second, .val (.ref b1), .val (.long (F2 p0)), .second, .val (.long (F2 (p0 + (-7046029254386353131 : Int64)))), .second, .val (.ref b10), .val (.long (F2 (p0 + (-7046029254386353131 : Int64)))), .second, .val (.ref b19), .val (.long (F2 p1)), .second, .unset, .unset, .unset, .unset, .unset, .unset, .unset, .unset, .unset, .unset] [(.ref b29), (.ref b29)])) _
    refine X29.ldc2Long hx hown (mvT hZ (hw _ (List.mem_of_getElem? (i := 20) rfl))) (g := (mkF m 66 #[.val (.long p0), .second, .val (.long p1), .second, .val (.ref b1), .val (.long (F2 p0)), .second, .val (.long (F2 (p0 + (-7046029254386353131 : Int64)))), .second, .val (.ref b10), .val (.long (F2 (p0 + (-7046029254386353131 : Int64)))), .second, .val (.ref b19), .val (.long (F2 p1)), .second, .unset, .unset, .unset, .unset, .unset, .unset, .unset, .unset, .unset, .unset] [(.ref b29), (.ref b29)])) rfl (hb hby at_66) _ ?_
    show Steps p.tables e below (T29.setTop (mkF m 69 #[.val (.long p0), .second, .val (.long p1), .second, .val (.ref b1), .val (.long (F2 p0)), .second, .val (.long (F2 (p0 + (-7046029254386353131 : Int64)))), .second, .val (.ref b10), .val (.long (F2 (p0 + (-7046029254386353131 : Int64)))), .second, .val (.ref b19), .val (.long (F2 p1)), .second, .unset, .unset, .unset, .unset, .unset, .unset, .unset, .unset, .unset, .unset] [(.long (7046029254386353131 : Int64)), (.ref b29), (.ref b29)])) _
    refine st36.trans ?_
    show Steps p.tables e below (T36.setTop (mkF m 72 #[.val (.long p0), .second, .val (.long p1), .second, .val (.ref b1), .val (.long (F2 p0)), .second, .val (.long (F2 (p0 + (-7046029254386353131 : Int64)))), .second, .val (.ref b10), .val (.long (F2 (p0 + (-7046029254386353131 : Int64)))), .second, .val (.ref b19), .val (.long (F2 p1)), .second, .unset, .unset, .unset, .unset, .unset, .unset, .unset, .unset, .unset, .unset] [(.ref b29)])) _
    refine XS.astore X36.here hx rfl (hb hby at_72) rfl rfl (l' := #[.val (.long p0), .second, .val (.long p1), .second, .val (.ref b1), .val (.long (F2 p0)), .second, .val (.long (F2 (p0 + (-7046029254386353131 : Int64)))), .second, .val (.ref b10), .val (.long (F2 (p0 + (-7046029254386353131 : Int64)))), .second, .val (.ref b19), .val (.long (F2 p1)), .second, .val (.ref b29), .unset, .unset, .unset, .unset, .unset, .unset, .unset, .unset, .unset]) rfl ?_
    show Steps p.tables e below (T36.setTop (mkF m 74 #[.val (.long p0), .second, .val (.long p1), .second, .val (.ref b1), .val (.long (F2 p0)), .second, .val (.long (F2 (p0 + (-7046029254386353131 : Int64)))), .second, .val (.ref b10), .val (.long (F2 (p0 + (-7046029254386353131 : Int64)))), .second, .val (.ref b19), .val (.long (F2 p1)), .second, .val (.ref b29), .unset, .unset, .unset, .unset, .unset, .unset, .unset, .unset, .unset] [])) _
    refine XS.aload X36.here hx rfl (hb hby at_74) rfl rfl ?_
    show Steps p.tables e below (T36.setTop (mkF m 76 #[.val (.long p0), .second, .val (.long p1), .second, .val (.ref b1), .val (.long (F2 p0)), .second, .val (.long (F2 (p0 + (-7046029254386353131 : Int64)))), .second, .val (.ref b10), .val (.long (F2 (p0 + (-7046029254386353131 : Int64)))), .second, .val (.ref b19), .val (.long (F2 p1)), .second, .val (.ref b29), .unset, .unset, .unset, .unset, .unset, .unset, .unset, .unset, .unset] [(.ref b29)])) _
    refine st38.trans ?_
    show Steps p.tables e below (T38.setTop (mkF m 79 #[.val (.long p0), .second, .val (.long p1), .second, .val (.ref b1), .val (.long (F2 p0)), .second, .val (.long (F2 (p0 + (-7046029254386353131 : Int64)))), .second, .val (.ref b10), .val (.long (F2 (p0 + (-7046029254386353131 : Int64)))), .second, .val (.ref b19), .val (.long (F2 p1)), .second, .val (.ref b29), .unset, .unset, .unset, .unset, .unset, .unset, .unset, .unset, .unset] [(.long (F2 (7046029254386353131 : Int64)))])) _
    refine XS.lstore X38.here hx rfl (hb hby at_79) rfl (l' := #[.val (.long p0), .second, .val (.long p1), .second, .val (.ref b1), .val (.long (F2 p0)), .second, .val (.long (F2 (p0 + (-7046029254386353131 : Int64)))), .second, .val (.ref b10), .val (.long (F2 (p0 + (-7046029254386353131 : Int64)))), .second, .val (.ref b19), .val (.long (F2 p1)), .second, .val (.ref b29), .val (.long (F2 (7046029254386353131 : Int64))), .second, .unset, .unset, .unset, .unset, .unset, .unset, .unset]) rfl ?_
    show Steps p.tables e below (T38.setTop (mkF m 81 #[.val (.long p0), .second, .val (.long p1), .second, .val (.ref b1), .val (.long (F2 p0)), .second, .val (.long (F2 (p0 + (-7046029254386353131 : Int64)))), .second, .val (.ref b10), .val (.long (F2 (p0 + (-7046029254386353131 : Int64)))), .second, .val (.ref b19), .val (.long (F2 p1)), .second, .val (.ref b29), .val (.long (F2 (7046029254386353131 : Int64))), .second, .unset, .unset, .unset, .unset, .unset, .unset, .unset] [])) _
    refine st41 _ ?_
    show Steps p.tables e below (T41.setTop (mkF m 84 #[.val (.long p0), .second, .val (.long p1), .second, .val (.ref b1), .val (.long (F2 p0)), .second, .val (.long (F2 (p0 + (-7046029254386353131 : Int64)))), .second, .val (.ref b10), .val (.long (F2 (p0 + (-7046029254386353131 : Int64)))), .second, .val (.ref b19), .val (.long (F2 p1)), .second, .val (.ref b29), .val (.long (F2 (7046029254386353131 : Int64))), .second, .unset, .unset, .unset, .unset, .unset, .unset, .unset] [(.ref b41)])) _
    refine XS.dup X41.here hx rfl (hb hby at_84) rfl rfl ?_
    show Steps p.tables e below (T41.setTop (mkF m 85 #[.val (.long p0), .second, .val (.long p1), .second, .val (.ref b1), .val (.long (F2 p0)), .second, .val (.long (F2 (p0 + (-7046029254386353131 : Int64)))), .second, .val (.ref b10), .val (.long (F2 (p0 + (-7046029254386353131 : Int64)))), .second, .val (.ref b19), .val (.long (F2 p1)), .second, .val (.ref b29), .val (.long (F2 (7046029254386353131 : Int64))), .second, .unset, .unset, .unset, .unset, .unset, .unset, .unset] [(.ref b41), (.ref b41)])) _
    refine X41.ldc2Long hx hown (mvT hZ (hw _ (List.mem_of_getElem? (i := 21) rfl))) (g := (mkF m 85 #[.val (.long p0), .second, .val (.long p1), .second, .val (.ref b1), .val (.long (F2 p0)), .second, .val (.long (F2 (p0 + (-7046029254386353131 : Int64)))), .second, .val (.ref b10), .val (.long (F2 (p0 + (-7046029254386353131 : Int64)))), .second, .val (.ref b19), .val (.long (F2 p1)), .second, .val (.ref b29), .val (.long (F2 (7046029254386353131 : Int64))), .second, .unset, .unset, .unset, .unset, .unset, .unset, .unset] [(.ref b41), (.ref b41)])) rfl (hb hby at_85) _ ?_
    show Steps p.tables e below (T41.setTop (mkF m 88 #[.val (.long p0), .second, .val (.long p1), .second, .val (.ref b1), .val (.long (F2 p0)), .second, .val (.long (F2 (p0 + (-7046029254386353131 : Int64)))), .second, .val (.ref b10), .val (.long (F2 (p0 + (-7046029254386353131 : Int64)))), .second, .val (.ref b19), .val (.long (F2 p1)), .second, .val (.ref b29), .val (.long (F2 (7046029254386353131 : Int64))), .second, .unset, .unset, .unset, .unset, .unset, .unset, .unset] [(.long (-2177342773878488077 : Int64)), (.ref b41), (.ref b41)])) _
    refine st48.trans ?_
    show Steps p.tables e below (T48.setTop (mkF m 91 #[.val (.long p0), .second, .val (.long p1), .second, .val (.ref b1), .val (.long (F2 p0)), .second, .val (.long (F2 (p0 + (-7046029254386353131 : Int64)))), .second, .val (.ref b10), .val (.long (F2 (p0 + (-7046029254386353131 : Int64)))), .second, .val (.ref b19), .val (.long (F2 p1)), .second, .val (.ref b29), .val (.long (F2 (7046029254386353131 : Int64))), .second, .unset, .unset, .unset, .unset, .unset, .unset, .unset] [(.ref b41)])) _
    refine XS.astore X48.here hx rfl (hb hby at_91) rfl rfl (l' := #[.val (.long p0), .second, .val (.long p1), .second, .val (.ref b1), .val (.long (F2 p0)), .second, .val (.long (F2 (p0 + (-7046029254386353131 : Int64)))), .second, .val (.ref b10), .val (.long (F2 (p0 + (-7046029254386353131 : Int64)))), .second, .val (.ref b19), .val (.long (F2 p1)), .second, .val (.ref b29), .val (.long (F2 (7046029254386353131 : Int64))), .second, .val (.ref b41), .unset, .unset, .unset, .unset, .unset, .unset]) rfl ?_
    show Steps p.tables e below (T48.setTop (mkF m 93 #[.val (.long p0), .second, .val (.long p1), .second, .val (.ref b1), .val (.long (F2 p0)), .second, .val (.long (F2 (p0 + (-7046029254386353131 : Int64)))), .second, .val (.ref b10), .val (.long (F2 (p0 + (-7046029254386353131 : Int64)))), .second, .val (.ref b19), .val (.long (F2 p1)), .second, .val (.ref b29), .val (.long (F2 (7046029254386353131 : Int64))), .second, .val (.ref b41), .unset, .unset, .unset, .unset, .unset, .unset] [])) _
    refine XS.aload X48.here hx rfl (hb hby at_93) rfl rfl ?_
    show Steps p.tables e below (T48.setTop (mkF m 95 #[.val (.long p0), .second, .val (.long p1), .second, .val (.ref b1), .val (.long (F2 p0)), .second, .val (.long (F2 (p0 + (-7046029254386353131 : Int64)))), .second, .val (.ref b10), .val (.long (F2 (p0 + (-7046029254386353131 : Int64)))), .second, .val (.ref b19), .val (.long (F2 p1)), .second, .val (.ref b29), .val (.long (F2 (7046029254386353131 : Int64))), .second, .val (.ref b41), .unset, .unset, .unset, .unset, .unset, .unset] [(.ref b41)])) _
    refine st50.trans ?_
    show Steps p.tables e below (T50.setTop (mkF m 98 #[.val (.long p0), .second, .val (.long p1), .second, .val (.ref b1), .val (.long (F2 p0)), .second, .val (.long (F2 (p0 + (-7046029254386353131 : Int64)))), .second, .val (.ref b10), .val (.long (F2 (p0 + (-7046029254386353131 : Int64)))), .second, .val (.ref b19), .val (.long (F2 p1)), .second, .val (.ref b29), .val (.long (F2 (7046029254386353131 : Int64))), .second, .val (.ref b41), .unset, .unset, .unset, .unset, .unset, .unset] [(.long (F2 (-2177342773878488077 : Int64)))])) _
    refine XS.lstore X50.here hx rfl (hb hby at_98) rfl (l' := #[.val (.long p0), .second, .val (.long p1), .second, .val (.ref b1), .val (.long (F2 p0)), .second, .val (.long (F2 (p0 + (-7046029254386353131 : Int64)))), .second, .val (.ref b10), .val (.long (F2 (p0 + (-7046029254386353131 : Int64)))), .second, .val (.ref b19), .val (.long (F2 p1)), .second, .val (.ref b29), .val (.long (F2 (7046029254386353131 : Int64))), .second, .val (.ref b41), .val (.long (F2 (-2177342773878488077 : Int64))), .second, .unset, .unset, .unset, .unset]) rfl ?_
    show Steps p.tables e below (T50.setTop (mkF m 100 #[.val (.long p0), .second, .val (.long p1), .second, .val (.ref b1), .val (.long (F2 p0)), .second, .val (.long (F2 (p0 + (-7046029254386353131 : Int64)))), .second, .val (.ref b10), .val (.long (F2 (p0 + (-7046029254386353131 : Int64)))), .second, .val (.ref b19), .val (.long (F2 p1)), .second, .val (.ref b29), .val (.long (F2 (7046029254386353131 : Int64))), .second, .val (.ref b41), .val (.long (F2 (-2177342773878488077 : Int64))), .second, .unset, .unset, .unset, .unset] [])) _
    refine XS.lload X50.here hx rfl (hb hby at_100) rfl ?_
    show Steps p.tables e below (T50.setTop (mkF m 102 #[.val (.long p0), .second, .val (.long p1), .second, .val (.ref b1), .val (.long (F2 p0)), .second, .val (.long (F2 (p0 + (-7046029254386353131 : Int64)))), .second, .val (.ref b10), .val (.long (F2 (p0 + (-7046029254386353131 : Int64)))), .second, .val (.ref b19), .val (.long (F2 p1)), .second, .val (.ref b29), .val (.long (F2 (7046029254386353131 : Int64))), .second, .val (.ref b41), .val (.long (F2 (-2177342773878488077 : Int64))), .second, .unset, .unset, .unset, .unset] [(.long (F2 (p0 + (-7046029254386353131 : Int64))))])) _
    refine XS.lload X50.here hx rfl (hb hby at_102) rfl ?_
    show Steps p.tables e below (T50.setTop (mkF m 104 #[.val (.long p0), .second, .val (.long p1), .second, .val (.ref b1), .val (.long (F2 p0)), .second, .val (.long (F2 (p0 + (-7046029254386353131 : Int64)))), .second, .val (.ref b10), .val (.long (F2 (p0 + (-7046029254386353131 : Int64)))), .second, .val (.ref b19), .val (.long (F2 p1)), .second, .val (.ref b29), .val (.long (F2 (7046029254386353131 : Int64))), .second, .val (.ref b41), .val (.long (F2 (-2177342773878488077 : Int64))), .second, .unset, .unset, .unset, .unset] [(.long (F2 (p0 + (-7046029254386353131 : Int64)))), (.long (F2 (p0 + (-7046029254386353131 : Int64))))])) _
    refine XT.lcmp X50.here hx rfl (hb hby at_104) rfl ?_
    show Steps p.tables e below (T50.setTop (mkF m 105 #[.val (.long p0), .second, .val (.long p1), .second, .val (.ref b1), .val (.long (F2 p0)), .second, .val (.long (F2 (p0 + (-7046029254386353131 : Int64)))), .second, .val (.ref b10), .val (.long (F2 (p0 + (-7046029254386353131 : Int64)))), .second, .val (.ref b19), .val (.long (F2 p1)), .second, .val (.ref b29), .val (.long (F2 (7046029254386353131 : Int64))), .second, .val (.ref b41), .val (.long (F2 (-2177342773878488077 : Int64))), .second, .unset, .unset, .unset, .unset] [(.int (XT.cmpL (F2 (p0 + (-7046029254386353131 : Int64))) (F2 (p0 + (-7046029254386353131 : Int64)))))])) _
    refine XS.ifNo X50.here hx rfl (hb hby at_105) rfl (XT.ll_ne_f rfl) ?_
    show Steps p.tables e below (T50.setTop (mkF m 108 #[.val (.long p0), .second, .val (.long p1), .second, .val (.ref b1), .val (.long (F2 p0)), .second, .val (.long (F2 (p0 + (-7046029254386353131 : Int64)))), .second, .val (.ref b10), .val (.long (F2 (p0 + (-7046029254386353131 : Int64)))), .second, .val (.ref b19), .val (.long (F2 p1)), .second, .val (.ref b29), .val (.long (F2 (7046029254386353131 : Int64))), .second, .val (.ref b41), .val (.long (F2 (-2177342773878488077 : Int64))), .second, .unset, .unset, .unset, .unset] [])) _
    refine XS.iconst X50.here hx rfl (hb hby at_108) ?_
    show Steps p.tables e below (T50.setTop (mkF m 109 #[.val (.long p0), .second, .val (.long p1), .second, .val (.ref b1), .val (.long (F2 p0)), .second, .val (.long (F2 (p0 + (-7046029254386353131 : Int64)))), .second, .val (.ref b10), .val (.long (F2 (p0 + (-7046029254386353131 : Int64)))), .second, .val (.ref b19), .val (.long (F2 p1)), .second, .val (.ref b29), .val (.long (F2 (7046029254386353131 : Int64))), .second, .val (.ref b41), .val (.long (F2 (-2177342773878488077 : Int64))), .second, .unset, .unset, .unset, .unset] [(.int (1 : Int32))])) _
    refine XS.goto X50.here hx rfl (pc0 := 109) (pc' := 113) rfl (hb hby at_109) (by decide) (by decide) ?_
    show Steps p.tables e below (T50.setTop (mkF m 113 #[.val (.long p0), .second, .val (.long p1), .second, .val (.ref b1), .val (.long (F2 p0)), .second, .val (.long (F2 (p0 + (-7046029254386353131 : Int64)))), .second, .val (.ref b10), .val (.long (F2 (p0 + (-7046029254386353131 : Int64)))), .second, .val (.ref b19), .val (.long (F2 p1)), .second, .val (.ref b29), .val (.long (F2 (7046029254386353131 : Int64))), .second, .val (.ref b41), .val (.long (F2 (-2177342773878488077 : Int64))), .second, .unset, .unset, .unset, .unset] [(.int (1 : Int32))])) _
    refine XS.istore X50.here hx rfl (hb hby at_113) rfl (l' := #[.val (.long p0), .second, .val (.long p1), .second, .val (.ref b1), .val (.long (F2 p0)), .second, .val (.long (F2 (p0 + (-7046029254386353131 : Int64)))), .second, .val (.ref b10), .val (.long (F2 (p0 + (-7046029254386353131 : Int64)))), .second, .val (.ref b19), .val (.long (F2 p1)), .second, .val (.ref b29), .val (.long (F2 (7046029254386353131 : Int64))), .second, .val (.ref b41), .val (.long (F2 (-2177342773878488077 : Int64))), .second, .val (.int (1 : Int32)), .unset, .unset, .unset]) rfl ?_
    show Steps p.tables e below (T50.setTop (mkF m 115 #[.val (.long p0), .second, .val (.long p1), .second, .val (.ref b1), .val (.long (F2 p0)), .second, .val (.long (F2 (p0 + (-7046029254386353131 : Int64)))), .second, .val (.ref b10), .val (.long (F2 (p0 + (-7046029254386353131 : Int64)))), .second, .val (.ref b19), .val (.long (F2 p1)), .second, .val (.ref b29), .val (.long (F2 (7046029254386353131 : Int64))), .second, .val (.ref b41), .val (.long (F2 (-2177342773878488077 : Int64))), .second, .val (.int (1 : Int32)), .unset, .unset, .unset] [])) _
    refine XS.lloadN X50.here hx rfl (hb hby at_115) rfl ?_
    show Steps p.tables e below (T50.setTop (mkF m 116 #[.val (.long p0), .second, .val (.long p1), .second, .val (.ref b1), .val (.long (F2 p0)), .second, .val (.long (F2 (p0 + (-7046029254386353131 : Int64)))), .second, .val (.ref b10), .val (.long (F2 (p0 + (-7046029254386353131 : Int64)))), .second, .val (.ref b19), .val (.long (F2 p1)), .second, .val (.ref b29), .val (.long (F2 (7046029254386353131 : Int64))), .second, .val (.ref b41), .val (.long (F2 (-2177342773878488077 : Int64))), .second, .val (.int (1 : Int32)), .unset, .unset, .unset] [(.long p0)])) _
    refine XS.lloadN X50.here hx rfl (hb hby at_116) rfl ?_
    show Steps p.tables e below (T50.setTop (mkF m 117 #[.val (.long p0), .second, .val (.long p1), .second, .val (.ref b1), .val (.long (F2 p0)), .second, .val (.long (F2 (p0 + (-7046029254386353131 : Int64)))), .second, .val (.ref b10), .val (.long (F2 (p0 + (-7046029254386353131 : Int64)))), .second, .val (.ref b19), .val (.long (F2 p1)), .second, .val (.ref b29), .val (.long (F2 (7046029254386353131 : Int64))), .second, .val (.ref b41), .val (.long (F2 (-2177342773878488077 : Int64))), .second, .val (.int (1 : Int32)), .unset, .unset, .unset] [(.long p1), (.long p0)])) _
    refine XT.lcmp X50.here hx rfl (hb hby at_117) rfl ?_
    show Steps p.tables e below (T50.setTop (mkF m 118 #[.val (.long p0), .second, .val (.long p1), .second, .val (.ref b1), .val (.long (F2 p0)), .second, .val (.long (F2 (p0 + (-7046029254386353131 : Int64)))), .second, .val (.ref b10), .val (.long (F2 (p0 + (-7046029254386353131 : Int64)))), .second, .val (.ref b19), .val (.long (F2 p1)), .second, .val (.ref b29), .val (.long (F2 (7046029254386353131 : Int64))), .second, .val (.ref b41), .val (.long (F2 (-2177342773878488077 : Int64))), .second, .val (.int (1 : Int32)), .unset, .unset, .unset] [(.int (XT.cmpL p0 p1))])) _
    exact kk
  obtain ⟨i54, h_i54, P55⟩ : ∃ (i54 : Int32), i54 = (if p0 = p1 then (1 : Int32) else (0 : Int32)) ∧ ∀ t, Steps p.tables e below (T50.setTop (mkF m 126 #[.val (.long p0), .second, .val (.long p1), .second, .val (.ref b1), .val (.long (F2 p0)), .second, .val (.long (F2 (p0 + (-7046029254386353131 : Int64)))), .second, .val (.ref b10), .val (.long (F2 (p0 + (-7046029254386353131 : Int64)))), .second, .val (.ref b19), .val (.long (F2 p1)), .second, .val (.ref b29), .val (.long (F2 (7046029254386353131 : Int64))), .second, .val (.ref b41), .val (.long (F2 (-2177342773878488077 : Int64))), .second, .val (.int (1 : Int32)), .unset, .unset, .unset] [(.int i54)])) t → Steps p.tables e below (s₁.setTop (entryFrame m #[(.long p0), (.long p1)] maxLocals)) t := by
    by_cases c56 : p0 = p1
    · skip
      refine ⟨(1 : Int32), ((if_pos c56).trans rfl).symm, fun t kk => P53 t ?_⟩
      show Steps p.tables e below (T50.setTop (mkF m 118 #[.val (.long p0), .second, .val (.long p1), .second, .val (.ref b1), .val (.long (F2 p0)), .second, .val (.long (F2 (p0 + (-7046029254386353131 : Int64)))), .second, .val (.ref b10), .val (.long (F2 (p0 + (-7046029254386353131 : Int64)))), .second, .val (.ref b19), .val (.long (F2 p1)), .second, .val (.ref b29), .val (.long (F2 (7046029254386353131 : Int64))), .second, .val (.ref b41), .val (.long (F2 (-2177342773878488077 : Int64))), .second, .val (.int (1 : Int32)), .unset, .unset, .unset] [(.int (XT.cmpL p0 p1))])) _
      refine XS.ifNo X50.here hx rfl (hb hby at_118) rfl (XT.ll_ne_f c56) ?_
      show Steps p.tables e below (T50.setTop (mkF m 121 #[.val (.long p0), .second, .val (.long p1), .second, .val (.ref b1), .val (.long (F2 p0)), .second, .val (.long (F2 (p0 + (-7046029254386353131 : Int64)))), .second, .val (.ref b10), .val (.long (F2 (p0 + (-7046029254386353131 : Int64)))), .second, .val (.ref b19), .val (.long (F2 p1)), .second, .val (.ref b29), .val (.long (F2 (7046029254386353131 : Int64))), .second, .val (.ref b41), .val (.long (F2 (-2177342773878488077 : Int64))), .second, .val (.int (1 : Int32)), .unset, .unset, .unset] [])) _
      refine XS.iconst X50.here hx rfl (hb hby at_121) ?_
      show Steps p.tables e below (T50.setTop (mkF m 122 #[.val (.long p0), .second, .val (.long p1), .second, .val (.ref b1), .val (.long (F2 p0)), .second, .val (.long (F2 (p0 + (-7046029254386353131 : Int64)))), .second, .val (.ref b10), .val (.long (F2 (p0 + (-7046029254386353131 : Int64)))), .second, .val (.ref b19), .val (.long (F2 p1)), .second, .val (.ref b29), .val (.long (F2 (7046029254386353131 : Int64))), .second, .val (.ref b41), .val (.long (F2 (-2177342773878488077 : Int64))), .second, .val (.int (1 : Int32)), .unset, .unset, .unset] [(.int (1 : Int32))])) _
      refine XS.goto X50.here hx rfl (pc0 := 122) (pc' := 126) rfl (hb hby at_122) (by decide) (by decide) ?_
      show Steps p.tables e below (T50.setTop (mkF m 126 #[.val (.long p0), .second, .val (.long p1), .second, .val (.ref b1), .val (.long (F2 p0)), .second, .val (.long (F2 (p0 + (-7046029254386353131 : Int64)))), .second, .val (.ref b10), .val (.long (F2 (p0 + (-7046029254386353131 : Int64)))), .second, .val (.ref b19), .val (.long (F2 p1)), .second, .val (.ref b29), .val (.long (F2 (7046029254386353131 : Int64))), .second, .val (.ref b41), .val (.long (F2 (-2177342773878488077 : Int64))), .second, .val (.int (1 : Int32)), .unset, .unset, .unset] [(.int (1 : Int32))])) _
      exact kk
    · skip
      refine ⟨(0 : Int32), ((if_neg c56).trans rfl).symm, fun t kk => P53 t ?_⟩
      show Steps p.tables e below (T50.setTop (mkF m 118 #[.val (.long p0), .second, .val (.long p1), .second, .val (.ref b1), .val (.long (F2 p0)), .second, .val (.long (F2 (p0 + (-7046029254386353131 : Int64)))), .second, .val (.ref b10), .val (.long (F2 (p0 + (-7046029254386353131 : Int64)))), .second, .val (.ref b19), .val (.long (F2 p1)), .second, .val (.ref b29), .val (.long (F2 (7046029254386353131 : Int64))), .second, .val (.ref b41), .val (.long (F2 (-2177342773878488077 : Int64))), .second, .val (.int (1 : Int32)), .unset, .unset, .unset] [(.int (XT.cmpL p0 p1))])) _
      refine XS.ifYes X50.here hx rfl (pc0 := 118) (pc' := 125) rfl (hb hby at_118) rfl (XT.ll_ne_t c56) (by decide) (by decide) ?_
      show Steps p.tables e below (T50.setTop (mkF m 125 #[.val (.long p0), .second, .val (.long p1), .second, .val (.ref b1), .val (.long (F2 p0)), .second, .val (.long (F2 (p0 + (-7046029254386353131 : Int64)))), .second, .val (.ref b10), .val (.long (F2 (p0 + (-7046029254386353131 : Int64)))), .second, .val (.ref b19), .val (.long (F2 p1)), .second, .val (.ref b29), .val (.long (F2 (7046029254386353131 : Int64))), .second, .val (.ref b41), .val (.long (F2 (-2177342773878488077 : Int64))), .second, .val (.int (1 : Int32)), .unset, .unset, .unset] [])) _
      refine XS.iconst X50.here hx rfl (hb hby at_125) ?_
      show Steps p.tables e below (T50.setTop (mkF m 126 #[.val (.long p0), .second, .val (.long p1), .second, .val (.ref b1), .val (.long (F2 p0)), .second, .val (.long (F2 (p0 + (-7046029254386353131 : Int64)))), .second, .val (.ref b10), .val (.long (F2 (p0 + (-7046029254386353131 : Int64)))), .second, .val (.ref b19), .val (.long (F2 p1)), .second, .val (.ref b29), .val (.long (F2 (7046029254386353131 : Int64))), .second, .val (.ref b41), .val (.long (F2 (-2177342773878488077 : Int64))), .second, .val (.int (1 : Int32)), .unset, .unset, .unset] [(.int (0 : Int32))])) _
      exact kk
  have P57 : ∀ t, Steps p.tables e below (T50.setTop (mkF m 131 #[.val (.long p0), .second, .val (.long p1), .second, .val (.ref b1), .val (.long (F2 p0)), .second, .val (.long (F2 (p0 + (-7046029254386353131 : Int64)))), .second, .val (.ref b10), .val (.long (F2 (p0 + (-7046029254386353131 : Int64)))), .second, .val (.ref b19), .val (.long (F2 p1)), .second, .val (.ref b29), .val (.long (F2 (7046029254386353131 : Int64))), .second, .val (.ref b41), .val (.long (F2 (-2177342773878488077 : Int64))), .second, .val (.int (1 : Int32)), .unset, .unset, .unset] [(.int (XT.cmpL (F2 p0) (F2 p1))), (.int i54)])) t → Steps p.tables e below (s₁.setTop (entryFrame m #[(.long p0), (.long p1)] maxLocals)) t := by
    intro t kk
    refine P55 _ ?_
    show Steps p.tables e below (T50.setTop (mkF m 126 #[.val (.long p0), .second, .val (.long p1), .second, .val (.ref b1), .val (.long (F2 p0)), .second, .val (.long (F2 (p0 + (-7046029254386353131 : Int64)))), .second, .val (.ref b10), .val (.long (F2 (p0 + (-7046029254386353131 : Int64)))), .second, .val (.ref b19), .val (.long (F2 p1)), .second, .val (.ref b29), .val (.long (F2 (7046029254386353131 : Int64))), .second, .val (.ref b41), .val (.long (F2 (-2177342773878488077 : Int64))), .second, .val (.int (1 : Int32)), .unset, .unset, .unset] [(.int i54)])) _
    refine XS.lload X50.here hx rfl (hb hby at_126) rfl ?_
    show Steps p.tables e below (T50.setTop (mkF m 128 #[.val (.long p0), .second, .val (.long p1), .second, .val (.ref b1), .val (.long (F2 p0)), .second, .val (.long (F2 (p0 + (-7046029254386353131 : Int64)))), .second, .val (.ref b10), .val (.long (F2 (p0 + (-7046029254386353131 : Int64)))), .second, .val (.ref b19), .val (.long (F2 p1)), .second, .val (.ref b29), .val (.long (F2 (7046029254386353131 : Int64))), .second, .val (.ref b41), .val (.long (F2 (-2177342773878488077 : Int64))), .second, .val (.int (1 : Int32)), .unset, .unset, .unset] [(.long (F2 p0)), (.int i54)])) _
    refine XS.lload X50.here hx rfl (hb hby at_128) rfl ?_
    show Steps p.tables e below (T50.setTop (mkF m 130 #[.val (.long p0), .second, .val (.long p1), .second, .val (.ref b1), .val (.long (F2 p0)), .second, .val (.long (F2 (p0 + (-7046029254386353131 : Int64)))), .second, .val (.ref b10), .val (.long (F2 (p0 + (-7046029254386353131 : Int64)))), .second, .val (.ref b19), .val (.long (F2 p1)), .second, .val (.ref b29), .val (.long (F2 (7046029254386353131 : Int64))), .second, .val (.ref b41), .val (.long (F2 (-2177342773878488077 : Int64))), .second, .val (.int (1 : Int32)), .unset, .unset, .unset] [(.long (F2 p1)), (.long (F2 p0)), (.int i54)])) _
    refine XT.lcmp X50.here hx rfl (hb hby at_130) rfl ?_
    show Steps p.tables e below (T50.setTop (mkF m 131 #[.val (.long p0), .second, .val (.long p1), .second, .val (.ref b1), .val (.long (F2 p0)), .second, .val (.long (F2 (p0 + (-7046029254386353131 : Int64)))), .second, .val (.ref b10), .val (.long (F2 (p0 + (-7046029254386353131 : Int64)))), .second, .val (.ref b19), .val (.long (F2 p1)), .second, .val (.ref b29), .val (.long (F2 (7046029254386353131 : Int64))), .second, .val (.ref b41), .val (.long (F2 (-2177342773878488077 : Int64))), .second, .val (.int (1 : Int32)), .unset, .unset, .unset] [(.int (XT.cmpL (F2 p0) (F2 p1))), (.int i54)])) _
    exact kk
  obtain ⟨i58, h_i58, P59⟩ : ∃ (i58 : Int32), i58 = (if (F2 p0) = (F2 p1) then (1 : Int32) else (0 : Int32)) ∧ ∀ t, Steps p.tables e below (T50.setTop (mkF m 139 #[.val (.long p0), .second, .val (.long p1), .second, .val (.ref b1), .val (.long (F2 p0)), .second, .val (.long (F2 (p0 + (-7046029254386353131 : Int64)))), .second, .val (.ref b10), .val (.long (F2 (p0 + (-7046029254386353131 : Int64)))), .second, .val (.ref b19), .val (.long (F2 p1)), .second, .val (.ref b29), .val (.long (F2 (7046029254386353131 : Int64))), .second, .val (.ref b41), .val (.long (F2 (-2177342773878488077 : Int64))), .second, .val (.int (1 : Int32)), .unset, .unset, .unset] [(.int i58), (.int i54)])) t → Steps p.tables e below (s₁.setTop (entryFrame m #[(.long p0), (.long p1)] maxLocals)) t := by
    by_cases c60 : (F2 p0) = (F2 p1)
    · skip
      refine ⟨(1 : Int32), ((if_pos c60).trans rfl).symm, fun t kk => P57 t ?_⟩
      show Steps p.tables e below (T50.setTop (mkF m 131 #[.val (.long p0), .second, .val (.long p1), .second, .val (.ref b1), .val (.long (F2 p0)), .second, .val (.long (F2 (p0 + (-7046029254386353131 : Int64)))), .second, .val (.ref b10), .val (.long (F2 (p0 + (-7046029254386353131 : Int64)))), .second, .val (.ref b19), .val (.long (F2 p1)), .second, .val (.ref b29), .val (.long (F2 (7046029254386353131 : Int64))), .second, .val (.ref b41), .val (.long (F2 (-2177342773878488077 : Int64))), .second, .val (.int (1 : Int32)), .unset, .unset, .unset] [(.int (XT.cmpL (F2 p0) (F2 p1))), (.int i54)])) _
      refine XS.ifNo X50.here hx rfl (hb hby at_131) rfl (XT.ll_ne_f c60) ?_
      show Steps p.tables e below (T50.setTop (mkF m 134 #[.val (.long p0), .second, .val (.long p1), .second, .val (.ref b1), .val (.long (F2 p0)), .second, .val (.long (F2 (p0 + (-7046029254386353131 : Int64)))), .second, .val (.ref b10), .val (.long (F2 (p0 + (-7046029254386353131 : Int64)))), .second, .val (.ref b19), .val (.long (F2 p1)), .second, .val (.ref b29), .val (.long (F2 (7046029254386353131 : Int64))), .second, .val (.ref b41), .val (.long (F2 (-2177342773878488077 : Int64))), .second, .val (.int (1 : Int32)), .unset, .unset, .unset] [(.int i54)])) _
      refine XS.iconst X50.here hx rfl (hb hby at_134) ?_
      show Steps p.tables e below (T50.setTop (mkF m 135 #[.val (.long p0), .second, .val (.long p1), .second, .val (.ref b1), .val (.long (F2 p0)), .second, .val (.long (F2 (p0 + (-7046029254386353131 : Int64)))), .second, .val (.ref b10), .val (.long (F2 (p0 + (-7046029254386353131 : Int64)))), .second, .val (.ref b19), .val (.long (F2 p1)), .second, .val (.ref b29), .val (.long (F2 (7046029254386353131 : Int64))), .second, .val (.ref b41), .val (.long (F2 (-2177342773878488077 : Int64))), .second, .val (.int (1 : Int32)), .unset, .unset, .unset] [(.int (1 : Int32)), (.int i54)])) _
      refine XS.goto X50.here hx rfl (pc0 := 135) (pc' := 139) rfl (hb hby at_135) (by decide) (by decide) ?_
      show Steps p.tables e below (T50.setTop (mkF m 139 #[.val (.long p0), .second, .val (.long p1), .second, .val (.ref b1), .val (.long (F2 p0)), .second, .val (.long (F2 (p0 + (-7046029254386353131 : Int64)))), .second, .val (.ref b10), .val (.long (F2 (p0 + (-7046029254386353131 : Int64)))), .second, .val (.ref b19), .val (.long (F2 p1)), .second, .val (.ref b29), .val (.long (F2 (7046029254386353131 : Int64))), .second, .val (.ref b41), .val (.long (F2 (-2177342773878488077 : Int64))), .second, .val (.int (1 : Int32)), .unset, .unset, .unset] [(.int (1 : Int32)), (.int i54)])) _
      exact kk
    · skip
      refine ⟨(0 : Int32), ((if_neg c60).trans rfl).symm, fun t kk => P57 t ?_⟩
      show Steps p.tables e below (T50.setTop (mkF m 131 #[.val (.long p0), .second, .val (.long p1), .second, .val (.ref b1), .val (.long (F2 p0)), .second, .val (.long (F2 (p0 + (-7046029254386353131 : Int64)))), .second, .val (.ref b10), .val (.long (F2 (p0 + (-7046029254386353131 : Int64)))), .second, .val (.ref b19), .val (.long (F2 p1)), .second, .val (.ref b29), .val (.long (F2 (7046029254386353131 : Int64))), .second, .val (.ref b41), .val (.long (F2 (-2177342773878488077 : Int64))), .second, .val (.int (1 : Int32)), .unset, .unset, .unset] [(.int (XT.cmpL (F2 p0) (F2 p1))), (.int i54)])) _
      refine XS.ifYes X50.here hx rfl (pc0 := 131) (pc' := 138) rfl (hb hby at_131) rfl (XT.ll_ne_t c60) (by decide) (by decide) ?_
      show Steps p.tables e below (T50.setTop (mkF m 138 #[.val (.long p0), .second, .val (.long p1), .second, .val (.ref b1), .val (.long (F2 p0)), .second, .val (.long (F2 (p0 + (-7046029254386353131 : Int64)))), .second, .val (.ref b10), .val (.long (F2 (p0 + (-7046029254386353131 : Int64)))), .second, .val (.ref b19), .val (.long (F2 p1)), .second, .val (.ref b29), .val (.long (F2 (7046029254386353131 : Int64))), .second, .val (.ref b41), .val (.long (F2 (-2177342773878488077 : Int64))), .second, .val (.int (1 : Int32)), .unset, .unset, .unset] [(.int i54)])) _
      refine XS.iconst X50.here hx rfl (hb hby at_138) ?_
      show Steps p.tables e below (T50.setTop (mkF m 139 #[.val (.long p0), .second, .val (.long p1), .second, .val (.ref b1), .val (.long (F2 p0)), .second, .val (.long (F2 (p0 + (-7046029254386353131 : Int64)))), .second, .val (.ref b10), .val (.long (F2 (p0 + (-7046029254386353131 : Int64)))), .second, .val (.ref b19), .val (.long (F2 p1)), .second, .val (.ref b29), .val (.long (F2 (7046029254386353131 : Int64))), .second, .val (.ref b41), .val (.long (F2 (-2177342773878488077 : Int64))), .second, .val (.int (1 : Int32)), .unset, .unset, .unset] [(.int (0 : Int32)), (.int i54)])) _
      exact kk
  have P61 : ∀ t, Steps p.tables e below (T50.setTop (mkF m 139 #[.val (.long p0), .second, .val (.long p1), .second, .val (.ref b1), .val (.long (F2 p0)), .second, .val (.long (F2 (p0 + (-7046029254386353131 : Int64)))), .second, .val (.ref b10), .val (.long (F2 (p0 + (-7046029254386353131 : Int64)))), .second, .val (.ref b19), .val (.long (F2 p1)), .second, .val (.ref b29), .val (.long (F2 (7046029254386353131 : Int64))), .second, .val (.ref b41), .val (.long (F2 (-2177342773878488077 : Int64))), .second, .val (.int (1 : Int32)), .unset, .unset, .unset] [(.int i58), (.int i54)])) t → Steps p.tables e below (s₁.setTop (entryFrame m #[(.long p0), (.long p1)] maxLocals)) t := by
    intro t kk
    refine P59 _ ?_
    show Steps p.tables e below (T50.setTop (mkF m 139 #[.val (.long p0), .second, .val (.long p1), .second, .val (.ref b1), .val (.long (F2 p0)), .second, .val (.long (F2 (p0 + (-7046029254386353131 : Int64)))), .second, .val (.ref b10), .val (.long (F2 (p0 + (-7046029254386353131 : Int64)))), .second, .val (.ref b19), .val (.long (F2 p1)), .second, .val (.ref b29), .val (.long (F2 (7046029254386353131 : Int64))), .second, .val (.ref b41), .val (.long (F2 (-2177342773878488077 : Int64))), .second, .val (.int (1 : Int32)), .unset, .unset, .unset] [(.int i58), (.int i54)])) _
    exact kk
  obtain ⟨i62, h_i62, P63⟩ : ∃ (i62 : Int32), i62 = (if i54 = i58 then (1 : Int32) else (0 : Int32)) ∧ ∀ t, Steps p.tables e below (T50.setTop (mkF m 147 #[.val (.long p0), .second, .val (.long p1), .second, .val (.ref b1), .val (.long (F2 p0)), .second, .val (.long (F2 (p0 + (-7046029254386353131 : Int64)))), .second, .val (.ref b10), .val (.long (F2 (p0 + (-7046029254386353131 : Int64)))), .second, .val (.ref b19), .val (.long (F2 p1)), .second, .val (.ref b29), .val (.long (F2 (7046029254386353131 : Int64))), .second, .val (.ref b41), .val (.long (F2 (-2177342773878488077 : Int64))), .second, .val (.int (1 : Int32)), .unset, .unset, .unset] [(.int i62)])) t → Steps p.tables e below (s₁.setTop (entryFrame m #[(.long p0), (.long p1)] maxLocals)) t := by
    by_cases c64 : i54 = i58
    · skip
      refine ⟨(1 : Int32), ((if_pos c64).trans rfl).symm, fun t kk => P61 t ?_⟩
      show Steps p.tables e below (T50.setTop (mkF m 139 #[.val (.long p0), .second, .val (.long p1), .second, .val (.ref b1), .val (.long (F2 p0)), .second, .val (.long (F2 (p0 + (-7046029254386353131 : Int64)))), .second, .val (.ref b10), .val (.long (F2 (p0 + (-7046029254386353131 : Int64)))), .second, .val (.ref b19), .val (.long (F2 p1)), .second, .val (.ref b29), .val (.long (F2 (7046029254386353131 : Int64))), .second, .val (.ref b41), .val (.long (F2 (-2177342773878488077 : Int64))), .second, .val (.int (1 : Int32)), .unset, .unset, .unset] [(.int i58), (.int i54)])) _
      refine XS.icmpNo X50.here hx rfl (hb hby at_139) rfl (XT.ii_ne_f c64) ?_
      show Steps p.tables e below (T50.setTop (mkF m 142 #[.val (.long p0), .second, .val (.long p1), .second, .val (.ref b1), .val (.long (F2 p0)), .second, .val (.long (F2 (p0 + (-7046029254386353131 : Int64)))), .second, .val (.ref b10), .val (.long (F2 (p0 + (-7046029254386353131 : Int64)))), .second, .val (.ref b19), .val (.long (F2 p1)), .second, .val (.ref b29), .val (.long (F2 (7046029254386353131 : Int64))), .second, .val (.ref b41), .val (.long (F2 (-2177342773878488077 : Int64))), .second, .val (.int (1 : Int32)), .unset, .unset, .unset] [])) _
      refine XS.iconst X50.here hx rfl (hb hby at_142) ?_
      show Steps p.tables e below (T50.setTop (mkF m 143 #[.val (.long p0), .second, .val (.long p1), .second, .val (.ref b1), .val (.long (F2 p0)), .second, .val (.long (F2 (p0 + (-7046029254386353131 : Int64)))), .second, .val (.ref b10), .val (.long (F2 (p0 + (-7046029254386353131 : Int64)))), .second, .val (.ref b19), .val (.long (F2 p1)), .second, .val (.ref b29), .val (.long (F2 (7046029254386353131 : Int64))), .second, .val (.ref b41), .val (.long (F2 (-2177342773878488077 : Int64))), .second, .val (.int (1 : Int32)), .unset, .unset, .unset] [(.int (1 : Int32))])) _
      refine XS.goto X50.here hx rfl (pc0 := 143) (pc' := 147) rfl (hb hby at_143) (by decide) (by decide) ?_
      show Steps p.tables e below (T50.setTop (mkF m 147 #[.val (.long p0), .second, .val (.long p1), .second, .val (.ref b1), .val (.long (F2 p0)), .second, .val (.long (F2 (p0 + (-7046029254386353131 : Int64)))), .second, .val (.ref b10), .val (.long (F2 (p0 + (-7046029254386353131 : Int64)))), .second, .val (.ref b19), .val (.long (F2 p1)), .second, .val (.ref b29), .val (.long (F2 (7046029254386353131 : Int64))), .second, .val (.ref b41), .val (.long (F2 (-2177342773878488077 : Int64))), .second, .val (.int (1 : Int32)), .unset, .unset, .unset] [(.int (1 : Int32))])) _
      exact kk
    · skip
      refine ⟨(0 : Int32), ((if_neg c64).trans rfl).symm, fun t kk => P61 t ?_⟩
      show Steps p.tables e below (T50.setTop (mkF m 139 #[.val (.long p0), .second, .val (.long p1), .second, .val (.ref b1), .val (.long (F2 p0)), .second, .val (.long (F2 (p0 + (-7046029254386353131 : Int64)))), .second, .val (.ref b10), .val (.long (F2 (p0 + (-7046029254386353131 : Int64)))), .second, .val (.ref b19), .val (.long (F2 p1)), .second, .val (.ref b29), .val (.long (F2 (7046029254386353131 : Int64))), .second, .val (.ref b41), .val (.long (F2 (-2177342773878488077 : Int64))), .second, .val (.int (1 : Int32)), .unset, .unset, .unset] [(.int i58), (.int i54)])) _
      refine XS.icmpYes X50.here hx rfl (pc0 := 139) (pc' := 146) rfl (hb hby at_139) rfl (XT.ii_ne_t c64) (by decide) (by decide) ?_
      show Steps p.tables e below (T50.setTop (mkF m 146 #[.val (.long p0), .second, .val (.long p1), .second, .val (.ref b1), .val (.long (F2 p0)), .second, .val (.long (F2 (p0 + (-7046029254386353131 : Int64)))), .second, .val (.ref b10), .val (.long (F2 (p0 + (-7046029254386353131 : Int64)))), .second, .val (.ref b19), .val (.long (F2 p1)), .second, .val (.ref b29), .val (.long (F2 (7046029254386353131 : Int64))), .second, .val (.ref b41), .val (.long (F2 (-2177342773878488077 : Int64))), .second, .val (.int (1 : Int32)), .unset, .unset, .unset] [])) _
      refine XS.iconst X50.here hx rfl (hb hby at_146) ?_
      show Steps p.tables e below (T50.setTop (mkF m 147 #[.val (.long p0), .second, .val (.long p1), .second, .val (.ref b1), .val (.long (F2 p0)), .second, .val (.long (F2 (p0 + (-7046029254386353131 : Int64)))), .second, .val (.ref b10), .val (.long (F2 (p0 + (-7046029254386353131 : Int64)))), .second, .val (.ref b19), .val (.long (F2 p1)), .second, .val (.ref b29), .val (.long (F2 (7046029254386353131 : Int64))), .second, .val (.ref b41), .val (.long (F2 (-2177342773878488077 : Int64))), .second, .val (.int (1 : Int32)), .unset, .unset, .unset] [(.int (0 : Int32))])) _
      exact kk
  have P65 : ∀ t, Steps p.tables e below (T50.setTop (mkF m 153 #[.val (.long p0), .second, .val (.long p1), .second, .val (.ref b1), .val (.long (F2 p0)), .second, .val (.long (F2 (p0 + (-7046029254386353131 : Int64)))), .second, .val (.ref b10), .val (.long (F2 (p0 + (-7046029254386353131 : Int64)))), .second, .val (.ref b19), .val (.long (F2 p1)), .second, .val (.ref b29), .val (.long (F2 (7046029254386353131 : Int64))), .second, .val (.ref b41), .val (.long (F2 (-2177342773878488077 : Int64))), .second, .val (.int (1 : Int32)), .val (.int i62), .unset, .unset] [(.int (XT.cmpL (F2 (7046029254386353131 : Int64)) (0 : Int64)))])) t → Steps p.tables e below (s₁.setTop (entryFrame m #[(.long p0), (.long p1)] maxLocals)) t := by
    intro t kk
    refine P63 _ ?_
    show Steps p.tables e below (T50.setTop (mkF m 147 #[.val (.long p0), .second, .val (.long p1), .second, .val (.ref b1), .val (.long (F2 p0)), .second, .val (.long (F2 (p0 + (-7046029254386353131 : Int64)))), .second, .val (.ref b10), .val (.long (F2 (p0 + (-7046029254386353131 : Int64)))), .second, .val (.ref b19), .val (.long (F2 p1)), .second, .val (.ref b29), .val (.long (F2 (7046029254386353131 : Int64))), .second, .val (.ref b41), .val (.long (F2 (-2177342773878488077 : Int64))), .second, .val (.int (1 : Int32)), .unset, .unset, .unset] [(.int i62)])) _
    refine XS.istore X50.here hx rfl (hb hby at_147) rfl (l' := #[.val (.long p0), .second, .val (.long p1), .second, .val (.ref b1), .val (.long (F2 p0)), .second, .val (.long (F2 (p0 + (-7046029254386353131 : Int64)))), .second, .val (.ref b10), .val (.long (F2 (p0 + (-7046029254386353131 : Int64)))), .second, .val (.ref b19), .val (.long (F2 p1)), .second, .val (.ref b29), .val (.long (F2 (7046029254386353131 : Int64))), .second, .val (.ref b41), .val (.long (F2 (-2177342773878488077 : Int64))), .second, .val (.int (1 : Int32)), .val (.int i62), .unset, .unset]) rfl ?_
    show Steps p.tables e below (T50.setTop (mkF m 149 #[.val (.long p0), .second, .val (.long p1), .second, .val (.ref b1), .val (.long (F2 p0)), .second, .val (.long (F2 (p0 + (-7046029254386353131 : Int64)))), .second, .val (.ref b10), .val (.long (F2 (p0 + (-7046029254386353131 : Int64)))), .second, .val (.ref b19), .val (.long (F2 p1)), .second, .val (.ref b29), .val (.long (F2 (7046029254386353131 : Int64))), .second, .val (.ref b41), .val (.long (F2 (-2177342773878488077 : Int64))), .second, .val (.int (1 : Int32)), .val (.int i62), .unset, .unset] [])) _
    refine XS.lload X50.here hx rfl (hb hby at_149) rfl ?_
    show Steps p.tables e below (T50.setTop (mkF m 151 #[.val (.long p0), .second, .val (.long p1), .second, .val (.ref b1), .val (.long (F2 p0)), .second, .val (.long (F2 (p0 + (-7046029254386353131 : Int64)))), .second, .val (.ref b10), .val (.long (F2 (p0 + (-7046029254386353131 : Int64)))), .second, .val (.ref b19), .val (.long (F2 p1)), .second, .val (.ref b29), .val (.long (F2 (7046029254386353131 : Int64))), .second, .val (.ref b41), .val (.long (F2 (-2177342773878488077 : Int64))), .second, .val (.int (1 : Int32)), .val (.int i62), .unset, .unset] [(.long (F2 (7046029254386353131 : Int64)))])) _
    refine XS.lconst X50.here hx rfl (hb hby at_151) ?_
    show Steps p.tables e below (T50.setTop (mkF m 152 #[.val (.long p0), .second, .val (.long p1), .second, .val (.ref b1), .val (.long (F2 p0)), .second, .val (.long (F2 (p0 + (-7046029254386353131 : Int64)))), .second, .val (.ref b10), .val (.long (F2 (p0 + (-7046029254386353131 : Int64)))), .second, .val (.ref b19), .val (.long (F2 p1)), .second, .val (.ref b29), .val (.long (F2 (7046029254386353131 : Int64))), .second, .val (.ref b41), .val (.long (F2 (-2177342773878488077 : Int64))), .second, .val (.int (1 : Int32)), .val (.int i62), .unset, .unset] [(.long (0 : Int64)), (.long (F2 (7046029254386353131 : Int64)))])) _
    refine XT.lcmp X50.here hx rfl (hb hby at_152) rfl ?_
    show Steps p.tables e below (T50.setTop (mkF m 153 #[.val (.long p0), .second, .val (.long p1), .second, .val (.ref b1), .val (.long (F2 p0)), .second, .val (.long (F2 (p0 + (-7046029254386353131 : Int64)))), .second, .val (.ref b10), .val (.long (F2 (p0 + (-7046029254386353131 : Int64)))), .second, .val (.ref b19), .val (.long (F2 p1)), .second, .val (.ref b29), .val (.long (F2 (7046029254386353131 : Int64))), .second, .val (.ref b41), .val (.long (F2 (-2177342773878488077 : Int64))), .second, .val (.int (1 : Int32)), .val (.int i62), .unset, .unset] [(.int (XT.cmpL (F2 (7046029254386353131 : Int64)) (0 : Int64)))])) _
    exact kk
  obtain ⟨i66, h_i66, P67⟩ : ∃ (i66 : Int32), i66 = (if (F2 (7046029254386353131 : Int64)) = (0 : Int64) then (1 : Int32) else (0 : Int32)) ∧ ∀ t, Steps p.tables e below (T50.setTop (mkF m 161 #[.val (.long p0), .second, .val (.long p1), .second, .val (.ref b1), .val (.long (F2 p0)), .second, .val (.long (F2 (p0 + (-7046029254386353131 : Int64)))), .second, .val (.ref b10), .val (.long (F2 (p0 + (-7046029254386353131 : Int64)))), .second, .val (.ref b19), .val (.long (F2 p1)), .second, .val (.ref b29), .val (.long (F2 (7046029254386353131 : Int64))), .second, .val (.ref b41), .val (.long (F2 (-2177342773878488077 : Int64))), .second, .val (.int (1 : Int32)), .val (.int i62), .unset, .unset] [(.int i66)])) t → Steps p.tables e below (s₁.setTop (entryFrame m #[(.long p0), (.long p1)] maxLocals)) t := by
    by_cases c68 : (F2 (7046029254386353131 : Int64)) = (0 : Int64)
    · skip
      refine ⟨(1 : Int32), ((if_pos c68).trans rfl).symm, fun t kk => P65 t ?_⟩
      show Steps p.tables e below (T50.setTop (mkF m 153 #[.val (.long p0), .second, .val (.long p1), .second, .val (.ref b1), .val (.long (F2 p0)), .second, .val (.long (F2 (p0 + (-7046029254386353131 : Int64)))), .second, .val (.ref b10), .val (.long (F2 (p0 + (-7046029254386353131 : Int64)))), .second, .val (.ref b19), .val (.long (F2 p1)), .second, .val (.ref b29), .val (.long (F2 (7046029254386353131 : Int64))), .second, .val (.ref b41), .val (.long (F2 (-2177342773878488077 : Int64))), .second, .val (.int (1 : Int32)), .val (.int i62), .unset, .unset] [(.int (XT.cmpL (F2 (7046029254386353131 : Int64)) (0 : Int64)))])) _
      refine XS.ifNo X50.here hx rfl (hb hby at_153) rfl (XT.ll_ne_f c68) ?_
      show Steps p.tables e below (T50.setTop (mkF m 156 #[.val (.long p0), .second, .val (.long p1), .second, .val (.ref b1), .val (.long (F2 p0)), .second, .val (.long (F2 (p0 + (-7046029254386353131 : Int64)))), .second, .val (.ref b10), .val (.long (F2 (p0 + (-7046029254386353131 : Int64)))), .second, .val (.ref b19), .val (.long (F2 p1)), .second, .val (.ref b29), .val (.long (F2 (7046029254386353131 : Int64))), .second, .val (.ref b41), .val (.long (F2 (-2177342773878488077 : Int64))), .second, .val (.int (1 : Int32)), .val (.int i62), .unset, .unset] [])) _
      refine XS.iconst X50.here hx rfl (hb hby at_156) ?_
      show Steps p.tables e below (T50.setTop (mkF m 157 #[.val (.long p0), .second, .val (.long p1), .second, .val (.ref b1), .val (.long (F2 p0)), .second, .val (.long (F2 (p0 + (-7046029254386353131 : Int64)))), .second, .val (.ref b10), .val (.long (F2 (p0 + (-7046029254386353131 : Int64)))), .second, .val (.ref b19), .val (.long (F2 p1)), .second, .val (.ref b29), .val (.long (F2 (7046029254386353131 : Int64))), .second, .val (.ref b41), .val (.long (F2 (-2177342773878488077 : Int64))), .second, .val (.int (1 : Int32)), .val (.int i62), .unset, .unset] [(.int (1 : Int32))])) _
      refine XS.goto X50.here hx rfl (pc0 := 157) (pc' := 161) rfl (hb hby at_157) (by decide) (by decide) ?_
      show Steps p.tables e below (T50.setTop (mkF m 161 #[.val (.long p0), .second, .val (.long p1), .second, .val (.ref b1), .val (.long (F2 p0)), .second, .val (.long (F2 (p0 + (-7046029254386353131 : Int64)))), .second, .val (.ref b10), .val (.long (F2 (p0 + (-7046029254386353131 : Int64)))), .second, .val (.ref b19), .val (.long (F2 p1)), .second, .val (.ref b29), .val (.long (F2 (7046029254386353131 : Int64))), .second, .val (.ref b41), .val (.long (F2 (-2177342773878488077 : Int64))), .second, .val (.int (1 : Int32)), .val (.int i62), .unset, .unset] [(.int (1 : Int32))])) _
      exact kk
    · skip
      refine ⟨(0 : Int32), ((if_neg c68).trans rfl).symm, fun t kk => P65 t ?_⟩
      show Steps p.tables e below (T50.setTop (mkF m 153 #[.val (.long p0), .second, .val (.long p1), .second, .val (.ref b1), .val (.long (F2 p0)), .second, .val (.long (F2 (p0 + (-7046029254386353131 : Int64)))), .second, .val (.ref b10), .val (.long (F2 (p0 + (-7046029254386353131 : Int64)))), .second, .val (.ref b19), .val (.long (F2 p1)), .second, .val (.ref b29), .val (.long (F2 (7046029254386353131 : Int64))), .second, .val (.ref b41), .val (.long (F2 (-2177342773878488077 : Int64))), .second, .val (.int (1 : Int32)), .val (.int i62), .unset, .unset] [(.int (XT.cmpL (F2 (7046029254386353131 : Int64)) (0 : Int64)))])) _
      refine XS.ifYes X50.here hx rfl (pc0 := 153) (pc' := 160) rfl (hb hby at_153) rfl (XT.ll_ne_t c68) (by decide) (by decide) ?_
      show Steps p.tables e below (T50.setTop (mkF m 160 #[.val (.long p0), .second, .val (.long p1), .second, .val (.ref b1), .val (.long (F2 p0)), .second, .val (.long (F2 (p0 + (-7046029254386353131 : Int64)))), .second, .val (.ref b10), .val (.long (F2 (p0 + (-7046029254386353131 : Int64)))), .second, .val (.ref b19), .val (.long (F2 p1)), .second, .val (.ref b29), .val (.long (F2 (7046029254386353131 : Int64))), .second, .val (.ref b41), .val (.long (F2 (-2177342773878488077 : Int64))), .second, .val (.int (1 : Int32)), .val (.int i62), .unset, .unset] [])) _
      refine XS.iconst X50.here hx rfl (hb hby at_160) ?_
      show Steps p.tables e below (T50.setTop (mkF m 161 #[.val (.long p0), .second, .val (.long p1), .second, .val (.ref b1), .val (.long (F2 p0)), .second, .val (.long (F2 (p0 + (-7046029254386353131 : Int64)))), .second, .val (.ref b10), .val (.long (F2 (p0 + (-7046029254386353131 : Int64)))), .second, .val (.ref b19), .val (.long (F2 p1)), .second, .val (.ref b29), .val (.long (F2 (7046029254386353131 : Int64))), .second, .val (.ref b41), .val (.long (F2 (-2177342773878488077 : Int64))), .second, .val (.int (1 : Int32)), .val (.int i62), .unset, .unset] [(.int (0 : Int32))])) _
      exact kk
  have P69 : ∀ t, Steps p.tables e below (T50.setTop (mkF m 169 #[.val (.long p0), .second, .val (.long p1), .second, .val (.ref b1), .val (.long (F2 p0)), .second, .val (.long (F2 (p0 + (-7046029254386353131 : Int64)))), .second, .val (.ref b10), .val (.long (F2 (p0 + (-7046029254386353131 : Int64)))), .second, .val (.ref b19), .val (.long (F2 p1)), .second, .val (.ref b29), .val (.long (F2 (7046029254386353131 : Int64))), .second, .val (.ref b41), .val (.long (F2 (-2177342773878488077 : Int64))), .second, .val (.int (1 : Int32)), .val (.int i62), .val (.int i66), .unset] [(.int (XT.cmpL (F2 (-2177342773878488077 : Int64)) (-5543615919044805280 : Int64)))])) t → Steps p.tables e below (s₁.setTop (entryFrame m #[(.long p0), (.long p1)] maxLocals)) t := by
    intro t kk
    refine P67 _ ?_
    show Steps p.tables e below (T50.setTop (mkF m 161 #[.val (.long p0), .second, .val (.long p1), .second, .val (.ref b1), .val (.long (F2 p0)), .second, .val (.long (F2 (p0 + (-7046029254386353131 : Int64)))), .second, .val (.ref b10), .val (.long (F2 (p0 + (-7046029254386353131 : Int64)))), .second, .val (.ref b19), .val (.long (F2 p1)), .second, .val (.ref b29), .val (.long (F2 (7046029254386353131 : Int64))), .second, .val (.ref b41), .val (.long (F2 (-2177342773878488077 : Int64))), .second, .val (.int (1 : Int32)), .val (.int i62), .unset, .unset] [(.int i66)])) _
    refine XS.istore X50.here hx rfl (hb hby at_161) rfl (l' := #[.val (.long p0), .second, .val (.long p1), .second, .val (.ref b1), .val (.long (F2 p0)), .second, .val (.long (F2 (p0 + (-7046029254386353131 : Int64)))), .second, .val (.ref b10), .val (.long (F2 (p0 + (-7046029254386353131 : Int64)))), .second, .val (.ref b19), .val (.long (F2 p1)), .second, .val (.ref b29), .val (.long (F2 (7046029254386353131 : Int64))), .second, .val (.ref b41), .val (.long (F2 (-2177342773878488077 : Int64))), .second, .val (.int (1 : Int32)), .val (.int i62), .val (.int i66), .unset]) rfl ?_
    show Steps p.tables e below (T50.setTop (mkF m 163 #[.val (.long p0), .second, .val (.long p1), .second, .val (.ref b1), .val (.long (F2 p0)), .second, .val (.long (F2 (p0 + (-7046029254386353131 : Int64)))), .second, .val (.ref b10), .val (.long (F2 (p0 + (-7046029254386353131 : Int64)))), .second, .val (.ref b19), .val (.long (F2 p1)), .second, .val (.ref b29), .val (.long (F2 (7046029254386353131 : Int64))), .second, .val (.ref b41), .val (.long (F2 (-2177342773878488077 : Int64))), .second, .val (.int (1 : Int32)), .val (.int i62), .val (.int i66), .unset] [])) _
    refine XS.lload X50.here hx rfl (hb hby at_163) rfl ?_
    show Steps p.tables e below (T50.setTop (mkF m 165 #[.val (.long p0), .second, .val (.long p1), .second, .val (.ref b1), .val (.long (F2 p0)), .second, .val (.long (F2 (p0 + (-7046029254386353131 : Int64)))), .second, .val (.ref b10), .val (.long (F2 (p0 + (-7046029254386353131 : Int64)))), .second, .val (.ref b19), .val (.long (F2 p1)), .second, .val (.ref b29), .val (.long (F2 (7046029254386353131 : Int64))), .second, .val (.ref b41), .val (.long (F2 (-2177342773878488077 : Int64))), .second, .val (.int (1 : Int32)), .val (.int i62), .val (.int i66), .unset] [(.long (F2 (-2177342773878488077 : Int64)))])) _
    refine X50.ldc2Long hx hown (mvT hZ (hw _ (List.mem_of_getElem? (i := 22) rfl))) (g := (mkF m 165 #[.val (.long p0), .second, .val (.long p1), .second, .val (.ref b1), .val (.long (F2 p0)), .second, .val (.long (F2 (p0 + (-7046029254386353131 : Int64)))), .second, .val (.ref b10), .val (.long (F2 (p0 + (-7046029254386353131 : Int64)))), .second, .val (.ref b19), .val (.long (F2 p1)), .second, .val (.ref b29), .val (.long (F2 (7046029254386353131 : Int64))), .second, .val (.ref b41), .val (.long (F2 (-2177342773878488077 : Int64))), .second, .val (.int (1 : Int32)), .val (.int i62), .val (.int i66), .unset] [(.long (F2 (-2177342773878488077 : Int64)))])) rfl (hb hby at_165) _ ?_
    show Steps p.tables e below (T50.setTop (mkF m 168 #[.val (.long p0), .second, .val (.long p1), .second, .val (.ref b1), .val (.long (F2 p0)), .second, .val (.long (F2 (p0 + (-7046029254386353131 : Int64)))), .second, .val (.ref b10), .val (.long (F2 (p0 + (-7046029254386353131 : Int64)))), .second, .val (.ref b19), .val (.long (F2 p1)), .second, .val (.ref b29), .val (.long (F2 (7046029254386353131 : Int64))), .second, .val (.ref b41), .val (.long (F2 (-2177342773878488077 : Int64))), .second, .val (.int (1 : Int32)), .val (.int i62), .val (.int i66), .unset] [(.long (-5543615919044805280 : Int64)), (.long (F2 (-2177342773878488077 : Int64)))])) _
    refine XT.lcmp X50.here hx rfl (hb hby at_168) rfl ?_
    show Steps p.tables e below (T50.setTop (mkF m 169 #[.val (.long p0), .second, .val (.long p1), .second, .val (.ref b1), .val (.long (F2 p0)), .second, .val (.long (F2 (p0 + (-7046029254386353131 : Int64)))), .second, .val (.ref b10), .val (.long (F2 (p0 + (-7046029254386353131 : Int64)))), .second, .val (.ref b19), .val (.long (F2 p1)), .second, .val (.ref b29), .val (.long (F2 (7046029254386353131 : Int64))), .second, .val (.ref b41), .val (.long (F2 (-2177342773878488077 : Int64))), .second, .val (.int (1 : Int32)), .val (.int i62), .val (.int i66), .unset] [(.int (XT.cmpL (F2 (-2177342773878488077 : Int64)) (-5543615919044805280 : Int64)))])) _
    exact kk
  obtain ⟨i70, h_i70, P71⟩ : ∃ (i70 : Int32), i70 = (if (F2 (-2177342773878488077 : Int64)) = (-5543615919044805280 : Int64) then (1 : Int32) else (0 : Int32)) ∧ ∀ t, Steps p.tables e below (T50.setTop (mkF m 177 #[.val (.long p0), .second, .val (.long p1), .second, .val (.ref b1), .val (.long (F2 p0)), .second, .val (.long (F2 (p0 + (-7046029254386353131 : Int64)))), .second, .val (.ref b10), .val (.long (F2 (p0 + (-7046029254386353131 : Int64)))), .second, .val (.ref b19), .val (.long (F2 p1)), .second, .val (.ref b29), .val (.long (F2 (7046029254386353131 : Int64))), .second, .val (.ref b41), .val (.long (F2 (-2177342773878488077 : Int64))), .second, .val (.int (1 : Int32)), .val (.int i62), .val (.int i66), .unset] [(.int i70)])) t → Steps p.tables e below (s₁.setTop (entryFrame m #[(.long p0), (.long p1)] maxLocals)) t := by
    by_cases c72 : (F2 (-2177342773878488077 : Int64)) = (-5543615919044805280 : Int64)
    · skip
      refine ⟨(1 : Int32), ((if_pos c72).trans rfl).symm, fun t kk => P69 t ?_⟩
      show Steps p.tables e below (T50.setTop (mkF m 169 #[.val (.long p0), .second, .val (.long p1), .second, .val (.ref b1), .val (.long (F2 p0)), .second, .val (.long (F2 (p0 + (-7046029254386353131 : Int64)))), .second, .val (.ref b10), .val (.long (F2 (p0 + (-7046029254386353131 : Int64)))), .second, .val (.ref b19), .val (.long (F2 p1)), .second, .val (.ref b29), .val (.long (F2 (7046029254386353131 : Int64))), .second, .val (.ref b41), .val (.long (F2 (-2177342773878488077 : Int64))), .second, .val (.int (1 : Int32)), .val (.int i62), .val (.int i66), .unset] [(.int (XT.cmpL (F2 (-2177342773878488077 : Int64)) (-5543615919044805280 : Int64)))])) _
      refine XS.ifNo X50.here hx rfl (hb hby at_169) rfl (XT.ll_ne_f c72) ?_
      show Steps p.tables e below (T50.setTop (mkF m 172 #[.val (.long p0), .second, .val (.long p1), .second, .val (.ref b1), .val (.long (F2 p0)), .second, .val (.long (F2 (p0 + (-7046029254386353131 : Int64)))), .second, .val (.ref b10), .val (.long (F2 (p0 + (-7046029254386353131 : Int64)))), .second, .val (.ref b19), .val (.long (F2 p1)), .second, .val (.ref b29), .val (.long (F2 (7046029254386353131 : Int64))), .second, .val (.ref b41), .val (.long (F2 (-2177342773878488077 : Int64))), .second, .val (.int (1 : Int32)), .val (.int i62), .val (.int i66), .unset] [])) _
      refine XS.iconst X50.here hx rfl (hb hby at_172) ?_
      show Steps p.tables e below (T50.setTop (mkF m 173 #[.val (.long p0), .second, .val (.long p1), .second, .val (.ref b1), .val (.long (F2 p0)), .second, .val (.long (F2 (p0 + (-7046029254386353131 : Int64)))), .second, .val (.ref b10), .val (.long (F2 (p0 + (-7046029254386353131 : Int64)))), .second, .val (.ref b19), .val (.long (F2 p1)), .second, .val (.ref b29), .val (.long (F2 (7046029254386353131 : Int64))), .second, .val (.ref b41), .val (.long (F2 (-2177342773878488077 : Int64))), .second, .val (.int (1 : Int32)), .val (.int i62), .val (.int i66), .unset] [(.int (1 : Int32))])) _
      refine XS.goto X50.here hx rfl (pc0 := 173) (pc' := 177) rfl (hb hby at_173) (by decide) (by decide) ?_
      show Steps p.tables e below (T50.setTop (mkF m 177 #[.val (.long p0), .second, .val (.long p1), .second, .val (.ref b1), .val (.long (F2 p0)), .second, .val (.long (F2 (p0 + (-7046029254386353131 : Int64)))), .second, .val (.ref b10), .val (.long (F2 (p0 + (-7046029254386353131 : Int64)))), .second, .val (.ref b19), .val (.long (F2 p1)), .second, .val (.ref b29), .val (.long (F2 (7046029254386353131 : Int64))), .second, .val (.ref b41), .val (.long (F2 (-2177342773878488077 : Int64))), .second, .val (.int (1 : Int32)), .val (.int i62), .val (.int i66), .unset] [(.int (1 : Int32))])) _
      exact kk
    · skip
      refine ⟨(0 : Int32), ((if_neg c72).trans rfl).symm, fun t kk => P69 t ?_⟩
      show Steps p.tables e below (T50.setTop (mkF m 169 #[.val (.long p0), .second, .val (.long p1), .second, .val (.ref b1), .val (.long (F2 p0)), .second, .val (.long (F2 (p0 + (-7046029254386353131 : Int64)))), .second, .val (.ref b10), .val (.long (F2 (p0 + (-7046029254386353131 : Int64)))), .second, .val (.ref b19), .val (.long (F2 p1)), .second, .val (.ref b29), .val (.long (F2 (7046029254386353131 : Int64))), .second, .val (.ref b41), .val (.long (F2 (-2177342773878488077 : Int64))), .second, .val (.int (1 : Int32)), .val (.int i62), .val (.int i66), .unset] [(.int (XT.cmpL (F2 (-2177342773878488077 : Int64)) (-5543615919044805280 : Int64)))])) _
      refine XS.ifYes X50.here hx rfl (pc0 := 169) (pc' := 176) rfl (hb hby at_169) rfl (XT.ll_ne_t c72) (by decide) (by decide) ?_
      show Steps p.tables e below (T50.setTop (mkF m 176 #[.val (.long p0), .second, .val (.long p1), .second, .val (.ref b1), .val (.long (F2 p0)), .second, .val (.long (F2 (p0 + (-7046029254386353131 : Int64)))), .second, .val (.ref b10), .val (.long (F2 (p0 + (-7046029254386353131 : Int64)))), .second, .val (.ref b19), .val (.long (F2 p1)), .second, .val (.ref b29), .val (.long (F2 (7046029254386353131 : Int64))), .second, .val (.ref b41), .val (.long (F2 (-2177342773878488077 : Int64))), .second, .val (.int (1 : Int32)), .val (.int i62), .val (.int i66), .unset] [])) _
      refine XS.iconst X50.here hx rfl (hb hby at_176) ?_
      show Steps p.tables e below (T50.setTop (mkF m 177 #[.val (.long p0), .second, .val (.long p1), .second, .val (.ref b1), .val (.long (F2 p0)), .second, .val (.long (F2 (p0 + (-7046029254386353131 : Int64)))), .second, .val (.ref b10), .val (.long (F2 (p0 + (-7046029254386353131 : Int64)))), .second, .val (.ref b19), .val (.long (F2 p1)), .second, .val (.ref b29), .val (.long (F2 (7046029254386353131 : Int64))), .second, .val (.ref b41), .val (.long (F2 (-2177342773878488077 : Int64))), .second, .val (.int (1 : Int32)), .val (.int i62), .val (.int i66), .unset] [(.int (0 : Int32))])) _
      exact kk
  have P73 : ∀ t, Steps p.tables e below (T50.setTop (mkF m 186 #[.val (.long p0), .second, .val (.long p1), .second, .val (.ref b1), .val (.long (F2 p0)), .second, .val (.long (F2 (p0 + (-7046029254386353131 : Int64)))), .second, .val (.ref b10), .val (.long (F2 (p0 + (-7046029254386353131 : Int64)))), .second, .val (.ref b19), .val (.long (F2 p1)), .second, .val (.ref b29), .val (.long (F2 (7046029254386353131 : Int64))), .second, .val (.ref b41), .val (.long (F2 (-2177342773878488077 : Int64))), .second, .val (.int (1 : Int32)), .val (.int i62), .val (.int i66), .val (.int i70)] [(.int i62)])) t → Steps p.tables e below (s₁.setTop (entryFrame m #[(.long p0), (.long p1)] maxLocals)) t := by
    intro t kk
    refine P71 _ ?_
    show Steps p.tables e below (T50.setTop (mkF m 177 #[.val (.long p0), .second, .val (.long p1), .second, .val (.ref b1), .val (.long (F2 p0)), .second, .val (.long (F2 (p0 + (-7046029254386353131 : Int64)))), .second, .val (.ref b10), .val (.long (F2 (p0 + (-7046029254386353131 : Int64)))), .second, .val (.ref b19), .val (.long (F2 p1)), .second, .val (.ref b29), .val (.long (F2 (7046029254386353131 : Int64))), .second, .val (.ref b41), .val (.long (F2 (-2177342773878488077 : Int64))), .second, .val (.int (1 : Int32)), .val (.int i62), .val (.int i66), .unset] [(.int i70)])) _
    refine XS.istore X50.here hx rfl (hb hby at_177) rfl (l' := #[.val (.long p0), .second, .val (.long p1), .second, .val (.ref b1), .val (.long (F2 p0)), .second, .val (.long (F2 (p0 + (-7046029254386353131 : Int64)))), .second, .val (.ref b10), .val (.long (F2 (p0 + (-7046029254386353131 : Int64)))), .second, .val (.ref b19), .val (.long (F2 p1)), .second, .val (.ref b29), .val (.long (F2 (7046029254386353131 : Int64))), .second, .val (.ref b41), .val (.long (F2 (-2177342773878488077 : Int64))), .second, .val (.int (1 : Int32)), .val (.int i62), .val (.int i66), .val (.int i70)]) rfl ?_
    show Steps p.tables e below (T50.setTop (mkF m 179 #[.val (.long p0), .second, .val (.long p1), .second, .val (.ref b1), .val (.long (F2 p0)), .second, .val (.long (F2 (p0 + (-7046029254386353131 : Int64)))), .second, .val (.ref b10), .val (.long (F2 (p0 + (-7046029254386353131 : Int64)))), .second, .val (.ref b19), .val (.long (F2 p1)), .second, .val (.ref b29), .val (.long (F2 (7046029254386353131 : Int64))), .second, .val (.ref b41), .val (.long (F2 (-2177342773878488077 : Int64))), .second, .val (.int (1 : Int32)), .val (.int i62), .val (.int i66), .val (.int i70)] [])) _
    refine XS.iload X50.here hx rfl (hb hby at_179) rfl ?_
    show Steps p.tables e below (T50.setTop (mkF m 181 #[.val (.long p0), .second, .val (.long p1), .second, .val (.ref b1), .val (.long (F2 p0)), .second, .val (.long (F2 (p0 + (-7046029254386353131 : Int64)))), .second, .val (.ref b10), .val (.long (F2 (p0 + (-7046029254386353131 : Int64)))), .second, .val (.ref b19), .val (.long (F2 p1)), .second, .val (.ref b29), .val (.long (F2 (7046029254386353131 : Int64))), .second, .val (.ref b41), .val (.long (F2 (-2177342773878488077 : Int64))), .second, .val (.int (1 : Int32)), .val (.int i62), .val (.int i66), .val (.int i70)] [(.int (1 : Int32))])) _
    refine XS.ifNo X50.here hx rfl (hb hby at_181) rfl (XT.i0_eq_f (by decide)) ?_
    show Steps p.tables e below (T50.setTop (mkF m 184 #[.val (.long p0), .second, .val (.long p1), .second, .val (.ref b1), .val (.long (F2 p0)), .second, .val (.long (F2 (p0 + (-7046029254386353131 : Int64)))), .second, .val (.ref b10), .val (.long (F2 (p0 + (-7046029254386353131 : Int64)))), .second, .val (.ref b19), .val (.long (F2 p1)), .second, .val (.ref b29), .val (.long (F2 (7046029254386353131 : Int64))), .second, .val (.ref b41), .val (.long (F2 (-2177342773878488077 : Int64))), .second, .val (.int (1 : Int32)), .val (.int i62), .val (.int i66), .val (.int i70)] [])) _
    refine XS.iload X50.here hx rfl (hb hby at_184) rfl ?_
    show Steps p.tables e below (T50.setTop (mkF m 186 #[.val (.long p0), .second, .val (.long p1), .second, .val (.ref b1), .val (.long (F2 p0)), .second, .val (.long (F2 (p0 + (-7046029254386353131 : Int64)))), .second, .val (.ref b10), .val (.long (F2 (p0 + (-7046029254386353131 : Int64)))), .second, .val (.ref b19), .val (.long (F2 p1)), .second, .val (.ref b29), .val (.long (F2 (7046029254386353131 : Int64))), .second, .val (.ref b41), .val (.long (F2 (-2177342773878488077 : Int64))), .second, .val (.int (1 : Int32)), .val (.int i62), .val (.int i66), .val (.int i70)] [(.int i62)])) _
    exact kk
  obtain ⟨i74, h_i74, P75⟩ : ∃ (i74 : Int32), i74 = (if i62 = (0 : Int32) then (0 : Int32) else (if i66 = (0 : Int32) then (0 : Int32) else (if i70 = (0 : Int32) then (0 : Int32) else (1 : Int32)))) ∧ ∀ t, Steps p.tables e below (T50.setTop (mkF m 204 #[.val (.long p0), .second, .val (.long p1), .second, .val (.ref b1), .val (.long (F2 p0)), .second, .val (.long (F2 (p0 + (-7046029254386353131 : Int64)))), .second, .val (.ref b10), .val (.long (F2 (p0 + (-7046029254386353131 : Int64)))), .second, .val (.ref b19), .val (.long (F2 p1)), .second, .val (.ref b29), .val (.long (F2 (7046029254386353131 : Int64))), .second, .val (.ref b41), .val (.long (F2 (-2177342773878488077 : Int64))), .second, .val (.int (1 : Int32)), .val (.int i62), .val (.int i66), .val (.int i70)] [(.int i74)])) t → Steps p.tables e below (s₁.setTop (entryFrame m #[(.long p0), (.long p1)] maxLocals)) t := by
    by_cases c76 : i62 = (0 : Int32)
    · skip
      refine ⟨(0 : Int32), ((if_pos c76).trans rfl).symm, fun t kk => P73 t ?_⟩
      show Steps p.tables e below (T50.setTop (mkF m 186 #[.val (.long p0), .second, .val (.long p1), .second, .val (.ref b1), .val (.long (F2 p0)), .second, .val (.long (F2 (p0 + (-7046029254386353131 : Int64)))), .second, .val (.ref b10), .val (.long (F2 (p0 + (-7046029254386353131 : Int64)))), .second, .val (.ref b19), .val (.long (F2 p1)), .second, .val (.ref b29), .val (.long (F2 (7046029254386353131 : Int64))), .second, .val (.ref b41), .val (.long (F2 (-2177342773878488077 : Int64))), .second, .val (.int (1 : Int32)), .val (.int i62), .val (.int i66), .val (.int i70)] [(.int i62)])) _
      refine XS.ifYes X50.here hx rfl (pc0 := 186) (pc' := 203) rfl (hb hby at_186) rfl (XT.i0_eq_t c76) (by decide) (by decide) ?_
      show Steps p.tables e below (T50.setTop (mkF m 203 #[.val (.long p0), .second, .val (.long p1), .second, .val (.ref b1), .val (.long (F2 p0)), .second, .val (.long (F2 (p0 + (-7046029254386353131 : Int64)))), .second, .val (.ref b10), .val (.long (F2 (p0 + (-7046029254386353131 : Int64)))), .second, .val (.ref b19), .val (.long (F2 p1)), .second, .val (.ref b29), .val (.long (F2 (7046029254386353131 : Int64))), .second, .val (.ref b41), .val (.long (F2 (-2177342773878488077 : Int64))), .second, .val (.int (1 : Int32)), .val (.int i62), .val (.int i66), .val (.int i70)] [])) _
      refine XS.iconst X50.here hx rfl (hb hby at_203) ?_
      show Steps p.tables e below (T50.setTop (mkF m 204 #[.val (.long p0), .second, .val (.long p1), .second, .val (.ref b1), .val (.long (F2 p0)), .second, .val (.long (F2 (p0 + (-7046029254386353131 : Int64)))), .second, .val (.ref b10), .val (.long (F2 (p0 + (-7046029254386353131 : Int64)))), .second, .val (.ref b19), .val (.long (F2 p1)), .second, .val (.ref b29), .val (.long (F2 (7046029254386353131 : Int64))), .second, .val (.ref b41), .val (.long (F2 (-2177342773878488077 : Int64))), .second, .val (.int (1 : Int32)), .val (.int i62), .val (.int i66), .val (.int i70)] [(.int (0 : Int32))])) _
      exact kk
    · skip
      have P77 : ∀ t, Steps p.tables e below (T50.setTop (mkF m 191 #[.val (.long p0), .second, .val (.long p1), .second, .val (.ref b1), .val (.long (F2 p0)), .second, .val (.long (F2 (p0 + (-7046029254386353131 : Int64)))), .second, .val (.ref b10), .val (.long (F2 (p0 + (-7046029254386353131 : Int64)))), .second, .val (.ref b19), .val (.long (F2 p1)), .second, .val (.ref b29), .val (.long (F2 (7046029254386353131 : Int64))), .second, .val (.ref b41), .val (.long (F2 (-2177342773878488077 : Int64))), .second, .val (.int (1 : Int32)), .val (.int i62), .val (.int i66), .val (.int i70)] [(.int i66)])) t → Steps p.tables e below (s₁.setTop (entryFrame m #[(.long p0), (.long p1)] maxLocals)) t := by
        intro t kk
        refine P73 _ ?_
        show Steps p.tables e below (T50.setTop (mkF m 186 #[.val (.long p0), .second, .val (.long p1), .second, .val (.ref b1), .val (.long (F2 p0)), .second, .val (.long (F2 (p0 + (-7046029254386353131 : Int64)))), .second, .val (.ref b10), .val (.long (F2 (p0 + (-7046029254386353131 : Int64)))), .second, .val (.ref b19), .val (.long (F2 p1)), .second, .val (.ref b29), .val (.long (F2 (7046029254386353131 : Int64))), .second, .val (.ref b41), .val (.long (F2 (-2177342773878488077 : Int64))), .second, .val (.int (1 : Int32)), .val (.int i62), .val (.int i66), .val (.int i70)] [(.int i62)])) _
        refine XS.ifNo X50.here hx rfl (hb hby at_186) rfl (XT.i0_eq_f c76) ?_
        show Steps p.tables e below (T50.setTop (mkF m 189 #[.val (.long p0), .second, .val (.long p1), .second, .val (.ref b1), .val (.long (F2 p0)), .second, .val (.long (F2 (p0 + (-7046029254386353131 : Int64)))), .second, .val (.ref b10), .val (.long (F2 (p0 + (-7046029254386353131 : Int64)))), .second, .val (.ref b19), .val (.long (F2 p1)), .second, .val (.ref b29), .val (.long (F2 (7046029254386353131 : Int64))), .second, .val (.ref b41), .val (.long (F2 (-2177342773878488077 : Int64))), .second, .val (.int (1 : Int32)), .val (.int i62), .val (.int i66), .val (.int i70)] [])) _
        refine XS.iload X50.here hx rfl (hb hby at_189) rfl ?_
        show Steps p.tables e below (T50.setTop (mkF m 191 #[.val (.long p0), .second, .val (.long p1), .second, .val (.ref b1), .val (.long (F2 p0)), .second, .val (.long (F2 (p0 + (-7046029254386353131 : Int64)))), .second, .val (.ref b10), .val (.long (F2 (p0 + (-7046029254386353131 : Int64)))), .second, .val (.ref b19), .val (.long (F2 p1)), .second, .val (.ref b29), .val (.long (F2 (7046029254386353131 : Int64))), .second, .val (.ref b41), .val (.long (F2 (-2177342773878488077 : Int64))), .second, .val (.int (1 : Int32)), .val (.int i62), .val (.int i66), .val (.int i70)] [(.int i66)])) _
        exact kk
      by_cases c78 : i66 = (0 : Int32)
      · skip
        refine ⟨(0 : Int32), ((if_neg c76).trans ((if_pos c78).trans rfl)).symm, fun t kk => P77 t ?_⟩
        show Steps p.tables e below (T50.setTop (mkF m 191 #[.val (.long p0), .second, .val (.long p1), .second, .val (.ref b1), .val (.long (F2 p0)), .second, .val (.long (F2 (p0 + (-7046029254386353131 : Int64)))), .second, .val (.ref b10), .val (.long (F2 (p0 + (-7046029254386353131 : Int64)))), .second, .val (.ref b19), .val (.long (F2 p1)), .second, .val (.ref b29), .val (.long (F2 (7046029254386353131 : Int64))), .second, .val (.ref b41), .val (.long (F2 (-2177342773878488077 : Int64))), .second, .val (.int (1 : Int32)), .val (.int i62), .val (.int i66), .val (.int i70)] [(.int i66)])) _
        refine XS.ifYes X50.here hx rfl (pc0 := 191) (pc' := 203) rfl (hb hby at_191) rfl (XT.i0_eq_t c78) (by decide) (by decide) ?_
        show Steps p.tables e below (T50.setTop (mkF m 203 #[.val (.long p0), .second, .val (.long p1), .second, .val (.ref b1), .val (.long (F2 p0)), .second, .val (.long (F2 (p0 + (-7046029254386353131 : Int64)))), .second, .val (.ref b10), .val (.long (F2 (p0 + (-7046029254386353131 : Int64)))), .second, .val (.ref b19), .val (.long (F2 p1)), .second, .val (.ref b29), .val (.long (F2 (7046029254386353131 : Int64))), .second, .val (.ref b41), .val (.long (F2 (-2177342773878488077 : Int64))), .second, .val (.int (1 : Int32)), .val (.int i62), .val (.int i66), .val (.int i70)] [])) _
        refine XS.iconst X50.here hx rfl (hb hby at_203) ?_
        show Steps p.tables e below (T50.setTop (mkF m 204 #[.val (.long p0), .second, .val (.long p1), .second, .val (.ref b1), .val (.long (F2 p0)), .second, .val (.long (F2 (p0 + (-7046029254386353131 : Int64)))), .second, .val (.ref b10), .val (.long (F2 (p0 + (-7046029254386353131 : Int64)))), .second, .val (.ref b19), .val (.long (F2 p1)), .second, .val (.ref b29), .val (.long (F2 (7046029254386353131 : Int64))), .second, .val (.ref b41), .val (.long (F2 (-2177342773878488077 : Int64))), .second, .val (.int (1 : Int32)), .val (.int i62), .val (.int i66), .val (.int i70)] [(.int (0 : Int32))])) _
        exact kk
      · skip
        have P79 : ∀ t, Steps p.tables e below (T50.setTop (mkF m 196 #[.val (.long p0), .second, .val (.long p1), .second, .val (.ref b1), .val (.long (F2 p0)), .second, .val (.long (F2 (p0 + (-7046029254386353131 : Int64)))), .second, .val (.ref b10), .val (.long (F2 (p0 + (-7046029254386353131 : Int64)))), .second, .val (.ref b19), .val (.long (F2 p1)), .second, .val (.ref b29), .val (.long (F2 (7046029254386353131 : Int64))), .second, .val (.ref b41), .val (.long (F2 (-2177342773878488077 : Int64))), .second, .val (.int (1 : Int32)), .val (.int i62), .val (.int i66), .val (.int i70)] [(.int i70)])) t → Steps p.tables e below (s₁.setTop (entryFrame m #[(.long p0), (.long p1)] maxLocals)) t := by
          intro t kk
          refine P77 _ ?_
          show Steps p.tables e below (T50.setTop (mkF m 191 #[.val (.long p0), .second, .val (.long p1), .second, .val (.ref b1), .val (.long (F2 p0)), .second, .val (.long (F2 (p0 + (-7046029254386353131 : Int64)))), .second, .val (.ref b10), .val (.long (F2 (p0 + (-7046029254386353131 : Int64)))), .second, .val (.ref b19), .val (.long (F2 p1)), .second, .val (.ref b29), .val (.long (F2 (7046029254386353131 : Int64))), .second, .val (.ref b41), .val (.long (F2 (-2177342773878488077 : Int64))), .second, .val (.int (1 : Int32)), .val (.int i62), .val (.int i66), .val (.int i70)] [(.int i66)])) _
          refine XS.ifNo X50.here hx rfl (hb hby at_191) rfl (XT.i0_eq_f c78) ?_
          show Steps p.tables e below (T50.setTop (mkF m 194 #[.val (.long p0), .second, .val (.long p1), .second, .val (.ref b1), .val (.long (F2 p0)), .second, .val (.long (F2 (p0 + (-7046029254386353131 : Int64)))), .second, .val (.ref b10), .val (.long (F2 (p0 + (-7046029254386353131 : Int64)))), .second, .val (.ref b19), .val (.long (F2 p1)), .second, .val (.ref b29), .val (.long (F2 (7046029254386353131 : Int64))), .second, .val (.ref b41), .val (.long (F2 (-2177342773878488077 : Int64))), .second, .val (.int (1 : Int32)), .val (.int i62), .val (.int i66), .val (.int i70)] [])) _
          refine XS.iload X50.here hx rfl (hb hby at_194) rfl ?_
          show Steps p.tables e below (T50.setTop (mkF m 196 #[.val (.long p0), .second, .val (.long p1), .second, .val (.ref b1), .val (.long (F2 p0)), .second, .val (.long (F2 (p0 + (-7046029254386353131 : Int64)))), .second, .val (.ref b10), .val (.long (F2 (p0 + (-7046029254386353131 : Int64)))), .second, .val (.ref b19), .val (.long (F2 p1)), .second, .val (.ref b29), .val (.long (F2 (7046029254386353131 : Int64))), .second, .val (.ref b41), .val (.long (F2 (-2177342773878488077 : Int64))), .second, .val (.int (1 : Int32)), .val (.int i62), .val (.int i66), .val (.int i70)] [(.int i70)])) _
          exact kk
        by_cases c80 : i70 = (0 : Int32)
        · skip
          refine ⟨(0 : Int32), ((if_neg c76).trans ((if_neg c78).trans ((if_pos c80).trans rfl))).symm, fun t kk => P79 t ?_⟩
          show Steps p.tables e below (T50.setTop (mkF m 196 #[.val (.long p0), .second, .val (.long p1), .second, .val (.ref b1), .val (.long (F2 p0)), .second, .val (.long (F2 (p0 + (-7046029254386353131 : Int64)))), .second, .val (.ref b10), .val (.long (F2 (p0 + (-7046029254386353131 : Int64)))), .second, .val (.ref b19), .val (.long (F2 p1)), .second, .val (.ref b29), .val (.long (F2 (7046029254386353131 : Int64))), .second, .val (.ref b41), .val (.long (F2 (-2177342773878488077 : Int64))), .second, .val (.int (1 : Int32)), .val (.int i62), .val (.int i66), .val (.int i70)] [(.int i70)])) _
          refine XS.ifYes X50.here hx rfl (pc0 := 196) (pc' := 203) rfl (hb hby at_196) rfl (XT.i0_eq_t c80) (by decide) (by decide) ?_
          show Steps p.tables e below (T50.setTop (mkF m 203 #[.val (.long p0), .second, .val (.long p1), .second, .val (.ref b1), .val (.long (F2 p0)), .second, .val (.long (F2 (p0 + (-7046029254386353131 : Int64)))), .second, .val (.ref b10), .val (.long (F2 (p0 + (-7046029254386353131 : Int64)))), .second, .val (.ref b19), .val (.long (F2 p1)), .second, .val (.ref b29), .val (.long (F2 (7046029254386353131 : Int64))), .second, .val (.ref b41), .val (.long (F2 (-2177342773878488077 : Int64))), .second, .val (.int (1 : Int32)), .val (.int i62), .val (.int i66), .val (.int i70)] [])) _
          refine XS.iconst X50.here hx rfl (hb hby at_203) ?_
          show Steps p.tables e below (T50.setTop (mkF m 204 #[.val (.long p0), .second, .val (.long p1), .second, .val (.ref b1), .val (.long (F2 p0)), .second, .val (.long (F2 (p0 + (-7046029254386353131 : Int64)))), .second, .val (.ref b10), .val (.long (F2 (p0 + (-7046029254386353131 : Int64)))), .second, .val (.ref b19), .val (.long (F2 p1)), .second, .val (.ref b29), .val (.long (F2 (7046029254386353131 : Int64))), .second, .val (.ref b41), .val (.long (F2 (-2177342773878488077 : Int64))), .second, .val (.int (1 : Int32)), .val (.int i62), .val (.int i66), .val (.int i70)] [(.int (0 : Int32))])) _
          exact kk
        · skip
          refine ⟨(1 : Int32), ((if_neg c76).trans ((if_neg c78).trans ((if_neg c80).trans rfl))).symm, fun t kk => P79 t ?_⟩
          show Steps p.tables e below (T50.setTop (mkF m 196 #[.val (.long p0), .second, .val (.long p1), .second, .val (.ref b1), .val (.long (F2 p0)), .second, .val (.long (F2 (p0 + (-7046029254386353131 : Int64)))), .second, .val (.ref b10), .val (.long (F2 (p0 + (-7046029254386353131 : Int64)))), .second, .val (.ref b19), .val (.long (F2 p1)), .second, .val (.ref b29), .val (.long (F2 (7046029254386353131 : Int64))), .second, .val (.ref b41), .val (.long (F2 (-2177342773878488077 : Int64))), .second, .val (.int (1 : Int32)), .val (.int i62), .val (.int i66), .val (.int i70)] [(.int i70)])) _
          refine XS.ifNo X50.here hx rfl (hb hby at_196) rfl (XT.i0_eq_f c80) ?_
          show Steps p.tables e below (T50.setTop (mkF m 199 #[.val (.long p0), .second, .val (.long p1), .second, .val (.ref b1), .val (.long (F2 p0)), .second, .val (.long (F2 (p0 + (-7046029254386353131 : Int64)))), .second, .val (.ref b10), .val (.long (F2 (p0 + (-7046029254386353131 : Int64)))), .second, .val (.ref b19), .val (.long (F2 p1)), .second, .val (.ref b29), .val (.long (F2 (7046029254386353131 : Int64))), .second, .val (.ref b41), .val (.long (F2 (-2177342773878488077 : Int64))), .second, .val (.int (1 : Int32)), .val (.int i62), .val (.int i66), .val (.int i70)] [])) _
          refine XS.iconst X50.here hx rfl (hb hby at_199) ?_
          show Steps p.tables e below (T50.setTop (mkF m 200 #[.val (.long p0), .second, .val (.long p1), .second, .val (.ref b1), .val (.long (F2 p0)), .second, .val (.long (F2 (p0 + (-7046029254386353131 : Int64)))), .second, .val (.ref b10), .val (.long (F2 (p0 + (-7046029254386353131 : Int64)))), .second, .val (.ref b19), .val (.long (F2 p1)), .second, .val (.ref b29), .val (.long (F2 (7046029254386353131 : Int64))), .second, .val (.ref b41), .val (.long (F2 (-2177342773878488077 : Int64))), .second, .val (.int (1 : Int32)), .val (.int i62), .val (.int i66), .val (.int i70)] [(.int (1 : Int32))])) _
          refine XS.goto X50.here hx rfl (pc0 := 200) (pc' := 204) rfl (hb hby at_200) (by decide) (by decide) ?_
          show Steps p.tables e below (T50.setTop (mkF m 204 #[.val (.long p0), .second, .val (.long p1), .second, .val (.ref b1), .val (.long (F2 p0)), .second, .val (.long (F2 (p0 + (-7046029254386353131 : Int64)))), .second, .val (.ref b10), .val (.long (F2 (p0 + (-7046029254386353131 : Int64)))), .second, .val (.ref b19), .val (.long (F2 p1)), .second, .val (.ref b29), .val (.long (F2 (7046029254386353131 : Int64))), .second, .val (.ref b41), .val (.long (F2 (-2177342773878488077 : Int64))), .second, .val (.int (1 : Int32)), .val (.int i62), .val (.int i66), .val (.int i70)] [(.int (1 : Int32))])) _
          exact kk
  have P81 : ∀ t, Steps p.tables e below (T50.setTop (mkF m 204 #[.val (.long p0), .second, .val (.long p1), .second, .val (.ref b1), .val (.long (F2 p0)), .second, .val (.long (F2 (p0 + (-7046029254386353131 : Int64)))), .second, .val (.ref b10), .val (.long (F2 (p0 + (-7046029254386353131 : Int64)))), .second, .val (.ref b19), .val (.long (F2 p1)), .second, .val (.ref b29), .val (.long (F2 (7046029254386353131 : Int64))), .second, .val (.ref b41), .val (.long (F2 (-2177342773878488077 : Int64))), .second, .val (.int (1 : Int32)), .val (.int i62), .val (.int i66), .val (.int i70)] [(.int i74)])) t → Steps p.tables e below (s₁.setTop (entryFrame m #[(.long p0), (.long p1)] maxLocals)) t := by
    intro t kk
    refine P75 _ ?_
    show Steps p.tables e below (T50.setTop (mkF m 204 #[.val (.long p0), .second, .val (.long p1), .second, .val (.ref b1), .val (.long (F2 p0)), .second, .val (.long (F2 (p0 + (-7046029254386353131 : Int64)))), .second, .val (.ref b10), .val (.long (F2 (p0 + (-7046029254386353131 : Int64)))), .second, .val (.ref b19), .val (.long (F2 p1)), .second, .val (.ref b29), .val (.long (F2 (7046029254386353131 : Int64))), .second, .val (.ref b41), .val (.long (F2 (-2177342773878488077 : Int64))), .second, .val (.int (1 : Int32)), .val (.int i62), .val (.int i66), .val (.int i70)] [(.int i74)])) _
    exact kk
  obtain rfl : i74 = (1 : Int32) := own_plain0 p0 p1 i54 h_i54 i58 h_i58 i62 h_i62 i66 h_i66 i70 h_i70 i74 h_i74 
  obtain ⟨fs, hr, hrun, hended, hW, hsame⟩ := X50.leave (v := some (.int (1 : Int32))) (fun h => by rw [Bd.returns] at h; cases h)
  refine ⟨_, _, P81 _ ?_, hrun, hended, _, _, rfl, ?_, ⟨_, rfl⟩, hW, hsame.mono (by decide) (by decide)⟩
  · exact retN X50 hx (t := .boolean) Bd.returns (by simp) (hb hby at_204) hr
  · exact ⟨rfl, N50⟩
set_option maxRecDepth 65536 in
set_option maxHeartbeats 40000000 in
theorem comes_1 {Post : Tables → Env → Array Value → State → Outcome → State → Prop} (hpost : ∀ tb e args s v u, (limb_1_1.after args s (.returned v) u = true ∧ limb_1_2.after args s (.returned v) u = true ∧ True) → FrameEnd s (.returned v) u (Jvm.fieldLocs frame_1_writes args s ++ Jvm.arrayLocs frame_1_arrays args s ++ Jvm.staticLocs frame_1_statics s) 24 128 → Post tb e args s (.returned v) u) :
    ArmFor flags0 classFile x code maxLocals ret World_1 tables_1 room_1 Calls_1 rest_1 Pre_1 Post := by
  intro l hfl _ _ p e ha hc hk s m args below hf hA hF happ hP
  obtain ⟨hcalls, hrest, hpre⟩ := hP
  obtain ⟨-, -, -, hnamed, -, -, -, hat⟩ := (Spec.applies_iff hf).mp happ
  obtain ⟨hg, hn⟩ := and_e (Cond.before_iff.mp (show (Jvm.Cond.and given_1 narrow_1).before args s = true from hpre))
  obtain ⟨g0, gr0⟩ := and_e hg
  obtain ⟨g1, gr1⟩ := and_e gr0
  obtain ⟨w0, w1, rfl⟩ : ∃ w0 w1 : Value, args = #[w0, w1] := by
    have hs : args.size = 2 := by simpa [Cond.value, given_1] using g0
    obtain ⟨L⟩ := args
    match L, hs with
    | [w0, w1], _ => exact ⟨w0, w1, rfl⟩
  have hw := fun d (hd : d ∈ tables_1) => atoms_spec (ws := Jvm.Cond.code x code maxLocals ret :: tables_1) hat d (List.mem_cons_of_mem _ hd)
  have hfit : Fit s := fun {y c} hc i hi => by
    obtain ⟨ha, rfl⟩ := Array.getElem?_eq_some_iff.mp hc
    have q := List.all_eq_true.mp ((Array.all_eq_true_iff_forall_mem.mp hF) _ (Array.getElem_mem ha)) i (List.mem_range.mpr hi)
    simpa [Array.getElem?_eq_getElem hi] using q
  obtain ⟨i0, ei0⟩ := isL_v g1
  obtain rfl : w0 = (.long i0) := Option.some.inj ei0
  obtain ⟨i1, ei1⟩ := isL_v gr1
  obtain rfl : w1 = (.long i1) := Option.some.inj ei1
  obtain ⟨n, o, h1, h2, h3, _, L, rfl, ⟨rfl, N⟩, hq⟩ := rm0 l s _ hw tables_1 i0 i1  s.heap s.heap.size (Nat.le_refl _)  p e ha hc hk s m _ below hf ((Spec.applies_iff_loose hf).mp happ).1 ⟨rfl, State.Warmed39.refl s, rfl⟩ trivial
  refine ⟨n, _, h1, h2, h3, hpost _ _ _ _ _ _ ⟨Cond.after_iff.mpr rfl, Cond.after_iff.mpr (eq_i res_at (Term.int_eval (1)) rfl), trivial⟩ ⟨hq.1, hq.2.1, (hq.2.2.sift fun y hy => Or.inr (N y hy)).mono (by decide) (by decide)⟩⟩
theorem main_1_1 : Claimed_1_1 := comes_1 fun _ _ _ _ _ _ h hF => ⟨h.1, hF⟩
theorem main_1_2 : Claimed_1_2 := comes_1 fun _ _ _ _ _ _ h hF => ⟨h.2.1, hF⟩
end Jvm.Pilot.@@N@@
namespace Jvm.Pilot.@@N@@
open Jvm Jvm.ClassFile Sem Op Lib Jvm.Free Jvm.Stand Jvm.Pilot.@@N@@.Jvm.D
/-! MADE BY PROGRAM (witnessworld.py) out of the Statement's table words and the real class files: 9 classes; the members and pool entries that the words name. The judged class is class 1, her method 1. -/
namespace start1
open Jvm.ClassFile
def u (s : String) : CpInfo := .utf8 (stringToUtf16 s)
/-- a pool by its gaps: so many unusable entries, then the entry; so many at the end -/
def gap : Nat → List CpInfo → List CpInfo
  | 0, r => r
  | n + 1, r => .unusable :: gap n r
def poolList (es : List (Nat × CpInfo)) (last : Nat) : List CpInfo := es.foldr (fun e r => gap e.1 (e.2 :: r)) (gap last [])
def pool (es : List (Nat × CpInfo)) (last : Nat) : Array CpInfo := ⟨poolList es last⟩
def fileOf (pool : Array CpInfo) (this : Nat) (attrs : Array Attribute := #[]) (ms : Array MethodInfo := #[]) (fl : Nat := 33) (sup : Nat := 0) (ifs : Array Nat := #[]) (fds : Array FieldInfo := #[]) : ClassFile where
  minorVersion := 0
  majorVersion := 65
  constantPool := pool
  accessFlags := fl
  thisClass := this
  superClass := sup
  interfaces := ifs
  fields := fds
  methods := ms
  attributes := attrs
def plain (name : String) (sup : Option ClassId) : Class where
  name := name
  kind := .ordinary
  loader := none
  accessFlags := 33
  super := sup
  interfaces := #[]
  cf := none
  fields := #[]
  methods := #[]
  instanceTypes := #[]
  staticTypes := #[]
  resolved := #[]
  callSites := []
  init := .initialized
  statics := none
  mirror := none

def pool0 : Array CpInfo := pool [(5, u "<init>"), (0, u "()V"), (1, .class_ 10), (1, u "java/lang/Object")] 113

def k0c0 : Code := { maxStack := 0, maxLocals := 1, code := object_method_1_code, exceptionTable := #[], attributes := #[] }
def k0m0 : Method := { name := "<init>", desc := "()V", sig := { parameters := [], returnType := none }, accessFlags := 1, code := some k0c0 }
/-- java/lang/Object -/
def k0 : Class := { plain "java/lang/Object" none with
  accessFlags := 33
  interfaces := #[]
  cf := some (fileOf pool0 8 #[] #[{ accessFlags := 1, nameIndex := 5, descriptorIndex := 6, attributes := #[] }] 33 0 #[] #[])
  fields := #[]
  methods := #[k0m0]
  instanceTypes := #[]
  staticTypes := #[]
  resolved := Array.replicate 124 none
  statics := none }

def pool1 : Array CpInfo := pool [(2, .class_ 4), (1, u "java/lang/Object"), (0, u "<init>"), (0, u "()V"), (0, .class_ 8), (0, u "org/wayfold/generate/RandomSource"), (0, .methodref 7 10), (0, .nameAndType 5 11), (0, u "(J)V"), (0, .methodref 7 13), (0, .nameAndType 14 15), (0, u "next"), (0, u "()J"), (0, .class_ 17), (0, u "org/wayfold/generate/RandomSourceNextPinLaw"), (0, .long 11400714819323198485), (1, .long 7046029254386353131), (1, .long 16269401299831063539), (1, .long 12903128154664746336), (1, u "GAMMA"), (0, u "J"), (3, u "law"), (0, u "(JJ)Z")] 3

def k1m0 : Method := { name := "<init>", desc := "()V", sig := { parameters := [], returnType := none }, accessFlags := 1, code := none }
def k1c1 : Code := { maxStack := 6, maxLocals := 25, code := code, exceptionTable := #[], attributes := #[] }
def k1m1 : Method := { name := "law", desc := "(JJ)Z", sig := { parameters := [.long, .long], returnType := some .boolean }, accessFlags := 9, code := some k1c1 }
/-- org/wayfold/generate/RandomSourceNextPinLaw -/
def k1 : Class := { plain "org/wayfold/generate/RandomSourceNextPinLaw" (some 0) with
  accessFlags := 49
  interfaces := #[]
  cf := some (fileOf pool1 16 #[] #[{ accessFlags := 1, nameIndex := 5, descriptorIndex := 6, attributes := #[] }, { accessFlags := 9, nameIndex := 31, descriptorIndex := 32, attributes := #[] }] 49 2 #[] #[{ accessFlags := 26, nameIndex := 26, descriptorIndex := 27, attributes := #[] }])
  fields := #[{ name := "GAMMA", type := .long, accessFlags := 26, slot := 0, constantValue := 0 }]
  methods := #[k1m0, k1m1]
  instanceTypes := #[]
  staticTypes := #[.long]
  resolved := Array.replicate 36 none
  statics := none }

def pool2 : Array CpInfo := pool [(1, .methodref 2 3), (0, .class_ 4), (0, .nameAndType 5 6), (0, u "java/lang/Object"), (0, u "<init>"), (0, u "()V"), (0, .fieldref 8 9), (0, .class_ 10), (0, .nameAndType 11 12), (0, u "org/wayfold/generate/RandomSource"), (0, u "state"), (0, u "J"), (0, .long 11400714819323198485), (1, .long 13787848793156543929), (1, .long 10723151780598845931), (3, u "next"), (0, u "()J"), (2, u "(J)V"), (20, u "GAMMA")] 27

def k2c0 : Code := { maxStack := 3, maxLocals := 3, code := prog_31_method_1_code, exceptionTable := #[], attributes := #[] }
def k2m0 : Method := { name := "<init>", desc := "(J)V", sig := { parameters := [.long], returnType := none }, accessFlags := 1, code := some k2c0 }
def k2c1 : Code := { maxStack := 5, maxLocals := 3, code := prog_31_method_2_code, exceptionTable := #[], attributes := #[] }
def k2m1 : Method := { name := "next", desc := "()J", sig := { parameters := [], returnType := some .long }, accessFlags := 1, code := some k2c1 }
/-- org/wayfold/generate/RandomSource -/
def k2 : Class := { plain "org/wayfold/generate/RandomSource" (some 0) with
  accessFlags := 49
  interfaces := #[]
  cf := some (fileOf pool2 8 #[] #[{ accessFlags := 1, nameIndex := 5, descriptorIndex := 25, attributes := #[] }, { accessFlags := 1, nameIndex := 21, descriptorIndex := 22, attributes := #[] }] 49 2 #[] #[{ accessFlags := 26, nameIndex := 46, descriptorIndex := 12, attributes := #[] }, { accessFlags := 2, nameIndex := 11, descriptorIndex := 12, attributes := #[] }])
  fields := #[{ name := "GAMMA", type := .long, accessFlags := 26, slot := 0, constantValue := 0 }, { name := "state", type := .long, accessFlags := 2, slot := 0, constantValue := 0 }]
  methods := #[k2m0, k2m1]
  instanceTypes := #[.long]
  staticTypes := #[.long]
  resolved := Array.replicate 74 none
  statics := none }

def pool3 : Array CpInfo := pool [(1, u "java/lang/Cloneable"), (0, .class_ 1), (0, u "java/lang/Object"), (0, .class_ 3)] 3

/-- java/lang/Cloneable -/
def k3 : Class := { plain "java/lang/Cloneable" (some 0) with
  accessFlags := 1537
  interfaces := #[]
  cf := some (fileOf pool3 2 #[] #[] 1537 4 #[] #[])
  fields := #[]
  methods := #[]
  instanceTypes := #[]
  staticTypes := #[]
  resolved := Array.replicate 8 none
  statics := none }

def pool4 : Array CpInfo := pool [(1, u "java/io/Serializable"), (0, .class_ 1), (0, u "java/lang/Object"), (0, .class_ 3)] 3

/-- java/io/Serializable -/
def k4 : Class := { plain "java/io/Serializable" (some 0) with
  accessFlags := 1537
  interfaces := #[]
  cf := some (fileOf pool4 2 #[] #[] 1537 4 #[] #[])
  fields := #[]
  methods := #[]
  instanceTypes := #[]
  staticTypes := #[]
  resolved := Array.replicate 8 none
  statics := none }

/-- the primitive byte -/
def k5 : Class := { plain "byte" none with kind := .primitive 'B', accessFlags := 0x411 }
/-- [B -/
def k6 : Class := { plain "[B" (some 0) with kind := .array 5 .byte, interfaces := #[3, 4], accessFlags := 1041 }

/-- the primitive int -/
def k7 : Class := { plain "int" none with kind := .primitive 'I', accessFlags := 0x411 }
/-- [I -/
def k8 : Class := { plain "[I" (some 0) with kind := .array 7 .int, interfaces := #[3, 4], accessFlags := 1041 }

def heap : Heap := #[]
def classes : Array Class := #[k0, k1, k2, k3, k4, k5, k6, k7, k8]
def interned : List (Array UInt16 × Addr) := []
def slotsUsed : Nat := 0
def theMethod : MethodId := ⟨1, 1⟩
def args0 : Array Value := #[.long 5, .long 5]
def aboutOver (below : List Frame) : State where
  vm := { classes := classes, interned := interned.toArray }
  heap := heap
  slotsUsed := slotsUsed
  threads := #[{ frames := .invoking theMethod args0 :: below }]
def below0 : List Frame := [.native { method := ⟨0, 0⟩, args := #[] }]
def about1 : State := aboutOver below0
def p0 : Program := .bare "" "" ""
def e0 : Env := launch0.env 0 0 0
theorem w_frames : about1.frames = Frame.invoking theMethod args0 :: below0 := rfl
set_option maxRecDepth 65536 in
theorem w_args : argsFit about1.vm theMethod args0 = true := by decide +kernel
set_option maxRecDepth 65536 in
theorem w_heap : heapFits about1 = true := by decide +kernel
set_option maxRecDepth 65536 in
theorem w_runnable : about1.curStatus? = some .runnable := by decide +kernel
set_option maxRecDepth 65536 in
theorem w_alone : about1.alone = true := by decide +kernel
set_option maxRecDepth 65536 in
theorem w_named : about1.methodNamed? x = some theMethod := by decide +kernel
set_option maxRecDepth 65536 in
theorem w_hears : about1.hears theMethod below0 = true := by decide +kernel
set_option maxRecDepth 65536 in
theorem w_ripe : about1.ripe theMethod args0 below0 = true := by decide +kernel
theorem w_running : about1.status = .running := rfl
set_option maxRecDepth 65536 in
theorem w_room : about1.hasRoom e0.platform room_1 = true :=
  launch0.hasRoom_least _ room_1 (by decide +kernel) (by decide +kernel) (by decide +kernel) (by decide +kernel) (by decide +kernel) (by decide +kernel)
theorem allAtoms_all (ts : List Jvm.Cond) (a : Array Jvm.Value) (st : Jvm.State) : (allAtoms ts).before a st = ts.all (fun c => c.before a st) := by
  induction ts with
  | nil => rfl
  | cons c t ih =>
    show (Jvm.Cond.and c (allAtoms t)).before a st = _
    rw [Jvm.Cond.before_and, ih, List.all_cons]
def words1 : List Jvm.Cond := Jvm.Cond.code x code maxLocals ret :: tables_1
/-- a 'code' word, met by the world's own term for the bytes: nothing is compared byte by byte -/
theorem code_word {y : MethodName} {bytes : ByteArray} {mx : Nat} {rt : Option FieldType} {a : Array Value} {s : State} {m : MethodId} {meth : Method} {c : Code} (h1 : s.methodNamed? y = some m) (h2 : s.vm.method? m = some meth) (h3 : meth.code = some c) (h4 : c.code = bytes)
    (h5 : (c.maxLocals == mx && c.exceptionTable.isEmpty && decide (c.maxStack ≤ mostOperands) && decide (meth.sig.returnType = rt) && !meth.locks && decide (parseMethodDescriptor y.desc = some meth.sig)) = true) : (Jvm.Cond.code y bytes mx rt).before a s = true := by
  simp only [Bool.and_eq_true, beq_iff_eq, Bool.not_eq_true', decide_eq_true_eq] at h5
  obtain ⟨⟨⟨⟨⟨g1, g2⟩, g3⟩, g4⟩, g5⟩, g6⟩ := h5
  simp [Cond.before, Cond.holds, Cond.value, h1, h2, h3, h4, g1, g2, g3, g4, g5, g6]
def isCode : Jvm.Cond → Bool
  | .code _ _ _ _ => true
  | _ => false
theorem all_split {L : List Jvm.Cond} {P : Jvm.Cond → Bool} (h1 : L.all (fun c => isCode c || P c) = true) (h2 : ∀ c ∈ L.filter isCode, P c = true) : L.all P = true := by
  refine List.all_eq_true.mpr fun c hc => ?_
  have h := List.all_eq_true.mp h1 c hc
  rcases Bool.eq_false_or_eq_true (isCode c) with hi | hi
  · exact h2 c (List.mem_filter.mpr ⟨hc, hi⟩)
  · simpa [hi] using h
set_option maxRecDepth 65536 in
theorem w_c0 : (Jvm.Cond.code x code maxLocals ret).before args0 about1 = true := code_word (m := ⟨1, 1⟩) (meth := k1m1) (c := k1c1) (by decide +kernel) rfl rfl rfl (by decide +kernel)
set_option maxRecDepth 65536 in
theorem w_c1 : (Jvm.Cond.code ({ cls := "org/wayfold/generate/RandomSource", name := "<init>", desc := "(J)V" } : Jvm.MethodName) prog_31_method_1_code (3 : Nat) (Option.none : Option Jvm.ClassFile.FieldType)).before args0 about1 = true := code_word (m := ⟨2, 0⟩) (meth := k2m0) (c := k2c0) (by decide +kernel) rfl rfl rfl (by decide +kernel)
set_option maxRecDepth 65536 in
theorem w_c2 : (Jvm.Cond.code ({ cls := "java/lang/Object", name := "<init>", desc := "()V" } : Jvm.MethodName) object_method_1_code (1 : Nat) (Option.none : Option Jvm.ClassFile.FieldType)).before args0 about1 = true := code_word (m := ⟨0, 0⟩) (meth := k0m0) (c := k0c0) (by decide +kernel) rfl rfl rfl (by decide +kernel)
set_option maxRecDepth 65536 in
theorem w_c3 : (Jvm.Cond.code ({ cls := "org/wayfold/generate/RandomSource", name := "next", desc := "()J" } : Jvm.MethodName) prog_31_method_2_code (3 : Nat) (Option.some Jvm.ClassFile.FieldType.long)).before args0 about1 = true := code_word (m := ⟨2, 1⟩) (meth := k2m1) (c := k2c1) (by decide +kernel) rfl rfl rfl (by decide +kernel)
def codes1 : List Jvm.Cond := [Jvm.Cond.code x code maxLocals ret, Jvm.Cond.code ({ cls := "org/wayfold/generate/RandomSource", name := "<init>", desc := "(J)V" } : Jvm.MethodName) prog_31_method_1_code (3 : Nat) (Option.none : Option Jvm.ClassFile.FieldType), Jvm.Cond.code ({ cls := "java/lang/Object", name := "<init>", desc := "()V" } : Jvm.MethodName) object_method_1_code (1 : Nat) (Option.none : Option Jvm.ClassFile.FieldType), Jvm.Cond.code ({ cls := "org/wayfold/generate/RandomSource", name := "next", desc := "()J" } : Jvm.MethodName) prog_31_method_2_code (3 : Nat) (Option.some Jvm.ClassFile.FieldType.long)]
set_option maxRecDepth 65536 in
theorem codes_eq : words1.filter isCode = codes1 := rfl
theorem w_codes : ∀ c ∈ words1.filter isCode, c.before args0 about1 = true := by
  rw [codes_eq]
  intro c hc
  simp only [codes1, List.mem_cons, List.not_mem_nil, or_false] at hc
  rcases hc with rfl | rfl | rfl | rfl
  · exact w_c0
  · exact w_c1
  · exact w_c2
  · exact w_c3
set_option maxRecDepth 65536 in
theorem w_t1 : words1.all (fun c => isCode c || c.before args0 about1) = true := by decide +kernel
theorem w_tables : (allAtoms (Jvm.Cond.code x code maxLocals ret :: tables_1)).before args0 about1 = true := by
  rw [allAtoms_all]
  show words1.all (fun c => c.before args0 about1) = true
  refine all_split ?_ w_codes
  rw [w_t1]
set_option maxRecDepth 65536 in
theorem w_case : (Jvm.Cond.and given_1 narrow_1).before args0 about1 = true := by decide +kernel
theorem w_applies : (headSpec (Jvm.Cond.code x code maxLocals ret :: tables_1) room_1).applies x e0.platform about1 = true :=
  (Spec.applies_iff w_frames).mpr ⟨w_running, w_runnable, w_alone, w_named, w_hears, w_ripe, w_room, w_tables⟩
theorem atStart : AtStart classFile x code maxLocals ret World_1 tables_1 room_1 Calls_1 rest_1 Pre_1 launch0 p0 e0 about1 theMethod args0 below0 :=
  ⟨lists_1, trivial, launch0.admits_env _ _ _, launch0.least_env, fairChoices_fair.cas, fairChoices_fair.clock, w_frames, w_args, w_heap, w_applies, trivial, trivial, w_case⟩
end start1
theorem witness_1 : WitnessClaimed_1 := ⟨start1.p0, start1.e0, start1.about1, start1.theMethod, start1.args0, start1.below0, start1.atStart⟩
end Jvm.Pilot.@@N@@
