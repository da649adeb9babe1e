import JvmDerived
import JvmDerived.Pilot.@@N@@Statement
import JvmDerived.Pilot.@@N@@Code
set_option linter.unusedVariables false
set_option linter.unusedSimpArgs false
namespace Jvm.RoadKit
open Sem ClassFile Op Lib Jvm.Stand Jvm.Free Jvm.LawKit
section New
variable {p : Program} {l : Launch} {e : Env} {R : Room} {s : State} {m : MethodId} {args : Array Value} {below : List Frame} {meth : Method} {c : Code} {T : State} {locs : List Loc} {cells slots : Nat}
theorem retI (X : Stand p l e R s m args below meth c T locs cells slots) (hx : p.tables.exec = Jvm.exec) {pc : Nat} {Ls : Array Slot} {z : Int32} {rest : List Value} (hret : meth.sig.returnType = some .int) (hd : decode c.code pc = .ok (.ireturn, 1)) {fs : List Frame}
    (hl : ∀ (f : JFrame) (acts : List Action), f.method = m → f.locked = none → f.entered = [] → (doReturn e (T.setTop f) acts (some (.int z))).1 = T.setFrames fs) : Steps p.tables e below (T.setTop (mkF m pc Ls (.int z :: rest))) (T.setFrames fs) := by
  have hm' : T.vm.method? m = some meth := X.method'
  have hn : narrow .int (.int z) = .int z := rfl
  show Steps p.tables e below (T.setTop { method := m, pc := pc, locals := Ls, stack := _ :: rest, locked := none }) _
  jvm_step X.here [X.here.top, hx, hd, hm', hret, hn]
  first | (intro acts; rw [hl _ acts rfl rfl rfl]) | rw [hl _ _ rfl rfl rfl]
  exact Steps.refl _
end New
end Jvm.RoadKit
namespace Jvm.Pilot.@@N@@
open Jvm Jvm.ClassFile Sem Op Lib Jvm.Free Jvm.Stand Jvm.LawKit Jvm.RoadKit Bundle Jvm.Pilot.@@N@@.Jvm.D
theorem pn_0 : plainName "com/example/circlerank/circlerank/model/Tally" = true := by first | (simp [plainName, overriddenIn]; done) | decide +kernel
theorem pn_1 : plainName "com/example/circlerank/circlerank/model/TallyAddPinLaw" = true := by first | (simp [plainName, overriddenIn]; done) | decide +kernel
theorem pd_0 : parseMethodDescriptor "()V" = some ⟨[], none⟩ := by decide +kernel
theorem pd_1 : parseMethodDescriptor "(III)V" = some ⟨[.int, .int, .int], none⟩ := by decide +kernel
theorem pd_2 : parseMethodDescriptor "(Lcom/example/circlerank/circlerank/model/Tally;)Z" = some ⟨[(.object "com/example/circlerank/circlerank/model/Tally")], some .boolean⟩ := by decide +kernel
def own_xs (k : Int32) (x : Int64) : Int64 := x ^^^ (((x).toUInt64 >>> (k &&& 0x3f).toInt64.toUInt64).toInt64)
def own_fin (x : Int64) : Int64 := own_xs 31 ((own_xs 27 ((own_xs 30 x) * (-4658895280553007687 : Int64))) * (-7723592293110705685 : Int64))
theorem own_xsB (k : Nat) (hk : 0 < k) (x y : BitVec 64) (h : x ^^^ (x >>> k) = y ^^^ (y >>> k)) : x = y := by
  have key : ∀ n i, 64 ≤ i + n → x.getLsbD i = y.getLsbD i := by
    intro n
    induction n with
    | zero => intro i hi; rw [BitVec.getLsbD_of_ge _ _ (by omega), BitVec.getLsbD_of_ge _ _ (by omega)]
    | succ n ih =>
      intro i hi
      have h1 := congrArg (fun z => BitVec.getLsbD z i) h
      simp only [BitVec.getLsbD_xor, BitVec.getLsbD_ushiftRight] at h1
      rw [ih (k + i) (by omega)] at h1
      revert h1
      cases x.getLsbD i <;> cases y.getLsbD i <;> cases y.getLsbD (k + i) <;> simp
  exact BitVec.eq_of_getLsbD_eq (fun i hi => key 64 i (by omega))
theorem own_xs_bv (q : Int32) (k : Nat) (hk : (q &&& 0x3f).toInt64.toUInt64.toBitVec % 64 = BitVec.ofNat 64 k) (h64 : k < 64) (x : Int64) : (own_xs q x).toBitVec = x.toBitVec ^^^ (x.toBitVec >>> k) := by
  have e : (((x).toUInt64 >>> (q &&& 0x3f).toInt64.toUInt64).toInt64).toBitVec = x.toBitVec >>> ((q &&& 0x3f).toInt64.toUInt64.toBitVec % 64) := rfl
  unfold own_xs
  rw [Int64.toBitVec_xor, e, hk]
  congr 1
  show x.toBitVec >>> (BitVec.ofNat 64 k).toNat = _
  rw [BitVec.toNat_ofNat, Nat.mod_eq_of_lt (by omega)]
theorem own_xs_inj (q : Int32) (k : Nat) (hk : (q &&& 0x3f).toInt64.toUInt64.toBitVec % 64 = BitVec.ofNat 64 k) (h0 : 0 < k) (h64 : k < 64) {x y : Int64} (h : own_xs q x = own_xs q y) : x = y := by
  have h' := congrArg Int64.toBitVec h
  rw [own_xs_bv q k hk h64, own_xs_bv q k hk h64] at h'
  exact Int64.toBitVec_inj.mp (own_xsB k h0 _ _ h')
theorem own_mul_inj (A B : Int64) (hAB : A * B = 1) {x y : Int64} (h : x * A = y * A) : x = y := by
  have h' := congrArg (· * B) h
  simpa [Int64.mul_assoc, hAB] using h'
theorem own_fin_inj {x y : Int64} (h : own_fin x = own_fin y) : x = y := by
  unfold own_fin at h
  have h1 := own_xs_inj 31 31 (by decide) (by decide) (by decide) h
  have h2 := own_mul_inj (-7723592293110705685) (3573116690164977347) (by decide) h1
  have h3 := own_xs_inj 27 27 (by decide) (by decide) (by decide) h2
  have h4 := own_mul_inj (-4658895280553007687) (-7575587736534282103) (by decide) h3
  exact own_xs_inj 30 30 (by decide) (by decide) (by decide) h4
def own_key (b d f : Int32) : Int64 := (((((b).toInt64) <<< ((32 : Int32) &&& 0x3f).toInt64) ||| (((d).toInt64) &&& (4294967295 : Int64))) * (-7046029254386353131 : Int64)) + ((f).toInt64)
def own_mix (b d f : Int32) : Int64 := own_fin (own_key b d f)
theorem d1_0 : decode prog_91_method_1_code 0 = .ok (.aload_n 0, 1) := by decide +kernel
theorem d1_1 : decode prog_91_method_1_code 1 = .ok (.invokespecial 1, 3) := by decide +kernel
theorem d1_4 : decode prog_91_method_1_code 4 = .ok (.return_, 1) := by decide +kernel
theorem ef_1 (m : MethodId) (x0 : Addr) : entryFrame m #[(.ref x0)] 1 = (mkF m 0 #[.val (.ref x0)] []) := by first | (simp [entryFrame, mkF, argsToLocals, Value.category]; done) | rfl
def Q1 (Z : State) (a : Addr) (h0 : Heap) (n0 : Nat) (vX : Option Value) (hX : Heap) (lX : List Loc) : Prop := vX = none ∧ Fr n0 lX ∧ (hX = h0)
set_option maxRecDepth 65536 in
set_option maxHeartbeats 40000000 in
theorem rm1 (l : Launch) (Z : State) (a0 : Array Value) (hw : ∀ d ∈ tables_1, d.before a0 Z = true) (ws : List Jvm.Cond) (a : Addr) (h0 : Heap) (n0 : Nat) (Z0 : n0 ≤ h0.size)  :
    MetFree l (⟨"com/example/circlerank/circlerank/model/Tally", "<init>", "()V"⟩ : MethodName) (head1 (Jvm.Cond.code (⟨"com/example/circlerank/circlerank/model/Tally", "<init>", "()V"⟩ : MethodName) prog_91_method_1_code 1 none :: ws) ({ frames := 1, cells := 0, slots := 0, locals := 12 } : Room)) (fun aX uX => aX = #[(.ref a)] ∧ Z.Warmed39 uX.vm ∧ uX.heap = h0) (fun _ _ _ _ _ => True) (fun _ uX oX wX => ∃ vX lX, oX = .returned vX ∧ Q1 Z a h0 n0 vX wX.heap lX ∧ FrameEnd uX oX wX lX ({ frames := 1, cells := 0, slots := 0, locals := 12 } : Room).cells ({ frames := 1, cells := 0, slots := 0, locals := 12 } : Room).slots) := by
  refine MetFree.of_bodySF (plainFor_of_name pn_0) hisR ?_
  intro p e s m args below meth c s₁ Bd hml0 hP hK
  obtain ⟨rfl, hZ, hh⟩ := hP
  have hx := Bd.exec
  have hby := Bd.bytes
  have hml : c.maxLocals = 1 := hml0
  have hown : s.vm.findClass "com/example/circlerank/circlerank/model/Tally" = some m.cls := findClass_of_methodNamed Bd.named
  have hnm := (name_of_methodNamed Bd.named Bd.method).1
  have X0 : Stand p l e ({ frames := 1, cells := 0, slots := 0, locals := 12 } : Room) s m #[(.ref a)] below meth c s₁ [] 0 0 := Stand.of_body Bd
  have e0 : s₁.heap = h0 := by rw [← hh, Bd.state]; rfl
  have N0 := Fr.nil n0
  have pre0 : ∀ t, Steps p.tables e below (s₁.setTop (mkF m 0 #[.val (.ref a)] [])) t → Steps p.tables e below (s₁.setTop (entryFrame m #[(.ref a)] 1)) t := fun t k => castTop (ef_1 m a) k
  obtain ⟨T1, X1, e1, st1⟩ := initO X0 hx hZ hown (hw _ (List.mem_of_getElem? (i := 6) rfl)) (hw _ (List.mem_of_getElem? (i := 7) rfl)) (hw _ (List.mem_of_getElem? (i := 8) rfl)) e0 (g := (mkF m 1 #[.val (.ref a)] [(.ref a)])) rfl (by rw [hml]; rfl) rfl (hb hby d1_1) (by decide) (W := 0) (by show 2 * 0 + _ ≤ _; exact Nat.le_of_eq rfl) (by decide)
  have P2 : ∀ t, Steps p.tables e below (T1.setTop (mkF m 4 #[.val (.ref a)] [])) t → Steps p.tables e below (s₁.setTop (entryFrame m #[(.ref a)] 1)) t := by
    intro t kk
    refine pre0 _ ?_
    show Steps p.tables e below (s₁.setTop (mkF m 0 #[.val (.ref a)] [])) _
    refine XS.aloadN X0.here hx rfl (hb hby d1_0) rfl rfl ?_
    show Steps p.tables e below (s₁.setTop (mkF m 1 #[.val (.ref a)] [(.ref a)])) _
    refine st1 _ ?_
    show Steps p.tables e below (T1.setTop (mkF m 4 #[.val (.ref a)] [])) _
    exact kk
  obtain ⟨fs, hr, hrun, hended, hW, hsame⟩ := X1.leave (v := none) (fun _ => rfl)
  refine ⟨_, _, P2 _ ?_, hrun, hended, _, _, rfl, ?_, ⟨_, rfl⟩, hW, hsame.mono (by decide) (by decide)⟩
  · exact X1.returnOut hx Bd.returns (hb hby d1_4) hr
  · show Q1 Z a h0 n0 _ T1.heap _
    rw [e1]
    exact ⟨rfl, N0, rfl⟩
theorem d2_0 : decode prog_91_method_2_code 0 = .ok (.iload_n 1, 1) := by decide +kernel
theorem d2_1 : decode prog_91_method_2_code 1 = .ok (.i2l, 1) := by decide +kernel
theorem d2_2 : decode prog_91_method_2_code 2 = .ok (.bipush 32, 2) := by decide +kernel
theorem d2_4 : decode prog_91_method_2_code 4 = .ok (.lshl, 1) := by decide +kernel
theorem d2_5 : decode prog_91_method_2_code 5 = .ok (.iload_n 2, 1) := by decide +kernel
theorem d2_6 : decode prog_91_method_2_code 6 = .ok (.i2l, 1) := by decide +kernel
theorem d2_7 : decode prog_91_method_2_code 7 = .ok (.ldc2_w 9, 3) := by decide +kernel
theorem d2_10 : decode prog_91_method_2_code 10 = .ok (.land, 1) := by decide +kernel
theorem d2_11 : decode prog_91_method_2_code 11 = .ok (.lor, 1) := by decide +kernel
theorem d2_12 : decode prog_91_method_2_code 12 = .ok (.ldc2_w 11, 3) := by decide +kernel
theorem d2_15 : decode prog_91_method_2_code 15 = .ok (.lmul, 1) := by decide +kernel
theorem d2_16 : decode prog_91_method_2_code 16 = .ok (.iload_n 3, 1) := by decide +kernel
theorem d2_17 : decode prog_91_method_2_code 17 = .ok (.i2l, 1) := by decide +kernel
theorem d2_18 : decode prog_91_method_2_code 18 = .ok (.ladd, 1) := by decide +kernel
theorem d2_19 : decode prog_91_method_2_code 19 = .ok (.lstore 4, 2) := by decide +kernel
theorem d2_21 : decode prog_91_method_2_code 21 = .ok (.lload 4, 2) := by decide +kernel
theorem d2_23 : decode prog_91_method_2_code 23 = .ok (.lload 4, 2) := by decide +kernel
theorem d2_25 : decode prog_91_method_2_code 25 = .ok (.bipush 30, 2) := by decide +kernel
theorem d2_27 : decode prog_91_method_2_code 27 = .ok (.lushr, 1) := by decide +kernel
theorem d2_28 : decode prog_91_method_2_code 28 = .ok (.lxor, 1) := by decide +kernel
theorem d2_29 : decode prog_91_method_2_code 29 = .ok (.ldc2_w 13, 3) := by decide +kernel
theorem d2_32 : decode prog_91_method_2_code 32 = .ok (.lmul, 1) := by decide +kernel
theorem d2_33 : decode prog_91_method_2_code 33 = .ok (.lstore 4, 2) := by decide +kernel
theorem d2_35 : decode prog_91_method_2_code 35 = .ok (.lload 4, 2) := by decide +kernel
theorem d2_37 : decode prog_91_method_2_code 37 = .ok (.lload 4, 2) := by decide +kernel
theorem d2_39 : decode prog_91_method_2_code 39 = .ok (.bipush 27, 2) := by decide +kernel
theorem d2_41 : decode prog_91_method_2_code 41 = .ok (.lushr, 1) := by decide +kernel
theorem d2_42 : decode prog_91_method_2_code 42 = .ok (.lxor, 1) := by decide +kernel
theorem d2_43 : decode prog_91_method_2_code 43 = .ok (.ldc2_w 15, 3) := by decide +kernel
theorem d2_46 : decode prog_91_method_2_code 46 = .ok (.lmul, 1) := by decide +kernel
theorem d2_47 : decode prog_91_method_2_code 47 = .ok (.lstore 4, 2) := by decide +kernel
theorem d2_49 : decode prog_91_method_2_code 49 = .ok (.aload_n 0, 1) := by decide +kernel
theorem d2_50 : decode prog_91_method_2_code 50 = .ok (.dup, 1) := by decide +kernel
theorem d2_51 : decode prog_91_method_2_code 51 = .ok (.getfield 17, 3) := by decide +kernel
theorem d2_54 : decode prog_91_method_2_code 54 = .ok (.lload 4, 2) := by decide +kernel
theorem d2_56 : decode prog_91_method_2_code 56 = .ok (.lload 4, 2) := by decide +kernel
theorem d2_58 : decode prog_91_method_2_code 58 = .ok (.bipush 31, 2) := by decide +kernel
theorem d2_60 : decode prog_91_method_2_code 60 = .ok (.lushr, 1) := by decide +kernel
theorem d2_61 : decode prog_91_method_2_code 61 = .ok (.lxor, 1) := by decide +kernel
theorem d2_62 : decode prog_91_method_2_code 62 = .ok (.ladd, 1) := by decide +kernel
theorem d2_63 : decode prog_91_method_2_code 63 = .ok (.putfield 17, 3) := by decide +kernel
theorem d2_66 : decode prog_91_method_2_code 66 = .ok (.return_, 1) := by decide +kernel
theorem ef_2 (m : MethodId) (x0 : Addr) (x1 : Int32) (x2 : Int32) (x3 : Int32) : entryFrame m #[(.ref x0), (.int x1), (.int x2), (.int x3)] 6 = (mkF m 0 #[.val (.ref x0), .val (.int x1), .val (.int x2), .val (.int x3), .unset, .unset] []) := by first | (simp [entryFrame, mkF, argsToLocals, Value.category]; done) | rfl
def Q2 (Z : State) (a : Addr) (b : Int32) (d : Int32) (f : Int32) (u : Int64) (h0 : Heap) (n0 : Nat) (vX : Option Value) (hX : Heap) (lX : List Loc) : Prop := vX = none ∧ Fr n0 lX ∧ (Keep h0 hX [a]) ∧ (Fld Z hX a "com/example/circlerank/circlerank/model/Tally" "sum" "J" (.long (u + (own_mix b d f))))
set_option maxRecDepth 65536 in
set_option maxHeartbeats 40000000 in
theorem rm2 (l : Launch) (Z : State) (a0 : Array Value) (hw : ∀ d ∈ tables_1, d.before a0 Z = true) (ws : List Jvm.Cond) (a : Addr) (b : Int32) (d : Int32) (f : Int32) (u : Int64) (h0 : Heap) (n0 : Nat) (Z0 : n0 ≤ h0.size) (pr0 : Exa Z h0 a "com/example/circlerank/circlerank/model/Tally") (pr1 : Fld Z h0 a "com/example/circlerank/circlerank/model/Tally" "sum" "J" (.long u)) (pr2 : n0 ≤ a) :
    MetFree l (⟨"com/example/circlerank/circlerank/model/Tally", "add", "(III)V"⟩ : MethodName) (head1 (Jvm.Cond.code (⟨"com/example/circlerank/circlerank/model/Tally", "add", "(III)V"⟩ : MethodName) prog_91_method_2_code 6 none :: ws) ({ frames := 0, cells := 0, slots := 0, locals := 0 } : Room)) (fun aX uX => aX = #[(.ref a), (.int b), (.int d), (.int f)] ∧ Z.Warmed39 uX.vm ∧ uX.heap = h0) (fun _ _ _ _ _ => True) (fun _ uX oX wX => ∃ vX lX, oX = .returned vX ∧ Q2 Z a b d f u h0 n0 vX wX.heap lX ∧ FrameEnd uX oX wX lX ({ frames := 0, cells := 0, slots := 0, locals := 0 } : Room).cells ({ frames := 0, cells := 0, slots := 0, locals := 0 } : Room).slots) := by
  refine MetFree.of_bodySF (plainFor_of_name pn_0) hisR ?_
  intro p e s m args below meth c s₁ Bd hml0 hP hK
  obtain ⟨rfl, hZ, hh⟩ := hP
  have hx := Bd.exec
  have hby := Bd.bytes
  have hml : c.maxLocals = 6 := hml0
  have hown : s.vm.findClass "com/example/circlerank/circlerank/model/Tally" = some m.cls := findClass_of_methodNamed Bd.named
  have hnm := (name_of_methodNamed Bd.named Bd.method).1
  have X0 : Stand p l e ({ frames := 0, cells := 0, slots := 0, locals := 0 } : Room) s m #[(.ref a), (.int b), (.int d), (.int f)] below meth c s₁ [] 0 0 := Stand.of_body Bd
  have e0 : s₁.heap = h0 := by rw [← hh, Bd.state]; rfl
  have N0 := Fr.nil n0
  have pre0 : ∀ t, Steps p.tables e below (s₁.setTop (mkF m 0 #[.val (.ref a), .val (.int b), .val (.int d), .val (.int f), .unset, .unset] [])) t → Steps p.tables e below (s₁.setTop (entryFrame m #[(.ref a), (.int b), (.int d), (.int f)] 6)) t := fun t k => castTop (ef_2 m a b d f) k
  obtain ⟨j1, h_j1⟩ : ∃ z : Int64, z = (((((((b).toInt64) <<< ((32 : Int32) &&& 0x3f).toInt64)) ||| (((d).toInt64) &&& (4294967295 : Int64))) * (-7046029254386353131 : Int64)) + ((f).toInt64)) := ⟨_, rfl⟩
  obtain ⟨j2, h_j2⟩ : ∃ z : Int64, z = ((j1 ^^^ (((j1).toUInt64 >>> ((30 : Int32) &&& 0x3f).toInt64.toUInt64).toInt64)) * (-4658895280553007687 : Int64)) := ⟨_, rfl⟩
  have P3 : ∀ t, Steps p.tables e below (s₁.setTop (mkF m 43 #[.val (.ref a), .val (.int b), .val (.int d), .val (.int f), .val (.long j2), .second] [(.long (j2 ^^^ (((j2).toUInt64 >>> ((27 : Int32) &&& 0x3f).toInt64.toUInt64).toInt64)))])) t → Steps p.tables e below (s₁.setTop (entryFrame m #[(.ref a), (.int b), (.int d), (.int f)] 6)) t := by
    intro t kk
    refine pre0 _ ?_
    show Steps p.tables e below (s₁.setTop (mkF m 0 #[.val (.ref a), .val (.int b), .val (.int d), .val (.int f), .unset, .unset] [])) _
    refine XS.iloadN X0.here hx rfl (hb hby d2_0) rfl ?_
    show Steps p.tables e below (s₁.setTop (mkF m 1 #[.val (.ref a), .val (.int b), .val (.int d), .val (.int f), .unset, .unset] [(.int b)])) _
    refine XS.i2l X0.here hx rfl (hb hby d2_1) rfl ?_
    show Steps p.tables e below (s₁.setTop (mkF m 2 #[.val (.ref a), .val (.int b), .val (.int d), .val (.int f), .unset, .unset] [(.long ((b).toInt64))])) _
    refine XS.bipush X0.here hx rfl (hb hby d2_2) ?_
    show Steps p.tables e below (s₁.setTop (mkF m 4 #[.val (.ref a), .val (.int b), .val (.int d), .val (.int f), .unset, .unset] [(.int (32 : Int32)), (.long ((b).toInt64))])) _
    refine XS.lshl X0.here hx rfl (hb hby d2_4) rfl ?_
    show Steps p.tables e below (s₁.setTop (mkF m 5 #[.val (.ref a), .val (.int b), .val (.int d), .val (.int f), .unset, .unset] [(.long ((((b).toInt64) <<< ((32 : Int32) &&& 0x3f).toInt64)))])) _
    refine XS.iloadN X0.here hx rfl (hb hby d2_5) rfl ?_
    show Steps p.tables e below (s₁.setTop (mkF m 6 #[.val (.ref a), .val (.int b), .val (.int d), .val (.int f), .unset, .unset] [(.int d), (.long ((((b).toInt64) <<< ((32 : Int32) &&& 0x3f).toInt64)))])) _
    refine XS.i2l X0.here hx rfl (hb hby d2_6) rfl ?_
    show Steps p.tables e below (s₁.setTop (mkF m 7 #[.val (.ref a), .val (.int b), .val (.int d), .val (.int f), .unset, .unset] [(.long ((d).toInt64)), (.long ((((b).toInt64) <<< ((32 : Int32) &&& 0x3f).toInt64)))])) _
    refine X0.ldc2Long hx hown (mvT hZ (hw _ (List.mem_of_getElem? (i := 14) rfl))) (g := (mkF m 7 #[.val (.ref a), .val (.int b), .val (.int d), .val (.int f), .unset, .unset] [(.long ((d).toInt64)), (.long ((((b).toInt64) <<< ((32 : Int32) &&& 0x3f).toInt64)))])) rfl (hb hby d2_7) _ ?_
    show Steps p.tables e below (s₁.setTop (mkF m 10 #[.val (.ref a), .val (.int b), .val (.int d), .val (.int f), .unset, .unset] [(.long (4294967295 : Int64)), (.long ((d).toInt64)), (.long ((((b).toInt64) <<< ((32 : Int32) &&& 0x3f).toInt64)))])) _
    refine XS.land X0.here hx rfl (hb hby d2_10) rfl ?_
    show Steps p.tables e below (s₁.setTop (mkF m 11 #[.val (.ref a), .val (.int b), .val (.int d), .val (.int f), .unset, .unset] [(.long (((d).toInt64) &&& (4294967295 : Int64))), (.long ((((b).toInt64) <<< ((32 : Int32) &&& 0x3f).toInt64)))])) _
    refine XS.lor X0.here hx rfl (hb hby d2_11) rfl ?_
    show Steps p.tables e below (s₁.setTop (mkF m 12 #[.val (.ref a), .val (.int b), .val (.int d), .val (.int f), .unset, .unset] [(.long (((((b).toInt64) <<< ((32 : Int32) &&& 0x3f).toInt64)) ||| (((d).toInt64) &&& (4294967295 : Int64))))])) _
    refine X0.ldc2Long hx hown (mvT hZ (hw _ (List.mem_of_getElem? (i := 15) rfl))) (g := (mkF m 12 #[.val (.ref a), .val (.int b), .val (.int d), .val (.int f), .unset, .unset] [(.long (((((b).toInt64) <<< ((32 : Int32) &&& 0x3f).toInt64)) ||| (((d).toInt64) &&& (4294967295 : Int64))))])) rfl (hb hby d2_12) _ ?_
    show Steps p.tables e below (s₁.setTop (mkF m 15 #[.val (.ref a), .val (.int b), .val (.int d), .val (.int f), .unset, .unset] [(.long (-7046029254386353131 : Int64)), (.long (((((b).toInt64) <<< ((32 : Int32) &&& 0x3f).toInt64)) ||| (((d).toInt64) &&& (4294967295 : Int64))))])) _
    refine XS.lmul X0.here hx rfl (hb hby d2_15) rfl ?_
    show Steps p.tables e below (s₁.setTop (mkF m 16 #[.val (.ref a), .val (.int b), .val (.int d), .val (.int f), .unset, .unset] [(.long ((((((b).toInt64) <<< ((32 : Int32) &&& 0x3f).toInt64)) ||| (((d).toInt64) &&& (4294967295 : Int64))) * (-7046029254386353131 : Int64)))])) _
    refine XS.iloadN X0.here hx rfl (hb hby d2_16) rfl ?_
    show Steps p.tables e below (s₁.setTop (mkF m 17 #[.val (.ref a), .val (.int b), .val (.int d), .val (.int f), .unset, .unset] [(.int f), (.long ((((((b).toInt64) <<< ((32 : Int32) &&& 0x3f).toInt64)) ||| (((d).toInt64) &&& (4294967295 : Int64))) * (-7046029254386353131 : Int64)))])) _
    refine XS.i2l X0.here hx rfl (hb hby d2_17) rfl ?_
    show Steps p.tables e below (s₁.setTop (mkF m 18 #[.val (.ref a), .val (.int b), .val (.int d), .val (.int f), .unset, .unset] [(.long ((f).toInt64)), (.long ((((((b).toInt64) <<< ((32 : Int32) &&& 0x3f).toInt64)) ||| (((d).toInt64) &&& (4294967295 : Int64))) * (-7046029254386353131 : Int64)))])) _
    refine XS.ladd X0.here hx rfl (hb hby d2_18) rfl ?_
    show Steps p.tables e below (s₁.setTop (mkF m 19 #[.val (.ref a), .val (.int b), .val (.int d), .val (.int f), .unset, .unset] [(.long (((((((b).toInt64) <<< ((32 : Int32) &&& 0x3f).toInt64)) ||| (((d).toInt64) &&& (4294967295 : Int64))) * (-7046029254386353131 : Int64)) + ((f).toInt64)))])) _
    rw [← h_j1]
    show Steps p.tables e below (s₁.setTop (mkF m 19 #[.val (.ref a), .val (.int b), .val (.int d), .val (.int f), .unset, .unset] [(.long j1)])) _
    refine XS.lstore X0.here hx rfl (hb hby d2_19) rfl (l' := #[.val (.ref a), .val (.int b), .val (.int d), .val (.int f), .val (.long j1), .second]) rfl ?_
    show Steps p.tables e below (s₁.setTop (mkF m 21 #[.val (.ref a), .val (.int b), .val (.int d), .val (.int f), .val (.long j1), .second] [])) _
    refine XS.lload X0.here hx rfl (hb hby d2_21) rfl ?_
    show Steps p.tables e below (s₁.setTop (mkF m 23 #[.val (.ref a), .val (.int b), .val (.int d), .val (.int f), .val (.long j1), .second] [(.long j1)])) _
    refine XS.lload X0.here hx rfl (hb hby d2_23) rfl ?_
    show Steps p.tables e below (s₁.setTop (mkF m 25 #[.val (.ref a), .val (.int b), .val (.int d), .val (.int f), .val (.long j1), .second] [(.long j1), (.long j1)])) _
    refine XS.bipush X0.here hx rfl (hb hby d2_25) ?_
    show Steps p.tables e below (s₁.setTop (mkF m 27 #[.val (.ref a), .val (.int b), .val (.int d), .val (.int f), .val (.long j1), .second] [(.int (30 : Int32)), (.long j1), (.long j1)])) _
    refine XS.lushr X0.here hx rfl (hb hby d2_27) rfl ?_
    show Steps p.tables e below (s₁.setTop (mkF m 28 #[.val (.ref a), .val (.int b), .val (.int d), .val (.int f), .val (.long j1), .second] [(.long (((j1).toUInt64 >>> ((30 : Int32) &&& 0x3f).toInt64.toUInt64).toInt64)), (.long j1)])) _
    refine XS.lxor X0.here hx rfl (hb hby d2_28) rfl ?_
    show Steps p.tables e below (s₁.setTop (mkF m 29 #[.val (.ref a), .val (.int b), .val (.int d), .val (.int f), .val (.long j1), .second] [(.long (j1 ^^^ (((j1).toUInt64 >>> ((30 : Int32) &&& 0x3f).toInt64.toUInt64).toInt64)))])) _
    refine X0.ldc2Long hx hown (mvT hZ (hw _ (List.mem_of_getElem? (i := 16) rfl))) (g := (mkF m 29 #[.val (.ref a), .val (.int b), .val (.int d), .val (.int f), .val (.long j1), .second] [(.long (j1 ^^^ (((j1).toUInt64 >>> ((30 : Int32) &&& 0x3f).toInt64.toUInt64).toInt64)))])) rfl (hb hby d2_29) _ ?_
    show Steps p.tables e below (s₁.setTop (mkF m 32 #[.val (.ref a), .val (.int b), .val (.int d), .val (.int f), .val (.long j1), .second] [(.long (-4658895280553007687 : Int64)), (.long (j1 ^^^ (((j1).toUInt64 >>> ((30 : Int32) &&& 0x3f).toInt64.toUInt64).toInt64)))])) _
    refine XS.lmul X0.here hx rfl (hb hby d2_32) rfl ?_
    show Steps p.tables e below (s₁.setTop (mkF m 33 #[.val (.ref a), .val (.int b), .val (.int d), .val (.int f), .val (.long j1), .second] [(.long ((j1 ^^^ (((j1).toUInt64 >>> ((30 : Int32) &&& 0x3f).toInt64.toUInt64).toInt64)) * (-4658895280553007687 : Int64)))])) _
    rw [← h_j2]
    show Steps p.tables e below (s₁.setTop (mkF m 33 #[.val (.ref a), .val (.int b), .val (.int d), .val (.int f), .val (.long j1), .second] [(.long j2)])) _
    refine XS.lstore X0.here hx rfl (hb hby d2_33) rfl (l' := #[.val (.ref a), .val (.int b), .val (.int d), .val (.int f), .val (.long j2), .second]) rfl ?_
    show Steps p.tables e below (s₁.setTop (mkF m 35 #[.val (.ref a), .val (.int b), .val (.int d), .val (.int f), .val (.long j2), .second] [])) _
    refine XS.lload X0.here hx rfl (hb hby d2_35) rfl ?_
    show Steps p.tables e below (s₁.setTop (mkF m 37 #[.val (.ref a), .val (.int b), .val (.int d), .val (.int f), .val (.long j2), .second] [(.long j2)])) _
    refine XS.lload X0.here hx rfl (hb hby d2_37) rfl ?_
    show Steps p.tables e below (s₁.setTop (mkF m 39 #[.val (.ref a), .val (.int b), .val (.int d), .val (.int f), .val (.long j2), .second] [(.long j2), (.long j2)])) _
    refine XS.bipush X0.here hx rfl (hb hby d2_39) ?_
    show Steps p.tables e below (s₁.setTop (mkF m 41 #[.val (.ref a), .val (.int b), .val (.int d), .val (.int f), .val (.long j2), .second] [(.int (27 : Int32)), (.long j2), (.long j2)])) _
    refine XS.lushr X0.here hx rfl (hb hby d2_41) rfl ?_
    show Steps p.tables e below (s₁.setTop (mkF m 42 #[.val (.ref a), .val (.int b), .val (.int d), .val (.int f), .val (.long j2), .second] [(.long (((j2).toUInt64 >>> ((27 : Int32) &&& 0x3f).toInt64.toUInt64).toInt64)), (.long j2)])) _
    refine XS.lxor X0.here hx rfl (hb hby d2_42) rfl ?_
    show Steps p.tables e below (s₁.setTop (mkF m 43 #[.val (.ref a), .val (.int b), .val (.int d), .val (.int f), .val (.long j2), .second] [(.long (j2 ^^^ (((j2).toUInt64 >>> ((27 : Int32) &&& 0x3f).toInt64.toUInt64).toInt64)))])) _
    exact kk
  obtain ⟨j4, h_j4⟩ : ∃ z : Int64, z = ((j2 ^^^ (((j2).toUInt64 >>> ((27 : Int32) &&& 0x3f).toInt64.toUInt64).toInt64)) * (-7723592293110705685 : Int64)) := ⟨_, rfl⟩
  obtain ⟨T5, X5, e5, st5⟩ := getF X0 hx hZ hown (host := "") (Or.inl (hw _ (List.mem_of_getElem? (i := 18) rfl))) Via.refl e0 pr1 (g := (mkF m 51 #[.val (.ref a), .val (.int b), .val (.int d), .val (.int f), .val (.long j4), .second] [(.ref a), (.ref a)])) rfl rfl (hb hby d2_51)
  obtain ⟨T6, h6, X6, e6, W6, st6⟩ := putF X5 hx hZ hown (host := "") (Or.inl (hw _ (List.mem_of_getElem? (i := 18) rfl))) Via.refl e5 pr1 pr0 (Or.inl (hw _ (List.mem_of_getElem? (i := 19) rfl))) (hw _ (List.mem_of_getElem? (i := 1) rfl)) (ty := .long) (by decide) rfl rfl (g := (mkF m 63 #[.val (.ref a), .val (.int b), .val (.int d), .val (.int f), .val (.long j4), .second] [(.long (u + (j4 ^^^ (((j4).toUInt64 >>> ((31 : Int32) &&& 0x3f).toInt64.toUInt64).toInt64)))), (.ref a)])) rfl rfl (hb hby d2_63)
  have N6 := Fr.snoc X6 N0 pr2
  have Fw6 := Fld.same W6 pr1
  have P7 : ∀ t, Steps p.tables e below (T6.setTop (mkF m 66 #[.val (.ref a), .val (.int b), .val (.int d), .val (.int f), .val (.long j4), .second] [])) t → Steps p.tables e below (s₁.setTop (entryFrame m #[(.ref a), (.int b), (.int d), (.int f)] 6)) t := by
    intro t kk
    refine P3 _ ?_
    show Steps p.tables e below (s₁.setTop (mkF m 43 #[.val (.ref a), .val (.int b), .val (.int d), .val (.int f), .val (.long j2), .second] [(.long (j2 ^^^ (((j2).toUInt64 >>> ((27 : Int32) &&& 0x3f).toInt64.toUInt64).toInt64)))])) _
    refine X0.ldc2Long hx hown (mvT hZ (hw _ (List.mem_of_getElem? (i := 17) rfl))) (g := (mkF m 43 #[.val (.ref a), .val (.int b), .val (.int d), .val (.int f), .val (.long j2), .second] [(.long (j2 ^^^ (((j2).toUInt64 >>> ((27 : Int32) &&& 0x3f).toInt64.toUInt64).toInt64)))])) rfl (hb hby d2_43) _ ?_
    show Steps p.tables e below (s₁.setTop (mkF m 46 #[.val (.ref a), .val (.int b), .val (.int d), .val (.int f), .val (.long j2), .second] [(.long (-7723592293110705685 : Int64)), (.long (j2 ^^^ (((j2).toUInt64 >>> ((27 : Int32) &&& 0x3f).toInt64.toUInt64).toInt64)))])) _
    refine XS.lmul X0.here hx rfl (hb hby d2_46) rfl ?_
    show Steps p.tables e below (s₁.setTop (mkF m 47 #[.val (.ref a), .val (.int b), .val (.int d), .val (.int f), .val (.long j2), .second] [(.long ((j2 ^^^ (((j2).toUInt64 >>> ((27 : Int32) &&& 0x3f).toInt64.toUInt64).toInt64)) * (-7723592293110705685 : Int64)))])) _
    rw [← h_j4]
    show Steps p.tables e below (s₁.setTop (mkF m 47 #[.val (.ref a), .val (.int b), .val (.int d), .val (.int f), .val (.long j2), .second] [(.long j4)])) _
    refine XS.lstore X0.here hx rfl (hb hby d2_47) rfl (l' := #[.val (.ref a), .val (.int b), .val (.int d), .val (.int f), .val (.long j4), .second]) rfl ?_
    show Steps p.tables e below (s₁.setTop (mkF m 49 #[.val (.ref a), .val (.int b), .val (.int d), .val (.int f), .val (.long j4), .second] [])) _
    refine XS.aloadN X0.here hx rfl (hb hby d2_49) rfl rfl ?_
    show Steps p.tables e below (s₁.setTop (mkF m 50 #[.val (.ref a), .val (.int b), .val (.int d), .val (.int f), .val (.long j4), .second] [(.ref a)])) _
    refine XS.dup X0.here hx rfl (hb hby d2_50) rfl rfl ?_
    show Steps p.tables e below (s₁.setTop (mkF m 51 #[.val (.ref a), .val (.int b), .val (.int d), .val (.int f), .val (.long j4), .second] [(.ref a), (.ref a)])) _
    refine st5 _ ?_
    show Steps p.tables e below (T5.setTop (mkF m 54 #[.val (.ref a), .val (.int b), .val (.int d), .val (.int f), .val (.long j4), .second] [(.long u), (.ref a)])) _
    refine XS.lload X5.here hx rfl (hb hby d2_54) rfl ?_
    show Steps p.tables e below (T5.setTop (mkF m 56 #[.val (.ref a), .val (.int b), .val (.int d), .val (.int f), .val (.long j4), .second] [(.long j4), (.long u), (.ref a)])) _
    refine XS.lload X5.here hx rfl (hb hby d2_56) rfl ?_
    show Steps p.tables e below (T5.setTop (mkF m 58 #[.val (.ref a), .val (.int b), .val (.int d), .val (.int f), .val (.long j4), .second] [(.long j4), (.long j4), (.long u), (.ref a)])) _
    refine XS.bipush X5.here hx rfl (hb hby d2_58) ?_
    show Steps p.tables e below (T5.setTop (mkF m 60 #[.val (.ref a), .val (.int b), .val (.int d), .val (.int f), .val (.long j4), .second] [(.int (31 : Int32)), (.long j4), (.long j4), (.long u), (.ref a)])) _
    refine XS.lushr X5.here hx rfl (hb hby d2_60) rfl ?_
    show Steps p.tables e below (T5.setTop (mkF m 61 #[.val (.ref a), .val (.int b), .val (.int d), .val (.int f), .val (.long j4), .second] [(.long (((j4).toUInt64 >>> ((31 : Int32) &&& 0x3f).toInt64.toUInt64).toInt64)), (.long j4), (.long u), (.ref a)])) _
    refine XS.lxor X5.here hx rfl (hb hby d2_61) rfl ?_
    show Steps p.tables e below (T5.setTop (mkF m 62 #[.val (.ref a), .val (.int b), .val (.int d), .val (.int f), .val (.long j4), .second] [(.long (j4 ^^^ (((j4).toUInt64 >>> ((31 : Int32) &&& 0x3f).toInt64.toUInt64).toInt64))), (.long u), (.ref a)])) _
    refine XS.ladd X5.here hx rfl (hb hby d2_62) rfl ?_
    show Steps p.tables e below (T5.setTop (mkF m 63 #[.val (.ref a), .val (.int b), .val (.int d), .val (.int f), .val (.long j4), .second] [(.long (u + (j4 ^^^ (((j4).toUInt64 >>> ((31 : Int32) &&& 0x3f).toInt64.toUInt64).toInt64)))), (.ref a)])) _
    refine st6 _ ?_
    show Steps p.tables e below (T6.setTop (mkF m 66 #[.val (.ref a), .val (.int b), .val (.int d), .val (.int f), .val (.long j4), .second] [])) _
    exact kk
  subst h_j4
  subst h_j2
  subst h_j1
  have k8 : Keep h0 h6 [a] := (Keep.wr (Keep.refl h0 [a]) W6 (Or.inl (List.mem_of_getElem? (i := 0) rfl)))
  obtain ⟨fs, hr, hrun, hended, hW, hsame⟩ := X6.leave (v := none) (fun _ => rfl)
  refine ⟨_, _, P7 _ ?_, hrun, hended, _, _, rfl, ?_, ⟨_, rfl⟩, hW, hsame.mono (by decide) (by decide)⟩
  · exact X6.returnOut hx Bd.returns (hb hby d2_66) hr
  · show Q2 Z a b d f u h0 n0 _ T6.heap _
    rw [e6]
    exact ⟨rfl, N6, k8, Fw6⟩
theorem d3_0 : decode prog_91_method_3_code 0 = .ok (.aload_n 0, 1) := by decide +kernel
theorem d3_1 : decode prog_91_method_3_code 1 = .ok (.getfield 17, 3) := by decide +kernel
theorem d3_4 : decode prog_91_method_3_code 4 = .ok (.aload_n 1, 1) := by decide +kernel
theorem d3_5 : decode prog_91_method_3_code 5 = .ok (.getfield 17, 3) := by decide +kernel
theorem d3_8 : decode prog_91_method_3_code 8 = .ok (.lcmp, 1) := by decide +kernel
theorem d3_9 : decode prog_91_method_3_code 9 = .ok (.ifCond .ne 7, 3) := by decide +kernel
theorem d3_12 : decode prog_91_method_3_code 12 = .ok (.iconst 1, 1) := by decide +kernel
theorem d3_13 : decode prog_91_method_3_code 13 = .ok (.goto 4, 3) := by decide +kernel
theorem d3_16 : decode prog_91_method_3_code 16 = .ok (.iconst 0, 1) := by decide +kernel
theorem d3_17 : decode prog_91_method_3_code 17 = .ok (.ireturn, 1) := by decide +kernel
theorem ef_3 (m : MethodId) (x0 : Addr) (x1 : Addr) : entryFrame m #[(.ref x0), (.ref x1)] 2 = (mkF m 0 #[.val (.ref x0), .val (.ref x1)] []) := by first | (simp [entryFrame, mkF, argsToLocals, Value.category]; done) | rfl
def F3 (u : Int64) (v : Int64) : Int32 := (if u = v then (1 : Int32) else (0 : Int32))
def Q3 (Z : State) (a : Addr) (o : Addr) (u : Int64) (v : Int64) (h0 : Heap) (n0 : Nat) (vX : Option Value) (hX : Heap) (lX : List Loc) : Prop := vX = some (.int (F3 u v)) ∧ Fr n0 lX ∧ (hX = h0)
set_option maxRecDepth 65536 in
set_option maxHeartbeats 40000000 in
theorem rm3 (l : Launch) (Z : State) (a0 : Array Value) (hw : ∀ d ∈ tables_1, d.before a0 Z = true) (ws : List Jvm.Cond) (a : Addr) (o : Addr) (u : Int64) (v : Int64) (h0 : Heap) (n0 : Nat) (Z0 : n0 ≤ h0.size) (pr0 : Fld Z h0 a "com/example/circlerank/circlerank/model/Tally" "sum" "J" (.long u)) (pr1 : Fld Z h0 o "com/example/circlerank/circlerank/model/Tally" "sum" "J" (.long v)) :
    MetFree l (⟨"com/example/circlerank/circlerank/model/Tally", "agrees", "(Lcom/example/circlerank/circlerank/model/Tally;)Z"⟩ : MethodName) (head1 (Jvm.Cond.code (⟨"com/example/circlerank/circlerank/model/Tally", "agrees", "(Lcom/example/circlerank/circlerank/model/Tally;)Z"⟩ : MethodName) prog_91_method_3_code 2 (some .boolean) :: ws) ({ frames := 0, cells := 0, slots := 0, locals := 0 } : Room)) (fun aX uX => aX = #[(.ref a), (.ref o)] ∧ Z.Warmed39 uX.vm ∧ uX.heap = h0) (fun _ _ _ _ _ => True) (fun _ uX oX wX => ∃ vX lX, oX = .returned vX ∧ Q3 Z a o u v h0 n0 vX wX.heap lX ∧ FrameEnd uX oX wX lX ({ frames := 0, cells := 0, slots := 0, locals := 0 } : Room).cells ({ frames := 0, cells := 0, slots := 0, locals := 0 } : Room).slots) := by
  refine MetFree.of_bodySF (plainFor_of_name pn_0) hisR ?_
  intro p e s m args below meth c s₁ Bd hml0 hP hK
  obtain ⟨rfl, hZ, hh⟩ := hP
  have hx := Bd.exec
  have hby := Bd.bytes
  have hml : c.maxLocals = 2 := hml0
  have hown : s.vm.findClass "com/example/circlerank/circlerank/model/Tally" = some m.cls := findClass_of_methodNamed Bd.named
  have hnm := (name_of_methodNamed Bd.named Bd.method).1
  have X0 : Stand p l e ({ frames := 0, cells := 0, slots := 0, locals := 0 } : Room) s m #[(.ref a), (.ref o)] below meth c s₁ [] 0 0 := Stand.of_body Bd
  have e0 : s₁.heap = h0 := by rw [← hh, Bd.state]; rfl
  have N0 := Fr.nil n0
  have pre0 : ∀ t, Steps p.tables e below (s₁.setTop (mkF m 0 #[.val (.ref a), .val (.ref o)] [])) t → Steps p.tables e below (s₁.setTop (entryFrame m #[(.ref a), (.ref o)] 2)) t := fun t k => castTop (ef_3 m a o) k
  obtain ⟨T1, X1, e1, st1⟩ := getF X0 hx hZ hown (host := "") (Or.inl (hw _ (List.mem_of_getElem? (i := 18) rfl))) Via.refl e0 pr0 (g := (mkF m 1 #[.val (.ref a), .val (.ref o)] [(.ref a)])) rfl rfl (hb hby d3_1)
  obtain ⟨T2, X2, e2, st2⟩ := getF X1 hx hZ hown (host := "") (Or.inl (hw _ (List.mem_of_getElem? (i := 18) rfl))) Via.refl e1 pr1 (g := (mkF m 5 #[.val (.ref a), .val (.ref o)] [(.ref o), (.long u)])) rfl rfl (hb hby d3_5)
  have P3 : ∀ t, Steps p.tables e below (T2.setTop (mkF m 9 #[.val (.ref a), .val (.ref o)] [(.int (XT.cmpL u v))])) t → Steps p.tables e below (s₁.setTop (entryFrame m #[(.ref a), (.ref o)] 2)) t := by
    intro t kk
    refine pre0 _ ?_
    show Steps p.tables e below (s₁.setTop (mkF m 0 #[.val (.ref a), .val (.ref o)] [])) _
    refine XS.aloadN X0.here hx rfl (hb hby d3_0) rfl rfl ?_
    show Steps p.tables e below (s₁.setTop (mkF m 1 #[.val (.ref a), .val (.ref o)] [(.ref a)])) _
    refine st1 _ ?_
    show Steps p.tables e below (T1.setTop (mkF m 4 #[.val (.ref a), .val (.ref o)] [(.long u)])) _
    refine XS.aloadN X1.here hx rfl (hb hby d3_4) rfl rfl ?_
    show Steps p.tables e below (T1.setTop (mkF m 5 #[.val (.ref a), .val (.ref o)] [(.ref o), (.long u)])) _
    refine st2 _ ?_
    show Steps p.tables e below (T2.setTop (mkF m 8 #[.val (.ref a), .val (.ref o)] [(.long v), (.long u)])) _
    refine XT.lcmp X2.here hx rfl (hb hby d3_8) rfl ?_
    show Steps p.tables e below (T2.setTop (mkF m 9 #[.val (.ref a), .val (.ref o)] [(.int (XT.cmpL u v))])) _
    exact kk
  by_cases c4 : u = v
  · skip
    have P5 : ∀ t, Steps p.tables e below (T2.setTop (mkF m 17 #[.val (.ref a), .val (.ref o)] [(.int (1 : Int32))])) t → Steps p.tables e below (s₁.setTop (entryFrame m #[(.ref a), (.ref o)] 2)) t := by
      intro t kk
      refine P3 _ ?_
      show Steps p.tables e below (T2.setTop (mkF m 9 #[.val (.ref a), .val (.ref o)] [(.int (XT.cmpL u v))])) _
      refine XS.ifNo X2.here hx rfl (hb hby d3_9) rfl (XT.ll_ne_f c4) ?_
      show Steps p.tables e below (T2.setTop (mkF m 12 #[.val (.ref a), .val (.ref o)] [])) _
      refine XS.iconst X2.here hx rfl (hb hby d3_12) ?_
      show Steps p.tables e below (T2.setTop (mkF m 13 #[.val (.ref a), .val (.ref o)] [(.int (1 : Int32))])) _
      refine XS.goto X2.here hx rfl (pc0 := 13) (pc' := 17) rfl (hb hby d3_13) (by decide) (by decide) ?_
      show Steps p.tables e below (T2.setTop (mkF m 17 #[.val (.ref a), .val (.ref o)] [(.int (1 : Int32))])) _
      exact kk
    obtain ⟨fs, hr, hrun, hended, hW, hsame⟩ := X2.leave (v := some (.int (1 : Int32))) (fun h => by rw [Bd.returns] at h; cases h)
    refine ⟨_, _, P5 _ ?_, hrun, hended, _, _, rfl, ?_, ⟨_, rfl⟩, hW, hsame.mono (by decide) (by decide)⟩
    · exact retN X2 hx (t := .boolean) Bd.returns (by simp) (hb hby d3_17) hr
    · show Q3 Z a o u v h0 n0 _ T2.heap _
      rw [e2]
      exact ⟨congrArg (fun z => some (Value.int z)) (show (F3 u v) = _ from ((if_pos c4).trans rfl)).symm, N0, rfl⟩
  · skip
    have P6 : ∀ t, Steps p.tables e below (T2.setTop (mkF m 17 #[.val (.ref a), .val (.ref o)] [(.int (0 : Int32))])) t → Steps p.tables e below (s₁.setTop (entryFrame m #[(.ref a), (.ref o)] 2)) t := by
      intro t kk
      refine P3 _ ?_
      show Steps p.tables e below (T2.setTop (mkF m 9 #[.val (.ref a), .val (.ref o)] [(.int (XT.cmpL u v))])) _
      refine XS.ifYes X2.here hx rfl (pc0 := 9) (pc' := 16) rfl (hb hby d3_9) rfl (XT.ll_ne_t c4) (by decide) (by decide) ?_
      show Steps p.tables e below (T2.setTop (mkF m 16 #[.val (.ref a), .val (.ref o)] [])) _
      refine XS.iconst X2.here hx rfl (hb hby d3_16) ?_
      show Steps p.tables e below (T2.setTop (mkF m 17 #[.val (.ref a), .val (.ref o)] [(.int (0 : Int32))])) _
      exact kk
    obtain ⟨fs, hr, hrun, hended, hW, hsame⟩ := X2.leave (v := some (.int (0 : Int32))) (fun h => by rw [Bd.returns] at h; cases h)
    refine ⟨_, _, P6 _ ?_, hrun, hended, _, _, rfl, ?_, ⟨_, rfl⟩, hW, hsame.mono (by decide) (by decide)⟩
    · exact retN X2 hx (t := .boolean) Bd.returns (by simp) (hb hby d3_17) hr
    · show Q3 Z a o u v h0 n0 _ T2.heap _
      rw [e2]
      exact ⟨congrArg (fun z => some (Value.int z)) (show (F3 u v) = _ from ((if_neg c4).trans rfl)).symm, N0, rfl⟩
theorem own_mix_inj {b d f b' d' f' : Int32} (h : own_mix b d f = own_mix b' d' f') : own_key b d f = own_key b' d' f' := own_fin_inj h
theorem own_addc {a b x : Int64} (h : a + x = b + x) : a = b := by
  have h2 := congrArg (· - x) h
  simpa using h2
theorem own_i2l_inj {a b : Int32} (h : a.toInt64 = b.toInt64) : a = b := by
  have h' := congrArg Int64.toInt h
  rw [c_i2l, c_i2l] at h'
  exact Int32.toInt_inj.mp h'
theorem own_key_f {b d f f' : Int32} (h : own_key b d f = own_key b d f') : f = f' := by
  unfold own_key at h
  rw [Int64.add_comm _ (f.toInt64), Int64.add_comm _ (f'.toInt64)] at h
  exact own_i2l_inj (own_addc h)
theorem own_key_p {b d b' d' f : Int32} (h : own_key b d f = own_key b' d' f) : ((((b).toInt64) <<< ((32 : Int32) &&& 0x3f).toInt64) ||| (((d).toInt64) &&& (4294967295 : Int64))) = ((((b').toInt64) <<< ((32 : Int32) &&& 0x3f).toInt64) ||| (((d').toInt64) &&& (4294967295 : Int64))) := by
  unfold own_key at h
  exact own_mul_inj (-7046029254386353131) (-1018231460777725123) (by decide) (own_addc h)
theorem own_pack_bit (b d : Int32) (i : Nat) (hi : i < 32) : (((((b).toInt64) <<< ((32 : Int32) &&& 0x3f).toInt64) ||| (((d).toInt64) &&& (4294967295 : Int64)))).toBitVec.getLsbD i = d.toBitVec.getLsbD i ∧ (((((b).toInt64) <<< ((32 : Int32) &&& 0x3f).toInt64) ||| (((d).toInt64) &&& (4294967295 : Int64)))).toBitVec.getLsbD (32 + i) = b.toBitVec.getLsbD i := by
  have e1 : ((b).toInt64 <<< ((32 : Int32) &&& 0x3f).toInt64).toBitVec = b.toInt64.toBitVec <<< 32 := by rw [Int64.toBitVec_shiftLeft]; rfl
  have e2 : (4294967295 : Int64).toBitVec = BitVec.ofNat 64 (2 ^ 32 - 1) := by decide
  have e3 : b.toInt64.toBitVec = b.toBitVec.signExtend 64 := rfl
  have e4 : d.toInt64.toBitVec = d.toBitVec.signExtend 64 := rfl
  rw [Int64.toBitVec_or, Int64.toBitVec_and, e1, e2, e3, e4]
  simp only [BitVec.getLsbD_or, BitVec.getLsbD_and, BitVec.getLsbD_shiftLeft, BitVec.getLsbD_signExtend, BitVec.getLsbD_ofNat, Nat.testBit_two_pow_sub_one]
  constructor
  · simp [hi, show i < 64 by omega]
  · simp [hi, show 32 + i < 64 by omega, show ¬ 32 + i < 32 by omega, show i < 64 by omega]
theorem own_key_b {b d b' f : Int32} (h : own_key b d f = own_key b' d f) : b = b' := by
  have h' := own_key_p h
  refine Int32.toBitVec_inj.mp (BitVec.eq_of_getLsbD_eq fun i hi => ?_)
  rw [← (own_pack_bit b d i hi).2, ← (own_pack_bit b' d i hi).2, h']
theorem own_key_d {b d d' f : Int32} (h : own_key b d f = own_key b d' f) : d = d' := by
  have h' := own_key_p h
  refine Int32.toBitVec_inj.mp (BitVec.eq_of_getLsbD_eq fun i hi => ?_)
  rw [← (own_pack_bit b d i hi).1, ← (own_pack_bit b d' i hi).1, h']
theorem own_agree (X Y W : Int64) (e : Int32) (h : e = if X = W then (1 : Int32) else (0 : Int32)) : F3 (((0 : Int64) + X) + Y) (((0 : Int64) + Y) + W) = e ∧ F3 (((0 : Int64) + Y) + W) (((0 : Int64) + X) + Y) = e := by
  have k : (((0 : Int64) + X) + Y = ((0 : Int64) + Y) + W) ↔ X = W := by
    rw [Int64.zero_add, Int64.zero_add, Int64.add_comm X Y]
    constructor
    · intro q
      rw [Int64.add_comm Y X, Int64.add_comm Y W] at q
      exact own_addc q
    · intro q; rw [q]
  unfold F3
  subst h
  by_cases q : X = W
  · rw [if_pos q]; exact ⟨if_pos (k.mpr q), if_pos (k.mpr q).symm⟩
  · rw [if_neg q]; exact ⟨if_neg (fun z => q (k.mp z)), if_neg (fun z => q (k.mp z.symm))⟩
theorem own_plain0 (p0 : Int32) (p1 : Int32) (p2 : Int32) (p3 : Int32) (p4 : Int32) (p5 : Int32) (i2 : Int32) (h_i2 : i2 = (if (p5 &&& (3 : Int32)) = (0 : Int32) then p0 else (if (p5 &&& (3 : Int32)) = (1 : Int32) then p0 else (if (p5 &&& (3 : Int32)) = (2 : Int32) then p3 else p0)))) (i3 : Int32) (h_i3 : i3 = (if (p5 &&& (3 : Int32)) = (0 : Int32) then p1 else (if (p5 &&& (3 : Int32)) = (1 : Int32) then p1 else (if (p5 &&& (3 : Int32)) = (2 : Int32) then p1 else p4)))) (i4 : Int32) (h_i4 : i4 = (if (p5 &&& (3 : Int32)) = (0 : Int32) then p2 else (if (p5 &&& (3 : Int32)) = (1 : Int32) then p4 else p2))) (i5 : Int32) (h_i5 : i5 = (if (p5 &&& (3 : Int32)) = (0 : Int32) then (1 : Int32) else (if (p5 &&& (3 : Int32)) = (1 : Int32) then (if p4 = p2 then (1 : Int32) else (0 : Int32)) else (if (p5 &&& (3 : Int32)) = (2 : Int32) then (if p3 = p0 then (1 : Int32) else (0 : Int32)) else (if p4 = p1 then (1 : Int32) else (0 : Int32)))))) (i44 : Int32) (h_i44 : i44 = (if (F3 (((0 : Int64) + (own_mix p0 p1 p2)) + (own_mix p3 p4 p5)) (((0 : Int64) + (own_mix p3 p4 p5)) + (own_mix i2 i3 i4))) = i5 then (if (F3 (((0 : Int64) + (own_mix p3 p4 p5)) + (own_mix i2 i3 i4)) (((0 : Int64) + (own_mix p0 p1 p2)) + (own_mix p3 p4 p5))) = i5 then (1 : Int32) else (0 : Int32)) else (0 : Int32)))  : i44 = (1 : Int32) := by
  have k : i5 = if own_mix p0 p1 p2 = own_mix i2 i3 i4 then (1 : Int32) else (0 : Int32) := by
    by_cases m0 : (p5 &&& (3 : Int32)) = (0 : Int32)
    · rw [if_pos m0] at h_i2 h_i3 h_i4 h_i5
      rw [h_i2, h_i3, h_i4, h_i5, if_pos rfl]
    · rw [if_neg m0] at h_i2 h_i3 h_i4 h_i5
      by_cases m1 : (p5 &&& (3 : Int32)) = (1 : Int32)
      · rw [if_pos m1] at h_i2 h_i3 h_i4 h_i5
        rw [h_i2, h_i3, h_i4, h_i5]
        by_cases q : p4 = p2
        · rw [if_pos q, q, if_pos rfl]
        · rw [if_neg q, if_neg (fun h => q (own_key_f (own_mix_inj h)).symm)]
      · rw [if_neg m1] at h_i2 h_i3 h_i4 h_i5
        by_cases m2 : (p5 &&& (3 : Int32)) = (2 : Int32)
        · rw [if_pos m2] at h_i2 h_i3 h_i5
          rw [h_i2, h_i3, h_i4, h_i5]
          by_cases q : p3 = p0
          · rw [if_pos q, q, if_pos rfl]
          · rw [if_neg q, if_neg (fun h => q (own_key_b (own_mix_inj h)).symm)]
        · rw [if_neg m2] at h_i2 h_i3 h_i5
          rw [h_i2, h_i3, h_i4, h_i5]
          by_cases q : p4 = p1
          · rw [if_pos q, q, if_pos rfl]
          · rw [if_neg q, if_neg (fun h => q (own_key_d (own_mix_inj h)).symm)]
  obtain ⟨a1, a2⟩ := own_agree (own_mix p0 p1 p2) (own_mix p3 p4 p5) (own_mix i2 i3 i4) i5 k
  rw [h_i44, if_pos a1, if_pos a2]
theorem ef_0 (m : MethodId) (x0 : Int32) (x1 : Int32) (x2 : Int32) (x3 : Int32) (x4 : Int32) (x5 : Int32) : entryFrame m #[(.int x0), (.int x1), (.int x2), (.int x3), (.int x4), (.int x5)] maxLocals = (mkF m 0 #[.val (.int x0), .val (.int x1), .val (.int x2), .val (.int x3), .val (.int x4), .val (.int x5), .unset, .unset, .unset, .unset, .unset, .unset, .unset] []) := by first | (simp [entryFrame, mkF, argsToLocals, Value.category, maxLocals]; done) | rfl
def Q0 (Z : State) (h0 : Heap) (n0 : Nat) (v : Option Value) (h : Heap) (L : List Loc) : Prop := v = some (.int (1 : Int32)) ∧ Fr n0 L
set_option maxRecDepth 65536 in
set_option maxHeartbeats 400000000 in
theorem rm0 (l : Launch) (Z : State) (a0 : Array Value) (hw : ∀ d ∈ tables_1, d.before a0 Z = true) (ws : List Jvm.Cond) (p0 : Int32) (p1 : Int32) (p2 : Int32) (p3 : Int32) (p4 : Int32) (p5 : Int32) (h0 : Heap) (n0 : Nat) (Z0 : n0 ≤ h0.size)  :
    MetFree l x (head1 (Jvm.Cond.code x code maxLocals ret :: ws) room_1) (fun a U => a = #[(.int p0), (.int p1), (.int p2), (.int p3), (.int p4), (.int p5)] ∧ Z.Warmed39 U.vm ∧ U.heap = h0) (fun _ _ _ _ _ => True) (fun _ U o U' => ∃ v L, o = .returned v ∧ Q0 Z h0 n0 v U'.heap L ∧ FrameEnd U o U' L room_1.cells room_1.slots) := by
  refine MetFree.of_bodySF (plainFor_of_name pn_1) hisR ?_
  intro p e s m args below meth c s₁ Bd hml0 hP hK
  obtain ⟨rfl, hZ, hh⟩ := hP
  have hx := Bd.exec
  have hby := Bd.bytes
  have hml : c.maxLocals = 13 := hml0
  have hown : s.vm.findClass "com/example/circlerank/circlerank/model/TallyAddPinLaw" = some m.cls := findClass_of_methodNamed Bd.named
  have hnm := (name_of_methodNamed Bd.named Bd.method).1
  have X0 : Stand p l e room_1 s m #[(.int p0), (.int p1), (.int p2), (.int p3), (.int p4), (.int p5)] below meth c s₁ [] 0 0 := Stand.of_body Bd
  have e0 : s₁.heap = h0 := by rw [← hh, Bd.state]; rfl
  have N0 := Fr.nil n0
  have pre0 : ∀ t, Steps p.tables e below (s₁.setTop (mkF m 0 #[.val (.int p0), .val (.int p1), .val (.int p2), .val (.int p3), .val (.int p4), .val (.int p5), .unset, .unset, .unset, .unset, .unset, .unset, .unset] [])) t → Steps p.tables e below (s₁.setTop (entryFrame m #[(.int p0), (.int p1), (.int p2), (.int p3), (.int p4), (.int p5)] maxLocals)) t := fun t k => castTop (ef_0 m p0 p1 p2 p3 p4 p5) k
  have P1 : ∀ t, Steps p.tables e below (s₁.setTop (mkF m 17 #[.val (.int p0), .val (.int p1), .val (.int p2), .val (.int p3), .val (.int p4), .val (.int p5), .val (.int (p5 &&& (3 : Int32))), .val (.int p0), .val (.int p1), .val (.int p2), .unset, .unset, .unset] [(.int (p5 &&& (3 : Int32)))])) t → Steps p.tables e below (s₁.setTop (entryFrame m #[(.int p0), (.int p1), (.int p2), (.int p3), (.int p4), (.int p5)] maxLocals)) t := by
    intro t kk
    refine pre0 _ ?_
    show Steps p.tables e below (s₁.setTop (mkF m 0 #[.val (.int p0), .val (.int p1), .val (.int p2), .val (.int p3), .val (.int p4), .val (.int p5), .unset, .unset, .unset, .unset, .unset, .unset, .unset] [])) _
    refine XS.iload X0.here hx rfl (hb hby at_0) rfl ?_
    show Steps p.tables e below (s₁.setTop (mkF m 2 #[.val (.int p0), .val (.int p1), .val (.int p2), .val (.int p3), .val (.int p4), .val (.int p5), .unset, .unset, .unset, .unset, .unset, .unset, .unset] [(.int p5)])) _
    refine XS.iconst X0.here hx rfl (hb hby at_2) ?_
    show Steps p.tables e below (s₁.setTop (mkF m 3 #[.val (.int p0), .val (.int p1), .val (.int p2), .val (.int p3), .val (.int p4), .val (.int p5), .unset, .unset, .unset, .unset, .unset, .unset, .unset] [(.int (3 : Int32)), (.int p5)])) _
    refine XS.iand X0.here hx rfl (hb hby at_3) rfl ?_
    show Steps p.tables e below (s₁.setTop (mkF m 4 #[.val (.int p0), .val (.int p1), .val (.int p2), .val (.int p3), .val (.int p4), .val (.int p5), .unset, .unset, .unset, .unset, .unset, .unset, .unset] [(.int (p5 &&& (3 : Int32)))])) _
    refine XS.istore X0.here hx rfl (hb hby at_4) rfl (l' := #[.val (.int p0), .val (.int p1), .val (.int p2), .val (.int p3), .val (.int p4), .val (.int p5), .val (.int (p5 &&& (3 : Int32))), .unset, .unset, .unset, .unset, .unset, .unset]) rfl ?_
    show Steps p.tables e below (s₁.setTop (mkF m 6 #[.val (.int p0), .val (.int p1), .val (.int p2), .val (.int p3), .val (.int p4), .val (.int p5), .val (.int (p5 &&& (3 : Int32))), .unset, .unset, .unset, .unset, .unset, .unset] [])) _
    refine XS.iloadN X0.here hx rfl (hb hby at_6) rfl ?_
    show Steps p.tables e below (s₁.setTop (mkF m 7 #[.val (.int p0), .val (.int p1), .val (.int p2), .val (.int p3), .val (.int p4), .val (.int p5), .val (.int (p5 &&& (3 : Int32))), .unset, .unset, .unset, .unset, .unset, .unset] [(.int p0)])) _
    refine XS.istore X0.here hx rfl (hb hby at_7) rfl (l' := #[.val (.int p0), .val (.int p1), .val (.int p2), .val (.int p3), .val (.int p4), .val (.int p5), .val (.int (p5 &&& (3 : Int32))), .val (.int p0), .unset, .unset, .unset, .unset, .unset]) rfl ?_
    show Steps p.tables e below (s₁.setTop (mkF m 9 #[.val (.int p0), .val (.int p1), .val (.int p2), .val (.int p3), .val (.int p4), .val (.int p5), .val (.int (p5 &&& (3 : Int32))), .val (.int p0), .unset, .unset, .unset, .unset, .unset] [])) _
    refine XS.iloadN X0.here hx rfl (hb hby at_9) rfl ?_
    show Steps p.tables e below (s₁.setTop (mkF m 10 #[.val (.int p0), .val (.int p1), .val (.int p2), .val (.int p3), .val (.int p4), .val (.int p5), .val (.int (p5 &&& (3 : Int32))), .val (.int p0), .unset, .unset, .unset, .unset, .unset] [(.int p1)])) _
    refine XS.istore X0.here hx rfl (hb hby at_10) rfl (l' := #[.val (.int p0), .val (.int p1), .val (.int p2), .val (.int p3), .val (.int p4), .val (.int p5), .val (.int (p5 &&& (3 : Int32))), .val (.int p0), .val (.int p1), .unset, .unset, .unset, .unset]) rfl ?_
    show Steps p.tables e below (s₁.setTop (mkF m 12 #[.val (.int p0), .val (.int p1), .val (.int p2), .val (.int p3), .val (.int p4), .val (.int p5), .val (.int (p5 &&& (3 : Int32))), .val (.int p0), .val (.int p1), .unset, .unset, .unset, .unset] [])) _
    refine XS.iloadN X0.here hx rfl (hb hby at_12) rfl ?_
    show Steps p.tables e below (s₁.setTop (mkF m 13 #[.val (.int p0), .val (.int p1), .val (.int p2), .val (.int p3), .val (.int p4), .val (.int p5), .val (.int (p5 &&& (3 : Int32))), .val (.int p0), .val (.int p1), .unset, .unset, .unset, .unset] [(.int p2)])) _
    refine XS.istore X0.here hx rfl (hb hby at_13) rfl (l' := #[.val (.int p0), .val (.int p1), .val (.int p2), .val (.int p3), .val (.int p4), .val (.int p5), .val (.int (p5 &&& (3 : Int32))), .val (.int p0), .val (.int p1), .val (.int p2), .unset, .unset, .unset]) rfl ?_
    show Steps p.tables e below (s₁.setTop (mkF m 15 #[.val (.int p0), .val (.int p1), .val (.int p2), .val (.int p3), .val (.int p4), .val (.int p5), .val (.int (p5 &&& (3 : Int32))), .val (.int p0), .val (.int p1), .val (.int p2), .unset, .unset, .unset] [])) _
    refine XS.iload X0.here hx rfl (hb hby at_15) rfl ?_
    show Steps p.tables e below (s₁.setTop (mkF m 17 #[.val (.int p0), .val (.int p1), .val (.int p2), .val (.int p3), .val (.int p4), .val (.int p5), .val (.int (p5 &&& (3 : Int32))), .val (.int p0), .val (.int p1), .val (.int p2), .unset, .unset, .unset] [(.int (p5 &&& (3 : Int32)))])) _
    exact kk
  obtain ⟨i2, i3, i4, i5, h_i2, h_i3, h_i4, h_i5, P6⟩ : ∃ (i2 : Int32) (i3 : Int32) (i4 : Int32) (i5 : Int32), i2 = (if (p5 &&& (3 : Int32)) = (0 : Int32) then p0 else (if (p5 &&& (3 : Int32)) = (1 : Int32) then p0 else (if (p5 &&& (3 : Int32)) = (2 : Int32) then p3 else p0))) ∧ i3 = (if (p5 &&& (3 : Int32)) = (0 : Int32) then p1 else (if (p5 &&& (3 : Int32)) = (1 : Int32) then p1 else (if (p5 &&& (3 : Int32)) = (2 : Int32) then p1 else p4))) ∧ i4 = (if (p5 &&& (3 : Int32)) = (0 : Int32) then p2 else (if (p5 &&& (3 : Int32)) = (1 : Int32) then p4 else p2)) ∧ i5 = (if (p5 &&& (3 : Int32)) = (0 : Int32) then (1 : Int32) else (if (p5 &&& (3 : Int32)) = (1 : Int32) then (if p4 = p2 then (1 : Int32) else (0 : Int32)) else (if (p5 &&& (3 : Int32)) = (2 : Int32) then (if p3 = p0 then (1 : Int32) else (0 : Int32)) else (if p4 = p1 then (1 : Int32) else (0 : Int32))))) ∧ ∀ t, Steps p.tables e below (s₁.setTop (mkF m 93 #[.val (.int p0), .val (.int p1), .val (.int p2), .val (.int p3), .val (.int p4), .val (.int p5), .val (.int (p5 &&& (3 : Int32))), .val (.int i2), .val (.int i3), .val (.int i4), .val (.int i5), .unset, .unset] [])) t → Steps p.tables e below (s₁.setTop (entryFrame m #[(.int p0), (.int p1), (.int p2), (.int p3), (.int p4), (.int p5)] maxLocals)) t := by
    by_cases c7 : (p5 &&& (3 : Int32)) = (0 : Int32)
    · skip
      refine ⟨p0, p1, p2, (1 : Int32), ((if_pos c7).trans rfl).symm, ((if_pos c7).trans rfl).symm, ((if_pos c7).trans rfl).symm, ((if_pos c7).trans rfl).symm, fun t kk => P1 t ?_⟩
      show Steps p.tables e below (s₁.setTop (mkF m 17 #[.val (.int p0), .val (.int p1), .val (.int p2), .val (.int p3), .val (.int p4), .val (.int p5), .val (.int (p5 &&& (3 : Int32))), .val (.int p0), .val (.int p1), .val (.int p2), .unset, .unset, .unset] [(.int (p5 &&& (3 : Int32)))])) _
      refine XS.ifNo X0.here hx rfl (hb hby at_17) rfl (XT.i0_ne_f c7) ?_
      show Steps p.tables e below (s₁.setTop (mkF m 20 #[.val (.int p0), .val (.int p1), .val (.int p2), .val (.int p3), .val (.int p4), .val (.int p5), .val (.int (p5 &&& (3 : Int32))), .val (.int p0), .val (.int p1), .val (.int p2), .unset, .unset, .unset] [])) _
      refine XS.iconst X0.here hx rfl (hb hby at_20) ?_
      show Steps p.tables e below (s₁.setTop (mkF m 21 #[.val (.int p0), .val (.int p1), .val (.int p2), .val (.int p3), .val (.int p4), .val (.int p5), .val (.int (p5 &&& (3 : Int32))), .val (.int p0), .val (.int p1), .val (.int p2), .unset, .unset, .unset] [(.int (1 : Int32))])) _
      refine XS.istore X0.here hx rfl (hb hby at_21) rfl (l' := #[.val (.int p0), .val (.int p1), .val (.int p2), .val (.int p3), .val (.int p4), .val (.int p5), .val (.int (p5 &&& (3 : Int32))), .val (.int p0), .val (.int p1), .val (.int p2), .val (.int (1 : Int32)), .unset, .unset]) rfl ?_
      show Steps p.tables e below (s₁.setTop (mkF m 23 #[.val (.int p0), .val (.int p1), .val (.int p2), .val (.int p3), .val (.int p4), .val (.int p5), .val (.int (p5 &&& (3 : Int32))), .val (.int p0), .val (.int p1), .val (.int p2), .val (.int (1 : Int32)), .unset, .unset] [])) _
      refine XS.goto X0.here hx rfl (pc0 := 23) (pc' := 93) rfl (hb hby at_23) (by decide) (by decide) ?_
      show Steps p.tables e below (s₁.setTop (mkF m 93 #[.val (.int p0), .val (.int p1), .val (.int p2), .val (.int p3), .val (.int p4), .val (.int p5), .val (.int (p5 &&& (3 : Int32))), .val (.int p0), .val (.int p1), .val (.int p2), .val (.int (1 : Int32)), .unset, .unset] [])) _
      exact kk
    · skip
      have P8 : ∀ t, Steps p.tables e below (s₁.setTop (mkF m 29 #[.val (.int p0), .val (.int p1), .val (.int p2), .val (.int p3), .val (.int p4), .val (.int p5), .val (.int (p5 &&& (3 : Int32))), .val (.int p0), .val (.int p1), .val (.int p2), .unset, .unset, .unset] [(.int (1 : Int32)), (.int (p5 &&& (3 : Int32)))])) t → Steps p.tables e below (s₁.setTop (entryFrame m #[(.int p0), (.int p1), (.int p2), (.int p3), (.int p4), (.int p5)] maxLocals)) t := by
        intro t kk
        refine P1 _ ?_
        show Steps p.tables e below (s₁.setTop (mkF m 17 #[.val (.int p0), .val (.int p1), .val (.int p2), .val (.int p3), .val (.int p4), .val (.int p5), .val (.int (p5 &&& (3 : Int32))), .val (.int p0), .val (.int p1), .val (.int p2), .unset, .unset, .unset] [(.int (p5 &&& (3 : Int32)))])) _
        refine XS.ifYes X0.here hx rfl (pc0 := 17) (pc' := 26) rfl (hb hby at_17) rfl (XT.i0_ne_t c7) (by decide) (by decide) ?_
        show Steps p.tables e below (s₁.setTop (mkF m 26 #[.val (.int p0), .val (.int p1), .val (.int p2), .val (.int p3), .val (.int p4), .val (.int p5), .val (.int (p5 &&& (3 : Int32))), .val (.int p0), .val (.int p1), .val (.int p2), .unset, .unset, .unset] [])) _
        refine XS.iload X0.here hx rfl (hb hby at_26) rfl ?_
        show Steps p.tables e below (s₁.setTop (mkF m 28 #[.val (.int p0), .val (.int p1), .val (.int p2), .val (.int p3), .val (.int p4), .val (.int p5), .val (.int (p5 &&& (3 : Int32))), .val (.int p0), .val (.int p1), .val (.int p2), .unset, .unset, .unset] [(.int (p5 &&& (3 : Int32)))])) _
        refine XS.iconst X0.here hx rfl (hb hby at_28) ?_
        show Steps p.tables e below (s₁.setTop (mkF m 29 #[.val (.int p0), .val (.int p1), .val (.int p2), .val (.int p3), .val (.int p4), .val (.int p5), .val (.int (p5 &&& (3 : Int32))), .val (.int p0), .val (.int p1), .val (.int p2), .unset, .unset, .unset] [(.int (1 : Int32)), (.int (p5 &&& (3 : Int32)))])) _
        exact kk
      by_cases c9 : (p5 &&& (3 : Int32)) = (1 : Int32)
      · skip
        have P10 : ∀ t, Steps p.tables e below (s₁.setTop (mkF m 39 #[.val (.int p0), .val (.int p1), .val (.int p2), .val (.int p3), .val (.int p4), .val (.int p5), .val (.int (p5 &&& (3 : Int32))), .val (.int p0), .val (.int p1), .val (.int p4), .unset, .unset, .unset] [(.int p2), (.int p4)])) t → Steps p.tables e below (s₁.setTop (entryFrame m #[(.int p0), (.int p1), (.int p2), (.int p3), (.int p4), (.int p5)] maxLocals)) t := by
          intro t kk
          refine P8 _ ?_
          show Steps p.tables e below (s₁.setTop (mkF m 29 #[.val (.int p0), .val (.int p1), .val (.int p2), .val (.int p3), .val (.int p4), .val (.int p5), .val (.int (p5 &&& (3 : Int32))), .val (.int p0), .val (.int p1), .val (.int p2), .unset, .unset, .unset] [(.int (1 : Int32)), (.int (p5 &&& (3 : Int32)))])) _
          refine XS.icmpNo X0.here hx rfl (hb hby at_29) rfl (XT.ii_ne_f c9) ?_
          show Steps p.tables e below (s₁.setTop (mkF m 32 #[.val (.int p0), .val (.int p1), .val (.int p2), .val (.int p3), .val (.int p4), .val (.int p5), .val (.int (p5 &&& (3 : Int32))), .val (.int p0), .val (.int p1), .val (.int p2), .unset, .unset, .unset] [])) _
          refine XS.iload X0.here hx rfl (hb hby at_32) rfl ?_
          show Steps p.tables e below (s₁.setTop (mkF m 34 #[.val (.int p0), .val (.int p1), .val (.int p2), .val (.int p3), .val (.int p4), .val (.int p5), .val (.int (p5 &&& (3 : Int32))), .val (.int p0), .val (.int p1), .val (.int p2), .unset, .unset, .unset] [(.int p4)])) _
          refine XS.istore X0.here hx rfl (hb hby at_34) rfl (l' := #[.val (.int p0), .val (.int p1), .val (.int p2), .val (.int p3), .val (.int p4), .val (.int p5), .val (.int (p5 &&& (3 : Int32))), .val (.int p0), .val (.int p1), .val (.int p4), .unset, .unset, .unset]) rfl ?_
          show Steps p.tables e below (s₁.setTop (mkF m 36 #[.val (.int p0), .val (.int p1), .val (.int p2), .val (.int p3), .val (.int p4), .val (.int p5), .val (.int (p5 &&& (3 : Int32))), .val (.int p0), .val (.int p1), .val (.int p4), .unset, .unset, .unset] [])) _
          refine XS.iload X0.here hx rfl (hb hby at_36) rfl ?_
          show Steps p.tables e below (s₁.setTop (mkF m 38 #[.val (.int p0), .val (.int p1), .val (.int p2), .val (.int p3), .val (.int p4), .val (.int p5), .val (.int (p5 &&& (3 : Int32))), .val (.int p0), .val (.int p1), .val (.int p4), .unset, .unset, .unset] [(.int p4)])) _
          refine XS.iloadN X0.here hx rfl (hb hby at_38) rfl ?_
          show Steps p.tables e below (s₁.setTop (mkF m 39 #[.val (.int p0), .val (.int p1), .val (.int p2), .val (.int p3), .val (.int p4), .val (.int p5), .val (.int (p5 &&& (3 : Int32))), .val (.int p0), .val (.int p1), .val (.int p4), .unset, .unset, .unset] [(.int p2), (.int p4)])) _
          exact kk
        by_cases c11 : p4 = p2
        · skip
          refine ⟨p0, p1, p4, (1 : Int32), ((if_neg c7).trans ((if_pos c9).trans rfl)).symm, ((if_neg c7).trans ((if_pos c9).trans rfl)).symm, ((if_neg c7).trans ((if_pos c9).trans rfl)).symm, ((if_neg c7).trans ((if_pos c9).trans ((if_pos c11).trans rfl))).symm, fun t kk => P10 t ?_⟩
          show Steps p.tables e below (s₁.setTop (mkF m 39 #[.val (.int p0), .val (.int p1), .val (.int p2), .val (.int p3), .val (.int p4), .val (.int p5), .val (.int (p5 &&& (3 : Int32))), .val (.int p0), .val (.int p1), .val (.int p4), .unset, .unset, .unset] [(.int p2), (.int p4)])) _
          refine XS.icmpNo X0.here hx rfl (hb hby at_39) rfl (XT.ii_ne_f c11) ?_
          show Steps p.tables e below (s₁.setTop (mkF m 42 #[.val (.int p0), .val (.int p1), .val (.int p2), .val (.int p3), .val (.int p4), .val (.int p5), .val (.int (p5 &&& (3 : Int32))), .val (.int p0), .val (.int p1), .val (.int p4), .unset, .unset, .unset] [])) _
          refine XS.iconst X0.here hx rfl (hb hby at_42) ?_
          show Steps p.tables e below (s₁.setTop (mkF m 43 #[.val (.int p0), .val (.int p1), .val (.int p2), .val (.int p3), .val (.int p4), .val (.int p5), .val (.int (p5 &&& (3 : Int32))), .val (.int p0), .val (.int p1), .val (.int p4), .unset, .unset, .unset] [(.int (1 : Int32))])) _
          refine XS.goto X0.here hx rfl (pc0 := 43) (pc' := 47) rfl (hb hby at_43) (by decide) (by decide) ?_
          show Steps p.tables e below (s₁.setTop (mkF m 47 #[.val (.int p0), .val (.int p1), .val (.int p2), .val (.int p3), .val (.int p4), .val (.int p5), .val (.int (p5 &&& (3 : Int32))), .val (.int p0), .val (.int p1), .val (.int p4), .unset, .unset, .unset] [(.int (1 : Int32))])) _
          refine XS.istore X0.here hx rfl (hb hby at_47) rfl (l' := #[.val (.int p0), .val (.int p1), .val (.int p2), .val (.int p3), .val (.int p4), .val (.int p5), .val (.int (p5 &&& (3 : Int32))), .val (.int p0), .val (.int p1), .val (.int p4), .val (.int (1 : Int32)), .unset, .unset]) rfl ?_
          show Steps p.tables e below (s₁.setTop (mkF m 49 #[.val (.int p0), .val (.int p1), .val (.int p2), .val (.int p3), .val (.int p4), .val (.int p5), .val (.int (p5 &&& (3 : Int32))), .val (.int p0), .val (.int p1), .val (.int p4), .val (.int (1 : Int32)), .unset, .unset] [])) _
          refine XS.goto X0.here hx rfl (pc0 := 49) (pc' := 93) rfl (hb hby at_49) (by decide) (by decide) ?_
          show Steps p.tables e below (s₁.setTop (mkF m 93 #[.val (.int p0), .val (.int p1), .val (.int p2), .val (.int p3), .val (.int p4), .val (.int p5), .val (.int (p5 &&& (3 : Int32))), .val (.int p0), .val (.int p1), .val (.int p4), .val (.int (1 : Int32)), .unset, .unset] [])) _
          exact kk
        · skip
          refine ⟨p0, p1, p4, (0 : Int32), ((if_neg c7).trans ((if_pos c9).trans rfl)).symm, ((if_neg c7).trans ((if_pos c9).trans rfl)).symm, ((if_neg c7).trans ((if_pos c9).trans rfl)).symm, ((if_neg c7).trans ((if_pos c9).trans ((if_neg c11).trans rfl))).symm, fun t kk => P10 t ?_⟩
          show Steps p.tables e below (s₁.setTop (mkF m 39 #[.val (.int p0), .val (.int p1), .val (.int p2), .val (.int p3), .val (.int p4), .val (.int p5), .val (.int (p5 &&& (3 : Int32))), .val (.int p0), .val (.int p1), .val (.int p4), .unset, .unset, .unset] [(.int p2), (.int p4)])) _
          refine XS.icmpYes X0.here hx rfl (pc0 := 39) (pc' := 46) rfl (hb hby at_39) rfl (XT.ii_ne_t c11) (by decide) (by decide) ?_
          show Steps p.tables e below (s₁.setTop (mkF m 46 #[.val (.int p0), .val (.int p1), .val (.int p2), .val (.int p3), .val (.int p4), .val (.int p5), .val (.int (p5 &&& (3 : Int32))), .val (.int p0), .val (.int p1), .val (.int p4), .unset, .unset, .unset] [])) _
          refine XS.iconst X0.here hx rfl (hb hby at_46) ?_
          show Steps p.tables e below (s₁.setTop (mkF m 47 #[.val (.int p0), .val (.int p1), .val (.int p2), .val (.int p3), .val (.int p4), .val (.int p5), .val (.int (p5 &&& (3 : Int32))), .val (.int p0), .val (.int p1), .val (.int p4), .unset, .unset, .unset] [(.int (0 : Int32))])) _
          refine XS.istore X0.here hx rfl (hb hby at_47) rfl (l' := #[.val (.int p0), .val (.int p1), .val (.int p2), .val (.int p3), .val (.int p4), .val (.int p5), .val (.int (p5 &&& (3 : Int32))), .val (.int p0), .val (.int p1), .val (.int p4), .val (.int (0 : Int32)), .unset, .unset]) rfl ?_
          show Steps p.tables e below (s₁.setTop (mkF m 49 #[.val (.int p0), .val (.int p1), .val (.int p2), .val (.int p3), .val (.int p4), .val (.int p5), .val (.int (p5 &&& (3 : Int32))), .val (.int p0), .val (.int p1), .val (.int p4), .val (.int (0 : Int32)), .unset, .unset] [])) _
          refine XS.goto X0.here hx rfl (pc0 := 49) (pc' := 93) rfl (hb hby at_49) (by decide) (by decide) ?_
          show Steps p.tables e below (s₁.setTop (mkF m 93 #[.val (.int p0), .val (.int p1), .val (.int p2), .val (.int p3), .val (.int p4), .val (.int p5), .val (.int (p5 &&& (3 : Int32))), .val (.int p0), .val (.int p1), .val (.int p4), .val (.int (0 : Int32)), .unset, .unset] [])) _
          exact kk
      · skip
        have P12 : ∀ t, Steps p.tables e below (s₁.setTop (mkF m 55 #[.val (.int p0), .val (.int p1), .val (.int p2), .val (.int p3), .val (.int p4), .val (.int p5), .val (.int (p5 &&& (3 : Int32))), .val (.int p0), .val (.int p1), .val (.int p2), .unset, .unset, .unset] [(.int (2 : Int32)), (.int (p5 &&& (3 : Int32)))])) t → Steps p.tables e below (s₁.setTop (entryFrame m #[(.int p0), (.int p1), (.int p2), (.int p3), (.int p4), (.int p5)] maxLocals)) t := by
          intro t kk
          refine P8 _ ?_
          show Steps p.tables e below (s₁.setTop (mkF m 29 #[.val (.int p0), .val (.int p1), .val (.int p2), .val (.int p3), .val (.int p4), .val (.int p5), .val (.int (p5 &&& (3 : Int32))), .val (.int p0), .val (.int p1), .val (.int p2), .unset, .unset, .unset] [(.int (1 : Int32)), (.int (p5 &&& (3 : Int32)))])) _
          refine XS.icmpYes X0.here hx rfl (pc0 := 29) (pc' := 52) rfl (hb hby at_29) rfl (XT.ii_ne_t c9) (by decide) (by decide) ?_
          show Steps p.tables e below (s₁.setTop (mkF m 52 #[.val (.int p0), .val (.int p1), .val (.int p2), .val (.int p3), .val (.int p4), .val (.int p5), .val (.int (p5 &&& (3 : Int32))), .val (.int p0), .val (.int p1), .val (.int p2), .unset, .unset, .unset] [])) _
          refine XS.iload X0.here hx rfl (hb hby at_52) rfl ?_
          show Steps p.tables e below (s₁.setTop (mkF m 54 #[.val (.int p0), .val (.int p1), .val (.int p2), .val (.int p3), .val (.int p4), .val (.int p5), .val (.int (p5 &&& (3 : Int32))), .val (.int p0), .val (.int p1), .val (.int p2), .unset, .unset, .unset] [(.int (p5 &&& (3 : Int32)))])) _
          refine XS.iconst X0.here hx rfl (hb hby at_54) ?_
          show Steps p.tables e below (s₁.setTop (mkF m 55 #[.val (.int p0), .val (.int p1), .val (.int p2), .val (.int p3), .val (.int p4), .val (.int p5), .val (.int (p5 &&& (3 : Int32))), .val (.int p0), .val (.int p1), .val (.int p2), .unset, .unset, .unset] [(.int (2 : Int32)), (.int (p5 &&& (3 : Int32)))])) _
          exact kk
        by_cases c13 : (p5 &&& (3 : Int32)) = (2 : Int32)
        · skip
          have P14 : ∀ t, Steps p.tables e below (s₁.setTop (mkF m 63 #[.val (.int p0), .val (.int p1), .val (.int p2), .val (.int p3), .val (.int p4), .val (.int p5), .val (.int (p5 &&& (3 : Int32))), .val (.int p3), .val (.int p1), .val (.int p2), .unset, .unset, .unset] [(.int p0), (.int p3)])) t → Steps p.tables e below (s₁.setTop (entryFrame m #[(.int p0), (.int p1), (.int p2), (.int p3), (.int p4), (.int p5)] maxLocals)) t := by
            intro t kk
            refine P12 _ ?_
            show Steps p.tables e below (s₁.setTop (mkF m 55 #[.val (.int p0), .val (.int p1), .val (.int p2), .val (.int p3), .val (.int p4), .val (.int p5), .val (.int (p5 &&& (3 : Int32))), .val (.int p0), .val (.int p1), .val (.int p2), .unset, .unset, .unset] [(.int (2 : Int32)), (.int (p5 &&& (3 : Int32)))])) _
            refine XS.icmpNo X0.here hx rfl (hb hby at_55) rfl (XT.ii_ne_f c13) ?_
            show Steps p.tables e below (s₁.setTop (mkF m 58 #[.val (.int p0), .val (.int p1), .val (.int p2), .val (.int p3), .val (.int p4), .val (.int p5), .val (.int (p5 &&& (3 : Int32))), .val (.int p0), .val (.int p1), .val (.int p2), .unset, .unset, .unset] [])) _
            refine XS.iloadN X0.here hx rfl (hb hby at_58) rfl ?_
            show Steps p.tables e below (s₁.setTop (mkF m 59 #[.val (.int p0), .val (.int p1), .val (.int p2), .val (.int p3), .val (.int p4), .val (.int p5), .val (.int (p5 &&& (3 : Int32))), .val (.int p0), .val (.int p1), .val (.int p2), .unset, .unset, .unset] [(.int p3)])) _
            refine XS.istore X0.here hx rfl (hb hby at_59) rfl (l' := #[.val (.int p0), .val (.int p1), .val (.int p2), .val (.int p3), .val (.int p4), .val (.int p5), .val (.int (p5 &&& (3 : Int32))), .val (.int p3), .val (.int p1), .val (.int p2), .unset, .unset, .unset]) rfl ?_
            show Steps p.tables e below (s₁.setTop (mkF m 61 #[.val (.int p0), .val (.int p1), .val (.int p2), .val (.int p3), .val (.int p4), .val (.int p5), .val (.int (p5 &&& (3 : Int32))), .val (.int p3), .val (.int p1), .val (.int p2), .unset, .unset, .unset] [])) _
            refine XS.iloadN X0.here hx rfl (hb hby at_61) rfl ?_
            show Steps p.tables e below (s₁.setTop (mkF m 62 #[.val (.int p0), .val (.int p1), .val (.int p2), .val (.int p3), .val (.int p4), .val (.int p5), .val (.int (p5 &&& (3 : Int32))), .val (.int p3), .val (.int p1), .val (.int p2), .unset, .unset, .unset] [(.int p3)])) _
            refine XS.iloadN X0.here hx rfl (hb hby at_62) rfl ?_
            show Steps p.tables e below (s₁.setTop (mkF m 63 #[.val (.int p0), .val (.int p1), .val (.int p2), .val (.int p3), .val (.int p4), .val (.int p5), .val (.int (p5 &&& (3 : Int32))), .val (.int p3), .val (.int p1), .val (.int p2), .unset, .unset, .unset] [(.int p0), (.int p3)])) _
            exact kk
          by_cases c15 : p3 = p0
          · skip
            refine ⟨p3, p1, p2, (1 : Int32), ((if_neg c7).trans ((if_neg c9).trans ((if_pos c13).trans rfl))).symm, ((if_neg c7).trans ((if_neg c9).trans ((if_pos c13).trans rfl))).symm, ((if_neg c7).trans ((if_neg c9).trans rfl)).symm, ((if_neg c7).trans ((if_neg c9).trans ((if_pos c13).trans ((if_pos c15).trans rfl)))).symm, fun t kk => P14 t ?_⟩
            show Steps p.tables e below (s₁.setTop (mkF m 63 #[.val (.int p0), .val (.int p1), .val (.int p2), .val (.int p3), .val (.int p4), .val (.int p5), .val (.int (p5 &&& (3 : Int32))), .val (.int p3), .val (.int p1), .val (.int p2), .unset, .unset, .unset] [(.int p0), (.int p3)])) _
            refine XS.icmpNo X0.here hx rfl (hb hby at_63) rfl (XT.ii_ne_f c15) ?_
            show Steps p.tables e below (s₁.setTop (mkF m 66 #[.val (.int p0), .val (.int p1), .val (.int p2), .val (.int p3), .val (.int p4), .val (.int p5), .val (.int (p5 &&& (3 : Int32))), .val (.int p3), .val (.int p1), .val (.int p2), .unset, .unset, .unset] [])) _
            refine XS.iconst X0.here hx rfl (hb hby at_66) ?_
            show Steps p.tables e below (s₁.setTop (mkF m 67 #[.val (.int p0), .val (.int p1), .val (.int p2), .val (.int p3), .val (.int p4), .val (.int p5), .val (.int (p5 &&& (3 : Int32))), .val (.int p3), .val (.int p1), .val (.int p2), .unset, .unset, .unset] [(.int (1 : Int32))])) _
            refine XS.goto X0.here hx rfl (pc0 := 67) (pc' := 71) rfl (hb hby at_67) (by decide) (by decide) ?_
            show Steps p.tables e below (s₁.setTop (mkF m 71 #[.val (.int p0), .val (.int p1), .val (.int p2), .val (.int p3), .val (.int p4), .val (.int p5), .val (.int (p5 &&& (3 : Int32))), .val (.int p3), .val (.int p1), .val (.int p2), .unset, .unset, .unset] [(.int (1 : Int32))])) _
            refine XS.istore X0.here hx rfl (hb hby at_71) rfl (l' := #[.val (.int p0), .val (.int p1), .val (.int p2), .val (.int p3), .val (.int p4), .val (.int p5), .val (.int (p5 &&& (3 : Int32))), .val (.int p3), .val (.int p1), .val (.int p2), .val (.int (1 : Int32)), .unset, .unset]) rfl ?_
            show Steps p.tables e below (s₁.setTop (mkF m 73 #[.val (.int p0), .val (.int p1), .val (.int p2), .val (.int p3), .val (.int p4), .val (.int p5), .val (.int (p5 &&& (3 : Int32))), .val (.int p3), .val (.int p1), .val (.int p2), .val (.int (1 : Int32)), .unset, .unset] [])) _
            refine XS.goto X0.here hx rfl (pc0 := 73) (pc' := 93) rfl (hb hby at_73) (by decide) (by decide) ?_
            show Steps p.tables e below (s₁.setTop (mkF m 93 #[.val (.int p0), .val (.int p1), .val (.int p2), .val (.int p3), .val (.int p4), .val (.int p5), .val (.int (p5 &&& (3 : Int32))), .val (.int p3), .val (.int p1), .val (.int p2), .val (.int (1 : Int32)), .unset, .unset] [])) _
            exact kk
          · skip
            refine ⟨p3, p1, p2, (0 : Int32), ((if_neg c7).trans ((if_neg c9).trans ((if_pos c13).trans rfl))).symm, ((if_neg c7).trans ((if_neg c9).trans ((if_pos c13).trans rfl))).symm, ((if_neg c7).trans ((if_neg c9).trans rfl)).symm, ((if_neg c7).trans ((if_neg c9).trans ((if_pos c13).trans ((if_neg c15).trans rfl)))).symm, fun t kk => P14 t ?_⟩
            show Steps p.tables e below (s₁.setTop (mkF m 63 #[.val (.int p0), .val (.int p1), .val (.int p2), .val (.int p3), .val (.int p4), .val (.int p5), .val (.int (p5 &&& (3 : Int32))), .val (.int p3), .val (.int p1), .val (.int p2), .unset, .unset, .unset] [(.int p0), (.int p3)])) _
            refine XS.icmpYes X0.here hx rfl (pc0 := 63) (pc' := 70) rfl (hb hby at_63) rfl (XT.ii_ne_t c15) (by decide) (by decide) ?_
            show Steps p.tables e below (s₁.setTop (mkF m 70 #[.val (.int p0), .val (.int p1), .val (.int p2), .val (.int p3), .val (.int p4), .val (.int p5), .val (.int (p5 &&& (3 : Int32))), .val (.int p3), .val (.int p1), .val (.int p2), .unset, .unset, .unset] [])) _
            refine XS.iconst X0.here hx rfl (hb hby at_70) ?_
            show Steps p.tables e below (s₁.setTop (mkF m 71 #[.val (.int p0), .val (.int p1), .val (.int p2), .val (.int p3), .val (.int p4), .val (.int p5), .val (.int (p5 &&& (3 : Int32))), .val (.int p3), .val (.int p1), .val (.int p2), .unset, .unset, .unset] [(.int (0 : Int32))])) _
            refine XS.istore X0.here hx rfl (hb hby at_71) rfl (l' := #[.val (.int p0), .val (.int p1), .val (.int p2), .val (.int p3), .val (.int p4), .val (.int p5), .val (.int (p5 &&& (3 : Int32))), .val (.int p3), .val (.int p1), .val (.int p2), .val (.int (0 : Int32)), .unset, .unset]) rfl ?_
            show Steps p.tables e below (s₁.setTop (mkF m 73 #[.val (.int p0), .val (.int p1), .val (.int p2), .val (.int p3), .val (.int p4), .val (.int p5), .val (.int (p5 &&& (3 : Int32))), .val (.int p3), .val (.int p1), .val (.int p2), .val (.int (0 : Int32)), .unset, .unset] [])) _
            refine XS.goto X0.here hx rfl (pc0 := 73) (pc' := 93) rfl (hb hby at_73) (by decide) (by decide) ?_
            show Steps p.tables e below (s₁.setTop (mkF m 93 #[.val (.int p0), .val (.int p1), .val (.int p2), .val (.int p3), .val (.int p4), .val (.int p5), .val (.int (p5 &&& (3 : Int32))), .val (.int p3), .val (.int p1), .val (.int p2), .val (.int (0 : Int32)), .unset, .unset] [])) _
            exact kk
        · skip
          have P16 : ∀ t, Steps p.tables e below (s₁.setTop (mkF m 83 #[.val (.int p0), .val (.int p1), .val (.int p2), .val (.int p3), .val (.int p4), .val (.int p5), .val (.int (p5 &&& (3 : Int32))), .val (.int p0), .val (.int p4), .val (.int p2), .unset, .unset, .unset] [(.int p1), (.int p4)])) t → Steps p.tables e below (s₁.setTop (entryFrame m #[(.int p0), (.int p1), (.int p2), (.int p3), (.int p4), (.int p5)] maxLocals)) t := by
            intro t kk
            refine P12 _ ?_
            show Steps p.tables e below (s₁.setTop (mkF m 55 #[.val (.int p0), .val (.int p1), .val (.int p2), .val (.int p3), .val (.int p4), .val (.int p5), .val (.int (p5 &&& (3 : Int32))), .val (.int p0), .val (.int p1), .val (.int p2), .unset, .unset, .unset] [(.int (2 : Int32)), (.int (p5 &&& (3 : Int32)))])) _
            refine XS.icmpYes X0.here hx rfl (pc0 := 55) (pc' := 76) rfl (hb hby at_55) rfl (XT.ii_ne_t c13) (by decide) (by decide) ?_
            show Steps p.tables e below (s₁.setTop (mkF m 76 #[.val (.int p0), .val (.int p1), .val (.int p2), .val (.int p3), .val (.int p4), .val (.int p5), .val (.int (p5 &&& (3 : Int32))), .val (.int p0), .val (.int p1), .val (.int p2), .unset, .unset, .unset] [])) _
            refine XS.iload X0.here hx rfl (hb hby at_76) rfl ?_
            show Steps p.tables e below (s₁.setTop (mkF m 78 #[.val (.int p0), .val (.int p1), .val (.int p2), .val (.int p3), .val (.int p4), .val (.int p5), .val (.int (p5 &&& (3 : Int32))), .val (.int p0), .val (.int p1), .val (.int p2), .unset, .unset, .unset] [(.int p4)])) _
            refine XS.istore X0.here hx rfl (hb hby at_78) rfl (l' := #[.val (.int p0), .val (.int p1), .val (.int p2), .val (.int p3), .val (.int p4), .val (.int p5), .val (.int (p5 &&& (3 : Int32))), .val (.int p0), .val (.int p4), .val (.int p2), .unset, .unset, .unset]) rfl ?_
            show Steps p.tables e below (s₁.setTop (mkF m 80 #[.val (.int p0), .val (.int p1), .val (.int p2), .val (.int p3), .val (.int p4), .val (.int p5), .val (.int (p5 &&& (3 : Int32))), .val (.int p0), .val (.int p4), .val (.int p2), .unset, .unset, .unset] [])) _
            refine XS.iload X0.here hx rfl (hb hby at_80) rfl ?_
            show Steps p.tables e below (s₁.setTop (mkF m 82 #[.val (.int p0), .val (.int p1), .val (.int p2), .val (.int p3), .val (.int p4), .val (.int p5), .val (.int (p5 &&& (3 : Int32))), .val (.int p0), .val (.int p4), .val (.int p2), .unset, .unset, .unset] [(.int p4)])) _
            refine XS.iloadN X0.here hx rfl (hb hby at_82) rfl ?_
            show Steps p.tables e below (s₁.setTop (mkF m 83 #[.val (.int p0), .val (.int p1), .val (.int p2), .val (.int p3), .val (.int p4), .val (.int p5), .val (.int (p5 &&& (3 : Int32))), .val (.int p0), .val (.int p4), .val (.int p2), .unset, .unset, .unset] [(.int p1), (.int p4)])) _
            exact kk
          by_cases c17 : p4 = p1
          · skip
            refine ⟨p0, p4, p2, (1 : Int32), ((if_neg c7).trans ((if_neg c9).trans ((if_neg c13).trans rfl))).symm, ((if_neg c7).trans ((if_neg c9).trans ((if_neg c13).trans rfl))).symm, ((if_neg c7).trans ((if_neg c9).trans rfl)).symm, ((if_neg c7).trans ((if_neg c9).trans ((if_neg c13).trans ((if_pos c17).trans rfl)))).symm, fun t kk => P16 t ?_⟩
            show Steps p.tables e below (s₁.setTop (mkF m 83 #[.val (.int p0), .val (.int p1), .val (.int p2), .val (.int p3), .val (.int p4), .val (.int p5), .val (.int (p5 &&& (3 : Int32))), .val (.int p0), .val (.int p4), .val (.int p2), .unset, .unset, .unset] [(.int p1), (.int p4)])) _
            refine XS.icmpNo X0.here hx rfl (hb hby at_83) rfl (XT.ii_ne_f c17) ?_
            show Steps p.tables e below (s₁.setTop (mkF m 86 #[.val (.int p0), .val (.int p1), .val (.int p2), .val (.int p3), .val (.int p4), .val (.int p5), .val (.int (p5 &&& (3 : Int32))), .val (.int p0), .val (.int p4), .val (.int p2), .unset, .unset, .unset] [])) _
            refine XS.iconst X0.here hx rfl (hb hby at_86) ?_
            show Steps p.tables e below (s₁.setTop (mkF m 87 #[.val (.int p0), .val (.int p1), .val (.int p2), .val (.int p3), .val (.int p4), .val (.int p5), .val (.int (p5 &&& (3 : Int32))), .val (.int p0), .val (.int p4), .val (.int p2), .unset, .unset, .unset] [(.int (1 : Int32))])) _
            refine XS.goto X0.here hx rfl (pc0 := 87) (pc' := 91) rfl (hb hby at_87) (by decide) (by decide) ?_
            show Steps p.tables e below (s₁.setTop (mkF m 91 #[.val (.int p0), .val (.int p1), .val (.int p2), .val (.int p3), .val (.int p4), .val (.int p5), .val (.int (p5 &&& (3 : Int32))), .val (.int p0), .val (.int p4), .val (.int p2), .unset, .unset, .unset] [(.int (1 : Int32))])) _
            refine XS.istore X0.here hx rfl (hb hby at_91) rfl (l' := #[.val (.int p0), .val (.int p1), .val (.int p2), .val (.int p3), .val (.int p4), .val (.int p5), .val (.int (p5 &&& (3 : Int32))), .val (.int p0), .val (.int p4), .val (.int p2), .val (.int (1 : Int32)), .unset, .unset]) rfl ?_
            show Steps p.tables e below (s₁.setTop (mkF m 93 #[.val (.int p0), .val (.int p1), .val (.int p2), .val (.int p3), .val (.int p4), .val (.int p5), .val (.int (p5 &&& (3 : Int32))), .val (.int p0), .val (.int p4), .val (.int p2), .val (.int (1 : Int32)), .unset, .unset] [])) _
            exact kk
          · skip
            refine ⟨p0, p4, p2, (0 : Int32), ((if_neg c7).trans ((if_neg c9).trans ((if_neg c13).trans rfl))).symm, ((if_neg c7).trans ((if_neg c9).trans ((if_neg c13).trans rfl))).symm, ((if_neg c7).trans ((if_neg c9).trans rfl)).symm, ((if_neg c7).trans ((if_neg c9).trans ((if_neg c13).trans ((if_neg c17).trans rfl)))).symm, fun t kk => P16 t ?_⟩
            show Steps p.tables e below (s₁.setTop (mkF m 83 #[.val (.int p0), .val (.int p1), .val (.int p2), .val (.int p3), .val (.int p4), .val (.int p5), .val (.int (p5 &&& (3 : Int32))), .val (.int p0), .val (.int p4), .val (.int p2), .unset, .unset, .unset] [(.int p1), (.int p4)])) _
            refine XS.icmpYes X0.here hx rfl (pc0 := 83) (pc' := 90) rfl (hb hby at_83) rfl (XT.ii_ne_t c17) (by decide) (by decide) ?_
            show Steps p.tables e below (s₁.setTop (mkF m 90 #[.val (.int p0), .val (.int p1), .val (.int p2), .val (.int p3), .val (.int p4), .val (.int p5), .val (.int (p5 &&& (3 : Int32))), .val (.int p0), .val (.int p4), .val (.int p2), .unset, .unset, .unset] [])) _
            refine XS.iconst X0.here hx rfl (hb hby at_90) ?_
            show Steps p.tables e below (s₁.setTop (mkF m 91 #[.val (.int p0), .val (.int p1), .val (.int p2), .val (.int p3), .val (.int p4), .val (.int p5), .val (.int (p5 &&& (3 : Int32))), .val (.int p0), .val (.int p4), .val (.int p2), .unset, .unset, .unset] [(.int (0 : Int32))])) _
            refine XS.istore X0.here hx rfl (hb hby at_91) rfl (l' := #[.val (.int p0), .val (.int p1), .val (.int p2), .val (.int p3), .val (.int p4), .val (.int p5), .val (.int (p5 &&& (3 : Int32))), .val (.int p0), .val (.int p4), .val (.int p2), .val (.int (0 : Int32)), .unset, .unset]) rfl ?_
            show Steps p.tables e below (s₁.setTop (mkF m 93 #[.val (.int p0), .val (.int p1), .val (.int p2), .val (.int p3), .val (.int p4), .val (.int p5), .val (.int (p5 &&& (3 : Int32))), .val (.int p0), .val (.int p4), .val (.int p2), .val (.int (0 : Int32)), .unset, .unset] [])) _
            exact kk
  obtain ⟨T18, h18, X18, e18, E18, A18, D18, -, st18⟩ := newO X0 hx hZ hown (hw _ (List.mem_of_getElem? (i := 0) rfl)) (hw _ (List.mem_of_getElem? (i := 1) rfl)) (hw _ (List.mem_of_getElem? (i := 2) rfl)) e0 (g := (mkF m 93 #[.val (.int p0), .val (.int p1), .val (.int p2), .val (.int p3), .val (.int p4), .val (.int p5), .val (.int (p5 &&& (3 : Int32))), .val (.int i2), .val (.int i3), .val (.int i4), .val (.int i5), .unset, .unset] [])) rfl (hb hby at_93) (by decide) (by decide)
  obtain ⟨b18, g_b18⟩ : ∃ z, z = h0.size := ⟨_, rfl⟩
  rw [← g_b18] at A18 D18 st18
  have ge_b18 : n0 ≤ b18 := Nat.le_trans Z0 (Nat.le_of_eq g_b18.symm)
  have sz_b18 : h0.size ≤ b18 := Nat.le_trans (Keep.refl h0 []).1 (Nat.le_of_eq g_b18.symm)
  have F18_19 : Fld Z h18 b18 "com/example/circlerank/circlerank/model/Tally" "sum" "J" (.long (0 : Int64)) := D18 (Or.inl (hw _ (List.mem_of_getElem? (i := 19) rfl))) (ty := .long) (by decide)
  have z20 : n0 ≤ _ := (Nat.le_trans Z0 E18.1)
  obtain ⟨_, _, ⟨T19, L19, k19, n19⟩, -, X19, ⟨Lc19, hQ19, l19, y19, z19⟩, st19⟩ := X18.specialBack hx (y := (⟨"com/example/circlerank/circlerank/model/Tally", "<init>", "()V"⟩ : MethodName)) rfl hown (mvT hZ (hw _ (List.mem_of_getElem? (i := 3) rfl))) (mvT hZ (hw _ (List.mem_of_getElem? (i := 4) rfl))) (mvT hZ (hw _ (List.mem_of_getElem? (i := 5) rfl))) (by decide) (backOf (W := 1) (rm1 l Z a0 hw [] b18 h18 n0 z20 ) hZ (hw _ (List.mem_of_getElem? (i := 5) rfl)) (hw _ (List.mem_of_getElem? (i := 2) rfl)) (by decide) (by decide)) (g := (mkF m 97 #[.val (.int p0), .val (.int p1), .val (.int p2), .val (.int p3), .val (.int p4), .val (.int p5), .val (.int (p5 &&& (3 : Int32))), .val (.int i2), .val (.int i3), .val (.int i4), .val (.int i5), .unset, .unset] [(.ref b18), (.ref b18)])) rfl (by rw [hml]; rfl) (Steps.refl _) (a := b18) (argsL := []) (rest := [(.ref b18)]) (lenOf pd_0 rfl) rfl (by show 2 * 0 + _ ≤ _; exact Nat.le_of_eq rfl) (hb hby at_97) (fun _ _ => ⟨rfl, e18, (by decide : 1 + 0 ≤ _), (by decide : 1 + 0 ≤ _)⟩)
  dsimp only [Pt.U, Pt.locs, Pt.cells, Pt.slots] at X19 l19 y19 z19 st19 hQ19
  subst l19 y19 z19
  obtain ⟨rfl, Nq19, e19⟩ := hQ19
  have N19 := Fr.app N0 Nq19
  obtain ⟨T21, h21, X21, e21, E21, A21, D21, -, st21⟩ := newO X19 hx hZ hown (hw _ (List.mem_of_getElem? (i := 0) rfl)) (hw _ (List.mem_of_getElem? (i := 1) rfl)) (hw _ (List.mem_of_getElem? (i := 2) rfl)) e19 (g := (mkF m 102 #[.val (.int p0), .val (.int p1), .val (.int p2), .val (.int p3), .val (.int p4), .val (.int p5), .val (.int (p5 &&& (3 : Int32))), .val (.int i2), .val (.int i3), .val (.int i4), .val (.int i5), .val (.ref b18), .unset] [])) rfl (hb hby at_102) (by decide) (by decide)
  have k22 : Keep h0 h18 [] := (Keep.ext (Keep.refl h0 []) E18)
  obtain ⟨b21, g_b21⟩ : ∃ z, z = h18.size := ⟨_, rfl⟩
  rw [← g_b21] at A21 D21 st21
  have ne_b18_b21 : b18 ≠ b21 := Nat.ne_of_lt (Nat.lt_of_lt_of_le A18.lt (Nat.le_of_eq g_b21.symm))
  have ge_b21 : n0 ≤ b21 := Nat.le_trans z20 (Nat.le_of_eq g_b21.symm)
  have sz_b21 : h0.size ≤ b21 := Nat.le_trans k22.1 (Nat.le_of_eq g_b21.symm)
  have F21_19 : Fld Z h21 b21 "com/example/circlerank/circlerank/model/Tally" "sum" "J" (.long (0 : Int64)) := D21 (Or.inl (hw _ (List.mem_of_getElem? (i := 19) rfl))) (ty := .long) (by decide)
  have z24 : n0 ≤ _ := (Nat.le_trans z20 E21.1)
  obtain ⟨_, _, ⟨T23, L23, k23, n23⟩, -, X23, ⟨Lc23, hQ23, l23, y23, z23⟩, st23⟩ := X21.specialBack hx (y := (⟨"com/example/circlerank/circlerank/model/Tally", "<init>", "()V"⟩ : MethodName)) rfl hown (mvT hZ (hw _ (List.mem_of_getElem? (i := 3) rfl))) (mvT hZ (hw _ (List.mem_of_getElem? (i := 4) rfl))) (mvT hZ (hw _ (List.mem_of_getElem? (i := 5) rfl))) (by decide) (backOf (W := 1) (rm1 l Z a0 hw [] b21 h21 n0 z24 ) hZ (hw _ (List.mem_of_getElem? (i := 5) rfl)) (hw _ (List.mem_of_getElem? (i := 2) rfl)) (by decide) (by decide)) (g := (mkF m 106 #[.val (.int p0), .val (.int p1), .val (.int p2), .val (.int p3), .val (.int p4), .val (.int p5), .val (.int (p5 &&& (3 : Int32))), .val (.int i2), .val (.int i3), .val (.int i4), .val (.int i5), .val (.ref b18), .unset] [(.ref b21), (.ref b21)])) rfl (by rw [hml]; rfl) (Steps.refl _) (a := b21) (argsL := []) (rest := [(.ref b21)]) (lenOf pd_0 rfl) rfl (by show 2 * 0 + _ ≤ _; exact Nat.le_of_eq rfl) (hb hby at_106) (fun _ _ => ⟨rfl, e21, (by decide : 2 + 0 ≤ _), (by decide : 2 + 0 ≤ _)⟩)
  dsimp only [Pt.U, Pt.locs, Pt.cells, Pt.slots] at X23 l23 y23 z23 st23 hQ23
  subst l23 y23 z23
  obtain ⟨rfl, Nq23, e23⟩ := hQ23
  have N23 := Fr.app N19 Nq23
  have f26 := (Exa.ext E21 A18)
  have f27 := (Fld.ext E21 F18_19)
  obtain ⟨cq25, kq25, q25a, q25b, q25c⟩ := isOf hZ e23 f26
  obtain ⟨_, _, ⟨T25, L25, k25, n25⟩, -, X25, ⟨Lc25, hQ25, l25, y25, z25⟩, st25⟩ := X23.virtualBack hx (y := (⟨"com/example/circlerank/circlerank/model/Tally", "add", "(III)V"⟩ : MethodName)) (z := (⟨"com/example/circlerank/circlerank/model/Tally", "add", "(III)V"⟩ : MethodName)) hown (mvT hZ (hw _ (List.mem_of_getElem? (i := 9) rfl))) (mvT hZ (hw _ (List.mem_of_getElem? (i := 10) rfl))) (notFace_of_selects (args := #[]) (mvT hZ (hw _ (List.mem_of_getElem? (i := 12) rfl)))) (mvT hZ (hw _ (List.mem_of_getElem? (i := 12) rfl))) (mvT hZ (hw _ (List.mem_of_getElem? (i := 11) rfl))) (by decide) (backOf (W := 0) (rm2 l Z a0 hw [] b18 p0 p1 p2 (0 : Int64) h21 n0 z24 f26 f27 ge_b18) hZ (hw _ (List.mem_of_getElem? (i := 13) rfl)) (hw _ (List.mem_of_getElem? (i := 2) rfl)) (by decide) (by decide)) q25a q25c (g := (mkF m 116 #[.val (.int p0), .val (.int p1), .val (.int p2), .val (.int p3), .val (.int p4), .val (.int p5), .val (.int (p5 &&& (3 : Int32))), .val (.int i2), .val (.int i3), .val (.int i4), .val (.int i5), .val (.ref b18), .val (.ref b21)] [(.int p2), (.int p1), (.int p0), (.ref b18)])) rfl (by rw [hml]; rfl) (Steps.refl _) (argsL := [(.int p0), (.int p1), (.int p2)]) (rest := []) (lenOf pd_1 rfl) rfl (by show 2 * 0 + _ ≤ _; exact Nat.le_of_eq rfl) (hb hby at_116) (fun _ _ => ⟨rfl, e23, (by decide : 2 + 0 ≤ _), (by decide : 2 + 0 ≤ _)⟩)
  dsimp only [Pt.U, Pt.locs, Pt.cells, Pt.slots] at X25 l25 y25 z25 st25 hQ25
  subst l25 y25 z25
  obtain ⟨rfl, Nq25, K25, q25_0⟩ := hQ25
  have N25 := Fr.app N23 Nq25
  have f29 := (Exa.keep f26 K25)
  have z30 : n0 ≤ _ := (Nat.le_trans z24 K25.1)
  obtain ⟨cq28, kq28, q28a, q28b, q28c⟩ := isOf hZ rfl f29
  obtain ⟨_, _, ⟨T28, L28, k28, n28⟩, -, X28, ⟨Lc28, hQ28, l28, y28, z28⟩, st28⟩ := X25.virtualBack hx (y := (⟨"com/example/circlerank/circlerank/model/Tally", "add", "(III)V"⟩ : MethodName)) (z := (⟨"com/example/circlerank/circlerank/model/Tally", "add", "(III)V"⟩ : MethodName)) hown (mvT hZ (hw _ (List.mem_of_getElem? (i := 9) rfl))) (mvT hZ (hw _ (List.mem_of_getElem? (i := 10) rfl))) (notFace_of_selects (args := #[]) (mvT hZ (hw _ (List.mem_of_getElem? (i := 12) rfl)))) (mvT hZ (hw _ (List.mem_of_getElem? (i := 12) rfl))) (mvT hZ (hw _ (List.mem_of_getElem? (i := 11) rfl))) (by decide) (backOf (W := 0) (rm2 l Z a0 hw [] b18 p3 p4 p5 ((0 : Int64) + (own_mix p0 p1 p2)) T25.heap n0 z30 f29 q25_0 ge_b18) hZ (hw _ (List.mem_of_getElem? (i := 13) rfl)) (hw _ (List.mem_of_getElem? (i := 2) rfl)) (by decide) (by decide)) q28a q28c (g := (mkF m 126 #[.val (.int p0), .val (.int p1), .val (.int p2), .val (.int p3), .val (.int p4), .val (.int p5), .val (.int (p5 &&& (3 : Int32))), .val (.int i2), .val (.int i3), .val (.int i4), .val (.int i5), .val (.ref b18), .val (.ref b21)] [(.int p5), (.int p4), (.int p3), (.ref b18)])) rfl (by rw [hml]; rfl) (Steps.refl _) (argsL := [(.int p3), (.int p4), (.int p5)]) (rest := []) (lenOf pd_1 rfl) rfl (by show 2 * 0 + _ ≤ _; exact Nat.le_of_eq rfl) (hb hby at_126) (fun _ _ => ⟨rfl, rfl, (by decide : 2 + 0 ≤ _), (by decide : 2 + 0 ≤ _)⟩)
  dsimp only [Pt.U, Pt.locs, Pt.cells, Pt.slots] at X28 l28 y28 z28 st28 hQ28
  subst l28 y28 z28
  obtain ⟨rfl, Nq28, K28, q28_0⟩ := hQ28
  have N28 := Fr.app N25 Nq28
  have f32 := (Exa.keep (Exa.keep A21 K25) K28)
  have f33 := (Fld.keep (Fld.keep F21_19 K25 (ninS (Ne.symm ne_b18_b21) nin0)) K28 (ninS (Ne.symm ne_b18_b21) nin0))
  have z34 : n0 ≤ _ := (Nat.le_trans z30 K28.1)
  obtain ⟨cq31, kq31, q31a, q31b, q31c⟩ := isOf hZ rfl f32
  obtain ⟨_, _, ⟨T31, L31, k31, n31⟩, -, X31, ⟨Lc31, hQ31, l31, y31, z31⟩, st31⟩ := X28.virtualBack hx (y := (⟨"com/example/circlerank/circlerank/model/Tally", "add", "(III)V"⟩ : MethodName)) (z := (⟨"com/example/circlerank/circlerank/model/Tally", "add", "(III)V"⟩ : MethodName)) hown (mvT hZ (hw _ (List.mem_of_getElem? (i := 9) rfl))) (mvT hZ (hw _ (List.mem_of_getElem? (i := 10) rfl))) (notFace_of_selects (args := #[]) (mvT hZ (hw _ (List.mem_of_getElem? (i := 12) rfl)))) (mvT hZ (hw _ (List.mem_of_getElem? (i := 12) rfl))) (mvT hZ (hw _ (List.mem_of_getElem? (i := 11) rfl))) (by decide) (backOf (W := 0) (rm2 l Z a0 hw [] b21 p3 p4 p5 (0 : Int64) T28.heap n0 z34 f32 f33 ge_b21) hZ (hw _ (List.mem_of_getElem? (i := 13) rfl)) (hw _ (List.mem_of_getElem? (i := 2) rfl)) (by decide) (by decide)) q31a q31c (g := (mkF m 136 #[.val (.int p0), .val (.int p1), .val (.int p2), .val (.int p3), .val (.int p4), .val (.int p5), .val (.int (p5 &&& (3 : Int32))), .val (.int i2), .val (.int i3), .val (.int i4), .val (.int i5), .val (.ref b18), .val (.ref b21)] [(.int p5), (.int p4), (.int p3), (.ref b21)])) rfl (by rw [hml]; rfl) (Steps.refl _) (argsL := [(.int p3), (.int p4), (.int p5)]) (rest := []) (lenOf pd_1 rfl) rfl (by show 2 * 0 + _ ≤ _; exact Nat.le_of_eq rfl) (hb hby at_136) (fun _ _ => ⟨rfl, rfl, (by decide : 2 + 0 ≤ _), (by decide : 2 + 0 ≤ _)⟩)
  dsimp only [Pt.U, Pt.locs, Pt.cells, Pt.slots] at X31 l31 y31 z31 st31 hQ31
  subst l31 y31 z31
  obtain ⟨rfl, Nq31, K31, q31_0⟩ := hQ31
  have N31 := Fr.app N28 Nq31
  have f36 := (Exa.keep f32 K31)
  have z37 : n0 ≤ _ := (Nat.le_trans z34 K31.1)
  obtain ⟨cq35, kq35, q35a, q35b, q35c⟩ := isOf hZ rfl f36
  obtain ⟨_, _, ⟨T35, L35, k35, n35⟩, -, X35, ⟨Lc35, hQ35, l35, y35, z35⟩, st35⟩ := X31.virtualBack hx (y := (⟨"com/example/circlerank/circlerank/model/Tally", "add", "(III)V"⟩ : MethodName)) (z := (⟨"com/example/circlerank/circlerank/model/Tally", "add", "(III)V"⟩ : MethodName)) hown (mvT hZ (hw _ (List.mem_of_getElem? (i := 9) rfl))) (mvT hZ (hw _ (List.mem_of_getElem? (i := 10) rfl))) (notFace_of_selects (args := #[]) (mvT hZ (hw _ (List.mem_of_getElem? (i := 12) rfl)))) (mvT hZ (hw _ (List.mem_of_getElem? (i := 12) rfl))) (mvT hZ (hw _ (List.mem_of_getElem? (i := 11) rfl))) (by decide) (backOf (W := 0) (rm2 l Z a0 hw [] b21 i2 i3 i4 ((0 : Int64) + (own_mix p3 p4 p5)) T31.heap n0 z37 f36 q31_0 ge_b21) hZ (hw _ (List.mem_of_getElem? (i := 13) rfl)) (hw _ (List.mem_of_getElem? (i := 2) rfl)) (by decide) (by decide)) q35a q35c (g := (mkF m 147 #[.val (.int p0), .val (.int p1), .val (.int p2), .val (.int p3), .val (.int p4), .val (.int p5), .val (.int (p5 &&& (3 : Int32))), .val (.int i2), .val (.int i3), .val (.int i4), .val (.int i5), .val (.ref b18), .val (.ref b21)] [(.int i4), (.int i3), (.int i2), (.ref b21)])) rfl (by rw [hml]; rfl) (Steps.refl _) (argsL := [(.int i2), (.int i3), (.int i4)]) (rest := []) (lenOf pd_1 rfl) rfl (by show 2 * 0 + _ ≤ _; exact Nat.le_of_eq rfl) (hb hby at_147) (fun _ _ => ⟨rfl, rfl, (by decide : 2 + 0 ≤ _), (by decide : 2 + 0 ≤ _)⟩)
  dsimp only [Pt.U, Pt.locs, Pt.cells, Pt.slots] at X35 l35 y35 z35 st35 hQ35
  subst l35 y35 z35
  obtain ⟨rfl, Nq35, K35, q35_0⟩ := hQ35
  have N35 := Fr.app N31 Nq35
  have P38 : ∀ t, Steps p.tables e below (T35.setTop (mkF m 154 #[.val (.int p0), .val (.int p1), .val (.int p2), .val (.int p3), .val (.int p4), .val (.int p5), .val (.int (p5 &&& (3 : Int32))), .val (.int i2), .val (.int i3), .val (.int i4), .val (.int i5), .val (.ref b18), .val (.ref b21)] [(.ref b21), (.ref b18)])) t → Steps p.tables e below (s₁.setTop (entryFrame m #[(.int p0), (.int p1), (.int p2), (.int p3), (.int p4), (.int p5)] maxLocals)) t := by
    intro t kk
    refine P6 _ ?_
    show Steps p.tables e below (s₁.setTop (mkF m 93 #[.val (.int p0), .val (.int p1), .val (.int p2), .val (.int p3), .val (.int p4), .val (.int p5), .val (.int (p5 &&& (3 : Int32))), .val (.int i2), .val (.int i3), .val (.int i4), .val (.int i5), .unset, .unset] [])) _
    refine st18 _ ?_
    show Steps p.tables e below (T18.setTop (mkF m 96 #[.val (.int p0), .val (.int p1), .val (.int p2), .val (.int p3), .val (.int p4), .val (.int p5), .val (.int (p5 &&& (3 : Int32))), .val (.int i2), .val (.int i3), .val (.int i4), .val (.int i5), .unset, .unset] [(.ref b18)])) _
    refine XS.dup X18.here hx rfl (hb hby at_96) rfl rfl ?_
    show Steps p.tables e below (T18.setTop (mkF m 97 #[.val (.int p0), .val (.int p1), .val (.int p2), .val (.int p3), .val (.int p4), .val (.int p5), .val (.int (p5 &&& (3 : Int32))), .val (.int i2), .val (.int i3), .val (.int i4), .val (.int i5), .unset, .unset] [(.ref b18), (.ref b18)])) _
    refine st19.trans ?_
    show Steps p.tables e below (T19.setTop (mkF m 100 #[.val (.int p0), .val (.int p1), .val (.int p2), .val (.int p3), .val (.int p4), .val (.int p5), .val (.int (p5 &&& (3 : Int32))), .val (.int i2), .val (.int i3), .val (.int i4), .val (.int i5), .unset, .unset] [(.ref b18)])) _
    refine XS.astore X19.here hx rfl (hb hby at_100) rfl rfl (l' := #[.val (.int p0), .val (.int p1), .val (.int p2), .val (.int p3), .val (.int p4), .val (.int p5), .val (.int (p5 &&& (3 : Int32))), .val (.int i2), .val (.int i3), .val (.int i4), .val (.int i5), .val (.ref b18), .unset]) rfl ?_
    show Steps p.tables e below (T19.setTop (mkF m 102 #[.val (.int p0), .val (.int p1), .val (.int p2), .val (.int p3), .val (.int p4), .val (.int p5), .val (.int (p5 &&& (3 : Int32))), .val (.int i2), .val (.int i3), .val (.int i4), .val (.int i5), .val (.ref b18), .unset] [])) _
    refine st21 _ ?_
    show Steps p.tables e below (T21.setTop (mkF m 105 #[.val (.int p0), .val (.int p1), .val (.int p2), .val (.int p3), .val (.int p4), .val (.int p5), .val (.int (p5 &&& (3 : Int32))), .val (.int i2), .val (.int i3), .val (.int i4), .val (.int i5), .val (.ref b18), .unset] [(.ref b21)])) _
    refine XS.dup X21.here hx rfl (hb hby at_105) rfl rfl ?_
    show Steps p.tables e below (T21.setTop (mkF m 106 #[.val (.int p0), .val (.int p1), .val (.int p2), .val (.int p3), .val (.int p4), .val (.int p5), .val (.int (p5 &&& (3 : Int32))), .val (.int i2), .val (.int i3), .val (.int i4), .val (.int i5), .val (.ref b18), .unset] [(.ref b21), (.ref b21)])) _
    refine st23.trans ?_
    show Steps p.tables e below (T23.setTop (mkF m 109 #[.val (.int p0), .val (.int p1), .val (.int p2), .val (.int p3), .val (.int p4), .val (.int p5), .val (.int (p5 &&& (3 : Int32))), .val (.int i2), .val (.int i3), .val (.int i4), .val (.int i5), .val (.ref b18), .unset] [(.ref b21)])) _
    refine XS.astore X23.here hx rfl (hb hby at_109) rfl rfl (l' := #[.val (.int p0), .val (.int p1), .val (.int p2), .val (.int p3), .val (.int p4), .val (.int p5), .val (.int (p5 &&& (3 : Int32))), .val (.int i2), .val (.int i3), .val (.int i4), .val (.int i5), .val (.ref b18), .val (.ref b21)]) rfl ?_
    show Steps p.tables e below (T23.setTop (mkF m 111 #[.val (.int p0), .val (.int p1), .val (.int p2), .val (.int p3), .val (.int p4), .val (.int p5), .val (.int (p5 &&& (3 : Int32))), .val (.int i2), .val (.int i3), .val (.int i4), .val (.int i5), .val (.ref b18), .val (.ref b21)] [])) _
    refine XS.aload X23.here hx rfl (hb hby at_111) rfl rfl ?_
    show Steps p.tables e below (T23.setTop (mkF m 113 #[.val (.int p0), .val (.int p1), .val (.int p2), .val (.int p3), .val (.int p4), .val (.int p5), .val (.int (p5 &&& (3 : Int32))), .val (.int i2), .val (.int i3), .val (.int i4), .val (.int i5), .val (.ref b18), .val (.ref b21)] [(.ref b18)])) _
    refine XS.iloadN X23.here hx rfl (hb hby at_113) rfl ?_
    show Steps p.tables e below (T23.setTop (mkF m 114 #[.val (.int p0), .val (.int p1), .val (.int p2), .val (.int p3), .val (.int p4), .val (.int p5), .val (.int (p5 &&& (3 : Int32))), .val (.int i2), .val (.int i3), .val (.int i4), .val (.int i5), .val (.ref b18), .val (.ref b21)] [(.int p0), (.ref b18)])) _
    refine XS.iloadN X23.here hx rfl (hb hby at_114) rfl ?_
    show Steps p.tables e below (T23.setTop (mkF m 115 #[.val (.int p0), .val (.int p1), .val (.int p2), .val (.int p3), .val (.int p4), .val (.int p5), .val (.int (p5 &&& (3 : Int32))), .val (.int i2), .val (.int i3), .val (.int i4), .val (.int i5), .val (.ref b18), .val (.ref b21)] [(.int p1), (.int p0), (.ref b18)])) _
    refine XS.iloadN X23.here hx rfl (hb hby at_115) rfl ?_
    show Steps p.tables e below (T23.setTop (mkF m 116 #[.val (.int p0), .val (.int p1), .val (.int p2), .val (.int p3), .val (.int p4), .val (.int p5), .val (.int (p5 &&& (3 : Int32))), .val (.int i2), .val (.int i3), .val (.int i4), .val (.int i5), .val (.ref b18), .val (.ref b21)] [(.int p2), (.int p1), (.int p0), (.ref b18)])) _
    refine st25.trans ?_
    show Steps p.tables e below (T25.setTop (mkF m 119 #[.val (.int p0), .val (.int p1), .val (.int p2), .val (.int p3), .val (.int p4), .val (.int p5), .val (.int (p5 &&& (3 : Int32))), .val (.int i2), .val (.int i3), .val (.int i4), .val (.int i5), .val (.ref b18), .val (.ref b21)] [])) _
    refine XS.aload X25.here hx rfl (hb hby at_119) rfl rfl ?_
    show Steps p.tables e below (T25.setTop (mkF m 121 #[.val (.int p0), .val (.int p1), .val (.int p2), .val (.int p3), .val (.int p4), .val (.int p5), .val (.int (p5 &&& (3 : Int32))), .val (.int i2), .val (.int i3), .val (.int i4), .val (.int i5), .val (.ref b18), .val (.ref b21)] [(.ref b18)])) _
    refine XS.iloadN X25.here hx rfl (hb hby at_121) rfl ?_
    show Steps p.tables e below (T25.setTop (mkF m 122 #[.val (.int p0), .val (.int p1), .val (.int p2), .val (.int p3), .val (.int p4), .val (.int p5), .val (.int (p5 &&& (3 : Int32))), .val (.int i2), .val (.int i3), .val (.int i4), .val (.int i5), .val (.ref b18), .val (.ref b21)] [(.int p3), (.ref b18)])) _
    refine XS.iload X25.here hx rfl (hb hby at_122) rfl ?_
    show Steps p.tables e below (T25.setTop (mkF m 124 #[.val (.int p0), .val (.int p1), .val (.int p2), .val (.int p3), .val (.int p4), .val (.int p5), .val (.int (p5 &&& (3 : Int32))), .val (.int i2), .val (.int i3), .val (.int i4), .val (.int i5), .val (.ref b18), .val (.ref b21)] [(.int p4), (.int p3), (.ref b18)])) _
    refine XS.iload X25.here hx rfl (hb hby at_124) rfl ?_
    show Steps p.tables e below (T25.setTop (mkF m 126 #[.val (.int p0), .val (.int p1), .val (.int p2), .val (.int p3), .val (.int p4), .val (.int p5), .val (.int (p5 &&& (3 : Int32))), .val (.int i2), .val (.int i3), .val (.int i4), .val (.int i5), .val (.ref b18), .val (.ref b21)] [(.int p5), (.int p4), (.int p3), (.ref b18)])) _
    refine st28.trans ?_
    show Steps p.tables e below (T28.setTop (mkF m 129 #[.val (.int p0), .val (.int p1), .val (.int p2), .val (.int p3), .val (.int p4), .val (.int p5), .val (.int (p5 &&& (3 : Int32))), .val (.int i2), .val (.int i3), .val (.int i4), .val (.int i5), .val (.ref b18), .val (.ref b21)] [])) _
    refine XS.aload X28.here hx rfl (hb hby at_129) rfl rfl ?_
    show Steps p.tables e below (T28.setTop (mkF m 131 #[.val (.int p0), .val (.int p1), .val (.int p2), .val (.int p3), .val (.int p4), .val (.int p5), .val (.int (p5 &&& (3 : Int32))), .val (.int i2), .val (.int i3), .val (.int i4), .val (.int i5), .val (.ref b18), .val (.ref b21)] [(.ref b21)])) _
    refine XS.iloadN X28.here hx rfl (hb hby at_131) rfl ?_
    show Steps p.tables e below (T28.setTop (mkF m 132 #[.val (.int p0), .val (.int p1), .val (.int p2), .val (.int p3), .val (.int p4), .val (.int p5), .val (.int (p5 &&& (3 : Int32))), .val (.int i2), .val (.int i3), .val (.int i4), .val (.int i5), .val (.ref b18), .val (.ref b21)] [(.int p3), (.ref b21)])) _
    refine XS.iload X28.here hx rfl (hb hby at_132) rfl ?_
    show Steps p.tables e below (T28.setTop (mkF m 134 #[.val (.int p0), .val (.int p1), .val (.int p2), .val (.int p3), .val (.int p4), .val (.int p5), .val (.int (p5 &&& (3 : Int32))), .val (.int i2), .val (.int i3), .val (.int i4), .val (.int i5), .val (.ref b18), .val (.ref b21)] [(.int p4), (.int p3), (.ref b21)])) _
    refine XS.iload X28.here hx rfl (hb hby at_134) rfl ?_
    show Steps p.tables e below (T28.setTop (mkF m 136 #[.val (.int p0), .val (.int p1), .val (.int p2), .val (.int p3), .val (.int p4), .val (.int p5), .val (.int (p5 &&& (3 : Int32))), .val (.int i2), .val (.int i3), .val (.int i4), .val (.int i5), .val (.ref b18), .val (.ref b21)] [(.int p5), (.int p4), (.int p3), (.ref b21)])) _
    refine st31.trans ?_
    show Steps p.tables e below (T31.setTop (mkF m 139 #[.val (.int p0), .val (.int p1), .val (.int p2), .val (.int p3), .val (.int p4), .val (.int p5), .val (.int (p5 &&& (3 : Int32))), .val (.int i2), .val (.int i3), .val (.int i4), .val (.int i5), .val (.ref b18), .val (.ref b21)] [])) _
    refine XS.aload X31.here hx rfl (hb hby at_139) rfl rfl ?_
    show Steps p.tables e below (T31.setTop (mkF m 141 #[.val (.int p0), .val (.int p1), .val (.int p2), .val (.int p3), .val (.int p4), .val (.int p5), .val (.int (p5 &&& (3 : Int32))), .val (.int i2), .val (.int i3), .val (.int i4), .val (.int i5), .val (.ref b18), .val (.ref b21)] [(.ref b21)])) _
    refine XS.iload X31.here hx rfl (hb hby at_141) rfl ?_
    show Steps p.tables e below (T31.setTop (mkF m 143 #[.val (.int p0), .val (.int p1), .val (.int p2), .val (.int p3), .val (.int p4), .val (.int p5), .val (.int (p5 &&& (3 : Int32))), .val (.int i2), .val (.int i3), .val (.int i4), .val (.int i5), .val (.ref b18), .val (.ref b21)] [(.int i2), (.ref b21)])) _
    refine XS.iload X31.here hx rfl (hb hby at_143) rfl ?_
    show Steps p.tables e below (T31.setTop (mkF m 145 #[.val (.int p0), .val (.int p1), .val (.int p2), .val (.int p3), .val (.int p4), .val (.int p5), .val (.int (p5 &&& (3 : Int32))), .val (.int i2), .val (.int i3), .val (.int i4), .val (.int i5), .val (.ref b18), .val (.ref b21)] [(.int i3), (.int i2), (.ref b21)])) _
    refine XS.iload X31.here hx rfl (hb hby at_145) rfl ?_
    show Steps p.tables e below (T31.setTop (mkF m 147 #[.val (.int p0), .val (.int p1), .val (.int p2), .val (.int p3), .val (.int p4), .val (.int p5), .val (.int (p5 &&& (3 : Int32))), .val (.int i2), .val (.int i3), .val (.int i4), .val (.int i5), .val (.ref b18), .val (.ref b21)] [(.int i4), (.int i3), (.int i2), (.ref b21)])) _
    refine st35.trans ?_
    show Steps p.tables e below (T35.setTop (mkF m 150 #[.val (.int p0), .val (.int p1), .val (.int p2), .val (.int p3), .val (.int p4), .val (.int p5), .val (.int (p5 &&& (3 : Int32))), .val (.int i2), .val (.int i3), .val (.int i4), .val (.int i5), .val (.ref b18), .val (.ref b21)] [])) _
    refine XS.aload X35.here hx rfl (hb hby at_150) rfl rfl ?_
    show Steps p.tables e below (T35.setTop (mkF m 152 #[.val (.int p0), .val (.int p1), .val (.int p2), .val (.int p3), .val (.int p4), .val (.int p5), .val (.int (p5 &&& (3 : Int32))), .val (.int i2), .val (.int i3), .val (.int i4), .val (.int i5), .val (.ref b18), .val (.ref b21)] [(.ref b18)])) _
    refine XS.aload X35.here hx rfl (hb hby at_152) rfl rfl ?_
    show Steps p.tables e below (T35.setTop (mkF m 154 #[.val (.int p0), .val (.int p1), .val (.int p2), .val (.int p3), .val (.int p4), .val (.int p5), .val (.int (p5 &&& (3 : Int32))), .val (.int i2), .val (.int i3), .val (.int i4), .val (.int i5), .val (.ref b18), .val (.ref b21)] [(.ref b21), (.ref b18)])) _
    exact kk
  have f40 := (Fld.keep (Fld.keep q28_0 K31 (ninS ne_b18_b21 nin0)) K35 (ninS ne_b18_b21 nin0))
  have z41 : n0 ≤ _ := (Nat.le_trans z37 K35.1)
  have f42 := (Exa.keep (Exa.keep (Exa.keep f29 K28) K31) K35)
  obtain ⟨cq39, kq39, q39a, q39b, q39c⟩ := isOf hZ rfl f42
  obtain ⟨_, _, ⟨T39, L39, k39, n39⟩, -, X39, ⟨Lc39, hQ39, l39, y39, z39⟩, st39⟩ := X35.virtualBack hx (y := (⟨"com/example/circlerank/circlerank/model/Tally", "agrees", "(Lcom/example/circlerank/circlerank/model/Tally;)Z"⟩ : MethodName)) (z := (⟨"com/example/circlerank/circlerank/model/Tally", "agrees", "(Lcom/example/circlerank/circlerank/model/Tally;)Z"⟩ : MethodName)) hown (mvT hZ (hw _ (List.mem_of_getElem? (i := 20) rfl))) (mvT hZ (hw _ (List.mem_of_getElem? (i := 21) rfl))) (notFace_of_selects (args := #[]) (mvT hZ (hw _ (List.mem_of_getElem? (i := 23) rfl)))) (mvT hZ (hw _ (List.mem_of_getElem? (i := 23) rfl))) (mvT hZ (hw _ (List.mem_of_getElem? (i := 22) rfl))) (by decide) (backOf (W := 0) (rm3 l Z a0 hw [] b18 b21 (((0 : Int64) + (own_mix p0 p1 p2)) + (own_mix p3 p4 p5)) (((0 : Int64) + (own_mix p3 p4 p5)) + (own_mix i2 i3 i4)) T35.heap n0 z41 f40 q35_0) hZ (hw _ (List.mem_of_getElem? (i := 24) rfl)) (hw _ (List.mem_of_getElem? (i := 2) rfl)) (by decide) (by decide)) q39a q39c (g := (mkF m 154 #[.val (.int p0), .val (.int p1), .val (.int p2), .val (.int p3), .val (.int p4), .val (.int p5), .val (.int (p5 &&& (3 : Int32))), .val (.int i2), .val (.int i3), .val (.int i4), .val (.int i5), .val (.ref b18), .val (.ref b21)] [(.ref b21), (.ref b18)])) rfl (by rw [hml]; rfl) (Steps.refl _) (argsL := [(.ref b21)]) (rest := []) (lenOf pd_2 rfl) rfl (by show 2 * 0 + _ ≤ _; exact Nat.le_of_eq rfl) (hb hby at_154) (fun _ _ => ⟨rfl, rfl, (by decide : 2 + 0 ≤ _), (by decide : 2 + 0 ≤ _)⟩)
  dsimp only [Pt.U, Pt.locs, Pt.cells, Pt.slots] at X39 l39 y39 z39 st39 hQ39
  subst l39 y39 z39
  obtain ⟨rfl, Nq39, e39⟩ := hQ39
  have N39 := Fr.app N35 Nq39
  have P43 : ∀ t, Steps p.tables e below (T39.setTop (mkF m 159 #[.val (.int p0), .val (.int p1), .val (.int p2), .val (.int p3), .val (.int p4), .val (.int p5), .val (.int (p5 &&& (3 : Int32))), .val (.int i2), .val (.int i3), .val (.int i4), .val (.int i5), .val (.ref b18), .val (.ref b21)] [(.int i5), (.int (F3 (((0 : Int64) + (own_mix p0 p1 p2)) + (own_mix p3 p4 p5)) (((0 : Int64) + (own_mix p3 p4 p5)) + (own_mix i2 i3 i4))))])) t → Steps p.tables e below (s₁.setTop (entryFrame m #[(.int p0), (.int p1), (.int p2), (.int p3), (.int p4), (.int p5)] maxLocals)) t := by
    intro t kk
    refine P38 _ ?_
    show Steps p.tables e below (T35.setTop (mkF m 154 #[.val (.int p0), .val (.int p1), .val (.int p2), .val (.int p3), .val (.int p4), .val (.int p5), .val (.int (p5 &&& (3 : Int32))), .val (.int i2), .val (.int i3), .val (.int i4), .val (.int i5), .val (.ref b18), .val (.ref b21)] [(.ref b21), (.ref b18)])) _
    refine st39.trans ?_
    show Steps p.tables e below (T39.setTop (mkF m 157 #[.val (.int p0), .val (.int p1), .val (.int p2), .val (.int p3), .val (.int p4), .val (.int p5), .val (.int (p5 &&& (3 : Int32))), .val (.int i2), .val (.int i3), .val (.int i4), .val (.int i5), .val (.ref b18), .val (.ref b21)] [(.int (F3 (((0 : Int64) + (own_mix p0 p1 p2)) + (own_mix p3 p4 p5)) (((0 : Int64) + (own_mix p3 p4 p5)) + (own_mix i2 i3 i4))))])) _
    refine XS.iload X39.here hx rfl (hb hby at_157) rfl ?_
    show Steps p.tables e below (T39.setTop (mkF m 159 #[.val (.int p0), .val (.int p1), .val (.int p2), .val (.int p3), .val (.int p4), .val (.int p5), .val (.int (p5 &&& (3 : Int32))), .val (.int i2), .val (.int i3), .val (.int i4), .val (.int i5), .val (.ref b18), .val (.ref b21)] [(.int i5), (.int (F3 (((0 : Int64) + (own_mix p0 p1 p2)) + (own_mix p3 p4 p5)) (((0 : Int64) + (own_mix p3 p4 p5)) + (own_mix i2 i3 i4))))])) _
    exact kk
  obtain ⟨T45, L45, X45, e45, N45, i44, h_i44, P45⟩ : ∃ (T45 : State) (L45 : List Loc), Stand p l e room_1 s m #[(.int p0), (.int p1), (.int p2), (.int p3), (.int p4), (.int p5)] below meth c T45 L45 2 2 ∧ T45.heap = T35.heap ∧ Fr n0 L45 ∧ ∃ (i44 : Int32), i44 = (if (F3 (((0 : Int64) + (own_mix p0 p1 p2)) + (own_mix p3 p4 p5)) (((0 : Int64) + (own_mix p3 p4 p5)) + (own_mix i2 i3 i4))) = i5 then (if (F3 (((0 : Int64) + (own_mix p3 p4 p5)) + (own_mix i2 i3 i4)) (((0 : Int64) + (own_mix p0 p1 p2)) + (own_mix p3 p4 p5))) = i5 then (1 : Int32) else (0 : Int32)) else (0 : Int32)) ∧ ∀ t, Steps p.tables e below (T45.setTop (mkF m 179 #[.val (.int p0), .val (.int p1), .val (.int p2), .val (.int p3), .val (.int p4), .val (.int p5), .val (.int (p5 &&& (3 : Int32))), .val (.int i2), .val (.int i3), .val (.int i4), .val (.int i5), .val (.ref b18), .val (.ref b21)] [(.int i44)])) t → Steps p.tables e below (s₁.setTop (entryFrame m #[(.int p0), (.int p1), (.int p2), (.int p3), (.int p4), (.int p5)] maxLocals)) t := by
    by_cases c46 : (F3 (((0 : Int64) + (own_mix p0 p1 p2)) + (own_mix p3 p4 p5)) (((0 : Int64) + (own_mix p3 p4 p5)) + (own_mix i2 i3 i4))) = i5
    · skip
      have f48 := (Exa.keep f36 K35)
      obtain ⟨cq47, kq47, q47a, q47b, q47c⟩ := isOf hZ e39 f48
      obtain ⟨_, _, ⟨T47, L47, k47, n47⟩, -, X47, ⟨Lc47, hQ47, l47, y47, z47⟩, st47⟩ := X39.virtualBack hx (y := (⟨"com/example/circlerank/circlerank/model/Tally", "agrees", "(Lcom/example/circlerank/circlerank/model/Tally;)Z"⟩ : MethodName)) (z := (⟨"com/example/circlerank/circlerank/model/Tally", "agrees", "(Lcom/example/circlerank/circlerank/model/Tally;)Z"⟩ : MethodName)) hown (mvT hZ (hw _ (List.mem_of_getElem? (i := 20) rfl))) (mvT hZ (hw _ (List.mem_of_getElem? (i := 21) rfl))) (notFace_of_selects (args := #[]) (mvT hZ (hw _ (List.mem_of_getElem? (i := 23) rfl)))) (mvT hZ (hw _ (List.mem_of_getElem? (i := 23) rfl))) (mvT hZ (hw _ (List.mem_of_getElem? (i := 22) rfl))) (by decide) (backOf (W := 0) (rm3 l Z a0 hw [] b21 b18 (((0 : Int64) + (own_mix p3 p4 p5)) + (own_mix i2 i3 i4)) (((0 : Int64) + (own_mix p0 p1 p2)) + (own_mix p3 p4 p5)) T35.heap n0 z41 q35_0 f40) hZ (hw _ (List.mem_of_getElem? (i := 24) rfl)) (hw _ (List.mem_of_getElem? (i := 2) rfl)) (by decide) (by decide)) q47a q47c (g := (mkF m 166 #[.val (.int p0), .val (.int p1), .val (.int p2), .val (.int p3), .val (.int p4), .val (.int p5), .val (.int (p5 &&& (3 : Int32))), .val (.int i2), .val (.int i3), .val (.int i4), .val (.int i5), .val (.ref b18), .val (.ref b21)] [(.ref b18), (.ref b21)])) rfl (by rw [hml]; rfl) (Steps.refl _) (argsL := [(.ref b18)]) (rest := []) (lenOf pd_2 rfl) rfl (by show 2 * 0 + _ ≤ _; exact Nat.le_of_eq rfl) (hb hby at_166) (fun _ _ => ⟨rfl, e39, (by decide : 2 + 0 ≤ _), (by decide : 2 + 0 ≤ _)⟩)
      dsimp only [Pt.U, Pt.locs, Pt.cells, Pt.slots] at X47 l47 y47 z47 st47 hQ47
      subst l47 y47 z47
      obtain ⟨rfl, Nq47, e47⟩ := hQ47
      have N47 := Fr.app N39 Nq47
      have P49 : ∀ t, Steps p.tables e below (T47.setTop (mkF m 171 #[.val (.int p0), .val (.int p1), .val (.int p2), .val (.int p3), .val (.int p4), .val (.int p5), .val (.int (p5 &&& (3 : Int32))), .val (.int i2), .val (.int i3), .val (.int i4), .val (.int i5), .val (.ref b18), .val (.ref b21)] [(.int i5), (.int (F3 (((0 : Int64) + (own_mix p3 p4 p5)) + (own_mix i2 i3 i4)) (((0 : Int64) + (own_mix p0 p1 p2)) + (own_mix p3 p4 p5))))])) t → Steps p.tables e below (s₁.setTop (entryFrame m #[(.int p0), (.int p1), (.int p2), (.int p3), (.int p4), (.int p5)] maxLocals)) t := by
        intro t kk
        refine P43 _ ?_
        show Steps p.tables e below (T39.setTop (mkF m 159 #[.val (.int p0), .val (.int p1), .val (.int p2), .val (.int p3), .val (.int p4), .val (.int p5), .val (.int (p5 &&& (3 : Int32))), .val (.int i2), .val (.int i3), .val (.int i4), .val (.int i5), .val (.ref b18), .val (.ref b21)] [(.int i5), (.int (F3 (((0 : Int64) + (own_mix p0 p1 p2)) + (own_mix p3 p4 p5)) (((0 : Int64) + (own_mix p3 p4 p5)) + (own_mix i2 i3 i4))))])) _
        refine XS.icmpNo X39.here hx rfl (hb hby at_159) rfl (XT.ii_ne_f c46) ?_
        show Steps p.tables e below (T39.setTop (mkF m 162 #[.val (.int p0), .val (.int p1), .val (.int p2), .val (.int p3), .val (.int p4), .val (.int p5), .val (.int (p5 &&& (3 : Int32))), .val (.int i2), .val (.int i3), .val (.int i4), .val (.int i5), .val (.ref b18), .val (.ref b21)] [])) _
        refine XS.aload X39.here hx rfl (hb hby at_162) rfl rfl ?_
        show Steps p.tables e below (T39.setTop (mkF m 164 #[.val (.int p0), .val (.int p1), .val (.int p2), .val (.int p3), .val (.int p4), .val (.int p5), .val (.int (p5 &&& (3 : Int32))), .val (.int i2), .val (.int i3), .val (.int i4), .val (.int i5), .val (.ref b18), .val (.ref b21)] [(.ref b21)])) _
        refine XS.aload X39.here hx rfl (hb hby at_164) rfl rfl ?_
        show Steps p.tables e below (T39.setTop (mkF m 166 #[.val (.int p0), .val (.int p1), .val (.int p2), .val (.int p3), .val (.int p4), .val (.int p5), .val (.int (p5 &&& (3 : Int32))), .val (.int i2), .val (.int i3), .val (.int i4), .val (.int i5), .val (.ref b18), .val (.ref b21)] [(.ref b18), (.ref b21)])) _
        refine st47.trans ?_
        show Steps p.tables e below (T47.setTop (mkF m 169 #[.val (.int p0), .val (.int p1), .val (.int p2), .val (.int p3), .val (.int p4), .val (.int p5), .val (.int (p5 &&& (3 : Int32))), .val (.int i2), .val (.int i3), .val (.int i4), .val (.int i5), .val (.ref b18), .val (.ref b21)] [(.int (F3 (((0 : Int64) + (own_mix p3 p4 p5)) + (own_mix i2 i3 i4)) (((0 : Int64) + (own_mix p0 p1 p2)) + (own_mix p3 p4 p5))))])) _
        refine XS.iload X47.here hx rfl (hb hby at_169) rfl ?_
        show Steps p.tables e below (T47.setTop (mkF m 171 #[.val (.int p0), .val (.int p1), .val (.int p2), .val (.int p3), .val (.int p4), .val (.int p5), .val (.int (p5 &&& (3 : Int32))), .val (.int i2), .val (.int i3), .val (.int i4), .val (.int i5), .val (.ref b18), .val (.ref b21)] [(.int i5), (.int (F3 (((0 : Int64) + (own_mix p3 p4 p5)) + (own_mix i2 i3 i4)) (((0 : Int64) + (own_mix p0 p1 p2)) + (own_mix p3 p4 p5))))])) _
        exact kk
      by_cases c50 : (F3 (((0 : Int64) + (own_mix p3 p4 p5)) + (own_mix i2 i3 i4)) (((0 : Int64) + (own_mix p0 p1 p2)) + (own_mix p3 p4 p5))) = i5
      · skip
        refine ⟨_, _, X47, e47, N47, (1 : Int32), ((if_pos c46).trans ((if_pos c50).trans rfl)).symm, fun t kk => P49 t ?_⟩
        show Steps p.tables e below (T47.setTop (mkF m 171 #[.val (.int p0), .val (.int p1), .val (.int p2), .val (.int p3), .val (.int p4), .val (.int p5), .val (.int (p5 &&& (3 : Int32))), .val (.int i2), .val (.int i3), .val (.int i4), .val (.int i5), .val (.ref b18), .val (.ref b21)] [(.int i5), (.int (F3 (((0 : Int64) + (own_mix p3 p4 p5)) + (own_mix i2 i3 i4)) (((0 : Int64) + (own_mix p0 p1 p2)) + (own_mix p3 p4 p5))))])) _
        refine XS.icmpNo X47.here hx rfl (hb hby at_171) rfl (XT.ii_ne_f c50) ?_
        show Steps p.tables e below (T47.setTop (mkF m 174 #[.val (.int p0), .val (.int p1), .val (.int p2), .val (.int p3), .val (.int p4), .val (.int p5), .val (.int (p5 &&& (3 : Int32))), .val (.int i2), .val (.int i3), .val (.int i4), .val (.int i5), .val (.ref b18), .val (.ref b21)] [])) _
        refine XS.iconst X47.here hx rfl (hb hby at_174) ?_
        show Steps p.tables e below (T47.setTop (mkF m 175 #[.val (.int p0), .val (.int p1), .val (.int p2), .val (.int p3), .val (.int p4), .val (.int p5), .val (.int (p5 &&& (3 : Int32))), .val (.int i2), .val (.int i3), .val (.int i4), .val (.int i5), .val (.ref b18), .val (.ref b21)] [(.int (1 : Int32))])) _
        refine XS.goto X47.here hx rfl (pc0 := 175) (pc' := 179) rfl (hb hby at_175) (by decide) (by decide) ?_
        show Steps p.tables e below (T47.setTop (mkF m 179 #[.val (.int p0), .val (.int p1), .val (.int p2), .val (.int p3), .val (.int p4), .val (.int p5), .val (.int (p5 &&& (3 : Int32))), .val (.int i2), .val (.int i3), .val (.int i4), .val (.int i5), .val (.ref b18), .val (.ref b21)] [(.int (1 : Int32))])) _
        exact kk
      · skip
        refine ⟨_, _, X47, e47, N47, (0 : Int32), ((if_pos c46).trans ((if_neg c50).trans rfl)).symm, fun t kk => P49 t ?_⟩
        show Steps p.tables e below (T47.setTop (mkF m 171 #[.val (.int p0), .val (.int p1), .val (.int p2), .val (.int p3), .val (.int p4), .val (.int p5), .val (.int (p5 &&& (3 : Int32))), .val (.int i2), .val (.int i3), .val (.int i4), .val (.int i5), .val (.ref b18), .val (.ref b21)] [(.int i5), (.int (F3 (((0 : Int64) + (own_mix p3 p4 p5)) + (own_mix i2 i3 i4)) (((0 : Int64) + (own_mix p0 p1 p2)) + (own_mix p3 p4 p5))))])) _
        refine XS.icmpYes X47.here hx rfl (pc0 := 171) (pc' := 178) rfl (hb hby at_171) rfl (XT.ii_ne_t c50) (by decide) (by decide) ?_
        show Steps p.tables e below (T47.setTop (mkF m 178 #[.val (.int p0), .val (.int p1), .val (.int p2), .val (.int p3), .val (.int p4), .val (.int p5), .val (.int (p5 &&& (3 : Int32))), .val (.int i2), .val (.int i3), .val (.int i4), .val (.int i5), .val (.ref b18), .val (.ref b21)] [])) _
        refine XS.iconst X47.here hx rfl (hb hby at_178) ?_
        show Steps p.tables e below (T47.setTop (mkF m 179 #[.val (.int p0), .val (.int p1), .val (.int p2), .val (.int p3), .val (.int p4), .val (.int p5), .val (.int (p5 &&& (3 : Int32))), .val (.int i2), .val (.int i3), .val (.int i4), .val (.int i5), .val (.ref b18), .val (.ref b21)] [(.int (0 : Int32))])) _
        exact kk
    · skip
      refine ⟨_, _, X39, e39, N39, (0 : Int32), ((if_neg c46).trans rfl).symm, fun t kk => P43 t ?_⟩
      show Steps p.tables e below (T39.setTop (mkF m 159 #[.val (.int p0), .val (.int p1), .val (.int p2), .val (.int p3), .val (.int p4), .val (.int p5), .val (.int (p5 &&& (3 : Int32))), .val (.int i2), .val (.int i3), .val (.int i4), .val (.int i5), .val (.ref b18), .val (.ref b21)] [(.int i5), (.int (F3 (((0 : Int64) + (own_mix p0 p1 p2)) + (own_mix p3 p4 p5)) (((0 : Int64) + (own_mix p3 p4 p5)) + (own_mix i2 i3 i4))))])) _
      refine XS.icmpYes X39.here hx rfl (pc0 := 159) (pc' := 178) rfl (hb hby at_159) rfl (XT.ii_ne_t c46) (by decide) (by decide) ?_
      show Steps p.tables e below (T39.setTop (mkF m 178 #[.val (.int p0), .val (.int p1), .val (.int p2), .val (.int p3), .val (.int p4), .val (.int p5), .val (.int (p5 &&& (3 : Int32))), .val (.int i2), .val (.int i3), .val (.int i4), .val (.int i5), .val (.ref b18), .val (.ref b21)] [])) _
      refine XS.iconst X39.here hx rfl (hb hby at_178) ?_
      show Steps p.tables e below (T39.setTop (mkF m 179 #[.val (.int p0), .val (.int p1), .val (.int p2), .val (.int p3), .val (.int p4), .val (.int p5), .val (.int (p5 &&& (3 : Int32))), .val (.int i2), .val (.int i3), .val (.int i4), .val (.int i5), .val (.ref b18), .val (.ref b21)] [(.int (0 : Int32))])) _
      exact kk
  have P51 : ∀ t, Steps p.tables e below (T45.setTop (mkF m 179 #[.val (.int p0), .val (.int p1), .val (.int p2), .val (.int p3), .val (.int p4), .val (.int p5), .val (.int (p5 &&& (3 : Int32))), .val (.int i2), .val (.int i3), .val (.int i4), .val (.int i5), .val (.ref b18), .val (.ref b21)] [(.int i44)])) t → Steps p.tables e below (s₁.setTop (entryFrame m #[(.int p0), (.int p1), (.int p2), (.int p3), (.int p4), (.int p5)] maxLocals)) t := by
    intro t kk
    refine P45 _ ?_
    show Steps p.tables e below (T45.setTop (mkF m 179 #[.val (.int p0), .val (.int p1), .val (.int p2), .val (.int p3), .val (.int p4), .val (.int p5), .val (.int (p5 &&& (3 : Int32))), .val (.int i2), .val (.int i3), .val (.int i4), .val (.int i5), .val (.ref b18), .val (.ref b21)] [(.int i44)])) _
    exact kk
  obtain rfl : i44 = (1 : Int32) := own_plain0 p0 p1 p2 p3 p4 p5 i2 h_i2 i3 h_i3 i4 h_i4 i5 h_i5 i44 h_i44 
  obtain ⟨fs, hr, hrun, hended, hW, hsame⟩ := X45.leave (v := some (.int (1 : Int32))) (fun h => by rw [Bd.returns] at h; cases h)
  refine ⟨_, _, P51 _ ?_, hrun, hended, _, _, rfl, ?_, ⟨_, rfl⟩, hW, hsame.mono (by decide) (by decide)⟩
  · exact retN X45 hx (t := .boolean) Bd.returns (by simp) (hb hby at_179) hr
  · exact ⟨rfl, N45⟩
set_option maxRecDepth 65536 in
set_option maxHeartbeats 40000000 in
theorem comes_1 {Post : Tables → Env → Array Value → State → Outcome → State → Prop} (hpost : ∀ tb e args s v u, (limb_1_1.after args s (.returned v) u = true ∧ limb_1_2.after args s (.returned v) u = true ∧ True) → FrameEnd s (.returned v) u (Jvm.fieldLocs frame_1_writes args s ++ Jvm.arrayLocs frame_1_arrays args s ++ Jvm.staticLocs frame_1_statics s) 16 128 → Post tb e args s (.returned v) u) :
    ArmFor flags0 classFile x code maxLocals ret World_1 tables_1 room_1 Calls_1 rest_1 Pre_1 Post := by
  intro l hfl _ _ p e ha hc hk s m args below hf hA hF happ hP
  obtain ⟨hcalls, hrest, hpre⟩ := hP
  obtain ⟨-, -, -, hnamed, -, -, -, hat⟩ := (Spec.applies_iff hf).mp happ
  obtain ⟨hg, hn⟩ := and_e (Cond.before_iff.mp (show (Jvm.Cond.and given_1 narrow_1).before args s = true from hpre))
  obtain ⟨g0, gr0⟩ := and_e hg
  obtain ⟨g1, gr1⟩ := and_e gr0
  obtain ⟨g2, gr2⟩ := and_e gr1
  obtain ⟨g3, gr3⟩ := and_e gr2
  obtain ⟨g4, gr4⟩ := and_e gr3
  obtain ⟨g5, gr5⟩ := and_e gr4
  obtain ⟨w0, w1, w2, w3, w4, w5, rfl⟩ : ∃ w0 w1 w2 w3 w4 w5 : Value, args = #[w0, w1, w2, w3, w4, w5] := by
    have hs : args.size = 6 := by simpa [Cond.value, given_1] using g0
    obtain ⟨L⟩ := args
    match L, hs with
    | [w0, w1, w2, w3, w4, w5], _ => exact ⟨w0, w1, w2, w3, w4, w5, rfl⟩
  have hw := fun d (hd : d ∈ tables_1) => atoms_spec (ws := Jvm.Cond.code x code maxLocals ret :: tables_1) hat d (List.mem_cons_of_mem _ hd)
  have hfit : Fit s := fun {y c} hc i hi => by
    obtain ⟨ha, rfl⟩ := Array.getElem?_eq_some_iff.mp hc
    have q := List.all_eq_true.mp ((Array.all_eq_true_iff_forall_mem.mp hF) _ (Array.getElem_mem ha)) i (List.mem_range.mpr hi)
    simpa [Array.getElem?_eq_getElem hi] using q
  obtain ⟨i0, ei0⟩ := is_v g1
  obtain rfl : w0 = (.int i0) := Option.some.inj ei0
  obtain ⟨i1, ei1⟩ := is_v g2
  obtain rfl : w1 = (.int i1) := Option.some.inj ei1
  obtain ⟨i2, ei2⟩ := is_v g3
  obtain rfl : w2 = (.int i2) := Option.some.inj ei2
  obtain ⟨i3, ei3⟩ := is_v g4
  obtain rfl : w3 = (.int i3) := Option.some.inj ei3
  obtain ⟨i4, ei4⟩ := is_v g5
  obtain rfl : w4 = (.int i4) := Option.some.inj ei4
  obtain ⟨i5, ei5⟩ := is_v gr5
  obtain rfl : w5 = (.int i5) := Option.some.inj ei5
  obtain ⟨n, o, h1, h2, h3, _, L, rfl, ⟨rfl, N⟩, hq⟩ := rm0 l s _ hw tables_1 i0 i1 i2 i3 i4 i5  s.heap s.heap.size (Nat.le_refl _)  p e ha hc hk s m _ below hf ((Spec.applies_iff_loose hf).mp happ).1 ⟨rfl, State.Warmed39.refl s, rfl⟩ trivial
  refine ⟨n, _, h1, h2, h3, hpost _ _ _ _ _ _ ⟨Cond.after_iff.mpr rfl, Cond.after_iff.mpr (eq_i res_at (Term.int_eval (1)) rfl), trivial⟩ ⟨hq.1, hq.2.1, (hq.2.2.sift fun y hy => Or.inr (N y hy)).mono (by decide) (by decide)⟩⟩
theorem main_1_1 : Claimed_1_1 := comes_1 fun _ _ _ _ _ _ h hF => ⟨h.1, hF⟩
theorem main_1_2 : Claimed_1_2 := comes_1 fun _ _ _ _ _ _ h hF => ⟨h.2.1, hF⟩
end Jvm.Pilot.@@N@@
namespace Jvm.Pilot.@@N@@
open Jvm Jvm.ClassFile Sem Op Lib Jvm.Free Jvm.Stand Jvm.Pilot.@@N@@.Jvm.D
/-! MADE BY PROGRAM (witnessworld.py) out of the Statement's table words and the real class files: 9 classes; the members and pool entries that the words name. The judged class is class 1, her method 1. -/
namespace start1
open Jvm.ClassFile
def u (s : String) : CpInfo := .utf8 (stringToUtf16 s)
/-- a pool by its gaps: so many unusable entries, then the entry; so many at the end -/
def gap : Nat → List CpInfo → List CpInfo
  | 0, r => r
  | n + 1, r => .unusable :: gap n r
def poolList (es : List (Nat × CpInfo)) (last : Nat) : List CpInfo := es.foldr (fun e r => gap e.1 (e.2 :: r)) (gap last [])
def pool (es : List (Nat × CpInfo)) (last : Nat) : Array CpInfo := ⟨poolList es last⟩
def fileOf (pool : Array CpInfo) (this : Nat) (attrs : Array Attribute := #[]) (ms : Array MethodInfo := #[]) (fl : Nat := 33) (sup : Nat := 0) (ifs : Array Nat := #[]) (fds : Array FieldInfo := #[]) : ClassFile where
  minorVersion := 0
  majorVersion := 65
  constantPool := pool
  accessFlags := fl
  thisClass := this
  superClass := sup
  interfaces := ifs
  fields := fds
  methods := ms
  attributes := attrs
def plain (name : String) (sup : Option ClassId) : Class where
  name := name
  kind := .ordinary
  loader := none
  accessFlags := 33
  super := sup
  interfaces := #[]
  cf := none
  fields := #[]
  methods := #[]
  instanceTypes := #[]
  staticTypes := #[]
  resolved := #[]
  callSites := []
  init := .initialized
  statics := none
  mirror := none

def pool0 : Array CpInfo := pool [(5, u "<init>"), (0, u "()V"), (1, .class_ 10), (1, u "java/lang/Object")] 113

def k0c0 : Code := { maxStack := 0, maxLocals := 1, code := object_method_1_code, exceptionTable := #[], attributes := #[] }
def k0m0 : Method := { name := "<init>", desc := "()V", sig := { parameters := [], returnType := none }, accessFlags := 1, code := some k0c0 }
/-- java/lang/Object -/
def k0 : Class := { plain "java/lang/Object" none with
  accessFlags := 33
  interfaces := #[]
  cf := some (fileOf pool0 8 #[] #[{ accessFlags := 1, nameIndex := 5, descriptorIndex := 6, attributes := #[] }] 33 0 #[] #[])
  fields := #[]
  methods := #[k0m0]
  instanceTypes := #[]
  staticTypes := #[]
  resolved := Array.replicate 124 none
  statics := none }

def pool1 : Array CpInfo := pool [(2, .class_ 4), (0, .nameAndType 5 6), (0, u "java/lang/Object"), (0, u "<init>"), (0, u "()V"), (0, .class_ 8), (0, u "com/example/circlerank/circlerank/model/Tally"), (0, .methodref 7 3), (0, .methodref 7 11), (0, .nameAndType 12 13), (0, u "add"), (0, u "(III)V"), (0, .methodref 7 15), (0, .nameAndType 16 17), (0, u "agrees"), (0, u "(Lcom/example/circlerank/circlerank/model/Tally;)Z"), (0, .class_ 19), (0, u "com/example/circlerank/circlerank/model/TallyAddPinLaw"), (2, u "law"), (0, u "(IIIIII)Z")] 3

def k1m0 : Method := { name := "<init>", desc := "()V", sig := { parameters := [], returnType := none }, accessFlags := 2, code := none }
def k1c1 : Code := { maxStack := 4, maxLocals := 13, code := code, exceptionTable := #[], attributes := #[] }
def k1m1 : Method := { name := "law", desc := "(IIIIII)Z", sig := { parameters := [.int, .int, .int, .int, .int, .int], returnType := some .boolean }, accessFlags := 9, code := some k1c1 }
/-- com/example/circlerank/circlerank/model/TallyAddPinLaw -/
def k1 : Class := { plain "com/example/circlerank/circlerank/model/TallyAddPinLaw" (some 0) with
  accessFlags := 49
  interfaces := #[]
  cf := some (fileOf pool1 18 #[] #[{ accessFlags := 2, nameIndex := 5, descriptorIndex := 6, attributes := #[] }, { accessFlags := 9, nameIndex := 22, descriptorIndex := 23, attributes := #[] }] 49 2 #[] #[])
  fields := #[]
  methods := #[k1m0, k1m1]
  instanceTypes := #[]
  staticTypes := #[]
  resolved := Array.replicate 27 none
  statics := none }

def pool2 : Array CpInfo := pool [(1, .methodref 2 3), (0, .class_ 4), (0, .nameAndType 5 6), (0, u "java/lang/Object"), (0, u "<init>"), (0, u "()V"), (2, .long 4294967295), (1, .long 11400714819323198485), (1, .long 13787848793156543929), (1, .long 10723151780598845931), (1, .fieldref 18 19), (0, .class_ 20), (0, .nameAndType 21 22), (0, u "com/example/circlerank/circlerank/model/Tally"), (0, u "sum"), (0, u "J"), (2, u "add"), (0, u "(III)V"), (0, u "agrees"), (0, u "(Lcom/example/circlerank/circlerank/model/Tally;)Z")] 3

def k2c0 : Code := { maxStack := 1, maxLocals := 1, code := prog_91_method_1_code, exceptionTable := #[], attributes := #[] }
def k2m0 : Method := { name := "<init>", desc := "()V", sig := { parameters := [], returnType := none }, accessFlags := 0, code := some k2c0 }
def k2c1 : Code := { maxStack := 8, maxLocals := 6, code := prog_91_method_2_code, exceptionTable := #[], attributes := #[] }
def k2m1 : Method := { name := "add", desc := "(III)V", sig := { parameters := [.int, .int, .int], returnType := none }, accessFlags := 0, code := some k2c1 }
def k2c2 : Code := { maxStack := 4, maxLocals := 2, code := prog_91_method_3_code, exceptionTable := #[], attributes := #[] }
def k2m2 : Method := { name := "agrees", desc := "(Lcom/example/circlerank/circlerank/model/Tally;)Z", sig := { parameters := [(.object "com/example/circlerank/circlerank/model/Tally")], returnType := some .boolean }, accessFlags := 0, code := some k2c2 }
/-- com/example/circlerank/circlerank/model/Tally -/
def k2 : Class := { plain "com/example/circlerank/circlerank/model/Tally" (some 0) with
  accessFlags := 48
  interfaces := #[]
  cf := some (fileOf pool2 18 #[] #[{ accessFlags := 0, nameIndex := 5, descriptorIndex := 6, attributes := #[] }, { accessFlags := 0, nameIndex := 25, descriptorIndex := 26, attributes := #[] }, { accessFlags := 0, nameIndex := 27, descriptorIndex := 28, attributes := #[] }] 48 2 #[] #[{ accessFlags := 2, nameIndex := 21, descriptorIndex := 22, attributes := #[] }])
  fields := #[{ name := "sum", type := .long, accessFlags := 2, slot := 0, constantValue := 0 }]
  methods := #[k2m0, k2m1, k2m2]
  instanceTypes := #[.long]
  staticTypes := #[]
  resolved := Array.replicate 32 none
  statics := none }

def pool3 : Array CpInfo := pool [(1, u "java/lang/Cloneable"), (0, .class_ 1), (0, u "java/lang/Object"), (0, .class_ 3)] 3

/-- java/lang/Cloneable -/
def k3 : Class := { plain "java/lang/Cloneable" (some 0) with
  accessFlags := 1537
  interfaces := #[]
  cf := some (fileOf pool3 2 #[] #[] 1537 4 #[] #[])
  fields := #[]
  methods := #[]
  instanceTypes := #[]
  staticTypes := #[]
  resolved := Array.replicate 8 none
  statics := none }

def pool4 : Array CpInfo := pool [(1, u "java/io/Serializable"), (0, .class_ 1), (0, u "java/lang/Object"), (0, .class_ 3)] 3

/-- java/io/Serializable -/
def k4 : Class := { plain "java/io/Serializable" (some 0) with
  accessFlags := 1537
  interfaces := #[]
  cf := some (fileOf pool4 2 #[] #[] 1537 4 #[] #[])
  fields := #[]
  methods := #[]
  instanceTypes := #[]
  staticTypes := #[]
  resolved := Array.replicate 8 none
  statics := none }

/-- the primitive byte -/
def k5 : Class := { plain "byte" none with kind := .primitive 'B', accessFlags := 0x411 }
/-- [B -/
def k6 : Class := { plain "[B" (some 0) with kind := .array 5 .byte, interfaces := #[3, 4], accessFlags := 1041 }

/-- the primitive int -/
def k7 : Class := { plain "int" none with kind := .primitive 'I', accessFlags := 0x411 }
/-- [I -/
def k8 : Class := { plain "[I" (some 0) with kind := .array 7 .int, interfaces := #[3, 4], accessFlags := 1041 }

def heap : Heap := #[]
def classes : Array Class := #[k0, k1, k2, k3, k4, k5, k6, k7, k8]
def interned : List (Array UInt16 × Addr) := []
def slotsUsed : Nat := 0
def theMethod : MethodId := ⟨1, 1⟩
def args0 : Array Value := #[.int 5, .int 5, .int 5, .int 5, .int 5, .int 5]
def aboutOver (below : List Frame) : State where
  vm := { classes := classes, interned := interned.toArray }
  heap := heap
  slotsUsed := slotsUsed
  threads := #[{ frames := .invoking theMethod args0 :: below }]
def below0 : List Frame := [.native { method := ⟨0, 0⟩, args := #[] }]
def about1 : State := aboutOver below0
def p0 : Program := .bare "" "" ""
def e0 : Env := launch0.env 0 0 0
theorem w_frames : about1.frames = Frame.invoking theMethod args0 :: below0 := rfl
set_option maxRecDepth 65536 in
theorem w_args : argsFit about1.vm theMethod args0 = true := by decide +kernel
set_option maxRecDepth 65536 in
theorem w_heap : heapFits about1 = true := by decide +kernel
set_option maxRecDepth 65536 in
theorem w_runnable : about1.curStatus? = some .runnable := by decide +kernel
set_option maxRecDepth 65536 in
theorem w_alone : about1.alone = true := by decide +kernel
set_option maxRecDepth 65536 in
theorem w_named : about1.methodNamed? x = some theMethod := by decide +kernel
set_option maxRecDepth 65536 in
theorem w_hears : about1.hears theMethod below0 = true := by decide +kernel
set_option maxRecDepth 65536 in
theorem w_ripe : about1.ripe theMethod args0 below0 = true := by decide +kernel
theorem w_running : about1.status = .running := rfl
set_option maxRecDepth 65536 in
theorem w_room : about1.hasRoom e0.platform room_1 = true :=
  launch0.hasRoom_least _ room_1 (by decide +kernel) (by decide +kernel) (by decide +kernel) (by decide +kernel) (by decide +kernel) (by decide +kernel)
theorem allAtoms_all (ts : List Jvm.Cond) (a : Array Jvm.Value) (st : Jvm.State) : (allAtoms ts).before a st = ts.all (fun c => c.before a st) := by
  induction ts with
  | nil => rfl
  | cons c t ih =>
    show (Jvm.Cond.and c (allAtoms t)).before a st = _
    rw [Jvm.Cond.before_and, ih, List.all_cons]
def words1 : List Jvm.Cond := Jvm.Cond.code x code maxLocals ret :: tables_1
/-- a 'code' word, met by the world's own term for the bytes: nothing is compared byte by byte -/
theorem code_word {y : MethodName} {bytes : ByteArray} {mx : Nat} {rt : Option FieldType} {a : Array Value} {s : State} {m : MethodId} {meth : Method} {c : Code} (h1 : s.methodNamed? y = some m) (h2 : s.vm.method? m = some meth) (h3 : meth.code = some c) (h4 : c.code = bytes)
    (h5 : (c.maxLocals == mx && c.exceptionTable.isEmpty && decide (c.maxStack ≤ mostOperands) && decide (meth.sig.returnType = rt) && !meth.locks && decide (parseMethodDescriptor y.desc = some meth.sig)) = true) : (Jvm.Cond.code y bytes mx rt).before a s = true := by
  simp only [Bool.and_eq_true, beq_iff_eq, Bool.not_eq_true', decide_eq_true_eq] at h5
  obtain ⟨⟨⟨⟨⟨g1, g2⟩, g3⟩, g4⟩, g5⟩, g6⟩ := h5
  simp [Cond.before, Cond.holds, Cond.value, h1, h2, h3, h4, g1, g2, g3, g4, g5, g6]
def isCode : Jvm.Cond → Bool
  | .code _ _ _ _ => true
  | _ => false
theorem all_split {L : List Jvm.Cond} {P : Jvm.Cond → Bool} (h1 : L.all (fun c => isCode c || P c) = true) (h2 : ∀ c ∈ L.filter isCode, P c = true) : L.all P = true := by
  refine List.all_eq_true.mpr fun c hc => ?_
  have h := List.all_eq_true.mp h1 c hc
  rcases Bool.eq_false_or_eq_true (isCode c) with hi | hi
  · exact h2 c (List.mem_filter.mpr ⟨hc, hi⟩)
  · simpa [hi] using h
set_option maxRecDepth 65536 in
theorem w_c0 : (Jvm.Cond.code x code maxLocals ret).before args0 about1 = true := code_word (m := ⟨1, 1⟩) (meth := k1m1) (c := k1c1) (by decide +kernel) rfl rfl rfl (by decide +kernel)
set_option maxRecDepth 65536 in
theorem w_c1 : (Jvm.Cond.code ({ cls := "com/example/circlerank/circlerank/model/Tally", name := "<init>", desc := "()V" } : Jvm.MethodName) prog_91_method_1_code (1 : Nat) (Option.none : Option Jvm.ClassFile.FieldType)).before args0 about1 = true := code_word (m := ⟨2, 0⟩) (meth := k2m0) (c := k2c0) (by decide +kernel) rfl rfl rfl (by decide +kernel)
set_option maxRecDepth 65536 in
theorem w_c2 : (Jvm.Cond.code ({ cls := "java/lang/Object", name := "<init>", desc := "()V" } : Jvm.MethodName) object_method_1_code (1 : Nat) (Option.none : Option Jvm.ClassFile.FieldType)).before args0 about1 = true := code_word (m := ⟨0, 0⟩) (meth := k0m0) (c := k0c0) (by decide +kernel) rfl rfl rfl (by decide +kernel)
set_option maxRecDepth 65536 in
theorem w_c3 : (Jvm.Cond.code ({ cls := "com/example/circlerank/circlerank/model/Tally", name := "add", desc := "(III)V" } : Jvm.MethodName) prog_91_method_2_code (6 : Nat) (Option.none : Option Jvm.ClassFile.FieldType)).before args0 about1 = true := code_word (m := ⟨2, 1⟩) (meth := k2m1) (c := k2c1) (by decide +kernel) rfl rfl rfl (by decide +kernel)
set_option maxRecDepth 65536 in
theorem w_c4 : (Jvm.Cond.code ({ cls := "com/example/circlerank/circlerank/model/Tally", name := "agrees", desc := "(Lcom/example/circlerank/circlerank/model/Tally;)Z" } : Jvm.MethodName) prog_91_method_3_code (2 : Nat) (Option.some Jvm.ClassFile.FieldType.boolean)).before args0 about1 = true := code_word (m := ⟨2, 2⟩) (meth := k2m2) (c := k2c2) (by decide +kernel) rfl rfl rfl (by decide +kernel)
def codes1 : List Jvm.Cond := [Jvm.Cond.code x code maxLocals ret, Jvm.Cond.code ({ cls := "com/example/circlerank/circlerank/model/Tally", name := "<init>", desc := "()V" } : Jvm.MethodName) prog_91_method_1_code (1 : Nat) (Option.none : Option Jvm.ClassFile.FieldType), Jvm.Cond.code ({ cls := "java/lang/Object", name := "<init>", desc := "()V" } : Jvm.MethodName) object_method_1_code (1 : Nat) (Option.none : Option Jvm.ClassFile.FieldType), Jvm.Cond.code ({ cls := "com/example/circlerank/circlerank/model/Tally", name := "add", desc := "(III)V" } : Jvm.MethodName) prog_91_method_2_code (6 : Nat) (Option.none : Option Jvm.ClassFile.FieldType), Jvm.Cond.code ({ cls := "com/example/circlerank/circlerank/model/Tally", name := "agrees", desc := "(Lcom/example/circlerank/circlerank/model/Tally;)Z" } : Jvm.MethodName) prog_91_method_3_code (2 : Nat) (Option.some Jvm.ClassFile.FieldType.boolean)]
set_option maxRecDepth 65536 in
theorem codes_eq : words1.filter isCode = codes1 := rfl
theorem w_codes : ∀ c ∈ words1.filter isCode, c.before args0 about1 = true := by
  rw [codes_eq]
  intro c hc
  simp only [codes1, List.mem_cons, List.not_mem_nil, or_false] at hc
  rcases hc with rfl | rfl | rfl | rfl | rfl
  · exact w_c0
  · exact w_c1
  · exact w_c2
  · exact w_c3
  · exact w_c4
set_option maxRecDepth 65536 in
theorem w_t1 : (words1.take 24).all (fun c => isCode c || c.before args0 about1) = true := by decide +kernel
set_option maxRecDepth 65536 in
theorem w_t2 : (words1.drop 24).all (fun c => isCode c || c.before args0 about1) = true := by decide +kernel
theorem w_tables : (allAtoms (Jvm.Cond.code x code maxLocals ret :: tables_1)).before args0 about1 = true := by
  rw [allAtoms_all]
  show words1.all (fun c => c.before args0 about1) = true
  refine all_split ?_ w_codes
  rw [← List.take_append_drop 24 words1, List.all_append, w_t1, w_t2]
  rfl
set_option maxRecDepth 65536 in
theorem w_case : (Jvm.Cond.and given_1 narrow_1).before args0 about1 = true := by decide +kernel
theorem w_applies : (headSpec (Jvm.Cond.code x code maxLocals ret :: tables_1) room_1).applies x e0.platform about1 = true :=
  (Spec.applies_iff w_frames).mpr ⟨w_running, w_runnable, w_alone, w_named, w_hears, w_ripe, w_room, w_tables⟩
theorem atStart : AtStart classFile x code maxLocals ret World_1 tables_1 room_1 Calls_1 rest_1 Pre_1 launch0 p0 e0 about1 theMethod args0 below0 :=
  ⟨lists_1, trivial, launch0.admits_env _ _ _, launch0.least_env, fairChoices_fair.cas, fairChoices_fair.clock, w_frames, w_args, w_heap, w_applies, trivial, trivial, w_case⟩
end start1
theorem witness_1 : WitnessClaimed_1 := ⟨start1.p0, start1.e0, start1.about1, start1.theMethod, start1.args0, start1.below0, start1.atStart⟩
end Jvm.Pilot.@@N@@
