import JvmDerived
import JvmDerived.Pilot.@@N@@Statement
import JvmDerived.Pilot.@@N@@Code
set_option linter.unusedVariables false
set_option linter.unusedSimpArgs false
namespace Jvm.RoadKit
open Sem ClassFile Op Lib Jvm.Stand Jvm.Free Jvm.LawKit
section New
variable {p : Program} {l : Launch} {e : Env} {R : Room} {s : State} {m : MethodId} {args : Array Value} {below : List Frame} {meth : Method} {c : Code} {T : State} {locs : List Loc} {cells slots : Nat}
theorem retI (X : Stand p l e R s m args below meth c T locs cells slots) (hx : p.tables.exec = Jvm.exec) {pc : Nat} {Ls : Array Slot} {z : Int32} {rest : List Value} (hret : meth.sig.returnType = some .int) (hd : decode c.code pc = .ok (.ireturn, 1)) {fs : List Frame}
    (hl : ∀ (f : JFrame) (acts : List Action), f.method = m → f.locked = none → f.entered = [] → (doReturn e (T.setTop f) acts (some (.int z))).1 = T.setFrames fs) : Steps p.tables e below (T.setTop (mkF m pc Ls (.int z :: rest))) (T.setFrames fs) := by
  have hm' : T.vm.method? m = some meth := X.method'
  have hn : narrow .int (.int z) = .int z := rfl
  show Steps p.tables e below (T.setTop { method := m, pc := pc, locals := Ls, stack := _ :: rest, locked := none }) _
  jvm_step X.here [X.here.top, hx, hd, hm', hret, hn]
  first | (intro acts; rw [hl _ acts rfl rfl rfl]) | rw [hl _ _ rfl rfl rfl]
  exact Steps.refl _
end New
end Jvm.RoadKit
namespace Jvm.Pilot.@@N@@
open Jvm Jvm.ClassFile Sem Op Lib Jvm.Free Jvm.Stand Jvm.LawKit Jvm.RoadKit Bundle Jvm.Pilot.@@N@@.Jvm.D
theorem pn_0 : plainName "com/example/envelope/envelope/ReportType" = true := by first | (simp [plainName, overriddenIn]; done) | decide +kernel
theorem pn_1 : plainName "com/example/envelope/envelope/ReportTypeHoldsPinLaw" = true := by first | (simp [plainName, overriddenIn]; done) | decide +kernel
theorem pd_0 : parseMethodDescriptor "(II)Z" = some ⟨[.int, .int], some .boolean⟩ := by decide +kernel
theorem d1_0 : decode prog_82_method_9_code 0 = .ok (.iload_n 0, 1) := by decide +kernel
theorem d1_1 : decode prog_82_method_9_code 1 = .ok (.iload_n 1, 1) := by decide +kernel
theorem d1_2 : decode prog_82_method_9_code 2 = .ok (.iand, 1) := by decide +kernel
theorem d1_3 : decode prog_82_method_9_code 3 = .ok (.iload_n 1, 1) := by decide +kernel
theorem d1_4 : decode prog_82_method_9_code 4 = .ok (.if_icmp .ne 7, 3) := by decide +kernel
theorem d1_7 : decode prog_82_method_9_code 7 = .ok (.iconst 1, 1) := by decide +kernel
theorem d1_8 : decode prog_82_method_9_code 8 = .ok (.goto 4, 3) := by decide +kernel
theorem d1_11 : decode prog_82_method_9_code 11 = .ok (.iconst 0, 1) := by decide +kernel
theorem d1_12 : decode prog_82_method_9_code 12 = .ok (.ireturn, 1) := by decide +kernel
theorem ef_1 (m : MethodId) (x0 : Int32) (x1 : Int32) : entryFrame m #[(.int x0), (.int x1)] 2 = (mkF m 0 #[.val (.int x0), .val (.int x1)] []) := by first | (simp [entryFrame, mkF, argsToLocals, Value.category]; done) | rfl
def F1 (a : Int32) (b : Int32) : Int32 := (if (a &&& b) = b then (1 : Int32) else (0 : Int32))
def Q1 (Z : State) (a : Int32) (b : Int32) (h0 : Heap) (n0 : Nat) (vX : Option Value) (hX : Heap) (lX : List Loc) : Prop := vX = some (.int (F1 a b)) ∧ Fr n0 lX ∧ (hX = h0)
set_option maxRecDepth 65536 in
set_option maxHeartbeats 40000000 in
theorem rm1 (l : Launch) (Z : State) (a0 : Array Value) (hw : ∀ d ∈ tables_1, d.before a0 Z = true) (ws : List Jvm.Cond) (a : Int32) (b : Int32) (h0 : Heap) (n0 : Nat) (Z0 : n0 ≤ h0.size)  :
    MetFree l (⟨"com/example/envelope/envelope/ReportType", "holds", "(II)Z"⟩ : MethodName) (head1 (Jvm.Cond.code (⟨"com/example/envelope/envelope/ReportType", "holds", "(II)Z"⟩ : MethodName) prog_82_method_9_code 2 (some .boolean) :: ws) ({ frames := 0, cells := 0, slots := 0, locals := 0 } : Room)) (fun aX uX => aX = #[(.int a), (.int b)] ∧ Z.Warmed39 uX.vm ∧ uX.heap = h0) (fun _ _ _ _ _ => True) (fun _ uX oX wX => ∃ vX lX, oX = .returned vX ∧ Q1 Z a b h0 n0 vX wX.heap lX ∧ FrameEnd uX oX wX lX ({ frames := 0, cells := 0, slots := 0, locals := 0 } : Room).cells ({ frames := 0, cells := 0, slots := 0, locals := 0 } : Room).slots) := by
  refine MetFree.of_bodySF (plainFor_of_name pn_0) hisR ?_
  intro p e s m args below meth c s₁ Bd hml0 hP hK
  obtain ⟨rfl, hZ, hh⟩ := hP
  have hx := Bd.exec
  have hby := Bd.bytes
  have hml : c.maxLocals = 2 := hml0
  have hown : s.vm.findClass "com/example/envelope/envelope/ReportType" = some m.cls := findClass_of_methodNamed Bd.named
  have hnm := (name_of_methodNamed Bd.named Bd.method).1
  have X0 : Stand p l e ({ frames := 0, cells := 0, slots := 0, locals := 0 } : Room) s m #[(.int a), (.int b)] below meth c s₁ [] 0 0 := Stand.of_body Bd
  have e0 : s₁.heap = h0 := by rw [← hh, Bd.state]; rfl
  have N0 := Fr.nil n0
  have pre0 : ∀ t, Steps p.tables e below (s₁.setTop (mkF m 0 #[.val (.int a), .val (.int b)] [])) t → Steps p.tables e below (s₁.setTop (entryFrame m #[(.int a), (.int b)] 2)) t := fun t k => castTop (ef_1 m a b) k
  have P1 : ∀ t, Steps p.tables e below (s₁.setTop (mkF m 4 #[.val (.int a), .val (.int b)] [(.int b), (.int (a &&& b))])) t → Steps p.tables e below (s₁.setTop (entryFrame m #[(.int a), (.int b)] 2)) t := by
    intro t kk
    refine pre0 _ ?_
    show Steps p.tables e below (s₁.setTop (mkF m 0 #[.val (.int a), .val (.int b)] [])) _
    refine XS.iloadN X0.here hx rfl (hb hby d1_0) rfl ?_
    show Steps p.tables e below (s₁.setTop (mkF m 1 #[.val (.int a), .val (.int b)] [(.int a)])) _
    refine XS.iloadN X0.here hx rfl (hb hby d1_1) rfl ?_
    show Steps p.tables e below (s₁.setTop (mkF m 2 #[.val (.int a), .val (.int b)] [(.int b), (.int a)])) _
    refine XS.iand X0.here hx rfl (hb hby d1_2) rfl ?_
    show Steps p.tables e below (s₁.setTop (mkF m 3 #[.val (.int a), .val (.int b)] [(.int (a &&& b))])) _
    refine XS.iloadN X0.here hx rfl (hb hby d1_3) rfl ?_
    show Steps p.tables e below (s₁.setTop (mkF m 4 #[.val (.int a), .val (.int b)] [(.int b), (.int (a &&& b))])) _
    exact kk
  by_cases c2 : (a &&& b) = b
  · skip
    have P3 : ∀ t, Steps p.tables e below (s₁.setTop (mkF m 12 #[.val (.int a), .val (.int b)] [(.int (1 : Int32))])) t → Steps p.tables e below (s₁.setTop (entryFrame m #[(.int a), (.int b)] 2)) t := by
      intro t kk
      refine P1 _ ?_
      show Steps p.tables e below (s₁.setTop (mkF m 4 #[.val (.int a), .val (.int b)] [(.int b), (.int (a &&& b))])) _
      refine XS.icmpNo X0.here hx rfl (hb hby d1_4) rfl (XT.ii_ne_f c2) ?_
      show Steps p.tables e below (s₁.setTop (mkF m 7 #[.val (.int a), .val (.int b)] [])) _
      refine XS.iconst X0.here hx rfl (hb hby d1_7) ?_
      show Steps p.tables e below (s₁.setTop (mkF m 8 #[.val (.int a), .val (.int b)] [(.int (1 : Int32))])) _
      refine XS.goto X0.here hx rfl (pc0 := 8) (pc' := 12) rfl (hb hby d1_8) (by decide) (by decide) ?_
      show Steps p.tables e below (s₁.setTop (mkF m 12 #[.val (.int a), .val (.int b)] [(.int (1 : Int32))])) _
      exact kk
    obtain ⟨fs, hr, hrun, hended, hW, hsame⟩ := X0.leave (v := some (.int (1 : Int32))) (fun h => by rw [Bd.returns] at h; cases h)
    refine ⟨_, _, P3 _ ?_, hrun, hended, _, _, rfl, ?_, ⟨_, rfl⟩, hW, hsame.mono (by decide) (by decide)⟩
    · exact retN X0 hx (t := .boolean) Bd.returns (by simp) (hb hby d1_12) hr
    · show Q1 Z a b h0 n0 _ s₁.heap _
      rw [e0]
      exact ⟨congrArg (fun z => some (Value.int z)) (show (F1 a b) = _ from ((if_pos c2).trans rfl)).symm, N0, rfl⟩
  · skip
    have P4 : ∀ t, Steps p.tables e below (s₁.setTop (mkF m 12 #[.val (.int a), .val (.int b)] [(.int (0 : Int32))])) t → Steps p.tables e below (s₁.setTop (entryFrame m #[(.int a), (.int b)] 2)) t := by
      intro t kk
      refine P1 _ ?_
      show Steps p.tables e below (s₁.setTop (mkF m 4 #[.val (.int a), .val (.int b)] [(.int b), (.int (a &&& b))])) _
      refine XS.icmpYes X0.here hx rfl (pc0 := 4) (pc' := 11) rfl (hb hby d1_4) rfl (XT.ii_ne_t c2) (by decide) (by decide) ?_
      show Steps p.tables e below (s₁.setTop (mkF m 11 #[.val (.int a), .val (.int b)] [])) _
      refine XS.iconst X0.here hx rfl (hb hby d1_11) ?_
      show Steps p.tables e below (s₁.setTop (mkF m 12 #[.val (.int a), .val (.int b)] [(.int (0 : Int32))])) _
      exact kk
    obtain ⟨fs, hr, hrun, hended, hW, hsame⟩ := X0.leave (v := some (.int (0 : Int32))) (fun h => by rw [Bd.returns] at h; cases h)
    refine ⟨_, _, P4 _ ?_, hrun, hended, _, _, rfl, ?_, ⟨_, rfl⟩, hW, hsame.mono (by decide) (by decide)⟩
    · exact retN X0 hx (t := .boolean) Bd.returns (by simp) (hb hby d1_12) hr
    · show Q1 Z a b h0 n0 _ s₁.heap _
      rw [e0]
      exact ⟨congrArg (fun z => some (Value.int z)) (show (F1 a b) = _ from ((if_neg c2).trans rfl)).symm, N0, rfl⟩
theorem own_ext (x y : Int32) : x = y ↔ ∀ i : Nat, i < 32 → x.toBitVec.getLsbD i = y.toBitVec.getLsbD i := by
  rw [← Int32.toBitVec_inj]
  exact ⟨fun h i _ => by rw [h], fun h => BitVec.eq_of_getLsbD_eq (fun i hi => h i hi)⟩
theorem own_or (a b : Int32) : (a ||| b) = a ↔ (a &&& b) = b := by
  rw [own_ext, own_ext]
  refine forall_congr' fun i => imp_congr_right fun hi => ?_
  rw [Int32.toBitVec_or, Int32.toBitVec_and, BitVec.getLsbD_or, BitVec.getLsbD_and]
  cases a.toBitVec.getLsbD i <;> cases b.toBitVec.getLsbD i <;> simp
theorem own_conj (a b d : Int32) : (a &&& (b ||| d)) = (b ||| d) ↔ ((a &&& b) = b ∧ (a &&& d) = d) := by
  rw [own_ext, own_ext, own_ext, ← forall_and]
  refine forall_congr' fun i => ?_
  rw [← forall_and]
  refine imp_congr_right fun hi => ?_
  rw [Int32.toBitVec_and, Int32.toBitVec_or, Int32.toBitVec_and, Int32.toBitVec_and, BitVec.getLsbD_and, BitVec.getLsbD_or, BitVec.getLsbD_and, BitVec.getLsbD_and]
  cases a.toBitVec.getLsbD i <;> cases b.toBitVec.getLsbD i <;> cases d.toBitVec.getLsbD i <;> simp
theorem own_add (a b : Int32) : ((a ||| b) &&& b) = b := by
  rw [own_ext]
  intro i hi
  rw [Int32.toBitVec_and, Int32.toBitVec_or, BitVec.getLsbD_and, BitVec.getLsbD_or]
  cases a.toBitVec.getLsbD i <;> cases b.toBitVec.getLsbD i <;> simp
theorem own_zero (a : Int32) : (a &&& (0 : Int32)) = (0 : Int32) := by
  rw [own_ext]
  intro i hi
  rw [Int32.toBitVec_and, BitVec.getLsbD_and]
  simp
theorem own_bit (a q : Int32) : (((a).toUInt32 >>> (q &&& 31).toUInt32).toInt32 &&& (1 : Int32)) = (1 : Int32) ↔ (a &&& ((1 : Int32) <<< (q &&& 31))) = ((1 : Int32) <<< (q &&& 31)) := by
  obtain ⟨n, hn⟩ : ∃ n, n = q.toBitVec.toNat % 32 := ⟨_, rfl⟩
  have hlt : n < 32 := by omega
  have e1 : ((1 : Int32) <<< (q &&& 31)).toBitVec = 1#32 <<< n := by
    rw [Int32.toBitVec_shiftLeft, BitVec.shiftLeft_eq', sm32 q n hn.symm]; rfl
  have e2 : (((a).toUInt32 >>> (q &&& 31).toUInt32).toInt32).toBitVec = a.toBitVec >>> n := by
    have e : (((a).toUInt32 >>> (q &&& 31).toUInt32).toInt32).toBitVec = a.toBitVec >>> ((q &&& 31).toBitVec % 32) := rfl
    have e' : ((q &&& 31).toBitVec % 32).toNat = n := by
      rw [BitVec.toNat_umod, Int32.toBitVec_and, BitVec.toNat_and]
      have h31 : (31 : Int32).toBitVec.toNat = 2 ^ 5 - 1 := by decide
      have h32 : (32 : BitVec 32).toNat = 32 := by decide
      rw [h31, h32, Nat.and_two_pow_sub_one_eq_mod]
      omega
    rw [e]
    show a.toBitVec >>> ((q &&& 31).toBitVec % 32).toNat = _
    rw [e']
  have o1 : (1 : Int32).toBitVec = 1#32 := rfl
  have L : (∀ i, i < 32 → ((a.toBitVec >>> n) &&& 1#32).getLsbD i = (1#32).getLsbD i) ↔ a.toBitVec.getLsbD n = true := by
    constructor
    · intro h
      have h0 := h 0 (by decide)
      rw [BitVec.getLsbD_and, BitVec.getLsbD_ushiftRight] at h0
      simpa using h0
    · intro h i hi
      rw [BitVec.getLsbD_and, BitVec.getLsbD_ushiftRight, BitVec.getLsbD_one]
      by_cases c : i = 0
      · subst c; simp [h]
      · simp [c]
  have R : (∀ i, i < 32 → (a.toBitVec &&& (1#32 <<< n)).getLsbD i = (1#32 <<< n).getLsbD i) ↔ a.toBitVec.getLsbD n = true := by
    constructor
    · intro h
      have h0 := h n hlt
      rw [BitVec.getLsbD_and, BitVec.getLsbD_shiftLeft, BitVec.getLsbD_one] at h0
      simpa [hlt] using h0
    · intro h i hi
      rw [BitVec.getLsbD_and, BitVec.getLsbD_shiftLeft, BitVec.getLsbD_one]
      by_cases c : i = n
      · subst c; simp [h]
      · have c2 : ¬ (¬ i < n ∧ i - n = 0) := by omega
        by_cases c3 : i < n
        · simp [c3]
        · simp [c3, show ¬ i - n = 0 by omega]
  rw [own_ext, own_ext, Int32.toBitVec_and, Int32.toBitVec_and, e1, e2, o1, L, R]
theorem own_plain0 (p0 : Int32) (p1 : Int32) (p2 : Int32) (p3 : Int32) (i3 : Int32) (h_i3 : i3 = (if (p0 ||| p1) = p0 then (1 : Int32) else (0 : Int32))) (i7 : Int32) (h_i7 : i7 = (if (F1 p0 p1) = i3 then (1 : Int32) else (0 : Int32))) (i12 : Int32) (h_i12 : i12 = (if ((((p0).toUInt32 >>> ((p3 &&& (31 : Int32)) &&& 31).toUInt32).toInt32) &&& (1 : Int32)) = (1 : Int32) then (1 : Int32) else (0 : Int32))) (i16 : Int32) (h_i16 : i16 = (if (F1 p0 (((1 : Int32) <<< ((p3 &&& (31 : Int32)) &&& 31)))) = i12 then (1 : Int32) else (0 : Int32))) (i23 : Int32) (h_i23 : i23 = (if (F1 p0 p1) = (0 : Int32) then (0 : Int32) else (if (F1 p0 p2) = (0 : Int32) then (0 : Int32) else (1 : Int32)))) (i30 : Int32) (h_i30 : i30 = (if (F1 p0 (p1 ||| p2)) = i23 then (1 : Int32) else (0 : Int32))) (i35 : Int32) (h_i35 : i35 = (if i7 = (0 : Int32) then (0 : Int32) else (if i16 = (0 : Int32) then (0 : Int32) else (if (F1 p0 (0 : Int32)) = (0 : Int32) then (0 : Int32) else (if i30 = (0 : Int32) then (0 : Int32) else (if (F1 (p0 ||| p1) p1) = (0 : Int32) then (0 : Int32) else (1 : Int32)))))))  : i35 = (1 : Int32) := by
  have n10 : ¬ (1 : Int32) = (0 : Int32) := by decide
  have n01 : ¬ (0 : Int32) = (1 : Int32) := by decide
  have k1 := own_or p0 p1
  have k2 := own_bit p0 (p3 &&& (31 : Int32))
  have k3 := own_zero p0
  have k4 := own_conj p0 p1 p2
  have k5 := own_add p0 p1
  unfold F1 at *
  rw [if_pos k3] at h_i35
  rw [if_pos k5] at h_i35
  by_cases q1 : (p0 &&& p1) = p1 <;> by_cases q2 : (p0 &&& p2) = p2 <;> by_cases q3 : (p0 &&& ((1 : Int32) <<< ((p3 &&& (31 : Int32)) &&& 31))) = ((1 : Int32) <<< ((p3 &&& (31 : Int32)) &&& 31)) <;> simp_all
theorem ef_0 (m : MethodId) (x0 : Int32) (x1 : Int32) (x2 : Int32) (x3 : Int32) : entryFrame m #[(.int x0), (.int x1), (.int x2), (.int x3)] maxLocals = (mkF m 0 #[.val (.int x0), .val (.int x1), .val (.int x2), .val (.int x3), .unset, .unset, .unset, .unset, .unset, .unset] []) := by first | (simp [entryFrame, mkF, argsToLocals, Value.category, maxLocals]; done) | rfl
def Q0 (Z : State) (h0 : Heap) (n0 : Nat) (v : Option Value) (h : Heap) (L : List Loc) : Prop := v = some (.int (1 : Int32)) ∧ Fr n0 L
set_option maxRecDepth 65536 in
set_option maxHeartbeats 400000000 in
theorem rm0 (l : Launch) (Z : State) (a0 : Array Value) (hw : ∀ d ∈ tables_1, d.before a0 Z = true) (ws : List Jvm.Cond) (p0 : Int32) (p1 : Int32) (p2 : Int32) (p3 : Int32) (h0 : Heap) (n0 : Nat) (Z0 : n0 ≤ h0.size)  :
    MetFree l x (head1 (Jvm.Cond.code x code maxLocals ret :: ws) room_1) (fun a U => a = #[(.int p0), (.int p1), (.int p2), (.int p3)] ∧ Z.Warmed39 U.vm ∧ U.heap = h0) (fun _ _ _ _ _ => True) (fun _ U o U' => ∃ v L, o = .returned v ∧ Q0 Z h0 n0 v U'.heap L ∧ FrameEnd U o U' L room_1.cells room_1.slots) := by
  refine MetFree.of_bodySF (plainFor_of_name pn_1) hisR ?_
  intro p e s m args below meth c s₁ Bd hml0 hP hK
  obtain ⟨rfl, hZ, hh⟩ := hP
  have hx := Bd.exec
  have hby := Bd.bytes
  have hml : c.maxLocals = 10 := hml0
  have hown : s.vm.findClass "com/example/envelope/envelope/ReportTypeHoldsPinLaw" = some m.cls := findClass_of_methodNamed Bd.named
  have hnm := (name_of_methodNamed Bd.named Bd.method).1
  have X0 : Stand p l e room_1 s m #[(.int p0), (.int p1), (.int p2), (.int p3)] below meth c s₁ [] 0 0 := Stand.of_body Bd
  have e0 : s₁.heap = h0 := by rw [← hh, Bd.state]; rfl
  have N0 := Fr.nil n0
  have pre0 : ∀ t, Steps p.tables e below (s₁.setTop (mkF m 0 #[.val (.int p0), .val (.int p1), .val (.int p2), .val (.int p3), .unset, .unset, .unset, .unset, .unset, .unset] [])) t → Steps p.tables e below (s₁.setTop (entryFrame m #[(.int p0), (.int p1), (.int p2), (.int p3)] maxLocals)) t := fun t k => castTop (ef_0 m p0 p1 p2 p3) k
  obtain ⟨_, _, ⟨T1, L1, k1, n1⟩, -, X1, ⟨Lc1, hQ1, l1, y1, z1⟩, st1⟩ := Jvm.LawKit.callS X0 hx (y := (⟨"com/example/envelope/envelope/ReportType", "holds", "(II)Z"⟩ : MethodName)) hown (mvT hZ (hw _ (List.mem_of_getElem? (i := 0) rfl))) (mvT hZ (hw _ (List.mem_of_getElem? (i := 1) rfl))) (mvT hZ (hw _ (List.mem_of_getElem? (i := 2) rfl))) (mvT hZ (hw _ (List.mem_of_getElem? (i := 3) rfl))) (by decide) (backOf (W := 0) (rm1 l Z a0 hw [] p0 p1 h0 n0 Z0 ) hZ (hw _ (List.mem_of_getElem? (i := 3) rfl)) (hw _ (List.mem_of_getElem? (i := 2) rfl)) (by decide) (by decide)) (g := (mkF m 8 #[.val (.int p0), .val (.int p1), .val (.int p2), .val (.int p3), .val (.int (p3 &&& (31 : Int32))), .unset, .unset, .unset, .unset, .unset] [(.int p1), (.int p0)])) rfl (by rw [hml]; rfl) (argsL := [(.int p0), (.int p1)]) (rest := []) (lenOf pd_0 rfl) rfl (by show 2 * 0 + _ ≤ _; exact Nat.le_of_eq rfl) (hb hby at_8) (fun _ _ => ⟨rfl, e0, (by decide : 0 + 0 ≤ _), (by decide : 0 + 0 ≤ _)⟩)
  dsimp only [Pt.U, Pt.locs, Pt.cells, Pt.slots] at X1 l1 y1 z1 st1 hQ1
  subst l1 y1 z1
  obtain ⟨rfl, Nq1, e1⟩ := hQ1
  have N1 := Fr.app N0 Nq1
  have P2 : ∀ t, Steps p.tables e below (T1.setTop (mkF m 15 #[.val (.int p0), .val (.int p1), .val (.int p2), .val (.int p3), .val (.int (p3 &&& (31 : Int32))), .unset, .unset, .unset, .unset, .unset] [(.int p0), (.int (p0 ||| p1)), (.int (F1 p0 p1))])) t → Steps p.tables e below (s₁.setTop (entryFrame m #[(.int p0), (.int p1), (.int p2), (.int p3)] maxLocals)) t := by
    intro t kk
    refine pre0 _ ?_
    show Steps p.tables e below (s₁.setTop (mkF m 0 #[.val (.int p0), .val (.int p1), .val (.int p2), .val (.int p3), .unset, .unset, .unset, .unset, .unset, .unset] [])) _
    refine XS.iloadN X0.here hx rfl (hb hby at_0) rfl ?_
    show Steps p.tables e below (s₁.setTop (mkF m 1 #[.val (.int p0), .val (.int p1), .val (.int p2), .val (.int p3), .unset, .unset, .unset, .unset, .unset, .unset] [(.int p3)])) _
    refine XS.bipush X0.here hx rfl (hb hby at_1) ?_
    show Steps p.tables e below (s₁.setTop (mkF m 3 #[.val (.int p0), .val (.int p1), .val (.int p2), .val (.int p3), .unset, .unset, .unset, .unset, .unset, .unset] [(.int (31 : Int32)), (.int p3)])) _
    refine XS.iand X0.here hx rfl (hb hby at_3) rfl ?_
    show Steps p.tables e below (s₁.setTop (mkF m 4 #[.val (.int p0), .val (.int p1), .val (.int p2), .val (.int p3), .unset, .unset, .unset, .unset, .unset, .unset] [(.int (p3 &&& (31 : Int32)))])) _
    refine XS.istore X0.here hx rfl (hb hby at_4) rfl (l' := #[.val (.int p0), .val (.int p1), .val (.int p2), .val (.int p3), .val (.int (p3 &&& (31 : Int32))), .unset, .unset, .unset, .unset, .unset]) rfl ?_
    show Steps p.tables e below (s₁.setTop (mkF m 6 #[.val (.int p0), .val (.int p1), .val (.int p2), .val (.int p3), .val (.int (p3 &&& (31 : Int32))), .unset, .unset, .unset, .unset, .unset] [])) _
    refine XS.iloadN X0.here hx rfl (hb hby at_6) rfl ?_
    show Steps p.tables e below (s₁.setTop (mkF m 7 #[.val (.int p0), .val (.int p1), .val (.int p2), .val (.int p3), .val (.int (p3 &&& (31 : Int32))), .unset, .unset, .unset, .unset, .unset] [(.int p0)])) _
    refine XS.iloadN X0.here hx rfl (hb hby at_7) rfl ?_
    show Steps p.tables e below (s₁.setTop (mkF m 8 #[.val (.int p0), .val (.int p1), .val (.int p2), .val (.int p3), .val (.int (p3 &&& (31 : Int32))), .unset, .unset, .unset, .unset, .unset] [(.int p1), (.int p0)])) _
    refine st1 _ ?_
    show Steps p.tables e below (T1.setTop (mkF m 11 #[.val (.int p0), .val (.int p1), .val (.int p2), .val (.int p3), .val (.int (p3 &&& (31 : Int32))), .unset, .unset, .unset, .unset, .unset] [(.int (F1 p0 p1))])) _
    refine XS.iloadN X1.here hx rfl (hb hby at_11) rfl ?_
    show Steps p.tables e below (T1.setTop (mkF m 12 #[.val (.int p0), .val (.int p1), .val (.int p2), .val (.int p3), .val (.int (p3 &&& (31 : Int32))), .unset, .unset, .unset, .unset, .unset] [(.int p0), (.int (F1 p0 p1))])) _
    refine XS.iloadN X1.here hx rfl (hb hby at_12) rfl ?_
    show Steps p.tables e below (T1.setTop (mkF m 13 #[.val (.int p0), .val (.int p1), .val (.int p2), .val (.int p3), .val (.int (p3 &&& (31 : Int32))), .unset, .unset, .unset, .unset, .unset] [(.int p1), (.int p0), (.int (F1 p0 p1))])) _
    refine XS.ior X1.here hx rfl (hb hby at_13) rfl ?_
    show Steps p.tables e below (T1.setTop (mkF m 14 #[.val (.int p0), .val (.int p1), .val (.int p2), .val (.int p3), .val (.int (p3 &&& (31 : Int32))), .unset, .unset, .unset, .unset, .unset] [(.int (p0 ||| p1)), (.int (F1 p0 p1))])) _
    refine XS.iloadN X1.here hx rfl (hb hby at_14) rfl ?_
    show Steps p.tables e below (T1.setTop (mkF m 15 #[.val (.int p0), .val (.int p1), .val (.int p2), .val (.int p3), .val (.int (p3 &&& (31 : Int32))), .unset, .unset, .unset, .unset, .unset] [(.int p0), (.int (p0 ||| p1)), (.int (F1 p0 p1))])) _
    exact kk
  obtain ⟨i3, h_i3, P4⟩ : ∃ (i3 : Int32), i3 = (if (p0 ||| p1) = p0 then (1 : Int32) else (0 : Int32)) ∧ ∀ t, Steps p.tables e below (T1.setTop (mkF m 23 #[.val (.int p0), .val (.int p1), .val (.int p2), .val (.int p3), .val (.int (p3 &&& (31 : Int32))), .unset, .unset, .unset, .unset, .unset] [(.int i3), (.int (F1 p0 p1))])) t → Steps p.tables e below (s₁.setTop (entryFrame m #[(.int p0), (.int p1), (.int p2), (.int p3)] maxLocals)) t := by
    by_cases c5 : (p0 ||| p1) = p0
    · skip
      refine ⟨(1 : Int32), ((if_pos c5).trans rfl).symm, fun t kk => P2 t ?_⟩
      show Steps p.tables e below (T1.setTop (mkF m 15 #[.val (.int p0), .val (.int p1), .val (.int p2), .val (.int p3), .val (.int (p3 &&& (31 : Int32))), .unset, .unset, .unset, .unset, .unset] [(.int p0), (.int (p0 ||| p1)), (.int (F1 p0 p1))])) _
      refine XS.icmpNo X1.here hx rfl (hb hby at_15) rfl (XT.ii_ne_f c5) ?_
      show Steps p.tables e below (T1.setTop (mkF m 18 #[.val (.int p0), .val (.int p1), .val (.int p2), .val (.int p3), .val (.int (p3 &&& (31 : Int32))), .unset, .unset, .unset, .unset, .unset] [(.int (F1 p0 p1))])) _
      refine XS.iconst X1.here hx rfl (hb hby at_18) ?_
      show Steps p.tables e below (T1.setTop (mkF m 19 #[.val (.int p0), .val (.int p1), .val (.int p2), .val (.int p3), .val (.int (p3 &&& (31 : Int32))), .unset, .unset, .unset, .unset, .unset] [(.int (1 : Int32)), (.int (F1 p0 p1))])) _
      refine XS.goto X1.here hx rfl (pc0 := 19) (pc' := 23) rfl (hb hby at_19) (by decide) (by decide) ?_
      show Steps p.tables e below (T1.setTop (mkF m 23 #[.val (.int p0), .val (.int p1), .val (.int p2), .val (.int p3), .val (.int (p3 &&& (31 : Int32))), .unset, .unset, .unset, .unset, .unset] [(.int (1 : Int32)), (.int (F1 p0 p1))])) _
      exact kk
    · skip
      refine ⟨(0 : Int32), ((if_neg c5).trans rfl).symm, fun t kk => P2 t ?_⟩
      show Steps p.tables e below (T1.setTop (mkF m 15 #[.val (.int p0), .val (.int p1), .val (.int p2), .val (.int p3), .val (.int (p3 &&& (31 : Int32))), .unset, .unset, .unset, .unset, .unset] [(.int p0), (.int (p0 ||| p1)), (.int (F1 p0 p1))])) _
      refine XS.icmpYes X1.here hx rfl (pc0 := 15) (pc' := 22) rfl (hb hby at_15) rfl (XT.ii_ne_t c5) (by decide) (by decide) ?_
      show Steps p.tables e below (T1.setTop (mkF m 22 #[.val (.int p0), .val (.int p1), .val (.int p2), .val (.int p3), .val (.int (p3 &&& (31 : Int32))), .unset, .unset, .unset, .unset, .unset] [(.int (F1 p0 p1))])) _
      refine XS.iconst X1.here hx rfl (hb hby at_22) ?_
      show Steps p.tables e below (T1.setTop (mkF m 23 #[.val (.int p0), .val (.int p1), .val (.int p2), .val (.int p3), .val (.int (p3 &&& (31 : Int32))), .unset, .unset, .unset, .unset, .unset] [(.int (0 : Int32)), (.int (F1 p0 p1))])) _
      exact kk
  have P6 : ∀ t, Steps p.tables e below (T1.setTop (mkF m 23 #[.val (.int p0), .val (.int p1), .val (.int p2), .val (.int p3), .val (.int (p3 &&& (31 : Int32))), .unset, .unset, .unset, .unset, .unset] [(.int i3), (.int (F1 p0 p1))])) t → Steps p.tables e below (s₁.setTop (entryFrame m #[(.int p0), (.int p1), (.int p2), (.int p3)] maxLocals)) t := by
    intro t kk
    refine P4 _ ?_
    show Steps p.tables e below (T1.setTop (mkF m 23 #[.val (.int p0), .val (.int p1), .val (.int p2), .val (.int p3), .val (.int (p3 &&& (31 : Int32))), .unset, .unset, .unset, .unset, .unset] [(.int i3), (.int (F1 p0 p1))])) _
    exact kk
  obtain ⟨i7, h_i7, P8⟩ : ∃ (i7 : Int32), i7 = (if (F1 p0 p1) = i3 then (1 : Int32) else (0 : Int32)) ∧ ∀ t, Steps p.tables e below (T1.setTop (mkF m 31 #[.val (.int p0), .val (.int p1), .val (.int p2), .val (.int p3), .val (.int (p3 &&& (31 : Int32))), .unset, .unset, .unset, .unset, .unset] [(.int i7)])) t → Steps p.tables e below (s₁.setTop (entryFrame m #[(.int p0), (.int p1), (.int p2), (.int p3)] maxLocals)) t := by
    by_cases c9 : (F1 p0 p1) = i3
    · skip
      refine ⟨(1 : Int32), ((if_pos c9).trans rfl).symm, fun t kk => P6 t ?_⟩
      show Steps p.tables e below (T1.setTop (mkF m 23 #[.val (.int p0), .val (.int p1), .val (.int p2), .val (.int p3), .val (.int (p3 &&& (31 : Int32))), .unset, .unset, .unset, .unset, .unset] [(.int i3), (.int (F1 p0 p1))])) _
      refine XS.icmpNo X1.here hx rfl (hb hby at_23) rfl (XT.ii_ne_f c9) ?_
      show Steps p.tables e below (T1.setTop (mkF m 26 #[.val (.int p0), .val (.int p1), .val (.int p2), .val (.int p3), .val (.int (p3 &&& (31 : Int32))), .unset, .unset, .unset, .unset, .unset] [])) _
      refine XS.iconst X1.here hx rfl (hb hby at_26) ?_
      show Steps p.tables e below (T1.setTop (mkF m 27 #[.val (.int p0), .val (.int p1), .val (.int p2), .val (.int p3), .val (.int (p3 &&& (31 : Int32))), .unset, .unset, .unset, .unset, .unset] [(.int (1 : Int32))])) _
      refine XS.goto X1.here hx rfl (pc0 := 27) (pc' := 31) rfl (hb hby at_27) (by decide) (by decide) ?_
      show Steps p.tables e below (T1.setTop (mkF m 31 #[.val (.int p0), .val (.int p1), .val (.int p2), .val (.int p3), .val (.int (p3 &&& (31 : Int32))), .unset, .unset, .unset, .unset, .unset] [(.int (1 : Int32))])) _
      exact kk
    · skip
      refine ⟨(0 : Int32), ((if_neg c9).trans rfl).symm, fun t kk => P6 t ?_⟩
      show Steps p.tables e below (T1.setTop (mkF m 23 #[.val (.int p0), .val (.int p1), .val (.int p2), .val (.int p3), .val (.int (p3 &&& (31 : Int32))), .unset, .unset, .unset, .unset, .unset] [(.int i3), (.int (F1 p0 p1))])) _
      refine XS.icmpYes X1.here hx rfl (pc0 := 23) (pc' := 30) rfl (hb hby at_23) rfl (XT.ii_ne_t c9) (by decide) (by decide) ?_
      show Steps p.tables e below (T1.setTop (mkF m 30 #[.val (.int p0), .val (.int p1), .val (.int p2), .val (.int p3), .val (.int (p3 &&& (31 : Int32))), .unset, .unset, .unset, .unset, .unset] [])) _
      refine XS.iconst X1.here hx rfl (hb hby at_30) ?_
      show Steps p.tables e below (T1.setTop (mkF m 31 #[.val (.int p0), .val (.int p1), .val (.int p2), .val (.int p3), .val (.int (p3 &&& (31 : Int32))), .unset, .unset, .unset, .unset, .unset] [(.int (0 : Int32))])) _
      exact kk
  obtain ⟨_, _, ⟨T10, L10, k10, n10⟩, -, X10, ⟨Lc10, hQ10, l10, y10, z10⟩, st10⟩ := Jvm.LawKit.callS X1 hx (y := (⟨"com/example/envelope/envelope/ReportType", "holds", "(II)Z"⟩ : MethodName)) hown (mvT hZ (hw _ (List.mem_of_getElem? (i := 0) rfl))) (mvT hZ (hw _ (List.mem_of_getElem? (i := 1) rfl))) (mvT hZ (hw _ (List.mem_of_getElem? (i := 2) rfl))) (mvT hZ (hw _ (List.mem_of_getElem? (i := 3) rfl))) (by decide) (backOf (W := 0) (rm1 l Z a0 hw [] p0 (((1 : Int32) <<< ((p3 &&& (31 : Int32)) &&& 31))) h0 n0 Z0 ) hZ (hw _ (List.mem_of_getElem? (i := 3) rfl)) (hw _ (List.mem_of_getElem? (i := 2) rfl)) (by decide) (by decide)) (g := (mkF m 38 #[.val (.int p0), .val (.int p1), .val (.int p2), .val (.int p3), .val (.int (p3 &&& (31 : Int32))), .val (.int i7), .unset, .unset, .unset, .unset] [(.int (((1 : Int32) <<< ((p3 &&& (31 : Int32)) &&& 31)))), (.int p0)])) rfl (by rw [hml]; rfl) (argsL := [(.int p0), (.int (((1 : Int32) <<< ((p3 &&& (31 : Int32)) &&& 31))))]) (rest := []) (lenOf pd_0 rfl) rfl (by show 2 * 0 + _ ≤ _; exact Nat.le_of_eq rfl) (hb hby at_38) (fun _ _ => ⟨rfl, e1, (by decide : 0 + 0 ≤ _), (by decide : 0 + 0 ≤ _)⟩)
  dsimp only [Pt.U, Pt.locs, Pt.cells, Pt.slots] at X10 l10 y10 z10 st10 hQ10
  subst l10 y10 z10
  obtain ⟨rfl, Nq10, e10⟩ := hQ10
  have N10 := Fr.app N1 Nq10
  have P11 : ∀ t, Steps p.tables e below (T10.setTop (mkF m 48 #[.val (.int p0), .val (.int p1), .val (.int p2), .val (.int p3), .val (.int (p3 &&& (31 : Int32))), .val (.int i7), .unset, .unset, .unset, .unset] [(.int (1 : Int32)), (.int ((((p0).toUInt32 >>> ((p3 &&& (31 : Int32)) &&& 31).toUInt32).toInt32) &&& (1 : Int32))), (.int (F1 p0 (((1 : Int32) <<< ((p3 &&& (31 : Int32)) &&& 31)))))])) t → Steps p.tables e below (s₁.setTop (entryFrame m #[(.int p0), (.int p1), (.int p2), (.int p3)] maxLocals)) t := by
    intro t kk
    refine P8 _ ?_
    show Steps p.tables e below (T1.setTop (mkF m 31 #[.val (.int p0), .val (.int p1), .val (.int p2), .val (.int p3), .val (.int (p3 &&& (31 : Int32))), .unset, .unset, .unset, .unset, .unset] [(.int i7)])) _
    refine XS.istore X1.here hx rfl (hb hby at_31) rfl (l' := #[.val (.int p0), .val (.int p1), .val (.int p2), .val (.int p3), .val (.int (p3 &&& (31 : Int32))), .val (.int i7), .unset, .unset, .unset, .unset]) rfl ?_
    show Steps p.tables e below (T1.setTop (mkF m 33 #[.val (.int p0), .val (.int p1), .val (.int p2), .val (.int p3), .val (.int (p3 &&& (31 : Int32))), .val (.int i7), .unset, .unset, .unset, .unset] [])) _
    refine XS.iloadN X1.here hx rfl (hb hby at_33) rfl ?_
    show Steps p.tables e below (T1.setTop (mkF m 34 #[.val (.int p0), .val (.int p1), .val (.int p2), .val (.int p3), .val (.int (p3 &&& (31 : Int32))), .val (.int i7), .unset, .unset, .unset, .unset] [(.int p0)])) _
    refine XS.iconst X1.here hx rfl (hb hby at_34) ?_
    show Steps p.tables e below (T1.setTop (mkF m 35 #[.val (.int p0), .val (.int p1), .val (.int p2), .val (.int p3), .val (.int (p3 &&& (31 : Int32))), .val (.int i7), .unset, .unset, .unset, .unset] [(.int (1 : Int32)), (.int p0)])) _
    refine XS.iload X1.here hx rfl (hb hby at_35) rfl ?_
    show Steps p.tables e below (T1.setTop (mkF m 37 #[.val (.int p0), .val (.int p1), .val (.int p2), .val (.int p3), .val (.int (p3 &&& (31 : Int32))), .val (.int i7), .unset, .unset, .unset, .unset] [(.int (p3 &&& (31 : Int32))), (.int (1 : Int32)), (.int p0)])) _
    refine XS.ishl X1.here hx rfl (hb hby at_37) rfl ?_
    show Steps p.tables e below (T1.setTop (mkF m 38 #[.val (.int p0), .val (.int p1), .val (.int p2), .val (.int p3), .val (.int (p3 &&& (31 : Int32))), .val (.int i7), .unset, .unset, .unset, .unset] [(.int (((1 : Int32) <<< ((p3 &&& (31 : Int32)) &&& 31)))), (.int p0)])) _
    refine st10 _ ?_
    show Steps p.tables e below (T10.setTop (mkF m 41 #[.val (.int p0), .val (.int p1), .val (.int p2), .val (.int p3), .val (.int (p3 &&& (31 : Int32))), .val (.int i7), .unset, .unset, .unset, .unset] [(.int (F1 p0 (((1 : Int32) <<< ((p3 &&& (31 : Int32)) &&& 31)))))])) _
    refine XS.iloadN X10.here hx rfl (hb hby at_41) rfl ?_
    show Steps p.tables e below (T10.setTop (mkF m 42 #[.val (.int p0), .val (.int p1), .val (.int p2), .val (.int p3), .val (.int (p3 &&& (31 : Int32))), .val (.int i7), .unset, .unset, .unset, .unset] [(.int p0), (.int (F1 p0 (((1 : Int32) <<< ((p3 &&& (31 : Int32)) &&& 31)))))])) _
    refine XS.iload X10.here hx rfl (hb hby at_42) rfl ?_
    show Steps p.tables e below (T10.setTop (mkF m 44 #[.val (.int p0), .val (.int p1), .val (.int p2), .val (.int p3), .val (.int (p3 &&& (31 : Int32))), .val (.int i7), .unset, .unset, .unset, .unset] [(.int (p3 &&& (31 : Int32))), (.int p0), (.int (F1 p0 (((1 : Int32) <<< ((p3 &&& (31 : Int32)) &&& 31)))))])) _
    refine XS.iushr X10.here hx rfl (hb hby at_44) rfl ?_
    show Steps p.tables e below (T10.setTop (mkF m 45 #[.val (.int p0), .val (.int p1), .val (.int p2), .val (.int p3), .val (.int (p3 &&& (31 : Int32))), .val (.int i7), .unset, .unset, .unset, .unset] [(.int (((p0).toUInt32 >>> ((p3 &&& (31 : Int32)) &&& 31).toUInt32).toInt32)), (.int (F1 p0 (((1 : Int32) <<< ((p3 &&& (31 : Int32)) &&& 31)))))])) _
    refine XS.iconst X10.here hx rfl (hb hby at_45) ?_
    show Steps p.tables e below (T10.setTop (mkF m 46 #[.val (.int p0), .val (.int p1), .val (.int p2), .val (.int p3), .val (.int (p3 &&& (31 : Int32))), .val (.int i7), .unset, .unset, .unset, .unset] [(.int (1 : Int32)), (.int (((p0).toUInt32 >>> ((p3 &&& (31 : Int32)) &&& 31).toUInt32).toInt32)), (.int (F1 p0 (((1 : Int32) <<< ((p3 &&& (31 : Int32)) &&& 31)))))])) _
    refine XS.iand X10.here hx rfl (hb hby at_46) rfl ?_
    show Steps p.tables e below (T10.setTop (mkF m 47 #[.val (.int p0), .val (.int p1), .val (.int p2), .val (.int p3), .val (.int (p3 &&& (31 : Int32))), .val (.int i7), .unset, .unset, .unset, .unset] [(.int ((((p0).toUInt32 >>> ((p3 &&& (31 : Int32)) &&& 31).toUInt32).toInt32) &&& (1 : Int32))), (.int (F1 p0 (((1 : Int32) <<< ((p3 &&& (31 : Int32)) &&& 31)))))])) _
    refine XS.iconst X10.here hx rfl (hb hby at_47) ?_
    show Steps p.tables e below (T10.setTop (mkF m 48 #[.val (.int p0), .val (.int p1), .val (.int p2), .val (.int p3), .val (.int (p3 &&& (31 : Int32))), .val (.int i7), .unset, .unset, .unset, .unset] [(.int (1 : Int32)), (.int ((((p0).toUInt32 >>> ((p3 &&& (31 : Int32)) &&& 31).toUInt32).toInt32) &&& (1 : Int32))), (.int (F1 p0 (((1 : Int32) <<< ((p3 &&& (31 : Int32)) &&& 31)))))])) _
    exact kk
  obtain ⟨i12, h_i12, P13⟩ : ∃ (i12 : Int32), i12 = (if ((((p0).toUInt32 >>> ((p3 &&& (31 : Int32)) &&& 31).toUInt32).toInt32) &&& (1 : Int32)) = (1 : Int32) then (1 : Int32) else (0 : Int32)) ∧ ∀ t, Steps p.tables e below (T10.setTop (mkF m 56 #[.val (.int p0), .val (.int p1), .val (.int p2), .val (.int p3), .val (.int (p3 &&& (31 : Int32))), .val (.int i7), .unset, .unset, .unset, .unset] [(.int i12), (.int (F1 p0 (((1 : Int32) <<< ((p3 &&& (31 : Int32)) &&& 31)))))])) t → Steps p.tables e below (s₁.setTop (entryFrame m #[(.int p0), (.int p1), (.int p2), (.int p3)] maxLocals)) t := by
    by_cases c14 : ((((p0).toUInt32 >>> ((p3 &&& (31 : Int32)) &&& 31).toUInt32).toInt32) &&& (1 : Int32)) = (1 : Int32)
    · skip
      refine ⟨(1 : Int32), ((if_pos c14).trans rfl).symm, fun t kk => P11 t ?_⟩
      show Steps p.tables e below (T10.setTop (mkF m 48 #[.val (.int p0), .val (.int p1), .val (.int p2), .val (.int p3), .val (.int (p3 &&& (31 : Int32))), .val (.int i7), .unset, .unset, .unset, .unset] [(.int (1 : Int32)), (.int ((((p0).toUInt32 >>> ((p3 &&& (31 : Int32)) &&& 31).toUInt32).toInt32) &&& (1 : Int32))), (.int (F1 p0 (((1 : Int32) <<< ((p3 &&& (31 : Int32)) &&& 31)))))])) _
      refine XS.icmpNo X10.here hx rfl (hb hby at_48) rfl (XT.ii_ne_f c14) ?_
      show Steps p.tables e below (T10.setTop (mkF m 51 #[.val (.int p0), .val (.int p1), .val (.int p2), .val (.int p3), .val (.int (p3 &&& (31 : Int32))), .val (.int i7), .unset, .unset, .unset, .unset] [(.int (F1 p0 (((1 : Int32) <<< ((p3 &&& (31 : Int32)) &&& 31)))))])) _
      refine XS.iconst X10.here hx rfl (hb hby at_51) ?_
      show Steps p.tables e below (T10.setTop (mkF m 52 #[.val (.int p0), .val (.int p1), .val (.int p2), .val (.int p3), .val (.int (p3 &&& (31 : Int32))), .val (.int i7), .unset, .unset, .unset, .unset] [(.int (1 : Int32)), (.int (F1 p0 (((1 : Int32) <<< ((p3 &&& (31 : Int32)) &&& 31)))))])) _
      refine XS.goto X10.here hx rfl (pc0 := 52) (pc' := 56) rfl (hb hby at_52) (by decide) (by decide) ?_
      show Steps p.tables e below (T10.setTop (mkF m 56 #[.val (.int p0), .val (.int p1), .val (.int p2), .val (.int p3), .val (.int (p3 &&& (31 : Int32))), .val (.int i7), .unset, .unset, .unset, .unset] [(.int (1 : Int32)), (.int (F1 p0 (((1 : Int32) <<< ((p3 &&& (31 : Int32)) &&& 31)))))])) _
      exact kk
    · skip
      refine ⟨(0 : Int32), ((if_neg c14).trans rfl).symm, fun t kk => P11 t ?_⟩
      show Steps p.tables e below (T10.setTop (mkF m 48 #[.val (.int p0), .val (.int p1), .val (.int p2), .val (.int p3), .val (.int (p3 &&& (31 : Int32))), .val (.int i7), .unset, .unset, .unset, .unset] [(.int (1 : Int32)), (.int ((((p0).toUInt32 >>> ((p3 &&& (31 : Int32)) &&& 31).toUInt32).toInt32) &&& (1 : Int32))), (.int (F1 p0 (((1 : Int32) <<< ((p3 &&& (31 : Int32)) &&& 31)))))])) _
      refine XS.icmpYes X10.here hx rfl (pc0 := 48) (pc' := 55) rfl (hb hby at_48) rfl (XT.ii_ne_t c14) (by decide) (by decide) ?_
      show Steps p.tables e below (T10.setTop (mkF m 55 #[.val (.int p0), .val (.int p1), .val (.int p2), .val (.int p3), .val (.int (p3 &&& (31 : Int32))), .val (.int i7), .unset, .unset, .unset, .unset] [(.int (F1 p0 (((1 : Int32) <<< ((p3 &&& (31 : Int32)) &&& 31)))))])) _
      refine XS.iconst X10.here hx rfl (hb hby at_55) ?_
      show Steps p.tables e below (T10.setTop (mkF m 56 #[.val (.int p0), .val (.int p1), .val (.int p2), .val (.int p3), .val (.int (p3 &&& (31 : Int32))), .val (.int i7), .unset, .unset, .unset, .unset] [(.int (0 : Int32)), (.int (F1 p0 (((1 : Int32) <<< ((p3 &&& (31 : Int32)) &&& 31)))))])) _
      exact kk
  have P15 : ∀ t, Steps p.tables e below (T10.setTop (mkF m 56 #[.val (.int p0), .val (.int p1), .val (.int p2), .val (.int p3), .val (.int (p3 &&& (31 : Int32))), .val (.int i7), .unset, .unset, .unset, .unset] [(.int i12), (.int (F1 p0 (((1 : Int32) <<< ((p3 &&& (31 : Int32)) &&& 31)))))])) t → Steps p.tables e below (s₁.setTop (entryFrame m #[(.int p0), (.int p1), (.int p2), (.int p3)] maxLocals)) t := by
    intro t kk
    refine P13 _ ?_
    show Steps p.tables e below (T10.setTop (mkF m 56 #[.val (.int p0), .val (.int p1), .val (.int p2), .val (.int p3), .val (.int (p3 &&& (31 : Int32))), .val (.int i7), .unset, .unset, .unset, .unset] [(.int i12), (.int (F1 p0 (((1 : Int32) <<< ((p3 &&& (31 : Int32)) &&& 31)))))])) _
    exact kk
  obtain ⟨i16, h_i16, P17⟩ : ∃ (i16 : Int32), i16 = (if (F1 p0 (((1 : Int32) <<< ((p3 &&& (31 : Int32)) &&& 31)))) = i12 then (1 : Int32) else (0 : Int32)) ∧ ∀ t, Steps p.tables e below (T10.setTop (mkF m 64 #[.val (.int p0), .val (.int p1), .val (.int p2), .val (.int p3), .val (.int (p3 &&& (31 : Int32))), .val (.int i7), .unset, .unset, .unset, .unset] [(.int i16)])) t → Steps p.tables e below (s₁.setTop (entryFrame m #[(.int p0), (.int p1), (.int p2), (.int p3)] maxLocals)) t := by
    by_cases c18 : (F1 p0 (((1 : Int32) <<< ((p3 &&& (31 : Int32)) &&& 31)))) = i12
    · skip
      refine ⟨(1 : Int32), ((if_pos c18).trans rfl).symm, fun t kk => P15 t ?_⟩
      show Steps p.tables e below (T10.setTop (mkF m 56 #[.val (.int p0), .val (.int p1), .val (.int p2), .val (.int p3), .val (.int (p3 &&& (31 : Int32))), .val (.int i7), .unset, .unset, .unset, .unset] [(.int i12), (.int (F1 p0 (((1 : Int32) <<< ((p3 &&& (31 : Int32)) &&& 31)))))])) _
      refine XS.icmpNo X10.here hx rfl (hb hby at_56) rfl (XT.ii_ne_f c18) ?_
      show Steps p.tables e below (T10.setTop (mkF m 59 #[.val (.int p0), .val (.int p1), .val (.int p2), .val (.int p3), .val (.int (p3 &&& (31 : Int32))), .val (.int i7), .unset, .unset, .unset, .unset] [])) _
      refine XS.iconst X10.here hx rfl (hb hby at_59) ?_
      show Steps p.tables e below (T10.setTop (mkF m 60 #[.val (.int p0), .val (.int p1), .val (.int p2), .val (.int p3), .val (.int (p3 &&& (31 : Int32))), .val (.int i7), .unset, .unset, .unset, .unset] [(.int (1 : Int32))])) _
      refine XS.goto X10.here hx rfl (pc0 := 60) (pc' := 64) rfl (hb hby at_60) (by decide) (by decide) ?_
      show Steps p.tables e below (T10.setTop (mkF m 64 #[.val (.int p0), .val (.int p1), .val (.int p2), .val (.int p3), .val (.int (p3 &&& (31 : Int32))), .val (.int i7), .unset, .unset, .unset, .unset] [(.int (1 : Int32))])) _
      exact kk
    · skip
      refine ⟨(0 : Int32), ((if_neg c18).trans rfl).symm, fun t kk => P15 t ?_⟩
      show Steps p.tables e below (T10.setTop (mkF m 56 #[.val (.int p0), .val (.int p1), .val (.int p2), .val (.int p3), .val (.int (p3 &&& (31 : Int32))), .val (.int i7), .unset, .unset, .unset, .unset] [(.int i12), (.int (F1 p0 (((1 : Int32) <<< ((p3 &&& (31 : Int32)) &&& 31)))))])) _
      refine XS.icmpYes X10.here hx rfl (pc0 := 56) (pc' := 63) rfl (hb hby at_56) rfl (XT.ii_ne_t c18) (by decide) (by decide) ?_
      show Steps p.tables e below (T10.setTop (mkF m 63 #[.val (.int p0), .val (.int p1), .val (.int p2), .val (.int p3), .val (.int (p3 &&& (31 : Int32))), .val (.int i7), .unset, .unset, .unset, .unset] [])) _
      refine XS.iconst X10.here hx rfl (hb hby at_63) ?_
      show Steps p.tables e below (T10.setTop (mkF m 64 #[.val (.int p0), .val (.int p1), .val (.int p2), .val (.int p3), .val (.int (p3 &&& (31 : Int32))), .val (.int i7), .unset, .unset, .unset, .unset] [(.int (0 : Int32))])) _
      exact kk
  obtain ⟨_, _, ⟨T19, L19, k19, n19⟩, -, X19, ⟨Lc19, hQ19, l19, y19, z19⟩, st19⟩ := Jvm.LawKit.callS X10 hx (y := (⟨"com/example/envelope/envelope/ReportType", "holds", "(II)Z"⟩ : MethodName)) hown (mvT hZ (hw _ (List.mem_of_getElem? (i := 0) rfl))) (mvT hZ (hw _ (List.mem_of_getElem? (i := 1) rfl))) (mvT hZ (hw _ (List.mem_of_getElem? (i := 2) rfl))) (mvT hZ (hw _ (List.mem_of_getElem? (i := 3) rfl))) (by decide) (backOf (W := 0) (rm1 l Z a0 hw [] p0 (0 : Int32) h0 n0 Z0 ) hZ (hw _ (List.mem_of_getElem? (i := 3) rfl)) (hw _ (List.mem_of_getElem? (i := 2) rfl)) (by decide) (by decide)) (g := (mkF m 68 #[.val (.int p0), .val (.int p1), .val (.int p2), .val (.int p3), .val (.int (p3 &&& (31 : Int32))), .val (.int i7), .val (.int i16), .unset, .unset, .unset] [(.int (0 : Int32)), (.int p0)])) rfl (by rw [hml]; rfl) (argsL := [(.int p0), (.int (0 : Int32))]) (rest := []) (lenOf pd_0 rfl) rfl (by show 2 * 0 + _ ≤ _; exact Nat.le_of_eq rfl) (hb hby at_68) (fun _ _ => ⟨rfl, e10, (by decide : 0 + 0 ≤ _), (by decide : 0 + 0 ≤ _)⟩)
  dsimp only [Pt.U, Pt.locs, Pt.cells, Pt.slots] at X19 l19 y19 z19 st19 hQ19
  subst l19 y19 z19
  obtain ⟨rfl, Nq19, e19⟩ := hQ19
  have N19 := Fr.app N10 Nq19
  obtain ⟨_, _, ⟨T20, L20, k20, n20⟩, -, X20, ⟨Lc20, hQ20, l20, y20, z20⟩, st20⟩ := Jvm.LawKit.callS X19 hx (y := (⟨"com/example/envelope/envelope/ReportType", "holds", "(II)Z"⟩ : MethodName)) hown (mvT hZ (hw _ (List.mem_of_getElem? (i := 0) rfl))) (mvT hZ (hw _ (List.mem_of_getElem? (i := 1) rfl))) (mvT hZ (hw _ (List.mem_of_getElem? (i := 2) rfl))) (mvT hZ (hw _ (List.mem_of_getElem? (i := 3) rfl))) (by decide) (backOf (W := 0) (rm1 l Z a0 hw [] p0 (p1 ||| p2) h0 n0 Z0 ) hZ (hw _ (List.mem_of_getElem? (i := 3) rfl)) (hw _ (List.mem_of_getElem? (i := 2) rfl)) (by decide) (by decide)) (g := (mkF m 77 #[.val (.int p0), .val (.int p1), .val (.int p2), .val (.int p3), .val (.int (p3 &&& (31 : Int32))), .val (.int i7), .val (.int i16), .val (.int (F1 p0 (0 : Int32))), .unset, .unset] [(.int (p1 ||| p2)), (.int p0)])) rfl (by rw [hml]; rfl) (argsL := [(.int p0), (.int (p1 ||| p2))]) (rest := []) (lenOf pd_0 rfl) rfl (by show 2 * 0 + _ ≤ _; exact Nat.le_of_eq rfl) (hb hby at_77) (fun _ _ => ⟨rfl, e19, (by decide : 0 + 0 ≤ _), (by decide : 0 + 0 ≤ _)⟩)
  dsimp only [Pt.U, Pt.locs, Pt.cells, Pt.slots] at X20 l20 y20 z20 st20 hQ20
  subst l20 y20 z20
  obtain ⟨rfl, Nq20, e20⟩ := hQ20
  have N20 := Fr.app N19 Nq20
  obtain ⟨_, _, ⟨T21, L21, k21, n21⟩, -, X21, ⟨Lc21, hQ21, l21, y21, z21⟩, st21⟩ := Jvm.LawKit.callS X20 hx (y := (⟨"com/example/envelope/envelope/ReportType", "holds", "(II)Z"⟩ : MethodName)) hown (mvT hZ (hw _ (List.mem_of_getElem? (i := 0) rfl))) (mvT hZ (hw _ (List.mem_of_getElem? (i := 1) rfl))) (mvT hZ (hw _ (List.mem_of_getElem? (i := 2) rfl))) (mvT hZ (hw _ (List.mem_of_getElem? (i := 3) rfl))) (by decide) (backOf (W := 1) (rm1 l Z a0 hw [] p0 p1 h0 n0 Z0 ) hZ (hw _ (List.mem_of_getElem? (i := 3) rfl)) (hw _ (List.mem_of_getElem? (i := 2) rfl)) (by decide) (by decide)) (g := (mkF m 82 #[.val (.int p0), .val (.int p1), .val (.int p2), .val (.int p3), .val (.int (p3 &&& (31 : Int32))), .val (.int i7), .val (.int i16), .val (.int (F1 p0 (0 : Int32))), .unset, .unset] [(.int p1), (.int p0), (.int (F1 p0 (p1 ||| p2)))])) rfl (by rw [hml]; rfl) (argsL := [(.int p0), (.int p1)]) (rest := [(.int (F1 p0 (p1 ||| p2)))]) (lenOf pd_0 rfl) rfl (by show 2 * 0 + _ ≤ _; exact Nat.le_of_eq rfl) (hb hby at_82) (fun _ _ => ⟨rfl, e20, (by decide : 0 + 0 ≤ _), (by decide : 0 + 0 ≤ _)⟩)
  dsimp only [Pt.U, Pt.locs, Pt.cells, Pt.slots] at X21 l21 y21 z21 st21 hQ21
  subst l21 y21 z21
  obtain ⟨rfl, Nq21, e21⟩ := hQ21
  have N21 := Fr.app N20 Nq21
  have P22 : ∀ t, Steps p.tables e below (T21.setTop (mkF m 85 #[.val (.int p0), .val (.int p1), .val (.int p2), .val (.int p3), .val (.int (p3 &&& (31 : Int32))), .val (.int i7), .val (.int i16), .val (.int (F1 p0 (0 : Int32))), .unset, .unset] [(.int (F1 p0 p1)), (.int (F1 p0 (p1 ||| p2)))])) t → Steps p.tables e below (s₁.setTop (entryFrame m #[(.int p0), (.int p1), (.int p2), (.int p3)] maxLocals)) t := by
    intro t kk
    refine P17 _ ?_
    show Steps p.tables e below (T10.setTop (mkF m 64 #[.val (.int p0), .val (.int p1), .val (.int p2), .val (.int p3), .val (.int (p3 &&& (31 : Int32))), .val (.int i7), .unset, .unset, .unset, .unset] [(.int i16)])) _
    refine XS.istore X10.here hx rfl (hb hby at_64) rfl (l' := #[.val (.int p0), .val (.int p1), .val (.int p2), .val (.int p3), .val (.int (p3 &&& (31 : Int32))), .val (.int i7), .val (.int i16), .unset, .unset, .unset]) rfl ?_
    show Steps p.tables e below (T10.setTop (mkF m 66 #[.val (.int p0), .val (.int p1), .val (.int p2), .val (.int p3), .val (.int (p3 &&& (31 : Int32))), .val (.int i7), .val (.int i16), .unset, .unset, .unset] [])) _
    refine XS.iloadN X10.here hx rfl (hb hby at_66) rfl ?_
    show Steps p.tables e below (T10.setTop (mkF m 67 #[.val (.int p0), .val (.int p1), .val (.int p2), .val (.int p3), .val (.int (p3 &&& (31 : Int32))), .val (.int i7), .val (.int i16), .unset, .unset, .unset] [(.int p0)])) _
    refine XS.iconst X10.here hx rfl (hb hby at_67) ?_
    show Steps p.tables e below (T10.setTop (mkF m 68 #[.val (.int p0), .val (.int p1), .val (.int p2), .val (.int p3), .val (.int (p3 &&& (31 : Int32))), .val (.int i7), .val (.int i16), .unset, .unset, .unset] [(.int (0 : Int32)), (.int p0)])) _
    refine st19 _ ?_
    show Steps p.tables e below (T19.setTop (mkF m 71 #[.val (.int p0), .val (.int p1), .val (.int p2), .val (.int p3), .val (.int (p3 &&& (31 : Int32))), .val (.int i7), .val (.int i16), .unset, .unset, .unset] [(.int (F1 p0 (0 : Int32)))])) _
    refine XS.istore X19.here hx rfl (hb hby at_71) rfl (l' := #[.val (.int p0), .val (.int p1), .val (.int p2), .val (.int p3), .val (.int (p3 &&& (31 : Int32))), .val (.int i7), .val (.int i16), .val (.int (F1 p0 (0 : Int32))), .unset, .unset]) rfl ?_
    show Steps p.tables e below (T19.setTop (mkF m 73 #[.val (.int p0), .val (.int p1), .val (.int p2), .val (.int p3), .val (.int (p3 &&& (31 : Int32))), .val (.int i7), .val (.int i16), .val (.int (F1 p0 (0 : Int32))), .unset, .unset] [])) _
    refine XS.iloadN X19.here hx rfl (hb hby at_73) rfl ?_
    show Steps p.tables e below (T19.setTop (mkF m 74 #[.val (.int p0), .val (.int p1), .val (.int p2), .val (.int p3), .val (.int (p3 &&& (31 : Int32))), .val (.int i7), .val (.int i16), .val (.int (F1 p0 (0 : Int32))), .unset, .unset] [(.int p0)])) _
    refine XS.iloadN X19.here hx rfl (hb hby at_74) rfl ?_
    show Steps p.tables e below (T19.setTop (mkF m 75 #[.val (.int p0), .val (.int p1), .val (.int p2), .val (.int p3), .val (.int (p3 &&& (31 : Int32))), .val (.int i7), .val (.int i16), .val (.int (F1 p0 (0 : Int32))), .unset, .unset] [(.int p1), (.int p0)])) _
    refine XS.iloadN X19.here hx rfl (hb hby at_75) rfl ?_
    show Steps p.tables e below (T19.setTop (mkF m 76 #[.val (.int p0), .val (.int p1), .val (.int p2), .val (.int p3), .val (.int (p3 &&& (31 : Int32))), .val (.int i7), .val (.int i16), .val (.int (F1 p0 (0 : Int32))), .unset, .unset] [(.int p2), (.int p1), (.int p0)])) _
    refine XS.ior X19.here hx rfl (hb hby at_76) rfl ?_
    show Steps p.tables e below (T19.setTop (mkF m 77 #[.val (.int p0), .val (.int p1), .val (.int p2), .val (.int p3), .val (.int (p3 &&& (31 : Int32))), .val (.int i7), .val (.int i16), .val (.int (F1 p0 (0 : Int32))), .unset, .unset] [(.int (p1 ||| p2)), (.int p0)])) _
    refine st20 _ ?_
    show Steps p.tables e below (T20.setTop (mkF m 80 #[.val (.int p0), .val (.int p1), .val (.int p2), .val (.int p3), .val (.int (p3 &&& (31 : Int32))), .val (.int i7), .val (.int i16), .val (.int (F1 p0 (0 : Int32))), .unset, .unset] [(.int (F1 p0 (p1 ||| p2)))])) _
    refine XS.iloadN X20.here hx rfl (hb hby at_80) rfl ?_
    show Steps p.tables e below (T20.setTop (mkF m 81 #[.val (.int p0), .val (.int p1), .val (.int p2), .val (.int p3), .val (.int (p3 &&& (31 : Int32))), .val (.int i7), .val (.int i16), .val (.int (F1 p0 (0 : Int32))), .unset, .unset] [(.int p0), (.int (F1 p0 (p1 ||| p2)))])) _
    refine XS.iloadN X20.here hx rfl (hb hby at_81) rfl ?_
    show Steps p.tables e below (T20.setTop (mkF m 82 #[.val (.int p0), .val (.int p1), .val (.int p2), .val (.int p3), .val (.int (p3 &&& (31 : Int32))), .val (.int i7), .val (.int i16), .val (.int (F1 p0 (0 : Int32))), .unset, .unset] [(.int p1), (.int p0), (.int (F1 p0 (p1 ||| p2)))])) _
    refine st21 _ ?_
    show Steps p.tables e below (T21.setTop (mkF m 85 #[.val (.int p0), .val (.int p1), .val (.int p2), .val (.int p3), .val (.int (p3 &&& (31 : Int32))), .val (.int i7), .val (.int i16), .val (.int (F1 p0 (0 : Int32))), .unset, .unset] [(.int (F1 p0 p1)), (.int (F1 p0 (p1 ||| p2)))])) _
    exact kk
  obtain ⟨T24, L24, X24, e24, N24, i23, h_i23, P24⟩ : ∃ (T24 : State) (L24 : List Loc), Stand p l e room_1 s m #[(.int p0), (.int p1), (.int p2), (.int p3)] below meth c T24 L24 0 0 ∧ T24.heap = h0 ∧ Fr n0 L24 ∧ ∃ (i23 : Int32), i23 = (if (F1 p0 p1) = (0 : Int32) then (0 : Int32) else (if (F1 p0 p2) = (0 : Int32) then (0 : Int32) else (1 : Int32))) ∧ ∀ t, Steps p.tables e below (T24.setTop (mkF m 101 #[.val (.int p0), .val (.int p1), .val (.int p2), .val (.int p3), .val (.int (p3 &&& (31 : Int32))), .val (.int i7), .val (.int i16), .val (.int (F1 p0 (0 : Int32))), .unset, .unset] [(.int i23), (.int (F1 p0 (p1 ||| p2)))])) t → Steps p.tables e below (s₁.setTop (entryFrame m #[(.int p0), (.int p1), (.int p2), (.int p3)] maxLocals)) t := by
    by_cases c25 : (F1 p0 p1) = (0 : Int32)
    · skip
      refine ⟨_, _, X21, e21, N21, (0 : Int32), ((if_pos c25).trans rfl).symm, fun t kk => P22 t ?_⟩
      show Steps p.tables e below (T21.setTop (mkF m 85 #[.val (.int p0), .val (.int p1), .val (.int p2), .val (.int p3), .val (.int (p3 &&& (31 : Int32))), .val (.int i7), .val (.int i16), .val (.int (F1 p0 (0 : Int32))), .unset, .unset] [(.int (F1 p0 p1)), (.int (F1 p0 (p1 ||| p2)))])) _
      refine XS.ifYes X21.here hx rfl (pc0 := 85) (pc' := 100) rfl (hb hby at_85) rfl (XT.i0_eq_t c25) (by decide) (by decide) ?_
      show Steps p.tables e below (T21.setTop (mkF m 100 #[.val (.int p0), .val (.int p1), .val (.int p2), .val (.int p3), .val (.int (p3 &&& (31 : Int32))), .val (.int i7), .val (.int i16), .val (.int (F1 p0 (0 : Int32))), .unset, .unset] [(.int (F1 p0 (p1 ||| p2)))])) _
      refine XS.iconst X21.here hx rfl (hb hby at_100) ?_
      show Steps p.tables e below (T21.setTop (mkF m 101 #[.val (.int p0), .val (.int p1), .val (.int p2), .val (.int p3), .val (.int (p3 &&& (31 : Int32))), .val (.int i7), .val (.int i16), .val (.int (F1 p0 (0 : Int32))), .unset, .unset] [(.int (0 : Int32)), (.int (F1 p0 (p1 ||| p2)))])) _
      exact kk
    · skip
      obtain ⟨_, _, ⟨T26, L26, k26, n26⟩, -, X26, ⟨Lc26, hQ26, l26, y26, z26⟩, st26⟩ := Jvm.LawKit.callS X21 hx (y := (⟨"com/example/envelope/envelope/ReportType", "holds", "(II)Z"⟩ : MethodName)) hown (mvT hZ (hw _ (List.mem_of_getElem? (i := 0) rfl))) (mvT hZ (hw _ (List.mem_of_getElem? (i := 1) rfl))) (mvT hZ (hw _ (List.mem_of_getElem? (i := 2) rfl))) (mvT hZ (hw _ (List.mem_of_getElem? (i := 3) rfl))) (by decide) (backOf (W := 1) (rm1 l Z a0 hw [] p0 p2 h0 n0 Z0 ) hZ (hw _ (List.mem_of_getElem? (i := 3) rfl)) (hw _ (List.mem_of_getElem? (i := 2) rfl)) (by decide) (by decide)) (g := (mkF m 90 #[.val (.int p0), .val (.int p1), .val (.int p2), .val (.int p3), .val (.int (p3 &&& (31 : Int32))), .val (.int i7), .val (.int i16), .val (.int (F1 p0 (0 : Int32))), .unset, .unset] [(.int p2), (.int p0), (.int (F1 p0 (p1 ||| p2)))])) rfl (by rw [hml]; rfl) (argsL := [(.int p0), (.int p2)]) (rest := [(.int (F1 p0 (p1 ||| p2)))]) (lenOf pd_0 rfl) rfl (by show 2 * 0 + _ ≤ _; exact Nat.le_of_eq rfl) (hb hby at_90) (fun _ _ => ⟨rfl, e21, (by decide : 0 + 0 ≤ _), (by decide : 0 + 0 ≤ _)⟩)
      dsimp only [Pt.U, Pt.locs, Pt.cells, Pt.slots] at X26 l26 y26 z26 st26 hQ26
      subst l26 y26 z26
      obtain ⟨rfl, Nq26, e26⟩ := hQ26
      have N26 := Fr.app N21 Nq26
      have P27 : ∀ t, Steps p.tables e below (T26.setTop (mkF m 93 #[.val (.int p0), .val (.int p1), .val (.int p2), .val (.int p3), .val (.int (p3 &&& (31 : Int32))), .val (.int i7), .val (.int i16), .val (.int (F1 p0 (0 : Int32))), .unset, .unset] [(.int (F1 p0 p2)), (.int (F1 p0 (p1 ||| p2)))])) t → Steps p.tables e below (s₁.setTop (entryFrame m #[(.int p0), (.int p1), (.int p2), (.int p3)] maxLocals)) t := by
        intro t kk
        refine P22 _ ?_
        show Steps p.tables e below (T21.setTop (mkF m 85 #[.val (.int p0), .val (.int p1), .val (.int p2), .val (.int p3), .val (.int (p3 &&& (31 : Int32))), .val (.int i7), .val (.int i16), .val (.int (F1 p0 (0 : Int32))), .unset, .unset] [(.int (F1 p0 p1)), (.int (F1 p0 (p1 ||| p2)))])) _
        refine XS.ifNo X21.here hx rfl (hb hby at_85) rfl (XT.i0_eq_f c25) ?_
        show Steps p.tables e below (T21.setTop (mkF m 88 #[.val (.int p0), .val (.int p1), .val (.int p2), .val (.int p3), .val (.int (p3 &&& (31 : Int32))), .val (.int i7), .val (.int i16), .val (.int (F1 p0 (0 : Int32))), .unset, .unset] [(.int (F1 p0 (p1 ||| p2)))])) _
        refine XS.iloadN X21.here hx rfl (hb hby at_88) rfl ?_
        show Steps p.tables e below (T21.setTop (mkF m 89 #[.val (.int p0), .val (.int p1), .val (.int p2), .val (.int p3), .val (.int (p3 &&& (31 : Int32))), .val (.int i7), .val (.int i16), .val (.int (F1 p0 (0 : Int32))), .unset, .unset] [(.int p0), (.int (F1 p0 (p1 ||| p2)))])) _
        refine XS.iloadN X21.here hx rfl (hb hby at_89) rfl ?_
        show Steps p.tables e below (T21.setTop (mkF m 90 #[.val (.int p0), .val (.int p1), .val (.int p2), .val (.int p3), .val (.int (p3 &&& (31 : Int32))), .val (.int i7), .val (.int i16), .val (.int (F1 p0 (0 : Int32))), .unset, .unset] [(.int p2), (.int p0), (.int (F1 p0 (p1 ||| p2)))])) _
        refine st26 _ ?_
        show Steps p.tables e below (T26.setTop (mkF m 93 #[.val (.int p0), .val (.int p1), .val (.int p2), .val (.int p3), .val (.int (p3 &&& (31 : Int32))), .val (.int i7), .val (.int i16), .val (.int (F1 p0 (0 : Int32))), .unset, .unset] [(.int (F1 p0 p2)), (.int (F1 p0 (p1 ||| p2)))])) _
        exact kk
      by_cases c28 : (F1 p0 p2) = (0 : Int32)
      · skip
        refine ⟨_, _, X26, e26, N26, (0 : Int32), ((if_neg c25).trans ((if_pos c28).trans rfl)).symm, fun t kk => P27 t ?_⟩
        show Steps p.tables e below (T26.setTop (mkF m 93 #[.val (.int p0), .val (.int p1), .val (.int p2), .val (.int p3), .val (.int (p3 &&& (31 : Int32))), .val (.int i7), .val (.int i16), .val (.int (F1 p0 (0 : Int32))), .unset, .unset] [(.int (F1 p0 p2)), (.int (F1 p0 (p1 ||| p2)))])) _
        refine XS.ifYes X26.here hx rfl (pc0 := 93) (pc' := 100) rfl (hb hby at_93) rfl (XT.i0_eq_t c28) (by decide) (by decide) ?_
        show Steps p.tables e below (T26.setTop (mkF m 100 #[.val (.int p0), .val (.int p1), .val (.int p2), .val (.int p3), .val (.int (p3 &&& (31 : Int32))), .val (.int i7), .val (.int i16), .val (.int (F1 p0 (0 : Int32))), .unset, .unset] [(.int (F1 p0 (p1 ||| p2)))])) _
        refine XS.iconst X26.here hx rfl (hb hby at_100) ?_
        show Steps p.tables e below (T26.setTop (mkF m 101 #[.val (.int p0), .val (.int p1), .val (.int p2), .val (.int p3), .val (.int (p3 &&& (31 : Int32))), .val (.int i7), .val (.int i16), .val (.int (F1 p0 (0 : Int32))), .unset, .unset] [(.int (0 : Int32)), (.int (F1 p0 (p1 ||| p2)))])) _
        exact kk
      · skip
        refine ⟨_, _, X26, e26, N26, (1 : Int32), ((if_neg c25).trans ((if_neg c28).trans rfl)).symm, fun t kk => P27 t ?_⟩
        show Steps p.tables e below (T26.setTop (mkF m 93 #[.val (.int p0), .val (.int p1), .val (.int p2), .val (.int p3), .val (.int (p3 &&& (31 : Int32))), .val (.int i7), .val (.int i16), .val (.int (F1 p0 (0 : Int32))), .unset, .unset] [(.int (F1 p0 p2)), (.int (F1 p0 (p1 ||| p2)))])) _
        refine XS.ifNo X26.here hx rfl (hb hby at_93) rfl (XT.i0_eq_f c28) ?_
        show Steps p.tables e below (T26.setTop (mkF m 96 #[.val (.int p0), .val (.int p1), .val (.int p2), .val (.int p3), .val (.int (p3 &&& (31 : Int32))), .val (.int i7), .val (.int i16), .val (.int (F1 p0 (0 : Int32))), .unset, .unset] [(.int (F1 p0 (p1 ||| p2)))])) _
        refine XS.iconst X26.here hx rfl (hb hby at_96) ?_
        show Steps p.tables e below (T26.setTop (mkF m 97 #[.val (.int p0), .val (.int p1), .val (.int p2), .val (.int p3), .val (.int (p3 &&& (31 : Int32))), .val (.int i7), .val (.int i16), .val (.int (F1 p0 (0 : Int32))), .unset, .unset] [(.int (1 : Int32)), (.int (F1 p0 (p1 ||| p2)))])) _
        refine XS.goto X26.here hx rfl (pc0 := 97) (pc' := 101) rfl (hb hby at_97) (by decide) (by decide) ?_
        show Steps p.tables e below (T26.setTop (mkF m 101 #[.val (.int p0), .val (.int p1), .val (.int p2), .val (.int p3), .val (.int (p3 &&& (31 : Int32))), .val (.int i7), .val (.int i16), .val (.int (F1 p0 (0 : Int32))), .unset, .unset] [(.int (1 : Int32)), (.int (F1 p0 (p1 ||| p2)))])) _
        exact kk
  have P29 : ∀ t, Steps p.tables e below (T24.setTop (mkF m 101 #[.val (.int p0), .val (.int p1), .val (.int p2), .val (.int p3), .val (.int (p3 &&& (31 : Int32))), .val (.int i7), .val (.int i16), .val (.int (F1 p0 (0 : Int32))), .unset, .unset] [(.int i23), (.int (F1 p0 (p1 ||| p2)))])) t → Steps p.tables e below (s₁.setTop (entryFrame m #[(.int p0), (.int p1), (.int p2), (.int p3)] maxLocals)) t := by
    intro t kk
    refine P24 _ ?_
    show Steps p.tables e below (T24.setTop (mkF m 101 #[.val (.int p0), .val (.int p1), .val (.int p2), .val (.int p3), .val (.int (p3 &&& (31 : Int32))), .val (.int i7), .val (.int i16), .val (.int (F1 p0 (0 : Int32))), .unset, .unset] [(.int i23), (.int (F1 p0 (p1 ||| p2)))])) _
    exact kk
  obtain ⟨i30, h_i30, P31⟩ : ∃ (i30 : Int32), i30 = (if (F1 p0 (p1 ||| p2)) = i23 then (1 : Int32) else (0 : Int32)) ∧ ∀ t, Steps p.tables e below (T24.setTop (mkF m 109 #[.val (.int p0), .val (.int p1), .val (.int p2), .val (.int p3), .val (.int (p3 &&& (31 : Int32))), .val (.int i7), .val (.int i16), .val (.int (F1 p0 (0 : Int32))), .unset, .unset] [(.int i30)])) t → Steps p.tables e below (s₁.setTop (entryFrame m #[(.int p0), (.int p1), (.int p2), (.int p3)] maxLocals)) t := by
    by_cases c32 : (F1 p0 (p1 ||| p2)) = i23
    · skip
      refine ⟨(1 : Int32), ((if_pos c32).trans rfl).symm, fun t kk => P29 t ?_⟩
      show Steps p.tables e below (T24.setTop (mkF m 101 #[.val (.int p0), .val (.int p1), .val (.int p2), .val (.int p3), .val (.int (p3 &&& (31 : Int32))), .val (.int i7), .val (.int i16), .val (.int (F1 p0 (0 : Int32))), .unset, .unset] [(.int i23), (.int (F1 p0 (p1 ||| p2)))])) _
      refine XS.icmpNo X24.here hx rfl (hb hby at_101) rfl (XT.ii_ne_f c32) ?_
      show Steps p.tables e below (T24.setTop (mkF m 104 #[.val (.int p0), .val (.int p1), .val (.int p2), .val (.int p3), .val (.int (p3 &&& (31 : Int32))), .val (.int i7), .val (.int i16), .val (.int (F1 p0 (0 : Int32))), .unset, .unset] [])) _
      refine XS.iconst X24.here hx rfl (hb hby at_104) ?_
      show Steps p.tables e below (T24.setTop (mkF m 105 #[.val (.int p0), .val (.int p1), .val (.int p2), .val (.int p3), .val (.int (p3 &&& (31 : Int32))), .val (.int i7), .val (.int i16), .val (.int (F1 p0 (0 : Int32))), .unset, .unset] [(.int (1 : Int32))])) _
      refine XS.goto X24.here hx rfl (pc0 := 105) (pc' := 109) rfl (hb hby at_105) (by decide) (by decide) ?_
      show Steps p.tables e below (T24.setTop (mkF m 109 #[.val (.int p0), .val (.int p1), .val (.int p2), .val (.int p3), .val (.int (p3 &&& (31 : Int32))), .val (.int i7), .val (.int i16), .val (.int (F1 p0 (0 : Int32))), .unset, .unset] [(.int (1 : Int32))])) _
      exact kk
    · skip
      refine ⟨(0 : Int32), ((if_neg c32).trans rfl).symm, fun t kk => P29 t ?_⟩
      show Steps p.tables e below (T24.setTop (mkF m 101 #[.val (.int p0), .val (.int p1), .val (.int p2), .val (.int p3), .val (.int (p3 &&& (31 : Int32))), .val (.int i7), .val (.int i16), .val (.int (F1 p0 (0 : Int32))), .unset, .unset] [(.int i23), (.int (F1 p0 (p1 ||| p2)))])) _
      refine XS.icmpYes X24.here hx rfl (pc0 := 101) (pc' := 108) rfl (hb hby at_101) rfl (XT.ii_ne_t c32) (by decide) (by decide) ?_
      show Steps p.tables e below (T24.setTop (mkF m 108 #[.val (.int p0), .val (.int p1), .val (.int p2), .val (.int p3), .val (.int (p3 &&& (31 : Int32))), .val (.int i7), .val (.int i16), .val (.int (F1 p0 (0 : Int32))), .unset, .unset] [])) _
      refine XS.iconst X24.here hx rfl (hb hby at_108) ?_
      show Steps p.tables e below (T24.setTop (mkF m 109 #[.val (.int p0), .val (.int p1), .val (.int p2), .val (.int p3), .val (.int (p3 &&& (31 : Int32))), .val (.int i7), .val (.int i16), .val (.int (F1 p0 (0 : Int32))), .unset, .unset] [(.int (0 : Int32))])) _
      exact kk
  obtain ⟨_, _, ⟨T33, L33, k33, n33⟩, -, X33, ⟨Lc33, hQ33, l33, y33, z33⟩, st33⟩ := Jvm.LawKit.callS X24 hx (y := (⟨"com/example/envelope/envelope/ReportType", "holds", "(II)Z"⟩ : MethodName)) hown (mvT hZ (hw _ (List.mem_of_getElem? (i := 0) rfl))) (mvT hZ (hw _ (List.mem_of_getElem? (i := 1) rfl))) (mvT hZ (hw _ (List.mem_of_getElem? (i := 2) rfl))) (mvT hZ (hw _ (List.mem_of_getElem? (i := 3) rfl))) (by decide) (backOf (W := 0) (rm1 l Z a0 hw [] (p0 ||| p1) p1 h0 n0 Z0 ) hZ (hw _ (List.mem_of_getElem? (i := 3) rfl)) (hw _ (List.mem_of_getElem? (i := 2) rfl)) (by decide) (by decide)) (g := (mkF m 115 #[.val (.int p0), .val (.int p1), .val (.int p2), .val (.int p3), .val (.int (p3 &&& (31 : Int32))), .val (.int i7), .val (.int i16), .val (.int (F1 p0 (0 : Int32))), .val (.int i30), .unset] [(.int p1), (.int (p0 ||| p1))])) rfl (by rw [hml]; rfl) (argsL := [(.int (p0 ||| p1)), (.int p1)]) (rest := []) (lenOf pd_0 rfl) rfl (by show 2 * 0 + _ ≤ _; exact Nat.le_of_eq rfl) (hb hby at_115) (fun _ _ => ⟨rfl, e24, (by decide : 0 + 0 ≤ _), (by decide : 0 + 0 ≤ _)⟩)
  dsimp only [Pt.U, Pt.locs, Pt.cells, Pt.slots] at X33 l33 y33 z33 st33 hQ33
  subst l33 y33 z33
  obtain ⟨rfl, Nq33, e33⟩ := hQ33
  have N33 := Fr.app N24 Nq33
  have P34 : ∀ t, Steps p.tables e below (T33.setTop (mkF m 122 #[.val (.int p0), .val (.int p1), .val (.int p2), .val (.int p3), .val (.int (p3 &&& (31 : Int32))), .val (.int i7), .val (.int i16), .val (.int (F1 p0 (0 : Int32))), .val (.int i30), .val (.int (F1 (p0 ||| p1) p1))] [(.int i7)])) t → Steps p.tables e below (s₁.setTop (entryFrame m #[(.int p0), (.int p1), (.int p2), (.int p3)] maxLocals)) t := by
    intro t kk
    refine P31 _ ?_
    show Steps p.tables e below (T24.setTop (mkF m 109 #[.val (.int p0), .val (.int p1), .val (.int p2), .val (.int p3), .val (.int (p3 &&& (31 : Int32))), .val (.int i7), .val (.int i16), .val (.int (F1 p0 (0 : Int32))), .unset, .unset] [(.int i30)])) _
    refine XS.istore X24.here hx rfl (hb hby at_109) rfl (l' := #[.val (.int p0), .val (.int p1), .val (.int p2), .val (.int p3), .val (.int (p3 &&& (31 : Int32))), .val (.int i7), .val (.int i16), .val (.int (F1 p0 (0 : Int32))), .val (.int i30), .unset]) rfl ?_
    show Steps p.tables e below (T24.setTop (mkF m 111 #[.val (.int p0), .val (.int p1), .val (.int p2), .val (.int p3), .val (.int (p3 &&& (31 : Int32))), .val (.int i7), .val (.int i16), .val (.int (F1 p0 (0 : Int32))), .val (.int i30), .unset] [])) _
    refine XS.iloadN X24.here hx rfl (hb hby at_111) rfl ?_
    show Steps p.tables e below (T24.setTop (mkF m 112 #[.val (.int p0), .val (.int p1), .val (.int p2), .val (.int p3), .val (.int (p3 &&& (31 : Int32))), .val (.int i7), .val (.int i16), .val (.int (F1 p0 (0 : Int32))), .val (.int i30), .unset] [(.int p0)])) _
    refine XS.iloadN X24.here hx rfl (hb hby at_112) rfl ?_
    show Steps p.tables e below (T24.setTop (mkF m 113 #[.val (.int p0), .val (.int p1), .val (.int p2), .val (.int p3), .val (.int (p3 &&& (31 : Int32))), .val (.int i7), .val (.int i16), .val (.int (F1 p0 (0 : Int32))), .val (.int i30), .unset] [(.int p1), (.int p0)])) _
    refine XS.ior X24.here hx rfl (hb hby at_113) rfl ?_
    show Steps p.tables e below (T24.setTop (mkF m 114 #[.val (.int p0), .val (.int p1), .val (.int p2), .val (.int p3), .val (.int (p3 &&& (31 : Int32))), .val (.int i7), .val (.int i16), .val (.int (F1 p0 (0 : Int32))), .val (.int i30), .unset] [(.int (p0 ||| p1))])) _
    refine XS.iloadN X24.here hx rfl (hb hby at_114) rfl ?_
    show Steps p.tables e below (T24.setTop (mkF m 115 #[.val (.int p0), .val (.int p1), .val (.int p2), .val (.int p3), .val (.int (p3 &&& (31 : Int32))), .val (.int i7), .val (.int i16), .val (.int (F1 p0 (0 : Int32))), .val (.int i30), .unset] [(.int p1), (.int (p0 ||| p1))])) _
    refine st33 _ ?_
    show Steps p.tables e below (T33.setTop (mkF m 118 #[.val (.int p0), .val (.int p1), .val (.int p2), .val (.int p3), .val (.int (p3 &&& (31 : Int32))), .val (.int i7), .val (.int i16), .val (.int (F1 p0 (0 : Int32))), .val (.int i30), .unset] [(.int (F1 (p0 ||| p1) p1))])) _
    refine XS.istore X33.here hx rfl (hb hby at_118) rfl (l' := #[.val (.int p0), .val (.int p1), .val (.int p2), .val (.int p3), .val (.int (p3 &&& (31 : Int32))), .val (.int i7), .val (.int i16), .val (.int (F1 p0 (0 : Int32))), .val (.int i30), .val (.int (F1 (p0 ||| p1) p1))]) rfl ?_
    show Steps p.tables e below (T33.setTop (mkF m 120 #[.val (.int p0), .val (.int p1), .val (.int p2), .val (.int p3), .val (.int (p3 &&& (31 : Int32))), .val (.int i7), .val (.int i16), .val (.int (F1 p0 (0 : Int32))), .val (.int i30), .val (.int (F1 (p0 ||| p1) p1))] [])) _
    refine XS.iload X33.here hx rfl (hb hby at_120) rfl ?_
    show Steps p.tables e below (T33.setTop (mkF m 122 #[.val (.int p0), .val (.int p1), .val (.int p2), .val (.int p3), .val (.int (p3 &&& (31 : Int32))), .val (.int i7), .val (.int i16), .val (.int (F1 p0 (0 : Int32))), .val (.int i30), .val (.int (F1 (p0 ||| p1) p1))] [(.int i7)])) _
    exact kk
  obtain ⟨i35, h_i35, P36⟩ : ∃ (i35 : Int32), i35 = (if i7 = (0 : Int32) then (0 : Int32) else (if i16 = (0 : Int32) then (0 : Int32) else (if (F1 p0 (0 : Int32)) = (0 : Int32) then (0 : Int32) else (if i30 = (0 : Int32) then (0 : Int32) else (if (F1 (p0 ||| p1) p1) = (0 : Int32) then (0 : Int32) else (1 : Int32)))))) ∧ ∀ t, Steps p.tables e below (T33.setTop (mkF m 150 #[.val (.int p0), .val (.int p1), .val (.int p2), .val (.int p3), .val (.int (p3 &&& (31 : Int32))), .val (.int i7), .val (.int i16), .val (.int (F1 p0 (0 : Int32))), .val (.int i30), .val (.int (F1 (p0 ||| p1) p1))] [(.int i35)])) t → Steps p.tables e below (s₁.setTop (entryFrame m #[(.int p0), (.int p1), (.int p2), (.int p3)] maxLocals)) t := by
    by_cases c37 : i7 = (0 : Int32)
    · skip
      refine ⟨(0 : Int32), ((if_pos c37).trans rfl).symm, fun t kk => P34 t ?_⟩
      show Steps p.tables e below (T33.setTop (mkF m 122 #[.val (.int p0), .val (.int p1), .val (.int p2), .val (.int p3), .val (.int (p3 &&& (31 : Int32))), .val (.int i7), .val (.int i16), .val (.int (F1 p0 (0 : Int32))), .val (.int i30), .val (.int (F1 (p0 ||| p1) p1))] [(.int i7)])) _
      refine XS.ifYes X33.here hx rfl (pc0 := 122) (pc' := 149) rfl (hb hby at_122) rfl (XT.i0_eq_t c37) (by decide) (by decide) ?_
      show Steps p.tables e below (T33.setTop (mkF m 149 #[.val (.int p0), .val (.int p1), .val (.int p2), .val (.int p3), .val (.int (p3 &&& (31 : Int32))), .val (.int i7), .val (.int i16), .val (.int (F1 p0 (0 : Int32))), .val (.int i30), .val (.int (F1 (p0 ||| p1) p1))] [])) _
      refine XS.iconst X33.here hx rfl (hb hby at_149) ?_
      show Steps p.tables e below (T33.setTop (mkF m 150 #[.val (.int p0), .val (.int p1), .val (.int p2), .val (.int p3), .val (.int (p3 &&& (31 : Int32))), .val (.int i7), .val (.int i16), .val (.int (F1 p0 (0 : Int32))), .val (.int i30), .val (.int (F1 (p0 ||| p1) p1))] [(.int (0 : Int32))])) _
      exact kk
    · skip
      have P38 : ∀ t, Steps p.tables e below (T33.setTop (mkF m 127 #[.val (.int p0), .val (.int p1), .val (.int p2), .val (.int p3), .val (.int (p3 &&& (31 : Int32))), .val (.int i7), .val (.int i16), .val (.int (F1 p0 (0 : Int32))), .val (.int i30), .val (.int (F1 (p0 ||| p1) p1))] [(.int i16)])) t → Steps p.tables e below (s₁.setTop (entryFrame m #[(.int p0), (.int p1), (.int p2), (.int p3)] maxLocals)) t := by
        intro t kk
        refine P34 _ ?_
        show Steps p.tables e below (T33.setTop (mkF m 122 #[.val (.int p0), .val (.int p1), .val (.int p2), .val (.int p3), .val (.int (p3 &&& (31 : Int32))), .val (.int i7), .val (.int i16), .val (.int (F1 p0 (0 : Int32))), .val (.int i30), .val (.int (F1 (p0 ||| p1) p1))] [(.int i7)])) _
        refine XS.ifNo X33.here hx rfl (hb hby at_122) rfl (XT.i0_eq_f c37) ?_
        show Steps p.tables e below (T33.setTop (mkF m 125 #[.val (.int p0), .val (.int p1), .val (.int p2), .val (.int p3), .val (.int (p3 &&& (31 : Int32))), .val (.int i7), .val (.int i16), .val (.int (F1 p0 (0 : Int32))), .val (.int i30), .val (.int (F1 (p0 ||| p1) p1))] [])) _
        refine XS.iload X33.here hx rfl (hb hby at_125) rfl ?_
        show Steps p.tables e below (T33.setTop (mkF m 127 #[.val (.int p0), .val (.int p1), .val (.int p2), .val (.int p3), .val (.int (p3 &&& (31 : Int32))), .val (.int i7), .val (.int i16), .val (.int (F1 p0 (0 : Int32))), .val (.int i30), .val (.int (F1 (p0 ||| p1) p1))] [(.int i16)])) _
        exact kk
      by_cases c39 : i16 = (0 : Int32)
      · skip
        refine ⟨(0 : Int32), ((if_neg c37).trans ((if_pos c39).trans rfl)).symm, fun t kk => P38 t ?_⟩
        show Steps p.tables e below (T33.setTop (mkF m 127 #[.val (.int p0), .val (.int p1), .val (.int p2), .val (.int p3), .val (.int (p3 &&& (31 : Int32))), .val (.int i7), .val (.int i16), .val (.int (F1 p0 (0 : Int32))), .val (.int i30), .val (.int (F1 (p0 ||| p1) p1))] [(.int i16)])) _
        refine XS.ifYes X33.here hx rfl (pc0 := 127) (pc' := 149) rfl (hb hby at_127) rfl (XT.i0_eq_t c39) (by decide) (by decide) ?_
        show Steps p.tables e below (T33.setTop (mkF m 149 #[.val (.int p0), .val (.int p1), .val (.int p2), .val (.int p3), .val (.int (p3 &&& (31 : Int32))), .val (.int i7), .val (.int i16), .val (.int (F1 p0 (0 : Int32))), .val (.int i30), .val (.int (F1 (p0 ||| p1) p1))] [])) _
        refine XS.iconst X33.here hx rfl (hb hby at_149) ?_
        show Steps p.tables e below (T33.setTop (mkF m 150 #[.val (.int p0), .val (.int p1), .val (.int p2), .val (.int p3), .val (.int (p3 &&& (31 : Int32))), .val (.int i7), .val (.int i16), .val (.int (F1 p0 (0 : Int32))), .val (.int i30), .val (.int (F1 (p0 ||| p1) p1))] [(.int (0 : Int32))])) _
        exact kk
      · skip
        have P40 : ∀ t, Steps p.tables e below (T33.setTop (mkF m 132 #[.val (.int p0), .val (.int p1), .val (.int p2), .val (.int p3), .val (.int (p3 &&& (31 : Int32))), .val (.int i7), .val (.int i16), .val (.int (F1 p0 (0 : Int32))), .val (.int i30), .val (.int (F1 (p0 ||| p1) p1))] [(.int (F1 p0 (0 : Int32)))])) t → Steps p.tables e below (s₁.setTop (entryFrame m #[(.int p0), (.int p1), (.int p2), (.int p3)] maxLocals)) t := by
          intro t kk
          refine P38 _ ?_
          show Steps p.tables e below (T33.setTop (mkF m 127 #[.val (.int p0), .val (.int p1), .val (.int p2), .val (.int p3), .val (.int (p3 &&& (31 : Int32))), .val (.int i7), .val (.int i16), .val (.int (F1 p0 (0 : Int32))), .val (.int i30), .val (.int (F1 (p0 ||| p1) p1))] [(.int i16)])) _
          refine XS.ifNo X33.here hx rfl (hb hby at_127) rfl (XT.i0_eq_f c39) ?_
          show Steps p.tables e below (T33.setTop (mkF m 130 #[.val (.int p0), .val (.int p1), .val (.int p2), .val (.int p3), .val (.int (p3 &&& (31 : Int32))), .val (.int i7), .val (.int i16), .val (.int (F1 p0 (0 : Int32))), .val (.int i30), .val (.int (F1 (p0 ||| p1) p1))] [])) _
          refine XS.iload X33.here hx rfl (hb hby at_130) rfl ?_
          show Steps p.tables e below (T33.setTop (mkF m 132 #[.val (.int p0), .val (.int p1), .val (.int p2), .val (.int p3), .val (.int (p3 &&& (31 : Int32))), .val (.int i7), .val (.int i16), .val (.int (F1 p0 (0 : Int32))), .val (.int i30), .val (.int (F1 (p0 ||| p1) p1))] [(.int (F1 p0 (0 : Int32)))])) _
          exact kk
        by_cases c41 : (F1 p0 (0 : Int32)) = (0 : Int32)
        · skip
          refine ⟨(0 : Int32), ((if_neg c37).trans ((if_neg c39).trans ((if_pos c41).trans rfl))).symm, fun t kk => P40 t ?_⟩
          show Steps p.tables e below (T33.setTop (mkF m 132 #[.val (.int p0), .val (.int p1), .val (.int p2), .val (.int p3), .val (.int (p3 &&& (31 : Int32))), .val (.int i7), .val (.int i16), .val (.int (F1 p0 (0 : Int32))), .val (.int i30), .val (.int (F1 (p0 ||| p1) p1))] [(.int (F1 p0 (0 : Int32)))])) _
          refine XS.ifYes X33.here hx rfl (pc0 := 132) (pc' := 149) rfl (hb hby at_132) rfl (XT.i0_eq_t c41) (by decide) (by decide) ?_
          show Steps p.tables e below (T33.setTop (mkF m 149 #[.val (.int p0), .val (.int p1), .val (.int p2), .val (.int p3), .val (.int (p3 &&& (31 : Int32))), .val (.int i7), .val (.int i16), .val (.int (F1 p0 (0 : Int32))), .val (.int i30), .val (.int (F1 (p0 ||| p1) p1))] [])) _
          refine XS.iconst X33.here hx rfl (hb hby at_149) ?_
          show Steps p.tables e below (T33.setTop (mkF m 150 #[.val (.int p0), .val (.int p1), .val (.int p2), .val (.int p3), .val (.int (p3 &&& (31 : Int32))), .val (.int i7), .val (.int i16), .val (.int (F1 p0 (0 : Int32))), .val (.int i30), .val (.int (F1 (p0 ||| p1) p1))] [(.int (0 : Int32))])) _
          exact kk
        · skip
          have P42 : ∀ t, Steps p.tables e below (T33.setTop (mkF m 137 #[.val (.int p0), .val (.int p1), .val (.int p2), .val (.int p3), .val (.int (p3 &&& (31 : Int32))), .val (.int i7), .val (.int i16), .val (.int (F1 p0 (0 : Int32))), .val (.int i30), .val (.int (F1 (p0 ||| p1) p1))] [(.int i30)])) t → Steps p.tables e below (s₁.setTop (entryFrame m #[(.int p0), (.int p1), (.int p2), (.int p3)] maxLocals)) t := by
            intro t kk
            refine P40 _ ?_
            show Steps p.tables e below (T33.setTop (mkF m 132 #[.val (.int p0), .val (.int p1), .val (.int p2), .val (.int p3), .val (.int (p3 &&& (31 : Int32))), .val (.int i7), .val (.int i16), .val (.int (F1 p0 (0 : Int32))), .val (.int i30), .val (.int (F1 (p0 ||| p1) p1))] [(.int (F1 p0 (0 : Int32)))])) _
            refine XS.ifNo X33.here hx rfl (hb hby at_132) rfl (XT.i0_eq_f c41) ?_
            show Steps p.tables e below (T33.setTop (mkF m 135 #[.val (.int p0), .val (.int p1), .val (.int p2), .val (.int p3), .val (.int (p3 &&& (31 : Int32))), .val (.int i7), .val (.int i16), .val (.int (F1 p0 (0 : Int32))), .val (.int i30), .val (.int (F1 (p0 ||| p1) p1))] [])) _
            refine XS.iload X33.here hx rfl (hb hby at_135) rfl ?_
            show Steps p.tables e below (T33.setTop (mkF m 137 #[.val (.int p0), .val (.int p1), .val (.int p2), .val (.int p3), .val (.int (p3 &&& (31 : Int32))), .val (.int i7), .val (.int i16), .val (.int (F1 p0 (0 : Int32))), .val (.int i30), .val (.int (F1 (p0 ||| p1) p1))] [(.int i30)])) _
            exact kk
          by_cases c43 : i30 = (0 : Int32)
          · skip
            refine ⟨(0 : Int32), ((if_neg c37).trans ((if_neg c39).trans ((if_neg c41).trans ((if_pos c43).trans rfl)))).symm, fun t kk => P42 t ?_⟩
            show Steps p.tables e below (T33.setTop (mkF m 137 #[.val (.int p0), .val (.int p1), .val (.int p2), .val (.int p3), .val (.int (p3 &&& (31 : Int32))), .val (.int i7), .val (.int i16), .val (.int (F1 p0 (0 : Int32))), .val (.int i30), .val (.int (F1 (p0 ||| p1) p1))] [(.int i30)])) _
            refine XS.ifYes X33.here hx rfl (pc0 := 137) (pc' := 149) rfl (hb hby at_137) rfl (XT.i0_eq_t c43) (by decide) (by decide) ?_
            show Steps p.tables e below (T33.setTop (mkF m 149 #[.val (.int p0), .val (.int p1), .val (.int p2), .val (.int p3), .val (.int (p3 &&& (31 : Int32))), .val (.int i7), .val (.int i16), .val (.int (F1 p0 (0 : Int32))), .val (.int i30), .val (.int (F1 (p0 ||| p1) p1))] [])) _
            refine XS.iconst X33.here hx rfl (hb hby at_149) ?_
            show Steps p.tables e below (T33.setTop (mkF m 150 #[.val (.int p0), .val (.int p1), .val (.int p2), .val (.int p3), .val (.int (p3 &&& (31 : Int32))), .val (.int i7), .val (.int i16), .val (.int (F1 p0 (0 : Int32))), .val (.int i30), .val (.int (F1 (p0 ||| p1) p1))] [(.int (0 : Int32))])) _
            exact kk
          · skip
            have P44 : ∀ t, Steps p.tables e below (T33.setTop (mkF m 142 #[.val (.int p0), .val (.int p1), .val (.int p2), .val (.int p3), .val (.int (p3 &&& (31 : Int32))), .val (.int i7), .val (.int i16), .val (.int (F1 p0 (0 : Int32))), .val (.int i30), .val (.int (F1 (p0 ||| p1) p1))] [(.int (F1 (p0 ||| p1) p1))])) t → Steps p.tables e below (s₁.setTop (entryFrame m #[(.int p0), (.int p1), (.int p2), (.int p3)] maxLocals)) t := by
              intro t kk
              refine P42 _ ?_
              show Steps p.tables e below (T33.setTop (mkF m 137 #[.val (.int p0), .val (.int p1), .val (.int p2), .val (.int p3), .val (.int (p3 &&& (31 : Int32))), .val (.int i7), .val (.int i16), .val (.int (F1 p0 (0 : Int32))), .val (.int i30), .val (.int (F1 (p0 ||| p1) p1))] [(.int i30)])) _
              refine XS.ifNo X33.here hx rfl (hb hby at_137) rfl (XT.i0_eq_f c43) ?_
              show Steps p.tables e below (T33.setTop (mkF m 140 #[.val (.int p0), .val (.int p1), .val (.int p2), .val (.int p3), .val (.int (p3 &&& (31 : Int32))), .val (.int i7), .val (.int i16), .val (.int (F1 p0 (0 : Int32))), .val (.int i30), .val (.int (F1 (p0 ||| p1) p1))] [])) _
              refine XS.iload X33.here hx rfl (hb hby at_140) rfl ?_
              show Steps p.tables e below (T33.setTop (mkF m 142 #[.val (.int p0), .val (.int p1), .val (.int p2), .val (.int p3), .val (.int (p3 &&& (31 : Int32))), .val (.int i7), .val (.int i16), .val (.int (F1 p0 (0 : Int32))), .val (.int i30), .val (.int (F1 (p0 ||| p1) p1))] [(.int (F1 (p0 ||| p1) p1))])) _
              exact kk
            by_cases c45 : (F1 (p0 ||| p1) p1) = (0 : Int32)
            · skip
              refine ⟨(0 : Int32), ((if_neg c37).trans ((if_neg c39).trans ((if_neg c41).trans ((if_neg c43).trans ((if_pos c45).trans rfl))))).symm, fun t kk => P44 t ?_⟩
              show Steps p.tables e below (T33.setTop (mkF m 142 #[.val (.int p0), .val (.int p1), .val (.int p2), .val (.int p3), .val (.int (p3 &&& (31 : Int32))), .val (.int i7), .val (.int i16), .val (.int (F1 p0 (0 : Int32))), .val (.int i30), .val (.int (F1 (p0 ||| p1) p1))] [(.int (F1 (p0 ||| p1) p1))])) _
              refine XS.ifYes X33.here hx rfl (pc0 := 142) (pc' := 149) rfl (hb hby at_142) rfl (XT.i0_eq_t c45) (by decide) (by decide) ?_
              show Steps p.tables e below (T33.setTop (mkF m 149 #[.val (.int p0), .val (.int p1), .val (.int p2), .val (.int p3), .val (.int (p3 &&& (31 : Int32))), .val (.int i7), .val (.int i16), .val (.int (F1 p0 (0 : Int32))), .val (.int i30), .val (.int (F1 (p0 ||| p1) p1))] [])) _
              refine XS.iconst X33.here hx rfl (hb hby at_149) ?_
              show Steps p.tables e below (T33.setTop (mkF m 150 #[.val (.int p0), .val (.int p1), .val (.int p2), .val (.int p3), .val (.int (p3 &&& (31 : Int32))), .val (.int i7), .val (.int i16), .val (.int (F1 p0 (0 : Int32))), .val (.int i30), .val (.int (F1 (p0 ||| p1) p1))] [(.int (0 : Int32))])) _
              exact kk
            · skip
              refine ⟨(1 : Int32), ((if_neg c37).trans ((if_neg c39).trans ((if_neg c41).trans ((if_neg c43).trans ((if_neg c45).trans rfl))))).symm, fun t kk => P44 t ?_⟩
              show Steps p.tables e below (T33.setTop (mkF m 142 #[.val (.int p0), .val (.int p1), .val (.int p2), .val (.int p3), .val (.int (p3 &&& (31 : Int32))), .val (.int i7), .val (.int i16), .val (.int (F1 p0 (0 : Int32))), .val (.int i30), .val (.int (F1 (p0 ||| p1) p1))] [(.int (F1 (p0 ||| p1) p1))])) _
              refine XS.ifNo X33.here hx rfl (hb hby at_142) rfl (XT.i0_eq_f c45) ?_
              show Steps p.tables e below (T33.setTop (mkF m 145 #[.val (.int p0), .val (.int p1), .val (.int p2), .val (.int p3), .val (.int (p3 &&& (31 : Int32))), .val (.int i7), .val (.int i16), .val (.int (F1 p0 (0 : Int32))), .val (.int i30), .val (.int (F1 (p0 ||| p1) p1))] [])) _
              refine XS.iconst X33.here hx rfl (hb hby at_145) ?_
              show Steps p.tables e below (T33.setTop (mkF m 146 #[.val (.int p0), .val (.int p1), .val (.int p2), .val (.int p3), .val (.int (p3 &&& (31 : Int32))), .val (.int i7), .val (.int i16), .val (.int (F1 p0 (0 : Int32))), .val (.int i30), .val (.int (F1 (p0 ||| p1) p1))] [(.int (1 : Int32))])) _
              refine XS.goto X33.here hx rfl (pc0 := 146) (pc' := 150) rfl (hb hby at_146) (by decide) (by decide) ?_
              show Steps p.tables e below (T33.setTop (mkF m 150 #[.val (.int p0), .val (.int p1), .val (.int p2), .val (.int p3), .val (.int (p3 &&& (31 : Int32))), .val (.int i7), .val (.int i16), .val (.int (F1 p0 (0 : Int32))), .val (.int i30), .val (.int (F1 (p0 ||| p1) p1))] [(.int (1 : Int32))])) _
              exact kk
  have P46 : ∀ t, Steps p.tables e below (T33.setTop (mkF m 150 #[.val (.int p0), .val (.int p1), .val (.int p2), .val (.int p3), .val (.int (p3 &&& (31 : Int32))), .val (.int i7), .val (.int i16), .val (.int (F1 p0 (0 : Int32))), .val (.int i30), .val (.int (F1 (p0 ||| p1) p1))] [(.int i35)])) t → Steps p.tables e below (s₁.setTop (entryFrame m #[(.int p0), (.int p1), (.int p2), (.int p3)] maxLocals)) t := by
    intro t kk
    refine P36 _ ?_
    show Steps p.tables e below (T33.setTop (mkF m 150 #[.val (.int p0), .val (.int p1), .val (.int p2), .val (.int p3), .val (.int (p3 &&& (31 : Int32))), .val (.int i7), .val (.int i16), .val (.int (F1 p0 (0 : Int32))), .val (.int i30), .val (.int (F1 (p0 ||| p1) p1))] [(.int i35)])) _
    exact kk
  obtain rfl : i35 = (1 : Int32) := own_plain0 p0 p1 p2 p3 i3 h_i3 i7 h_i7 i12 h_i12 i16 h_i16 i23 h_i23 i30 h_i30 i35 h_i35 
  obtain ⟨fs, hr, hrun, hended, hW, hsame⟩ := X33.leave (v := some (.int (1 : Int32))) (fun h => by rw [Bd.returns] at h; cases h)
  refine ⟨_, _, P46 _ ?_, hrun, hended, _, _, rfl, ?_, ⟨_, rfl⟩, hW, hsame.mono (by decide) (by decide)⟩
  · exact retN X33 hx (t := .boolean) Bd.returns (by simp) (hb hby at_150) hr
  · exact ⟨rfl, N33⟩
set_option maxRecDepth 65536 in
set_option maxHeartbeats 40000000 in
theorem comes_1 {Post : Tables → Env → Array Value → State → Outcome → State → Prop} (hpost : ∀ tb e args s v u, (limb_1_1.after args s (.returned v) u = true ∧ limb_1_2.after args s (.returned v) u = true ∧ True) → FrameEnd s (.returned v) u (Jvm.fieldLocs frame_1_writes args s ++ Jvm.arrayLocs frame_1_arrays args s ++ Jvm.staticLocs frame_1_statics s) 0 0 → Post tb e args s (.returned v) u) :
    ArmFor flags0 classFile x code maxLocals ret World_1 tables_1 room_1 Calls_1 rest_1 Pre_1 Post := by
  intro l hfl _ _ p e ha hc hk s m args below hf hA hF happ hP
  obtain ⟨hcalls, hrest, hpre⟩ := hP
  obtain ⟨-, -, -, hnamed, -, -, -, hat⟩ := (Spec.applies_iff hf).mp happ
  obtain ⟨hg, hn⟩ := and_e (Cond.before_iff.mp (show (Jvm.Cond.and given_1 narrow_1).before args s = true from hpre))
  obtain ⟨g0, gr0⟩ := and_e hg
  obtain ⟨g1, gr1⟩ := and_e gr0
  obtain ⟨g2, gr2⟩ := and_e gr1
  obtain ⟨g3, gr3⟩ := and_e gr2
  obtain ⟨w0, w1, w2, w3, rfl⟩ : ∃ w0 w1 w2 w3 : Value, args = #[w0, w1, w2, w3] := by
    have hs : args.size = 4 := by simpa [Cond.value, given_1] using g0
    obtain ⟨L⟩ := args
    match L, hs with
    | [w0, w1, w2, w3], _ => exact ⟨w0, w1, w2, w3, rfl⟩
  have hw := fun d (hd : d ∈ tables_1) => atoms_spec (ws := Jvm.Cond.code x code maxLocals ret :: tables_1) hat d (List.mem_cons_of_mem _ hd)
  have hfit : Fit s := fun {y c} hc i hi => by
    obtain ⟨ha, rfl⟩ := Array.getElem?_eq_some_iff.mp hc
    have q := List.all_eq_true.mp ((Array.all_eq_true_iff_forall_mem.mp hF) _ (Array.getElem_mem ha)) i (List.mem_range.mpr hi)
    simpa [Array.getElem?_eq_getElem hi] using q
  obtain ⟨i0, ei0⟩ := is_v g1
  obtain rfl : w0 = (.int i0) := Option.some.inj ei0
  obtain ⟨i1, ei1⟩ := is_v g2
  obtain rfl : w1 = (.int i1) := Option.some.inj ei1
  obtain ⟨i2, ei2⟩ := is_v g3
  obtain rfl : w2 = (.int i2) := Option.some.inj ei2
  obtain ⟨i3, ei3⟩ := is_v gr3
  obtain rfl : w3 = (.int i3) := Option.some.inj ei3
  obtain ⟨n, o, h1, h2, h3, _, L, rfl, ⟨rfl, N⟩, hq⟩ := rm0 l s _ hw tables_1 i0 i1 i2 i3  s.heap s.heap.size (Nat.le_refl _)  p e ha hc hk s m _ below hf ((Spec.applies_iff_loose hf).mp happ).1 ⟨rfl, State.Warmed39.refl s, rfl⟩ trivial
  refine ⟨n, _, h1, h2, h3, hpost _ _ _ _ _ _ ⟨Cond.after_iff.mpr rfl, Cond.after_iff.mpr (eq_i res_at (Term.int_eval (1)) rfl), trivial⟩ ⟨hq.1, hq.2.1, (hq.2.2.sift fun y hy => Or.inr (N y hy)).mono (by decide) (by decide)⟩⟩
theorem main_1_1 : Claimed_1_1 := comes_1 fun _ _ _ _ _ _ h hF => ⟨h.1, hF⟩
theorem main_1_2 : Claimed_1_2 := comes_1 fun _ _ _ _ _ _ h hF => ⟨h.2.1, hF⟩
end Jvm.Pilot.@@N@@
namespace Jvm.Pilot.@@N@@
open Jvm Jvm.ClassFile Sem Op Lib Jvm.Free Jvm.Stand Jvm.Pilot.@@N@@.Jvm.D
/-! MADE BY PROGRAM (witnessworld.py) out of the Statement's table words and the real class files: 12 classes; the members and pool entries that the words name. The judged class is class 1, her method 1. -/
namespace start1
open Jvm.ClassFile
def u (s : String) : CpInfo := .utf8 (stringToUtf16 s)
/-- a pool by its gaps: so many unusable entries, then the entry; so many at the end -/
def gap : Nat → List CpInfo → List CpInfo
  | 0, r => r
  | n + 1, r => .unusable :: gap n r
def poolList (es : List (Nat × CpInfo)) (last : Nat) : List CpInfo := es.foldr (fun e r => gap e.1 (e.2 :: r)) (gap last [])
def pool (es : List (Nat × CpInfo)) (last : Nat) : Array CpInfo := ⟨poolList es last⟩
def fileOf (pool : Array CpInfo) (this : Nat) (attrs : Array Attribute := #[]) (ms : Array MethodInfo := #[]) (fl : Nat := 33) (sup : Nat := 0) (ifs : Array Nat := #[]) (fds : Array FieldInfo := #[]) : ClassFile where
  minorVersion := 0
  majorVersion := 65
  constantPool := pool
  accessFlags := fl
  thisClass := this
  superClass := sup
  interfaces := ifs
  fields := fds
  methods := ms
  attributes := attrs
def plain (name : String) (sup : Option ClassId) : Class where
  name := name
  kind := .ordinary
  loader := none
  accessFlags := 33
  super := sup
  interfaces := #[]
  cf := none
  fields := #[]
  methods := #[]
  instanceTypes := #[]
  staticTypes := #[]
  resolved := #[]
  callSites := []
  init := .initialized
  statics := none
  mirror := none

def pool0 : Array CpInfo := pool [(5, u "<init>"), (0, u "()V"), (1, .class_ 10), (1, u "java/lang/Object")] 113

def k0m0 : Method := { name := "<init>", desc := "()V", sig := { parameters := [], returnType := none }, accessFlags := 1, code := none }
/-- java/lang/Object -/
def k0 : Class := { plain "java/lang/Object" none with
  accessFlags := 33
  interfaces := #[]
  cf := some (fileOf pool0 8 #[] #[{ accessFlags := 1, nameIndex := 5, descriptorIndex := 6, attributes := #[] }] 33 0 #[] #[])
  fields := #[]
  methods := #[k0m0]
  instanceTypes := #[]
  staticTypes := #[]
  resolved := Array.replicate 124 none
  statics := none }

def pool1 : Array CpInfo := pool [(2, .class_ 4), (1, u "java/lang/Object"), (0, u "<init>"), (0, u "()V"), (0, .methodref 8 9), (0, .class_ 10), (0, .nameAndType 11 12), (0, u "com/example/envelope/envelope/ReportType"), (0, u "holds"), (0, u "(II)Z"), (0, .class_ 14), (0, u "com/example/envelope/envelope/ReportTypeHoldsPinLaw"), (2, u "law"), (0, u "(IIII)Z")] 3

def k1m0 : Method := { name := "<init>", desc := "()V", sig := { parameters := [], returnType := none }, accessFlags := 1, code := none }
def k1c1 : Code := { maxStack := 3, maxLocals := 10, code := code, exceptionTable := #[], attributes := #[] }
def k1m1 : Method := { name := "law", desc := "(IIII)Z", sig := { parameters := [.int, .int, .int, .int], returnType := some .boolean }, accessFlags := 9, code := some k1c1 }
/-- com/example/envelope/envelope/ReportTypeHoldsPinLaw -/
def k1 : Class := { plain "com/example/envelope/envelope/ReportTypeHoldsPinLaw" (some 0) with
  accessFlags := 49
  interfaces := #[]
  cf := some (fileOf pool1 13 #[] #[{ accessFlags := 1, nameIndex := 5, descriptorIndex := 6, attributes := #[] }, { accessFlags := 9, nameIndex := 17, descriptorIndex := 18, attributes := #[] }] 49 2 #[] #[])
  fields := #[]
  methods := #[k1m0, k1m1]
  instanceTypes := #[]
  staticTypes := #[]
  resolved := Array.replicate 22 none
  statics := none }

def pool2 : Array CpInfo := pool [(1, .class_ 2), (0, u "java/lang/constant/Constable"), (0, .class_ 4), (0, u "java/lang/Object")] 6

/-- java/lang/constant/Constable -/
def k2 : Class := { plain "java/lang/constant/Constable" (some 0) with
  accessFlags := 1537
  interfaces := #[]
  cf := some (fileOf pool2 1 #[] #[] 1537 3 #[] #[])
  fields := #[]
  methods := #[]
  instanceTypes := #[]
  staticTypes := #[]
  resolved := Array.replicate 11 none
  statics := none }

def pool3 : Array CpInfo := pool [(1, .class_ 2), (0, u "java/lang/Comparable"), (0, .class_ 4), (0, u "java/lang/Object")] 7

/-- java/lang/Comparable -/
def k3 : Class := { plain "java/lang/Comparable" (some 0) with
  accessFlags := 1537
  interfaces := #[]
  cf := some (fileOf pool3 1 #[] #[] 1537 3 #[] #[])
  fields := #[]
  methods := #[]
  instanceTypes := #[]
  staticTypes := #[]
  resolved := Array.replicate 12 none
  statics := none }

def pool4 : Array CpInfo := pool [(1, .class_ 2), (0, u "java/io/Serializable"), (0, .class_ 4), (0, u "java/lang/Object")] 2

/-- java/io/Serializable -/
def k4 : Class := { plain "java/io/Serializable" (some 0) with
  accessFlags := 1537
  interfaces := #[]
  cf := some (fileOf pool4 1 #[] #[] 1537 3 #[] #[])
  fields := #[]
  methods := #[]
  instanceTypes := #[]
  staticTypes := #[]
  resolved := Array.replicate 7 none
  statics := none }

def pool5 : Array CpInfo := pool [(2, .class_ 4), (1, u "java/lang/Enum"), (0, u "name"), (0, u "Ljava/lang/String;"), (2, u "ordinal"), (0, u "I"), (1, .class_ 14), (1, u "java/lang/Object"), (4, u "hash"), (86, .class_ 108), (1, u "java/lang/Enum$EnumDesc"), (2, .class_ 112), (0, u "java/lang/constant/Constable"), (0, .class_ 114), (0, u "java/lang/Comparable"), (0, .class_ 116), (0, u "java/io/Serializable")] 87

/-- java/lang/Enum -/
def k5 : Class := { plain "java/lang/Enum" (some 0) with
  accessFlags := 1057
  interfaces := #[2, 3, 4]
  cf := some (fileOf pool5 2 #[.nestMembers #[106]] #[] 1057 12 #[111, 113, 115] #[{ accessFlags := 18, nameIndex := 5, descriptorIndex := 6, attributes := #[] }, { accessFlags := 18, nameIndex := 9, descriptorIndex := 10, attributes := #[] }, { accessFlags := 2, nameIndex := 19, descriptorIndex := 10, attributes := #[] }])
  fields := #[{ name := "name", type := (.object "java/lang/String"), accessFlags := 18, slot := 0, constantValue := 0 }, { name := "ordinal", type := .int, accessFlags := 18, slot := 1, constantValue := 0 }, { name := "hash", type := .int, accessFlags := 2, slot := 2, constantValue := 0 }]
  methods := #[]
  instanceTypes := #[(.object "java/lang/String"), .int, .int]
  staticTypes := #[]
  resolved := Array.replicate 204 none
  statics := none }

def pool6 : Array CpInfo := pool [(1, .class_ 2), (0, u "com/example/envelope/envelope/ReportType"), (2, u "COA"), (0, u "Lcom/example/envelope/envelope/ReportType;"), (2, u "COD"), (2, u "EXPIRATION"), (2, u "EXCEPTION"), (2, u "$VALUES"), (0, u "[Lcom/example/envelope/envelope/ReportType;"), (6, .class_ 28), (1, u "java/lang/Enum"), (8, u "word"), (0, u "Ljava/lang/String;"), (2, u "description"), (2, u "withoutData"), (0, u "I"), (2, u "withData"), (2, u "withFullData"), (2, u "feedback"), (0, u "Ljava/util/OptionalInt;"), (2, u "ALL"), (18, u "holds"), (0, u "(II)Z"), (1, .class_ 82), (1, u "com/example/envelope/envelope/ReportType$Data")] 89

def k6c0 : Code := { maxStack := 2, maxLocals := 2, code := prog_82_method_9_code, exceptionTable := #[], attributes := #[] }
def k6m0 : Method := { name := "holds", desc := "(II)Z", sig := { parameters := [.int, .int], returnType := some .boolean }, accessFlags := 8, code := some k6c0 }
/-- com/example/envelope/envelope/ReportType -/
def k6 : Class := { plain "com/example/envelope/envelope/ReportType" (some 5) with
  accessFlags := 16433
  interfaces := #[]
  cf := some (fileOf pool6 1 #[.nestMembers #[80]] #[{ accessFlags := 8, nameIndex := 77, descriptorIndex := 78, attributes := #[] }] 16433 26 #[] #[{ accessFlags := 16409, nameIndex := 5, descriptorIndex := 6, attributes := #[] }, { accessFlags := 16409, nameIndex := 9, descriptorIndex := 6, attributes := #[] }, { accessFlags := 16409, nameIndex := 12, descriptorIndex := 6, attributes := #[] }, { accessFlags := 16409, nameIndex := 15, descriptorIndex := 6, attributes := #[] }, { accessFlags := 26, nameIndex := 58, descriptorIndex := 19, attributes := #[] }, { accessFlags := 18, nameIndex := 37, descriptorIndex := 38, attributes := #[] }, { accessFlags := 18, nameIndex := 41, descriptorIndex := 38, attributes := #[] }, { accessFlags := 18, nameIndex := 44, descriptorIndex := 45, attributes := #[] }, { accessFlags := 18, nameIndex := 48, descriptorIndex := 45, attributes := #[] }, { accessFlags := 18, nameIndex := 51, descriptorIndex := 45, attributes := #[] }, { accessFlags := 18, nameIndex := 54, descriptorIndex := 55, attributes := #[] }, { accessFlags := 4122, nameIndex := 18, descriptorIndex := 19, attributes := #[] }])
  fields := #[{ name := "COA", type := (.object "com/example/envelope/envelope/ReportType"), accessFlags := 16409, slot := 0, constantValue := 0 }, { name := "COD", type := (.object "com/example/envelope/envelope/ReportType"), accessFlags := 16409, slot := 1, constantValue := 0 }, { name := "EXPIRATION", type := (.object "com/example/envelope/envelope/ReportType"), accessFlags := 16409, slot := 2, constantValue := 0 }, { name := "EXCEPTION", type := (.object "com/example/envelope/envelope/ReportType"), accessFlags := 16409, slot := 3, constantValue := 0 }, { name := "ALL", type := (.array (.object "com/example/envelope/envelope/ReportType")), accessFlags := 26, slot := 4, constantValue := 0 }, { name := "word", type := (.object "java/lang/String"), accessFlags := 18, slot := 3, constantValue := 0 }, { name := "description", type := (.object "java/lang/String"), accessFlags := 18, slot := 4, constantValue := 0 }, { name := "withoutData", type := .int, accessFlags := 18, slot := 5, constantValue := 0 }, { name := "withData", type := .int, accessFlags := 18, slot := 6, constantValue := 0 }, { name := "withFullData", type := .int, accessFlags := 18, slot := 7, constantValue := 0 }, { name := "feedback", type := (.object "java/util/OptionalInt"), accessFlags := 18, slot := 8, constantValue := 0 }, { name := "$VALUES", type := (.array (.object "com/example/envelope/envelope/ReportType")), accessFlags := 4122, slot := 5, constantValue := 0 }]
  methods := #[k6m0]
  instanceTypes := #[(.object "java/lang/String"), .int, .int, (.object "java/lang/String"), (.object "java/lang/String"), .int, .int, .int, (.object "java/util/OptionalInt")]
  staticTypes := #[(.object "com/example/envelope/envelope/ReportType"), (.object "com/example/envelope/envelope/ReportType"), (.object "com/example/envelope/envelope/ReportType"), (.object "com/example/envelope/envelope/ReportType"), (.array (.object "com/example/envelope/envelope/ReportType")), (.array (.object "com/example/envelope/envelope/ReportType"))]
  resolved := Array.replicate 172 none
  statics := none }

def pool7 : Array CpInfo := pool [(1, u "java/lang/Cloneable"), (0, .class_ 1), (0, u "java/lang/Object"), (0, .class_ 3)] 3

/-- java/lang/Cloneable -/
def k7 : Class := { plain "java/lang/Cloneable" (some 0) with
  accessFlags := 1537
  interfaces := #[]
  cf := some (fileOf pool7 2 #[] #[] 1537 4 #[] #[])
  fields := #[]
  methods := #[]
  instanceTypes := #[]
  staticTypes := #[]
  resolved := Array.replicate 8 none
  statics := none }

/-- the primitive byte -/
def k8 : Class := { plain "byte" none with kind := .primitive 'B', accessFlags := 0x411 }
/-- [B -/
def k9 : Class := { plain "[B" (some 0) with kind := .array 8 .byte, interfaces := #[7, 4], accessFlags := 1041 }

/-- the primitive int -/
def k10 : Class := { plain "int" none with kind := .primitive 'I', accessFlags := 0x411 }
/-- [I -/
def k11 : Class := { plain "[I" (some 0) with kind := .array 10 .int, interfaces := #[7, 4], accessFlags := 1041 }

def heap : Heap := #[]
def classes : Array Class := #[k0, k1, k2, k3, k4, k5, k6, k7, k8, k9, k10, k11]
def interned : List (Array UInt16 × Addr) := []
def slotsUsed : Nat := 0
def theMethod : MethodId := ⟨1, 1⟩
def args0 : Array Value := #[.int 5, .int 5, .int 5, .int 5]
def aboutOver (below : List Frame) : State where
  vm := { classes := classes, interned := interned.toArray }
  heap := heap
  slotsUsed := slotsUsed
  threads := #[{ frames := .invoking theMethod args0 :: below }]
def below0 : List Frame := [.native { method := ⟨0, 0⟩, args := #[] }]
def about1 : State := aboutOver below0
def p0 : Program := .bare "" "" ""
def e0 : Env := launch0.env 0 0 0
theorem w_frames : about1.frames = Frame.invoking theMethod args0 :: below0 := rfl
set_option maxRecDepth 65536 in
theorem w_args : argsFit about1.vm theMethod args0 = true := by decide +kernel
set_option maxRecDepth 65536 in
theorem w_heap : heapFits about1 = true := by decide +kernel
set_option maxRecDepth 65536 in
theorem w_runnable : about1.curStatus? = some .runnable := by decide +kernel
set_option maxRecDepth 65536 in
theorem w_alone : about1.alone = true := by decide +kernel
set_option maxRecDepth 65536 in
theorem w_named : about1.methodNamed? x = some theMethod := by decide +kernel
set_option maxRecDepth 65536 in
theorem w_hears : about1.hears theMethod below0 = true := by decide +kernel
set_option maxRecDepth 65536 in
theorem w_ripe : about1.ripe theMethod args0 below0 = true := by decide +kernel
theorem w_running : about1.status = .running := rfl
set_option maxRecDepth 65536 in
theorem w_room : about1.hasRoom e0.platform room_1 = true :=
  launch0.hasRoom_least _ room_1 (by decide +kernel) (by decide +kernel) (by decide +kernel) (by decide +kernel) (by decide +kernel) (by decide +kernel)
theorem allAtoms_all (ts : List Jvm.Cond) (a : Array Jvm.Value) (st : Jvm.State) : (allAtoms ts).before a st = ts.all (fun c => c.before a st) := by
  induction ts with
  | nil => rfl
  | cons c t ih =>
    show (Jvm.Cond.and c (allAtoms t)).before a st = _
    rw [Jvm.Cond.before_and, ih, List.all_cons]
def words1 : List Jvm.Cond := Jvm.Cond.code x code maxLocals ret :: tables_1
/-- a 'code' word, met by the world's own term for the bytes: nothing is compared byte by byte -/
theorem code_word {y : MethodName} {bytes : ByteArray} {mx : Nat} {rt : Option FieldType} {a : Array Value} {s : State} {m : MethodId} {meth : Method} {c : Code} (h1 : s.methodNamed? y = some m) (h2 : s.vm.method? m = some meth) (h3 : meth.code = some c) (h4 : c.code = bytes)
    (h5 : (c.maxLocals == mx && c.exceptionTable.isEmpty && decide (c.maxStack ≤ mostOperands) && decide (meth.sig.returnType = rt) && !meth.locks && decide (parseMethodDescriptor y.desc = some meth.sig)) = true) : (Jvm.Cond.code y bytes mx rt).before a s = true := by
  simp only [Bool.and_eq_true, beq_iff_eq, Bool.not_eq_true', decide_eq_true_eq] at h5
  obtain ⟨⟨⟨⟨⟨g1, g2⟩, g3⟩, g4⟩, g5⟩, g6⟩ := h5
  simp [Cond.before, Cond.holds, Cond.value, h1, h2, h3, h4, g1, g2, g3, g4, g5, g6]
def isCode : Jvm.Cond → Bool
  | .code _ _ _ _ => true
  | _ => false
theorem all_split {L : List Jvm.Cond} {P : Jvm.Cond → Bool} (h1 : L.all (fun c => isCode c || P c) = true) (h2 : ∀ c ∈ L.filter isCode, P c = true) : L.all P = true := by
  refine List.all_eq_true.mpr fun c hc => ?_
  have h := List.all_eq_true.mp h1 c hc
  rcases Bool.eq_false_or_eq_true (isCode c) with hi | hi
  · exact h2 c (List.mem_filter.mpr ⟨hc, hi⟩)
  · simpa [hi] using h
set_option maxRecDepth 65536 in
theorem w_c0 : (Jvm.Cond.code x code maxLocals ret).before args0 about1 = true := code_word (m := ⟨1, 1⟩) (meth := k1m1) (c := k1c1) (by decide +kernel) rfl rfl rfl (by decide +kernel)
set_option maxRecDepth 65536 in
theorem w_c1 : (Jvm.Cond.code ({ cls := "com/example/envelope/envelope/ReportType", name := "holds", desc := "(II)Z" } : Jvm.MethodName) prog_82_method_9_code (2 : Nat) (Option.some Jvm.ClassFile.FieldType.boolean)).before args0 about1 = true := code_word (m := ⟨6, 0⟩) (meth := k6m0) (c := k6c0) (by decide +kernel) rfl rfl rfl (by decide +kernel)
def codes1 : List Jvm.Cond := [Jvm.Cond.code x code maxLocals ret, Jvm.Cond.code ({ cls := "com/example/envelope/envelope/ReportType", name := "holds", desc := "(II)Z" } : Jvm.MethodName) prog_82_method_9_code (2 : Nat) (Option.some Jvm.ClassFile.FieldType.boolean)]
set_option maxRecDepth 65536 in
theorem codes_eq : words1.filter isCode = codes1 := rfl
theorem w_codes : ∀ c ∈ words1.filter isCode, c.before args0 about1 = true := by
  rw [codes_eq]
  intro c hc
  simp only [codes1, List.mem_cons, List.not_mem_nil, or_false] at hc
  rcases hc with rfl | rfl
  · exact w_c0
  · exact w_c1
set_option maxRecDepth 65536 in
theorem w_t1 : words1.all (fun c => isCode c || c.before args0 about1) = true := by decide +kernel
theorem w_tables : (allAtoms (Jvm.Cond.code x code maxLocals ret :: tables_1)).before args0 about1 = true := by
  rw [allAtoms_all]
  show words1.all (fun c => c.before args0 about1) = true
  refine all_split ?_ w_codes
  rw [w_t1]
set_option maxRecDepth 65536 in
theorem w_case : (Jvm.Cond.and given_1 narrow_1).before args0 about1 = true := by decide +kernel
theorem w_applies : (headSpec (Jvm.Cond.code x code maxLocals ret :: tables_1) room_1).applies x e0.platform about1 = true :=
  (Spec.applies_iff w_frames).mpr ⟨w_running, w_runnable, w_alone, w_named, w_hears, w_ripe, w_room, w_tables⟩
theorem atStart : AtStart classFile x code maxLocals ret World_1 tables_1 room_1 Calls_1 rest_1 Pre_1 launch0 p0 e0 about1 theMethod args0 below0 :=
  ⟨lists_1, trivial, launch0.admits_env _ _ _, launch0.least_env, fairChoices_fair.cas, fairChoices_fair.clock, w_frames, w_args, w_heap, w_applies, trivial, trivial, w_case⟩
end start1
theorem witness_1 : WitnessClaimed_1 := ⟨start1.p0, start1.e0, start1.about1, start1.theMethod, start1.args0, start1.below0, start1.atStart⟩
end Jvm.Pilot.@@N@@
