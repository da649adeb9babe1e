import JvmDerived
import JvmDerived.Pilot.@@N@@Statement
import JvmDerived.Pilot.@@N@@Code
set_option linter.unusedVariables false
set_option linter.unusedSimpArgs false
namespace Jvm.RoadKit
open Sem ClassFile Op Lib Jvm.Stand Jvm.Free Jvm.LawKit
section New
variable {p : Program} {l : Launch} {e : Env} {R : Room} {s : State} {m : MethodId} {args : Array Value} {below : List Frame} {meth : Method} {c : Code} {T : State} {locs : List Loc} {cells slots : Nat}
theorem retI (X : Stand p l e R s m args below meth c T locs cells slots) (hx : p.tables.exec = Jvm.exec) {pc : Nat} {Ls : Array Slot} {z : Int32} {rest : List Value} (hret : meth.sig.returnType = some .int) (hd : decode c.code pc = .ok (.ireturn, 1)) {fs : List Frame}
    (hl : ∀ (f : JFrame) (acts : List Action), f.method = m → f.locked = none → f.entered = [] → (doReturn e (T.setTop f) acts (some (.int z))).1 = T.setFrames fs) : Steps p.tables e below (T.setTop (mkF m pc Ls (.int z :: rest))) (T.setFrames fs) := by
  have hm' : T.vm.method? m = some meth := X.method'
  have hn : narrow .int (.int z) = .int z := rfl
  show Steps p.tables e below (T.setTop { method := m, pc := pc, locals := Ls, stack := _ :: rest, locked := none }) _
  jvm_step X.here [X.here.top, hx, hd, hm', hret, hn]
  first | (intro acts; rw [hl _ acts rfl rfl rfl]) | rw [hl _ _ rfl rfl rfl]
  exact Steps.refl _
end New
end Jvm.RoadKit
namespace Jvm.Pilot.@@N@@
open Jvm Jvm.ClassFile Sem Op Lib Jvm.Free Jvm.Stand Jvm.LawKit Jvm.RoadKit Bundle Jvm.Pilot.@@N@@.Jvm.D
theorem pf_0 : plainFor (⟨"java/lang/Math", "max", "(JJ)J"⟩ : MethodName) = true := Jvm.Free.JP.mathPlain rfl (by decide)
theorem pf_1 : plainFor (⟨"java/lang/Math", "min", "(JJ)J"⟩ : MethodName) = true := Jvm.Free.JP.mathPlain rfl (by decide)
theorem pf_2 : plainFor (⟨"java/lang/Math", "min", "(II)I"⟩ : MethodName) = true := Jvm.Free.JP.mathPlain rfl (by decide)
theorem pn_0 : plainName "com/example/envelope/envelope/DataBuilder" = true := by first | (simp [plainName, overriddenIn]; done) | decide +kernel
theorem pn_1 : plainName "java/util/Arrays" = true := by first | (simp [plainName, overriddenIn]; done) | decide +kernel
theorem pn_2 : plainName "com/example/envelope/envelope/DataBuilderCanTakePinLaw" = true := by first | (simp [plainName, overriddenIn]; done) | decide +kernel
theorem pd_0 : parseMethodDescriptor "(II)I" = some ⟨[.int, .int], some .int⟩ := by decide +kernel
theorem pd_1 : parseMethodDescriptor "(JJ)J" = some ⟨[.long, .long], some .long⟩ := by decide +kernel
theorem pd_2 : parseMethodDescriptor "([BI)[B" = some ⟨[(.array .byte), .int], some (.array .byte)⟩ := by decide +kernel
theorem pd_3 : parseMethodDescriptor "(I)V" = some ⟨[.int], none⟩ := by decide +kernel
theorem pd_4 : parseMethodDescriptor "(I)I" = some ⟨[.int], some .int⟩ := by decide +kernel
theorem pd_5 : parseMethodDescriptor "(J)Z" = some ⟨[.long], some .boolean⟩ := by decide +kernel
theorem own_lt_max (q : Int32) : ¬ (2147483647 : Int32) < q := by
  have h1 := rng32 q
  rw [Int32.lt_iff_toInt_lt, show (2147483647 : Int32).toInt = 2147483647 by decide]; omega
theorem own_m255 (p : Int32) : (p &&& (255 : Int32)).toInt = p.toInt % 256 := c_mask p 255 8 (by decide) (by decide)
theorem own_m1023 (p : Int32) : (p &&& (1023 : Int32)).toInt = p.toInt % 1024 := c_mask p 1023 10 (by decide) (by decide)
theorem own_nonneg {x : Int32} (h : 0 ≤ x.toInt) : ¬ x < 0 := by rw [Int32.lt_iff_toInt_lt, show (0 : Int32).toInt = 0 by decide]; omega
theorem own_cap (p : Int32) : ¬ (p &&& (255 : Int32)) < 0 ∧ (p &&& (255 : Int32)).toNatClampNeg ≤ 255 ∧ (p &&& (255 : Int32)).toInt ≤ 255 := by
  have h := own_m255 p
  refine ⟨own_nonneg (by omega), ?_, by omega⟩
  rw [Int32.toNatClampNeg]; omega
theorem own_k (p : Int32) : ¬ (p &&& (1023 : Int32)) < 0 ∧ (p &&& (1023 : Int32)).toInt ≤ 1023 := by
  have h := own_m1023 p
  exact ⟨own_nonneg (by omega), by omega⟩
theorem d1_0 : decode prog_19_method_1_code 0 = .ok (.aload_n 0, 1) := by decide +kernel
theorem d1_1 : decode prog_19_method_1_code 1 = .ok (.invokespecial 1, 3) := by decide +kernel
theorem d1_4 : decode prog_19_method_1_code 4 = .ok (.aload_n 0, 1) := by decide +kernel
theorem d1_5 : decode prog_19_method_1_code 5 = .ok (.iload_n 1, 1) := by decide +kernel
theorem d1_6 : decode prog_19_method_1_code 6 = .ok (.newarray .byte, 2) := by decide +kernel
theorem d1_8 : decode prog_19_method_1_code 8 = .ok (.putfield 7, 3) := by decide +kernel
theorem d1_11 : decode prog_19_method_1_code 11 = .ok (.return_, 1) := by decide +kernel
theorem ef_1 (m : MethodId) (x0 : Addr) (x1 : Int32) : entryFrame m #[(.ref x0), (.int x1)] 2 = (mkF m 0 #[.val (.ref x0), .val (.int x1)] []) := by first | (simp [entryFrame, mkF, argsToLocals, Value.category]; done) | rfl
def Q1 (Z : State) (a : Addr) (n : Int32) (u : Int32) (h0 : Heap) (n0 : Nat) (vX : Option Value) (hX : Heap) (lX : List Loc) : Prop := ∃ (b : Addr) (k : ClassId), vX = none ∧ Fr n0 lX ∧ (Keep h0 hX [a]) ∧ (Fld Z hX a "com/example/envelope/envelope/DataBuilder" "data" "[B" (.ref b)) ∧ (Fld Z hX a "com/example/envelope/envelope/DataBuilder" "length" "I" (.int u)) ∧ (Arv Z hX b k .byte n [] (.int (0 : Int32))) ∧ (n0 ≤ b) ∧ (a ≠ b)
set_option maxRecDepth 65536 in
set_option maxHeartbeats 40000000 in
theorem rm1 (l : Launch) (Z : State) (a0 : Array Value) (hw : ∀ d ∈ tables_1, d.before a0 Z = true) (ws : List Jvm.Cond) (a : Addr) (n : Int32) (u : Int32) (h0 : Heap) (n0 : Nat) (Z0 : n0 ≤ h0.size) (pr0 : Exa Z h0 a "com/example/envelope/envelope/DataBuilder") (pr1 : Fld Z h0 a "com/example/envelope/envelope/DataBuilder" "data" "[B" .null) (pr2 : Fld Z h0 a "com/example/envelope/envelope/DataBuilder" "length" "I" (.int u)) (pr3 : n0 ≤ a) (pr4 : ¬ n < 0) (pr5 : n.toNatClampNeg ≤ 255) :
    MetFree l (⟨"com/example/envelope/envelope/DataBuilder", "<init>", "(I)V"⟩ : MethodName) (head1 (Jvm.Cond.code (⟨"com/example/envelope/envelope/DataBuilder", "<init>", "(I)V"⟩ : MethodName) prog_19_method_1_code 2 none :: ws) ({ frames := 1, cells := 1, slots := 255, locals := 12 } : Room)) (fun aX uX => aX = #[(.ref a), (.int n)] ∧ Z.Warmed39 uX.vm ∧ uX.heap = h0) (fun _ _ _ _ _ => True) (fun _ uX oX wX => ∃ vX lX, oX = .returned vX ∧ Q1 Z a n u h0 n0 vX wX.heap lX ∧ FrameEnd uX oX wX lX ({ frames := 1, cells := 1, slots := 255, locals := 12 } : Room).cells ({ frames := 1, cells := 1, slots := 255, locals := 12 } : Room).slots) := by
  refine MetFree.of_bodySF (plainFor_of_name pn_0) hisR ?_
  intro p e s m args below meth c s₁ Bd hml0 hP hK
  obtain ⟨rfl, hZ, hh⟩ := hP
  have hx := Bd.exec
  have hby := Bd.bytes
  have hml : c.maxLocals = 2 := hml0
  have hown : s.vm.findClass "com/example/envelope/envelope/DataBuilder" = some m.cls := findClass_of_methodNamed Bd.named
  have hnm := (name_of_methodNamed Bd.named Bd.method).1
  have X0 : Stand p l e ({ frames := 1, cells := 1, slots := 255, locals := 12 } : Room) s m #[(.ref a), (.int n)] below meth c s₁ [] 0 0 := Stand.of_body Bd
  have e0 : s₁.heap = h0 := by rw [← hh, Bd.state]; rfl
  have N0 := Fr.nil n0
  have pre0 : ∀ t, Steps p.tables e below (s₁.setTop (mkF m 0 #[.val (.ref a), .val (.int n)] [])) t → Steps p.tables e below (s₁.setTop (entryFrame m #[(.ref a), (.int n)] 2)) t := fun t k => castTop (ef_1 m a n) k
  obtain ⟨T1, X1, e1, st1⟩ := initO X0 hx hZ hown (hw _ (List.mem_of_getElem? (i := 7) rfl)) (hw _ (List.mem_of_getElem? (i := 8) rfl)) (hw _ (List.mem_of_getElem? (i := 9) rfl)) e0 (g := (mkF m 1 #[.val (.ref a), .val (.int n)] [(.ref a)])) rfl (by rw [hml]; rfl) rfl (hb hby d1_1) (by decide) (W := 0) (by show 2 * 0 + _ ≤ _; exact Nat.le_of_eq rfl) (by decide)
  obtain ⟨T2, h2, k2, X2, e2, E2, A2, st2⟩ := newP X1 hx hZ (hw _ (List.mem_of_getElem? (i := 10) rfl)) e1 (g := (mkF m 6 #[.val (.ref a), .val (.int n)] [(.int n), (.ref a)])) rfl (hb hby d1_6) rfl pr4 (cap := 255) pr5 (by decide) (by decide) (by decide)
  obtain ⟨b2, g_b2⟩ : ∃ z, z = h0.size := ⟨_, rfl⟩
  rw [← g_b2] at A2 st2
  have ne_a_b2 : a ≠ b2 := Nat.ne_of_lt (Nat.lt_of_lt_of_le pr0.lt (Nat.le_of_eq g_b2.symm))
  have ge_b2 : n0 ≤ b2 := Nat.le_trans Z0 (Nat.le_of_eq g_b2.symm)
  have sz_b2 : h0.size ≤ b2 := Nat.le_trans (Keep.refl h0 [a]).1 (Nat.le_of_eq g_b2.symm)
  have V2 : Arv Z h2 b2 k2 .byte n [] (.int (0 : Int32)) := Arv.new A2 pr4
  have f3 := (Exa.ext E2 pr0)
  have f4 := (Fld.ext E2 pr1)
  obtain ⟨T5, h5, X5, e5, W5, st5⟩ := putF X2 hx hZ hown (host := "") (Or.inl (hw _ (List.mem_of_getElem? (i := 11) rfl))) Via.refl e2 f4 f3 (Or.inl (hw _ (List.mem_of_getElem? (i := 12) rfl))) (hw _ (List.mem_of_getElem? (i := 2) rfl)) (ty := (.array .byte)) (by decide) rfl rfl (g := (mkF m 8 #[.val (.ref a), .val (.int n)] [(.ref b2), (.ref a)])) rfl rfl (hb hby d1_8)
  have N5 := Fr.snoc X5 N0 pr3
  have Fw5 := Fld.same W5 f4
  have P6 : ∀ t, Steps p.tables e below (T5.setTop (mkF m 11 #[.val (.ref a), .val (.int n)] [])) t → Steps p.tables e below (s₁.setTop (entryFrame m #[(.ref a), (.int n)] 2)) t := by
    intro t kk
    refine pre0 _ ?_
    show Steps p.tables e below (s₁.setTop (mkF m 0 #[.val (.ref a), .val (.int n)] [])) _
    refine XS.aloadN X0.here hx rfl (hb hby d1_0) rfl rfl ?_
    show Steps p.tables e below (s₁.setTop (mkF m 1 #[.val (.ref a), .val (.int n)] [(.ref a)])) _
    refine st1 _ ?_
    show Steps p.tables e below (T1.setTop (mkF m 4 #[.val (.ref a), .val (.int n)] [])) _
    refine XS.aloadN X1.here hx rfl (hb hby d1_4) rfl rfl ?_
    show Steps p.tables e below (T1.setTop (mkF m 5 #[.val (.ref a), .val (.int n)] [(.ref a)])) _
    refine XS.iloadN X1.here hx rfl (hb hby d1_5) rfl ?_
    show Steps p.tables e below (T1.setTop (mkF m 6 #[.val (.ref a), .val (.int n)] [(.int n), (.ref a)])) _
    refine st2 _ ?_
    show Steps p.tables e below (T2.setTop (mkF m 8 #[.val (.ref a), .val (.int n)] [(.ref b2), (.ref a)])) _
    refine st5 _ ?_
    show Steps p.tables e below (T5.setTop (mkF m 11 #[.val (.ref a), .val (.int n)] [])) _
    exact kk
  have k7 : Keep h0 h5 [a] := (Keep.wr (Keep.ext (Keep.refl h0 [a]) E2) W5 (Or.inl (List.mem_of_getElem? (i := 0) rfl)))
  have f8 := (Fld.other W5 (Fld.ext E2 pr2) (Or.inr (slot_ne (Or.inl (hw _ (List.mem_of_getElem? (i := 20) rfl))) (Or.inl (hw _ (List.mem_of_getElem? (i := 12) rfl))) (by decide) (t := .int) (t' := (.array .byte)) (by decide) (by decide))))
  have f9 := (V2.other W5 (Ne.symm ne_a_b2))
  obtain ⟨fs, hr, hrun, hended, hW, hsame⟩ := X5.leave (v := none) (fun _ => rfl)
  refine ⟨_, _, P6 _ ?_, hrun, hended, _, _, rfl, ?_, ⟨_, rfl⟩, hW, hsame.mono (by decide) (by decide)⟩
  · exact X5.returnOut hx Bd.returns (hb hby d1_11) hr
  · show Q1 Z a n u h0 n0 _ T5.heap _
    rw [e5]
    exact ⟨b2, k2, rfl, N5, k7, Fw5, f8, f9, ge_b2, ne_a_b2⟩
theorem d2_0 : decode jdk_29_method_66_code 0 = .ok (.lload_n 0, 1) := by decide +kernel
theorem d2_1 : decode jdk_29_method_66_code 1 = .ok (.lload_n 2, 1) := by decide +kernel
theorem d2_2 : decode jdk_29_method_66_code 2 = .ok (.lcmp, 1) := by decide +kernel
theorem d2_3 : decode jdk_29_method_66_code 3 = .ok (.ifCond .lt 7, 3) := by decide +kernel
theorem d2_6 : decode jdk_29_method_66_code 6 = .ok (.lload_n 0, 1) := by decide +kernel
theorem d2_7 : decode jdk_29_method_66_code 7 = .ok (.goto 4, 3) := by decide +kernel
theorem d2_10 : decode jdk_29_method_66_code 10 = .ok (.lload_n 2, 1) := by decide +kernel
theorem d2_11 : decode jdk_29_method_66_code 11 = .ok (.lreturn, 1) := by decide +kernel
theorem ef_2 (m : MethodId) (x0 : Int64) (x1 : Int64) : entryFrame m #[(.long x0), (.long x1)] 4 = (mkF m 0 #[.val (.long x0), .second, .val (.long x1), .second] []) := by first | (simp [entryFrame, mkF, argsToLocals, Value.category]; done) | rfl
def F2 (x : Int64) (y : Int64) : Int64 := (if x < y then y else x)
def Q2 (Z : State) (x : Int64) (y : Int64) (h0 : Heap) (n0 : Nat) (vX : Option Value) (hX : Heap) (lX : List Loc) : Prop := vX = some (.long (F2 x y)) ∧ Fr n0 lX ∧ (hX = h0)
set_option maxRecDepth 65536 in
set_option maxHeartbeats 40000000 in
theorem rm2 (l : Launch) (Z : State) (a0 : Array Value) (hw : ∀ d ∈ tables_1, d.before a0 Z = true) (ws : List Jvm.Cond) (x : Int64) (y : Int64) (h0 : Heap) (n0 : Nat) (Z0 : n0 ≤ h0.size)  :
    MetFree l (⟨"java/lang/Math", "max", "(JJ)J"⟩ : MethodName) (head1 (Jvm.Cond.code (⟨"java/lang/Math", "max", "(JJ)J"⟩ : MethodName) jdk_29_method_66_code 4 (some .long) :: ws) ({ frames := 0, cells := 0, slots := 0, locals := 0 } : Room)) (fun aX uX => aX = #[(.long x), (.long y)] ∧ Z.Warmed39 uX.vm ∧ uX.heap = h0) (fun _ _ _ _ _ => True) (fun _ uX oX wX => ∃ vX lX, oX = .returned vX ∧ Q2 Z x y h0 n0 vX wX.heap lX ∧ FrameEnd uX oX wX lX ({ frames := 0, cells := 0, slots := 0, locals := 0 } : Room).cells ({ frames := 0, cells := 0, slots := 0, locals := 0 } : Room).slots) := by
  refine MetFree.of_bodySF pf_0 hisR ?_
  intro p e s m args below meth c s₁ Bd hml0 hP hK
  obtain ⟨rfl, hZ, hh⟩ := hP
  have hx := Bd.exec
  have hby := Bd.bytes
  have hml : c.maxLocals = 4 := hml0
  have hown : s.vm.findClass "java/lang/Math" = some m.cls := findClass_of_methodNamed Bd.named
  have hnm := (name_of_methodNamed Bd.named Bd.method).1
  have X0 : Stand p l e ({ frames := 0, cells := 0, slots := 0, locals := 0 } : Room) s m #[(.long x), (.long y)] below meth c s₁ [] 0 0 := Stand.of_body Bd
  have e0 : s₁.heap = h0 := by rw [← hh, Bd.state]; rfl
  have N0 := Fr.nil n0
  have pre0 : ∀ t, Steps p.tables e below (s₁.setTop (mkF m 0 #[.val (.long x), .second, .val (.long y), .second] [])) t → Steps p.tables e below (s₁.setTop (entryFrame m #[(.long x), (.long y)] 4)) t := fun t k => castTop (ef_2 m x y) k
  have P1 : ∀ t, Steps p.tables e below (s₁.setTop (mkF m 3 #[.val (.long x), .second, .val (.long y), .second] [(.int (XT.cmpL x y))])) t → Steps p.tables e below (s₁.setTop (entryFrame m #[(.long x), (.long y)] 4)) t := by
    intro t kk
    refine pre0 _ ?_
    show Steps p.tables e below (s₁.setTop (mkF m 0 #[.val (.long x), .second, .val (.long y), .second] [])) _
    refine XS.lloadN X0.here hx rfl (hb hby d2_0) rfl ?_
    show Steps p.tables e below (s₁.setTop (mkF m 1 #[.val (.long x), .second, .val (.long y), .second] [(.long x)])) _
    refine XS.lloadN X0.here hx rfl (hb hby d2_1) rfl ?_
    show Steps p.tables e below (s₁.setTop (mkF m 2 #[.val (.long x), .second, .val (.long y), .second] [(.long y), (.long x)])) _
    refine XT.lcmp X0.here hx rfl (hb hby d2_2) rfl ?_
    show Steps p.tables e below (s₁.setTop (mkF m 3 #[.val (.long x), .second, .val (.long y), .second] [(.int (XT.cmpL x y))])) _
    exact kk
  by_cases c2 : x < y
  · skip
    have P3 : ∀ t, Steps p.tables e below (s₁.setTop (mkF m 11 #[.val (.long x), .second, .val (.long y), .second] [(.long y)])) t → Steps p.tables e below (s₁.setTop (entryFrame m #[(.long x), (.long y)] 4)) t := by
      intro t kk
      refine P1 _ ?_
      show Steps p.tables e below (s₁.setTop (mkF m 3 #[.val (.long x), .second, .val (.long y), .second] [(.int (XT.cmpL x y))])) _
      refine XS.ifYes X0.here hx rfl (pc0 := 3) (pc' := 10) rfl (hb hby d2_3) rfl (XT.ll_lt_t c2) (by decide) (by decide) ?_
      show Steps p.tables e below (s₁.setTop (mkF m 10 #[.val (.long x), .second, .val (.long y), .second] [])) _
      refine XS.lloadN X0.here hx rfl (hb hby d2_10) rfl ?_
      show Steps p.tables e below (s₁.setTop (mkF m 11 #[.val (.long x), .second, .val (.long y), .second] [(.long y)])) _
      exact kk
    obtain ⟨fs, hr, hrun, hended, hW, hsame⟩ := X0.leave (v := some (.long y)) (fun h => by rw [Bd.returns] at h; cases h)
    refine ⟨_, _, P3 _ ?_, hrun, hended, _, _, rfl, ?_, ⟨_, rfl⟩, hW, hsame.mono (by decide) (by decide)⟩
    · exact X0.lreturnOut hx Bd.returns (hb hby d2_11) hr
    · show Q2 Z x y h0 n0 _ s₁.heap _
      rw [e0]
      exact ⟨congrArg (fun z => some (Value.long z)) (show (F2 x y) = _ from ((if_pos c2).trans rfl)).symm, N0, rfl⟩
  · skip
    have P4 : ∀ t, Steps p.tables e below (s₁.setTop (mkF m 11 #[.val (.long x), .second, .val (.long y), .second] [(.long x)])) t → Steps p.tables e below (s₁.setTop (entryFrame m #[(.long x), (.long y)] 4)) t := by
      intro t kk
      refine P1 _ ?_
      show Steps p.tables e below (s₁.setTop (mkF m 3 #[.val (.long x), .second, .val (.long y), .second] [(.int (XT.cmpL x y))])) _
      refine XS.ifNo X0.here hx rfl (hb hby d2_3) rfl (XT.ll_lt_f c2) ?_
      show Steps p.tables e below (s₁.setTop (mkF m 6 #[.val (.long x), .second, .val (.long y), .second] [])) _
      refine XS.lloadN X0.here hx rfl (hb hby d2_6) rfl ?_
      show Steps p.tables e below (s₁.setTop (mkF m 7 #[.val (.long x), .second, .val (.long y), .second] [(.long x)])) _
      refine XS.goto X0.here hx rfl (pc0 := 7) (pc' := 11) rfl (hb hby d2_7) (by decide) (by decide) ?_
      show Steps p.tables e below (s₁.setTop (mkF m 11 #[.val (.long x), .second, .val (.long y), .second] [(.long x)])) _
      exact kk
    obtain ⟨fs, hr, hrun, hended, hW, hsame⟩ := X0.leave (v := some (.long x)) (fun h => by rw [Bd.returns] at h; cases h)
    refine ⟨_, _, P4 _ ?_, hrun, hended, _, _, rfl, ?_, ⟨_, rfl⟩, hW, hsame.mono (by decide) (by decide)⟩
    · exact X0.lreturnOut hx Bd.returns (hb hby d2_11) hr
    · show Q2 Z x y h0 n0 _ s₁.heap _
      rw [e0]
      exact ⟨congrArg (fun z => some (Value.long z)) (show (F2 x y) = _ from ((if_neg c2).trans rfl)).symm, N0, rfl⟩
theorem d3_0 : decode jdk_29_method_70_code 0 = .ok (.lload_n 0, 1) := by decide +kernel
theorem d3_1 : decode jdk_29_method_70_code 1 = .ok (.lload_n 2, 1) := by decide +kernel
theorem d3_2 : decode jdk_29_method_70_code 2 = .ok (.lcmp, 1) := by decide +kernel
theorem d3_3 : decode jdk_29_method_70_code 3 = .ok (.ifCond .gt 7, 3) := by decide +kernel
theorem d3_6 : decode jdk_29_method_70_code 6 = .ok (.lload_n 0, 1) := by decide +kernel
theorem d3_7 : decode jdk_29_method_70_code 7 = .ok (.goto 4, 3) := by decide +kernel
theorem d3_10 : decode jdk_29_method_70_code 10 = .ok (.lload_n 2, 1) := by decide +kernel
theorem d3_11 : decode jdk_29_method_70_code 11 = .ok (.lreturn, 1) := by decide +kernel
theorem ef_3 (m : MethodId) (x0 : Int64) (x1 : Int64) : entryFrame m #[(.long x0), (.long x1)] 4 = (mkF m 0 #[.val (.long x0), .second, .val (.long x1), .second] []) := by first | (simp [entryFrame, mkF, argsToLocals, Value.category]; done) | rfl
def F3 (x : Int64) (y : Int64) : Int64 := (if y < x then y else x)
def Q3 (Z : State) (x : Int64) (y : Int64) (h0 : Heap) (n0 : Nat) (vX : Option Value) (hX : Heap) (lX : List Loc) : Prop := vX = some (.long (F3 x y)) ∧ Fr n0 lX ∧ (hX = h0)
set_option maxRecDepth 65536 in
set_option maxHeartbeats 40000000 in
theorem rm3 (l : Launch) (Z : State) (a0 : Array Value) (hw : ∀ d ∈ tables_1, d.before a0 Z = true) (ws : List Jvm.Cond) (x : Int64) (y : Int64) (h0 : Heap) (n0 : Nat) (Z0 : n0 ≤ h0.size)  :
    MetFree l (⟨"java/lang/Math", "min", "(JJ)J"⟩ : MethodName) (head1 (Jvm.Cond.code (⟨"java/lang/Math", "min", "(JJ)J"⟩ : MethodName) jdk_29_method_70_code 4 (some .long) :: ws) ({ frames := 0, cells := 0, slots := 0, locals := 0 } : Room)) (fun aX uX => aX = #[(.long x), (.long y)] ∧ Z.Warmed39 uX.vm ∧ uX.heap = h0) (fun _ _ _ _ _ => True) (fun _ uX oX wX => ∃ vX lX, oX = .returned vX ∧ Q3 Z x y h0 n0 vX wX.heap lX ∧ FrameEnd uX oX wX lX ({ frames := 0, cells := 0, slots := 0, locals := 0 } : Room).cells ({ frames := 0, cells := 0, slots := 0, locals := 0 } : Room).slots) := by
  refine MetFree.of_bodySF pf_1 hisR ?_
  intro p e s m args below meth c s₁ Bd hml0 hP hK
  obtain ⟨rfl, hZ, hh⟩ := hP
  have hx := Bd.exec
  have hby := Bd.bytes
  have hml : c.maxLocals = 4 := hml0
  have hown : s.vm.findClass "java/lang/Math" = some m.cls := findClass_of_methodNamed Bd.named
  have hnm := (name_of_methodNamed Bd.named Bd.method).1
  have X0 : Stand p l e ({ frames := 0, cells := 0, slots := 0, locals := 0 } : Room) s m #[(.long x), (.long y)] below meth c s₁ [] 0 0 := Stand.of_body Bd
  have e0 : s₁.heap = h0 := by rw [← hh, Bd.state]; rfl
  have N0 := Fr.nil n0
  have pre0 : ∀ t, Steps p.tables e below (s₁.setTop (mkF m 0 #[.val (.long x), .second, .val (.long y), .second] [])) t → Steps p.tables e below (s₁.setTop (entryFrame m #[(.long x), (.long y)] 4)) t := fun t k => castTop (ef_3 m x y) k
  have P1 : ∀ t, Steps p.tables e below (s₁.setTop (mkF m 3 #[.val (.long x), .second, .val (.long y), .second] [(.int (XT.cmpL x y))])) t → Steps p.tables e below (s₁.setTop (entryFrame m #[(.long x), (.long y)] 4)) t := by
    intro t kk
    refine pre0 _ ?_
    show Steps p.tables e below (s₁.setTop (mkF m 0 #[.val (.long x), .second, .val (.long y), .second] [])) _
    refine XS.lloadN X0.here hx rfl (hb hby d3_0) rfl ?_
    show Steps p.tables e below (s₁.setTop (mkF m 1 #[.val (.long x), .second, .val (.long y), .second] [(.long x)])) _
    refine XS.lloadN X0.here hx rfl (hb hby d3_1) rfl ?_
    show Steps p.tables e below (s₁.setTop (mkF m 2 #[.val (.long x), .second, .val (.long y), .second] [(.long y), (.long x)])) _
    refine XT.lcmp X0.here hx rfl (hb hby d3_2) rfl ?_
    show Steps p.tables e below (s₁.setTop (mkF m 3 #[.val (.long x), .second, .val (.long y), .second] [(.int (XT.cmpL x y))])) _
    exact kk
  by_cases c2 : y < x
  · skip
    have P3 : ∀ t, Steps p.tables e below (s₁.setTop (mkF m 11 #[.val (.long x), .second, .val (.long y), .second] [(.long y)])) t → Steps p.tables e below (s₁.setTop (entryFrame m #[(.long x), (.long y)] 4)) t := by
      intro t kk
      refine P1 _ ?_
      show Steps p.tables e below (s₁.setTop (mkF m 3 #[.val (.long x), .second, .val (.long y), .second] [(.int (XT.cmpL x y))])) _
      refine XS.ifYes X0.here hx rfl (pc0 := 3) (pc' := 10) rfl (hb hby d3_3) rfl (XT.ll_gt_t c2) (by decide) (by decide) ?_
      show Steps p.tables e below (s₁.setTop (mkF m 10 #[.val (.long x), .second, .val (.long y), .second] [])) _
      refine XS.lloadN X0.here hx rfl (hb hby d3_10) rfl ?_
      show Steps p.tables e below (s₁.setTop (mkF m 11 #[.val (.long x), .second, .val (.long y), .second] [(.long y)])) _
      exact kk
    obtain ⟨fs, hr, hrun, hended, hW, hsame⟩ := X0.leave (v := some (.long y)) (fun h => by rw [Bd.returns] at h; cases h)
    refine ⟨_, _, P3 _ ?_, hrun, hended, _, _, rfl, ?_, ⟨_, rfl⟩, hW, hsame.mono (by decide) (by decide)⟩
    · exact X0.lreturnOut hx Bd.returns (hb hby d3_11) hr
    · show Q3 Z x y h0 n0 _ s₁.heap _
      rw [e0]
      exact ⟨congrArg (fun z => some (Value.long z)) (show (F3 x y) = _ from ((if_pos c2).trans rfl)).symm, N0, rfl⟩
  · skip
    have P4 : ∀ t, Steps p.tables e below (s₁.setTop (mkF m 11 #[.val (.long x), .second, .val (.long y), .second] [(.long x)])) t → Steps p.tables e below (s₁.setTop (entryFrame m #[(.long x), (.long y)] 4)) t := by
      intro t kk
      refine P1 _ ?_
      show Steps p.tables e below (s₁.setTop (mkF m 3 #[.val (.long x), .second, .val (.long y), .second] [(.int (XT.cmpL x y))])) _
      refine XS.ifNo X0.here hx rfl (hb hby d3_3) rfl (XT.ll_gt_f c2) ?_
      show Steps p.tables e below (s₁.setTop (mkF m 6 #[.val (.long x), .second, .val (.long y), .second] [])) _
      refine XS.lloadN X0.here hx rfl (hb hby d3_6) rfl ?_
      show Steps p.tables e below (s₁.setTop (mkF m 7 #[.val (.long x), .second, .val (.long y), .second] [(.long x)])) _
      refine XS.goto X0.here hx rfl (pc0 := 7) (pc' := 11) rfl (hb hby d3_7) (by decide) (by decide) ?_
      show Steps p.tables e below (s₁.setTop (mkF m 11 #[.val (.long x), .second, .val (.long y), .second] [(.long x)])) _
      exact kk
    obtain ⟨fs, hr, hrun, hended, hW, hsame⟩ := X0.leave (v := some (.long x)) (fun h => by rw [Bd.returns] at h; cases h)
    refine ⟨_, _, P4 _ ?_, hrun, hended, _, _, rfl, ?_, ⟨_, rfl⟩, hW, hsame.mono (by decide) (by decide)⟩
    · exact X0.lreturnOut hx Bd.returns (hb hby d3_11) hr
    · show Q3 Z x y h0 n0 _ s₁.heap _
      rw [e0]
      exact ⟨congrArg (fun z => some (Value.long z)) (show (F3 x y) = _ from ((if_neg c2).trans rfl)).symm, N0, rfl⟩
theorem d4_0 : decode jdk_29_method_69_code 0 = .ok (.iload_n 0, 1) := by decide +kernel
theorem d4_1 : decode jdk_29_method_69_code 1 = .ok (.iload_n 1, 1) := by decide +kernel
theorem d4_2 : decode jdk_29_method_69_code 2 = .ok (.if_icmp .gt 7, 3) := by decide +kernel
theorem d4_5 : decode jdk_29_method_69_code 5 = .ok (.iload_n 0, 1) := by decide +kernel
theorem d4_6 : decode jdk_29_method_69_code 6 = .ok (.goto 4, 3) := by decide +kernel
theorem d4_9 : decode jdk_29_method_69_code 9 = .ok (.iload_n 1, 1) := by decide +kernel
theorem d4_10 : decode jdk_29_method_69_code 10 = .ok (.ireturn, 1) := by decide +kernel
theorem ef_4 (m : MethodId) (x0 : Int32) (x1 : Int32) : entryFrame m #[(.int x0), (.int x1)] 2 = (mkF m 0 #[.val (.int x0), .val (.int x1)] []) := by first | (simp [entryFrame, mkF, argsToLocals, Value.category]; done) | rfl
def F4 (x : Int32) (y : Int32) : Int32 := (if y < x then y else x)
def Q4 (Z : State) (x : Int32) (y : Int32) (h0 : Heap) (n0 : Nat) (vX : Option Value) (hX : Heap) (lX : List Loc) : Prop := vX = some (.int (F4 x y)) ∧ Fr n0 lX ∧ (hX = h0)
set_option maxRecDepth 65536 in
set_option maxHeartbeats 40000000 in
theorem rm4 (l : Launch) (Z : State) (a0 : Array Value) (hw : ∀ d ∈ tables_1, d.before a0 Z = true) (ws : List Jvm.Cond) (x : Int32) (y : Int32) (h0 : Heap) (n0 : Nat) (Z0 : n0 ≤ h0.size)  :
    MetFree l (⟨"java/lang/Math", "min", "(II)I"⟩ : MethodName) (head1 (Jvm.Cond.code (⟨"java/lang/Math", "min", "(II)I"⟩ : MethodName) jdk_29_method_69_code 2 (some .int) :: ws) ({ frames := 0, cells := 0, slots := 0, locals := 0 } : Room)) (fun aX uX => aX = #[(.int x), (.int y)] ∧ Z.Warmed39 uX.vm ∧ uX.heap = h0) (fun _ _ _ _ _ => True) (fun _ uX oX wX => ∃ vX lX, oX = .returned vX ∧ Q4 Z x y h0 n0 vX wX.heap lX ∧ FrameEnd uX oX wX lX ({ frames := 0, cells := 0, slots := 0, locals := 0 } : Room).cells ({ frames := 0, cells := 0, slots := 0, locals := 0 } : Room).slots) := by
  refine MetFree.of_bodySF pf_2 hisR ?_
  intro p e s m args below meth c s₁ Bd hml0 hP hK
  obtain ⟨rfl, hZ, hh⟩ := hP
  have hx := Bd.exec
  have hby := Bd.bytes
  have hml : c.maxLocals = 2 := hml0
  have hown : s.vm.findClass "java/lang/Math" = some m.cls := findClass_of_methodNamed Bd.named
  have hnm := (name_of_methodNamed Bd.named Bd.method).1
  have X0 : Stand p l e ({ frames := 0, cells := 0, slots := 0, locals := 0 } : Room) s m #[(.int x), (.int y)] below meth c s₁ [] 0 0 := Stand.of_body Bd
  have e0 : s₁.heap = h0 := by rw [← hh, Bd.state]; rfl
  have N0 := Fr.nil n0
  have pre0 : ∀ t, Steps p.tables e below (s₁.setTop (mkF m 0 #[.val (.int x), .val (.int y)] [])) t → Steps p.tables e below (s₁.setTop (entryFrame m #[(.int x), (.int y)] 2)) t := fun t k => castTop (ef_4 m x y) k
  have P1 : ∀ t, Steps p.tables e below (s₁.setTop (mkF m 2 #[.val (.int x), .val (.int y)] [(.int y), (.int x)])) t → Steps p.tables e below (s₁.setTop (entryFrame m #[(.int x), (.int y)] 2)) t := by
    intro t kk
    refine pre0 _ ?_
    show Steps p.tables e below (s₁.setTop (mkF m 0 #[.val (.int x), .val (.int y)] [])) _
    refine XS.iloadN X0.here hx rfl (hb hby d4_0) rfl ?_
    show Steps p.tables e below (s₁.setTop (mkF m 1 #[.val (.int x), .val (.int y)] [(.int x)])) _
    refine XS.iloadN X0.here hx rfl (hb hby d4_1) rfl ?_
    show Steps p.tables e below (s₁.setTop (mkF m 2 #[.val (.int x), .val (.int y)] [(.int y), (.int x)])) _
    exact kk
  by_cases c2 : y < x
  · skip
    have P3 : ∀ t, Steps p.tables e below (s₁.setTop (mkF m 10 #[.val (.int x), .val (.int y)] [(.int y)])) t → Steps p.tables e below (s₁.setTop (entryFrame m #[(.int x), (.int y)] 2)) t := by
      intro t kk
      refine P1 _ ?_
      show Steps p.tables e below (s₁.setTop (mkF m 2 #[.val (.int x), .val (.int y)] [(.int y), (.int x)])) _
      refine XS.icmpYes X0.here hx rfl (pc0 := 2) (pc' := 9) rfl (hb hby d4_2) rfl (XT.ii_gt_t c2) (by decide) (by decide) ?_
      show Steps p.tables e below (s₁.setTop (mkF m 9 #[.val (.int x), .val (.int y)] [])) _
      refine XS.iloadN X0.here hx rfl (hb hby d4_9) rfl ?_
      show Steps p.tables e below (s₁.setTop (mkF m 10 #[.val (.int x), .val (.int y)] [(.int y)])) _
      exact kk
    obtain ⟨fs, hr, hrun, hended, hW, hsame⟩ := X0.leave (v := some (.int y)) (fun h => by rw [Bd.returns] at h; cases h)
    refine ⟨_, _, P3 _ ?_, hrun, hended, _, _, rfl, ?_, ⟨_, rfl⟩, hW, hsame.mono (by decide) (by decide)⟩
    · exact retI X0 hx Bd.returns (hb hby d4_10) hr
    · show Q4 Z x y h0 n0 _ s₁.heap _
      rw [e0]
      exact ⟨congrArg (fun z => some (Value.int z)) (show (F4 x y) = _ from ((if_pos c2).trans rfl)).symm, N0, rfl⟩
  · skip
    have P4 : ∀ t, Steps p.tables e below (s₁.setTop (mkF m 10 #[.val (.int x), .val (.int y)] [(.int x)])) t → Steps p.tables e below (s₁.setTop (entryFrame m #[(.int x), (.int y)] 2)) t := by
      intro t kk
      refine P1 _ ?_
      show Steps p.tables e below (s₁.setTop (mkF m 2 #[.val (.int x), .val (.int y)] [(.int y), (.int x)])) _
      refine XS.icmpNo X0.here hx rfl (hb hby d4_2) rfl (XT.ii_gt_f c2) ?_
      show Steps p.tables e below (s₁.setTop (mkF m 5 #[.val (.int x), .val (.int y)] [])) _
      refine XS.iloadN X0.here hx rfl (hb hby d4_5) rfl ?_
      show Steps p.tables e below (s₁.setTop (mkF m 6 #[.val (.int x), .val (.int y)] [(.int x)])) _
      refine XS.goto X0.here hx rfl (pc0 := 6) (pc' := 10) rfl (hb hby d4_6) (by decide) (by decide) ?_
      show Steps p.tables e below (s₁.setTop (mkF m 10 #[.val (.int x), .val (.int y)] [(.int x)])) _
      exact kk
    obtain ⟨fs, hr, hrun, hended, hW, hsame⟩ := X0.leave (v := some (.int x)) (fun h => by rw [Bd.returns] at h; cases h)
    refine ⟨_, _, P4 _ ?_, hrun, hended, _, _, rfl, ?_, ⟨_, rfl⟩, hW, hsame.mono (by decide) (by decide)⟩
    · exact retI X0 hx Bd.returns (hb hby d4_10) hr
    · show Q4 Z x y h0 n0 _ s₁.heap _
      rw [e0]
      exact ⟨congrArg (fun z => some (Value.int z)) (show (F4 x y) = _ from ((if_neg c2).trans rfl)).symm, N0, rfl⟩
theorem own_mn (z n : Int32) (h1 : ¬ n < 0) (h2 : ¬ z < 0) : ¬ (F4 z n) < 0 ∧ (0 : Int32).toNatClampNeg + (F4 z n).toNatClampNeg ≤ z.toNatClampNeg ∧ (0 : Int32).toNatClampNeg + (F4 z n).toNatClampNeg ≤ n.toNatClampNeg ∧ (n.toNatClampNeg ≤ 1023 → (0 : Int32).toNatClampNeg + (F4 z n).toNatClampNeg ≤ (([] : List Value) ++ List.replicate 1023 (Value.int (0 : Int32))).length) := by
  have l0 : (0 : Int32).toInt = 0 := by decide
  have e : ∀ x : Int32, x.toNatClampNeg = x.toInt.toNat := fun _ => rfl
  simp only [Int32.lt_iff_toInt_lt, l0, e, List.nil_append, List.length_replicate] at *
  unfold F4
  split
  · rename_i h; rw [Int32.lt_iff_toInt_lt] at h; omega
  · rename_i h; rw [Int32.lt_iff_toInt_lt] at h; omega
theorem d5_0 : decode jdk_65_method_121_code 0 = .ok (.iload_n 1, 1) := by decide +kernel
theorem d5_1 : decode jdk_65_method_121_code 1 = .ok (.aload_n 0, 1) := by decide +kernel
theorem d5_2 : decode jdk_65_method_121_code 2 = .ok (.arraylength, 1) := by decide +kernel
theorem d5_3 : decode jdk_65_method_121_code 3 = .ok (.if_icmp .ne 11, 3) := by decide +kernel
theorem d5_14 : decode jdk_65_method_121_code 14 = .ok (.iload_n 1, 1) := by decide +kernel
theorem d5_15 : decode jdk_65_method_121_code 15 = .ok (.newarray .byte, 2) := by decide +kernel
theorem d5_17 : decode jdk_65_method_121_code 17 = .ok (.astore_n 2, 1) := by decide +kernel
theorem d5_18 : decode jdk_65_method_121_code 18 = .ok (.aload_n 0, 1) := by decide +kernel
theorem d5_19 : decode jdk_65_method_121_code 19 = .ok (.iconst 0, 1) := by decide +kernel
theorem d5_20 : decode jdk_65_method_121_code 20 = .ok (.aload_n 2, 1) := by decide +kernel
theorem d5_21 : decode jdk_65_method_121_code 21 = .ok (.iconst 0, 1) := by decide +kernel
theorem d5_22 : decode jdk_65_method_121_code 22 = .ok (.aload_n 0, 1) := by decide +kernel
theorem d5_23 : decode jdk_65_method_121_code 23 = .ok (.arraylength, 1) := by decide +kernel
theorem d5_24 : decode jdk_65_method_121_code 24 = .ok (.iload_n 1, 1) := by decide +kernel
theorem d5_25 : decode jdk_65_method_121_code 25 = .ok (.invokestatic 304, 3) := by decide +kernel
theorem d5_28 : decode jdk_65_method_121_code 28 = .ok (.invokestatic 150, 3) := by decide +kernel
theorem d5_31 : decode jdk_65_method_121_code 31 = .ok (.aload_n 2, 1) := by decide +kernel
theorem d5_32 : decode jdk_65_method_121_code 32 = .ok (.areturn, 1) := by decide +kernel
theorem ef_5 (m : MethodId) (x0 : Addr) (x1 : Int32) : entryFrame m #[(.ref x0), (.int x1)] 3 = (mkF m 0 #[.val (.ref x0), .val (.int x1), .unset] []) := by first | (simp [entryFrame, mkF, argsToLocals, Value.category]; done) | rfl
def Q5 (Z : State) (a : Addr) (n : Int32) (k : ClassId) (z : Int32) (vs : List Value) (d : Value) (h0 : Heap) (n0 : Nat) (vX : Option Value) (hX : Heap) (lX : List Loc) : Prop := ∃ (r : Addr), vX = some (.ref r) ∧ Fr n0 lX ∧ (Keep h0 hX []) ∧ (n0 ≤ r)
set_option maxRecDepth 65536 in
set_option maxHeartbeats 40000000 in
theorem rm5 (l : Launch) (Z : State) (a0 : Array Value) (hw : ∀ d ∈ tables_1, d.before a0 Z = true) (ws : List Jvm.Cond) (a : Addr) (n : Int32) (k : ClassId) (z : Int32) (vs : List Value) (d : Value) (h0 : Heap) (n0 : Nat) (Z0 : n0 ≤ h0.size) (pr0 : Arv Z h0 a k .byte z vs d) (pr1 : ¬ n < 0 ∧ n.toNatClampNeg ≤ 1023) (pr2 : ¬ n = z) :
    MetFree l (⟨"java/util/Arrays", "copyOf", "([BI)[B"⟩ : MethodName) (head1 (Jvm.Cond.code (⟨"java/util/Arrays", "copyOf", "([BI)[B"⟩ : MethodName) jdk_65_method_121_code 3 (some (.array .byte)) :: ws) ({ frames := 1, cells := 1, slots := 1023, locals := 18 } : Room)) (fun aX uX => aX = #[(.ref a), (.int n)] ∧ Z.Warmed39 uX.vm ∧ uX.heap = h0) (fun _ _ _ _ _ => True) (fun _ uX oX wX => ∃ vX lX, oX = .returned vX ∧ Q5 Z a n k z vs d h0 n0 vX wX.heap lX ∧ FrameEnd uX oX wX lX ({ frames := 1, cells := 1, slots := 1023, locals := 18 } : Room).cells ({ frames := 1, cells := 1, slots := 1023, locals := 18 } : Room).slots) := by
  refine MetFree.of_bodySF (plainFor_of_name pn_1) hisR ?_
  intro p e s m args below meth c s₁ Bd hml0 hP hK
  obtain ⟨rfl, hZ, hh⟩ := hP
  have hx := Bd.exec
  have hby := Bd.bytes
  have hml : c.maxLocals = 3 := hml0
  have hown : s.vm.findClass "java/util/Arrays" = some m.cls := findClass_of_methodNamed Bd.named
  have hnm := (name_of_methodNamed Bd.named Bd.method).1
  have X0 : Stand p l e ({ frames := 1, cells := 1, slots := 1023, locals := 18 } : Room) s m #[(.ref a), (.int n)] below meth c s₁ [] 0 0 := Stand.of_body Bd
  have e0 : s₁.heap = h0 := by rw [← hh, Bd.state]; rfl
  have N0 := Fr.nil n0
  have pre0 : ∀ t, Steps p.tables e below (s₁.setTop (mkF m 0 #[.val (.ref a), .val (.int n), .unset] [])) t → Steps p.tables e below (s₁.setTop (entryFrame m #[(.ref a), (.int n)] 3)) t := fun t k => castTop (ef_5 m a n) k
  obtain ⟨-, -, -, -, hz, -, -⟩ := id pr0
  obtain ⟨cl_a1, Ar_a1, q_a1, S_a1, N_a1, H_a1, G_a1⟩ := id pr0
  obtain ⟨T2, h2, k2, X2, e2, E2, A2, st2⟩ := newP X0 hx hZ (hw _ (List.mem_of_getElem? (i := 10) rfl)) e0 (g := (mkF m 15 #[.val (.ref a), .val (.int n), .unset] [(.int n)])) rfl (hb hby d5_15) rfl pr1.1 (cap := 1023) pr1.2 (by decide) (by decide) (by decide)
  obtain ⟨b2, g_b2⟩ : ∃ z, z = h0.size := ⟨_, rfl⟩
  rw [← g_b2] at A2 st2
  have ne_a_b2 : a ≠ b2 := Nat.ne_of_lt (Nat.lt_of_lt_of_le pr0.lt (Nat.le_of_eq g_b2.symm))
  have ge_b2 : n0 ≤ b2 := Nat.le_trans Z0 (Nat.le_of_eq g_b2.symm)
  have sz_b2 : h0.size ≤ b2 := Nat.le_trans (Keep.refl h0 []).1 (Nat.le_of_eq g_b2.symm)
  have V2 : Arv Z h2 b2 k2 .byte n [] (.int (0 : Int32)) := Arv.new A2 pr1.1
  have f3 := (pr0.ext E2)
  obtain ⟨cl_a4, Ar_a4, q_a4, S_a4, N_a4, H_a4, G_a4⟩ := id f3
  have z6 : n0 ≤ _ := (Nat.le_trans Z0 E2.1)
  obtain ⟨_, _, ⟨T5, L5, k5, n5⟩, -, X5, ⟨Lc5, hQ5, l5, y5, z5⟩, st5⟩ := Jvm.LawKit.callS X2 hx (y := (⟨"java/lang/Math", "min", "(II)I"⟩ : MethodName)) hown (mvT hZ (hw _ (List.mem_of_getElem? (i := 34) rfl))) (mvT hZ (hw _ (List.mem_of_getElem? (i := 35) rfl))) (mvT hZ (hw _ (List.mem_of_getElem? (i := 24) rfl))) (mvT hZ (hw _ (List.mem_of_getElem? (i := 36) rfl))) (by decide) (backOf (W := 4) (rm4 l Z a0 hw [] z n h2 n0 z6 ) hZ (hw _ (List.mem_of_getElem? (i := 36) rfl)) (hw _ (List.mem_of_getElem? (i := 24) rfl)) (by decide) (by decide)) (g := (mkF m 25 #[.val (.ref a), .val (.int n), .val (.ref b2)] [(.int n), (.int z), (.int (0 : Int32)), (.ref b2), (.int (0 : Int32)), (.ref a)])) rfl (by rw [hml]; rfl) (argsL := [(.int z), (.int n)]) (rest := [(.int (0 : Int32)), (.ref b2), (.int (0 : Int32)), (.ref a)]) (lenOf pd_0 rfl) rfl (by show 2 * 0 + _ ≤ _; exact Nat.le_of_eq rfl) (hb hby d5_25) (fun _ _ => ⟨rfl, e2, (by decide : 1 + 0 ≤ _), (by decide : 1023 + 0 ≤ _)⟩)
  dsimp only [Pt.U, Pt.locs, Pt.cells, Pt.slots] at X5 l5 y5 z5 st5 hQ5
  subst l5 y5 z5
  obtain ⟨rfl, Nq5, e5⟩ := hQ5
  have N5 := Fr.app N0 Nq5
  obtain ⟨T7, h7, L7, X7, e7, N7, K7, V7, st7⟩ := cpA X5 hx hZ hown (hw _ (List.mem_of_getElem? (i := 37) rfl)) (hw _ (List.mem_of_getElem? (i := 40) rfl)) (hw _ (List.mem_of_getElem? (i := 38) rfl)) (hw _ (List.mem_of_getElem? (i := 39) rfl)) e5 f3 (V2.pad (pad_rep [] (.int (0 : Int32)) 1023)) (Or.inl ⟨rfl, rfl⟩) (by decide) (by decide) (own_mn z n pr1.1 hz).1 (own_mn z n pr1.1 hz).2.1 (own_mn z n pr1.1 hz).2.2.1 rfl ((own_mn z n pr1.1 hz).2.2.2 pr1.2) N5 ge_b2 (g := (mkF m 28 #[.val (.ref a), .val (.int n), .val (.ref b2)] [(.int (F4 z n)), (.int (0 : Int32)), (.ref b2), (.int (0 : Int32)), (.ref a)])) rfl (by rw [hml]; rfl) (rest := []) rfl (hb hby d5_28) (by decide) (W := 0) (by show 2 * 0 + _ ≤ _; exact Nat.le_of_eq rfl) (by decide)
  have P8 : ∀ t, Steps p.tables e below (T7.setTop (mkF m 32 #[.val (.ref a), .val (.int n), .val (.ref b2)] [(.ref b2)])) t → Steps p.tables e below (s₁.setTop (entryFrame m #[(.ref a), (.int n)] 3)) t := by
    intro t kk
    refine pre0 _ ?_
    show Steps p.tables e below (s₁.setTop (mkF m 0 #[.val (.ref a), .val (.int n), .unset] [])) _
    refine XS.iloadN X0.here hx rfl (hb hby d5_0) rfl ?_
    show Steps p.tables e below (s₁.setTop (mkF m 1 #[.val (.ref a), .val (.int n), .unset] [(.int n)])) _
    refine XS.aloadN X0.here hx rfl (hb hby d5_1) rfl rfl ?_
    show Steps p.tables e below (s₁.setTop (mkF m 2 #[.val (.ref a), .val (.int n), .unset] [(.ref a), (.int n)])) _
    refine X0.arraylength hx (by rw [e0]; exact Ar_a1.1) (State.isArrayOf_alike hZ.alike Ar_a1.2.1) (g := (mkF m 2 #[.val (.ref a), .val (.int n), .unset] [(.ref a), (.int n)])) rfl rfl (hb hby d5_2) _ ?_
    rw [len_of S_a1 N_a1]
    show Steps p.tables e below (s₁.setTop (mkF m 3 #[.val (.ref a), .val (.int n), .unset] [(.int z), (.int n)])) _
    refine XS.icmpYes X0.here hx rfl (pc0 := 3) (pc' := 14) rfl (hb hby d5_3) rfl (XT.ii_ne_t pr2) (by decide) (by decide) ?_
    show Steps p.tables e below (s₁.setTop (mkF m 14 #[.val (.ref a), .val (.int n), .unset] [])) _
    refine XS.iloadN X0.here hx rfl (hb hby d5_14) rfl ?_
    show Steps p.tables e below (s₁.setTop (mkF m 15 #[.val (.ref a), .val (.int n), .unset] [(.int n)])) _
    refine st2 _ ?_
    show Steps p.tables e below (T2.setTop (mkF m 17 #[.val (.ref a), .val (.int n), .unset] [(.ref b2)])) _
    refine XS.astoreN X2.here hx rfl (hb hby d5_17) rfl rfl (l' := #[.val (.ref a), .val (.int n), .val (.ref b2)]) rfl ?_
    show Steps p.tables e below (T2.setTop (mkF m 18 #[.val (.ref a), .val (.int n), .val (.ref b2)] [])) _
    refine XS.aloadN X2.here hx rfl (hb hby d5_18) rfl rfl ?_
    show Steps p.tables e below (T2.setTop (mkF m 19 #[.val (.ref a), .val (.int n), .val (.ref b2)] [(.ref a)])) _
    refine XS.iconst X2.here hx rfl (hb hby d5_19) ?_
    show Steps p.tables e below (T2.setTop (mkF m 20 #[.val (.ref a), .val (.int n), .val (.ref b2)] [(.int (0 : Int32)), (.ref a)])) _
    refine XS.aloadN X2.here hx rfl (hb hby d5_20) rfl rfl ?_
    show Steps p.tables e below (T2.setTop (mkF m 21 #[.val (.ref a), .val (.int n), .val (.ref b2)] [(.ref b2), (.int (0 : Int32)), (.ref a)])) _
    refine XS.iconst X2.here hx rfl (hb hby d5_21) ?_
    show Steps p.tables e below (T2.setTop (mkF m 22 #[.val (.ref a), .val (.int n), .val (.ref b2)] [(.int (0 : Int32)), (.ref b2), (.int (0 : Int32)), (.ref a)])) _
    refine XS.aloadN X2.here hx rfl (hb hby d5_22) rfl rfl ?_
    show Steps p.tables e below (T2.setTop (mkF m 23 #[.val (.ref a), .val (.int n), .val (.ref b2)] [(.ref a), (.int (0 : Int32)), (.ref b2), (.int (0 : Int32)), (.ref a)])) _
    refine X2.arraylength hx (by rw [e2]; exact Ar_a4.1) (State.isArrayOf_alike hZ.alike Ar_a4.2.1) (g := (mkF m 23 #[.val (.ref a), .val (.int n), .val (.ref b2)] [(.ref a), (.int (0 : Int32)), (.ref b2), (.int (0 : Int32)), (.ref a)])) rfl rfl (hb hby d5_23) _ ?_
    rw [len_of S_a4 N_a4]
    show Steps p.tables e below (T2.setTop (mkF m 24 #[.val (.ref a), .val (.int n), .val (.ref b2)] [(.int z), (.int (0 : Int32)), (.ref b2), (.int (0 : Int32)), (.ref a)])) _
    refine XS.iloadN X2.here hx rfl (hb hby d5_24) rfl ?_
    show Steps p.tables e below (T2.setTop (mkF m 25 #[.val (.ref a), .val (.int n), .val (.ref b2)] [(.int n), (.int z), (.int (0 : Int32)), (.ref b2), (.int (0 : Int32)), (.ref a)])) _
    refine st5 _ ?_
    show Steps p.tables e below (T5.setTop (mkF m 28 #[.val (.ref a), .val (.int n), .val (.ref b2)] [(.int (F4 z n)), (.int (0 : Int32)), (.ref b2), (.int (0 : Int32)), (.ref a)])) _
    refine st7 _ ?_
    show Steps p.tables e below (T7.setTop (mkF m 31 #[.val (.ref a), .val (.int n), .val (.ref b2)] [])) _
    refine XS.aloadN X7.here hx rfl (hb hby d5_31) rfl rfl ?_
    show Steps p.tables e below (T7.setTop (mkF m 32 #[.val (.ref a), .val (.int n), .val (.ref b2)] [(.ref b2)])) _
    exact kk
  have k9 : Keep h0 h7 [] := (Keep.trans (Keep.ext (Keep.refl h0 []) E2) K7 (allS (Or.inr sz_b2) all0))
  obtain ⟨fs, hr, hrun, hended, hW, hsame⟩ := X7.leave (v := some (.ref b2)) (fun h => by rw [Bd.returns] at h; cases h)
  refine ⟨_, _, P8 _ ?_, hrun, hended, _, _, rfl, ?_, ⟨_, rfl⟩, hW, hsame.mono (by decide) (by decide)⟩
  · exact X7.areturnOut hx rfl Bd.returns rfl (hb hby d5_32) hr
  · show Q5 Z a n k z vs d h0 n0 _ T7.heap _
    rw [e7]
    exact ⟨b2, rfl, N7, k9, ge_b2⟩
theorem own_max (a b : Int64) : (F2 a b).toInt = if a.toInt < b.toInt then b.toInt else a.toInt := by
  unfold F2
  by_cases c : a < b
  · rw [if_pos c, if_pos (Int64.lt_iff_toInt_lt.mp c)]
  · rw [if_neg c, if_neg (fun q => c (Int64.lt_iff_toInt_lt.mpr q))]
theorem own_min (a b : Int64) : (F3 a b).toInt = if b.toInt < a.toInt then b.toInt else a.toInt := by
  unfold F3
  by_cases c : b < a
  · rw [if_pos c, if_pos (Int64.lt_iff_toInt_lt.mp c)]
  · rw [if_neg c, if_neg (fun q => c (Int64.lt_iff_toInt_lt.mpr q))]
theorem own_j0 (x : Int64) : 0 ≤ (x &&& (9223372036854775807 : Int64)).toInt := by
  have a := c_maskL x 9223372036854775807 63 (by decide) (by decide +kernel)
  rw [a]
  exact Int.emod_nonneg _ (by decide)
theorem own_j2 (x : Int64) : 0 ≤ (x &&& (2147483647 : Int64)).toInt := by
  have a := c_maskL x 2147483647 31 (by decide) (by decide)
  rw [a]
  exact Int.emod_nonneg _ (by decide)
theorem own_j3 (x : Int64) : 0 ≤ (x &&& (255 : Int64)).toInt := by
  have a := c_maskL x 255 8 (by decide) (by decide)
  rw [a]
  exact Int.emod_nonneg _ (by decide)
theorem own_j1 (x : Int64) (k : Int32) (h1 : 0 ≤ k.toInt) (h2 : k.toInt ≤ 1023) : 0 ≤ (((2147483647 : Int64) - k.toInt64) + ((x &&& (7 : Int64)) - (3 : Int64))).toInt := by
  have lM : (2147483647 : Int64).toInt = 2147483647 := by decide
  have l3 : (3 : Int64).toInt = 3 := by decide
  have a2 : (x &&& (7 : Int64)).toInt = x.toInt % 8 := c_maskL x 7 3 (by decide) (by decide)
  have a3 : 0 ≤ (x &&& (7 : Int64)).toInt ∧ (x &&& (7 : Int64)).toInt ≤ 7 := by omega
  have b1 : ((2147483647 : Int64) - k.toInt64).toInt = 2147483647 - k.toInt := by
    rw [Int64.toInt_sub, lM, c_i2l]
    exact XT.bmod64 ⟨by omega, by omega⟩
  have b2 : ((x &&& (7 : Int64)) - (3 : Int64)).toInt = (x &&& (7 : Int64)).toInt - 3 := by
    rw [Int64.toInt_sub, l3]
    exact XT.bmod64 ⟨by omega, by omega⟩
  rw [Int64.toInt_add, b1, b2, XT.bmod64 ⟨by omega, by omega⟩]
  omega
theorem own_grow (q z : Int32) (h1 : ¬ q < 0) (h2 : q.toInt ≤ 1023) (h3 : ¬ z < 0) (h4 : z.toInt ≤ 255) (hc : (z - (0 : Int32)) < q) : (¬ ((F3 (F2 ((2 : Int64) * ((z).toInt64)) ((((0 : Int32)).toInt64) + ((q).toInt64))) (2147483647 : Int64))).toInt32 < 0 ∧ (((F3 (F2 ((2 : Int64) * ((z).toInt64)) ((((0 : Int32)).toInt64) + ((q).toInt64))) (2147483647 : Int64))).toInt32).toNatClampNeg ≤ 1023) ∧ ¬ ((F3 (F2 ((2 : Int64) * ((z).toInt64)) ((((0 : Int32)).toInt64) + ((q).toInt64))) (2147483647 : Int64))).toInt32 = z := by
  have l0 : (0 : Int32).toInt = 0 := by decide
  have l2 : (2 : Int64).toInt = 2 := by decide
  have lM : (2147483647 : Int64).toInt = 2147483647 := by decide
  have e : ∀ x : Int32, x.toNatClampNeg = x.toInt.toNat := fun _ => rfl
  have rz := rng32 z
  have rq := rng32 q
  have k1 := c_isub z 0
  have k2 := rng32 (z - (0 : Int32))
  have a1 := c_lmul (2 : Int64) (z.toInt64)
  have a2 := rng64 ((2 : Int64) * z.toInt64)
  have a3 := c_ladd ((0 : Int32).toInt64) (q.toInt64)
  have a4 := rng64 ((0 : Int32).toInt64 + q.toInt64)
  have z0 : (0 : Int32).toInt64.toInt = 0 := by decide
  rw [l2, c_i2l] at a1
  rw [z0, c_i2l] at a3
  rw [l0] at k1
  rw [Int32.lt_iff_toInt_lt, l0] at h1 h3
  rw [Int32.lt_iff_toInt_lt] at hc
  have b1 : ((2 : Int64) * z.toInt64).toInt = 2 * z.toInt := by omega
  have b2 : ((0 : Int32).toInt64 + q.toInt64).toInt = q.toInt := by omega
  have m := own_min (F2 ((2 : Int64) * ((z).toInt64)) ((((0 : Int32)).toInt64) + ((q).toInt64))) (2147483647 : Int64)
  rw [own_max, b1, b2, lM] at m
  have m' : (F3 (F2 ((2 : Int64) * ((z).toInt64)) ((((0 : Int32)).toInt64) + ((q).toInt64))) (2147483647 : Int64)).toInt = if 2 * z.toInt < q.toInt then q.toInt else 2 * z.toInt := by
    rw [m, if_neg]
    split <;> omega
  clear m a1 a2 a3 a4 b1 b2
  generalize F3 (F2 ((2 : Int64) * ((z).toInt64)) ((((0 : Int32)).toInt64) + ((q).toInt64))) (2147483647 : Int64) = w at *
  have c1 := c_l2i w
  have c2 := rng32 w.toInt32
  have m3 : w.toInt32.toInt = if 2 * z.toInt < q.toInt then q.toInt else 2 * z.toInt := by
    by_cases c : 2 * z.toInt < q.toInt
    · rw [if_pos c] at m' ⊢; omega
    · rw [if_neg c] at m' ⊢; omega
  rw [e, Int32.lt_iff_toInt_lt, l0]
  have key : 0 ≤ w.toInt32.toInt ∧ w.toInt32.toInt ≤ 1023 ∧ w.toInt32.toInt ≠ z.toInt := by
    by_cases c : 2 * z.toInt < q.toInt
    · rw [if_pos c] at m3; omega
    · rw [if_neg c] at m3; omega
  exact ⟨⟨by omega, by omega⟩, fun h => key.2.2 (congrArg Int32.toInt h)⟩
theorem d6_0 : decode prog_19_method_2_code 0 = .ok (.iload_n 1, 1) := by decide +kernel
theorem d6_1 : decode prog_19_method_2_code 1 = .ok (.ldc 15, 2) := by decide +kernel
theorem d6_3 : decode prog_19_method_2_code 3 = .ok (.aload_n 0, 1) := by decide +kernel
theorem d6_4 : decode prog_19_method_2_code 4 = .ok (.getfield 16, 3) := by decide +kernel
theorem d6_7 : decode prog_19_method_2_code 7 = .ok (.isub, 1) := by decide +kernel
theorem d6_8 : decode prog_19_method_2_code 8 = .ok (.if_icmp .le 13, 3) := by decide +kernel
theorem d6_21 : decode prog_19_method_2_code 21 = .ok (.aload_n 0, 1) := by decide +kernel
theorem d6_22 : decode prog_19_method_2_code 22 = .ok (.getfield 16, 3) := by decide +kernel
theorem d6_25 : decode prog_19_method_2_code 25 = .ok (.istore_n 2, 1) := by decide +kernel
theorem d6_26 : decode prog_19_method_2_code 26 = .ok (.iload_n 1, 1) := by decide +kernel
theorem d6_27 : decode prog_19_method_2_code 27 = .ok (.aload_n 0, 1) := by decide +kernel
theorem d6_28 : decode prog_19_method_2_code 28 = .ok (.getfield 7, 3) := by decide +kernel
theorem d6_31 : decode prog_19_method_2_code 31 = .ok (.arraylength, 1) := by decide +kernel
theorem d6_32 : decode prog_19_method_2_code 32 = .ok (.aload_n 0, 1) := by decide +kernel
theorem d6_33 : decode prog_19_method_2_code 33 = .ok (.getfield 16, 3) := by decide +kernel
theorem d6_36 : decode prog_19_method_2_code 36 = .ok (.isub, 1) := by decide +kernel
theorem d6_37 : decode prog_19_method_2_code 37 = .ok (.if_icmp .le 44, 3) := by decide +kernel
theorem d6_40 : decode prog_19_method_2_code 40 = .ok (.ldc2_w 29, 3) := by decide +kernel
theorem d6_43 : decode prog_19_method_2_code 43 = .ok (.aload_n 0, 1) := by decide +kernel
theorem d6_44 : decode prog_19_method_2_code 44 = .ok (.getfield 7, 3) := by decide +kernel
theorem d6_47 : decode prog_19_method_2_code 47 = .ok (.arraylength, 1) := by decide +kernel
theorem d6_48 : decode prog_19_method_2_code 48 = .ok (.i2l, 1) := by decide +kernel
theorem d6_49 : decode prog_19_method_2_code 49 = .ok (.lmul, 1) := by decide +kernel
theorem d6_50 : decode prog_19_method_2_code 50 = .ok (.aload_n 0, 1) := by decide +kernel
theorem d6_51 : decode prog_19_method_2_code 51 = .ok (.getfield 16, 3) := by decide +kernel
theorem d6_54 : decode prog_19_method_2_code 54 = .ok (.i2l, 1) := by decide +kernel
theorem d6_55 : decode prog_19_method_2_code 55 = .ok (.iload_n 1, 1) := by decide +kernel
theorem d6_56 : decode prog_19_method_2_code 56 = .ok (.i2l, 1) := by decide +kernel
theorem d6_57 : decode prog_19_method_2_code 57 = .ok (.ladd, 1) := by decide +kernel
theorem d6_58 : decode prog_19_method_2_code 58 = .ok (.invokestatic 31, 3) := by decide +kernel
theorem d6_61 : decode prog_19_method_2_code 61 = .ok (.lstore_n 3, 1) := by decide +kernel
theorem d6_62 : decode prog_19_method_2_code 62 = .ok (.aload_n 0, 1) := by decide +kernel
theorem d6_63 : decode prog_19_method_2_code 63 = .ok (.aload_n 0, 1) := by decide +kernel
theorem d6_64 : decode prog_19_method_2_code 64 = .ok (.getfield 7, 3) := by decide +kernel
theorem d6_67 : decode prog_19_method_2_code 67 = .ok (.lload_n 3, 1) := by decide +kernel
theorem d6_68 : decode prog_19_method_2_code 68 = .ok (.ldc2_w 37, 3) := by decide +kernel
theorem d6_71 : decode prog_19_method_2_code 71 = .ok (.invokestatic 39, 3) := by decide +kernel
theorem d6_74 : decode prog_19_method_2_code 74 = .ok (.l2i, 1) := by decide +kernel
theorem d6_75 : decode prog_19_method_2_code 75 = .ok (.invokestatic 42, 3) := by decide +kernel
theorem d6_78 : decode prog_19_method_2_code 78 = .ok (.putfield 7, 3) := by decide +kernel
theorem d6_81 : decode prog_19_method_2_code 81 = .ok (.aload_n 0, 1) := by decide +kernel
theorem d6_82 : decode prog_19_method_2_code 82 = .ok (.dup, 1) := by decide +kernel
theorem d6_83 : decode prog_19_method_2_code 83 = .ok (.getfield 16, 3) := by decide +kernel
theorem d6_86 : decode prog_19_method_2_code 86 = .ok (.iload_n 1, 1) := by decide +kernel
theorem d6_87 : decode prog_19_method_2_code 87 = .ok (.iadd, 1) := by decide +kernel
theorem d6_88 : decode prog_19_method_2_code 88 = .ok (.putfield 16, 3) := by decide +kernel
theorem d6_91 : decode prog_19_method_2_code 91 = .ok (.iload_n 2, 1) := by decide +kernel
theorem d6_92 : decode prog_19_method_2_code 92 = .ok (.ireturn, 1) := by decide +kernel
theorem ef_6 (m : MethodId) (x0 : Addr) (x1 : Int32) : entryFrame m #[(.ref x0), (.int x1)] 5 = (mkF m 0 #[.val (.ref x0), .val (.int x1), .unset, .unset, .unset] []) := by first | (simp [entryFrame, mkF, argsToLocals, Value.category]; done) | rfl
def Q6 (Z : State) (a : Addr) (q : Int32) (b : Addr) (k : ClassId) (z : Int32) (vs : List Value) (d : Value) (h0 : Heap) (n0 : Nat) (vX : Option Value) (hX : Heap) (lX : List Loc) : Prop := vX = some (.int (0 : Int32)) ∧ Fr n0 lX ∧ (Keep h0 hX [a]) ∧ (Fld Z hX a "com/example/envelope/envelope/DataBuilder" "length" "I" (.int ((0 : Int32) + q)))
set_option maxRecDepth 65536 in
set_option maxHeartbeats 40000000 in
theorem rm6 (l : Launch) (Z : State) (a0 : Array Value) (hw : ∀ d ∈ tables_1, d.before a0 Z = true) (ws : List Jvm.Cond) (a : Addr) (q : Int32) (b : Addr) (k : ClassId) (z : Int32) (vs : List Value) (d : Value) (h0 : Heap) (n0 : Nat) (Z0 : n0 ≤ h0.size) (pr0 : Exa Z h0 a "com/example/envelope/envelope/DataBuilder") (pr1 : Fld Z h0 a "com/example/envelope/envelope/DataBuilder" "data" "[B" (.ref b)) (pr2 : Fld Z h0 a "com/example/envelope/envelope/DataBuilder" "length" "I" (.int (0 : Int32))) (pr3 : Arv Z h0 b k .byte z vs d) (pr4 : n0 ≤ a) (pr5 : a ≠ b) (pr6 : ¬ q < 0 ∧ q.toInt ≤ 1023) (pr7 : ¬ z < 0 ∧ z.toInt ≤ 255) :
    MetFree l (⟨"com/example/envelope/envelope/DataBuilder", "take", "(I)I"⟩ : MethodName) (head1 (Jvm.Cond.code (⟨"com/example/envelope/envelope/DataBuilder", "take", "(I)I"⟩ : MethodName) prog_19_method_2_code 5 (some .int) :: ws) ({ frames := 2, cells := 1, slots := 1023, locals := 33 } : Room)) (fun aX uX => aX = #[(.ref a), (.int q)] ∧ Z.Warmed39 uX.vm ∧ uX.heap = h0) (fun _ _ _ _ _ => True) (fun _ uX oX wX => ∃ vX lX, oX = .returned vX ∧ Q6 Z a q b k z vs d h0 n0 vX wX.heap lX ∧ FrameEnd uX oX wX lX ({ frames := 2, cells := 1, slots := 1023, locals := 33 } : Room).cells ({ frames := 2, cells := 1, slots := 1023, locals := 33 } : Room).slots) := by
  refine MetFree.of_bodySF (plainFor_of_name pn_0) hisR ?_
  intro p e s m args below meth c s₁ Bd hml0 hP hK
  obtain ⟨rfl, hZ, hh⟩ := hP
  have hx := Bd.exec
  have hby := Bd.bytes
  have hml : c.maxLocals = 5 := hml0
  have hown : s.vm.findClass "com/example/envelope/envelope/DataBuilder" = some m.cls := findClass_of_methodNamed Bd.named
  have hnm := (name_of_methodNamed Bd.named Bd.method).1
  have X0 : Stand p l e ({ frames := 2, cells := 1, slots := 1023, locals := 33 } : Room) s m #[(.ref a), (.int q)] below meth c s₁ [] 0 0 := Stand.of_body Bd
  have e0 : s₁.heap = h0 := by rw [← hh, Bd.state]; rfl
  have N0 := Fr.nil n0
  have pre0 : ∀ t, Steps p.tables e below (s₁.setTop (mkF m 0 #[.val (.ref a), .val (.int q), .unset, .unset, .unset] [])) t → Steps p.tables e below (s₁.setTop (entryFrame m #[(.ref a), (.int q)] 5)) t := fun t k => castTop (ef_6 m a q) k
  obtain ⟨T1, X1, e1, st1⟩ := getF X0 hx hZ hown (host := "") (Or.inl (hw _ (List.mem_of_getElem? (i := 19) rfl))) Via.refl e0 pr2 (g := (mkF m 4 #[.val (.ref a), .val (.int q), .unset, .unset, .unset] [(.ref a), (.int (2147483647 : Int32)), (.int q)])) rfl rfl (hb hby d6_4)
  obtain ⟨T2, X2, e2, st2⟩ := getF X1 hx hZ hown (host := "") (Or.inl (hw _ (List.mem_of_getElem? (i := 19) rfl))) Via.refl e1 pr2 (g := (mkF m 22 #[.val (.ref a), .val (.int q), .unset, .unset, .unset] [(.ref a)])) rfl rfl (hb hby d6_22)
  obtain ⟨T3, X3, e3, st3⟩ := getF X2 hx hZ hown (host := "") (Or.inl (hw _ (List.mem_of_getElem? (i := 11) rfl))) Via.refl e2 pr1 (g := (mkF m 28 #[.val (.ref a), .val (.int q), .val (.int (0 : Int32)), .unset, .unset] [(.ref a), (.int q)])) rfl rfl (hb hby d6_28)
  obtain ⟨cl_a4, Ar_a4, q_a4, S_a4, N_a4, H_a4, G_a4⟩ := id pr3
  obtain ⟨T5, X5, e5, st5⟩ := getF X3 hx hZ hown (host := "") (Or.inl (hw _ (List.mem_of_getElem? (i := 19) rfl))) Via.refl e3 pr2 (g := (mkF m 33 #[.val (.ref a), .val (.int q), .val (.int (0 : Int32)), .unset, .unset] [(.ref a), (.int z), (.int q)])) rfl rfl (hb hby d6_33)
  have P6 : ∀ t, Steps p.tables e below (T5.setTop (mkF m 37 #[.val (.ref a), .val (.int q), .val (.int (0 : Int32)), .unset, .unset] [(.int (z - (0 : Int32))), (.int q)])) t → Steps p.tables e below (s₁.setTop (entryFrame m #[(.ref a), (.int q)] 5)) t := by
    intro t kk
    refine pre0 _ ?_
    show Steps p.tables e below (s₁.setTop (mkF m 0 #[.val (.ref a), .val (.int q), .unset, .unset, .unset] [])) _
    refine XS.iloadN X0.here hx rfl (hb hby d6_0) rfl ?_
    show Steps p.tables e below (s₁.setTop (mkF m 1 #[.val (.ref a), .val (.int q), .unset, .unset, .unset] [(.int q)])) _
    refine X0.ldcInt hx hown (mvT hZ (hw _ (List.mem_of_getElem? (i := 18) rfl))) (g := (mkF m 1 #[.val (.ref a), .val (.int q), .unset, .unset, .unset] [(.int q)])) rfl (hb hby d6_1) _ ?_
    show Steps p.tables e below (s₁.setTop (mkF m 3 #[.val (.ref a), .val (.int q), .unset, .unset, .unset] [(.int (2147483647 : Int32)), (.int q)])) _
    refine XS.aloadN X0.here hx rfl (hb hby d6_3) rfl rfl ?_
    show Steps p.tables e below (s₁.setTop (mkF m 4 #[.val (.ref a), .val (.int q), .unset, .unset, .unset] [(.ref a), (.int (2147483647 : Int32)), (.int q)])) _
    refine st1 _ ?_
    show Steps p.tables e below (T1.setTop (mkF m 7 #[.val (.ref a), .val (.int q), .unset, .unset, .unset] [(.int (0 : Int32)), (.int (2147483647 : Int32)), (.int q)])) _
    refine XS.isub X1.here hx rfl (hb hby d6_7) rfl ?_
    show Steps p.tables e below (T1.setTop (mkF m 8 #[.val (.ref a), .val (.int q), .unset, .unset, .unset] [(.int (2147483647 : Int32)), (.int q)])) _
    refine XS.icmpYes X1.here hx rfl (pc0 := 8) (pc' := 21) rfl (hb hby d6_8) rfl (XT.ii_le_t (own_lt_max q)) (by decide) (by decide) ?_
    show Steps p.tables e below (T1.setTop (mkF m 21 #[.val (.ref a), .val (.int q), .unset, .unset, .unset] [])) _
    refine XS.aloadN X1.here hx rfl (hb hby d6_21) rfl rfl ?_
    show Steps p.tables e below (T1.setTop (mkF m 22 #[.val (.ref a), .val (.int q), .unset, .unset, .unset] [(.ref a)])) _
    refine st2 _ ?_
    show Steps p.tables e below (T2.setTop (mkF m 25 #[.val (.ref a), .val (.int q), .unset, .unset, .unset] [(.int (0 : Int32))])) _
    refine XS.istoreN X2.here hx rfl (hb hby d6_25) rfl (l' := #[.val (.ref a), .val (.int q), .val (.int (0 : Int32)), .unset, .unset]) rfl ?_
    show Steps p.tables e below (T2.setTop (mkF m 26 #[.val (.ref a), .val (.int q), .val (.int (0 : Int32)), .unset, .unset] [])) _
    refine XS.iloadN X2.here hx rfl (hb hby d6_26) rfl ?_
    show Steps p.tables e below (T2.setTop (mkF m 27 #[.val (.ref a), .val (.int q), .val (.int (0 : Int32)), .unset, .unset] [(.int q)])) _
    refine XS.aloadN X2.here hx rfl (hb hby d6_27) rfl rfl ?_
    show Steps p.tables e below (T2.setTop (mkF m 28 #[.val (.ref a), .val (.int q), .val (.int (0 : Int32)), .unset, .unset] [(.ref a), (.int q)])) _
    refine st3 _ ?_
    show Steps p.tables e below (T3.setTop (mkF m 31 #[.val (.ref a), .val (.int q), .val (.int (0 : Int32)), .unset, .unset] [(.ref b), (.int q)])) _
    refine X3.arraylength hx (by rw [e3]; exact Ar_a4.1) (State.isArrayOf_alike hZ.alike Ar_a4.2.1) (g := (mkF m 31 #[.val (.ref a), .val (.int q), .val (.int (0 : Int32)), .unset, .unset] [(.ref b), (.int q)])) rfl rfl (hb hby d6_31) _ ?_
    rw [len_of S_a4 N_a4]
    show Steps p.tables e below (T3.setTop (mkF m 32 #[.val (.ref a), .val (.int q), .val (.int (0 : Int32)), .unset, .unset] [(.int z), (.int q)])) _
    refine XS.aloadN X3.here hx rfl (hb hby d6_32) rfl rfl ?_
    show Steps p.tables e below (T3.setTop (mkF m 33 #[.val (.ref a), .val (.int q), .val (.int (0 : Int32)), .unset, .unset] [(.ref a), (.int z), (.int q)])) _
    refine st5 _ ?_
    show Steps p.tables e below (T5.setTop (mkF m 36 #[.val (.ref a), .val (.int q), .val (.int (0 : Int32)), .unset, .unset] [(.int (0 : Int32)), (.int z), (.int q)])) _
    refine XS.isub X5.here hx rfl (hb hby d6_36) rfl ?_
    show Steps p.tables e below (T5.setTop (mkF m 37 #[.val (.ref a), .val (.int q), .val (.int (0 : Int32)), .unset, .unset] [(.int (z - (0 : Int32))), (.int q)])) _
    exact kk
  by_cases c7 : (z - (0 : Int32)) < q
  · skip
    obtain ⟨T8, X8, e8, st8⟩ := getF X5 hx hZ hown (host := "") (Or.inl (hw _ (List.mem_of_getElem? (i := 11) rfl))) Via.refl e5 pr1 (g := (mkF m 44 #[.val (.ref a), .val (.int q), .val (.int (0 : Int32)), .unset, .unset] [(.ref a), (.long (2 : Int64))])) rfl rfl (hb hby d6_44)
    obtain ⟨cl_a9, Ar_a9, q_a9, S_a9, N_a9, H_a9, G_a9⟩ := id pr3
    obtain ⟨T10, X10, e10, st10⟩ := getF X8 hx hZ hown (host := "") (Or.inl (hw _ (List.mem_of_getElem? (i := 19) rfl))) Via.refl e8 pr2 (g := (mkF m 51 #[.val (.ref a), .val (.int q), .val (.int (0 : Int32)), .unset, .unset] [(.ref a), (.long ((2 : Int64) * ((z).toInt64)))])) rfl rfl (hb hby d6_51)
    obtain ⟨_, _, ⟨T11, L11, k11, n11⟩, -, X11, ⟨Lc11, hQ11, l11, y11, z11⟩, st11⟩ := Jvm.LawKit.callS X10 hx (y := (⟨"java/lang/Math", "max", "(JJ)J"⟩ : MethodName)) hown (mvT hZ (hw _ (List.mem_of_getElem? (i := 22) rfl))) (mvT hZ (hw _ (List.mem_of_getElem? (i := 23) rfl))) (mvT hZ (hw _ (List.mem_of_getElem? (i := 24) rfl))) (mvT hZ (hw _ (List.mem_of_getElem? (i := 25) rfl))) (by decide) (backOf (W := 0) (rm2 l Z a0 hw [] ((2 : Int64) * ((z).toInt64)) ((((0 : Int32)).toInt64) + ((q).toInt64)) h0 n0 Z0 ) hZ (hw _ (List.mem_of_getElem? (i := 25) rfl)) (hw _ (List.mem_of_getElem? (i := 24) rfl)) (by decide) (by decide)) (g := (mkF m 58 #[.val (.ref a), .val (.int q), .val (.int (0 : Int32)), .unset, .unset] [(.long ((((0 : Int32)).toInt64) + ((q).toInt64))), (.long ((2 : Int64) * ((z).toInt64)))])) rfl (by rw [hml]; rfl) (argsL := [(.long ((2 : Int64) * ((z).toInt64))), (.long ((((0 : Int32)).toInt64) + ((q).toInt64)))]) (rest := []) (lenOf pd_1 rfl) rfl (by show 2 * 0 + _ ≤ _; exact Nat.le_of_eq rfl) (hb hby d6_58) (fun _ _ => ⟨rfl, e10, (by decide : 0 + 0 ≤ _), (by decide : 0 + 0 ≤ _)⟩)
    dsimp only [Pt.U, Pt.locs, Pt.cells, Pt.slots] at X11 l11 y11 z11 st11 hQ11
    subst l11 y11 z11
    obtain ⟨rfl, Nq11, e11⟩ := hQ11
    have N11 := Fr.app N0 Nq11
    obtain ⟨T12, X12, e12, st12⟩ := getF X11 hx hZ hown (host := "") (Or.inl (hw _ (List.mem_of_getElem? (i := 11) rfl))) Via.refl e11 pr1 (g := (mkF m 64 #[.val (.ref a), .val (.int q), .val (.int (0 : Int32)), .val (.long (F2 ((2 : Int64) * ((z).toInt64)) ((((0 : Int32)).toInt64) + ((q).toInt64)))), .second] [(.ref a), (.ref a)])) rfl rfl (hb hby d6_64)
    obtain ⟨_, _, ⟨T13, L13, k13, n13⟩, -, X13, ⟨Lc13, hQ13, l13, y13, z13⟩, st13⟩ := Jvm.LawKit.callS X12 hx (y := (⟨"java/lang/Math", "min", "(JJ)J"⟩ : MethodName)) hown (mvT hZ (hw _ (List.mem_of_getElem? (i := 27) rfl))) (mvT hZ (hw _ (List.mem_of_getElem? (i := 28) rfl))) (mvT hZ (hw _ (List.mem_of_getElem? (i := 24) rfl))) (mvT hZ (hw _ (List.mem_of_getElem? (i := 29) rfl))) (by decide) (backOf (W := 2) (rm3 l Z a0 hw [] (F2 ((2 : Int64) * ((z).toInt64)) ((((0 : Int32)).toInt64) + ((q).toInt64))) (2147483647 : Int64) h0 n0 Z0 ) hZ (hw _ (List.mem_of_getElem? (i := 29) rfl)) (hw _ (List.mem_of_getElem? (i := 24) rfl)) (by decide) (by decide)) (g := (mkF m 71 #[.val (.ref a), .val (.int q), .val (.int (0 : Int32)), .val (.long (F2 ((2 : Int64) * ((z).toInt64)) ((((0 : Int32)).toInt64) + ((q).toInt64)))), .second] [(.long (2147483647 : Int64)), (.long (F2 ((2 : Int64) * ((z).toInt64)) ((((0 : Int32)).toInt64) + ((q).toInt64)))), (.ref b), (.ref a)])) rfl (by rw [hml]; rfl) (argsL := [(.long (F2 ((2 : Int64) * ((z).toInt64)) ((((0 : Int32)).toInt64) + ((q).toInt64)))), (.long (2147483647 : Int64))]) (rest := [(.ref b), (.ref a)]) (lenOf pd_1 rfl) rfl (by show 2 * 0 + _ ≤ _; exact Nat.le_of_eq rfl) (hb hby d6_71) (fun _ _ => ⟨rfl, e12, (by decide : 0 + 0 ≤ _), (by decide : 0 + 0 ≤ _)⟩)
    dsimp only [Pt.U, Pt.locs, Pt.cells, Pt.slots] at X13 l13 y13 z13 st13 hQ13
    subst l13 y13 z13
    obtain ⟨rfl, Nq13, e13⟩ := hQ13
    have N13 := Fr.app N11 Nq13
    obtain ⟨_, _, ⟨T14, L14, k14, n14⟩, -, X14, ⟨Lc14, hQ14, l14, y14, z14⟩, st14⟩ := Jvm.LawKit.callS X13 hx (y := (⟨"java/util/Arrays", "copyOf", "([BI)[B"⟩ : MethodName)) hown (mvT hZ (hw _ (List.mem_of_getElem? (i := 30) rfl))) (mvT hZ (hw _ (List.mem_of_getElem? (i := 31) rfl))) (mvT hZ (hw _ (List.mem_of_getElem? (i := 32) rfl))) (mvT hZ (hw _ (List.mem_of_getElem? (i := 33) rfl))) (by decide) (backOf (W := 1) (rm5 l Z a0 hw [] b (((F3 (F2 ((2 : Int64) * ((z).toInt64)) ((((0 : Int32)).toInt64) + ((q).toInt64))) (2147483647 : Int64))).toInt32) k z vs d h0 n0 Z0 pr3 (own_grow q z pr6.1 pr6.2 pr7.1 pr7.2 c7).1 (own_grow q z pr6.1 pr6.2 pr7.1 pr7.2 c7).2) hZ (hw _ (List.mem_of_getElem? (i := 33) rfl)) (hw _ (List.mem_of_getElem? (i := 32) rfl)) (by decide) (by decide)) (g := (mkF m 75 #[.val (.ref a), .val (.int q), .val (.int (0 : Int32)), .val (.long (F2 ((2 : Int64) * ((z).toInt64)) ((((0 : Int32)).toInt64) + ((q).toInt64)))), .second] [(.int (((F3 (F2 ((2 : Int64) * ((z).toInt64)) ((((0 : Int32)).toInt64) + ((q).toInt64))) (2147483647 : Int64))).toInt32)), (.ref b), (.ref a)])) rfl (by rw [hml]; rfl) (argsL := [(.ref b), (.int (((F3 (F2 ((2 : Int64) * ((z).toInt64)) ((((0 : Int32)).toInt64) + ((q).toInt64))) (2147483647 : Int64))).toInt32))]) (rest := [(.ref a)]) (lenOf pd_2 rfl) rfl (by show 2 * 0 + _ ≤ _; exact Nat.le_of_eq rfl) (hb hby d6_75) (fun _ _ => ⟨rfl, e13, (by decide : 0 + 1 ≤ _), (by decide : 0 + 1023 ≤ _)⟩)
    dsimp only [Pt.U, Pt.locs, Pt.cells, Pt.slots] at X14 l14 y14 z14 st14 hQ14
    subst l14 y14 z14
    obtain ⟨r_14, rfl, Nq14, K14, q14_0⟩ := hQ14
    have N14 := Fr.app N13 Nq14
    have f15 := (Exa.keep pr0 K14)
    have f16 := (Fld.keep pr1 K14 nin0)
    obtain ⟨T17, h17, X17, e17, W17, st17⟩ := putF X14 hx hZ hown (host := "") (Or.inl (hw _ (List.mem_of_getElem? (i := 11) rfl))) Via.refl rfl f16 f15 (Or.inl (hw _ (List.mem_of_getElem? (i := 12) rfl))) (hw _ (List.mem_of_getElem? (i := 2) rfl)) (ty := (.array .byte)) (by decide) rfl rfl (g := (mkF m 78 #[.val (.ref a), .val (.int q), .val (.int (0 : Int32)), .val (.long (F2 ((2 : Int64) * ((z).toInt64)) ((((0 : Int32)).toInt64) + ((q).toInt64)))), .second] [(.ref r_14), (.ref a)])) rfl rfl (hb hby d6_78)
    have N17 := Fr.snoc X17 N14 pr4
    have Fw17 := Fld.same W17 f16
    have f18 := (Fld.other W17 (Fld.keep pr2 K14 nin0) (Or.inr (slot_ne (Or.inl (hw _ (List.mem_of_getElem? (i := 20) rfl))) (Or.inl (hw _ (List.mem_of_getElem? (i := 12) rfl))) (by decide) (t := .int) (t' := (.array .byte)) (by decide) (by decide))))
    obtain ⟨T19, X19, e19, st19⟩ := getF X17 hx hZ hown (host := "") (Or.inl (hw _ (List.mem_of_getElem? (i := 19) rfl))) Via.refl e17 f18 (g := (mkF m 83 #[.val (.ref a), .val (.int q), .val (.int (0 : Int32)), .val (.long (F2 ((2 : Int64) * ((z).toInt64)) ((((0 : Int32)).toInt64) + ((q).toInt64)))), .second] [(.ref a), (.ref a)])) rfl rfl (hb hby d6_83)
    have f20 := (Exa.wr W17 f15)
    obtain ⟨T21, h21, X21, e21, W21, st21⟩ := putF X19 hx hZ hown (host := "") (Or.inl (hw _ (List.mem_of_getElem? (i := 19) rfl))) Via.refl e19 f18 f20 (Or.inl (hw _ (List.mem_of_getElem? (i := 20) rfl))) (hw _ (List.mem_of_getElem? (i := 2) rfl)) (ty := .int) (by decide) rfl rfl (g := (mkF m 88 #[.val (.ref a), .val (.int q), .val (.int (0 : Int32)), .val (.long (F2 ((2 : Int64) * ((z).toInt64)) ((((0 : Int32)).toInt64) + ((q).toInt64)))), .second] [(.int ((0 : Int32) + q)), (.ref a)])) rfl rfl (hb hby d6_88)
    have N21 := Fr.snoc X21 N17 pr4
    have Fw21 := Fld.same W21 f18
    have P22 : ∀ t, Steps p.tables e below (T21.setTop (mkF m 91 #[.val (.ref a), .val (.int q), .val (.int (0 : Int32)), .val (.long (F2 ((2 : Int64) * ((z).toInt64)) ((((0 : Int32)).toInt64) + ((q).toInt64)))), .second] [])) t → Steps p.tables e below (s₁.setTop (entryFrame m #[(.ref a), (.int q)] 5)) t := by
      intro t kk
      refine P6 _ ?_
      show Steps p.tables e below (T5.setTop (mkF m 37 #[.val (.ref a), .val (.int q), .val (.int (0 : Int32)), .unset, .unset] [(.int (z - (0 : Int32))), (.int q)])) _
      refine XS.icmpNo X5.here hx rfl (hb hby d6_37) rfl (XT.ii_le_f c7) ?_
      show Steps p.tables e below (T5.setTop (mkF m 40 #[.val (.ref a), .val (.int q), .val (.int (0 : Int32)), .unset, .unset] [])) _
      refine X5.ldc2Long hx hown (mvT hZ (hw _ (List.mem_of_getElem? (i := 21) rfl))) (g := (mkF m 40 #[.val (.ref a), .val (.int q), .val (.int (0 : Int32)), .unset, .unset] [])) rfl (hb hby d6_40) _ ?_
      show Steps p.tables e below (T5.setTop (mkF m 43 #[.val (.ref a), .val (.int q), .val (.int (0 : Int32)), .unset, .unset] [(.long (2 : Int64))])) _
      refine XS.aloadN X5.here hx rfl (hb hby d6_43) rfl rfl ?_
      show Steps p.tables e below (T5.setTop (mkF m 44 #[.val (.ref a), .val (.int q), .val (.int (0 : Int32)), .unset, .unset] [(.ref a), (.long (2 : Int64))])) _
      refine st8 _ ?_
      show Steps p.tables e below (T8.setTop (mkF m 47 #[.val (.ref a), .val (.int q), .val (.int (0 : Int32)), .unset, .unset] [(.ref b), (.long (2 : Int64))])) _
      refine X8.arraylength hx (by rw [e8]; exact Ar_a9.1) (State.isArrayOf_alike hZ.alike Ar_a9.2.1) (g := (mkF m 47 #[.val (.ref a), .val (.int q), .val (.int (0 : Int32)), .unset, .unset] [(.ref b), (.long (2 : Int64))])) rfl rfl (hb hby d6_47) _ ?_
      rw [len_of S_a9 N_a9]
      show Steps p.tables e below (T8.setTop (mkF m 48 #[.val (.ref a), .val (.int q), .val (.int (0 : Int32)), .unset, .unset] [(.int z), (.long (2 : Int64))])) _
      refine XS.i2l X8.here hx rfl (hb hby d6_48) rfl ?_
      show Steps p.tables e below (T8.setTop (mkF m 49 #[.val (.ref a), .val (.int q), .val (.int (0 : Int32)), .unset, .unset] [(.long ((z).toInt64)), (.long (2 : Int64))])) _
      refine XS.lmul X8.here hx rfl (hb hby d6_49) rfl ?_
      show Steps p.tables e below (T8.setTop (mkF m 50 #[.val (.ref a), .val (.int q), .val (.int (0 : Int32)), .unset, .unset] [(.long ((2 : Int64) * ((z).toInt64)))])) _
      refine XS.aloadN X8.here hx rfl (hb hby d6_50) rfl rfl ?_
      show Steps p.tables e below (T8.setTop (mkF m 51 #[.val (.ref a), .val (.int q), .val (.int (0 : Int32)), .unset, .unset] [(.ref a), (.long ((2 : Int64) * ((z).toInt64)))])) _
      refine st10 _ ?_
      show Steps p.tables e below (T10.setTop (mkF m 54 #[.val (.ref a), .val (.int q), .val (.int (0 : Int32)), .unset, .unset] [(.int (0 : Int32)), (.long ((2 : Int64) * ((z).toInt64)))])) _
      refine XS.i2l X10.here hx rfl (hb hby d6_54) rfl ?_
      show Steps p.tables e below (T10.setTop (mkF m 55 #[.val (.ref a), .val (.int q), .val (.int (0 : Int32)), .unset, .unset] [(.long (((0 : Int32)).toInt64)), (.long ((2 : Int64) * ((z).toInt64)))])) _
      refine XS.iloadN X10.here hx rfl (hb hby d6_55) rfl ?_
      show Steps p.tables e below (T10.setTop (mkF m 56 #[.val (.ref a), .val (.int q), .val (.int (0 : Int32)), .unset, .unset] [(.int q), (.long (((0 : Int32)).toInt64)), (.long ((2 : Int64) * ((z).toInt64)))])) _
      refine XS.i2l X10.here hx rfl (hb hby d6_56) rfl ?_
      show Steps p.tables e below (T10.setTop (mkF m 57 #[.val (.ref a), .val (.int q), .val (.int (0 : Int32)), .unset, .unset] [(.long ((q).toInt64)), (.long (((0 : Int32)).toInt64)), (.long ((2 : Int64) * ((z).toInt64)))])) _
      refine XS.ladd X10.here hx rfl (hb hby d6_57) rfl ?_
      show Steps p.tables e below (T10.setTop (mkF m 58 #[.val (.ref a), .val (.int q), .val (.int (0 : Int32)), .unset, .unset] [(.long ((((0 : Int32)).toInt64) + ((q).toInt64))), (.long ((2 : Int64) * ((z).toInt64)))])) _
      refine st11 _ ?_
      show Steps p.tables e below (T11.setTop (mkF m 61 #[.val (.ref a), .val (.int q), .val (.int (0 : Int32)), .unset, .unset] [(.long (F2 ((2 : Int64) * ((z).toInt64)) ((((0 : Int32)).toInt64) + ((q).toInt64))))])) _
      refine XS.lstoreN X11.here hx rfl (hb hby d6_61) rfl (l' := #[.val (.ref a), .val (.int q), .val (.int (0 : Int32)), .val (.long (F2 ((2 : Int64) * ((z).toInt64)) ((((0 : Int32)).toInt64) + ((q).toInt64)))), .second]) rfl ?_
      show Steps p.tables e below (T11.setTop (mkF m 62 #[.val (.ref a), .val (.int q), .val (.int (0 : Int32)), .val (.long (F2 ((2 : Int64) * ((z).toInt64)) ((((0 : Int32)).toInt64) + ((q).toInt64)))), .second] [])) _
      refine XS.aloadN X11.here hx rfl (hb hby d6_62) rfl rfl ?_
      show Steps p.tables e below (T11.setTop (mkF m 63 #[.val (.ref a), .val (.int q), .val (.int (0 : Int32)), .val (.long (F2 ((2 : Int64) * ((z).toInt64)) ((((0 : Int32)).toInt64) + ((q).toInt64)))), .second] [(.ref a)])) _
      refine XS.aloadN X11.here hx rfl (hb hby d6_63) rfl rfl ?_
      show Steps p.tables e below (T11.setTop (mkF m 64 #[.val (.ref a), .val (.int q), .val (.int (0 : Int32)), .val (.long (F2 ((2 : Int64) * ((z).toInt64)) ((((0 : Int32)).toInt64) + ((q).toInt64)))), .second] [(.ref a), (.ref a)])) _
      refine st12 _ ?_
      show Steps p.tables e below (T12.setTop (mkF m 67 #[.val (.ref a), .val (.int q), .val (.int (0 : Int32)), .val (.long (F2 ((2 : Int64) * ((z).toInt64)) ((((0 : Int32)).toInt64) + ((q).toInt64)))), .second] [(.ref b), (.ref a)])) _
      refine XS.lloadN X12.here hx rfl (hb hby d6_67) rfl ?_
      show Steps p.tables e below (T12.setTop (mkF m 68 #[.val (.ref a), .val (.int q), .val (.int (0 : Int32)), .val (.long (F2 ((2 : Int64) * ((z).toInt64)) ((((0 : Int32)).toInt64) + ((q).toInt64)))), .second] [(.long (F2 ((2 : Int64) * ((z).toInt64)) ((((0 : Int32)).toInt64) + ((q).toInt64)))), (.ref b), (.ref a)])) _
      refine X12.ldc2Long hx hown (mvT hZ (hw _ (List.mem_of_getElem? (i := 26) rfl))) (g := (mkF m 68 #[.val (.ref a), .val (.int q), .val (.int (0 : Int32)), .val (.long (F2 ((2 : Int64) * ((z).toInt64)) ((((0 : Int32)).toInt64) + ((q).toInt64)))), .second] [(.long (F2 ((2 : Int64) * ((z).toInt64)) ((((0 : Int32)).toInt64) + ((q).toInt64)))), (.ref b), (.ref a)])) rfl (hb hby d6_68) _ ?_
      show Steps p.tables e below (T12.setTop (mkF m 71 #[.val (.ref a), .val (.int q), .val (.int (0 : Int32)), .val (.long (F2 ((2 : Int64) * ((z).toInt64)) ((((0 : Int32)).toInt64) + ((q).toInt64)))), .second] [(.long (2147483647 : Int64)), (.long (F2 ((2 : Int64) * ((z).toInt64)) ((((0 : Int32)).toInt64) + ((q).toInt64)))), (.ref b), (.ref a)])) _
      refine st13 _ ?_
      show Steps p.tables e below (T13.setTop (mkF m 74 #[.val (.ref a), .val (.int q), .val (.int (0 : Int32)), .val (.long (F2 ((2 : Int64) * ((z).toInt64)) ((((0 : Int32)).toInt64) + ((q).toInt64)))), .second] [(.long (F3 (F2 ((2 : Int64) * ((z).toInt64)) ((((0 : Int32)).toInt64) + ((q).toInt64))) (2147483647 : Int64))), (.ref b), (.ref a)])) _
      refine XS.l2i X13.here hx rfl (hb hby d6_74) rfl ?_
      show Steps p.tables e below (T13.setTop (mkF m 75 #[.val (.ref a), .val (.int q), .val (.int (0 : Int32)), .val (.long (F2 ((2 : Int64) * ((z).toInt64)) ((((0 : Int32)).toInt64) + ((q).toInt64)))), .second] [(.int (((F3 (F2 ((2 : Int64) * ((z).toInt64)) ((((0 : Int32)).toInt64) + ((q).toInt64))) (2147483647 : Int64))).toInt32)), (.ref b), (.ref a)])) _
      refine st14 _ ?_
      show Steps p.tables e below (T14.setTop (mkF m 78 #[.val (.ref a), .val (.int q), .val (.int (0 : Int32)), .val (.long (F2 ((2 : Int64) * ((z).toInt64)) ((((0 : Int32)).toInt64) + ((q).toInt64)))), .second] [(.ref r_14), (.ref a)])) _
      refine st17 _ ?_
      show Steps p.tables e below (T17.setTop (mkF m 81 #[.val (.ref a), .val (.int q), .val (.int (0 : Int32)), .val (.long (F2 ((2 : Int64) * ((z).toInt64)) ((((0 : Int32)).toInt64) + ((q).toInt64)))), .second] [])) _
      refine XS.aloadN X17.here hx rfl (hb hby d6_81) rfl rfl ?_
      show Steps p.tables e below (T17.setTop (mkF m 82 #[.val (.ref a), .val (.int q), .val (.int (0 : Int32)), .val (.long (F2 ((2 : Int64) * ((z).toInt64)) ((((0 : Int32)).toInt64) + ((q).toInt64)))), .second] [(.ref a)])) _
      refine XS.dup X17.here hx rfl (hb hby d6_82) rfl rfl ?_
      show Steps p.tables e below (T17.setTop (mkF m 83 #[.val (.ref a), .val (.int q), .val (.int (0 : Int32)), .val (.long (F2 ((2 : Int64) * ((z).toInt64)) ((((0 : Int32)).toInt64) + ((q).toInt64)))), .second] [(.ref a), (.ref a)])) _
      refine st19 _ ?_
      show Steps p.tables e below (T19.setTop (mkF m 86 #[.val (.ref a), .val (.int q), .val (.int (0 : Int32)), .val (.long (F2 ((2 : Int64) * ((z).toInt64)) ((((0 : Int32)).toInt64) + ((q).toInt64)))), .second] [(.int (0 : Int32)), (.ref a)])) _
      refine XS.iloadN X19.here hx rfl (hb hby d6_86) rfl ?_
      show Steps p.tables e below (T19.setTop (mkF m 87 #[.val (.ref a), .val (.int q), .val (.int (0 : Int32)), .val (.long (F2 ((2 : Int64) * ((z).toInt64)) ((((0 : Int32)).toInt64) + ((q).toInt64)))), .second] [(.int q), (.int (0 : Int32)), (.ref a)])) _
      refine XS.iadd X19.here hx rfl (hb hby d6_87) rfl ?_
      show Steps p.tables e below (T19.setTop (mkF m 88 #[.val (.ref a), .val (.int q), .val (.int (0 : Int32)), .val (.long (F2 ((2 : Int64) * ((z).toInt64)) ((((0 : Int32)).toInt64) + ((q).toInt64)))), .second] [(.int ((0 : Int32) + q)), (.ref a)])) _
      refine st21 _ ?_
      show Steps p.tables e below (T21.setTop (mkF m 91 #[.val (.ref a), .val (.int q), .val (.int (0 : Int32)), .val (.long (F2 ((2 : Int64) * ((z).toInt64)) ((((0 : Int32)).toInt64) + ((q).toInt64)))), .second] [])) _
      exact kk
    have P23 : ∀ t, Steps p.tables e below (T21.setTop (mkF m 92 #[.val (.ref a), .val (.int q), .val (.int (0 : Int32)), .val (.long (F2 ((2 : Int64) * ((z).toInt64)) ((((0 : Int32)).toInt64) + ((q).toInt64)))), .second] [(.int (0 : Int32))])) t → Steps p.tables e below (s₁.setTop (entryFrame m #[(.ref a), (.int q)] 5)) t := by
      intro t kk
      refine P22 _ ?_
      show Steps p.tables e below (T21.setTop (mkF m 91 #[.val (.ref a), .val (.int q), .val (.int (0 : Int32)), .val (.long (F2 ((2 : Int64) * ((z).toInt64)) ((((0 : Int32)).toInt64) + ((q).toInt64)))), .second] [])) _
      refine XS.iloadN X21.here hx rfl (hb hby d6_91) rfl ?_
      show Steps p.tables e below (T21.setTop (mkF m 92 #[.val (.ref a), .val (.int q), .val (.int (0 : Int32)), .val (.long (F2 ((2 : Int64) * ((z).toInt64)) ((((0 : Int32)).toInt64) + ((q).toInt64)))), .second] [(.int (0 : Int32))])) _
      exact kk
    have k24 : Keep h0 h21 [a] := (Keep.wr (Keep.wr (Keep.trans (Keep.refl h0 [a]) K14 all0) W17 (Or.inl (List.mem_of_getElem? (i := 0) rfl))) W21 (Or.inl (List.mem_of_getElem? (i := 0) rfl)))
    obtain ⟨fs, hr, hrun, hended, hW, hsame⟩ := X21.leave (v := some (.int (0 : Int32))) (fun h => by rw [Bd.returns] at h; cases h)
    refine ⟨_, _, P23 _ ?_, hrun, hended, _, _, rfl, ?_, ⟨_, rfl⟩, hW, hsame.mono (by decide) (by decide)⟩
    · exact retI X21 hx Bd.returns (hb hby d6_92) hr
    · show Q6 Z a q b k z vs d h0 n0 _ T21.heap _
      rw [e21]
      exact ⟨rfl, N21, k24, Fw21⟩
  · skip
    obtain ⟨T25, X25, e25, st25⟩ := getF X5 hx hZ hown (host := "") (Or.inl (hw _ (List.mem_of_getElem? (i := 19) rfl))) Via.refl e5 pr2 (g := (mkF m 83 #[.val (.ref a), .val (.int q), .val (.int (0 : Int32)), .unset, .unset] [(.ref a), (.ref a)])) rfl rfl (hb hby d6_83)
    obtain ⟨T26, h26, X26, e26, W26, st26⟩ := putF X25 hx hZ hown (host := "") (Or.inl (hw _ (List.mem_of_getElem? (i := 19) rfl))) Via.refl e25 pr2 pr0 (Or.inl (hw _ (List.mem_of_getElem? (i := 20) rfl))) (hw _ (List.mem_of_getElem? (i := 2) rfl)) (ty := .int) (by decide) rfl rfl (g := (mkF m 88 #[.val (.ref a), .val (.int q), .val (.int (0 : Int32)), .unset, .unset] [(.int ((0 : Int32) + q)), (.ref a)])) rfl rfl (hb hby d6_88)
    have N26 := Fr.snoc X26 N0 pr4
    have Fw26 := Fld.same W26 pr2
    have P27 : ∀ t, Steps p.tables e below (T26.setTop (mkF m 92 #[.val (.ref a), .val (.int q), .val (.int (0 : Int32)), .unset, .unset] [(.int (0 : Int32))])) t → Steps p.tables e below (s₁.setTop (entryFrame m #[(.ref a), (.int q)] 5)) t := by
      intro t kk
      refine P6 _ ?_
      show Steps p.tables e below (T5.setTop (mkF m 37 #[.val (.ref a), .val (.int q), .val (.int (0 : Int32)), .unset, .unset] [(.int (z - (0 : Int32))), (.int q)])) _
      refine XS.icmpYes X5.here hx rfl (pc0 := 37) (pc' := 81) rfl (hb hby d6_37) rfl (XT.ii_le_t c7) (by decide) (by decide) ?_
      show Steps p.tables e below (T5.setTop (mkF m 81 #[.val (.ref a), .val (.int q), .val (.int (0 : Int32)), .unset, .unset] [])) _
      refine XS.aloadN X5.here hx rfl (hb hby d6_81) rfl rfl ?_
      show Steps p.tables e below (T5.setTop (mkF m 82 #[.val (.ref a), .val (.int q), .val (.int (0 : Int32)), .unset, .unset] [(.ref a)])) _
      refine XS.dup X5.here hx rfl (hb hby d6_82) rfl rfl ?_
      show Steps p.tables e below (T5.setTop (mkF m 83 #[.val (.ref a), .val (.int q), .val (.int (0 : Int32)), .unset, .unset] [(.ref a), (.ref a)])) _
      refine st25 _ ?_
      show Steps p.tables e below (T25.setTop (mkF m 86 #[.val (.ref a), .val (.int q), .val (.int (0 : Int32)), .unset, .unset] [(.int (0 : Int32)), (.ref a)])) _
      refine XS.iloadN X25.here hx rfl (hb hby d6_86) rfl ?_
      show Steps p.tables e below (T25.setTop (mkF m 87 #[.val (.ref a), .val (.int q), .val (.int (0 : Int32)), .unset, .unset] [(.int q), (.int (0 : Int32)), (.ref a)])) _
      refine XS.iadd X25.here hx rfl (hb hby d6_87) rfl ?_
      show Steps p.tables e below (T25.setTop (mkF m 88 #[.val (.ref a), .val (.int q), .val (.int (0 : Int32)), .unset, .unset] [(.int ((0 : Int32) + q)), (.ref a)])) _
      refine st26 _ ?_
      show Steps p.tables e below (T26.setTop (mkF m 91 #[.val (.ref a), .val (.int q), .val (.int (0 : Int32)), .unset, .unset] [])) _
      refine XS.iloadN X26.here hx rfl (hb hby d6_91) rfl ?_
      show Steps p.tables e below (T26.setTop (mkF m 92 #[.val (.ref a), .val (.int q), .val (.int (0 : Int32)), .unset, .unset] [(.int (0 : Int32))])) _
      exact kk
    have k28 : Keep h0 h26 [a] := (Keep.wr (Keep.refl h0 [a]) W26 (Or.inl (List.mem_of_getElem? (i := 0) rfl)))
    obtain ⟨fs, hr, hrun, hended, hW, hsame⟩ := X26.leave (v := some (.int (0 : Int32))) (fun h => by rw [Bd.returns] at h; cases h)
    refine ⟨_, _, P27 _ ?_, hrun, hended, _, _, rfl, ?_, ⟨_, rfl⟩, hW, hsame.mono (by decide) (by decide)⟩
    · exact retI X26 hx Bd.returns (hb hby d6_92) hr
    · show Q6 Z a q b k z vs d h0 n0 _ T26.heap _
      rw [e26]
      exact ⟨rfl, N26, k28, Fw26⟩
theorem d7_0 : decode prog_19_method_3_code 0 = .ok (.lload_n 1, 1) := by decide +kernel
theorem d7_1 : decode prog_19_method_3_code 1 = .ok (.ldc 15, 2) := by decide +kernel
theorem d7_3 : decode prog_19_method_3_code 3 = .ok (.aload_n 0, 1) := by decide +kernel
theorem d7_4 : decode prog_19_method_3_code 4 = .ok (.getfield 16, 3) := by decide +kernel
theorem d7_7 : decode prog_19_method_3_code 7 = .ok (.isub, 1) := by decide +kernel
theorem d7_8 : decode prog_19_method_3_code 8 = .ok (.i2l, 1) := by decide +kernel
theorem d7_9 : decode prog_19_method_3_code 9 = .ok (.lcmp, 1) := by decide +kernel
theorem d7_10 : decode prog_19_method_3_code 10 = .ok (.ifCond .gt 7, 3) := by decide +kernel
theorem d7_13 : decode prog_19_method_3_code 13 = .ok (.iconst 1, 1) := by decide +kernel
theorem d7_14 : decode prog_19_method_3_code 14 = .ok (.goto 4, 3) := by decide +kernel
theorem d7_17 : decode prog_19_method_3_code 17 = .ok (.iconst 0, 1) := by decide +kernel
theorem d7_18 : decode prog_19_method_3_code 18 = .ok (.ireturn, 1) := by decide +kernel
theorem ef_7 (m : MethodId) (x0 : Addr) (x1 : Int64) : entryFrame m #[(.ref x0), (.long x1)] 3 = (mkF m 0 #[.val (.ref x0), .val (.long x1), .second] []) := by first | (simp [entryFrame, mkF, argsToLocals, Value.category]; done) | rfl
def F7 (x : Int64) (u : Int32) : Int32 := (if ((((2147483647 : Int32) - u)).toInt64) < x then (0 : Int32) else (1 : Int32))
def Q7 (Z : State) (a : Addr) (x : Int64) (u : Int32) (h0 : Heap) (n0 : Nat) (vX : Option Value) (hX : Heap) (lX : List Loc) : Prop := vX = some (.int (F7 x u)) ∧ Fr n0 lX ∧ (hX = h0)
set_option maxRecDepth 65536 in
set_option maxHeartbeats 40000000 in
theorem rm7 (l : Launch) (Z : State) (a0 : Array Value) (hw : ∀ d ∈ tables_1, d.before a0 Z = true) (ws : List Jvm.Cond) (a : Addr) (x : Int64) (u : Int32) (h0 : Heap) (n0 : Nat) (Z0 : n0 ≤ h0.size) (pr0 : Fld Z h0 a "com/example/envelope/envelope/DataBuilder" "length" "I" (.int u)) :
    MetFree l (⟨"com/example/envelope/envelope/DataBuilder", "canTake", "(J)Z"⟩ : MethodName) (head1 (Jvm.Cond.code (⟨"com/example/envelope/envelope/DataBuilder", "canTake", "(J)Z"⟩ : MethodName) prog_19_method_3_code 3 (some .boolean) :: ws) ({ frames := 0, cells := 0, slots := 0, locals := 0 } : Room)) (fun aX uX => aX = #[(.ref a), (.long x)] ∧ Z.Warmed39 uX.vm ∧ uX.heap = h0) (fun _ _ _ _ _ => True) (fun _ uX oX wX => ∃ vX lX, oX = .returned vX ∧ Q7 Z a x u h0 n0 vX wX.heap lX ∧ FrameEnd uX oX wX lX ({ frames := 0, cells := 0, slots := 0, locals := 0 } : Room).cells ({ frames := 0, cells := 0, slots := 0, locals := 0 } : Room).slots) := by
  refine MetFree.of_bodySF (plainFor_of_name pn_0) hisR ?_
  intro p e s m args below meth c s₁ Bd hml0 hP hK
  obtain ⟨rfl, hZ, hh⟩ := hP
  have hx := Bd.exec
  have hby := Bd.bytes
  have hml : c.maxLocals = 3 := hml0
  have hown : s.vm.findClass "com/example/envelope/envelope/DataBuilder" = some m.cls := findClass_of_methodNamed Bd.named
  have hnm := (name_of_methodNamed Bd.named Bd.method).1
  have X0 : Stand p l e ({ frames := 0, cells := 0, slots := 0, locals := 0 } : Room) s m #[(.ref a), (.long x)] below meth c s₁ [] 0 0 := Stand.of_body Bd
  have e0 : s₁.heap = h0 := by rw [← hh, Bd.state]; rfl
  have N0 := Fr.nil n0
  have pre0 : ∀ t, Steps p.tables e below (s₁.setTop (mkF m 0 #[.val (.ref a), .val (.long x), .second] [])) t → Steps p.tables e below (s₁.setTop (entryFrame m #[(.ref a), (.long x)] 3)) t := fun t k => castTop (ef_7 m a x) k
  obtain ⟨T1, X1, e1, st1⟩ := getF X0 hx hZ hown (host := "") (Or.inl (hw _ (List.mem_of_getElem? (i := 19) rfl))) Via.refl e0 pr0 (g := (mkF m 4 #[.val (.ref a), .val (.long x), .second] [(.ref a), (.int (2147483647 : Int32)), (.long x)])) rfl rfl (hb hby d7_4)
  have P2 : ∀ t, Steps p.tables e below (T1.setTop (mkF m 10 #[.val (.ref a), .val (.long x), .second] [(.int (XT.cmpL x ((((2147483647 : Int32) - u)).toInt64)))])) t → Steps p.tables e below (s₁.setTop (entryFrame m #[(.ref a), (.long x)] 3)) t := by
    intro t kk
    refine pre0 _ ?_
    show Steps p.tables e below (s₁.setTop (mkF m 0 #[.val (.ref a), .val (.long x), .second] [])) _
    refine XS.lloadN X0.here hx rfl (hb hby d7_0) rfl ?_
    show Steps p.tables e below (s₁.setTop (mkF m 1 #[.val (.ref a), .val (.long x), .second] [(.long x)])) _
    refine X0.ldcInt hx hown (mvT hZ (hw _ (List.mem_of_getElem? (i := 18) rfl))) (g := (mkF m 1 #[.val (.ref a), .val (.long x), .second] [(.long x)])) rfl (hb hby d7_1) _ ?_
    show Steps p.tables e below (s₁.setTop (mkF m 3 #[.val (.ref a), .val (.long x), .second] [(.int (2147483647 : Int32)), (.long x)])) _
    refine XS.aloadN X0.here hx rfl (hb hby d7_3) rfl rfl ?_
    show Steps p.tables e below (s₁.setTop (mkF m 4 #[.val (.ref a), .val (.long x), .second] [(.ref a), (.int (2147483647 : Int32)), (.long x)])) _
    refine st1 _ ?_
    show Steps p.tables e below (T1.setTop (mkF m 7 #[.val (.ref a), .val (.long x), .second] [(.int u), (.int (2147483647 : Int32)), (.long x)])) _
    refine XS.isub X1.here hx rfl (hb hby d7_7) rfl ?_
    show Steps p.tables e below (T1.setTop (mkF m 8 #[.val (.ref a), .val (.long x), .second] [(.int ((2147483647 : Int32) - u)), (.long x)])) _
    refine XS.i2l X1.here hx rfl (hb hby d7_8) rfl ?_
    show Steps p.tables e below (T1.setTop (mkF m 9 #[.val (.ref a), .val (.long x), .second] [(.long ((((2147483647 : Int32) - u)).toInt64)), (.long x)])) _
    refine XT.lcmp X1.here hx rfl (hb hby d7_9) rfl ?_
    show Steps p.tables e below (T1.setTop (mkF m 10 #[.val (.ref a), .val (.long x), .second] [(.int (XT.cmpL x ((((2147483647 : Int32) - u)).toInt64)))])) _
    exact kk
  by_cases c3 : ((((2147483647 : Int32) - u)).toInt64) < x
  · skip
    have P4 : ∀ t, Steps p.tables e below (T1.setTop (mkF m 18 #[.val (.ref a), .val (.long x), .second] [(.int (0 : Int32))])) t → Steps p.tables e below (s₁.setTop (entryFrame m #[(.ref a), (.long x)] 3)) t := by
      intro t kk
      refine P2 _ ?_
      show Steps p.tables e below (T1.setTop (mkF m 10 #[.val (.ref a), .val (.long x), .second] [(.int (XT.cmpL x ((((2147483647 : Int32) - u)).toInt64)))])) _
      refine XS.ifYes X1.here hx rfl (pc0 := 10) (pc' := 17) rfl (hb hby d7_10) rfl (XT.ll_gt_t c3) (by decide) (by decide) ?_
      show Steps p.tables e below (T1.setTop (mkF m 17 #[.val (.ref a), .val (.long x), .second] [])) _
      refine XS.iconst X1.here hx rfl (hb hby d7_17) ?_
      show Steps p.tables e below (T1.setTop (mkF m 18 #[.val (.ref a), .val (.long x), .second] [(.int (0 : Int32))])) _
      exact kk
    obtain ⟨fs, hr, hrun, hended, hW, hsame⟩ := X1.leave (v := some (.int (0 : Int32))) (fun h => by rw [Bd.returns] at h; cases h)
    refine ⟨_, _, P4 _ ?_, hrun, hended, _, _, rfl, ?_, ⟨_, rfl⟩, hW, hsame.mono (by decide) (by decide)⟩
    · exact retN X1 hx (t := .boolean) Bd.returns (by simp) (hb hby d7_18) hr
    · show Q7 Z a x u h0 n0 _ T1.heap _
      rw [e1]
      exact ⟨congrArg (fun z => some (Value.int z)) (show (F7 x u) = _ from ((if_pos c3).trans rfl)).symm, N0, rfl⟩
  · skip
    have P5 : ∀ t, Steps p.tables e below (T1.setTop (mkF m 18 #[.val (.ref a), .val (.long x), .second] [(.int (1 : Int32))])) t → Steps p.tables e below (s₁.setTop (entryFrame m #[(.ref a), (.long x)] 3)) t := by
      intro t kk
      refine P2 _ ?_
      show Steps p.tables e below (T1.setTop (mkF m 10 #[.val (.ref a), .val (.long x), .second] [(.int (XT.cmpL x ((((2147483647 : Int32) - u)).toInt64)))])) _
      refine XS.ifNo X1.here hx rfl (hb hby d7_10) rfl (XT.ll_gt_f c3) ?_
      show Steps p.tables e below (T1.setTop (mkF m 13 #[.val (.ref a), .val (.long x), .second] [])) _
      refine XS.iconst X1.here hx rfl (hb hby d7_13) ?_
      show Steps p.tables e below (T1.setTop (mkF m 14 #[.val (.ref a), .val (.long x), .second] [(.int (1 : Int32))])) _
      refine XS.goto X1.here hx rfl (pc0 := 14) (pc' := 18) rfl (hb hby d7_14) (by decide) (by decide) ?_
      show Steps p.tables e below (T1.setTop (mkF m 18 #[.val (.ref a), .val (.long x), .second] [(.int (1 : Int32))])) _
      exact kk
    obtain ⟨fs, hr, hrun, hended, hW, hsame⟩ := X1.leave (v := some (.int (1 : Int32))) (fun h => by rw [Bd.returns] at h; cases h)
    refine ⟨_, _, P5 _ ?_, hrun, hended, _, _, rfl, ?_, ⟨_, rfl⟩, hW, hsame.mono (by decide) (by decide)⟩
    · exact retN X1 hx (t := .boolean) Bd.returns (by simp) (hb hby d7_18) hr
    · show Q7 Z a x u h0 n0 _ T1.heap _
      rw [e1]
      exact ⟨congrArg (fun z => some (Value.int z)) (show (F7 x u) = _ from ((if_neg c3).trans rfl)).symm, N0, rfl⟩
theorem own_fin (j : Int64) (k : Int32) (j0 : 0 ≤ j.toInt) (k0 : 0 ≤ k.toInt) (k1 : k.toInt ≤ 1023) : F7 j ((0 : Int32) + k) = (if (((j).toUInt64 >>> ((31 : Int32) &&& 0x3f).toInt64.toUInt64).toInt64) = (0 : Int64) then (if (2147483647 : Int64) < (j + (k).toInt64) then (0 : Int32) else (1 : Int32)) else (0 : Int32)) := by
  have lM : (2147483647 : Int64).toInt = 2147483647 := by decide
  have lM3 : (2147483647 : Int32).toInt = 2147483647 := by decide
  have l0 : (0 : Int32).toInt = 0 := by decide
  have l0' : (0 : Int64).toInt = 0 := by decide
  have q4 : ((0 : Int32) + k).toInt = k.toInt := by
    rw [XT.add32 (by rw [l0]; exact ⟨by omega, by omega⟩), l0]
    omega
  have q6 : ((2147483647 : Int32) - ((0 : Int32) + k)).toInt = 2147483647 - k.toInt := by
    rw [XT.sub32 (by rw [lM3, q4]; exact ⟨by omega, by omega⟩), lM3, q4]
  have rj := rng64 j
  have s1 : (((j).toUInt64 >>> ((31 : Int32) &&& 0x3f).toInt64.toUInt64).toInt64).toInt = j.toInt / 2147483648 := by
    have s0 := c_lushr j 31 31 (by decide) (by decide)
    rw [Int.emod_eq_of_lt (by omega) (by omega)] at s0
    exact s0
  have f1 : ((((2147483647 : Int32) - ((0 : Int32) + k))).toInt64 < j) ↔ 2147483647 - k.toInt < j.toInt := by
    rw [Int64.lt_iff_toInt_lt, c_i2l, q6]
  unfold F7
  by_cases c1 : (((j).toUInt64 >>> ((31 : Int32) &&& 0x3f).toInt64.toUInt64).toInt64) = (0 : Int64)
  · rw [if_pos c1]
    have c3 : j.toInt / 2147483648 = 0 := by rw [← s1, c1]; exact l0'
    clear s1 c1
    have c4 : j.toInt < 2147483648 := by omega
    have q2 : (j + k.toInt64).toInt = j.toInt + k.toInt := by
      rw [XT.add64 (by rw [c_i2l]; exact ⟨by omega, by omega⟩), c_i2l]
    by_cases c2 : (2147483647 : Int64) < (j + k.toInt64)
    · rw [if_pos c2, if_pos]
      rw [Int64.lt_iff_toInt_lt, lM, q2] at c2
      exact f1.mpr (by omega)
    · rw [if_neg c2, if_neg]
      rw [Int64.lt_iff_toInt_lt, lM, q2] at c2
      exact fun h => by have := f1.mp h; omega
  · rw [if_neg c1, if_pos]
    have c3 : ¬ j.toInt / 2147483648 = 0 := fun h => c1 (Int64.toInt_inj.mp (by rw [s1, h, l0']))
    clear s1 c1
    exact f1.mpr (by omega)
theorem own_plain0 (p0 : Int32) (p1 : Int32) (p2 : Int32) (p3 : Int64) (j2 : Int64) (h_j2 : j2 = (if (p2 &&& (3 : Int32)) = (0 : Int32) then (p3 &&& (9223372036854775807 : Int64)) else (if (p2 &&& (3 : Int32)) = (1 : Int32) then (((2147483647 : Int64) - (((p1 &&& (1023 : Int32))).toInt64)) + ((p3 &&& (7 : Int64)) - (3 : Int64))) else (if (p2 &&& (3 : Int32)) = (2 : Int32) then (p3 &&& (2147483647 : Int64)) else (p3 &&& (255 : Int64)))))) (i16 : Int32) (h_i16 : i16 = (if (((j2).toUInt64 >>> ((31 : Int32) &&& 0x3f).toInt64.toUInt64).toInt64) = (0 : Int64) then (if (2147483647 : Int64) < (j2 + (((p1 &&& (1023 : Int32))).toInt64)) then (0 : Int32) else (1 : Int32)) else (0 : Int32))) (i25 : Int32) (h_i25 : i25 = (if (F7 j2 ((0 : Int32) + (p1 &&& (1023 : Int32)))) = i16 then (1 : Int32) else (0 : Int32)))  : i25 = (1 : Int32) := by
  have hk := own_k p1
  have hk2 := own_m1023 p1
  have hk0 : 0 ≤ (p1 &&& (1023 : Int32)).toInt := by omega
  have j0 : 0 ≤ j2.toInt := by
    rw [h_j2]
    split
    · exact own_j0 p3
    · split
      · exact own_j1 p3 _ hk0 hk.2
      · split
        · exact own_j2 p3
        · exact own_j3 p3
  rw [h_i25, if_pos]
  rw [h_i16]
  exact own_fin j2 _ j0 hk0 hk.2
theorem ef_0 (m : MethodId) (x0 : Int32) (x1 : Int32) (x2 : Int32) (x3 : Int64) : entryFrame m #[(.int x0), (.int x1), (.int x2), (.long x3)] maxLocals = (mkF m 0 #[.val (.int x0), .val (.int x1), .val (.int x2), .val (.long x3), .second, .unset, .unset, .unset, .unset, .unset, .unset, .unset] []) := by first | (simp [entryFrame, mkF, argsToLocals, Value.category, maxLocals]; done) | rfl
def Q0 (Z : State) (h0 : Heap) (n0 : Nat) (v : Option Value) (h : Heap) (L : List Loc) : Prop := v = some (.int (1 : Int32)) ∧ Fr n0 L
set_option maxRecDepth 65536 in
set_option maxHeartbeats 400000000 in
theorem rm0 (l : Launch) (Z : State) (a0 : Array Value) (hw : ∀ d ∈ tables_1, d.before a0 Z = true) (ws : List Jvm.Cond) (p0 : Int32) (p1 : Int32) (p2 : Int32) (p3 : Int64) (h0 : Heap) (n0 : Nat) (Z0 : n0 ≤ h0.size)  :
    MetFree l x (head1 (Jvm.Cond.code x code maxLocals ret :: ws) room_1) (fun a U => a = #[(.int p0), (.int p1), (.int p2), (.long p3)] ∧ Z.Warmed39 U.vm ∧ U.heap = h0) (fun _ _ _ _ _ => True) (fun _ U o U' => ∃ v L, o = .returned v ∧ Q0 Z h0 n0 v U'.heap L ∧ FrameEnd U o U' L room_1.cells room_1.slots) := by
  refine MetFree.of_bodySF (plainFor_of_name pn_2) hisR ?_
  intro p e s m args below meth c s₁ Bd hml0 hP hK
  obtain ⟨rfl, hZ, hh⟩ := hP
  have hx := Bd.exec
  have hby := Bd.bytes
  have hml : c.maxLocals = 12 := hml0
  have hown : s.vm.findClass "com/example/envelope/envelope/DataBuilderCanTakePinLaw" = some m.cls := findClass_of_methodNamed Bd.named
  have hnm := (name_of_methodNamed Bd.named Bd.method).1
  have X0 : Stand p l e room_1 s m #[(.int p0), (.int p1), (.int p2), (.long p3)] below meth c s₁ [] 0 0 := Stand.of_body Bd
  have e0 : s₁.heap = h0 := by rw [← hh, Bd.state]; rfl
  have N0 := Fr.nil n0
  have pre0 : ∀ t, Steps p.tables e below (s₁.setTop (mkF m 0 #[.val (.int p0), .val (.int p1), .val (.int p2), .val (.long p3), .second, .unset, .unset, .unset, .unset, .unset, .unset, .unset] [])) t → Steps p.tables e below (s₁.setTop (entryFrame m #[(.int p0), (.int p1), (.int p2), (.long p3)] maxLocals)) t := fun t k => castTop (ef_0 m p0 p1 p2 p3) k
  have P1 : ∀ t, Steps p.tables e below (s₁.setTop (mkF m 21 #[.val (.int p0), .val (.int p1), .val (.int p2), .val (.long p3), .second, .val (.int (p0 &&& (255 : Int32))), .val (.int (p1 &&& (1023 : Int32))), .val (.int (p2 &&& (3 : Int32))), .unset, .unset, .unset, .unset] [(.int (p2 &&& (3 : Int32)))])) t → Steps p.tables e below (s₁.setTop (entryFrame m #[(.int p0), (.int p1), (.int p2), (.long p3)] maxLocals)) t := by
    intro t kk
    refine pre0 _ ?_
    show Steps p.tables e below (s₁.setTop (mkF m 0 #[.val (.int p0), .val (.int p1), .val (.int p2), .val (.long p3), .second, .unset, .unset, .unset, .unset, .unset, .unset, .unset] [])) _
    refine XS.iloadN X0.here hx rfl (hb hby at_0) rfl ?_
    show Steps p.tables e below (s₁.setTop (mkF m 1 #[.val (.int p0), .val (.int p1), .val (.int p2), .val (.long p3), .second, .unset, .unset, .unset, .unset, .unset, .unset, .unset] [(.int p0)])) _
    refine XS.sipush X0.here hx rfl (hb hby at_1) ?_
    show Steps p.tables e below (s₁.setTop (mkF m 4 #[.val (.int p0), .val (.int p1), .val (.int p2), .val (.long p3), .second, .unset, .unset, .unset, .unset, .unset, .unset, .unset] [(.int (255 : Int32)), (.int p0)])) _
    refine XS.iand X0.here hx rfl (hb hby at_4) rfl ?_
    show Steps p.tables e below (s₁.setTop (mkF m 5 #[.val (.int p0), .val (.int p1), .val (.int p2), .val (.long p3), .second, .unset, .unset, .unset, .unset, .unset, .unset, .unset] [(.int (p0 &&& (255 : Int32)))])) _
    refine XS.istore X0.here hx rfl (hb hby at_5) rfl (l' := #[.val (.int p0), .val (.int p1), .val (.int p2), .val (.long p3), .second, .val (.int (p0 &&& (255 : Int32))), .unset, .unset, .unset, .unset, .unset, .unset]) rfl ?_
    show Steps p.tables e below (s₁.setTop (mkF m 7 #[.val (.int p0), .val (.int p1), .val (.int p2), .val (.long p3), .second, .val (.int (p0 &&& (255 : Int32))), .unset, .unset, .unset, .unset, .unset, .unset] [])) _
    refine XS.iloadN X0.here hx rfl (hb hby at_7) rfl ?_
    show Steps p.tables e below (s₁.setTop (mkF m 8 #[.val (.int p0), .val (.int p1), .val (.int p2), .val (.long p3), .second, .val (.int (p0 &&& (255 : Int32))), .unset, .unset, .unset, .unset, .unset, .unset] [(.int p1)])) _
    refine XS.sipush X0.here hx rfl (hb hby at_8) ?_
    show Steps p.tables e below (s₁.setTop (mkF m 11 #[.val (.int p0), .val (.int p1), .val (.int p2), .val (.long p3), .second, .val (.int (p0 &&& (255 : Int32))), .unset, .unset, .unset, .unset, .unset, .unset] [(.int (1023 : Int32)), (.int p1)])) _
    refine XS.iand X0.here hx rfl (hb hby at_11) rfl ?_
    show Steps p.tables e below (s₁.setTop (mkF m 12 #[.val (.int p0), .val (.int p1), .val (.int p2), .val (.long p3), .second, .val (.int (p0 &&& (255 : Int32))), .unset, .unset, .unset, .unset, .unset, .unset] [(.int (p1 &&& (1023 : Int32)))])) _
    refine XS.istore X0.here hx rfl (hb hby at_12) rfl (l' := #[.val (.int p0), .val (.int p1), .val (.int p2), .val (.long p3), .second, .val (.int (p0 &&& (255 : Int32))), .val (.int (p1 &&& (1023 : Int32))), .unset, .unset, .unset, .unset, .unset]) rfl ?_
    show Steps p.tables e below (s₁.setTop (mkF m 14 #[.val (.int p0), .val (.int p1), .val (.int p2), .val (.long p3), .second, .val (.int (p0 &&& (255 : Int32))), .val (.int (p1 &&& (1023 : Int32))), .unset, .unset, .unset, .unset, .unset] [])) _
    refine XS.iloadN X0.here hx rfl (hb hby at_14) rfl ?_
    show Steps p.tables e below (s₁.setTop (mkF m 15 #[.val (.int p0), .val (.int p1), .val (.int p2), .val (.long p3), .second, .val (.int (p0 &&& (255 : Int32))), .val (.int (p1 &&& (1023 : Int32))), .unset, .unset, .unset, .unset, .unset] [(.int p2)])) _
    refine XS.iconst X0.here hx rfl (hb hby at_15) ?_
    show Steps p.tables e below (s₁.setTop (mkF m 16 #[.val (.int p0), .val (.int p1), .val (.int p2), .val (.long p3), .second, .val (.int (p0 &&& (255 : Int32))), .val (.int (p1 &&& (1023 : Int32))), .unset, .unset, .unset, .unset, .unset] [(.int (3 : Int32)), (.int p2)])) _
    refine XS.iand X0.here hx rfl (hb hby at_16) rfl ?_
    show Steps p.tables e below (s₁.setTop (mkF m 17 #[.val (.int p0), .val (.int p1), .val (.int p2), .val (.long p3), .second, .val (.int (p0 &&& (255 : Int32))), .val (.int (p1 &&& (1023 : Int32))), .unset, .unset, .unset, .unset, .unset] [(.int (p2 &&& (3 : Int32)))])) _
    refine XS.istore X0.here hx rfl (hb hby at_17) rfl (l' := #[.val (.int p0), .val (.int p1), .val (.int p2), .val (.long p3), .second, .val (.int (p0 &&& (255 : Int32))), .val (.int (p1 &&& (1023 : Int32))), .val (.int (p2 &&& (3 : Int32))), .unset, .unset, .unset, .unset]) rfl ?_
    show Steps p.tables e below (s₁.setTop (mkF m 19 #[.val (.int p0), .val (.int p1), .val (.int p2), .val (.long p3), .second, .val (.int (p0 &&& (255 : Int32))), .val (.int (p1 &&& (1023 : Int32))), .val (.int (p2 &&& (3 : Int32))), .unset, .unset, .unset, .unset] [])) _
    refine XS.iload X0.here hx rfl (hb hby at_19) rfl ?_
    show Steps p.tables e below (s₁.setTop (mkF m 21 #[.val (.int p0), .val (.int p1), .val (.int p2), .val (.long p3), .second, .val (.int (p0 &&& (255 : Int32))), .val (.int (p1 &&& (1023 : Int32))), .val (.int (p2 &&& (3 : Int32))), .unset, .unset, .unset, .unset] [(.int (p2 &&& (3 : Int32)))])) _
    exact kk
  obtain ⟨j2, h_j2, P3⟩ : ∃ (j2 : Int64), j2 = (if (p2 &&& (3 : Int32)) = (0 : Int32) then (p3 &&& (9223372036854775807 : Int64)) else (if (p2 &&& (3 : Int32)) = (1 : Int32) then (((2147483647 : Int64) - (((p1 &&& (1023 : Int32))).toInt64)) + ((p3 &&& (7 : Int64)) - (3 : Int64))) else (if (p2 &&& (3 : Int32)) = (2 : Int32) then (p3 &&& (2147483647 : Int64)) else (p3 &&& (255 : Int64))))) ∧ ∀ t, Steps p.tables e below (s₁.setTop (mkF m 85 #[.val (.int p0), .val (.int p1), .val (.int p2), .val (.long p3), .second, .val (.int (p0 &&& (255 : Int32))), .val (.int (p1 &&& (1023 : Int32))), .val (.int (p2 &&& (3 : Int32))), .val (.long j2), .second, .unset, .unset] [])) t → Steps p.tables e below (s₁.setTop (entryFrame m #[(.int p0), (.int p1), (.int p2), (.long p3)] maxLocals)) t := by
    by_cases c4 : (p2 &&& (3 : Int32)) = (0 : Int32)
    · skip
      refine ⟨(p3 &&& (9223372036854775807 : Int64)), ((if_pos c4).trans rfl).symm, fun t kk => P1 t ?_⟩
      show Steps p.tables e below (s₁.setTop (mkF m 21 #[.val (.int p0), .val (.int p1), .val (.int p2), .val (.long p3), .second, .val (.int (p0 &&& (255 : Int32))), .val (.int (p1 &&& (1023 : Int32))), .val (.int (p2 &&& (3 : Int32))), .unset, .unset, .unset, .unset] [(.int (p2 &&& (3 : Int32)))])) _
      refine XS.ifNo X0.here hx rfl (hb hby at_21) rfl (XT.i0_ne_f c4) ?_
      show Steps p.tables e below (s₁.setTop (mkF m 24 #[.val (.int p0), .val (.int p1), .val (.int p2), .val (.long p3), .second, .val (.int (p0 &&& (255 : Int32))), .val (.int (p1 &&& (1023 : Int32))), .val (.int (p2 &&& (3 : Int32))), .unset, .unset, .unset, .unset] [])) _
      refine XS.lloadN X0.here hx rfl (hb hby at_24) rfl ?_
      show Steps p.tables e below (s₁.setTop (mkF m 25 #[.val (.int p0), .val (.int p1), .val (.int p2), .val (.long p3), .second, .val (.int (p0 &&& (255 : Int32))), .val (.int (p1 &&& (1023 : Int32))), .val (.int (p2 &&& (3 : Int32))), .unset, .unset, .unset, .unset] [(.long p3)])) _
      refine X0.ldc2Long hx hown (mvT hZ (hw _ (List.mem_of_getElem? (i := 49) rfl))) (g := (mkF m 25 #[.val (.int p0), .val (.int p1), .val (.int p2), .val (.long p3), .second, .val (.int (p0 &&& (255 : Int32))), .val (.int (p1 &&& (1023 : Int32))), .val (.int (p2 &&& (3 : Int32))), .unset, .unset, .unset, .unset] [(.long p3)])) rfl (hb hby at_25) _ ?_
      show Steps p.tables e below (s₁.setTop (mkF m 28 #[.val (.int p0), .val (.int p1), .val (.int p2), .val (.long p3), .second, .val (.int (p0 &&& (255 : Int32))), .val (.int (p1 &&& (1023 : Int32))), .val (.int (p2 &&& (3 : Int32))), .unset, .unset, .unset, .unset] [(.long (9223372036854775807 : Int64)), (.long p3)])) _
      refine XS.land X0.here hx rfl (hb hby at_28) rfl ?_
      show Steps p.tables e below (s₁.setTop (mkF m 29 #[.val (.int p0), .val (.int p1), .val (.int p2), .val (.long p3), .second, .val (.int (p0 &&& (255 : Int32))), .val (.int (p1 &&& (1023 : Int32))), .val (.int (p2 &&& (3 : Int32))), .unset, .unset, .unset, .unset] [(.long (p3 &&& (9223372036854775807 : Int64)))])) _
      refine XS.lstore X0.here hx rfl (hb hby at_29) rfl (l' := #[.val (.int p0), .val (.int p1), .val (.int p2), .val (.long p3), .second, .val (.int (p0 &&& (255 : Int32))), .val (.int (p1 &&& (1023 : Int32))), .val (.int (p2 &&& (3 : Int32))), .val (.long (p3 &&& (9223372036854775807 : Int64))), .second, .unset, .unset]) rfl ?_
      show Steps p.tables e below (s₁.setTop (mkF m 31 #[.val (.int p0), .val (.int p1), .val (.int p2), .val (.long p3), .second, .val (.int (p0 &&& (255 : Int32))), .val (.int (p1 &&& (1023 : Int32))), .val (.int (p2 &&& (3 : Int32))), .val (.long (p3 &&& (9223372036854775807 : Int64))), .second, .unset, .unset] [])) _
      refine XS.goto X0.here hx rfl (pc0 := 31) (pc' := 85) rfl (hb hby at_31) (by decide) (by decide) ?_
      show Steps p.tables e below (s₁.setTop (mkF m 85 #[.val (.int p0), .val (.int p1), .val (.int p2), .val (.long p3), .second, .val (.int (p0 &&& (255 : Int32))), .val (.int (p1 &&& (1023 : Int32))), .val (.int (p2 &&& (3 : Int32))), .val (.long (p3 &&& (9223372036854775807 : Int64))), .second, .unset, .unset] [])) _
      exact kk
    · skip
      have P5 : ∀ t, Steps p.tables e below (s₁.setTop (mkF m 37 #[.val (.int p0), .val (.int p1), .val (.int p2), .val (.long p3), .second, .val (.int (p0 &&& (255 : Int32))), .val (.int (p1 &&& (1023 : Int32))), .val (.int (p2 &&& (3 : Int32))), .unset, .unset, .unset, .unset] [(.int (1 : Int32)), (.int (p2 &&& (3 : Int32)))])) t → Steps p.tables e below (s₁.setTop (entryFrame m #[(.int p0), (.int p1), (.int p2), (.long p3)] maxLocals)) t := by
        intro t kk
        refine P1 _ ?_
        show Steps p.tables e below (s₁.setTop (mkF m 21 #[.val (.int p0), .val (.int p1), .val (.int p2), .val (.long p3), .second, .val (.int (p0 &&& (255 : Int32))), .val (.int (p1 &&& (1023 : Int32))), .val (.int (p2 &&& (3 : Int32))), .unset, .unset, .unset, .unset] [(.int (p2 &&& (3 : Int32)))])) _
        refine XS.ifYes X0.here hx rfl (pc0 := 21) (pc' := 34) rfl (hb hby at_21) rfl (XT.i0_ne_t c4) (by decide) (by decide) ?_
        show Steps p.tables e below (s₁.setTop (mkF m 34 #[.val (.int p0), .val (.int p1), .val (.int p2), .val (.long p3), .second, .val (.int (p0 &&& (255 : Int32))), .val (.int (p1 &&& (1023 : Int32))), .val (.int (p2 &&& (3 : Int32))), .unset, .unset, .unset, .unset] [])) _
        refine XS.iload X0.here hx rfl (hb hby at_34) rfl ?_
        show Steps p.tables e below (s₁.setTop (mkF m 36 #[.val (.int p0), .val (.int p1), .val (.int p2), .val (.long p3), .second, .val (.int (p0 &&& (255 : Int32))), .val (.int (p1 &&& (1023 : Int32))), .val (.int (p2 &&& (3 : Int32))), .unset, .unset, .unset, .unset] [(.int (p2 &&& (3 : Int32)))])) _
        refine XS.iconst X0.here hx rfl (hb hby at_36) ?_
        show Steps p.tables e below (s₁.setTop (mkF m 37 #[.val (.int p0), .val (.int p1), .val (.int p2), .val (.long p3), .second, .val (.int (p0 &&& (255 : Int32))), .val (.int (p1 &&& (1023 : Int32))), .val (.int (p2 &&& (3 : Int32))), .unset, .unset, .unset, .unset] [(.int (1 : Int32)), (.int (p2 &&& (3 : Int32)))])) _
        exact kk
      by_cases c6 : (p2 &&& (3 : Int32)) = (1 : Int32)
      · skip
        refine ⟨(((2147483647 : Int64) - (((p1 &&& (1023 : Int32))).toInt64)) + ((p3 &&& (7 : Int64)) - (3 : Int64))), ((if_neg c4).trans ((if_pos c6).trans rfl)).symm, fun t kk => P5 t ?_⟩
        show Steps p.tables e below (s₁.setTop (mkF m 37 #[.val (.int p0), .val (.int p1), .val (.int p2), .val (.long p3), .second, .val (.int (p0 &&& (255 : Int32))), .val (.int (p1 &&& (1023 : Int32))), .val (.int (p2 &&& (3 : Int32))), .unset, .unset, .unset, .unset] [(.int (1 : Int32)), (.int (p2 &&& (3 : Int32)))])) _
        refine XS.icmpNo X0.here hx rfl (hb hby at_37) rfl (XT.ii_ne_f c6) ?_
        show Steps p.tables e below (s₁.setTop (mkF m 40 #[.val (.int p0), .val (.int p1), .val (.int p2), .val (.long p3), .second, .val (.int (p0 &&& (255 : Int32))), .val (.int (p1 &&& (1023 : Int32))), .val (.int (p2 &&& (3 : Int32))), .unset, .unset, .unset, .unset] [])) _
        refine X0.ldc2Long hx hown (mvT hZ (hw _ (List.mem_of_getElem? (i := 0) rfl))) (g := (mkF m 40 #[.val (.int p0), .val (.int p1), .val (.int p2), .val (.long p3), .second, .val (.int (p0 &&& (255 : Int32))), .val (.int (p1 &&& (1023 : Int32))), .val (.int (p2 &&& (3 : Int32))), .unset, .unset, .unset, .unset] [])) rfl (hb hby at_40) _ ?_
        show Steps p.tables e below (s₁.setTop (mkF m 43 #[.val (.int p0), .val (.int p1), .val (.int p2), .val (.long p3), .second, .val (.int (p0 &&& (255 : Int32))), .val (.int (p1 &&& (1023 : Int32))), .val (.int (p2 &&& (3 : Int32))), .unset, .unset, .unset, .unset] [(.long (2147483647 : Int64))])) _
        refine XS.iload X0.here hx rfl (hb hby at_43) rfl ?_
        show Steps p.tables e below (s₁.setTop (mkF m 45 #[.val (.int p0), .val (.int p1), .val (.int p2), .val (.long p3), .second, .val (.int (p0 &&& (255 : Int32))), .val (.int (p1 &&& (1023 : Int32))), .val (.int (p2 &&& (3 : Int32))), .unset, .unset, .unset, .unset] [(.int (p1 &&& (1023 : Int32))), (.long (2147483647 : Int64))])) _
        refine XS.i2l X0.here hx rfl (hb hby at_45) rfl ?_
        show Steps p.tables e below (s₁.setTop (mkF m 46 #[.val (.int p0), .val (.int p1), .val (.int p2), .val (.long p3), .second, .val (.int (p0 &&& (255 : Int32))), .val (.int (p1 &&& (1023 : Int32))), .val (.int (p2 &&& (3 : Int32))), .unset, .unset, .unset, .unset] [(.long (((p1 &&& (1023 : Int32))).toInt64)), (.long (2147483647 : Int64))])) _
        refine XS.lsub X0.here hx rfl (hb hby at_46) rfl ?_
        show Steps p.tables e below (s₁.setTop (mkF m 47 #[.val (.int p0), .val (.int p1), .val (.int p2), .val (.long p3), .second, .val (.int (p0 &&& (255 : Int32))), .val (.int (p1 &&& (1023 : Int32))), .val (.int (p2 &&& (3 : Int32))), .unset, .unset, .unset, .unset] [(.long ((2147483647 : Int64) - (((p1 &&& (1023 : Int32))).toInt64)))])) _
        refine XS.lloadN X0.here hx rfl (hb hby at_47) rfl ?_
        show Steps p.tables e below (s₁.setTop (mkF m 48 #[.val (.int p0), .val (.int p1), .val (.int p2), .val (.long p3), .second, .val (.int (p0 &&& (255 : Int32))), .val (.int (p1 &&& (1023 : Int32))), .val (.int (p2 &&& (3 : Int32))), .unset, .unset, .unset, .unset] [(.long p3), (.long ((2147483647 : Int64) - (((p1 &&& (1023 : Int32))).toInt64)))])) _
        refine X0.ldc2Long hx hown (mvT hZ (hw _ (List.mem_of_getElem? (i := 47) rfl))) (g := (mkF m 48 #[.val (.int p0), .val (.int p1), .val (.int p2), .val (.long p3), .second, .val (.int (p0 &&& (255 : Int32))), .val (.int (p1 &&& (1023 : Int32))), .val (.int (p2 &&& (3 : Int32))), .unset, .unset, .unset, .unset] [(.long p3), (.long ((2147483647 : Int64) - (((p1 &&& (1023 : Int32))).toInt64)))])) rfl (hb hby at_48) _ ?_
        show Steps p.tables e below (s₁.setTop (mkF m 51 #[.val (.int p0), .val (.int p1), .val (.int p2), .val (.long p3), .second, .val (.int (p0 &&& (255 : Int32))), .val (.int (p1 &&& (1023 : Int32))), .val (.int (p2 &&& (3 : Int32))), .unset, .unset, .unset, .unset] [(.long (7 : Int64)), (.long p3), (.long ((2147483647 : Int64) - (((p1 &&& (1023 : Int32))).toInt64)))])) _
        refine XS.land X0.here hx rfl (hb hby at_51) rfl ?_
        show Steps p.tables e below (s₁.setTop (mkF m 52 #[.val (.int p0), .val (.int p1), .val (.int p2), .val (.long p3), .second, .val (.int (p0 &&& (255 : Int32))), .val (.int (p1 &&& (1023 : Int32))), .val (.int (p2 &&& (3 : Int32))), .unset, .unset, .unset, .unset] [(.long (p3 &&& (7 : Int64))), (.long ((2147483647 : Int64) - (((p1 &&& (1023 : Int32))).toInt64)))])) _
        refine X0.ldc2Long hx hown (mvT hZ (hw _ (List.mem_of_getElem? (i := 48) rfl))) (g := (mkF m 52 #[.val (.int p0), .val (.int p1), .val (.int p2), .val (.long p3), .second, .val (.int (p0 &&& (255 : Int32))), .val (.int (p1 &&& (1023 : Int32))), .val (.int (p2 &&& (3 : Int32))), .unset, .unset, .unset, .unset] [(.long (p3 &&& (7 : Int64))), (.long ((2147483647 : Int64) - (((p1 &&& (1023 : Int32))).toInt64)))])) rfl (hb hby at_52) _ ?_
        show Steps p.tables e below (s₁.setTop (mkF m 55 #[.val (.int p0), .val (.int p1), .val (.int p2), .val (.long p3), .second, .val (.int (p0 &&& (255 : Int32))), .val (.int (p1 &&& (1023 : Int32))), .val (.int (p2 &&& (3 : Int32))), .unset, .unset, .unset, .unset] [(.long (3 : Int64)), (.long (p3 &&& (7 : Int64))), (.long ((2147483647 : Int64) - (((p1 &&& (1023 : Int32))).toInt64)))])) _
        refine XS.lsub X0.here hx rfl (hb hby at_55) rfl ?_
        show Steps p.tables e below (s₁.setTop (mkF m 56 #[.val (.int p0), .val (.int p1), .val (.int p2), .val (.long p3), .second, .val (.int (p0 &&& (255 : Int32))), .val (.int (p1 &&& (1023 : Int32))), .val (.int (p2 &&& (3 : Int32))), .unset, .unset, .unset, .unset] [(.long ((p3 &&& (7 : Int64)) - (3 : Int64))), (.long ((2147483647 : Int64) - (((p1 &&& (1023 : Int32))).toInt64)))])) _
        refine XS.ladd X0.here hx rfl (hb hby at_56) rfl ?_
        show Steps p.tables e below (s₁.setTop (mkF m 57 #[.val (.int p0), .val (.int p1), .val (.int p2), .val (.long p3), .second, .val (.int (p0 &&& (255 : Int32))), .val (.int (p1 &&& (1023 : Int32))), .val (.int (p2 &&& (3 : Int32))), .unset, .unset, .unset, .unset] [(.long (((2147483647 : Int64) - (((p1 &&& (1023 : Int32))).toInt64)) + ((p3 &&& (7 : Int64)) - (3 : Int64))))])) _
        refine XS.lstore X0.here hx rfl (hb hby at_57) rfl (l' := #[.val (.int p0), .val (.int p1), .val (.int p2), .val (.long p3), .second, .val (.int (p0 &&& (255 : Int32))), .val (.int (p1 &&& (1023 : Int32))), .val (.int (p2 &&& (3 : Int32))), .val (.long (((2147483647 : Int64) - (((p1 &&& (1023 : Int32))).toInt64)) + ((p3 &&& (7 : Int64)) - (3 : Int64)))), .second, .unset, .unset]) rfl ?_
        show Steps p.tables e below (s₁.setTop (mkF m 59 #[.val (.int p0), .val (.int p1), .val (.int p2), .val (.long p3), .second, .val (.int (p0 &&& (255 : Int32))), .val (.int (p1 &&& (1023 : Int32))), .val (.int (p2 &&& (3 : Int32))), .val (.long (((2147483647 : Int64) - (((p1 &&& (1023 : Int32))).toInt64)) + ((p3 &&& (7 : Int64)) - (3 : Int64)))), .second, .unset, .unset] [])) _
        refine XS.goto X0.here hx rfl (pc0 := 59) (pc' := 85) rfl (hb hby at_59) (by decide) (by decide) ?_
        show Steps p.tables e below (s₁.setTop (mkF m 85 #[.val (.int p0), .val (.int p1), .val (.int p2), .val (.long p3), .second, .val (.int (p0 &&& (255 : Int32))), .val (.int (p1 &&& (1023 : Int32))), .val (.int (p2 &&& (3 : Int32))), .val (.long (((2147483647 : Int64) - (((p1 &&& (1023 : Int32))).toInt64)) + ((p3 &&& (7 : Int64)) - (3 : Int64)))), .second, .unset, .unset] [])) _
        exact kk
      · skip
        have P7 : ∀ t, Steps p.tables e below (s₁.setTop (mkF m 65 #[.val (.int p0), .val (.int p1), .val (.int p2), .val (.long p3), .second, .val (.int (p0 &&& (255 : Int32))), .val (.int (p1 &&& (1023 : Int32))), .val (.int (p2 &&& (3 : Int32))), .unset, .unset, .unset, .unset] [(.int (2 : Int32)), (.int (p2 &&& (3 : Int32)))])) t → Steps p.tables e below (s₁.setTop (entryFrame m #[(.int p0), (.int p1), (.int p2), (.long p3)] maxLocals)) t := by
          intro t kk
          refine P5 _ ?_
          show Steps p.tables e below (s₁.setTop (mkF m 37 #[.val (.int p0), .val (.int p1), .val (.int p2), .val (.long p3), .second, .val (.int (p0 &&& (255 : Int32))), .val (.int (p1 &&& (1023 : Int32))), .val (.int (p2 &&& (3 : Int32))), .unset, .unset, .unset, .unset] [(.int (1 : Int32)), (.int (p2 &&& (3 : Int32)))])) _
          refine XS.icmpYes X0.here hx rfl (pc0 := 37) (pc' := 62) rfl (hb hby at_37) rfl (XT.ii_ne_t c6) (by decide) (by decide) ?_
          show Steps p.tables e below (s₁.setTop (mkF m 62 #[.val (.int p0), .val (.int p1), .val (.int p2), .val (.long p3), .second, .val (.int (p0 &&& (255 : Int32))), .val (.int (p1 &&& (1023 : Int32))), .val (.int (p2 &&& (3 : Int32))), .unset, .unset, .unset, .unset] [])) _
          refine XS.iload X0.here hx rfl (hb hby at_62) rfl ?_
          show Steps p.tables e below (s₁.setTop (mkF m 64 #[.val (.int p0), .val (.int p1), .val (.int p2), .val (.long p3), .second, .val (.int (p0 &&& (255 : Int32))), .val (.int (p1 &&& (1023 : Int32))), .val (.int (p2 &&& (3 : Int32))), .unset, .unset, .unset, .unset] [(.int (p2 &&& (3 : Int32)))])) _
          refine XS.iconst X0.here hx rfl (hb hby at_64) ?_
          show Steps p.tables e below (s₁.setTop (mkF m 65 #[.val (.int p0), .val (.int p1), .val (.int p2), .val (.long p3), .second, .val (.int (p0 &&& (255 : Int32))), .val (.int (p1 &&& (1023 : Int32))), .val (.int (p2 &&& (3 : Int32))), .unset, .unset, .unset, .unset] [(.int (2 : Int32)), (.int (p2 &&& (3 : Int32)))])) _
          exact kk
        by_cases c8 : (p2 &&& (3 : Int32)) = (2 : Int32)
        · skip
          refine ⟨(p3 &&& (2147483647 : Int64)), ((if_neg c4).trans ((if_neg c6).trans ((if_pos c8).trans rfl))).symm, fun t kk => P7 t ?_⟩
          show Steps p.tables e below (s₁.setTop (mkF m 65 #[.val (.int p0), .val (.int p1), .val (.int p2), .val (.long p3), .second, .val (.int (p0 &&& (255 : Int32))), .val (.int (p1 &&& (1023 : Int32))), .val (.int (p2 &&& (3 : Int32))), .unset, .unset, .unset, .unset] [(.int (2 : Int32)), (.int (p2 &&& (3 : Int32)))])) _
          refine XS.icmpNo X0.here hx rfl (hb hby at_65) rfl (XT.ii_ne_f c8) ?_
          show Steps p.tables e below (s₁.setTop (mkF m 68 #[.val (.int p0), .val (.int p1), .val (.int p2), .val (.long p3), .second, .val (.int (p0 &&& (255 : Int32))), .val (.int (p1 &&& (1023 : Int32))), .val (.int (p2 &&& (3 : Int32))), .unset, .unset, .unset, .unset] [])) _
          refine XS.lloadN X0.here hx rfl (hb hby at_68) rfl ?_
          show Steps p.tables e below (s₁.setTop (mkF m 69 #[.val (.int p0), .val (.int p1), .val (.int p2), .val (.long p3), .second, .val (.int (p0 &&& (255 : Int32))), .val (.int (p1 &&& (1023 : Int32))), .val (.int (p2 &&& (3 : Int32))), .unset, .unset, .unset, .unset] [(.long p3)])) _
          refine X0.ldc2Long hx hown (mvT hZ (hw _ (List.mem_of_getElem? (i := 0) rfl))) (g := (mkF m 69 #[.val (.int p0), .val (.int p1), .val (.int p2), .val (.long p3), .second, .val (.int (p0 &&& (255 : Int32))), .val (.int (p1 &&& (1023 : Int32))), .val (.int (p2 &&& (3 : Int32))), .unset, .unset, .unset, .unset] [(.long p3)])) rfl (hb hby at_69) _ ?_
          show Steps p.tables e below (s₁.setTop (mkF m 72 #[.val (.int p0), .val (.int p1), .val (.int p2), .val (.long p3), .second, .val (.int (p0 &&& (255 : Int32))), .val (.int (p1 &&& (1023 : Int32))), .val (.int (p2 &&& (3 : Int32))), .unset, .unset, .unset, .unset] [(.long (2147483647 : Int64)), (.long p3)])) _
          refine XS.land X0.here hx rfl (hb hby at_72) rfl ?_
          show Steps p.tables e below (s₁.setTop (mkF m 73 #[.val (.int p0), .val (.int p1), .val (.int p2), .val (.long p3), .second, .val (.int (p0 &&& (255 : Int32))), .val (.int (p1 &&& (1023 : Int32))), .val (.int (p2 &&& (3 : Int32))), .unset, .unset, .unset, .unset] [(.long (p3 &&& (2147483647 : Int64)))])) _
          refine XS.lstore X0.here hx rfl (hb hby at_73) rfl (l' := #[.val (.int p0), .val (.int p1), .val (.int p2), .val (.long p3), .second, .val (.int (p0 &&& (255 : Int32))), .val (.int (p1 &&& (1023 : Int32))), .val (.int (p2 &&& (3 : Int32))), .val (.long (p3 &&& (2147483647 : Int64))), .second, .unset, .unset]) rfl ?_
          show Steps p.tables e below (s₁.setTop (mkF m 75 #[.val (.int p0), .val (.int p1), .val (.int p2), .val (.long p3), .second, .val (.int (p0 &&& (255 : Int32))), .val (.int (p1 &&& (1023 : Int32))), .val (.int (p2 &&& (3 : Int32))), .val (.long (p3 &&& (2147483647 : Int64))), .second, .unset, .unset] [])) _
          refine XS.goto X0.here hx rfl (pc0 := 75) (pc' := 85) rfl (hb hby at_75) (by decide) (by decide) ?_
          show Steps p.tables e below (s₁.setTop (mkF m 85 #[.val (.int p0), .val (.int p1), .val (.int p2), .val (.long p3), .second, .val (.int (p0 &&& (255 : Int32))), .val (.int (p1 &&& (1023 : Int32))), .val (.int (p2 &&& (3 : Int32))), .val (.long (p3 &&& (2147483647 : Int64))), .second, .unset, .unset] [])) _
          exact kk
        · skip
          refine ⟨(p3 &&& (255 : Int64)), ((if_neg c4).trans ((if_neg c6).trans ((if_neg c8).trans rfl))).symm, fun t kk => P7 t ?_⟩
          show Steps p.tables e below (s₁.setTop (mkF m 65 #[.val (.int p0), .val (.int p1), .val (.int p2), .val (.long p3), .second, .val (.int (p0 &&& (255 : Int32))), .val (.int (p1 &&& (1023 : Int32))), .val (.int (p2 &&& (3 : Int32))), .unset, .unset, .unset, .unset] [(.int (2 : Int32)), (.int (p2 &&& (3 : Int32)))])) _
          refine XS.icmpYes X0.here hx rfl (pc0 := 65) (pc' := 78) rfl (hb hby at_65) rfl (XT.ii_ne_t c8) (by decide) (by decide) ?_
          show Steps p.tables e below (s₁.setTop (mkF m 78 #[.val (.int p0), .val (.int p1), .val (.int p2), .val (.long p3), .second, .val (.int (p0 &&& (255 : Int32))), .val (.int (p1 &&& (1023 : Int32))), .val (.int (p2 &&& (3 : Int32))), .unset, .unset, .unset, .unset] [])) _
          refine XS.lloadN X0.here hx rfl (hb hby at_78) rfl ?_
          show Steps p.tables e below (s₁.setTop (mkF m 79 #[.val (.int p0), .val (.int p1), .val (.int p2), .val (.long p3), .second, .val (.int (p0 &&& (255 : Int32))), .val (.int (p1 &&& (1023 : Int32))), .val (.int (p2 &&& (3 : Int32))), .unset, .unset, .unset, .unset] [(.long p3)])) _
          refine X0.ldc2Long hx hown (mvT hZ (hw _ (List.mem_of_getElem? (i := 46) rfl))) (g := (mkF m 79 #[.val (.int p0), .val (.int p1), .val (.int p2), .val (.long p3), .second, .val (.int (p0 &&& (255 : Int32))), .val (.int (p1 &&& (1023 : Int32))), .val (.int (p2 &&& (3 : Int32))), .unset, .unset, .unset, .unset] [(.long p3)])) rfl (hb hby at_79) _ ?_
          show Steps p.tables e below (s₁.setTop (mkF m 82 #[.val (.int p0), .val (.int p1), .val (.int p2), .val (.long p3), .second, .val (.int (p0 &&& (255 : Int32))), .val (.int (p1 &&& (1023 : Int32))), .val (.int (p2 &&& (3 : Int32))), .unset, .unset, .unset, .unset] [(.long (255 : Int64)), (.long p3)])) _
          refine XS.land X0.here hx rfl (hb hby at_82) rfl ?_
          show Steps p.tables e below (s₁.setTop (mkF m 83 #[.val (.int p0), .val (.int p1), .val (.int p2), .val (.long p3), .second, .val (.int (p0 &&& (255 : Int32))), .val (.int (p1 &&& (1023 : Int32))), .val (.int (p2 &&& (3 : Int32))), .unset, .unset, .unset, .unset] [(.long (p3 &&& (255 : Int64)))])) _
          refine XS.lstore X0.here hx rfl (hb hby at_83) rfl (l' := #[.val (.int p0), .val (.int p1), .val (.int p2), .val (.long p3), .second, .val (.int (p0 &&& (255 : Int32))), .val (.int (p1 &&& (1023 : Int32))), .val (.int (p2 &&& (3 : Int32))), .val (.long (p3 &&& (255 : Int64))), .second, .unset, .unset]) rfl ?_
          show Steps p.tables e below (s₁.setTop (mkF m 85 #[.val (.int p0), .val (.int p1), .val (.int p2), .val (.long p3), .second, .val (.int (p0 &&& (255 : Int32))), .val (.int (p1 &&& (1023 : Int32))), .val (.int (p2 &&& (3 : Int32))), .val (.long (p3 &&& (255 : Int64))), .second, .unset, .unset] [])) _
          exact kk
  obtain ⟨T9, h9, X9, e9, E9, A9, D9, -, st9⟩ := newO X0 hx hZ hown (hw _ (List.mem_of_getElem? (i := 1) rfl)) (hw _ (List.mem_of_getElem? (i := 2) rfl)) (hw _ (List.mem_of_getElem? (i := 3) rfl)) e0 (g := (mkF m 85 #[.val (.int p0), .val (.int p1), .val (.int p2), .val (.long p3), .second, .val (.int (p0 &&& (255 : Int32))), .val (.int (p1 &&& (1023 : Int32))), .val (.int (p2 &&& (3 : Int32))), .val (.long j2), .second, .unset, .unset] [])) rfl (hb hby at_85) (by decide) (by decide)
  obtain ⟨b9, g_b9⟩ : ∃ z, z = h0.size := ⟨_, rfl⟩
  rw [← g_b9] at A9 D9 st9
  have ge_b9 : n0 ≤ b9 := Nat.le_trans Z0 (Nat.le_of_eq g_b9.symm)
  have sz_b9 : h0.size ≤ b9 := Nat.le_trans (Keep.refl h0 []).1 (Nat.le_of_eq g_b9.symm)
  have F9_12 : Fld Z h9 b9 "com/example/envelope/envelope/DataBuilder" "data" "[B" .null := D9 (Or.inl (hw _ (List.mem_of_getElem? (i := 12) rfl))) (ty := (.array .byte)) (by decide)
  have F9_20 : Fld Z h9 b9 "com/example/envelope/envelope/DataBuilder" "length" "I" (.int (0 : Int32)) := D9 (Or.inl (hw _ (List.mem_of_getElem? (i := 20) rfl))) (ty := .int) (by decide)
  have z11 : n0 ≤ _ := (Nat.le_trans Z0 E9.1)
  obtain ⟨_, _, ⟨T10, L10, k10, n10⟩, -, X10, ⟨Lc10, hQ10, l10, y10, z10⟩, st10⟩ := X9.specialBack hx (y := (⟨"com/example/envelope/envelope/DataBuilder", "<init>", "(I)V"⟩ : MethodName)) rfl hown (mvT hZ (hw _ (List.mem_of_getElem? (i := 4) rfl))) (mvT hZ (hw _ (List.mem_of_getElem? (i := 5) rfl))) (mvT hZ (hw _ (List.mem_of_getElem? (i := 6) rfl))) (by decide) (backOf (W := 1) (rm1 l Z a0 hw [] b9 (p0 &&& (255 : Int32)) (0 : Int32) h9 n0 z11 A9 F9_12 F9_20 ge_b9 (own_cap p0).1 (own_cap p0).2.1) hZ (hw _ (List.mem_of_getElem? (i := 6) rfl)) (hw _ (List.mem_of_getElem? (i := 3) rfl)) (by decide) (by decide)) (g := (mkF m 91 #[.val (.int p0), .val (.int p1), .val (.int p2), .val (.long p3), .second, .val (.int (p0 &&& (255 : Int32))), .val (.int (p1 &&& (1023 : Int32))), .val (.int (p2 &&& (3 : Int32))), .val (.long j2), .second, .unset, .unset] [(.int (p0 &&& (255 : Int32))), (.ref b9), (.ref b9)])) rfl (by rw [hml]; rfl) (Steps.refl _) (a := b9) (argsL := [(.int (p0 &&& (255 : Int32)))]) (rest := [(.ref b9)]) (lenOf pd_3 rfl) rfl (by show 2 * 0 + _ ≤ _; exact Nat.le_of_eq rfl) (hb hby at_91) (fun _ _ => ⟨rfl, e9, (by decide : 1 + 1 ≤ _), (by decide : 2 + 255 ≤ _)⟩)
  dsimp only [Pt.U, Pt.locs, Pt.cells, Pt.slots] at X10 l10 y10 z10 st10 hQ10
  subst l10 y10 z10
  obtain ⟨b_10, k_10, rfl, Nq10, K10, q10_0, q10_1, q10_2, q10_3, q10_4⟩ := hQ10
  have N10 := Fr.app N0 Nq10
  have f13 := (Exa.keep A9 K10)
  have z14 : n0 ≤ _ := (Nat.le_trans z11 K10.1)
  obtain ⟨cq12, kq12, q12a, q12b, q12c⟩ := isOf hZ rfl f13
  obtain ⟨_, _, ⟨T12, L12, k12, n12⟩, -, X12, ⟨Lc12, hQ12, l12, y12, z12⟩, st12⟩ := X10.virtualBack hx (y := (⟨"com/example/envelope/envelope/DataBuilder", "take", "(I)I"⟩ : MethodName)) (z := (⟨"com/example/envelope/envelope/DataBuilder", "take", "(I)I"⟩ : MethodName)) hown (mvT hZ (hw _ (List.mem_of_getElem? (i := 13) rfl))) (mvT hZ (hw _ (List.mem_of_getElem? (i := 14) rfl))) (notFace_of_selects (args := #[]) (mvT hZ (hw _ (List.mem_of_getElem? (i := 16) rfl)))) (mvT hZ (hw _ (List.mem_of_getElem? (i := 16) rfl))) (mvT hZ (hw _ (List.mem_of_getElem? (i := 15) rfl))) (by decide) (backOf (W := 0) (rm6 l Z a0 hw [] b9 (p1 &&& (1023 : Int32)) b_10 k_10 (p0 &&& (255 : Int32)) [] (.int (0 : Int32)) T10.heap n0 z14 f13 q10_0 q10_1 q10_2 ge_b9 q10_4 (own_k p1) ⟨(own_cap p0).1, (own_cap p0).2.2⟩) hZ (hw _ (List.mem_of_getElem? (i := 17) rfl)) (hw _ (List.mem_of_getElem? (i := 3) rfl)) (by decide) (by decide)) q12a q12c (g := (mkF m 100 #[.val (.int p0), .val (.int p1), .val (.int p2), .val (.long p3), .second, .val (.int (p0 &&& (255 : Int32))), .val (.int (p1 &&& (1023 : Int32))), .val (.int (p2 &&& (3 : Int32))), .val (.long j2), .second, .val (.ref b9), .unset] [(.int (p1 &&& (1023 : Int32))), (.ref b9)])) rfl (by rw [hml]; rfl) (Steps.refl _) (argsL := [(.int (p1 &&& (1023 : Int32)))]) (rest := []) (lenOf pd_4 rfl) rfl (by show 2 * 0 + _ ≤ _; exact Nat.le_of_eq rfl) (hb hby at_100) (fun _ _ => ⟨rfl, rfl, (by decide : 2 + 1 ≤ _), (by decide : 257 + 1023 ≤ _)⟩)
  dsimp only [Pt.U, Pt.locs, Pt.cells, Pt.slots] at X12 l12 y12 z12 st12 hQ12
  subst l12 y12 z12
  obtain ⟨rfl, Nq12, K12, q12_0⟩ := hQ12
  have N12 := Fr.app N10 Nq12
  have P15 : ∀ t, Steps p.tables e below (T12.setTop (mkF m 111 #[.val (.int p0), .val (.int p1), .val (.int p2), .val (.long p3), .second, .val (.int (p0 &&& (255 : Int32))), .val (.int (p1 &&& (1023 : Int32))), .val (.int (p2 &&& (3 : Int32))), .val (.long j2), .second, .val (.ref b9), .unset] [(.int (XT.cmpL (((j2).toUInt64 >>> ((31 : Int32) &&& 0x3f).toInt64.toUInt64).toInt64) (0 : Int64)))])) t → Steps p.tables e below (s₁.setTop (entryFrame m #[(.int p0), (.int p1), (.int p2), (.long p3)] maxLocals)) t := by
    intro t kk
    refine P3 _ ?_
    show Steps p.tables e below (s₁.setTop (mkF m 85 #[.val (.int p0), .val (.int p1), .val (.int p2), .val (.long p3), .second, .val (.int (p0 &&& (255 : Int32))), .val (.int (p1 &&& (1023 : Int32))), .val (.int (p2 &&& (3 : Int32))), .val (.long j2), .second, .unset, .unset] [])) _
    refine st9 _ ?_
    show Steps p.tables e below (T9.setTop (mkF m 88 #[.val (.int p0), .val (.int p1), .val (.int p2), .val (.long p3), .second, .val (.int (p0 &&& (255 : Int32))), .val (.int (p1 &&& (1023 : Int32))), .val (.int (p2 &&& (3 : Int32))), .val (.long j2), .second, .unset, .unset] [(.ref b9)])) _
    refine XS.dup X9.here hx rfl (hb hby at_88) rfl rfl ?_
    show Steps p.tables e below (T9.setTop (mkF m 89 #[.val (.int p0), .val (.int p1), .val (.int p2), .val (.long p3), .second, .val (.int (p0 &&& (255 : Int32))), .val (.int (p1 &&& (1023 : Int32))), .val (.int (p2 &&& (3 : Int32))), .val (.long j2), .second, .unset, .unset] [(.ref b9), (.ref b9)])) _
    refine XS.iload X9.here hx rfl (hb hby at_89) rfl ?_
    show Steps p.tables e below (T9.setTop (mkF m 91 #[.val (.int p0), .val (.int p1), .val (.int p2), .val (.long p3), .second, .val (.int (p0 &&& (255 : Int32))), .val (.int (p1 &&& (1023 : Int32))), .val (.int (p2 &&& (3 : Int32))), .val (.long j2), .second, .unset, .unset] [(.int (p0 &&& (255 : Int32))), (.ref b9), (.ref b9)])) _
    refine st10.trans ?_
    show Steps p.tables e below (T10.setTop (mkF m 94 #[.val (.int p0), .val (.int p1), .val (.int p2), .val (.long p3), .second, .val (.int (p0 &&& (255 : Int32))), .val (.int (p1 &&& (1023 : Int32))), .val (.int (p2 &&& (3 : Int32))), .val (.long j2), .second, .unset, .unset] [(.ref b9)])) _
    refine XS.astore X10.here hx rfl (hb hby at_94) rfl rfl (l' := #[.val (.int p0), .val (.int p1), .val (.int p2), .val (.long p3), .second, .val (.int (p0 &&& (255 : Int32))), .val (.int (p1 &&& (1023 : Int32))), .val (.int (p2 &&& (3 : Int32))), .val (.long j2), .second, .val (.ref b9), .unset]) rfl ?_
    show Steps p.tables e below (T10.setTop (mkF m 96 #[.val (.int p0), .val (.int p1), .val (.int p2), .val (.long p3), .second, .val (.int (p0 &&& (255 : Int32))), .val (.int (p1 &&& (1023 : Int32))), .val (.int (p2 &&& (3 : Int32))), .val (.long j2), .second, .val (.ref b9), .unset] [])) _
    refine XS.aload X10.here hx rfl (hb hby at_96) rfl rfl ?_
    show Steps p.tables e below (T10.setTop (mkF m 98 #[.val (.int p0), .val (.int p1), .val (.int p2), .val (.long p3), .second, .val (.int (p0 &&& (255 : Int32))), .val (.int (p1 &&& (1023 : Int32))), .val (.int (p2 &&& (3 : Int32))), .val (.long j2), .second, .val (.ref b9), .unset] [(.ref b9)])) _
    refine XS.iload X10.here hx rfl (hb hby at_98) rfl ?_
    show Steps p.tables e below (T10.setTop (mkF m 100 #[.val (.int p0), .val (.int p1), .val (.int p2), .val (.long p3), .second, .val (.int (p0 &&& (255 : Int32))), .val (.int (p1 &&& (1023 : Int32))), .val (.int (p2 &&& (3 : Int32))), .val (.long j2), .second, .val (.ref b9), .unset] [(.int (p1 &&& (1023 : Int32))), (.ref b9)])) _
    refine st12.trans ?_
    show Steps p.tables e below (T12.setTop (mkF m 103 #[.val (.int p0), .val (.int p1), .val (.int p2), .val (.long p3), .second, .val (.int (p0 &&& (255 : Int32))), .val (.int (p1 &&& (1023 : Int32))), .val (.int (p2 &&& (3 : Int32))), .val (.long j2), .second, .val (.ref b9), .unset] [(.int (0 : Int32))])) _
    refine XS.pop X12.here hx rfl (hb hby at_103) rfl rfl ?_
    show Steps p.tables e below (T12.setTop (mkF m 104 #[.val (.int p0), .val (.int p1), .val (.int p2), .val (.long p3), .second, .val (.int (p0 &&& (255 : Int32))), .val (.int (p1 &&& (1023 : Int32))), .val (.int (p2 &&& (3 : Int32))), .val (.long j2), .second, .val (.ref b9), .unset] [])) _
    refine XS.lload X12.here hx rfl (hb hby at_104) rfl ?_
    show Steps p.tables e below (T12.setTop (mkF m 106 #[.val (.int p0), .val (.int p1), .val (.int p2), .val (.long p3), .second, .val (.int (p0 &&& (255 : Int32))), .val (.int (p1 &&& (1023 : Int32))), .val (.int (p2 &&& (3 : Int32))), .val (.long j2), .second, .val (.ref b9), .unset] [(.long j2)])) _
    refine XS.bipush X12.here hx rfl (hb hby at_106) ?_
    show Steps p.tables e below (T12.setTop (mkF m 108 #[.val (.int p0), .val (.int p1), .val (.int p2), .val (.long p3), .second, .val (.int (p0 &&& (255 : Int32))), .val (.int (p1 &&& (1023 : Int32))), .val (.int (p2 &&& (3 : Int32))), .val (.long j2), .second, .val (.ref b9), .unset] [(.int (31 : Int32)), (.long j2)])) _
    refine XS.lushr X12.here hx rfl (hb hby at_108) rfl ?_
    show Steps p.tables e below (T12.setTop (mkF m 109 #[.val (.int p0), .val (.int p1), .val (.int p2), .val (.long p3), .second, .val (.int (p0 &&& (255 : Int32))), .val (.int (p1 &&& (1023 : Int32))), .val (.int (p2 &&& (3 : Int32))), .val (.long j2), .second, .val (.ref b9), .unset] [(.long (((j2).toUInt64 >>> ((31 : Int32) &&& 0x3f).toInt64.toUInt64).toInt64))])) _
    refine XS.lconst X12.here hx rfl (hb hby at_109) ?_
    show Steps p.tables e below (T12.setTop (mkF m 110 #[.val (.int p0), .val (.int p1), .val (.int p2), .val (.long p3), .second, .val (.int (p0 &&& (255 : Int32))), .val (.int (p1 &&& (1023 : Int32))), .val (.int (p2 &&& (3 : Int32))), .val (.long j2), .second, .val (.ref b9), .unset] [(.long (0 : Int64)), (.long (((j2).toUInt64 >>> ((31 : Int32) &&& 0x3f).toInt64.toUInt64).toInt64))])) _
    refine XT.lcmp X12.here hx rfl (hb hby at_110) rfl ?_
    show Steps p.tables e below (T12.setTop (mkF m 111 #[.val (.int p0), .val (.int p1), .val (.int p2), .val (.long p3), .second, .val (.int (p0 &&& (255 : Int32))), .val (.int (p1 &&& (1023 : Int32))), .val (.int (p2 &&& (3 : Int32))), .val (.long j2), .second, .val (.ref b9), .unset] [(.int (XT.cmpL (((j2).toUInt64 >>> ((31 : Int32) &&& 0x3f).toInt64.toUInt64).toInt64) (0 : Int64)))])) _
    exact kk
  obtain ⟨i16, h_i16, P17⟩ : ∃ (i16 : Int32), i16 = (if (((j2).toUInt64 >>> ((31 : Int32) &&& 0x3f).toInt64.toUInt64).toInt64) = (0 : Int64) then (if (2147483647 : Int64) < (j2 + (((p1 &&& (1023 : Int32))).toInt64)) then (0 : Int32) else (1 : Int32)) else (0 : Int32)) ∧ ∀ t, Steps p.tables e below (T12.setTop (mkF m 140 #[.val (.int p0), .val (.int p1), .val (.int p2), .val (.long p3), .second, .val (.int (p0 &&& (255 : Int32))), .val (.int (p1 &&& (1023 : Int32))), .val (.int (p2 &&& (3 : Int32))), .val (.long j2), .second, .val (.ref b9), .val (.int i16)] [])) t → Steps p.tables e below (s₁.setTop (entryFrame m #[(.int p0), (.int p1), (.int p2), (.long p3)] maxLocals)) t := by
    by_cases c18 : (((j2).toUInt64 >>> ((31 : Int32) &&& 0x3f).toInt64.toUInt64).toInt64) = (0 : Int64)
    · skip
      have P19 : ∀ t, Steps p.tables e below (T12.setTop (mkF m 130 #[.val (.int p0), .val (.int p1), .val (.int p2), .val (.long p3), .second, .val (.int (p0 &&& (255 : Int32))), .val (.int (p1 &&& (1023 : Int32))), .val (.int (p2 &&& (3 : Int32))), .val (.long j2), .second, .val (.ref b9), .unset] [(.int (XT.cmpL (j2 + (((p1 &&& (1023 : Int32))).toInt64)) (2147483647 : Int64)))])) t → Steps p.tables e below (s₁.setTop (entryFrame m #[(.int p0), (.int p1), (.int p2), (.long p3)] maxLocals)) t := by
        intro t kk
        refine P15 _ ?_
        show Steps p.tables e below (T12.setTop (mkF m 111 #[.val (.int p0), .val (.int p1), .val (.int p2), .val (.long p3), .second, .val (.int (p0 &&& (255 : Int32))), .val (.int (p1 &&& (1023 : Int32))), .val (.int (p2 &&& (3 : Int32))), .val (.long j2), .second, .val (.ref b9), .unset] [(.int (XT.cmpL (((j2).toUInt64 >>> ((31 : Int32) &&& 0x3f).toInt64.toUInt64).toInt64) (0 : Int64)))])) _
        refine XS.ifYes X12.here hx rfl (pc0 := 111) (pc' := 120) rfl (hb hby at_111) rfl (XT.ll_eq_t c18) (by decide) (by decide) ?_
        show Steps p.tables e below (T12.setTop (mkF m 120 #[.val (.int p0), .val (.int p1), .val (.int p2), .val (.long p3), .second, .val (.int (p0 &&& (255 : Int32))), .val (.int (p1 &&& (1023 : Int32))), .val (.int (p2 &&& (3 : Int32))), .val (.long j2), .second, .val (.ref b9), .unset] [])) _
        refine XS.lload X12.here hx rfl (hb hby at_120) rfl ?_
        show Steps p.tables e below (T12.setTop (mkF m 122 #[.val (.int p0), .val (.int p1), .val (.int p2), .val (.long p3), .second, .val (.int (p0 &&& (255 : Int32))), .val (.int (p1 &&& (1023 : Int32))), .val (.int (p2 &&& (3 : Int32))), .val (.long j2), .second, .val (.ref b9), .unset] [(.long j2)])) _
        refine XS.iload X12.here hx rfl (hb hby at_122) rfl ?_
        show Steps p.tables e below (T12.setTop (mkF m 124 #[.val (.int p0), .val (.int p1), .val (.int p2), .val (.long p3), .second, .val (.int (p0 &&& (255 : Int32))), .val (.int (p1 &&& (1023 : Int32))), .val (.int (p2 &&& (3 : Int32))), .val (.long j2), .second, .val (.ref b9), .unset] [(.int (p1 &&& (1023 : Int32))), (.long j2)])) _
        refine XS.i2l X12.here hx rfl (hb hby at_124) rfl ?_
        show Steps p.tables e below (T12.setTop (mkF m 125 #[.val (.int p0), .val (.int p1), .val (.int p2), .val (.long p3), .second, .val (.int (p0 &&& (255 : Int32))), .val (.int (p1 &&& (1023 : Int32))), .val (.int (p2 &&& (3 : Int32))), .val (.long j2), .second, .val (.ref b9), .unset] [(.long (((p1 &&& (1023 : Int32))).toInt64)), (.long j2)])) _
        refine XS.ladd X12.here hx rfl (hb hby at_125) rfl ?_
        show Steps p.tables e below (T12.setTop (mkF m 126 #[.val (.int p0), .val (.int p1), .val (.int p2), .val (.long p3), .second, .val (.int (p0 &&& (255 : Int32))), .val (.int (p1 &&& (1023 : Int32))), .val (.int (p2 &&& (3 : Int32))), .val (.long j2), .second, .val (.ref b9), .unset] [(.long (j2 + (((p1 &&& (1023 : Int32))).toInt64)))])) _
        refine X12.ldc2Long hx hown (mvT hZ (hw _ (List.mem_of_getElem? (i := 0) rfl))) (g := (mkF m 126 #[.val (.int p0), .val (.int p1), .val (.int p2), .val (.long p3), .second, .val (.int (p0 &&& (255 : Int32))), .val (.int (p1 &&& (1023 : Int32))), .val (.int (p2 &&& (3 : Int32))), .val (.long j2), .second, .val (.ref b9), .unset] [(.long (j2 + (((p1 &&& (1023 : Int32))).toInt64)))])) rfl (hb hby at_126) _ ?_
        show Steps p.tables e below (T12.setTop (mkF m 129 #[.val (.int p0), .val (.int p1), .val (.int p2), .val (.long p3), .second, .val (.int (p0 &&& (255 : Int32))), .val (.int (p1 &&& (1023 : Int32))), .val (.int (p2 &&& (3 : Int32))), .val (.long j2), .second, .val (.ref b9), .unset] [(.long (2147483647 : Int64)), (.long (j2 + (((p1 &&& (1023 : Int32))).toInt64)))])) _
        refine XT.lcmp X12.here hx rfl (hb hby at_129) rfl ?_
        show Steps p.tables e below (T12.setTop (mkF m 130 #[.val (.int p0), .val (.int p1), .val (.int p2), .val (.long p3), .second, .val (.int (p0 &&& (255 : Int32))), .val (.int (p1 &&& (1023 : Int32))), .val (.int (p2 &&& (3 : Int32))), .val (.long j2), .second, .val (.ref b9), .unset] [(.int (XT.cmpL (j2 + (((p1 &&& (1023 : Int32))).toInt64)) (2147483647 : Int64)))])) _
        exact kk
      by_cases c20 : (2147483647 : Int64) < (j2 + (((p1 &&& (1023 : Int32))).toInt64))
      · skip
        refine ⟨(0 : Int32), ((if_pos c18).trans ((if_pos c20).trans rfl)).symm, fun t kk => P19 t ?_⟩
        show Steps p.tables e below (T12.setTop (mkF m 130 #[.val (.int p0), .val (.int p1), .val (.int p2), .val (.long p3), .second, .val (.int (p0 &&& (255 : Int32))), .val (.int (p1 &&& (1023 : Int32))), .val (.int (p2 &&& (3 : Int32))), .val (.long j2), .second, .val (.ref b9), .unset] [(.int (XT.cmpL (j2 + (((p1 &&& (1023 : Int32))).toInt64)) (2147483647 : Int64)))])) _
        refine XS.ifYes X12.here hx rfl (pc0 := 130) (pc' := 137) rfl (hb hby at_130) rfl (XT.ll_gt_t c20) (by decide) (by decide) ?_
        show Steps p.tables e below (T12.setTop (mkF m 137 #[.val (.int p0), .val (.int p1), .val (.int p2), .val (.long p3), .second, .val (.int (p0 &&& (255 : Int32))), .val (.int (p1 &&& (1023 : Int32))), .val (.int (p2 &&& (3 : Int32))), .val (.long j2), .second, .val (.ref b9), .unset] [])) _
        refine XS.iconst X12.here hx rfl (hb hby at_137) ?_
        show Steps p.tables e below (T12.setTop (mkF m 138 #[.val (.int p0), .val (.int p1), .val (.int p2), .val (.long p3), .second, .val (.int (p0 &&& (255 : Int32))), .val (.int (p1 &&& (1023 : Int32))), .val (.int (p2 &&& (3 : Int32))), .val (.long j2), .second, .val (.ref b9), .unset] [(.int (0 : Int32))])) _
        refine XS.istore X12.here hx rfl (hb hby at_138) rfl (l' := #[.val (.int p0), .val (.int p1), .val (.int p2), .val (.long p3), .second, .val (.int (p0 &&& (255 : Int32))), .val (.int (p1 &&& (1023 : Int32))), .val (.int (p2 &&& (3 : Int32))), .val (.long j2), .second, .val (.ref b9), .val (.int (0 : Int32))]) rfl ?_
        show Steps p.tables e below (T12.setTop (mkF m 140 #[.val (.int p0), .val (.int p1), .val (.int p2), .val (.long p3), .second, .val (.int (p0 &&& (255 : Int32))), .val (.int (p1 &&& (1023 : Int32))), .val (.int (p2 &&& (3 : Int32))), .val (.long j2), .second, .val (.ref b9), .val (.int (0 : Int32))] [])) _
        exact kk
      · skip
        refine ⟨(1 : Int32), ((if_pos c18).trans ((if_neg c20).trans rfl)).symm, fun t kk => P19 t ?_⟩
        show Steps p.tables e below (T12.setTop (mkF m 130 #[.val (.int p0), .val (.int p1), .val (.int p2), .val (.long p3), .second, .val (.int (p0 &&& (255 : Int32))), .val (.int (p1 &&& (1023 : Int32))), .val (.int (p2 &&& (3 : Int32))), .val (.long j2), .second, .val (.ref b9), .unset] [(.int (XT.cmpL (j2 + (((p1 &&& (1023 : Int32))).toInt64)) (2147483647 : Int64)))])) _
        refine XS.ifNo X12.here hx rfl (hb hby at_130) rfl (XT.ll_gt_f c20) ?_
        show Steps p.tables e below (T12.setTop (mkF m 133 #[.val (.int p0), .val (.int p1), .val (.int p2), .val (.long p3), .second, .val (.int (p0 &&& (255 : Int32))), .val (.int (p1 &&& (1023 : Int32))), .val (.int (p2 &&& (3 : Int32))), .val (.long j2), .second, .val (.ref b9), .unset] [])) _
        refine XS.iconst X12.here hx rfl (hb hby at_133) ?_
        show Steps p.tables e below (T12.setTop (mkF m 134 #[.val (.int p0), .val (.int p1), .val (.int p2), .val (.long p3), .second, .val (.int (p0 &&& (255 : Int32))), .val (.int (p1 &&& (1023 : Int32))), .val (.int (p2 &&& (3 : Int32))), .val (.long j2), .second, .val (.ref b9), .unset] [(.int (1 : Int32))])) _
        refine XS.goto X12.here hx rfl (pc0 := 134) (pc' := 138) rfl (hb hby at_134) (by decide) (by decide) ?_
        show Steps p.tables e below (T12.setTop (mkF m 138 #[.val (.int p0), .val (.int p1), .val (.int p2), .val (.long p3), .second, .val (.int (p0 &&& (255 : Int32))), .val (.int (p1 &&& (1023 : Int32))), .val (.int (p2 &&& (3 : Int32))), .val (.long j2), .second, .val (.ref b9), .unset] [(.int (1 : Int32))])) _
        refine XS.istore X12.here hx rfl (hb hby at_138) rfl (l' := #[.val (.int p0), .val (.int p1), .val (.int p2), .val (.long p3), .second, .val (.int (p0 &&& (255 : Int32))), .val (.int (p1 &&& (1023 : Int32))), .val (.int (p2 &&& (3 : Int32))), .val (.long j2), .second, .val (.ref b9), .val (.int (1 : Int32))]) rfl ?_
        show Steps p.tables e below (T12.setTop (mkF m 140 #[.val (.int p0), .val (.int p1), .val (.int p2), .val (.long p3), .second, .val (.int (p0 &&& (255 : Int32))), .val (.int (p1 &&& (1023 : Int32))), .val (.int (p2 &&& (3 : Int32))), .val (.long j2), .second, .val (.ref b9), .val (.int (1 : Int32))] [])) _
        exact kk
    · skip
      refine ⟨(0 : Int32), ((if_neg c18).trans rfl).symm, fun t kk => P15 t ?_⟩
      show Steps p.tables e below (T12.setTop (mkF m 111 #[.val (.int p0), .val (.int p1), .val (.int p2), .val (.long p3), .second, .val (.int (p0 &&& (255 : Int32))), .val (.int (p1 &&& (1023 : Int32))), .val (.int (p2 &&& (3 : Int32))), .val (.long j2), .second, .val (.ref b9), .unset] [(.int (XT.cmpL (((j2).toUInt64 >>> ((31 : Int32) &&& 0x3f).toInt64.toUInt64).toInt64) (0 : Int64)))])) _
      refine XS.ifNo X12.here hx rfl (hb hby at_111) rfl (XT.ll_eq_f c18) ?_
      show Steps p.tables e below (T12.setTop (mkF m 114 #[.val (.int p0), .val (.int p1), .val (.int p2), .val (.long p3), .second, .val (.int (p0 &&& (255 : Int32))), .val (.int (p1 &&& (1023 : Int32))), .val (.int (p2 &&& (3 : Int32))), .val (.long j2), .second, .val (.ref b9), .unset] [])) _
      refine XS.iconst X12.here hx rfl (hb hby at_114) ?_
      show Steps p.tables e below (T12.setTop (mkF m 115 #[.val (.int p0), .val (.int p1), .val (.int p2), .val (.long p3), .second, .val (.int (p0 &&& (255 : Int32))), .val (.int (p1 &&& (1023 : Int32))), .val (.int (p2 &&& (3 : Int32))), .val (.long j2), .second, .val (.ref b9), .unset] [(.int (0 : Int32))])) _
      refine XS.istore X12.here hx rfl (hb hby at_115) rfl (l' := #[.val (.int p0), .val (.int p1), .val (.int p2), .val (.long p3), .second, .val (.int (p0 &&& (255 : Int32))), .val (.int (p1 &&& (1023 : Int32))), .val (.int (p2 &&& (3 : Int32))), .val (.long j2), .second, .val (.ref b9), .val (.int (0 : Int32))]) rfl ?_
      show Steps p.tables e below (T12.setTop (mkF m 117 #[.val (.int p0), .val (.int p1), .val (.int p2), .val (.long p3), .second, .val (.int (p0 &&& (255 : Int32))), .val (.int (p1 &&& (1023 : Int32))), .val (.int (p2 &&& (3 : Int32))), .val (.long j2), .second, .val (.ref b9), .val (.int (0 : Int32))] [])) _
      refine XS.goto X12.here hx rfl (pc0 := 117) (pc' := 140) rfl (hb hby at_117) (by decide) (by decide) ?_
      show Steps p.tables e below (T12.setTop (mkF m 140 #[.val (.int p0), .val (.int p1), .val (.int p2), .val (.long p3), .second, .val (.int (p0 &&& (255 : Int32))), .val (.int (p1 &&& (1023 : Int32))), .val (.int (p2 &&& (3 : Int32))), .val (.long j2), .second, .val (.ref b9), .val (.int (0 : Int32))] [])) _
      exact kk
  have z22 : n0 ≤ _ := (Nat.le_trans z14 K12.1)
  have f23 := (Exa.keep f13 K12)
  obtain ⟨cq21, kq21, q21a, q21b, q21c⟩ := isOf hZ rfl f23
  obtain ⟨_, _, ⟨T21, L21, k21, n21⟩, -, X21, ⟨Lc21, hQ21, l21, y21, z21⟩, st21⟩ := X12.virtualBack hx (y := (⟨"com/example/envelope/envelope/DataBuilder", "canTake", "(J)Z"⟩ : MethodName)) (z := (⟨"com/example/envelope/envelope/DataBuilder", "canTake", "(J)Z"⟩ : MethodName)) hown (mvT hZ (hw _ (List.mem_of_getElem? (i := 41) rfl))) (mvT hZ (hw _ (List.mem_of_getElem? (i := 42) rfl))) (notFace_of_selects (args := #[]) (mvT hZ (hw _ (List.mem_of_getElem? (i := 44) rfl)))) (mvT hZ (hw _ (List.mem_of_getElem? (i := 44) rfl))) (mvT hZ (hw _ (List.mem_of_getElem? (i := 43) rfl))) (by decide) (backOf (W := 0) (rm7 l Z a0 hw [] b9 j2 ((0 : Int32) + (p1 &&& (1023 : Int32))) T12.heap n0 z22 q12_0) hZ (hw _ (List.mem_of_getElem? (i := 45) rfl)) (hw _ (List.mem_of_getElem? (i := 3) rfl)) (by decide) (by decide)) q21a q21c (g := (mkF m 144 #[.val (.int p0), .val (.int p1), .val (.int p2), .val (.long p3), .second, .val (.int (p0 &&& (255 : Int32))), .val (.int (p1 &&& (1023 : Int32))), .val (.int (p2 &&& (3 : Int32))), .val (.long j2), .second, .val (.ref b9), .val (.int i16)] [(.long j2), (.ref b9)])) rfl (by rw [hml]; rfl) (Steps.refl _) (argsL := [(.long j2)]) (rest := []) (lenOf pd_5 rfl) rfl (by show 2 * 0 + _ ≤ _; exact Nat.le_of_eq rfl) (hb hby at_144) (fun _ _ => ⟨rfl, rfl, (by decide : 3 + 0 ≤ _), (by decide : 1280 + 0 ≤ _)⟩)
  dsimp only [Pt.U, Pt.locs, Pt.cells, Pt.slots] at X21 l21 y21 z21 st21 hQ21
  subst l21 y21 z21
  obtain ⟨rfl, Nq21, e21⟩ := hQ21
  have N21 := Fr.app N12 Nq21
  have P24 : ∀ t, Steps p.tables e below (T21.setTop (mkF m 149 #[.val (.int p0), .val (.int p1), .val (.int p2), .val (.long p3), .second, .val (.int (p0 &&& (255 : Int32))), .val (.int (p1 &&& (1023 : Int32))), .val (.int (p2 &&& (3 : Int32))), .val (.long j2), .second, .val (.ref b9), .val (.int i16)] [(.int i16), (.int (F7 j2 ((0 : Int32) + (p1 &&& (1023 : Int32)))))])) t → Steps p.tables e below (s₁.setTop (entryFrame m #[(.int p0), (.int p1), (.int p2), (.long p3)] maxLocals)) t := by
    intro t kk
    refine P17 _ ?_
    show Steps p.tables e below (T12.setTop (mkF m 140 #[.val (.int p0), .val (.int p1), .val (.int p2), .val (.long p3), .second, .val (.int (p0 &&& (255 : Int32))), .val (.int (p1 &&& (1023 : Int32))), .val (.int (p2 &&& (3 : Int32))), .val (.long j2), .second, .val (.ref b9), .val (.int i16)] [])) _
    refine XS.aload X12.here hx rfl (hb hby at_140) rfl rfl ?_
    show Steps p.tables e below (T12.setTop (mkF m 142 #[.val (.int p0), .val (.int p1), .val (.int p2), .val (.long p3), .second, .val (.int (p0 &&& (255 : Int32))), .val (.int (p1 &&& (1023 : Int32))), .val (.int (p2 &&& (3 : Int32))), .val (.long j2), .second, .val (.ref b9), .val (.int i16)] [(.ref b9)])) _
    refine XS.lload X12.here hx rfl (hb hby at_142) rfl ?_
    show Steps p.tables e below (T12.setTop (mkF m 144 #[.val (.int p0), .val (.int p1), .val (.int p2), .val (.long p3), .second, .val (.int (p0 &&& (255 : Int32))), .val (.int (p1 &&& (1023 : Int32))), .val (.int (p2 &&& (3 : Int32))), .val (.long j2), .second, .val (.ref b9), .val (.int i16)] [(.long j2), (.ref b9)])) _
    refine st21.trans ?_
    show Steps p.tables e below (T21.setTop (mkF m 147 #[.val (.int p0), .val (.int p1), .val (.int p2), .val (.long p3), .second, .val (.int (p0 &&& (255 : Int32))), .val (.int (p1 &&& (1023 : Int32))), .val (.int (p2 &&& (3 : Int32))), .val (.long j2), .second, .val (.ref b9), .val (.int i16)] [(.int (F7 j2 ((0 : Int32) + (p1 &&& (1023 : Int32)))))])) _
    refine XS.iload X21.here hx rfl (hb hby at_147) rfl ?_
    show Steps p.tables e below (T21.setTop (mkF m 149 #[.val (.int p0), .val (.int p1), .val (.int p2), .val (.long p3), .second, .val (.int (p0 &&& (255 : Int32))), .val (.int (p1 &&& (1023 : Int32))), .val (.int (p2 &&& (3 : Int32))), .val (.long j2), .second, .val (.ref b9), .val (.int i16)] [(.int i16), (.int (F7 j2 ((0 : Int32) + (p1 &&& (1023 : Int32)))))])) _
    exact kk
  obtain ⟨i25, h_i25, P26⟩ : ∃ (i25 : Int32), i25 = (if (F7 j2 ((0 : Int32) + (p1 &&& (1023 : Int32)))) = i16 then (1 : Int32) else (0 : Int32)) ∧ ∀ t, Steps p.tables e below (T21.setTop (mkF m 157 #[.val (.int p0), .val (.int p1), .val (.int p2), .val (.long p3), .second, .val (.int (p0 &&& (255 : Int32))), .val (.int (p1 &&& (1023 : Int32))), .val (.int (p2 &&& (3 : Int32))), .val (.long j2), .second, .val (.ref b9), .val (.int i16)] [(.int i25)])) t → Steps p.tables e below (s₁.setTop (entryFrame m #[(.int p0), (.int p1), (.int p2), (.long p3)] maxLocals)) t := by
    by_cases c27 : (F7 j2 ((0 : Int32) + (p1 &&& (1023 : Int32)))) = i16
    · skip
      refine ⟨(1 : Int32), ((if_pos c27).trans rfl).symm, fun t kk => P24 t ?_⟩
      show Steps p.tables e below (T21.setTop (mkF m 149 #[.val (.int p0), .val (.int p1), .val (.int p2), .val (.long p3), .second, .val (.int (p0 &&& (255 : Int32))), .val (.int (p1 &&& (1023 : Int32))), .val (.int (p2 &&& (3 : Int32))), .val (.long j2), .second, .val (.ref b9), .val (.int i16)] [(.int i16), (.int (F7 j2 ((0 : Int32) + (p1 &&& (1023 : Int32)))))])) _
      refine XS.icmpNo X21.here hx rfl (hb hby at_149) rfl (XT.ii_ne_f c27) ?_
      show Steps p.tables e below (T21.setTop (mkF m 152 #[.val (.int p0), .val (.int p1), .val (.int p2), .val (.long p3), .second, .val (.int (p0 &&& (255 : Int32))), .val (.int (p1 &&& (1023 : Int32))), .val (.int (p2 &&& (3 : Int32))), .val (.long j2), .second, .val (.ref b9), .val (.int i16)] [])) _
      refine XS.iconst X21.here hx rfl (hb hby at_152) ?_
      show Steps p.tables e below (T21.setTop (mkF m 153 #[.val (.int p0), .val (.int p1), .val (.int p2), .val (.long p3), .second, .val (.int (p0 &&& (255 : Int32))), .val (.int (p1 &&& (1023 : Int32))), .val (.int (p2 &&& (3 : Int32))), .val (.long j2), .second, .val (.ref b9), .val (.int i16)] [(.int (1 : Int32))])) _
      refine XS.goto X21.here hx rfl (pc0 := 153) (pc' := 157) rfl (hb hby at_153) (by decide) (by decide) ?_
      show Steps p.tables e below (T21.setTop (mkF m 157 #[.val (.int p0), .val (.int p1), .val (.int p2), .val (.long p3), .second, .val (.int (p0 &&& (255 : Int32))), .val (.int (p1 &&& (1023 : Int32))), .val (.int (p2 &&& (3 : Int32))), .val (.long j2), .second, .val (.ref b9), .val (.int i16)] [(.int (1 : Int32))])) _
      exact kk
    · skip
      refine ⟨(0 : Int32), ((if_neg c27).trans rfl).symm, fun t kk => P24 t ?_⟩
      show Steps p.tables e below (T21.setTop (mkF m 149 #[.val (.int p0), .val (.int p1), .val (.int p2), .val (.long p3), .second, .val (.int (p0 &&& (255 : Int32))), .val (.int (p1 &&& (1023 : Int32))), .val (.int (p2 &&& (3 : Int32))), .val (.long j2), .second, .val (.ref b9), .val (.int i16)] [(.int i16), (.int (F7 j2 ((0 : Int32) + (p1 &&& (1023 : Int32)))))])) _
      refine XS.icmpYes X21.here hx rfl (pc0 := 149) (pc' := 156) rfl (hb hby at_149) rfl (XT.ii_ne_t c27) (by decide) (by decide) ?_
      show Steps p.tables e below (T21.setTop (mkF m 156 #[.val (.int p0), .val (.int p1), .val (.int p2), .val (.long p3), .second, .val (.int (p0 &&& (255 : Int32))), .val (.int (p1 &&& (1023 : Int32))), .val (.int (p2 &&& (3 : Int32))), .val (.long j2), .second, .val (.ref b9), .val (.int i16)] [])) _
      refine XS.iconst X21.here hx rfl (hb hby at_156) ?_
      show Steps p.tables e below (T21.setTop (mkF m 157 #[.val (.int p0), .val (.int p1), .val (.int p2), .val (.long p3), .second, .val (.int (p0 &&& (255 : Int32))), .val (.int (p1 &&& (1023 : Int32))), .val (.int (p2 &&& (3 : Int32))), .val (.long j2), .second, .val (.ref b9), .val (.int i16)] [(.int (0 : Int32))])) _
      exact kk
  have P28 : ∀ t, Steps p.tables e below (T21.setTop (mkF m 157 #[.val (.int p0), .val (.int p1), .val (.int p2), .val (.long p3), .second, .val (.int (p0 &&& (255 : Int32))), .val (.int (p1 &&& (1023 : Int32))), .val (.int (p2 &&& (3 : Int32))), .val (.long j2), .second, .val (.ref b9), .val (.int i16)] [(.int i25)])) t → Steps p.tables e below (s₁.setTop (entryFrame m #[(.int p0), (.int p1), (.int p2), (.long p3)] maxLocals)) t := by
    intro t kk
    refine P26 _ ?_
    show Steps p.tables e below (T21.setTop (mkF m 157 #[.val (.int p0), .val (.int p1), .val (.int p2), .val (.long p3), .second, .val (.int (p0 &&& (255 : Int32))), .val (.int (p1 &&& (1023 : Int32))), .val (.int (p2 &&& (3 : Int32))), .val (.long j2), .second, .val (.ref b9), .val (.int i16)] [(.int i25)])) _
    exact kk
  obtain rfl : i25 = (1 : Int32) := own_plain0 p0 p1 p2 p3 j2 h_j2 i16 h_i16 i25 h_i25 
  obtain ⟨fs, hr, hrun, hended, hW, hsame⟩ := X21.leave (v := some (.int (1 : Int32))) (fun h => by rw [Bd.returns] at h; cases h)
  refine ⟨_, _, P28 _ ?_, hrun, hended, _, _, rfl, ?_, ⟨_, rfl⟩, hW, hsame.mono (by decide) (by decide)⟩
  · exact retN X21 hx (t := .boolean) Bd.returns (by simp) (hb hby at_157) hr
  · exact ⟨rfl, N21⟩
set_option maxRecDepth 65536 in
set_option maxHeartbeats 40000000 in
theorem comes_1 {Post : Tables → Env → Array Value → State → Outcome → State → Prop} (hpost : ∀ tb e args s v u, (limb_1_1.after args s (.returned v) u = true ∧ limb_1_2.after args s (.returned v) u = true ∧ True) → FrameEnd s (.returned v) u (Jvm.fieldLocs frame_1_writes args s ++ Jvm.arrayLocs frame_1_arrays args s ++ Jvm.staticLocs frame_1_statics s) 16 2624 → Post tb e args s (.returned v) u) :
    ArmFor flags0 classFile x code maxLocals ret World_1 tables_1 room_1 Calls_1 rest_1 Pre_1 Post := by
  intro l hfl _ _ p e ha hc hk s m args below hf hA hF happ hP
  obtain ⟨hcalls, hrest, hpre⟩ := hP
  obtain ⟨-, -, -, hnamed, -, -, -, hat⟩ := (Spec.applies_iff hf).mp happ
  obtain ⟨hg, hn⟩ := and_e (Cond.before_iff.mp (show (Jvm.Cond.and given_1 narrow_1).before args s = true from hpre))
  obtain ⟨g0, gr0⟩ := and_e hg
  obtain ⟨g1, gr1⟩ := and_e gr0
  obtain ⟨g2, gr2⟩ := and_e gr1
  obtain ⟨g3, gr3⟩ := and_e gr2
  obtain ⟨w0, w1, w2, w3, rfl⟩ : ∃ w0 w1 w2 w3 : Value, args = #[w0, w1, w2, w3] := by
    have hs : args.size = 4 := by simpa [Cond.value, given_1] using g0
    obtain ⟨L⟩ := args
    match L, hs with
    | [w0, w1, w2, w3], _ => exact ⟨w0, w1, w2, w3, rfl⟩
  have hw := fun d (hd : d ∈ tables_1) => atoms_spec (ws := Jvm.Cond.code x code maxLocals ret :: tables_1) hat d (List.mem_cons_of_mem _ hd)
  have hfit : Fit s := fun {y c} hc i hi => by
    obtain ⟨ha, rfl⟩ := Array.getElem?_eq_some_iff.mp hc
    have q := List.all_eq_true.mp ((Array.all_eq_true_iff_forall_mem.mp hF) _ (Array.getElem_mem ha)) i (List.mem_range.mpr hi)
    simpa [Array.getElem?_eq_getElem hi] using q
  obtain ⟨i0, ei0⟩ := is_v g1
  obtain rfl : w0 = (.int i0) := Option.some.inj ei0
  obtain ⟨i1, ei1⟩ := is_v g2
  obtain rfl : w1 = (.int i1) := Option.some.inj ei1
  obtain ⟨i2, ei2⟩ := is_v g3
  obtain rfl : w2 = (.int i2) := Option.some.inj ei2
  obtain ⟨i3, ei3⟩ := isL_v gr3
  obtain rfl : w3 = (.long i3) := Option.some.inj ei3
  obtain ⟨n, o, h1, h2, h3, _, L, rfl, ⟨rfl, N⟩, hq⟩ := rm0 l s _ hw tables_1 i0 i1 i2 i3  s.heap s.heap.size (Nat.le_refl _)  p e ha hc hk s m _ below hf ((Spec.applies_iff_loose hf).mp happ).1 ⟨rfl, State.Warmed39.refl s, rfl⟩ trivial
  refine ⟨n, _, h1, h2, h3, hpost _ _ _ _ _ _ ⟨Cond.after_iff.mpr rfl, Cond.after_iff.mpr (eq_i res_at (Term.int_eval (1)) rfl), trivial⟩ ⟨hq.1, hq.2.1, (hq.2.2.sift fun y hy => Or.inr (N y hy)).mono (by decide) (by decide)⟩⟩
theorem main_1_1 : Claimed_1_1 := comes_1 fun _ _ _ _ _ _ h hF => ⟨h.1, hF⟩
theorem main_1_2 : Claimed_1_2 := comes_1 fun _ _ _ _ _ _ h hF => ⟨h.2.1, hF⟩
end Jvm.Pilot.@@N@@
namespace Jvm.Pilot.@@N@@
open Jvm Jvm.ClassFile Sem Op Lib Jvm.Free Jvm.Stand Jvm.Pilot.@@N@@.Jvm.D
/-! MADE BY PROGRAM (witnessworld.py) out of the Statement's table words and the real class files: 12 classes; the members and pool entries that the words name. The judged class is class 1, her method 1. -/
namespace start1
open Jvm.ClassFile
def u (s : String) : CpInfo := .utf8 (stringToUtf16 s)
/-- a pool by its gaps: so many unusable entries, then the entry; so many at the end -/
def gap : Nat → List CpInfo → List CpInfo
  | 0, r => r
  | n + 1, r => .unusable :: gap n r
def poolList (es : List (Nat × CpInfo)) (last : Nat) : List CpInfo := es.foldr (fun e r => gap e.1 (e.2 :: r)) (gap last [])
def pool (es : List (Nat × CpInfo)) (last : Nat) : Array CpInfo := ⟨poolList es last⟩
def fileOf (pool : Array CpInfo) (this : Nat) (attrs : Array Attribute := #[]) (ms : Array MethodInfo := #[]) (fl : Nat := 33) (sup : Nat := 0) (ifs : Array Nat := #[]) (fds : Array FieldInfo := #[]) : ClassFile where
  minorVersion := 0
  majorVersion := 65
  constantPool := pool
  accessFlags := fl
  thisClass := this
  superClass := sup
  interfaces := ifs
  fields := fds
  methods := ms
  attributes := attrs
def plain (name : String) (sup : Option ClassId) : Class where
  name := name
  kind := .ordinary
  loader := none
  accessFlags := 33
  super := sup
  interfaces := #[]
  cf := none
  fields := #[]
  methods := #[]
  instanceTypes := #[]
  staticTypes := #[]
  resolved := #[]
  callSites := []
  init := .initialized
  statics := none
  mirror := none

def pool0 : Array CpInfo := pool [(5, u "<init>"), (0, u "()V"), (1, .class_ 10), (1, u "java/lang/Object")] 113

def k0c0 : Code := { maxStack := 0, maxLocals := 1, code := object_method_1_code, exceptionTable := #[], attributes := #[] }
def k0m0 : Method := { name := "<init>", desc := "()V", sig := { parameters := [], returnType := none }, accessFlags := 1, code := some k0c0 }
/-- java/lang/Object -/
def k0 : Class := { plain "java/lang/Object" none with
  accessFlags := 33
  interfaces := #[]
  cf := some (fileOf pool0 8 #[] #[{ accessFlags := 1, nameIndex := 5, descriptorIndex := 6, attributes := #[] }] 33 0 #[] #[])
  fields := #[]
  methods := #[k0m0]
  instanceTypes := #[]
  staticTypes := #[]
  resolved := Array.replicate 124 none
  statics := none }

def pool1 : Array CpInfo := pool [(2, .class_ 4), (1, u "java/lang/Object"), (0, u "<init>"), (0, u "()V"), (2, .long 9223372036854775807), (3, .long 2147483647), (1, .long 7), (1, .long 3), (1, .long 255), (1, .class_ 22), (0, u "com/example/envelope/envelope/DataBuilder"), (0, .methodref 21 24), (0, .nameAndType 5 25), (0, u "(I)V"), (0, .methodref 21 27), (0, .nameAndType 28 29), (0, u "take"), (0, u "(I)I"), (0, .methodref 21 31), (0, .nameAndType 32 33), (0, u "canTake"), (0, u "(J)Z"), (0, .class_ 35), (0, u "com/example/envelope/envelope/DataBuilderCanTakePinLaw"), (2, u "law"), (0, u "(IIIJ)Z")] 3

def k1m0 : Method := { name := "<init>", desc := "()V", sig := { parameters := [], returnType := none }, accessFlags := 1, code := none }
def k1c1 : Code := { maxStack := 6, maxLocals := 12, code := code, exceptionTable := #[], attributes := #[] }
def k1m1 : Method := { name := "law", desc := "(IIIJ)Z", sig := { parameters := [.int, .int, .int, .long], returnType := some .boolean }, accessFlags := 9, code := some k1c1 }
/-- com/example/envelope/envelope/DataBuilderCanTakePinLaw -/
def k1 : Class := { plain "com/example/envelope/envelope/DataBuilderCanTakePinLaw" (some 0) with
  accessFlags := 49
  interfaces := #[]
  cf := some (fileOf pool1 34 #[] #[{ accessFlags := 1, nameIndex := 5, descriptorIndex := 6, attributes := #[] }, { accessFlags := 9, nameIndex := 38, descriptorIndex := 39, attributes := #[] }] 49 2 #[] #[])
  fields := #[]
  methods := #[k1m0, k1m1]
  instanceTypes := #[]
  staticTypes := #[]
  resolved := Array.replicate 43 none
  statics := none }

def pool2 : Array CpInfo := pool [(1, .methodref 2 3), (0, .class_ 4), (0, .nameAndType 5 6), (0, u "java/lang/Object"), (0, u "<init>"), (0, u "()V"), (0, .fieldref 8 9), (0, .class_ 10), (0, .nameAndType 11 12), (0, u "com/example/envelope/envelope/DataBuilder"), (0, u "data"), (0, u "[B"), (2, .integer 2147483647), (0, .fieldref 8 17), (0, .nameAndType 18 19), (0, u "length"), (0, u "I"), (9, .long 2), (1, .methodref 32 33), (0, .class_ 34), (0, .nameAndType 35 36), (0, u "java/lang/Math"), (0, u "max"), (0, u "(JJ)J"), (0, .long 2147483647), (1, .methodref 32 40), (0, .nameAndType 41 36), (0, u "min"), (0, .methodref 43 44), (0, .class_ 45), (0, .nameAndType 46 47), (0, u "java/util/Arrays"), (0, u "copyOf"), (0, u "([BI)[B"), (15, u "take"), (0, u "(I)I"), (4, u "(I)V"), (3, u "canTake"), (0, u "(J)Z")] 9

def k2c0 : Code := { maxStack := 2, maxLocals := 2, code := prog_19_method_1_code, exceptionTable := #[], attributes := #[] }
def k2m0 : Method := { name := "<init>", desc := "(I)V", sig := { parameters := [.int], returnType := none }, accessFlags := 0, code := some k2c0 }
def k2c1 : Code := { maxStack := 6, maxLocals := 5, code := prog_19_method_2_code, exceptionTable := #[], attributes := #[] }
def k2m1 : Method := { name := "take", desc := "(I)I", sig := { parameters := [.int], returnType := some .int }, accessFlags := 0, code := some k2c1 }
def k2c2 : Code := { maxStack := 4, maxLocals := 3, code := prog_19_method_3_code, exceptionTable := #[], attributes := #[] }
def k2m2 : Method := { name := "canTake", desc := "(J)Z", sig := { parameters := [.long], returnType := some .boolean }, accessFlags := 0, code := some k2c2 }
/-- com/example/envelope/envelope/DataBuilder -/
def k2 : Class := { plain "com/example/envelope/envelope/DataBuilder" (some 0) with
  accessFlags := 32
  interfaces := #[]
  cf := some (fileOf pool2 8 #[] #[{ accessFlags := 0, nameIndex := 5, descriptorIndex := 69, attributes := #[] }, { accessFlags := 0, nameIndex := 63, descriptorIndex := 64, attributes := #[] }, { accessFlags := 0, nameIndex := 73, descriptorIndex := 74, attributes := #[] }] 32 2 #[] #[{ accessFlags := 2, nameIndex := 11, descriptorIndex := 12, attributes := #[] }, { accessFlags := 2, nameIndex := 18, descriptorIndex := 19, attributes := #[] }])
  fields := #[{ name := "data", type := (.array .byte), accessFlags := 2, slot := 0, constantValue := 0 }, { name := "length", type := .int, accessFlags := 2, slot := 1, constantValue := 0 }]
  methods := #[k2m0, k2m1, k2m2]
  instanceTypes := #[(.array .byte), .int]
  staticTypes := #[]
  resolved := Array.replicate 84 none
  statics := none }

def pool3 : Array CpInfo := pool [(1, .class_ 2), (0, u "java/lang/Math"), (1, .class_ 6), (1, u "java/lang/Object"), (0, u "<init>"), (0, u "()V"), (89, .class_ 100), (1, u "java/lang/Math$RandomNumberGeneratorHolder"), (20, u "(JJ)J"), (50, u "negativeZeroFloatBits"), (0, u "J"), (2, u "negativeZeroDoubleBits"), (21, u "max"), (2, u "min"), (43, u "$assertionsDisabled"), (0, u "Z"), (88, u "(II)I"), (2, u "twoToTheDoubleScaleDown"), (0, u "D"), (4, u "twoToTheDoubleScaleUp"), (9, u "E"), (3, u "PI"), (2, u "TAU"), (2, u "DEGREES_TO_RADIANS"), (0, u "RADIANS_TO_DEGREES")] 94

def k3m0 : Method := { name := "<init>", desc := "()V", sig := { parameters := [], returnType := none }, accessFlags := 2, code := none }
def k3c1 : Code := { maxStack := 4, maxLocals := 4, code := jdk_29_method_66_code, exceptionTable := #[], attributes := #[] }
def k3m1 : Method := { name := "max", desc := "(JJ)J", sig := { parameters := [.long, .long], returnType := some .long }, accessFlags := 9, code := some k3c1 }
def k3c2 : Code := { maxStack := 2, maxLocals := 2, code := jdk_29_method_69_code, exceptionTable := #[], attributes := #[] }
def k3m2 : Method := { name := "min", desc := "(II)I", sig := { parameters := [.int, .int], returnType := some .int }, accessFlags := 9, code := some k3c2 }
def k3c3 : Code := { maxStack := 4, maxLocals := 4, code := jdk_29_method_70_code, exceptionTable := #[], attributes := #[] }
def k3m3 : Method := { name := "min", desc := "(JJ)J", sig := { parameters := [.long, .long], returnType := some .long }, accessFlags := 9, code := some k3c3 }
/-- java/lang/Math -/
def k3 : Class := { plain "java/lang/Math" (some 0) with
  accessFlags := 49
  interfaces := #[]
  cf := some (fileOf pool3 1 #[.nestMembers #[98]] #[{ accessFlags := 2, nameIndex := 7, descriptorIndex := 8, attributes := #[] }, { accessFlags := 9, nameIndex := 198, descriptorIndex := 121, attributes := #[] }, { accessFlags := 9, nameIndex := 201, descriptorIndex := 335, attributes := #[] }, { accessFlags := 9, nameIndex := 201, descriptorIndex := 121, attributes := #[] }] 49 4 #[] #[{ accessFlags := 25, nameIndex := 354, descriptorIndex := 339, attributes := #[] }, { accessFlags := 25, nameIndex := 358, descriptorIndex := 339, attributes := #[] }, { accessFlags := 25, nameIndex := 361, descriptorIndex := 339, attributes := #[] }, { accessFlags := 26, nameIndex := 364, descriptorIndex := 339, attributes := #[] }, { accessFlags := 26, nameIndex := 365, descriptorIndex := 339, attributes := #[] }, { accessFlags := 26, nameIndex := 172, descriptorIndex := 173, attributes := #[] }, { accessFlags := 26, nameIndex := 176, descriptorIndex := 173, attributes := #[] }, { accessFlags := 8, nameIndex := 344, descriptorIndex := 339, attributes := #[] }, { accessFlags := 8, nameIndex := 338, descriptorIndex := 339, attributes := #[] }, { accessFlags := 4120, nameIndex := 245, descriptorIndex := 246, attributes := #[] }])
  fields := #[{ name := "E", type := .double, accessFlags := 25, slot := 0, constantValue := 0 }, { name := "PI", type := .double, accessFlags := 25, slot := 1, constantValue := 0 }, { name := "TAU", type := .double, accessFlags := 25, slot := 2, constantValue := 0 }, { name := "DEGREES_TO_RADIANS", type := .double, accessFlags := 26, slot := 3, constantValue := 0 }, { name := "RADIANS_TO_DEGREES", type := .double, accessFlags := 26, slot := 4, constantValue := 0 }, { name := "negativeZeroFloatBits", type := .long, accessFlags := 26, slot := 5, constantValue := 0 }, { name := "negativeZeroDoubleBits", type := .long, accessFlags := 26, slot := 6, constantValue := 0 }, { name := "twoToTheDoubleScaleUp", type := .double, accessFlags := 8, slot := 7, constantValue := 0 }, { name := "twoToTheDoubleScaleDown", type := .double, accessFlags := 8, slot := 8, constantValue := 0 }, { name := "$assertionsDisabled", type := .boolean, accessFlags := 4120, slot := 9, constantValue := 0 }]
  methods := #[k3m0, k3m1, k3m2, k3m3]
  instanceTypes := #[]
  staticTypes := #[.double, .double, .double, .double, .double, .long, .long, .double, .double, .boolean]
  resolved := Array.replicate 460 none
  statics := none }

def pool4 : Array CpInfo := pool [(2, .class_ 4), (1, u "java/lang/Object"), (0, u "<init>"), (0, u "()V"), (7, .class_ 16), (1, u "java/util/Arrays"), (57, .class_ 76), (1, u "java/util/Arrays$NaturalOrder"), (36, .class_ 115), (1, u "java/util/Arrays$LegacyMergeSort"), (1, u "Z"), (32, .methodref 151 152), (0, .class_ 153), (0, .nameAndType 154 155), (0, u "java/lang/System"), (0, u "arraycopy"), (0, u "(Ljava/lang/Object;ILjava/lang/Object;II)V"), (146, u "copyOf"), (1, .methodref 305 306), (0, .class_ 307), (0, .nameAndType 308 309), (0, u "java/lang/Math"), (0, u "min"), (0, u "(II)I"), (65, .class_ 376), (0, u "java/util/Arrays$ArrayList"), (68, u "$assertionsDisabled"), (269, u "MIN_ARRAY_SORT_GRAN"), (0, u "I"), (2, u "INSERTIONSORT_THRESHOLD"), (149, u "([BI)[B"), (105, .class_ 976), (0, u "java/util/Arrays$ArrayItr")] 52

def k4m0 : Method := { name := "<init>", desc := "()V", sig := { parameters := [], returnType := none }, accessFlags := 2, code := none }
def k4c1 : Code := { maxStack := 6, maxLocals := 3, code := jdk_65_method_121_code, exceptionTable := #[], attributes := #[] }
def k4m1 : Method := { name := "copyOf", desc := "([BI)[B", sig := { parameters := [(.array .byte), .int], returnType := some (.array .byte) }, accessFlags := 9, code := some k4c1 }
/-- java/util/Arrays -/
def k4 : Class := { plain "java/util/Arrays" (some 0) with
  accessFlags := 49
  interfaces := #[]
  cf := some (fileOf pool4 14 #[.nestMembers #[975, 375, 113, 74]] #[{ accessFlags := 2, nameIndex := 5, descriptorIndex := 6, attributes := #[] }, { accessFlags := 9, nameIndex := 302, descriptorIndex := 869, attributes := #[] }] 49 2 #[] #[{ accessFlags := 26, nameIndex := 715, descriptorIndex := 716, attributes := #[] }, { accessFlags := 26, nameIndex := 719, descriptorIndex := 716, attributes := #[] }, { accessFlags := 4120, nameIndex := 445, descriptorIndex := 117, attributes := #[] }])
  fields := #[{ name := "MIN_ARRAY_SORT_GRAN", type := .int, accessFlags := 26, slot := 0, constantValue := 0 }, { name := "INSERTIONSORT_THRESHOLD", type := .int, accessFlags := 26, slot := 1, constantValue := 0 }, { name := "$assertionsDisabled", type := .boolean, accessFlags := 4120, slot := 2, constantValue := 0 }]
  methods := #[k4m0, k4m1]
  instanceTypes := #[]
  staticTypes := #[.int, .int, .boolean]
  resolved := Array.replicate 1029 none
  statics := none }

def pool5 : Array CpInfo := pool [(2, .class_ 4), (1, u "java/lang/Object"), (0, u "<init>"), (0, u "()V"), (1, .class_ 10), (1, u "java/lang/System"), (0, u "allowSecurityManager"), (0, u "I"), (16, u "cons"), (0, u "Ljava/io/Console;"), (77, .class_ 110), (1, u "java/lang/System$CallersHolder"), (43, u "initialErrStream"), (0, u "Ljava/io/PrintStream;"), (19, u "security"), (0, u "Ljava/lang/SecurityManager;"), (31, .class_ 209), (0, u "java/lang/System$1"), (7, u "props"), (0, u "Ljava/util/Properties;"), (2, u "lineSeparator"), (0, u "Ljava/lang/String;"), (96, .class_ 321), (1, u "java/lang/System$LoggerFinder"), (5, .class_ 328), (0, u "java/lang/System$Logger"), (67, u "err"), (2, u "out"), (91, u "notSupportedJnuEncoding"), (15, u "in"), (17, u "initialIn"), (0, u "Ljava/io/InputStream;"), (35, u "bootLayer"), (0, u "Ljava/lang/ModuleLayer;"), (99, .class_ 664), (0, u "java/lang/System$2"), (9, u "NEVER"), (2, u "MAYBE"), (49, u "arraycopy"), (0, u "(Ljava/lang/Object;ILjava/lang/Object;II)V"), (72, .class_ 802), (0, u "java/lang/System$Logger$Level")] 31

def k5m0 : Method := { name := "<init>", desc := "()V", sig := { parameters := [], returnType := none }, accessFlags := 2, code := none }
def k5m1 : Method := { name := "arraycopy", desc := "(Ljava/lang/Object;ILjava/lang/Object;II)V", sig := { parameters := [(.object "java/lang/Object"), .int, (.object "java/lang/Object"), .int, .int], returnType := none }, accessFlags := 265, code := none }
/-- java/lang/System -/
def k5 : Class := { plain "java/lang/System" (some 0) with
  accessFlags := 49
  interfaces := #[]
  cf := some (fileOf pool5 8 #[.nestMembers #[319, 327, 801, 108, 663, 208]] #[{ accessFlags := 2, nameIndex := 5, descriptorIndex := 6, attributes := #[] }, { accessFlags := 265, nameIndex := 727, descriptorIndex := 728, attributes := #[] }] 49 2 #[] #[{ accessFlags := 25, nameIndex := 507, descriptorIndex := 526, attributes := #[] }, { accessFlags := 25, nameIndex := 399, descriptorIndex := 155, attributes := #[] }, { accessFlags := 25, nameIndex := 396, descriptorIndex := 155, attributes := #[] }, { accessFlags := 10, nameIndex := 525, descriptorIndex := 526, attributes := #[] }, { accessFlags := 26, nameIndex := 674, descriptorIndex := 12, attributes := #[] }, { accessFlags := 26, nameIndex := 677, descriptorIndex := 12, attributes := #[] }, { accessFlags := 10, nameIndex := 11, descriptorIndex := 12, attributes := #[] }, { accessFlags := 74, nameIndex := 175, descriptorIndex := 176, attributes := #[] }, { accessFlags := 10, nameIndex := 491, descriptorIndex := 222, attributes := #[] }, { accessFlags := 74, nameIndex := 29, descriptorIndex := 30, attributes := #[] }, { accessFlags := 74, nameIndex := 154, descriptorIndex := 155, attributes := #[] }, { accessFlags := 10, nameIndex := 217, descriptorIndex := 218, attributes := #[] }, { accessFlags := 10, nameIndex := 221, descriptorIndex := 222, attributes := #[] }, { accessFlags := 8, nameIndex := 562, descriptorIndex := 563, attributes := #[] }])
  fields := #[{ name := "in", type := (.object "java/io/InputStream"), accessFlags := 25, slot := 0, constantValue := 0 }, { name := "out", type := (.object "java/io/PrintStream"), accessFlags := 25, slot := 1, constantValue := 0 }, { name := "err", type := (.object "java/io/PrintStream"), accessFlags := 25, slot := 2, constantValue := 0 }, { name := "initialIn", type := (.object "java/io/InputStream"), accessFlags := 10, slot := 3, constantValue := 0 }, { name := "NEVER", type := .int, accessFlags := 26, slot := 4, constantValue := 0 }, { name := "MAYBE", type := .int, accessFlags := 26, slot := 5, constantValue := 0 }, { name := "allowSecurityManager", type := .int, accessFlags := 10, slot := 6, constantValue := 0 }, { name := "security", type := (.object "java/lang/SecurityManager"), accessFlags := 74, slot := 7, constantValue := 0 }, { name := "notSupportedJnuEncoding", type := (.object "java/lang/String"), accessFlags := 10, slot := 8, constantValue := 0 }, { name := "cons", type := (.object "java/io/Console"), accessFlags := 74, slot := 9, constantValue := 0 }, { name := "initialErrStream", type := (.object "java/io/PrintStream"), accessFlags := 74, slot := 10, constantValue := 0 }, { name := "props", type := (.object "java/util/Properties"), accessFlags := 10, slot := 11, constantValue := 0 }, { name := "lineSeparator", type := (.object "java/lang/String"), accessFlags := 10, slot := 12, constantValue := 0 }, { name := "bootLayer", type := (.object "java/lang/ModuleLayer"), accessFlags := 8, slot := 13, constantValue := 0 }]
  methods := #[k5m0, k5m1]
  instanceTypes := #[]
  staticTypes := #[(.object "java/io/InputStream"), (.object "java/io/PrintStream"), (.object "java/io/PrintStream"), (.object "java/io/InputStream"), .int, .int, .int, (.object "java/lang/SecurityManager"), (.object "java/lang/String"), (.object "java/io/Console"), (.object "java/io/PrintStream"), (.object "java/util/Properties"), (.object "java/lang/String"), (.object "java/lang/ModuleLayer")]
  resolved := Array.replicate 834 none
  statics := none }

def pool6 : Array CpInfo := pool [(1, u "java/lang/Cloneable"), (0, .class_ 1), (0, u "java/lang/Object"), (0, .class_ 3)] 3

/-- java/lang/Cloneable -/
def k6 : Class := { plain "java/lang/Cloneable" (some 0) with
  accessFlags := 1537
  interfaces := #[]
  cf := some (fileOf pool6 2 #[] #[] 1537 4 #[] #[])
  fields := #[]
  methods := #[]
  instanceTypes := #[]
  staticTypes := #[]
  resolved := Array.replicate 8 none
  statics := none }

def pool7 : Array CpInfo := pool [(1, u "java/io/Serializable"), (0, .class_ 1), (0, u "java/lang/Object"), (0, .class_ 3)] 3

/-- java/io/Serializable -/
def k7 : Class := { plain "java/io/Serializable" (some 0) with
  accessFlags := 1537
  interfaces := #[]
  cf := some (fileOf pool7 2 #[] #[] 1537 4 #[] #[])
  fields := #[]
  methods := #[]
  instanceTypes := #[]
  staticTypes := #[]
  resolved := Array.replicate 8 none
  statics := none }

/-- the primitive byte -/
def k8 : Class := { plain "byte" none with kind := .primitive 'B', accessFlags := 0x411 }
/-- [B -/
def k9 : Class := { plain "[B" (some 0) with kind := .array 8 .byte, interfaces := #[6, 7], accessFlags := 1041 }

/-- the primitive int -/
def k10 : Class := { plain "int" none with kind := .primitive 'I', accessFlags := 0x411 }
/-- [I -/
def k11 : Class := { plain "[I" (some 0) with kind := .array 10 .int, interfaces := #[6, 7], accessFlags := 1041 }

def heap : Heap := #[]
def classes : Array Class := #[k0, k1, k2, k3, k4, k5, k6, k7, k8, k9, k10, k11]
def interned : List (Array UInt16 × Addr) := []
def slotsUsed : Nat := 0
def theMethod : MethodId := ⟨1, 1⟩
def args0 : Array Value := #[.int 5, .int 5, .int 5, .long 5]
def aboutOver (below : List Frame) : State where
  vm := { classes := classes, interned := interned.toArray }
  heap := heap
  slotsUsed := slotsUsed
  threads := #[{ frames := .invoking theMethod args0 :: below }]
def below0 : List Frame := [.native { method := ⟨0, 0⟩, args := #[] }]
def about1 : State := aboutOver below0
def p0 : Program := .bare "" "" ""
def e0 : Env := launch0.env 0 0 0
theorem w_frames : about1.frames = Frame.invoking theMethod args0 :: below0 := rfl
set_option maxRecDepth 65536 in
theorem w_args : argsFit about1.vm theMethod args0 = true := by decide +kernel
set_option maxRecDepth 65536 in
theorem w_heap : heapFits about1 = true := by decide +kernel
set_option maxRecDepth 65536 in
theorem w_runnable : about1.curStatus? = some .runnable := by decide +kernel
set_option maxRecDepth 65536 in
theorem w_alone : about1.alone = true := by decide +kernel
set_option maxRecDepth 65536 in
theorem w_named : about1.methodNamed? x = some theMethod := by decide +kernel
set_option maxRecDepth 65536 in
theorem w_hears : about1.hears theMethod below0 = true := by decide +kernel
set_option maxRecDepth 65536 in
theorem w_ripe : about1.ripe theMethod args0 below0 = true := by decide +kernel
theorem w_running : about1.status = .running := rfl
set_option maxRecDepth 65536 in
theorem w_room : about1.hasRoom e0.platform room_1 = true :=
  launch0.hasRoom_least _ room_1 (by decide +kernel) (by decide +kernel) (by decide +kernel) (by decide +kernel) (by decide +kernel) (by decide +kernel)
theorem allAtoms_all (ts : List Jvm.Cond) (a : Array Jvm.Value) (st : Jvm.State) : (allAtoms ts).before a st = ts.all (fun c => c.before a st) := by
  induction ts with
  | nil => rfl
  | cons c t ih =>
    show (Jvm.Cond.and c (allAtoms t)).before a st = _
    rw [Jvm.Cond.before_and, ih, List.all_cons]
def words1 : List Jvm.Cond := Jvm.Cond.code x code maxLocals ret :: tables_1
/-- a 'code' word, met by the world's own term for the bytes: nothing is compared byte by byte -/
theorem code_word {y : MethodName} {bytes : ByteArray} {mx : Nat} {rt : Option FieldType} {a : Array Value} {s : State} {m : MethodId} {meth : Method} {c : Code} (h1 : s.methodNamed? y = some m) (h2 : s.vm.method? m = some meth) (h3 : meth.code = some c) (h4 : c.code = bytes)
    (h5 : (c.maxLocals == mx && c.exceptionTable.isEmpty && decide (c.maxStack ≤ mostOperands) && decide (meth.sig.returnType = rt) && !meth.locks && decide (parseMethodDescriptor y.desc = some meth.sig)) = true) : (Jvm.Cond.code y bytes mx rt).before a s = true := by
  simp only [Bool.and_eq_true, beq_iff_eq, Bool.not_eq_true', decide_eq_true_eq] at h5
  obtain ⟨⟨⟨⟨⟨g1, g2⟩, g3⟩, g4⟩, g5⟩, g6⟩ := h5
  simp [Cond.before, Cond.holds, Cond.value, h1, h2, h3, h4, g1, g2, g3, g4, g5, g6]
def isCode : Jvm.Cond → Bool
  | .code _ _ _ _ => true
  | _ => false
theorem all_split {L : List Jvm.Cond} {P : Jvm.Cond → Bool} (h1 : L.all (fun c => isCode c || P c) = true) (h2 : ∀ c ∈ L.filter isCode, P c = true) : L.all P = true := by
  refine List.all_eq_true.mpr fun c hc => ?_
  have h := List.all_eq_true.mp h1 c hc
  rcases Bool.eq_false_or_eq_true (isCode c) with hi | hi
  · exact h2 c (List.mem_filter.mpr ⟨hc, hi⟩)
  · simpa [hi] using h
set_option maxRecDepth 65536 in
theorem w_c0 : (Jvm.Cond.code x code maxLocals ret).before args0 about1 = true := code_word (m := ⟨1, 1⟩) (meth := k1m1) (c := k1c1) (by decide +kernel) rfl rfl rfl (by decide +kernel)
set_option maxRecDepth 65536 in
theorem w_c1 : (Jvm.Cond.code ({ cls := "com/example/envelope/envelope/DataBuilder", name := "<init>", desc := "(I)V" } : Jvm.MethodName) prog_19_method_1_code (2 : Nat) (Option.none : Option Jvm.ClassFile.FieldType)).before args0 about1 = true := code_word (m := ⟨2, 0⟩) (meth := k2m0) (c := k2c0) (by decide +kernel) rfl rfl rfl (by decide +kernel)
set_option maxRecDepth 65536 in
theorem w_c2 : (Jvm.Cond.code ({ cls := "java/lang/Object", name := "<init>", desc := "()V" } : Jvm.MethodName) object_method_1_code (1 : Nat) (Option.none : Option Jvm.ClassFile.FieldType)).before args0 about1 = true := code_word (m := ⟨0, 0⟩) (meth := k0m0) (c := k0c0) (by decide +kernel) rfl rfl rfl (by decide +kernel)
set_option maxRecDepth 65536 in
theorem w_c3 : (Jvm.Cond.code ({ cls := "com/example/envelope/envelope/DataBuilder", name := "take", desc := "(I)I" } : Jvm.MethodName) prog_19_method_2_code (5 : Nat) (Option.some Jvm.ClassFile.FieldType.int)).before args0 about1 = true := code_word (m := ⟨2, 1⟩) (meth := k2m1) (c := k2c1) (by decide +kernel) rfl rfl rfl (by decide +kernel)
set_option maxRecDepth 65536 in
theorem w_c4 : (Jvm.Cond.code ({ cls := "java/lang/Math", name := "max", desc := "(JJ)J" } : Jvm.MethodName) jdk_29_method_66_code (4 : Nat) (Option.some Jvm.ClassFile.FieldType.long)).before args0 about1 = true := code_word (m := ⟨3, 1⟩) (meth := k3m1) (c := k3c1) (by decide +kernel) rfl rfl rfl (by decide +kernel)
set_option maxRecDepth 65536 in
theorem w_c5 : (Jvm.Cond.code ({ cls := "java/lang/Math", name := "min", desc := "(JJ)J" } : Jvm.MethodName) jdk_29_method_70_code (4 : Nat) (Option.some Jvm.ClassFile.FieldType.long)).before args0 about1 = true := code_word (m := ⟨3, 3⟩) (meth := k3m3) (c := k3c3) (by decide +kernel) rfl rfl rfl (by decide +kernel)
set_option maxRecDepth 65536 in
theorem w_c6 : (Jvm.Cond.code ({ cls := "java/util/Arrays", name := "copyOf", desc := "([BI)[B" } : Jvm.MethodName) jdk_65_method_121_code (3 : Nat) (Option.some (Jvm.ClassFile.FieldType.array Jvm.ClassFile.FieldType.byte))).before args0 about1 = true := code_word (m := ⟨4, 1⟩) (meth := k4m1) (c := k4c1) (by decide +kernel) rfl rfl rfl (by decide +kernel)
set_option maxRecDepth 65536 in
theorem w_c7 : (Jvm.Cond.code ({ cls := "java/lang/Math", name := "min", desc := "(II)I" } : Jvm.MethodName) jdk_29_method_69_code (2 : Nat) (Option.some Jvm.ClassFile.FieldType.int)).before args0 about1 = true := code_word (m := ⟨3, 2⟩) (meth := k3m2) (c := k3c2) (by decide +kernel) rfl rfl rfl (by decide +kernel)
set_option maxRecDepth 65536 in
theorem w_c8 : (Jvm.Cond.code ({ cls := "com/example/envelope/envelope/DataBuilder", name := "canTake", desc := "(J)Z" } : Jvm.MethodName) prog_19_method_3_code (3 : Nat) (Option.some Jvm.ClassFile.FieldType.boolean)).before args0 about1 = true := code_word (m := ⟨2, 2⟩) (meth := k2m2) (c := k2c2) (by decide +kernel) rfl rfl rfl (by decide +kernel)
def codes1 : List Jvm.Cond := [Jvm.Cond.code x code maxLocals ret, Jvm.Cond.code ({ cls := "com/example/envelope/envelope/DataBuilder", name := "<init>", desc := "(I)V" } : Jvm.MethodName) prog_19_method_1_code (2 : Nat) (Option.none : Option Jvm.ClassFile.FieldType), Jvm.Cond.code ({ cls := "java/lang/Object", name := "<init>", desc := "()V" } : Jvm.MethodName) object_method_1_code (1 : Nat) (Option.none : Option Jvm.ClassFile.FieldType), Jvm.Cond.code ({ cls := "com/example/envelope/envelope/DataBuilder", name := "take", desc := "(I)I" } : Jvm.MethodName) prog_19_method_2_code (5 : Nat) (Option.some Jvm.ClassFile.FieldType.int), Jvm.Cond.code ({ cls := "java/lang/Math", name := "max", desc := "(JJ)J" } : Jvm.MethodName) jdk_29_method_66_code (4 : Nat) (Option.some Jvm.ClassFile.FieldType.long), Jvm.Cond.code ({ cls := "java/lang/Math", name := "min", desc := "(JJ)J" } : Jvm.MethodName) jdk_29_method_70_code (4 : Nat) (Option.some Jvm.ClassFile.FieldType.long), Jvm.Cond.code ({ cls := "java/util/Arrays", name := "copyOf", desc := "([BI)[B" } : Jvm.MethodName) jdk_65_method_121_code (3 : Nat) (Option.some (Jvm.ClassFile.FieldType.array Jvm.ClassFile.FieldType.byte)), Jvm.Cond.code ({ cls := "java/lang/Math", name := "min", desc := "(II)I" } : Jvm.MethodName) jdk_29_method_69_code (2 : Nat) (Option.some Jvm.ClassFile.FieldType.int), Jvm.Cond.code ({ cls := "com/example/envelope/envelope/DataBuilder", name := "canTake", desc := "(J)Z" } : Jvm.MethodName) prog_19_method_3_code (3 : Nat) (Option.some Jvm.ClassFile.FieldType.boolean)]
set_option maxRecDepth 65536 in
theorem codes_eq : words1.filter isCode = codes1 := rfl
theorem w_codes : ∀ c ∈ words1.filter isCode, c.before args0 about1 = true := by
  rw [codes_eq]
  intro c hc
  simp only [codes1, List.mem_cons, List.not_mem_nil, or_false] at hc
  rcases hc with rfl | rfl | rfl | rfl | rfl | rfl | rfl | rfl | rfl
  · exact w_c0
  · exact w_c1
  · exact w_c2
  · exact w_c3
  · exact w_c4
  · exact w_c5
  · exact w_c6
  · exact w_c7
  · exact w_c8
set_option maxRecDepth 65536 in
theorem w_t1 : (words1.take 24).all (fun c => isCode c || c.before args0 about1) = true := by decide +kernel
set_option maxRecDepth 65536 in
theorem w_t2 : ((words1.drop 24).take 24).all (fun c => isCode c || c.before args0 about1) = true := by decide +kernel
set_option maxRecDepth 65536 in
theorem w_t3 : ((words1.drop 24).drop 24).all (fun c => isCode c || c.before args0 about1) = true := by decide +kernel
theorem w_tables : (allAtoms (Jvm.Cond.code x code maxLocals ret :: tables_1)).before args0 about1 = true := by
  rw [allAtoms_all]
  show words1.all (fun c => c.before args0 about1) = true
  refine all_split ?_ w_codes
  rw [← List.take_append_drop 24 words1, List.all_append, w_t1, ← List.take_append_drop 24 (words1.drop 24), List.all_append, w_t2, w_t3]
  rfl
set_option maxRecDepth 65536 in
theorem w_case : (Jvm.Cond.and given_1 narrow_1).before args0 about1 = true := by decide +kernel
theorem w_applies : (headSpec (Jvm.Cond.code x code maxLocals ret :: tables_1) room_1).applies x e0.platform about1 = true :=
  (Spec.applies_iff w_frames).mpr ⟨w_running, w_runnable, w_alone, w_named, w_hears, w_ripe, w_room, w_tables⟩
theorem atStart : AtStart classFile x code maxLocals ret World_1 tables_1 room_1 Calls_1 rest_1 Pre_1 launch0 p0 e0 about1 theMethod args0 below0 :=
  ⟨lists_1, trivial, launch0.admits_env _ _ _, launch0.least_env, fairChoices_fair.cas, fairChoices_fair.clock, w_frames, w_args, w_heap, w_applies, trivial, trivial, w_case⟩
end start1
theorem witness_1 : WitnessClaimed_1 := ⟨start1.p0, start1.e0, start1.about1, start1.theMethod, start1.args0, start1.below0, start1.atStart⟩
end Jvm.Pilot.@@N@@
