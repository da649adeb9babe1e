import JvmDerived
import JvmDerived.Pilot.@@N@@Statement
import JvmDerived.Pilot.@@N@@Code
set_option linter.unusedVariables false
set_option linter.unusedSimpArgs false
namespace Jvm.RoadKit
open Sem ClassFile Op Lib Jvm.Stand Jvm.Free Jvm.LawKit
section New
variable {p : Program} {l : Launch} {e : Env} {R : Room} {s : State} {m : MethodId} {args : Array Value} {below : List Frame} {meth : Method} {c : Code} {T : State} {locs : List Loc} {cells slots : Nat}
theorem retI (X : Stand p l e R s m args below meth c T locs cells slots) (hx : p.tables.exec = Jvm.exec) {pc : Nat} {Ls : Array Slot} {z : Int32} {rest : List Value} (hret : meth.sig.returnType = some .int) (hd : decode c.code pc = .ok (.ireturn, 1)) {fs : List Frame}
    (hl : ∀ (f : JFrame) (acts : List Action), f.method = m → f.locked = none → f.entered = [] → (doReturn e (T.setTop f) acts (some (.int z))).1 = T.setFrames fs) : Steps p.tables e below (T.setTop (mkF m pc Ls (.int z :: rest))) (T.setFrames fs) := by
  have hm' : T.vm.method? m = some meth := X.method'
  have hn : narrow .int (.int z) = .int z := rfl
  show Steps p.tables e below (T.setTop { method := m, pc := pc, locals := Ls, stack := _ :: rest, locked := none }) _
  jvm_step X.here [X.here.top, hx, hd, hm', hret, hn]
  first | (intro acts; rw [hl _ acts rfl rfl rfl]) | rw [hl _ _ rfl rfl rfl]
  exact Steps.refl _
end New
end Jvm.RoadKit
namespace Jvm.Pilot.@@N@@
open Jvm Jvm.ClassFile Sem Op Lib Jvm.Free Jvm.Stand Jvm.LawKit Jvm.RoadKit Bundle Jvm.Pilot.@@N@@.Jvm.D
theorem pf_0 : plainFor (⟨"java/lang/Math", "min", "(JJ)J"⟩ : MethodName) = true := Jvm.Free.JP.mathPlain rfl (by decide)
theorem pf_1 : plainFor (⟨"java/lang/Math", "max", "(JJ)J"⟩ : MethodName) = true := Jvm.Free.JP.mathPlain rfl (by decide)
theorem pf_2 : plainFor (⟨"java/lang/Math", "min", "(II)I"⟩ : MethodName) = true := Jvm.Free.JP.mathPlain rfl (by decide)
theorem pf_3 : plainFor (⟨"java/lang/Math", "max", "(II)I"⟩ : MethodName) = true := Jvm.Free.JP.mathPlain rfl (by decide)
theorem pn_0 : plainName "org/wayfold/graph/GraphLastAtMostPinLaw" = true := by first | (simp [plainName, overriddenIn]; done) | decide +kernel
theorem pn_1 : plainName "org/wayfold/graph/Graph" = true := by first | (simp [plainName, overriddenIn]; done) | decide +kernel
theorem pd_0 : parseMethodDescriptor "(JJ)J" = some ⟨[.long, .long], some .long⟩ := by decide +kernel
theorem pd_1 : parseMethodDescriptor "(IJ)I" = some ⟨[.int, .long], some .int⟩ := by decide +kernel
theorem pd_2 : parseMethodDescriptor "(II)I" = some ⟨[.int, .int], some .int⟩ := by decide +kernel
theorem pd_3 : parseMethodDescriptor "([IIII)I" = some ⟨[(.array .int), .int, .int, .int], some .int⟩ := by decide +kernel
theorem d1_0 : decode jdk_29_method_70_code 0 = .ok (.lload_n 0, 1) := by decide +kernel
theorem d1_1 : decode jdk_29_method_70_code 1 = .ok (.lload_n 2, 1) := by decide +kernel
theorem d1_2 : decode jdk_29_method_70_code 2 = .ok (.lcmp, 1) := by decide +kernel
theorem d1_3 : decode jdk_29_method_70_code 3 = .ok (.ifCond .gt 7, 3) := by decide +kernel
theorem d1_6 : decode jdk_29_method_70_code 6 = .ok (.lload_n 0, 1) := by decide +kernel
theorem d1_7 : decode jdk_29_method_70_code 7 = .ok (.goto 4, 3) := by decide +kernel
theorem d1_10 : decode jdk_29_method_70_code 10 = .ok (.lload_n 2, 1) := by decide +kernel
theorem d1_11 : decode jdk_29_method_70_code 11 = .ok (.lreturn, 1) := by decide +kernel
theorem ef_1 (m : MethodId) (x0 : Int64) (x1 : Int64) : entryFrame m #[(.long x0), (.long x1)] 4 = (mkF m 0 #[.val (.long x0), .second, .val (.long x1), .second] []) := by first | (simp [entryFrame, mkF, argsToLocals, Value.category]; done) | rfl
def F1 (x : Int64) (y : Int64) : Int64 := (if y < x then y else x)
def Q1 (Z : State) (x : Int64) (y : Int64) (h0 : Heap) (n0 : Nat) (vX : Option Value) (hX : Heap) (lX : List Loc) : Prop := vX = some (.long (F1 x y)) ∧ Fr n0 lX ∧ (hX = h0)
set_option maxRecDepth 65536 in
set_option maxHeartbeats 40000000 in
theorem rm1 (l : Launch) (Z : State) (a0 : Array Value) (hw : ∀ d ∈ tables_1, d.before a0 Z = true) (ws : List Jvm.Cond) (x : Int64) (y : Int64) (h0 : Heap) (n0 : Nat) (Z0 : n0 ≤ h0.size)  :
    MetFree l (⟨"java/lang/Math", "min", "(JJ)J"⟩ : MethodName) (head1 (Jvm.Cond.code (⟨"java/lang/Math", "min", "(JJ)J"⟩ : MethodName) jdk_29_method_70_code 4 (some .long) :: ws) ({ frames := 0, cells := 0, slots := 0, locals := 0 } : Room)) (fun aX uX => aX = #[(.long x), (.long y)] ∧ Z.Warmed39 uX.vm ∧ uX.heap = h0) (fun _ _ _ _ _ => True) (fun _ uX oX wX => ∃ vX lX, oX = .returned vX ∧ Q1 Z x y h0 n0 vX wX.heap lX ∧ FrameEnd uX oX wX lX ({ frames := 0, cells := 0, slots := 0, locals := 0 } : Room).cells ({ frames := 0, cells := 0, slots := 0, locals := 0 } : Room).slots) := by
  refine MetFree.of_bodySF pf_0 hisR ?_
  intro p e s m args below meth c s₁ Bd hml0 hP hK
  obtain ⟨rfl, hZ, hh⟩ := hP
  have hx := Bd.exec
  have hby := Bd.bytes
  have hml : c.maxLocals = 4 := hml0
  have hown : s.vm.findClass "java/lang/Math" = some m.cls := findClass_of_methodNamed Bd.named
  have hnm := (name_of_methodNamed Bd.named Bd.method).1
  have X0 : Stand p l e ({ frames := 0, cells := 0, slots := 0, locals := 0 } : Room) s m #[(.long x), (.long y)] below meth c s₁ [] 0 0 := Stand.of_body Bd
  have e0 : s₁.heap = h0 := by rw [← hh, Bd.state]; rfl
  have N0 := Fr.nil n0
  have pre0 : ∀ t, Steps p.tables e below (s₁.setTop (mkF m 0 #[.val (.long x), .second, .val (.long y), .second] [])) t → Steps p.tables e below (s₁.setTop (entryFrame m #[(.long x), (.long y)] 4)) t := fun t k => castTop (ef_1 m x y) k
  have P1 : ∀ t, Steps p.tables e below (s₁.setTop (mkF m 3 #[.val (.long x), .second, .val (.long y), .second] [(.int (XT.cmpL x y))])) t → Steps p.tables e below (s₁.setTop (entryFrame m #[(.long x), (.long y)] 4)) t := by
    intro t kk
    refine pre0 _ ?_
    show Steps p.tables e below (s₁.setTop (mkF m 0 #[.val (.long x), .second, .val (.long y), .second] [])) _
    refine XS.lloadN X0.here hx rfl (hb hby d1_0) rfl ?_
    show Steps p.tables e below (s₁.setTop (mkF m 1 #[.val (.long x), .second, .val (.long y), .second] [(.long x)])) _
    refine XS.lloadN X0.here hx rfl (hb hby d1_1) rfl ?_
    show Steps p.tables e below (s₁.setTop (mkF m 2 #[.val (.long x), .second, .val (.long y), .second] [(.long y), (.long x)])) _
    refine XT.lcmp X0.here hx rfl (hb hby d1_2) rfl ?_
    show Steps p.tables e below (s₁.setTop (mkF m 3 #[.val (.long x), .second, .val (.long y), .second] [(.int (XT.cmpL x y))])) _
    exact kk
  by_cases c2 : y < x
  · skip
    have P3 : ∀ t, Steps p.tables e below (s₁.setTop (mkF m 11 #[.val (.long x), .second, .val (.long y), .second] [(.long y)])) t → Steps p.tables e below (s₁.setTop (entryFrame m #[(.long x), (.long y)] 4)) t := by
      intro t kk
      refine P1 _ ?_
      show Steps p.tables e below (s₁.setTop (mkF m 3 #[.val (.long x), .second, .val (.long y), .second] [(.int (XT.cmpL x y))])) _
      refine XS.ifYes X0.here hx rfl (pc0 := 3) (pc' := 10) rfl (hb hby d1_3) rfl (XT.ll_gt_t c2) (by decide) (by decide) ?_
      show Steps p.tables e below (s₁.setTop (mkF m 10 #[.val (.long x), .second, .val (.long y), .second] [])) _
      refine XS.lloadN X0.here hx rfl (hb hby d1_10) rfl ?_
      show Steps p.tables e below (s₁.setTop (mkF m 11 #[.val (.long x), .second, .val (.long y), .second] [(.long y)])) _
      exact kk
    obtain ⟨fs, hr, hrun, hended, hW, hsame⟩ := X0.leave (v := some (.long y)) (fun h => by rw [Bd.returns] at h; cases h)
    refine ⟨_, _, P3 _ ?_, hrun, hended, _, _, rfl, ?_, ⟨_, rfl⟩, hW, hsame.mono (by decide) (by decide)⟩
    · exact X0.lreturnOut hx Bd.returns (hb hby d1_11) hr
    · show Q1 Z x y h0 n0 _ s₁.heap _
      rw [e0]
      exact ⟨congrArg (fun z => some (Value.long z)) (show (F1 x y) = _ from ((if_pos c2).trans rfl)).symm, N0, rfl⟩
  · skip
    have P4 : ∀ t, Steps p.tables e below (s₁.setTop (mkF m 11 #[.val (.long x), .second, .val (.long y), .second] [(.long x)])) t → Steps p.tables e below (s₁.setTop (entryFrame m #[(.long x), (.long y)] 4)) t := by
      intro t kk
      refine P1 _ ?_
      show Steps p.tables e below (s₁.setTop (mkF m 3 #[.val (.long x), .second, .val (.long y), .second] [(.int (XT.cmpL x y))])) _
      refine XS.ifNo X0.here hx rfl (hb hby d1_3) rfl (XT.ll_gt_f c2) ?_
      show Steps p.tables e below (s₁.setTop (mkF m 6 #[.val (.long x), .second, .val (.long y), .second] [])) _
      refine XS.lloadN X0.here hx rfl (hb hby d1_6) rfl ?_
      show Steps p.tables e below (s₁.setTop (mkF m 7 #[.val (.long x), .second, .val (.long y), .second] [(.long x)])) _
      refine XS.goto X0.here hx rfl (pc0 := 7) (pc' := 11) rfl (hb hby d1_7) (by decide) (by decide) ?_
      show Steps p.tables e below (s₁.setTop (mkF m 11 #[.val (.long x), .second, .val (.long y), .second] [(.long x)])) _
      exact kk
    obtain ⟨fs, hr, hrun, hended, hW, hsame⟩ := X0.leave (v := some (.long x)) (fun h => by rw [Bd.returns] at h; cases h)
    refine ⟨_, _, P4 _ ?_, hrun, hended, _, _, rfl, ?_, ⟨_, rfl⟩, hW, hsame.mono (by decide) (by decide)⟩
    · exact X0.lreturnOut hx Bd.returns (hb hby d1_11) hr
    · show Q1 Z x y h0 n0 _ s₁.heap _
      rw [e0]
      exact ⟨congrArg (fun z => some (Value.long z)) (show (F1 x y) = _ from ((if_neg c2).trans rfl)).symm, N0, rfl⟩
theorem d2_0 : decode jdk_29_method_66_code 0 = .ok (.lload_n 0, 1) := by decide +kernel
theorem d2_1 : decode jdk_29_method_66_code 1 = .ok (.lload_n 2, 1) := by decide +kernel
theorem d2_2 : decode jdk_29_method_66_code 2 = .ok (.lcmp, 1) := by decide +kernel
theorem d2_3 : decode jdk_29_method_66_code 3 = .ok (.ifCond .lt 7, 3) := by decide +kernel
theorem d2_6 : decode jdk_29_method_66_code 6 = .ok (.lload_n 0, 1) := by decide +kernel
theorem d2_7 : decode jdk_29_method_66_code 7 = .ok (.goto 4, 3) := by decide +kernel
theorem d2_10 : decode jdk_29_method_66_code 10 = .ok (.lload_n 2, 1) := by decide +kernel
theorem d2_11 : decode jdk_29_method_66_code 11 = .ok (.lreturn, 1) := by decide +kernel
theorem ef_2 (m : MethodId) (x0 : Int64) (x1 : Int64) : entryFrame m #[(.long x0), (.long x1)] 4 = (mkF m 0 #[.val (.long x0), .second, .val (.long x1), .second] []) := by first | (simp [entryFrame, mkF, argsToLocals, Value.category]; done) | rfl
def F2 (x : Int64) (y : Int64) : Int64 := (if x < y then y else x)
def Q2 (Z : State) (x : Int64) (y : Int64) (h0 : Heap) (n0 : Nat) (vX : Option Value) (hX : Heap) (lX : List Loc) : Prop := vX = some (.long (F2 x y)) ∧ Fr n0 lX ∧ (hX = h0)
set_option maxRecDepth 65536 in
set_option maxHeartbeats 40000000 in
theorem rm2 (l : Launch) (Z : State) (a0 : Array Value) (hw : ∀ d ∈ tables_1, d.before a0 Z = true) (ws : List Jvm.Cond) (x : Int64) (y : Int64) (h0 : Heap) (n0 : Nat) (Z0 : n0 ≤ h0.size)  :
    MetFree l (⟨"java/lang/Math", "max", "(JJ)J"⟩ : MethodName) (head1 (Jvm.Cond.code (⟨"java/lang/Math", "max", "(JJ)J"⟩ : MethodName) jdk_29_method_66_code 4 (some .long) :: ws) ({ frames := 0, cells := 0, slots := 0, locals := 0 } : Room)) (fun aX uX => aX = #[(.long x), (.long y)] ∧ Z.Warmed39 uX.vm ∧ uX.heap = h0) (fun _ _ _ _ _ => True) (fun _ uX oX wX => ∃ vX lX, oX = .returned vX ∧ Q2 Z x y h0 n0 vX wX.heap lX ∧ FrameEnd uX oX wX lX ({ frames := 0, cells := 0, slots := 0, locals := 0 } : Room).cells ({ frames := 0, cells := 0, slots := 0, locals := 0 } : Room).slots) := by
  refine MetFree.of_bodySF pf_1 hisR ?_
  intro p e s m args below meth c s₁ Bd hml0 hP hK
  obtain ⟨rfl, hZ, hh⟩ := hP
  have hx := Bd.exec
  have hby := Bd.bytes
  have hml : c.maxLocals = 4 := hml0
  have hown : s.vm.findClass "java/lang/Math" = some m.cls := findClass_of_methodNamed Bd.named
  have hnm := (name_of_methodNamed Bd.named Bd.method).1
  have X0 : Stand p l e ({ frames := 0, cells := 0, slots := 0, locals := 0 } : Room) s m #[(.long x), (.long y)] below meth c s₁ [] 0 0 := Stand.of_body Bd
  have e0 : s₁.heap = h0 := by rw [← hh, Bd.state]; rfl
  have N0 := Fr.nil n0
  have pre0 : ∀ t, Steps p.tables e below (s₁.setTop (mkF m 0 #[.val (.long x), .second, .val (.long y), .second] [])) t → Steps p.tables e below (s₁.setTop (entryFrame m #[(.long x), (.long y)] 4)) t := fun t k => castTop (ef_2 m x y) k
  have P1 : ∀ t, Steps p.tables e below (s₁.setTop (mkF m 3 #[.val (.long x), .second, .val (.long y), .second] [(.int (XT.cmpL x y))])) t → Steps p.tables e below (s₁.setTop (entryFrame m #[(.long x), (.long y)] 4)) t := by
    intro t kk
    refine pre0 _ ?_
    show Steps p.tables e below (s₁.setTop (mkF m 0 #[.val (.long x), .second, .val (.long y), .second] [])) _
    refine XS.lloadN X0.here hx rfl (hb hby d2_0) rfl ?_
    show Steps p.tables e below (s₁.setTop (mkF m 1 #[.val (.long x), .second, .val (.long y), .second] [(.long x)])) _
    refine XS.lloadN X0.here hx rfl (hb hby d2_1) rfl ?_
    show Steps p.tables e below (s₁.setTop (mkF m 2 #[.val (.long x), .second, .val (.long y), .second] [(.long y), (.long x)])) _
    refine XT.lcmp X0.here hx rfl (hb hby d2_2) rfl ?_
    show Steps p.tables e below (s₁.setTop (mkF m 3 #[.val (.long x), .second, .val (.long y), .second] [(.int (XT.cmpL x y))])) _
    exact kk
  by_cases c2 : x < y
  · skip
    have P3 : ∀ t, Steps p.tables e below (s₁.setTop (mkF m 11 #[.val (.long x), .second, .val (.long y), .second] [(.long y)])) t → Steps p.tables e below (s₁.setTop (entryFrame m #[(.long x), (.long y)] 4)) t := by
      intro t kk
      refine P1 _ ?_
      show Steps p.tables e below (s₁.setTop (mkF m 3 #[.val (.long x), .second, .val (.long y), .second] [(.int (XT.cmpL x y))])) _
      refine XS.ifYes X0.here hx rfl (pc0 := 3) (pc' := 10) rfl (hb hby d2_3) rfl (XT.ll_lt_t c2) (by decide) (by decide) ?_
      show Steps p.tables e below (s₁.setTop (mkF m 10 #[.val (.long x), .second, .val (.long y), .second] [])) _
      refine XS.lloadN X0.here hx rfl (hb hby d2_10) rfl ?_
      show Steps p.tables e below (s₁.setTop (mkF m 11 #[.val (.long x), .second, .val (.long y), .second] [(.long y)])) _
      exact kk
    obtain ⟨fs, hr, hrun, hended, hW, hsame⟩ := X0.leave (v := some (.long y)) (fun h => by rw [Bd.returns] at h; cases h)
    refine ⟨_, _, P3 _ ?_, hrun, hended, _, _, rfl, ?_, ⟨_, rfl⟩, hW, hsame.mono (by decide) (by decide)⟩
    · exact X0.lreturnOut hx Bd.returns (hb hby d2_11) hr
    · show Q2 Z x y h0 n0 _ s₁.heap _
      rw [e0]
      exact ⟨congrArg (fun z => some (Value.long z)) (show (F2 x y) = _ from ((if_pos c2).trans rfl)).symm, N0, rfl⟩
  · skip
    have P4 : ∀ t, Steps p.tables e below (s₁.setTop (mkF m 11 #[.val (.long x), .second, .val (.long y), .second] [(.long x)])) t → Steps p.tables e below (s₁.setTop (entryFrame m #[(.long x), (.long y)] 4)) t := by
      intro t kk
      refine P1 _ ?_
      show Steps p.tables e below (s₁.setTop (mkF m 3 #[.val (.long x), .second, .val (.long y), .second] [(.int (XT.cmpL x y))])) _
      refine XS.ifNo X0.here hx rfl (hb hby d2_3) rfl (XT.ll_lt_f c2) ?_
      show Steps p.tables e below (s₁.setTop (mkF m 6 #[.val (.long x), .second, .val (.long y), .second] [])) _
      refine XS.lloadN X0.here hx rfl (hb hby d2_6) rfl ?_
      show Steps p.tables e below (s₁.setTop (mkF m 7 #[.val (.long x), .second, .val (.long y), .second] [(.long x)])) _
      refine XS.goto X0.here hx rfl (pc0 := 7) (pc' := 11) rfl (hb hby d2_7) (by decide) (by decide) ?_
      show Steps p.tables e below (s₁.setTop (mkF m 11 #[.val (.long x), .second, .val (.long y), .second] [(.long x)])) _
      exact kk
    obtain ⟨fs, hr, hrun, hended, hW, hsame⟩ := X0.leave (v := some (.long x)) (fun h => by rw [Bd.returns] at h; cases h)
    refine ⟨_, _, P4 _ ?_, hrun, hended, _, _, rfl, ?_, ⟨_, rfl⟩, hW, hsame.mono (by decide) (by decide)⟩
    · exact X0.lreturnOut hx Bd.returns (hb hby d2_11) hr
    · show Q2 Z x y h0 n0 _ s₁.heap _
      rw [e0]
      exact ⟨congrArg (fun z => some (Value.long z)) (show (F2 x y) = _ from ((if_neg c2).trans rfl)).symm, N0, rfl⟩
theorem d3_0 : decode jdk_29_method_69_code 0 = .ok (.iload_n 0, 1) := by decide +kernel
theorem d3_1 : decode jdk_29_method_69_code 1 = .ok (.iload_n 1, 1) := by decide +kernel
theorem d3_2 : decode jdk_29_method_69_code 2 = .ok (.if_icmp .gt 7, 3) := by decide +kernel
theorem d3_5 : decode jdk_29_method_69_code 5 = .ok (.iload_n 0, 1) := by decide +kernel
theorem d3_6 : decode jdk_29_method_69_code 6 = .ok (.goto 4, 3) := by decide +kernel
theorem d3_9 : decode jdk_29_method_69_code 9 = .ok (.iload_n 1, 1) := by decide +kernel
theorem d3_10 : decode jdk_29_method_69_code 10 = .ok (.ireturn, 1) := by decide +kernel
theorem ef_3 (m : MethodId) (x0 : Int32) (x1 : Int32) : entryFrame m #[(.int x0), (.int x1)] 2 = (mkF m 0 #[.val (.int x0), .val (.int x1)] []) := by first | (simp [entryFrame, mkF, argsToLocals, Value.category]; done) | rfl
def F3 (x : Int32) (y : Int32) : Int32 := (if y < x then y else x)
def Q3 (Z : State) (x : Int32) (y : Int32) (h0 : Heap) (n0 : Nat) (vX : Option Value) (hX : Heap) (lX : List Loc) : Prop := vX = some (.int (F3 x y)) ∧ Fr n0 lX ∧ (hX = h0)
set_option maxRecDepth 65536 in
set_option maxHeartbeats 40000000 in
theorem rm3 (l : Launch) (Z : State) (a0 : Array Value) (hw : ∀ d ∈ tables_1, d.before a0 Z = true) (ws : List Jvm.Cond) (x : Int32) (y : Int32) (h0 : Heap) (n0 : Nat) (Z0 : n0 ≤ h0.size)  :
    MetFree l (⟨"java/lang/Math", "min", "(II)I"⟩ : MethodName) (head1 (Jvm.Cond.code (⟨"java/lang/Math", "min", "(II)I"⟩ : MethodName) jdk_29_method_69_code 2 (some .int) :: ws) ({ frames := 0, cells := 0, slots := 0, locals := 0 } : Room)) (fun aX uX => aX = #[(.int x), (.int y)] ∧ Z.Warmed39 uX.vm ∧ uX.heap = h0) (fun _ _ _ _ _ => True) (fun _ uX oX wX => ∃ vX lX, oX = .returned vX ∧ Q3 Z x y h0 n0 vX wX.heap lX ∧ FrameEnd uX oX wX lX ({ frames := 0, cells := 0, slots := 0, locals := 0 } : Room).cells ({ frames := 0, cells := 0, slots := 0, locals := 0 } : Room).slots) := by
  refine MetFree.of_bodySF pf_2 hisR ?_
  intro p e s m args below meth c s₁ Bd hml0 hP hK
  obtain ⟨rfl, hZ, hh⟩ := hP
  have hx := Bd.exec
  have hby := Bd.bytes
  have hml : c.maxLocals = 2 := hml0
  have hown : s.vm.findClass "java/lang/Math" = some m.cls := findClass_of_methodNamed Bd.named
  have hnm := (name_of_methodNamed Bd.named Bd.method).1
  have X0 : Stand p l e ({ frames := 0, cells := 0, slots := 0, locals := 0 } : Room) s m #[(.int x), (.int y)] below meth c s₁ [] 0 0 := Stand.of_body Bd
  have e0 : s₁.heap = h0 := by rw [← hh, Bd.state]; rfl
  have N0 := Fr.nil n0
  have pre0 : ∀ t, Steps p.tables e below (s₁.setTop (mkF m 0 #[.val (.int x), .val (.int y)] [])) t → Steps p.tables e below (s₁.setTop (entryFrame m #[(.int x), (.int y)] 2)) t := fun t k => castTop (ef_3 m x y) k
  have P1 : ∀ t, Steps p.tables e below (s₁.setTop (mkF m 2 #[.val (.int x), .val (.int y)] [(.int y), (.int x)])) t → Steps p.tables e below (s₁.setTop (entryFrame m #[(.int x), (.int y)] 2)) t := by
    intro t kk
    refine pre0 _ ?_
    show Steps p.tables e below (s₁.setTop (mkF m 0 #[.val (.int x), .val (.int y)] [])) _
    refine XS.iloadN X0.here hx rfl (hb hby d3_0) rfl ?_
    show Steps p.tables e below (s₁.setTop (mkF m 1 #[.val (.int x), .val (.int y)] [(.int x)])) _
    refine XS.iloadN X0.here hx rfl (hb hby d3_1) rfl ?_
    show Steps p.tables e below (s₁.setTop (mkF m 2 #[.val (.int x), .val (.int y)] [(.int y), (.int x)])) _
    exact kk
  by_cases c2 : y < x
  · skip
    have P3 : ∀ t, Steps p.tables e below (s₁.setTop (mkF m 10 #[.val (.int x), .val (.int y)] [(.int y)])) t → Steps p.tables e below (s₁.setTop (entryFrame m #[(.int x), (.int y)] 2)) t := by
      intro t kk
      refine P1 _ ?_
      show Steps p.tables e below (s₁.setTop (mkF m 2 #[.val (.int x), .val (.int y)] [(.int y), (.int x)])) _
      refine XS.icmpYes X0.here hx rfl (pc0 := 2) (pc' := 9) rfl (hb hby d3_2) rfl (XT.ii_gt_t c2) (by decide) (by decide) ?_
      show Steps p.tables e below (s₁.setTop (mkF m 9 #[.val (.int x), .val (.int y)] [])) _
      refine XS.iloadN X0.here hx rfl (hb hby d3_9) rfl ?_
      show Steps p.tables e below (s₁.setTop (mkF m 10 #[.val (.int x), .val (.int y)] [(.int y)])) _
      exact kk
    obtain ⟨fs, hr, hrun, hended, hW, hsame⟩ := X0.leave (v := some (.int y)) (fun h => by rw [Bd.returns] at h; cases h)
    refine ⟨_, _, P3 _ ?_, hrun, hended, _, _, rfl, ?_, ⟨_, rfl⟩, hW, hsame.mono (by decide) (by decide)⟩
    · exact retI X0 hx Bd.returns (hb hby d3_10) hr
    · show Q3 Z x y h0 n0 _ s₁.heap _
      rw [e0]
      exact ⟨congrArg (fun z => some (Value.int z)) (show (F3 x y) = _ from ((if_pos c2).trans rfl)).symm, N0, rfl⟩
  · skip
    have P4 : ∀ t, Steps p.tables e below (s₁.setTop (mkF m 10 #[.val (.int x), .val (.int y)] [(.int x)])) t → Steps p.tables e below (s₁.setTop (entryFrame m #[(.int x), (.int y)] 2)) t := by
      intro t kk
      refine P1 _ ?_
      show Steps p.tables e below (s₁.setTop (mkF m 2 #[.val (.int x), .val (.int y)] [(.int y), (.int x)])) _
      refine XS.icmpNo X0.here hx rfl (hb hby d3_2) rfl (XT.ii_gt_f c2) ?_
      show Steps p.tables e below (s₁.setTop (mkF m 5 #[.val (.int x), .val (.int y)] [])) _
      refine XS.iloadN X0.here hx rfl (hb hby d3_5) rfl ?_
      show Steps p.tables e below (s₁.setTop (mkF m 6 #[.val (.int x), .val (.int y)] [(.int x)])) _
      refine XS.goto X0.here hx rfl (pc0 := 6) (pc' := 10) rfl (hb hby d3_6) (by decide) (by decide) ?_
      show Steps p.tables e below (s₁.setTop (mkF m 10 #[.val (.int x), .val (.int y)] [(.int x)])) _
      exact kk
    obtain ⟨fs, hr, hrun, hended, hW, hsame⟩ := X0.leave (v := some (.int x)) (fun h => by rw [Bd.returns] at h; cases h)
    refine ⟨_, _, P4 _ ?_, hrun, hended, _, _, rfl, ?_, ⟨_, rfl⟩, hW, hsame.mono (by decide) (by decide)⟩
    · exact retI X0 hx Bd.returns (hb hby d3_10) hr
    · show Q3 Z x y h0 n0 _ s₁.heap _
      rw [e0]
      exact ⟨congrArg (fun z => some (Value.int z)) (show (F3 x y) = _ from ((if_neg c2).trans rfl)).symm, N0, rfl⟩
theorem d4_0 : decode jdk_29_method_65_code 0 = .ok (.iload_n 0, 1) := by decide +kernel
theorem d4_1 : decode jdk_29_method_65_code 1 = .ok (.iload_n 1, 1) := by decide +kernel
theorem d4_2 : decode jdk_29_method_65_code 2 = .ok (.if_icmp .lt 7, 3) := by decide +kernel
theorem d4_5 : decode jdk_29_method_65_code 5 = .ok (.iload_n 0, 1) := by decide +kernel
theorem d4_6 : decode jdk_29_method_65_code 6 = .ok (.goto 4, 3) := by decide +kernel
theorem d4_9 : decode jdk_29_method_65_code 9 = .ok (.iload_n 1, 1) := by decide +kernel
theorem d4_10 : decode jdk_29_method_65_code 10 = .ok (.ireturn, 1) := by decide +kernel
theorem ef_4 (m : MethodId) (x0 : Int32) (x1 : Int32) : entryFrame m #[(.int x0), (.int x1)] 2 = (mkF m 0 #[.val (.int x0), .val (.int x1)] []) := by first | (simp [entryFrame, mkF, argsToLocals, Value.category]; done) | rfl
def F4 (x : Int32) (y : Int32) : Int32 := (if x < y then y else x)
def Q4 (Z : State) (x : Int32) (y : Int32) (h0 : Heap) (n0 : Nat) (vX : Option Value) (hX : Heap) (lX : List Loc) : Prop := vX = some (.int (F4 x y)) ∧ Fr n0 lX ∧ (hX = h0)
set_option maxRecDepth 65536 in
set_option maxHeartbeats 40000000 in
theorem rm4 (l : Launch) (Z : State) (a0 : Array Value) (hw : ∀ d ∈ tables_1, d.before a0 Z = true) (ws : List Jvm.Cond) (x : Int32) (y : Int32) (h0 : Heap) (n0 : Nat) (Z0 : n0 ≤ h0.size)  :
    MetFree l (⟨"java/lang/Math", "max", "(II)I"⟩ : MethodName) (head1 (Jvm.Cond.code (⟨"java/lang/Math", "max", "(II)I"⟩ : MethodName) jdk_29_method_65_code 2 (some .int) :: ws) ({ frames := 0, cells := 0, slots := 0, locals := 0 } : Room)) (fun aX uX => aX = #[(.int x), (.int y)] ∧ Z.Warmed39 uX.vm ∧ uX.heap = h0) (fun _ _ _ _ _ => True) (fun _ uX oX wX => ∃ vX lX, oX = .returned vX ∧ Q4 Z x y h0 n0 vX wX.heap lX ∧ FrameEnd uX oX wX lX ({ frames := 0, cells := 0, slots := 0, locals := 0 } : Room).cells ({ frames := 0, cells := 0, slots := 0, locals := 0 } : Room).slots) := by
  refine MetFree.of_bodySF pf_3 hisR ?_
  intro p e s m args below meth c s₁ Bd hml0 hP hK
  obtain ⟨rfl, hZ, hh⟩ := hP
  have hx := Bd.exec
  have hby := Bd.bytes
  have hml : c.maxLocals = 2 := hml0
  have hown : s.vm.findClass "java/lang/Math" = some m.cls := findClass_of_methodNamed Bd.named
  have hnm := (name_of_methodNamed Bd.named Bd.method).1
  have X0 : Stand p l e ({ frames := 0, cells := 0, slots := 0, locals := 0 } : Room) s m #[(.int x), (.int y)] below meth c s₁ [] 0 0 := Stand.of_body Bd
  have e0 : s₁.heap = h0 := by rw [← hh, Bd.state]; rfl
  have N0 := Fr.nil n0
  have pre0 : ∀ t, Steps p.tables e below (s₁.setTop (mkF m 0 #[.val (.int x), .val (.int y)] [])) t → Steps p.tables e below (s₁.setTop (entryFrame m #[(.int x), (.int y)] 2)) t := fun t k => castTop (ef_4 m x y) k
  have P1 : ∀ t, Steps p.tables e below (s₁.setTop (mkF m 2 #[.val (.int x), .val (.int y)] [(.int y), (.int x)])) t → Steps p.tables e below (s₁.setTop (entryFrame m #[(.int x), (.int y)] 2)) t := by
    intro t kk
    refine pre0 _ ?_
    show Steps p.tables e below (s₁.setTop (mkF m 0 #[.val (.int x), .val (.int y)] [])) _
    refine XS.iloadN X0.here hx rfl (hb hby d4_0) rfl ?_
    show Steps p.tables e below (s₁.setTop (mkF m 1 #[.val (.int x), .val (.int y)] [(.int x)])) _
    refine XS.iloadN X0.here hx rfl (hb hby d4_1) rfl ?_
    show Steps p.tables e below (s₁.setTop (mkF m 2 #[.val (.int x), .val (.int y)] [(.int y), (.int x)])) _
    exact kk
  by_cases c2 : x < y
  · skip
    have P3 : ∀ t, Steps p.tables e below (s₁.setTop (mkF m 10 #[.val (.int x), .val (.int y)] [(.int y)])) t → Steps p.tables e below (s₁.setTop (entryFrame m #[(.int x), (.int y)] 2)) t := by
      intro t kk
      refine P1 _ ?_
      show Steps p.tables e below (s₁.setTop (mkF m 2 #[.val (.int x), .val (.int y)] [(.int y), (.int x)])) _
      refine XS.icmpYes X0.here hx rfl (pc0 := 2) (pc' := 9) rfl (hb hby d4_2) rfl (XT.ii_lt_t c2) (by decide) (by decide) ?_
      show Steps p.tables e below (s₁.setTop (mkF m 9 #[.val (.int x), .val (.int y)] [])) _
      refine XS.iloadN X0.here hx rfl (hb hby d4_9) rfl ?_
      show Steps p.tables e below (s₁.setTop (mkF m 10 #[.val (.int x), .val (.int y)] [(.int y)])) _
      exact kk
    obtain ⟨fs, hr, hrun, hended, hW, hsame⟩ := X0.leave (v := some (.int y)) (fun h => by rw [Bd.returns] at h; cases h)
    refine ⟨_, _, P3 _ ?_, hrun, hended, _, _, rfl, ?_, ⟨_, rfl⟩, hW, hsame.mono (by decide) (by decide)⟩
    · exact retI X0 hx Bd.returns (hb hby d4_10) hr
    · show Q4 Z x y h0 n0 _ s₁.heap _
      rw [e0]
      exact ⟨congrArg (fun z => some (Value.int z)) (show (F4 x y) = _ from ((if_pos c2).trans rfl)).symm, N0, rfl⟩
  · skip
    have P4 : ∀ t, Steps p.tables e below (s₁.setTop (mkF m 10 #[.val (.int x), .val (.int y)] [(.int x)])) t → Steps p.tables e below (s₁.setTop (entryFrame m #[(.int x), (.int y)] 2)) t := by
      intro t kk
      refine P1 _ ?_
      show Steps p.tables e below (s₁.setTop (mkF m 2 #[.val (.int x), .val (.int y)] [(.int y), (.int x)])) _
      refine XS.icmpNo X0.here hx rfl (hb hby d4_2) rfl (XT.ii_lt_f c2) ?_
      show Steps p.tables e below (s₁.setTop (mkF m 5 #[.val (.int x), .val (.int y)] [])) _
      refine XS.iloadN X0.here hx rfl (hb hby d4_5) rfl ?_
      show Steps p.tables e below (s₁.setTop (mkF m 6 #[.val (.int x), .val (.int y)] [(.int x)])) _
      refine XS.goto X0.here hx rfl (pc0 := 6) (pc' := 10) rfl (hb hby d4_6) (by decide) (by decide) ?_
      show Steps p.tables e below (s₁.setTop (mkF m 10 #[.val (.int x), .val (.int y)] [(.int x)])) _
      exact kk
    obtain ⟨fs, hr, hrun, hended, hW, hsame⟩ := X0.leave (v := some (.int x)) (fun h => by rw [Bd.returns] at h; cases h)
    refine ⟨_, _, P4 _ ?_, hrun, hended, _, _, rfl, ?_, ⟨_, rfl⟩, hW, hsame.mono (by decide) (by decide)⟩
    · exact retI X0 hx Bd.returns (hb hby d4_10) hr
    · show Q4 Z x y h0 n0 _ s₁.heap _
      rw [e0]
      exact ⟨congrArg (fun z => some (Value.int z)) (show (F4 x y) = _ from ((if_neg c2).trans rfl)).symm, N0, rfl⟩
theorem d5_0 : decode method_2_code 0 = .ok (.iload_n 0, 1) := by decide +kernel
theorem d5_1 : decode method_2_code 1 = .ok (.i2l, 1) := by decide +kernel
theorem d5_2 : decode method_2_code 2 = .ok (.lload_n 1, 1) := by decide +kernel
theorem d5_3 : decode method_2_code 3 = .ok (.ladd, 1) := by decide +kernel
theorem d5_4 : decode method_2_code 4 = .ok (.lstore_n 3, 1) := by decide +kernel
theorem d5_5 : decode method_2_code 5 = .ok (.lload_n 3, 1) := by decide +kernel
theorem d5_6 : decode method_2_code 6 = .ok (.ldc2_w 9, 3) := by decide +kernel
theorem d5_9 : decode method_2_code 9 = .ok (.invokestatic 11, 3) := by decide +kernel
theorem d5_12 : decode method_2_code 12 = .ok (.l2i, 1) := by decide +kernel
theorem d5_13 : decode method_2_code 13 = .ok (.ireturn, 1) := by decide +kernel
theorem ef_5 (m : MethodId) (x0 : Int32) (x1 : Int64) : entryFrame m #[(.int x0), (.long x1)] 5 = (mkF m 0 #[.val (.int x0), .val (.long x1), .second, .unset, .unset] []) := by first | (simp [entryFrame, mkF, argsToLocals, Value.category]; done) | rfl
def F5 (x : Int32) (y : Int64) : Int32 := (((F1 (((x).toInt64) + y) (2147483647 : Int64))).toInt32)
def Q5 (Z : State) (x : Int32) (y : Int64) (h0 : Heap) (n0 : Nat) (vX : Option Value) (hX : Heap) (lX : List Loc) : Prop := vX = some (.int (F5 x y)) ∧ Fr n0 lX ∧ (hX = h0)
set_option maxRecDepth 65536 in
set_option maxHeartbeats 40000000 in
theorem rm5 (l : Launch) (Z : State) (a0 : Array Value) (hw : ∀ d ∈ tables_1, d.before a0 Z = true) (ws : List Jvm.Cond) (x : Int32) (y : Int64) (h0 : Heap) (n0 : Nat) (Z0 : n0 ≤ h0.size)  :
    MetFree l (⟨"org/wayfold/graph/GraphLastAtMostPinLaw", "up", "(IJ)I"⟩ : MethodName) (head1 (Jvm.Cond.code (⟨"org/wayfold/graph/GraphLastAtMostPinLaw", "up", "(IJ)I"⟩ : MethodName) method_2_code 5 (some .int) :: ws) ({ frames := 1, cells := 0, slots := 0, locals := 15 } : Room)) (fun aX uX => aX = #[(.int x), (.long y)] ∧ Z.Warmed39 uX.vm ∧ uX.heap = h0) (fun _ _ _ _ _ => True) (fun _ uX oX wX => ∃ vX lX, oX = .returned vX ∧ Q5 Z x y h0 n0 vX wX.heap lX ∧ FrameEnd uX oX wX lX ({ frames := 1, cells := 0, slots := 0, locals := 15 } : Room).cells ({ frames := 1, cells := 0, slots := 0, locals := 15 } : Room).slots) := by
  refine MetFree.of_bodySF (plainFor_of_name pn_0) hisR ?_
  intro p e s m args below meth c s₁ Bd hml0 hP hK
  obtain ⟨rfl, hZ, hh⟩ := hP
  have hx := Bd.exec
  have hby := Bd.bytes
  have hml : c.maxLocals = 5 := hml0
  have hown : s.vm.findClass "org/wayfold/graph/GraphLastAtMostPinLaw" = some m.cls := findClass_of_methodNamed Bd.named
  have hnm := (name_of_methodNamed Bd.named Bd.method).1
  have X0 : Stand p l e ({ frames := 1, cells := 0, slots := 0, locals := 15 } : Room) s m #[(.int x), (.long y)] below meth c s₁ [] 0 0 := Stand.of_body Bd
  have e0 : s₁.heap = h0 := by rw [← hh, Bd.state]; rfl
  have N0 := Fr.nil n0
  have pre0 : ∀ t, Steps p.tables e below (s₁.setTop (mkF m 0 #[.val (.int x), .val (.long y), .second, .unset, .unset] [])) t → Steps p.tables e below (s₁.setTop (entryFrame m #[(.int x), (.long y)] 5)) t := fun t k => castTop (ef_5 m x y) k
  obtain ⟨_, _, ⟨T1, L1, k1, n1⟩, -, X1, ⟨Lc1, hQ1, l1, y1, z1⟩, st1⟩ := Jvm.LawKit.callS X0 hx (y := (⟨"java/lang/Math", "min", "(JJ)J"⟩ : MethodName)) hown (mvT hZ (hw _ (List.mem_of_getElem? (i := 6) rfl))) (mvT hZ (hw _ (List.mem_of_getElem? (i := 7) rfl))) (mvT hZ (hw _ (List.mem_of_getElem? (i := 8) rfl))) (mvT hZ (hw _ (List.mem_of_getElem? (i := 9) rfl))) (by decide) (backOf (W := 0) (rm1 l Z a0 hw [] (((x).toInt64) + y) (2147483647 : Int64) h0 n0 Z0 ) hZ (hw _ (List.mem_of_getElem? (i := 9) rfl)) (hw _ (List.mem_of_getElem? (i := 8) rfl)) (by decide) (by decide)) (g := (mkF m 9 #[.val (.int x), .val (.long y), .second, .val (.long (((x).toInt64) + y)), .second] [(.long (2147483647 : Int64)), (.long (((x).toInt64) + y))])) rfl (by rw [hml]; rfl) (argsL := [(.long (((x).toInt64) + y)), (.long (2147483647 : Int64))]) (rest := []) (lenOf pd_0 rfl) rfl (by show 2 * 0 + _ ≤ _; exact Nat.le_of_eq rfl) (hb hby d5_9) (fun _ _ => ⟨rfl, e0, (by decide : 0 + 0 ≤ _), (by decide : 0 + 0 ≤ _)⟩)
  dsimp only [Pt.U, Pt.locs, Pt.cells, Pt.slots] at X1 l1 y1 z1 st1 hQ1
  subst l1 y1 z1
  obtain ⟨rfl, Nq1, e1⟩ := hQ1
  have N1 := Fr.app N0 Nq1
  have P2 : ∀ t, Steps p.tables e below (T1.setTop (mkF m 13 #[.val (.int x), .val (.long y), .second, .val (.long (((x).toInt64) + y)), .second] [(.int (((F1 (((x).toInt64) + y) (2147483647 : Int64))).toInt32))])) t → Steps p.tables e below (s₁.setTop (entryFrame m #[(.int x), (.long y)] 5)) t := by
    intro t kk
    refine pre0 _ ?_
    show Steps p.tables e below (s₁.setTop (mkF m 0 #[.val (.int x), .val (.long y), .second, .unset, .unset] [])) _
    refine XS.iloadN X0.here hx rfl (hb hby d5_0) rfl ?_
    show Steps p.tables e below (s₁.setTop (mkF m 1 #[.val (.int x), .val (.long y), .second, .unset, .unset] [(.int x)])) _
    refine XS.i2l X0.here hx rfl (hb hby d5_1) rfl ?_
    show Steps p.tables e below (s₁.setTop (mkF m 2 #[.val (.int x), .val (.long y), .second, .unset, .unset] [(.long ((x).toInt64))])) _
    refine XS.lloadN X0.here hx rfl (hb hby d5_2) rfl ?_
    show Steps p.tables e below (s₁.setTop (mkF m 3 #[.val (.int x), .val (.long y), .second, .unset, .unset] [(.long y), (.long ((x).toInt64))])) _
    refine XS.ladd X0.here hx rfl (hb hby d5_3) rfl ?_
    show Steps p.tables e below (s₁.setTop (mkF m 4 #[.val (.int x), .val (.long y), .second, .unset, .unset] [(.long (((x).toInt64) + y))])) _
    refine XS.lstoreN X0.here hx rfl (hb hby d5_4) rfl (l' := #[.val (.int x), .val (.long y), .second, .val (.long (((x).toInt64) + y)), .second]) rfl ?_
    show Steps p.tables e below (s₁.setTop (mkF m 5 #[.val (.int x), .val (.long y), .second, .val (.long (((x).toInt64) + y)), .second] [])) _
    refine XS.lloadN X0.here hx rfl (hb hby d5_5) rfl ?_
    show Steps p.tables e below (s₁.setTop (mkF m 6 #[.val (.int x), .val (.long y), .second, .val (.long (((x).toInt64) + y)), .second] [(.long (((x).toInt64) + y))])) _
    refine X0.ldc2Long hx hown (mvT hZ (hw _ (List.mem_of_getElem? (i := 5) rfl))) (g := (mkF m 6 #[.val (.int x), .val (.long y), .second, .val (.long (((x).toInt64) + y)), .second] [(.long (((x).toInt64) + y))])) rfl (hb hby d5_6) _ ?_
    show Steps p.tables e below (s₁.setTop (mkF m 9 #[.val (.int x), .val (.long y), .second, .val (.long (((x).toInt64) + y)), .second] [(.long (2147483647 : Int64)), (.long (((x).toInt64) + y))])) _
    refine st1 _ ?_
    show Steps p.tables e below (T1.setTop (mkF m 12 #[.val (.int x), .val (.long y), .second, .val (.long (((x).toInt64) + y)), .second] [(.long (F1 (((x).toInt64) + y) (2147483647 : Int64)))])) _
    refine XS.l2i X1.here hx rfl (hb hby d5_12) rfl ?_
    show Steps p.tables e below (T1.setTop (mkF m 13 #[.val (.int x), .val (.long y), .second, .val (.long (((x).toInt64) + y)), .second] [(.int (((F1 (((x).toInt64) + y) (2147483647 : Int64))).toInt32))])) _
    exact kk
  obtain ⟨fs, hr, hrun, hended, hW, hsame⟩ := X1.leave (v := some (.int (((F1 (((x).toInt64) + y) (2147483647 : Int64))).toInt32))) (fun h => by rw [Bd.returns] at h; cases h)
  refine ⟨_, _, P2 _ ?_, hrun, hended, _, _, rfl, ?_, ⟨_, rfl⟩, hW, hsame.mono (by decide) (by decide)⟩
  · exact retI X1 hx Bd.returns (hb hby d5_13) hr
  · show Q5 Z x y h0 n0 _ T1.heap _
    rw [e1]
    exact ⟨congrArg (fun z => some (Value.int z)) (show (F5 x y) = _ from rfl).symm, N1, rfl⟩
theorem d6_0 : decode method_3_code 0 = .ok (.iload_n 0, 1) := by decide +kernel
theorem d6_1 : decode method_3_code 1 = .ok (.iload_n 1, 1) := by decide +kernel
theorem d6_2 : decode method_3_code 2 = .ok (.if_icmp .gt 7, 3) := by decide +kernel
theorem d6_5 : decode method_3_code 5 = .ok (.iconst 1, 1) := by decide +kernel
theorem d6_6 : decode method_3_code 6 = .ok (.goto 4, 3) := by decide +kernel
theorem d6_9 : decode method_3_code 9 = .ok (.iconst 0, 1) := by decide +kernel
theorem d6_10 : decode method_3_code 10 = .ok (.ireturn, 1) := by decide +kernel
theorem ef_6 (m : MethodId) (x0 : Int32) (x1 : Int32) : entryFrame m #[(.int x0), (.int x1)] 2 = (mkF m 0 #[.val (.int x0), .val (.int x1)] []) := by first | (simp [entryFrame, mkF, argsToLocals, Value.category]; done) | rfl
def F6 (x : Int32) (y : Int32) : Int32 := (if y < x then (0 : Int32) else (1 : Int32))
def Q6 (Z : State) (x : Int32) (y : Int32) (h0 : Heap) (n0 : Nat) (vX : Option Value) (hX : Heap) (lX : List Loc) : Prop := vX = some (.int (F6 x y)) ∧ Fr n0 lX ∧ (hX = h0)
set_option maxRecDepth 65536 in
set_option maxHeartbeats 40000000 in
theorem rm6 (l : Launch) (Z : State) (a0 : Array Value) (hw : ∀ d ∈ tables_1, d.before a0 Z = true) (ws : List Jvm.Cond) (x : Int32) (y : Int32) (h0 : Heap) (n0 : Nat) (Z0 : n0 ≤ h0.size)  :
    MetFree l (⟨"org/wayfold/graph/GraphLastAtMostPinLaw", "le", "(II)I"⟩ : MethodName) (head1 (Jvm.Cond.code (⟨"org/wayfold/graph/GraphLastAtMostPinLaw", "le", "(II)I"⟩ : MethodName) method_3_code 2 (some .int) :: ws) ({ frames := 0, cells := 0, slots := 0, locals := 0 } : Room)) (fun aX uX => aX = #[(.int x), (.int y)] ∧ Z.Warmed39 uX.vm ∧ uX.heap = h0) (fun _ _ _ _ _ => True) (fun _ uX oX wX => ∃ vX lX, oX = .returned vX ∧ Q6 Z x y h0 n0 vX wX.heap lX ∧ FrameEnd uX oX wX lX ({ frames := 0, cells := 0, slots := 0, locals := 0 } : Room).cells ({ frames := 0, cells := 0, slots := 0, locals := 0 } : Room).slots) := by
  refine MetFree.of_bodySF (plainFor_of_name pn_0) hisR ?_
  intro p e s m args below meth c s₁ Bd hml0 hP hK
  obtain ⟨rfl, hZ, hh⟩ := hP
  have hx := Bd.exec
  have hby := Bd.bytes
  have hml : c.maxLocals = 2 := hml0
  have hown : s.vm.findClass "org/wayfold/graph/GraphLastAtMostPinLaw" = some m.cls := findClass_of_methodNamed Bd.named
  have hnm := (name_of_methodNamed Bd.named Bd.method).1
  have X0 : Stand p l e ({ frames := 0, cells := 0, slots := 0, locals := 0 } : Room) s m #[(.int x), (.int y)] below meth c s₁ [] 0 0 := Stand.of_body Bd
  have e0 : s₁.heap = h0 := by rw [← hh, Bd.state]; rfl
  have N0 := Fr.nil n0
  have pre0 : ∀ t, Steps p.tables e below (s₁.setTop (mkF m 0 #[.val (.int x), .val (.int y)] [])) t → Steps p.tables e below (s₁.setTop (entryFrame m #[(.int x), (.int y)] 2)) t := fun t k => castTop (ef_6 m x y) k
  have P1 : ∀ t, Steps p.tables e below (s₁.setTop (mkF m 2 #[.val (.int x), .val (.int y)] [(.int y), (.int x)])) t → Steps p.tables e below (s₁.setTop (entryFrame m #[(.int x), (.int y)] 2)) t := by
    intro t kk
    refine pre0 _ ?_
    show Steps p.tables e below (s₁.setTop (mkF m 0 #[.val (.int x), .val (.int y)] [])) _
    refine XS.iloadN X0.here hx rfl (hb hby d6_0) rfl ?_
    show Steps p.tables e below (s₁.setTop (mkF m 1 #[.val (.int x), .val (.int y)] [(.int x)])) _
    refine XS.iloadN X0.here hx rfl (hb hby d6_1) rfl ?_
    show Steps p.tables e below (s₁.setTop (mkF m 2 #[.val (.int x), .val (.int y)] [(.int y), (.int x)])) _
    exact kk
  by_cases c2 : y < x
  · skip
    have P3 : ∀ t, Steps p.tables e below (s₁.setTop (mkF m 10 #[.val (.int x), .val (.int y)] [(.int (0 : Int32))])) t → Steps p.tables e below (s₁.setTop (entryFrame m #[(.int x), (.int y)] 2)) t := by
      intro t kk
      refine P1 _ ?_
      show Steps p.tables e below (s₁.setTop (mkF m 2 #[.val (.int x), .val (.int y)] [(.int y), (.int x)])) _
      refine XS.icmpYes X0.here hx rfl (pc0 := 2) (pc' := 9) rfl (hb hby d6_2) rfl (XT.ii_gt_t c2) (by decide) (by decide) ?_
      show Steps p.tables e below (s₁.setTop (mkF m 9 #[.val (.int x), .val (.int y)] [])) _
      refine XS.iconst X0.here hx rfl (hb hby d6_9) ?_
      show Steps p.tables e below (s₁.setTop (mkF m 10 #[.val (.int x), .val (.int y)] [(.int (0 : Int32))])) _
      exact kk
    obtain ⟨fs, hr, hrun, hended, hW, hsame⟩ := X0.leave (v := some (.int (0 : Int32))) (fun h => by rw [Bd.returns] at h; cases h)
    refine ⟨_, _, P3 _ ?_, hrun, hended, _, _, rfl, ?_, ⟨_, rfl⟩, hW, hsame.mono (by decide) (by decide)⟩
    · exact retI X0 hx Bd.returns (hb hby d6_10) hr
    · show Q6 Z x y h0 n0 _ s₁.heap _
      rw [e0]
      exact ⟨congrArg (fun z => some (Value.int z)) (show (F6 x y) = _ from ((if_pos c2).trans rfl)).symm, N0, rfl⟩
  · skip
    have P4 : ∀ t, Steps p.tables e below (s₁.setTop (mkF m 10 #[.val (.int x), .val (.int y)] [(.int (1 : Int32))])) t → Steps p.tables e below (s₁.setTop (entryFrame m #[(.int x), (.int y)] 2)) t := by
      intro t kk
      refine P1 _ ?_
      show Steps p.tables e below (s₁.setTop (mkF m 2 #[.val (.int x), .val (.int y)] [(.int y), (.int x)])) _
      refine XS.icmpNo X0.here hx rfl (hb hby d6_2) rfl (XT.ii_gt_f c2) ?_
      show Steps p.tables e below (s₁.setTop (mkF m 5 #[.val (.int x), .val (.int y)] [])) _
      refine XS.iconst X0.here hx rfl (hb hby d6_5) ?_
      show Steps p.tables e below (s₁.setTop (mkF m 6 #[.val (.int x), .val (.int y)] [(.int (1 : Int32))])) _
      refine XS.goto X0.here hx rfl (pc0 := 6) (pc' := 10) rfl (hb hby d6_6) (by decide) (by decide) ?_
      show Steps p.tables e below (s₁.setTop (mkF m 10 #[.val (.int x), .val (.int y)] [(.int (1 : Int32))])) _
      exact kk
    obtain ⟨fs, hr, hrun, hended, hW, hsame⟩ := X0.leave (v := some (.int (1 : Int32))) (fun h => by rw [Bd.returns] at h; cases h)
    refine ⟨_, _, P4 _ ?_, hrun, hended, _, _, rfl, ?_, ⟨_, rfl⟩, hW, hsame.mono (by decide) (by decide)⟩
    · exact retI X0 hx Bd.returns (hb hby d6_10) hr
    · show Q6 Z x y h0 n0 _ s₁.heap _
      rw [e0]
      exact ⟨congrArg (fun z => some (Value.int z)) (show (F6 x y) = _ from ((if_neg c2).trans rfl)).symm, N0, rfl⟩
def own_mid (lo hi : Int32) : Int32 := (((((lo + hi) + (1 : Int32))).toUInt32 >>> ((1 : Int32) &&& 31).toUInt32).toInt32)
theorem own_midI (lo hi : Int32) (h0 : 0 ≤ lo.toInt) (h1 : lo.toInt < hi.toInt) (h2 : hi.toInt ≤ 5) : (own_mid lo hi).toInt = (lo.toInt + hi.toInt + 1) / 2 := by
  have k := c_iushr (lo + hi + (1 : Int32)) 1 1 (by decide) (by decide)
  have k1 := c_iadd lo hi
  have k2 := c_iadd (lo + hi) 1
  have l1 : (1 : Int32).toInt = 1 := by decide
  have r1 := rng32 (lo + hi)
  have r2 := rng32 (lo + hi + (1 : Int32))
  rw [l1] at k2
  show ((((((lo + hi) + (1 : Int32))).toUInt32 >>> ((1 : Int32) &&& 31).toUInt32).toInt32)).toInt = _
  rw [k]
  omega
theorem own_sub1 (x : Int32) (h : 1 ≤ x.toInt) : (x - (1 : Int32)).toInt = x.toInt - 1 := by
  have k := c_isub x 1
  have l1 : (1 : Int32).toInt = 1 := by decide
  have r := rng32 (x - (1 : Int32))
  have r' := rng32 x
  rw [l1] at k
  omega
def own_spec (f : Nat → Int32) (from_ to_ v r : Int32) : Prop := from_.toInt ≤ r.toInt ∧ (r = from_ ∨ (r.toInt ≤ to_.toInt ∧ ¬ v < f r.toInt.toNat)) ∧ ∀ i : Nat, r.toInt < i → (i : Int) ≤ to_.toInt → v < f i
def own_inv (f : Nat → Int32) (from_ to_ v lo hi : Int32) : Prop := from_.toInt ≤ lo.toInt ∧ hi.toInt ≤ to_.toInt ∧ (lo = from_ ∨ (lo.toInt ≤ to_.toInt ∧ ¬ v < f lo.toInt.toNat)) ∧ ∀ i : Nat, hi.toInt < i → (i : Int) ≤ to_.toInt → v < f i
theorem own_inv_end {f : Nat → Int32} {a b v lo hi : Int32} (h : own_inv f a b v lo hi) (hc : ¬ lo < hi) : own_spec f a b v lo := by
  obtain ⟨h1, h2, h3, h4⟩ := h
  rw [Int32.lt_iff_toInt_lt] at hc
  exact ⟨h1, h3, fun i q1 q2 => h4 i (by omega) q2⟩
theorem own_inv_lo {f : Nat → Int32} {a b v lo hi : Int32} (h : own_inv f a b v lo hi) (hc : lo < hi) (ha : 0 ≤ a.toInt) (hb : b.toInt ≤ 5) (hv : ¬ v < f (own_mid lo hi).toInt.toNat) : own_inv f a b v (own_mid lo hi) hi ∧ hi.toInt - (own_mid lo hi).toInt < hi.toInt - lo.toInt := by
  obtain ⟨h1, h2, h3, h4⟩ := h
  rw [Int32.lt_iff_toInt_lt] at hc
  have hm := own_midI lo hi (by omega) hc (by omega)
  exact ⟨⟨by omega, h2, Or.inr ⟨by omega, hv⟩, h4⟩, by omega⟩
theorem own_inv_hi {f : Nat → Int32} {a b v lo hi : Int32} (h : own_inv f a b v lo hi) (hc : lo < hi) (ha : 0 ≤ a.toInt) (hb : b.toInt ≤ 5) (hs : ∀ i j, i ≤ j → j < 6 → (f i).toInt ≤ (f j).toInt) (hv : v < f (own_mid lo hi).toInt.toNat) : own_inv f a b v lo (own_mid lo hi - (1 : Int32)) ∧ (own_mid lo hi - (1 : Int32)).toInt - lo.toInt < hi.toInt - lo.toInt := by
  obtain ⟨h1, h2, h3, h4⟩ := h
  rw [Int32.lt_iff_toInt_lt] at hc
  have hm := own_midI lo hi (by omega) hc (by omega)
  have hm1 := own_sub1 (own_mid lo hi) (by omega)
  refine ⟨⟨h1, by omega, h3, fun i q1 q2 => ?_⟩, by omega⟩
  by_cases q : hi.toInt < i
  · exact h4 i q q2
  · have hs' := hs (own_mid lo hi).toInt.toNat i (by omega) (by omega)
    rw [Int32.lt_iff_toInt_lt] at hv ⊢
    omega
theorem own_mid_in {f : Nat → Int32} {a b v lo hi : Int32} (h : own_inv f a b v lo hi) (hc : lo < hi) (ha : 0 ≤ a.toInt) (hb : b.toInt ≤ 5) : ¬ (own_mid lo hi) < 0 ∧ (own_mid lo hi) < (6 : Int32) ∧ (own_mid lo hi).toNatClampNeg = (own_mid lo hi).toInt.toNat ∧ (own_mid lo hi).toInt.toNat < 6 := by
  obtain ⟨h1, h2, h3, h4⟩ := h
  rw [Int32.lt_iff_toInt_lt] at hc
  have hm := own_midI lo hi (by omega) hc (by omega)
  refine ⟨?_, ?_, rfl, by omega⟩
  · rw [Int32.lt_iff_toInt_lt, show (0 : Int32).toInt = 0 by decide]; omega
  · rw [Int32.lt_iff_toInt_lt, show (6 : Int32).toInt = 6 by decide]; omega
theorem own_start (f : Nat → Int32) (x y v : Int32) : own_inv f x y v x y := ⟨Int.le_refl _, Int.le_refl _, Or.inl rfl, fun i h1 h2 => absurd h1 (by omega)⟩
theorem d7_0 : decode prog_43_method_31_code 0 = .ok (.iload_n 1, 1) := by decide +kernel
theorem d7_1 : decode prog_43_method_31_code 1 = .ok (.istore 4, 2) := by decide +kernel
theorem d7_3 : decode prog_43_method_31_code 3 = .ok (.iload_n 2, 1) := by decide +kernel
theorem d7_4 : decode prog_43_method_31_code 4 = .ok (.istore 5, 2) := by decide +kernel
theorem d7_6 : decode prog_43_method_31_code 6 = .ok (.iload 4, 2) := by decide +kernel
theorem d7_8 : decode prog_43_method_31_code 8 = .ok (.iload 5, 2) := by decide +kernel
theorem d7_10 : decode prog_43_method_31_code 10 = .ok (.if_icmp .ge 38, 3) := by decide +kernel
theorem d7_13 : decode prog_43_method_31_code 13 = .ok (.iload 4, 2) := by decide +kernel
theorem d7_15 : decode prog_43_method_31_code 15 = .ok (.iload 5, 2) := by decide +kernel
theorem d7_17 : decode prog_43_method_31_code 17 = .ok (.iadd, 1) := by decide +kernel
theorem d7_18 : decode prog_43_method_31_code 18 = .ok (.iconst 1, 1) := by decide +kernel
theorem d7_19 : decode prog_43_method_31_code 19 = .ok (.iadd, 1) := by decide +kernel
theorem d7_20 : decode prog_43_method_31_code 20 = .ok (.iconst 1, 1) := by decide +kernel
theorem d7_21 : decode prog_43_method_31_code 21 = .ok (.iushr, 1) := by decide +kernel
theorem d7_22 : decode prog_43_method_31_code 22 = .ok (.istore 6, 2) := by decide +kernel
theorem d7_24 : decode prog_43_method_31_code 24 = .ok (.aload_n 0, 1) := by decide +kernel
theorem d7_25 : decode prog_43_method_31_code 25 = .ok (.iload 6, 2) := by decide +kernel
theorem d7_27 : decode prog_43_method_31_code 27 = .ok (.iaload, 1) := by decide +kernel
theorem d7_28 : decode prog_43_method_31_code 28 = .ok (.iload_n 3, 1) := by decide +kernel
theorem d7_29 : decode prog_43_method_31_code 29 = .ok (.if_icmp .gt 10, 3) := by decide +kernel
theorem d7_32 : decode prog_43_method_31_code 32 = .ok (.iload 6, 2) := by decide +kernel
theorem d7_34 : decode prog_43_method_31_code 34 = .ok (.istore 4, 2) := by decide +kernel
theorem d7_36 : decode prog_43_method_31_code 36 = .ok (.goto 9, 3) := by decide +kernel
theorem d7_39 : decode prog_43_method_31_code 39 = .ok (.iload 6, 2) := by decide +kernel
theorem d7_41 : decode prog_43_method_31_code 41 = .ok (.iconst 1, 1) := by decide +kernel
theorem d7_42 : decode prog_43_method_31_code 42 = .ok (.isub, 1) := by decide +kernel
theorem d7_43 : decode prog_43_method_31_code 43 = .ok (.istore 5, 2) := by decide +kernel
theorem d7_45 : decode prog_43_method_31_code 45 = .ok (.goto (-39), 3) := by decide +kernel
theorem d7_48 : decode prog_43_method_31_code 48 = .ok (.iload 4, 2) := by decide +kernel
theorem d7_50 : decode prog_43_method_31_code 50 = .ok (.ireturn, 1) := by decide +kernel
theorem ef_7 (m : MethodId) (x0 : Addr) (x1 : Int32) (x2 : Int32) (x3 : Int32) : entryFrame m #[(.ref x0), (.int x1), (.int x2), (.int x3)] 7 = (mkF m 0 #[.val (.ref x0), .val (.int x1), .val (.int x2), .val (.int x3), .unset, .unset, .unset] []) := by first | (simp [entryFrame, mkF, argsToLocals, Value.category]; done) | rfl
def Q7 (Z : State) (b : Addr) (x : Int32) (y : Int32) (v : Int32) (k : ClassId) (vs : List Value) (d : Value) (f : Nat → Int32) (h0 : Heap) (n0 : Nat) (vX : Option Value) (hX : Heap) (lX : List Loc) : Prop := ∃ (r : Int32), vX = some (.int r) ∧ Fr n0 lX ∧ (hX = h0) ∧ (own_spec f x y v r)
set_option maxRecDepth 65536 in
set_option maxHeartbeats 40000000 in
theorem rm7 (l : Launch) (Z : State) (a0 : Array Value) (hw : ∀ d ∈ tables_1, d.before a0 Z = true) (ws : List Jvm.Cond) (b : Addr) (x : Int32) (y : Int32) (v : Int32) (k : ClassId) (vs : List Value) (d : Value) (f : Nat → Int32) (h0 : Heap) (n0 : Nat) (Z0 : n0 ≤ h0.size) (pr0 : Arv Z h0 b k .int (6 : Int32) vs d) (pr1 : ∀ i, i < 6 → vs.getD i d = .int (f i)) (pr2 : ∀ i j, i ≤ j → j < 6 → (f i).toInt ≤ (f j).toInt) (pr3 : 0 ≤ x.toInt ∧ x.toInt ≤ 5) (pr4 : y.toInt ≤ 5 ∧ -1 ≤ y.toInt) :
    MetFree l (⟨"org/wayfold/graph/Graph", "lastAtMost", "([IIII)I"⟩ : MethodName) (head1 (Jvm.Cond.code (⟨"org/wayfold/graph/Graph", "lastAtMost", "([IIII)I"⟩ : MethodName) prog_43_method_31_code 7 (some .int) :: ws) ({ frames := 0, cells := 0, slots := 0, locals := 0 } : Room)) (fun aX uX => aX = #[(.ref b), (.int x), (.int y), (.int v)] ∧ Z.Warmed39 uX.vm ∧ uX.heap = h0) (fun _ _ _ _ _ => True) (fun _ uX oX wX => ∃ vX lX, oX = .returned vX ∧ Q7 Z b x y v k vs d f h0 n0 vX wX.heap lX ∧ FrameEnd uX oX wX lX ({ frames := 0, cells := 0, slots := 0, locals := 0 } : Room).cells ({ frames := 0, cells := 0, slots := 0, locals := 0 } : Room).slots) := by
  refine MetFree.of_bodySF (plainFor_of_name pn_1) hisR ?_
  intro p e s m args below meth c s₁ Bd hml0 hP hK
  obtain ⟨rfl, hZ, hh⟩ := hP
  have hx := Bd.exec
  have hby := Bd.bytes
  have hml : c.maxLocals = 7 := hml0
  have hown : s.vm.findClass "org/wayfold/graph/Graph" = some m.cls := findClass_of_methodNamed Bd.named
  have hnm := (name_of_methodNamed Bd.named Bd.method).1
  have X0 : Stand p l e ({ frames := 0, cells := 0, slots := 0, locals := 0 } : Room) s m #[(.ref b), (.int x), (.int y), (.int v)] below meth c s₁ [] 0 0 := Stand.of_body Bd
  have e0 : s₁.heap = h0 := by rw [← hh, Bd.state]; rfl
  have N0 := Fr.nil n0
  have pre0 : ∀ t, Steps p.tables e below (s₁.setTop (mkF m 0 #[.val (.ref b), .val (.int x), .val (.int y), .val (.int v), .unset, .unset, .unset] [])) t → Steps p.tables e below (s₁.setTop (entryFrame m #[(.ref b), (.int x), (.int y), (.int v)] 7)) t := fun t k => castTop (ef_7 m b x y v) k
  have P1 : ∀ t, Steps p.tables e below (s₁.setTop (mkF m 6 #[.val (.ref b), .val (.int x), .val (.int y), .val (.int v), .val (.int x), .val (.int y), .unset] [])) t → Steps p.tables e below (s₁.setTop (entryFrame m #[(.ref b), (.int x), (.int y), (.int v)] 7)) t := by
    intro t kk
    refine pre0 _ ?_
    show Steps p.tables e below (s₁.setTop (mkF m 0 #[.val (.ref b), .val (.int x), .val (.int y), .val (.int v), .unset, .unset, .unset] [])) _
    refine XS.iloadN X0.here hx rfl (hb hby d7_0) rfl ?_
    show Steps p.tables e below (s₁.setTop (mkF m 1 #[.val (.ref b), .val (.int x), .val (.int y), .val (.int v), .unset, .unset, .unset] [(.int x)])) _
    refine XS.istore X0.here hx rfl (hb hby d7_1) rfl (l' := #[.val (.ref b), .val (.int x), .val (.int y), .val (.int v), .val (.int x), .unset, .unset]) rfl ?_
    show Steps p.tables e below (s₁.setTop (mkF m 3 #[.val (.ref b), .val (.int x), .val (.int y), .val (.int v), .val (.int x), .unset, .unset] [])) _
    refine XS.iloadN X0.here hx rfl (hb hby d7_3) rfl ?_
    show Steps p.tables e below (s₁.setTop (mkF m 4 #[.val (.ref b), .val (.int x), .val (.int y), .val (.int v), .val (.int x), .unset, .unset] [(.int y)])) _
    refine XS.istore X0.here hx rfl (hb hby d7_4) rfl (l' := #[.val (.ref b), .val (.int x), .val (.int y), .val (.int v), .val (.int x), .val (.int y), .unset]) rfl ?_
    show Steps p.tables e below (s₁.setTop (mkF m 6 #[.val (.ref b), .val (.int x), .val (.int y), .val (.int v), .val (.int x), .val (.int y), .unset] [])) _
    exact kk
  have own_loop : ∀ (n : Nat) (lo hi : Int32) (s6 : Slot), (s6 = .unset ∨ ∃ w, s6 = .val w ∧ w.category = 1) → own_inv f x y v lo hi → hi.toInt - lo.toInt ≤ n → ∃ (r hi' : Int32) (s6' : Slot), own_spec f x y v r ∧ ∀ t, Steps p.tables e below (s₁.setTop (mkF m 48 #[.val (.ref b), .val (.int x), .val (.int y), .val (.int v), .val (.int r), .val (.int hi'), s6'] [])) t → Steps p.tables e below (s₁.setTop (mkF m 6 #[.val (.ref b), .val (.int x), .val (.int y), .val (.int v), .val (.int lo), .val (.int hi), s6] [])) t := by
    intro n
    induction n with
    | zero =>
      intro lo hi s6 hs6 hinv hn
      have own_id : ∀ t, Steps p.tables e below (s₁.setTop (mkF m 6 #[.val (.ref b), .val (.int x), .val (.int y), .val (.int v), .val (.int lo), .val (.int hi), s6] [])) t → Steps p.tables e below (s₁.setTop (mkF m 6 #[.val (.ref b), .val (.int x), .val (.int y), .val (.int v), .val (.int lo), .val (.int hi), s6] [])) t := fun t k => k
      have P2 : ∀ t, Steps p.tables e below (s₁.setTop (mkF m 10 #[.val (.ref b), .val (.int x), .val (.int y), .val (.int v), .val (.int lo), .val (.int hi), s6] [(.int hi), (.int lo)])) t → Steps p.tables e below (s₁.setTop (mkF m 6 #[.val (.ref b), .val (.int x), .val (.int y), .val (.int v), .val (.int lo), .val (.int hi), s6] [])) t := by
        intro t kk
        refine own_id _ ?_
        show Steps p.tables e below (s₁.setTop (mkF m 6 #[.val (.ref b), .val (.int x), .val (.int y), .val (.int v), .val (.int lo), .val (.int hi), s6] [])) _
        refine XS.iload X0.here hx rfl (hb hby d7_6) rfl ?_
        show Steps p.tables e below (s₁.setTop (mkF m 8 #[.val (.ref b), .val (.int x), .val (.int y), .val (.int v), .val (.int lo), .val (.int hi), s6] [(.int lo)])) _
        refine XS.iload X0.here hx rfl (hb hby d7_8) rfl ?_
        show Steps p.tables e below (s₁.setTop (mkF m 10 #[.val (.ref b), .val (.int x), .val (.int y), .val (.int v), .val (.int lo), .val (.int hi), s6] [(.int hi), (.int lo)])) _
        exact kk
      by_cases c3 : lo < hi
      · skip
        obtain ⟨cl_a4, Ar_a4, q_a4, S_a4, N_a4, H_a4, G_a4⟩ := id pr0
        have hmi := own_mid_in hinv c3 pr3.1 pr4.1
        have hin_a4 : ¬ ((((((lo + hi) + (1 : Int32))).toUInt32 >>> ((1 : Int32) &&& 31).toUInt32).toInt32) < 0 ∨ cl_a4.slots.size ≤ ((((((lo + hi) + (1 : Int32))).toUInt32 >>> ((1 : Int32) &&& 31).toUInt32).toInt32)).toNatClampNeg) := inb_of S_a4 ⟨hmi.1, hmi.2.1⟩
        have hat_a4 := Has.at (v := (.int (f (own_mid lo hi).toInt.toNat))) H_a4 hin_a4 ((congrArg (fun q => vs.getD q d) hmi.2.2.1).trans (pr1 _ hmi.2.2.2))
        have P5 : ∀ t, Steps p.tables e below (s₁.setTop (mkF m 29 #[.val (.ref b), .val (.int x), .val (.int y), .val (.int v), .val (.int lo), .val (.int hi), .val (.int (((((lo + hi) + (1 : Int32))).toUInt32 >>> ((1 : Int32) &&& 31).toUInt32).toInt32))] [(.int v), (.int (f (own_mid lo hi).toInt.toNat))])) t → Steps p.tables e below (s₁.setTop (mkF m 6 #[.val (.ref b), .val (.int x), .val (.int y), .val (.int v), .val (.int lo), .val (.int hi), s6] [])) t := by
          intro t kk
          refine P2 _ ?_
          show Steps p.tables e below (s₁.setTop (mkF m 10 #[.val (.ref b), .val (.int x), .val (.int y), .val (.int v), .val (.int lo), .val (.int hi), s6] [(.int hi), (.int lo)])) _
          refine XS.icmpNo X0.here hx rfl (hb hby d7_10) rfl (XT.ii_ge_f c3) ?_
          show Steps p.tables e below (s₁.setTop (mkF m 13 #[.val (.ref b), .val (.int x), .val (.int y), .val (.int v), .val (.int lo), .val (.int hi), s6] [])) _
          refine XS.iload X0.here hx rfl (hb hby d7_13) rfl ?_
          show Steps p.tables e below (s₁.setTop (mkF m 15 #[.val (.ref b), .val (.int x), .val (.int y), .val (.int v), .val (.int lo), .val (.int hi), s6] [(.int lo)])) _
          refine XS.iload X0.here hx rfl (hb hby d7_15) rfl ?_
          show Steps p.tables e below (s₁.setTop (mkF m 17 #[.val (.ref b), .val (.int x), .val (.int y), .val (.int v), .val (.int lo), .val (.int hi), s6] [(.int hi), (.int lo)])) _
          refine XS.iadd X0.here hx rfl (hb hby d7_17) rfl ?_
          show Steps p.tables e below (s₁.setTop (mkF m 18 #[.val (.ref b), .val (.int x), .val (.int y), .val (.int v), .val (.int lo), .val (.int hi), s6] [(.int (lo + hi))])) _
          refine XS.iconst X0.here hx rfl (hb hby d7_18) ?_
          show Steps p.tables e below (s₁.setTop (mkF m 19 #[.val (.ref b), .val (.int x), .val (.int y), .val (.int v), .val (.int lo), .val (.int hi), s6] [(.int (1 : Int32)), (.int (lo + hi))])) _
          refine XS.iadd X0.here hx rfl (hb hby d7_19) rfl ?_
          show Steps p.tables e below (s₁.setTop (mkF m 20 #[.val (.ref b), .val (.int x), .val (.int y), .val (.int v), .val (.int lo), .val (.int hi), s6] [(.int ((lo + hi) + (1 : Int32)))])) _
          refine XS.iconst X0.here hx rfl (hb hby d7_20) ?_
          show Steps p.tables e below (s₁.setTop (mkF m 21 #[.val (.ref b), .val (.int x), .val (.int y), .val (.int v), .val (.int lo), .val (.int hi), s6] [(.int (1 : Int32)), (.int ((lo + hi) + (1 : Int32)))])) _
          refine XS.iushr X0.here hx rfl (hb hby d7_21) rfl ?_
          show Steps p.tables e below (s₁.setTop (mkF m 22 #[.val (.ref b), .val (.int x), .val (.int y), .val (.int v), .val (.int lo), .val (.int hi), s6] [(.int (((((lo + hi) + (1 : Int32))).toUInt32 >>> ((1 : Int32) &&& 31).toUInt32).toInt32))])) _
          refine XS.istoreS X0.here hx rfl (hb hby d7_22) rfl rfl hs6 ?_
          show Steps p.tables e below (s₁.setTop (mkF m 24 #[.val (.ref b), .val (.int x), .val (.int y), .val (.int v), .val (.int lo), .val (.int hi), .val (.int (((((lo + hi) + (1 : Int32))).toUInt32 >>> ((1 : Int32) &&& 31).toUInt32).toInt32))] [])) _
          refine XS.aloadN X0.here hx rfl (hb hby d7_24) rfl rfl ?_
          show Steps p.tables e below (s₁.setTop (mkF m 25 #[.val (.ref b), .val (.int x), .val (.int y), .val (.int v), .val (.int lo), .val (.int hi), .val (.int (((((lo + hi) + (1 : Int32))).toUInt32 >>> ((1 : Int32) &&& 31).toUInt32).toInt32))] [(.ref b)])) _
          refine XS.iload X0.here hx rfl (hb hby d7_25) rfl ?_
          show Steps p.tables e below (s₁.setTop (mkF m 27 #[.val (.ref b), .val (.int x), .val (.int y), .val (.int v), .val (.int lo), .val (.int hi), .val (.int (((((lo + hi) + (1 : Int32))).toUInt32 >>> ((1 : Int32) &&& 31).toUInt32).toInt32))] [(.int (((((lo + hi) + (1 : Int32))).toUInt32 >>> ((1 : Int32) &&& 31).toUInt32).toInt32)), (.ref b)])) _
          refine X0.iaload hx (j := (((((lo + hi) + (1 : Int32))).toUInt32 >>> ((1 : Int32) &&& 31).toUInt32).toInt32)) (v := (.int (f (own_mid lo hi).toInt.toNat))) (by rw [e0]; exact Ar_a4.1) (State.isArrayOf_alike hZ.alike Ar_a4.2.1) Ar_a4.2.2 hin_a4 hat_a4 (g := (mkF m 27 #[.val (.ref b), .val (.int x), .val (.int y), .val (.int v), .val (.int lo), .val (.int hi), .val (.int (((((lo + hi) + (1 : Int32))).toUInt32 >>> ((1 : Int32) &&& 31).toUInt32).toInt32))] [(.int (((((lo + hi) + (1 : Int32))).toUInt32 >>> ((1 : Int32) &&& 31).toUInt32).toInt32)), (.ref b)])) rfl rfl (hb hby d7_27) _ ?_
          show Steps p.tables e below (s₁.setTop (mkF m 28 #[.val (.ref b), .val (.int x), .val (.int y), .val (.int v), .val (.int lo), .val (.int hi), .val (.int (((((lo + hi) + (1 : Int32))).toUInt32 >>> ((1 : Int32) &&& 31).toUInt32).toInt32))] [(.int (f (own_mid lo hi).toInt.toNat))])) _
          refine XS.iloadN X0.here hx rfl (hb hby d7_28) rfl ?_
          show Steps p.tables e below (s₁.setTop (mkF m 29 #[.val (.ref b), .val (.int x), .val (.int y), .val (.int v), .val (.int lo), .val (.int hi), .val (.int (((((lo + hi) + (1 : Int32))).toUInt32 >>> ((1 : Int32) &&& 31).toUInt32).toInt32))] [(.int v), (.int (f (own_mid lo hi).toInt.toNat))])) _
          exact kk
        by_cases c6 : v < (f (own_mid lo hi).toInt.toNat)
        · skip
          have P7 : ∀ t, Steps p.tables e below (s₁.setTop (mkF m 6 #[.val (.ref b), .val (.int x), .val (.int y), .val (.int v), .val (.int lo), .val (.int ((((((lo + hi) + (1 : Int32))).toUInt32 >>> ((1 : Int32) &&& 31).toUInt32).toInt32) - (1 : Int32))), .val (.int (((((lo + hi) + (1 : Int32))).toUInt32 >>> ((1 : Int32) &&& 31).toUInt32).toInt32))] [])) t → Steps p.tables e below (s₁.setTop (mkF m 6 #[.val (.ref b), .val (.int x), .val (.int y), .val (.int v), .val (.int lo), .val (.int hi), s6] [])) t := by
            intro t kk
            refine P5 _ ?_
            show Steps p.tables e below (s₁.setTop (mkF m 29 #[.val (.ref b), .val (.int x), .val (.int y), .val (.int v), .val (.int lo), .val (.int hi), .val (.int (((((lo + hi) + (1 : Int32))).toUInt32 >>> ((1 : Int32) &&& 31).toUInt32).toInt32))] [(.int v), (.int (f (own_mid lo hi).toInt.toNat))])) _
            refine XS.icmpYes X0.here hx rfl (pc0 := 29) (pc' := 39) rfl (hb hby d7_29) rfl (XT.ii_gt_t c6) (by decide) (by decide) ?_
            show Steps p.tables e below (s₁.setTop (mkF m 39 #[.val (.ref b), .val (.int x), .val (.int y), .val (.int v), .val (.int lo), .val (.int hi), .val (.int (((((lo + hi) + (1 : Int32))).toUInt32 >>> ((1 : Int32) &&& 31).toUInt32).toInt32))] [])) _
            refine XS.iload X0.here hx rfl (hb hby d7_39) rfl ?_
            show Steps p.tables e below (s₁.setTop (mkF m 41 #[.val (.ref b), .val (.int x), .val (.int y), .val (.int v), .val (.int lo), .val (.int hi), .val (.int (((((lo + hi) + (1 : Int32))).toUInt32 >>> ((1 : Int32) &&& 31).toUInt32).toInt32))] [(.int (((((lo + hi) + (1 : Int32))).toUInt32 >>> ((1 : Int32) &&& 31).toUInt32).toInt32))])) _
            refine XS.iconst X0.here hx rfl (hb hby d7_41) ?_
            show Steps p.tables e below (s₁.setTop (mkF m 42 #[.val (.ref b), .val (.int x), .val (.int y), .val (.int v), .val (.int lo), .val (.int hi), .val (.int (((((lo + hi) + (1 : Int32))).toUInt32 >>> ((1 : Int32) &&& 31).toUInt32).toInt32))] [(.int (1 : Int32)), (.int (((((lo + hi) + (1 : Int32))).toUInt32 >>> ((1 : Int32) &&& 31).toUInt32).toInt32))])) _
            refine XS.isub X0.here hx rfl (hb hby d7_42) rfl ?_
            show Steps p.tables e below (s₁.setTop (mkF m 43 #[.val (.ref b), .val (.int x), .val (.int y), .val (.int v), .val (.int lo), .val (.int hi), .val (.int (((((lo + hi) + (1 : Int32))).toUInt32 >>> ((1 : Int32) &&& 31).toUInt32).toInt32))] [(.int ((((((lo + hi) + (1 : Int32))).toUInt32 >>> ((1 : Int32) &&& 31).toUInt32).toInt32) - (1 : Int32)))])) _
            refine XS.istore X0.here hx rfl (hb hby d7_43) rfl (l' := #[.val (.ref b), .val (.int x), .val (.int y), .val (.int v), .val (.int lo), .val (.int ((((((lo + hi) + (1 : Int32))).toUInt32 >>> ((1 : Int32) &&& 31).toUInt32).toInt32) - (1 : Int32))), .val (.int (((((lo + hi) + (1 : Int32))).toUInt32 >>> ((1 : Int32) &&& 31).toUInt32).toInt32))]) rfl ?_
            show Steps p.tables e below (s₁.setTop (mkF m 45 #[.val (.ref b), .val (.int x), .val (.int y), .val (.int v), .val (.int lo), .val (.int ((((((lo + hi) + (1 : Int32))).toUInt32 >>> ((1 : Int32) &&& 31).toUInt32).toInt32) - (1 : Int32))), .val (.int (((((lo + hi) + (1 : Int32))).toUInt32 >>> ((1 : Int32) &&& 31).toUInt32).toInt32))] [])) _
            refine XS.goto X0.here hx rfl (pc0 := 45) (pc' := 6) rfl (hb hby d7_45) (by decide) (by decide) ?_
            show Steps p.tables e below (s₁.setTop (mkF m 6 #[.val (.ref b), .val (.int x), .val (.int y), .val (.int v), .val (.int lo), .val (.int ((((((lo + hi) + (1 : Int32))).toUInt32 >>> ((1 : Int32) &&& 31).toUInt32).toInt32) - (1 : Int32))), .val (.int (((((lo + hi) + (1 : Int32))).toUInt32 >>> ((1 : Int32) &&& 31).toUInt32).toInt32))] [])) _
            exact kk
          exact absurd (Int32.lt_iff_toInt_lt.mp c3) (by omega)
        · skip
          have P8 : ∀ t, Steps p.tables e below (s₁.setTop (mkF m 6 #[.val (.ref b), .val (.int x), .val (.int y), .val (.int v), .val (.int (((((lo + hi) + (1 : Int32))).toUInt32 >>> ((1 : Int32) &&& 31).toUInt32).toInt32)), .val (.int hi), .val (.int (((((lo + hi) + (1 : Int32))).toUInt32 >>> ((1 : Int32) &&& 31).toUInt32).toInt32))] [])) t → Steps p.tables e below (s₁.setTop (mkF m 6 #[.val (.ref b), .val (.int x), .val (.int y), .val (.int v), .val (.int lo), .val (.int hi), s6] [])) t := by
            intro t kk
            refine P5 _ ?_
            show Steps p.tables e below (s₁.setTop (mkF m 29 #[.val (.ref b), .val (.int x), .val (.int y), .val (.int v), .val (.int lo), .val (.int hi), .val (.int (((((lo + hi) + (1 : Int32))).toUInt32 >>> ((1 : Int32) &&& 31).toUInt32).toInt32))] [(.int v), (.int (f (own_mid lo hi).toInt.toNat))])) _
            refine XS.icmpNo X0.here hx rfl (hb hby d7_29) rfl (XT.ii_gt_f c6) ?_
            show Steps p.tables e below (s₁.setTop (mkF m 32 #[.val (.ref b), .val (.int x), .val (.int y), .val (.int v), .val (.int lo), .val (.int hi), .val (.int (((((lo + hi) + (1 : Int32))).toUInt32 >>> ((1 : Int32) &&& 31).toUInt32).toInt32))] [])) _
            refine XS.iload X0.here hx rfl (hb hby d7_32) rfl ?_
            show Steps p.tables e below (s₁.setTop (mkF m 34 #[.val (.ref b), .val (.int x), .val (.int y), .val (.int v), .val (.int lo), .val (.int hi), .val (.int (((((lo + hi) + (1 : Int32))).toUInt32 >>> ((1 : Int32) &&& 31).toUInt32).toInt32))] [(.int (((((lo + hi) + (1 : Int32))).toUInt32 >>> ((1 : Int32) &&& 31).toUInt32).toInt32))])) _
            refine XS.istore X0.here hx rfl (hb hby d7_34) rfl (l' := #[.val (.ref b), .val (.int x), .val (.int y), .val (.int v), .val (.int (((((lo + hi) + (1 : Int32))).toUInt32 >>> ((1 : Int32) &&& 31).toUInt32).toInt32)), .val (.int hi), .val (.int (((((lo + hi) + (1 : Int32))).toUInt32 >>> ((1 : Int32) &&& 31).toUInt32).toInt32))]) rfl ?_
            show Steps p.tables e below (s₁.setTop (mkF m 36 #[.val (.ref b), .val (.int x), .val (.int y), .val (.int v), .val (.int (((((lo + hi) + (1 : Int32))).toUInt32 >>> ((1 : Int32) &&& 31).toUInt32).toInt32)), .val (.int hi), .val (.int (((((lo + hi) + (1 : Int32))).toUInt32 >>> ((1 : Int32) &&& 31).toUInt32).toInt32))] [])) _
            refine XS.goto X0.here hx rfl (pc0 := 36) (pc' := 45) rfl (hb hby d7_36) (by decide) (by decide) ?_
            show Steps p.tables e below (s₁.setTop (mkF m 45 #[.val (.ref b), .val (.int x), .val (.int y), .val (.int v), .val (.int (((((lo + hi) + (1 : Int32))).toUInt32 >>> ((1 : Int32) &&& 31).toUInt32).toInt32)), .val (.int hi), .val (.int (((((lo + hi) + (1 : Int32))).toUInt32 >>> ((1 : Int32) &&& 31).toUInt32).toInt32))] [])) _
            refine XS.goto X0.here hx rfl (pc0 := 45) (pc' := 6) rfl (hb hby d7_45) (by decide) (by decide) ?_
            show Steps p.tables e below (s₁.setTop (mkF m 6 #[.val (.ref b), .val (.int x), .val (.int y), .val (.int v), .val (.int (((((lo + hi) + (1 : Int32))).toUInt32 >>> ((1 : Int32) &&& 31).toUInt32).toInt32)), .val (.int hi), .val (.int (((((lo + hi) + (1 : Int32))).toUInt32 >>> ((1 : Int32) &&& 31).toUInt32).toInt32))] [])) _
            exact kk
          exact absurd (Int32.lt_iff_toInt_lt.mp c3) (by omega)
      · skip
        have P9 : ∀ t, Steps p.tables e below (s₁.setTop (mkF m 48 #[.val (.ref b), .val (.int x), .val (.int y), .val (.int v), .val (.int lo), .val (.int hi), s6] [])) t → Steps p.tables e below (s₁.setTop (mkF m 6 #[.val (.ref b), .val (.int x), .val (.int y), .val (.int v), .val (.int lo), .val (.int hi), s6] [])) t := by
          intro t kk
          refine P2 _ ?_
          show Steps p.tables e below (s₁.setTop (mkF m 10 #[.val (.ref b), .val (.int x), .val (.int y), .val (.int v), .val (.int lo), .val (.int hi), s6] [(.int hi), (.int lo)])) _
          refine XS.icmpYes X0.here hx rfl (pc0 := 10) (pc' := 48) rfl (hb hby d7_10) rfl (XT.ii_ge_t c3) (by decide) (by decide) ?_
          show Steps p.tables e below (s₁.setTop (mkF m 48 #[.val (.ref b), .val (.int x), .val (.int y), .val (.int v), .val (.int lo), .val (.int hi), s6] [])) _
          exact kk
        exact ⟨lo, hi, s6, own_inv_end hinv c3, P9⟩
    | succ n ih =>
      intro lo hi s6 hs6 hinv hn
      have own_id : ∀ t, Steps p.tables e below (s₁.setTop (mkF m 6 #[.val (.ref b), .val (.int x), .val (.int y), .val (.int v), .val (.int lo), .val (.int hi), s6] [])) t → Steps p.tables e below (s₁.setTop (mkF m 6 #[.val (.ref b), .val (.int x), .val (.int y), .val (.int v), .val (.int lo), .val (.int hi), s6] [])) t := fun t k => k
      have P10 : ∀ t, Steps p.tables e below (s₁.setTop (mkF m 10 #[.val (.ref b), .val (.int x), .val (.int y), .val (.int v), .val (.int lo), .val (.int hi), s6] [(.int hi), (.int lo)])) t → Steps p.tables e below (s₁.setTop (mkF m 6 #[.val (.ref b), .val (.int x), .val (.int y), .val (.int v), .val (.int lo), .val (.int hi), s6] [])) t := by
        intro t kk
        refine own_id _ ?_
        show Steps p.tables e below (s₁.setTop (mkF m 6 #[.val (.ref b), .val (.int x), .val (.int y), .val (.int v), .val (.int lo), .val (.int hi), s6] [])) _
        refine XS.iload X0.here hx rfl (hb hby d7_6) rfl ?_
        show Steps p.tables e below (s₁.setTop (mkF m 8 #[.val (.ref b), .val (.int x), .val (.int y), .val (.int v), .val (.int lo), .val (.int hi), s6] [(.int lo)])) _
        refine XS.iload X0.here hx rfl (hb hby d7_8) rfl ?_
        show Steps p.tables e below (s₁.setTop (mkF m 10 #[.val (.ref b), .val (.int x), .val (.int y), .val (.int v), .val (.int lo), .val (.int hi), s6] [(.int hi), (.int lo)])) _
        exact kk
      by_cases c11 : lo < hi
      · skip
        obtain ⟨cl_a12, Ar_a12, q_a12, S_a12, N_a12, H_a12, G_a12⟩ := id pr0
        have hmi := own_mid_in hinv c11 pr3.1 pr4.1
        have hin_a12 : ¬ ((((((lo + hi) + (1 : Int32))).toUInt32 >>> ((1 : Int32) &&& 31).toUInt32).toInt32) < 0 ∨ cl_a12.slots.size ≤ ((((((lo + hi) + (1 : Int32))).toUInt32 >>> ((1 : Int32) &&& 31).toUInt32).toInt32)).toNatClampNeg) := inb_of S_a12 ⟨hmi.1, hmi.2.1⟩
        have hat_a12 := Has.at (v := (.int (f (own_mid lo hi).toInt.toNat))) H_a12 hin_a12 ((congrArg (fun q => vs.getD q d) hmi.2.2.1).trans (pr1 _ hmi.2.2.2))
        have P13 : ∀ t, Steps p.tables e below (s₁.setTop (mkF m 29 #[.val (.ref b), .val (.int x), .val (.int y), .val (.int v), .val (.int lo), .val (.int hi), .val (.int (((((lo + hi) + (1 : Int32))).toUInt32 >>> ((1 : Int32) &&& 31).toUInt32).toInt32))] [(.int v), (.int (f (own_mid lo hi).toInt.toNat))])) t → Steps p.tables e below (s₁.setTop (mkF m 6 #[.val (.ref b), .val (.int x), .val (.int y), .val (.int v), .val (.int lo), .val (.int hi), s6] [])) t := by
          intro t kk
          refine P10 _ ?_
          show Steps p.tables e below (s₁.setTop (mkF m 10 #[.val (.ref b), .val (.int x), .val (.int y), .val (.int v), .val (.int lo), .val (.int hi), s6] [(.int hi), (.int lo)])) _
          refine XS.icmpNo X0.here hx rfl (hb hby d7_10) rfl (XT.ii_ge_f c11) ?_
          show Steps p.tables e below (s₁.setTop (mkF m 13 #[.val (.ref b), .val (.int x), .val (.int y), .val (.int v), .val (.int lo), .val (.int hi), s6] [])) _
          refine XS.iload X0.here hx rfl (hb hby d7_13) rfl ?_
          show Steps p.tables e below (s₁.setTop (mkF m 15 #[.val (.ref b), .val (.int x), .val (.int y), .val (.int v), .val (.int lo), .val (.int hi), s6] [(.int lo)])) _
          refine XS.iload X0.here hx rfl (hb hby d7_15) rfl ?_
          show Steps p.tables e below (s₁.setTop (mkF m 17 #[.val (.ref b), .val (.int x), .val (.int y), .val (.int v), .val (.int lo), .val (.int hi), s6] [(.int hi), (.int lo)])) _
          refine XS.iadd X0.here hx rfl (hb hby d7_17) rfl ?_
          show Steps p.tables e below (s₁.setTop (mkF m 18 #[.val (.ref b), .val (.int x), .val (.int y), .val (.int v), .val (.int lo), .val (.int hi), s6] [(.int (lo + hi))])) _
          refine XS.iconst X0.here hx rfl (hb hby d7_18) ?_
          show Steps p.tables e below (s₁.setTop (mkF m 19 #[.val (.ref b), .val (.int x), .val (.int y), .val (.int v), .val (.int lo), .val (.int hi), s6] [(.int (1 : Int32)), (.int (lo + hi))])) _
          refine XS.iadd X0.here hx rfl (hb hby d7_19) rfl ?_
          show Steps p.tables e below (s₁.setTop (mkF m 20 #[.val (.ref b), .val (.int x), .val (.int y), .val (.int v), .val (.int lo), .val (.int hi), s6] [(.int ((lo + hi) + (1 : Int32)))])) _
          refine XS.iconst X0.here hx rfl (hb hby d7_20) ?_
          show Steps p.tables e below (s₁.setTop (mkF m 21 #[.val (.ref b), .val (.int x), .val (.int y), .val (.int v), .val (.int lo), .val (.int hi), s6] [(.int (1 : Int32)), (.int ((lo + hi) + (1 : Int32)))])) _
          refine XS.iushr X0.here hx rfl (hb hby d7_21) rfl ?_
          show Steps p.tables e below (s₁.setTop (mkF m 22 #[.val (.ref b), .val (.int x), .val (.int y), .val (.int v), .val (.int lo), .val (.int hi), s6] [(.int (((((lo + hi) + (1 : Int32))).toUInt32 >>> ((1 : Int32) &&& 31).toUInt32).toInt32))])) _
          refine XS.istoreS X0.here hx rfl (hb hby d7_22) rfl rfl hs6 ?_
          show Steps p.tables e below (s₁.setTop (mkF m 24 #[.val (.ref b), .val (.int x), .val (.int y), .val (.int v), .val (.int lo), .val (.int hi), .val (.int (((((lo + hi) + (1 : Int32))).toUInt32 >>> ((1 : Int32) &&& 31).toUInt32).toInt32))] [])) _
          refine XS.aloadN X0.here hx rfl (hb hby d7_24) rfl rfl ?_
          show Steps p.tables e below (s₁.setTop (mkF m 25 #[.val (.ref b), .val (.int x), .val (.int y), .val (.int v), .val (.int lo), .val (.int hi), .val (.int (((((lo + hi) + (1 : Int32))).toUInt32 >>> ((1 : Int32) &&& 31).toUInt32).toInt32))] [(.ref b)])) _
          refine XS.iload X0.here hx rfl (hb hby d7_25) rfl ?_
          show Steps p.tables e below (s₁.setTop (mkF m 27 #[.val (.ref b), .val (.int x), .val (.int y), .val (.int v), .val (.int lo), .val (.int hi), .val (.int (((((lo + hi) + (1 : Int32))).toUInt32 >>> ((1 : Int32) &&& 31).toUInt32).toInt32))] [(.int (((((lo + hi) + (1 : Int32))).toUInt32 >>> ((1 : Int32) &&& 31).toUInt32).toInt32)), (.ref b)])) _
          refine X0.iaload hx (j := (((((lo + hi) + (1 : Int32))).toUInt32 >>> ((1 : Int32) &&& 31).toUInt32).toInt32)) (v := (.int (f (own_mid lo hi).toInt.toNat))) (by rw [e0]; exact Ar_a12.1) (State.isArrayOf_alike hZ.alike Ar_a12.2.1) Ar_a12.2.2 hin_a12 hat_a12 (g := (mkF m 27 #[.val (.ref b), .val (.int x), .val (.int y), .val (.int v), .val (.int lo), .val (.int hi), .val (.int (((((lo + hi) + (1 : Int32))).toUInt32 >>> ((1 : Int32) &&& 31).toUInt32).toInt32))] [(.int (((((lo + hi) + (1 : Int32))).toUInt32 >>> ((1 : Int32) &&& 31).toUInt32).toInt32)), (.ref b)])) rfl rfl (hb hby d7_27) _ ?_
          show Steps p.tables e below (s₁.setTop (mkF m 28 #[.val (.ref b), .val (.int x), .val (.int y), .val (.int v), .val (.int lo), .val (.int hi), .val (.int (((((lo + hi) + (1 : Int32))).toUInt32 >>> ((1 : Int32) &&& 31).toUInt32).toInt32))] [(.int (f (own_mid lo hi).toInt.toNat))])) _
          refine XS.iloadN X0.here hx rfl (hb hby d7_28) rfl ?_
          show Steps p.tables e below (s₁.setTop (mkF m 29 #[.val (.ref b), .val (.int x), .val (.int y), .val (.int v), .val (.int lo), .val (.int hi), .val (.int (((((lo + hi) + (1 : Int32))).toUInt32 >>> ((1 : Int32) &&& 31).toUInt32).toInt32))] [(.int v), (.int (f (own_mid lo hi).toInt.toNat))])) _
          exact kk
        by_cases c14 : v < (f (own_mid lo hi).toInt.toNat)
        · skip
          have P15 : ∀ t, Steps p.tables e below (s₁.setTop (mkF m 6 #[.val (.ref b), .val (.int x), .val (.int y), .val (.int v), .val (.int lo), .val (.int ((((((lo + hi) + (1 : Int32))).toUInt32 >>> ((1 : Int32) &&& 31).toUInt32).toInt32) - (1 : Int32))), .val (.int (((((lo + hi) + (1 : Int32))).toUInt32 >>> ((1 : Int32) &&& 31).toUInt32).toInt32))] [])) t → Steps p.tables e below (s₁.setTop (mkF m 6 #[.val (.ref b), .val (.int x), .val (.int y), .val (.int v), .val (.int lo), .val (.int hi), s6] [])) t := by
            intro t kk
            refine P13 _ ?_
            show Steps p.tables e below (s₁.setTop (mkF m 29 #[.val (.ref b), .val (.int x), .val (.int y), .val (.int v), .val (.int lo), .val (.int hi), .val (.int (((((lo + hi) + (1 : Int32))).toUInt32 >>> ((1 : Int32) &&& 31).toUInt32).toInt32))] [(.int v), (.int (f (own_mid lo hi).toInt.toNat))])) _
            refine XS.icmpYes X0.here hx rfl (pc0 := 29) (pc' := 39) rfl (hb hby d7_29) rfl (XT.ii_gt_t c14) (by decide) (by decide) ?_
            show Steps p.tables e below (s₁.setTop (mkF m 39 #[.val (.ref b), .val (.int x), .val (.int y), .val (.int v), .val (.int lo), .val (.int hi), .val (.int (((((lo + hi) + (1 : Int32))).toUInt32 >>> ((1 : Int32) &&& 31).toUInt32).toInt32))] [])) _
            refine XS.iload X0.here hx rfl (hb hby d7_39) rfl ?_
            show Steps p.tables e below (s₁.setTop (mkF m 41 #[.val (.ref b), .val (.int x), .val (.int y), .val (.int v), .val (.int lo), .val (.int hi), .val (.int (((((lo + hi) + (1 : Int32))).toUInt32 >>> ((1 : Int32) &&& 31).toUInt32).toInt32))] [(.int (((((lo + hi) + (1 : Int32))).toUInt32 >>> ((1 : Int32) &&& 31).toUInt32).toInt32))])) _
            refine XS.iconst X0.here hx rfl (hb hby d7_41) ?_
            show Steps p.tables e below (s₁.setTop (mkF m 42 #[.val (.ref b), .val (.int x), .val (.int y), .val (.int v), .val (.int lo), .val (.int hi), .val (.int (((((lo + hi) + (1 : Int32))).toUInt32 >>> ((1 : Int32) &&& 31).toUInt32).toInt32))] [(.int (1 : Int32)), (.int (((((lo + hi) + (1 : Int32))).toUInt32 >>> ((1 : Int32) &&& 31).toUInt32).toInt32))])) _
            refine XS.isub X0.here hx rfl (hb hby d7_42) rfl ?_
            show Steps p.tables e below (s₁.setTop (mkF m 43 #[.val (.ref b), .val (.int x), .val (.int y), .val (.int v), .val (.int lo), .val (.int hi), .val (.int (((((lo + hi) + (1 : Int32))).toUInt32 >>> ((1 : Int32) &&& 31).toUInt32).toInt32))] [(.int ((((((lo + hi) + (1 : Int32))).toUInt32 >>> ((1 : Int32) &&& 31).toUInt32).toInt32) - (1 : Int32)))])) _
            refine XS.istore X0.here hx rfl (hb hby d7_43) rfl (l' := #[.val (.ref b), .val (.int x), .val (.int y), .val (.int v), .val (.int lo), .val (.int ((((((lo + hi) + (1 : Int32))).toUInt32 >>> ((1 : Int32) &&& 31).toUInt32).toInt32) - (1 : Int32))), .val (.int (((((lo + hi) + (1 : Int32))).toUInt32 >>> ((1 : Int32) &&& 31).toUInt32).toInt32))]) rfl ?_
            show Steps p.tables e below (s₁.setTop (mkF m 45 #[.val (.ref b), .val (.int x), .val (.int y), .val (.int v), .val (.int lo), .val (.int ((((((lo + hi) + (1 : Int32))).toUInt32 >>> ((1 : Int32) &&& 31).toUInt32).toInt32) - (1 : Int32))), .val (.int (((((lo + hi) + (1 : Int32))).toUInt32 >>> ((1 : Int32) &&& 31).toUInt32).toInt32))] [])) _
            refine XS.goto X0.here hx rfl (pc0 := 45) (pc' := 6) rfl (hb hby d7_45) (by decide) (by decide) ?_
            show Steps p.tables e below (s₁.setTop (mkF m 6 #[.val (.ref b), .val (.int x), .val (.int y), .val (.int v), .val (.int lo), .val (.int ((((((lo + hi) + (1 : Int32))).toUInt32 >>> ((1 : Int32) &&& 31).toUInt32).toInt32) - (1 : Int32))), .val (.int (((((lo + hi) + (1 : Int32))).toUInt32 >>> ((1 : Int32) &&& 31).toUInt32).toInt32))] [])) _
            exact kk
          obtain ⟨hi1, hi2⟩ := own_inv_hi hinv c11 pr3.1 pr4.1 pr2 c14
          obtain ⟨r, hi', s6', hs, hP⟩ := ih _ _ (.val (.int (((((lo + hi) + (1 : Int32))).toUInt32 >>> ((1 : Int32) &&& 31).toUInt32).toInt32))) (Or.inr ⟨_, rfl, rfl⟩) hi1 (by omega)
          exact ⟨r, hi', s6', hs, fun t kk => P15 t (hP t kk)⟩
        · skip
          have P16 : ∀ t, Steps p.tables e below (s₁.setTop (mkF m 6 #[.val (.ref b), .val (.int x), .val (.int y), .val (.int v), .val (.int (((((lo + hi) + (1 : Int32))).toUInt32 >>> ((1 : Int32) &&& 31).toUInt32).toInt32)), .val (.int hi), .val (.int (((((lo + hi) + (1 : Int32))).toUInt32 >>> ((1 : Int32) &&& 31).toUInt32).toInt32))] [])) t → Steps p.tables e below (s₁.setTop (mkF m 6 #[.val (.ref b), .val (.int x), .val (.int y), .val (.int v), .val (.int lo), .val (.int hi), s6] [])) t := by
            intro t kk
            refine P13 _ ?_
            show Steps p.tables e below (s₁.setTop (mkF m 29 #[.val (.ref b), .val (.int x), .val (.int y), .val (.int v), .val (.int lo), .val (.int hi), .val (.int (((((lo + hi) + (1 : Int32))).toUInt32 >>> ((1 : Int32) &&& 31).toUInt32).toInt32))] [(.int v), (.int (f (own_mid lo hi).toInt.toNat))])) _
            refine XS.icmpNo X0.here hx rfl (hb hby d7_29) rfl (XT.ii_gt_f c14) ?_
            show Steps p.tables e below (s₁.setTop (mkF m 32 #[.val (.ref b), .val (.int x), .val (.int y), .val (.int v), .val (.int lo), .val (.int hi), .val (.int (((((lo + hi) + (1 : Int32))).toUInt32 >>> ((1 : Int32) &&& 31).toUInt32).toInt32))] [])) _
            refine XS.iload X0.here hx rfl (hb hby d7_32) rfl ?_
            show Steps p.tables e below (s₁.setTop (mkF m 34 #[.val (.ref b), .val (.int x), .val (.int y), .val (.int v), .val (.int lo), .val (.int hi), .val (.int (((((lo + hi) + (1 : Int32))).toUInt32 >>> ((1 : Int32) &&& 31).toUInt32).toInt32))] [(.int (((((lo + hi) + (1 : Int32))).toUInt32 >>> ((1 : Int32) &&& 31).toUInt32).toInt32))])) _
            refine XS.istore X0.here hx rfl (hb hby d7_34) rfl (l' := #[.val (.ref b), .val (.int x), .val (.int y), .val (.int v), .val (.int (((((lo + hi) + (1 : Int32))).toUInt32 >>> ((1 : Int32) &&& 31).toUInt32).toInt32)), .val (.int hi), .val (.int (((((lo + hi) + (1 : Int32))).toUInt32 >>> ((1 : Int32) &&& 31).toUInt32).toInt32))]) rfl ?_
            show Steps p.tables e below (s₁.setTop (mkF m 36 #[.val (.ref b), .val (.int x), .val (.int y), .val (.int v), .val (.int (((((lo + hi) + (1 : Int32))).toUInt32 >>> ((1 : Int32) &&& 31).toUInt32).toInt32)), .val (.int hi), .val (.int (((((lo + hi) + (1 : Int32))).toUInt32 >>> ((1 : Int32) &&& 31).toUInt32).toInt32))] [])) _
            refine XS.goto X0.here hx rfl (pc0 := 36) (pc' := 45) rfl (hb hby d7_36) (by decide) (by decide) ?_
            show Steps p.tables e below (s₁.setTop (mkF m 45 #[.val (.ref b), .val (.int x), .val (.int y), .val (.int v), .val (.int (((((lo + hi) + (1 : Int32))).toUInt32 >>> ((1 : Int32) &&& 31).toUInt32).toInt32)), .val (.int hi), .val (.int (((((lo + hi) + (1 : Int32))).toUInt32 >>> ((1 : Int32) &&& 31).toUInt32).toInt32))] [])) _
            refine XS.goto X0.here hx rfl (pc0 := 45) (pc' := 6) rfl (hb hby d7_45) (by decide) (by decide) ?_
            show Steps p.tables e below (s₁.setTop (mkF m 6 #[.val (.ref b), .val (.int x), .val (.int y), .val (.int v), .val (.int (((((lo + hi) + (1 : Int32))).toUInt32 >>> ((1 : Int32) &&& 31).toUInt32).toInt32)), .val (.int hi), .val (.int (((((lo + hi) + (1 : Int32))).toUInt32 >>> ((1 : Int32) &&& 31).toUInt32).toInt32))] [])) _
            exact kk
          obtain ⟨hi1, hi2⟩ := own_inv_lo hinv c11 pr3.1 pr4.1 c14
          obtain ⟨r, hi', s6', hs, hP⟩ := ih _ _ (.val (.int (((((lo + hi) + (1 : Int32))).toUInt32 >>> ((1 : Int32) &&& 31).toUInt32).toInt32))) (Or.inr ⟨_, rfl, rfl⟩) hi1 (by omega)
          exact ⟨r, hi', s6', hs, fun t kk => P16 t (hP t kk)⟩
      · skip
        have P17 : ∀ t, Steps p.tables e below (s₁.setTop (mkF m 48 #[.val (.ref b), .val (.int x), .val (.int y), .val (.int v), .val (.int lo), .val (.int hi), s6] [])) t → Steps p.tables e below (s₁.setTop (mkF m 6 #[.val (.ref b), .val (.int x), .val (.int y), .val (.int v), .val (.int lo), .val (.int hi), s6] [])) t := by
          intro t kk
          refine P10 _ ?_
          show Steps p.tables e below (s₁.setTop (mkF m 10 #[.val (.ref b), .val (.int x), .val (.int y), .val (.int v), .val (.int lo), .val (.int hi), s6] [(.int hi), (.int lo)])) _
          refine XS.icmpYes X0.here hx rfl (pc0 := 10) (pc' := 48) rfl (hb hby d7_10) rfl (XT.ii_ge_t c11) (by decide) (by decide) ?_
          show Steps p.tables e below (s₁.setTop (mkF m 48 #[.val (.ref b), .val (.int x), .val (.int y), .val (.int v), .val (.int lo), .val (.int hi), s6] [])) _
          exact kk
        exact ⟨lo, hi, s6, own_inv_end hinv c11, P17⟩
  obtain ⟨r, hi', s6', hspec, hP⟩ := own_loop 6 x y .unset (Or.inl rfl) (own_start f x y v) (by have := pr3.1; have := pr4.1; omega)
  have P18 : ∀ t, Steps p.tables e below (s₁.setTop (mkF m 48 #[.val (.ref b), .val (.int x), .val (.int y), .val (.int v), .val (.int r), .val (.int hi'), s6'] [])) t → Steps p.tables e below (s₁.setTop (entryFrame m #[(.ref b), (.int x), (.int y), (.int v)] 7)) t := fun t kk => P1 t (hP t kk)
  have P19 : ∀ t, Steps p.tables e below (s₁.setTop (mkF m 50 #[.val (.ref b), .val (.int x), .val (.int y), .val (.int v), .val (.int r), .val (.int hi'), s6'] [(.int r)])) t → Steps p.tables e below (s₁.setTop (entryFrame m #[(.ref b), (.int x), (.int y), (.int v)] 7)) t := by
    intro t kk
    refine P18 _ ?_
    show Steps p.tables e below (s₁.setTop (mkF m 48 #[.val (.ref b), .val (.int x), .val (.int y), .val (.int v), .val (.int r), .val (.int hi'), s6'] [])) _
    refine XS.iload X0.here hx rfl (hb hby d7_48) rfl ?_
    show Steps p.tables e below (s₁.setTop (mkF m 50 #[.val (.ref b), .val (.int x), .val (.int y), .val (.int v), .val (.int r), .val (.int hi'), s6'] [(.int r)])) _
    exact kk
  obtain ⟨fs, hr, hrun, hended, hW, hsame⟩ := X0.leave (v := some (.int r)) (fun h => by rw [Bd.returns] at h; cases h)
  refine ⟨_, _, P19 _ ?_, hrun, hended, _, _, rfl, ?_, ⟨_, rfl⟩, hW, hsame.mono (by decide) (by decide)⟩
  · exact retI X0 hx Bd.returns (hb hby d7_50) hr
  · show Q7 Z b x y v k vs d f h0 n0 _ s₁.heap _
    rw [e0]
    exact ⟨r, rfl, N0, rfl, hspec⟩
def own_f (a0 a1 a2 a3 a4 a5 : Int32) (i : Nat) : Int32 := if i = 0 then a0 else if i = 1 then a1 else if i = 2 then a2 else if i = 3 then a3 else if i = 4 then a4 else a5
theorem own_up (p : Int32) (t : Int64) : p.toInt ≤ (F5 p (t &&& (3 : Int64))).toInt := by
  have h := c_maskL t 3 2 (by decide) (by decide)
  generalize (t &&& (3 : Int64)) = d at *
  have lM : (2147483647 : Int64).toInt = 2147483647 := by decide
  have k := c_ladd (p.toInt64) d
  have r := rng64 (p.toInt64 + d)
  have rp := rng32 p
  rw [c_i2l] at k
  unfold F5 F1
  split
  · exact Int.le_trans (by omega) (Int.le_of_eq (show (2147483647 : Int) = ((2147483647 : Int64).toInt32).toInt by decide))
  · rename_i c1
    rw [Int64.lt_iff_toInt_lt, lM] at c1
    have q1 := c_l2i (p.toInt64 + d)
    have q2 := rng32 (p.toInt64 + d).toInt32
    omega
theorem own_fv (a0 a1 a2 a3 a4 a5 : Int32) (d : Value) : ∀ i, i < 6 → [(.int a0), (.int a1), (.int a2), (.int a3), (.int a4), (.int a5)].getD i d = Value.int (own_f a0 a1 a2 a3 a4 a5 i) := by
  intro i hi
  rcases i with _ | _ | _ | _ | _ | _ | i
  all_goals first | rfl | omega
theorem own_fs (a0 a1 a2 a3 a4 a5 : Int32) (s1 : a0.toInt ≤ a1.toInt) (s2 : a1.toInt ≤ a2.toInt) (s3 : a2.toInt ≤ a3.toInt) (s4 : a3.toInt ≤ a4.toInt) (s5 : a4.toInt ≤ a5.toInt) : ∀ i j, i ≤ j → j < 6 → (own_f a0 a1 a2 a3 a4 a5 i).toInt ≤ (own_f a0 a1 a2 a3 a4 a5 j).toInt := by
  intro i j hij hj
  have e : ∀ i, (own_f a0 a1 a2 a3 a4 a5 i).toInt = if i = 0 then a0.toInt else if i = 1 then a1.toInt else if i = 2 then a2.toInt else if i = 3 then a3.toInt else if i = 4 then a4.toInt else a5.toInt := by
    intro i
    unfold own_f
    repeat' split
    all_goals rfl
  rw [e, e]
  repeat' split
  all_goals omega
theorem own_cnt (v b0 b1 b2 b3 b4 b5 c : Int) (s1 : b0 ≤ b1) (s2 : b1 ≤ b2) (s3 : b2 ≤ b3) (s4 : b3 ≤ b4) (s5 : b4 ≤ b5) (hc : c = (if v < b0 then 0 else 1) + (if v < b1 then 0 else 1) + (if v < b2 then 0 else 1) + (if v < b3 then 0 else 1) + (if v < b4 then 0 else 1) + (if v < b5 then 0 else 1)) :
    (v < b0 ↔ c - 1 < 0) ∧ (v < b1 ↔ c - 1 < 1) ∧ (v < b2 ↔ c - 1 < 2) ∧ (v < b3 ↔ c - 1 < 3) ∧ (v < b4 ↔ c - 1 < 4) ∧ (v < b5 ↔ c - 1 < 5) ∧ 0 ≤ c ∧ c ≤ 6 := by
  have d : ∀ b : Int, (v < b ∧ (if v < b then (0 : Int) else 1) = 0) ∨ (b ≤ v ∧ (if v < b then (0 : Int) else 1) = 1) := fun b => by
    by_cases q : v < b
    · exact Or.inl ⟨q, if_pos q⟩
    · exact Or.inr ⟨by omega, if_neg q⟩
  have d0 := d b0
  have d1 := d b1
  have d2 := d b2
  have d3 := d b3
  have d4 := d b4
  have d5 := d b5
  clear d
  generalize (if v < b0 then (0 : Int) else 1) = c0 at *
  generalize (if v < b1 then (0 : Int) else 1) = c1 at *
  generalize (if v < b2 then (0 : Int) else 1) = c2 at *
  generalize (if v < b3 then (0 : Int) else 1) = c3 at *
  generalize (if v < b4 then (0 : Int) else 1) = c4 at *
  generalize (if v < b5 then (0 : Int) else 1) = c5 at *
  refine ⟨?_, ?_, ?_, ?_, ?_, ?_, ?_, ?_⟩ <;> omega
theorem own_le1 (x v : Int32) : (F6 x v).toInt = if v.toInt < x.toInt then 0 else 1 := by
  unfold F6
  by_cases h : v < x
  · rw [if_pos h, if_pos (Int32.lt_iff_toInt_lt.mp h)]; rfl
  · rw [if_neg h, if_neg (fun q => h (Int32.lt_iff_toInt_lt.mpr q))]; rfl
theorem own_ans (a0 a1 a2 a3 a4 a5 v x y r c : Int32) (s1 : a0.toInt ≤ a1.toInt) (s2 : a1.toInt ≤ a2.toInt) (s3 : a2.toInt ≤ a3.toInt) (s4 : a3.toInt ≤ a4.toInt) (s5 : a4.toInt ≤ a5.toInt) (hx : 0 ≤ x.toInt ∧ x.toInt ≤ 5) (hy : y.toInt ≤ 5 ∧ -1 ≤ y.toInt)
    (hc : c = (((((F6 a0 v) + (F6 a1 v)) + (F6 a2 v)) + (F6 a3 v)) + (F6 a4 v)) + (F6 a5 v)) (h : own_spec (own_f a0 a1 a2 a3 a4 a5) x y v r) : r = F4 x (F3 y (c - (1 : Int32))) := by
  have hcI : c.toInt = (if v.toInt < a0.toInt then 0 else 1) + (if v.toInt < a1.toInt then 0 else 1) + (if v.toInt < a2.toInt then 0 else 1) + (if v.toInt < a3.toInt then 0 else 1) + (if v.toInt < a4.toInt then 0 else 1) + (if v.toInt < a5.toInt then 0 else 1) := by
    have e0 := own_le1 a0 v
    have e1 := own_le1 a1 v
    have e2 := own_le1 a2 v
    have e3 := own_le1 a3 v
    have e4 := own_le1 a4 v
    have e5 := own_le1 a5 v
    have b : ∀ x : Int32, 0 ≤ (F6 x v).toInt ∧ (F6 x v).toInt ≤ 1 := fun x => by rw [own_le1]; split <;> omega
    have b0 := b a0
    have b1 := b a1
    have b2 := b a2
    have b3 := b a3
    have b4 := b a4
    have b5 := b a5
    rw [← e0, ← e1, ← e2, ← e3, ← e4, ← e5]
    clear e0 e1 e2 e3 e4 e5 b
    subst hc
    generalize F6 a0 v = z0 at *
    generalize F6 a1 v = z1 at *
    generalize F6 a2 v = z2 at *
    generalize F6 a3 v = z3 at *
    generalize F6 a4 v = z4 at *
    generalize F6 a5 v = z5 at *
    have k1 := c_iadd z0 z1
    have k2 := c_iadd (z0 + z1) z2
    have k3 := c_iadd (z0 + z1 + z2) z3
    have k4 := c_iadd (z0 + z1 + z2 + z3) z4
    have k5 := c_iadd (z0 + z1 + z2 + z3 + z4) z5
    have r1 := rng32 (z0 + z1)
    have r2 := rng32 (z0 + z1 + z2)
    have r3 := rng32 (z0 + z1 + z2 + z3)
    have r4 := rng32 (z0 + z1 + z2 + z3 + z4)
    have r5 := rng32 (z0 + z1 + z2 + z3 + z4 + z5)
    omega
  obtain ⟨w0, w1, w2, w3, w4, w5, wa, wb⟩ := own_cnt _ _ _ _ _ _ _ _ s1 s2 s3 s4 s5 hcI
  have hF : ∀ i : Nat, i < 6 → (v < own_f a0 a1 a2 a3 a4 a5 i ↔ c.toInt - 1 < i) := by
    intro i hi
    rw [Int32.lt_iff_toInt_lt]
    rcases i with _ | _ | _ | _ | _ | _ | i
    · exact w0
    · exact w1
    · exact w2
    · exact w3
    · exact w4
    · exact w5
    · omega
  have l1 : (1 : Int32).toInt = 1 := by decide
  have k := c_isub c 1
  have rk := rng32 (c - (1 : Int32))
  rw [l1] at k
  have hd : (c - (1 : Int32)).toInt = c.toInt - 1 := by omega
  obtain ⟨g1, g2, g3⟩ := h
  have m1 : (F3 y (c - (1 : Int32))).toInt = if c.toInt - 1 < y.toInt then c.toInt - 1 else y.toInt := by
    unfold F3
    by_cases q : c.toInt - 1 < y.toInt
    · rw [if_pos (by rw [Int32.lt_iff_toInt_lt, hd]; exact q), if_pos q, hd]
    · rw [if_neg (by rw [Int32.lt_iff_toInt_lt, hd]; exact q), if_neg q]
  generalize F3 y (c - (1 : Int32)) = u at *
  have m2 : (F4 x u).toInt = if x.toInt < u.toInt then u.toInt else x.toInt := by
    unfold F4
    by_cases q : x < u
    · rw [if_pos q, if_pos (Int32.lt_iff_toInt_lt.mp q)]
    · rw [if_neg q, if_neg (fun z => q (Int32.lt_iff_toInt_lt.mpr z))]
  refine Int32.toInt_inj.mp ?_
  rw [m2]
  have up : r.toInt = x.toInt ∨ r.toInt ≤ u.toInt := by
    rcases g2 with rfl | ⟨q1, q2⟩
    · exact Or.inl rfl
    · right
      rw [hF _ (by omega)] at q2
      split at m1 <;> omega
  have dn : u.toInt ≤ r.toInt := by
    apply Classical.byContradiction
    intro q
    have q1 := g3 u.toInt.toNat (by omega) (by split at m1 <;> omega)
    rw [hF _ (by split at m1 <;> omega)] at q1
    split at m1 <;> omega
  split <;> omega
theorem own_frm (p : Int32) : 0 ≤ (((((p).toUInt32 >>> ((1 : Int32) &&& 31).toUInt32).toInt32) &&& (7 : Int32)) % (6 : Int32)).toInt ∧ (((((p).toUInt32 >>> ((1 : Int32) &&& 31).toUInt32).toInt32) &&& (7 : Int32)) % (6 : Int32)).toInt ≤ 5 := by
  generalize (((p).toUInt32 >>> ((1 : Int32) &&& 31).toUInt32).toInt32) = x
  have h1 := c_mask x 7 3 (by decide) (by decide)
  have h2 := (c_irem (x &&& (7 : Int32)) 6 6 (by decide)).1 (by omega)
  omega
theorem own_to (p : Int32) : ((((((p).toUInt32 >>> ((4 : Int32) &&& 31).toUInt32).toInt32) &&& (7 : Int32)) % (7 : Int32)) - (1 : Int32)).toInt ≤ 5 ∧ -1 ≤ ((((((p).toUInt32 >>> ((4 : Int32) &&& 31).toUInt32).toInt32) &&& (7 : Int32)) % (7 : Int32)) - (1 : Int32)).toInt := by
  generalize (((p).toUInt32 >>> ((4 : Int32) &&& 31).toUInt32).toInt32) = x
  have h1 := c_mask x 7 3 (by decide) (by decide)
  have h2 := (c_irem (x &&& (7 : Int32)) 7 7 (by decide)).1 (by omega)
  have h3 := c_isub ((x &&& (7 : Int32)) % (7 : Int32)) 1
  have l1 : (1 : Int32).toInt = 1 := by decide
  have r := rng32 (((x &&& (7 : Int32)) % (7 : Int32)) - (1 : Int32))
  rw [l1] at h3
  omega
theorem own_plain0 (p0 : Int32) (p1 : Int64) (p2 : Int32) (p3 : Int32) (i3 : Int32) (h_i3 : i3 = (F5 (F5 p0 (p1 &&& (3 : Int64))) ((((p1).toUInt64 >>> ((2 : Int32) &&& 0x3f).toInt64.toUInt64).toInt64) &&& (3 : Int64)))) (i5 : Int32) (h_i5 : i5 = (F5 i3 ((((p1).toUInt64 >>> ((4 : Int32) &&& 0x3f).toInt64.toUInt64).toInt64) &&& (3 : Int64)))) (i8 : Int32) (h_i8 : i8 = (F5 i5 ((((p1).toUInt64 >>> ((6 : Int32) &&& 0x3f).toInt64.toUInt64).toInt64) &&& (3 : Int64)))) (i10 : Int32) (h_i10 : i10 = (F5 i8 ((((p1).toUInt64 >>> ((8 : Int32) &&& 0x3f).toInt64.toUInt64).toInt64) &&& (3 : Int64)))) (i26 : Int32) (h_i26 : i26 = (if (p3 &&& (1 : Int32)) = (0 : Int32) then (0 : Int32) else (1 : Int32))) (i34 : Int32) (h_i34 : i34 = (((F2 (-2147483648 : Int64) (F1 (2147483647 : Int64) ((((p0).toInt64) + (((p2 &&& (31 : Int32))).toInt64)) - (4 : Int64))))).toInt32)) (i35 : Int32) (h_i35 : i35 = (((((p3).toUInt32 >>> ((1 : Int32) &&& 31).toUInt32).toInt32) &&& (7 : Int32)) % (6 : Int32))) (i37 : Int32) (h_i37 : i37 = ((((((p3).toUInt32 >>> ((4 : Int32) &&& 31).toUInt32).toInt32) &&& (7 : Int32)) % (7 : Int32)) - (1 : Int32))) (i45 : Int32) (h_i45 : i45 = ((((((F6 p0 i34) + (F6 (F5 p0 (p1 &&& (3 : Int64))) i34)) + (F6 i3 i34)) + (F6 i5 i34)) + (F6 i8 i34)) + (F6 i10 i34))) (r_48 : Int32) (i50 : Int32) (h_i50 : i50 = (if r_48 = (F4 i35 (F3 i37 (i45 - (1 : Int32)))) then (1 : Int32) else (0 : Int32))) (c30 : i26 = (0 : Int32)) (q48_0 : own_spec (own_f p0 (F5 p0 (p1 &&& (3 : Int64))) i3 i5 i8 i10) i35 i37 i34 r_48) : i50 = (1 : Int32) := by
  rw [h_i50, if_pos]
  exact own_ans (p0) ((F5 p0 (p1 &&& (3 : Int64)))) (i3) (i5) (i8) (i10) i34 i35 i37 r_48 _ (own_up _ _) (by rw [h_i3]; exact own_up _ _) (by rw [h_i5]; exact own_up _ _) (by rw [h_i8]; exact own_up _ _) (by rw [h_i10]; exact own_up _ _) (by rw [h_i35]; exact own_frm p3) (by rw [h_i37]; exact own_to p3) h_i45 q48_0
theorem own_plain1 (p0 : Int32) (p1 : Int64) (p2 : Int32) (p3 : Int32) (i3 : Int32) (h_i3 : i3 = (F5 (F5 p0 (p1 &&& (3 : Int64))) ((((p1).toUInt64 >>> ((2 : Int32) &&& 0x3f).toInt64.toUInt64).toInt64) &&& (3 : Int64)))) (i5 : Int32) (h_i5 : i5 = (F5 i3 ((((p1).toUInt64 >>> ((4 : Int32) &&& 0x3f).toInt64.toUInt64).toInt64) &&& (3 : Int64)))) (i8 : Int32) (h_i8 : i8 = (F5 i5 ((((p1).toUInt64 >>> ((6 : Int32) &&& 0x3f).toInt64.toUInt64).toInt64) &&& (3 : Int64)))) (i10 : Int32) (h_i10 : i10 = (F5 i8 ((((p1).toUInt64 >>> ((8 : Int32) &&& 0x3f).toInt64.toUInt64).toInt64) &&& (3 : Int64)))) (i26 : Int32) (h_i26 : i26 = (if (p3 &&& (1 : Int32)) = (0 : Int32) then (0 : Int32) else (1 : Int32))) (i54 : Int32) (h_i54 : i54 = (((((p3).toUInt32 >>> ((1 : Int32) &&& 31).toUInt32).toInt32) &&& (7 : Int32)) % (6 : Int32))) (i55 : Int32) (h_i55 : i55 = ((((((p3).toUInt32 >>> ((4 : Int32) &&& 31).toUInt32).toInt32) &&& (7 : Int32)) % (7 : Int32)) - (1 : Int32))) (i64 : Int32) (h_i64 : i64 = ((((((F6 p0 p2) + (F6 (F5 p0 (p1 &&& (3 : Int64))) p2)) + (F6 i3 p2)) + (F6 i5 p2)) + (F6 i8 p2)) + (F6 i10 p2))) (r_68 : Int32) (i70 : Int32) (h_i70 : i70 = (if r_68 = (F4 i54 (F3 i55 (i64 - (1 : Int32)))) then (1 : Int32) else (0 : Int32))) (c30 : ¬ i26 = (0 : Int32)) (q68_0 : own_spec (own_f p0 (F5 p0 (p1 &&& (3 : Int64))) i3 i5 i8 i10) i54 i55 p2 r_68) : i70 = (1 : Int32) := by
  rw [h_i70, if_pos]
  exact own_ans (p0) ((F5 p0 (p1 &&& (3 : Int64)))) (i3) (i5) (i8) (i10) p2 i54 i55 r_68 _ (own_up _ _) (by rw [h_i3]; exact own_up _ _) (by rw [h_i5]; exact own_up _ _) (by rw [h_i8]; exact own_up _ _) (by rw [h_i10]; exact own_up _ _) (by rw [h_i54]; exact own_frm p3) (by rw [h_i55]; exact own_to p3) h_i64 q68_0
theorem ef_0 (m : MethodId) (x0 : Int32) (x1 : Int64) (x2 : Int32) (x3 : Int32) : entryFrame m #[(.int x0), (.long x1), (.int x2), (.int x3)] maxLocals = (mkF m 0 #[.val (.int x0), .val (.long x1), .second, .val (.int x2), .val (.int x3), .unset, .unset, .unset, .unset, .unset, .unset, .unset, .unset, .unset, .unset, .unset, .unset, .unset, .unset] []) := by first | (simp [entryFrame, mkF, argsToLocals, Value.category, maxLocals]; done) | rfl
def Q0 (Z : State) (h0 : Heap) (n0 : Nat) (v : Option Value) (h : Heap) (L : List Loc) : Prop := v = some (.int (1 : Int32)) ∧ Fr n0 L
set_option maxRecDepth 65536 in
set_option maxHeartbeats 400000000 in
theorem rm0 (l : Launch) (Z : State) (a0 : Array Value) (hw : ∀ d ∈ tables_1, d.before a0 Z = true) (ws : List Jvm.Cond) (p0 : Int32) (p1 : Int64) (p2 : Int32) (p3 : Int32) (h0 : Heap) (n0 : Nat) (Z0 : n0 ≤ h0.size)  :
    MetFree l x (head1 (Jvm.Cond.code x code maxLocals ret :: ws) room_1) (fun a U => a = #[(.int p0), (.long p1), (.int p2), (.int p3)] ∧ Z.Warmed39 U.vm ∧ U.heap = h0) (fun _ _ _ _ _ => True) (fun _ U o U' => ∃ v L, o = .returned v ∧ Q0 Z h0 n0 v U'.heap L ∧ FrameEnd U o U' L room_1.cells room_1.slots) := by
  refine MetFree.of_bodySF (plainFor_of_name pn_0) hisR ?_
  intro p e s m args below meth c s₁ Bd hml0 hP hK
  obtain ⟨rfl, hZ, hh⟩ := hP
  have hx := Bd.exec
  have hby := Bd.bytes
  have hml : c.maxLocals = 19 := hml0
  have hown : s.vm.findClass "org/wayfold/graph/GraphLastAtMostPinLaw" = some m.cls := findClass_of_methodNamed Bd.named
  have hnm := (name_of_methodNamed Bd.named Bd.method).1
  have X0 : Stand p l e room_1 s m #[(.int p0), (.long p1), (.int p2), (.int p3)] below meth c s₁ [] 0 0 := Stand.of_body Bd
  have e0 : s₁.heap = h0 := by rw [← hh, Bd.state]; rfl
  have N0 := Fr.nil n0
  have pre0 : ∀ t, Steps p.tables e below (s₁.setTop (mkF m 0 #[.val (.int p0), .val (.long p1), .second, .val (.int p2), .val (.int p3), .unset, .unset, .unset, .unset, .unset, .unset, .unset, .unset, .unset, .unset, .unset, .unset, .unset, .unset] [])) t → Steps p.tables e below (s₁.setTop (entryFrame m #[(.int p0), (.long p1), (.int p2), (.int p3)] maxLocals)) t := fun t k => castTop (ef_0 m p0 p1 p2 p3) k
  obtain ⟨_, _, ⟨T1, L1, k1, n1⟩, -, X1, ⟨Lc1, hQ1, l1, y1, z1⟩, st1⟩ := Jvm.LawKit.callS X0 hx (y := (⟨"org/wayfold/graph/GraphLastAtMostPinLaw", "up", "(IJ)I"⟩ : MethodName)) hown (mvT hZ (hw _ (List.mem_of_getElem? (i := 1) rfl))) (mvT hZ (hw _ (List.mem_of_getElem? (i := 2) rfl))) (mvT hZ (hw _ (List.mem_of_getElem? (i := 3) rfl))) (mvT hZ (hw _ (List.mem_of_getElem? (i := 4) rfl))) (by decide) (backOf (W := 0) (rm5 l Z a0 hw [] p0 (p1 &&& (3 : Int64)) h0 n0 Z0 ) hZ (hw _ (List.mem_of_getElem? (i := 4) rfl)) (hw _ (List.mem_of_getElem? (i := 3) rfl)) (by decide) (by decide)) (g := (mkF m 10 #[.val (.int p0), .val (.long p1), .second, .val (.int p2), .val (.int p3), .val (.int p0), .unset, .unset, .unset, .unset, .unset, .unset, .unset, .unset, .unset, .unset, .unset, .unset, .unset] [(.long (p1 &&& (3 : Int64))), (.int p0)])) rfl (by rw [hml]; rfl) (argsL := [(.int p0), (.long (p1 &&& (3 : Int64)))]) (rest := []) (lenOf pd_1 rfl) rfl (by show 2 * 0 + _ ≤ _; exact Nat.le_of_eq rfl) (hb hby at_10) (fun _ _ => ⟨rfl, e0, (by decide : 0 + 0 ≤ _), (by decide : 0 + 0 ≤ _)⟩)
  dsimp only [Pt.U, Pt.locs, Pt.cells, Pt.slots] at X1 l1 y1 z1 st1 hQ1
  subst l1 y1 z1
  obtain ⟨rfl, Nq1, e1⟩ := hQ1
  have N1 := Fr.app N0 Nq1
  obtain ⟨_, _, ⟨T2, L2, k2, n2⟩, -, X2, ⟨Lc2, hQ2, l2, y2, z2⟩, st2⟩ := Jvm.LawKit.callS X1 hx (y := (⟨"org/wayfold/graph/GraphLastAtMostPinLaw", "up", "(IJ)I"⟩ : MethodName)) hown (mvT hZ (hw _ (List.mem_of_getElem? (i := 1) rfl))) (mvT hZ (hw _ (List.mem_of_getElem? (i := 2) rfl))) (mvT hZ (hw _ (List.mem_of_getElem? (i := 3) rfl))) (mvT hZ (hw _ (List.mem_of_getElem? (i := 4) rfl))) (by decide) (backOf (W := 0) (rm5 l Z a0 hw [] (F5 p0 (p1 &&& (3 : Int64))) ((((p1).toUInt64 >>> ((2 : Int32) &&& 0x3f).toInt64.toUInt64).toInt64) &&& (3 : Int64)) h0 n0 Z0 ) hZ (hw _ (List.mem_of_getElem? (i := 4) rfl)) (hw _ (List.mem_of_getElem? (i := 3) rfl)) (by decide) (by decide)) (g := (mkF m 24 #[.val (.int p0), .val (.long p1), .second, .val (.int p2), .val (.int p3), .val (.int p0), .val (.int (F5 p0 (p1 &&& (3 : Int64)))), .unset, .unset, .unset, .unset, .unset, .unset, .unset, .unset, .unset, .unset, .unset, .unset] [(.long ((((p1).toUInt64 >>> ((2 : Int32) &&& 0x3f).toInt64.toUInt64).toInt64) &&& (3 : Int64))), (.int (F5 p0 (p1 &&& (3 : Int64))))])) rfl (by rw [hml]; rfl) (argsL := [(.int (F5 p0 (p1 &&& (3 : Int64)))), (.long ((((p1).toUInt64 >>> ((2 : Int32) &&& 0x3f).toInt64.toUInt64).toInt64) &&& (3 : Int64)))]) (rest := []) (lenOf pd_1 rfl) rfl (by show 2 * 0 + _ ≤ _; exact Nat.le_of_eq rfl) (hb hby at_24) (fun _ _ => ⟨rfl, e1, (by decide : 0 + 0 ≤ _), (by decide : 0 + 0 ≤ _)⟩)
  dsimp only [Pt.U, Pt.locs, Pt.cells, Pt.slots] at X2 l2 y2 z2 st2 hQ2
  subst l2 y2 z2
  obtain ⟨rfl, Nq2, e2⟩ := hQ2
  have N2 := Fr.app N1 Nq2
  obtain ⟨i3, h_i3⟩ : ∃ z : Int32, z = (F5 (F5 p0 (p1 &&& (3 : Int64))) ((((p1).toUInt64 >>> ((2 : Int32) &&& 0x3f).toInt64.toUInt64).toInt64) &&& (3 : Int64))) := ⟨_, rfl⟩
  obtain ⟨_, _, ⟨T4, L4, k4, n4⟩, -, X4, ⟨Lc4, hQ4, l4, y4, z4⟩, st4⟩ := Jvm.LawKit.callS X2 hx (y := (⟨"org/wayfold/graph/GraphLastAtMostPinLaw", "up", "(IJ)I"⟩ : MethodName)) hown (mvT hZ (hw _ (List.mem_of_getElem? (i := 1) rfl))) (mvT hZ (hw _ (List.mem_of_getElem? (i := 2) rfl))) (mvT hZ (hw _ (List.mem_of_getElem? (i := 3) rfl))) (mvT hZ (hw _ (List.mem_of_getElem? (i := 4) rfl))) (by decide) (backOf (W := 0) (rm5 l Z a0 hw [] i3 ((((p1).toUInt64 >>> ((4 : Int32) &&& 0x3f).toInt64.toUInt64).toInt64) &&& (3 : Int64)) h0 n0 Z0 ) hZ (hw _ (List.mem_of_getElem? (i := 4) rfl)) (hw _ (List.mem_of_getElem? (i := 3) rfl)) (by decide) (by decide)) (g := (mkF m 38 #[.val (.int p0), .val (.long p1), .second, .val (.int p2), .val (.int p3), .val (.int p0), .val (.int (F5 p0 (p1 &&& (3 : Int64)))), .val (.int i3), .unset, .unset, .unset, .unset, .unset, .unset, .unset, .unset, .unset, .unset, .unset] [(.long ((((p1).toUInt64 >>> ((4 : Int32) &&& 0x3f).toInt64.toUInt64).toInt64) &&& (3 : Int64))), (.int i3)])) rfl (by rw [hml]; rfl) (argsL := [(.int i3), (.long ((((p1).toUInt64 >>> ((4 : Int32) &&& 0x3f).toInt64.toUInt64).toInt64) &&& (3 : Int64)))]) (rest := []) (lenOf pd_1 rfl) rfl (by show 2 * 0 + _ ≤ _; exact Nat.le_of_eq rfl) (hb hby at_38) (fun _ _ => ⟨rfl, e2, (by decide : 0 + 0 ≤ _), (by decide : 0 + 0 ≤ _)⟩)
  dsimp only [Pt.U, Pt.locs, Pt.cells, Pt.slots] at X4 l4 y4 z4 st4 hQ4
  subst l4 y4 z4
  obtain ⟨rfl, Nq4, e4⟩ := hQ4
  have N4 := Fr.app N2 Nq4
  obtain ⟨i5, h_i5⟩ : ∃ z : Int32, z = (F5 i3 ((((p1).toUInt64 >>> ((4 : Int32) &&& 0x3f).toInt64.toUInt64).toInt64) &&& (3 : Int64))) := ⟨_, rfl⟩
  have P6 : ∀ t, Steps p.tables e below (T4.setTop (mkF m 49 #[.val (.int p0), .val (.long p1), .second, .val (.int p2), .val (.int p3), .val (.int p0), .val (.int (F5 p0 (p1 &&& (3 : Int64)))), .val (.int i3), .val (.int i5), .unset, .unset, .unset, .unset, .unset, .unset, .unset, .unset, .unset, .unset] [(.long (((p1).toUInt64 >>> ((6 : Int32) &&& 0x3f).toInt64.toUInt64).toInt64)), (.int i5)])) t → Steps p.tables e below (s₁.setTop (entryFrame m #[(.int p0), (.long p1), (.int p2), (.int p3)] maxLocals)) t := by
    intro t kk
    refine pre0 _ ?_
    show Steps p.tables e below (s₁.setTop (mkF m 0 #[.val (.int p0), .val (.long p1), .second, .val (.int p2), .val (.int p3), .unset, .unset, .unset, .unset, .unset, .unset, .unset, .unset, .unset, .unset, .unset, .unset, .unset, .unset] [])) _
    refine XS.iloadN X0.here hx rfl (hb hby at_0) rfl ?_
    show Steps p.tables e below (s₁.setTop (mkF m 1 #[.val (.int p0), .val (.long p1), .second, .val (.int p2), .val (.int p3), .unset, .unset, .unset, .unset, .unset, .unset, .unset, .unset, .unset, .unset, .unset, .unset, .unset, .unset] [(.int p0)])) _
    refine XS.istore X0.here hx rfl (hb hby at_1) rfl (l' := #[.val (.int p0), .val (.long p1), .second, .val (.int p2), .val (.int p3), .val (.int p0), .unset, .unset, .unset, .unset, .unset, .unset, .unset, .unset, .unset, .unset, .unset, .unset, .unset]) rfl ?_
    show Steps p.tables e below (s₁.setTop (mkF m 3 #[.val (.int p0), .val (.long p1), .second, .val (.int p2), .val (.int p3), .val (.int p0), .unset, .unset, .unset, .unset, .unset, .unset, .unset, .unset, .unset, .unset, .unset, .unset, .unset] [])) _
    refine XS.iload X0.here hx rfl (hb hby at_3) rfl ?_
    show Steps p.tables e below (s₁.setTop (mkF m 5 #[.val (.int p0), .val (.long p1), .second, .val (.int p2), .val (.int p3), .val (.int p0), .unset, .unset, .unset, .unset, .unset, .unset, .unset, .unset, .unset, .unset, .unset, .unset, .unset] [(.int p0)])) _
    refine XS.lloadN X0.here hx rfl (hb hby at_5) rfl ?_
    show Steps p.tables e below (s₁.setTop (mkF m 6 #[.val (.int p0), .val (.long p1), .second, .val (.int p2), .val (.int p3), .val (.int p0), .unset, .unset, .unset, .unset, .unset, .unset, .unset, .unset, .unset, .unset, .unset, .unset, .unset] [(.long p1), (.int p0)])) _
    refine X0.ldc2Long hx hown (mvT hZ (hw _ (List.mem_of_getElem? (i := 0) rfl))) (g := (mkF m 6 #[.val (.int p0), .val (.long p1), .second, .val (.int p2), .val (.int p3), .val (.int p0), .unset, .unset, .unset, .unset, .unset, .unset, .unset, .unset, .unset, .unset, .unset, .unset, .unset] [(.long p1), (.int p0)])) rfl (hb hby at_6) _ ?_
    show Steps p.tables e below (s₁.setTop (mkF m 9 #[.val (.int p0), .val (.long p1), .second, .val (.int p2), .val (.int p3), .val (.int p0), .unset, .unset, .unset, .unset, .unset, .unset, .unset, .unset, .unset, .unset, .unset, .unset, .unset] [(.long (3 : Int64)), (.long p1), (.int p0)])) _
    refine XS.land X0.here hx rfl (hb hby at_9) rfl ?_
    show Steps p.tables e below (s₁.setTop (mkF m 10 #[.val (.int p0), .val (.long p1), .second, .val (.int p2), .val (.int p3), .val (.int p0), .unset, .unset, .unset, .unset, .unset, .unset, .unset, .unset, .unset, .unset, .unset, .unset, .unset] [(.long (p1 &&& (3 : Int64))), (.int p0)])) _
    refine st1 _ ?_
    show Steps p.tables e below (T1.setTop (mkF m 13 #[.val (.int p0), .val (.long p1), .second, .val (.int p2), .val (.int p3), .val (.int p0), .unset, .unset, .unset, .unset, .unset, .unset, .unset, .unset, .unset, .unset, .unset, .unset, .unset] [(.int (F5 p0 (p1 &&& (3 : Int64))))])) _
    refine XS.istore X1.here hx rfl (hb hby at_13) rfl (l' := #[.val (.int p0), .val (.long p1), .second, .val (.int p2), .val (.int p3), .val (.int p0), .val (.int (F5 p0 (p1 &&& (3 : Int64)))), .unset, .unset, .unset, .unset, .unset, .unset, .unset, .unset, .unset, .unset, .unset, .unset]) rfl ?_
    show Steps p.tables e below (T1.setTop (mkF m 15 #[.val (.int p0), .val (.long p1), .second, .val (.int p2), .val (.int p3), .val (.int p0), .val (.int (F5 p0 (p1 &&& (3 : Int64)))), .unset, .unset, .unset, .unset, .unset, .unset, .unset, .unset, .unset, .unset, .unset, .unset] [])) _
    refine XS.iload X1.here hx rfl (hb hby at_15) rfl ?_
    show Steps p.tables e below (T1.setTop (mkF m 17 #[.val (.int p0), .val (.long p1), .second, .val (.int p2), .val (.int p3), .val (.int p0), .val (.int (F5 p0 (p1 &&& (3 : Int64)))), .unset, .unset, .unset, .unset, .unset, .unset, .unset, .unset, .unset, .unset, .unset, .unset] [(.int (F5 p0 (p1 &&& (3 : Int64))))])) _
    refine XS.lloadN X1.here hx rfl (hb hby at_17) rfl ?_
    show Steps p.tables e below (T1.setTop (mkF m 18 #[.val (.int p0), .val (.long p1), .second, .val (.int p2), .val (.int p3), .val (.int p0), .val (.int (F5 p0 (p1 &&& (3 : Int64)))), .unset, .unset, .unset, .unset, .unset, .unset, .unset, .unset, .unset, .unset, .unset, .unset] [(.long p1), (.int (F5 p0 (p1 &&& (3 : Int64))))])) _
    refine XS.iconst X1.here hx rfl (hb hby at_18) ?_
    show Steps p.tables e below (T1.setTop (mkF m 19 #[.val (.int p0), .val (.long p1), .second, .val (.int p2), .val (.int p3), .val (.int p0), .val (.int (F5 p0 (p1 &&& (3 : Int64)))), .unset, .unset, .unset, .unset, .unset, .unset, .unset, .unset, .unset, .unset, .unset, .unset] [(.int (2 : Int32)), (.long p1), (.int (F5 p0 (p1 &&& (3 : Int64))))])) _
    refine XS.lushr X1.here hx rfl (hb hby at_19) rfl ?_
    show Steps p.tables e below (T1.setTop (mkF m 20 #[.val (.int p0), .val (.long p1), .second, .val (.int p2), .val (.int p3), .val (.int p0), .val (.int (F5 p0 (p1 &&& (3 : Int64)))), .unset, .unset, .unset, .unset, .unset, .unset, .unset, .unset, .unset, .unset, .unset, .unset] [(.long (((p1).toUInt64 >>> ((2 : Int32) &&& 0x3f).toInt64.toUInt64).toInt64)), (.int (F5 p0 (p1 &&& (3 : Int64))))])) _
    refine X1.ldc2Long hx hown (mvT hZ (hw _ (List.mem_of_getElem? (i := 0) rfl))) (g := (mkF m 20 #[.val (.int p0), .val (.long p1), .second, .val (.int p2), .val (.int p3), .val (.int p0), .val (.int (F5 p0 (p1 &&& (3 : Int64)))), .unset, .unset, .unset, .unset, .unset, .unset, .unset, .unset, .unset, .unset, .unset, .unset] [(.long (((p1).toUInt64 >>> ((2 : Int32) &&& 0x3f).toInt64.toUInt64).toInt64)), (.int (F5 p0 (p1 &&& (3 : Int64))))])) rfl (hb hby at_20) _ ?_
    show Steps p.tables e below (T1.setTop (mkF m 23 #[.val (.int p0), .val (.long p1), .second, .val (.int p2), .val (.int p3), .val (.int p0), .val (.int (F5 p0 (p1 &&& (3 : Int64)))), .unset, .unset, .unset, .unset, .unset, .unset, .unset, .unset, .unset, .unset, .unset, .unset] [(.long (3 : Int64)), (.long (((p1).toUInt64 >>> ((2 : Int32) &&& 0x3f).toInt64.toUInt64).toInt64)), (.int (F5 p0 (p1 &&& (3 : Int64))))])) _
    refine XS.land X1.here hx rfl (hb hby at_23) rfl ?_
    show Steps p.tables e below (T1.setTop (mkF m 24 #[.val (.int p0), .val (.long p1), .second, .val (.int p2), .val (.int p3), .val (.int p0), .val (.int (F5 p0 (p1 &&& (3 : Int64)))), .unset, .unset, .unset, .unset, .unset, .unset, .unset, .unset, .unset, .unset, .unset, .unset] [(.long ((((p1).toUInt64 >>> ((2 : Int32) &&& 0x3f).toInt64.toUInt64).toInt64) &&& (3 : Int64))), (.int (F5 p0 (p1 &&& (3 : Int64))))])) _
    refine st2 _ ?_
    show Steps p.tables e below (T2.setTop (mkF m 27 #[.val (.int p0), .val (.long p1), .second, .val (.int p2), .val (.int p3), .val (.int p0), .val (.int (F5 p0 (p1 &&& (3 : Int64)))), .unset, .unset, .unset, .unset, .unset, .unset, .unset, .unset, .unset, .unset, .unset, .unset] [(.int (F5 (F5 p0 (p1 &&& (3 : Int64))) ((((p1).toUInt64 >>> ((2 : Int32) &&& 0x3f).toInt64.toUInt64).toInt64) &&& (3 : Int64))))])) _
    rw [← h_i3]
    show Steps p.tables e below (T2.setTop (mkF m 27 #[.val (.int p0), .val (.long p1), .second, .val (.int p2), .val (.int p3), .val (.int p0), .val (.int (F5 p0 (p1 &&& (3 : Int64)))), .unset, .unset, .unset, .unset, .unset, .unset, .unset, .unset, .unset, .unset, .unset, .unset] [(.int i3)])) _
    refine XS.istore X2.here hx rfl (hb hby at_27) rfl (l' := #[.val (.int p0), .val (.long p1), .second, .val (.int p2), .val (.int p3), .val (.int p0), .val (.int (F5 p0 (p1 &&& (3 : Int64)))), .val (.int i3), .unset, .unset, .unset, .unset, .unset, .unset, .unset, .unset, .unset, .unset, .unset]) rfl ?_
    show Steps p.tables e below (T2.setTop (mkF m 29 #[.val (.int p0), .val (.long p1), .second, .val (.int p2), .val (.int p3), .val (.int p0), .val (.int (F5 p0 (p1 &&& (3 : Int64)))), .val (.int i3), .unset, .unset, .unset, .unset, .unset, .unset, .unset, .unset, .unset, .unset, .unset] [])) _
    refine XS.iload X2.here hx rfl (hb hby at_29) rfl ?_
    show Steps p.tables e below (T2.setTop (mkF m 31 #[.val (.int p0), .val (.long p1), .second, .val (.int p2), .val (.int p3), .val (.int p0), .val (.int (F5 p0 (p1 &&& (3 : Int64)))), .val (.int i3), .unset, .unset, .unset, .unset, .unset, .unset, .unset, .unset, .unset, .unset, .unset] [(.int i3)])) _
    refine XS.lloadN X2.here hx rfl (hb hby at_31) rfl ?_
    show Steps p.tables e below (T2.setTop (mkF m 32 #[.val (.int p0), .val (.long p1), .second, .val (.int p2), .val (.int p3), .val (.int p0), .val (.int (F5 p0 (p1 &&& (3 : Int64)))), .val (.int i3), .unset, .unset, .unset, .unset, .unset, .unset, .unset, .unset, .unset, .unset, .unset] [(.long p1), (.int i3)])) _
    refine XS.iconst X2.here hx rfl (hb hby at_32) ?_
    show Steps p.tables e below (T2.setTop (mkF m 33 #[.val (.int p0), .val (.long p1), .second, .val (.int p2), .val (.int p3), .val (.int p0), .val (.int (F5 p0 (p1 &&& (3 : Int64)))), .val (.int i3), .unset, .unset, .unset, .unset, .unset, .unset, .unset, .unset, .unset, .unset, .unset] [(.int (4 : Int32)), (.long p1), (.int i3)])) _
    refine XS.lushr X2.here hx rfl (hb hby at_33) rfl ?_
    show Steps p.tables e below (T2.setTop (mkF m 34 #[.val (.int p0), .val (.long p1), .second, .val (.int p2), .val (.int p3), .val (.int p0), .val (.int (F5 p0 (p1 &&& (3 : Int64)))), .val (.int i3), .unset, .unset, .unset, .unset, .unset, .unset, .unset, .unset, .unset, .unset, .unset] [(.long (((p1).toUInt64 >>> ((4 : Int32) &&& 0x3f).toInt64.toUInt64).toInt64)), (.int i3)])) _
    refine X2.ldc2Long hx hown (mvT hZ (hw _ (List.mem_of_getElem? (i := 0) rfl))) (g := (mkF m 34 #[.val (.int p0), .val (.long p1), .second, .val (.int p2), .val (.int p3), .val (.int p0), .val (.int (F5 p0 (p1 &&& (3 : Int64)))), .val (.int i3), .unset, .unset, .unset, .unset, .unset, .unset, .unset, .unset, .unset, .unset, .unset] [(.long (((p1).toUInt64 >>> ((4 : Int32) &&& 0x3f).toInt64.toUInt64).toInt64)), (.int i3)])) rfl (hb hby at_34) _ ?_
    show Steps p.tables e below (T2.setTop (mkF m 37 #[.val (.int p0), .val (.long p1), .second, .val (.int p2), .val (.int p3), .val (.int p0), .val (.int (F5 p0 (p1 &&& (3 : Int64)))), .val (.int i3), .unset, .unset, .unset, .unset, .unset, .unset, .unset, .unset, .unset, .unset, .unset] [(.long (3 : Int64)), (.long (((p1).toUInt64 >>> ((4 : Int32) &&& 0x3f).toInt64.toUInt64).toInt64)), (.int i3)])) _
    refine XS.land X2.here hx rfl (hb hby at_37) rfl ?_
    show Steps p.tables e below (T2.setTop (mkF m 38 #[.val (.int p0), .val (.long p1), .second, .val (.int p2), .val (.int p3), .val (.int p0), .val (.int (F5 p0 (p1 &&& (3 : Int64)))), .val (.int i3), .unset, .unset, .unset, .unset, .unset, .unset, .unset, .unset, .unset, .unset, .unset] [(.long ((((p1).toUInt64 >>> ((4 : Int32) &&& 0x3f).toInt64.toUInt64).toInt64) &&& (3 : Int64))), (.int i3)])) _
    refine st4 _ ?_
    show Steps p.tables e below (T4.setTop (mkF m 41 #[.val (.int p0), .val (.long p1), .second, .val (.int p2), .val (.int p3), .val (.int p0), .val (.int (F5 p0 (p1 &&& (3 : Int64)))), .val (.int i3), .unset, .unset, .unset, .unset, .unset, .unset, .unset, .unset, .unset, .unset, .unset] [(.int (F5 i3 ((((p1).toUInt64 >>> ((4 : Int32) &&& 0x3f).toInt64.toUInt64).toInt64) &&& (3 : Int64))))])) _
    rw [← h_i5]
    show Steps p.tables e below (T4.setTop (mkF m 41 #[.val (.int p0), .val (.long p1), .second, .val (.int p2), .val (.int p3), .val (.int p0), .val (.int (F5 p0 (p1 &&& (3 : Int64)))), .val (.int i3), .unset, .unset, .unset, .unset, .unset, .unset, .unset, .unset, .unset, .unset, .unset] [(.int i5)])) _
    refine XS.istore X4.here hx rfl (hb hby at_41) rfl (l' := #[.val (.int p0), .val (.long p1), .second, .val (.int p2), .val (.int p3), .val (.int p0), .val (.int (F5 p0 (p1 &&& (3 : Int64)))), .val (.int i3), .val (.int i5), .unset, .unset, .unset, .unset, .unset, .unset, .unset, .unset, .unset, .unset]) rfl ?_
    show Steps p.tables e below (T4.setTop (mkF m 43 #[.val (.int p0), .val (.long p1), .second, .val (.int p2), .val (.int p3), .val (.int p0), .val (.int (F5 p0 (p1 &&& (3 : Int64)))), .val (.int i3), .val (.int i5), .unset, .unset, .unset, .unset, .unset, .unset, .unset, .unset, .unset, .unset] [])) _
    refine XS.iload X4.here hx rfl (hb hby at_43) rfl ?_
    show Steps p.tables e below (T4.setTop (mkF m 45 #[.val (.int p0), .val (.long p1), .second, .val (.int p2), .val (.int p3), .val (.int p0), .val (.int (F5 p0 (p1 &&& (3 : Int64)))), .val (.int i3), .val (.int i5), .unset, .unset, .unset, .unset, .unset, .unset, .unset, .unset, .unset, .unset] [(.int i5)])) _
    refine XS.lloadN X4.here hx rfl (hb hby at_45) rfl ?_
    show Steps p.tables e below (T4.setTop (mkF m 46 #[.val (.int p0), .val (.long p1), .second, .val (.int p2), .val (.int p3), .val (.int p0), .val (.int (F5 p0 (p1 &&& (3 : Int64)))), .val (.int i3), .val (.int i5), .unset, .unset, .unset, .unset, .unset, .unset, .unset, .unset, .unset, .unset] [(.long p1), (.int i5)])) _
    refine XS.bipush X4.here hx rfl (hb hby at_46) ?_
    show Steps p.tables e below (T4.setTop (mkF m 48 #[.val (.int p0), .val (.long p1), .second, .val (.int p2), .val (.int p3), .val (.int p0), .val (.int (F5 p0 (p1 &&& (3 : Int64)))), .val (.int i3), .val (.int i5), .unset, .unset, .unset, .unset, .unset, .unset, .unset, .unset, .unset, .unset] [(.int (6 : Int32)), (.long p1), (.int i5)])) _
    refine XS.lushr X4.here hx rfl (hb hby at_48) rfl ?_
    show Steps p.tables e below (T4.setTop (mkF m 49 #[.val (.int p0), .val (.long p1), .second, .val (.int p2), .val (.int p3), .val (.int p0), .val (.int (F5 p0 (p1 &&& (3 : Int64)))), .val (.int i3), .val (.int i5), .unset, .unset, .unset, .unset, .unset, .unset, .unset, .unset, .unset, .unset] [(.long (((p1).toUInt64 >>> ((6 : Int32) &&& 0x3f).toInt64.toUInt64).toInt64)), (.int i5)])) _
    exact kk
  obtain ⟨_, _, ⟨T7, L7, k7, n7⟩, -, X7, ⟨Lc7, hQ7, l7, y7, z7⟩, st7⟩ := Jvm.LawKit.callS X4 hx (y := (⟨"org/wayfold/graph/GraphLastAtMostPinLaw", "up", "(IJ)I"⟩ : MethodName)) hown (mvT hZ (hw _ (List.mem_of_getElem? (i := 1) rfl))) (mvT hZ (hw _ (List.mem_of_getElem? (i := 2) rfl))) (mvT hZ (hw _ (List.mem_of_getElem? (i := 3) rfl))) (mvT hZ (hw _ (List.mem_of_getElem? (i := 4) rfl))) (by decide) (backOf (W := 0) (rm5 l Z a0 hw [] i5 ((((p1).toUInt64 >>> ((6 : Int32) &&& 0x3f).toInt64.toUInt64).toInt64) &&& (3 : Int64)) h0 n0 Z0 ) hZ (hw _ (List.mem_of_getElem? (i := 4) rfl)) (hw _ (List.mem_of_getElem? (i := 3) rfl)) (by decide) (by decide)) (g := (mkF m 53 #[.val (.int p0), .val (.long p1), .second, .val (.int p2), .val (.int p3), .val (.int p0), .val (.int (F5 p0 (p1 &&& (3 : Int64)))), .val (.int i3), .val (.int i5), .unset, .unset, .unset, .unset, .unset, .unset, .unset, .unset, .unset, .unset] [(.long ((((p1).toUInt64 >>> ((6 : Int32) &&& 0x3f).toInt64.toUInt64).toInt64) &&& (3 : Int64))), (.int i5)])) rfl (by rw [hml]; rfl) (argsL := [(.int i5), (.long ((((p1).toUInt64 >>> ((6 : Int32) &&& 0x3f).toInt64.toUInt64).toInt64) &&& (3 : Int64)))]) (rest := []) (lenOf pd_1 rfl) rfl (by show 2 * 0 + _ ≤ _; exact Nat.le_of_eq rfl) (hb hby at_53) (fun _ _ => ⟨rfl, e4, (by decide : 0 + 0 ≤ _), (by decide : 0 + 0 ≤ _)⟩)
  dsimp only [Pt.U, Pt.locs, Pt.cells, Pt.slots] at X7 l7 y7 z7 st7 hQ7
  subst l7 y7 z7
  obtain ⟨rfl, Nq7, e7⟩ := hQ7
  have N7 := Fr.app N4 Nq7
  obtain ⟨i8, h_i8⟩ : ∃ z : Int32, z = (F5 i5 ((((p1).toUInt64 >>> ((6 : Int32) &&& 0x3f).toInt64.toUInt64).toInt64) &&& (3 : Int64))) := ⟨_, rfl⟩
  obtain ⟨_, _, ⟨T9, L9, k9, n9⟩, -, X9, ⟨Lc9, hQ9, l9, y9, z9⟩, st9⟩ := Jvm.LawKit.callS X7 hx (y := (⟨"org/wayfold/graph/GraphLastAtMostPinLaw", "up", "(IJ)I"⟩ : MethodName)) hown (mvT hZ (hw _ (List.mem_of_getElem? (i := 1) rfl))) (mvT hZ (hw _ (List.mem_of_getElem? (i := 2) rfl))) (mvT hZ (hw _ (List.mem_of_getElem? (i := 3) rfl))) (mvT hZ (hw _ (List.mem_of_getElem? (i := 4) rfl))) (by decide) (backOf (W := 0) (rm5 l Z a0 hw [] i8 ((((p1).toUInt64 >>> ((8 : Int32) &&& 0x3f).toInt64.toUInt64).toInt64) &&& (3 : Int64)) h0 n0 Z0 ) hZ (hw _ (List.mem_of_getElem? (i := 4) rfl)) (hw _ (List.mem_of_getElem? (i := 3) rfl)) (by decide) (by decide)) (g := (mkF m 68 #[.val (.int p0), .val (.long p1), .second, .val (.int p2), .val (.int p3), .val (.int p0), .val (.int (F5 p0 (p1 &&& (3 : Int64)))), .val (.int i3), .val (.int i5), .val (.int i8), .unset, .unset, .unset, .unset, .unset, .unset, .unset, .unset, .unset] [(.long ((((p1).toUInt64 >>> ((8 : Int32) &&& 0x3f).toInt64.toUInt64).toInt64) &&& (3 : Int64))), (.int i8)])) rfl (by rw [hml]; rfl) (argsL := [(.int i8), (.long ((((p1).toUInt64 >>> ((8 : Int32) &&& 0x3f).toInt64.toUInt64).toInt64) &&& (3 : Int64)))]) (rest := []) (lenOf pd_1 rfl) rfl (by show 2 * 0 + _ ≤ _; exact Nat.le_of_eq rfl) (hb hby at_68) (fun _ _ => ⟨rfl, e7, (by decide : 0 + 0 ≤ _), (by decide : 0 + 0 ≤ _)⟩)
  dsimp only [Pt.U, Pt.locs, Pt.cells, Pt.slots] at X9 l9 y9 z9 st9 hQ9
  subst l9 y9 z9
  obtain ⟨rfl, Nq9, e9⟩ := hQ9
  have N9 := Fr.app N7 Nq9
  obtain ⟨i10, h_i10⟩ : ∃ z : Int32, z = (F5 i8 ((((p1).toUInt64 >>> ((8 : Int32) &&& 0x3f).toInt64.toUInt64).toInt64) &&& (3 : Int64))) := ⟨_, rfl⟩
  obtain ⟨T11, h11, k11, X11, e11, E11, A11, st11⟩ := newP X9 hx hZ (hw _ (List.mem_of_getElem? (i := 10) rfl)) e9 (g := (mkF m 75 #[.val (.int p0), .val (.long p1), .second, .val (.int p2), .val (.int p3), .val (.int p0), .val (.int (F5 p0 (p1 &&& (3 : Int64)))), .val (.int i3), .val (.int i5), .val (.int i8), .val (.int i10), .unset, .unset, .unset, .unset, .unset, .unset, .unset, .unset] [(.int (6 : Int32))])) rfl (hb hby at_75) rfl (by decide) (cap := 6) (by decide) (by decide) (by decide) (by decide)
  obtain ⟨b11, g_b11⟩ : ∃ z, z = h0.size := ⟨_, rfl⟩
  rw [← g_b11] at A11 st11
  have ge_b11 : n0 ≤ b11 := Nat.le_trans Z0 (Nat.le_of_eq g_b11.symm)
  have sz_b11 : h0.size ≤ b11 := Nat.le_trans (Keep.refl h0 []).1 (Nat.le_of_eq g_b11.symm)
  have V11 : Arv Z h11 b11 k11 .int (6 : Int32) [(.int (0 : Int32)), (.int (0 : Int32)), (.int (0 : Int32)), (.int (0 : Int32)), (.int (0 : Int32)), (.int (0 : Int32))] (.int (0 : Int32)) := (Arv.new A11 (by decide)).pad (pad_rep [] (.int (0 : Int32)) 6)
  obtain ⟨cl_a12, Ar_a12, q_a12, S_a12, N_a12, H_a12, G_a12⟩ := id V11
  have hin_a12 : ¬ ((0 : Int32) < 0 ∨ cl_a12.slots.size ≤ ((0 : Int32)).toNatClampNeg) := inb_of S_a12 ⟨by decide, by decide⟩
  obtain ⟨T13, h13, X13, e13, W13, st13⟩ := stI X11 hx hZ e11 Ar_a12 (j := (0 : Int32)) hin_a12 (g := (mkF m 81 #[.val (.int p0), .val (.long p1), .second, .val (.int p2), .val (.int p3), .val (.int p0), .val (.int (F5 p0 (p1 &&& (3 : Int64)))), .val (.int i3), .val (.int i5), .val (.int i8), .val (.int i10), .unset, .unset, .unset, .unset, .unset, .unset, .unset, .unset] [(.int p0), (.int (0 : Int32)), (.ref b11), (.ref b11)])) rfl rfl (hb hby at_81)
  have V13 : Arv Z h13 b11 k11 .int (6 : Int32) [(.int p0), (.int (0 : Int32)), (.int (0 : Int32)), (.int (0 : Int32)), (.int (0 : Int32)), (.int (0 : Int32))] (.int (0 : Int32)) := Arv.set Ar_a12 q_a12 S_a12 N_a12 H_a12 G_a12 rfl W13 0 rfl (Nat.le_of_ble_eq_true rfl)
  have N13 := Fr.snoc X13 N9 ge_b11
  obtain ⟨cl_a14, Ar_a14, q_a14, S_a14, N_a14, H_a14, G_a14⟩ := id V13
  have hin_a14 : ¬ ((1 : Int32) < 0 ∨ cl_a14.slots.size ≤ ((1 : Int32)).toNatClampNeg) := inb_of S_a14 ⟨by decide, by decide⟩
  obtain ⟨T15, h15, X15, e15, W15, st15⟩ := stI X13 hx hZ e13 Ar_a14 (j := (1 : Int32)) hin_a14 (g := (mkF m 86 #[.val (.int p0), .val (.long p1), .second, .val (.int p2), .val (.int p3), .val (.int p0), .val (.int (F5 p0 (p1 &&& (3 : Int64)))), .val (.int i3), .val (.int i5), .val (.int i8), .val (.int i10), .unset, .unset, .unset, .unset, .unset, .unset, .unset, .unset] [(.int (F5 p0 (p1 &&& (3 : Int64)))), (.int (1 : Int32)), (.ref b11), (.ref b11)])) rfl rfl (hb hby at_86)
  have V15 : Arv Z h15 b11 k11 .int (6 : Int32) [(.int p0), (.int (F5 p0 (p1 &&& (3 : Int64)))), (.int (0 : Int32)), (.int (0 : Int32)), (.int (0 : Int32)), (.int (0 : Int32))] (.int (0 : Int32)) := Arv.set Ar_a14 q_a14 S_a14 N_a14 H_a14 G_a14 rfl W15 1 rfl (Nat.le_of_ble_eq_true rfl)
  have N15 := Fr.snoc X15 N13 ge_b11
  obtain ⟨cl_a16, Ar_a16, q_a16, S_a16, N_a16, H_a16, G_a16⟩ := id V15
  have hin_a16 : ¬ ((2 : Int32) < 0 ∨ cl_a16.slots.size ≤ ((2 : Int32)).toNatClampNeg) := inb_of S_a16 ⟨by decide, by decide⟩
  obtain ⟨T17, h17, X17, e17, W17, st17⟩ := stI X15 hx hZ e15 Ar_a16 (j := (2 : Int32)) hin_a16 (g := (mkF m 91 #[.val (.int p0), .val (.long p1), .second, .val (.int p2), .val (.int p3), .val (.int p0), .val (.int (F5 p0 (p1 &&& (3 : Int64)))), .val (.int i3), .val (.int i5), .val (.int i8), .val (.int i10), .unset, .unset, .unset, .unset, .unset, .unset, .unset, .unset] [(.int i3), (.int (2 : Int32)), (.ref b11), (.ref b11)])) rfl rfl (hb hby at_91)
  have V17 : Arv Z h17 b11 k11 .int (6 : Int32) [(.int p0), (.int (F5 p0 (p1 &&& (3 : Int64)))), (.int i3), (.int (0 : Int32)), (.int (0 : Int32)), (.int (0 : Int32))] (.int (0 : Int32)) := Arv.set Ar_a16 q_a16 S_a16 N_a16 H_a16 G_a16 rfl W17 2 rfl (Nat.le_of_ble_eq_true rfl)
  have N17 := Fr.snoc X17 N15 ge_b11
  have P18 : ∀ t, Steps p.tables e below (T17.setTop (mkF m 94 #[.val (.int p0), .val (.long p1), .second, .val (.int p2), .val (.int p3), .val (.int p0), .val (.int (F5 p0 (p1 &&& (3 : Int64)))), .val (.int i3), .val (.int i5), .val (.int i8), .val (.int i10), .unset, .unset, .unset, .unset, .unset, .unset, .unset, .unset] [(.int (3 : Int32)), (.ref b11), (.ref b11)])) t → Steps p.tables e below (s₁.setTop (entryFrame m #[(.int p0), (.long p1), (.int p2), (.int p3)] maxLocals)) t := by
    intro t kk
    refine P6 _ ?_
    show Steps p.tables e below (T4.setTop (mkF m 49 #[.val (.int p0), .val (.long p1), .second, .val (.int p2), .val (.int p3), .val (.int p0), .val (.int (F5 p0 (p1 &&& (3 : Int64)))), .val (.int i3), .val (.int i5), .unset, .unset, .unset, .unset, .unset, .unset, .unset, .unset, .unset, .unset] [(.long (((p1).toUInt64 >>> ((6 : Int32) &&& 0x3f).toInt64.toUInt64).toInt64)), (.int i5)])) _
    refine X4.ldc2Long hx hown (mvT hZ (hw _ (List.mem_of_getElem? (i := 0) rfl))) (g := (mkF m 49 #[.val (.int p0), .val (.long p1), .second, .val (.int p2), .val (.int p3), .val (.int p0), .val (.int (F5 p0 (p1 &&& (3 : Int64)))), .val (.int i3), .val (.int i5), .unset, .unset, .unset, .unset, .unset, .unset, .unset, .unset, .unset, .unset] [(.long (((p1).toUInt64 >>> ((6 : Int32) &&& 0x3f).toInt64.toUInt64).toInt64)), (.int i5)])) rfl (hb hby at_49) _ ?_
    show Steps p.tables e below (T4.setTop (mkF m 52 #[.val (.int p0), .val (.long p1), .second, .val (.int p2), .val (.int p3), .val (.int p0), .val (.int (F5 p0 (p1 &&& (3 : Int64)))), .val (.int i3), .val (.int i5), .unset, .unset, .unset, .unset, .unset, .unset, .unset, .unset, .unset, .unset] [(.long (3 : Int64)), (.long (((p1).toUInt64 >>> ((6 : Int32) &&& 0x3f).toInt64.toUInt64).toInt64)), (.int i5)])) _
    refine XS.land X4.here hx rfl (hb hby at_52) rfl ?_
    show Steps p.tables e below (T4.setTop (mkF m 53 #[.val (.int p0), .val (.long p1), .second, .val (.int p2), .val (.int p3), .val (.int p0), .val (.int (F5 p0 (p1 &&& (3 : Int64)))), .val (.int i3), .val (.int i5), .unset, .unset, .unset, .unset, .unset, .unset, .unset, .unset, .unset, .unset] [(.long ((((p1).toUInt64 >>> ((6 : Int32) &&& 0x3f).toInt64.toUInt64).toInt64) &&& (3 : Int64))), (.int i5)])) _
    refine st7 _ ?_
    show Steps p.tables e below (T7.setTop (mkF m 56 #[.val (.int p0), .val (.long p1), .second, .val (.int p2), .val (.int p3), .val (.int p0), .val (.int (F5 p0 (p1 &&& (3 : Int64)))), .val (.int i3), .val (.int i5), .unset, .unset, .unset, .unset, .unset, .unset, .unset, .unset, .unset, .unset] [(.int (F5 i5 ((((p1).toUInt64 >>> ((6 : Int32) &&& 0x3f).toInt64.toUInt64).toInt64) &&& (3 : Int64))))])) _
    rw [← h_i8]
    show Steps p.tables e below (T7.setTop (mkF m 56 #[.val (.int p0), .val (.long p1), .second, .val (.int p2), .val (.int p3), .val (.int p0), .val (.int (F5 p0 (p1 &&& (3 : Int64)))), .val (.int i3), .val (.int i5), .unset, .unset, .unset, .unset, .unset, .unset, .unset, .unset, .unset, .unset] [(.int i8)])) _
    refine XS.istore X7.here hx rfl (hb hby at_56) rfl (l' := #[.val (.int p0), .val (.long p1), .second, .val (.int p2), .val (.int p3), .val (.int p0), .val (.int (F5 p0 (p1 &&& (3 : Int64)))), .val (.int i3), .val (.int i5), .val (.int i8), .unset, .unset, .unset, .unset, .unset, .unset, .unset, .unset, .unset]) rfl ?_
    show Steps p.tables e below (T7.setTop (mkF m 58 #[.val (.int p0), .val (.long p1), .second, .val (.int p2), .val (.int p3), .val (.int p0), .val (.int (F5 p0 (p1 &&& (3 : Int64)))), .val (.int i3), .val (.int i5), .val (.int i8), .unset, .unset, .unset, .unset, .unset, .unset, .unset, .unset, .unset] [])) _
    refine XS.iload X7.here hx rfl (hb hby at_58) rfl ?_
    show Steps p.tables e below (T7.setTop (mkF m 60 #[.val (.int p0), .val (.long p1), .second, .val (.int p2), .val (.int p3), .val (.int p0), .val (.int (F5 p0 (p1 &&& (3 : Int64)))), .val (.int i3), .val (.int i5), .val (.int i8), .unset, .unset, .unset, .unset, .unset, .unset, .unset, .unset, .unset] [(.int i8)])) _
    refine XS.lloadN X7.here hx rfl (hb hby at_60) rfl ?_
    show Steps p.tables e below (T7.setTop (mkF m 61 #[.val (.int p0), .val (.long p1), .second, .val (.int p2), .val (.int p3), .val (.int p0), .val (.int (F5 p0 (p1 &&& (3 : Int64)))), .val (.int i3), .val (.int i5), .val (.int i8), .unset, .unset, .unset, .unset, .unset, .unset, .unset, .unset, .unset] [(.long p1), (.int i8)])) _
    refine XS.bipush X7.here hx rfl (hb hby at_61) ?_
    show Steps p.tables e below (T7.setTop (mkF m 63 #[.val (.int p0), .val (.long p1), .second, .val (.int p2), .val (.int p3), .val (.int p0), .val (.int (F5 p0 (p1 &&& (3 : Int64)))), .val (.int i3), .val (.int i5), .val (.int i8), .unset, .unset, .unset, .unset, .unset, .unset, .unset, .unset, .unset] [(.int (8 : Int32)), (.long p1), (.int i8)])) _
    refine XS.lushr X7.here hx rfl (hb hby at_63) rfl ?_
    show Steps p.tables e below (T7.setTop (mkF m 64 #[.val (.int p0), .val (.long p1), .second, .val (.int p2), .val (.int p3), .val (.int p0), .val (.int (F5 p0 (p1 &&& (3 : Int64)))), .val (.int i3), .val (.int i5), .val (.int i8), .unset, .unset, .unset, .unset, .unset, .unset, .unset, .unset, .unset] [(.long (((p1).toUInt64 >>> ((8 : Int32) &&& 0x3f).toInt64.toUInt64).toInt64)), (.int i8)])) _
    refine X7.ldc2Long hx hown (mvT hZ (hw _ (List.mem_of_getElem? (i := 0) rfl))) (g := (mkF m 64 #[.val (.int p0), .val (.long p1), .second, .val (.int p2), .val (.int p3), .val (.int p0), .val (.int (F5 p0 (p1 &&& (3 : Int64)))), .val (.int i3), .val (.int i5), .val (.int i8), .unset, .unset, .unset, .unset, .unset, .unset, .unset, .unset, .unset] [(.long (((p1).toUInt64 >>> ((8 : Int32) &&& 0x3f).toInt64.toUInt64).toInt64)), (.int i8)])) rfl (hb hby at_64) _ ?_
    show Steps p.tables e below (T7.setTop (mkF m 67 #[.val (.int p0), .val (.long p1), .second, .val (.int p2), .val (.int p3), .val (.int p0), .val (.int (F5 p0 (p1 &&& (3 : Int64)))), .val (.int i3), .val (.int i5), .val (.int i8), .unset, .unset, .unset, .unset, .unset, .unset, .unset, .unset, .unset] [(.long (3 : Int64)), (.long (((p1).toUInt64 >>> ((8 : Int32) &&& 0x3f).toInt64.toUInt64).toInt64)), (.int i8)])) _
    refine XS.land X7.here hx rfl (hb hby at_67) rfl ?_
    show Steps p.tables e below (T7.setTop (mkF m 68 #[.val (.int p0), .val (.long p1), .second, .val (.int p2), .val (.int p3), .val (.int p0), .val (.int (F5 p0 (p1 &&& (3 : Int64)))), .val (.int i3), .val (.int i5), .val (.int i8), .unset, .unset, .unset, .unset, .unset, .unset, .unset, .unset, .unset] [(.long ((((p1).toUInt64 >>> ((8 : Int32) &&& 0x3f).toInt64.toUInt64).toInt64) &&& (3 : Int64))), (.int i8)])) _
    refine st9 _ ?_
    show Steps p.tables e below (T9.setTop (mkF m 71 #[.val (.int p0), .val (.long p1), .second, .val (.int p2), .val (.int p3), .val (.int p0), .val (.int (F5 p0 (p1 &&& (3 : Int64)))), .val (.int i3), .val (.int i5), .val (.int i8), .unset, .unset, .unset, .unset, .unset, .unset, .unset, .unset, .unset] [(.int (F5 i8 ((((p1).toUInt64 >>> ((8 : Int32) &&& 0x3f).toInt64.toUInt64).toInt64) &&& (3 : Int64))))])) _
    rw [← h_i10]
    show Steps p.tables e below (T9.setTop (mkF m 71 #[.val (.int p0), .val (.long p1), .second, .val (.int p2), .val (.int p3), .val (.int p0), .val (.int (F5 p0 (p1 &&& (3 : Int64)))), .val (.int i3), .val (.int i5), .val (.int i8), .unset, .unset, .unset, .unset, .unset, .unset, .unset, .unset, .unset] [(.int i10)])) _
    refine XS.istore X9.here hx rfl (hb hby at_71) rfl (l' := #[.val (.int p0), .val (.long p1), .second, .val (.int p2), .val (.int p3), .val (.int p0), .val (.int (F5 p0 (p1 &&& (3 : Int64)))), .val (.int i3), .val (.int i5), .val (.int i8), .val (.int i10), .unset, .unset, .unset, .unset, .unset, .unset, .unset, .unset]) rfl ?_
    show Steps p.tables e below (T9.setTop (mkF m 73 #[.val (.int p0), .val (.long p1), .second, .val (.int p2), .val (.int p3), .val (.int p0), .val (.int (F5 p0 (p1 &&& (3 : Int64)))), .val (.int i3), .val (.int i5), .val (.int i8), .val (.int i10), .unset, .unset, .unset, .unset, .unset, .unset, .unset, .unset] [])) _
    refine XS.bipush X9.here hx rfl (hb hby at_73) ?_
    show Steps p.tables e below (T9.setTop (mkF m 75 #[.val (.int p0), .val (.long p1), .second, .val (.int p2), .val (.int p3), .val (.int p0), .val (.int (F5 p0 (p1 &&& (3 : Int64)))), .val (.int i3), .val (.int i5), .val (.int i8), .val (.int i10), .unset, .unset, .unset, .unset, .unset, .unset, .unset, .unset] [(.int (6 : Int32))])) _
    refine st11 _ ?_
    show Steps p.tables e below (T11.setTop (mkF m 77 #[.val (.int p0), .val (.long p1), .second, .val (.int p2), .val (.int p3), .val (.int p0), .val (.int (F5 p0 (p1 &&& (3 : Int64)))), .val (.int i3), .val (.int i5), .val (.int i8), .val (.int i10), .unset, .unset, .unset, .unset, .unset, .unset, .unset, .unset] [(.ref b11)])) _
    refine XS.dup X11.here hx rfl (hb hby at_77) rfl rfl ?_
    show Steps p.tables e below (T11.setTop (mkF m 78 #[.val (.int p0), .val (.long p1), .second, .val (.int p2), .val (.int p3), .val (.int p0), .val (.int (F5 p0 (p1 &&& (3 : Int64)))), .val (.int i3), .val (.int i5), .val (.int i8), .val (.int i10), .unset, .unset, .unset, .unset, .unset, .unset, .unset, .unset] [(.ref b11), (.ref b11)])) _
    refine XS.iconst X11.here hx rfl (hb hby at_78) ?_
    show Steps p.tables e below (T11.setTop (mkF m 79 #[.val (.int p0), .val (.long p1), .second, .val (.int p2), .val (.int p3), .val (.int p0), .val (.int (F5 p0 (p1 &&& (3 : Int64)))), .val (.int i3), .val (.int i5), .val (.int i8), .val (.int i10), .unset, .unset, .unset, .unset, .unset, .unset, .unset, .unset] [(.int (0 : Int32)), (.ref b11), (.ref b11)])) _
    refine XS.iload X11.here hx rfl (hb hby at_79) rfl ?_
    show Steps p.tables e below (T11.setTop (mkF m 81 #[.val (.int p0), .val (.long p1), .second, .val (.int p2), .val (.int p3), .val (.int p0), .val (.int (F5 p0 (p1 &&& (3 : Int64)))), .val (.int i3), .val (.int i5), .val (.int i8), .val (.int i10), .unset, .unset, .unset, .unset, .unset, .unset, .unset, .unset] [(.int p0), (.int (0 : Int32)), (.ref b11), (.ref b11)])) _
    refine st13 _ ?_
    show Steps p.tables e below (T13.setTop (mkF m 82 #[.val (.int p0), .val (.long p1), .second, .val (.int p2), .val (.int p3), .val (.int p0), .val (.int (F5 p0 (p1 &&& (3 : Int64)))), .val (.int i3), .val (.int i5), .val (.int i8), .val (.int i10), .unset, .unset, .unset, .unset, .unset, .unset, .unset, .unset] [(.ref b11)])) _
    refine XS.dup X13.here hx rfl (hb hby at_82) rfl rfl ?_
    show Steps p.tables e below (T13.setTop (mkF m 83 #[.val (.int p0), .val (.long p1), .second, .val (.int p2), .val (.int p3), .val (.int p0), .val (.int (F5 p0 (p1 &&& (3 : Int64)))), .val (.int i3), .val (.int i5), .val (.int i8), .val (.int i10), .unset, .unset, .unset, .unset, .unset, .unset, .unset, .unset] [(.ref b11), (.ref b11)])) _
    refine XS.iconst X13.here hx rfl (hb hby at_83) ?_
    show Steps p.tables e below (T13.setTop (mkF m 84 #[.val (.int p0), .val (.long p1), .second, .val (.int p2), .val (.int p3), .val (.int p0), .val (.int (F5 p0 (p1 &&& (3 : Int64)))), .val (.int i3), .val (.int i5), .val (.int i8), .val (.int i10), .unset, .unset, .unset, .unset, .unset, .unset, .unset, .unset] [(.int (1 : Int32)), (.ref b11), (.ref b11)])) _
    refine XS.iload X13.here hx rfl (hb hby at_84) rfl ?_
    show Steps p.tables e below (T13.setTop (mkF m 86 #[.val (.int p0), .val (.long p1), .second, .val (.int p2), .val (.int p3), .val (.int p0), .val (.int (F5 p0 (p1 &&& (3 : Int64)))), .val (.int i3), .val (.int i5), .val (.int i8), .val (.int i10), .unset, .unset, .unset, .unset, .unset, .unset, .unset, .unset] [(.int (F5 p0 (p1 &&& (3 : Int64)))), (.int (1 : Int32)), (.ref b11), (.ref b11)])) _
    refine st15 _ ?_
    show Steps p.tables e below (T15.setTop (mkF m 87 #[.val (.int p0), .val (.long p1), .second, .val (.int p2), .val (.int p3), .val (.int p0), .val (.int (F5 p0 (p1 &&& (3 : Int64)))), .val (.int i3), .val (.int i5), .val (.int i8), .val (.int i10), .unset, .unset, .unset, .unset, .unset, .unset, .unset, .unset] [(.ref b11)])) _
    refine XS.dup X15.here hx rfl (hb hby at_87) rfl rfl ?_
    show Steps p.tables e below (T15.setTop (mkF m 88 #[.val (.int p0), .val (.long p1), .second, .val (.int p2), .val (.int p3), .val (.int p0), .val (.int (F5 p0 (p1 &&& (3 : Int64)))), .val (.int i3), .val (.int i5), .val (.int i8), .val (.int i10), .unset, .unset, .unset, .unset, .unset, .unset, .unset, .unset] [(.ref b11), (.ref b11)])) _
    refine XS.iconst X15.here hx rfl (hb hby at_88) ?_
    show Steps p.tables e below (T15.setTop (mkF m 89 #[.val (.int p0), .val (.long p1), .second, .val (.int p2), .val (.int p3), .val (.int p0), .val (.int (F5 p0 (p1 &&& (3 : Int64)))), .val (.int i3), .val (.int i5), .val (.int i8), .val (.int i10), .unset, .unset, .unset, .unset, .unset, .unset, .unset, .unset] [(.int (2 : Int32)), (.ref b11), (.ref b11)])) _
    refine XS.iload X15.here hx rfl (hb hby at_89) rfl ?_
    show Steps p.tables e below (T15.setTop (mkF m 91 #[.val (.int p0), .val (.long p1), .second, .val (.int p2), .val (.int p3), .val (.int p0), .val (.int (F5 p0 (p1 &&& (3 : Int64)))), .val (.int i3), .val (.int i5), .val (.int i8), .val (.int i10), .unset, .unset, .unset, .unset, .unset, .unset, .unset, .unset] [(.int i3), (.int (2 : Int32)), (.ref b11), (.ref b11)])) _
    refine st17 _ ?_
    show Steps p.tables e below (T17.setTop (mkF m 92 #[.val (.int p0), .val (.long p1), .second, .val (.int p2), .val (.int p3), .val (.int p0), .val (.int (F5 p0 (p1 &&& (3 : Int64)))), .val (.int i3), .val (.int i5), .val (.int i8), .val (.int i10), .unset, .unset, .unset, .unset, .unset, .unset, .unset, .unset] [(.ref b11)])) _
    refine XS.dup X17.here hx rfl (hb hby at_92) rfl rfl ?_
    show Steps p.tables e below (T17.setTop (mkF m 93 #[.val (.int p0), .val (.long p1), .second, .val (.int p2), .val (.int p3), .val (.int p0), .val (.int (F5 p0 (p1 &&& (3 : Int64)))), .val (.int i3), .val (.int i5), .val (.int i8), .val (.int i10), .unset, .unset, .unset, .unset, .unset, .unset, .unset, .unset] [(.ref b11), (.ref b11)])) _
    refine XS.iconst X17.here hx rfl (hb hby at_93) ?_
    show Steps p.tables e below (T17.setTop (mkF m 94 #[.val (.int p0), .val (.long p1), .second, .val (.int p2), .val (.int p3), .val (.int p0), .val (.int (F5 p0 (p1 &&& (3 : Int64)))), .val (.int i3), .val (.int i5), .val (.int i8), .val (.int i10), .unset, .unset, .unset, .unset, .unset, .unset, .unset, .unset] [(.int (3 : Int32)), (.ref b11), (.ref b11)])) _
    exact kk
  obtain ⟨cl_a19, Ar_a19, q_a19, S_a19, N_a19, H_a19, G_a19⟩ := id V17
  have hin_a19 : ¬ ((3 : Int32) < 0 ∨ cl_a19.slots.size ≤ ((3 : Int32)).toNatClampNeg) := inb_of S_a19 ⟨by decide, by decide⟩
  obtain ⟨T20, h20, X20, e20, W20, st20⟩ := stI X17 hx hZ e17 Ar_a19 (j := (3 : Int32)) hin_a19 (g := (mkF m 96 #[.val (.int p0), .val (.long p1), .second, .val (.int p2), .val (.int p3), .val (.int p0), .val (.int (F5 p0 (p1 &&& (3 : Int64)))), .val (.int i3), .val (.int i5), .val (.int i8), .val (.int i10), .unset, .unset, .unset, .unset, .unset, .unset, .unset, .unset] [(.int i5), (.int (3 : Int32)), (.ref b11), (.ref b11)])) rfl rfl (hb hby at_96)
  have V20 : Arv Z h20 b11 k11 .int (6 : Int32) [(.int p0), (.int (F5 p0 (p1 &&& (3 : Int64)))), (.int i3), (.int i5), (.int (0 : Int32)), (.int (0 : Int32))] (.int (0 : Int32)) := Arv.set Ar_a19 q_a19 S_a19 N_a19 H_a19 G_a19 rfl W20 3 rfl (Nat.le_of_ble_eq_true rfl)
  have N20 := Fr.snoc X20 N17 ge_b11
  obtain ⟨cl_a21, Ar_a21, q_a21, S_a21, N_a21, H_a21, G_a21⟩ := id V20
  have hin_a21 : ¬ ((4 : Int32) < 0 ∨ cl_a21.slots.size ≤ ((4 : Int32)).toNatClampNeg) := inb_of S_a21 ⟨by decide, by decide⟩
  obtain ⟨T22, h22, X22, e22, W22, st22⟩ := stI X20 hx hZ e20 Ar_a21 (j := (4 : Int32)) hin_a21 (g := (mkF m 101 #[.val (.int p0), .val (.long p1), .second, .val (.int p2), .val (.int p3), .val (.int p0), .val (.int (F5 p0 (p1 &&& (3 : Int64)))), .val (.int i3), .val (.int i5), .val (.int i8), .val (.int i10), .unset, .unset, .unset, .unset, .unset, .unset, .unset, .unset] [(.int i8), (.int (4 : Int32)), (.ref b11), (.ref b11)])) rfl rfl (hb hby at_101)
  have V22 : Arv Z h22 b11 k11 .int (6 : Int32) [(.int p0), (.int (F5 p0 (p1 &&& (3 : Int64)))), (.int i3), (.int i5), (.int i8), (.int (0 : Int32))] (.int (0 : Int32)) := Arv.set Ar_a21 q_a21 S_a21 N_a21 H_a21 G_a21 rfl W22 4 rfl (Nat.le_of_ble_eq_true rfl)
  have N22 := Fr.snoc X22 N20 ge_b11
  obtain ⟨cl_a23, Ar_a23, q_a23, S_a23, N_a23, H_a23, G_a23⟩ := id V22
  have hin_a23 : ¬ ((5 : Int32) < 0 ∨ cl_a23.slots.size ≤ ((5 : Int32)).toNatClampNeg) := inb_of S_a23 ⟨by decide, by decide⟩
  obtain ⟨T24, h24, X24, e24, W24, st24⟩ := stI X22 hx hZ e22 Ar_a23 (j := (5 : Int32)) hin_a23 (g := (mkF m 106 #[.val (.int p0), .val (.long p1), .second, .val (.int p2), .val (.int p3), .val (.int p0), .val (.int (F5 p0 (p1 &&& (3 : Int64)))), .val (.int i3), .val (.int i5), .val (.int i8), .val (.int i10), .unset, .unset, .unset, .unset, .unset, .unset, .unset, .unset] [(.int i10), (.int (5 : Int32)), (.ref b11), (.ref b11)])) rfl rfl (hb hby at_106)
  have V24 : Arv Z h24 b11 k11 .int (6 : Int32) [(.int p0), (.int (F5 p0 (p1 &&& (3 : Int64)))), (.int i3), (.int i5), (.int i8), (.int i10)] (.int (0 : Int32)) := Arv.set Ar_a23 q_a23 S_a23 N_a23 H_a23 G_a23 rfl W24 5 rfl (Nat.le_of_ble_eq_true rfl)
  have N24 := Fr.snoc X24 N22 ge_b11
  have P25 : ∀ t, Steps p.tables e below (T24.setTop (mkF m 113 #[.val (.int p0), .val (.long p1), .second, .val (.int p2), .val (.int p3), .val (.int p0), .val (.int (F5 p0 (p1 &&& (3 : Int64)))), .val (.int i3), .val (.int i5), .val (.int i8), .val (.int i10), .val (.ref b11), .unset, .unset, .unset, .unset, .unset, .unset, .unset] [(.int (p3 &&& (1 : Int32)))])) t → Steps p.tables e below (s₁.setTop (entryFrame m #[(.int p0), (.long p1), (.int p2), (.int p3)] maxLocals)) t := by
    intro t kk
    refine P18 _ ?_
    show Steps p.tables e below (T17.setTop (mkF m 94 #[.val (.int p0), .val (.long p1), .second, .val (.int p2), .val (.int p3), .val (.int p0), .val (.int (F5 p0 (p1 &&& (3 : Int64)))), .val (.int i3), .val (.int i5), .val (.int i8), .val (.int i10), .unset, .unset, .unset, .unset, .unset, .unset, .unset, .unset] [(.int (3 : Int32)), (.ref b11), (.ref b11)])) _
    refine XS.iload X17.here hx rfl (hb hby at_94) rfl ?_
    show Steps p.tables e below (T17.setTop (mkF m 96 #[.val (.int p0), .val (.long p1), .second, .val (.int p2), .val (.int p3), .val (.int p0), .val (.int (F5 p0 (p1 &&& (3 : Int64)))), .val (.int i3), .val (.int i5), .val (.int i8), .val (.int i10), .unset, .unset, .unset, .unset, .unset, .unset, .unset, .unset] [(.int i5), (.int (3 : Int32)), (.ref b11), (.ref b11)])) _
    refine st20 _ ?_
    show Steps p.tables e below (T20.setTop (mkF m 97 #[.val (.int p0), .val (.long p1), .second, .val (.int p2), .val (.int p3), .val (.int p0), .val (.int (F5 p0 (p1 &&& (3 : Int64)))), .val (.int i3), .val (.int i5), .val (.int i8), .val (.int i10), .unset, .unset, .unset, .unset, .unset, .unset, .unset, .unset] [(.ref b11)])) _
    refine XS.dup X20.here hx rfl (hb hby at_97) rfl rfl ?_
    show Steps p.tables e below (T20.setTop (mkF m 98 #[.val (.int p0), .val (.long p1), .second, .val (.int p2), .val (.int p3), .val (.int p0), .val (.int (F5 p0 (p1 &&& (3 : Int64)))), .val (.int i3), .val (.int i5), .val (.int i8), .val (.int i10), .unset, .unset, .unset, .unset, .unset, .unset, .unset, .unset] [(.ref b11), (.ref b11)])) _
    refine XS.iconst X20.here hx rfl (hb hby at_98) ?_
    show Steps p.tables e below (T20.setTop (mkF m 99 #[.val (.int p0), .val (.long p1), .second, .val (.int p2), .val (.int p3), .val (.int p0), .val (.int (F5 p0 (p1 &&& (3 : Int64)))), .val (.int i3), .val (.int i5), .val (.int i8), .val (.int i10), .unset, .unset, .unset, .unset, .unset, .unset, .unset, .unset] [(.int (4 : Int32)), (.ref b11), (.ref b11)])) _
    refine XS.iload X20.here hx rfl (hb hby at_99) rfl ?_
    show Steps p.tables e below (T20.setTop (mkF m 101 #[.val (.int p0), .val (.long p1), .second, .val (.int p2), .val (.int p3), .val (.int p0), .val (.int (F5 p0 (p1 &&& (3 : Int64)))), .val (.int i3), .val (.int i5), .val (.int i8), .val (.int i10), .unset, .unset, .unset, .unset, .unset, .unset, .unset, .unset] [(.int i8), (.int (4 : Int32)), (.ref b11), (.ref b11)])) _
    refine st22 _ ?_
    show Steps p.tables e below (T22.setTop (mkF m 102 #[.val (.int p0), .val (.long p1), .second, .val (.int p2), .val (.int p3), .val (.int p0), .val (.int (F5 p0 (p1 &&& (3 : Int64)))), .val (.int i3), .val (.int i5), .val (.int i8), .val (.int i10), .unset, .unset, .unset, .unset, .unset, .unset, .unset, .unset] [(.ref b11)])) _
    refine XS.dup X22.here hx rfl (hb hby at_102) rfl rfl ?_
    show Steps p.tables e below (T22.setTop (mkF m 103 #[.val (.int p0), .val (.long p1), .second, .val (.int p2), .val (.int p3), .val (.int p0), .val (.int (F5 p0 (p1 &&& (3 : Int64)))), .val (.int i3), .val (.int i5), .val (.int i8), .val (.int i10), .unset, .unset, .unset, .unset, .unset, .unset, .unset, .unset] [(.ref b11), (.ref b11)])) _
    refine XS.iconst X22.here hx rfl (hb hby at_103) ?_
    show Steps p.tables e below (T22.setTop (mkF m 104 #[.val (.int p0), .val (.long p1), .second, .val (.int p2), .val (.int p3), .val (.int p0), .val (.int (F5 p0 (p1 &&& (3 : Int64)))), .val (.int i3), .val (.int i5), .val (.int i8), .val (.int i10), .unset, .unset, .unset, .unset, .unset, .unset, .unset, .unset] [(.int (5 : Int32)), (.ref b11), (.ref b11)])) _
    refine XS.iload X22.here hx rfl (hb hby at_104) rfl ?_
    show Steps p.tables e below (T22.setTop (mkF m 106 #[.val (.int p0), .val (.long p1), .second, .val (.int p2), .val (.int p3), .val (.int p0), .val (.int (F5 p0 (p1 &&& (3 : Int64)))), .val (.int i3), .val (.int i5), .val (.int i8), .val (.int i10), .unset, .unset, .unset, .unset, .unset, .unset, .unset, .unset] [(.int i10), (.int (5 : Int32)), (.ref b11), (.ref b11)])) _
    refine st24 _ ?_
    show Steps p.tables e below (T24.setTop (mkF m 107 #[.val (.int p0), .val (.long p1), .second, .val (.int p2), .val (.int p3), .val (.int p0), .val (.int (F5 p0 (p1 &&& (3 : Int64)))), .val (.int i3), .val (.int i5), .val (.int i8), .val (.int i10), .unset, .unset, .unset, .unset, .unset, .unset, .unset, .unset] [(.ref b11)])) _
    refine XS.astore X24.here hx rfl (hb hby at_107) rfl rfl (l' := #[.val (.int p0), .val (.long p1), .second, .val (.int p2), .val (.int p3), .val (.int p0), .val (.int (F5 p0 (p1 &&& (3 : Int64)))), .val (.int i3), .val (.int i5), .val (.int i8), .val (.int i10), .val (.ref b11), .unset, .unset, .unset, .unset, .unset, .unset, .unset]) rfl ?_
    show Steps p.tables e below (T24.setTop (mkF m 109 #[.val (.int p0), .val (.long p1), .second, .val (.int p2), .val (.int p3), .val (.int p0), .val (.int (F5 p0 (p1 &&& (3 : Int64)))), .val (.int i3), .val (.int i5), .val (.int i8), .val (.int i10), .val (.ref b11), .unset, .unset, .unset, .unset, .unset, .unset, .unset] [])) _
    refine XS.iload X24.here hx rfl (hb hby at_109) rfl ?_
    show Steps p.tables e below (T24.setTop (mkF m 111 #[.val (.int p0), .val (.long p1), .second, .val (.int p2), .val (.int p3), .val (.int p0), .val (.int (F5 p0 (p1 &&& (3 : Int64)))), .val (.int i3), .val (.int i5), .val (.int i8), .val (.int i10), .val (.ref b11), .unset, .unset, .unset, .unset, .unset, .unset, .unset] [(.int p3)])) _
    refine XS.iconst X24.here hx rfl (hb hby at_111) ?_
    show Steps p.tables e below (T24.setTop (mkF m 112 #[.val (.int p0), .val (.long p1), .second, .val (.int p2), .val (.int p3), .val (.int p0), .val (.int (F5 p0 (p1 &&& (3 : Int64)))), .val (.int i3), .val (.int i5), .val (.int i8), .val (.int i10), .val (.ref b11), .unset, .unset, .unset, .unset, .unset, .unset, .unset] [(.int (1 : Int32)), (.int p3)])) _
    refine XS.iand X24.here hx rfl (hb hby at_112) rfl ?_
    show Steps p.tables e below (T24.setTop (mkF m 113 #[.val (.int p0), .val (.long p1), .second, .val (.int p2), .val (.int p3), .val (.int p0), .val (.int (F5 p0 (p1 &&& (3 : Int64)))), .val (.int i3), .val (.int i5), .val (.int i8), .val (.int i10), .val (.ref b11), .unset, .unset, .unset, .unset, .unset, .unset, .unset] [(.int (p3 &&& (1 : Int32)))])) _
    exact kk
  obtain ⟨i26, h_i26, P27⟩ : ∃ (i26 : Int32), i26 = (if (p3 &&& (1 : Int32)) = (0 : Int32) then (0 : Int32) else (1 : Int32)) ∧ ∀ t, Steps p.tables e below (T24.setTop (mkF m 121 #[.val (.int p0), .val (.long p1), .second, .val (.int p2), .val (.int p3), .val (.int p0), .val (.int (F5 p0 (p1 &&& (3 : Int64)))), .val (.int i3), .val (.int i5), .val (.int i8), .val (.int i10), .val (.ref b11), .unset, .unset, .unset, .unset, .unset, .unset, .unset] [(.int i26)])) t → Steps p.tables e below (s₁.setTop (entryFrame m #[(.int p0), (.long p1), (.int p2), (.int p3)] maxLocals)) t := by
    by_cases c28 : (p3 &&& (1 : Int32)) = (0 : Int32)
    · skip
      refine ⟨(0 : Int32), ((if_pos c28).trans rfl).symm, fun t kk => P25 t ?_⟩
      show Steps p.tables e below (T24.setTop (mkF m 113 #[.val (.int p0), .val (.long p1), .second, .val (.int p2), .val (.int p3), .val (.int p0), .val (.int (F5 p0 (p1 &&& (3 : Int64)))), .val (.int i3), .val (.int i5), .val (.int i8), .val (.int i10), .val (.ref b11), .unset, .unset, .unset, .unset, .unset, .unset, .unset] [(.int (p3 &&& (1 : Int32)))])) _
      refine XS.ifYes X24.here hx rfl (pc0 := 113) (pc' := 120) rfl (hb hby at_113) rfl (XT.i0_eq_t c28) (by decide) (by decide) ?_
      show Steps p.tables e below (T24.setTop (mkF m 120 #[.val (.int p0), .val (.long p1), .second, .val (.int p2), .val (.int p3), .val (.int p0), .val (.int (F5 p0 (p1 &&& (3 : Int64)))), .val (.int i3), .val (.int i5), .val (.int i8), .val (.int i10), .val (.ref b11), .unset, .unset, .unset, .unset, .unset, .unset, .unset] [])) _
      refine XS.iconst X24.here hx rfl (hb hby at_120) ?_
      show Steps p.tables e below (T24.setTop (mkF m 121 #[.val (.int p0), .val (.long p1), .second, .val (.int p2), .val (.int p3), .val (.int p0), .val (.int (F5 p0 (p1 &&& (3 : Int64)))), .val (.int i3), .val (.int i5), .val (.int i8), .val (.int i10), .val (.ref b11), .unset, .unset, .unset, .unset, .unset, .unset, .unset] [(.int (0 : Int32))])) _
      exact kk
    · skip
      refine ⟨(1 : Int32), ((if_neg c28).trans rfl).symm, fun t kk => P25 t ?_⟩
      show Steps p.tables e below (T24.setTop (mkF m 113 #[.val (.int p0), .val (.long p1), .second, .val (.int p2), .val (.int p3), .val (.int p0), .val (.int (F5 p0 (p1 &&& (3 : Int64)))), .val (.int i3), .val (.int i5), .val (.int i8), .val (.int i10), .val (.ref b11), .unset, .unset, .unset, .unset, .unset, .unset, .unset] [(.int (p3 &&& (1 : Int32)))])) _
      refine XS.ifNo X24.here hx rfl (hb hby at_113) rfl (XT.i0_eq_f c28) ?_
      show Steps p.tables e below (T24.setTop (mkF m 116 #[.val (.int p0), .val (.long p1), .second, .val (.int p2), .val (.int p3), .val (.int p0), .val (.int (F5 p0 (p1 &&& (3 : Int64)))), .val (.int i3), .val (.int i5), .val (.int i8), .val (.int i10), .val (.ref b11), .unset, .unset, .unset, .unset, .unset, .unset, .unset] [])) _
      refine XS.iconst X24.here hx rfl (hb hby at_116) ?_
      show Steps p.tables e below (T24.setTop (mkF m 117 #[.val (.int p0), .val (.long p1), .second, .val (.int p2), .val (.int p3), .val (.int p0), .val (.int (F5 p0 (p1 &&& (3 : Int64)))), .val (.int i3), .val (.int i5), .val (.int i8), .val (.int i10), .val (.ref b11), .unset, .unset, .unset, .unset, .unset, .unset, .unset] [(.int (1 : Int32))])) _
      refine XS.goto X24.here hx rfl (pc0 := 117) (pc' := 121) rfl (hb hby at_117) (by decide) (by decide) ?_
      show Steps p.tables e below (T24.setTop (mkF m 121 #[.val (.int p0), .val (.long p1), .second, .val (.int p2), .val (.int p3), .val (.int p0), .val (.int (F5 p0 (p1 &&& (3 : Int64)))), .val (.int i3), .val (.int i5), .val (.int i8), .val (.int i10), .val (.ref b11), .unset, .unset, .unset, .unset, .unset, .unset, .unset] [(.int (1 : Int32))])) _
      exact kk
  have P29 : ∀ t, Steps p.tables e below (T24.setTop (mkF m 125 #[.val (.int p0), .val (.long p1), .second, .val (.int p2), .val (.int p3), .val (.int p0), .val (.int (F5 p0 (p1 &&& (3 : Int64)))), .val (.int i3), .val (.int i5), .val (.int i8), .val (.int i10), .val (.ref b11), .val (.int i26), .unset, .unset, .unset, .unset, .unset, .unset] [(.int i26)])) t → Steps p.tables e below (s₁.setTop (entryFrame m #[(.int p0), (.long p1), (.int p2), (.int p3)] maxLocals)) t := by
    intro t kk
    refine P27 _ ?_
    show Steps p.tables e below (T24.setTop (mkF m 121 #[.val (.int p0), .val (.long p1), .second, .val (.int p2), .val (.int p3), .val (.int p0), .val (.int (F5 p0 (p1 &&& (3 : Int64)))), .val (.int i3), .val (.int i5), .val (.int i8), .val (.int i10), .val (.ref b11), .unset, .unset, .unset, .unset, .unset, .unset, .unset] [(.int i26)])) _
    refine XS.istore X24.here hx rfl (hb hby at_121) rfl (l' := #[.val (.int p0), .val (.long p1), .second, .val (.int p2), .val (.int p3), .val (.int p0), .val (.int (F5 p0 (p1 &&& (3 : Int64)))), .val (.int i3), .val (.int i5), .val (.int i8), .val (.int i10), .val (.ref b11), .val (.int i26), .unset, .unset, .unset, .unset, .unset, .unset]) rfl ?_
    show Steps p.tables e below (T24.setTop (mkF m 123 #[.val (.int p0), .val (.long p1), .second, .val (.int p2), .val (.int p3), .val (.int p0), .val (.int (F5 p0 (p1 &&& (3 : Int64)))), .val (.int i3), .val (.int i5), .val (.int i8), .val (.int i10), .val (.ref b11), .val (.int i26), .unset, .unset, .unset, .unset, .unset, .unset] [])) _
    refine XS.iload X24.here hx rfl (hb hby at_123) rfl ?_
    show Steps p.tables e below (T24.setTop (mkF m 125 #[.val (.int p0), .val (.long p1), .second, .val (.int p2), .val (.int p3), .val (.int p0), .val (.int (F5 p0 (p1 &&& (3 : Int64)))), .val (.int i3), .val (.int i5), .val (.int i8), .val (.int i10), .val (.ref b11), .val (.int i26), .unset, .unset, .unset, .unset, .unset, .unset] [(.int i26)])) _
    exact kk
  by_cases c30 : i26 = (0 : Int32)
  · skip
    have z32 : n0 ≤ _ := (Nat.le_trans (Nat.le_trans (Nat.le_trans (Nat.le_trans (Nat.le_trans (Nat.le_trans (Nat.le_trans Z0 E11.1) (Keep.of_wr W13).1) (Keep.of_wr W15).1) (Keep.of_wr W17).1) (Keep.of_wr W20).1) (Keep.of_wr W22).1) (Keep.of_wr W24).1)
    obtain ⟨_, _, ⟨T31, L31, k31, n31⟩, -, X31, ⟨Lc31, hQ31, l31, y31, z31⟩, st31⟩ := Jvm.LawKit.callS X24 hx (y := (⟨"java/lang/Math", "min", "(JJ)J"⟩ : MethodName)) hown (mvT hZ (hw _ (List.mem_of_getElem? (i := 6) rfl))) (mvT hZ (hw _ (List.mem_of_getElem? (i := 7) rfl))) (mvT hZ (hw _ (List.mem_of_getElem? (i := 8) rfl))) (mvT hZ (hw _ (List.mem_of_getElem? (i := 9) rfl))) (by decide) (backOf (W := 2) (rm1 l Z a0 hw [] (2147483647 : Int64) ((((p0).toInt64) + (((p2 &&& (31 : Int32))).toInt64)) - (4 : Int64)) h24 n0 z32 ) hZ (hw _ (List.mem_of_getElem? (i := 9) rfl)) (hw _ (List.mem_of_getElem? (i := 8) rfl)) (by decide) (by decide)) (g := (mkF m 156 #[.val (.int p0), .val (.long p1), .second, .val (.int p2), .val (.int p3), .val (.int p0), .val (.int (F5 p0 (p1 &&& (3 : Int64)))), .val (.int i3), .val (.int i5), .val (.int i8), .val (.int i10), .val (.ref b11), .val (.int i26), .unset, .val (.long ((((p0).toInt64) + (((p2 &&& (31 : Int32))).toInt64)) - (4 : Int64))), .second, .unset, .unset, .unset] [(.long ((((p0).toInt64) + (((p2 &&& (31 : Int32))).toInt64)) - (4 : Int64))), (.long (2147483647 : Int64)), (.long (-2147483648 : Int64))])) rfl (by rw [hml]; rfl) (argsL := [(.long (2147483647 : Int64)), (.long ((((p0).toInt64) + (((p2 &&& (31 : Int32))).toInt64)) - (4 : Int64)))]) (rest := [(.long (-2147483648 : Int64))]) (lenOf pd_0 rfl) rfl (by show 2 * 0 + _ ≤ _; exact Nat.le_of_eq rfl) (hb hby at_156) (fun _ _ => ⟨rfl, e24, (by decide : 1 + 0 ≤ _), (by decide : 6 + 0 ≤ _)⟩)
    dsimp only [Pt.U, Pt.locs, Pt.cells, Pt.slots] at X31 l31 y31 z31 st31 hQ31
    subst l31 y31 z31
    obtain ⟨rfl, Nq31, e31⟩ := hQ31
    have N31 := Fr.app N24 Nq31
    obtain ⟨_, _, ⟨T33, L33, k33, n33⟩, -, X33, ⟨Lc33, hQ33, l33, y33, z33⟩, st33⟩ := Jvm.LawKit.callS X31 hx (y := (⟨"java/lang/Math", "max", "(JJ)J"⟩ : MethodName)) hown (mvT hZ (hw _ (List.mem_of_getElem? (i := 13) rfl))) (mvT hZ (hw _ (List.mem_of_getElem? (i := 14) rfl))) (mvT hZ (hw _ (List.mem_of_getElem? (i := 8) rfl))) (mvT hZ (hw _ (List.mem_of_getElem? (i := 15) rfl))) (by decide) (backOf (W := 0) (rm2 l Z a0 hw [] (-2147483648 : Int64) (F1 (2147483647 : Int64) ((((p0).toInt64) + (((p2 &&& (31 : Int32))).toInt64)) - (4 : Int64))) h24 n0 z32 ) hZ (hw _ (List.mem_of_getElem? (i := 15) rfl)) (hw _ (List.mem_of_getElem? (i := 8) rfl)) (by decide) (by decide)) (g := (mkF m 159 #[.val (.int p0), .val (.long p1), .second, .val (.int p2), .val (.int p3), .val (.int p0), .val (.int (F5 p0 (p1 &&& (3 : Int64)))), .val (.int i3), .val (.int i5), .val (.int i8), .val (.int i10), .val (.ref b11), .val (.int i26), .unset, .val (.long ((((p0).toInt64) + (((p2 &&& (31 : Int32))).toInt64)) - (4 : Int64))), .second, .unset, .unset, .unset] [(.long (F1 (2147483647 : Int64) ((((p0).toInt64) + (((p2 &&& (31 : Int32))).toInt64)) - (4 : Int64)))), (.long (-2147483648 : Int64))])) rfl (by rw [hml]; rfl) (argsL := [(.long (-2147483648 : Int64)), (.long (F1 (2147483647 : Int64) ((((p0).toInt64) + (((p2 &&& (31 : Int32))).toInt64)) - (4 : Int64))))]) (rest := []) (lenOf pd_0 rfl) rfl (by show 2 * 0 + _ ≤ _; exact Nat.le_of_eq rfl) (hb hby at_159) (fun _ _ => ⟨rfl, e31, (by decide : 1 + 0 ≤ _), (by decide : 6 + 0 ≤ _)⟩)
    dsimp only [Pt.U, Pt.locs, Pt.cells, Pt.slots] at X33 l33 y33 z33 st33 hQ33
    subst l33 y33 z33
    obtain ⟨rfl, Nq33, e33⟩ := hQ33
    have N33 := Fr.app N31 Nq33
    obtain ⟨i34, h_i34⟩ : ∃ z : Int32, z = (((F2 (-2147483648 : Int64) (F1 (2147483647 : Int64) ((((p0).toInt64) + (((p2 &&& (31 : Int32))).toInt64)) - (4 : Int64))))).toInt32) := ⟨_, rfl⟩
    obtain ⟨i35, h_i35⟩ : ∃ z : Int32, z = (((((p3).toUInt32 >>> ((1 : Int32) &&& 31).toUInt32).toInt32) &&& (7 : Int32)) % (6 : Int32)) := ⟨_, rfl⟩
    have P36 : ∀ t, Steps p.tables e below (T33.setTop (mkF m 180 #[.val (.int p0), .val (.long p1), .second, .val (.int p2), .val (.int p3), .val (.int p0), .val (.int (F5 p0 (p1 &&& (3 : Int64)))), .val (.int i3), .val (.int i5), .val (.int i8), .val (.int i10), .val (.ref b11), .val (.int i26), .val (.int i34), .val (.int i35), .unset, .unset, .unset, .unset] [(.int (4 : Int32)), (.int p3)])) t → Steps p.tables e below (s₁.setTop (entryFrame m #[(.int p0), (.long p1), (.int p2), (.int p3)] maxLocals)) t := by
      intro t kk
      refine P29 _ ?_
      show Steps p.tables e below (T24.setTop (mkF m 125 #[.val (.int p0), .val (.long p1), .second, .val (.int p2), .val (.int p3), .val (.int p0), .val (.int (F5 p0 (p1 &&& (3 : Int64)))), .val (.int i3), .val (.int i5), .val (.int i8), .val (.int i10), .val (.ref b11), .val (.int i26), .unset, .unset, .unset, .unset, .unset, .unset] [(.int i26)])) _
      refine XS.ifYes X24.here hx rfl (pc0 := 125) (pc' := 134) rfl (hb hby at_125) rfl (XT.i0_eq_t c30) (by decide) (by decide) ?_
      show Steps p.tables e below (T24.setTop (mkF m 134 #[.val (.int p0), .val (.long p1), .second, .val (.int p2), .val (.int p3), .val (.int p0), .val (.int (F5 p0 (p1 &&& (3 : Int64)))), .val (.int i3), .val (.int i5), .val (.int i8), .val (.int i10), .val (.ref b11), .val (.int i26), .unset, .unset, .unset, .unset, .unset, .unset] [])) _
      refine XS.iloadN X24.here hx rfl (hb hby at_134) rfl ?_
      show Steps p.tables e below (T24.setTop (mkF m 135 #[.val (.int p0), .val (.long p1), .second, .val (.int p2), .val (.int p3), .val (.int p0), .val (.int (F5 p0 (p1 &&& (3 : Int64)))), .val (.int i3), .val (.int i5), .val (.int i8), .val (.int i10), .val (.ref b11), .val (.int i26), .unset, .unset, .unset, .unset, .unset, .unset] [(.int p0)])) _
      refine XS.i2l X24.here hx rfl (hb hby at_135) rfl ?_
      show Steps p.tables e below (T24.setTop (mkF m 136 #[.val (.int p0), .val (.long p1), .second, .val (.int p2), .val (.int p3), .val (.int p0), .val (.int (F5 p0 (p1 &&& (3 : Int64)))), .val (.int i3), .val (.int i5), .val (.int i8), .val (.int i10), .val (.ref b11), .val (.int i26), .unset, .unset, .unset, .unset, .unset, .unset] [(.long ((p0).toInt64))])) _
      refine XS.iloadN X24.here hx rfl (hb hby at_136) rfl ?_
      show Steps p.tables e below (T24.setTop (mkF m 137 #[.val (.int p0), .val (.long p1), .second, .val (.int p2), .val (.int p3), .val (.int p0), .val (.int (F5 p0 (p1 &&& (3 : Int64)))), .val (.int i3), .val (.int i5), .val (.int i8), .val (.int i10), .val (.ref b11), .val (.int i26), .unset, .unset, .unset, .unset, .unset, .unset] [(.int p2), (.long ((p0).toInt64))])) _
      refine XS.bipush X24.here hx rfl (hb hby at_137) ?_
      show Steps p.tables e below (T24.setTop (mkF m 139 #[.val (.int p0), .val (.long p1), .second, .val (.int p2), .val (.int p3), .val (.int p0), .val (.int (F5 p0 (p1 &&& (3 : Int64)))), .val (.int i3), .val (.int i5), .val (.int i8), .val (.int i10), .val (.ref b11), .val (.int i26), .unset, .unset, .unset, .unset, .unset, .unset] [(.int (31 : Int32)), (.int p2), (.long ((p0).toInt64))])) _
      refine XS.iand X24.here hx rfl (hb hby at_139) rfl ?_
      show Steps p.tables e below (T24.setTop (mkF m 140 #[.val (.int p0), .val (.long p1), .second, .val (.int p2), .val (.int p3), .val (.int p0), .val (.int (F5 p0 (p1 &&& (3 : Int64)))), .val (.int i3), .val (.int i5), .val (.int i8), .val (.int i10), .val (.ref b11), .val (.int i26), .unset, .unset, .unset, .unset, .unset, .unset] [(.int (p2 &&& (31 : Int32))), (.long ((p0).toInt64))])) _
      refine XS.i2l X24.here hx rfl (hb hby at_140) rfl ?_
      show Steps p.tables e below (T24.setTop (mkF m 141 #[.val (.int p0), .val (.long p1), .second, .val (.int p2), .val (.int p3), .val (.int p0), .val (.int (F5 p0 (p1 &&& (3 : Int64)))), .val (.int i3), .val (.int i5), .val (.int i8), .val (.int i10), .val (.ref b11), .val (.int i26), .unset, .unset, .unset, .unset, .unset, .unset] [(.long (((p2 &&& (31 : Int32))).toInt64)), (.long ((p0).toInt64))])) _
      refine XS.ladd X24.here hx rfl (hb hby at_141) rfl ?_
      show Steps p.tables e below (T24.setTop (mkF m 142 #[.val (.int p0), .val (.long p1), .second, .val (.int p2), .val (.int p3), .val (.int p0), .val (.int (F5 p0 (p1 &&& (3 : Int64)))), .val (.int i3), .val (.int i5), .val (.int i8), .val (.int i10), .val (.ref b11), .val (.int i26), .unset, .unset, .unset, .unset, .unset, .unset] [(.long (((p0).toInt64) + (((p2 &&& (31 : Int32))).toInt64)))])) _
      refine X24.ldc2Long hx hown (mvT hZ (hw _ (List.mem_of_getElem? (i := 11) rfl))) (g := (mkF m 142 #[.val (.int p0), .val (.long p1), .second, .val (.int p2), .val (.int p3), .val (.int p0), .val (.int (F5 p0 (p1 &&& (3 : Int64)))), .val (.int i3), .val (.int i5), .val (.int i8), .val (.int i10), .val (.ref b11), .val (.int i26), .unset, .unset, .unset, .unset, .unset, .unset] [(.long (((p0).toInt64) + (((p2 &&& (31 : Int32))).toInt64)))])) rfl (hb hby at_142) _ ?_
      show Steps p.tables e below (T24.setTop (mkF m 145 #[.val (.int p0), .val (.long p1), .second, .val (.int p2), .val (.int p3), .val (.int p0), .val (.int (F5 p0 (p1 &&& (3 : Int64)))), .val (.int i3), .val (.int i5), .val (.int i8), .val (.int i10), .val (.ref b11), .val (.int i26), .unset, .unset, .unset, .unset, .unset, .unset] [(.long (4 : Int64)), (.long (((p0).toInt64) + (((p2 &&& (31 : Int32))).toInt64)))])) _
      refine XS.lsub X24.here hx rfl (hb hby at_145) rfl ?_
      show Steps p.tables e below (T24.setTop (mkF m 146 #[.val (.int p0), .val (.long p1), .second, .val (.int p2), .val (.int p3), .val (.int p0), .val (.int (F5 p0 (p1 &&& (3 : Int64)))), .val (.int i3), .val (.int i5), .val (.int i8), .val (.int i10), .val (.ref b11), .val (.int i26), .unset, .unset, .unset, .unset, .unset, .unset] [(.long ((((p0).toInt64) + (((p2 &&& (31 : Int32))).toInt64)) - (4 : Int64)))])) _
      refine XS.lstore X24.here hx rfl (hb hby at_146) rfl (l' := #[.val (.int p0), .val (.long p1), .second, .val (.int p2), .val (.int p3), .val (.int p0), .val (.int (F5 p0 (p1 &&& (3 : Int64)))), .val (.int i3), .val (.int i5), .val (.int i8), .val (.int i10), .val (.ref b11), .val (.int i26), .unset, .val (.long ((((p0).toInt64) + (((p2 &&& (31 : Int32))).toInt64)) - (4 : Int64))), .second, .unset, .unset, .unset]) rfl ?_
      show Steps p.tables e below (T24.setTop (mkF m 148 #[.val (.int p0), .val (.long p1), .second, .val (.int p2), .val (.int p3), .val (.int p0), .val (.int (F5 p0 (p1 &&& (3 : Int64)))), .val (.int i3), .val (.int i5), .val (.int i8), .val (.int i10), .val (.ref b11), .val (.int i26), .unset, .val (.long ((((p0).toInt64) + (((p2 &&& (31 : Int32))).toInt64)) - (4 : Int64))), .second, .unset, .unset, .unset] [])) _
      refine X24.ldc2Long hx hown (mvT hZ (hw _ (List.mem_of_getElem? (i := 12) rfl))) (g := (mkF m 148 #[.val (.int p0), .val (.long p1), .second, .val (.int p2), .val (.int p3), .val (.int p0), .val (.int (F5 p0 (p1 &&& (3 : Int64)))), .val (.int i3), .val (.int i5), .val (.int i8), .val (.int i10), .val (.ref b11), .val (.int i26), .unset, .val (.long ((((p0).toInt64) + (((p2 &&& (31 : Int32))).toInt64)) - (4 : Int64))), .second, .unset, .unset, .unset] [])) rfl (hb hby at_148) _ ?_
      show Steps p.tables e below (T24.setTop (mkF m 151 #[.val (.int p0), .val (.long p1), .second, .val (.int p2), .val (.int p3), .val (.int p0), .val (.int (F5 p0 (p1 &&& (3 : Int64)))), .val (.int i3), .val (.int i5), .val (.int i8), .val (.int i10), .val (.ref b11), .val (.int i26), .unset, .val (.long ((((p0).toInt64) + (((p2 &&& (31 : Int32))).toInt64)) - (4 : Int64))), .second, .unset, .unset, .unset] [(.long (-2147483648 : Int64))])) _
      refine X24.ldc2Long hx hown (mvT hZ (hw _ (List.mem_of_getElem? (i := 5) rfl))) (g := (mkF m 151 #[.val (.int p0), .val (.long p1), .second, .val (.int p2), .val (.int p3), .val (.int p0), .val (.int (F5 p0 (p1 &&& (3 : Int64)))), .val (.int i3), .val (.int i5), .val (.int i8), .val (.int i10), .val (.ref b11), .val (.int i26), .unset, .val (.long ((((p0).toInt64) + (((p2 &&& (31 : Int32))).toInt64)) - (4 : Int64))), .second, .unset, .unset, .unset] [(.long (-2147483648 : Int64))])) rfl (hb hby at_151) _ ?_
      show Steps p.tables e below (T24.setTop (mkF m 154 #[.val (.int p0), .val (.long p1), .second, .val (.int p2), .val (.int p3), .val (.int p0), .val (.int (F5 p0 (p1 &&& (3 : Int64)))), .val (.int i3), .val (.int i5), .val (.int i8), .val (.int i10), .val (.ref b11), .val (.int i26), .unset, .val (.long ((((p0).toInt64) + (((p2 &&& (31 : Int32))).toInt64)) - (4 : Int64))), .second, .unset, .unset, .unset] [(.long (2147483647 : Int64)), (.long (-2147483648 : Int64))])) _
      refine XS.lload X24.here hx rfl (hb hby at_154) rfl ?_
      show Steps p.tables e below (T24.setTop (mkF m 156 #[.val (.int p0), .val (.long p1), .second, .val (.int p2), .val (.int p3), .val (.int p0), .val (.int (F5 p0 (p1 &&& (3 : Int64)))), .val (.int i3), .val (.int i5), .val (.int i8), .val (.int i10), .val (.ref b11), .val (.int i26), .unset, .val (.long ((((p0).toInt64) + (((p2 &&& (31 : Int32))).toInt64)) - (4 : Int64))), .second, .unset, .unset, .unset] [(.long ((((p0).toInt64) + (((p2 &&& (31 : Int32))).toInt64)) - (4 : Int64))), (.long (2147483647 : Int64)), (.long (-2147483648 : Int64))])) _
      refine st31 _ ?_
      show Steps p.tables e below (T31.setTop (mkF m 159 #[.val (.int p0), .val (.long p1), .second, .val (.int p2), .val (.int p3), .val (.int p0), .val (.int (F5 p0 (p1 &&& (3 : Int64)))), .val (.int i3), .val (.int i5), .val (.int i8), .val (.int i10), .val (.ref b11), .val (.int i26), .unset, .val (.long ((((p0).toInt64) + (((p2 &&& (31 : Int32))).toInt64)) - (4 : Int64))), .second, .unset, .unset, .unset] [(.long (F1 (2147483647 : Int64) ((((p0).toInt64) + (((p2 &&& (31 : Int32))).toInt64)) - (4 : Int64)))), (.long (-2147483648 : Int64))])) _
      refine st33 _ ?_
      show Steps p.tables e below (T33.setTop (mkF m 162 #[.val (.int p0), .val (.long p1), .second, .val (.int p2), .val (.int p3), .val (.int p0), .val (.int (F5 p0 (p1 &&& (3 : Int64)))), .val (.int i3), .val (.int i5), .val (.int i8), .val (.int i10), .val (.ref b11), .val (.int i26), .unset, .val (.long ((((p0).toInt64) + (((p2 &&& (31 : Int32))).toInt64)) - (4 : Int64))), .second, .unset, .unset, .unset] [(.long (F2 (-2147483648 : Int64) (F1 (2147483647 : Int64) ((((p0).toInt64) + (((p2 &&& (31 : Int32))).toInt64)) - (4 : Int64)))))])) _
      refine XS.l2i X33.here hx rfl (hb hby at_162) rfl ?_
      show Steps p.tables e below (T33.setTop (mkF m 163 #[.val (.int p0), .val (.long p1), .second, .val (.int p2), .val (.int p3), .val (.int p0), .val (.int (F5 p0 (p1 &&& (3 : Int64)))), .val (.int i3), .val (.int i5), .val (.int i8), .val (.int i10), .val (.ref b11), .val (.int i26), .unset, .val (.long ((((p0).toInt64) + (((p2 &&& (31 : Int32))).toInt64)) - (4 : Int64))), .second, .unset, .unset, .unset] [(.int (((F2 (-2147483648 : Int64) (F1 (2147483647 : Int64) ((((p0).toInt64) + (((p2 &&& (31 : Int32))).toInt64)) - (4 : Int64))))).toInt32))])) _
      rw [← h_i34]
      show Steps p.tables e below (T33.setTop (mkF m 163 #[.val (.int p0), .val (.long p1), .second, .val (.int p2), .val (.int p3), .val (.int p0), .val (.int (F5 p0 (p1 &&& (3 : Int64)))), .val (.int i3), .val (.int i5), .val (.int i8), .val (.int i10), .val (.ref b11), .val (.int i26), .unset, .val (.long ((((p0).toInt64) + (((p2 &&& (31 : Int32))).toInt64)) - (4 : Int64))), .second, .unset, .unset, .unset] [(.int i34)])) _
      refine XS.istore X33.here hx rfl (hb hby at_163) rfl (l' := #[.val (.int p0), .val (.long p1), .second, .val (.int p2), .val (.int p3), .val (.int p0), .val (.int (F5 p0 (p1 &&& (3 : Int64)))), .val (.int i3), .val (.int i5), .val (.int i8), .val (.int i10), .val (.ref b11), .val (.int i26), .val (.int i34), .val (.long ((((p0).toInt64) + (((p2 &&& (31 : Int32))).toInt64)) - (4 : Int64))), .second, .unset, .unset, .unset]) rfl ?_
      show Steps p.tables e below (T33.setTop (mkF m 165 #[.val (.int p0), .val (.long p1), .second, .val (.int p2), .val (.int p3), .val (.int p0), .val (.int (F5 p0 (p1 &&& (3 : Int64)))), .val (.int i3), .val (.int i5), .val (.int i8), .val (.int i10), .val (.ref b11), .val (.int i26), .val (.int i34), .val (.long ((((p0).toInt64) + (((p2 &&& (31 : Int32))).toInt64)) - (4 : Int64))), .second, .unset, .unset, .unset] [])) _
      refine XS.iload X33.here hx rfl (hb hby at_165) rfl ?_
      show Steps p.tables e below (T33.setTop (mkF m 167 #[.val (.int p0), .val (.long p1), .second, .val (.int p2), .val (.int p3), .val (.int p0), .val (.int (F5 p0 (p1 &&& (3 : Int64)))), .val (.int i3), .val (.int i5), .val (.int i8), .val (.int i10), .val (.ref b11), .val (.int i26), .val (.int i34), .val (.long ((((p0).toInt64) + (((p2 &&& (31 : Int32))).toInt64)) - (4 : Int64))), .second, .unset, .unset, .unset] [(.int p3)])) _
      refine XS.iconst X33.here hx rfl (hb hby at_167) ?_
      show Steps p.tables e below (T33.setTop (mkF m 168 #[.val (.int p0), .val (.long p1), .second, .val (.int p2), .val (.int p3), .val (.int p0), .val (.int (F5 p0 (p1 &&& (3 : Int64)))), .val (.int i3), .val (.int i5), .val (.int i8), .val (.int i10), .val (.ref b11), .val (.int i26), .val (.int i34), .val (.long ((((p0).toInt64) + (((p2 &&& (31 : Int32))).toInt64)) - (4 : Int64))), .second, .unset, .unset, .unset] [(.int (1 : Int32)), (.int p3)])) _
      refine XS.iushr X33.here hx rfl (hb hby at_168) rfl ?_
      show Steps p.tables e below (T33.setTop (mkF m 169 #[.val (.int p0), .val (.long p1), .second, .val (.int p2), .val (.int p3), .val (.int p0), .val (.int (F5 p0 (p1 &&& (3 : Int64)))), .val (.int i3), .val (.int i5), .val (.int i8), .val (.int i10), .val (.ref b11), .val (.int i26), .val (.int i34), .val (.long ((((p0).toInt64) + (((p2 &&& (31 : Int32))).toInt64)) - (4 : Int64))), .second, .unset, .unset, .unset] [(.int (((p3).toUInt32 >>> ((1 : Int32) &&& 31).toUInt32).toInt32))])) _
      refine XS.bipush X33.here hx rfl (hb hby at_169) ?_
      show Steps p.tables e below (T33.setTop (mkF m 171 #[.val (.int p0), .val (.long p1), .second, .val (.int p2), .val (.int p3), .val (.int p0), .val (.int (F5 p0 (p1 &&& (3 : Int64)))), .val (.int i3), .val (.int i5), .val (.int i8), .val (.int i10), .val (.ref b11), .val (.int i26), .val (.int i34), .val (.long ((((p0).toInt64) + (((p2 &&& (31 : Int32))).toInt64)) - (4 : Int64))), .second, .unset, .unset, .unset] [(.int (7 : Int32)), (.int (((p3).toUInt32 >>> ((1 : Int32) &&& 31).toUInt32).toInt32))])) _
      refine XS.iand X33.here hx rfl (hb hby at_171) rfl ?_
      show Steps p.tables e below (T33.setTop (mkF m 172 #[.val (.int p0), .val (.long p1), .second, .val (.int p2), .val (.int p3), .val (.int p0), .val (.int (F5 p0 (p1 &&& (3 : Int64)))), .val (.int i3), .val (.int i5), .val (.int i8), .val (.int i10), .val (.ref b11), .val (.int i26), .val (.int i34), .val (.long ((((p0).toInt64) + (((p2 &&& (31 : Int32))).toInt64)) - (4 : Int64))), .second, .unset, .unset, .unset] [(.int ((((p3).toUInt32 >>> ((1 : Int32) &&& 31).toUInt32).toInt32) &&& (7 : Int32)))])) _
      refine XS.bipush X33.here hx rfl (hb hby at_172) ?_
      show Steps p.tables e below (T33.setTop (mkF m 174 #[.val (.int p0), .val (.long p1), .second, .val (.int p2), .val (.int p3), .val (.int p0), .val (.int (F5 p0 (p1 &&& (3 : Int64)))), .val (.int i3), .val (.int i5), .val (.int i8), .val (.int i10), .val (.ref b11), .val (.int i26), .val (.int i34), .val (.long ((((p0).toInt64) + (((p2 &&& (31 : Int32))).toInt64)) - (4 : Int64))), .second, .unset, .unset, .unset] [(.int (6 : Int32)), (.int ((((p3).toUInt32 >>> ((1 : Int32) &&& 31).toUInt32).toInt32) &&& (7 : Int32)))])) _
      refine iremM (g := (mkF m 174 #[.val (.int p0), .val (.long p1), .second, .val (.int p2), .val (.int p3), .val (.int p0), .val (.int (F5 p0 (p1 &&& (3 : Int64)))), .val (.int i3), .val (.int i5), .val (.int i8), .val (.int i10), .val (.ref b11), .val (.int i26), .val (.int i34), .val (.long ((((p0).toInt64) + (((p2 &&& (31 : Int32))).toInt64)) - (4 : Int64))), .second, .unset, .unset, .unset] [(.int (6 : Int32)), (.int ((((p3).toUInt32 >>> ((1 : Int32) &&& 31).toUInt32).toInt32) &&& (7 : Int32)))])) X33 hx rfl (hb hby at_174) rfl (by decide) ?_
      show Steps p.tables e below (T33.setTop (mkF m 175 #[.val (.int p0), .val (.long p1), .second, .val (.int p2), .val (.int p3), .val (.int p0), .val (.int (F5 p0 (p1 &&& (3 : Int64)))), .val (.int i3), .val (.int i5), .val (.int i8), .val (.int i10), .val (.ref b11), .val (.int i26), .val (.int i34), .val (.long ((((p0).toInt64) + (((p2 &&& (31 : Int32))).toInt64)) - (4 : Int64))), .second, .unset, .unset, .unset] [(.int (((((p3).toUInt32 >>> ((1 : Int32) &&& 31).toUInt32).toInt32) &&& (7 : Int32)) % (6 : Int32)))])) _
      rw [← h_i35]
      show Steps p.tables e below (T33.setTop (mkF m 175 #[.val (.int p0), .val (.long p1), .second, .val (.int p2), .val (.int p3), .val (.int p0), .val (.int (F5 p0 (p1 &&& (3 : Int64)))), .val (.int i3), .val (.int i5), .val (.int i8), .val (.int i10), .val (.ref b11), .val (.int i26), .val (.int i34), .val (.long ((((p0).toInt64) + (((p2 &&& (31 : Int32))).toInt64)) - (4 : Int64))), .second, .unset, .unset, .unset] [(.int i35)])) _
      refine XS.istore X33.here hx rfl (hb hby at_175) rfl (l' := #[.val (.int p0), .val (.long p1), .second, .val (.int p2), .val (.int p3), .val (.int p0), .val (.int (F5 p0 (p1 &&& (3 : Int64)))), .val (.int i3), .val (.int i5), .val (.int i8), .val (.int i10), .val (.ref b11), .val (.int i26), .val (.int i34), .val (.int i35), .unset, .unset, .unset, .unset]) rfl ?_
      show Steps p.tables e below (T33.setTop (mkF m 177 #[.val (.int p0), .val (.long p1), .second, .val (.int p2), .val (.int p3), .val (.int p0), .val (.int (F5 p0 (p1 &&& (3 : Int64)))), .val (.int i3), .val (.int i5), .val (.int i8), .val (.int i10), .val (.ref b11), .val (.int i26), .val (.int i34), .val (.int i35), .unset, .unset, .unset, .unset] [])) _
      refine XS.iload X33.here hx rfl (hb hby at_177) rfl ?_
      show Steps p.tables e below (T33.setTop (mkF m 179 #[.val (.int p0), .val (.long p1), .second, .val (.int p2), .val (.int p3), .val (.int p0), .val (.int (F5 p0 (p1 &&& (3 : Int64)))), .val (.int i3), .val (.int i5), .val (.int i8), .val (.int i10), .val (.ref b11), .val (.int i26), .val (.int i34), .val (.int i35), .unset, .unset, .unset, .unset] [(.int p3)])) _
      refine XS.iconst X33.here hx rfl (hb hby at_179) ?_
      show Steps p.tables e below (T33.setTop (mkF m 180 #[.val (.int p0), .val (.long p1), .second, .val (.int p2), .val (.int p3), .val (.int p0), .val (.int (F5 p0 (p1 &&& (3 : Int64)))), .val (.int i3), .val (.int i5), .val (.int i8), .val (.int i10), .val (.ref b11), .val (.int i26), .val (.int i34), .val (.int i35), .unset, .unset, .unset, .unset] [(.int (4 : Int32)), (.int p3)])) _
      exact kk
    obtain ⟨i37, h_i37⟩ : ∃ z : Int32, z = ((((((p3).toUInt32 >>> ((4 : Int32) &&& 31).toUInt32).toInt32) &&& (7 : Int32)) % (7 : Int32)) - (1 : Int32)) := ⟨_, rfl⟩
    obtain ⟨_, _, ⟨T38, L38, k38, n38⟩, -, X38, ⟨Lc38, hQ38, l38, y38, z38⟩, st38⟩ := Jvm.LawKit.callS X33 hx (y := (⟨"org/wayfold/graph/GraphLastAtMostPinLaw", "le", "(II)I"⟩ : MethodName)) hown (mvT hZ (hw _ (List.mem_of_getElem? (i := 16) rfl))) (mvT hZ (hw _ (List.mem_of_getElem? (i := 17) rfl))) (mvT hZ (hw _ (List.mem_of_getElem? (i := 3) rfl))) (mvT hZ (hw _ (List.mem_of_getElem? (i := 18) rfl))) (by decide) (backOf (W := 0) (rm6 l Z a0 hw [] p0 i34 h24 n0 z32 ) hZ (hw _ (List.mem_of_getElem? (i := 18) rfl)) (hw _ (List.mem_of_getElem? (i := 3) rfl)) (by decide) (by decide)) (g := (mkF m 195 #[.val (.int p0), .val (.long p1), .second, .val (.int p2), .val (.int p3), .val (.int p0), .val (.int (F5 p0 (p1 &&& (3 : Int64)))), .val (.int i3), .val (.int i5), .val (.int i8), .val (.int i10), .val (.ref b11), .val (.int i26), .val (.int i34), .val (.int i35), .val (.int i37), .unset, .unset, .unset] [(.int i34), (.int p0)])) rfl (by rw [hml]; rfl) (argsL := [(.int p0), (.int i34)]) (rest := []) (lenOf pd_2 rfl) rfl (by show 2 * 0 + _ ≤ _; exact Nat.le_of_eq rfl) (hb hby at_195) (fun _ _ => ⟨rfl, e33, (by decide : 1 + 0 ≤ _), (by decide : 6 + 0 ≤ _)⟩)
    dsimp only [Pt.U, Pt.locs, Pt.cells, Pt.slots] at X38 l38 y38 z38 st38 hQ38
    subst l38 y38 z38
    obtain ⟨rfl, Nq38, e38⟩ := hQ38
    have N38 := Fr.app N33 Nq38
    obtain ⟨_, _, ⟨T39, L39, k39, n39⟩, -, X39, ⟨Lc39, hQ39, l39, y39, z39⟩, st39⟩ := Jvm.LawKit.callS X38 hx (y := (⟨"org/wayfold/graph/GraphLastAtMostPinLaw", "le", "(II)I"⟩ : MethodName)) hown (mvT hZ (hw _ (List.mem_of_getElem? (i := 16) rfl))) (mvT hZ (hw _ (List.mem_of_getElem? (i := 17) rfl))) (mvT hZ (hw _ (List.mem_of_getElem? (i := 3) rfl))) (mvT hZ (hw _ (List.mem_of_getElem? (i := 18) rfl))) (by decide) (backOf (W := 1) (rm6 l Z a0 hw [] (F5 p0 (p1 &&& (3 : Int64))) i34 h24 n0 z32 ) hZ (hw _ (List.mem_of_getElem? (i := 18) rfl)) (hw _ (List.mem_of_getElem? (i := 3) rfl)) (by decide) (by decide)) (g := (mkF m 202 #[.val (.int p0), .val (.long p1), .second, .val (.int p2), .val (.int p3), .val (.int p0), .val (.int (F5 p0 (p1 &&& (3 : Int64)))), .val (.int i3), .val (.int i5), .val (.int i8), .val (.int i10), .val (.ref b11), .val (.int i26), .val (.int i34), .val (.int i35), .val (.int i37), .unset, .unset, .unset] [(.int i34), (.int (F5 p0 (p1 &&& (3 : Int64)))), (.int (F6 p0 i34))])) rfl (by rw [hml]; rfl) (argsL := [(.int (F5 p0 (p1 &&& (3 : Int64)))), (.int i34)]) (rest := [(.int (F6 p0 i34))]) (lenOf pd_2 rfl) rfl (by show 2 * 0 + _ ≤ _; exact Nat.le_of_eq rfl) (hb hby at_202) (fun _ _ => ⟨rfl, e38, (by decide : 1 + 0 ≤ _), (by decide : 6 + 0 ≤ _)⟩)
    dsimp only [Pt.U, Pt.locs, Pt.cells, Pt.slots] at X39 l39 y39 z39 st39 hQ39
    subst l39 y39 z39
    obtain ⟨rfl, Nq39, e39⟩ := hQ39
    have N39 := Fr.app N38 Nq39
    obtain ⟨_, _, ⟨T40, L40, k40, n40⟩, -, X40, ⟨Lc40, hQ40, l40, y40, z40⟩, st40⟩ := Jvm.LawKit.callS X39 hx (y := (⟨"org/wayfold/graph/GraphLastAtMostPinLaw", "le", "(II)I"⟩ : MethodName)) hown (mvT hZ (hw _ (List.mem_of_getElem? (i := 16) rfl))) (mvT hZ (hw _ (List.mem_of_getElem? (i := 17) rfl))) (mvT hZ (hw _ (List.mem_of_getElem? (i := 3) rfl))) (mvT hZ (hw _ (List.mem_of_getElem? (i := 18) rfl))) (by decide) (backOf (W := 1) (rm6 l Z a0 hw [] i3 i34 h24 n0 z32 ) hZ (hw _ (List.mem_of_getElem? (i := 18) rfl)) (hw _ (List.mem_of_getElem? (i := 3) rfl)) (by decide) (by decide)) (g := (mkF m 210 #[.val (.int p0), .val (.long p1), .second, .val (.int p2), .val (.int p3), .val (.int p0), .val (.int (F5 p0 (p1 &&& (3 : Int64)))), .val (.int i3), .val (.int i5), .val (.int i8), .val (.int i10), .val (.ref b11), .val (.int i26), .val (.int i34), .val (.int i35), .val (.int i37), .unset, .unset, .unset] [(.int i34), (.int i3), (.int ((F6 p0 i34) + (F6 (F5 p0 (p1 &&& (3 : Int64))) i34)))])) rfl (by rw [hml]; rfl) (argsL := [(.int i3), (.int i34)]) (rest := [(.int ((F6 p0 i34) + (F6 (F5 p0 (p1 &&& (3 : Int64))) i34)))]) (lenOf pd_2 rfl) rfl (by show 2 * 0 + _ ≤ _; exact Nat.le_of_eq rfl) (hb hby at_210) (fun _ _ => ⟨rfl, e39, (by decide : 1 + 0 ≤ _), (by decide : 6 + 0 ≤ _)⟩)
    dsimp only [Pt.U, Pt.locs, Pt.cells, Pt.slots] at X40 l40 y40 z40 st40 hQ40
    subst l40 y40 z40
    obtain ⟨rfl, Nq40, e40⟩ := hQ40
    have N40 := Fr.app N39 Nq40
    obtain ⟨_, _, ⟨T41, L41, k41, n41⟩, -, X41, ⟨Lc41, hQ41, l41, y41, z41⟩, st41⟩ := Jvm.LawKit.callS X40 hx (y := (⟨"org/wayfold/graph/GraphLastAtMostPinLaw", "le", "(II)I"⟩ : MethodName)) hown (mvT hZ (hw _ (List.mem_of_getElem? (i := 16) rfl))) (mvT hZ (hw _ (List.mem_of_getElem? (i := 17) rfl))) (mvT hZ (hw _ (List.mem_of_getElem? (i := 3) rfl))) (mvT hZ (hw _ (List.mem_of_getElem? (i := 18) rfl))) (by decide) (backOf (W := 1) (rm6 l Z a0 hw [] i5 i34 h24 n0 z32 ) hZ (hw _ (List.mem_of_getElem? (i := 18) rfl)) (hw _ (List.mem_of_getElem? (i := 3) rfl)) (by decide) (by decide)) (g := (mkF m 218 #[.val (.int p0), .val (.long p1), .second, .val (.int p2), .val (.int p3), .val (.int p0), .val (.int (F5 p0 (p1 &&& (3 : Int64)))), .val (.int i3), .val (.int i5), .val (.int i8), .val (.int i10), .val (.ref b11), .val (.int i26), .val (.int i34), .val (.int i35), .val (.int i37), .unset, .unset, .unset] [(.int i34), (.int i5), (.int (((F6 p0 i34) + (F6 (F5 p0 (p1 &&& (3 : Int64))) i34)) + (F6 i3 i34)))])) rfl (by rw [hml]; rfl) (argsL := [(.int i5), (.int i34)]) (rest := [(.int (((F6 p0 i34) + (F6 (F5 p0 (p1 &&& (3 : Int64))) i34)) + (F6 i3 i34)))]) (lenOf pd_2 rfl) rfl (by show 2 * 0 + _ ≤ _; exact Nat.le_of_eq rfl) (hb hby at_218) (fun _ _ => ⟨rfl, e40, (by decide : 1 + 0 ≤ _), (by decide : 6 + 0 ≤ _)⟩)
    dsimp only [Pt.U, Pt.locs, Pt.cells, Pt.slots] at X41 l41 y41 z41 st41 hQ41
    subst l41 y41 z41
    obtain ⟨rfl, Nq41, e41⟩ := hQ41
    have N41 := Fr.app N40 Nq41
    obtain ⟨_, _, ⟨T42, L42, k42, n42⟩, -, X42, ⟨Lc42, hQ42, l42, y42, z42⟩, st42⟩ := Jvm.LawKit.callS X41 hx (y := (⟨"org/wayfold/graph/GraphLastAtMostPinLaw", "le", "(II)I"⟩ : MethodName)) hown (mvT hZ (hw _ (List.mem_of_getElem? (i := 16) rfl))) (mvT hZ (hw _ (List.mem_of_getElem? (i := 17) rfl))) (mvT hZ (hw _ (List.mem_of_getElem? (i := 3) rfl))) (mvT hZ (hw _ (List.mem_of_getElem? (i := 18) rfl))) (by decide) (backOf (W := 1) (rm6 l Z a0 hw [] i8 i34 h24 n0 z32 ) hZ (hw _ (List.mem_of_getElem? (i := 18) rfl)) (hw _ (List.mem_of_getElem? (i := 3) rfl)) (by decide) (by decide)) (g := (mkF m 226 #[.val (.int p0), .val (.long p1), .second, .val (.int p2), .val (.int p3), .val (.int p0), .val (.int (F5 p0 (p1 &&& (3 : Int64)))), .val (.int i3), .val (.int i5), .val (.int i8), .val (.int i10), .val (.ref b11), .val (.int i26), .val (.int i34), .val (.int i35), .val (.int i37), .unset, .unset, .unset] [(.int i34), (.int i8), (.int ((((F6 p0 i34) + (F6 (F5 p0 (p1 &&& (3 : Int64))) i34)) + (F6 i3 i34)) + (F6 i5 i34)))])) rfl (by rw [hml]; rfl) (argsL := [(.int i8), (.int i34)]) (rest := [(.int ((((F6 p0 i34) + (F6 (F5 p0 (p1 &&& (3 : Int64))) i34)) + (F6 i3 i34)) + (F6 i5 i34)))]) (lenOf pd_2 rfl) rfl (by show 2 * 0 + _ ≤ _; exact Nat.le_of_eq rfl) (hb hby at_226) (fun _ _ => ⟨rfl, e41, (by decide : 1 + 0 ≤ _), (by decide : 6 + 0 ≤ _)⟩)
    dsimp only [Pt.U, Pt.locs, Pt.cells, Pt.slots] at X42 l42 y42 z42 st42 hQ42
    subst l42 y42 z42
    obtain ⟨rfl, Nq42, e42⟩ := hQ42
    have N42 := Fr.app N41 Nq42
    have P43 : ∀ t, Steps p.tables e below (T42.setTop (mkF m 234 #[.val (.int p0), .val (.long p1), .second, .val (.int p2), .val (.int p3), .val (.int p0), .val (.int (F5 p0 (p1 &&& (3 : Int64)))), .val (.int i3), .val (.int i5), .val (.int i8), .val (.int i10), .val (.ref b11), .val (.int i26), .val (.int i34), .val (.int i35), .val (.int i37), .unset, .unset, .unset] [(.int i34), (.int i10), (.int (((((F6 p0 i34) + (F6 (F5 p0 (p1 &&& (3 : Int64))) i34)) + (F6 i3 i34)) + (F6 i5 i34)) + (F6 i8 i34)))])) t → Steps p.tables e below (s₁.setTop (entryFrame m #[(.int p0), (.long p1), (.int p2), (.int p3)] maxLocals)) t := by
      intro t kk
      refine P36 _ ?_
      show Steps p.tables e below (T33.setTop (mkF m 180 #[.val (.int p0), .val (.long p1), .second, .val (.int p2), .val (.int p3), .val (.int p0), .val (.int (F5 p0 (p1 &&& (3 : Int64)))), .val (.int i3), .val (.int i5), .val (.int i8), .val (.int i10), .val (.ref b11), .val (.int i26), .val (.int i34), .val (.int i35), .unset, .unset, .unset, .unset] [(.int (4 : Int32)), (.int p3)])) _
      refine XS.iushr X33.here hx rfl (hb hby at_180) rfl ?_
      show Steps p.tables e below (T33.setTop (mkF m 181 #[.val (.int p0), .val (.long p1), .second, .val (.int p2), .val (.int p3), .val (.int p0), .val (.int (F5 p0 (p1 &&& (3 : Int64)))), .val (.int i3), .val (.int i5), .val (.int i8), .val (.int i10), .val (.ref b11), .val (.int i26), .val (.int i34), .val (.int i35), .unset, .unset, .unset, .unset] [(.int (((p3).toUInt32 >>> ((4 : Int32) &&& 31).toUInt32).toInt32))])) _
      refine XS.bipush X33.here hx rfl (hb hby at_181) ?_
      show Steps p.tables e below (T33.setTop (mkF m 183 #[.val (.int p0), .val (.long p1), .second, .val (.int p2), .val (.int p3), .val (.int p0), .val (.int (F5 p0 (p1 &&& (3 : Int64)))), .val (.int i3), .val (.int i5), .val (.int i8), .val (.int i10), .val (.ref b11), .val (.int i26), .val (.int i34), .val (.int i35), .unset, .unset, .unset, .unset] [(.int (7 : Int32)), (.int (((p3).toUInt32 >>> ((4 : Int32) &&& 31).toUInt32).toInt32))])) _
      refine XS.iand X33.here hx rfl (hb hby at_183) rfl ?_
      show Steps p.tables e below (T33.setTop (mkF m 184 #[.val (.int p0), .val (.long p1), .second, .val (.int p2), .val (.int p3), .val (.int p0), .val (.int (F5 p0 (p1 &&& (3 : Int64)))), .val (.int i3), .val (.int i5), .val (.int i8), .val (.int i10), .val (.ref b11), .val (.int i26), .val (.int i34), .val (.int i35), .unset, .unset, .unset, .unset] [(.int ((((p3).toUInt32 >>> ((4 : Int32) &&& 31).toUInt32).toInt32) &&& (7 : Int32)))])) _
      refine XS.bipush X33.here hx rfl (hb hby at_184) ?_
      show Steps p.tables e below (T33.setTop (mkF m 186 #[.val (.int p0), .val (.long p1), .second, .val (.int p2), .val (.int p3), .val (.int p0), .val (.int (F5 p0 (p1 &&& (3 : Int64)))), .val (.int i3), .val (.int i5), .val (.int i8), .val (.int i10), .val (.ref b11), .val (.int i26), .val (.int i34), .val (.int i35), .unset, .unset, .unset, .unset] [(.int (7 : Int32)), (.int ((((p3).toUInt32 >>> ((4 : Int32) &&& 31).toUInt32).toInt32) &&& (7 : Int32)))])) _
      refine iremM (g := (mkF m 186 #[.val (.int p0), .val (.long p1), .second, .val (.int p2), .val (.int p3), .val (.int p0), .val (.int (F5 p0 (p1 &&& (3 : Int64)))), .val (.int i3), .val (.int i5), .val (.int i8), .val (.int i10), .val (.ref b11), .val (.int i26), .val (.int i34), .val (.int i35), .unset, .unset, .unset, .unset] [(.int (7 : Int32)), (.int ((((p3).toUInt32 >>> ((4 : Int32) &&& 31).toUInt32).toInt32) &&& (7 : Int32)))])) X33 hx rfl (hb hby at_186) rfl (by decide) ?_
      show Steps p.tables e below (T33.setTop (mkF m 187 #[.val (.int p0), .val (.long p1), .second, .val (.int p2), .val (.int p3), .val (.int p0), .val (.int (F5 p0 (p1 &&& (3 : Int64)))), .val (.int i3), .val (.int i5), .val (.int i8), .val (.int i10), .val (.ref b11), .val (.int i26), .val (.int i34), .val (.int i35), .unset, .unset, .unset, .unset] [(.int (((((p3).toUInt32 >>> ((4 : Int32) &&& 31).toUInt32).toInt32) &&& (7 : Int32)) % (7 : Int32)))])) _
      refine XS.iconst X33.here hx rfl (hb hby at_187) ?_
      show Steps p.tables e below (T33.setTop (mkF m 188 #[.val (.int p0), .val (.long p1), .second, .val (.int p2), .val (.int p3), .val (.int p0), .val (.int (F5 p0 (p1 &&& (3 : Int64)))), .val (.int i3), .val (.int i5), .val (.int i8), .val (.int i10), .val (.ref b11), .val (.int i26), .val (.int i34), .val (.int i35), .unset, .unset, .unset, .unset] [(.int (1 : Int32)), (.int (((((p3).toUInt32 >>> ((4 : Int32) &&& 31).toUInt32).toInt32) &&& (7 : Int32)) % (7 : Int32)))])) _
      refine XS.isub X33.here hx rfl (hb hby at_188) rfl ?_
      show Steps p.tables e below (T33.setTop (mkF m 189 #[.val (.int p0), .val (.long p1), .second, .val (.int p2), .val (.int p3), .val (.int p0), .val (.int (F5 p0 (p1 &&& (3 : Int64)))), .val (.int i3), .val (.int i5), .val (.int i8), .val (.int i10), .val (.ref b11), .val (.int i26), .val (.int i34), .val (.int i35), .unset, .unset, .unset, .unset] [(.int ((((((p3).toUInt32 >>> ((4 : Int32) &&& 31).toUInt32).toInt32) &&& (7 : Int32)) % (7 : Int32)) - (1 : Int32)))])) _
      rw [← h_i37]
      show Steps p.tables e below (T33.setTop (mkF m 189 #[.val (.int p0), .val (.long p1), .second, .val (.int p2), .val (.int p3), .val (.int p0), .val (.int (F5 p0 (p1 &&& (3 : Int64)))), .val (.int i3), .val (.int i5), .val (.int i8), .val (.int i10), .val (.ref b11), .val (.int i26), .val (.int i34), .val (.int i35), .unset, .unset, .unset, .unset] [(.int i37)])) _
      refine XS.istore X33.here hx rfl (hb hby at_189) rfl (l' := #[.val (.int p0), .val (.long p1), .second, .val (.int p2), .val (.int p3), .val (.int p0), .val (.int (F5 p0 (p1 &&& (3 : Int64)))), .val (.int i3), .val (.int i5), .val (.int i8), .val (.int i10), .val (.ref b11), .val (.int i26), .val (.int i34), .val (.int i35), .val (.int i37), .unset, .unset, .unset]) rfl ?_
      show Steps p.tables e below (T33.setTop (mkF m 191 #[.val (.int p0), .val (.long p1), .second, .val (.int p2), .val (.int p3), .val (.int p0), .val (.int (F5 p0 (p1 &&& (3 : Int64)))), .val (.int i3), .val (.int i5), .val (.int i8), .val (.int i10), .val (.ref b11), .val (.int i26), .val (.int i34), .val (.int i35), .val (.int i37), .unset, .unset, .unset] [])) _
      refine XS.iload X33.here hx rfl (hb hby at_191) rfl ?_
      show Steps p.tables e below (T33.setTop (mkF m 193 #[.val (.int p0), .val (.long p1), .second, .val (.int p2), .val (.int p3), .val (.int p0), .val (.int (F5 p0 (p1 &&& (3 : Int64)))), .val (.int i3), .val (.int i5), .val (.int i8), .val (.int i10), .val (.ref b11), .val (.int i26), .val (.int i34), .val (.int i35), .val (.int i37), .unset, .unset, .unset] [(.int p0)])) _
      refine XS.iload X33.here hx rfl (hb hby at_193) rfl ?_
      show Steps p.tables e below (T33.setTop (mkF m 195 #[.val (.int p0), .val (.long p1), .second, .val (.int p2), .val (.int p3), .val (.int p0), .val (.int (F5 p0 (p1 &&& (3 : Int64)))), .val (.int i3), .val (.int i5), .val (.int i8), .val (.int i10), .val (.ref b11), .val (.int i26), .val (.int i34), .val (.int i35), .val (.int i37), .unset, .unset, .unset] [(.int i34), (.int p0)])) _
      refine st38 _ ?_
      show Steps p.tables e below (T38.setTop (mkF m 198 #[.val (.int p0), .val (.long p1), .second, .val (.int p2), .val (.int p3), .val (.int p0), .val (.int (F5 p0 (p1 &&& (3 : Int64)))), .val (.int i3), .val (.int i5), .val (.int i8), .val (.int i10), .val (.ref b11), .val (.int i26), .val (.int i34), .val (.int i35), .val (.int i37), .unset, .unset, .unset] [(.int (F6 p0 i34))])) _
      refine XS.iload X38.here hx rfl (hb hby at_198) rfl ?_
      show Steps p.tables e below (T38.setTop (mkF m 200 #[.val (.int p0), .val (.long p1), .second, .val (.int p2), .val (.int p3), .val (.int p0), .val (.int (F5 p0 (p1 &&& (3 : Int64)))), .val (.int i3), .val (.int i5), .val (.int i8), .val (.int i10), .val (.ref b11), .val (.int i26), .val (.int i34), .val (.int i35), .val (.int i37), .unset, .unset, .unset] [(.int (F5 p0 (p1 &&& (3 : Int64)))), (.int (F6 p0 i34))])) _
      refine XS.iload X38.here hx rfl (hb hby at_200) rfl ?_
      show Steps p.tables e below (T38.setTop (mkF m 202 #[.val (.int p0), .val (.long p1), .second, .val (.int p2), .val (.int p3), .val (.int p0), .val (.int (F5 p0 (p1 &&& (3 : Int64)))), .val (.int i3), .val (.int i5), .val (.int i8), .val (.int i10), .val (.ref b11), .val (.int i26), .val (.int i34), .val (.int i35), .val (.int i37), .unset, .unset, .unset] [(.int i34), (.int (F5 p0 (p1 &&& (3 : Int64)))), (.int (F6 p0 i34))])) _
      refine st39 _ ?_
      show Steps p.tables e below (T39.setTop (mkF m 205 #[.val (.int p0), .val (.long p1), .second, .val (.int p2), .val (.int p3), .val (.int p0), .val (.int (F5 p0 (p1 &&& (3 : Int64)))), .val (.int i3), .val (.int i5), .val (.int i8), .val (.int i10), .val (.ref b11), .val (.int i26), .val (.int i34), .val (.int i35), .val (.int i37), .unset, .unset, .unset] [(.int (F6 (F5 p0 (p1 &&& (3 : Int64))) i34)), (.int (F6 p0 i34))])) _
      refine XS.iadd X39.here hx rfl (hb hby at_205) rfl ?_
      show Steps p.tables e below (T39.setTop (mkF m 206 #[.val (.int p0), .val (.long p1), .second, .val (.int p2), .val (.int p3), .val (.int p0), .val (.int (F5 p0 (p1 &&& (3 : Int64)))), .val (.int i3), .val (.int i5), .val (.int i8), .val (.int i10), .val (.ref b11), .val (.int i26), .val (.int i34), .val (.int i35), .val (.int i37), .unset, .unset, .unset] [(.int ((F6 p0 i34) + (F6 (F5 p0 (p1 &&& (3 : Int64))) i34)))])) _
      refine XS.iload X39.here hx rfl (hb hby at_206) rfl ?_
      show Steps p.tables e below (T39.setTop (mkF m 208 #[.val (.int p0), .val (.long p1), .second, .val (.int p2), .val (.int p3), .val (.int p0), .val (.int (F5 p0 (p1 &&& (3 : Int64)))), .val (.int i3), .val (.int i5), .val (.int i8), .val (.int i10), .val (.ref b11), .val (.int i26), .val (.int i34), .val (.int i35), .val (.int i37), .unset, .unset, .unset] [(.int i3), (.int ((F6 p0 i34) + (F6 (F5 p0 (p1 &&& (3 : Int64))) i34)))])) _
      refine XS.iload X39.here hx rfl (hb hby at_208) rfl ?_
      show Steps p.tables e below (T39.setTop (mkF m 210 #[.val (.int p0), .val (.long p1), .second, .val (.int p2), .val (.int p3), .val (.int p0), .val (.int (F5 p0 (p1 &&& (3 : Int64)))), .val (.int i3), .val (.int i5), .val (.int i8), .val (.int i10), .val (.ref b11), .val (.int i26), .val (.int i34), .val (.int i35), .val (.int i37), .unset, .unset, .unset] [(.int i34), (.int i3), (.int ((F6 p0 i34) + (F6 (F5 p0 (p1 &&& (3 : Int64))) i34)))])) _
      refine st40 _ ?_
      show Steps p.tables e below (T40.setTop (mkF m 213 #[.val (.int p0), .val (.long p1), .second, .val (.int p2), .val (.int p3), .val (.int p0), .val (.int (F5 p0 (p1 &&& (3 : Int64)))), .val (.int i3), .val (.int i5), .val (.int i8), .val (.int i10), .val (.ref b11), .val (.int i26), .val (.int i34), .val (.int i35), .val (.int i37), .unset, .unset, .unset] [(.int (F6 i3 i34)), (.int ((F6 p0 i34) + (F6 (F5 p0 (p1 &&& (3 : Int64))) i34)))])) _
      refine XS.iadd X40.here hx rfl (hb hby at_213) rfl ?_
      show Steps p.tables e below (T40.setTop (mkF m 214 #[.val (.int p0), .val (.long p1), .second, .val (.int p2), .val (.int p3), .val (.int p0), .val (.int (F5 p0 (p1 &&& (3 : Int64)))), .val (.int i3), .val (.int i5), .val (.int i8), .val (.int i10), .val (.ref b11), .val (.int i26), .val (.int i34), .val (.int i35), .val (.int i37), .unset, .unset, .unset] [(.int (((F6 p0 i34) + (F6 (F5 p0 (p1 &&& (3 : Int64))) i34)) + (F6 i3 i34)))])) _
      refine XS.iload X40.here hx rfl (hb hby at_214) rfl ?_
      show Steps p.tables e below (T40.setTop (mkF m 216 #[.val (.int p0), .val (.long p1), .second, .val (.int p2), .val (.int p3), .val (.int p0), .val (.int (F5 p0 (p1 &&& (3 : Int64)))), .val (.int i3), .val (.int i5), .val (.int i8), .val (.int i10), .val (.ref b11), .val (.int i26), .val (.int i34), .val (.int i35), .val (.int i37), .unset, .unset, .unset] [(.int i5), (.int (((F6 p0 i34) + (F6 (F5 p0 (p1 &&& (3 : Int64))) i34)) + (F6 i3 i34)))])) _
      refine XS.iload X40.here hx rfl (hb hby at_216) rfl ?_
      show Steps p.tables e below (T40.setTop (mkF m 218 #[.val (.int p0), .val (.long p1), .second, .val (.int p2), .val (.int p3), .val (.int p0), .val (.int (F5 p0 (p1 &&& (3 : Int64)))), .val (.int i3), .val (.int i5), .val (.int i8), .val (.int i10), .val (.ref b11), .val (.int i26), .val (.int i34), .val (.int i35), .val (.int i37), .unset, .unset, .unset] [(.int i34), (.int i5), (.int (((F6 p0 i34) + (F6 (F5 p0 (p1 &&& (3 : Int64))) i34)) + (F6 i3 i34)))])) _
      refine st41 _ ?_
      show Steps p.tables e below (T41.setTop (mkF m 221 #[.val (.int p0), .val (.long p1), .second, .val (.int p2), .val (.int p3), .val (.int p0), .val (.int (F5 p0 (p1 &&& (3 : Int64)))), .val (.int i3), .val (.int i5), .val (.int i8), .val (.int i10), .val (.ref b11), .val (.int i26), .val (.int i34), .val (.int i35), .val (.int i37), .unset, .unset, .unset] [(.int (F6 i5 i34)), (.int (((F6 p0 i34) + (F6 (F5 p0 (p1 &&& (3 : Int64))) i34)) + (F6 i3 i34)))])) _
      refine XS.iadd X41.here hx rfl (hb hby at_221) rfl ?_
      show Steps p.tables e below (T41.setTop (mkF m 222 #[.val (.int p0), .val (.long p1), .second, .val (.int p2), .val (.int p3), .val (.int p0), .val (.int (F5 p0 (p1 &&& (3 : Int64)))), .val (.int i3), .val (.int i5), .val (.int i8), .val (.int i10), .val (.ref b11), .val (.int i26), .val (.int i34), .val (.int i35), .val (.int i37), .unset, .unset, .unset] [(.int ((((F6 p0 i34) + (F6 (F5 p0 (p1 &&& (3 : Int64))) i34)) + (F6 i3 i34)) + (F6 i5 i34)))])) _
      refine XS.iload X41.here hx rfl (hb hby at_222) rfl ?_
      show Steps p.tables e below (T41.setTop (mkF m 224 #[.val (.int p0), .val (.long p1), .second, .val (.int p2), .val (.int p3), .val (.int p0), .val (.int (F5 p0 (p1 &&& (3 : Int64)))), .val (.int i3), .val (.int i5), .val (.int i8), .val (.int i10), .val (.ref b11), .val (.int i26), .val (.int i34), .val (.int i35), .val (.int i37), .unset, .unset, .unset] [(.int i8), (.int ((((F6 p0 i34) + (F6 (F5 p0 (p1 &&& (3 : Int64))) i34)) + (F6 i3 i34)) + (F6 i5 i34)))])) _
      refine XS.iload X41.here hx rfl (hb hby at_224) rfl ?_
      show Steps p.tables e below (T41.setTop (mkF m 226 #[.val (.int p0), .val (.long p1), .second, .val (.int p2), .val (.int p3), .val (.int p0), .val (.int (F5 p0 (p1 &&& (3 : Int64)))), .val (.int i3), .val (.int i5), .val (.int i8), .val (.int i10), .val (.ref b11), .val (.int i26), .val (.int i34), .val (.int i35), .val (.int i37), .unset, .unset, .unset] [(.int i34), (.int i8), (.int ((((F6 p0 i34) + (F6 (F5 p0 (p1 &&& (3 : Int64))) i34)) + (F6 i3 i34)) + (F6 i5 i34)))])) _
      refine st42 _ ?_
      show Steps p.tables e below (T42.setTop (mkF m 229 #[.val (.int p0), .val (.long p1), .second, .val (.int p2), .val (.int p3), .val (.int p0), .val (.int (F5 p0 (p1 &&& (3 : Int64)))), .val (.int i3), .val (.int i5), .val (.int i8), .val (.int i10), .val (.ref b11), .val (.int i26), .val (.int i34), .val (.int i35), .val (.int i37), .unset, .unset, .unset] [(.int (F6 i8 i34)), (.int ((((F6 p0 i34) + (F6 (F5 p0 (p1 &&& (3 : Int64))) i34)) + (F6 i3 i34)) + (F6 i5 i34)))])) _
      refine XS.iadd X42.here hx rfl (hb hby at_229) rfl ?_
      show Steps p.tables e below (T42.setTop (mkF m 230 #[.val (.int p0), .val (.long p1), .second, .val (.int p2), .val (.int p3), .val (.int p0), .val (.int (F5 p0 (p1 &&& (3 : Int64)))), .val (.int i3), .val (.int i5), .val (.int i8), .val (.int i10), .val (.ref b11), .val (.int i26), .val (.int i34), .val (.int i35), .val (.int i37), .unset, .unset, .unset] [(.int (((((F6 p0 i34) + (F6 (F5 p0 (p1 &&& (3 : Int64))) i34)) + (F6 i3 i34)) + (F6 i5 i34)) + (F6 i8 i34)))])) _
      refine XS.iload X42.here hx rfl (hb hby at_230) rfl ?_
      show Steps p.tables e below (T42.setTop (mkF m 232 #[.val (.int p0), .val (.long p1), .second, .val (.int p2), .val (.int p3), .val (.int p0), .val (.int (F5 p0 (p1 &&& (3 : Int64)))), .val (.int i3), .val (.int i5), .val (.int i8), .val (.int i10), .val (.ref b11), .val (.int i26), .val (.int i34), .val (.int i35), .val (.int i37), .unset, .unset, .unset] [(.int i10), (.int (((((F6 p0 i34) + (F6 (F5 p0 (p1 &&& (3 : Int64))) i34)) + (F6 i3 i34)) + (F6 i5 i34)) + (F6 i8 i34)))])) _
      refine XS.iload X42.here hx rfl (hb hby at_232) rfl ?_
      show Steps p.tables e below (T42.setTop (mkF m 234 #[.val (.int p0), .val (.long p1), .second, .val (.int p2), .val (.int p3), .val (.int p0), .val (.int (F5 p0 (p1 &&& (3 : Int64)))), .val (.int i3), .val (.int i5), .val (.int i8), .val (.int i10), .val (.ref b11), .val (.int i26), .val (.int i34), .val (.int i35), .val (.int i37), .unset, .unset, .unset] [(.int i34), (.int i10), (.int (((((F6 p0 i34) + (F6 (F5 p0 (p1 &&& (3 : Int64))) i34)) + (F6 i3 i34)) + (F6 i5 i34)) + (F6 i8 i34)))])) _
      exact kk
    obtain ⟨_, _, ⟨T44, L44, k44, n44⟩, -, X44, ⟨Lc44, hQ44, l44, y44, z44⟩, st44⟩ := Jvm.LawKit.callS X42 hx (y := (⟨"org/wayfold/graph/GraphLastAtMostPinLaw", "le", "(II)I"⟩ : MethodName)) hown (mvT hZ (hw _ (List.mem_of_getElem? (i := 16) rfl))) (mvT hZ (hw _ (List.mem_of_getElem? (i := 17) rfl))) (mvT hZ (hw _ (List.mem_of_getElem? (i := 3) rfl))) (mvT hZ (hw _ (List.mem_of_getElem? (i := 18) rfl))) (by decide) (backOf (W := 1) (rm6 l Z a0 hw [] i10 i34 h24 n0 z32 ) hZ (hw _ (List.mem_of_getElem? (i := 18) rfl)) (hw _ (List.mem_of_getElem? (i := 3) rfl)) (by decide) (by decide)) (g := (mkF m 234 #[.val (.int p0), .val (.long p1), .second, .val (.int p2), .val (.int p3), .val (.int p0), .val (.int (F5 p0 (p1 &&& (3 : Int64)))), .val (.int i3), .val (.int i5), .val (.int i8), .val (.int i10), .val (.ref b11), .val (.int i26), .val (.int i34), .val (.int i35), .val (.int i37), .unset, .unset, .unset] [(.int i34), (.int i10), (.int (((((F6 p0 i34) + (F6 (F5 p0 (p1 &&& (3 : Int64))) i34)) + (F6 i3 i34)) + (F6 i5 i34)) + (F6 i8 i34)))])) rfl (by rw [hml]; rfl) (argsL := [(.int i10), (.int i34)]) (rest := [(.int (((((F6 p0 i34) + (F6 (F5 p0 (p1 &&& (3 : Int64))) i34)) + (F6 i3 i34)) + (F6 i5 i34)) + (F6 i8 i34)))]) (lenOf pd_2 rfl) rfl (by show 2 * 0 + _ ≤ _; exact Nat.le_of_eq rfl) (hb hby at_234) (fun _ _ => ⟨rfl, e42, (by decide : 1 + 0 ≤ _), (by decide : 6 + 0 ≤ _)⟩)
    dsimp only [Pt.U, Pt.locs, Pt.cells, Pt.slots] at X44 l44 y44 z44 st44 hQ44
    subst l44 y44 z44
    obtain ⟨rfl, Nq44, e44⟩ := hQ44
    have N44 := Fr.app N42 Nq44
    obtain ⟨i45, h_i45⟩ : ∃ z : Int32, z = ((((((F6 p0 i34) + (F6 (F5 p0 (p1 &&& (3 : Int64))) i34)) + (F6 i3 i34)) + (F6 i5 i34)) + (F6 i8 i34)) + (F6 i10 i34)) := ⟨_, rfl⟩
    obtain ⟨_, _, ⟨T46, L46, k46, n46⟩, -, X46, ⟨Lc46, hQ46, l46, y46, z46⟩, st46⟩ := Jvm.LawKit.callS X44 hx (y := (⟨"java/lang/Math", "min", "(II)I"⟩ : MethodName)) hown (mvT hZ (hw _ (List.mem_of_getElem? (i := 19) rfl))) (mvT hZ (hw _ (List.mem_of_getElem? (i := 20) rfl))) (mvT hZ (hw _ (List.mem_of_getElem? (i := 8) rfl))) (mvT hZ (hw _ (List.mem_of_getElem? (i := 21) rfl))) (by decide) (backOf (W := 1) (rm3 l Z a0 hw [] i37 (i45 - (1 : Int32)) h24 n0 z32 ) hZ (hw _ (List.mem_of_getElem? (i := 21) rfl)) (hw _ (List.mem_of_getElem? (i := 8) rfl)) (by decide) (by decide)) (g := (mkF m 248 #[.val (.int p0), .val (.long p1), .second, .val (.int p2), .val (.int p3), .val (.int p0), .val (.int (F5 p0 (p1 &&& (3 : Int64)))), .val (.int i3), .val (.int i5), .val (.int i8), .val (.int i10), .val (.ref b11), .val (.int i26), .val (.int i34), .val (.int i35), .val (.int i37), .val (.int i45), .unset, .unset] [(.int (i45 - (1 : Int32))), (.int i37), (.int i35)])) rfl (by rw [hml]; rfl) (argsL := [(.int i37), (.int (i45 - (1 : Int32)))]) (rest := [(.int i35)]) (lenOf pd_2 rfl) rfl (by show 2 * 0 + _ ≤ _; exact Nat.le_of_eq rfl) (hb hby at_248) (fun _ _ => ⟨rfl, e44, (by decide : 1 + 0 ≤ _), (by decide : 6 + 0 ≤ _)⟩)
    dsimp only [Pt.U, Pt.locs, Pt.cells, Pt.slots] at X46 l46 y46 z46 st46 hQ46
    subst l46 y46 z46
    obtain ⟨rfl, Nq46, e46⟩ := hQ46
    have N46 := Fr.app N44 Nq46
    obtain ⟨_, _, ⟨T47, L47, k47, n47⟩, -, X47, ⟨Lc47, hQ47, l47, y47, z47⟩, st47⟩ := Jvm.LawKit.callS X46 hx (y := (⟨"java/lang/Math", "max", "(II)I"⟩ : MethodName)) hown (mvT hZ (hw _ (List.mem_of_getElem? (i := 22) rfl))) (mvT hZ (hw _ (List.mem_of_getElem? (i := 23) rfl))) (mvT hZ (hw _ (List.mem_of_getElem? (i := 8) rfl))) (mvT hZ (hw _ (List.mem_of_getElem? (i := 24) rfl))) (by decide) (backOf (W := 0) (rm4 l Z a0 hw [] i35 (F3 i37 (i45 - (1 : Int32))) h24 n0 z32 ) hZ (hw _ (List.mem_of_getElem? (i := 24) rfl)) (hw _ (List.mem_of_getElem? (i := 8) rfl)) (by decide) (by decide)) (g := (mkF m 251 #[.val (.int p0), .val (.long p1), .second, .val (.int p2), .val (.int p3), .val (.int p0), .val (.int (F5 p0 (p1 &&& (3 : Int64)))), .val (.int i3), .val (.int i5), .val (.int i8), .val (.int i10), .val (.ref b11), .val (.int i26), .val (.int i34), .val (.int i35), .val (.int i37), .val (.int i45), .unset, .unset] [(.int (F3 i37 (i45 - (1 : Int32)))), (.int i35)])) rfl (by rw [hml]; rfl) (argsL := [(.int i35), (.int (F3 i37 (i45 - (1 : Int32))))]) (rest := []) (lenOf pd_2 rfl) rfl (by show 2 * 0 + _ ≤ _; exact Nat.le_of_eq rfl) (hb hby at_251) (fun _ _ => ⟨rfl, e46, (by decide : 1 + 0 ≤ _), (by decide : 6 + 0 ≤ _)⟩)
    dsimp only [Pt.U, Pt.locs, Pt.cells, Pt.slots] at X47 l47 y47 z47 st47 hQ47
    subst l47 y47 z47
    obtain ⟨rfl, Nq47, e47⟩ := hQ47
    have N47 := Fr.app N46 Nq47
    obtain ⟨_, _, ⟨T48, L48, k48, n48⟩, -, X48, ⟨Lc48, hQ48, l48, y48, z48⟩, st48⟩ := Jvm.LawKit.callS X47 hx (y := (⟨"org/wayfold/graph/Graph", "lastAtMost", "([IIII)I"⟩ : MethodName)) hown (mvT hZ (hw _ (List.mem_of_getElem? (i := 25) rfl))) (mvT hZ (hw _ (List.mem_of_getElem? (i := 26) rfl))) (mvT hZ (hw _ (List.mem_of_getElem? (i := 27) rfl))) (mvT hZ (hw _ (List.mem_of_getElem? (i := 28) rfl))) (by decide) (backOf (W := 0) (rm7 l Z a0 hw [] b11 i35 i37 i34 k11 [(.int p0), (.int (F5 p0 (p1 &&& (3 : Int64)))), (.int i3), (.int i5), (.int i8), (.int i10)] (.int (0 : Int32)) (own_f p0 (F5 p0 (p1 &&& (3 : Int64))) i3 i5 i8 i10) h24 n0 z32 V24 (own_fv p0 (F5 p0 (p1 &&& (3 : Int64))) i3 i5 i8 i10 _) (own_fs p0 (F5 p0 (p1 &&& (3 : Int64))) i3 i5 i8 i10 (own_up _ _) (by rw [h_i3]; exact own_up _ _) (by rw [h_i5]; exact own_up _ _) (by rw [h_i8]; exact own_up _ _) (by rw [h_i10]; exact own_up _ _)) (by rw [h_i35]; exact own_frm p3) (by rw [h_i37]; exact own_to p3)) hZ (hw _ (List.mem_of_getElem? (i := 28) rfl)) (hw _ (List.mem_of_getElem? (i := 27) rfl)) (by decide) (by decide)) (g := (mkF m 264 #[.val (.int p0), .val (.long p1), .second, .val (.int p2), .val (.int p3), .val (.int p0), .val (.int (F5 p0 (p1 &&& (3 : Int64)))), .val (.int i3), .val (.int i5), .val (.int i8), .val (.int i10), .val (.ref b11), .val (.int i26), .val (.int i34), .val (.int i35), .val (.int i37), .val (.int i45), .val (.int (F4 i35 (F3 i37 (i45 - (1 : Int32))))), .unset] [(.int i34), (.int i37), (.int i35), (.ref b11)])) rfl (by rw [hml]; rfl) (argsL := [(.ref b11), (.int i35), (.int i37), (.int i34)]) (rest := []) (lenOf pd_3 rfl) rfl (by show 2 * 0 + _ ≤ _; exact Nat.le_of_eq rfl) (hb hby at_264) (fun _ _ => ⟨rfl, e47, (by decide : 1 + 0 ≤ _), (by decide : 6 + 0 ≤ _)⟩)
    dsimp only [Pt.U, Pt.locs, Pt.cells, Pt.slots] at X48 l48 y48 z48 st48 hQ48
    subst l48 y48 z48
    obtain ⟨r_48, rfl, Nq48, e48, q48_0⟩ := hQ48
    have N48 := Fr.app N47 Nq48
    have P49 : ∀ t, Steps p.tables e below (T48.setTop (mkF m 273 #[.val (.int p0), .val (.long p1), .second, .val (.int p2), .val (.int p3), .val (.int p0), .val (.int (F5 p0 (p1 &&& (3 : Int64)))), .val (.int i3), .val (.int i5), .val (.int i8), .val (.int i10), .val (.ref b11), .val (.int i26), .val (.int i34), .val (.int i35), .val (.int i37), .val (.int i45), .val (.int (F4 i35 (F3 i37 (i45 - (1 : Int32))))), .val (.int r_48)] [(.int (F4 i35 (F3 i37 (i45 - (1 : Int32))))), (.int r_48)])) t → Steps p.tables e below (s₁.setTop (entryFrame m #[(.int p0), (.long p1), (.int p2), (.int p3)] maxLocals)) t := by
      intro t kk
      refine P43 _ ?_
      show Steps p.tables e below (T42.setTop (mkF m 234 #[.val (.int p0), .val (.long p1), .second, .val (.int p2), .val (.int p3), .val (.int p0), .val (.int (F5 p0 (p1 &&& (3 : Int64)))), .val (.int i3), .val (.int i5), .val (.int i8), .val (.int i10), .val (.ref b11), .val (.int i26), .val (.int i34), .val (.int i35), .val (.int i37), .unset, .unset, .unset] [(.int i34), (.int i10), (.int (((((F6 p0 i34) + (F6 (F5 p0 (p1 &&& (3 : Int64))) i34)) + (F6 i3 i34)) + (F6 i5 i34)) + (F6 i8 i34)))])) _
      refine st44 _ ?_
      show Steps p.tables e below (T44.setTop (mkF m 237 #[.val (.int p0), .val (.long p1), .second, .val (.int p2), .val (.int p3), .val (.int p0), .val (.int (F5 p0 (p1 &&& (3 : Int64)))), .val (.int i3), .val (.int i5), .val (.int i8), .val (.int i10), .val (.ref b11), .val (.int i26), .val (.int i34), .val (.int i35), .val (.int i37), .unset, .unset, .unset] [(.int (F6 i10 i34)), (.int (((((F6 p0 i34) + (F6 (F5 p0 (p1 &&& (3 : Int64))) i34)) + (F6 i3 i34)) + (F6 i5 i34)) + (F6 i8 i34)))])) _
      refine XS.iadd X44.here hx rfl (hb hby at_237) rfl ?_
      show Steps p.tables e below (T44.setTop (mkF m 238 #[.val (.int p0), .val (.long p1), .second, .val (.int p2), .val (.int p3), .val (.int p0), .val (.int (F5 p0 (p1 &&& (3 : Int64)))), .val (.int i3), .val (.int i5), .val (.int i8), .val (.int i10), .val (.ref b11), .val (.int i26), .val (.int i34), .val (.int i35), .val (.int i37), .unset, .unset, .unset] [(.int ((((((F6 p0 i34) + (F6 (F5 p0 (p1 &&& (3 : Int64))) i34)) + (F6 i3 i34)) + (F6 i5 i34)) + (F6 i8 i34)) + (F6 i10 i34)))])) _
      rw [← h_i45]
      show Steps p.tables e below (T44.setTop (mkF m 238 #[.val (.int p0), .val (.long p1), .second, .val (.int p2), .val (.int p3), .val (.int p0), .val (.int (F5 p0 (p1 &&& (3 : Int64)))), .val (.int i3), .val (.int i5), .val (.int i8), .val (.int i10), .val (.ref b11), .val (.int i26), .val (.int i34), .val (.int i35), .val (.int i37), .unset, .unset, .unset] [(.int i45)])) _
      refine XS.istore X44.here hx rfl (hb hby at_238) rfl (l' := #[.val (.int p0), .val (.long p1), .second, .val (.int p2), .val (.int p3), .val (.int p0), .val (.int (F5 p0 (p1 &&& (3 : Int64)))), .val (.int i3), .val (.int i5), .val (.int i8), .val (.int i10), .val (.ref b11), .val (.int i26), .val (.int i34), .val (.int i35), .val (.int i37), .val (.int i45), .unset, .unset]) rfl ?_
      show Steps p.tables e below (T44.setTop (mkF m 240 #[.val (.int p0), .val (.long p1), .second, .val (.int p2), .val (.int p3), .val (.int p0), .val (.int (F5 p0 (p1 &&& (3 : Int64)))), .val (.int i3), .val (.int i5), .val (.int i8), .val (.int i10), .val (.ref b11), .val (.int i26), .val (.int i34), .val (.int i35), .val (.int i37), .val (.int i45), .unset, .unset] [])) _
      refine XS.iload X44.here hx rfl (hb hby at_240) rfl ?_
      show Steps p.tables e below (T44.setTop (mkF m 242 #[.val (.int p0), .val (.long p1), .second, .val (.int p2), .val (.int p3), .val (.int p0), .val (.int (F5 p0 (p1 &&& (3 : Int64)))), .val (.int i3), .val (.int i5), .val (.int i8), .val (.int i10), .val (.ref b11), .val (.int i26), .val (.int i34), .val (.int i35), .val (.int i37), .val (.int i45), .unset, .unset] [(.int i35)])) _
      refine XS.iload X44.here hx rfl (hb hby at_242) rfl ?_
      show Steps p.tables e below (T44.setTop (mkF m 244 #[.val (.int p0), .val (.long p1), .second, .val (.int p2), .val (.int p3), .val (.int p0), .val (.int (F5 p0 (p1 &&& (3 : Int64)))), .val (.int i3), .val (.int i5), .val (.int i8), .val (.int i10), .val (.ref b11), .val (.int i26), .val (.int i34), .val (.int i35), .val (.int i37), .val (.int i45), .unset, .unset] [(.int i37), (.int i35)])) _
      refine XS.iload X44.here hx rfl (hb hby at_244) rfl ?_
      show Steps p.tables e below (T44.setTop (mkF m 246 #[.val (.int p0), .val (.long p1), .second, .val (.int p2), .val (.int p3), .val (.int p0), .val (.int (F5 p0 (p1 &&& (3 : Int64)))), .val (.int i3), .val (.int i5), .val (.int i8), .val (.int i10), .val (.ref b11), .val (.int i26), .val (.int i34), .val (.int i35), .val (.int i37), .val (.int i45), .unset, .unset] [(.int i45), (.int i37), (.int i35)])) _
      refine XS.iconst X44.here hx rfl (hb hby at_246) ?_
      show Steps p.tables e below (T44.setTop (mkF m 247 #[.val (.int p0), .val (.long p1), .second, .val (.int p2), .val (.int p3), .val (.int p0), .val (.int (F5 p0 (p1 &&& (3 : Int64)))), .val (.int i3), .val (.int i5), .val (.int i8), .val (.int i10), .val (.ref b11), .val (.int i26), .val (.int i34), .val (.int i35), .val (.int i37), .val (.int i45), .unset, .unset] [(.int (1 : Int32)), (.int i45), (.int i37), (.int i35)])) _
      refine XS.isub X44.here hx rfl (hb hby at_247) rfl ?_
      show Steps p.tables e below (T44.setTop (mkF m 248 #[.val (.int p0), .val (.long p1), .second, .val (.int p2), .val (.int p3), .val (.int p0), .val (.int (F5 p0 (p1 &&& (3 : Int64)))), .val (.int i3), .val (.int i5), .val (.int i8), .val (.int i10), .val (.ref b11), .val (.int i26), .val (.int i34), .val (.int i35), .val (.int i37), .val (.int i45), .unset, .unset] [(.int (i45 - (1 : Int32))), (.int i37), (.int i35)])) _
      refine st46 _ ?_
      show Steps p.tables e below (T46.setTop (mkF m 251 #[.val (.int p0), .val (.long p1), .second, .val (.int p2), .val (.int p3), .val (.int p0), .val (.int (F5 p0 (p1 &&& (3 : Int64)))), .val (.int i3), .val (.int i5), .val (.int i8), .val (.int i10), .val (.ref b11), .val (.int i26), .val (.int i34), .val (.int i35), .val (.int i37), .val (.int i45), .unset, .unset] [(.int (F3 i37 (i45 - (1 : Int32)))), (.int i35)])) _
      refine st47 _ ?_
      show Steps p.tables e below (T47.setTop (mkF m 254 #[.val (.int p0), .val (.long p1), .second, .val (.int p2), .val (.int p3), .val (.int p0), .val (.int (F5 p0 (p1 &&& (3 : Int64)))), .val (.int i3), .val (.int i5), .val (.int i8), .val (.int i10), .val (.ref b11), .val (.int i26), .val (.int i34), .val (.int i35), .val (.int i37), .val (.int i45), .unset, .unset] [(.int (F4 i35 (F3 i37 (i45 - (1 : Int32)))))])) _
      refine XS.istore X47.here hx rfl (hb hby at_254) rfl (l' := #[.val (.int p0), .val (.long p1), .second, .val (.int p2), .val (.int p3), .val (.int p0), .val (.int (F5 p0 (p1 &&& (3 : Int64)))), .val (.int i3), .val (.int i5), .val (.int i8), .val (.int i10), .val (.ref b11), .val (.int i26), .val (.int i34), .val (.int i35), .val (.int i37), .val (.int i45), .val (.int (F4 i35 (F3 i37 (i45 - (1 : Int32))))), .unset]) rfl ?_
      show Steps p.tables e below (T47.setTop (mkF m 256 #[.val (.int p0), .val (.long p1), .second, .val (.int p2), .val (.int p3), .val (.int p0), .val (.int (F5 p0 (p1 &&& (3 : Int64)))), .val (.int i3), .val (.int i5), .val (.int i8), .val (.int i10), .val (.ref b11), .val (.int i26), .val (.int i34), .val (.int i35), .val (.int i37), .val (.int i45), .val (.int (F4 i35 (F3 i37 (i45 - (1 : Int32))))), .unset] [])) _
      refine XS.aload X47.here hx rfl (hb hby at_256) rfl rfl ?_
      show Steps p.tables e below (T47.setTop (mkF m 258 #[.val (.int p0), .val (.long p1), .second, .val (.int p2), .val (.int p3), .val (.int p0), .val (.int (F5 p0 (p1 &&& (3 : Int64)))), .val (.int i3), .val (.int i5), .val (.int i8), .val (.int i10), .val (.ref b11), .val (.int i26), .val (.int i34), .val (.int i35), .val (.int i37), .val (.int i45), .val (.int (F4 i35 (F3 i37 (i45 - (1 : Int32))))), .unset] [(.ref b11)])) _
      refine XS.iload X47.here hx rfl (hb hby at_258) rfl ?_
      show Steps p.tables e below (T47.setTop (mkF m 260 #[.val (.int p0), .val (.long p1), .second, .val (.int p2), .val (.int p3), .val (.int p0), .val (.int (F5 p0 (p1 &&& (3 : Int64)))), .val (.int i3), .val (.int i5), .val (.int i8), .val (.int i10), .val (.ref b11), .val (.int i26), .val (.int i34), .val (.int i35), .val (.int i37), .val (.int i45), .val (.int (F4 i35 (F3 i37 (i45 - (1 : Int32))))), .unset] [(.int i35), (.ref b11)])) _
      refine XS.iload X47.here hx rfl (hb hby at_260) rfl ?_
      show Steps p.tables e below (T47.setTop (mkF m 262 #[.val (.int p0), .val (.long p1), .second, .val (.int p2), .val (.int p3), .val (.int p0), .val (.int (F5 p0 (p1 &&& (3 : Int64)))), .val (.int i3), .val (.int i5), .val (.int i8), .val (.int i10), .val (.ref b11), .val (.int i26), .val (.int i34), .val (.int i35), .val (.int i37), .val (.int i45), .val (.int (F4 i35 (F3 i37 (i45 - (1 : Int32))))), .unset] [(.int i37), (.int i35), (.ref b11)])) _
      refine XS.iload X47.here hx rfl (hb hby at_262) rfl ?_
      show Steps p.tables e below (T47.setTop (mkF m 264 #[.val (.int p0), .val (.long p1), .second, .val (.int p2), .val (.int p3), .val (.int p0), .val (.int (F5 p0 (p1 &&& (3 : Int64)))), .val (.int i3), .val (.int i5), .val (.int i8), .val (.int i10), .val (.ref b11), .val (.int i26), .val (.int i34), .val (.int i35), .val (.int i37), .val (.int i45), .val (.int (F4 i35 (F3 i37 (i45 - (1 : Int32))))), .unset] [(.int i34), (.int i37), (.int i35), (.ref b11)])) _
      refine st48 _ ?_
      show Steps p.tables e below (T48.setTop (mkF m 267 #[.val (.int p0), .val (.long p1), .second, .val (.int p2), .val (.int p3), .val (.int p0), .val (.int (F5 p0 (p1 &&& (3 : Int64)))), .val (.int i3), .val (.int i5), .val (.int i8), .val (.int i10), .val (.ref b11), .val (.int i26), .val (.int i34), .val (.int i35), .val (.int i37), .val (.int i45), .val (.int (F4 i35 (F3 i37 (i45 - (1 : Int32))))), .unset] [(.int r_48)])) _
      refine XS.istore X48.here hx rfl (hb hby at_267) rfl (l' := #[.val (.int p0), .val (.long p1), .second, .val (.int p2), .val (.int p3), .val (.int p0), .val (.int (F5 p0 (p1 &&& (3 : Int64)))), .val (.int i3), .val (.int i5), .val (.int i8), .val (.int i10), .val (.ref b11), .val (.int i26), .val (.int i34), .val (.int i35), .val (.int i37), .val (.int i45), .val (.int (F4 i35 (F3 i37 (i45 - (1 : Int32))))), .val (.int r_48)]) rfl ?_
      show Steps p.tables e below (T48.setTop (mkF m 269 #[.val (.int p0), .val (.long p1), .second, .val (.int p2), .val (.int p3), .val (.int p0), .val (.int (F5 p0 (p1 &&& (3 : Int64)))), .val (.int i3), .val (.int i5), .val (.int i8), .val (.int i10), .val (.ref b11), .val (.int i26), .val (.int i34), .val (.int i35), .val (.int i37), .val (.int i45), .val (.int (F4 i35 (F3 i37 (i45 - (1 : Int32))))), .val (.int r_48)] [])) _
      refine XS.iload X48.here hx rfl (hb hby at_269) rfl ?_
      show Steps p.tables e below (T48.setTop (mkF m 271 #[.val (.int p0), .val (.long p1), .second, .val (.int p2), .val (.int p3), .val (.int p0), .val (.int (F5 p0 (p1 &&& (3 : Int64)))), .val (.int i3), .val (.int i5), .val (.int i8), .val (.int i10), .val (.ref b11), .val (.int i26), .val (.int i34), .val (.int i35), .val (.int i37), .val (.int i45), .val (.int (F4 i35 (F3 i37 (i45 - (1 : Int32))))), .val (.int r_48)] [(.int r_48)])) _
      refine XS.iload X48.here hx rfl (hb hby at_271) rfl ?_
      show Steps p.tables e below (T48.setTop (mkF m 273 #[.val (.int p0), .val (.long p1), .second, .val (.int p2), .val (.int p3), .val (.int p0), .val (.int (F5 p0 (p1 &&& (3 : Int64)))), .val (.int i3), .val (.int i5), .val (.int i8), .val (.int i10), .val (.ref b11), .val (.int i26), .val (.int i34), .val (.int i35), .val (.int i37), .val (.int i45), .val (.int (F4 i35 (F3 i37 (i45 - (1 : Int32))))), .val (.int r_48)] [(.int (F4 i35 (F3 i37 (i45 - (1 : Int32))))), (.int r_48)])) _
      exact kk
    obtain ⟨i50, h_i50, P51⟩ : ∃ (i50 : Int32), i50 = (if r_48 = (F4 i35 (F3 i37 (i45 - (1 : Int32)))) then (1 : Int32) else (0 : Int32)) ∧ ∀ t, Steps p.tables e below (T48.setTop (mkF m 281 #[.val (.int p0), .val (.long p1), .second, .val (.int p2), .val (.int p3), .val (.int p0), .val (.int (F5 p0 (p1 &&& (3 : Int64)))), .val (.int i3), .val (.int i5), .val (.int i8), .val (.int i10), .val (.ref b11), .val (.int i26), .val (.int i34), .val (.int i35), .val (.int i37), .val (.int i45), .val (.int (F4 i35 (F3 i37 (i45 - (1 : Int32))))), .val (.int r_48)] [(.int i50)])) t → Steps p.tables e below (s₁.setTop (entryFrame m #[(.int p0), (.long p1), (.int p2), (.int p3)] maxLocals)) t := by
      by_cases c52 : r_48 = (F4 i35 (F3 i37 (i45 - (1 : Int32))))
      · skip
        refine ⟨(1 : Int32), ((if_pos c52).trans rfl).symm, fun t kk => P49 t ?_⟩
        show Steps p.tables e below (T48.setTop (mkF m 273 #[.val (.int p0), .val (.long p1), .second, .val (.int p2), .val (.int p3), .val (.int p0), .val (.int (F5 p0 (p1 &&& (3 : Int64)))), .val (.int i3), .val (.int i5), .val (.int i8), .val (.int i10), .val (.ref b11), .val (.int i26), .val (.int i34), .val (.int i35), .val (.int i37), .val (.int i45), .val (.int (F4 i35 (F3 i37 (i45 - (1 : Int32))))), .val (.int r_48)] [(.int (F4 i35 (F3 i37 (i45 - (1 : Int32))))), (.int r_48)])) _
        refine XS.icmpNo X48.here hx rfl (hb hby at_273) rfl (XT.ii_ne_f c52) ?_
        show Steps p.tables e below (T48.setTop (mkF m 276 #[.val (.int p0), .val (.long p1), .second, .val (.int p2), .val (.int p3), .val (.int p0), .val (.int (F5 p0 (p1 &&& (3 : Int64)))), .val (.int i3), .val (.int i5), .val (.int i8), .val (.int i10), .val (.ref b11), .val (.int i26), .val (.int i34), .val (.int i35), .val (.int i37), .val (.int i45), .val (.int (F4 i35 (F3 i37 (i45 - (1 : Int32))))), .val (.int r_48)] [])) _
        refine XS.iconst X48.here hx rfl (hb hby at_276) ?_
        show Steps p.tables e below (T48.setTop (mkF m 277 #[.val (.int p0), .val (.long p1), .second, .val (.int p2), .val (.int p3), .val (.int p0), .val (.int (F5 p0 (p1 &&& (3 : Int64)))), .val (.int i3), .val (.int i5), .val (.int i8), .val (.int i10), .val (.ref b11), .val (.int i26), .val (.int i34), .val (.int i35), .val (.int i37), .val (.int i45), .val (.int (F4 i35 (F3 i37 (i45 - (1 : Int32))))), .val (.int r_48)] [(.int (1 : Int32))])) _
        refine XS.goto X48.here hx rfl (pc0 := 277) (pc' := 281) rfl (hb hby at_277) (by decide) (by decide) ?_
        show Steps p.tables e below (T48.setTop (mkF m 281 #[.val (.int p0), .val (.long p1), .second, .val (.int p2), .val (.int p3), .val (.int p0), .val (.int (F5 p0 (p1 &&& (3 : Int64)))), .val (.int i3), .val (.int i5), .val (.int i8), .val (.int i10), .val (.ref b11), .val (.int i26), .val (.int i34), .val (.int i35), .val (.int i37), .val (.int i45), .val (.int (F4 i35 (F3 i37 (i45 - (1 : Int32))))), .val (.int r_48)] [(.int (1 : Int32))])) _
        exact kk
      · skip
        refine ⟨(0 : Int32), ((if_neg c52).trans rfl).symm, fun t kk => P49 t ?_⟩
        show Steps p.tables e below (T48.setTop (mkF m 273 #[.val (.int p0), .val (.long p1), .second, .val (.int p2), .val (.int p3), .val (.int p0), .val (.int (F5 p0 (p1 &&& (3 : Int64)))), .val (.int i3), .val (.int i5), .val (.int i8), .val (.int i10), .val (.ref b11), .val (.int i26), .val (.int i34), .val (.int i35), .val (.int i37), .val (.int i45), .val (.int (F4 i35 (F3 i37 (i45 - (1 : Int32))))), .val (.int r_48)] [(.int (F4 i35 (F3 i37 (i45 - (1 : Int32))))), (.int r_48)])) _
        refine XS.icmpYes X48.here hx rfl (pc0 := 273) (pc' := 280) rfl (hb hby at_273) rfl (XT.ii_ne_t c52) (by decide) (by decide) ?_
        show Steps p.tables e below (T48.setTop (mkF m 280 #[.val (.int p0), .val (.long p1), .second, .val (.int p2), .val (.int p3), .val (.int p0), .val (.int (F5 p0 (p1 &&& (3 : Int64)))), .val (.int i3), .val (.int i5), .val (.int i8), .val (.int i10), .val (.ref b11), .val (.int i26), .val (.int i34), .val (.int i35), .val (.int i37), .val (.int i45), .val (.int (F4 i35 (F3 i37 (i45 - (1 : Int32))))), .val (.int r_48)] [])) _
        refine XS.iconst X48.here hx rfl (hb hby at_280) ?_
        show Steps p.tables e below (T48.setTop (mkF m 281 #[.val (.int p0), .val (.long p1), .second, .val (.int p2), .val (.int p3), .val (.int p0), .val (.int (F5 p0 (p1 &&& (3 : Int64)))), .val (.int i3), .val (.int i5), .val (.int i8), .val (.int i10), .val (.ref b11), .val (.int i26), .val (.int i34), .val (.int i35), .val (.int i37), .val (.int i45), .val (.int (F4 i35 (F3 i37 (i45 - (1 : Int32))))), .val (.int r_48)] [(.int (0 : Int32))])) _
        exact kk
    have P53 : ∀ t, Steps p.tables e below (T48.setTop (mkF m 281 #[.val (.int p0), .val (.long p1), .second, .val (.int p2), .val (.int p3), .val (.int p0), .val (.int (F5 p0 (p1 &&& (3 : Int64)))), .val (.int i3), .val (.int i5), .val (.int i8), .val (.int i10), .val (.ref b11), .val (.int i26), .val (.int i34), .val (.int i35), .val (.int i37), .val (.int i45), .val (.int (F4 i35 (F3 i37 (i45 - (1 : Int32))))), .val (.int r_48)] [(.int i50)])) t → Steps p.tables e below (s₁.setTop (entryFrame m #[(.int p0), (.long p1), (.int p2), (.int p3)] maxLocals)) t := by
      intro t kk
      refine P51 _ ?_
      show Steps p.tables e below (T48.setTop (mkF m 281 #[.val (.int p0), .val (.long p1), .second, .val (.int p2), .val (.int p3), .val (.int p0), .val (.int (F5 p0 (p1 &&& (3 : Int64)))), .val (.int i3), .val (.int i5), .val (.int i8), .val (.int i10), .val (.ref b11), .val (.int i26), .val (.int i34), .val (.int i35), .val (.int i37), .val (.int i45), .val (.int (F4 i35 (F3 i37 (i45 - (1 : Int32))))), .val (.int r_48)] [(.int i50)])) _
      exact kk
    obtain rfl : i50 = (1 : Int32) := own_plain0 p0 p1 p2 p3 i3 h_i3 i5 h_i5 i8 h_i8 i10 h_i10 i26 h_i26 i34 h_i34 i35 h_i35 i37 h_i37 i45 h_i45 r_48  i50 h_i50 c30 q48_0
    obtain ⟨fs, hr, hrun, hended, hW, hsame⟩ := X48.leave (v := some (.int (1 : Int32))) (fun h => by rw [Bd.returns] at h; cases h)
    refine ⟨_, _, P53 _ ?_, hrun, hended, _, _, rfl, ?_, ⟨_, rfl⟩, hW, hsame.mono (by decide) (by decide)⟩
    · exact retN X48 hx (t := .boolean) Bd.returns (by simp) (hb hby at_281) hr
    · exact ⟨rfl, N48⟩
  · skip
    obtain ⟨i54, h_i54⟩ : ∃ z : Int32, z = (((((p3).toUInt32 >>> ((1 : Int32) &&& 31).toUInt32).toInt32) &&& (7 : Int32)) % (6 : Int32)) := ⟨_, rfl⟩
    obtain ⟨i55, h_i55⟩ : ∃ z : Int32, z = ((((((p3).toUInt32 >>> ((4 : Int32) &&& 31).toUInt32).toInt32) &&& (7 : Int32)) % (7 : Int32)) - (1 : Int32)) := ⟨_, rfl⟩
    have z57 : n0 ≤ _ := (Nat.le_trans (Nat.le_trans (Nat.le_trans (Nat.le_trans (Nat.le_trans (Nat.le_trans (Nat.le_trans Z0 E11.1) (Keep.of_wr W13).1) (Keep.of_wr W15).1) (Keep.of_wr W17).1) (Keep.of_wr W20).1) (Keep.of_wr W22).1) (Keep.of_wr W24).1)
    obtain ⟨_, _, ⟨T56, L56, k56, n56⟩, -, X56, ⟨Lc56, hQ56, l56, y56, z56⟩, st56⟩ := Jvm.LawKit.callS X24 hx (y := (⟨"org/wayfold/graph/GraphLastAtMostPinLaw", "le", "(II)I"⟩ : MethodName)) hown (mvT hZ (hw _ (List.mem_of_getElem? (i := 16) rfl))) (mvT hZ (hw _ (List.mem_of_getElem? (i := 17) rfl))) (mvT hZ (hw _ (List.mem_of_getElem? (i := 3) rfl))) (mvT hZ (hw _ (List.mem_of_getElem? (i := 18) rfl))) (by decide) (backOf (W := 0) (rm6 l Z a0 hw [] p0 p2 h24 n0 z57 ) hZ (hw _ (List.mem_of_getElem? (i := 18) rfl)) (hw _ (List.mem_of_getElem? (i := 3) rfl)) (by decide) (by decide)) (g := (mkF m 195 #[.val (.int p0), .val (.long p1), .second, .val (.int p2), .val (.int p3), .val (.int p0), .val (.int (F5 p0 (p1 &&& (3 : Int64)))), .val (.int i3), .val (.int i5), .val (.int i8), .val (.int i10), .val (.ref b11), .val (.int i26), .val (.int p2), .val (.int i54), .val (.int i55), .unset, .unset, .unset] [(.int p2), (.int p0)])) rfl (by rw [hml]; rfl) (argsL := [(.int p0), (.int p2)]) (rest := []) (lenOf pd_2 rfl) rfl (by show 2 * 0 + _ ≤ _; exact Nat.le_of_eq rfl) (hb hby at_195) (fun _ _ => ⟨rfl, e24, (by decide : 1 + 0 ≤ _), (by decide : 6 + 0 ≤ _)⟩)
    dsimp only [Pt.U, Pt.locs, Pt.cells, Pt.slots] at X56 l56 y56 z56 st56 hQ56
    subst l56 y56 z56
    obtain ⟨rfl, Nq56, e56⟩ := hQ56
    have N56 := Fr.app N24 Nq56
    obtain ⟨_, _, ⟨T58, L58, k58, n58⟩, -, X58, ⟨Lc58, hQ58, l58, y58, z58⟩, st58⟩ := Jvm.LawKit.callS X56 hx (y := (⟨"org/wayfold/graph/GraphLastAtMostPinLaw", "le", "(II)I"⟩ : MethodName)) hown (mvT hZ (hw _ (List.mem_of_getElem? (i := 16) rfl))) (mvT hZ (hw _ (List.mem_of_getElem? (i := 17) rfl))) (mvT hZ (hw _ (List.mem_of_getElem? (i := 3) rfl))) (mvT hZ (hw _ (List.mem_of_getElem? (i := 18) rfl))) (by decide) (backOf (W := 1) (rm6 l Z a0 hw [] (F5 p0 (p1 &&& (3 : Int64))) p2 h24 n0 z57 ) hZ (hw _ (List.mem_of_getElem? (i := 18) rfl)) (hw _ (List.mem_of_getElem? (i := 3) rfl)) (by decide) (by decide)) (g := (mkF m 202 #[.val (.int p0), .val (.long p1), .second, .val (.int p2), .val (.int p3), .val (.int p0), .val (.int (F5 p0 (p1 &&& (3 : Int64)))), .val (.int i3), .val (.int i5), .val (.int i8), .val (.int i10), .val (.ref b11), .val (.int i26), .val (.int p2), .val (.int i54), .val (.int i55), .unset, .unset, .unset] [(.int p2), (.int (F5 p0 (p1 &&& (3 : Int64)))), (.int (F6 p0 p2))])) rfl (by rw [hml]; rfl) (argsL := [(.int (F5 p0 (p1 &&& (3 : Int64)))), (.int p2)]) (rest := [(.int (F6 p0 p2))]) (lenOf pd_2 rfl) rfl (by show 2 * 0 + _ ≤ _; exact Nat.le_of_eq rfl) (hb hby at_202) (fun _ _ => ⟨rfl, e56, (by decide : 1 + 0 ≤ _), (by decide : 6 + 0 ≤ _)⟩)
    dsimp only [Pt.U, Pt.locs, Pt.cells, Pt.slots] at X58 l58 y58 z58 st58 hQ58
    subst l58 y58 z58
    obtain ⟨rfl, Nq58, e58⟩ := hQ58
    have N58 := Fr.app N56 Nq58
    have P59 : ∀ t, Steps p.tables e below (T58.setTop (mkF m 205 #[.val (.int p0), .val (.long p1), .second, .val (.int p2), .val (.int p3), .val (.int p0), .val (.int (F5 p0 (p1 &&& (3 : Int64)))), .val (.int i3), .val (.int i5), .val (.int i8), .val (.int i10), .val (.ref b11), .val (.int i26), .val (.int p2), .val (.int i54), .val (.int i55), .unset, .unset, .unset] [(.int (F6 (F5 p0 (p1 &&& (3 : Int64))) p2)), (.int (F6 p0 p2))])) t → Steps p.tables e below (s₁.setTop (entryFrame m #[(.int p0), (.long p1), (.int p2), (.int p3)] maxLocals)) t := by
      intro t kk
      refine P29 _ ?_
      show Steps p.tables e below (T24.setTop (mkF m 125 #[.val (.int p0), .val (.long p1), .second, .val (.int p2), .val (.int p3), .val (.int p0), .val (.int (F5 p0 (p1 &&& (3 : Int64)))), .val (.int i3), .val (.int i5), .val (.int i8), .val (.int i10), .val (.ref b11), .val (.int i26), .unset, .unset, .unset, .unset, .unset, .unset] [(.int i26)])) _
      refine XS.ifNo X24.here hx rfl (hb hby at_125) rfl (XT.i0_eq_f c30) ?_
      show Steps p.tables e below (T24.setTop (mkF m 128 #[.val (.int p0), .val (.long p1), .second, .val (.int p2), .val (.int p3), .val (.int p0), .val (.int (F5 p0 (p1 &&& (3 : Int64)))), .val (.int i3), .val (.int i5), .val (.int i8), .val (.int i10), .val (.ref b11), .val (.int i26), .unset, .unset, .unset, .unset, .unset, .unset] [])) _
      refine XS.iloadN X24.here hx rfl (hb hby at_128) rfl ?_
      show Steps p.tables e below (T24.setTop (mkF m 129 #[.val (.int p0), .val (.long p1), .second, .val (.int p2), .val (.int p3), .val (.int p0), .val (.int (F5 p0 (p1 &&& (3 : Int64)))), .val (.int i3), .val (.int i5), .val (.int i8), .val (.int i10), .val (.ref b11), .val (.int i26), .unset, .unset, .unset, .unset, .unset, .unset] [(.int p2)])) _
      refine XS.istore X24.here hx rfl (hb hby at_129) rfl (l' := #[.val (.int p0), .val (.long p1), .second, .val (.int p2), .val (.int p3), .val (.int p0), .val (.int (F5 p0 (p1 &&& (3 : Int64)))), .val (.int i3), .val (.int i5), .val (.int i8), .val (.int i10), .val (.ref b11), .val (.int i26), .val (.int p2), .unset, .unset, .unset, .unset, .unset]) rfl ?_
      show Steps p.tables e below (T24.setTop (mkF m 131 #[.val (.int p0), .val (.long p1), .second, .val (.int p2), .val (.int p3), .val (.int p0), .val (.int (F5 p0 (p1 &&& (3 : Int64)))), .val (.int i3), .val (.int i5), .val (.int i8), .val (.int i10), .val (.ref b11), .val (.int i26), .val (.int p2), .unset, .unset, .unset, .unset, .unset] [])) _
      refine XS.goto X24.here hx rfl (pc0 := 131) (pc' := 165) rfl (hb hby at_131) (by decide) (by decide) ?_
      show Steps p.tables e below (T24.setTop (mkF m 165 #[.val (.int p0), .val (.long p1), .second, .val (.int p2), .val (.int p3), .val (.int p0), .val (.int (F5 p0 (p1 &&& (3 : Int64)))), .val (.int i3), .val (.int i5), .val (.int i8), .val (.int i10), .val (.ref b11), .val (.int i26), .val (.int p2), .unset, .unset, .unset, .unset, .unset] [])) _
      refine XS.iload X24.here hx rfl (hb hby at_165) rfl ?_
      show Steps p.tables e below (T24.setTop (mkF m 167 #[.val (.int p0), .val (.long p1), .second, .val (.int p2), .val (.int p3), .val (.int p0), .val (.int (F5 p0 (p1 &&& (3 : Int64)))), .val (.int i3), .val (.int i5), .val (.int i8), .val (.int i10), .val (.ref b11), .val (.int i26), .val (.int p2), .unset, .unset, .unset, .unset, .unset] [(.int p3)])) _
      refine XS.iconst X24.here hx rfl (hb hby at_167) ?_
      show Steps p.tables e below (T24.setTop (mkF m 168 #[.val (.int p0), .val (.long p1), .second, .val (.int p2), .val (.int p3), .val (.int p0), .val (.int (F5 p0 (p1 &&& (3 : Int64)))), .val (.int i3), .val (.int i5), .val (.int i8), .val (.int i10), .val (.ref b11), .val (.int i26), .val (.int p2), .unset, .unset, .unset, .unset, .unset] [(.int (1 : Int32)), (.int p3)])) _
      refine XS.iushr X24.here hx rfl (hb hby at_168) rfl ?_
      show Steps p.tables e below (T24.setTop (mkF m 169 #[.val (.int p0), .val (.long p1), .second, .val (.int p2), .val (.int p3), .val (.int p0), .val (.int (F5 p0 (p1 &&& (3 : Int64)))), .val (.int i3), .val (.int i5), .val (.int i8), .val (.int i10), .val (.ref b11), .val (.int i26), .val (.int p2), .unset, .unset, .unset, .unset, .unset] [(.int (((p3).toUInt32 >>> ((1 : Int32) &&& 31).toUInt32).toInt32))])) _
      refine XS.bipush X24.here hx rfl (hb hby at_169) ?_
      show Steps p.tables e below (T24.setTop (mkF m 171 #[.val (.int p0), .val (.long p1), .second, .val (.int p2), .val (.int p3), .val (.int p0), .val (.int (F5 p0 (p1 &&& (3 : Int64)))), .val (.int i3), .val (.int i5), .val (.int i8), .val (.int i10), .val (.ref b11), .val (.int i26), .val (.int p2), .unset, .unset, .unset, .unset, .unset] [(.int (7 : Int32)), (.int (((p3).toUInt32 >>> ((1 : Int32) &&& 31).toUInt32).toInt32))])) _
      refine XS.iand X24.here hx rfl (hb hby at_171) rfl ?_
      show Steps p.tables e below (T24.setTop (mkF m 172 #[.val (.int p0), .val (.long p1), .second, .val (.int p2), .val (.int p3), .val (.int p0), .val (.int (F5 p0 (p1 &&& (3 : Int64)))), .val (.int i3), .val (.int i5), .val (.int i8), .val (.int i10), .val (.ref b11), .val (.int i26), .val (.int p2), .unset, .unset, .unset, .unset, .unset] [(.int ((((p3).toUInt32 >>> ((1 : Int32) &&& 31).toUInt32).toInt32) &&& (7 : Int32)))])) _
      refine XS.bipush X24.here hx rfl (hb hby at_172) ?_
      show Steps p.tables e below (T24.setTop (mkF m 174 #[.val (.int p0), .val (.long p1), .second, .val (.int p2), .val (.int p3), .val (.int p0), .val (.int (F5 p0 (p1 &&& (3 : Int64)))), .val (.int i3), .val (.int i5), .val (.int i8), .val (.int i10), .val (.ref b11), .val (.int i26), .val (.int p2), .unset, .unset, .unset, .unset, .unset] [(.int (6 : Int32)), (.int ((((p3).toUInt32 >>> ((1 : Int32) &&& 31).toUInt32).toInt32) &&& (7 : Int32)))])) _
      refine iremM (g := (mkF m 174 #[.val (.int p0), .val (.long p1), .second, .val (.int p2), .val (.int p3), .val (.int p0), .val (.int (F5 p0 (p1 &&& (3 : Int64)))), .val (.int i3), .val (.int i5), .val (.int i8), .val (.int i10), .val (.ref b11), .val (.int i26), .val (.int p2), .unset, .unset, .unset, .unset, .unset] [(.int (6 : Int32)), (.int ((((p3).toUInt32 >>> ((1 : Int32) &&& 31).toUInt32).toInt32) &&& (7 : Int32)))])) X24 hx rfl (hb hby at_174) rfl (by decide) ?_
      show Steps p.tables e below (T24.setTop (mkF m 175 #[.val (.int p0), .val (.long p1), .second, .val (.int p2), .val (.int p3), .val (.int p0), .val (.int (F5 p0 (p1 &&& (3 : Int64)))), .val (.int i3), .val (.int i5), .val (.int i8), .val (.int i10), .val (.ref b11), .val (.int i26), .val (.int p2), .unset, .unset, .unset, .unset, .unset] [(.int (((((p3).toUInt32 >>> ((1 : Int32) &&& 31).toUInt32).toInt32) &&& (7 : Int32)) % (6 : Int32)))])) _
      rw [← h_i54]
      show Steps p.tables e below (T24.setTop (mkF m 175 #[.val (.int p0), .val (.long p1), .second, .val (.int p2), .val (.int p3), .val (.int p0), .val (.int (F5 p0 (p1 &&& (3 : Int64)))), .val (.int i3), .val (.int i5), .val (.int i8), .val (.int i10), .val (.ref b11), .val (.int i26), .val (.int p2), .unset, .unset, .unset, .unset, .unset] [(.int i54)])) _
      refine XS.istore X24.here hx rfl (hb hby at_175) rfl (l' := #[.val (.int p0), .val (.long p1), .second, .val (.int p2), .val (.int p3), .val (.int p0), .val (.int (F5 p0 (p1 &&& (3 : Int64)))), .val (.int i3), .val (.int i5), .val (.int i8), .val (.int i10), .val (.ref b11), .val (.int i26), .val (.int p2), .val (.int i54), .unset, .unset, .unset, .unset]) rfl ?_
      show Steps p.tables e below (T24.setTop (mkF m 177 #[.val (.int p0), .val (.long p1), .second, .val (.int p2), .val (.int p3), .val (.int p0), .val (.int (F5 p0 (p1 &&& (3 : Int64)))), .val (.int i3), .val (.int i5), .val (.int i8), .val (.int i10), .val (.ref b11), .val (.int i26), .val (.int p2), .val (.int i54), .unset, .unset, .unset, .unset] [])) _
      refine XS.iload X24.here hx rfl (hb hby at_177) rfl ?_
      show Steps p.tables e below (T24.setTop (mkF m 179 #[.val (.int p0), .val (.long p1), .second, .val (.int p2), .val (.int p3), .val (.int p0), .val (.int (F5 p0 (p1 &&& (3 : Int64)))), .val (.int i3), .val (.int i5), .val (.int i8), .val (.int i10), .val (.ref b11), .val (.int i26), .val (.int p2), .val (.int i54), .unset, .unset, .unset, .unset] [(.int p3)])) _
      refine XS.iconst X24.here hx rfl (hb hby at_179) ?_
      show Steps p.tables e below (T24.setTop (mkF m 180 #[.val (.int p0), .val (.long p1), .second, .val (.int p2), .val (.int p3), .val (.int p0), .val (.int (F5 p0 (p1 &&& (3 : Int64)))), .val (.int i3), .val (.int i5), .val (.int i8), .val (.int i10), .val (.ref b11), .val (.int i26), .val (.int p2), .val (.int i54), .unset, .unset, .unset, .unset] [(.int (4 : Int32)), (.int p3)])) _
      refine XS.iushr X24.here hx rfl (hb hby at_180) rfl ?_
      show Steps p.tables e below (T24.setTop (mkF m 181 #[.val (.int p0), .val (.long p1), .second, .val (.int p2), .val (.int p3), .val (.int p0), .val (.int (F5 p0 (p1 &&& (3 : Int64)))), .val (.int i3), .val (.int i5), .val (.int i8), .val (.int i10), .val (.ref b11), .val (.int i26), .val (.int p2), .val (.int i54), .unset, .unset, .unset, .unset] [(.int (((p3).toUInt32 >>> ((4 : Int32) &&& 31).toUInt32).toInt32))])) _
      refine XS.bipush X24.here hx rfl (hb hby at_181) ?_
      show Steps p.tables e below (T24.setTop (mkF m 183 #[.val (.int p0), .val (.long p1), .second, .val (.int p2), .val (.int p3), .val (.int p0), .val (.int (F5 p0 (p1 &&& (3 : Int64)))), .val (.int i3), .val (.int i5), .val (.int i8), .val (.int i10), .val (.ref b11), .val (.int i26), .val (.int p2), .val (.int i54), .unset, .unset, .unset, .unset] [(.int (7 : Int32)), (.int (((p3).toUInt32 >>> ((4 : Int32) &&& 31).toUInt32).toInt32))])) _
      refine XS.iand X24.here hx rfl (hb hby at_183) rfl ?_
      show Steps p.tables e below (T24.setTop (mkF m 184 #[.val (.int p0), .val (.long p1), .second, .val (.int p2), .val (.int p3), .val (.int p0), .val (.int (F5 p0 (p1 &&& (3 : Int64)))), .val (.int i3), .val (.int i5), .val (.int i8), .val (.int i10), .val (.ref b11), .val (.int i26), .val (.int p2), .val (.int i54), .unset, .unset, .unset, .unset] [(.int ((((p3).toUInt32 >>> ((4 : Int32) &&& 31).toUInt32).toInt32) &&& (7 : Int32)))])) _
      refine XS.bipush X24.here hx rfl (hb hby at_184) ?_
      show Steps p.tables e below (T24.setTop (mkF m 186 #[.val (.int p0), .val (.long p1), .second, .val (.int p2), .val (.int p3), .val (.int p0), .val (.int (F5 p0 (p1 &&& (3 : Int64)))), .val (.int i3), .val (.int i5), .val (.int i8), .val (.int i10), .val (.ref b11), .val (.int i26), .val (.int p2), .val (.int i54), .unset, .unset, .unset, .unset] [(.int (7 : Int32)), (.int ((((p3).toUInt32 >>> ((4 : Int32) &&& 31).toUInt32).toInt32) &&& (7 : Int32)))])) _
      refine iremM (g := (mkF m 186 #[.val (.int p0), .val (.long p1), .second, .val (.int p2), .val (.int p3), .val (.int p0), .val (.int (F5 p0 (p1 &&& (3 : Int64)))), .val (.int i3), .val (.int i5), .val (.int i8), .val (.int i10), .val (.ref b11), .val (.int i26), .val (.int p2), .val (.int i54), .unset, .unset, .unset, .unset] [(.int (7 : Int32)), (.int ((((p3).toUInt32 >>> ((4 : Int32) &&& 31).toUInt32).toInt32) &&& (7 : Int32)))])) X24 hx rfl (hb hby at_186) rfl (by decide) ?_
      show Steps p.tables e below (T24.setTop (mkF m 187 #[.val (.int p0), .val (.long p1), .second, .val (.int p2), .val (.int p3), .val (.int p0), .val (.int (F5 p0 (p1 &&& (3 : Int64)))), .val (.int i3), .val (.int i5), .val (.int i8), .val (.int i10), .val (.ref b11), .val (.int i26), .val (.int p2), .val (.int i54), .unset, .unset, .unset, .unset] [(.int (((((p3).toUInt32 >>> ((4 : Int32) &&& 31).toUInt32).toInt32) &&& (7 : Int32)) % (7 : Int32)))])) _
      refine XS.iconst X24.here hx rfl (hb hby at_187) ?_
      show Steps p.tables e below (T24.setTop (mkF m 188 #[.val (.int p0), .val (.long p1), .second, .val (.int p2), .val (.int p3), .val (.int p0), .val (.int (F5 p0 (p1 &&& (3 : Int64)))), .val (.int i3), .val (.int i5), .val (.int i8), .val (.int i10), .val (.ref b11), .val (.int i26), .val (.int p2), .val (.int i54), .unset, .unset, .unset, .unset] [(.int (1 : Int32)), (.int (((((p3).toUInt32 >>> ((4 : Int32) &&& 31).toUInt32).toInt32) &&& (7 : Int32)) % (7 : Int32)))])) _
      refine XS.isub X24.here hx rfl (hb hby at_188) rfl ?_
      show Steps p.tables e below (T24.setTop (mkF m 189 #[.val (.int p0), .val (.long p1), .second, .val (.int p2), .val (.int p3), .val (.int p0), .val (.int (F5 p0 (p1 &&& (3 : Int64)))), .val (.int i3), .val (.int i5), .val (.int i8), .val (.int i10), .val (.ref b11), .val (.int i26), .val (.int p2), .val (.int i54), .unset, .unset, .unset, .unset] [(.int ((((((p3).toUInt32 >>> ((4 : Int32) &&& 31).toUInt32).toInt32) &&& (7 : Int32)) % (7 : Int32)) - (1 : Int32)))])) _
      rw [← h_i55]
      show Steps p.tables e below (T24.setTop (mkF m 189 #[.val (.int p0), .val (.long p1), .second, .val (.int p2), .val (.int p3), .val (.int p0), .val (.int (F5 p0 (p1 &&& (3 : Int64)))), .val (.int i3), .val (.int i5), .val (.int i8), .val (.int i10), .val (.ref b11), .val (.int i26), .val (.int p2), .val (.int i54), .unset, .unset, .unset, .unset] [(.int i55)])) _
      refine XS.istore X24.here hx rfl (hb hby at_189) rfl (l' := #[.val (.int p0), .val (.long p1), .second, .val (.int p2), .val (.int p3), .val (.int p0), .val (.int (F5 p0 (p1 &&& (3 : Int64)))), .val (.int i3), .val (.int i5), .val (.int i8), .val (.int i10), .val (.ref b11), .val (.int i26), .val (.int p2), .val (.int i54), .val (.int i55), .unset, .unset, .unset]) rfl ?_
      show Steps p.tables e below (T24.setTop (mkF m 191 #[.val (.int p0), .val (.long p1), .second, .val (.int p2), .val (.int p3), .val (.int p0), .val (.int (F5 p0 (p1 &&& (3 : Int64)))), .val (.int i3), .val (.int i5), .val (.int i8), .val (.int i10), .val (.ref b11), .val (.int i26), .val (.int p2), .val (.int i54), .val (.int i55), .unset, .unset, .unset] [])) _
      refine XS.iload X24.here hx rfl (hb hby at_191) rfl ?_
      show Steps p.tables e below (T24.setTop (mkF m 193 #[.val (.int p0), .val (.long p1), .second, .val (.int p2), .val (.int p3), .val (.int p0), .val (.int (F5 p0 (p1 &&& (3 : Int64)))), .val (.int i3), .val (.int i5), .val (.int i8), .val (.int i10), .val (.ref b11), .val (.int i26), .val (.int p2), .val (.int i54), .val (.int i55), .unset, .unset, .unset] [(.int p0)])) _
      refine XS.iload X24.here hx rfl (hb hby at_193) rfl ?_
      show Steps p.tables e below (T24.setTop (mkF m 195 #[.val (.int p0), .val (.long p1), .second, .val (.int p2), .val (.int p3), .val (.int p0), .val (.int (F5 p0 (p1 &&& (3 : Int64)))), .val (.int i3), .val (.int i5), .val (.int i8), .val (.int i10), .val (.ref b11), .val (.int i26), .val (.int p2), .val (.int i54), .val (.int i55), .unset, .unset, .unset] [(.int p2), (.int p0)])) _
      refine st56 _ ?_
      show Steps p.tables e below (T56.setTop (mkF m 198 #[.val (.int p0), .val (.long p1), .second, .val (.int p2), .val (.int p3), .val (.int p0), .val (.int (F5 p0 (p1 &&& (3 : Int64)))), .val (.int i3), .val (.int i5), .val (.int i8), .val (.int i10), .val (.ref b11), .val (.int i26), .val (.int p2), .val (.int i54), .val (.int i55), .unset, .unset, .unset] [(.int (F6 p0 p2))])) _
      refine XS.iload X56.here hx rfl (hb hby at_198) rfl ?_
      show Steps p.tables e below (T56.setTop (mkF m 200 #[.val (.int p0), .val (.long p1), .second, .val (.int p2), .val (.int p3), .val (.int p0), .val (.int (F5 p0 (p1 &&& (3 : Int64)))), .val (.int i3), .val (.int i5), .val (.int i8), .val (.int i10), .val (.ref b11), .val (.int i26), .val (.int p2), .val (.int i54), .val (.int i55), .unset, .unset, .unset] [(.int (F5 p0 (p1 &&& (3 : Int64)))), (.int (F6 p0 p2))])) _
      refine XS.iload X56.here hx rfl (hb hby at_200) rfl ?_
      show Steps p.tables e below (T56.setTop (mkF m 202 #[.val (.int p0), .val (.long p1), .second, .val (.int p2), .val (.int p3), .val (.int p0), .val (.int (F5 p0 (p1 &&& (3 : Int64)))), .val (.int i3), .val (.int i5), .val (.int i8), .val (.int i10), .val (.ref b11), .val (.int i26), .val (.int p2), .val (.int i54), .val (.int i55), .unset, .unset, .unset] [(.int p2), (.int (F5 p0 (p1 &&& (3 : Int64)))), (.int (F6 p0 p2))])) _
      refine st58 _ ?_
      show Steps p.tables e below (T58.setTop (mkF m 205 #[.val (.int p0), .val (.long p1), .second, .val (.int p2), .val (.int p3), .val (.int p0), .val (.int (F5 p0 (p1 &&& (3 : Int64)))), .val (.int i3), .val (.int i5), .val (.int i8), .val (.int i10), .val (.ref b11), .val (.int i26), .val (.int p2), .val (.int i54), .val (.int i55), .unset, .unset, .unset] [(.int (F6 (F5 p0 (p1 &&& (3 : Int64))) p2)), (.int (F6 p0 p2))])) _
      exact kk
    obtain ⟨_, _, ⟨T60, L60, k60, n60⟩, -, X60, ⟨Lc60, hQ60, l60, y60, z60⟩, st60⟩ := Jvm.LawKit.callS X58 hx (y := (⟨"org/wayfold/graph/GraphLastAtMostPinLaw", "le", "(II)I"⟩ : MethodName)) hown (mvT hZ (hw _ (List.mem_of_getElem? (i := 16) rfl))) (mvT hZ (hw _ (List.mem_of_getElem? (i := 17) rfl))) (mvT hZ (hw _ (List.mem_of_getElem? (i := 3) rfl))) (mvT hZ (hw _ (List.mem_of_getElem? (i := 18) rfl))) (by decide) (backOf (W := 1) (rm6 l Z a0 hw [] i3 p2 h24 n0 z57 ) hZ (hw _ (List.mem_of_getElem? (i := 18) rfl)) (hw _ (List.mem_of_getElem? (i := 3) rfl)) (by decide) (by decide)) (g := (mkF m 210 #[.val (.int p0), .val (.long p1), .second, .val (.int p2), .val (.int p3), .val (.int p0), .val (.int (F5 p0 (p1 &&& (3 : Int64)))), .val (.int i3), .val (.int i5), .val (.int i8), .val (.int i10), .val (.ref b11), .val (.int i26), .val (.int p2), .val (.int i54), .val (.int i55), .unset, .unset, .unset] [(.int p2), (.int i3), (.int ((F6 p0 p2) + (F6 (F5 p0 (p1 &&& (3 : Int64))) p2)))])) rfl (by rw [hml]; rfl) (argsL := [(.int i3), (.int p2)]) (rest := [(.int ((F6 p0 p2) + (F6 (F5 p0 (p1 &&& (3 : Int64))) p2)))]) (lenOf pd_2 rfl) rfl (by show 2 * 0 + _ ≤ _; exact Nat.le_of_eq rfl) (hb hby at_210) (fun _ _ => ⟨rfl, e58, (by decide : 1 + 0 ≤ _), (by decide : 6 + 0 ≤ _)⟩)
    dsimp only [Pt.U, Pt.locs, Pt.cells, Pt.slots] at X60 l60 y60 z60 st60 hQ60
    subst l60 y60 z60
    obtain ⟨rfl, Nq60, e60⟩ := hQ60
    have N60 := Fr.app N58 Nq60
    obtain ⟨_, _, ⟨T61, L61, k61, n61⟩, -, X61, ⟨Lc61, hQ61, l61, y61, z61⟩, st61⟩ := Jvm.LawKit.callS X60 hx (y := (⟨"org/wayfold/graph/GraphLastAtMostPinLaw", "le", "(II)I"⟩ : MethodName)) hown (mvT hZ (hw _ (List.mem_of_getElem? (i := 16) rfl))) (mvT hZ (hw _ (List.mem_of_getElem? (i := 17) rfl))) (mvT hZ (hw _ (List.mem_of_getElem? (i := 3) rfl))) (mvT hZ (hw _ (List.mem_of_getElem? (i := 18) rfl))) (by decide) (backOf (W := 1) (rm6 l Z a0 hw [] i5 p2 h24 n0 z57 ) hZ (hw _ (List.mem_of_getElem? (i := 18) rfl)) (hw _ (List.mem_of_getElem? (i := 3) rfl)) (by decide) (by decide)) (g := (mkF m 218 #[.val (.int p0), .val (.long p1), .second, .val (.int p2), .val (.int p3), .val (.int p0), .val (.int (F5 p0 (p1 &&& (3 : Int64)))), .val (.int i3), .val (.int i5), .val (.int i8), .val (.int i10), .val (.ref b11), .val (.int i26), .val (.int p2), .val (.int i54), .val (.int i55), .unset, .unset, .unset] [(.int p2), (.int i5), (.int (((F6 p0 p2) + (F6 (F5 p0 (p1 &&& (3 : Int64))) p2)) + (F6 i3 p2)))])) rfl (by rw [hml]; rfl) (argsL := [(.int i5), (.int p2)]) (rest := [(.int (((F6 p0 p2) + (F6 (F5 p0 (p1 &&& (3 : Int64))) p2)) + (F6 i3 p2)))]) (lenOf pd_2 rfl) rfl (by show 2 * 0 + _ ≤ _; exact Nat.le_of_eq rfl) (hb hby at_218) (fun _ _ => ⟨rfl, e60, (by decide : 1 + 0 ≤ _), (by decide : 6 + 0 ≤ _)⟩)
    dsimp only [Pt.U, Pt.locs, Pt.cells, Pt.slots] at X61 l61 y61 z61 st61 hQ61
    subst l61 y61 z61
    obtain ⟨rfl, Nq61, e61⟩ := hQ61
    have N61 := Fr.app N60 Nq61
    obtain ⟨_, _, ⟨T62, L62, k62, n62⟩, -, X62, ⟨Lc62, hQ62, l62, y62, z62⟩, st62⟩ := Jvm.LawKit.callS X61 hx (y := (⟨"org/wayfold/graph/GraphLastAtMostPinLaw", "le", "(II)I"⟩ : MethodName)) hown (mvT hZ (hw _ (List.mem_of_getElem? (i := 16) rfl))) (mvT hZ (hw _ (List.mem_of_getElem? (i := 17) rfl))) (mvT hZ (hw _ (List.mem_of_getElem? (i := 3) rfl))) (mvT hZ (hw _ (List.mem_of_getElem? (i := 18) rfl))) (by decide) (backOf (W := 1) (rm6 l Z a0 hw [] i8 p2 h24 n0 z57 ) hZ (hw _ (List.mem_of_getElem? (i := 18) rfl)) (hw _ (List.mem_of_getElem? (i := 3) rfl)) (by decide) (by decide)) (g := (mkF m 226 #[.val (.int p0), .val (.long p1), .second, .val (.int p2), .val (.int p3), .val (.int p0), .val (.int (F5 p0 (p1 &&& (3 : Int64)))), .val (.int i3), .val (.int i5), .val (.int i8), .val (.int i10), .val (.ref b11), .val (.int i26), .val (.int p2), .val (.int i54), .val (.int i55), .unset, .unset, .unset] [(.int p2), (.int i8), (.int ((((F6 p0 p2) + (F6 (F5 p0 (p1 &&& (3 : Int64))) p2)) + (F6 i3 p2)) + (F6 i5 p2)))])) rfl (by rw [hml]; rfl) (argsL := [(.int i8), (.int p2)]) (rest := [(.int ((((F6 p0 p2) + (F6 (F5 p0 (p1 &&& (3 : Int64))) p2)) + (F6 i3 p2)) + (F6 i5 p2)))]) (lenOf pd_2 rfl) rfl (by show 2 * 0 + _ ≤ _; exact Nat.le_of_eq rfl) (hb hby at_226) (fun _ _ => ⟨rfl, e61, (by decide : 1 + 0 ≤ _), (by decide : 6 + 0 ≤ _)⟩)
    dsimp only [Pt.U, Pt.locs, Pt.cells, Pt.slots] at X62 l62 y62 z62 st62 hQ62
    subst l62 y62 z62
    obtain ⟨rfl, Nq62, e62⟩ := hQ62
    have N62 := Fr.app N61 Nq62
    obtain ⟨_, _, ⟨T63, L63, k63, n63⟩, -, X63, ⟨Lc63, hQ63, l63, y63, z63⟩, st63⟩ := Jvm.LawKit.callS X62 hx (y := (⟨"org/wayfold/graph/GraphLastAtMostPinLaw", "le", "(II)I"⟩ : MethodName)) hown (mvT hZ (hw _ (List.mem_of_getElem? (i := 16) rfl))) (mvT hZ (hw _ (List.mem_of_getElem? (i := 17) rfl))) (mvT hZ (hw _ (List.mem_of_getElem? (i := 3) rfl))) (mvT hZ (hw _ (List.mem_of_getElem? (i := 18) rfl))) (by decide) (backOf (W := 1) (rm6 l Z a0 hw [] i10 p2 h24 n0 z57 ) hZ (hw _ (List.mem_of_getElem? (i := 18) rfl)) (hw _ (List.mem_of_getElem? (i := 3) rfl)) (by decide) (by decide)) (g := (mkF m 234 #[.val (.int p0), .val (.long p1), .second, .val (.int p2), .val (.int p3), .val (.int p0), .val (.int (F5 p0 (p1 &&& (3 : Int64)))), .val (.int i3), .val (.int i5), .val (.int i8), .val (.int i10), .val (.ref b11), .val (.int i26), .val (.int p2), .val (.int i54), .val (.int i55), .unset, .unset, .unset] [(.int p2), (.int i10), (.int (((((F6 p0 p2) + (F6 (F5 p0 (p1 &&& (3 : Int64))) p2)) + (F6 i3 p2)) + (F6 i5 p2)) + (F6 i8 p2)))])) rfl (by rw [hml]; rfl) (argsL := [(.int i10), (.int p2)]) (rest := [(.int (((((F6 p0 p2) + (F6 (F5 p0 (p1 &&& (3 : Int64))) p2)) + (F6 i3 p2)) + (F6 i5 p2)) + (F6 i8 p2)))]) (lenOf pd_2 rfl) rfl (by show 2 * 0 + _ ≤ _; exact Nat.le_of_eq rfl) (hb hby at_234) (fun _ _ => ⟨rfl, e62, (by decide : 1 + 0 ≤ _), (by decide : 6 + 0 ≤ _)⟩)
    dsimp only [Pt.U, Pt.locs, Pt.cells, Pt.slots] at X63 l63 y63 z63 st63 hQ63
    subst l63 y63 z63
    obtain ⟨rfl, Nq63, e63⟩ := hQ63
    have N63 := Fr.app N62 Nq63
    obtain ⟨i64, h_i64⟩ : ∃ z : Int32, z = ((((((F6 p0 p2) + (F6 (F5 p0 (p1 &&& (3 : Int64))) p2)) + (F6 i3 p2)) + (F6 i5 p2)) + (F6 i8 p2)) + (F6 i10 p2)) := ⟨_, rfl⟩
    obtain ⟨_, _, ⟨T65, L65, k65, n65⟩, -, X65, ⟨Lc65, hQ65, l65, y65, z65⟩, st65⟩ := Jvm.LawKit.callS X63 hx (y := (⟨"java/lang/Math", "min", "(II)I"⟩ : MethodName)) hown (mvT hZ (hw _ (List.mem_of_getElem? (i := 19) rfl))) (mvT hZ (hw _ (List.mem_of_getElem? (i := 20) rfl))) (mvT hZ (hw _ (List.mem_of_getElem? (i := 8) rfl))) (mvT hZ (hw _ (List.mem_of_getElem? (i := 21) rfl))) (by decide) (backOf (W := 1) (rm3 l Z a0 hw [] i55 (i64 - (1 : Int32)) h24 n0 z57 ) hZ (hw _ (List.mem_of_getElem? (i := 21) rfl)) (hw _ (List.mem_of_getElem? (i := 8) rfl)) (by decide) (by decide)) (g := (mkF m 248 #[.val (.int p0), .val (.long p1), .second, .val (.int p2), .val (.int p3), .val (.int p0), .val (.int (F5 p0 (p1 &&& (3 : Int64)))), .val (.int i3), .val (.int i5), .val (.int i8), .val (.int i10), .val (.ref b11), .val (.int i26), .val (.int p2), .val (.int i54), .val (.int i55), .val (.int i64), .unset, .unset] [(.int (i64 - (1 : Int32))), (.int i55), (.int i54)])) rfl (by rw [hml]; rfl) (argsL := [(.int i55), (.int (i64 - (1 : Int32)))]) (rest := [(.int i54)]) (lenOf pd_2 rfl) rfl (by show 2 * 0 + _ ≤ _; exact Nat.le_of_eq rfl) (hb hby at_248) (fun _ _ => ⟨rfl, e63, (by decide : 1 + 0 ≤ _), (by decide : 6 + 0 ≤ _)⟩)
    dsimp only [Pt.U, Pt.locs, Pt.cells, Pt.slots] at X65 l65 y65 z65 st65 hQ65
    subst l65 y65 z65
    obtain ⟨rfl, Nq65, e65⟩ := hQ65
    have N65 := Fr.app N63 Nq65
    obtain ⟨_, _, ⟨T66, L66, k66, n66⟩, -, X66, ⟨Lc66, hQ66, l66, y66, z66⟩, st66⟩ := Jvm.LawKit.callS X65 hx (y := (⟨"java/lang/Math", "max", "(II)I"⟩ : MethodName)) hown (mvT hZ (hw _ (List.mem_of_getElem? (i := 22) rfl))) (mvT hZ (hw _ (List.mem_of_getElem? (i := 23) rfl))) (mvT hZ (hw _ (List.mem_of_getElem? (i := 8) rfl))) (mvT hZ (hw _ (List.mem_of_getElem? (i := 24) rfl))) (by decide) (backOf (W := 0) (rm4 l Z a0 hw [] i54 (F3 i55 (i64 - (1 : Int32))) h24 n0 z57 ) hZ (hw _ (List.mem_of_getElem? (i := 24) rfl)) (hw _ (List.mem_of_getElem? (i := 8) rfl)) (by decide) (by decide)) (g := (mkF m 251 #[.val (.int p0), .val (.long p1), .second, .val (.int p2), .val (.int p3), .val (.int p0), .val (.int (F5 p0 (p1 &&& (3 : Int64)))), .val (.int i3), .val (.int i5), .val (.int i8), .val (.int i10), .val (.ref b11), .val (.int i26), .val (.int p2), .val (.int i54), .val (.int i55), .val (.int i64), .unset, .unset] [(.int (F3 i55 (i64 - (1 : Int32)))), (.int i54)])) rfl (by rw [hml]; rfl) (argsL := [(.int i54), (.int (F3 i55 (i64 - (1 : Int32))))]) (rest := []) (lenOf pd_2 rfl) rfl (by show 2 * 0 + _ ≤ _; exact Nat.le_of_eq rfl) (hb hby at_251) (fun _ _ => ⟨rfl, e65, (by decide : 1 + 0 ≤ _), (by decide : 6 + 0 ≤ _)⟩)
    dsimp only [Pt.U, Pt.locs, Pt.cells, Pt.slots] at X66 l66 y66 z66 st66 hQ66
    subst l66 y66 z66
    obtain ⟨rfl, Nq66, e66⟩ := hQ66
    have N66 := Fr.app N65 Nq66
    have P67 : ∀ t, Steps p.tables e below (T66.setTop (mkF m 262 #[.val (.int p0), .val (.long p1), .second, .val (.int p2), .val (.int p3), .val (.int p0), .val (.int (F5 p0 (p1 &&& (3 : Int64)))), .val (.int i3), .val (.int i5), .val (.int i8), .val (.int i10), .val (.ref b11), .val (.int i26), .val (.int p2), .val (.int i54), .val (.int i55), .val (.int i64), .val (.int (F4 i54 (F3 i55 (i64 - (1 : Int32))))), .unset] [(.int i55), (.int i54), (.ref b11)])) t → Steps p.tables e below (s₁.setTop (entryFrame m #[(.int p0), (.long p1), (.int p2), (.int p3)] maxLocals)) t := by
      intro t kk
      refine P59 _ ?_
      show Steps p.tables e below (T58.setTop (mkF m 205 #[.val (.int p0), .val (.long p1), .second, .val (.int p2), .val (.int p3), .val (.int p0), .val (.int (F5 p0 (p1 &&& (3 : Int64)))), .val (.int i3), .val (.int i5), .val (.int i8), .val (.int i10), .val (.ref b11), .val (.int i26), .val (.int p2), .val (.int i54), .val (.int i55), .unset, .unset, .unset] [(.int (F6 (F5 p0 (p1 &&& (3 : Int64))) p2)), (.int (F6 p0 p2))])) _
      refine XS.iadd X58.here hx rfl (hb hby at_205) rfl ?_
      show Steps p.tables e below (T58.setTop (mkF m 206 #[.val (.int p0), .val (.long p1), .second, .val (.int p2), .val (.int p3), .val (.int p0), .val (.int (F5 p0 (p1 &&& (3 : Int64)))), .val (.int i3), .val (.int i5), .val (.int i8), .val (.int i10), .val (.ref b11), .val (.int i26), .val (.int p2), .val (.int i54), .val (.int i55), .unset, .unset, .unset] [(.int ((F6 p0 p2) + (F6 (F5 p0 (p1 &&& (3 : Int64))) p2)))])) _
      refine XS.iload X58.here hx rfl (hb hby at_206) rfl ?_
      show Steps p.tables e below (T58.setTop (mkF m 208 #[.val (.int p0), .val (.long p1), .second, .val (.int p2), .val (.int p3), .val (.int p0), .val (.int (F5 p0 (p1 &&& (3 : Int64)))), .val (.int i3), .val (.int i5), .val (.int i8), .val (.int i10), .val (.ref b11), .val (.int i26), .val (.int p2), .val (.int i54), .val (.int i55), .unset, .unset, .unset] [(.int i3), (.int ((F6 p0 p2) + (F6 (F5 p0 (p1 &&& (3 : Int64))) p2)))])) _
      refine XS.iload X58.here hx rfl (hb hby at_208) rfl ?_
      show Steps p.tables e below (T58.setTop (mkF m 210 #[.val (.int p0), .val (.long p1), .second, .val (.int p2), .val (.int p3), .val (.int p0), .val (.int (F5 p0 (p1 &&& (3 : Int64)))), .val (.int i3), .val (.int i5), .val (.int i8), .val (.int i10), .val (.ref b11), .val (.int i26), .val (.int p2), .val (.int i54), .val (.int i55), .unset, .unset, .unset] [(.int p2), (.int i3), (.int ((F6 p0 p2) + (F6 (F5 p0 (p1 &&& (3 : Int64))) p2)))])) _
      refine st60 _ ?_
      show Steps p.tables e below (T60.setTop (mkF m 213 #[.val (.int p0), .val (.long p1), .second, .val (.int p2), .val (.int p3), .val (.int p0), .val (.int (F5 p0 (p1 &&& (3 : Int64)))), .val (.int i3), .val (.int i5), .val (.int i8), .val (.int i10), .val (.ref b11), .val (.int i26), .val (.int p2), .val (.int i54), .val (.int i55), .unset, .unset, .unset] [(.int (F6 i3 p2)), (.int ((F6 p0 p2) + (F6 (F5 p0 (p1 &&& (3 : Int64))) p2)))])) _
      refine XS.iadd X60.here hx rfl (hb hby at_213) rfl ?_
      show Steps p.tables e below (T60.setTop (mkF m 214 #[.val (.int p0), .val (.long p1), .second, .val (.int p2), .val (.int p3), .val (.int p0), .val (.int (F5 p0 (p1 &&& (3 : Int64)))), .val (.int i3), .val (.int i5), .val (.int i8), .val (.int i10), .val (.ref b11), .val (.int i26), .val (.int p2), .val (.int i54), .val (.int i55), .unset, .unset, .unset] [(.int (((F6 p0 p2) + (F6 (F5 p0 (p1 &&& (3 : Int64))) p2)) + (F6 i3 p2)))])) _
      refine XS.iload X60.here hx rfl (hb hby at_214) rfl ?_
      show Steps p.tables e below (T60.setTop (mkF m 216 #[.val (.int p0), .val (.long p1), .second, .val (.int p2), .val (.int p3), .val (.int p0), .val (.int (F5 p0 (p1 &&& (3 : Int64)))), .val (.int i3), .val (.int i5), .val (.int i8), .val (.int i10), .val (.ref b11), .val (.int i26), .val (.int p2), .val (.int i54), .val (.int i55), .unset, .unset, .unset] [(.int i5), (.int (((F6 p0 p2) + (F6 (F5 p0 (p1 &&& (3 : Int64))) p2)) + (F6 i3 p2)))])) _
      refine XS.iload X60.here hx rfl (hb hby at_216) rfl ?_
      show Steps p.tables e below (T60.setTop (mkF m 218 #[.val (.int p0), .val (.long p1), .second, .val (.int p2), .val (.int p3), .val (.int p0), .val (.int (F5 p0 (p1 &&& (3 : Int64)))), .val (.int i3), .val (.int i5), .val (.int i8), .val (.int i10), .val (.ref b11), .val (.int i26), .val (.int p2), .val (.int i54), .val (.int i55), .unset, .unset, .unset] [(.int p2), (.int i5), (.int (((F6 p0 p2) + (F6 (F5 p0 (p1 &&& (3 : Int64))) p2)) + (F6 i3 p2)))])) _
      refine st61 _ ?_
      show Steps p.tables e below (T61.setTop (mkF m 221 #[.val (.int p0), .val (.long p1), .second, .val (.int p2), .val (.int p3), .val (.int p0), .val (.int (F5 p0 (p1 &&& (3 : Int64)))), .val (.int i3), .val (.int i5), .val (.int i8), .val (.int i10), .val (.ref b11), .val (.int i26), .val (.int p2), .val (.int i54), .val (.int i55), .unset, .unset, .unset] [(.int (F6 i5 p2)), (.int (((F6 p0 p2) + (F6 (F5 p0 (p1 &&& (3 : Int64))) p2)) + (F6 i3 p2)))])) _
      refine XS.iadd X61.here hx rfl (hb hby at_221) rfl ?_
      show Steps p.tables e below (T61.setTop (mkF m 222 #[.val (.int p0), .val (.long p1), .second, .val (.int p2), .val (.int p3), .val (.int p0), .val (.int (F5 p0 (p1 &&& (3 : Int64)))), .val (.int i3), .val (.int i5), .val (.int i8), .val (.int i10), .val (.ref b11), .val (.int i26), .val (.int p2), .val (.int i54), .val (.int i55), .unset, .unset, .unset] [(.int ((((F6 p0 p2) + (F6 (F5 p0 (p1 &&& (3 : Int64))) p2)) + (F6 i3 p2)) + (F6 i5 p2)))])) _
      refine XS.iload X61.here hx rfl (hb hby at_222) rfl ?_
      show Steps p.tables e below (T61.setTop (mkF m 224 #[.val (.int p0), .val (.long p1), .second, .val (.int p2), .val (.int p3), .val (.int p0), .val (.int (F5 p0 (p1 &&& (3 : Int64)))), .val (.int i3), .val (.int i5), .val (.int i8), .val (.int i10), .val (.ref b11), .val (.int i26), .val (.int p2), .val (.int i54), .val (.int i55), .unset, .unset, .unset] [(.int i8), (.int ((((F6 p0 p2) + (F6 (F5 p0 (p1 &&& (3 : Int64))) p2)) + (F6 i3 p2)) + (F6 i5 p2)))])) _
      refine XS.iload X61.here hx rfl (hb hby at_224) rfl ?_
      show Steps p.tables e below (T61.setTop (mkF m 226 #[.val (.int p0), .val (.long p1), .second, .val (.int p2), .val (.int p3), .val (.int p0), .val (.int (F5 p0 (p1 &&& (3 : Int64)))), .val (.int i3), .val (.int i5), .val (.int i8), .val (.int i10), .val (.ref b11), .val (.int i26), .val (.int p2), .val (.int i54), .val (.int i55), .unset, .unset, .unset] [(.int p2), (.int i8), (.int ((((F6 p0 p2) + (F6 (F5 p0 (p1 &&& (3 : Int64))) p2)) + (F6 i3 p2)) + (F6 i5 p2)))])) _
      refine st62 _ ?_
      show Steps p.tables e below (T62.setTop (mkF m 229 #[.val (.int p0), .val (.long p1), .second, .val (.int p2), .val (.int p3), .val (.int p0), .val (.int (F5 p0 (p1 &&& (3 : Int64)))), .val (.int i3), .val (.int i5), .val (.int i8), .val (.int i10), .val (.ref b11), .val (.int i26), .val (.int p2), .val (.int i54), .val (.int i55), .unset, .unset, .unset] [(.int (F6 i8 p2)), (.int ((((F6 p0 p2) + (F6 (F5 p0 (p1 &&& (3 : Int64))) p2)) + (F6 i3 p2)) + (F6 i5 p2)))])) _
      refine XS.iadd X62.here hx rfl (hb hby at_229) rfl ?_
      show Steps p.tables e below (T62.setTop (mkF m 230 #[.val (.int p0), .val (.long p1), .second, .val (.int p2), .val (.int p3), .val (.int p0), .val (.int (F5 p0 (p1 &&& (3 : Int64)))), .val (.int i3), .val (.int i5), .val (.int i8), .val (.int i10), .val (.ref b11), .val (.int i26), .val (.int p2), .val (.int i54), .val (.int i55), .unset, .unset, .unset] [(.int (((((F6 p0 p2) + (F6 (F5 p0 (p1 &&& (3 : Int64))) p2)) + (F6 i3 p2)) + (F6 i5 p2)) + (F6 i8 p2)))])) _
      refine XS.iload X62.here hx rfl (hb hby at_230) rfl ?_
      show Steps p.tables e below (T62.setTop (mkF m 232 #[.val (.int p0), .val (.long p1), .second, .val (.int p2), .val (.int p3), .val (.int p0), .val (.int (F5 p0 (p1 &&& (3 : Int64)))), .val (.int i3), .val (.int i5), .val (.int i8), .val (.int i10), .val (.ref b11), .val (.int i26), .val (.int p2), .val (.int i54), .val (.int i55), .unset, .unset, .unset] [(.int i10), (.int (((((F6 p0 p2) + (F6 (F5 p0 (p1 &&& (3 : Int64))) p2)) + (F6 i3 p2)) + (F6 i5 p2)) + (F6 i8 p2)))])) _
      refine XS.iload X62.here hx rfl (hb hby at_232) rfl ?_
      show Steps p.tables e below (T62.setTop (mkF m 234 #[.val (.int p0), .val (.long p1), .second, .val (.int p2), .val (.int p3), .val (.int p0), .val (.int (F5 p0 (p1 &&& (3 : Int64)))), .val (.int i3), .val (.int i5), .val (.int i8), .val (.int i10), .val (.ref b11), .val (.int i26), .val (.int p2), .val (.int i54), .val (.int i55), .unset, .unset, .unset] [(.int p2), (.int i10), (.int (((((F6 p0 p2) + (F6 (F5 p0 (p1 &&& (3 : Int64))) p2)) + (F6 i3 p2)) + (F6 i5 p2)) + (F6 i8 p2)))])) _
      refine st63 _ ?_
      show Steps p.tables e below (T63.setTop (mkF m 237 #[.val (.int p0), .val (.long p1), .second, .val (.int p2), .val (.int p3), .val (.int p0), .val (.int (F5 p0 (p1 &&& (3 : Int64)))), .val (.int i3), .val (.int i5), .val (.int i8), .val (.int i10), .val (.ref b11), .val (.int i26), .val (.int p2), .val (.int i54), .val (.int i55), .unset, .unset, .unset] [(.int (F6 i10 p2)), (.int (((((F6 p0 p2) + (F6 (F5 p0 (p1 &&& (3 : Int64))) p2)) + (F6 i3 p2)) + (F6 i5 p2)) + (F6 i8 p2)))])) _
      refine XS.iadd X63.here hx rfl (hb hby at_237) rfl ?_
      show Steps p.tables e below (T63.setTop (mkF m 238 #[.val (.int p0), .val (.long p1), .second, .val (.int p2), .val (.int p3), .val (.int p0), .val (.int (F5 p0 (p1 &&& (3 : Int64)))), .val (.int i3), .val (.int i5), .val (.int i8), .val (.int i10), .val (.ref b11), .val (.int i26), .val (.int p2), .val (.int i54), .val (.int i55), .unset, .unset, .unset] [(.int ((((((F6 p0 p2) + (F6 (F5 p0 (p1 &&& (3 : Int64))) p2)) + (F6 i3 p2)) + (F6 i5 p2)) + (F6 i8 p2)) + (F6 i10 p2)))])) _
      rw [← h_i64]
      show Steps p.tables e below (T63.setTop (mkF m 238 #[.val (.int p0), .val (.long p1), .second, .val (.int p2), .val (.int p3), .val (.int p0), .val (.int (F5 p0 (p1 &&& (3 : Int64)))), .val (.int i3), .val (.int i5), .val (.int i8), .val (.int i10), .val (.ref b11), .val (.int i26), .val (.int p2), .val (.int i54), .val (.int i55), .unset, .unset, .unset] [(.int i64)])) _
      refine XS.istore X63.here hx rfl (hb hby at_238) rfl (l' := #[.val (.int p0), .val (.long p1), .second, .val (.int p2), .val (.int p3), .val (.int p0), .val (.int (F5 p0 (p1 &&& (3 : Int64)))), .val (.int i3), .val (.int i5), .val (.int i8), .val (.int i10), .val (.ref b11), .val (.int i26), .val (.int p2), .val (.int i54), .val (.int i55), .val (.int i64), .unset, .unset]) rfl ?_
      show Steps p.tables e below (T63.setTop (mkF m 240 #[.val (.int p0), .val (.long p1), .second, .val (.int p2), .val (.int p3), .val (.int p0), .val (.int (F5 p0 (p1 &&& (3 : Int64)))), .val (.int i3), .val (.int i5), .val (.int i8), .val (.int i10), .val (.ref b11), .val (.int i26), .val (.int p2), .val (.int i54), .val (.int i55), .val (.int i64), .unset, .unset] [])) _
      refine XS.iload X63.here hx rfl (hb hby at_240) rfl ?_
      show Steps p.tables e below (T63.setTop (mkF m 242 #[.val (.int p0), .val (.long p1), .second, .val (.int p2), .val (.int p3), .val (.int p0), .val (.int (F5 p0 (p1 &&& (3 : Int64)))), .val (.int i3), .val (.int i5), .val (.int i8), .val (.int i10), .val (.ref b11), .val (.int i26), .val (.int p2), .val (.int i54), .val (.int i55), .val (.int i64), .unset, .unset] [(.int i54)])) _
      refine XS.iload X63.here hx rfl (hb hby at_242) rfl ?_
      show Steps p.tables e below (T63.setTop (mkF m 244 #[.val (.int p0), .val (.long p1), .second, .val (.int p2), .val (.int p3), .val (.int p0), .val (.int (F5 p0 (p1 &&& (3 : Int64)))), .val (.int i3), .val (.int i5), .val (.int i8), .val (.int i10), .val (.ref b11), .val (.int i26), .val (.int p2), .val (.int i54), .val (.int i55), .val (.int i64), .unset, .unset] [(.int i55), (.int i54)])) _
      refine XS.iload X63.here hx rfl (hb hby at_244) rfl ?_
      show Steps p.tables e below (T63.setTop (mkF m 246 #[.val (.int p0), .val (.long p1), .second, .val (.int p2), .val (.int p3), .val (.int p0), .val (.int (F5 p0 (p1 &&& (3 : Int64)))), .val (.int i3), .val (.int i5), .val (.int i8), .val (.int i10), .val (.ref b11), .val (.int i26), .val (.int p2), .val (.int i54), .val (.int i55), .val (.int i64), .unset, .unset] [(.int i64), (.int i55), (.int i54)])) _
      refine XS.iconst X63.here hx rfl (hb hby at_246) ?_
      show Steps p.tables e below (T63.setTop (mkF m 247 #[.val (.int p0), .val (.long p1), .second, .val (.int p2), .val (.int p3), .val (.int p0), .val (.int (F5 p0 (p1 &&& (3 : Int64)))), .val (.int i3), .val (.int i5), .val (.int i8), .val (.int i10), .val (.ref b11), .val (.int i26), .val (.int p2), .val (.int i54), .val (.int i55), .val (.int i64), .unset, .unset] [(.int (1 : Int32)), (.int i64), (.int i55), (.int i54)])) _
      refine XS.isub X63.here hx rfl (hb hby at_247) rfl ?_
      show Steps p.tables e below (T63.setTop (mkF m 248 #[.val (.int p0), .val (.long p1), .second, .val (.int p2), .val (.int p3), .val (.int p0), .val (.int (F5 p0 (p1 &&& (3 : Int64)))), .val (.int i3), .val (.int i5), .val (.int i8), .val (.int i10), .val (.ref b11), .val (.int i26), .val (.int p2), .val (.int i54), .val (.int i55), .val (.int i64), .unset, .unset] [(.int (i64 - (1 : Int32))), (.int i55), (.int i54)])) _
      refine st65 _ ?_
      show Steps p.tables e below (T65.setTop (mkF m 251 #[.val (.int p0), .val (.long p1), .second, .val (.int p2), .val (.int p3), .val (.int p0), .val (.int (F5 p0 (p1 &&& (3 : Int64)))), .val (.int i3), .val (.int i5), .val (.int i8), .val (.int i10), .val (.ref b11), .val (.int i26), .val (.int p2), .val (.int i54), .val (.int i55), .val (.int i64), .unset, .unset] [(.int (F3 i55 (i64 - (1 : Int32)))), (.int i54)])) _
      refine st66 _ ?_
      show Steps p.tables e below (T66.setTop (mkF m 254 #[.val (.int p0), .val (.long p1), .second, .val (.int p2), .val (.int p3), .val (.int p0), .val (.int (F5 p0 (p1 &&& (3 : Int64)))), .val (.int i3), .val (.int i5), .val (.int i8), .val (.int i10), .val (.ref b11), .val (.int i26), .val (.int p2), .val (.int i54), .val (.int i55), .val (.int i64), .unset, .unset] [(.int (F4 i54 (F3 i55 (i64 - (1 : Int32)))))])) _
      refine XS.istore X66.here hx rfl (hb hby at_254) rfl (l' := #[.val (.int p0), .val (.long p1), .second, .val (.int p2), .val (.int p3), .val (.int p0), .val (.int (F5 p0 (p1 &&& (3 : Int64)))), .val (.int i3), .val (.int i5), .val (.int i8), .val (.int i10), .val (.ref b11), .val (.int i26), .val (.int p2), .val (.int i54), .val (.int i55), .val (.int i64), .val (.int (F4 i54 (F3 i55 (i64 - (1 : Int32))))), .unset]) rfl ?_
      show Steps p.tables e below (T66.setTop (mkF m 256 #[.val (.int p0), .val (.long p1), .second, .val (.int p2), .val (.int p3), .val (.int p0), .val (.int (F5 p0 (p1 &&& (3 : Int64)))), .val (.int i3), .val (.int i5), .val (.int i8), .val (.int i10), .val (.ref b11), .val (.int i26), .val (.int p2), .val (.int i54), .val (.int i55), .val (.int i64), .val (.int (F4 i54 (F3 i55 (i64 - (1 : Int32))))), .unset] [])) _
      refine XS.aload X66.here hx rfl (hb hby at_256) rfl rfl ?_
      show Steps p.tables e below (T66.setTop (mkF m 258 #[.val (.int p0), .val (.long p1), .second, .val (.int p2), .val (.int p3), .val (.int p0), .val (.int (F5 p0 (p1 &&& (3 : Int64)))), .val (.int i3), .val (.int i5), .val (.int i8), .val (.int i10), .val (.ref b11), .val (.int i26), .val (.int p2), .val (.int i54), .val (.int i55), .val (.int i64), .val (.int (F4 i54 (F3 i55 (i64 - (1 : Int32))))), .unset] [(.ref b11)])) _
      refine XS.iload X66.here hx rfl (hb hby at_258) rfl ?_
      show Steps p.tables e below (T66.setTop (mkF m 260 #[.val (.int p0), .val (.long p1), .second, .val (.int p2), .val (.int p3), .val (.int p0), .val (.int (F5 p0 (p1 &&& (3 : Int64)))), .val (.int i3), .val (.int i5), .val (.int i8), .val (.int i10), .val (.ref b11), .val (.int i26), .val (.int p2), .val (.int i54), .val (.int i55), .val (.int i64), .val (.int (F4 i54 (F3 i55 (i64 - (1 : Int32))))), .unset] [(.int i54), (.ref b11)])) _
      refine XS.iload X66.here hx rfl (hb hby at_260) rfl ?_
      show Steps p.tables e below (T66.setTop (mkF m 262 #[.val (.int p0), .val (.long p1), .second, .val (.int p2), .val (.int p3), .val (.int p0), .val (.int (F5 p0 (p1 &&& (3 : Int64)))), .val (.int i3), .val (.int i5), .val (.int i8), .val (.int i10), .val (.ref b11), .val (.int i26), .val (.int p2), .val (.int i54), .val (.int i55), .val (.int i64), .val (.int (F4 i54 (F3 i55 (i64 - (1 : Int32))))), .unset] [(.int i55), (.int i54), (.ref b11)])) _
      exact kk
    obtain ⟨_, _, ⟨T68, L68, k68, n68⟩, -, X68, ⟨Lc68, hQ68, l68, y68, z68⟩, st68⟩ := Jvm.LawKit.callS X66 hx (y := (⟨"org/wayfold/graph/Graph", "lastAtMost", "([IIII)I"⟩ : MethodName)) hown (mvT hZ (hw _ (List.mem_of_getElem? (i := 25) rfl))) (mvT hZ (hw _ (List.mem_of_getElem? (i := 26) rfl))) (mvT hZ (hw _ (List.mem_of_getElem? (i := 27) rfl))) (mvT hZ (hw _ (List.mem_of_getElem? (i := 28) rfl))) (by decide) (backOf (W := 0) (rm7 l Z a0 hw [] b11 i54 i55 p2 k11 [(.int p0), (.int (F5 p0 (p1 &&& (3 : Int64)))), (.int i3), (.int i5), (.int i8), (.int i10)] (.int (0 : Int32)) (own_f p0 (F5 p0 (p1 &&& (3 : Int64))) i3 i5 i8 i10) h24 n0 z57 V24 (own_fv p0 (F5 p0 (p1 &&& (3 : Int64))) i3 i5 i8 i10 _) (own_fs p0 (F5 p0 (p1 &&& (3 : Int64))) i3 i5 i8 i10 (own_up _ _) (by rw [h_i3]; exact own_up _ _) (by rw [h_i5]; exact own_up _ _) (by rw [h_i8]; exact own_up _ _) (by rw [h_i10]; exact own_up _ _)) (by rw [h_i54]; exact own_frm p3) (by rw [h_i55]; exact own_to p3)) hZ (hw _ (List.mem_of_getElem? (i := 28) rfl)) (hw _ (List.mem_of_getElem? (i := 27) rfl)) (by decide) (by decide)) (g := (mkF m 264 #[.val (.int p0), .val (.long p1), .second, .val (.int p2), .val (.int p3), .val (.int p0), .val (.int (F5 p0 (p1 &&& (3 : Int64)))), .val (.int i3), .val (.int i5), .val (.int i8), .val (.int i10), .val (.ref b11), .val (.int i26), .val (.int p2), .val (.int i54), .val (.int i55), .val (.int i64), .val (.int (F4 i54 (F3 i55 (i64 - (1 : Int32))))), .unset] [(.int p2), (.int i55), (.int i54), (.ref b11)])) rfl (by rw [hml]; rfl) (argsL := [(.ref b11), (.int i54), (.int i55), (.int p2)]) (rest := []) (lenOf pd_3 rfl) rfl (by show 2 * 0 + _ ≤ _; exact Nat.le_of_eq rfl) (hb hby at_264) (fun _ _ => ⟨rfl, e66, (by decide : 1 + 0 ≤ _), (by decide : 6 + 0 ≤ _)⟩)
    dsimp only [Pt.U, Pt.locs, Pt.cells, Pt.slots] at X68 l68 y68 z68 st68 hQ68
    subst l68 y68 z68
    obtain ⟨r_68, rfl, Nq68, e68, q68_0⟩ := hQ68
    have N68 := Fr.app N66 Nq68
    have P69 : ∀ t, Steps p.tables e below (T68.setTop (mkF m 273 #[.val (.int p0), .val (.long p1), .second, .val (.int p2), .val (.int p3), .val (.int p0), .val (.int (F5 p0 (p1 &&& (3 : Int64)))), .val (.int i3), .val (.int i5), .val (.int i8), .val (.int i10), .val (.ref b11), .val (.int i26), .val (.int p2), .val (.int i54), .val (.int i55), .val (.int i64), .val (.int (F4 i54 (F3 i55 (i64 - (1 : Int32))))), .val (.int r_68)] [(.int (F4 i54 (F3 i55 (i64 - (1 : Int32))))), (.int r_68)])) t → Steps p.tables e below (s₁.setTop (entryFrame m #[(.int p0), (.long p1), (.int p2), (.int p3)] maxLocals)) t := by
      intro t kk
      refine P67 _ ?_
      show Steps p.tables e below (T66.setTop (mkF m 262 #[.val (.int p0), .val (.long p1), .second, .val (.int p2), .val (.int p3), .val (.int p0), .val (.int (F5 p0 (p1 &&& (3 : Int64)))), .val (.int i3), .val (.int i5), .val (.int i8), .val (.int i10), .val (.ref b11), .val (.int i26), .val (.int p2), .val (.int i54), .val (.int i55), .val (.int i64), .val (.int (F4 i54 (F3 i55 (i64 - (1 : Int32))))), .unset] [(.int i55), (.int i54), (.ref b11)])) _
      refine XS.iload X66.here hx rfl (hb hby at_262) rfl ?_
      show Steps p.tables e below (T66.setTop (mkF m 264 #[.val (.int p0), .val (.long p1), .second, .val (.int p2), .val (.int p3), .val (.int p0), .val (.int (F5 p0 (p1 &&& (3 : Int64)))), .val (.int i3), .val (.int i5), .val (.int i8), .val (.int i10), .val (.ref b11), .val (.int i26), .val (.int p2), .val (.int i54), .val (.int i55), .val (.int i64), .val (.int (F4 i54 (F3 i55 (i64 - (1 : Int32))))), .unset] [(.int p2), (.int i55), (.int i54), (.ref b11)])) _
      refine st68 _ ?_
      show Steps p.tables e below (T68.setTop (mkF m 267 #[.val (.int p0), .val (.long p1), .second, .val (.int p2), .val (.int p3), .val (.int p0), .val (.int (F5 p0 (p1 &&& (3 : Int64)))), .val (.int i3), .val (.int i5), .val (.int i8), .val (.int i10), .val (.ref b11), .val (.int i26), .val (.int p2), .val (.int i54), .val (.int i55), .val (.int i64), .val (.int (F4 i54 (F3 i55 (i64 - (1 : Int32))))), .unset] [(.int r_68)])) _
      refine XS.istore X68.here hx rfl (hb hby at_267) rfl (l' := #[.val (.int p0), .val (.long p1), .second, .val (.int p2), .val (.int p3), .val (.int p0), .val (.int (F5 p0 (p1 &&& (3 : Int64)))), .val (.int i3), .val (.int i5), .val (.int i8), .val (.int i10), .val (.ref b11), .val (.int i26), .val (.int p2), .val (.int i54), .val (.int i55), .val (.int i64), .val (.int (F4 i54 (F3 i55 (i64 - (1 : Int32))))), .val (.int r_68)]) rfl ?_
      show Steps p.tables e below (T68.setTop (mkF m 269 #[.val (.int p0), .val (.long p1), .second, .val (.int p2), .val (.int p3), .val (.int p0), .val (.int (F5 p0 (p1 &&& (3 : Int64)))), .val (.int i3), .val (.int i5), .val (.int i8), .val (.int i10), .val (.ref b11), .val (.int i26), .val (.int p2), .val (.int i54), .val (.int i55), .val (.int i64), .val (.int (F4 i54 (F3 i55 (i64 - (1 : Int32))))), .val (.int r_68)] [])) _
      refine XS.iload X68.here hx rfl (hb hby at_269) rfl ?_
      show Steps p.tables e below (T68.setTop (mkF m 271 #[.val (.int p0), .val (.long p1), .second, .val (.int p2), .val (.int p3), .val (.int p0), .val (.int (F5 p0 (p1 &&& (3 : Int64)))), .val (.int i3), .val (.int i5), .val (.int i8), .val (.int i10), .val (.ref b11), .val (.int i26), .val (.int p2), .val (.int i54), .val (.int i55), .val (.int i64), .val (.int (F4 i54 (F3 i55 (i64 - (1 : Int32))))), .val (.int r_68)] [(.int r_68)])) _
      refine XS.iload X68.here hx rfl (hb hby at_271) rfl ?_
      show Steps p.tables e below (T68.setTop (mkF m 273 #[.val (.int p0), .val (.long p1), .second, .val (.int p2), .val (.int p3), .val (.int p0), .val (.int (F5 p0 (p1 &&& (3 : Int64)))), .val (.int i3), .val (.int i5), .val (.int i8), .val (.int i10), .val (.ref b11), .val (.int i26), .val (.int p2), .val (.int i54), .val (.int i55), .val (.int i64), .val (.int (F4 i54 (F3 i55 (i64 - (1 : Int32))))), .val (.int r_68)] [(.int (F4 i54 (F3 i55 (i64 - (1 : Int32))))), (.int r_68)])) _
      exact kk
    obtain ⟨i70, h_i70, P71⟩ : ∃ (i70 : Int32), i70 = (if r_68 = (F4 i54 (F3 i55 (i64 - (1 : Int32)))) then (1 : Int32) else (0 : Int32)) ∧ ∀ t, Steps p.tables e below (T68.setTop (mkF m 281 #[.val (.int p0), .val (.long p1), .second, .val (.int p2), .val (.int p3), .val (.int p0), .val (.int (F5 p0 (p1 &&& (3 : Int64)))), .val (.int i3), .val (.int i5), .val (.int i8), .val (.int i10), .val (.ref b11), .val (.int i26), .val (.int p2), .val (.int i54), .val (.int i55), .val (.int i64), .val (.int (F4 i54 (F3 i55 (i64 - (1 : Int32))))), .val (.int r_68)] [(.int i70)])) t → Steps p.tables e below (s₁.setTop (entryFrame m #[(.int p0), (.long p1), (.int p2), (.int p3)] maxLocals)) t := by
      by_cases c72 : r_68 = (F4 i54 (F3 i55 (i64 - (1 : Int32))))
      · skip
        refine ⟨(1 : Int32), ((if_pos c72).trans rfl).symm, fun t kk => P69 t ?_⟩
        show Steps p.tables e below (T68.setTop (mkF m 273 #[.val (.int p0), .val (.long p1), .second, .val (.int p2), .val (.int p3), .val (.int p0), .val (.int (F5 p0 (p1 &&& (3 : Int64)))), .val (.int i3), .val (.int i5), .val (.int i8), .val (.int i10), .val (.ref b11), .val (.int i26), .val (.int p2), .val (.int i54), .val (.int i55), .val (.int i64), .val (.int (F4 i54 (F3 i55 (i64 - (1 : Int32))))), .val (.int r_68)] [(.int (F4 i54 (F3 i55 (i64 - (1 : Int32))))), (.int r_68)])) _
        refine XS.icmpNo X68.here hx rfl (hb hby at_273) rfl (XT.ii_ne_f c72) ?_
        show Steps p.tables e below (T68.setTop (mkF m 276 #[.val (.int p0), .val (.long p1), .second, .val (.int p2), .val (.int p3), .val (.int p0), .val (.int (F5 p0 (p1 &&& (3 : Int64)))), .val (.int i3), .val (.int i5), .val (.int i8), .val (.int i10), .val (.ref b11), .val (.int i26), .val (.int p2), .val (.int i54), .val (.int i55), .val (.int i64), .val (.int (F4 i54 (F3 i55 (i64 - (1 : Int32))))), .val (.int r_68)] [])) _
        refine XS.iconst X68.here hx rfl (hb hby at_276) ?_
        show Steps p.tables e below (T68.setTop (mkF m 277 #[.val (.int p0), .val (.long p1), .second, .val (.int p2), .val (.int p3), .val (.int p0), .val (.int (F5 p0 (p1 &&& (3 : Int64)))), .val (.int i3), .val (.int i5), .val (.int i8), .val (.int i10), .val (.ref b11), .val (.int i26), .val (.int p2), .val (.int i54), .val (.int i55), .val (.int i64), .val (.int (F4 i54 (F3 i55 (i64 - (1 : Int32))))), .val (.int r_68)] [(.int (1 : Int32))])) _
        refine XS.goto X68.here hx rfl (pc0 := 277) (pc' := 281) rfl (hb hby at_277) (by decide) (by decide) ?_
        show Steps p.tables e below (T68.setTop (mkF m 281 #[.val (.int p0), .val (.long p1), .second, .val (.int p2), .val (.int p3), .val (.int p0), .val (.int (F5 p0 (p1 &&& (3 : Int64)))), .val (.int i3), .val (.int i5), .val (.int i8), .val (.int i10), .val (.ref b11), .val (.int i26), .val (.int p2), .val (.int i54), .val (.int i55), .val (.int i64), .val (.int (F4 i54 (F3 i55 (i64 - (1 : Int32))))), .val (.int r_68)] [(.int (1 : Int32))])) _
        exact kk
      · skip
        refine ⟨(0 : Int32), ((if_neg c72).trans rfl).symm, fun t kk => P69 t ?_⟩
        show Steps p.tables e below (T68.setTop (mkF m 273 #[.val (.int p0), .val (.long p1), .second, .val (.int p2), .val (.int p3), .val (.int p0), .val (.int (F5 p0 (p1 &&& (3 : Int64)))), .val (.int i3), .val (.int i5), .val (.int i8), .val (.int i10), .val (.ref b11), .val (.int i26), .val (.int p2), .val (.int i54), .val (.int i55), .val (.int i64), .val (.int (F4 i54 (F3 i55 (i64 - (1 : Int32))))), .val (.int r_68)] [(.int (F4 i54 (F3 i55 (i64 - (1 : Int32))))), (.int r_68)])) _
        refine XS.icmpYes X68.here hx rfl (pc0 := 273) (pc' := 280) rfl (hb hby at_273) rfl (XT.ii_ne_t c72) (by decide) (by decide) ?_
        show Steps p.tables e below (T68.setTop (mkF m 280 #[.val (.int p0), .val (.long p1), .second, .val (.int p2), .val (.int p3), .val (.int p0), .val (.int (F5 p0 (p1 &&& (3 : Int64)))), .val (.int i3), .val (.int i5), .val (.int i8), .val (.int i10), .val (.ref b11), .val (.int i26), .val (.int p2), .val (.int i54), .val (.int i55), .val (.int i64), .val (.int (F4 i54 (F3 i55 (i64 - (1 : Int32))))), .val (.int r_68)] [])) _
        refine XS.iconst X68.here hx rfl (hb hby at_280) ?_
        show Steps p.tables e below (T68.setTop (mkF m 281 #[.val (.int p0), .val (.long p1), .second, .val (.int p2), .val (.int p3), .val (.int p0), .val (.int (F5 p0 (p1 &&& (3 : Int64)))), .val (.int i3), .val (.int i5), .val (.int i8), .val (.int i10), .val (.ref b11), .val (.int i26), .val (.int p2), .val (.int i54), .val (.int i55), .val (.int i64), .val (.int (F4 i54 (F3 i55 (i64 - (1 : Int32))))), .val (.int r_68)] [(.int (0 : Int32))])) _
        exact kk
    have P73 : ∀ t, Steps p.tables e below (T68.setTop (mkF m 281 #[.val (.int p0), .val (.long p1), .second, .val (.int p2), .val (.int p3), .val (.int p0), .val (.int (F5 p0 (p1 &&& (3 : Int64)))), .val (.int i3), .val (.int i5), .val (.int i8), .val (.int i10), .val (.ref b11), .val (.int i26), .val (.int p2), .val (.int i54), .val (.int i55), .val (.int i64), .val (.int (F4 i54 (F3 i55 (i64 - (1 : Int32))))), .val (.int r_68)] [(.int i70)])) t → Steps p.tables e below (s₁.setTop (entryFrame m #[(.int p0), (.long p1), (.int p2), (.int p3)] maxLocals)) t := by
      intro t kk
      refine P71 _ ?_
      show Steps p.tables e below (T68.setTop (mkF m 281 #[.val (.int p0), .val (.long p1), .second, .val (.int p2), .val (.int p3), .val (.int p0), .val (.int (F5 p0 (p1 &&& (3 : Int64)))), .val (.int i3), .val (.int i5), .val (.int i8), .val (.int i10), .val (.ref b11), .val (.int i26), .val (.int p2), .val (.int i54), .val (.int i55), .val (.int i64), .val (.int (F4 i54 (F3 i55 (i64 - (1 : Int32))))), .val (.int r_68)] [(.int i70)])) _
      exact kk
    obtain rfl : i70 = (1 : Int32) := own_plain1 p0 p1 p2 p3 i3 h_i3 i5 h_i5 i8 h_i8 i10 h_i10 i26 h_i26 i54 h_i54 i55 h_i55 i64 h_i64 r_68  i70 h_i70 c30 q68_0
    obtain ⟨fs, hr, hrun, hended, hW, hsame⟩ := X68.leave (v := some (.int (1 : Int32))) (fun h => by rw [Bd.returns] at h; cases h)
    refine ⟨_, _, P73 _ ?_, hrun, hended, _, _, rfl, ?_, ⟨_, rfl⟩, hW, hsame.mono (by decide) (by decide)⟩
    · exact retN X68 hx (t := .boolean) Bd.returns (by simp) (hb hby at_281) hr
    · exact ⟨rfl, N68⟩
set_option maxRecDepth 65536 in
set_option maxHeartbeats 40000000 in
theorem comes_1 {Post : Tables → Env → Array Value → State → Outcome → State → Prop} (hpost : ∀ tb e args s v u, (limb_1_1.after args s (.returned v) u = true ∧ limb_1_2.after args s (.returned v) u = true ∧ True) → FrameEnd s (.returned v) u (Jvm.fieldLocs frame_1_writes args s ++ Jvm.arrayLocs frame_1_arrays args s ++ Jvm.staticLocs frame_1_statics s) 16 128 → Post tb e args s (.returned v) u) :
    ArmFor flags0 classFile x code maxLocals ret World_1 tables_1 room_1 Calls_1 rest_1 Pre_1 Post := by
  intro l hfl _ _ p e ha hc hk s m args below hf hA hF happ hP
  obtain ⟨hcalls, hrest, hpre⟩ := hP
  obtain ⟨-, -, -, hnamed, -, -, -, hat⟩ := (Spec.applies_iff hf).mp happ
  obtain ⟨hg, hn⟩ := and_e (Cond.before_iff.mp (show (Jvm.Cond.and given_1 narrow_1).before args s = true from hpre))
  obtain ⟨g0, gr0⟩ := and_e hg
  obtain ⟨g1, gr1⟩ := and_e gr0
  obtain ⟨g2, gr2⟩ := and_e gr1
  obtain ⟨g3, gr3⟩ := and_e gr2
  obtain ⟨w0, w1, w2, w3, rfl⟩ : ∃ w0 w1 w2 w3 : Value, args = #[w0, w1, w2, w3] := by
    have hs : args.size = 4 := by simpa [Cond.value, given_1] using g0
    obtain ⟨L⟩ := args
    match L, hs with
    | [w0, w1, w2, w3], _ => exact ⟨w0, w1, w2, w3, rfl⟩
  have hw := fun d (hd : d ∈ tables_1) => atoms_spec (ws := Jvm.Cond.code x code maxLocals ret :: tables_1) hat d (List.mem_cons_of_mem _ hd)
  have hfit : Fit s := fun {y c} hc i hi => by
    obtain ⟨ha, rfl⟩ := Array.getElem?_eq_some_iff.mp hc
    have q := List.all_eq_true.mp ((Array.all_eq_true_iff_forall_mem.mp hF) _ (Array.getElem_mem ha)) i (List.mem_range.mpr hi)
    simpa [Array.getElem?_eq_getElem hi] using q
  obtain ⟨i0, ei0⟩ := is_v g1
  obtain rfl : w0 = (.int i0) := Option.some.inj ei0
  obtain ⟨i1, ei1⟩ := isL_v g2
  obtain rfl : w1 = (.long i1) := Option.some.inj ei1
  obtain ⟨i2, ei2⟩ := is_v g3
  obtain rfl : w2 = (.int i2) := Option.some.inj ei2
  obtain ⟨i3, ei3⟩ := is_v gr3
  obtain rfl : w3 = (.int i3) := Option.some.inj ei3
  obtain ⟨n, o, h1, h2, h3, _, L, rfl, ⟨rfl, N⟩, hq⟩ := rm0 l s _ hw tables_1 i0 i1 i2 i3  s.heap s.heap.size (Nat.le_refl _)  p e ha hc hk s m _ below hf ((Spec.applies_iff_loose hf).mp happ).1 ⟨rfl, State.Warmed39.refl s, rfl⟩ trivial
  refine ⟨n, _, h1, h2, h3, hpost _ _ _ _ _ _ ⟨Cond.after_iff.mpr rfl, Cond.after_iff.mpr (eq_i res_at (Term.int_eval (1)) rfl), trivial⟩ ⟨hq.1, hq.2.1, (hq.2.2.sift fun y hy => Or.inr (N y hy)).mono (by decide) (by decide)⟩⟩
theorem main_1_1 : Claimed_1_1 := comes_1 fun _ _ _ _ _ _ h hF => ⟨h.1, hF⟩
theorem main_1_2 : Claimed_1_2 := comes_1 fun _ _ _ _ _ _ h hF => ⟨h.2.1, hF⟩
end Jvm.Pilot.@@N@@
namespace Jvm.Pilot.@@N@@
open Jvm Jvm.ClassFile Sem Op Lib Jvm.Free Jvm.Stand Jvm.Pilot.@@N@@.Jvm.D
/-! MADE BY PROGRAM (witnessworld.py) out of the Statement's table words and the real class files: 10 classes; the members and pool entries that the words name. The judged class is class 1, her method 3. -/
namespace start1
open Jvm.ClassFile
def u (s : String) : CpInfo := .utf8 (stringToUtf16 s)
/-- a pool by its gaps: so many unusable entries, then the entry; so many at the end -/
def gap : Nat → List CpInfo → List CpInfo
  | 0, r => r
  | n + 1, r => .unusable :: gap n r
def poolList (es : List (Nat × CpInfo)) (last : Nat) : List CpInfo := es.foldr (fun e r => gap e.1 (e.2 :: r)) (gap last [])
def pool (es : List (Nat × CpInfo)) (last : Nat) : Array CpInfo := ⟨poolList es last⟩
def fileOf (pool : Array CpInfo) (this : Nat) (attrs : Array Attribute := #[]) (ms : Array MethodInfo := #[]) (fl : Nat := 33) (sup : Nat := 0) (ifs : Array Nat := #[]) (fds : Array FieldInfo := #[]) : ClassFile where
  minorVersion := 0
  majorVersion := 65
  constantPool := pool
  accessFlags := fl
  thisClass := this
  superClass := sup
  interfaces := ifs
  fields := fds
  methods := ms
  attributes := attrs
def plain (name : String) (sup : Option ClassId) : Class where
  name := name
  kind := .ordinary
  loader := none
  accessFlags := 33
  super := sup
  interfaces := #[]
  cf := none
  fields := #[]
  methods := #[]
  instanceTypes := #[]
  staticTypes := #[]
  resolved := #[]
  callSites := []
  init := .initialized
  statics := none
  mirror := none

def pool0 : Array CpInfo := pool [(5, u "<init>"), (0, u "()V"), (1, .class_ 10), (1, u "java/lang/Object")] 113

def k0m0 : Method := { name := "<init>", desc := "()V", sig := { parameters := [], returnType := none }, accessFlags := 1, code := none }
/-- java/lang/Object -/
def k0 : Class := { plain "java/lang/Object" none with
  accessFlags := 33
  interfaces := #[]
  cf := some (fileOf pool0 8 #[] #[{ accessFlags := 1, nameIndex := 5, descriptorIndex := 6, attributes := #[] }] 33 0 #[] #[])
  fields := #[]
  methods := #[k0m0]
  instanceTypes := #[]
  staticTypes := #[]
  resolved := Array.replicate 124 none
  statics := none }

def pool1 : Array CpInfo := pool [(2, .class_ 4), (1, u "java/lang/Object"), (0, u "<init>"), (0, u "()V"), (2, .long 2147483647), (1, .methodref 12 13), (0, .class_ 14), (0, .nameAndType 15 16), (0, u "java/lang/Math"), (0, u "min"), (0, u "(JJ)J"), (0, .long 3), (1, .methodref 20 21), (0, .class_ 22), (0, .nameAndType 23 24), (0, u "org/wayfold/graph/GraphLastAtMostPinLaw"), (0, u "up"), (0, u "(IJ)I"), (0, .long 4), (1, .long 18446744071562067968), (1, .methodref 12 30), (0, .nameAndType 31 16), (0, u "max"), (0, .methodref 20 33), (0, .nameAndType 34 35), (0, u "le"), (0, u "(II)I"), (0, .methodref 12 37), (0, .nameAndType 15 35), (0, .methodref 12 39), (0, .nameAndType 31 35), (0, .methodref 41 42), (0, .class_ 43), (0, .nameAndType 44 45), (0, u "org/wayfold/graph/Graph"), (0, u "lastAtMost"), (0, u "([IIII)I"), (3, u "law"), (0, u "(IJII)Z")] 4

def k1m0 : Method := { name := "<init>", desc := "()V", sig := { parameters := [], returnType := none }, accessFlags := 1, code := none }
def k1c1 : Code := { maxStack := 4, maxLocals := 5, code := method_2_code, exceptionTable := #[], attributes := #[] }
def k1m1 : Method := { name := "up", desc := "(IJ)I", sig := { parameters := [.int, .long], returnType := some .int }, accessFlags := 10, code := some k1c1 }
def k1c2 : Code := { maxStack := 2, maxLocals := 2, code := method_3_code, exceptionTable := #[], attributes := #[] }
def k1m2 : Method := { name := "le", desc := "(II)I", sig := { parameters := [.int, .int], returnType := some .int }, accessFlags := 10, code := some k1c2 }
def k1c3 : Code := { maxStack := 6, maxLocals := 19, code := code, exceptionTable := #[], attributes := #[] }
def k1m3 : Method := { name := "law", desc := "(IJII)Z", sig := { parameters := [.int, .long, .int, .int], returnType := some .boolean }, accessFlags := 9, code := some k1c3 }
/-- org/wayfold/graph/GraphLastAtMostPinLaw -/
def k1 : Class := { plain "org/wayfold/graph/GraphLastAtMostPinLaw" (some 0) with
  accessFlags := 49
  interfaces := #[]
  cf := some (fileOf pool1 20 #[] #[{ accessFlags := 1, nameIndex := 5, descriptorIndex := 6, attributes := #[] }, { accessFlags := 10, nameIndex := 23, descriptorIndex := 24, attributes := #[] }, { accessFlags := 10, nameIndex := 34, descriptorIndex := 35, attributes := #[] }, { accessFlags := 9, nameIndex := 49, descriptorIndex := 50, attributes := #[] }] 49 2 #[] #[])
  fields := #[]
  methods := #[k1m0, k1m1, k1m2, k1m3]
  instanceTypes := #[]
  staticTypes := #[]
  resolved := Array.replicate 55 none
  statics := none }

def pool2 : Array CpInfo := pool [(1, .class_ 2), (0, u "java/lang/Math"), (1, .class_ 6), (1, u "java/lang/Object"), (0, u "<init>"), (0, u "()V"), (89, .class_ 100), (1, u "java/lang/Math$RandomNumberGeneratorHolder"), (20, u "(JJ)J"), (50, u "negativeZeroFloatBits"), (0, u "J"), (2, u "negativeZeroDoubleBits"), (21, u "max"), (2, u "min"), (43, u "$assertionsDisabled"), (0, u "Z"), (88, u "(II)I"), (2, u "twoToTheDoubleScaleDown"), (0, u "D"), (4, u "twoToTheDoubleScaleUp"), (9, u "E"), (3, u "PI"), (2, u "TAU"), (2, u "DEGREES_TO_RADIANS"), (0, u "RADIANS_TO_DEGREES")] 94

def k2m0 : Method := { name := "<init>", desc := "()V", sig := { parameters := [], returnType := none }, accessFlags := 2, code := none }
def k2c1 : Code := { maxStack := 2, maxLocals := 2, code := jdk_29_method_65_code, exceptionTable := #[], attributes := #[] }
def k2m1 : Method := { name := "max", desc := "(II)I", sig := { parameters := [.int, .int], returnType := some .int }, accessFlags := 9, code := some k2c1 }
def k2c2 : Code := { maxStack := 4, maxLocals := 4, code := jdk_29_method_66_code, exceptionTable := #[], attributes := #[] }
def k2m2 : Method := { name := "max", desc := "(JJ)J", sig := { parameters := [.long, .long], returnType := some .long }, accessFlags := 9, code := some k2c2 }
def k2c3 : Code := { maxStack := 2, maxLocals := 2, code := jdk_29_method_69_code, exceptionTable := #[], attributes := #[] }
def k2m3 : Method := { name := "min", desc := "(II)I", sig := { parameters := [.int, .int], returnType := some .int }, accessFlags := 9, code := some k2c3 }
def k2c4 : Code := { maxStack := 4, maxLocals := 4, code := jdk_29_method_70_code, exceptionTable := #[], attributes := #[] }
def k2m4 : Method := { name := "min", desc := "(JJ)J", sig := { parameters := [.long, .long], returnType := some .long }, accessFlags := 9, code := some k2c4 }
/-- java/lang/Math -/
def k2 : Class := { plain "java/lang/Math" (some 0) with
  accessFlags := 49
  interfaces := #[]
  cf := some (fileOf pool2 1 #[.nestMembers #[98]] #[{ accessFlags := 2, nameIndex := 7, descriptorIndex := 8, attributes := #[] }, { accessFlags := 9, nameIndex := 198, descriptorIndex := 335, attributes := #[] }, { accessFlags := 9, nameIndex := 198, descriptorIndex := 121, attributes := #[] }, { accessFlags := 9, nameIndex := 201, descriptorIndex := 335, attributes := #[] }, { accessFlags := 9, nameIndex := 201, descriptorIndex := 121, attributes := #[] }] 49 4 #[] #[{ accessFlags := 25, nameIndex := 354, descriptorIndex := 339, attributes := #[] }, { accessFlags := 25, nameIndex := 358, descriptorIndex := 339, attributes := #[] }, { accessFlags := 25, nameIndex := 361, descriptorIndex := 339, attributes := #[] }, { accessFlags := 26, nameIndex := 364, descriptorIndex := 339, attributes := #[] }, { accessFlags := 26, nameIndex := 365, descriptorIndex := 339, attributes := #[] }, { accessFlags := 26, nameIndex := 172, descriptorIndex := 173, attributes := #[] }, { accessFlags := 26, nameIndex := 176, descriptorIndex := 173, attributes := #[] }, { accessFlags := 8, nameIndex := 344, descriptorIndex := 339, attributes := #[] }, { accessFlags := 8, nameIndex := 338, descriptorIndex := 339, attributes := #[] }, { accessFlags := 4120, nameIndex := 245, descriptorIndex := 246, attributes := #[] }])
  fields := #[{ name := "E", type := .double, accessFlags := 25, slot := 0, constantValue := 0 }, { name := "PI", type := .double, accessFlags := 25, slot := 1, constantValue := 0 }, { name := "TAU", type := .double, accessFlags := 25, slot := 2, constantValue := 0 }, { name := "DEGREES_TO_RADIANS", type := .double, accessFlags := 26, slot := 3, constantValue := 0 }, { name := "RADIANS_TO_DEGREES", type := .double, accessFlags := 26, slot := 4, constantValue := 0 }, { name := "negativeZeroFloatBits", type := .long, accessFlags := 26, slot := 5, constantValue := 0 }, { name := "negativeZeroDoubleBits", type := .long, accessFlags := 26, slot := 6, constantValue := 0 }, { name := "twoToTheDoubleScaleUp", type := .double, accessFlags := 8, slot := 7, constantValue := 0 }, { name := "twoToTheDoubleScaleDown", type := .double, accessFlags := 8, slot := 8, constantValue := 0 }, { name := "$assertionsDisabled", type := .boolean, accessFlags := 4120, slot := 9, constantValue := 0 }]
  methods := #[k2m0, k2m1, k2m2, k2m3, k2m4]
  instanceTypes := #[]
  staticTypes := #[.double, .double, .double, .double, .double, .long, .long, .double, .double, .boolean]
  resolved := Array.replicate 460 none
  statics := none }

def pool3 : Array CpInfo := pool [(4, .class_ 6), (1, u "java/lang/Object"), (3, .class_ 12), (1, u "org/wayfold/graph/Graph"), (0, u "vertexProperties"), (0, u "Ljava/util/Map;"), (2, u "labels"), (266, u "lastAtMost"), (0, u "([IIII)I"), (14, u "WEIGHT"), (0, u "Ljava/lang/String;"), (1, u "MAX_COUNT"), (0, u "I"), (49, .class_ 355), (0, u "org/wayfold/graph/Graph$Builder"), (0, .class_ 357), (0, u "org/wayfold/graph/Graph$ArcVisitor")] 61

def k3c0 : Code := { maxStack := 2, maxLocals := 7, code := prog_43_method_31_code, exceptionTable := #[], attributes := #[] }
def k3m0 : Method := { name := "lastAtMost", desc := "([IIII)I", sig := { parameters := [(.array .int), .int, .int, .int], returnType := some .int }, accessFlags := 8, code := some k3c0 }
/-- org/wayfold/graph/Graph -/
def k3 : Class := { plain "org/wayfold/graph/Graph" (some 0) with
  accessFlags := 1057
  interfaces := #[]
  cf := some (fileOf pool3 10 #[.nestMembers #[354, 356]] #[{ accessFlags := 8, nameIndex := 284, descriptorIndex := 285, attributes := #[] }] 1057 4 #[] #[{ accessFlags := 25, nameIndex := 300, descriptorIndex := 301, attributes := #[] }, { accessFlags := 25, nameIndex := 303, descriptorIndex := 304, attributes := #[] }, { accessFlags := 18, nameIndex := 13, descriptorIndex := 14, attributes := #[] }, { accessFlags := 18, nameIndex := 17, descriptorIndex := 14, attributes := #[] }])
  fields := #[{ name := "WEIGHT", type := (.object "java/lang/String"), accessFlags := 25, slot := 0, constantValue := 0 }, { name := "MAX_COUNT", type := .int, accessFlags := 25, slot := 1, constantValue := 0 }, { name := "vertexProperties", type := (.object "java/util/Map"), accessFlags := 18, slot := 0, constantValue := 0 }, { name := "labels", type := (.object "java/util/Map"), accessFlags := 18, slot := 1, constantValue := 0 }]
  methods := #[k3m0]
  instanceTypes := #[(.object "java/util/Map"), (.object "java/util/Map")]
  staticTypes := #[(.object "java/lang/String"), .int]
  resolved := Array.replicate 419 none
  statics := none }

def pool4 : Array CpInfo := pool [(1, u "java/lang/Cloneable"), (0, .class_ 1), (0, u "java/lang/Object"), (0, .class_ 3)] 3

/-- java/lang/Cloneable -/
def k4 : Class := { plain "java/lang/Cloneable" (some 0) with
  accessFlags := 1537
  interfaces := #[]
  cf := some (fileOf pool4 2 #[] #[] 1537 4 #[] #[])
  fields := #[]
  methods := #[]
  instanceTypes := #[]
  staticTypes := #[]
  resolved := Array.replicate 8 none
  statics := none }

def pool5 : Array CpInfo := pool [(1, u "java/io/Serializable"), (0, .class_ 1), (0, u "java/lang/Object"), (0, .class_ 3)] 3

/-- java/io/Serializable -/
def k5 : Class := { plain "java/io/Serializable" (some 0) with
  accessFlags := 1537
  interfaces := #[]
  cf := some (fileOf pool5 2 #[] #[] 1537 4 #[] #[])
  fields := #[]
  methods := #[]
  instanceTypes := #[]
  staticTypes := #[]
  resolved := Array.replicate 8 none
  statics := none }

/-- the primitive byte -/
def k6 : Class := { plain "byte" none with kind := .primitive 'B', accessFlags := 0x411 }
/-- [B -/
def k7 : Class := { plain "[B" (some 0) with kind := .array 6 .byte, interfaces := #[4, 5], accessFlags := 1041 }

/-- the primitive int -/
def k8 : Class := { plain "int" none with kind := .primitive 'I', accessFlags := 0x411 }
/-- [I -/
def k9 : Class := { plain "[I" (some 0) with kind := .array 8 .int, interfaces := #[4, 5], accessFlags := 1041 }

def heap : Heap := #[]
def classes : Array Class := #[k0, k1, k2, k3, k4, k5, k6, k7, k8, k9]
def interned : List (Array UInt16 × Addr) := []
def slotsUsed : Nat := 0
def theMethod : MethodId := ⟨1, 3⟩
def args0 : Array Value := #[.int 5, .long 5, .int 5, .int 5]
def aboutOver (below : List Frame) : State where
  vm := { classes := classes, interned := interned.toArray }
  heap := heap
  slotsUsed := slotsUsed
  threads := #[{ frames := .invoking theMethod args0 :: below }]
def below0 : List Frame := [.native { method := ⟨0, 0⟩, args := #[] }]
def about1 : State := aboutOver below0
def p0 : Program := .bare "" "" ""
def e0 : Env := launch0.env 0 0 0
theorem w_frames : about1.frames = Frame.invoking theMethod args0 :: below0 := rfl
set_option maxRecDepth 65536 in
theorem w_args : argsFit about1.vm theMethod args0 = true := by decide +kernel
set_option maxRecDepth 65536 in
theorem w_heap : heapFits about1 = true := by decide +kernel
set_option maxRecDepth 65536 in
theorem w_runnable : about1.curStatus? = some .runnable := by decide +kernel
set_option maxRecDepth 65536 in
theorem w_alone : about1.alone = true := by decide +kernel
set_option maxRecDepth 65536 in
theorem w_named : about1.methodNamed? x = some theMethod := by decide +kernel
set_option maxRecDepth 65536 in
theorem w_hears : about1.hears theMethod below0 = true := by decide +kernel
set_option maxRecDepth 65536 in
theorem w_ripe : about1.ripe theMethod args0 below0 = true := by decide +kernel
theorem w_running : about1.status = .running := rfl
set_option maxRecDepth 65536 in
theorem w_room : about1.hasRoom e0.platform room_1 = true :=
  launch0.hasRoom_least _ room_1 (by decide +kernel) (by decide +kernel) (by decide +kernel) (by decide +kernel) (by decide +kernel) (by decide +kernel)
theorem allAtoms_all (ts : List Jvm.Cond) (a : Array Jvm.Value) (st : Jvm.State) : (allAtoms ts).before a st = ts.all (fun c => c.before a st) := by
  induction ts with
  | nil => rfl
  | cons c t ih =>
    show (Jvm.Cond.and c (allAtoms t)).before a st = _
    rw [Jvm.Cond.before_and, ih, List.all_cons]
def words1 : List Jvm.Cond := Jvm.Cond.code x code maxLocals ret :: tables_1
/-- a 'code' word, met by the world's own term for the bytes: nothing is compared byte by byte -/
theorem code_word {y : MethodName} {bytes : ByteArray} {mx : Nat} {rt : Option FieldType} {a : Array Value} {s : State} {m : MethodId} {meth : Method} {c : Code} (h1 : s.methodNamed? y = some m) (h2 : s.vm.method? m = some meth) (h3 : meth.code = some c) (h4 : c.code = bytes)
    (h5 : (c.maxLocals == mx && c.exceptionTable.isEmpty && decide (c.maxStack ≤ mostOperands) && decide (meth.sig.returnType = rt) && !meth.locks && decide (parseMethodDescriptor y.desc = some meth.sig)) = true) : (Jvm.Cond.code y bytes mx rt).before a s = true := by
  simp only [Bool.and_eq_true, beq_iff_eq, Bool.not_eq_true', decide_eq_true_eq] at h5
  obtain ⟨⟨⟨⟨⟨g1, g2⟩, g3⟩, g4⟩, g5⟩, g6⟩ := h5
  simp [Cond.before, Cond.holds, Cond.value, h1, h2, h3, h4, g1, g2, g3, g4, g5, g6]
def isCode : Jvm.Cond → Bool
  | .code _ _ _ _ => true
  | _ => false
theorem all_split {L : List Jvm.Cond} {P : Jvm.Cond → Bool} (h1 : L.all (fun c => isCode c || P c) = true) (h2 : ∀ c ∈ L.filter isCode, P c = true) : L.all P = true := by
  refine List.all_eq_true.mpr fun c hc => ?_
  have h := List.all_eq_true.mp h1 c hc
  rcases Bool.eq_false_or_eq_true (isCode c) with hi | hi
  · exact h2 c (List.mem_filter.mpr ⟨hc, hi⟩)
  · simpa [hi] using h
set_option maxRecDepth 65536 in
theorem w_c0 : (Jvm.Cond.code x code maxLocals ret).before args0 about1 = true := code_word (m := ⟨1, 3⟩) (meth := k1m3) (c := k1c3) (by decide +kernel) rfl rfl rfl (by decide +kernel)
set_option maxRecDepth 65536 in
theorem w_c1 : (Jvm.Cond.code ({ cls := "org/wayfold/graph/GraphLastAtMostPinLaw", name := "up", desc := "(IJ)I" } : Jvm.MethodName) method_2_code (5 : Nat) (Option.some Jvm.ClassFile.FieldType.int)).before args0 about1 = true := code_word (m := ⟨1, 1⟩) (meth := k1m1) (c := k1c1) (by decide +kernel) rfl rfl rfl (by decide +kernel)
set_option maxRecDepth 65536 in
theorem w_c2 : (Jvm.Cond.code ({ cls := "java/lang/Math", name := "min", desc := "(JJ)J" } : Jvm.MethodName) jdk_29_method_70_code (4 : Nat) (Option.some Jvm.ClassFile.FieldType.long)).before args0 about1 = true := code_word (m := ⟨2, 4⟩) (meth := k2m4) (c := k2c4) (by decide +kernel) rfl rfl rfl (by decide +kernel)
set_option maxRecDepth 65536 in
theorem w_c3 : (Jvm.Cond.code ({ cls := "java/lang/Math", name := "max", desc := "(JJ)J" } : Jvm.MethodName) jdk_29_method_66_code (4 : Nat) (Option.some Jvm.ClassFile.FieldType.long)).before args0 about1 = true := code_word (m := ⟨2, 2⟩) (meth := k2m2) (c := k2c2) (by decide +kernel) rfl rfl rfl (by decide +kernel)
set_option maxRecDepth 65536 in
theorem w_c4 : (Jvm.Cond.code ({ cls := "org/wayfold/graph/GraphLastAtMostPinLaw", name := "le", desc := "(II)I" } : Jvm.MethodName) method_3_code (2 : Nat) (Option.some Jvm.ClassFile.FieldType.int)).before args0 about1 = true := code_word (m := ⟨1, 2⟩) (meth := k1m2) (c := k1c2) (by decide +kernel) rfl rfl rfl (by decide +kernel)
set_option maxRecDepth 65536 in
theorem w_c5 : (Jvm.Cond.code ({ cls := "java/lang/Math", name := "min", desc := "(II)I" } : Jvm.MethodName) jdk_29_method_69_code (2 : Nat) (Option.some Jvm.ClassFile.FieldType.int)).before args0 about1 = true := code_word (m := ⟨2, 3⟩) (meth := k2m3) (c := k2c3) (by decide +kernel) rfl rfl rfl (by decide +kernel)
set_option maxRecDepth 65536 in
theorem w_c6 : (Jvm.Cond.code ({ cls := "java/lang/Math", name := "max", desc := "(II)I" } : Jvm.MethodName) jdk_29_method_65_code (2 : Nat) (Option.some Jvm.ClassFile.FieldType.int)).before args0 about1 = true := code_word (m := ⟨2, 1⟩) (meth := k2m1) (c := k2c1) (by decide +kernel) rfl rfl rfl (by decide +kernel)
set_option maxRecDepth 65536 in
theorem w_c7 : (Jvm.Cond.code ({ cls := "org/wayfold/graph/Graph", name := "lastAtMost", desc := "([IIII)I" } : Jvm.MethodName) prog_43_method_31_code (7 : Nat) (Option.some Jvm.ClassFile.FieldType.int)).before args0 about1 = true := code_word (m := ⟨3, 0⟩) (meth := k3m0) (c := k3c0) (by decide +kernel) rfl rfl rfl (by decide +kernel)
def codes1 : List Jvm.Cond := [Jvm.Cond.code x code maxLocals ret, Jvm.Cond.code ({ cls := "org/wayfold/graph/GraphLastAtMostPinLaw", name := "up", desc := "(IJ)I" } : Jvm.MethodName) method_2_code (5 : Nat) (Option.some Jvm.ClassFile.FieldType.int), Jvm.Cond.code ({ cls := "java/lang/Math", name := "min", desc := "(JJ)J" } : Jvm.MethodName) jdk_29_method_70_code (4 : Nat) (Option.some Jvm.ClassFile.FieldType.long), Jvm.Cond.code ({ cls := "java/lang/Math", name := "max", desc := "(JJ)J" } : Jvm.MethodName) jdk_29_method_66_code (4 : Nat) (Option.some Jvm.ClassFile.FieldType.long), Jvm.Cond.code ({ cls := "org/wayfold/graph/GraphLastAtMostPinLaw", name := "le", desc := "(II)I" } : Jvm.MethodName) method_3_code (2 : Nat) (Option.some Jvm.ClassFile.FieldType.int), Jvm.Cond.code ({ cls := "java/lang/Math", name := "min", desc := "(II)I" } : Jvm.MethodName) jdk_29_method_69_code (2 : Nat) (Option.some Jvm.ClassFile.FieldType.int), Jvm.Cond.code ({ cls := "java/lang/Math", name := "max", desc := "(II)I" } : Jvm.MethodName) jdk_29_method_65_code (2 : Nat) (Option.some Jvm.ClassFile.FieldType.int), Jvm.Cond.code ({ cls := "org/wayfold/graph/Graph", name := "lastAtMost", desc := "([IIII)I" } : Jvm.MethodName) prog_43_method_31_code (7 : Nat) (Option.some Jvm.ClassFile.FieldType.int)]
set_option maxRecDepth 65536 in
theorem codes_eq : words1.filter isCode = codes1 := rfl
theorem w_codes : ∀ c ∈ words1.filter isCode, c.before args0 about1 = true := by
  rw [codes_eq]
  intro c hc
  simp only [codes1, List.mem_cons, List.not_mem_nil, or_false] at hc
  rcases hc with rfl | rfl | rfl | rfl | rfl | rfl | rfl | rfl
  · exact w_c0
  · exact w_c1
  · exact w_c2
  · exact w_c3
  · exact w_c4
  · exact w_c5
  · exact w_c6
  · exact w_c7
set_option maxRecDepth 65536 in
theorem w_t1 : (words1.take 24).all (fun c => isCode c || c.before args0 about1) = true := by decide +kernel
set_option maxRecDepth 65536 in
theorem w_t2 : (words1.drop 24).all (fun c => isCode c || c.before args0 about1) = true := by decide +kernel
theorem w_tables : (allAtoms (Jvm.Cond.code x code maxLocals ret :: tables_1)).before args0 about1 = true := by
  rw [allAtoms_all]
  show words1.all (fun c => c.before args0 about1) = true
  refine all_split ?_ w_codes
  rw [← List.take_append_drop 24 words1, List.all_append, w_t1, w_t2]
  rfl
set_option maxRecDepth 65536 in
theorem w_case : (Jvm.Cond.and given_1 narrow_1).before args0 about1 = true := by decide +kernel
theorem w_applies : (headSpec (Jvm.Cond.code x code maxLocals ret :: tables_1) room_1).applies x e0.platform about1 = true :=
  (Spec.applies_iff w_frames).mpr ⟨w_running, w_runnable, w_alone, w_named, w_hears, w_ripe, w_room, w_tables⟩
theorem atStart : AtStart classFile x code maxLocals ret World_1 tables_1 room_1 Calls_1 rest_1 Pre_1 launch0 p0 e0 about1 theMethod args0 below0 :=
  ⟨lists_1, trivial, launch0.admits_env _ _ _, launch0.least_env, fairChoices_fair.cas, fairChoices_fair.clock, w_frames, w_args, w_heap, w_applies, trivial, trivial, w_case⟩
end start1
theorem witness_1 : WitnessClaimed_1 := ⟨start1.p0, start1.e0, start1.about1, start1.theMethod, start1.args0, start1.below0, start1.atStart⟩
end Jvm.Pilot.@@N@@
