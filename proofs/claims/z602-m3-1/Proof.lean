import JvmDerived
import JvmDerived.Pilot.@@N@@Statement
import JvmDerived.Pilot.@@N@@Code
set_option linter.unusedVariables false
set_option linter.unusedSimpArgs false
namespace Jvm.RoadKit
open Sem ClassFile Op Lib Jvm.Stand Jvm.Free Jvm.LawKit
section New
variable {p : Program} {l : Launch} {e : Env} {R : Room} {s : State} {m : MethodId} {args : Array Value} {below : List Frame} {meth : Method} {c : Code} {T : State} {locs : List Loc} {cells slots : Nat}
theorem retI (X : Stand p l e R s m args below meth c T locs cells slots) (hx : p.tables.exec = Jvm.exec) {pc : Nat} {Ls : Array Slot} {z : Int32} {rest : List Value} (hret : meth.sig.returnType = some .int) (hd : decode c.code pc = .ok (.ireturn, 1)) {fs : List Frame}
    (hl : ∀ (f : JFrame) (acts : List Action), f.method = m → f.locked = none → f.entered = [] → (doReturn e (T.setTop f) acts (some (.int z))).1 = T.setFrames fs) : Steps p.tables e below (T.setTop (mkF m pc Ls (.int z :: rest))) (T.setFrames fs) := by
  have hm' : T.vm.method? m = some meth := X.method'
  have hn : narrow .int (.int z) = .int z := rfl
  show Steps p.tables e below (T.setTop { method := m, pc := pc, locals := Ls, stack := _ :: rest, locked := none }) _
  jvm_step X.here [X.here.top, hx, hd, hm', hret, hn]
  first | (intro acts; rw [hl _ acts rfl rfl rfl]) | rw [hl _ _ rfl rfl rfl]
  exact Steps.refl _
end New
end Jvm.RoadKit
namespace Jvm.Pilot.@@N@@
open Jvm Jvm.ClassFile Sem Op Lib Jvm.Free Jvm.Stand Jvm.LawKit Jvm.RoadKit Bundle Jvm.Pilot.@@N@@.Jvm.D
theorem pn_0 : plainName "com/example/quernloop/quernloop/DueQueue" = true := by first | (simp [plainName, overriddenIn]; done) | decide +kernel
theorem pn_1 : plainName "com/example/quernloop/quernloop/DueQueueIsAheadPinLaw" = true := by first | (simp [plainName, overriddenIn]; done) | decide +kernel
theorem pd_0 : parseMethodDescriptor "(JJJJ)Z" = some ⟨[.long, .long, .long, .long], some .boolean⟩ := by decide +kernel
theorem d1_0 : decode prog_1_method_2_code 0 = .ok (.lload_n 0, 1) := by decide +kernel
theorem d1_1 : decode prog_1_method_2_code 1 = .ok (.lload 4, 2) := by decide +kernel
theorem d1_3 : decode prog_1_method_2_code 3 = .ok (.lcmp, 1) := by decide +kernel
theorem d1_4 : decode prog_1_method_2_code 4 = .ok (.ifCond .lt 17, 3) := by decide +kernel
theorem d1_7 : decode prog_1_method_2_code 7 = .ok (.lload_n 0, 1) := by decide +kernel
theorem d1_8 : decode prog_1_method_2_code 8 = .ok (.lload 4, 2) := by decide +kernel
theorem d1_10 : decode prog_1_method_2_code 10 = .ok (.lcmp, 1) := by decide +kernel
theorem d1_11 : decode prog_1_method_2_code 11 = .ok (.ifCond .ne 14, 3) := by decide +kernel
theorem d1_14 : decode prog_1_method_2_code 14 = .ok (.lload_n 2, 1) := by decide +kernel
theorem d1_15 : decode prog_1_method_2_code 15 = .ok (.lload 6, 2) := by decide +kernel
theorem d1_17 : decode prog_1_method_2_code 17 = .ok (.lcmp, 1) := by decide +kernel
theorem d1_18 : decode prog_1_method_2_code 18 = .ok (.ifCond .ge 7, 3) := by decide +kernel
theorem d1_21 : decode prog_1_method_2_code 21 = .ok (.iconst 1, 1) := by decide +kernel
theorem d1_22 : decode prog_1_method_2_code 22 = .ok (.goto 4, 3) := by decide +kernel
theorem d1_25 : decode prog_1_method_2_code 25 = .ok (.iconst 0, 1) := by decide +kernel
theorem d1_26 : decode prog_1_method_2_code 26 = .ok (.ireturn, 1) := by decide +kernel
theorem ef_1 (m : MethodId) (x0 : Int64) (x1 : Int64) (x2 : Int64) (x3 : Int64) : entryFrame m #[(.long x0), (.long x1), (.long x2), (.long x3)] 8 = (mkF m 0 #[.val (.long x0), .second, .val (.long x1), .second, .val (.long x2), .second, .val (.long x3), .second] []) := by first | (simp [entryFrame, mkF, argsToLocals, Value.category]; done) | rfl
def F1 (a : Int64) (b : Int64) (d : Int64) (f : Int64) : Int32 := (if a < d then (1 : Int32) else (if a = d then (if b < f then (1 : Int32) else (0 : Int32)) else (0 : Int32)))
def Q1 (Z : State) (a : Int64) (b : Int64) (d : Int64) (f : Int64) (h0 : Heap) (n0 : Nat) (vX : Option Value) (hX : Heap) (lX : List Loc) : Prop := vX = some (.int (F1 a b d f)) ∧ Fr n0 lX ∧ (hX = h0)
set_option maxRecDepth 65536 in
set_option maxHeartbeats 40000000 in
theorem rm1 (l : Launch) (Z : State) (a0 : Array Value) (hw : ∀ d ∈ tables_1, d.before a0 Z = true) (ws : List Jvm.Cond) (a : Int64) (b : Int64) (d : Int64) (f : Int64) (h0 : Heap) (n0 : Nat) (Z0 : n0 ≤ h0.size)  :
    MetFree l (⟨"com/example/quernloop/quernloop/DueQueue", "isAhead", "(JJJJ)Z"⟩ : MethodName) (head1 (Jvm.Cond.code (⟨"com/example/quernloop/quernloop/DueQueue", "isAhead", "(JJJJ)Z"⟩ : MethodName) prog_1_method_2_code 8 (some .boolean) :: ws) ({ frames := 0, cells := 0, slots := 0, locals := 0 } : Room)) (fun aX uX => aX = #[(.long a), (.long b), (.long d), (.long f)] ∧ Z.Warmed39 uX.vm ∧ uX.heap = h0) (fun _ _ _ _ _ => True) (fun _ uX oX wX => ∃ vX lX, oX = .returned vX ∧ Q1 Z a b d f h0 n0 vX wX.heap lX ∧ FrameEnd uX oX wX lX ({ frames := 0, cells := 0, slots := 0, locals := 0 } : Room).cells ({ frames := 0, cells := 0, slots := 0, locals := 0 } : Room).slots) := by
  refine MetFree.of_bodySF (plainFor_of_name pn_0) hisR ?_
  intro p e s m args below meth c s₁ Bd hml0 hP hK
  obtain ⟨rfl, hZ, hh⟩ := hP
  have hx := Bd.exec
  have hby := Bd.bytes
  have hml : c.maxLocals = 8 := hml0
  have hown : s.vm.findClass "com/example/quernloop/quernloop/DueQueue" = some m.cls := findClass_of_methodNamed Bd.named
  have hnm := (name_of_methodNamed Bd.named Bd.method).1
  have X0 : Stand p l e ({ frames := 0, cells := 0, slots := 0, locals := 0 } : Room) s m #[(.long a), (.long b), (.long d), (.long f)] below meth c s₁ [] 0 0 := Stand.of_body Bd
  have e0 : s₁.heap = h0 := by rw [← hh, Bd.state]; rfl
  have N0 := Fr.nil n0
  have pre0 : ∀ t, Steps p.tables e below (s₁.setTop (mkF m 0 #[.val (.long a), .second, .val (.long b), .second, .val (.long d), .second, .val (.long f), .second] [])) t → Steps p.tables e below (s₁.setTop (entryFrame m #[(.long a), (.long b), (.long d), (.long f)] 8)) t := fun t k => castTop (ef_1 m a b d f) k
  have P1 : ∀ t, Steps p.tables e below (s₁.setTop (mkF m 4 #[.val (.long a), .second, .val (.long b), .second, .val (.long d), .second, .val (.long f), .second] [(.int (XT.cmpL a d))])) t → Steps p.tables e below (s₁.setTop (entryFrame m #[(.long a), (.long b), (.long d), (.long f)] 8)) t := by
    intro t kk
    refine pre0 _ ?_
    show Steps p.tables e below (s₁.setTop (mkF m 0 #[.val (.long a), .second, .val (.long b), .second, .val (.long d), .second, .val (.long f), .second] [])) _
    refine XS.lloadN X0.here hx rfl (hb hby d1_0) rfl ?_
    show Steps p.tables e below (s₁.setTop (mkF m 1 #[.val (.long a), .second, .val (.long b), .second, .val (.long d), .second, .val (.long f), .second] [(.long a)])) _
    refine XS.lload X0.here hx rfl (hb hby d1_1) rfl ?_
    show Steps p.tables e below (s₁.setTop (mkF m 3 #[.val (.long a), .second, .val (.long b), .second, .val (.long d), .second, .val (.long f), .second] [(.long d), (.long a)])) _
    refine XT.lcmp X0.here hx rfl (hb hby d1_3) rfl ?_
    show Steps p.tables e below (s₁.setTop (mkF m 4 #[.val (.long a), .second, .val (.long b), .second, .val (.long d), .second, .val (.long f), .second] [(.int (XT.cmpL a d))])) _
    exact kk
  by_cases c2 : a < d
  · skip
    have P3 : ∀ t, Steps p.tables e below (s₁.setTop (mkF m 26 #[.val (.long a), .second, .val (.long b), .second, .val (.long d), .second, .val (.long f), .second] [(.int (1 : Int32))])) t → Steps p.tables e below (s₁.setTop (entryFrame m #[(.long a), (.long b), (.long d), (.long f)] 8)) t := by
      intro t kk
      refine P1 _ ?_
      show Steps p.tables e below (s₁.setTop (mkF m 4 #[.val (.long a), .second, .val (.long b), .second, .val (.long d), .second, .val (.long f), .second] [(.int (XT.cmpL a d))])) _
      refine XS.ifYes X0.here hx rfl (pc0 := 4) (pc' := 21) rfl (hb hby d1_4) rfl (XT.ll_lt_t c2) (by decide) (by decide) ?_
      show Steps p.tables e below (s₁.setTop (mkF m 21 #[.val (.long a), .second, .val (.long b), .second, .val (.long d), .second, .val (.long f), .second] [])) _
      refine XS.iconst X0.here hx rfl (hb hby d1_21) ?_
      show Steps p.tables e below (s₁.setTop (mkF m 22 #[.val (.long a), .second, .val (.long b), .second, .val (.long d), .second, .val (.long f), .second] [(.int (1 : Int32))])) _
      refine XS.goto X0.here hx rfl (pc0 := 22) (pc' := 26) rfl (hb hby d1_22) (by decide) (by decide) ?_
      show Steps p.tables e below (s₁.setTop (mkF m 26 #[.val (.long a), .second, .val (.long b), .second, .val (.long d), .second, .val (.long f), .second] [(.int (1 : Int32))])) _
      exact kk
    obtain ⟨fs, hr, hrun, hended, hW, hsame⟩ := X0.leave (v := some (.int (1 : Int32))) (fun h => by rw [Bd.returns] at h; cases h)
    refine ⟨_, _, P3 _ ?_, hrun, hended, _, _, rfl, ?_, ⟨_, rfl⟩, hW, hsame.mono (by decide) (by decide)⟩
    · exact retN X0 hx (t := .boolean) Bd.returns (by simp) (hb hby d1_26) hr
    · show Q1 Z a b d f h0 n0 _ s₁.heap _
      rw [e0]
      exact ⟨congrArg (fun z => some (Value.int z)) (show (F1 a b d f) = _ from ((if_pos c2).trans rfl)).symm, N0, rfl⟩
  · skip
    have P4 : ∀ t, Steps p.tables e below (s₁.setTop (mkF m 11 #[.val (.long a), .second, .val (.long b), .second, .val (.long d), .second, .val (.long f), .second] [(.int (XT.cmpL a d))])) t → Steps p.tables e below (s₁.setTop (entryFrame m #[(.long a), (.long b), (.long d), (.long f)] 8)) t := by
      intro t kk
      refine P1 _ ?_
      show Steps p.tables e below (s₁.setTop (mkF m 4 #[.val (.long a), .second, .val (.long b), .second, .val (.long d), .second, .val (.long f), .second] [(.int (XT.cmpL a d))])) _
      refine XS.ifNo X0.here hx rfl (hb hby d1_4) rfl (XT.ll_lt_f c2) ?_
      show Steps p.tables e below (s₁.setTop (mkF m 7 #[.val (.long a), .second, .val (.long b), .second, .val (.long d), .second, .val (.long f), .second] [])) _
      refine XS.lloadN X0.here hx rfl (hb hby d1_7) rfl ?_
      show Steps p.tables e below (s₁.setTop (mkF m 8 #[.val (.long a), .second, .val (.long b), .second, .val (.long d), .second, .val (.long f), .second] [(.long a)])) _
      refine XS.lload X0.here hx rfl (hb hby d1_8) rfl ?_
      show Steps p.tables e below (s₁.setTop (mkF m 10 #[.val (.long a), .second, .val (.long b), .second, .val (.long d), .second, .val (.long f), .second] [(.long d), (.long a)])) _
      refine XT.lcmp X0.here hx rfl (hb hby d1_10) rfl ?_
      show Steps p.tables e below (s₁.setTop (mkF m 11 #[.val (.long a), .second, .val (.long b), .second, .val (.long d), .second, .val (.long f), .second] [(.int (XT.cmpL a d))])) _
      exact kk
    by_cases c5 : a = d
    · skip
      have P6 : ∀ t, Steps p.tables e below (s₁.setTop (mkF m 18 #[.val (.long a), .second, .val (.long b), .second, .val (.long d), .second, .val (.long f), .second] [(.int (XT.cmpL b f))])) t → Steps p.tables e below (s₁.setTop (entryFrame m #[(.long a), (.long b), (.long d), (.long f)] 8)) t := by
        intro t kk
        refine P4 _ ?_
        show Steps p.tables e below (s₁.setTop (mkF m 11 #[.val (.long a), .second, .val (.long b), .second, .val (.long d), .second, .val (.long f), .second] [(.int (XT.cmpL a d))])) _
        refine XS.ifNo X0.here hx rfl (hb hby d1_11) rfl (XT.ll_ne_f c5) ?_
        show Steps p.tables e below (s₁.setTop (mkF m 14 #[.val (.long a), .second, .val (.long b), .second, .val (.long d), .second, .val (.long f), .second] [])) _
        refine XS.lloadN X0.here hx rfl (hb hby d1_14) rfl ?_
        show Steps p.tables e below (s₁.setTop (mkF m 15 #[.val (.long a), .second, .val (.long b), .second, .val (.long d), .second, .val (.long f), .second] [(.long b)])) _
        refine XS.lload X0.here hx rfl (hb hby d1_15) rfl ?_
        show Steps p.tables e below (s₁.setTop (mkF m 17 #[.val (.long a), .second, .val (.long b), .second, .val (.long d), .second, .val (.long f), .second] [(.long f), (.long b)])) _
        refine XT.lcmp X0.here hx rfl (hb hby d1_17) rfl ?_
        show Steps p.tables e below (s₁.setTop (mkF m 18 #[.val (.long a), .second, .val (.long b), .second, .val (.long d), .second, .val (.long f), .second] [(.int (XT.cmpL b f))])) _
        exact kk
      by_cases c7 : b < f
      · skip
        have P8 : ∀ t, Steps p.tables e below (s₁.setTop (mkF m 26 #[.val (.long a), .second, .val (.long b), .second, .val (.long d), .second, .val (.long f), .second] [(.int (1 : Int32))])) t → Steps p.tables e below (s₁.setTop (entryFrame m #[(.long a), (.long b), (.long d), (.long f)] 8)) t := by
          intro t kk
          refine P6 _ ?_
          show Steps p.tables e below (s₁.setTop (mkF m 18 #[.val (.long a), .second, .val (.long b), .second, .val (.long d), .second, .val (.long f), .second] [(.int (XT.cmpL b f))])) _
          refine XS.ifNo X0.here hx rfl (hb hby d1_18) rfl (XT.ll_ge_f c7) ?_
          show Steps p.tables e below (s₁.setTop (mkF m 21 #[.val (.long a), .second, .val (.long b), .second, .val (.long d), .second, .val (.long f), .second] [])) _
          refine XS.iconst X0.here hx rfl (hb hby d1_21) ?_
          show Steps p.tables e below (s₁.setTop (mkF m 22 #[.val (.long a), .second, .val (.long b), .second, .val (.long d), .second, .val (.long f), .second] [(.int (1 : Int32))])) _
          refine XS.goto X0.here hx rfl (pc0 := 22) (pc' := 26) rfl (hb hby d1_22) (by decide) (by decide) ?_
          show Steps p.tables e below (s₁.setTop (mkF m 26 #[.val (.long a), .second, .val (.long b), .second, .val (.long d), .second, .val (.long f), .second] [(.int (1 : Int32))])) _
          exact kk
        obtain ⟨fs, hr, hrun, hended, hW, hsame⟩ := X0.leave (v := some (.int (1 : Int32))) (fun h => by rw [Bd.returns] at h; cases h)
        refine ⟨_, _, P8 _ ?_, hrun, hended, _, _, rfl, ?_, ⟨_, rfl⟩, hW, hsame.mono (by decide) (by decide)⟩
        · exact retN X0 hx (t := .boolean) Bd.returns (by simp) (hb hby d1_26) hr
        · show Q1 Z a b d f h0 n0 _ s₁.heap _
          rw [e0]
          exact ⟨congrArg (fun z => some (Value.int z)) (show (F1 a b d f) = _ from ((if_neg c2).trans ((if_pos c5).trans ((if_pos c7).trans rfl)))).symm, N0, rfl⟩
      · skip
        have P9 : ∀ t, Steps p.tables e below (s₁.setTop (mkF m 26 #[.val (.long a), .second, .val (.long b), .second, .val (.long d), .second, .val (.long f), .second] [(.int (0 : Int32))])) t → Steps p.tables e below (s₁.setTop (entryFrame m #[(.long a), (.long b), (.long d), (.long f)] 8)) t := by
          intro t kk
          refine P6 _ ?_
          show Steps p.tables e below (s₁.setTop (mkF m 18 #[.val (.long a), .second, .val (.long b), .second, .val (.long d), .second, .val (.long f), .second] [(.int (XT.cmpL b f))])) _
          refine XS.ifYes X0.here hx rfl (pc0 := 18) (pc' := 25) rfl (hb hby d1_18) rfl (XT.ll_ge_t c7) (by decide) (by decide) ?_
          show Steps p.tables e below (s₁.setTop (mkF m 25 #[.val (.long a), .second, .val (.long b), .second, .val (.long d), .second, .val (.long f), .second] [])) _
          refine XS.iconst X0.here hx rfl (hb hby d1_25) ?_
          show Steps p.tables e below (s₁.setTop (mkF m 26 #[.val (.long a), .second, .val (.long b), .second, .val (.long d), .second, .val (.long f), .second] [(.int (0 : Int32))])) _
          exact kk
        obtain ⟨fs, hr, hrun, hended, hW, hsame⟩ := X0.leave (v := some (.int (0 : Int32))) (fun h => by rw [Bd.returns] at h; cases h)
        refine ⟨_, _, P9 _ ?_, hrun, hended, _, _, rfl, ?_, ⟨_, rfl⟩, hW, hsame.mono (by decide) (by decide)⟩
        · exact retN X0 hx (t := .boolean) Bd.returns (by simp) (hb hby d1_26) hr
        · show Q1 Z a b d f h0 n0 _ s₁.heap _
          rw [e0]
          exact ⟨congrArg (fun z => some (Value.int z)) (show (F1 a b d f) = _ from ((if_neg c2).trans ((if_pos c5).trans ((if_neg c7).trans rfl)))).symm, N0, rfl⟩
    · skip
      have P10 : ∀ t, Steps p.tables e below (s₁.setTop (mkF m 26 #[.val (.long a), .second, .val (.long b), .second, .val (.long d), .second, .val (.long f), .second] [(.int (0 : Int32))])) t → Steps p.tables e below (s₁.setTop (entryFrame m #[(.long a), (.long b), (.long d), (.long f)] 8)) t := by
        intro t kk
        refine P4 _ ?_
        show Steps p.tables e below (s₁.setTop (mkF m 11 #[.val (.long a), .second, .val (.long b), .second, .val (.long d), .second, .val (.long f), .second] [(.int (XT.cmpL a d))])) _
        refine XS.ifYes X0.here hx rfl (pc0 := 11) (pc' := 25) rfl (hb hby d1_11) rfl (XT.ll_ne_t c5) (by decide) (by decide) ?_
        show Steps p.tables e below (s₁.setTop (mkF m 25 #[.val (.long a), .second, .val (.long b), .second, .val (.long d), .second, .val (.long f), .second] [])) _
        refine XS.iconst X0.here hx rfl (hb hby d1_25) ?_
        show Steps p.tables e below (s₁.setTop (mkF m 26 #[.val (.long a), .second, .val (.long b), .second, .val (.long d), .second, .val (.long f), .second] [(.int (0 : Int32))])) _
        exact kk
      obtain ⟨fs, hr, hrun, hended, hW, hsame⟩ := X0.leave (v := some (.int (0 : Int32))) (fun h => by rw [Bd.returns] at h; cases h)
      refine ⟨_, _, P10 _ ?_, hrun, hended, _, _, rfl, ?_, ⟨_, rfl⟩, hW, hsame.mono (by decide) (by decide)⟩
      · exact retN X0 hx (t := .boolean) Bd.returns (by simp) (hb hby d1_26) hr
      · show Q1 Z a b d f h0 n0 _ s₁.heap _
        rw [e0]
        exact ⟨congrArg (fun z => some (Value.int z)) (show (F1 a b d f) = _ from ((if_neg c2).trans ((if_neg c5).trans rfl))).symm, N0, rfl⟩
theorem own_tri (a b : Int64) : (a < b ∧ ¬ b < a ∧ ¬ a = b ∧ ¬ b = a) ∨ a = b ∨ (b < a ∧ ¬ a < b ∧ ¬ a = b ∧ ¬ b = a) := by
  simp only [Int64.lt_iff_toInt_lt, ← Int64.toInt_inj]
  omega
theorem own_plain0 (p0 : Int64) (p1 : Int64) (p2 : Int64) (p3 : Int64) (p4 : Int32) (j2 : Int64) (h_j2 : j2 = (if (p4 &&& (1 : Int32)) = (0 : Int32) then p2 else p0)) (j6 : Int64) (h_j6 : j6 = (if (p4 &&& (2 : Int32)) = (0 : Int32) then p3 else p1)) (i12 : Int32) (h_i12 : i12 = (if p0 < j2 then (1 : Int32) else (if j2 < p0 then (0 : Int32) else (if p1 < j6 then (1 : Int32) else (0 : Int32))))) (i20 : Int32) (h_i20 : i20 = (if p0 = j2 then (if p1 = j6 then (1 : Int32) else (0 : Int32)) else (0 : Int32))) (i26 : Int32) (h_i26 : i26 = (if (F1 p0 p1 j2 j6) = (0 : Int32) then (if (F1 j2 j6 p0 p1) = (0 : Int32) then (if i20 = (0 : Int32) then (0 : Int32) else (1 : Int32)) else (if i20 = (0 : Int32) then (1 : Int32) else (0 : Int32))) else (if (F1 j2 j6 p0 p1) = (0 : Int32) then (if i20 = (0 : Int32) then (1 : Int32) else (0 : Int32)) else (0 : Int32)))) (i40 : Int32) (h_i40 : i40 = (if (F1 p0 p1 j2 j6) = i12 then (if i26 = (0 : Int32) then (0 : Int32) else (1 : Int32)) else (0 : Int32)))  : i40 = (1 : Int32) := by
  clear h_j2 h_j6
  have n10 : ¬ (1 : Int32) = (0 : Int32) := by decide
  have n01 : ¬ (0 : Int32) = (1 : Int32) := by decide
  rcases own_tri p0 j2 with ⟨a1, a2, a3, a4⟩ | rfl | ⟨a1, a2, a3, a4⟩ <;> rcases own_tri p1 j6 with ⟨b1, b2, b3, b4⟩ | rfl | ⟨b1, b2, b3, b4⟩ <;> simp_all [F1, Int64.lt_irrefl]
theorem ef_0 (m : MethodId) (x0 : Int64) (x1 : Int64) (x2 : Int64) (x3 : Int64) (x4 : Int32) : entryFrame m #[(.long x0), (.long x1), (.long x2), (.long x3), (.int x4)] maxLocals = (mkF m 0 #[.val (.long x0), .second, .val (.long x1), .second, .val (.long x2), .second, .val (.long x3), .second, .val (.int x4), .unset, .unset, .unset, .unset, .unset, .unset, .unset, .unset, .unset] []) := by first | (simp [entryFrame, mkF, argsToLocals, Value.category, maxLocals]; done) | rfl
def Q0 (Z : State) (h0 : Heap) (n0 : Nat) (v : Option Value) (h : Heap) (L : List Loc) : Prop := v = some (.int (1 : Int32)) ∧ Fr n0 L
set_option maxRecDepth 65536 in
set_option maxHeartbeats 400000000 in
theorem rm0 (l : Launch) (Z : State) (a0 : Array Value) (hw : ∀ d ∈ tables_1, d.before a0 Z = true) (ws : List Jvm.Cond) (p0 : Int64) (p1 : Int64) (p2 : Int64) (p3 : Int64) (p4 : Int32) (h0 : Heap) (n0 : Nat) (Z0 : n0 ≤ h0.size)  :
    MetFree l x (head1 (Jvm.Cond.code x code maxLocals ret :: ws) room_1) (fun a U => a = #[(.long p0), (.long p1), (.long p2), (.long p3), (.int p4)] ∧ Z.Warmed39 U.vm ∧ U.heap = h0) (fun _ _ _ _ _ => True) (fun _ U o U' => ∃ v L, o = .returned v ∧ Q0 Z h0 n0 v U'.heap L ∧ FrameEnd U o U' L room_1.cells room_1.slots) := by
  refine MetFree.of_bodySF (plainFor_of_name pn_1) hisR ?_
  intro p e s m args below meth c s₁ Bd hml0 hP hK
  obtain ⟨rfl, hZ, hh⟩ := hP
  have hx := Bd.exec
  have hby := Bd.bytes
  have hml : c.maxLocals = 18 := hml0
  have hown : s.vm.findClass "com/example/quernloop/quernloop/DueQueueIsAheadPinLaw" = some m.cls := findClass_of_methodNamed Bd.named
  have hnm := (name_of_methodNamed Bd.named Bd.method).1
  have X0 : Stand p l e room_1 s m #[(.long p0), (.long p1), (.long p2), (.long p3), (.int p4)] below meth c s₁ [] 0 0 := Stand.of_body Bd
  have e0 : s₁.heap = h0 := by rw [← hh, Bd.state]; rfl
  have N0 := Fr.nil n0
  have pre0 : ∀ t, Steps p.tables e below (s₁.setTop (mkF m 0 #[.val (.long p0), .second, .val (.long p1), .second, .val (.long p2), .second, .val (.long p3), .second, .val (.int p4), .unset, .unset, .unset, .unset, .unset, .unset, .unset, .unset, .unset] [])) t → Steps p.tables e below (s₁.setTop (entryFrame m #[(.long p0), (.long p1), (.long p2), (.long p3), (.int p4)] maxLocals)) t := fun t k => castTop (ef_0 m p0 p1 p2 p3 p4) k
  have P1 : ∀ t, Steps p.tables e below (s₁.setTop (mkF m 4 #[.val (.long p0), .second, .val (.long p1), .second, .val (.long p2), .second, .val (.long p3), .second, .val (.int p4), .unset, .unset, .unset, .unset, .unset, .unset, .unset, .unset, .unset] [(.int (p4 &&& (1 : Int32)))])) t → Steps p.tables e below (s₁.setTop (entryFrame m #[(.long p0), (.long p1), (.long p2), (.long p3), (.int p4)] maxLocals)) t := by
    intro t kk
    refine pre0 _ ?_
    show Steps p.tables e below (s₁.setTop (mkF m 0 #[.val (.long p0), .second, .val (.long p1), .second, .val (.long p2), .second, .val (.long p3), .second, .val (.int p4), .unset, .unset, .unset, .unset, .unset, .unset, .unset, .unset, .unset] [])) _
    refine XS.iload X0.here hx rfl (hb hby at_0) rfl ?_
    show Steps p.tables e below (s₁.setTop (mkF m 2 #[.val (.long p0), .second, .val (.long p1), .second, .val (.long p2), .second, .val (.long p3), .second, .val (.int p4), .unset, .unset, .unset, .unset, .unset, .unset, .unset, .unset, .unset] [(.int p4)])) _
    refine XS.iconst X0.here hx rfl (hb hby at_2) ?_
    show Steps p.tables e below (s₁.setTop (mkF m 3 #[.val (.long p0), .second, .val (.long p1), .second, .val (.long p2), .second, .val (.long p3), .second, .val (.int p4), .unset, .unset, .unset, .unset, .unset, .unset, .unset, .unset, .unset] [(.int (1 : Int32)), (.int p4)])) _
    refine XS.iand X0.here hx rfl (hb hby at_3) rfl ?_
    show Steps p.tables e below (s₁.setTop (mkF m 4 #[.val (.long p0), .second, .val (.long p1), .second, .val (.long p2), .second, .val (.long p3), .second, .val (.int p4), .unset, .unset, .unset, .unset, .unset, .unset, .unset, .unset, .unset] [(.int (p4 &&& (1 : Int32)))])) _
    exact kk
  obtain ⟨j2, h_j2, P3⟩ : ∃ (j2 : Int64), j2 = (if (p4 &&& (1 : Int32)) = (0 : Int32) then p2 else p0) ∧ ∀ t, Steps p.tables e below (s₁.setTop (mkF m 13 #[.val (.long p0), .second, .val (.long p1), .second, .val (.long p2), .second, .val (.long p3), .second, .val (.int p4), .unset, .unset, .unset, .unset, .unset, .unset, .unset, .unset, .unset] [(.long j2)])) t → Steps p.tables e below (s₁.setTop (entryFrame m #[(.long p0), (.long p1), (.long p2), (.long p3), (.int p4)] maxLocals)) t := by
    by_cases c4 : (p4 &&& (1 : Int32)) = (0 : Int32)
    · skip
      refine ⟨p2, ((if_pos c4).trans rfl).symm, fun t kk => P1 t ?_⟩
      show Steps p.tables e below (s₁.setTop (mkF m 4 #[.val (.long p0), .second, .val (.long p1), .second, .val (.long p2), .second, .val (.long p3), .second, .val (.int p4), .unset, .unset, .unset, .unset, .unset, .unset, .unset, .unset, .unset] [(.int (p4 &&& (1 : Int32)))])) _
      refine XS.ifYes X0.here hx rfl (pc0 := 4) (pc' := 11) rfl (hb hby at_4) rfl (XT.i0_eq_t c4) (by decide) (by decide) ?_
      show Steps p.tables e below (s₁.setTop (mkF m 11 #[.val (.long p0), .second, .val (.long p1), .second, .val (.long p2), .second, .val (.long p3), .second, .val (.int p4), .unset, .unset, .unset, .unset, .unset, .unset, .unset, .unset, .unset] [])) _
      refine XS.lload X0.here hx rfl (hb hby at_11) rfl ?_
      show Steps p.tables e below (s₁.setTop (mkF m 13 #[.val (.long p0), .second, .val (.long p1), .second, .val (.long p2), .second, .val (.long p3), .second, .val (.int p4), .unset, .unset, .unset, .unset, .unset, .unset, .unset, .unset, .unset] [(.long p2)])) _
      exact kk
    · skip
      refine ⟨p0, ((if_neg c4).trans rfl).symm, fun t kk => P1 t ?_⟩
      show Steps p.tables e below (s₁.setTop (mkF m 4 #[.val (.long p0), .second, .val (.long p1), .second, .val (.long p2), .second, .val (.long p3), .second, .val (.int p4), .unset, .unset, .unset, .unset, .unset, .unset, .unset, .unset, .unset] [(.int (p4 &&& (1 : Int32)))])) _
      refine XS.ifNo X0.here hx rfl (hb hby at_4) rfl (XT.i0_eq_f c4) ?_
      show Steps p.tables e below (s₁.setTop (mkF m 7 #[.val (.long p0), .second, .val (.long p1), .second, .val (.long p2), .second, .val (.long p3), .second, .val (.int p4), .unset, .unset, .unset, .unset, .unset, .unset, .unset, .unset, .unset] [])) _
      refine XS.lloadN X0.here hx rfl (hb hby at_7) rfl ?_
      show Steps p.tables e below (s₁.setTop (mkF m 8 #[.val (.long p0), .second, .val (.long p1), .second, .val (.long p2), .second, .val (.long p3), .second, .val (.int p4), .unset, .unset, .unset, .unset, .unset, .unset, .unset, .unset, .unset] [(.long p0)])) _
      refine XS.goto X0.here hx rfl (pc0 := 8) (pc' := 13) rfl (hb hby at_8) (by decide) (by decide) ?_
      show Steps p.tables e below (s₁.setTop (mkF m 13 #[.val (.long p0), .second, .val (.long p1), .second, .val (.long p2), .second, .val (.long p3), .second, .val (.int p4), .unset, .unset, .unset, .unset, .unset, .unset, .unset, .unset, .unset] [(.long p0)])) _
      exact kk
  have P5 : ∀ t, Steps p.tables e below (s₁.setTop (mkF m 19 #[.val (.long p0), .second, .val (.long p1), .second, .val (.long p2), .second, .val (.long p3), .second, .val (.int p4), .val (.long j2), .second, .unset, .unset, .unset, .unset, .unset, .unset, .unset] [(.int (p4 &&& (2 : Int32)))])) t → Steps p.tables e below (s₁.setTop (entryFrame m #[(.long p0), (.long p1), (.long p2), (.long p3), (.int p4)] maxLocals)) t := by
    intro t kk
    refine P3 _ ?_
    show Steps p.tables e below (s₁.setTop (mkF m 13 #[.val (.long p0), .second, .val (.long p1), .second, .val (.long p2), .second, .val (.long p3), .second, .val (.int p4), .unset, .unset, .unset, .unset, .unset, .unset, .unset, .unset, .unset] [(.long j2)])) _
    refine XS.lstore X0.here hx rfl (hb hby at_13) rfl (l' := #[.val (.long p0), .second, .val (.long p1), .second, .val (.long p2), .second, .val (.long p3), .second, .val (.int p4), .val (.long j2), .second, .unset, .unset, .unset, .unset, .unset, .unset, .unset]) rfl ?_
    show Steps p.tables e below (s₁.setTop (mkF m 15 #[.val (.long p0), .second, .val (.long p1), .second, .val (.long p2), .second, .val (.long p3), .second, .val (.int p4), .val (.long j2), .second, .unset, .unset, .unset, .unset, .unset, .unset, .unset] [])) _
    refine XS.iload X0.here hx rfl (hb hby at_15) rfl ?_
    show Steps p.tables e below (s₁.setTop (mkF m 17 #[.val (.long p0), .second, .val (.long p1), .second, .val (.long p2), .second, .val (.long p3), .second, .val (.int p4), .val (.long j2), .second, .unset, .unset, .unset, .unset, .unset, .unset, .unset] [(.int p4)])) _
    refine XS.iconst X0.here hx rfl (hb hby at_17) ?_
    show Steps p.tables e below (s₁.setTop (mkF m 18 #[.val (.long p0), .second, .val (.long p1), .second, .val (.long p2), .second, .val (.long p3), .second, .val (.int p4), .val (.long j2), .second, .unset, .unset, .unset, .unset, .unset, .unset, .unset] [(.int (2 : Int32)), (.int p4)])) _
    refine XS.iand X0.here hx rfl (hb hby at_18) rfl ?_
    show Steps p.tables e below (s₁.setTop (mkF m 19 #[.val (.long p0), .second, .val (.long p1), .second, .val (.long p2), .second, .val (.long p3), .second, .val (.int p4), .val (.long j2), .second, .unset, .unset, .unset, .unset, .unset, .unset, .unset] [(.int (p4 &&& (2 : Int32)))])) _
    exact kk
  obtain ⟨j6, h_j6, P7⟩ : ∃ (j6 : Int64), j6 = (if (p4 &&& (2 : Int32)) = (0 : Int32) then p3 else p1) ∧ ∀ t, Steps p.tables e below (s₁.setTop (mkF m 28 #[.val (.long p0), .second, .val (.long p1), .second, .val (.long p2), .second, .val (.long p3), .second, .val (.int p4), .val (.long j2), .second, .unset, .unset, .unset, .unset, .unset, .unset, .unset] [(.long j6)])) t → Steps p.tables e below (s₁.setTop (entryFrame m #[(.long p0), (.long p1), (.long p2), (.long p3), (.int p4)] maxLocals)) t := by
    by_cases c8 : (p4 &&& (2 : Int32)) = (0 : Int32)
    · skip
      refine ⟨p3, ((if_pos c8).trans rfl).symm, fun t kk => P5 t ?_⟩
      show Steps p.tables e below (s₁.setTop (mkF m 19 #[.val (.long p0), .second, .val (.long p1), .second, .val (.long p2), .second, .val (.long p3), .second, .val (.int p4), .val (.long j2), .second, .unset, .unset, .unset, .unset, .unset, .unset, .unset] [(.int (p4 &&& (2 : Int32)))])) _
      refine XS.ifYes X0.here hx rfl (pc0 := 19) (pc' := 26) rfl (hb hby at_19) rfl (XT.i0_eq_t c8) (by decide) (by decide) ?_
      show Steps p.tables e below (s₁.setTop (mkF m 26 #[.val (.long p0), .second, .val (.long p1), .second, .val (.long p2), .second, .val (.long p3), .second, .val (.int p4), .val (.long j2), .second, .unset, .unset, .unset, .unset, .unset, .unset, .unset] [])) _
      refine XS.lload X0.here hx rfl (hb hby at_26) rfl ?_
      show Steps p.tables e below (s₁.setTop (mkF m 28 #[.val (.long p0), .second, .val (.long p1), .second, .val (.long p2), .second, .val (.long p3), .second, .val (.int p4), .val (.long j2), .second, .unset, .unset, .unset, .unset, .unset, .unset, .unset] [(.long p3)])) _
      exact kk
    · skip
      refine ⟨p1, ((if_neg c8).trans rfl).symm, fun t kk => P5 t ?_⟩
      show Steps p.tables e below (s₁.setTop (mkF m 19 #[.val (.long p0), .second, .val (.long p1), .second, .val (.long p2), .second, .val (.long p3), .second, .val (.int p4), .val (.long j2), .second, .unset, .unset, .unset, .unset, .unset, .unset, .unset] [(.int (p4 &&& (2 : Int32)))])) _
      refine XS.ifNo X0.here hx rfl (hb hby at_19) rfl (XT.i0_eq_f c8) ?_
      show Steps p.tables e below (s₁.setTop (mkF m 22 #[.val (.long p0), .second, .val (.long p1), .second, .val (.long p2), .second, .val (.long p3), .second, .val (.int p4), .val (.long j2), .second, .unset, .unset, .unset, .unset, .unset, .unset, .unset] [])) _
      refine XS.lloadN X0.here hx rfl (hb hby at_22) rfl ?_
      show Steps p.tables e below (s₁.setTop (mkF m 23 #[.val (.long p0), .second, .val (.long p1), .second, .val (.long p2), .second, .val (.long p3), .second, .val (.int p4), .val (.long j2), .second, .unset, .unset, .unset, .unset, .unset, .unset, .unset] [(.long p1)])) _
      refine XS.goto X0.here hx rfl (pc0 := 23) (pc' := 28) rfl (hb hby at_23) (by decide) (by decide) ?_
      show Steps p.tables e below (s₁.setTop (mkF m 28 #[.val (.long p0), .second, .val (.long p1), .second, .val (.long p2), .second, .val (.long p3), .second, .val (.int p4), .val (.long j2), .second, .unset, .unset, .unset, .unset, .unset, .unset, .unset] [(.long p1)])) _
      exact kk
  obtain ⟨_, _, ⟨T9, L9, k9, n9⟩, -, X9, ⟨Lc9, hQ9, l9, y9, z9⟩, st9⟩ := Jvm.LawKit.callS X0 hx (y := (⟨"com/example/quernloop/quernloop/DueQueue", "isAhead", "(JJJJ)Z"⟩ : MethodName)) hown (mvT hZ (hw _ (List.mem_of_getElem? (i := 0) rfl))) (mvT hZ (hw _ (List.mem_of_getElem? (i := 1) rfl))) (mvT hZ (hw _ (List.mem_of_getElem? (i := 2) rfl))) (mvT hZ (hw _ (List.mem_of_getElem? (i := 3) rfl))) (by decide) (backOf (W := 0) (rm1 l Z a0 hw [] p0 p1 j2 j6 h0 n0 Z0 ) hZ (hw _ (List.mem_of_getElem? (i := 3) rfl)) (hw _ (List.mem_of_getElem? (i := 2) rfl)) (by decide) (by decide)) (g := (mkF m 36 #[.val (.long p0), .second, .val (.long p1), .second, .val (.long p2), .second, .val (.long p3), .second, .val (.int p4), .val (.long j2), .second, .val (.long j6), .second, .unset, .unset, .unset, .unset, .unset] [(.long j6), (.long j2), (.long p1), (.long p0)])) rfl (by rw [hml]; rfl) (argsL := [(.long p0), (.long p1), (.long j2), (.long j6)]) (rest := []) (lenOf pd_0 rfl) rfl (by show 2 * 0 + _ ≤ _; exact Nat.le_of_eq rfl) (hb hby at_36) (fun _ _ => ⟨rfl, e0, (by decide : 0 + 0 ≤ _), (by decide : 0 + 0 ≤ _)⟩)
  dsimp only [Pt.U, Pt.locs, Pt.cells, Pt.slots] at X9 l9 y9 z9 st9 hQ9
  subst l9 y9 z9
  obtain ⟨rfl, Nq9, e9⟩ := hQ9
  have N9 := Fr.app N0 Nq9
  obtain ⟨_, _, ⟨T10, L10, k10, n10⟩, -, X10, ⟨Lc10, hQ10, l10, y10, z10⟩, st10⟩ := Jvm.LawKit.callS X9 hx (y := (⟨"com/example/quernloop/quernloop/DueQueue", "isAhead", "(JJJJ)Z"⟩ : MethodName)) hown (mvT hZ (hw _ (List.mem_of_getElem? (i := 0) rfl))) (mvT hZ (hw _ (List.mem_of_getElem? (i := 1) rfl))) (mvT hZ (hw _ (List.mem_of_getElem? (i := 2) rfl))) (mvT hZ (hw _ (List.mem_of_getElem? (i := 3) rfl))) (by decide) (backOf (W := 0) (rm1 l Z a0 hw [] j2 j6 p0 p1 h0 n0 Z0 ) hZ (hw _ (List.mem_of_getElem? (i := 3) rfl)) (hw _ (List.mem_of_getElem? (i := 2) rfl)) (by decide) (by decide)) (g := (mkF m 47 #[.val (.long p0), .second, .val (.long p1), .second, .val (.long p2), .second, .val (.long p3), .second, .val (.int p4), .val (.long j2), .second, .val (.long j6), .second, .val (.int (F1 p0 p1 j2 j6)), .unset, .unset, .unset, .unset] [(.long p1), (.long p0), (.long j6), (.long j2)])) rfl (by rw [hml]; rfl) (argsL := [(.long j2), (.long j6), (.long p0), (.long p1)]) (rest := []) (lenOf pd_0 rfl) rfl (by show 2 * 0 + _ ≤ _; exact Nat.le_of_eq rfl) (hb hby at_47) (fun _ _ => ⟨rfl, e9, (by decide : 0 + 0 ≤ _), (by decide : 0 + 0 ≤ _)⟩)
  dsimp only [Pt.U, Pt.locs, Pt.cells, Pt.slots] at X10 l10 y10 z10 st10 hQ10
  subst l10 y10 z10
  obtain ⟨rfl, Nq10, e10⟩ := hQ10
  have N10 := Fr.app N9 Nq10
  have P11 : ∀ t, Steps p.tables e below (T10.setTop (mkF m 56 #[.val (.long p0), .second, .val (.long p1), .second, .val (.long p2), .second, .val (.long p3), .second, .val (.int p4), .val (.long j2), .second, .val (.long j6), .second, .val (.int (F1 p0 p1 j2 j6)), .val (.int (F1 j2 j6 p0 p1)), .unset, .unset, .unset] [(.int (XT.cmpL p0 j2))])) t → Steps p.tables e below (s₁.setTop (entryFrame m #[(.long p0), (.long p1), (.long p2), (.long p3), (.int p4)] maxLocals)) t := by
    intro t kk
    refine P7 _ ?_
    show Steps p.tables e below (s₁.setTop (mkF m 28 #[.val (.long p0), .second, .val (.long p1), .second, .val (.long p2), .second, .val (.long p3), .second, .val (.int p4), .val (.long j2), .second, .unset, .unset, .unset, .unset, .unset, .unset, .unset] [(.long j6)])) _
    refine XS.lstore X0.here hx rfl (hb hby at_28) rfl (l' := #[.val (.long p0), .second, .val (.long p1), .second, .val (.long p2), .second, .val (.long p3), .second, .val (.int p4), .val (.long j2), .second, .val (.long j6), .second, .unset, .unset, .unset, .unset, .unset]) rfl ?_
    show Steps p.tables e below (s₁.setTop (mkF m 30 #[.val (.long p0), .second, .val (.long p1), .second, .val (.long p2), .second, .val (.long p3), .second, .val (.int p4), .val (.long j2), .second, .val (.long j6), .second, .unset, .unset, .unset, .unset, .unset] [])) _
    refine XS.lloadN X0.here hx rfl (hb hby at_30) rfl ?_
    show Steps p.tables e below (s₁.setTop (mkF m 31 #[.val (.long p0), .second, .val (.long p1), .second, .val (.long p2), .second, .val (.long p3), .second, .val (.int p4), .val (.long j2), .second, .val (.long j6), .second, .unset, .unset, .unset, .unset, .unset] [(.long p0)])) _
    refine XS.lloadN X0.here hx rfl (hb hby at_31) rfl ?_
    show Steps p.tables e below (s₁.setTop (mkF m 32 #[.val (.long p0), .second, .val (.long p1), .second, .val (.long p2), .second, .val (.long p3), .second, .val (.int p4), .val (.long j2), .second, .val (.long j6), .second, .unset, .unset, .unset, .unset, .unset] [(.long p1), (.long p0)])) _
    refine XS.lload X0.here hx rfl (hb hby at_32) rfl ?_
    show Steps p.tables e below (s₁.setTop (mkF m 34 #[.val (.long p0), .second, .val (.long p1), .second, .val (.long p2), .second, .val (.long p3), .second, .val (.int p4), .val (.long j2), .second, .val (.long j6), .second, .unset, .unset, .unset, .unset, .unset] [(.long j2), (.long p1), (.long p0)])) _
    refine XS.lload X0.here hx rfl (hb hby at_34) rfl ?_
    show Steps p.tables e below (s₁.setTop (mkF m 36 #[.val (.long p0), .second, .val (.long p1), .second, .val (.long p2), .second, .val (.long p3), .second, .val (.int p4), .val (.long j2), .second, .val (.long j6), .second, .unset, .unset, .unset, .unset, .unset] [(.long j6), (.long j2), (.long p1), (.long p0)])) _
    refine st9 _ ?_
    show Steps p.tables e below (T9.setTop (mkF m 39 #[.val (.long p0), .second, .val (.long p1), .second, .val (.long p2), .second, .val (.long p3), .second, .val (.int p4), .val (.long j2), .second, .val (.long j6), .second, .unset, .unset, .unset, .unset, .unset] [(.int (F1 p0 p1 j2 j6))])) _
    refine XS.istore X9.here hx rfl (hb hby at_39) rfl (l' := #[.val (.long p0), .second, .val (.long p1), .second, .val (.long p2), .second, .val (.long p3), .second, .val (.int p4), .val (.long j2), .second, .val (.long j6), .second, .val (.int (F1 p0 p1 j2 j6)), .unset, .unset, .unset, .unset]) rfl ?_
    show Steps p.tables e below (T9.setTop (mkF m 41 #[.val (.long p0), .second, .val (.long p1), .second, .val (.long p2), .second, .val (.long p3), .second, .val (.int p4), .val (.long j2), .second, .val (.long j6), .second, .val (.int (F1 p0 p1 j2 j6)), .unset, .unset, .unset, .unset] [])) _
    refine XS.lload X9.here hx rfl (hb hby at_41) rfl ?_
    show Steps p.tables e below (T9.setTop (mkF m 43 #[.val (.long p0), .second, .val (.long p1), .second, .val (.long p2), .second, .val (.long p3), .second, .val (.int p4), .val (.long j2), .second, .val (.long j6), .second, .val (.int (F1 p0 p1 j2 j6)), .unset, .unset, .unset, .unset] [(.long j2)])) _
    refine XS.lload X9.here hx rfl (hb hby at_43) rfl ?_
    show Steps p.tables e below (T9.setTop (mkF m 45 #[.val (.long p0), .second, .val (.long p1), .second, .val (.long p2), .second, .val (.long p3), .second, .val (.int p4), .val (.long j2), .second, .val (.long j6), .second, .val (.int (F1 p0 p1 j2 j6)), .unset, .unset, .unset, .unset] [(.long j6), (.long j2)])) _
    refine XS.lloadN X9.here hx rfl (hb hby at_45) rfl ?_
    show Steps p.tables e below (T9.setTop (mkF m 46 #[.val (.long p0), .second, .val (.long p1), .second, .val (.long p2), .second, .val (.long p3), .second, .val (.int p4), .val (.long j2), .second, .val (.long j6), .second, .val (.int (F1 p0 p1 j2 j6)), .unset, .unset, .unset, .unset] [(.long p0), (.long j6), (.long j2)])) _
    refine XS.lloadN X9.here hx rfl (hb hby at_46) rfl ?_
    show Steps p.tables e below (T9.setTop (mkF m 47 #[.val (.long p0), .second, .val (.long p1), .second, .val (.long p2), .second, .val (.long p3), .second, .val (.int p4), .val (.long j2), .second, .val (.long j6), .second, .val (.int (F1 p0 p1 j2 j6)), .unset, .unset, .unset, .unset] [(.long p1), (.long p0), (.long j6), (.long j2)])) _
    refine st10 _ ?_
    show Steps p.tables e below (T10.setTop (mkF m 50 #[.val (.long p0), .second, .val (.long p1), .second, .val (.long p2), .second, .val (.long p3), .second, .val (.int p4), .val (.long j2), .second, .val (.long j6), .second, .val (.int (F1 p0 p1 j2 j6)), .unset, .unset, .unset, .unset] [(.int (F1 j2 j6 p0 p1))])) _
    refine XS.istore X10.here hx rfl (hb hby at_50) rfl (l' := #[.val (.long p0), .second, .val (.long p1), .second, .val (.long p2), .second, .val (.long p3), .second, .val (.int p4), .val (.long j2), .second, .val (.long j6), .second, .val (.int (F1 p0 p1 j2 j6)), .val (.int (F1 j2 j6 p0 p1)), .unset, .unset, .unset]) rfl ?_
    show Steps p.tables e below (T10.setTop (mkF m 52 #[.val (.long p0), .second, .val (.long p1), .second, .val (.long p2), .second, .val (.long p3), .second, .val (.int p4), .val (.long j2), .second, .val (.long j6), .second, .val (.int (F1 p0 p1 j2 j6)), .val (.int (F1 j2 j6 p0 p1)), .unset, .unset, .unset] [])) _
    refine XS.lloadN X10.here hx rfl (hb hby at_52) rfl ?_
    show Steps p.tables e below (T10.setTop (mkF m 53 #[.val (.long p0), .second, .val (.long p1), .second, .val (.long p2), .second, .val (.long p3), .second, .val (.int p4), .val (.long j2), .second, .val (.long j6), .second, .val (.int (F1 p0 p1 j2 j6)), .val (.int (F1 j2 j6 p0 p1)), .unset, .unset, .unset] [(.long p0)])) _
    refine XS.lload X10.here hx rfl (hb hby at_53) rfl ?_
    show Steps p.tables e below (T10.setTop (mkF m 55 #[.val (.long p0), .second, .val (.long p1), .second, .val (.long p2), .second, .val (.long p3), .second, .val (.int p4), .val (.long j2), .second, .val (.long j6), .second, .val (.int (F1 p0 p1 j2 j6)), .val (.int (F1 j2 j6 p0 p1)), .unset, .unset, .unset] [(.long j2), (.long p0)])) _
    refine XT.lcmp X10.here hx rfl (hb hby at_55) rfl ?_
    show Steps p.tables e below (T10.setTop (mkF m 56 #[.val (.long p0), .second, .val (.long p1), .second, .val (.long p2), .second, .val (.long p3), .second, .val (.int p4), .val (.long j2), .second, .val (.long j6), .second, .val (.int (F1 p0 p1 j2 j6)), .val (.int (F1 j2 j6 p0 p1)), .unset, .unset, .unset] [(.int (XT.cmpL p0 j2))])) _
    exact kk
  obtain ⟨i12, h_i12, P13⟩ : ∃ (i12 : Int32), i12 = (if p0 < j2 then (1 : Int32) else (if j2 < p0 then (0 : Int32) else (if p1 < j6 then (1 : Int32) else (0 : Int32)))) ∧ ∀ t, Steps p.tables e below (T10.setTop (mkF m 92 #[.val (.long p0), .second, .val (.long p1), .second, .val (.long p2), .second, .val (.long p3), .second, .val (.int p4), .val (.long j2), .second, .val (.long j6), .second, .val (.int (F1 p0 p1 j2 j6)), .val (.int (F1 j2 j6 p0 p1)), .val (.int i12), .unset, .unset] [])) t → Steps p.tables e below (s₁.setTop (entryFrame m #[(.long p0), (.long p1), (.long p2), (.long p3), (.int p4)] maxLocals)) t := by
    by_cases c14 : p0 < j2
    · skip
      refine ⟨(1 : Int32), ((if_pos c14).trans rfl).symm, fun t kk => P11 t ?_⟩
      show Steps p.tables e below (T10.setTop (mkF m 56 #[.val (.long p0), .second, .val (.long p1), .second, .val (.long p2), .second, .val (.long p3), .second, .val (.int p4), .val (.long j2), .second, .val (.long j6), .second, .val (.int (F1 p0 p1 j2 j6)), .val (.int (F1 j2 j6 p0 p1)), .unset, .unset, .unset] [(.int (XT.cmpL p0 j2))])) _
      refine XS.ifNo X10.here hx rfl (hb hby at_56) rfl (XT.ll_ge_f c14) ?_
      show Steps p.tables e below (T10.setTop (mkF m 59 #[.val (.long p0), .second, .val (.long p1), .second, .val (.long p2), .second, .val (.long p3), .second, .val (.int p4), .val (.long j2), .second, .val (.long j6), .second, .val (.int (F1 p0 p1 j2 j6)), .val (.int (F1 j2 j6 p0 p1)), .unset, .unset, .unset] [])) _
      refine XS.iconst X10.here hx rfl (hb hby at_59) ?_
      show Steps p.tables e below (T10.setTop (mkF m 60 #[.val (.long p0), .second, .val (.long p1), .second, .val (.long p2), .second, .val (.long p3), .second, .val (.int p4), .val (.long j2), .second, .val (.long j6), .second, .val (.int (F1 p0 p1 j2 j6)), .val (.int (F1 j2 j6 p0 p1)), .unset, .unset, .unset] [(.int (1 : Int32))])) _
      refine XS.istore X10.here hx rfl (hb hby at_60) rfl (l' := #[.val (.long p0), .second, .val (.long p1), .second, .val (.long p2), .second, .val (.long p3), .second, .val (.int p4), .val (.long j2), .second, .val (.long j6), .second, .val (.int (F1 p0 p1 j2 j6)), .val (.int (F1 j2 j6 p0 p1)), .val (.int (1 : Int32)), .unset, .unset]) rfl ?_
      show Steps p.tables e below (T10.setTop (mkF m 62 #[.val (.long p0), .second, .val (.long p1), .second, .val (.long p2), .second, .val (.long p3), .second, .val (.int p4), .val (.long j2), .second, .val (.long j6), .second, .val (.int (F1 p0 p1 j2 j6)), .val (.int (F1 j2 j6 p0 p1)), .val (.int (1 : Int32)), .unset, .unset] [])) _
      refine XS.goto X10.here hx rfl (pc0 := 62) (pc' := 92) rfl (hb hby at_62) (by decide) (by decide) ?_
      show Steps p.tables e below (T10.setTop (mkF m 92 #[.val (.long p0), .second, .val (.long p1), .second, .val (.long p2), .second, .val (.long p3), .second, .val (.int p4), .val (.long j2), .second, .val (.long j6), .second, .val (.int (F1 p0 p1 j2 j6)), .val (.int (F1 j2 j6 p0 p1)), .val (.int (1 : Int32)), .unset, .unset] [])) _
      exact kk
    · skip
      have P15 : ∀ t, Steps p.tables e below (T10.setTop (mkF m 69 #[.val (.long p0), .second, .val (.long p1), .second, .val (.long p2), .second, .val (.long p3), .second, .val (.int p4), .val (.long j2), .second, .val (.long j6), .second, .val (.int (F1 p0 p1 j2 j6)), .val (.int (F1 j2 j6 p0 p1)), .unset, .unset, .unset] [(.int (XT.cmpL p0 j2))])) t → Steps p.tables e below (s₁.setTop (entryFrame m #[(.long p0), (.long p1), (.long p2), (.long p3), (.int p4)] maxLocals)) t := by
        intro t kk
        refine P11 _ ?_
        show Steps p.tables e below (T10.setTop (mkF m 56 #[.val (.long p0), .second, .val (.long p1), .second, .val (.long p2), .second, .val (.long p3), .second, .val (.int p4), .val (.long j2), .second, .val (.long j6), .second, .val (.int (F1 p0 p1 j2 j6)), .val (.int (F1 j2 j6 p0 p1)), .unset, .unset, .unset] [(.int (XT.cmpL p0 j2))])) _
        refine XS.ifYes X10.here hx rfl (pc0 := 56) (pc' := 65) rfl (hb hby at_56) rfl (XT.ll_ge_t c14) (by decide) (by decide) ?_
        show Steps p.tables e below (T10.setTop (mkF m 65 #[.val (.long p0), .second, .val (.long p1), .second, .val (.long p2), .second, .val (.long p3), .second, .val (.int p4), .val (.long j2), .second, .val (.long j6), .second, .val (.int (F1 p0 p1 j2 j6)), .val (.int (F1 j2 j6 p0 p1)), .unset, .unset, .unset] [])) _
        refine XS.lloadN X10.here hx rfl (hb hby at_65) rfl ?_
        show Steps p.tables e below (T10.setTop (mkF m 66 #[.val (.long p0), .second, .val (.long p1), .second, .val (.long p2), .second, .val (.long p3), .second, .val (.int p4), .val (.long j2), .second, .val (.long j6), .second, .val (.int (F1 p0 p1 j2 j6)), .val (.int (F1 j2 j6 p0 p1)), .unset, .unset, .unset] [(.long p0)])) _
        refine XS.lload X10.here hx rfl (hb hby at_66) rfl ?_
        show Steps p.tables e below (T10.setTop (mkF m 68 #[.val (.long p0), .second, .val (.long p1), .second, .val (.long p2), .second, .val (.long p3), .second, .val (.int p4), .val (.long j2), .second, .val (.long j6), .second, .val (.int (F1 p0 p1 j2 j6)), .val (.int (F1 j2 j6 p0 p1)), .unset, .unset, .unset] [(.long j2), (.long p0)])) _
        refine XT.lcmp X10.here hx rfl (hb hby at_68) rfl ?_
        show Steps p.tables e below (T10.setTop (mkF m 69 #[.val (.long p0), .second, .val (.long p1), .second, .val (.long p2), .second, .val (.long p3), .second, .val (.int p4), .val (.long j2), .second, .val (.long j6), .second, .val (.int (F1 p0 p1 j2 j6)), .val (.int (F1 j2 j6 p0 p1)), .unset, .unset, .unset] [(.int (XT.cmpL p0 j2))])) _
        exact kk
      by_cases c16 : j2 < p0
      · skip
        refine ⟨(0 : Int32), ((if_neg c14).trans ((if_pos c16).trans rfl)).symm, fun t kk => P15 t ?_⟩
        show Steps p.tables e below (T10.setTop (mkF m 69 #[.val (.long p0), .second, .val (.long p1), .second, .val (.long p2), .second, .val (.long p3), .second, .val (.int p4), .val (.long j2), .second, .val (.long j6), .second, .val (.int (F1 p0 p1 j2 j6)), .val (.int (F1 j2 j6 p0 p1)), .unset, .unset, .unset] [(.int (XT.cmpL p0 j2))])) _
        refine XS.ifNo X10.here hx rfl (hb hby at_69) rfl (XT.ll_le_f c16) ?_
        show Steps p.tables e below (T10.setTop (mkF m 72 #[.val (.long p0), .second, .val (.long p1), .second, .val (.long p2), .second, .val (.long p3), .second, .val (.int p4), .val (.long j2), .second, .val (.long j6), .second, .val (.int (F1 p0 p1 j2 j6)), .val (.int (F1 j2 j6 p0 p1)), .unset, .unset, .unset] [])) _
        refine XS.iconst X10.here hx rfl (hb hby at_72) ?_
        show Steps p.tables e below (T10.setTop (mkF m 73 #[.val (.long p0), .second, .val (.long p1), .second, .val (.long p2), .second, .val (.long p3), .second, .val (.int p4), .val (.long j2), .second, .val (.long j6), .second, .val (.int (F1 p0 p1 j2 j6)), .val (.int (F1 j2 j6 p0 p1)), .unset, .unset, .unset] [(.int (0 : Int32))])) _
        refine XS.istore X10.here hx rfl (hb hby at_73) rfl (l' := #[.val (.long p0), .second, .val (.long p1), .second, .val (.long p2), .second, .val (.long p3), .second, .val (.int p4), .val (.long j2), .second, .val (.long j6), .second, .val (.int (F1 p0 p1 j2 j6)), .val (.int (F1 j2 j6 p0 p1)), .val (.int (0 : Int32)), .unset, .unset]) rfl ?_
        show Steps p.tables e below (T10.setTop (mkF m 75 #[.val (.long p0), .second, .val (.long p1), .second, .val (.long p2), .second, .val (.long p3), .second, .val (.int p4), .val (.long j2), .second, .val (.long j6), .second, .val (.int (F1 p0 p1 j2 j6)), .val (.int (F1 j2 j6 p0 p1)), .val (.int (0 : Int32)), .unset, .unset] [])) _
        refine XS.goto X10.here hx rfl (pc0 := 75) (pc' := 92) rfl (hb hby at_75) (by decide) (by decide) ?_
        show Steps p.tables e below (T10.setTop (mkF m 92 #[.val (.long p0), .second, .val (.long p1), .second, .val (.long p2), .second, .val (.long p3), .second, .val (.int p4), .val (.long j2), .second, .val (.long j6), .second, .val (.int (F1 p0 p1 j2 j6)), .val (.int (F1 j2 j6 p0 p1)), .val (.int (0 : Int32)), .unset, .unset] [])) _
        exact kk
      · skip
        have P17 : ∀ t, Steps p.tables e below (T10.setTop (mkF m 82 #[.val (.long p0), .second, .val (.long p1), .second, .val (.long p2), .second, .val (.long p3), .second, .val (.int p4), .val (.long j2), .second, .val (.long j6), .second, .val (.int (F1 p0 p1 j2 j6)), .val (.int (F1 j2 j6 p0 p1)), .unset, .unset, .unset] [(.int (XT.cmpL p1 j6))])) t → Steps p.tables e below (s₁.setTop (entryFrame m #[(.long p0), (.long p1), (.long p2), (.long p3), (.int p4)] maxLocals)) t := by
          intro t kk
          refine P15 _ ?_
          show Steps p.tables e below (T10.setTop (mkF m 69 #[.val (.long p0), .second, .val (.long p1), .second, .val (.long p2), .second, .val (.long p3), .second, .val (.int p4), .val (.long j2), .second, .val (.long j6), .second, .val (.int (F1 p0 p1 j2 j6)), .val (.int (F1 j2 j6 p0 p1)), .unset, .unset, .unset] [(.int (XT.cmpL p0 j2))])) _
          refine XS.ifYes X10.here hx rfl (pc0 := 69) (pc' := 78) rfl (hb hby at_69) rfl (XT.ll_le_t c16) (by decide) (by decide) ?_
          show Steps p.tables e below (T10.setTop (mkF m 78 #[.val (.long p0), .second, .val (.long p1), .second, .val (.long p2), .second, .val (.long p3), .second, .val (.int p4), .val (.long j2), .second, .val (.long j6), .second, .val (.int (F1 p0 p1 j2 j6)), .val (.int (F1 j2 j6 p0 p1)), .unset, .unset, .unset] [])) _
          refine XS.lloadN X10.here hx rfl (hb hby at_78) rfl ?_
          show Steps p.tables e below (T10.setTop (mkF m 79 #[.val (.long p0), .second, .val (.long p1), .second, .val (.long p2), .second, .val (.long p3), .second, .val (.int p4), .val (.long j2), .second, .val (.long j6), .second, .val (.int (F1 p0 p1 j2 j6)), .val (.int (F1 j2 j6 p0 p1)), .unset, .unset, .unset] [(.long p1)])) _
          refine XS.lload X10.here hx rfl (hb hby at_79) rfl ?_
          show Steps p.tables e below (T10.setTop (mkF m 81 #[.val (.long p0), .second, .val (.long p1), .second, .val (.long p2), .second, .val (.long p3), .second, .val (.int p4), .val (.long j2), .second, .val (.long j6), .second, .val (.int (F1 p0 p1 j2 j6)), .val (.int (F1 j2 j6 p0 p1)), .unset, .unset, .unset] [(.long j6), (.long p1)])) _
          refine XT.lcmp X10.here hx rfl (hb hby at_81) rfl ?_
          show Steps p.tables e below (T10.setTop (mkF m 82 #[.val (.long p0), .second, .val (.long p1), .second, .val (.long p2), .second, .val (.long p3), .second, .val (.int p4), .val (.long j2), .second, .val (.long j6), .second, .val (.int (F1 p0 p1 j2 j6)), .val (.int (F1 j2 j6 p0 p1)), .unset, .unset, .unset] [(.int (XT.cmpL p1 j6))])) _
          exact kk
        by_cases c18 : p1 < j6
        · skip
          refine ⟨(1 : Int32), ((if_neg c14).trans ((if_neg c16).trans ((if_pos c18).trans rfl))).symm, fun t kk => P17 t ?_⟩
          show Steps p.tables e below (T10.setTop (mkF m 82 #[.val (.long p0), .second, .val (.long p1), .second, .val (.long p2), .second, .val (.long p3), .second, .val (.int p4), .val (.long j2), .second, .val (.long j6), .second, .val (.int (F1 p0 p1 j2 j6)), .val (.int (F1 j2 j6 p0 p1)), .unset, .unset, .unset] [(.int (XT.cmpL p1 j6))])) _
          refine XS.ifNo X10.here hx rfl (hb hby at_82) rfl (XT.ll_ge_f c18) ?_
          show Steps p.tables e below (T10.setTop (mkF m 85 #[.val (.long p0), .second, .val (.long p1), .second, .val (.long p2), .second, .val (.long p3), .second, .val (.int p4), .val (.long j2), .second, .val (.long j6), .second, .val (.int (F1 p0 p1 j2 j6)), .val (.int (F1 j2 j6 p0 p1)), .unset, .unset, .unset] [])) _
          refine XS.iconst X10.here hx rfl (hb hby at_85) ?_
          show Steps p.tables e below (T10.setTop (mkF m 86 #[.val (.long p0), .second, .val (.long p1), .second, .val (.long p2), .second, .val (.long p3), .second, .val (.int p4), .val (.long j2), .second, .val (.long j6), .second, .val (.int (F1 p0 p1 j2 j6)), .val (.int (F1 j2 j6 p0 p1)), .unset, .unset, .unset] [(.int (1 : Int32))])) _
          refine XS.goto X10.here hx rfl (pc0 := 86) (pc' := 90) rfl (hb hby at_86) (by decide) (by decide) ?_
          show Steps p.tables e below (T10.setTop (mkF m 90 #[.val (.long p0), .second, .val (.long p1), .second, .val (.long p2), .second, .val (.long p3), .second, .val (.int p4), .val (.long j2), .second, .val (.long j6), .second, .val (.int (F1 p0 p1 j2 j6)), .val (.int (F1 j2 j6 p0 p1)), .unset, .unset, .unset] [(.int (1 : Int32))])) _
          refine XS.istore X10.here hx rfl (hb hby at_90) rfl (l' := #[.val (.long p0), .second, .val (.long p1), .second, .val (.long p2), .second, .val (.long p3), .second, .val (.int p4), .val (.long j2), .second, .val (.long j6), .second, .val (.int (F1 p0 p1 j2 j6)), .val (.int (F1 j2 j6 p0 p1)), .val (.int (1 : Int32)), .unset, .unset]) rfl ?_
          show Steps p.tables e below (T10.setTop (mkF m 92 #[.val (.long p0), .second, .val (.long p1), .second, .val (.long p2), .second, .val (.long p3), .second, .val (.int p4), .val (.long j2), .second, .val (.long j6), .second, .val (.int (F1 p0 p1 j2 j6)), .val (.int (F1 j2 j6 p0 p1)), .val (.int (1 : Int32)), .unset, .unset] [])) _
          exact kk
        · skip
          refine ⟨(0 : Int32), ((if_neg c14).trans ((if_neg c16).trans ((if_neg c18).trans rfl))).symm, fun t kk => P17 t ?_⟩
          show Steps p.tables e below (T10.setTop (mkF m 82 #[.val (.long p0), .second, .val (.long p1), .second, .val (.long p2), .second, .val (.long p3), .second, .val (.int p4), .val (.long j2), .second, .val (.long j6), .second, .val (.int (F1 p0 p1 j2 j6)), .val (.int (F1 j2 j6 p0 p1)), .unset, .unset, .unset] [(.int (XT.cmpL p1 j6))])) _
          refine XS.ifYes X10.here hx rfl (pc0 := 82) (pc' := 89) rfl (hb hby at_82) rfl (XT.ll_ge_t c18) (by decide) (by decide) ?_
          show Steps p.tables e below (T10.setTop (mkF m 89 #[.val (.long p0), .second, .val (.long p1), .second, .val (.long p2), .second, .val (.long p3), .second, .val (.int p4), .val (.long j2), .second, .val (.long j6), .second, .val (.int (F1 p0 p1 j2 j6)), .val (.int (F1 j2 j6 p0 p1)), .unset, .unset, .unset] [])) _
          refine XS.iconst X10.here hx rfl (hb hby at_89) ?_
          show Steps p.tables e below (T10.setTop (mkF m 90 #[.val (.long p0), .second, .val (.long p1), .second, .val (.long p2), .second, .val (.long p3), .second, .val (.int p4), .val (.long j2), .second, .val (.long j6), .second, .val (.int (F1 p0 p1 j2 j6)), .val (.int (F1 j2 j6 p0 p1)), .unset, .unset, .unset] [(.int (0 : Int32))])) _
          refine XS.istore X10.here hx rfl (hb hby at_90) rfl (l' := #[.val (.long p0), .second, .val (.long p1), .second, .val (.long p2), .second, .val (.long p3), .second, .val (.int p4), .val (.long j2), .second, .val (.long j6), .second, .val (.int (F1 p0 p1 j2 j6)), .val (.int (F1 j2 j6 p0 p1)), .val (.int (0 : Int32)), .unset, .unset]) rfl ?_
          show Steps p.tables e below (T10.setTop (mkF m 92 #[.val (.long p0), .second, .val (.long p1), .second, .val (.long p2), .second, .val (.long p3), .second, .val (.int p4), .val (.long j2), .second, .val (.long j6), .second, .val (.int (F1 p0 p1 j2 j6)), .val (.int (F1 j2 j6 p0 p1)), .val (.int (0 : Int32)), .unset, .unset] [])) _
          exact kk
  have P19 : ∀ t, Steps p.tables e below (T10.setTop (mkF m 96 #[.val (.long p0), .second, .val (.long p1), .second, .val (.long p2), .second, .val (.long p3), .second, .val (.int p4), .val (.long j2), .second, .val (.long j6), .second, .val (.int (F1 p0 p1 j2 j6)), .val (.int (F1 j2 j6 p0 p1)), .val (.int i12), .unset, .unset] [(.int (XT.cmpL p0 j2))])) t → Steps p.tables e below (s₁.setTop (entryFrame m #[(.long p0), (.long p1), (.long p2), (.long p3), (.int p4)] maxLocals)) t := by
    intro t kk
    refine P13 _ ?_
    show Steps p.tables e below (T10.setTop (mkF m 92 #[.val (.long p0), .second, .val (.long p1), .second, .val (.long p2), .second, .val (.long p3), .second, .val (.int p4), .val (.long j2), .second, .val (.long j6), .second, .val (.int (F1 p0 p1 j2 j6)), .val (.int (F1 j2 j6 p0 p1)), .val (.int i12), .unset, .unset] [])) _
    refine XS.lloadN X10.here hx rfl (hb hby at_92) rfl ?_
    show Steps p.tables e below (T10.setTop (mkF m 93 #[.val (.long p0), .second, .val (.long p1), .second, .val (.long p2), .second, .val (.long p3), .second, .val (.int p4), .val (.long j2), .second, .val (.long j6), .second, .val (.int (F1 p0 p1 j2 j6)), .val (.int (F1 j2 j6 p0 p1)), .val (.int i12), .unset, .unset] [(.long p0)])) _
    refine XS.lload X10.here hx rfl (hb hby at_93) rfl ?_
    show Steps p.tables e below (T10.setTop (mkF m 95 #[.val (.long p0), .second, .val (.long p1), .second, .val (.long p2), .second, .val (.long p3), .second, .val (.int p4), .val (.long j2), .second, .val (.long j6), .second, .val (.int (F1 p0 p1 j2 j6)), .val (.int (F1 j2 j6 p0 p1)), .val (.int i12), .unset, .unset] [(.long j2), (.long p0)])) _
    refine XT.lcmp X10.here hx rfl (hb hby at_95) rfl ?_
    show Steps p.tables e below (T10.setTop (mkF m 96 #[.val (.long p0), .second, .val (.long p1), .second, .val (.long p2), .second, .val (.long p3), .second, .val (.int p4), .val (.long j2), .second, .val (.long j6), .second, .val (.int (F1 p0 p1 j2 j6)), .val (.int (F1 j2 j6 p0 p1)), .val (.int i12), .unset, .unset] [(.int (XT.cmpL p0 j2))])) _
    exact kk
  obtain ⟨i20, h_i20, P21⟩ : ∃ (i20 : Int32), i20 = (if p0 = j2 then (if p1 = j6 then (1 : Int32) else (0 : Int32)) else (0 : Int32)) ∧ ∀ t, Steps p.tables e below (T10.setTop (mkF m 111 #[.val (.long p0), .second, .val (.long p1), .second, .val (.long p2), .second, .val (.long p3), .second, .val (.int p4), .val (.long j2), .second, .val (.long j6), .second, .val (.int (F1 p0 p1 j2 j6)), .val (.int (F1 j2 j6 p0 p1)), .val (.int i12), .unset, .unset] [(.int i20)])) t → Steps p.tables e below (s₁.setTop (entryFrame m #[(.long p0), (.long p1), (.long p2), (.long p3), (.int p4)] maxLocals)) t := by
    by_cases c22 : p0 = j2
    · skip
      have P23 : ∀ t, Steps p.tables e below (T10.setTop (mkF m 103 #[.val (.long p0), .second, .val (.long p1), .second, .val (.long p2), .second, .val (.long p3), .second, .val (.int p4), .val (.long j2), .second, .val (.long j6), .second, .val (.int (F1 p0 p1 j2 j6)), .val (.int (F1 j2 j6 p0 p1)), .val (.int i12), .unset, .unset] [(.int (XT.cmpL p1 j6))])) t → Steps p.tables e below (s₁.setTop (entryFrame m #[(.long p0), (.long p1), (.long p2), (.long p3), (.int p4)] maxLocals)) t := by
        intro t kk
        refine P19 _ ?_
        show Steps p.tables e below (T10.setTop (mkF m 96 #[.val (.long p0), .second, .val (.long p1), .second, .val (.long p2), .second, .val (.long p3), .second, .val (.int p4), .val (.long j2), .second, .val (.long j6), .second, .val (.int (F1 p0 p1 j2 j6)), .val (.int (F1 j2 j6 p0 p1)), .val (.int i12), .unset, .unset] [(.int (XT.cmpL p0 j2))])) _
        refine XS.ifNo X10.here hx rfl (hb hby at_96) rfl (XT.ll_ne_f c22) ?_
        show Steps p.tables e below (T10.setTop (mkF m 99 #[.val (.long p0), .second, .val (.long p1), .second, .val (.long p2), .second, .val (.long p3), .second, .val (.int p4), .val (.long j2), .second, .val (.long j6), .second, .val (.int (F1 p0 p1 j2 j6)), .val (.int (F1 j2 j6 p0 p1)), .val (.int i12), .unset, .unset] [])) _
        refine XS.lloadN X10.here hx rfl (hb hby at_99) rfl ?_
        show Steps p.tables e below (T10.setTop (mkF m 100 #[.val (.long p0), .second, .val (.long p1), .second, .val (.long p2), .second, .val (.long p3), .second, .val (.int p4), .val (.long j2), .second, .val (.long j6), .second, .val (.int (F1 p0 p1 j2 j6)), .val (.int (F1 j2 j6 p0 p1)), .val (.int i12), .unset, .unset] [(.long p1)])) _
        refine XS.lload X10.here hx rfl (hb hby at_100) rfl ?_
        show Steps p.tables e below (T10.setTop (mkF m 102 #[.val (.long p0), .second, .val (.long p1), .second, .val (.long p2), .second, .val (.long p3), .second, .val (.int p4), .val (.long j2), .second, .val (.long j6), .second, .val (.int (F1 p0 p1 j2 j6)), .val (.int (F1 j2 j6 p0 p1)), .val (.int i12), .unset, .unset] [(.long j6), (.long p1)])) _
        refine XT.lcmp X10.here hx rfl (hb hby at_102) rfl ?_
        show Steps p.tables e below (T10.setTop (mkF m 103 #[.val (.long p0), .second, .val (.long p1), .second, .val (.long p2), .second, .val (.long p3), .second, .val (.int p4), .val (.long j2), .second, .val (.long j6), .second, .val (.int (F1 p0 p1 j2 j6)), .val (.int (F1 j2 j6 p0 p1)), .val (.int i12), .unset, .unset] [(.int (XT.cmpL p1 j6))])) _
        exact kk
      by_cases c24 : p1 = j6
      · skip
        refine ⟨(1 : Int32), ((if_pos c22).trans ((if_pos c24).trans rfl)).symm, fun t kk => P23 t ?_⟩
        show Steps p.tables e below (T10.setTop (mkF m 103 #[.val (.long p0), .second, .val (.long p1), .second, .val (.long p2), .second, .val (.long p3), .second, .val (.int p4), .val (.long j2), .second, .val (.long j6), .second, .val (.int (F1 p0 p1 j2 j6)), .val (.int (F1 j2 j6 p0 p1)), .val (.int i12), .unset, .unset] [(.int (XT.cmpL p1 j6))])) _
        refine XS.ifNo X10.here hx rfl (hb hby at_103) rfl (XT.ll_ne_f c24) ?_
        show Steps p.tables e below (T10.setTop (mkF m 106 #[.val (.long p0), .second, .val (.long p1), .second, .val (.long p2), .second, .val (.long p3), .second, .val (.int p4), .val (.long j2), .second, .val (.long j6), .second, .val (.int (F1 p0 p1 j2 j6)), .val (.int (F1 j2 j6 p0 p1)), .val (.int i12), .unset, .unset] [])) _
        refine XS.iconst X10.here hx rfl (hb hby at_106) ?_
        show Steps p.tables e below (T10.setTop (mkF m 107 #[.val (.long p0), .second, .val (.long p1), .second, .val (.long p2), .second, .val (.long p3), .second, .val (.int p4), .val (.long j2), .second, .val (.long j6), .second, .val (.int (F1 p0 p1 j2 j6)), .val (.int (F1 j2 j6 p0 p1)), .val (.int i12), .unset, .unset] [(.int (1 : Int32))])) _
        refine XS.goto X10.here hx rfl (pc0 := 107) (pc' := 111) rfl (hb hby at_107) (by decide) (by decide) ?_
        show Steps p.tables e below (T10.setTop (mkF m 111 #[.val (.long p0), .second, .val (.long p1), .second, .val (.long p2), .second, .val (.long p3), .second, .val (.int p4), .val (.long j2), .second, .val (.long j6), .second, .val (.int (F1 p0 p1 j2 j6)), .val (.int (F1 j2 j6 p0 p1)), .val (.int i12), .unset, .unset] [(.int (1 : Int32))])) _
        exact kk
      · skip
        refine ⟨(0 : Int32), ((if_pos c22).trans ((if_neg c24).trans rfl)).symm, fun t kk => P23 t ?_⟩
        show Steps p.tables e below (T10.setTop (mkF m 103 #[.val (.long p0), .second, .val (.long p1), .second, .val (.long p2), .second, .val (.long p3), .second, .val (.int p4), .val (.long j2), .second, .val (.long j6), .second, .val (.int (F1 p0 p1 j2 j6)), .val (.int (F1 j2 j6 p0 p1)), .val (.int i12), .unset, .unset] [(.int (XT.cmpL p1 j6))])) _
        refine XS.ifYes X10.here hx rfl (pc0 := 103) (pc' := 110) rfl (hb hby at_103) rfl (XT.ll_ne_t c24) (by decide) (by decide) ?_
        show Steps p.tables e below (T10.setTop (mkF m 110 #[.val (.long p0), .second, .val (.long p1), .second, .val (.long p2), .second, .val (.long p3), .second, .val (.int p4), .val (.long j2), .second, .val (.long j6), .second, .val (.int (F1 p0 p1 j2 j6)), .val (.int (F1 j2 j6 p0 p1)), .val (.int i12), .unset, .unset] [])) _
        refine XS.iconst X10.here hx rfl (hb hby at_110) ?_
        show Steps p.tables e below (T10.setTop (mkF m 111 #[.val (.long p0), .second, .val (.long p1), .second, .val (.long p2), .second, .val (.long p3), .second, .val (.int p4), .val (.long j2), .second, .val (.long j6), .second, .val (.int (F1 p0 p1 j2 j6)), .val (.int (F1 j2 j6 p0 p1)), .val (.int i12), .unset, .unset] [(.int (0 : Int32))])) _
        exact kk
    · skip
      refine ⟨(0 : Int32), ((if_neg c22).trans rfl).symm, fun t kk => P19 t ?_⟩
      show Steps p.tables e below (T10.setTop (mkF m 96 #[.val (.long p0), .second, .val (.long p1), .second, .val (.long p2), .second, .val (.long p3), .second, .val (.int p4), .val (.long j2), .second, .val (.long j6), .second, .val (.int (F1 p0 p1 j2 j6)), .val (.int (F1 j2 j6 p0 p1)), .val (.int i12), .unset, .unset] [(.int (XT.cmpL p0 j2))])) _
      refine XS.ifYes X10.here hx rfl (pc0 := 96) (pc' := 110) rfl (hb hby at_96) rfl (XT.ll_ne_t c22) (by decide) (by decide) ?_
      show Steps p.tables e below (T10.setTop (mkF m 110 #[.val (.long p0), .second, .val (.long p1), .second, .val (.long p2), .second, .val (.long p3), .second, .val (.int p4), .val (.long j2), .second, .val (.long j6), .second, .val (.int (F1 p0 p1 j2 j6)), .val (.int (F1 j2 j6 p0 p1)), .val (.int i12), .unset, .unset] [])) _
      refine XS.iconst X10.here hx rfl (hb hby at_110) ?_
      show Steps p.tables e below (T10.setTop (mkF m 111 #[.val (.long p0), .second, .val (.long p1), .second, .val (.long p2), .second, .val (.long p3), .second, .val (.int p4), .val (.long j2), .second, .val (.long j6), .second, .val (.int (F1 p0 p1 j2 j6)), .val (.int (F1 j2 j6 p0 p1)), .val (.int i12), .unset, .unset] [(.int (0 : Int32))])) _
      exact kk
  have P25 : ∀ t, Steps p.tables e below (T10.setTop (mkF m 115 #[.val (.long p0), .second, .val (.long p1), .second, .val (.long p2), .second, .val (.long p3), .second, .val (.int p4), .val (.long j2), .second, .val (.long j6), .second, .val (.int (F1 p0 p1 j2 j6)), .val (.int (F1 j2 j6 p0 p1)), .val (.int i12), .val (.int i20), .unset] [(.int (F1 p0 p1 j2 j6))])) t → Steps p.tables e below (s₁.setTop (entryFrame m #[(.long p0), (.long p1), (.long p2), (.long p3), (.int p4)] maxLocals)) t := by
    intro t kk
    refine P21 _ ?_
    show Steps p.tables e below (T10.setTop (mkF m 111 #[.val (.long p0), .second, .val (.long p1), .second, .val (.long p2), .second, .val (.long p3), .second, .val (.int p4), .val (.long j2), .second, .val (.long j6), .second, .val (.int (F1 p0 p1 j2 j6)), .val (.int (F1 j2 j6 p0 p1)), .val (.int i12), .unset, .unset] [(.int i20)])) _
    refine XS.istore X10.here hx rfl (hb hby at_111) rfl (l' := #[.val (.long p0), .second, .val (.long p1), .second, .val (.long p2), .second, .val (.long p3), .second, .val (.int p4), .val (.long j2), .second, .val (.long j6), .second, .val (.int (F1 p0 p1 j2 j6)), .val (.int (F1 j2 j6 p0 p1)), .val (.int i12), .val (.int i20), .unset]) rfl ?_
    show Steps p.tables e below (T10.setTop (mkF m 113 #[.val (.long p0), .second, .val (.long p1), .second, .val (.long p2), .second, .val (.long p3), .second, .val (.int p4), .val (.long j2), .second, .val (.long j6), .second, .val (.int (F1 p0 p1 j2 j6)), .val (.int (F1 j2 j6 p0 p1)), .val (.int i12), .val (.int i20), .unset] [])) _
    refine XS.iload X10.here hx rfl (hb hby at_113) rfl ?_
    show Steps p.tables e below (T10.setTop (mkF m 115 #[.val (.long p0), .second, .val (.long p1), .second, .val (.long p2), .second, .val (.long p3), .second, .val (.int p4), .val (.long j2), .second, .val (.long j6), .second, .val (.int (F1 p0 p1 j2 j6)), .val (.int (F1 j2 j6 p0 p1)), .val (.int i12), .val (.int i20), .unset] [(.int (F1 p0 p1 j2 j6))])) _
    exact kk
  obtain ⟨i26, h_i26, P27⟩ : ∃ (i26 : Int32), i26 = (if (F1 p0 p1 j2 j6) = (0 : Int32) then (if (F1 j2 j6 p0 p1) = (0 : Int32) then (if i20 = (0 : Int32) then (0 : Int32) else (1 : Int32)) else (if i20 = (0 : Int32) then (1 : Int32) else (0 : Int32))) else (if (F1 j2 j6 p0 p1) = (0 : Int32) then (if i20 = (0 : Int32) then (1 : Int32) else (0 : Int32)) else (0 : Int32))) ∧ ∀ t, Steps p.tables e below (T10.setTop (mkF m 158 #[.val (.long p0), .second, .val (.long p1), .second, .val (.long p2), .second, .val (.long p3), .second, .val (.int p4), .val (.long j2), .second, .val (.long j6), .second, .val (.int (F1 p0 p1 j2 j6)), .val (.int (F1 j2 j6 p0 p1)), .val (.int i12), .val (.int i20), .unset] [(.int i26)])) t → Steps p.tables e below (s₁.setTop (entryFrame m #[(.long p0), (.long p1), (.long p2), (.long p3), (.int p4)] maxLocals)) t := by
    by_cases c28 : (F1 p0 p1 j2 j6) = (0 : Int32)
    · skip
      have P29 : ∀ t, Steps p.tables e below (T10.setTop (mkF m 130 #[.val (.long p0), .second, .val (.long p1), .second, .val (.long p2), .second, .val (.long p3), .second, .val (.int p4), .val (.long j2), .second, .val (.long j6), .second, .val (.int (F1 p0 p1 j2 j6)), .val (.int (F1 j2 j6 p0 p1)), .val (.int i12), .val (.int i20), .unset] [(.int (F1 j2 j6 p0 p1))])) t → Steps p.tables e below (s₁.setTop (entryFrame m #[(.long p0), (.long p1), (.long p2), (.long p3), (.int p4)] maxLocals)) t := by
        intro t kk
        refine P25 _ ?_
        show Steps p.tables e below (T10.setTop (mkF m 115 #[.val (.long p0), .second, .val (.long p1), .second, .val (.long p2), .second, .val (.long p3), .second, .val (.int p4), .val (.long j2), .second, .val (.long j6), .second, .val (.int (F1 p0 p1 j2 j6)), .val (.int (F1 j2 j6 p0 p1)), .val (.int i12), .val (.int i20), .unset] [(.int (F1 p0 p1 j2 j6))])) _
        refine XS.ifYes X10.here hx rfl (pc0 := 115) (pc' := 123) rfl (hb hby at_115) rfl (XT.i0_eq_t c28) (by decide) (by decide) ?_
        show Steps p.tables e below (T10.setTop (mkF m 123 #[.val (.long p0), .second, .val (.long p1), .second, .val (.long p2), .second, .val (.long p3), .second, .val (.int p4), .val (.long j2), .second, .val (.long j6), .second, .val (.int (F1 p0 p1 j2 j6)), .val (.int (F1 j2 j6 p0 p1)), .val (.int i12), .val (.int i20), .unset] [])) _
        refine XS.iload X10.here hx rfl (hb hby at_123) rfl ?_
        show Steps p.tables e below (T10.setTop (mkF m 125 #[.val (.long p0), .second, .val (.long p1), .second, .val (.long p2), .second, .val (.long p3), .second, .val (.int p4), .val (.long j2), .second, .val (.long j6), .second, .val (.int (F1 p0 p1 j2 j6)), .val (.int (F1 j2 j6 p0 p1)), .val (.int i12), .val (.int i20), .unset] [(.int (F1 p0 p1 j2 j6))])) _
        refine XS.ifNo X10.here hx rfl (hb hby at_125) rfl (XT.i0_ne_f c28) ?_
        show Steps p.tables e below (T10.setTop (mkF m 128 #[.val (.long p0), .second, .val (.long p1), .second, .val (.long p2), .second, .val (.long p3), .second, .val (.int p4), .val (.long j2), .second, .val (.long j6), .second, .val (.int (F1 p0 p1 j2 j6)), .val (.int (F1 j2 j6 p0 p1)), .val (.int i12), .val (.int i20), .unset] [])) _
        refine XS.iload X10.here hx rfl (hb hby at_128) rfl ?_
        show Steps p.tables e below (T10.setTop (mkF m 130 #[.val (.long p0), .second, .val (.long p1), .second, .val (.long p2), .second, .val (.long p3), .second, .val (.int p4), .val (.long j2), .second, .val (.long j6), .second, .val (.int (F1 p0 p1 j2 j6)), .val (.int (F1 j2 j6 p0 p1)), .val (.int i12), .val (.int i20), .unset] [(.int (F1 j2 j6 p0 p1))])) _
        exact kk
      by_cases c30 : (F1 j2 j6 p0 p1) = (0 : Int32)
      · skip
        have P31 : ∀ t, Steps p.tables e below (T10.setTop (mkF m 135 #[.val (.long p0), .second, .val (.long p1), .second, .val (.long p2), .second, .val (.long p3), .second, .val (.int p4), .val (.long j2), .second, .val (.long j6), .second, .val (.int (F1 p0 p1 j2 j6)), .val (.int (F1 j2 j6 p0 p1)), .val (.int i12), .val (.int i20), .unset] [(.int i20)])) t → Steps p.tables e below (s₁.setTop (entryFrame m #[(.long p0), (.long p1), (.long p2), (.long p3), (.int p4)] maxLocals)) t := by
          intro t kk
          refine P29 _ ?_
          show Steps p.tables e below (T10.setTop (mkF m 130 #[.val (.long p0), .second, .val (.long p1), .second, .val (.long p2), .second, .val (.long p3), .second, .val (.int p4), .val (.long j2), .second, .val (.long j6), .second, .val (.int (F1 p0 p1 j2 j6)), .val (.int (F1 j2 j6 p0 p1)), .val (.int i12), .val (.int i20), .unset] [(.int (F1 j2 j6 p0 p1))])) _
          refine XS.ifNo X10.here hx rfl (hb hby at_130) rfl (XT.i0_ne_f c30) ?_
          show Steps p.tables e below (T10.setTop (mkF m 133 #[.val (.long p0), .second, .val (.long p1), .second, .val (.long p2), .second, .val (.long p3), .second, .val (.int p4), .val (.long j2), .second, .val (.long j6), .second, .val (.int (F1 p0 p1 j2 j6)), .val (.int (F1 j2 j6 p0 p1)), .val (.int i12), .val (.int i20), .unset] [])) _
          refine XS.iload X10.here hx rfl (hb hby at_133) rfl ?_
          show Steps p.tables e below (T10.setTop (mkF m 135 #[.val (.long p0), .second, .val (.long p1), .second, .val (.long p2), .second, .val (.long p3), .second, .val (.int p4), .val (.long j2), .second, .val (.long j6), .second, .val (.int (F1 p0 p1 j2 j6)), .val (.int (F1 j2 j6 p0 p1)), .val (.int i12), .val (.int i20), .unset] [(.int i20)])) _
          exact kk
        by_cases c32 : i20 = (0 : Int32)
        · skip
          refine ⟨(0 : Int32), ((if_pos c28).trans ((if_pos c30).trans ((if_pos c32).trans rfl))).symm, fun t kk => P31 t ?_⟩
          show Steps p.tables e below (T10.setTop (mkF m 135 #[.val (.long p0), .second, .val (.long p1), .second, .val (.long p2), .second, .val (.long p3), .second, .val (.int p4), .val (.long j2), .second, .val (.long j6), .second, .val (.int (F1 p0 p1 j2 j6)), .val (.int (F1 j2 j6 p0 p1)), .val (.int i12), .val (.int i20), .unset] [(.int i20)])) _
          refine XS.ifYes X10.here hx rfl (pc0 := 135) (pc' := 157) rfl (hb hby at_135) rfl (XT.i0_eq_t c32) (by decide) (by decide) ?_
          show Steps p.tables e below (T10.setTop (mkF m 157 #[.val (.long p0), .second, .val (.long p1), .second, .val (.long p2), .second, .val (.long p3), .second, .val (.int p4), .val (.long j2), .second, .val (.long j6), .second, .val (.int (F1 p0 p1 j2 j6)), .val (.int (F1 j2 j6 p0 p1)), .val (.int i12), .val (.int i20), .unset] [])) _
          refine XS.iconst X10.here hx rfl (hb hby at_157) ?_
          show Steps p.tables e below (T10.setTop (mkF m 158 #[.val (.long p0), .second, .val (.long p1), .second, .val (.long p2), .second, .val (.long p3), .second, .val (.int p4), .val (.long j2), .second, .val (.long j6), .second, .val (.int (F1 p0 p1 j2 j6)), .val (.int (F1 j2 j6 p0 p1)), .val (.int i12), .val (.int i20), .unset] [(.int (0 : Int32))])) _
          exact kk
        · skip
          refine ⟨(1 : Int32), ((if_pos c28).trans ((if_pos c30).trans ((if_neg c32).trans rfl))).symm, fun t kk => P31 t ?_⟩
          show Steps p.tables e below (T10.setTop (mkF m 135 #[.val (.long p0), .second, .val (.long p1), .second, .val (.long p2), .second, .val (.long p3), .second, .val (.int p4), .val (.long j2), .second, .val (.long j6), .second, .val (.int (F1 p0 p1 j2 j6)), .val (.int (F1 j2 j6 p0 p1)), .val (.int i12), .val (.int i20), .unset] [(.int i20)])) _
          refine XS.ifNo X10.here hx rfl (hb hby at_135) rfl (XT.i0_eq_f c32) ?_
          show Steps p.tables e below (T10.setTop (mkF m 138 #[.val (.long p0), .second, .val (.long p1), .second, .val (.long p2), .second, .val (.long p3), .second, .val (.int p4), .val (.long j2), .second, .val (.long j6), .second, .val (.int (F1 p0 p1 j2 j6)), .val (.int (F1 j2 j6 p0 p1)), .val (.int i12), .val (.int i20), .unset] [])) _
          refine XS.iload X10.here hx rfl (hb hby at_138) rfl ?_
          show Steps p.tables e below (T10.setTop (mkF m 140 #[.val (.long p0), .second, .val (.long p1), .second, .val (.long p2), .second, .val (.long p3), .second, .val (.int p4), .val (.long j2), .second, .val (.long j6), .second, .val (.int (F1 p0 p1 j2 j6)), .val (.int (F1 j2 j6 p0 p1)), .val (.int i12), .val (.int i20), .unset] [(.int i20)])) _
          refine XS.ifNo X10.here hx rfl (hb hby at_140) rfl (XT.i0_eq_f c32) ?_
          show Steps p.tables e below (T10.setTop (mkF m 143 #[.val (.long p0), .second, .val (.long p1), .second, .val (.long p2), .second, .val (.long p3), .second, .val (.int p4), .val (.long j2), .second, .val (.long j6), .second, .val (.int (F1 p0 p1 j2 j6)), .val (.int (F1 j2 j6 p0 p1)), .val (.int i12), .val (.int i20), .unset] [])) _
          refine XS.iload X10.here hx rfl (hb hby at_143) rfl ?_
          show Steps p.tables e below (T10.setTop (mkF m 145 #[.val (.long p0), .second, .val (.long p1), .second, .val (.long p2), .second, .val (.long p3), .second, .val (.int p4), .val (.long j2), .second, .val (.long j6), .second, .val (.int (F1 p0 p1 j2 j6)), .val (.int (F1 j2 j6 p0 p1)), .val (.int i12), .val (.int i20), .unset] [(.int (F1 p0 p1 j2 j6))])) _
          refine XS.ifNo X10.here hx rfl (hb hby at_145) rfl (XT.i0_ne_f c28) ?_
          show Steps p.tables e below (T10.setTop (mkF m 148 #[.val (.long p0), .second, .val (.long p1), .second, .val (.long p2), .second, .val (.long p3), .second, .val (.int p4), .val (.long j2), .second, .val (.long j6), .second, .val (.int (F1 p0 p1 j2 j6)), .val (.int (F1 j2 j6 p0 p1)), .val (.int i12), .val (.int i20), .unset] [])) _
          refine XS.iload X10.here hx rfl (hb hby at_148) rfl ?_
          show Steps p.tables e below (T10.setTop (mkF m 150 #[.val (.long p0), .second, .val (.long p1), .second, .val (.long p2), .second, .val (.long p3), .second, .val (.int p4), .val (.long j2), .second, .val (.long j6), .second, .val (.int (F1 p0 p1 j2 j6)), .val (.int (F1 j2 j6 p0 p1)), .val (.int i12), .val (.int i20), .unset] [(.int (F1 j2 j6 p0 p1))])) _
          refine XS.ifNo X10.here hx rfl (hb hby at_150) rfl (XT.i0_ne_f c30) ?_
          show Steps p.tables e below (T10.setTop (mkF m 153 #[.val (.long p0), .second, .val (.long p1), .second, .val (.long p2), .second, .val (.long p3), .second, .val (.int p4), .val (.long j2), .second, .val (.long j6), .second, .val (.int (F1 p0 p1 j2 j6)), .val (.int (F1 j2 j6 p0 p1)), .val (.int i12), .val (.int i20), .unset] [])) _
          refine XS.iconst X10.here hx rfl (hb hby at_153) ?_
          show Steps p.tables e below (T10.setTop (mkF m 154 #[.val (.long p0), .second, .val (.long p1), .second, .val (.long p2), .second, .val (.long p3), .second, .val (.int p4), .val (.long j2), .second, .val (.long j6), .second, .val (.int (F1 p0 p1 j2 j6)), .val (.int (F1 j2 j6 p0 p1)), .val (.int i12), .val (.int i20), .unset] [(.int (1 : Int32))])) _
          refine XS.goto X10.here hx rfl (pc0 := 154) (pc' := 158) rfl (hb hby at_154) (by decide) (by decide) ?_
          show Steps p.tables e below (T10.setTop (mkF m 158 #[.val (.long p0), .second, .val (.long p1), .second, .val (.long p2), .second, .val (.long p3), .second, .val (.int p4), .val (.long j2), .second, .val (.long j6), .second, .val (.int (F1 p0 p1 j2 j6)), .val (.int (F1 j2 j6 p0 p1)), .val (.int i12), .val (.int i20), .unset] [(.int (1 : Int32))])) _
          exact kk
      · skip
        have P33 : ∀ t, Steps p.tables e below (T10.setTop (mkF m 140 #[.val (.long p0), .second, .val (.long p1), .second, .val (.long p2), .second, .val (.long p3), .second, .val (.int p4), .val (.long j2), .second, .val (.long j6), .second, .val (.int (F1 p0 p1 j2 j6)), .val (.int (F1 j2 j6 p0 p1)), .val (.int i12), .val (.int i20), .unset] [(.int i20)])) t → Steps p.tables e below (s₁.setTop (entryFrame m #[(.long p0), (.long p1), (.long p2), (.long p3), (.int p4)] maxLocals)) t := by
          intro t kk
          refine P29 _ ?_
          show Steps p.tables e below (T10.setTop (mkF m 130 #[.val (.long p0), .second, .val (.long p1), .second, .val (.long p2), .second, .val (.long p3), .second, .val (.int p4), .val (.long j2), .second, .val (.long j6), .second, .val (.int (F1 p0 p1 j2 j6)), .val (.int (F1 j2 j6 p0 p1)), .val (.int i12), .val (.int i20), .unset] [(.int (F1 j2 j6 p0 p1))])) _
          refine XS.ifYes X10.here hx rfl (pc0 := 130) (pc' := 138) rfl (hb hby at_130) rfl (XT.i0_ne_t c30) (by decide) (by decide) ?_
          show Steps p.tables e below (T10.setTop (mkF m 138 #[.val (.long p0), .second, .val (.long p1), .second, .val (.long p2), .second, .val (.long p3), .second, .val (.int p4), .val (.long j2), .second, .val (.long j6), .second, .val (.int (F1 p0 p1 j2 j6)), .val (.int (F1 j2 j6 p0 p1)), .val (.int i12), .val (.int i20), .unset] [])) _
          refine XS.iload X10.here hx rfl (hb hby at_138) rfl ?_
          show Steps p.tables e below (T10.setTop (mkF m 140 #[.val (.long p0), .second, .val (.long p1), .second, .val (.long p2), .second, .val (.long p3), .second, .val (.int p4), .val (.long j2), .second, .val (.long j6), .second, .val (.int (F1 p0 p1 j2 j6)), .val (.int (F1 j2 j6 p0 p1)), .val (.int i12), .val (.int i20), .unset] [(.int i20)])) _
          exact kk
        by_cases c34 : i20 = (0 : Int32)
        · skip
          refine ⟨(1 : Int32), ((if_pos c28).trans ((if_neg c30).trans ((if_pos c34).trans rfl))).symm, fun t kk => P33 t ?_⟩
          show Steps p.tables e below (T10.setTop (mkF m 140 #[.val (.long p0), .second, .val (.long p1), .second, .val (.long p2), .second, .val (.long p3), .second, .val (.int p4), .val (.long j2), .second, .val (.long j6), .second, .val (.int (F1 p0 p1 j2 j6)), .val (.int (F1 j2 j6 p0 p1)), .val (.int i12), .val (.int i20), .unset] [(.int i20)])) _
          refine XS.ifYes X10.here hx rfl (pc0 := 140) (pc' := 153) rfl (hb hby at_140) rfl (XT.i0_eq_t c34) (by decide) (by decide) ?_
          show Steps p.tables e below (T10.setTop (mkF m 153 #[.val (.long p0), .second, .val (.long p1), .second, .val (.long p2), .second, .val (.long p3), .second, .val (.int p4), .val (.long j2), .second, .val (.long j6), .second, .val (.int (F1 p0 p1 j2 j6)), .val (.int (F1 j2 j6 p0 p1)), .val (.int i12), .val (.int i20), .unset] [])) _
          refine XS.iconst X10.here hx rfl (hb hby at_153) ?_
          show Steps p.tables e below (T10.setTop (mkF m 154 #[.val (.long p0), .second, .val (.long p1), .second, .val (.long p2), .second, .val (.long p3), .second, .val (.int p4), .val (.long j2), .second, .val (.long j6), .second, .val (.int (F1 p0 p1 j2 j6)), .val (.int (F1 j2 j6 p0 p1)), .val (.int i12), .val (.int i20), .unset] [(.int (1 : Int32))])) _
          refine XS.goto X10.here hx rfl (pc0 := 154) (pc' := 158) rfl (hb hby at_154) (by decide) (by decide) ?_
          show Steps p.tables e below (T10.setTop (mkF m 158 #[.val (.long p0), .second, .val (.long p1), .second, .val (.long p2), .second, .val (.long p3), .second, .val (.int p4), .val (.long j2), .second, .val (.long j6), .second, .val (.int (F1 p0 p1 j2 j6)), .val (.int (F1 j2 j6 p0 p1)), .val (.int i12), .val (.int i20), .unset] [(.int (1 : Int32))])) _
          exact kk
        · skip
          refine ⟨(0 : Int32), ((if_pos c28).trans ((if_neg c30).trans ((if_neg c34).trans rfl))).symm, fun t kk => P33 t ?_⟩
          show Steps p.tables e below (T10.setTop (mkF m 140 #[.val (.long p0), .second, .val (.long p1), .second, .val (.long p2), .second, .val (.long p3), .second, .val (.int p4), .val (.long j2), .second, .val (.long j6), .second, .val (.int (F1 p0 p1 j2 j6)), .val (.int (F1 j2 j6 p0 p1)), .val (.int i12), .val (.int i20), .unset] [(.int i20)])) _
          refine XS.ifNo X10.here hx rfl (hb hby at_140) rfl (XT.i0_eq_f c34) ?_
          show Steps p.tables e below (T10.setTop (mkF m 143 #[.val (.long p0), .second, .val (.long p1), .second, .val (.long p2), .second, .val (.long p3), .second, .val (.int p4), .val (.long j2), .second, .val (.long j6), .second, .val (.int (F1 p0 p1 j2 j6)), .val (.int (F1 j2 j6 p0 p1)), .val (.int i12), .val (.int i20), .unset] [])) _
          refine XS.iload X10.here hx rfl (hb hby at_143) rfl ?_
          show Steps p.tables e below (T10.setTop (mkF m 145 #[.val (.long p0), .second, .val (.long p1), .second, .val (.long p2), .second, .val (.long p3), .second, .val (.int p4), .val (.long j2), .second, .val (.long j6), .second, .val (.int (F1 p0 p1 j2 j6)), .val (.int (F1 j2 j6 p0 p1)), .val (.int i12), .val (.int i20), .unset] [(.int (F1 p0 p1 j2 j6))])) _
          refine XS.ifNo X10.here hx rfl (hb hby at_145) rfl (XT.i0_ne_f c28) ?_
          show Steps p.tables e below (T10.setTop (mkF m 148 #[.val (.long p0), .second, .val (.long p1), .second, .val (.long p2), .second, .val (.long p3), .second, .val (.int p4), .val (.long j2), .second, .val (.long j6), .second, .val (.int (F1 p0 p1 j2 j6)), .val (.int (F1 j2 j6 p0 p1)), .val (.int i12), .val (.int i20), .unset] [])) _
          refine XS.iload X10.here hx rfl (hb hby at_148) rfl ?_
          show Steps p.tables e below (T10.setTop (mkF m 150 #[.val (.long p0), .second, .val (.long p1), .second, .val (.long p2), .second, .val (.long p3), .second, .val (.int p4), .val (.long j2), .second, .val (.long j6), .second, .val (.int (F1 p0 p1 j2 j6)), .val (.int (F1 j2 j6 p0 p1)), .val (.int i12), .val (.int i20), .unset] [(.int (F1 j2 j6 p0 p1))])) _
          refine XS.ifYes X10.here hx rfl (pc0 := 150) (pc' := 157) rfl (hb hby at_150) rfl (XT.i0_ne_t c30) (by decide) (by decide) ?_
          show Steps p.tables e below (T10.setTop (mkF m 157 #[.val (.long p0), .second, .val (.long p1), .second, .val (.long p2), .second, .val (.long p3), .second, .val (.int p4), .val (.long j2), .second, .val (.long j6), .second, .val (.int (F1 p0 p1 j2 j6)), .val (.int (F1 j2 j6 p0 p1)), .val (.int i12), .val (.int i20), .unset] [])) _
          refine XS.iconst X10.here hx rfl (hb hby at_157) ?_
          show Steps p.tables e below (T10.setTop (mkF m 158 #[.val (.long p0), .second, .val (.long p1), .second, .val (.long p2), .second, .val (.long p3), .second, .val (.int p4), .val (.long j2), .second, .val (.long j6), .second, .val (.int (F1 p0 p1 j2 j6)), .val (.int (F1 j2 j6 p0 p1)), .val (.int i12), .val (.int i20), .unset] [(.int (0 : Int32))])) _
          exact kk
    · skip
      have P35 : ∀ t, Steps p.tables e below (T10.setTop (mkF m 120 #[.val (.long p0), .second, .val (.long p1), .second, .val (.long p2), .second, .val (.long p3), .second, .val (.int p4), .val (.long j2), .second, .val (.long j6), .second, .val (.int (F1 p0 p1 j2 j6)), .val (.int (F1 j2 j6 p0 p1)), .val (.int i12), .val (.int i20), .unset] [(.int (F1 j2 j6 p0 p1))])) t → Steps p.tables e below (s₁.setTop (entryFrame m #[(.long p0), (.long p1), (.long p2), (.long p3), (.int p4)] maxLocals)) t := by
        intro t kk
        refine P25 _ ?_
        show Steps p.tables e below (T10.setTop (mkF m 115 #[.val (.long p0), .second, .val (.long p1), .second, .val (.long p2), .second, .val (.long p3), .second, .val (.int p4), .val (.long j2), .second, .val (.long j6), .second, .val (.int (F1 p0 p1 j2 j6)), .val (.int (F1 j2 j6 p0 p1)), .val (.int i12), .val (.int i20), .unset] [(.int (F1 p0 p1 j2 j6))])) _
        refine XS.ifNo X10.here hx rfl (hb hby at_115) rfl (XT.i0_eq_f c28) ?_
        show Steps p.tables e below (T10.setTop (mkF m 118 #[.val (.long p0), .second, .val (.long p1), .second, .val (.long p2), .second, .val (.long p3), .second, .val (.int p4), .val (.long j2), .second, .val (.long j6), .second, .val (.int (F1 p0 p1 j2 j6)), .val (.int (F1 j2 j6 p0 p1)), .val (.int i12), .val (.int i20), .unset] [])) _
        refine XS.iload X10.here hx rfl (hb hby at_118) rfl ?_
        show Steps p.tables e below (T10.setTop (mkF m 120 #[.val (.long p0), .second, .val (.long p1), .second, .val (.long p2), .second, .val (.long p3), .second, .val (.int p4), .val (.long j2), .second, .val (.long j6), .second, .val (.int (F1 p0 p1 j2 j6)), .val (.int (F1 j2 j6 p0 p1)), .val (.int i12), .val (.int i20), .unset] [(.int (F1 j2 j6 p0 p1))])) _
        exact kk
      by_cases c36 : (F1 j2 j6 p0 p1) = (0 : Int32)
      · skip
        have P37 : ∀ t, Steps p.tables e below (T10.setTop (mkF m 140 #[.val (.long p0), .second, .val (.long p1), .second, .val (.long p2), .second, .val (.long p3), .second, .val (.int p4), .val (.long j2), .second, .val (.long j6), .second, .val (.int (F1 p0 p1 j2 j6)), .val (.int (F1 j2 j6 p0 p1)), .val (.int i12), .val (.int i20), .unset] [(.int i20)])) t → Steps p.tables e below (s₁.setTop (entryFrame m #[(.long p0), (.long p1), (.long p2), (.long p3), (.int p4)] maxLocals)) t := by
          intro t kk
          refine P35 _ ?_
          show Steps p.tables e below (T10.setTop (mkF m 120 #[.val (.long p0), .second, .val (.long p1), .second, .val (.long p2), .second, .val (.long p3), .second, .val (.int p4), .val (.long j2), .second, .val (.long j6), .second, .val (.int (F1 p0 p1 j2 j6)), .val (.int (F1 j2 j6 p0 p1)), .val (.int i12), .val (.int i20), .unset] [(.int (F1 j2 j6 p0 p1))])) _
          refine XS.ifNo X10.here hx rfl (hb hby at_120) rfl (XT.i0_ne_f c36) ?_
          show Steps p.tables e below (T10.setTop (mkF m 123 #[.val (.long p0), .second, .val (.long p1), .second, .val (.long p2), .second, .val (.long p3), .second, .val (.int p4), .val (.long j2), .second, .val (.long j6), .second, .val (.int (F1 p0 p1 j2 j6)), .val (.int (F1 j2 j6 p0 p1)), .val (.int i12), .val (.int i20), .unset] [])) _
          refine XS.iload X10.here hx rfl (hb hby at_123) rfl ?_
          show Steps p.tables e below (T10.setTop (mkF m 125 #[.val (.long p0), .second, .val (.long p1), .second, .val (.long p2), .second, .val (.long p3), .second, .val (.int p4), .val (.long j2), .second, .val (.long j6), .second, .val (.int (F1 p0 p1 j2 j6)), .val (.int (F1 j2 j6 p0 p1)), .val (.int i12), .val (.int i20), .unset] [(.int (F1 p0 p1 j2 j6))])) _
          refine XS.ifYes X10.here hx rfl (pc0 := 125) (pc' := 138) rfl (hb hby at_125) rfl (XT.i0_ne_t c28) (by decide) (by decide) ?_
          show Steps p.tables e below (T10.setTop (mkF m 138 #[.val (.long p0), .second, .val (.long p1), .second, .val (.long p2), .second, .val (.long p3), .second, .val (.int p4), .val (.long j2), .second, .val (.long j6), .second, .val (.int (F1 p0 p1 j2 j6)), .val (.int (F1 j2 j6 p0 p1)), .val (.int i12), .val (.int i20), .unset] [])) _
          refine XS.iload X10.here hx rfl (hb hby at_138) rfl ?_
          show Steps p.tables e below (T10.setTop (mkF m 140 #[.val (.long p0), .second, .val (.long p1), .second, .val (.long p2), .second, .val (.long p3), .second, .val (.int p4), .val (.long j2), .second, .val (.long j6), .second, .val (.int (F1 p0 p1 j2 j6)), .val (.int (F1 j2 j6 p0 p1)), .val (.int i12), .val (.int i20), .unset] [(.int i20)])) _
          exact kk
        by_cases c38 : i20 = (0 : Int32)
        · skip
          refine ⟨(1 : Int32), ((if_neg c28).trans ((if_pos c36).trans ((if_pos c38).trans rfl))).symm, fun t kk => P37 t ?_⟩
          show Steps p.tables e below (T10.setTop (mkF m 140 #[.val (.long p0), .second, .val (.long p1), .second, .val (.long p2), .second, .val (.long p3), .second, .val (.int p4), .val (.long j2), .second, .val (.long j6), .second, .val (.int (F1 p0 p1 j2 j6)), .val (.int (F1 j2 j6 p0 p1)), .val (.int i12), .val (.int i20), .unset] [(.int i20)])) _
          refine XS.ifYes X10.here hx rfl (pc0 := 140) (pc' := 153) rfl (hb hby at_140) rfl (XT.i0_eq_t c38) (by decide) (by decide) ?_
          show Steps p.tables e below (T10.setTop (mkF m 153 #[.val (.long p0), .second, .val (.long p1), .second, .val (.long p2), .second, .val (.long p3), .second, .val (.int p4), .val (.long j2), .second, .val (.long j6), .second, .val (.int (F1 p0 p1 j2 j6)), .val (.int (F1 j2 j6 p0 p1)), .val (.int i12), .val (.int i20), .unset] [])) _
          refine XS.iconst X10.here hx rfl (hb hby at_153) ?_
          show Steps p.tables e below (T10.setTop (mkF m 154 #[.val (.long p0), .second, .val (.long p1), .second, .val (.long p2), .second, .val (.long p3), .second, .val (.int p4), .val (.long j2), .second, .val (.long j6), .second, .val (.int (F1 p0 p1 j2 j6)), .val (.int (F1 j2 j6 p0 p1)), .val (.int i12), .val (.int i20), .unset] [(.int (1 : Int32))])) _
          refine XS.goto X10.here hx rfl (pc0 := 154) (pc' := 158) rfl (hb hby at_154) (by decide) (by decide) ?_
          show Steps p.tables e below (T10.setTop (mkF m 158 #[.val (.long p0), .second, .val (.long p1), .second, .val (.long p2), .second, .val (.long p3), .second, .val (.int p4), .val (.long j2), .second, .val (.long j6), .second, .val (.int (F1 p0 p1 j2 j6)), .val (.int (F1 j2 j6 p0 p1)), .val (.int i12), .val (.int i20), .unset] [(.int (1 : Int32))])) _
          exact kk
        · skip
          refine ⟨(0 : Int32), ((if_neg c28).trans ((if_pos c36).trans ((if_neg c38).trans rfl))).symm, fun t kk => P37 t ?_⟩
          show Steps p.tables e below (T10.setTop (mkF m 140 #[.val (.long p0), .second, .val (.long p1), .second, .val (.long p2), .second, .val (.long p3), .second, .val (.int p4), .val (.long j2), .second, .val (.long j6), .second, .val (.int (F1 p0 p1 j2 j6)), .val (.int (F1 j2 j6 p0 p1)), .val (.int i12), .val (.int i20), .unset] [(.int i20)])) _
          refine XS.ifNo X10.here hx rfl (hb hby at_140) rfl (XT.i0_eq_f c38) ?_
          show Steps p.tables e below (T10.setTop (mkF m 143 #[.val (.long p0), .second, .val (.long p1), .second, .val (.long p2), .second, .val (.long p3), .second, .val (.int p4), .val (.long j2), .second, .val (.long j6), .second, .val (.int (F1 p0 p1 j2 j6)), .val (.int (F1 j2 j6 p0 p1)), .val (.int i12), .val (.int i20), .unset] [])) _
          refine XS.iload X10.here hx rfl (hb hby at_143) rfl ?_
          show Steps p.tables e below (T10.setTop (mkF m 145 #[.val (.long p0), .second, .val (.long p1), .second, .val (.long p2), .second, .val (.long p3), .second, .val (.int p4), .val (.long j2), .second, .val (.long j6), .second, .val (.int (F1 p0 p1 j2 j6)), .val (.int (F1 j2 j6 p0 p1)), .val (.int i12), .val (.int i20), .unset] [(.int (F1 p0 p1 j2 j6))])) _
          refine XS.ifYes X10.here hx rfl (pc0 := 145) (pc' := 157) rfl (hb hby at_145) rfl (XT.i0_ne_t c28) (by decide) (by decide) ?_
          show Steps p.tables e below (T10.setTop (mkF m 157 #[.val (.long p0), .second, .val (.long p1), .second, .val (.long p2), .second, .val (.long p3), .second, .val (.int p4), .val (.long j2), .second, .val (.long j6), .second, .val (.int (F1 p0 p1 j2 j6)), .val (.int (F1 j2 j6 p0 p1)), .val (.int i12), .val (.int i20), .unset] [])) _
          refine XS.iconst X10.here hx rfl (hb hby at_157) ?_
          show Steps p.tables e below (T10.setTop (mkF m 158 #[.val (.long p0), .second, .val (.long p1), .second, .val (.long p2), .second, .val (.long p3), .second, .val (.int p4), .val (.long j2), .second, .val (.long j6), .second, .val (.int (F1 p0 p1 j2 j6)), .val (.int (F1 j2 j6 p0 p1)), .val (.int i12), .val (.int i20), .unset] [(.int (0 : Int32))])) _
          exact kk
      · skip
        refine ⟨(0 : Int32), ((if_neg c28).trans ((if_neg c36).trans rfl)).symm, fun t kk => P35 t ?_⟩
        show Steps p.tables e below (T10.setTop (mkF m 120 #[.val (.long p0), .second, .val (.long p1), .second, .val (.long p2), .second, .val (.long p3), .second, .val (.int p4), .val (.long j2), .second, .val (.long j6), .second, .val (.int (F1 p0 p1 j2 j6)), .val (.int (F1 j2 j6 p0 p1)), .val (.int i12), .val (.int i20), .unset] [(.int (F1 j2 j6 p0 p1))])) _
        refine XS.ifYes X10.here hx rfl (pc0 := 120) (pc' := 157) rfl (hb hby at_120) rfl (XT.i0_ne_t c36) (by decide) (by decide) ?_
        show Steps p.tables e below (T10.setTop (mkF m 157 #[.val (.long p0), .second, .val (.long p1), .second, .val (.long p2), .second, .val (.long p3), .second, .val (.int p4), .val (.long j2), .second, .val (.long j6), .second, .val (.int (F1 p0 p1 j2 j6)), .val (.int (F1 j2 j6 p0 p1)), .val (.int i12), .val (.int i20), .unset] [])) _
        refine XS.iconst X10.here hx rfl (hb hby at_157) ?_
        show Steps p.tables e below (T10.setTop (mkF m 158 #[.val (.long p0), .second, .val (.long p1), .second, .val (.long p2), .second, .val (.long p3), .second, .val (.int p4), .val (.long j2), .second, .val (.long j6), .second, .val (.int (F1 p0 p1 j2 j6)), .val (.int (F1 j2 j6 p0 p1)), .val (.int i12), .val (.int i20), .unset] [(.int (0 : Int32))])) _
        exact kk
  have P39 : ∀ t, Steps p.tables e below (T10.setTop (mkF m 164 #[.val (.long p0), .second, .val (.long p1), .second, .val (.long p2), .second, .val (.long p3), .second, .val (.int p4), .val (.long j2), .second, .val (.long j6), .second, .val (.int (F1 p0 p1 j2 j6)), .val (.int (F1 j2 j6 p0 p1)), .val (.int i12), .val (.int i20), .val (.int i26)] [(.int i12), (.int (F1 p0 p1 j2 j6))])) t → Steps p.tables e below (s₁.setTop (entryFrame m #[(.long p0), (.long p1), (.long p2), (.long p3), (.int p4)] maxLocals)) t := by
    intro t kk
    refine P27 _ ?_
    show Steps p.tables e below (T10.setTop (mkF m 158 #[.val (.long p0), .second, .val (.long p1), .second, .val (.long p2), .second, .val (.long p3), .second, .val (.int p4), .val (.long j2), .second, .val (.long j6), .second, .val (.int (F1 p0 p1 j2 j6)), .val (.int (F1 j2 j6 p0 p1)), .val (.int i12), .val (.int i20), .unset] [(.int i26)])) _
    refine XS.istore X10.here hx rfl (hb hby at_158) rfl (l' := #[.val (.long p0), .second, .val (.long p1), .second, .val (.long p2), .second, .val (.long p3), .second, .val (.int p4), .val (.long j2), .second, .val (.long j6), .second, .val (.int (F1 p0 p1 j2 j6)), .val (.int (F1 j2 j6 p0 p1)), .val (.int i12), .val (.int i20), .val (.int i26)]) rfl ?_
    show Steps p.tables e below (T10.setTop (mkF m 160 #[.val (.long p0), .second, .val (.long p1), .second, .val (.long p2), .second, .val (.long p3), .second, .val (.int p4), .val (.long j2), .second, .val (.long j6), .second, .val (.int (F1 p0 p1 j2 j6)), .val (.int (F1 j2 j6 p0 p1)), .val (.int i12), .val (.int i20), .val (.int i26)] [])) _
    refine XS.iload X10.here hx rfl (hb hby at_160) rfl ?_
    show Steps p.tables e below (T10.setTop (mkF m 162 #[.val (.long p0), .second, .val (.long p1), .second, .val (.long p2), .second, .val (.long p3), .second, .val (.int p4), .val (.long j2), .second, .val (.long j6), .second, .val (.int (F1 p0 p1 j2 j6)), .val (.int (F1 j2 j6 p0 p1)), .val (.int i12), .val (.int i20), .val (.int i26)] [(.int (F1 p0 p1 j2 j6))])) _
    refine XS.iload X10.here hx rfl (hb hby at_162) rfl ?_
    show Steps p.tables e below (T10.setTop (mkF m 164 #[.val (.long p0), .second, .val (.long p1), .second, .val (.long p2), .second, .val (.long p3), .second, .val (.int p4), .val (.long j2), .second, .val (.long j6), .second, .val (.int (F1 p0 p1 j2 j6)), .val (.int (F1 j2 j6 p0 p1)), .val (.int i12), .val (.int i20), .val (.int i26)] [(.int i12), (.int (F1 p0 p1 j2 j6))])) _
    exact kk
  obtain ⟨i40, h_i40, P41⟩ : ∃ (i40 : Int32), i40 = (if (F1 p0 p1 j2 j6) = i12 then (if i26 = (0 : Int32) then (0 : Int32) else (1 : Int32)) else (0 : Int32)) ∧ ∀ t, Steps p.tables e below (T10.setTop (mkF m 177 #[.val (.long p0), .second, .val (.long p1), .second, .val (.long p2), .second, .val (.long p3), .second, .val (.int p4), .val (.long j2), .second, .val (.long j6), .second, .val (.int (F1 p0 p1 j2 j6)), .val (.int (F1 j2 j6 p0 p1)), .val (.int i12), .val (.int i20), .val (.int i26)] [(.int i40)])) t → Steps p.tables e below (s₁.setTop (entryFrame m #[(.long p0), (.long p1), (.long p2), (.long p3), (.int p4)] maxLocals)) t := by
    by_cases c42 : (F1 p0 p1 j2 j6) = i12
    · skip
      have P43 : ∀ t, Steps p.tables e below (T10.setTop (mkF m 169 #[.val (.long p0), .second, .val (.long p1), .second, .val (.long p2), .second, .val (.long p3), .second, .val (.int p4), .val (.long j2), .second, .val (.long j6), .second, .val (.int (F1 p0 p1 j2 j6)), .val (.int (F1 j2 j6 p0 p1)), .val (.int i12), .val (.int i20), .val (.int i26)] [(.int i26)])) t → Steps p.tables e below (s₁.setTop (entryFrame m #[(.long p0), (.long p1), (.long p2), (.long p3), (.int p4)] maxLocals)) t := by
        intro t kk
        refine P39 _ ?_
        show Steps p.tables e below (T10.setTop (mkF m 164 #[.val (.long p0), .second, .val (.long p1), .second, .val (.long p2), .second, .val (.long p3), .second, .val (.int p4), .val (.long j2), .second, .val (.long j6), .second, .val (.int (F1 p0 p1 j2 j6)), .val (.int (F1 j2 j6 p0 p1)), .val (.int i12), .val (.int i20), .val (.int i26)] [(.int i12), (.int (F1 p0 p1 j2 j6))])) _
        refine XS.icmpNo X10.here hx rfl (hb hby at_164) rfl (XT.ii_ne_f c42) ?_
        show Steps p.tables e below (T10.setTop (mkF m 167 #[.val (.long p0), .second, .val (.long p1), .second, .val (.long p2), .second, .val (.long p3), .second, .val (.int p4), .val (.long j2), .second, .val (.long j6), .second, .val (.int (F1 p0 p1 j2 j6)), .val (.int (F1 j2 j6 p0 p1)), .val (.int i12), .val (.int i20), .val (.int i26)] [])) _
        refine XS.iload X10.here hx rfl (hb hby at_167) rfl ?_
        show Steps p.tables e below (T10.setTop (mkF m 169 #[.val (.long p0), .second, .val (.long p1), .second, .val (.long p2), .second, .val (.long p3), .second, .val (.int p4), .val (.long j2), .second, .val (.long j6), .second, .val (.int (F1 p0 p1 j2 j6)), .val (.int (F1 j2 j6 p0 p1)), .val (.int i12), .val (.int i20), .val (.int i26)] [(.int i26)])) _
        exact kk
      by_cases c44 : i26 = (0 : Int32)
      · skip
        refine ⟨(0 : Int32), ((if_pos c42).trans ((if_pos c44).trans rfl)).symm, fun t kk => P43 t ?_⟩
        show Steps p.tables e below (T10.setTop (mkF m 169 #[.val (.long p0), .second, .val (.long p1), .second, .val (.long p2), .second, .val (.long p3), .second, .val (.int p4), .val (.long j2), .second, .val (.long j6), .second, .val (.int (F1 p0 p1 j2 j6)), .val (.int (F1 j2 j6 p0 p1)), .val (.int i12), .val (.int i20), .val (.int i26)] [(.int i26)])) _
        refine XS.ifYes X10.here hx rfl (pc0 := 169) (pc' := 176) rfl (hb hby at_169) rfl (XT.i0_eq_t c44) (by decide) (by decide) ?_
        show Steps p.tables e below (T10.setTop (mkF m 176 #[.val (.long p0), .second, .val (.long p1), .second, .val (.long p2), .second, .val (.long p3), .second, .val (.int p4), .val (.long j2), .second, .val (.long j6), .second, .val (.int (F1 p0 p1 j2 j6)), .val (.int (F1 j2 j6 p0 p1)), .val (.int i12), .val (.int i20), .val (.int i26)] [])) _
        refine XS.iconst X10.here hx rfl (hb hby at_176) ?_
        show Steps p.tables e below (T10.setTop (mkF m 177 #[.val (.long p0), .second, .val (.long p1), .second, .val (.long p2), .second, .val (.long p3), .second, .val (.int p4), .val (.long j2), .second, .val (.long j6), .second, .val (.int (F1 p0 p1 j2 j6)), .val (.int (F1 j2 j6 p0 p1)), .val (.int i12), .val (.int i20), .val (.int i26)] [(.int (0 : Int32))])) _
        exact kk
      · skip
        refine ⟨(1 : Int32), ((if_pos c42).trans ((if_neg c44).trans rfl)).symm, fun t kk => P43 t ?_⟩
        show Steps p.tables e below (T10.setTop (mkF m 169 #[.val (.long p0), .second, .val (.long p1), .second, .val (.long p2), .second, .val (.long p3), .second, .val (.int p4), .val (.long j2), .second, .val (.long j6), .second, .val (.int (F1 p0 p1 j2 j6)), .val (.int (F1 j2 j6 p0 p1)), .val (.int i12), .val (.int i20), .val (.int i26)] [(.int i26)])) _
        refine XS.ifNo X10.here hx rfl (hb hby at_169) rfl (XT.i0_eq_f c44) ?_
        show Steps p.tables e below (T10.setTop (mkF m 172 #[.val (.long p0), .second, .val (.long p1), .second, .val (.long p2), .second, .val (.long p3), .second, .val (.int p4), .val (.long j2), .second, .val (.long j6), .second, .val (.int (F1 p0 p1 j2 j6)), .val (.int (F1 j2 j6 p0 p1)), .val (.int i12), .val (.int i20), .val (.int i26)] [])) _
        refine XS.iconst X10.here hx rfl (hb hby at_172) ?_
        show Steps p.tables e below (T10.setTop (mkF m 173 #[.val (.long p0), .second, .val (.long p1), .second, .val (.long p2), .second, .val (.long p3), .second, .val (.int p4), .val (.long j2), .second, .val (.long j6), .second, .val (.int (F1 p0 p1 j2 j6)), .val (.int (F1 j2 j6 p0 p1)), .val (.int i12), .val (.int i20), .val (.int i26)] [(.int (1 : Int32))])) _
        refine XS.goto X10.here hx rfl (pc0 := 173) (pc' := 177) rfl (hb hby at_173) (by decide) (by decide) ?_
        show Steps p.tables e below (T10.setTop (mkF m 177 #[.val (.long p0), .second, .val (.long p1), .second, .val (.long p2), .second, .val (.long p3), .second, .val (.int p4), .val (.long j2), .second, .val (.long j6), .second, .val (.int (F1 p0 p1 j2 j6)), .val (.int (F1 j2 j6 p0 p1)), .val (.int i12), .val (.int i20), .val (.int i26)] [(.int (1 : Int32))])) _
        exact kk
    · skip
      refine ⟨(0 : Int32), ((if_neg c42).trans rfl).symm, fun t kk => P39 t ?_⟩
      show Steps p.tables e below (T10.setTop (mkF m 164 #[.val (.long p0), .second, .val (.long p1), .second, .val (.long p2), .second, .val (.long p3), .second, .val (.int p4), .val (.long j2), .second, .val (.long j6), .second, .val (.int (F1 p0 p1 j2 j6)), .val (.int (F1 j2 j6 p0 p1)), .val (.int i12), .val (.int i20), .val (.int i26)] [(.int i12), (.int (F1 p0 p1 j2 j6))])) _
      refine XS.icmpYes X10.here hx rfl (pc0 := 164) (pc' := 176) rfl (hb hby at_164) rfl (XT.ii_ne_t c42) (by decide) (by decide) ?_
      show Steps p.tables e below (T10.setTop (mkF m 176 #[.val (.long p0), .second, .val (.long p1), .second, .val (.long p2), .second, .val (.long p3), .second, .val (.int p4), .val (.long j2), .second, .val (.long j6), .second, .val (.int (F1 p0 p1 j2 j6)), .val (.int (F1 j2 j6 p0 p1)), .val (.int i12), .val (.int i20), .val (.int i26)] [])) _
      refine XS.iconst X10.here hx rfl (hb hby at_176) ?_
      show Steps p.tables e below (T10.setTop (mkF m 177 #[.val (.long p0), .second, .val (.long p1), .second, .val (.long p2), .second, .val (.long p3), .second, .val (.int p4), .val (.long j2), .second, .val (.long j6), .second, .val (.int (F1 p0 p1 j2 j6)), .val (.int (F1 j2 j6 p0 p1)), .val (.int i12), .val (.int i20), .val (.int i26)] [(.int (0 : Int32))])) _
      exact kk
  have P45 : ∀ t, Steps p.tables e below (T10.setTop (mkF m 177 #[.val (.long p0), .second, .val (.long p1), .second, .val (.long p2), .second, .val (.long p3), .second, .val (.int p4), .val (.long j2), .second, .val (.long j6), .second, .val (.int (F1 p0 p1 j2 j6)), .val (.int (F1 j2 j6 p0 p1)), .val (.int i12), .val (.int i20), .val (.int i26)] [(.int i40)])) t → Steps p.tables e below (s₁.setTop (entryFrame m #[(.long p0), (.long p1), (.long p2), (.long p3), (.int p4)] maxLocals)) t := by
    intro t kk
    refine P41 _ ?_
    show Steps p.tables e below (T10.setTop (mkF m 177 #[.val (.long p0), .second, .val (.long p1), .second, .val (.long p2), .second, .val (.long p3), .second, .val (.int p4), .val (.long j2), .second, .val (.long j6), .second, .val (.int (F1 p0 p1 j2 j6)), .val (.int (F1 j2 j6 p0 p1)), .val (.int i12), .val (.int i20), .val (.int i26)] [(.int i40)])) _
    exact kk
  obtain rfl : i40 = (1 : Int32) := own_plain0 p0 p1 p2 p3 p4 j2 h_j2 j6 h_j6 i12 h_i12 i20 h_i20 i26 h_i26 i40 h_i40 
  obtain ⟨fs, hr, hrun, hended, hW, hsame⟩ := X10.leave (v := some (.int (1 : Int32))) (fun h => by rw [Bd.returns] at h; cases h)
  refine ⟨_, _, P45 _ ?_, hrun, hended, _, _, rfl, ?_, ⟨_, rfl⟩, hW, hsame.mono (by decide) (by decide)⟩
  · exact retN X10 hx (t := .boolean) Bd.returns (by simp) (hb hby at_177) hr
  · exact ⟨rfl, N10⟩
set_option maxRecDepth 65536 in
set_option maxHeartbeats 40000000 in
theorem comes_1 {Post : Tables → Env → Array Value → State → Outcome → State → Prop} (hpost : ∀ tb e args s v u, (limb_1_1.after args s (.returned v) u = true ∧ limb_1_2.after args s (.returned v) u = true ∧ True) → FrameEnd s (.returned v) u (Jvm.fieldLocs frame_1_writes args s ++ Jvm.arrayLocs frame_1_arrays args s ++ Jvm.staticLocs frame_1_statics s) 0 0 → Post tb e args s (.returned v) u) :
    ArmFor flags0 classFile x code maxLocals ret World_1 tables_1 room_1 Calls_1 rest_1 Pre_1 Post := by
  intro l hfl _ _ p e ha hc hk s m args below hf hA hF happ hP
  obtain ⟨hcalls, hrest, hpre⟩ := hP
  obtain ⟨-, -, -, hnamed, -, -, -, hat⟩ := (Spec.applies_iff hf).mp happ
  obtain ⟨hg, hn⟩ := and_e (Cond.before_iff.mp (show (Jvm.Cond.and given_1 narrow_1).before args s = true from hpre))
  obtain ⟨g0, gr0⟩ := and_e hg
  obtain ⟨g1, gr1⟩ := and_e gr0
  obtain ⟨g2, gr2⟩ := and_e gr1
  obtain ⟨g3, gr3⟩ := and_e gr2
  obtain ⟨g4, gr4⟩ := and_e gr3
  obtain ⟨w0, w1, w2, w3, w4, rfl⟩ : ∃ w0 w1 w2 w3 w4 : Value, args = #[w0, w1, w2, w3, w4] := by
    have hs : args.size = 5 := by simpa [Cond.value, given_1] using g0
    obtain ⟨L⟩ := args
    match L, hs with
    | [w0, w1, w2, w3, w4], _ => exact ⟨w0, w1, w2, w3, w4, rfl⟩
  have hw := fun d (hd : d ∈ tables_1) => atoms_spec (ws := Jvm.Cond.code x code maxLocals ret :: tables_1) hat d (List.mem_cons_of_mem _ hd)
  have hfit : Fit s := fun {y c} hc i hi => by
    obtain ⟨ha, rfl⟩ := Array.getElem?_eq_some_iff.mp hc
    have q := List.all_eq_true.mp ((Array.all_eq_true_iff_forall_mem.mp hF) _ (Array.getElem_mem ha)) i (List.mem_range.mpr hi)
    simpa [Array.getElem?_eq_getElem hi] using q
  obtain ⟨i0, ei0⟩ := isL_v g1
  obtain rfl : w0 = (.long i0) := Option.some.inj ei0
  obtain ⟨i1, ei1⟩ := isL_v g2
  obtain rfl : w1 = (.long i1) := Option.some.inj ei1
  obtain ⟨i2, ei2⟩ := isL_v g3
  obtain rfl : w2 = (.long i2) := Option.some.inj ei2
  obtain ⟨i3, ei3⟩ := isL_v g4
  obtain rfl : w3 = (.long i3) := Option.some.inj ei3
  obtain ⟨i4, ei4⟩ := is_v gr4
  obtain rfl : w4 = (.int i4) := Option.some.inj ei4
  obtain ⟨n, o, h1, h2, h3, _, L, rfl, ⟨rfl, N⟩, hq⟩ := rm0 l s _ hw tables_1 i0 i1 i2 i3 i4  s.heap s.heap.size (Nat.le_refl _)  p e ha hc hk s m _ below hf ((Spec.applies_iff_loose hf).mp happ).1 ⟨rfl, State.Warmed39.refl s, rfl⟩ trivial
  refine ⟨n, _, h1, h2, h3, hpost _ _ _ _ _ _ ⟨Cond.after_iff.mpr rfl, Cond.after_iff.mpr (eq_i res_at (Term.int_eval (1)) rfl), trivial⟩ ⟨hq.1, hq.2.1, (hq.2.2.sift fun y hy => Or.inr (N y hy)).mono (by decide) (by decide)⟩⟩
theorem main_1_1 : Claimed_1_1 := comes_1 fun _ _ _ _ _ _ h hF => ⟨h.1, hF⟩
theorem main_1_2 : Claimed_1_2 := comes_1 fun _ _ _ _ _ _ h hF => ⟨h.2.1, hF⟩
end Jvm.Pilot.@@N@@
namespace Jvm.Pilot.@@N@@
open Jvm Jvm.ClassFile Sem Op Lib Jvm.Free Jvm.Stand Jvm.Pilot.@@N@@.Jvm.D
/-! MADE BY PROGRAM (witnessworld.py) out of the Statement's table words and the real class files: 9 classes; the members and pool entries that the words name. The judged class is class 1, her method 1. -/
namespace start1
open Jvm.ClassFile
def u (s : String) : CpInfo := .utf8 (stringToUtf16 s)
/-- a pool by its gaps: so many unusable entries, then the entry; so many at the end -/
def gap : Nat → List CpInfo → List CpInfo
  | 0, r => r
  | n + 1, r => .unusable :: gap n r
def poolList (es : List (Nat × CpInfo)) (last : Nat) : List CpInfo := es.foldr (fun e r => gap e.1 (e.2 :: r)) (gap last [])
def pool (es : List (Nat × CpInfo)) (last : Nat) : Array CpInfo := ⟨poolList es last⟩
def fileOf (pool : Array CpInfo) (this : Nat) (attrs : Array Attribute := #[]) (ms : Array MethodInfo := #[]) (fl : Nat := 33) (sup : Nat := 0) (ifs : Array Nat := #[]) (fds : Array FieldInfo := #[]) : ClassFile where
  minorVersion := 0
  majorVersion := 65
  constantPool := pool
  accessFlags := fl
  thisClass := this
  superClass := sup
  interfaces := ifs
  fields := fds
  methods := ms
  attributes := attrs
def plain (name : String) (sup : Option ClassId) : Class where
  name := name
  kind := .ordinary
  loader := none
  accessFlags := 33
  super := sup
  interfaces := #[]
  cf := none
  fields := #[]
  methods := #[]
  instanceTypes := #[]
  staticTypes := #[]
  resolved := #[]
  callSites := []
  init := .initialized
  statics := none
  mirror := none

def pool0 : Array CpInfo := pool [(5, u "<init>"), (0, u "()V"), (1, .class_ 10), (1, u "java/lang/Object")] 113

def k0m0 : Method := { name := "<init>", desc := "()V", sig := { parameters := [], returnType := none }, accessFlags := 1, code := none }
/-- java/lang/Object -/
def k0 : Class := { plain "java/lang/Object" none with
  accessFlags := 33
  interfaces := #[]
  cf := some (fileOf pool0 8 #[] #[{ accessFlags := 1, nameIndex := 5, descriptorIndex := 6, attributes := #[] }] 33 0 #[] #[])
  fields := #[]
  methods := #[k0m0]
  instanceTypes := #[]
  staticTypes := #[]
  resolved := Array.replicate 124 none
  statics := none }

def pool1 : Array CpInfo := pool [(2, .class_ 4), (1, u "java/lang/Object"), (0, u "<init>"), (0, u "()V"), (0, .methodref 8 9), (0, .class_ 10), (0, .nameAndType 11 12), (0, u "com/example/quernloop/quernloop/DueQueue"), (0, u "isAhead"), (0, u "(JJJJ)Z"), (0, .class_ 14), (0, u "com/example/quernloop/quernloop/DueQueueIsAheadPinLaw"), (2, u "law"), (0, u "(JJJJI)Z")] 3

def k1m0 : Method := { name := "<init>", desc := "()V", sig := { parameters := [], returnType := none }, accessFlags := 2, code := none }
def k1c1 : Code := { maxStack := 8, maxLocals := 18, code := code, exceptionTable := #[], attributes := #[] }
def k1m1 : Method := { name := "law", desc := "(JJJJI)Z", sig := { parameters := [.long, .long, .long, .long, .int], returnType := some .boolean }, accessFlags := 9, code := some k1c1 }
/-- com/example/quernloop/quernloop/DueQueueIsAheadPinLaw -/
def k1 : Class := { plain "com/example/quernloop/quernloop/DueQueueIsAheadPinLaw" (some 0) with
  accessFlags := 49
  interfaces := #[]
  cf := some (fileOf pool1 13 #[] #[{ accessFlags := 2, nameIndex := 5, descriptorIndex := 6, attributes := #[] }, { accessFlags := 9, nameIndex := 17, descriptorIndex := 18, attributes := #[] }] 49 2 #[] #[])
  fields := #[]
  methods := #[k1m0, k1m1]
  instanceTypes := #[]
  staticTypes := #[]
  resolved := Array.replicate 22 none
  statics := none }

def pool2 : Array CpInfo := pool [(2, .class_ 4), (1, u "java/lang/Object"), (0, u "<init>"), (0, u "()V"), (0, .class_ 8), (0, u "com/example/quernloop/quernloop/DueQueue$Run"), (2, .class_ 13), (1, u "com/example/quernloop/quernloop/DueQueue"), (0, u "run"), (0, u "Lcom/example/quernloop/quernloop/DueQueue$Run;"), (17, u "heapSize"), (0, u "I"), (13, u "heapWhens"), (0, u "[J"), (6, u "heapSequences"), (20, u "byObject"), (0, u "Lcom/example/quernloop/quernloop/IdentityIndex;"), (2, u "slots"), (0, u "Lcom/example/quernloop/quernloop/WorkSlots;"), (31, u "byRunnable"), (6, u "freeCount"), (2, u "heapIds"), (0, u "[I"), (8, u "freeIds"), (2, u "places"), (25, u "isAhead"), (0, u "(JJJJ)Z"), (5, u "idsUsed"), (42, u "MIN_CAPACITY")] 29

def k2m0 : Method := { name := "<init>", desc := "()V", sig := { parameters := [], returnType := none }, accessFlags := 0, code := none }
def k2c1 : Code := { maxStack := 4, maxLocals := 8, code := prog_1_method_2_code, exceptionTable := #[], attributes := #[] }
def k2m1 : Method := { name := "isAhead", desc := "(JJJJ)Z", sig := { parameters := [.long, .long, .long, .long], returnType := some .boolean }, accessFlags := 8, code := some k2c1 }
/-- com/example/quernloop/quernloop/DueQueue -/
def k2 : Class := { plain "com/example/quernloop/quernloop/DueQueue" (some 0) with
  accessFlags := 48
  interfaces := #[]
  cf := some (fileOf pool2 11 #[.nestMembers #[7]] #[{ accessFlags := 0, nameIndex := 5, descriptorIndex := 6, attributes := #[] }, { accessFlags := 8, nameIndex := 163, descriptorIndex := 164, attributes := #[] }] 48 2 #[] #[{ accessFlags := 26, nameIndex := 213, descriptorIndex := 34, attributes := #[] }, { accessFlags := 18, nameIndex := 14, descriptorIndex := 15, attributes := #[] }, { accessFlags := 2, nameIndex := 33, descriptorIndex := 34, attributes := #[] }, { accessFlags := 2, nameIndex := 124, descriptorIndex := 125, attributes := #[] }, { accessFlags := 2, nameIndex := 48, descriptorIndex := 49, attributes := #[] }, { accessFlags := 2, nameIndex := 56, descriptorIndex := 49, attributes := #[] }, { accessFlags := 2, nameIndex := 81, descriptorIndex := 82, attributes := #[] }, { accessFlags := 2, nameIndex := 137, descriptorIndex := 125, attributes := #[] }, { accessFlags := 2, nameIndex := 134, descriptorIndex := 125, attributes := #[] }, { accessFlags := 2, nameIndex := 121, descriptorIndex := 34, attributes := #[] }, { accessFlags := 2, nameIndex := 170, descriptorIndex := 34, attributes := #[] }, { accessFlags := 2, nameIndex := 114, descriptorIndex := 78, attributes := #[] }, { accessFlags := 2, nameIndex := 77, descriptorIndex := 78, attributes := #[] }])
  fields := #[{ name := "MIN_CAPACITY", type := .int, accessFlags := 26, slot := 0, constantValue := 0 }, { name := "run", type := (.object "com/example/quernloop/quernloop/DueQueue$Run"), accessFlags := 18, slot := 0, constantValue := 0 }, { name := "heapSize", type := .int, accessFlags := 2, slot := 1, constantValue := 0 }, { name := "heapIds", type := (.array .int), accessFlags := 2, slot := 2, constantValue := 0 }, { name := "heapWhens", type := (.array .long), accessFlags := 2, slot := 3, constantValue := 0 }, { name := "heapSequences", type := (.array .long), accessFlags := 2, slot := 4, constantValue := 0 }, { name := "slots", type := (.object "com/example/quernloop/quernloop/WorkSlots"), accessFlags := 2, slot := 5, constantValue := 0 }, { name := "places", type := (.array .int), accessFlags := 2, slot := 6, constantValue := 0 }, { name := "freeIds", type := (.array .int), accessFlags := 2, slot := 7, constantValue := 0 }, { name := "freeCount", type := .int, accessFlags := 2, slot := 8, constantValue := 0 }, { name := "idsUsed", type := .int, accessFlags := 2, slot := 9, constantValue := 0 }, { name := "byRunnable", type := (.object "com/example/quernloop/quernloop/IdentityIndex"), accessFlags := 2, slot := 10, constantValue := 0 }, { name := "byObject", type := (.object "com/example/quernloop/quernloop/IdentityIndex"), accessFlags := 2, slot := 11, constantValue := 0 }]
  methods := #[k2m0, k2m1]
  instanceTypes := #[(.object "com/example/quernloop/quernloop/DueQueue$Run"), .int, (.array .int), (.array .long), (.array .long), (.object "com/example/quernloop/quernloop/WorkSlots"), (.array .int), (.array .int), .int, .int, (.object "com/example/quernloop/quernloop/IdentityIndex"), (.object "com/example/quernloop/quernloop/IdentityIndex")]
  staticTypes := #[.int]
  resolved := Array.replicate 243 none
  statics := none }

def pool3 : Array CpInfo := pool [(1, u "java/lang/Cloneable"), (0, .class_ 1), (0, u "java/lang/Object"), (0, .class_ 3)] 3

/-- java/lang/Cloneable -/
def k3 : Class := { plain "java/lang/Cloneable" (some 0) with
  accessFlags := 1537
  interfaces := #[]
  cf := some (fileOf pool3 2 #[] #[] 1537 4 #[] #[])
  fields := #[]
  methods := #[]
  instanceTypes := #[]
  staticTypes := #[]
  resolved := Array.replicate 8 none
  statics := none }

def pool4 : Array CpInfo := pool [(1, u "java/io/Serializable"), (0, .class_ 1), (0, u "java/lang/Object"), (0, .class_ 3)] 3

/-- java/io/Serializable -/
def k4 : Class := { plain "java/io/Serializable" (some 0) with
  accessFlags := 1537
  interfaces := #[]
  cf := some (fileOf pool4 2 #[] #[] 1537 4 #[] #[])
  fields := #[]
  methods := #[]
  instanceTypes := #[]
  staticTypes := #[]
  resolved := Array.replicate 8 none
  statics := none }

/-- the primitive byte -/
def k5 : Class := { plain "byte" none with kind := .primitive 'B', accessFlags := 0x411 }
/-- [B -/
def k6 : Class := { plain "[B" (some 0) with kind := .array 5 .byte, interfaces := #[3, 4], accessFlags := 1041 }

/-- the primitive int -/
def k7 : Class := { plain "int" none with kind := .primitive 'I', accessFlags := 0x411 }
/-- [I -/
def k8 : Class := { plain "[I" (some 0) with kind := .array 7 .int, interfaces := #[3, 4], accessFlags := 1041 }

def heap : Heap := #[]
def classes : Array Class := #[k0, k1, k2, k3, k4, k5, k6, k7, k8]
def interned : List (Array UInt16 × Addr) := []
def slotsUsed : Nat := 0
def theMethod : MethodId := ⟨1, 1⟩
def args0 : Array Value := #[.long 5, .long 5, .long 5, .long 5, .int 5]
def aboutOver (below : List Frame) : State where
  vm := { classes := classes, interned := interned.toArray }
  heap := heap
  slotsUsed := slotsUsed
  threads := #[{ frames := .invoking theMethod args0 :: below }]
def below0 : List Frame := [.native { method := ⟨0, 0⟩, args := #[] }]
def about1 : State := aboutOver below0
def p0 : Program := .bare "" "" ""
def e0 : Env := launch0.env 0 0 0
theorem w_frames : about1.frames = Frame.invoking theMethod args0 :: below0 := rfl
set_option maxRecDepth 65536 in
theorem w_args : argsFit about1.vm theMethod args0 = true := by decide +kernel
set_option maxRecDepth 65536 in
theorem w_heap : heapFits about1 = true := by decide +kernel
set_option maxRecDepth 65536 in
theorem w_runnable : about1.curStatus? = some .runnable := by decide +kernel
set_option maxRecDepth 65536 in
theorem w_alone : about1.alone = true := by decide +kernel
set_option maxRecDepth 65536 in
theorem w_named : about1.methodNamed? x = some theMethod := by decide +kernel
set_option maxRecDepth 65536 in
theorem w_hears : about1.hears theMethod below0 = true := by decide +kernel
set_option maxRecDepth 65536 in
theorem w_ripe : about1.ripe theMethod args0 below0 = true := by decide +kernel
theorem w_running : about1.status = .running := rfl
set_option maxRecDepth 65536 in
theorem w_room : about1.hasRoom e0.platform room_1 = true :=
  launch0.hasRoom_least _ room_1 (by decide +kernel) (by decide +kernel) (by decide +kernel) (by decide +kernel) (by decide +kernel) (by decide +kernel)
theorem allAtoms_all (ts : List Jvm.Cond) (a : Array Jvm.Value) (st : Jvm.State) : (allAtoms ts).before a st = ts.all (fun c => c.before a st) := by
  induction ts with
  | nil => rfl
  | cons c t ih =>
    show (Jvm.Cond.and c (allAtoms t)).before a st = _
    rw [Jvm.Cond.before_and, ih, List.all_cons]
def words1 : List Jvm.Cond := Jvm.Cond.code x code maxLocals ret :: tables_1
/-- a 'code' word, met by the world's own term for the bytes: nothing is compared byte by byte -/
theorem code_word {y : MethodName} {bytes : ByteArray} {mx : Nat} {rt : Option FieldType} {a : Array Value} {s : State} {m : MethodId} {meth : Method} {c : Code} (h1 : s.methodNamed? y = some m) (h2 : s.vm.method? m = some meth) (h3 : meth.code = some c) (h4 : c.code = bytes)
    (h5 : (c.maxLocals == mx && c.exceptionTable.isEmpty && decide (c.maxStack ≤ mostOperands) && decide (meth.sig.returnType = rt) && !meth.locks && decide (parseMethodDescriptor y.desc = some meth.sig)) = true) : (Jvm.Cond.code y bytes mx rt).before a s = true := by
  simp only [Bool.and_eq_true, beq_iff_eq, Bool.not_eq_true', decide_eq_true_eq] at h5
  obtain ⟨⟨⟨⟨⟨g1, g2⟩, g3⟩, g4⟩, g5⟩, g6⟩ := h5
  simp [Cond.before, Cond.holds, Cond.value, h1, h2, h3, h4, g1, g2, g3, g4, g5, g6]
def isCode : Jvm.Cond → Bool
  | .code _ _ _ _ => true
  | _ => false
theorem all_split {L : List Jvm.Cond} {P : Jvm.Cond → Bool} (h1 : L.all (fun c => isCode c || P c) = true) (h2 : ∀ c ∈ L.filter isCode, P c = true) : L.all P = true := by
  refine List.all_eq_true.mpr fun c hc => ?_
  have h := List.all_eq_true.mp h1 c hc
  rcases Bool.eq_false_or_eq_true (isCode c) with hi | hi
  · exact h2 c (List.mem_filter.mpr ⟨hc, hi⟩)
  · simpa [hi] using h
set_option maxRecDepth 65536 in
theorem w_c0 : (Jvm.Cond.code x code maxLocals ret).before args0 about1 = true := code_word (m := ⟨1, 1⟩) (meth := k1m1) (c := k1c1) (by decide +kernel) rfl rfl rfl (by decide +kernel)
set_option maxRecDepth 65536 in
theorem w_c1 : (Jvm.Cond.code ({ cls := "com/example/quernloop/quernloop/DueQueue", name := "isAhead", desc := "(JJJJ)Z" } : Jvm.MethodName) prog_1_method_2_code (8 : Nat) (Option.some Jvm.ClassFile.FieldType.boolean)).before args0 about1 = true := code_word (m := ⟨2, 1⟩) (meth := k2m1) (c := k2c1) (by decide +kernel) rfl rfl rfl (by decide +kernel)
def codes1 : List Jvm.Cond := [Jvm.Cond.code x code maxLocals ret, Jvm.Cond.code ({ cls := "com/example/quernloop/quernloop/DueQueue", name := "isAhead", desc := "(JJJJ)Z" } : Jvm.MethodName) prog_1_method_2_code (8 : Nat) (Option.some Jvm.ClassFile.FieldType.boolean)]
set_option maxRecDepth 65536 in
theorem codes_eq : words1.filter isCode = codes1 := rfl
theorem w_codes : ∀ c ∈ words1.filter isCode, c.before args0 about1 = true := by
  rw [codes_eq]
  intro c hc
  simp only [codes1, List.mem_cons, List.not_mem_nil, or_false] at hc
  rcases hc with rfl | rfl
  · exact w_c0
  · exact w_c1
set_option maxRecDepth 65536 in
theorem w_t1 : words1.all (fun c => isCode c || c.before args0 about1) = true := by decide +kernel
theorem w_tables : (allAtoms (Jvm.Cond.code x code maxLocals ret :: tables_1)).before args0 about1 = true := by
  rw [allAtoms_all]
  show words1.all (fun c => c.before args0 about1) = true
  refine all_split ?_ w_codes
  rw [w_t1]
set_option maxRecDepth 65536 in
theorem w_case : (Jvm.Cond.and given_1 narrow_1).before args0 about1 = true := by decide +kernel
theorem w_applies : (headSpec (Jvm.Cond.code x code maxLocals ret :: tables_1) room_1).applies x e0.platform about1 = true :=
  (Spec.applies_iff w_frames).mpr ⟨w_running, w_runnable, w_alone, w_named, w_hears, w_ripe, w_room, w_tables⟩
theorem atStart : AtStart classFile x code maxLocals ret World_1 tables_1 room_1 Calls_1 rest_1 Pre_1 launch0 p0 e0 about1 theMethod args0 below0 :=
  ⟨lists_1, trivial, launch0.admits_env _ _ _, launch0.least_env, fairChoices_fair.cas, fairChoices_fair.clock, w_frames, w_args, w_heap, w_applies, trivial, trivial, w_case⟩
end start1
theorem witness_1 : WitnessClaimed_1 := ⟨start1.p0, start1.e0, start1.about1, start1.theMethod, start1.args0, start1.below0, start1.atStart⟩
end Jvm.Pilot.@@N@@
