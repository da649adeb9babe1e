import JvmDerived
import JvmDerived.Pilot.@@N@@Statement
import JvmDerived.Pilot.@@N@@Code
set_option linter.unusedVariables false
set_option linter.unusedSimpArgs false
namespace Jvm.RoadKit
open Sem ClassFile Op Lib Jvm.Stand Jvm.Free Jvm.LawKit
section New
variable {p : Program} {l : Launch} {e : Env} {R : Room} {s : State} {m : MethodId} {args : Array Value} {below : List Frame} {meth : Method} {c : Code} {T : State} {locs : List Loc} {cells slots : Nat}
theorem retI (X : Stand p l e R s m args below meth c T locs cells slots) (hx : p.tables.exec = Jvm.exec) {pc : Nat} {Ls : Array Slot} {z : Int32} {rest : List Value} (hret : meth.sig.returnType = some .int) (hd : decode c.code pc = .ok (.ireturn, 1)) {fs : List Frame}
    (hl : ∀ (f : JFrame) (acts : List Action), f.method = m → f.locked = none → f.entered = [] → (doReturn e (T.setTop f) acts (some (.int z))).1 = T.setFrames fs) : Steps p.tables e below (T.setTop (mkF m pc Ls (.int z :: rest))) (T.setFrames fs) := by
  have hm' : T.vm.method? m = some meth := X.method'
  have hn : narrow .int (.int z) = .int z := rfl
  show Steps p.tables e below (T.setTop { method := m, pc := pc, locals := Ls, stack := _ :: rest, locked := none }) _
  jvm_step X.here [X.here.top, hx, hd, hm', hret, hn]
  first | (intro acts; rw [hl _ acts rfl rfl rfl]) | rw [hl _ _ rfl rfl rfl]
  exact Steps.refl _
end New
end Jvm.RoadKit
namespace Jvm.Pilot.@@N@@
open Jvm Jvm.ClassFile Sem Op Lib Jvm.Free Jvm.Stand Jvm.LawKit Jvm.RoadKit Bundle Jvm.Pilot.@@N@@.Jvm.D
theorem pn_0 : plainName "com/example/quernloop/quernloop/SystemClockToNanosPinLaw" = true := by first | (simp [plainName, overriddenIn]; done) | decide +kernel
theorem pn_1 : plainName "com/example/quernloop/quernloop/SystemClock" = true := by first | (simp [plainName, overriddenIn]; done) | decide +kernel
theorem pd_0 : parseMethodDescriptor "(JI)J" = some ⟨[.long, .int], some .long⟩ := by decide +kernel
theorem pd_1 : parseMethodDescriptor "(J)J" = some ⟨[.long], some .long⟩ := by decide +kernel
theorem d1_0 : decode method_2_code 0 = .ok (.iload_n 2, 1) := by decide +kernel
theorem d1_1 : decode method_2_code 1 = .ok (.iconst 3, 1) := by decide +kernel
theorem d1_2 : decode method_2_code 2 = .ok (.iand, 1) := by decide +kernel
theorem d1_3 : decode method_2_code 3 = .ok (.istore_n 3, 1) := by decide +kernel
theorem d1_4 : decode method_2_code 4 = .ok (.iload_n 3, 1) := by decide +kernel
theorem d1_5 : decode method_2_code 5 = .ok (.iconst 1, 1) := by decide +kernel
theorem d1_6 : decode method_2_code 6 = .ok (.if_icmp .ne 17, 3) := by decide +kernel
theorem d1_9 : decode method_2_code 9 = .ok (.ldc2_w 7, 3) := by decide +kernel
theorem d1_12 : decode method_2_code 12 = .ok (.lload_n 0, 1) := by decide +kernel
theorem d1_13 : decode method_2_code 13 = .ok (.ldc2_w 9, 3) := by decide +kernel
theorem d1_16 : decode method_2_code 16 = .ok (.land, 1) := by decide +kernel
theorem d1_17 : decode method_2_code 17 = .ok (.ladd, 1) := by decide +kernel
theorem d1_18 : decode method_2_code 18 = .ok (.ldc2_w 11, 3) := by decide +kernel
theorem d1_21 : decode method_2_code 21 = .ok (.lsub, 1) := by decide +kernel
theorem d1_22 : decode method_2_code 22 = .ok (.lreturn, 1) := by decide +kernel
theorem d1_23 : decode method_2_code 23 = .ok (.iload_n 3, 1) := by decide +kernel
theorem d1_24 : decode method_2_code 24 = .ok (.iconst 2, 1) := by decide +kernel
theorem d1_25 : decode method_2_code 25 = .ok (.if_icmp .ne 17, 3) := by decide +kernel
theorem d1_28 : decode method_2_code 28 = .ok (.ldc2_w 13, 3) := by decide +kernel
theorem d1_31 : decode method_2_code 31 = .ok (.lload_n 0, 1) := by decide +kernel
theorem d1_32 : decode method_2_code 32 = .ok (.ldc2_w 9, 3) := by decide +kernel
theorem d1_35 : decode method_2_code 35 = .ok (.land, 1) := by decide +kernel
theorem d1_36 : decode method_2_code 36 = .ok (.ladd, 1) := by decide +kernel
theorem d1_37 : decode method_2_code 37 = .ok (.ldc2_w 11, 3) := by decide +kernel
theorem d1_40 : decode method_2_code 40 = .ok (.lsub, 1) := by decide +kernel
theorem d1_41 : decode method_2_code 41 = .ok (.lreturn, 1) := by decide +kernel
theorem d1_42 : decode method_2_code 42 = .ok (.lload_n 0, 1) := by decide +kernel
theorem d1_43 : decode method_2_code 43 = .ok (.lreturn, 1) := by decide +kernel
theorem ef_1 (m : MethodId) (x0 : Int64) (x1 : Int32) : entryFrame m #[(.long x0), (.int x1)] 4 = (mkF m 0 #[.val (.long x0), .second, .val (.int x1), .unset] []) := by first | (simp [entryFrame, mkF, argsToLocals, Value.category]; done) | rfl
def F1 (q0 : Int64) (q1 : Int32) : Int64 := (if (q1 &&& (3 : Int32)) = (1 : Int32) then (((9223372036854 : Int64) + (q0 &&& (7 : Int64))) - (4 : Int64)) else (if (q1 &&& (3 : Int32)) = (2 : Int32) then (((-9223372036854 : Int64) + (q0 &&& (7 : Int64))) - (4 : Int64)) else q0))
def Q1 (Z : State) (q0 : Int64) (q1 : Int32) (h0 : Heap) (n0 : Nat) (vX : Option Value) (hX : Heap) (lX : List Loc) : Prop := vX = some (.long (F1 q0 q1)) ∧ Fr n0 lX ∧ (hX = h0)
set_option maxRecDepth 65536 in
set_option maxHeartbeats 40000000 in
theorem rm1 (l : Launch) (Z : State) (a0 : Array Value) (hw : ∀ d ∈ tables_1, d.before a0 Z = true) (ws : List Jvm.Cond) (q0 : Int64) (q1 : Int32) (h0 : Heap) (n0 : Nat) (Z0 : n0 ≤ h0.size)  :
    MetFree l (⟨"com/example/quernloop/quernloop/SystemClockToNanosPinLaw", "pick", "(JI)J"⟩ : MethodName) (head1 (Jvm.Cond.code (⟨"com/example/quernloop/quernloop/SystemClockToNanosPinLaw", "pick", "(JI)J"⟩ : MethodName) method_2_code 4 (some .long) :: ws) ({ frames := 0, cells := 0, slots := 0, locals := 0 } : Room)) (fun aX uX => aX = #[(.long q0), (.int q1)] ∧ Z.Warmed39 uX.vm ∧ uX.heap = h0) (fun _ _ _ _ _ => True) (fun _ uX oX wX => ∃ vX lX, oX = .returned vX ∧ Q1 Z q0 q1 h0 n0 vX wX.heap lX ∧ FrameEnd uX oX wX lX ({ frames := 0, cells := 0, slots := 0, locals := 0 } : Room).cells ({ frames := 0, cells := 0, slots := 0, locals := 0 } : Room).slots) := by
  refine MetFree.of_bodySF (plainFor_of_name pn_0) hisR ?_
  intro p e s m args below meth c s₁ Bd hml0 hP hK
  obtain ⟨rfl, hZ, hh⟩ := hP
  have hx := Bd.exec
  have hby := Bd.bytes
  have hml : c.maxLocals = 4 := hml0
  have hown : s.vm.findClass "com/example/quernloop/quernloop/SystemClockToNanosPinLaw" = some m.cls := findClass_of_methodNamed Bd.named
  have hnm := (name_of_methodNamed Bd.named Bd.method).1
  have X0 : Stand p l e ({ frames := 0, cells := 0, slots := 0, locals := 0 } : Room) s m #[(.long q0), (.int q1)] below meth c s₁ [] 0 0 := Stand.of_body Bd
  have e0 : s₁.heap = h0 := by rw [← hh, Bd.state]; rfl
  have N0 := Fr.nil n0
  have pre0 : ∀ t, Steps p.tables e below (s₁.setTop (mkF m 0 #[.val (.long q0), .second, .val (.int q1), .unset] [])) t → Steps p.tables e below (s₁.setTop (entryFrame m #[(.long q0), (.int q1)] 4)) t := fun t k => castTop (ef_1 m q0 q1) k
  have P1 : ∀ t, Steps p.tables e below (s₁.setTop (mkF m 6 #[.val (.long q0), .second, .val (.int q1), .val (.int (q1 &&& (3 : Int32)))] [(.int (1 : Int32)), (.int (q1 &&& (3 : Int32)))])) t → Steps p.tables e below (s₁.setTop (entryFrame m #[(.long q0), (.int q1)] 4)) t := by
    intro t kk
    refine pre0 _ ?_
    show Steps p.tables e below (s₁.setTop (mkF m 0 #[.val (.long q0), .second, .val (.int q1), .unset] [])) _
    refine XS.iloadN X0.here hx rfl (hb hby d1_0) rfl ?_
    show Steps p.tables e below (s₁.setTop (mkF m 1 #[.val (.long q0), .second, .val (.int q1), .unset] [(.int q1)])) _
    refine XS.iconst X0.here hx rfl (hb hby d1_1) ?_
    show Steps p.tables e below (s₁.setTop (mkF m 2 #[.val (.long q0), .second, .val (.int q1), .unset] [(.int (3 : Int32)), (.int q1)])) _
    refine XS.iand X0.here hx rfl (hb hby d1_2) rfl ?_
    show Steps p.tables e below (s₁.setTop (mkF m 3 #[.val (.long q0), .second, .val (.int q1), .unset] [(.int (q1 &&& (3 : Int32)))])) _
    refine XS.istoreN X0.here hx rfl (hb hby d1_3) rfl (l' := #[.val (.long q0), .second, .val (.int q1), .val (.int (q1 &&& (3 : Int32)))]) rfl ?_
    show Steps p.tables e below (s₁.setTop (mkF m 4 #[.val (.long q0), .second, .val (.int q1), .val (.int (q1 &&& (3 : Int32)))] [])) _
    refine XS.iloadN X0.here hx rfl (hb hby d1_4) rfl ?_
    show Steps p.tables e below (s₁.setTop (mkF m 5 #[.val (.long q0), .second, .val (.int q1), .val (.int (q1 &&& (3 : Int32)))] [(.int (q1 &&& (3 : Int32)))])) _
    refine XS.iconst X0.here hx rfl (hb hby d1_5) ?_
    show Steps p.tables e below (s₁.setTop (mkF m 6 #[.val (.long q0), .second, .val (.int q1), .val (.int (q1 &&& (3 : Int32)))] [(.int (1 : Int32)), (.int (q1 &&& (3 : Int32)))])) _
    exact kk
  by_cases c2 : (q1 &&& (3 : Int32)) = (1 : Int32)
  · skip
    have P3 : ∀ t, Steps p.tables e below (s₁.setTop (mkF m 22 #[.val (.long q0), .second, .val (.int q1), .val (.int (q1 &&& (3 : Int32)))] [(.long (((9223372036854 : Int64) + (q0 &&& (7 : Int64))) - (4 : Int64)))])) t → Steps p.tables e below (s₁.setTop (entryFrame m #[(.long q0), (.int q1)] 4)) t := by
      intro t kk
      refine P1 _ ?_
      show Steps p.tables e below (s₁.setTop (mkF m 6 #[.val (.long q0), .second, .val (.int q1), .val (.int (q1 &&& (3 : Int32)))] [(.int (1 : Int32)), (.int (q1 &&& (3 : Int32)))])) _
      refine XS.icmpNo X0.here hx rfl (hb hby d1_6) rfl (XT.ii_ne_f c2) ?_
      show Steps p.tables e below (s₁.setTop (mkF m 9 #[.val (.long q0), .second, .val (.int q1), .val (.int (q1 &&& (3 : Int32)))] [])) _
      refine X0.ldc2Long hx hown (mvT hZ (hw _ (List.mem_of_getElem? (i := 17) rfl))) (g := (mkF m 9 #[.val (.long q0), .second, .val (.int q1), .val (.int (q1 &&& (3 : Int32)))] [])) rfl (hb hby d1_9) _ ?_
      show Steps p.tables e below (s₁.setTop (mkF m 12 #[.val (.long q0), .second, .val (.int q1), .val (.int (q1 &&& (3 : Int32)))] [(.long (9223372036854 : Int64))])) _
      refine XS.lloadN X0.here hx rfl (hb hby d1_12) rfl ?_
      show Steps p.tables e below (s₁.setTop (mkF m 13 #[.val (.long q0), .second, .val (.int q1), .val (.int (q1 &&& (3 : Int32)))] [(.long q0), (.long (9223372036854 : Int64))])) _
      refine X0.ldc2Long hx hown (mvT hZ (hw _ (List.mem_of_getElem? (i := 5) rfl))) (g := (mkF m 13 #[.val (.long q0), .second, .val (.int q1), .val (.int (q1 &&& (3 : Int32)))] [(.long q0), (.long (9223372036854 : Int64))])) rfl (hb hby d1_13) _ ?_
      show Steps p.tables e below (s₁.setTop (mkF m 16 #[.val (.long q0), .second, .val (.int q1), .val (.int (q1 &&& (3 : Int32)))] [(.long (7 : Int64)), (.long q0), (.long (9223372036854 : Int64))])) _
      refine XS.land X0.here hx rfl (hb hby d1_16) rfl ?_
      show Steps p.tables e below (s₁.setTop (mkF m 17 #[.val (.long q0), .second, .val (.int q1), .val (.int (q1 &&& (3 : Int32)))] [(.long (q0 &&& (7 : Int64))), (.long (9223372036854 : Int64))])) _
      refine XS.ladd X0.here hx rfl (hb hby d1_17) rfl ?_
      show Steps p.tables e below (s₁.setTop (mkF m 18 #[.val (.long q0), .second, .val (.int q1), .val (.int (q1 &&& (3 : Int32)))] [(.long ((9223372036854 : Int64) + (q0 &&& (7 : Int64))))])) _
      refine X0.ldc2Long hx hown (mvT hZ (hw _ (List.mem_of_getElem? (i := 6) rfl))) (g := (mkF m 18 #[.val (.long q0), .second, .val (.int q1), .val (.int (q1 &&& (3 : Int32)))] [(.long ((9223372036854 : Int64) + (q0 &&& (7 : Int64))))])) rfl (hb hby d1_18) _ ?_
      show Steps p.tables e below (s₁.setTop (mkF m 21 #[.val (.long q0), .second, .val (.int q1), .val (.int (q1 &&& (3 : Int32)))] [(.long (4 : Int64)), (.long ((9223372036854 : Int64) + (q0 &&& (7 : Int64))))])) _
      refine XS.lsub X0.here hx rfl (hb hby d1_21) rfl ?_
      show Steps p.tables e below (s₁.setTop (mkF m 22 #[.val (.long q0), .second, .val (.int q1), .val (.int (q1 &&& (3 : Int32)))] [(.long (((9223372036854 : Int64) + (q0 &&& (7 : Int64))) - (4 : Int64)))])) _
      exact kk
    obtain ⟨fs, hr, hrun, hended, hW, hsame⟩ := X0.leave (v := some (.long (((9223372036854 : Int64) + (q0 &&& (7 : Int64))) - (4 : Int64)))) (fun h => by rw [Bd.returns] at h; cases h)
    refine ⟨_, _, P3 _ ?_, hrun, hended, _, _, rfl, ?_, ⟨_, rfl⟩, hW, hsame.mono (by decide) (by decide)⟩
    · exact X0.lreturnOut hx Bd.returns (hb hby d1_22) hr
    · show Q1 Z q0 q1 h0 n0 _ s₁.heap _
      rw [e0]
      exact ⟨congrArg (fun z => some (Value.long z)) (show (F1 q0 q1) = _ from ((if_pos c2).trans rfl)).symm, N0, rfl⟩
  · skip
    have P4 : ∀ t, Steps p.tables e below (s₁.setTop (mkF m 25 #[.val (.long q0), .second, .val (.int q1), .val (.int (q1 &&& (3 : Int32)))] [(.int (2 : Int32)), (.int (q1 &&& (3 : Int32)))])) t → Steps p.tables e below (s₁.setTop (entryFrame m #[(.long q0), (.int q1)] 4)) t := by
      intro t kk
      refine P1 _ ?_
      show Steps p.tables e below (s₁.setTop (mkF m 6 #[.val (.long q0), .second, .val (.int q1), .val (.int (q1 &&& (3 : Int32)))] [(.int (1 : Int32)), (.int (q1 &&& (3 : Int32)))])) _
      refine XS.icmpYes X0.here hx rfl (pc0 := 6) (pc' := 23) rfl (hb hby d1_6) rfl (XT.ii_ne_t c2) (by decide) (by decide) ?_
      show Steps p.tables e below (s₁.setTop (mkF m 23 #[.val (.long q0), .second, .val (.int q1), .val (.int (q1 &&& (3 : Int32)))] [])) _
      refine XS.iloadN X0.here hx rfl (hb hby d1_23) rfl ?_
      show Steps p.tables e below (s₁.setTop (mkF m 24 #[.val (.long q0), .second, .val (.int q1), .val (.int (q1 &&& (3 : Int32)))] [(.int (q1 &&& (3 : Int32)))])) _
      refine XS.iconst X0.here hx rfl (hb hby d1_24) ?_
      show Steps p.tables e below (s₁.setTop (mkF m 25 #[.val (.long q0), .second, .val (.int q1), .val (.int (q1 &&& (3 : Int32)))] [(.int (2 : Int32)), (.int (q1 &&& (3 : Int32)))])) _
      exact kk
    by_cases c5 : (q1 &&& (3 : Int32)) = (2 : Int32)
    · skip
      have P6 : ∀ t, Steps p.tables e below (s₁.setTop (mkF m 41 #[.val (.long q0), .second, .val (.int q1), .val (.int (q1 &&& (3 : Int32)))] [(.long (((-9223372036854 : Int64) + (q0 &&& (7 : Int64))) - (4 : Int64)))])) t → Steps p.tables e below (s₁.setTop (entryFrame m #[(.long q0), (.int q1)] 4)) t := by
        intro t kk
        refine P4 _ ?_
        show Steps p.tables e below (s₁.setTop (mkF m 25 #[.val (.long q0), .second, .val (.int q1), .val (.int (q1 &&& (3 : Int32)))] [(.int (2 : Int32)), (.int (q1 &&& (3 : Int32)))])) _
        refine XS.icmpNo X0.here hx rfl (hb hby d1_25) rfl (XT.ii_ne_f c5) ?_
        show Steps p.tables e below (s₁.setTop (mkF m 28 #[.val (.long q0), .second, .val (.int q1), .val (.int (q1 &&& (3 : Int32)))] [])) _
        refine X0.ldc2Long hx hown (mvT hZ (hw _ (List.mem_of_getElem? (i := 4) rfl))) (g := (mkF m 28 #[.val (.long q0), .second, .val (.int q1), .val (.int (q1 &&& (3 : Int32)))] [])) rfl (hb hby d1_28) _ ?_
        show Steps p.tables e below (s₁.setTop (mkF m 31 #[.val (.long q0), .second, .val (.int q1), .val (.int (q1 &&& (3 : Int32)))] [(.long (-9223372036854 : Int64))])) _
        refine XS.lloadN X0.here hx rfl (hb hby d1_31) rfl ?_
        show Steps p.tables e below (s₁.setTop (mkF m 32 #[.val (.long q0), .second, .val (.int q1), .val (.int (q1 &&& (3 : Int32)))] [(.long q0), (.long (-9223372036854 : Int64))])) _
        refine X0.ldc2Long hx hown (mvT hZ (hw _ (List.mem_of_getElem? (i := 5) rfl))) (g := (mkF m 32 #[.val (.long q0), .second, .val (.int q1), .val (.int (q1 &&& (3 : Int32)))] [(.long q0), (.long (-9223372036854 : Int64))])) rfl (hb hby d1_32) _ ?_
        show Steps p.tables e below (s₁.setTop (mkF m 35 #[.val (.long q0), .second, .val (.int q1), .val (.int (q1 &&& (3 : Int32)))] [(.long (7 : Int64)), (.long q0), (.long (-9223372036854 : Int64))])) _
        refine XS.land X0.here hx rfl (hb hby d1_35) rfl ?_
        show Steps p.tables e below (s₁.setTop (mkF m 36 #[.val (.long q0), .second, .val (.int q1), .val (.int (q1 &&& (3 : Int32)))] [(.long (q0 &&& (7 : Int64))), (.long (-9223372036854 : Int64))])) _
        refine XS.ladd X0.here hx rfl (hb hby d1_36) rfl ?_
        show Steps p.tables e below (s₁.setTop (mkF m 37 #[.val (.long q0), .second, .val (.int q1), .val (.int (q1 &&& (3 : Int32)))] [(.long ((-9223372036854 : Int64) + (q0 &&& (7 : Int64))))])) _
        refine X0.ldc2Long hx hown (mvT hZ (hw _ (List.mem_of_getElem? (i := 6) rfl))) (g := (mkF m 37 #[.val (.long q0), .second, .val (.int q1), .val (.int (q1 &&& (3 : Int32)))] [(.long ((-9223372036854 : Int64) + (q0 &&& (7 : Int64))))])) rfl (hb hby d1_37) _ ?_
        show Steps p.tables e below (s₁.setTop (mkF m 40 #[.val (.long q0), .second, .val (.int q1), .val (.int (q1 &&& (3 : Int32)))] [(.long (4 : Int64)), (.long ((-9223372036854 : Int64) + (q0 &&& (7 : Int64))))])) _
        refine XS.lsub X0.here hx rfl (hb hby d1_40) rfl ?_
        show Steps p.tables e below (s₁.setTop (mkF m 41 #[.val (.long q0), .second, .val (.int q1), .val (.int (q1 &&& (3 : Int32)))] [(.long (((-9223372036854 : Int64) + (q0 &&& (7 : Int64))) - (4 : Int64)))])) _
        exact kk
      obtain ⟨fs, hr, hrun, hended, hW, hsame⟩ := X0.leave (v := some (.long (((-9223372036854 : Int64) + (q0 &&& (7 : Int64))) - (4 : Int64)))) (fun h => by rw [Bd.returns] at h; cases h)
      refine ⟨_, _, P6 _ ?_, hrun, hended, _, _, rfl, ?_, ⟨_, rfl⟩, hW, hsame.mono (by decide) (by decide)⟩
      · exact X0.lreturnOut hx Bd.returns (hb hby d1_41) hr
      · show Q1 Z q0 q1 h0 n0 _ s₁.heap _
        rw [e0]
        exact ⟨congrArg (fun z => some (Value.long z)) (show (F1 q0 q1) = _ from ((if_neg c2).trans ((if_pos c5).trans rfl))).symm, N0, rfl⟩
    · skip
      have P7 : ∀ t, Steps p.tables e below (s₁.setTop (mkF m 43 #[.val (.long q0), .second, .val (.int q1), .val (.int (q1 &&& (3 : Int32)))] [(.long q0)])) t → Steps p.tables e below (s₁.setTop (entryFrame m #[(.long q0), (.int q1)] 4)) t := by
        intro t kk
        refine P4 _ ?_
        show Steps p.tables e below (s₁.setTop (mkF m 25 #[.val (.long q0), .second, .val (.int q1), .val (.int (q1 &&& (3 : Int32)))] [(.int (2 : Int32)), (.int (q1 &&& (3 : Int32)))])) _
        refine XS.icmpYes X0.here hx rfl (pc0 := 25) (pc' := 42) rfl (hb hby d1_25) rfl (XT.ii_ne_t c5) (by decide) (by decide) ?_
        show Steps p.tables e below (s₁.setTop (mkF m 42 #[.val (.long q0), .second, .val (.int q1), .val (.int (q1 &&& (3 : Int32)))] [])) _
        refine XS.lloadN X0.here hx rfl (hb hby d1_42) rfl ?_
        show Steps p.tables e below (s₁.setTop (mkF m 43 #[.val (.long q0), .second, .val (.int q1), .val (.int (q1 &&& (3 : Int32)))] [(.long q0)])) _
        exact kk
      obtain ⟨fs, hr, hrun, hended, hW, hsame⟩ := X0.leave (v := some (.long q0)) (fun h => by rw [Bd.returns] at h; cases h)
      refine ⟨_, _, P7 _ ?_, hrun, hended, _, _, rfl, ?_, ⟨_, rfl⟩, hW, hsame.mono (by decide) (by decide)⟩
      · exact X0.lreturnOut hx Bd.returns (hb hby d1_43) hr
      · show Q1 Z q0 q1 h0 n0 _ s₁.heap _
        rw [e0]
        exact ⟨congrArg (fun z => some (Value.long z)) (show (F1 q0 q1) = _ from ((if_neg c2).trans ((if_neg c5).trans rfl))).symm, N0, rfl⟩
theorem d2_0 : decode prog_21_method_5_code 0 = .ok (.lload_n 0, 1) := by decide +kernel
theorem d2_1 : decode prog_21_method_5_code 1 = .ok (.ldc2_w 30, 3) := by decide +kernel
theorem d2_4 : decode prog_21_method_5_code 4 = .ok (.lcmp, 1) := by decide +kernel
theorem d2_5 : decode prog_21_method_5_code 5 = .ok (.ifCond .le 7, 3) := by decide +kernel
theorem d2_8 : decode prog_21_method_5_code 8 = .ok (.ldc2_w 32, 3) := by decide +kernel
theorem d2_11 : decode prog_21_method_5_code 11 = .ok (.lreturn, 1) := by decide +kernel
theorem d2_12 : decode prog_21_method_5_code 12 = .ok (.lload_n 0, 1) := by decide +kernel
theorem d2_13 : decode prog_21_method_5_code 13 = .ok (.ldc2_w 34, 3) := by decide +kernel
theorem d2_16 : decode prog_21_method_5_code 16 = .ok (.lcmp, 1) := by decide +kernel
theorem d2_17 : decode prog_21_method_5_code 17 = .ok (.ifCond .ge 7, 3) := by decide +kernel
theorem d2_20 : decode prog_21_method_5_code 20 = .ok (.ldc2_w 36, 3) := by decide +kernel
theorem d2_23 : decode prog_21_method_5_code 23 = .ok (.lreturn, 1) := by decide +kernel
theorem d2_24 : decode prog_21_method_5_code 24 = .ok (.lload_n 0, 1) := by decide +kernel
theorem d2_25 : decode prog_21_method_5_code 25 = .ok (.ldc2_w 26, 3) := by decide +kernel
theorem d2_28 : decode prog_21_method_5_code 28 = .ok (.lmul, 1) := by decide +kernel
theorem d2_29 : decode prog_21_method_5_code 29 = .ok (.lreturn, 1) := by decide +kernel
theorem ef_2 (m : MethodId) (x0 : Int64) : entryFrame m #[(.long x0)] 2 = (mkF m 0 #[.val (.long x0), .second] []) := by first | (simp [entryFrame, mkF, argsToLocals, Value.category]; done) | rfl
def F2 (q0 : Int64) : Int64 := (if (9223372036854 : Int64) < q0 then (9223372036854775807 : Int64) else (if q0 < (-9223372036854 : Int64) then (-9223372036854775808 : Int64) else (q0 * (1000000 : Int64))))
def Q2 (Z : State) (q0 : Int64) (h0 : Heap) (n0 : Nat) (vX : Option Value) (hX : Heap) (lX : List Loc) : Prop := vX = some (.long (F2 q0)) ∧ Fr n0 lX ∧ (hX = h0)
set_option maxRecDepth 65536 in
set_option maxHeartbeats 40000000 in
theorem rm2 (l : Launch) (Z : State) (a0 : Array Value) (hw : ∀ d ∈ tables_1, d.before a0 Z = true) (ws : List Jvm.Cond) (q0 : Int64) (h0 : Heap) (n0 : Nat) (Z0 : n0 ≤ h0.size)  :
    MetFree l (⟨"com/example/quernloop/quernloop/SystemClock", "toNanos", "(J)J"⟩ : MethodName) (head1 (Jvm.Cond.code (⟨"com/example/quernloop/quernloop/SystemClock", "toNanos", "(J)J"⟩ : MethodName) prog_21_method_5_code 2 (some .long) :: ws) ({ frames := 0, cells := 0, slots := 0, locals := 0 } : Room)) (fun aX uX => aX = #[(.long q0)] ∧ Z.Warmed39 uX.vm ∧ uX.heap = h0) (fun _ _ _ _ _ => True) (fun _ uX oX wX => ∃ vX lX, oX = .returned vX ∧ Q2 Z q0 h0 n0 vX wX.heap lX ∧ FrameEnd uX oX wX lX ({ frames := 0, cells := 0, slots := 0, locals := 0 } : Room).cells ({ frames := 0, cells := 0, slots := 0, locals := 0 } : Room).slots) := by
  refine MetFree.of_bodySF (plainFor_of_name pn_1) hisR ?_
  intro p e s m args below meth c s₁ Bd hml0 hP hK
  obtain ⟨rfl, hZ, hh⟩ := hP
  have hx := Bd.exec
  have hby := Bd.bytes
  have hml : c.maxLocals = 2 := hml0
  have hown : s.vm.findClass "com/example/quernloop/quernloop/SystemClock" = some m.cls := findClass_of_methodNamed Bd.named
  have hnm := (name_of_methodNamed Bd.named Bd.method).1
  have X0 : Stand p l e ({ frames := 0, cells := 0, slots := 0, locals := 0 } : Room) s m #[(.long q0)] below meth c s₁ [] 0 0 := Stand.of_body Bd
  have e0 : s₁.heap = h0 := by rw [← hh, Bd.state]; rfl
  have N0 := Fr.nil n0
  have pre0 : ∀ t, Steps p.tables e below (s₁.setTop (mkF m 0 #[.val (.long q0), .second] [])) t → Steps p.tables e below (s₁.setTop (entryFrame m #[(.long q0)] 2)) t := fun t k => castTop (ef_2 m q0) k
  have P1 : ∀ t, Steps p.tables e below (s₁.setTop (mkF m 5 #[.val (.long q0), .second] [(.int (XT.cmpL q0 (9223372036854 : Int64)))])) t → Steps p.tables e below (s₁.setTop (entryFrame m #[(.long q0)] 2)) t := by
    intro t kk
    refine pre0 _ ?_
    show Steps p.tables e below (s₁.setTop (mkF m 0 #[.val (.long q0), .second] [])) _
    refine XS.lloadN X0.here hx rfl (hb hby d2_0) rfl ?_
    show Steps p.tables e below (s₁.setTop (mkF m 1 #[.val (.long q0), .second] [(.long q0)])) _
    refine X0.ldc2Long hx hown (mvT hZ (hw _ (List.mem_of_getElem? (i := 13) rfl))) (g := (mkF m 1 #[.val (.long q0), .second] [(.long q0)])) rfl (hb hby d2_1) _ ?_
    show Steps p.tables e below (s₁.setTop (mkF m 4 #[.val (.long q0), .second] [(.long (9223372036854 : Int64)), (.long q0)])) _
    refine XT.lcmp X0.here hx rfl (hb hby d2_4) rfl ?_
    show Steps p.tables e below (s₁.setTop (mkF m 5 #[.val (.long q0), .second] [(.int (XT.cmpL q0 (9223372036854 : Int64)))])) _
    exact kk
  by_cases c2 : (9223372036854 : Int64) < q0
  · skip
    have P3 : ∀ t, Steps p.tables e below (s₁.setTop (mkF m 11 #[.val (.long q0), .second] [(.long (9223372036854775807 : Int64))])) t → Steps p.tables e below (s₁.setTop (entryFrame m #[(.long q0)] 2)) t := by
      intro t kk
      refine P1 _ ?_
      show Steps p.tables e below (s₁.setTop (mkF m 5 #[.val (.long q0), .second] [(.int (XT.cmpL q0 (9223372036854 : Int64)))])) _
      refine XS.ifNo X0.here hx rfl (hb hby d2_5) rfl (XT.ll_le_f c2) ?_
      show Steps p.tables e below (s₁.setTop (mkF m 8 #[.val (.long q0), .second] [])) _
      refine X0.ldc2Long hx hown (mvT hZ (hw _ (List.mem_of_getElem? (i := 19) rfl))) (g := (mkF m 8 #[.val (.long q0), .second] [])) rfl (hb hby d2_8) _ ?_
      show Steps p.tables e below (s₁.setTop (mkF m 11 #[.val (.long q0), .second] [(.long (9223372036854775807 : Int64))])) _
      exact kk
    obtain ⟨fs, hr, hrun, hended, hW, hsame⟩ := X0.leave (v := some (.long (9223372036854775807 : Int64))) (fun h => by rw [Bd.returns] at h; cases h)
    refine ⟨_, _, P3 _ ?_, hrun, hended, _, _, rfl, ?_, ⟨_, rfl⟩, hW, hsame.mono (by decide) (by decide)⟩
    · exact X0.lreturnOut hx Bd.returns (hb hby d2_11) hr
    · show Q2 Z q0 h0 n0 _ s₁.heap _
      rw [e0]
      exact ⟨congrArg (fun z => some (Value.long z)) (show (F2 q0) = _ from ((if_pos c2).trans rfl)).symm, N0, rfl⟩
  · skip
    have P4 : ∀ t, Steps p.tables e below (s₁.setTop (mkF m 17 #[.val (.long q0), .second] [(.int (XT.cmpL q0 (-9223372036854 : Int64)))])) t → Steps p.tables e below (s₁.setTop (entryFrame m #[(.long q0)] 2)) t := by
      intro t kk
      refine P1 _ ?_
      show Steps p.tables e below (s₁.setTop (mkF m 5 #[.val (.long q0), .second] [(.int (XT.cmpL q0 (9223372036854 : Int64)))])) _
      refine XS.ifYes X0.here hx rfl (pc0 := 5) (pc' := 12) rfl (hb hby d2_5) rfl (XT.ll_le_t c2) (by decide) (by decide) ?_
      show Steps p.tables e below (s₁.setTop (mkF m 12 #[.val (.long q0), .second] [])) _
      refine XS.lloadN X0.here hx rfl (hb hby d2_12) rfl ?_
      show Steps p.tables e below (s₁.setTop (mkF m 13 #[.val (.long q0), .second] [(.long q0)])) _
      refine X0.ldc2Long hx hown (mvT hZ (hw _ (List.mem_of_getElem? (i := 14) rfl))) (g := (mkF m 13 #[.val (.long q0), .second] [(.long q0)])) rfl (hb hby d2_13) _ ?_
      show Steps p.tables e below (s₁.setTop (mkF m 16 #[.val (.long q0), .second] [(.long (-9223372036854 : Int64)), (.long q0)])) _
      refine XT.lcmp X0.here hx rfl (hb hby d2_16) rfl ?_
      show Steps p.tables e below (s₁.setTop (mkF m 17 #[.val (.long q0), .second] [(.int (XT.cmpL q0 (-9223372036854 : Int64)))])) _
      exact kk
    by_cases c5 : q0 < (-9223372036854 : Int64)
    · skip
      have P6 : ∀ t, Steps p.tables e below (s₁.setTop (mkF m 23 #[.val (.long q0), .second] [(.long (-9223372036854775808 : Int64))])) t → Steps p.tables e below (s₁.setTop (entryFrame m #[(.long q0)] 2)) t := by
        intro t kk
        refine P4 _ ?_
        show Steps p.tables e below (s₁.setTop (mkF m 17 #[.val (.long q0), .second] [(.int (XT.cmpL q0 (-9223372036854 : Int64)))])) _
        refine XS.ifNo X0.here hx rfl (hb hby d2_17) rfl (XT.ll_ge_f c5) ?_
        show Steps p.tables e below (s₁.setTop (mkF m 20 #[.val (.long q0), .second] [])) _
        refine X0.ldc2Long hx hown (mvT hZ (hw _ (List.mem_of_getElem? (i := 15) rfl))) (g := (mkF m 20 #[.val (.long q0), .second] [])) rfl (hb hby d2_20) _ ?_
        show Steps p.tables e below (s₁.setTop (mkF m 23 #[.val (.long q0), .second] [(.long (-9223372036854775808 : Int64))])) _
        exact kk
      obtain ⟨fs, hr, hrun, hended, hW, hsame⟩ := X0.leave (v := some (.long (-9223372036854775808 : Int64))) (fun h => by rw [Bd.returns] at h; cases h)
      refine ⟨_, _, P6 _ ?_, hrun, hended, _, _, rfl, ?_, ⟨_, rfl⟩, hW, hsame.mono (by decide) (by decide)⟩
      · exact X0.lreturnOut hx Bd.returns (hb hby d2_23) hr
      · show Q2 Z q0 h0 n0 _ s₁.heap _
        rw [e0]
        exact ⟨congrArg (fun z => some (Value.long z)) (show (F2 q0) = _ from ((if_neg c2).trans ((if_pos c5).trans rfl))).symm, N0, rfl⟩
    · skip
      have P7 : ∀ t, Steps p.tables e below (s₁.setTop (mkF m 29 #[.val (.long q0), .second] [(.long (q0 * (1000000 : Int64)))])) t → Steps p.tables e below (s₁.setTop (entryFrame m #[(.long q0)] 2)) t := by
        intro t kk
        refine P4 _ ?_
        show Steps p.tables e below (s₁.setTop (mkF m 17 #[.val (.long q0), .second] [(.int (XT.cmpL q0 (-9223372036854 : Int64)))])) _
        refine XS.ifYes X0.here hx rfl (pc0 := 17) (pc' := 24) rfl (hb hby d2_17) rfl (XT.ll_ge_t c5) (by decide) (by decide) ?_
        show Steps p.tables e below (s₁.setTop (mkF m 24 #[.val (.long q0), .second] [])) _
        refine XS.lloadN X0.here hx rfl (hb hby d2_24) rfl ?_
        show Steps p.tables e below (s₁.setTop (mkF m 25 #[.val (.long q0), .second] [(.long q0)])) _
        refine X0.ldc2Long hx hown (mvT hZ (hw _ (List.mem_of_getElem? (i := 16) rfl))) (g := (mkF m 25 #[.val (.long q0), .second] [(.long q0)])) rfl (hb hby d2_25) _ ?_
        show Steps p.tables e below (s₁.setTop (mkF m 28 #[.val (.long q0), .second] [(.long (1000000 : Int64)), (.long q0)])) _
        refine XS.lmul X0.here hx rfl (hb hby d2_28) rfl ?_
        show Steps p.tables e below (s₁.setTop (mkF m 29 #[.val (.long q0), .second] [(.long (q0 * (1000000 : Int64)))])) _
        exact kk
      obtain ⟨fs, hr, hrun, hended, hW, hsame⟩ := X0.leave (v := some (.long (q0 * (1000000 : Int64)))) (fun h => by rw [Bd.returns] at h; cases h)
      refine ⟨_, _, P7 _ ?_, hrun, hended, _, _, rfl, ?_, ⟨_, rfl⟩, hW, hsame.mono (by decide) (by decide)⟩
      · exact X0.lreturnOut hx Bd.returns (hb hby d2_29) hr
      · show Q2 Z q0 h0 n0 _ s₁.heap _
        rw [e0]
        exact ⟨congrArg (fun z => some (Value.long z)) (show (F2 q0) = _ from ((if_neg c2).trans ((if_neg c5).trans rfl))).symm, N0, rfl⟩
theorem own_core (m : Int64) : F2 m = (if (if ((m * (1000000 : Int64)) / (1000000 : Int64)) = m then (1 : Int32) else (0 : Int32)) = (0 : Int32) then (if (0 : Int64) < m then (9223372036854775807 : Int64) else (-9223372036854775808 : Int64)) else (m * (1000000 : Int64))) := by
  have h1 := c_lmul m 1000000
  have hk : (1000000 : Int64).toInt = 1000000 := by decide
  rw [hk] at h1
  have h2 := c_ldiv (m * 1000000) 1000000 1000000 hk (by decide)
  have r1 := rng64 m
  have r2 := rng64 (m * 1000000)
  have l1 : (9223372036854 : Int64).toInt = 9223372036854 := by decide
  have l2 : (-9223372036854 : Int64).toInt = -9223372036854 := by decide
  have l0 : (0 : Int64).toInt = 0 := by decide
  have n10 : ¬ (1 : Int32) = (0 : Int32) := by decide
  unfold F2
  by_cases a1 : (9223372036854 : Int64) < m
  · have a1' := Int64.lt_iff_toInt_lt.mp a1
    rw [l1] at a1'
    have q1 : ¬ (m * (1000000 : Int64)) / (1000000 : Int64) = m := fun h => by
      have h' := congrArg Int64.toInt h
      omega
    have q2 : (0 : Int64) < m := by rw [Int64.lt_iff_toInt_lt, l0]; omega
    rw [if_pos a1, if_neg q1, if_pos rfl, if_pos q2]
  · rw [if_neg a1]
    rw [Int64.lt_iff_toInt_lt, l1] at a1
    by_cases a2 : m < (-9223372036854 : Int64)
    · have a2' := Int64.lt_iff_toInt_lt.mp a2
      rw [l2] at a2'
      have q1 : ¬ (m * (1000000 : Int64)) / (1000000 : Int64) = m := fun h => by
        have h' := congrArg Int64.toInt h
        omega
      have q2 : ¬ (0 : Int64) < m := by rw [Int64.lt_iff_toInt_lt, l0]; omega
      rw [if_pos a2, if_neg q1, if_pos rfl, if_neg q2]
    · rw [if_neg a2]
      rw [Int64.lt_iff_toInt_lt, l2] at a2
      have q1 : (m * (1000000 : Int64)) / (1000000 : Int64) = m := by
        rw [← Int64.toInt_inj]
        omega
      rw [if_pos q1, if_neg n10]
theorem own_plain0 (p0 : Int64) (p1 : Int32) (i3 : Int32) (h_i3 : i3 = (if (((F1 p0 p1) * (1000000 : Int64)) / (1000000 : Int64)) = (F1 p0 p1) then (1 : Int32) else (0 : Int32))) (j7 : Int64) (h_j7 : j7 = (if i3 = (0 : Int32) then (if (0 : Int64) < (F1 p0 p1) then (9223372036854775807 : Int64) else (-9223372036854775808 : Int64)) else ((F1 p0 p1) * (1000000 : Int64)))) (i14 : Int32) (h_i14 : i14 = (if (F2 (F1 p0 p1)) = j7 then (1 : Int32) else (0 : Int32)))  : i14 = (1 : Int32) := by
  subst h_i3 h_j7
  rw [h_i14, if_pos (own_core _)]
theorem ef_0 (m : MethodId) (x0 : Int64) (x1 : Int32) : entryFrame m #[(.long x0), (.int x1)] maxLocals = (mkF m 0 #[.val (.long x0), .second, .val (.int x1), .unset, .unset, .unset, .unset, .unset, .unset, .unset] []) := by first | (simp [entryFrame, mkF, argsToLocals, Value.category, maxLocals]; done) | rfl
def Q0 (Z : State) (h0 : Heap) (n0 : Nat) (v : Option Value) (h : Heap) (L : List Loc) : Prop := v = some (.int (1 : Int32)) ∧ Fr n0 L
set_option maxRecDepth 65536 in
set_option maxHeartbeats 400000000 in
theorem rm0 (l : Launch) (Z : State) (a0 : Array Value) (hw : ∀ d ∈ tables_1, d.before a0 Z = true) (ws : List Jvm.Cond) (p0 : Int64) (p1 : Int32) (h0 : Heap) (n0 : Nat) (Z0 : n0 ≤ h0.size)  :
    MetFree l x (head1 (Jvm.Cond.code x code maxLocals ret :: ws) room_1) (fun a U => a = #[(.long p0), (.int p1)] ∧ Z.Warmed39 U.vm ∧ U.heap = h0) (fun _ _ _ _ _ => True) (fun _ U o U' => ∃ v L, o = .returned v ∧ Q0 Z h0 n0 v U'.heap L ∧ FrameEnd U o U' L room_1.cells room_1.slots) := by
  refine MetFree.of_bodySF (plainFor_of_name pn_0) hisR ?_
  intro p e s m args below meth c s₁ Bd hml0 hP hK
  obtain ⟨rfl, hZ, hh⟩ := hP
  have hx := Bd.exec
  have hby := Bd.bytes
  have hml : c.maxLocals = 10 := hml0
  have hown : s.vm.findClass "com/example/quernloop/quernloop/SystemClockToNanosPinLaw" = some m.cls := findClass_of_methodNamed Bd.named
  have hnm := (name_of_methodNamed Bd.named Bd.method).1
  have X0 : Stand p l e room_1 s m #[(.long p0), (.int p1)] below meth c s₁ [] 0 0 := Stand.of_body Bd
  have e0 : s₁.heap = h0 := by rw [← hh, Bd.state]; rfl
  have N0 := Fr.nil n0
  have pre0 : ∀ t, Steps p.tables e below (s₁.setTop (mkF m 0 #[.val (.long p0), .second, .val (.int p1), .unset, .unset, .unset, .unset, .unset, .unset, .unset] [])) t → Steps p.tables e below (s₁.setTop (entryFrame m #[(.long p0), (.int p1)] maxLocals)) t := fun t k => castTop (ef_0 m p0 p1) k
  obtain ⟨_, _, ⟨T1, L1, k1, n1⟩, -, X1, ⟨Lc1, hQ1, l1, y1, z1⟩, st1⟩ := Jvm.LawKit.callS X0 hx (y := (⟨"com/example/quernloop/quernloop/SystemClockToNanosPinLaw", "pick", "(JI)J"⟩ : MethodName)) hown (mvT hZ (hw _ (List.mem_of_getElem? (i := 0) rfl))) (mvT hZ (hw _ (List.mem_of_getElem? (i := 1) rfl))) (mvT hZ (hw _ (List.mem_of_getElem? (i := 2) rfl))) (mvT hZ (hw _ (List.mem_of_getElem? (i := 3) rfl))) (by decide) (backOf (W := 0) (rm1 l Z a0 hw [] p0 p1 h0 n0 Z0 ) hZ (hw _ (List.mem_of_getElem? (i := 3) rfl)) (hw _ (List.mem_of_getElem? (i := 2) rfl)) (by decide) (by decide)) (g := (mkF m 2 #[.val (.long p0), .second, .val (.int p1), .unset, .unset, .unset, .unset, .unset, .unset, .unset] [(.int p1), (.long p0)])) rfl (by rw [hml]; rfl) (argsL := [(.long p0), (.int p1)]) (rest := []) (lenOf pd_0 rfl) rfl (by show 2 * 0 + _ ≤ _; exact Nat.le_of_eq rfl) (hb hby at_2) (fun _ _ => ⟨rfl, e0, (by decide : 0 + 0 ≤ _), (by decide : 0 + 0 ≤ _)⟩)
  dsimp only [Pt.U, Pt.locs, Pt.cells, Pt.slots] at X1 l1 y1 z1 st1 hQ1
  subst l1 y1 z1
  obtain ⟨rfl, Nq1, e1⟩ := hQ1
  have N1 := Fr.app N0 Nq1
  have P2 : ∀ t, Steps p.tables e below (T1.setTop (mkF m 21 #[.val (.long p0), .second, .val (.int p1), .val (.long (F1 p0 p1)), .second, .val (.long ((F1 p0 p1) * (1000000 : Int64))), .second, .unset, .unset, .unset] [(.int (XT.cmpL (((F1 p0 p1) * (1000000 : Int64)) / (1000000 : Int64)) (F1 p0 p1)))])) t → Steps p.tables e below (s₁.setTop (entryFrame m #[(.long p0), (.int p1)] maxLocals)) t := by
    intro t kk
    refine pre0 _ ?_
    show Steps p.tables e below (s₁.setTop (mkF m 0 #[.val (.long p0), .second, .val (.int p1), .unset, .unset, .unset, .unset, .unset, .unset, .unset] [])) _
    refine XS.lloadN X0.here hx rfl (hb hby at_0) rfl ?_
    show Steps p.tables e below (s₁.setTop (mkF m 1 #[.val (.long p0), .second, .val (.int p1), .unset, .unset, .unset, .unset, .unset, .unset, .unset] [(.long p0)])) _
    refine XS.iloadN X0.here hx rfl (hb hby at_1) rfl ?_
    show Steps p.tables e below (s₁.setTop (mkF m 2 #[.val (.long p0), .second, .val (.int p1), .unset, .unset, .unset, .unset, .unset, .unset, .unset] [(.int p1), (.long p0)])) _
    refine st1 _ ?_
    show Steps p.tables e below (T1.setTop (mkF m 5 #[.val (.long p0), .second, .val (.int p1), .unset, .unset, .unset, .unset, .unset, .unset, .unset] [(.long (F1 p0 p1))])) _
    refine XS.lstoreN X1.here hx rfl (hb hby at_5) rfl (l' := #[.val (.long p0), .second, .val (.int p1), .val (.long (F1 p0 p1)), .second, .unset, .unset, .unset, .unset, .unset]) rfl ?_
    show Steps p.tables e below (T1.setTop (mkF m 6 #[.val (.long p0), .second, .val (.int p1), .val (.long (F1 p0 p1)), .second, .unset, .unset, .unset, .unset, .unset] [])) _
    refine XS.lloadN X1.here hx rfl (hb hby at_6) rfl ?_
    show Steps p.tables e below (T1.setTop (mkF m 7 #[.val (.long p0), .second, .val (.int p1), .val (.long (F1 p0 p1)), .second, .unset, .unset, .unset, .unset, .unset] [(.long (F1 p0 p1))])) _
    refine X1.ldc2Long hx hown (mvT hZ (hw _ (List.mem_of_getElem? (i := 7) rfl))) (g := (mkF m 7 #[.val (.long p0), .second, .val (.int p1), .val (.long (F1 p0 p1)), .second, .unset, .unset, .unset, .unset, .unset] [(.long (F1 p0 p1))])) rfl (hb hby at_7) _ ?_
    show Steps p.tables e below (T1.setTop (mkF m 10 #[.val (.long p0), .second, .val (.int p1), .val (.long (F1 p0 p1)), .second, .unset, .unset, .unset, .unset, .unset] [(.long (1000000 : Int64)), (.long (F1 p0 p1))])) _
    refine XS.lmul X1.here hx rfl (hb hby at_10) rfl ?_
    show Steps p.tables e below (T1.setTop (mkF m 11 #[.val (.long p0), .second, .val (.int p1), .val (.long (F1 p0 p1)), .second, .unset, .unset, .unset, .unset, .unset] [(.long ((F1 p0 p1) * (1000000 : Int64)))])) _
    refine XS.lstore X1.here hx rfl (hb hby at_11) rfl (l' := #[.val (.long p0), .second, .val (.int p1), .val (.long (F1 p0 p1)), .second, .val (.long ((F1 p0 p1) * (1000000 : Int64))), .second, .unset, .unset, .unset]) rfl ?_
    show Steps p.tables e below (T1.setTop (mkF m 13 #[.val (.long p0), .second, .val (.int p1), .val (.long (F1 p0 p1)), .second, .val (.long ((F1 p0 p1) * (1000000 : Int64))), .second, .unset, .unset, .unset] [])) _
    refine XS.lload X1.here hx rfl (hb hby at_13) rfl ?_
    show Steps p.tables e below (T1.setTop (mkF m 15 #[.val (.long p0), .second, .val (.int p1), .val (.long (F1 p0 p1)), .second, .val (.long ((F1 p0 p1) * (1000000 : Int64))), .second, .unset, .unset, .unset] [(.long ((F1 p0 p1) * (1000000 : Int64)))])) _
    refine X1.ldc2Long hx hown (mvT hZ (hw _ (List.mem_of_getElem? (i := 7) rfl))) (g := (mkF m 15 #[.val (.long p0), .second, .val (.int p1), .val (.long (F1 p0 p1)), .second, .val (.long ((F1 p0 p1) * (1000000 : Int64))), .second, .unset, .unset, .unset] [(.long ((F1 p0 p1) * (1000000 : Int64)))])) rfl (hb hby at_15) _ ?_
    show Steps p.tables e below (T1.setTop (mkF m 18 #[.val (.long p0), .second, .val (.int p1), .val (.long (F1 p0 p1)), .second, .val (.long ((F1 p0 p1) * (1000000 : Int64))), .second, .unset, .unset, .unset] [(.long (1000000 : Int64)), (.long ((F1 p0 p1) * (1000000 : Int64)))])) _
    refine XS.ldiv X1.here hx rfl (hb hby at_18) rfl (by decide) ?_
    show Steps p.tables e below (T1.setTop (mkF m 19 #[.val (.long p0), .second, .val (.int p1), .val (.long (F1 p0 p1)), .second, .val (.long ((F1 p0 p1) * (1000000 : Int64))), .second, .unset, .unset, .unset] [(.long (((F1 p0 p1) * (1000000 : Int64)) / (1000000 : Int64)))])) _
    refine XS.lloadN X1.here hx rfl (hb hby at_19) rfl ?_
    show Steps p.tables e below (T1.setTop (mkF m 20 #[.val (.long p0), .second, .val (.int p1), .val (.long (F1 p0 p1)), .second, .val (.long ((F1 p0 p1) * (1000000 : Int64))), .second, .unset, .unset, .unset] [(.long (F1 p0 p1)), (.long (((F1 p0 p1) * (1000000 : Int64)) / (1000000 : Int64)))])) _
    refine XT.lcmp X1.here hx rfl (hb hby at_20) rfl ?_
    show Steps p.tables e below (T1.setTop (mkF m 21 #[.val (.long p0), .second, .val (.int p1), .val (.long (F1 p0 p1)), .second, .val (.long ((F1 p0 p1) * (1000000 : Int64))), .second, .unset, .unset, .unset] [(.int (XT.cmpL (((F1 p0 p1) * (1000000 : Int64)) / (1000000 : Int64)) (F1 p0 p1)))])) _
    exact kk
  obtain ⟨i3, h_i3, P4⟩ : ∃ (i3 : Int32), i3 = (if (((F1 p0 p1) * (1000000 : Int64)) / (1000000 : Int64)) = (F1 p0 p1) then (1 : Int32) else (0 : Int32)) ∧ ∀ t, Steps p.tables e below (T1.setTop (mkF m 29 #[.val (.long p0), .second, .val (.int p1), .val (.long (F1 p0 p1)), .second, .val (.long ((F1 p0 p1) * (1000000 : Int64))), .second, .unset, .unset, .unset] [(.int i3)])) t → Steps p.tables e below (s₁.setTop (entryFrame m #[(.long p0), (.int p1)] maxLocals)) t := by
    by_cases c5 : (((F1 p0 p1) * (1000000 : Int64)) / (1000000 : Int64)) = (F1 p0 p1)
    · skip
      refine ⟨(1 : Int32), ((if_pos c5).trans rfl).symm, fun t kk => P2 t ?_⟩
      show Steps p.tables e below (T1.setTop (mkF m 21 #[.val (.long p0), .second, .val (.int p1), .val (.long (F1 p0 p1)), .second, .val (.long ((F1 p0 p1) * (1000000 : Int64))), .second, .unset, .unset, .unset] [(.int (XT.cmpL (((F1 p0 p1) * (1000000 : Int64)) / (1000000 : Int64)) (F1 p0 p1)))])) _
      refine XS.ifNo X1.here hx rfl (hb hby at_21) rfl (XT.ll_ne_f c5) ?_
      show Steps p.tables e below (T1.setTop (mkF m 24 #[.val (.long p0), .second, .val (.int p1), .val (.long (F1 p0 p1)), .second, .val (.long ((F1 p0 p1) * (1000000 : Int64))), .second, .unset, .unset, .unset] [])) _
      refine XS.iconst X1.here hx rfl (hb hby at_24) ?_
      show Steps p.tables e below (T1.setTop (mkF m 25 #[.val (.long p0), .second, .val (.int p1), .val (.long (F1 p0 p1)), .second, .val (.long ((F1 p0 p1) * (1000000 : Int64))), .second, .unset, .unset, .unset] [(.int (1 : Int32))])) _
      refine XS.goto X1.here hx rfl (pc0 := 25) (pc' := 29) rfl (hb hby at_25) (by decide) (by decide) ?_
      show Steps p.tables e below (T1.setTop (mkF m 29 #[.val (.long p0), .second, .val (.int p1), .val (.long (F1 p0 p1)), .second, .val (.long ((F1 p0 p1) * (1000000 : Int64))), .second, .unset, .unset, .unset] [(.int (1 : Int32))])) _
      exact kk
    · skip
      refine ⟨(0 : Int32), ((if_neg c5).trans rfl).symm, fun t kk => P2 t ?_⟩
      show Steps p.tables e below (T1.setTop (mkF m 21 #[.val (.long p0), .second, .val (.int p1), .val (.long (F1 p0 p1)), .second, .val (.long ((F1 p0 p1) * (1000000 : Int64))), .second, .unset, .unset, .unset] [(.int (XT.cmpL (((F1 p0 p1) * (1000000 : Int64)) / (1000000 : Int64)) (F1 p0 p1)))])) _
      refine XS.ifYes X1.here hx rfl (pc0 := 21) (pc' := 28) rfl (hb hby at_21) rfl (XT.ll_ne_t c5) (by decide) (by decide) ?_
      show Steps p.tables e below (T1.setTop (mkF m 28 #[.val (.long p0), .second, .val (.int p1), .val (.long (F1 p0 p1)), .second, .val (.long ((F1 p0 p1) * (1000000 : Int64))), .second, .unset, .unset, .unset] [])) _
      refine XS.iconst X1.here hx rfl (hb hby at_28) ?_
      show Steps p.tables e below (T1.setTop (mkF m 29 #[.val (.long p0), .second, .val (.int p1), .val (.long (F1 p0 p1)), .second, .val (.long ((F1 p0 p1) * (1000000 : Int64))), .second, .unset, .unset, .unset] [(.int (0 : Int32))])) _
      exact kk
  have P6 : ∀ t, Steps p.tables e below (T1.setTop (mkF m 33 #[.val (.long p0), .second, .val (.int p1), .val (.long (F1 p0 p1)), .second, .val (.long ((F1 p0 p1) * (1000000 : Int64))), .second, .val (.int i3), .unset, .unset] [(.int i3)])) t → Steps p.tables e below (s₁.setTop (entryFrame m #[(.long p0), (.int p1)] maxLocals)) t := by
    intro t kk
    refine P4 _ ?_
    show Steps p.tables e below (T1.setTop (mkF m 29 #[.val (.long p0), .second, .val (.int p1), .val (.long (F1 p0 p1)), .second, .val (.long ((F1 p0 p1) * (1000000 : Int64))), .second, .unset, .unset, .unset] [(.int i3)])) _
    refine XS.istore X1.here hx rfl (hb hby at_29) rfl (l' := #[.val (.long p0), .second, .val (.int p1), .val (.long (F1 p0 p1)), .second, .val (.long ((F1 p0 p1) * (1000000 : Int64))), .second, .val (.int i3), .unset, .unset]) rfl ?_
    show Steps p.tables e below (T1.setTop (mkF m 31 #[.val (.long p0), .second, .val (.int p1), .val (.long (F1 p0 p1)), .second, .val (.long ((F1 p0 p1) * (1000000 : Int64))), .second, .val (.int i3), .unset, .unset] [])) _
    refine XS.iload X1.here hx rfl (hb hby at_31) rfl ?_
    show Steps p.tables e below (T1.setTop (mkF m 33 #[.val (.long p0), .second, .val (.int p1), .val (.long (F1 p0 p1)), .second, .val (.long ((F1 p0 p1) * (1000000 : Int64))), .second, .val (.int i3), .unset, .unset] [(.int i3)])) _
    exact kk
  obtain ⟨j7, h_j7, P8⟩ : ∃ (j7 : Int64), j7 = (if i3 = (0 : Int32) then (if (0 : Int64) < (F1 p0 p1) then (9223372036854775807 : Int64) else (-9223372036854775808 : Int64)) else ((F1 p0 p1) * (1000000 : Int64))) ∧ ∀ t, Steps p.tables e below (T1.setTop (mkF m 62 #[.val (.long p0), .second, .val (.int p1), .val (.long (F1 p0 p1)), .second, .val (.long ((F1 p0 p1) * (1000000 : Int64))), .second, .val (.int i3), .val (.long j7), .second] [])) t → Steps p.tables e below (s₁.setTop (entryFrame m #[(.long p0), (.int p1)] maxLocals)) t := by
    by_cases c9 : i3 = (0 : Int32)
    · skip
      have P10 : ∀ t, Steps p.tables e below (T1.setTop (mkF m 46 #[.val (.long p0), .second, .val (.int p1), .val (.long (F1 p0 p1)), .second, .val (.long ((F1 p0 p1) * (1000000 : Int64))), .second, .val (.int i3), .unset, .unset] [(.int (XT.cmpL (F1 p0 p1) (0 : Int64)))])) t → Steps p.tables e below (s₁.setTop (entryFrame m #[(.long p0), (.int p1)] maxLocals)) t := by
        intro t kk
        refine P6 _ ?_
        show Steps p.tables e below (T1.setTop (mkF m 33 #[.val (.long p0), .second, .val (.int p1), .val (.long (F1 p0 p1)), .second, .val (.long ((F1 p0 p1) * (1000000 : Int64))), .second, .val (.int i3), .unset, .unset] [(.int i3)])) _
        refine XS.ifYes X1.here hx rfl (pc0 := 33) (pc' := 43) rfl (hb hby at_33) rfl (XT.i0_eq_t c9) (by decide) (by decide) ?_
        show Steps p.tables e below (T1.setTop (mkF m 43 #[.val (.long p0), .second, .val (.int p1), .val (.long (F1 p0 p1)), .second, .val (.long ((F1 p0 p1) * (1000000 : Int64))), .second, .val (.int i3), .unset, .unset] [])) _
        refine XS.lloadN X1.here hx rfl (hb hby at_43) rfl ?_
        show Steps p.tables e below (T1.setTop (mkF m 44 #[.val (.long p0), .second, .val (.int p1), .val (.long (F1 p0 p1)), .second, .val (.long ((F1 p0 p1) * (1000000 : Int64))), .second, .val (.int i3), .unset, .unset] [(.long (F1 p0 p1))])) _
        refine XS.lconst X1.here hx rfl (hb hby at_44) ?_
        show Steps p.tables e below (T1.setTop (mkF m 45 #[.val (.long p0), .second, .val (.int p1), .val (.long (F1 p0 p1)), .second, .val (.long ((F1 p0 p1) * (1000000 : Int64))), .second, .val (.int i3), .unset, .unset] [(.long (0 : Int64)), (.long (F1 p0 p1))])) _
        refine XT.lcmp X1.here hx rfl (hb hby at_45) rfl ?_
        show Steps p.tables e below (T1.setTop (mkF m 46 #[.val (.long p0), .second, .val (.int p1), .val (.long (F1 p0 p1)), .second, .val (.long ((F1 p0 p1) * (1000000 : Int64))), .second, .val (.int i3), .unset, .unset] [(.int (XT.cmpL (F1 p0 p1) (0 : Int64)))])) _
        exact kk
      by_cases c11 : (0 : Int64) < (F1 p0 p1)
      · skip
        refine ⟨(9223372036854775807 : Int64), ((if_pos c9).trans ((if_pos c11).trans rfl)).symm, fun t kk => P10 t ?_⟩
        show Steps p.tables e below (T1.setTop (mkF m 46 #[.val (.long p0), .second, .val (.int p1), .val (.long (F1 p0 p1)), .second, .val (.long ((F1 p0 p1) * (1000000 : Int64))), .second, .val (.int i3), .unset, .unset] [(.int (XT.cmpL (F1 p0 p1) (0 : Int64)))])) _
        refine XS.ifNo X1.here hx rfl (hb hby at_46) rfl (XT.ll_le_f c11) ?_
        show Steps p.tables e below (T1.setTop (mkF m 49 #[.val (.long p0), .second, .val (.int p1), .val (.long (F1 p0 p1)), .second, .val (.long ((F1 p0 p1) * (1000000 : Int64))), .second, .val (.int i3), .unset, .unset] [])) _
        refine X1.ldc2Long hx hown (mvT hZ (hw _ (List.mem_of_getElem? (i := 18) rfl))) (g := (mkF m 49 #[.val (.long p0), .second, .val (.int p1), .val (.long (F1 p0 p1)), .second, .val (.long ((F1 p0 p1) * (1000000 : Int64))), .second, .val (.int i3), .unset, .unset] [])) rfl (hb hby at_49) _ ?_
        show Steps p.tables e below (T1.setTop (mkF m 52 #[.val (.long p0), .second, .val (.int p1), .val (.long (F1 p0 p1)), .second, .val (.long ((F1 p0 p1) * (1000000 : Int64))), .second, .val (.int i3), .unset, .unset] [(.long (9223372036854775807 : Int64))])) _
        refine XS.lstore X1.here hx rfl (hb hby at_52) rfl (l' := #[.val (.long p0), .second, .val (.int p1), .val (.long (F1 p0 p1)), .second, .val (.long ((F1 p0 p1) * (1000000 : Int64))), .second, .val (.int i3), .val (.long (9223372036854775807 : Int64)), .second]) rfl ?_
        show Steps p.tables e below (T1.setTop (mkF m 54 #[.val (.long p0), .second, .val (.int p1), .val (.long (F1 p0 p1)), .second, .val (.long ((F1 p0 p1) * (1000000 : Int64))), .second, .val (.int i3), .val (.long (9223372036854775807 : Int64)), .second] [])) _
        refine XS.goto X1.here hx rfl (pc0 := 54) (pc' := 62) rfl (hb hby at_54) (by decide) (by decide) ?_
        show Steps p.tables e below (T1.setTop (mkF m 62 #[.val (.long p0), .second, .val (.int p1), .val (.long (F1 p0 p1)), .second, .val (.long ((F1 p0 p1) * (1000000 : Int64))), .second, .val (.int i3), .val (.long (9223372036854775807 : Int64)), .second] [])) _
        exact kk
      · skip
        refine ⟨(-9223372036854775808 : Int64), ((if_pos c9).trans ((if_neg c11).trans rfl)).symm, fun t kk => P10 t ?_⟩
        show Steps p.tables e below (T1.setTop (mkF m 46 #[.val (.long p0), .second, .val (.int p1), .val (.long (F1 p0 p1)), .second, .val (.long ((F1 p0 p1) * (1000000 : Int64))), .second, .val (.int i3), .unset, .unset] [(.int (XT.cmpL (F1 p0 p1) (0 : Int64)))])) _
        refine XS.ifYes X1.here hx rfl (pc0 := 46) (pc' := 57) rfl (hb hby at_46) rfl (XT.ll_le_t c11) (by decide) (by decide) ?_
        show Steps p.tables e below (T1.setTop (mkF m 57 #[.val (.long p0), .second, .val (.int p1), .val (.long (F1 p0 p1)), .second, .val (.long ((F1 p0 p1) * (1000000 : Int64))), .second, .val (.int i3), .unset, .unset] [])) _
        refine X1.ldc2Long hx hown (mvT hZ (hw _ (List.mem_of_getElem? (i := 8) rfl))) (g := (mkF m 57 #[.val (.long p0), .second, .val (.int p1), .val (.long (F1 p0 p1)), .second, .val (.long ((F1 p0 p1) * (1000000 : Int64))), .second, .val (.int i3), .unset, .unset] [])) rfl (hb hby at_57) _ ?_
        show Steps p.tables e below (T1.setTop (mkF m 60 #[.val (.long p0), .second, .val (.int p1), .val (.long (F1 p0 p1)), .second, .val (.long ((F1 p0 p1) * (1000000 : Int64))), .second, .val (.int i3), .unset, .unset] [(.long (-9223372036854775808 : Int64))])) _
        refine XS.lstore X1.here hx rfl (hb hby at_60) rfl (l' := #[.val (.long p0), .second, .val (.int p1), .val (.long (F1 p0 p1)), .second, .val (.long ((F1 p0 p1) * (1000000 : Int64))), .second, .val (.int i3), .val (.long (-9223372036854775808 : Int64)), .second]) rfl ?_
        show Steps p.tables e below (T1.setTop (mkF m 62 #[.val (.long p0), .second, .val (.int p1), .val (.long (F1 p0 p1)), .second, .val (.long ((F1 p0 p1) * (1000000 : Int64))), .second, .val (.int i3), .val (.long (-9223372036854775808 : Int64)), .second] [])) _
        exact kk
    · skip
      refine ⟨((F1 p0 p1) * (1000000 : Int64)), ((if_neg c9).trans rfl).symm, fun t kk => P6 t ?_⟩
      show Steps p.tables e below (T1.setTop (mkF m 33 #[.val (.long p0), .second, .val (.int p1), .val (.long (F1 p0 p1)), .second, .val (.long ((F1 p0 p1) * (1000000 : Int64))), .second, .val (.int i3), .unset, .unset] [(.int i3)])) _
      refine XS.ifNo X1.here hx rfl (hb hby at_33) rfl (XT.i0_eq_f c9) ?_
      show Steps p.tables e below (T1.setTop (mkF m 36 #[.val (.long p0), .second, .val (.int p1), .val (.long (F1 p0 p1)), .second, .val (.long ((F1 p0 p1) * (1000000 : Int64))), .second, .val (.int i3), .unset, .unset] [])) _
      refine XS.lload X1.here hx rfl (hb hby at_36) rfl ?_
      show Steps p.tables e below (T1.setTop (mkF m 38 #[.val (.long p0), .second, .val (.int p1), .val (.long (F1 p0 p1)), .second, .val (.long ((F1 p0 p1) * (1000000 : Int64))), .second, .val (.int i3), .unset, .unset] [(.long ((F1 p0 p1) * (1000000 : Int64)))])) _
      refine XS.lstore X1.here hx rfl (hb hby at_38) rfl (l' := #[.val (.long p0), .second, .val (.int p1), .val (.long (F1 p0 p1)), .second, .val (.long ((F1 p0 p1) * (1000000 : Int64))), .second, .val (.int i3), .val (.long ((F1 p0 p1) * (1000000 : Int64))), .second]) rfl ?_
      show Steps p.tables e below (T1.setTop (mkF m 40 #[.val (.long p0), .second, .val (.int p1), .val (.long (F1 p0 p1)), .second, .val (.long ((F1 p0 p1) * (1000000 : Int64))), .second, .val (.int i3), .val (.long ((F1 p0 p1) * (1000000 : Int64))), .second] [])) _
      refine XS.goto X1.here hx rfl (pc0 := 40) (pc' := 62) rfl (hb hby at_40) (by decide) (by decide) ?_
      show Steps p.tables e below (T1.setTop (mkF m 62 #[.val (.long p0), .second, .val (.int p1), .val (.long (F1 p0 p1)), .second, .val (.long ((F1 p0 p1) * (1000000 : Int64))), .second, .val (.int i3), .val (.long ((F1 p0 p1) * (1000000 : Int64))), .second] [])) _
      exact kk
  obtain ⟨_, _, ⟨T12, L12, k12, n12⟩, -, X12, ⟨Lc12, hQ12, l12, y12, z12⟩, st12⟩ := Jvm.LawKit.callS X1 hx (y := (⟨"com/example/quernloop/quernloop/SystemClock", "toNanos", "(J)J"⟩ : MethodName)) hown (mvT hZ (hw _ (List.mem_of_getElem? (i := 9) rfl))) (mvT hZ (hw _ (List.mem_of_getElem? (i := 10) rfl))) (mvT hZ (hw _ (List.mem_of_getElem? (i := 11) rfl))) (mvT hZ (hw _ (List.mem_of_getElem? (i := 12) rfl))) (by decide) (backOf (W := 0) (rm2 l Z a0 hw [] (F1 p0 p1) h0 n0 Z0 ) hZ (hw _ (List.mem_of_getElem? (i := 12) rfl)) (hw _ (List.mem_of_getElem? (i := 11) rfl)) (by decide) (by decide)) (g := (mkF m 63 #[.val (.long p0), .second, .val (.int p1), .val (.long (F1 p0 p1)), .second, .val (.long ((F1 p0 p1) * (1000000 : Int64))), .second, .val (.int i3), .val (.long j7), .second] [(.long (F1 p0 p1))])) rfl (by rw [hml]; rfl) (argsL := [(.long (F1 p0 p1))]) (rest := []) (lenOf pd_1 rfl) rfl (by show 2 * 0 + _ ≤ _; exact Nat.le_of_eq rfl) (hb hby at_63) (fun _ _ => ⟨rfl, e1, (by decide : 0 + 0 ≤ _), (by decide : 0 + 0 ≤ _)⟩)
  dsimp only [Pt.U, Pt.locs, Pt.cells, Pt.slots] at X12 l12 y12 z12 st12 hQ12
  subst l12 y12 z12
  obtain ⟨rfl, Nq12, e12⟩ := hQ12
  have N12 := Fr.app N1 Nq12
  have P13 : ∀ t, Steps p.tables e below (T12.setTop (mkF m 69 #[.val (.long p0), .second, .val (.int p1), .val (.long (F1 p0 p1)), .second, .val (.long ((F1 p0 p1) * (1000000 : Int64))), .second, .val (.int i3), .val (.long j7), .second] [(.int (XT.cmpL (F2 (F1 p0 p1)) j7))])) t → Steps p.tables e below (s₁.setTop (entryFrame m #[(.long p0), (.int p1)] maxLocals)) t := by
    intro t kk
    refine P8 _ ?_
    show Steps p.tables e below (T1.setTop (mkF m 62 #[.val (.long p0), .second, .val (.int p1), .val (.long (F1 p0 p1)), .second, .val (.long ((F1 p0 p1) * (1000000 : Int64))), .second, .val (.int i3), .val (.long j7), .second] [])) _
    refine XS.lloadN X1.here hx rfl (hb hby at_62) rfl ?_
    show Steps p.tables e below (T1.setTop (mkF m 63 #[.val (.long p0), .second, .val (.int p1), .val (.long (F1 p0 p1)), .second, .val (.long ((F1 p0 p1) * (1000000 : Int64))), .second, .val (.int i3), .val (.long j7), .second] [(.long (F1 p0 p1))])) _
    refine st12 _ ?_
    show Steps p.tables e below (T12.setTop (mkF m 66 #[.val (.long p0), .second, .val (.int p1), .val (.long (F1 p0 p1)), .second, .val (.long ((F1 p0 p1) * (1000000 : Int64))), .second, .val (.int i3), .val (.long j7), .second] [(.long (F2 (F1 p0 p1)))])) _
    refine XS.lload X12.here hx rfl (hb hby at_66) rfl ?_
    show Steps p.tables e below (T12.setTop (mkF m 68 #[.val (.long p0), .second, .val (.int p1), .val (.long (F1 p0 p1)), .second, .val (.long ((F1 p0 p1) * (1000000 : Int64))), .second, .val (.int i3), .val (.long j7), .second] [(.long j7), (.long (F2 (F1 p0 p1)))])) _
    refine XT.lcmp X12.here hx rfl (hb hby at_68) rfl ?_
    show Steps p.tables e below (T12.setTop (mkF m 69 #[.val (.long p0), .second, .val (.int p1), .val (.long (F1 p0 p1)), .second, .val (.long ((F1 p0 p1) * (1000000 : Int64))), .second, .val (.int i3), .val (.long j7), .second] [(.int (XT.cmpL (F2 (F1 p0 p1)) j7))])) _
    exact kk
  obtain ⟨i14, h_i14, P15⟩ : ∃ (i14 : Int32), i14 = (if (F2 (F1 p0 p1)) = j7 then (1 : Int32) else (0 : Int32)) ∧ ∀ t, Steps p.tables e below (T12.setTop (mkF m 77 #[.val (.long p0), .second, .val (.int p1), .val (.long (F1 p0 p1)), .second, .val (.long ((F1 p0 p1) * (1000000 : Int64))), .second, .val (.int i3), .val (.long j7), .second] [(.int i14)])) t → Steps p.tables e below (s₁.setTop (entryFrame m #[(.long p0), (.int p1)] maxLocals)) t := by
    by_cases c16 : (F2 (F1 p0 p1)) = j7
    · skip
      refine ⟨(1 : Int32), ((if_pos c16).trans rfl).symm, fun t kk => P13 t ?_⟩
      show Steps p.tables e below (T12.setTop (mkF m 69 #[.val (.long p0), .second, .val (.int p1), .val (.long (F1 p0 p1)), .second, .val (.long ((F1 p0 p1) * (1000000 : Int64))), .second, .val (.int i3), .val (.long j7), .second] [(.int (XT.cmpL (F2 (F1 p0 p1)) j7))])) _
      refine XS.ifNo X12.here hx rfl (hb hby at_69) rfl (XT.ll_ne_f c16) ?_
      show Steps p.tables e below (T12.setTop (mkF m 72 #[.val (.long p0), .second, .val (.int p1), .val (.long (F1 p0 p1)), .second, .val (.long ((F1 p0 p1) * (1000000 : Int64))), .second, .val (.int i3), .val (.long j7), .second] [])) _
      refine XS.iconst X12.here hx rfl (hb hby at_72) ?_
      show Steps p.tables e below (T12.setTop (mkF m 73 #[.val (.long p0), .second, .val (.int p1), .val (.long (F1 p0 p1)), .second, .val (.long ((F1 p0 p1) * (1000000 : Int64))), .second, .val (.int i3), .val (.long j7), .second] [(.int (1 : Int32))])) _
      refine XS.goto X12.here hx rfl (pc0 := 73) (pc' := 77) rfl (hb hby at_73) (by decide) (by decide) ?_
      show Steps p.tables e below (T12.setTop (mkF m 77 #[.val (.long p0), .second, .val (.int p1), .val (.long (F1 p0 p1)), .second, .val (.long ((F1 p0 p1) * (1000000 : Int64))), .second, .val (.int i3), .val (.long j7), .second] [(.int (1 : Int32))])) _
      exact kk
    · skip
      refine ⟨(0 : Int32), ((if_neg c16).trans rfl).symm, fun t kk => P13 t ?_⟩
      show Steps p.tables e below (T12.setTop (mkF m 69 #[.val (.long p0), .second, .val (.int p1), .val (.long (F1 p0 p1)), .second, .val (.long ((F1 p0 p1) * (1000000 : Int64))), .second, .val (.int i3), .val (.long j7), .second] [(.int (XT.cmpL (F2 (F1 p0 p1)) j7))])) _
      refine XS.ifYes X12.here hx rfl (pc0 := 69) (pc' := 76) rfl (hb hby at_69) rfl (XT.ll_ne_t c16) (by decide) (by decide) ?_
      show Steps p.tables e below (T12.setTop (mkF m 76 #[.val (.long p0), .second, .val (.int p1), .val (.long (F1 p0 p1)), .second, .val (.long ((F1 p0 p1) * (1000000 : Int64))), .second, .val (.int i3), .val (.long j7), .second] [])) _
      refine XS.iconst X12.here hx rfl (hb hby at_76) ?_
      show Steps p.tables e below (T12.setTop (mkF m 77 #[.val (.long p0), .second, .val (.int p1), .val (.long (F1 p0 p1)), .second, .val (.long ((F1 p0 p1) * (1000000 : Int64))), .second, .val (.int i3), .val (.long j7), .second] [(.int (0 : Int32))])) _
      exact kk
  have P17 : ∀ t, Steps p.tables e below (T12.setTop (mkF m 77 #[.val (.long p0), .second, .val (.int p1), .val (.long (F1 p0 p1)), .second, .val (.long ((F1 p0 p1) * (1000000 : Int64))), .second, .val (.int i3), .val (.long j7), .second] [(.int i14)])) t → Steps p.tables e below (s₁.setTop (entryFrame m #[(.long p0), (.int p1)] maxLocals)) t := by
    intro t kk
    refine P15 _ ?_
    show Steps p.tables e below (T12.setTop (mkF m 77 #[.val (.long p0), .second, .val (.int p1), .val (.long (F1 p0 p1)), .second, .val (.long ((F1 p0 p1) * (1000000 : Int64))), .second, .val (.int i3), .val (.long j7), .second] [(.int i14)])) _
    exact kk
  obtain rfl : i14 = (1 : Int32) := own_plain0 p0 p1 i3 h_i3 j7 h_j7 i14 h_i14 
  obtain ⟨fs, hr, hrun, hended, hW, hsame⟩ := X12.leave (v := some (.int (1 : Int32))) (fun h => by rw [Bd.returns] at h; cases h)
  refine ⟨_, _, P17 _ ?_, hrun, hended, _, _, rfl, ?_, ⟨_, rfl⟩, hW, hsame.mono (by decide) (by decide)⟩
  · exact retN X12 hx (t := .boolean) Bd.returns (by simp) (hb hby at_77) hr
  · exact ⟨rfl, N12⟩
set_option maxRecDepth 65536 in
set_option maxHeartbeats 40000000 in
theorem comes_1 {Post : Tables → Env → Array Value → State → Outcome → State → Prop} (hpost : ∀ tb e args s v u, (limb_1_1.after args s (.returned v) u = true ∧ limb_1_2.after args s (.returned v) u = true ∧ True) → FrameEnd s (.returned v) u (Jvm.fieldLocs frame_1_writes args s ++ Jvm.arrayLocs frame_1_arrays args s ++ Jvm.staticLocs frame_1_statics s) 0 0 → Post tb e args s (.returned v) u) :
    ArmFor flags0 classFile x code maxLocals ret World_1 tables_1 room_1 Calls_1 rest_1 Pre_1 Post := by
  intro l hfl _ _ p e ha hc hk s m args below hf hA hF happ hP
  obtain ⟨hcalls, hrest, hpre⟩ := hP
  obtain ⟨-, -, -, hnamed, -, -, -, hat⟩ := (Spec.applies_iff hf).mp happ
  obtain ⟨hg, hn⟩ := and_e (Cond.before_iff.mp (show (Jvm.Cond.and given_1 narrow_1).before args s = true from hpre))
  obtain ⟨g0, gr0⟩ := and_e hg
  obtain ⟨g1, gr1⟩ := and_e gr0
  obtain ⟨w0, w1, rfl⟩ : ∃ w0 w1 : Value, args = #[w0, w1] := by
    have hs : args.size = 2 := by simpa [Cond.value, given_1] using g0
    obtain ⟨L⟩ := args
    match L, hs with
    | [w0, w1], _ => exact ⟨w0, w1, rfl⟩
  have hw := fun d (hd : d ∈ tables_1) => atoms_spec (ws := Jvm.Cond.code x code maxLocals ret :: tables_1) hat d (List.mem_cons_of_mem _ hd)
  have hfit : Fit s := fun {y c} hc i hi => by
    obtain ⟨ha, rfl⟩ := Array.getElem?_eq_some_iff.mp hc
    have q := List.all_eq_true.mp ((Array.all_eq_true_iff_forall_mem.mp hF) _ (Array.getElem_mem ha)) i (List.mem_range.mpr hi)
    simpa [Array.getElem?_eq_getElem hi] using q
  obtain ⟨i0, ei0⟩ := isL_v g1
  obtain rfl : w0 = (.long i0) := Option.some.inj ei0
  obtain ⟨i1, ei1⟩ := is_v gr1
  obtain rfl : w1 = (.int i1) := Option.some.inj ei1
  obtain ⟨n, o, h1, h2, h3, _, L, rfl, ⟨rfl, N⟩, hq⟩ := rm0 l s _ hw tables_1 i0 i1  s.heap s.heap.size (Nat.le_refl _)  p e ha hc hk s m _ below hf ((Spec.applies_iff_loose hf).mp happ).1 ⟨rfl, State.Warmed39.refl s, rfl⟩ trivial
  refine ⟨n, _, h1, h2, h3, hpost _ _ _ _ _ _ ⟨Cond.after_iff.mpr rfl, Cond.after_iff.mpr (eq_i res_at (Term.int_eval (1)) rfl), trivial⟩ ⟨hq.1, hq.2.1, (hq.2.2.sift fun y hy => Or.inr (N y hy)).mono (by decide) (by decide)⟩⟩
theorem main_1_1 : Claimed_1_1 := comes_1 fun _ _ _ _ _ _ h hF => ⟨h.1, hF⟩
theorem main_1_2 : Claimed_1_2 := comes_1 fun _ _ _ _ _ _ h hF => ⟨h.2.1, hF⟩
end Jvm.Pilot.@@N@@
namespace Jvm.Pilot.@@N@@
open Jvm Jvm.ClassFile Sem Op Lib Jvm.Free Jvm.Stand Jvm.Pilot.@@N@@.Jvm.D
/-! MADE BY PROGRAM (witnessworld.py) out of the Statement's table words and the real class files: 9 classes; the members and pool entries that the words name. The judged class is class 1, her method 2. -/
namespace start1
open Jvm.ClassFile
def u (s : String) : CpInfo := .utf8 (stringToUtf16 s)
/-- a pool by its gaps: so many unusable entries, then the entry; so many at the end -/
def gap : Nat → List CpInfo → List CpInfo
  | 0, r => r
  | n + 1, r => .unusable :: gap n r
def poolList (es : List (Nat × CpInfo)) (last : Nat) : List CpInfo := es.foldr (fun e r => gap e.1 (e.2 :: r)) (gap last [])
def pool (es : List (Nat × CpInfo)) (last : Nat) : Array CpInfo := ⟨poolList es last⟩
def fileOf (pool : Array CpInfo) (this : Nat) (attrs : Array Attribute := #[]) (ms : Array MethodInfo := #[]) (fl : Nat := 33) (sup : Nat := 0) (ifs : Array Nat := #[]) (fds : Array FieldInfo := #[]) : ClassFile where
  minorVersion := 0
  majorVersion := 65
  constantPool := pool
  accessFlags := fl
  thisClass := this
  superClass := sup
  interfaces := ifs
  fields := fds
  methods := ms
  attributes := attrs
def plain (name : String) (sup : Option ClassId) : Class where
  name := name
  kind := .ordinary
  loader := none
  accessFlags := 33
  super := sup
  interfaces := #[]
  cf := none
  fields := #[]
  methods := #[]
  instanceTypes := #[]
  staticTypes := #[]
  resolved := #[]
  callSites := []
  init := .initialized
  statics := none
  mirror := none

def pool0 : Array CpInfo := pool [(5, u "<init>"), (0, u "()V"), (1, .class_ 10), (1, u "java/lang/Object")] 113

def k0m0 : Method := { name := "<init>", desc := "()V", sig := { parameters := [], returnType := none }, accessFlags := 1, code := none }
/-- java/lang/Object -/
def k0 : Class := { plain "java/lang/Object" none with
  accessFlags := 33
  interfaces := #[]
  cf := some (fileOf pool0 8 #[] #[{ accessFlags := 1, nameIndex := 5, descriptorIndex := 6, attributes := #[] }] 33 0 #[] #[])
  fields := #[]
  methods := #[k0m0]
  instanceTypes := #[]
  staticTypes := #[]
  resolved := Array.replicate 124 none
  statics := none }

def pool1 : Array CpInfo := pool [(2, .class_ 4), (1, u "java/lang/Object"), (0, u "<init>"), (0, u "()V"), (0, .long 9223372036854), (1, .long 7), (1, .long 4), (1, .long 18446734850337514762), (1, .methodref 16 17), (0, .class_ 18), (0, .nameAndType 19 20), (0, u "com/example/quernloop/quernloop/SystemClockToNanosPinLaw"), (0, u "pick"), (0, u "(JI)J"), (0, .long 1000000), (3, .long 9223372036854775807), (1, .long 9223372036854775808), (1, .methodref 30 31), (0, .class_ 32), (0, .nameAndType 33 34), (0, u "com/example/quernloop/quernloop/SystemClock"), (0, u "toNanos"), (0, u "(J)J"), (3, u "law"), (0, u "(JI)Z")] 2

def k1m0 : Method := { name := "<init>", desc := "()V", sig := { parameters := [], returnType := none }, accessFlags := 2, code := none }
def k1c1 : Code := { maxStack := 6, maxLocals := 4, code := method_2_code, exceptionTable := #[], attributes := #[] }
def k1m1 : Method := { name := "pick", desc := "(JI)J", sig := { parameters := [.long, .int], returnType := some .long }, accessFlags := 10, code := some k1c1 }
def k1c2 : Code := { maxStack := 4, maxLocals := 10, code := code, exceptionTable := #[], attributes := #[] }
def k1m2 : Method := { name := "law", desc := "(JI)Z", sig := { parameters := [.long, .int], returnType := some .boolean }, accessFlags := 9, code := some k1c2 }
/-- com/example/quernloop/quernloop/SystemClockToNanosPinLaw -/
def k1 : Class := { plain "com/example/quernloop/quernloop/SystemClockToNanosPinLaw" (some 0) with
  accessFlags := 49
  interfaces := #[]
  cf := some (fileOf pool1 16 #[] #[{ accessFlags := 2, nameIndex := 5, descriptorIndex := 6, attributes := #[] }, { accessFlags := 10, nameIndex := 19, descriptorIndex := 20, attributes := #[] }, { accessFlags := 9, nameIndex := 38, descriptorIndex := 39, attributes := #[] }] 49 2 #[] #[])
  fields := #[]
  methods := #[k1m0, k1m1, k1m2]
  instanceTypes := #[]
  staticTypes := #[]
  resolved := Array.replicate 42 none
  statics := none }

def pool2 : Array CpInfo := pool [(2, .class_ 4), (1, u "java/lang/Object"), (0, u "<init>"), (0, u "()V"), (1, .class_ 10), (1, u "com/example/quernloop/quernloop/SystemClock"), (5, u "(J)J"), (7, u "ORIGIN_NANOS"), (0, u "J"), (0, .long 1000000), (3, .long 9223372036854), (1, .long 9223372036854775807), (1, .long 18446734850337514762), (1, .long 9223372036854775808), (1, u "NANOS_PER_MILLI"), (4, u "toNanos")] 4

def k2m0 : Method := { name := "<init>", desc := "()V", sig := { parameters := [], returnType := none }, accessFlags := 2, code := none }
def k2c1 : Code := { maxStack := 4, maxLocals := 2, code := prog_21_method_5_code, exceptionTable := #[], attributes := #[] }
def k2m1 : Method := { name := "toNanos", desc := "(J)J", sig := { parameters := [.long], returnType := some .long }, accessFlags := 8, code := some k2c1 }
/-- com/example/quernloop/quernloop/SystemClock -/
def k2 : Class := { plain "com/example/quernloop/quernloop/SystemClock" (some 0) with
  accessFlags := 49
  interfaces := #[]
  cf := some (fileOf pool2 8 #[] #[{ accessFlags := 2, nameIndex := 5, descriptorIndex := 6, attributes := #[] }, { accessFlags := 8, nameIndex := 43, descriptorIndex := 16, attributes := #[] }] 49 2 #[] #[{ accessFlags := 26, nameIndex := 38, descriptorIndex := 25, attributes := #[] }, { accessFlags := 26, nameIndex := 24, descriptorIndex := 25, attributes := #[] }])
  fields := #[{ name := "NANOS_PER_MILLI", type := .long, accessFlags := 26, slot := 0, constantValue := 0 }, { name := "ORIGIN_NANOS", type := .long, accessFlags := 26, slot := 1, constantValue := 0 }]
  methods := #[k2m0, k2m1]
  instanceTypes := #[]
  staticTypes := #[.long, .long]
  resolved := Array.replicate 48 none
  statics := none }

def pool3 : Array CpInfo := pool [(1, u "java/lang/Cloneable"), (0, .class_ 1), (0, u "java/lang/Object"), (0, .class_ 3)] 3

/-- java/lang/Cloneable -/
def k3 : Class := { plain "java/lang/Cloneable" (some 0) with
  accessFlags := 1537
  interfaces := #[]
  cf := some (fileOf pool3 2 #[] #[] 1537 4 #[] #[])
  fields := #[]
  methods := #[]
  instanceTypes := #[]
  staticTypes := #[]
  resolved := Array.replicate 8 none
  statics := none }

def pool4 : Array CpInfo := pool [(1, u "java/io/Serializable"), (0, .class_ 1), (0, u "java/lang/Object"), (0, .class_ 3)] 3

/-- java/io/Serializable -/
def k4 : Class := { plain "java/io/Serializable" (some 0) with
  accessFlags := 1537
  interfaces := #[]
  cf := some (fileOf pool4 2 #[] #[] 1537 4 #[] #[])
  fields := #[]
  methods := #[]
  instanceTypes := #[]
  staticTypes := #[]
  resolved := Array.replicate 8 none
  statics := none }

/-- the primitive byte -/
def k5 : Class := { plain "byte" none with kind := .primitive 'B', accessFlags := 0x411 }
/-- [B -/
def k6 : Class := { plain "[B" (some 0) with kind := .array 5 .byte, interfaces := #[3, 4], accessFlags := 1041 }

/-- the primitive int -/
def k7 : Class := { plain "int" none with kind := .primitive 'I', accessFlags := 0x411 }
/-- [I -/
def k8 : Class := { plain "[I" (some 0) with kind := .array 7 .int, interfaces := #[3, 4], accessFlags := 1041 }

def heap : Heap := #[]
def classes : Array Class := #[k0, k1, k2, k3, k4, k5, k6, k7, k8]
def interned : List (Array UInt16 × Addr) := []
def slotsUsed : Nat := 0
def theMethod : MethodId := ⟨1, 2⟩
def args0 : Array Value := #[.long 5, .int 5]
def aboutOver (below : List Frame) : State where
  vm := { classes := classes, interned := interned.toArray }
  heap := heap
  slotsUsed := slotsUsed
  threads := #[{ frames := .invoking theMethod args0 :: below }]
def below0 : List Frame := [.native { method := ⟨0, 0⟩, args := #[] }]
def about1 : State := aboutOver below0
def p0 : Program := .bare "" "" ""
def e0 : Env := launch0.env 0 0 0
theorem w_frames : about1.frames = Frame.invoking theMethod args0 :: below0 := rfl
set_option maxRecDepth 65536 in
theorem w_args : argsFit about1.vm theMethod args0 = true := by decide +kernel
set_option maxRecDepth 65536 in
theorem w_heap : heapFits about1 = true := by decide +kernel
set_option maxRecDepth 65536 in
theorem w_runnable : about1.curStatus? = some .runnable := by decide +kernel
set_option maxRecDepth 65536 in
theorem w_alone : about1.alone = true := by decide +kernel
set_option maxRecDepth 65536 in
theorem w_named : about1.methodNamed? x = some theMethod := by decide +kernel
set_option maxRecDepth 65536 in
theorem w_hears : about1.hears theMethod below0 = true := by decide +kernel
set_option maxRecDepth 65536 in
theorem w_ripe : about1.ripe theMethod args0 below0 = true := by decide +kernel
theorem w_running : about1.status = .running := rfl
set_option maxRecDepth 65536 in
theorem w_room : about1.hasRoom e0.platform room_1 = true :=
  launch0.hasRoom_least _ room_1 (by decide +kernel) (by decide +kernel) (by decide +kernel) (by decide +kernel) (by decide +kernel) (by decide +kernel)
theorem allAtoms_all (ts : List Jvm.Cond) (a : Array Jvm.Value) (st : Jvm.State) : (allAtoms ts).before a st = ts.all (fun c => c.before a st) := by
  induction ts with
  | nil => rfl
  | cons c t ih =>
    show (Jvm.Cond.and c (allAtoms t)).before a st = _
    rw [Jvm.Cond.before_and, ih, List.all_cons]
def words1 : List Jvm.Cond := Jvm.Cond.code x code maxLocals ret :: tables_1
/-- a 'code' word, met by the world's own term for the bytes: nothing is compared byte by byte -/
theorem code_word {y : MethodName} {bytes : ByteArray} {mx : Nat} {rt : Option FieldType} {a : Array Value} {s : State} {m : MethodId} {meth : Method} {c : Code} (h1 : s.methodNamed? y = some m) (h2 : s.vm.method? m = some meth) (h3 : meth.code = some c) (h4 : c.code = bytes)
    (h5 : (c.maxLocals == mx && c.exceptionTable.isEmpty && decide (c.maxStack ≤ mostOperands) && decide (meth.sig.returnType = rt) && !meth.locks && decide (parseMethodDescriptor y.desc = some meth.sig)) = true) : (Jvm.Cond.code y bytes mx rt).before a s = true := by
  simp only [Bool.and_eq_true, beq_iff_eq, Bool.not_eq_true', decide_eq_true_eq] at h5
  obtain ⟨⟨⟨⟨⟨g1, g2⟩, g3⟩, g4⟩, g5⟩, g6⟩ := h5
  simp [Cond.before, Cond.holds, Cond.value, h1, h2, h3, h4, g1, g2, g3, g4, g5, g6]
def isCode : Jvm.Cond → Bool
  | .code _ _ _ _ => true
  | _ => false
theorem all_split {L : List Jvm.Cond} {P : Jvm.Cond → Bool} (h1 : L.all (fun c => isCode c || P c) = true) (h2 : ∀ c ∈ L.filter isCode, P c = true) : L.all P = true := by
  refine List.all_eq_true.mpr fun c hc => ?_
  have h := List.all_eq_true.mp h1 c hc
  rcases Bool.eq_false_or_eq_true (isCode c) with hi | hi
  · exact h2 c (List.mem_filter.mpr ⟨hc, hi⟩)
  · simpa [hi] using h
set_option maxRecDepth 65536 in
theorem w_c0 : (Jvm.Cond.code x code maxLocals ret).before args0 about1 = true := code_word (m := ⟨1, 2⟩) (meth := k1m2) (c := k1c2) (by decide +kernel) rfl rfl rfl (by decide +kernel)
set_option maxRecDepth 65536 in
theorem w_c1 : (Jvm.Cond.code ({ cls := "com/example/quernloop/quernloop/SystemClockToNanosPinLaw", name := "pick", desc := "(JI)J" } : Jvm.MethodName) method_2_code (4 : Nat) (Option.some Jvm.ClassFile.FieldType.long)).before args0 about1 = true := code_word (m := ⟨1, 1⟩) (meth := k1m1) (c := k1c1) (by decide +kernel) rfl rfl rfl (by decide +kernel)
set_option maxRecDepth 65536 in
theorem w_c2 : (Jvm.Cond.code ({ cls := "com/example/quernloop/quernloop/SystemClock", name := "toNanos", desc := "(J)J" } : Jvm.MethodName) prog_21_method_5_code (2 : Nat) (Option.some Jvm.ClassFile.FieldType.long)).before args0 about1 = true := code_word (m := ⟨2, 1⟩) (meth := k2m1) (c := k2c1) (by decide +kernel) rfl rfl rfl (by decide +kernel)
def codes1 : List Jvm.Cond := [Jvm.Cond.code x code maxLocals ret, Jvm.Cond.code ({ cls := "com/example/quernloop/quernloop/SystemClockToNanosPinLaw", name := "pick", desc := "(JI)J" } : Jvm.MethodName) method_2_code (4 : Nat) (Option.some Jvm.ClassFile.FieldType.long), Jvm.Cond.code ({ cls := "com/example/quernloop/quernloop/SystemClock", name := "toNanos", desc := "(J)J" } : Jvm.MethodName) prog_21_method_5_code (2 : Nat) (Option.some Jvm.ClassFile.FieldType.long)]
set_option maxRecDepth 65536 in
theorem codes_eq : words1.filter isCode = codes1 := rfl
theorem w_codes : ∀ c ∈ words1.filter isCode, c.before args0 about1 = true := by
  rw [codes_eq]
  intro c hc
  simp only [codes1, List.mem_cons, List.not_mem_nil, or_false] at hc
  rcases hc with rfl | rfl | rfl
  · exact w_c0
  · exact w_c1
  · exact w_c2
set_option maxRecDepth 65536 in
theorem w_t1 : words1.all (fun c => isCode c || c.before args0 about1) = true := by decide +kernel
theorem w_tables : (allAtoms (Jvm.Cond.code x code maxLocals ret :: tables_1)).before args0 about1 = true := by
  rw [allAtoms_all]
  show words1.all (fun c => c.before args0 about1) = true
  refine all_split ?_ w_codes
  rw [w_t1]
set_option maxRecDepth 65536 in
theorem w_case : (Jvm.Cond.and given_1 narrow_1).before args0 about1 = true := by decide +kernel
theorem w_applies : (headSpec (Jvm.Cond.code x code maxLocals ret :: tables_1) room_1).applies x e0.platform about1 = true :=
  (Spec.applies_iff w_frames).mpr ⟨w_running, w_runnable, w_alone, w_named, w_hears, w_ripe, w_room, w_tables⟩
theorem atStart : AtStart classFile x code maxLocals ret World_1 tables_1 room_1 Calls_1 rest_1 Pre_1 launch0 p0 e0 about1 theMethod args0 below0 :=
  ⟨lists_1, trivial, launch0.admits_env _ _ _, launch0.least_env, fairChoices_fair.cas, fairChoices_fair.clock, w_frames, w_args, w_heap, w_applies, trivial, trivial, w_case⟩
end start1
theorem witness_1 : WitnessClaimed_1 := ⟨start1.p0, start1.e0, start1.about1, start1.theMethod, start1.args0, start1.below0, start1.atStart⟩
end Jvm.Pilot.@@N@@
