import JvmDerived
import JvmDerived.Pilot.@@N@@Statement
import JvmDerived.Pilot.@@N@@Code
set_option linter.unusedVariables false
set_option linter.unusedSimpArgs false
namespace Jvm.RoadKit
open Sem ClassFile Op Lib Jvm.Stand Jvm.Free Jvm.LawKit
section New
variable {p : Program} {l : Launch} {e : Env} {R : Room} {s : State} {m : MethodId} {args : Array Value} {below : List Frame} {meth : Method} {c : Code} {T : State} {locs : List Loc} {cells slots : Nat}
theorem retI (X : Stand p l e R s m args below meth c T locs cells slots) (hx : p.tables.exec = Jvm.exec) {pc : Nat} {Ls : Array Slot} {z : Int32} {rest : List Value} (hret : meth.sig.returnType = some .int) (hd : decode c.code pc = .ok (.ireturn, 1)) {fs : List Frame}
    (hl : ∀ (f : JFrame) (acts : List Action), f.method = m → f.locked = none → f.entered = [] → (doReturn e (T.setTop f) acts (some (.int z))).1 = T.setFrames fs) : Steps p.tables e below (T.setTop (mkF m pc Ls (.int z :: rest))) (T.setFrames fs) := by
  have hm' : T.vm.method? m = some meth := X.method'
  have hn : narrow .int (.int z) = .int z := rfl
  show Steps p.tables e below (T.setTop { method := m, pc := pc, locals := Ls, stack := _ :: rest, locked := none }) _
  jvm_step X.here [X.here.top, hx, hd, hm', hret, hn]
  first | (intro acts; rw [hl _ acts rfl rfl rfl]) | rw [hl _ _ rfl rfl rfl]
  exact Steps.refl _
end New
end Jvm.RoadKit
namespace Jvm.Pilot.@@N@@
open Jvm Jvm.ClassFile Sem Op Lib Jvm.Free Jvm.Stand Jvm.LawKit Jvm.RoadKit Bundle Jvm.Pilot.@@N@@.Jvm.D
theorem pn_0 : plainName "java/lang/Record" = true := by first | (simp [plainName, overriddenIn]; done) | decide +kernel
theorem pn_1 : plainName "com/example/quirewire/quirewire/Separators" = true := by first | (simp [plainName, overriddenIn]; done) | decide +kernel
theorem pn_2 : plainName "com/example/quirewire/quirewire/SeparatorsSplitsPinLaw" = true := by first | (simp [plainName, overriddenIn]; done) | decide +kernel
theorem pd_0 : parseMethodDescriptor "()V" = some ⟨[], none⟩ := by decide +kernel
theorem pd_1 : parseMethodDescriptor "(CCCCCC)V" = some ⟨[.char, .char, .char, .char, .char, .char], none⟩ := by decide +kernel
theorem pd_2 : parseMethodDescriptor "(C)Z" = some ⟨[.char], some .boolean⟩ := by decide +kernel
theorem d1_0 : decode jdk_30_method_1_code 0 = .ok (.aload_n 0, 1) := by decide +kernel
theorem d1_1 : decode jdk_30_method_1_code 1 = .ok (.invokespecial 1, 3) := by decide +kernel
theorem d1_4 : decode jdk_30_method_1_code 4 = .ok (.return_, 1) := by decide +kernel
theorem ef_1 (m : MethodId) (x0 : Addr) : entryFrame m #[(.ref x0)] 1 = (mkF m 0 #[.val (.ref x0)] []) := by first | (simp [entryFrame, mkF, argsToLocals, Value.category]; done) | rfl
def Q1 (Z : State) (a : Addr) (h0 : Heap) (n0 : Nat) (vX : Option Value) (hX : Heap) (lX : List Loc) : Prop := vX = none ∧ Fr n0 lX ∧ (hX = h0)
set_option maxRecDepth 65536 in
set_option maxHeartbeats 40000000 in
theorem rm1 (l : Launch) (Z : State) (a0 : Array Value) (hw : ∀ d ∈ tables_1, d.before a0 Z = true) (ws : List Jvm.Cond) (a : Addr) (h0 : Heap) (n0 : Nat) (Z0 : n0 ≤ h0.size)  :
    MetFree l (⟨"java/lang/Record", "<init>", "()V"⟩ : MethodName) (head1 (Jvm.Cond.code (⟨"java/lang/Record", "<init>", "()V"⟩ : MethodName) jdk_30_method_1_code 1 none :: ws) ({ frames := 1, cells := 0, slots := 0, locals := 12 } : Room)) (fun aX uX => aX = #[(.ref a)] ∧ Z.Warmed39 uX.vm ∧ uX.heap = h0) (fun _ _ _ _ _ => True) (fun _ uX oX wX => ∃ vX lX, oX = .returned vX ∧ Q1 Z a h0 n0 vX wX.heap lX ∧ FrameEnd uX oX wX lX ({ frames := 1, cells := 0, slots := 0, locals := 12 } : Room).cells ({ frames := 1, cells := 0, slots := 0, locals := 12 } : Room).slots) := by
  refine MetFree.of_bodySF (plainFor_of_name pn_0) hisR ?_
  intro p e s m args below meth c s₁ Bd hml0 hP hK
  obtain ⟨rfl, hZ, hh⟩ := hP
  have hx := Bd.exec
  have hby := Bd.bytes
  have hml : c.maxLocals = 1 := hml0
  have hown : s.vm.findClass "java/lang/Record" = some m.cls := findClass_of_methodNamed Bd.named
  have hnm := (name_of_methodNamed Bd.named Bd.method).1
  have X0 : Stand p l e ({ frames := 1, cells := 0, slots := 0, locals := 12 } : Room) s m #[(.ref a)] below meth c s₁ [] 0 0 := Stand.of_body Bd
  have e0 : s₁.heap = h0 := by rw [← hh, Bd.state]; rfl
  have N0 := Fr.nil n0
  have pre0 : ∀ t, Steps p.tables e below (s₁.setTop (mkF m 0 #[.val (.ref a)] [])) t → Steps p.tables e below (s₁.setTop (entryFrame m #[(.ref a)] 1)) t := fun t k => castTop (ef_1 m a) k
  obtain ⟨T1, X1, e1, st1⟩ := initO X0 hx hZ hown (hw _ (List.mem_of_getElem? (i := 11) rfl)) (hw _ (List.mem_of_getElem? (i := 12) rfl)) (hw _ (List.mem_of_getElem? (i := 13) rfl)) e0 (g := (mkF m 1 #[.val (.ref a)] [(.ref a)])) rfl (by rw [hml]; rfl) rfl (hb hby d1_1) (by decide) (W := 0) (by show 2 * 0 + _ ≤ _; exact Nat.le_of_eq rfl) (by decide)
  have P2 : ∀ t, Steps p.tables e below (T1.setTop (mkF m 4 #[.val (.ref a)] [])) t → Steps p.tables e below (s₁.setTop (entryFrame m #[(.ref a)] 1)) t := by
    intro t kk
    refine pre0 _ ?_
    show Steps p.tables e below (s₁.setTop (mkF m 0 #[.val (.ref a)] [])) _
    refine XS.aloadN X0.here hx rfl (hb hby d1_0) rfl rfl ?_
    show Steps p.tables e below (s₁.setTop (mkF m 1 #[.val (.ref a)] [(.ref a)])) _
    refine st1 _ ?_
    show Steps p.tables e below (T1.setTop (mkF m 4 #[.val (.ref a)] [])) _
    exact kk
  obtain ⟨fs, hr, hrun, hended, hW, hsame⟩ := X1.leave (v := none) (fun _ => rfl)
  refine ⟨_, _, P2 _ ?_, hrun, hended, _, _, rfl, ?_, ⟨_, rfl⟩, hW, hsame.mono (by decide) (by decide)⟩
  · exact X1.returnOut hx Bd.returns (hb hby d1_4) hr
  · show Q1 Z a h0 n0 _ T1.heap _
    rw [e1]
    exact ⟨rfl, N0, rfl⟩
theorem d2_0 : decode prog_25_method_1_code 0 = .ok (.aload_n 0, 1) := by decide +kernel
theorem d2_1 : decode prog_25_method_1_code 1 = .ok (.invokespecial 1, 3) := by decide +kernel
theorem d2_4 : decode prog_25_method_1_code 4 = .ok (.aload_n 0, 1) := by decide +kernel
theorem d2_5 : decode prog_25_method_1_code 5 = .ok (.iload_n 1, 1) := by decide +kernel
theorem d2_6 : decode prog_25_method_1_code 6 = .ok (.putfield 7, 3) := by decide +kernel
theorem d2_9 : decode prog_25_method_1_code 9 = .ok (.aload_n 0, 1) := by decide +kernel
theorem d2_10 : decode prog_25_method_1_code 10 = .ok (.iload_n 2, 1) := by decide +kernel
theorem d2_11 : decode prog_25_method_1_code 11 = .ok (.putfield 13, 3) := by decide +kernel
theorem d2_14 : decode prog_25_method_1_code 14 = .ok (.aload_n 0, 1) := by decide +kernel
theorem d2_15 : decode prog_25_method_1_code 15 = .ok (.iload_n 3, 1) := by decide +kernel
theorem d2_16 : decode prog_25_method_1_code 16 = .ok (.putfield 16, 3) := by decide +kernel
theorem d2_19 : decode prog_25_method_1_code 19 = .ok (.aload_n 0, 1) := by decide +kernel
theorem d2_20 : decode prog_25_method_1_code 20 = .ok (.iload 4, 2) := by decide +kernel
theorem d2_22 : decode prog_25_method_1_code 22 = .ok (.putfield 19, 3) := by decide +kernel
theorem d2_25 : decode prog_25_method_1_code 25 = .ok (.aload_n 0, 1) := by decide +kernel
theorem d2_26 : decode prog_25_method_1_code 26 = .ok (.iload 5, 2) := by decide +kernel
theorem d2_28 : decode prog_25_method_1_code 28 = .ok (.putfield 22, 3) := by decide +kernel
theorem d2_31 : decode prog_25_method_1_code 31 = .ok (.aload_n 0, 1) := by decide +kernel
theorem d2_32 : decode prog_25_method_1_code 32 = .ok (.iload 6, 2) := by decide +kernel
theorem d2_34 : decode prog_25_method_1_code 34 = .ok (.putfield 25, 3) := by decide +kernel
theorem d2_37 : decode prog_25_method_1_code 37 = .ok (.return_, 1) := by decide +kernel
theorem ef_2 (m : MethodId) (x0 : Addr) (x1 : Int32) (x2 : Int32) (x3 : Int32) (x4 : Int32) (x5 : Int32) (x6 : Int32) : entryFrame m #[(.ref x0), (.int x1), (.int x2), (.int x3), (.int x4), (.int x5), (.int x6)] 7 = (mkF m 0 #[.val (.ref x0), .val (.int x1), .val (.int x2), .val (.int x3), .val (.int x4), .val (.int x5), .val (.int x6)] []) := by first | (simp [entryFrame, mkF, argsToLocals, Value.category]; done) | rfl
def Q2 (Z : State) (a : Addr) (v0 : Int32) (v1 : Int32) (v2 : Int32) (v3 : Int32) (v4 : Int32) (v5 : Int32) (u0 : Int32) (u1 : Int32) (u2 : Int32) (u3 : Int32) (u4 : Int32) (u5 : Int32) (h0 : Heap) (n0 : Nat) (vX : Option Value) (hX : Heap) (lX : List Loc) : Prop := vX = none ∧ Fr n0 lX ∧ (Keep h0 hX [a]) ∧ (Fld Z hX a "com/example/quirewire/quirewire/Separators" "component" "C" (.int (nar .char v0))) ∧ (Fld Z hX a "com/example/quirewire/quirewire/Separators" "element" "C" (.int (nar .char v1))) ∧ (Fld Z hX a "com/example/quirewire/quirewire/Separators" "tag" "C" (.int (nar .char v2))) ∧ (Fld Z hX a "com/example/quirewire/quirewire/Separators" "decimalMark" "C" (.int (nar .char v3))) ∧ (Fld Z hX a "com/example/quirewire/quirewire/Separators" "release" "C" (.int (nar .char v4))) ∧ (Fld Z hX a "com/example/quirewire/quirewire/Separators" "terminator" "C" (.int (nar .char v5)))
set_option maxRecDepth 65536 in
set_option maxHeartbeats 40000000 in
theorem rm2 (l : Launch) (Z : State) (a0 : Array Value) (hw : ∀ d ∈ tables_1, d.before a0 Z = true) (ws : List Jvm.Cond) (a : Addr) (v0 : Int32) (v1 : Int32) (v2 : Int32) (v3 : Int32) (v4 : Int32) (v5 : Int32) (u0 : Int32) (u1 : Int32) (u2 : Int32) (u3 : Int32) (u4 : Int32) (u5 : Int32) (h0 : Heap) (n0 : Nat) (Z0 : n0 ≤ h0.size) (pr0 : Exa Z h0 a "com/example/quirewire/quirewire/Separators") (pr1 : Fld Z h0 a "com/example/quirewire/quirewire/Separators" "component" "C" (.int u0)) (pr2 : Fld Z h0 a "com/example/quirewire/quirewire/Separators" "element" "C" (.int u1)) (pr3 : Fld Z h0 a "com/example/quirewire/quirewire/Separators" "tag" "C" (.int u2)) (pr4 : Fld Z h0 a "com/example/quirewire/quirewire/Separators" "decimalMark" "C" (.int u3)) (pr5 : Fld Z h0 a "com/example/quirewire/quirewire/Separators" "release" "C" (.int u4)) (pr6 : Fld Z h0 a "com/example/quirewire/quirewire/Separators" "terminator" "C" (.int u5)) (pr7 : n0 ≤ a) :
    MetFree l (⟨"com/example/quirewire/quirewire/Separators", "<init>", "(CCCCCC)V"⟩ : MethodName) (head1 (Jvm.Cond.code (⟨"com/example/quirewire/quirewire/Separators", "<init>", "(CCCCCC)V"⟩ : MethodName) prog_25_method_1_code 7 none :: ws) ({ frames := 2, cells := 0, slots := 0, locals := 24 } : Room)) (fun aX uX => aX = #[(.ref a), (.int v0), (.int v1), (.int v2), (.int v3), (.int v4), (.int v5)] ∧ Z.Warmed39 uX.vm ∧ uX.heap = h0) (fun _ _ _ _ _ => True) (fun _ uX oX wX => ∃ vX lX, oX = .returned vX ∧ Q2 Z a v0 v1 v2 v3 v4 v5 u0 u1 u2 u3 u4 u5 h0 n0 vX wX.heap lX ∧ FrameEnd uX oX wX lX ({ frames := 2, cells := 0, slots := 0, locals := 24 } : Room).cells ({ frames := 2, cells := 0, slots := 0, locals := 24 } : Room).slots) := by
  refine MetFree.of_bodySF (plainFor_of_name pn_1) hisR ?_
  intro p e s m args below meth c s₁ Bd hml0 hP hK
  obtain ⟨rfl, hZ, hh⟩ := hP
  have hx := Bd.exec
  have hby := Bd.bytes
  have hml : c.maxLocals = 7 := hml0
  have hown : s.vm.findClass "com/example/quirewire/quirewire/Separators" = some m.cls := findClass_of_methodNamed Bd.named
  have hnm := (name_of_methodNamed Bd.named Bd.method).1
  have X0 : Stand p l e ({ frames := 2, cells := 0, slots := 0, locals := 24 } : Room) s m #[(.ref a), (.int v0), (.int v1), (.int v2), (.int v3), (.int v4), (.int v5)] below meth c s₁ [] 0 0 := Stand.of_body Bd
  have e0 : s₁.heap = h0 := by rw [← hh, Bd.state]; rfl
  have N0 := Fr.nil n0
  have pre0 : ∀ t, Steps p.tables e below (s₁.setTop (mkF m 0 #[.val (.ref a), .val (.int v0), .val (.int v1), .val (.int v2), .val (.int v3), .val (.int v4), .val (.int v5)] [])) t → Steps p.tables e below (s₁.setTop (entryFrame m #[(.ref a), (.int v0), (.int v1), (.int v2), (.int v3), (.int v4), (.int v5)] 7)) t := fun t k => castTop (ef_2 m a v0 v1 v2 v3 v4 v5) k
  obtain ⟨_, _, ⟨T1, L1, k1, n1⟩, -, X1, ⟨Lc1, hQ1, l1, y1, z1⟩, st1⟩ := X0.specialBack hx (y := (⟨"java/lang/Record", "<init>", "()V"⟩ : MethodName)) rfl hown (mvT hZ (hw _ (List.mem_of_getElem? (i := 6) rfl))) (mvT hZ (hw _ (List.mem_of_getElem? (i := 7) rfl))) (mvT hZ (hw _ (List.mem_of_getElem? (i := 10) rfl))) (by decide) (backOf (W := 0) (rm1 l Z a0 hw [] a h0 n0 Z0 ) hZ (hw _ (List.mem_of_getElem? (i := 10) rfl)) (hw _ (List.mem_of_getElem? (i := 9) rfl)) (by decide) (by decide)) (g := (mkF m 1 #[.val (.ref a), .val (.int v0), .val (.int v1), .val (.int v2), .val (.int v3), .val (.int v4), .val (.int v5)] [(.ref a)])) rfl (by rw [hml]; rfl) (Steps.refl _) (a := a) (argsL := []) (rest := []) (lenOf pd_0 rfl) rfl (by show 2 * 0 + _ ≤ _; exact Nat.le_of_eq rfl) (hb hby d2_1) (fun _ _ => ⟨rfl, e0, (by decide : 0 + 0 ≤ _), (by decide : 0 + 0 ≤ _)⟩)
  dsimp only [Pt.U, Pt.locs, Pt.cells, Pt.slots] at X1 l1 y1 z1 st1 hQ1
  subst l1 y1 z1
  obtain ⟨rfl, Nq1, e1⟩ := hQ1
  have N1 := Fr.app N0 Nq1
  obtain ⟨T2, h2, X2, e2, W2, st2⟩ := putFN X1 hx hZ hown (hw _ (List.mem_of_getElem? (i := 14) rfl)) Via.refl e1 pr1 pr0 (Or.inr ⟨(hw _ (List.mem_of_getElem? (i := 15) rfl)), rfl, hnm⟩) (hw _ (List.mem_of_getElem? (i := 1) rfl)) (ty := .char) (v' := (.int (nar .char v0))) (by decide) rfl (fits_nar_char _) (g := (mkF m 6 #[.val (.ref a), .val (.int v0), .val (.int v1), .val (.int v2), .val (.int v3), .val (.int v4), .val (.int v5)] [(.int v0), (.ref a)])) rfl rfl (hb hby d2_6)
  have N2 := Fr.snoc X2 N1 pr7
  have Fw2 := Fld.same W2 pr1
  have f3 := (Exa.wr W2 pr0)
  have f4 := (Fld.other W2 pr2 (Or.inr (slot_ne (Or.inr (hw _ (List.mem_of_getElem? (i := 17) rfl))) (Or.inr (hw _ (List.mem_of_getElem? (i := 15) rfl))) (by decide) (t := .char) (t' := .char) (by decide) (by decide))))
  obtain ⟨T5, h5, X5, e5, W5, st5⟩ := putFN X2 hx hZ hown (hw _ (List.mem_of_getElem? (i := 16) rfl)) Via.refl e2 f4 f3 (Or.inr ⟨(hw _ (List.mem_of_getElem? (i := 17) rfl)), rfl, hnm⟩) (hw _ (List.mem_of_getElem? (i := 1) rfl)) (ty := .char) (v' := (.int (nar .char v1))) (by decide) rfl (fits_nar_char _) (g := (mkF m 11 #[.val (.ref a), .val (.int v0), .val (.int v1), .val (.int v2), .val (.int v3), .val (.int v4), .val (.int v5)] [(.int v1), (.ref a)])) rfl rfl (hb hby d2_11)
  have N5 := Fr.snoc X5 N2 pr7
  have Fw5 := Fld.same W5 f4
  have f6 := (Exa.wr W5 f3)
  have f7 := (Fld.other W5 (Fld.other W2 pr3 (Or.inr (slot_ne (Or.inr (hw _ (List.mem_of_getElem? (i := 19) rfl))) (Or.inr (hw _ (List.mem_of_getElem? (i := 15) rfl))) (by decide) (t := .char) (t' := .char) (by decide) (by decide)))) (Or.inr (slot_ne (Or.inr (hw _ (List.mem_of_getElem? (i := 19) rfl))) (Or.inr (hw _ (List.mem_of_getElem? (i := 17) rfl))) (by decide) (t := .char) (t' := .char) (by decide) (by decide))))
  obtain ⟨T8, h8, X8, e8, W8, st8⟩ := putFN X5 hx hZ hown (hw _ (List.mem_of_getElem? (i := 18) rfl)) Via.refl e5 f7 f6 (Or.inr ⟨(hw _ (List.mem_of_getElem? (i := 19) rfl)), rfl, hnm⟩) (hw _ (List.mem_of_getElem? (i := 1) rfl)) (ty := .char) (v' := (.int (nar .char v2))) (by decide) rfl (fits_nar_char _) (g := (mkF m 16 #[.val (.ref a), .val (.int v0), .val (.int v1), .val (.int v2), .val (.int v3), .val (.int v4), .val (.int v5)] [(.int v2), (.ref a)])) rfl rfl (hb hby d2_16)
  have N8 := Fr.snoc X8 N5 pr7
  have Fw8 := Fld.same W8 f7
  have f9 := (Exa.wr W8 f6)
  have f10 := (Fld.other W8 (Fld.other W5 (Fld.other W2 pr4 (Or.inr (slot_ne (Or.inr (hw _ (List.mem_of_getElem? (i := 21) rfl))) (Or.inr (hw _ (List.mem_of_getElem? (i := 15) rfl))) (by decide) (t := .char) (t' := .char) (by decide) (by decide)))) (Or.inr (slot_ne (Or.inr (hw _ (List.mem_of_getElem? (i := 21) rfl))) (Or.inr (hw _ (List.mem_of_getElem? (i := 17) rfl))) (by decide) (t := .char) (t' := .char) (by decide) (by decide)))) (Or.inr (slot_ne (Or.inr (hw _ (List.mem_of_getElem? (i := 21) rfl))) (Or.inr (hw _ (List.mem_of_getElem? (i := 19) rfl))) (by decide) (t := .char) (t' := .char) (by decide) (by decide))))
  obtain ⟨T11, h11, X11, e11, W11, st11⟩ := putFN X8 hx hZ hown (hw _ (List.mem_of_getElem? (i := 20) rfl)) Via.refl e8 f10 f9 (Or.inr ⟨(hw _ (List.mem_of_getElem? (i := 21) rfl)), rfl, hnm⟩) (hw _ (List.mem_of_getElem? (i := 1) rfl)) (ty := .char) (v' := (.int (nar .char v3))) (by decide) rfl (fits_nar_char _) (g := (mkF m 22 #[.val (.ref a), .val (.int v0), .val (.int v1), .val (.int v2), .val (.int v3), .val (.int v4), .val (.int v5)] [(.int v3), (.ref a)])) rfl rfl (hb hby d2_22)
  have N11 := Fr.snoc X11 N8 pr7
  have Fw11 := Fld.same W11 f10
  have f12 := (Exa.wr W11 f9)
  have f13 := (Fld.other W11 (Fld.other W8 (Fld.other W5 (Fld.other W2 pr5 (Or.inr (slot_ne (Or.inr (hw _ (List.mem_of_getElem? (i := 23) rfl))) (Or.inr (hw _ (List.mem_of_getElem? (i := 15) rfl))) (by decide) (t := .char) (t' := .char) (by decide) (by decide)))) (Or.inr (slot_ne (Or.inr (hw _ (List.mem_of_getElem? (i := 23) rfl))) (Or.inr (hw _ (List.mem_of_getElem? (i := 17) rfl))) (by decide) (t := .char) (t' := .char) (by decide) (by decide)))) (Or.inr (slot_ne (Or.inr (hw _ (List.mem_of_getElem? (i := 23) rfl))) (Or.inr (hw _ (List.mem_of_getElem? (i := 19) rfl))) (by decide) (t := .char) (t' := .char) (by decide) (by decide)))) (Or.inr (slot_ne (Or.inr (hw _ (List.mem_of_getElem? (i := 23) rfl))) (Or.inr (hw _ (List.mem_of_getElem? (i := 21) rfl))) (by decide) (t := .char) (t' := .char) (by decide) (by decide))))
  obtain ⟨T14, h14, X14, e14, W14, st14⟩ := putFN X11 hx hZ hown (hw _ (List.mem_of_getElem? (i := 22) rfl)) Via.refl e11 f13 f12 (Or.inr ⟨(hw _ (List.mem_of_getElem? (i := 23) rfl)), rfl, hnm⟩) (hw _ (List.mem_of_getElem? (i := 1) rfl)) (ty := .char) (v' := (.int (nar .char v4))) (by decide) rfl (fits_nar_char _) (g := (mkF m 28 #[.val (.ref a), .val (.int v0), .val (.int v1), .val (.int v2), .val (.int v3), .val (.int v4), .val (.int v5)] [(.int v4), (.ref a)])) rfl rfl (hb hby d2_28)
  have N14 := Fr.snoc X14 N11 pr7
  have Fw14 := Fld.same W14 f13
  have f15 := (Exa.wr W14 f12)
  have f16 := (Fld.other W14 (Fld.other W11 (Fld.other W8 (Fld.other W5 (Fld.other W2 pr6 (Or.inr (slot_ne (Or.inr (hw _ (List.mem_of_getElem? (i := 25) rfl))) (Or.inr (hw _ (List.mem_of_getElem? (i := 15) rfl))) (by decide) (t := .char) (t' := .char) (by decide) (by decide)))) (Or.inr (slot_ne (Or.inr (hw _ (List.mem_of_getElem? (i := 25) rfl))) (Or.inr (hw _ (List.mem_of_getElem? (i := 17) rfl))) (by decide) (t := .char) (t' := .char) (by decide) (by decide)))) (Or.inr (slot_ne (Or.inr (hw _ (List.mem_of_getElem? (i := 25) rfl))) (Or.inr (hw _ (List.mem_of_getElem? (i := 19) rfl))) (by decide) (t := .char) (t' := .char) (by decide) (by decide)))) (Or.inr (slot_ne (Or.inr (hw _ (List.mem_of_getElem? (i := 25) rfl))) (Or.inr (hw _ (List.mem_of_getElem? (i := 21) rfl))) (by decide) (t := .char) (t' := .char) (by decide) (by decide)))) (Or.inr (slot_ne (Or.inr (hw _ (List.mem_of_getElem? (i := 25) rfl))) (Or.inr (hw _ (List.mem_of_getElem? (i := 23) rfl))) (by decide) (t := .char) (t' := .char) (by decide) (by decide))))
  obtain ⟨T17, h17, X17, e17, W17, st17⟩ := putFN X14 hx hZ hown (hw _ (List.mem_of_getElem? (i := 24) rfl)) Via.refl e14 f16 f15 (Or.inr ⟨(hw _ (List.mem_of_getElem? (i := 25) rfl)), rfl, hnm⟩) (hw _ (List.mem_of_getElem? (i := 1) rfl)) (ty := .char) (v' := (.int (nar .char v5))) (by decide) rfl (fits_nar_char _) (g := (mkF m 34 #[.val (.ref a), .val (.int v0), .val (.int v1), .val (.int v2), .val (.int v3), .val (.int v4), .val (.int v5)] [(.int v5), (.ref a)])) rfl rfl (hb hby d2_34)
  have N17 := Fr.snoc X17 N14 pr7
  have Fw17 := Fld.same W17 f16
  have P18 : ∀ t, Steps p.tables e below (T17.setTop (mkF m 37 #[.val (.ref a), .val (.int v0), .val (.int v1), .val (.int v2), .val (.int v3), .val (.int v4), .val (.int v5)] [])) t → Steps p.tables e below (s₁.setTop (entryFrame m #[(.ref a), (.int v0), (.int v1), (.int v2), (.int v3), (.int v4), (.int v5)] 7)) t := by
    intro t kk
    refine pre0 _ ?_
    show Steps p.tables e below (s₁.setTop (mkF m 0 #[.val (.ref a), .val (.int v0), .val (.int v1), .val (.int v2), .val (.int v3), .val (.int v4), .val (.int v5)] [])) _
    refine XS.aloadN X0.here hx rfl (hb hby d2_0) rfl rfl ?_
    show Steps p.tables e below (s₁.setTop (mkF m 1 #[.val (.ref a), .val (.int v0), .val (.int v1), .val (.int v2), .val (.int v3), .val (.int v4), .val (.int v5)] [(.ref a)])) _
    refine st1.trans ?_
    show Steps p.tables e below (T1.setTop (mkF m 4 #[.val (.ref a), .val (.int v0), .val (.int v1), .val (.int v2), .val (.int v3), .val (.int v4), .val (.int v5)] [])) _
    refine XS.aloadN X1.here hx rfl (hb hby d2_4) rfl rfl ?_
    show Steps p.tables e below (T1.setTop (mkF m 5 #[.val (.ref a), .val (.int v0), .val (.int v1), .val (.int v2), .val (.int v3), .val (.int v4), .val (.int v5)] [(.ref a)])) _
    refine XS.iloadN X1.here hx rfl (hb hby d2_5) rfl ?_
    show Steps p.tables e below (T1.setTop (mkF m 6 #[.val (.ref a), .val (.int v0), .val (.int v1), .val (.int v2), .val (.int v3), .val (.int v4), .val (.int v5)] [(.int v0), (.ref a)])) _
    refine st2 _ ?_
    show Steps p.tables e below (T2.setTop (mkF m 9 #[.val (.ref a), .val (.int v0), .val (.int v1), .val (.int v2), .val (.int v3), .val (.int v4), .val (.int v5)] [])) _
    refine XS.aloadN X2.here hx rfl (hb hby d2_9) rfl rfl ?_
    show Steps p.tables e below (T2.setTop (mkF m 10 #[.val (.ref a), .val (.int v0), .val (.int v1), .val (.int v2), .val (.int v3), .val (.int v4), .val (.int v5)] [(.ref a)])) _
    refine XS.iloadN X2.here hx rfl (hb hby d2_10) rfl ?_
    show Steps p.tables e below (T2.setTop (mkF m 11 #[.val (.ref a), .val (.int v0), .val (.int v1), .val (.int v2), .val (.int v3), .val (.int v4), .val (.int v5)] [(.int v1), (.ref a)])) _
    refine st5 _ ?_
    show Steps p.tables e below (T5.setTop (mkF m 14 #[.val (.ref a), .val (.int v0), .val (.int v1), .val (.int v2), .val (.int v3), .val (.int v4), .val (.int v5)] [])) _
    refine XS.aloadN X5.here hx rfl (hb hby d2_14) rfl rfl ?_
    show Steps p.tables e below (T5.setTop (mkF m 15 #[.val (.ref a), .val (.int v0), .val (.int v1), .val (.int v2), .val (.int v3), .val (.int v4), .val (.int v5)] [(.ref a)])) _
    refine XS.iloadN X5.here hx rfl (hb hby d2_15) rfl ?_
    show Steps p.tables e below (T5.setTop (mkF m 16 #[.val (.ref a), .val (.int v0), .val (.int v1), .val (.int v2), .val (.int v3), .val (.int v4), .val (.int v5)] [(.int v2), (.ref a)])) _
    refine st8 _ ?_
    show Steps p.tables e below (T8.setTop (mkF m 19 #[.val (.ref a), .val (.int v0), .val (.int v1), .val (.int v2), .val (.int v3), .val (.int v4), .val (.int v5)] [])) _
    refine XS.aloadN X8.here hx rfl (hb hby d2_19) rfl rfl ?_
    show Steps p.tables e below (T8.setTop (mkF m 20 #[.val (.ref a), .val (.int v0), .val (.int v1), .val (.int v2), .val (.int v3), .val (.int v4), .val (.int v5)] [(.ref a)])) _
    refine XS.iload X8.here hx rfl (hb hby d2_20) rfl ?_
    show Steps p.tables e below (T8.setTop (mkF m 22 #[.val (.ref a), .val (.int v0), .val (.int v1), .val (.int v2), .val (.int v3), .val (.int v4), .val (.int v5)] [(.int v3), (.ref a)])) _
    refine st11 _ ?_
    show Steps p.tables e below (T11.setTop (mkF m 25 #[.val (.ref a), .val (.int v0), .val (.int v1), .val (.int v2), .val (.int v3), .val (.int v4), .val (.int v5)] [])) _
    refine XS.aloadN X11.here hx rfl (hb hby d2_25) rfl rfl ?_
    show Steps p.tables e below (T11.setTop (mkF m 26 #[.val (.ref a), .val (.int v0), .val (.int v1), .val (.int v2), .val (.int v3), .val (.int v4), .val (.int v5)] [(.ref a)])) _
    refine XS.iload X11.here hx rfl (hb hby d2_26) rfl ?_
    show Steps p.tables e below (T11.setTop (mkF m 28 #[.val (.ref a), .val (.int v0), .val (.int v1), .val (.int v2), .val (.int v3), .val (.int v4), .val (.int v5)] [(.int v4), (.ref a)])) _
    refine st14 _ ?_
    show Steps p.tables e below (T14.setTop (mkF m 31 #[.val (.ref a), .val (.int v0), .val (.int v1), .val (.int v2), .val (.int v3), .val (.int v4), .val (.int v5)] [])) _
    refine XS.aloadN X14.here hx rfl (hb hby d2_31) rfl rfl ?_
    show Steps p.tables e below (T14.setTop (mkF m 32 #[.val (.ref a), .val (.int v0), .val (.int v1), .val (.int v2), .val (.int v3), .val (.int v4), .val (.int v5)] [(.ref a)])) _
    refine XS.iload X14.here hx rfl (hb hby d2_32) rfl ?_
    show Steps p.tables e below (T14.setTop (mkF m 34 #[.val (.ref a), .val (.int v0), .val (.int v1), .val (.int v2), .val (.int v3), .val (.int v4), .val (.int v5)] [(.int v5), (.ref a)])) _
    refine st17 _ ?_
    show Steps p.tables e below (T17.setTop (mkF m 37 #[.val (.ref a), .val (.int v0), .val (.int v1), .val (.int v2), .val (.int v3), .val (.int v4), .val (.int v5)] [])) _
    exact kk
  have k19 : Keep h0 h17 [a] := (Keep.wr (Keep.wr (Keep.wr (Keep.wr (Keep.wr (Keep.wr (Keep.refl h0 [a]) W2 (Or.inl (List.mem_of_getElem? (i := 0) rfl))) W5 (Or.inl (List.mem_of_getElem? (i := 0) rfl))) W8 (Or.inl (List.mem_of_getElem? (i := 0) rfl))) W11 (Or.inl (List.mem_of_getElem? (i := 0) rfl))) W14 (Or.inl (List.mem_of_getElem? (i := 0) rfl))) W17 (Or.inl (List.mem_of_getElem? (i := 0) rfl)))
  have f20 := (Fld.other W17 (Fld.other W14 (Fld.other W11 (Fld.other W8 (Fld.other W5 Fw2 (Or.inr (slot_ne (Or.inr (hw _ (List.mem_of_getElem? (i := 15) rfl))) (Or.inr (hw _ (List.mem_of_getElem? (i := 17) rfl))) (by decide) (t := .char) (t' := .char) (by decide) (by decide)))) (Or.inr (slot_ne (Or.inr (hw _ (List.mem_of_getElem? (i := 15) rfl))) (Or.inr (hw _ (List.mem_of_getElem? (i := 19) rfl))) (by decide) (t := .char) (t' := .char) (by decide) (by decide)))) (Or.inr (slot_ne (Or.inr (hw _ (List.mem_of_getElem? (i := 15) rfl))) (Or.inr (hw _ (List.mem_of_getElem? (i := 21) rfl))) (by decide) (t := .char) (t' := .char) (by decide) (by decide)))) (Or.inr (slot_ne (Or.inr (hw _ (List.mem_of_getElem? (i := 15) rfl))) (Or.inr (hw _ (List.mem_of_getElem? (i := 23) rfl))) (by decide) (t := .char) (t' := .char) (by decide) (by decide)))) (Or.inr (slot_ne (Or.inr (hw _ (List.mem_of_getElem? (i := 15) rfl))) (Or.inr (hw _ (List.mem_of_getElem? (i := 25) rfl))) (by decide) (t := .char) (t' := .char) (by decide) (by decide))))
  have f21 := (Fld.other W17 (Fld.other W14 (Fld.other W11 (Fld.other W8 Fw5 (Or.inr (slot_ne (Or.inr (hw _ (List.mem_of_getElem? (i := 17) rfl))) (Or.inr (hw _ (List.mem_of_getElem? (i := 19) rfl))) (by decide) (t := .char) (t' := .char) (by decide) (by decide)))) (Or.inr (slot_ne (Or.inr (hw _ (List.mem_of_getElem? (i := 17) rfl))) (Or.inr (hw _ (List.mem_of_getElem? (i := 21) rfl))) (by decide) (t := .char) (t' := .char) (by decide) (by decide)))) (Or.inr (slot_ne (Or.inr (hw _ (List.mem_of_getElem? (i := 17) rfl))) (Or.inr (hw _ (List.mem_of_getElem? (i := 23) rfl))) (by decide) (t := .char) (t' := .char) (by decide) (by decide)))) (Or.inr (slot_ne (Or.inr (hw _ (List.mem_of_getElem? (i := 17) rfl))) (Or.inr (hw _ (List.mem_of_getElem? (i := 25) rfl))) (by decide) (t := .char) (t' := .char) (by decide) (by decide))))
  have f22 := (Fld.other W17 (Fld.other W14 (Fld.other W11 Fw8 (Or.inr (slot_ne (Or.inr (hw _ (List.mem_of_getElem? (i := 19) rfl))) (Or.inr (hw _ (List.mem_of_getElem? (i := 21) rfl))) (by decide) (t := .char) (t' := .char) (by decide) (by decide)))) (Or.inr (slot_ne (Or.inr (hw _ (List.mem_of_getElem? (i := 19) rfl))) (Or.inr (hw _ (List.mem_of_getElem? (i := 23) rfl))) (by decide) (t := .char) (t' := .char) (by decide) (by decide)))) (Or.inr (slot_ne (Or.inr (hw _ (List.mem_of_getElem? (i := 19) rfl))) (Or.inr (hw _ (List.mem_of_getElem? (i := 25) rfl))) (by decide) (t := .char) (t' := .char) (by decide) (by decide))))
  have f23 := (Fld.other W17 (Fld.other W14 Fw11 (Or.inr (slot_ne (Or.inr (hw _ (List.mem_of_getElem? (i := 21) rfl))) (Or.inr (hw _ (List.mem_of_getElem? (i := 23) rfl))) (by decide) (t := .char) (t' := .char) (by decide) (by decide)))) (Or.inr (slot_ne (Or.inr (hw _ (List.mem_of_getElem? (i := 21) rfl))) (Or.inr (hw _ (List.mem_of_getElem? (i := 25) rfl))) (by decide) (t := .char) (t' := .char) (by decide) (by decide))))
  have f24 := (Fld.other W17 Fw14 (Or.inr (slot_ne (Or.inr (hw _ (List.mem_of_getElem? (i := 23) rfl))) (Or.inr (hw _ (List.mem_of_getElem? (i := 25) rfl))) (by decide) (t := .char) (t' := .char) (by decide) (by decide))))
  obtain ⟨fs, hr, hrun, hended, hW, hsame⟩ := X17.leave (v := none) (fun _ => rfl)
  refine ⟨_, _, P18 _ ?_, hrun, hended, _, _, rfl, ?_, ⟨_, rfl⟩, hW, hsame.mono (by decide) (by decide)⟩
  · exact X17.returnOut hx Bd.returns (hb hby d2_37) hr
  · show Q2 Z a v0 v1 v2 v3 v4 v5 u0 u1 u2 u3 u4 u5 h0 n0 _ T17.heap _
    rw [e17]
    exact ⟨rfl, N17, k19, f20, f21, f22, f23, f24, Fw17⟩
theorem d3_0 : decode prog_25_method_3_code 0 = .ok (.iload_n 1, 1) := by decide +kernel
theorem d3_1 : decode prog_25_method_3_code 1 = .ok (.aload_n 0, 1) := by decide +kernel
theorem d3_2 : decode prog_25_method_3_code 2 = .ok (.getfield 7, 3) := by decide +kernel
theorem d3_5 : decode prog_25_method_3_code 5 = .ok (.if_icmp .eq 27, 3) := by decide +kernel
theorem d3_8 : decode prog_25_method_3_code 8 = .ok (.iload_n 1, 1) := by decide +kernel
theorem d3_9 : decode prog_25_method_3_code 9 = .ok (.aload_n 0, 1) := by decide +kernel
theorem d3_10 : decode prog_25_method_3_code 10 = .ok (.getfield 13, 3) := by decide +kernel
theorem d3_13 : decode prog_25_method_3_code 13 = .ok (.if_icmp .eq 19, 3) := by decide +kernel
theorem d3_16 : decode prog_25_method_3_code 16 = .ok (.iload_n 1, 1) := by decide +kernel
theorem d3_17 : decode prog_25_method_3_code 17 = .ok (.aload_n 0, 1) := by decide +kernel
theorem d3_18 : decode prog_25_method_3_code 18 = .ok (.getfield 25, 3) := by decide +kernel
theorem d3_21 : decode prog_25_method_3_code 21 = .ok (.if_icmp .eq 11, 3) := by decide +kernel
theorem d3_24 : decode prog_25_method_3_code 24 = .ok (.iload_n 1, 1) := by decide +kernel
theorem d3_25 : decode prog_25_method_3_code 25 = .ok (.aload_n 0, 1) := by decide +kernel
theorem d3_26 : decode prog_25_method_3_code 26 = .ok (.getfield 22, 3) := by decide +kernel
theorem d3_29 : decode prog_25_method_3_code 29 = .ok (.if_icmp .ne 7, 3) := by decide +kernel
theorem d3_32 : decode prog_25_method_3_code 32 = .ok (.iconst 1, 1) := by decide +kernel
theorem d3_33 : decode prog_25_method_3_code 33 = .ok (.goto 4, 3) := by decide +kernel
theorem d3_36 : decode prog_25_method_3_code 36 = .ok (.iconst 0, 1) := by decide +kernel
theorem d3_37 : decode prog_25_method_3_code 37 = .ok (.ireturn, 1) := by decide +kernel
theorem ef_3 (m : MethodId) (x0 : Addr) (x1 : Int32) : entryFrame m #[(.ref x0), (.int x1)] 2 = (mkF m 0 #[.val (.ref x0), .val (.int x1)] []) := by first | (simp [entryFrame, mkF, argsToLocals, Value.category]; done) | rfl
def F3 (cc : Int32) (u0 : Int32) (u1 : Int32) (u4 : Int32) (u5 : Int32) : Int32 := (if cc = u0 then (1 : Int32) else (if cc = u1 then (1 : Int32) else (if cc = u5 then (1 : Int32) else (if cc = u4 then (1 : Int32) else (0 : Int32)))))
def Q3 (Z : State) (a : Addr) (cc : Int32) (u0 : Int32) (u1 : Int32) (u4 : Int32) (u5 : Int32) (h0 : Heap) (n0 : Nat) (vX : Option Value) (hX : Heap) (lX : List Loc) : Prop := vX = some (.int (F3 cc u0 u1 u4 u5)) ∧ Fr n0 lX ∧ (hX = h0)
set_option maxRecDepth 65536 in
set_option maxHeartbeats 40000000 in
theorem rm3 (l : Launch) (Z : State) (a0 : Array Value) (hw : ∀ d ∈ tables_1, d.before a0 Z = true) (ws : List Jvm.Cond) (a : Addr) (cc : Int32) (u0 : Int32) (u1 : Int32) (u4 : Int32) (u5 : Int32) (h0 : Heap) (n0 : Nat) (Z0 : n0 ≤ h0.size) (pr0 : Fld Z h0 a "com/example/quirewire/quirewire/Separators" "component" "C" (.int u0)) (pr1 : Fld Z h0 a "com/example/quirewire/quirewire/Separators" "element" "C" (.int u1)) (pr2 : Fld Z h0 a "com/example/quirewire/quirewire/Separators" "release" "C" (.int u4)) (pr3 : Fld Z h0 a "com/example/quirewire/quirewire/Separators" "terminator" "C" (.int u5)) :
    MetFree l (⟨"com/example/quirewire/quirewire/Separators", "splits", "(C)Z"⟩ : MethodName) (head1 (Jvm.Cond.code (⟨"com/example/quirewire/quirewire/Separators", "splits", "(C)Z"⟩ : MethodName) prog_25_method_3_code 2 (some .boolean) :: ws) ({ frames := 0, cells := 0, slots := 0, locals := 0 } : Room)) (fun aX uX => aX = #[(.ref a), (.int cc)] ∧ Z.Warmed39 uX.vm ∧ uX.heap = h0) (fun _ _ _ _ _ => True) (fun _ uX oX wX => ∃ vX lX, oX = .returned vX ∧ Q3 Z a cc u0 u1 u4 u5 h0 n0 vX wX.heap lX ∧ FrameEnd uX oX wX lX ({ frames := 0, cells := 0, slots := 0, locals := 0 } : Room).cells ({ frames := 0, cells := 0, slots := 0, locals := 0 } : Room).slots) := by
  refine MetFree.of_bodySF (plainFor_of_name pn_1) hisR ?_
  intro p e s m args below meth c s₁ Bd hml0 hP hK
  obtain ⟨rfl, hZ, hh⟩ := hP
  have hx := Bd.exec
  have hby := Bd.bytes
  have hml : c.maxLocals = 2 := hml0
  have hown : s.vm.findClass "com/example/quirewire/quirewire/Separators" = some m.cls := findClass_of_methodNamed Bd.named
  have hnm := (name_of_methodNamed Bd.named Bd.method).1
  have X0 : Stand p l e ({ frames := 0, cells := 0, slots := 0, locals := 0 } : Room) s m #[(.ref a), (.int cc)] below meth c s₁ [] 0 0 := Stand.of_body Bd
  have e0 : s₁.heap = h0 := by rw [← hh, Bd.state]; rfl
  have N0 := Fr.nil n0
  have pre0 : ∀ t, Steps p.tables e below (s₁.setTop (mkF m 0 #[.val (.ref a), .val (.int cc)] [])) t → Steps p.tables e below (s₁.setTop (entryFrame m #[(.ref a), (.int cc)] 2)) t := fun t k => castTop (ef_3 m a cc) k
  obtain ⟨T1, X1, e1, st1⟩ := getF X0 hx hZ hown (host := "") (Or.inl (hw _ (List.mem_of_getElem? (i := 14) rfl))) Via.refl e0 pr0 (g := (mkF m 2 #[.val (.ref a), .val (.int cc)] [(.ref a), (.int cc)])) rfl rfl (hb hby d3_2)
  have P2 : ∀ t, Steps p.tables e below (T1.setTop (mkF m 5 #[.val (.ref a), .val (.int cc)] [(.int u0), (.int cc)])) t → Steps p.tables e below (s₁.setTop (entryFrame m #[(.ref a), (.int cc)] 2)) t := by
    intro t kk
    refine pre0 _ ?_
    show Steps p.tables e below (s₁.setTop (mkF m 0 #[.val (.ref a), .val (.int cc)] [])) _
    refine XS.iloadN X0.here hx rfl (hb hby d3_0) rfl ?_
    show Steps p.tables e below (s₁.setTop (mkF m 1 #[.val (.ref a), .val (.int cc)] [(.int cc)])) _
    refine XS.aloadN X0.here hx rfl (hb hby d3_1) rfl rfl ?_
    show Steps p.tables e below (s₁.setTop (mkF m 2 #[.val (.ref a), .val (.int cc)] [(.ref a), (.int cc)])) _
    refine st1 _ ?_
    show Steps p.tables e below (T1.setTop (mkF m 5 #[.val (.ref a), .val (.int cc)] [(.int u0), (.int cc)])) _
    exact kk
  by_cases c3 : cc = u0
  · skip
    have P4 : ∀ t, Steps p.tables e below (T1.setTop (mkF m 37 #[.val (.ref a), .val (.int cc)] [(.int (1 : Int32))])) t → Steps p.tables e below (s₁.setTop (entryFrame m #[(.ref a), (.int cc)] 2)) t := by
      intro t kk
      refine P2 _ ?_
      show Steps p.tables e below (T1.setTop (mkF m 5 #[.val (.ref a), .val (.int cc)] [(.int u0), (.int cc)])) _
      refine XS.icmpYes X1.here hx rfl (pc0 := 5) (pc' := 32) rfl (hb hby d3_5) rfl (XT.ii_eq_t c3) (by decide) (by decide) ?_
      show Steps p.tables e below (T1.setTop (mkF m 32 #[.val (.ref a), .val (.int cc)] [])) _
      refine XS.iconst X1.here hx rfl (hb hby d3_32) ?_
      show Steps p.tables e below (T1.setTop (mkF m 33 #[.val (.ref a), .val (.int cc)] [(.int (1 : Int32))])) _
      refine XS.goto X1.here hx rfl (pc0 := 33) (pc' := 37) rfl (hb hby d3_33) (by decide) (by decide) ?_
      show Steps p.tables e below (T1.setTop (mkF m 37 #[.val (.ref a), .val (.int cc)] [(.int (1 : Int32))])) _
      exact kk
    obtain ⟨fs, hr, hrun, hended, hW, hsame⟩ := X1.leave (v := some (.int (1 : Int32))) (fun h => by rw [Bd.returns] at h; cases h)
    refine ⟨_, _, P4 _ ?_, hrun, hended, _, _, rfl, ?_, ⟨_, rfl⟩, hW, hsame.mono (by decide) (by decide)⟩
    · exact retN X1 hx (t := .boolean) Bd.returns (by simp) (hb hby d3_37) hr
    · show Q3 Z a cc u0 u1 u4 u5 h0 n0 _ T1.heap _
      rw [e1]
      exact ⟨congrArg (fun z => some (Value.int z)) (show (F3 cc u0 u1 u4 u5) = _ from ((if_pos c3).trans rfl)).symm, N0, rfl⟩
  · skip
    obtain ⟨T5, X5, e5, st5⟩ := getF X1 hx hZ hown (host := "") (Or.inl (hw _ (List.mem_of_getElem? (i := 16) rfl))) Via.refl e1 pr1 (g := (mkF m 10 #[.val (.ref a), .val (.int cc)] [(.ref a), (.int cc)])) rfl rfl (hb hby d3_10)
    have P6 : ∀ t, Steps p.tables e below (T5.setTop (mkF m 13 #[.val (.ref a), .val (.int cc)] [(.int u1), (.int cc)])) t → Steps p.tables e below (s₁.setTop (entryFrame m #[(.ref a), (.int cc)] 2)) t := by
      intro t kk
      refine P2 _ ?_
      show Steps p.tables e below (T1.setTop (mkF m 5 #[.val (.ref a), .val (.int cc)] [(.int u0), (.int cc)])) _
      refine XS.icmpNo X1.here hx rfl (hb hby d3_5) rfl (XT.ii_eq_f c3) ?_
      show Steps p.tables e below (T1.setTop (mkF m 8 #[.val (.ref a), .val (.int cc)] [])) _
      refine XS.iloadN X1.here hx rfl (hb hby d3_8) rfl ?_
      show Steps p.tables e below (T1.setTop (mkF m 9 #[.val (.ref a), .val (.int cc)] [(.int cc)])) _
      refine XS.aloadN X1.here hx rfl (hb hby d3_9) rfl rfl ?_
      show Steps p.tables e below (T1.setTop (mkF m 10 #[.val (.ref a), .val (.int cc)] [(.ref a), (.int cc)])) _
      refine st5 _ ?_
      show Steps p.tables e below (T5.setTop (mkF m 13 #[.val (.ref a), .val (.int cc)] [(.int u1), (.int cc)])) _
      exact kk
    by_cases c7 : cc = u1
    · skip
      have P8 : ∀ t, Steps p.tables e below (T5.setTop (mkF m 37 #[.val (.ref a), .val (.int cc)] [(.int (1 : Int32))])) t → Steps p.tables e below (s₁.setTop (entryFrame m #[(.ref a), (.int cc)] 2)) t := by
        intro t kk
        refine P6 _ ?_
        show Steps p.tables e below (T5.setTop (mkF m 13 #[.val (.ref a), .val (.int cc)] [(.int u1), (.int cc)])) _
        refine XS.icmpYes X5.here hx rfl (pc0 := 13) (pc' := 32) rfl (hb hby d3_13) rfl (XT.ii_eq_t c7) (by decide) (by decide) ?_
        show Steps p.tables e below (T5.setTop (mkF m 32 #[.val (.ref a), .val (.int cc)] [])) _
        refine XS.iconst X5.here hx rfl (hb hby d3_32) ?_
        show Steps p.tables e below (T5.setTop (mkF m 33 #[.val (.ref a), .val (.int cc)] [(.int (1 : Int32))])) _
        refine XS.goto X5.here hx rfl (pc0 := 33) (pc' := 37) rfl (hb hby d3_33) (by decide) (by decide) ?_
        show Steps p.tables e below (T5.setTop (mkF m 37 #[.val (.ref a), .val (.int cc)] [(.int (1 : Int32))])) _
        exact kk
      obtain ⟨fs, hr, hrun, hended, hW, hsame⟩ := X5.leave (v := some (.int (1 : Int32))) (fun h => by rw [Bd.returns] at h; cases h)
      refine ⟨_, _, P8 _ ?_, hrun, hended, _, _, rfl, ?_, ⟨_, rfl⟩, hW, hsame.mono (by decide) (by decide)⟩
      · exact retN X5 hx (t := .boolean) Bd.returns (by simp) (hb hby d3_37) hr
      · show Q3 Z a cc u0 u1 u4 u5 h0 n0 _ T5.heap _
        rw [e5]
        exact ⟨congrArg (fun z => some (Value.int z)) (show (F3 cc u0 u1 u4 u5) = _ from ((if_neg c3).trans ((if_pos c7).trans rfl))).symm, N0, rfl⟩
    · skip
      obtain ⟨T9, X9, e9, st9⟩ := getF X5 hx hZ hown (host := "") (Or.inl (hw _ (List.mem_of_getElem? (i := 24) rfl))) Via.refl e5 pr3 (g := (mkF m 18 #[.val (.ref a), .val (.int cc)] [(.ref a), (.int cc)])) rfl rfl (hb hby d3_18)
      have P10 : ∀ t, Steps p.tables e below (T9.setTop (mkF m 21 #[.val (.ref a), .val (.int cc)] [(.int u5), (.int cc)])) t → Steps p.tables e below (s₁.setTop (entryFrame m #[(.ref a), (.int cc)] 2)) t := by
        intro t kk
        refine P6 _ ?_
        show Steps p.tables e below (T5.setTop (mkF m 13 #[.val (.ref a), .val (.int cc)] [(.int u1), (.int cc)])) _
        refine XS.icmpNo X5.here hx rfl (hb hby d3_13) rfl (XT.ii_eq_f c7) ?_
        show Steps p.tables e below (T5.setTop (mkF m 16 #[.val (.ref a), .val (.int cc)] [])) _
        refine XS.iloadN X5.here hx rfl (hb hby d3_16) rfl ?_
        show Steps p.tables e below (T5.setTop (mkF m 17 #[.val (.ref a), .val (.int cc)] [(.int cc)])) _
        refine XS.aloadN X5.here hx rfl (hb hby d3_17) rfl rfl ?_
        show Steps p.tables e below (T5.setTop (mkF m 18 #[.val (.ref a), .val (.int cc)] [(.ref a), (.int cc)])) _
        refine st9 _ ?_
        show Steps p.tables e below (T9.setTop (mkF m 21 #[.val (.ref a), .val (.int cc)] [(.int u5), (.int cc)])) _
        exact kk
      by_cases c11 : cc = u5
      · skip
        have P12 : ∀ t, Steps p.tables e below (T9.setTop (mkF m 37 #[.val (.ref a), .val (.int cc)] [(.int (1 : Int32))])) t → Steps p.tables e below (s₁.setTop (entryFrame m #[(.ref a), (.int cc)] 2)) t := by
          intro t kk
          refine P10 _ ?_
          show Steps p.tables e below (T9.setTop (mkF m 21 #[.val (.ref a), .val (.int cc)] [(.int u5), (.int cc)])) _
          refine XS.icmpYes X9.here hx rfl (pc0 := 21) (pc' := 32) rfl (hb hby d3_21) rfl (XT.ii_eq_t c11) (by decide) (by decide) ?_
          show Steps p.tables e below (T9.setTop (mkF m 32 #[.val (.ref a), .val (.int cc)] [])) _
          refine XS.iconst X9.here hx rfl (hb hby d3_32) ?_
          show Steps p.tables e below (T9.setTop (mkF m 33 #[.val (.ref a), .val (.int cc)] [(.int (1 : Int32))])) _
          refine XS.goto X9.here hx rfl (pc0 := 33) (pc' := 37) rfl (hb hby d3_33) (by decide) (by decide) ?_
          show Steps p.tables e below (T9.setTop (mkF m 37 #[.val (.ref a), .val (.int cc)] [(.int (1 : Int32))])) _
          exact kk
        obtain ⟨fs, hr, hrun, hended, hW, hsame⟩ := X9.leave (v := some (.int (1 : Int32))) (fun h => by rw [Bd.returns] at h; cases h)
        refine ⟨_, _, P12 _ ?_, hrun, hended, _, _, rfl, ?_, ⟨_, rfl⟩, hW, hsame.mono (by decide) (by decide)⟩
        · exact retN X9 hx (t := .boolean) Bd.returns (by simp) (hb hby d3_37) hr
        · show Q3 Z a cc u0 u1 u4 u5 h0 n0 _ T9.heap _
          rw [e9]
          exact ⟨congrArg (fun z => some (Value.int z)) (show (F3 cc u0 u1 u4 u5) = _ from ((if_neg c3).trans ((if_neg c7).trans ((if_pos c11).trans rfl)))).symm, N0, rfl⟩
      · skip
        obtain ⟨T13, X13, e13, st13⟩ := getF X9 hx hZ hown (host := "") (Or.inl (hw _ (List.mem_of_getElem? (i := 22) rfl))) Via.refl e9 pr2 (g := (mkF m 26 #[.val (.ref a), .val (.int cc)] [(.ref a), (.int cc)])) rfl rfl (hb hby d3_26)
        have P14 : ∀ t, Steps p.tables e below (T13.setTop (mkF m 29 #[.val (.ref a), .val (.int cc)] [(.int u4), (.int cc)])) t → Steps p.tables e below (s₁.setTop (entryFrame m #[(.ref a), (.int cc)] 2)) t := by
          intro t kk
          refine P10 _ ?_
          show Steps p.tables e below (T9.setTop (mkF m 21 #[.val (.ref a), .val (.int cc)] [(.int u5), (.int cc)])) _
          refine XS.icmpNo X9.here hx rfl (hb hby d3_21) rfl (XT.ii_eq_f c11) ?_
          show Steps p.tables e below (T9.setTop (mkF m 24 #[.val (.ref a), .val (.int cc)] [])) _
          refine XS.iloadN X9.here hx rfl (hb hby d3_24) rfl ?_
          show Steps p.tables e below (T9.setTop (mkF m 25 #[.val (.ref a), .val (.int cc)] [(.int cc)])) _
          refine XS.aloadN X9.here hx rfl (hb hby d3_25) rfl rfl ?_
          show Steps p.tables e below (T9.setTop (mkF m 26 #[.val (.ref a), .val (.int cc)] [(.ref a), (.int cc)])) _
          refine st13 _ ?_
          show Steps p.tables e below (T13.setTop (mkF m 29 #[.val (.ref a), .val (.int cc)] [(.int u4), (.int cc)])) _
          exact kk
        by_cases c15 : cc = u4
        · skip
          have P16 : ∀ t, Steps p.tables e below (T13.setTop (mkF m 37 #[.val (.ref a), .val (.int cc)] [(.int (1 : Int32))])) t → Steps p.tables e below (s₁.setTop (entryFrame m #[(.ref a), (.int cc)] 2)) t := by
            intro t kk
            refine P14 _ ?_
            show Steps p.tables e below (T13.setTop (mkF m 29 #[.val (.ref a), .val (.int cc)] [(.int u4), (.int cc)])) _
            refine XS.icmpNo X13.here hx rfl (hb hby d3_29) rfl (XT.ii_ne_f c15) ?_
            show Steps p.tables e below (T13.setTop (mkF m 32 #[.val (.ref a), .val (.int cc)] [])) _
            refine XS.iconst X13.here hx rfl (hb hby d3_32) ?_
            show Steps p.tables e below (T13.setTop (mkF m 33 #[.val (.ref a), .val (.int cc)] [(.int (1 : Int32))])) _
            refine XS.goto X13.here hx rfl (pc0 := 33) (pc' := 37) rfl (hb hby d3_33) (by decide) (by decide) ?_
            show Steps p.tables e below (T13.setTop (mkF m 37 #[.val (.ref a), .val (.int cc)] [(.int (1 : Int32))])) _
            exact kk
          obtain ⟨fs, hr, hrun, hended, hW, hsame⟩ := X13.leave (v := some (.int (1 : Int32))) (fun h => by rw [Bd.returns] at h; cases h)
          refine ⟨_, _, P16 _ ?_, hrun, hended, _, _, rfl, ?_, ⟨_, rfl⟩, hW, hsame.mono (by decide) (by decide)⟩
          · exact retN X13 hx (t := .boolean) Bd.returns (by simp) (hb hby d3_37) hr
          · show Q3 Z a cc u0 u1 u4 u5 h0 n0 _ T13.heap _
            rw [e13]
            exact ⟨congrArg (fun z => some (Value.int z)) (show (F3 cc u0 u1 u4 u5) = _ from ((if_neg c3).trans ((if_neg c7).trans ((if_neg c11).trans ((if_pos c15).trans rfl))))).symm, N0, rfl⟩
        · skip
          have P17 : ∀ t, Steps p.tables e below (T13.setTop (mkF m 37 #[.val (.ref a), .val (.int cc)] [(.int (0 : Int32))])) t → Steps p.tables e below (s₁.setTop (entryFrame m #[(.ref a), (.int cc)] 2)) t := by
            intro t kk
            refine P14 _ ?_
            show Steps p.tables e below (T13.setTop (mkF m 29 #[.val (.ref a), .val (.int cc)] [(.int u4), (.int cc)])) _
            refine XS.icmpYes X13.here hx rfl (pc0 := 29) (pc' := 36) rfl (hb hby d3_29) rfl (XT.ii_ne_t c15) (by decide) (by decide) ?_
            show Steps p.tables e below (T13.setTop (mkF m 36 #[.val (.ref a), .val (.int cc)] [])) _
            refine XS.iconst X13.here hx rfl (hb hby d3_36) ?_
            show Steps p.tables e below (T13.setTop (mkF m 37 #[.val (.ref a), .val (.int cc)] [(.int (0 : Int32))])) _
            exact kk
          obtain ⟨fs, hr, hrun, hended, hW, hsame⟩ := X13.leave (v := some (.int (0 : Int32))) (fun h => by rw [Bd.returns] at h; cases h)
          refine ⟨_, _, P17 _ ?_, hrun, hended, _, _, rfl, ?_, ⟨_, rfl⟩, hW, hsame.mono (by decide) (by decide)⟩
          · exact retN X13 hx (t := .boolean) Bd.returns (by simp) (hb hby d3_37) hr
          · show Q3 Z a cc u0 u1 u4 u5 h0 n0 _ T13.heap _
            rw [e13]
            exact ⟨congrArg (fun z => some (Value.int z)) (show (F3 cc u0 u1 u4 u5) = _ from ((if_neg c3).trans ((if_neg c7).trans ((if_neg c11).trans ((if_neg c15).trans rfl))))).symm, N0, rfl⟩
theorem own_cc (x : Int32) : nar .char (x.toUInt32.toUInt16.toUInt32.toInt32) = x.toUInt32.toUInt16.toUInt32.toInt32 := by
  have h1 := c_i2c x
  have h := c_i2c (x.toUInt32.toUInt16.toUInt32.toInt32)
  refine Int32.toInt_inj.mp ?_
  show ((x.toUInt32.toUInt16.toUInt32.toInt32).toUInt32.toUInt16.toUInt32.toInt32).toInt = _
  omega
theorem own_k (p : Int32) (h : ¬ (3 : Int32) < (p &&& (7 : Int32))) : (p &&& (7 : Int32)) = (0 : Int32) ∨ (p &&& (7 : Int32)) = (1 : Int32) ∨ (p &&& (7 : Int32)) = (2 : Int32) ∨ (p &&& (7 : Int32)) = (3 : Int32) := by
  have h1 := c_mask p 7 3 (by decide) (by decide)
  rw [Int32.lt_iff_toInt_lt, show (3 : Int32).toInt = 3 by decide] at h
  have h3 : (p &&& (7 : Int32)).toInt = 0 ∨ (p &&& (7 : Int32)).toInt = 1 ∨ (p &&& (7 : Int32)).toInt = 2 ∨ (p &&& (7 : Int32)).toInt = 3 := by omega
  rcases h3 with h | h | h | h
  · exact Or.inl (Int32.toInt_inj.mp (h.trans (by decide)))
  · exact Or.inr (Or.inl (Int32.toInt_inj.mp (h.trans (by decide))))
  · exact Or.inr (Or.inr (Or.inl (Int32.toInt_inj.mp (h.trans (by decide)))))
  · exact Or.inr (Or.inr (Or.inr (Int32.toInt_inj.mp (h.trans (by decide)))))
theorem own_plain0 (p0 : Int32) (p1 : Int32) (p2 : Int32) (p3 : Int32) (i1 : Int32) (h_i1 : i1 = (((((p0).toUInt32 >>> ((16 : Int32) &&& 31).toUInt32).toInt32)).toUInt32.toUInt16.toUInt32.toInt32)) (i2 : Int32) (h_i2 : i2 = (((((p1).toUInt32 >>> ((16 : Int32) &&& 31).toUInt32).toInt32)).toUInt32.toUInt16.toUInt32.toInt32)) (i3 : Int32) (h_i3 : i3 = (((((p2).toUInt32 >>> ((16 : Int32) &&& 31).toUInt32).toInt32)).toUInt32.toUInt16.toUInt32.toInt32)) (i8 : Int32) (h_i8 : i8 = (((((p3).toUInt32 >>> ((16 : Int32) &&& 31).toUInt32).toInt32)).toUInt32.toUInt16.toUInt32.toInt32)) (i10 : Int32) (h_i10 : i10 = (if (p3 &&& (7 : Int32)) = (0 : Int32) then ((p0).toUInt32.toUInt16.toUInt32.toInt32) else (if (p3 &&& (7 : Int32)) = (1 : Int32) then i1 else (if (p3 &&& (7 : Int32)) = (2 : Int32) then i3 else (if (p3 &&& (7 : Int32)) = (3 : Int32) then ((p2).toUInt32.toUInt16.toUInt32.toInt32) else (if (p3 &&& (7 : Int32)) = (4 : Int32) then ((p1).toUInt32.toUInt16.toUInt32.toInt32) else (if (p3 &&& (7 : Int32)) = (5 : Int32) then i2 else (if (p3 &&& (7 : Int32)) = (6 : Int32) then (65535 : Int32) else i8)))))))) (i26 : Int32) (h_i26 : i26 = (if (3 : Int32) < (p3 &&& (7 : Int32)) then (if i10 = ((p0).toUInt32.toUInt16.toUInt32.toInt32) then (1 : Int32) else (if i10 = i1 then (1 : Int32) else (if i10 = i3 then (1 : Int32) else (if i10 = ((p2).toUInt32.toUInt16.toUInt32.toInt32) then (1 : Int32) else (0 : Int32))))) else (1 : Int32))) (i41 : Int32) (h_i41 : i41 = (if (F3 i10 (nar .char ((p0).toUInt32.toUInt16.toUInt32.toInt32)) (nar .char i1) (nar .char ((p2).toUInt32.toUInt16.toUInt32.toInt32)) (nar .char i3)) = i26 then (1 : Int32) else (0 : Int32)))  : i41 = (1 : Int32) := by
  have e0 := own_cc p0
  have e1 : nar .char i1 = i1 := by rw [h_i1]; exact own_cc _
  have e2 := own_cc p2
  have e3 : nar .char i3 = i3 := by rw [h_i3]; exact own_cc _
  rw [h_i41, if_pos]
  rw [e0, e1, e2, e3, h_i26]
  unfold F3
  by_cases k3 : (3 : Int32) < (p3 &&& (7 : Int32))
  · rw [if_pos k3]
  · rw [if_neg k3]
    rcases own_k p3 k3 with h | h | h | h
    · rw [if_pos h] at h_i10
      rw [if_pos h_i10]
    · rw [if_neg (by rw [h]; decide), if_pos h] at h_i10
      repeat' split
      all_goals first | rfl | contradiction
    · rw [if_neg (by rw [h]; decide), if_neg (by rw [h]; decide), if_pos h] at h_i10
      repeat' split
      all_goals first | rfl | contradiction
    · rw [if_neg (by rw [h]; decide), if_neg (by rw [h]; decide), if_neg (by rw [h]; decide), if_pos h] at h_i10
      repeat' split
      all_goals first | rfl | contradiction
theorem ef_0 (m : MethodId) (x0 : Int32) (x1 : Int32) (x2 : Int32) (x3 : Int32) : entryFrame m #[(.int x0), (.int x1), (.int x2), (.int x3)] maxLocals = (mkF m 0 #[.val (.int x0), .val (.int x1), .val (.int x2), .val (.int x3), .unset, .unset, .unset, .unset, .unset, .unset, .unset, .unset, .unset, .unset, .unset] []) := by first | (simp [entryFrame, mkF, argsToLocals, Value.category, maxLocals]; done) | rfl
def Q0 (Z : State) (h0 : Heap) (n0 : Nat) (v : Option Value) (h : Heap) (L : List Loc) : Prop := v = some (.int (1 : Int32)) ∧ Fr n0 L
set_option maxRecDepth 65536 in
set_option maxHeartbeats 400000000 in
theorem rm0 (l : Launch) (Z : State) (a0 : Array Value) (hw : ∀ d ∈ tables_1, d.before a0 Z = true) (ws : List Jvm.Cond) (p0 : Int32) (p1 : Int32) (p2 : Int32) (p3 : Int32) (h0 : Heap) (n0 : Nat) (Z0 : n0 ≤ h0.size)  :
    MetFree l x (head1 (Jvm.Cond.code x code maxLocals ret :: ws) room_1) (fun a U => a = #[(.int p0), (.int p1), (.int p2), (.int p3)] ∧ Z.Warmed39 U.vm ∧ U.heap = h0) (fun _ _ _ _ _ => True) (fun _ U o U' => ∃ v L, o = .returned v ∧ Q0 Z h0 n0 v U'.heap L ∧ FrameEnd U o U' L room_1.cells room_1.slots) := by
  refine MetFree.of_bodySF (plainFor_of_name pn_2) hisR ?_
  intro p e s m args below meth c s₁ Bd hml0 hP hK
  obtain ⟨rfl, hZ, hh⟩ := hP
  have hx := Bd.exec
  have hby := Bd.bytes
  have hml : c.maxLocals = 15 := hml0
  have hown : s.vm.findClass "com/example/quirewire/quirewire/SeparatorsSplitsPinLaw" = some m.cls := findClass_of_methodNamed Bd.named
  have hnm := (name_of_methodNamed Bd.named Bd.method).1
  have X0 : Stand p l e room_1 s m #[(.int p0), (.int p1), (.int p2), (.int p3)] below meth c s₁ [] 0 0 := Stand.of_body Bd
  have e0 : s₁.heap = h0 := by rw [← hh, Bd.state]; rfl
  have N0 := Fr.nil n0
  have pre0 : ∀ t, Steps p.tables e below (s₁.setTop (mkF m 0 #[.val (.int p0), .val (.int p1), .val (.int p2), .val (.int p3), .unset, .unset, .unset, .unset, .unset, .unset, .unset, .unset, .unset, .unset, .unset] [])) t → Steps p.tables e below (s₁.setTop (entryFrame m #[(.int p0), (.int p1), (.int p2), (.int p3)] maxLocals)) t := fun t k => castTop (ef_0 m p0 p1 p2 p3) k
  obtain ⟨i1, h_i1⟩ : ∃ z : Int32, z = (((((p0).toUInt32 >>> ((16 : Int32) &&& 31).toUInt32).toInt32)).toUInt32.toUInt16.toUInt32.toInt32) := ⟨_, rfl⟩
  obtain ⟨i2, h_i2⟩ : ∃ z : Int32, z = (((((p1).toUInt32 >>> ((16 : Int32) &&& 31).toUInt32).toInt32)).toUInt32.toUInt16.toUInt32.toInt32) := ⟨_, rfl⟩
  obtain ⟨i3, h_i3⟩ : ∃ z : Int32, z = (((((p2).toUInt32 >>> ((16 : Int32) &&& 31).toUInt32).toInt32)).toUInt32.toUInt16.toUInt32.toInt32) := ⟨_, rfl⟩
  obtain ⟨T4, h4, X4, e4, E4, A4, D4, -, st4⟩ := newO X0 hx hZ hown (hw _ (List.mem_of_getElem? (i := 0) rfl)) (hw _ (List.mem_of_getElem? (i := 1) rfl)) (hw _ (List.mem_of_getElem? (i := 2) rfl)) e0 (g := (mkF m 33 #[.val (.int p0), .val (.int p1), .val (.int p2), .val (.int p3), .val (.int ((p0).toUInt32.toUInt16.toUInt32.toInt32)), .val (.int i1), .val (.int ((p1).toUInt32.toUInt16.toUInt32.toInt32)), .val (.int i2), .val (.int ((p2).toUInt32.toUInt16.toUInt32.toInt32)), .val (.int i3), .unset, .unset, .unset, .unset, .unset] [])) rfl (hb hby at_33) (by decide) (by decide)
  obtain ⟨b4, g_b4⟩ : ∃ z, z = h0.size := ⟨_, rfl⟩
  rw [← g_b4] at A4 D4 st4
  have ge_b4 : n0 ≤ b4 := Nat.le_trans Z0 (Nat.le_of_eq g_b4.symm)
  have sz_b4 : h0.size ≤ b4 := Nat.le_trans (Keep.refl h0 []).1 (Nat.le_of_eq g_b4.symm)
  have F4_15 : Fld Z h4 b4 "com/example/quirewire/quirewire/Separators" "component" "C" (.int (0 : Int32)) := D4 (Or.inr (hw _ (List.mem_of_getElem? (i := 15) rfl))) (ty := .char) (by decide)
  have F4_17 : Fld Z h4 b4 "com/example/quirewire/quirewire/Separators" "element" "C" (.int (0 : Int32)) := D4 (Or.inr (hw _ (List.mem_of_getElem? (i := 17) rfl))) (ty := .char) (by decide)
  have F4_19 : Fld Z h4 b4 "com/example/quirewire/quirewire/Separators" "tag" "C" (.int (0 : Int32)) := D4 (Or.inr (hw _ (List.mem_of_getElem? (i := 19) rfl))) (ty := .char) (by decide)
  have F4_21 : Fld Z h4 b4 "com/example/quirewire/quirewire/Separators" "decimalMark" "C" (.int (0 : Int32)) := D4 (Or.inr (hw _ (List.mem_of_getElem? (i := 21) rfl))) (ty := .char) (by decide)
  have F4_23 : Fld Z h4 b4 "com/example/quirewire/quirewire/Separators" "release" "C" (.int (0 : Int32)) := D4 (Or.inr (hw _ (List.mem_of_getElem? (i := 23) rfl))) (ty := .char) (by decide)
  have F4_25 : Fld Z h4 b4 "com/example/quirewire/quirewire/Separators" "terminator" "C" (.int (0 : Int32)) := D4 (Or.inr (hw _ (List.mem_of_getElem? (i := 25) rfl))) (ty := .char) (by decide)
  have P5 : ∀ t, Steps p.tables e below (T4.setTop (mkF m 39 #[.val (.int p0), .val (.int p1), .val (.int p2), .val (.int p3), .val (.int ((p0).toUInt32.toUInt16.toUInt32.toInt32)), .val (.int i1), .val (.int ((p1).toUInt32.toUInt16.toUInt32.toInt32)), .val (.int i2), .val (.int ((p2).toUInt32.toUInt16.toUInt32.toInt32)), .val (.int i3), .unset, .unset, .unset, .unset, .unset] [(.int ((p0).toUInt32.toUInt16.toUInt32.toInt32)), (.ref b4), (.ref b4)])) t → Steps p.tables e below (s₁.setTop (entryFrame m #[(.int p0), (.int p1), (.int p2), (.int p3)] maxLocals)) t := by
    intro t kk
    refine pre0 _ ?_
    show Steps p.tables e below (s₁.setTop (mkF m 0 #[.val (.int p0), .val (.int p1), .val (.int p2), .val (.int p3), .unset, .unset, .unset, .unset, .unset, .unset, .unset, .unset, .unset, .unset, .unset] [])) _
    refine XS.iloadN X0.here hx rfl (hb hby at_0) rfl ?_
    show Steps p.tables e below (s₁.setTop (mkF m 1 #[.val (.int p0), .val (.int p1), .val (.int p2), .val (.int p3), .unset, .unset, .unset, .unset, .unset, .unset, .unset, .unset, .unset, .unset, .unset] [(.int p0)])) _
    refine XS.i2c X0.here hx rfl (hb hby at_1) rfl ?_
    show Steps p.tables e below (s₁.setTop (mkF m 2 #[.val (.int p0), .val (.int p1), .val (.int p2), .val (.int p3), .unset, .unset, .unset, .unset, .unset, .unset, .unset, .unset, .unset, .unset, .unset] [(.int ((p0).toUInt32.toUInt16.toUInt32.toInt32))])) _
    refine XS.istore X0.here hx rfl (hb hby at_2) rfl (l' := #[.val (.int p0), .val (.int p1), .val (.int p2), .val (.int p3), .val (.int ((p0).toUInt32.toUInt16.toUInt32.toInt32)), .unset, .unset, .unset, .unset, .unset, .unset, .unset, .unset, .unset, .unset]) rfl ?_
    show Steps p.tables e below (s₁.setTop (mkF m 4 #[.val (.int p0), .val (.int p1), .val (.int p2), .val (.int p3), .val (.int ((p0).toUInt32.toUInt16.toUInt32.toInt32)), .unset, .unset, .unset, .unset, .unset, .unset, .unset, .unset, .unset, .unset] [])) _
    refine XS.iloadN X0.here hx rfl (hb hby at_4) rfl ?_
    show Steps p.tables e below (s₁.setTop (mkF m 5 #[.val (.int p0), .val (.int p1), .val (.int p2), .val (.int p3), .val (.int ((p0).toUInt32.toUInt16.toUInt32.toInt32)), .unset, .unset, .unset, .unset, .unset, .unset, .unset, .unset, .unset, .unset] [(.int p0)])) _
    refine XS.bipush X0.here hx rfl (hb hby at_5) ?_
    show Steps p.tables e below (s₁.setTop (mkF m 7 #[.val (.int p0), .val (.int p1), .val (.int p2), .val (.int p3), .val (.int ((p0).toUInt32.toUInt16.toUInt32.toInt32)), .unset, .unset, .unset, .unset, .unset, .unset, .unset, .unset, .unset, .unset] [(.int (16 : Int32)), (.int p0)])) _
    refine XS.iushr X0.here hx rfl (hb hby at_7) rfl ?_
    show Steps p.tables e below (s₁.setTop (mkF m 8 #[.val (.int p0), .val (.int p1), .val (.int p2), .val (.int p3), .val (.int ((p0).toUInt32.toUInt16.toUInt32.toInt32)), .unset, .unset, .unset, .unset, .unset, .unset, .unset, .unset, .unset, .unset] [(.int (((p0).toUInt32 >>> ((16 : Int32) &&& 31).toUInt32).toInt32))])) _
    refine XS.i2c X0.here hx rfl (hb hby at_8) rfl ?_
    show Steps p.tables e below (s₁.setTop (mkF m 9 #[.val (.int p0), .val (.int p1), .val (.int p2), .val (.int p3), .val (.int ((p0).toUInt32.toUInt16.toUInt32.toInt32)), .unset, .unset, .unset, .unset, .unset, .unset, .unset, .unset, .unset, .unset] [(.int (((((p0).toUInt32 >>> ((16 : Int32) &&& 31).toUInt32).toInt32)).toUInt32.toUInt16.toUInt32.toInt32))])) _
    rw [← h_i1]
    show Steps p.tables e below (s₁.setTop (mkF m 9 #[.val (.int p0), .val (.int p1), .val (.int p2), .val (.int p3), .val (.int ((p0).toUInt32.toUInt16.toUInt32.toInt32)), .unset, .unset, .unset, .unset, .unset, .unset, .unset, .unset, .unset, .unset] [(.int i1)])) _
    refine XS.istore X0.here hx rfl (hb hby at_9) rfl (l' := #[.val (.int p0), .val (.int p1), .val (.int p2), .val (.int p3), .val (.int ((p0).toUInt32.toUInt16.toUInt32.toInt32)), .val (.int i1), .unset, .unset, .unset, .unset, .unset, .unset, .unset, .unset, .unset]) rfl ?_
    show Steps p.tables e below (s₁.setTop (mkF m 11 #[.val (.int p0), .val (.int p1), .val (.int p2), .val (.int p3), .val (.int ((p0).toUInt32.toUInt16.toUInt32.toInt32)), .val (.int i1), .unset, .unset, .unset, .unset, .unset, .unset, .unset, .unset, .unset] [])) _
    refine XS.iloadN X0.here hx rfl (hb hby at_11) rfl ?_
    show Steps p.tables e below (s₁.setTop (mkF m 12 #[.val (.int p0), .val (.int p1), .val (.int p2), .val (.int p3), .val (.int ((p0).toUInt32.toUInt16.toUInt32.toInt32)), .val (.int i1), .unset, .unset, .unset, .unset, .unset, .unset, .unset, .unset, .unset] [(.int p1)])) _
    refine XS.i2c X0.here hx rfl (hb hby at_12) rfl ?_
    show Steps p.tables e below (s₁.setTop (mkF m 13 #[.val (.int p0), .val (.int p1), .val (.int p2), .val (.int p3), .val (.int ((p0).toUInt32.toUInt16.toUInt32.toInt32)), .val (.int i1), .unset, .unset, .unset, .unset, .unset, .unset, .unset, .unset, .unset] [(.int ((p1).toUInt32.toUInt16.toUInt32.toInt32))])) _
    refine XS.istore X0.here hx rfl (hb hby at_13) rfl (l' := #[.val (.int p0), .val (.int p1), .val (.int p2), .val (.int p3), .val (.int ((p0).toUInt32.toUInt16.toUInt32.toInt32)), .val (.int i1), .val (.int ((p1).toUInt32.toUInt16.toUInt32.toInt32)), .unset, .unset, .unset, .unset, .unset, .unset, .unset, .unset]) rfl ?_
    show Steps p.tables e below (s₁.setTop (mkF m 15 #[.val (.int p0), .val (.int p1), .val (.int p2), .val (.int p3), .val (.int ((p0).toUInt32.toUInt16.toUInt32.toInt32)), .val (.int i1), .val (.int ((p1).toUInt32.toUInt16.toUInt32.toInt32)), .unset, .unset, .unset, .unset, .unset, .unset, .unset, .unset] [])) _
    refine XS.iloadN X0.here hx rfl (hb hby at_15) rfl ?_
    show Steps p.tables e below (s₁.setTop (mkF m 16 #[.val (.int p0), .val (.int p1), .val (.int p2), .val (.int p3), .val (.int ((p0).toUInt32.toUInt16.toUInt32.toInt32)), .val (.int i1), .val (.int ((p1).toUInt32.toUInt16.toUInt32.toInt32)), .unset, .unset, .unset, .unset, .unset, .unset, .unset, .unset] [(.int p1)])) _
    refine XS.bipush X0.here hx rfl (hb hby at_16) ?_
    show Steps p.tables e below (s₁.setTop (mkF m 18 #[.val (.int p0), .val (.int p1), .val (.int p2), .val (.int p3), .val (.int ((p0).toUInt32.toUInt16.toUInt32.toInt32)), .val (.int i1), .val (.int ((p1).toUInt32.toUInt16.toUInt32.toInt32)), .unset, .unset, .unset, .unset, .unset, .unset, .unset, .unset] [(.int (16 : Int32)), (.int p1)])) _
    refine XS.iushr X0.here hx rfl (hb hby at_18) rfl ?_
    show Steps p.tables e below (s₁.setTop (mkF m 19 #[.val (.int p0), .val (.int p1), .val (.int p2), .val (.int p3), .val (.int ((p0).toUInt32.toUInt16.toUInt32.toInt32)), .val (.int i1), .val (.int ((p1).toUInt32.toUInt16.toUInt32.toInt32)), .unset, .unset, .unset, .unset, .unset, .unset, .unset, .unset] [(.int (((p1).toUInt32 >>> ((16 : Int32) &&& 31).toUInt32).toInt32))])) _
    refine XS.i2c X0.here hx rfl (hb hby at_19) rfl ?_
    show Steps p.tables e below (s₁.setTop (mkF m 20 #[.val (.int p0), .val (.int p1), .val (.int p2), .val (.int p3), .val (.int ((p0).toUInt32.toUInt16.toUInt32.toInt32)), .val (.int i1), .val (.int ((p1).toUInt32.toUInt16.toUInt32.toInt32)), .unset, .unset, .unset, .unset, .unset, .unset, .unset, .unset] [(.int (((((p1).toUInt32 >>> ((16 : Int32) &&& 31).toUInt32).toInt32)).toUInt32.toUInt16.toUInt32.toInt32))])) _
    rw [← h_i2]
    show Steps p.tables e below (s₁.setTop (mkF m 20 #[.val (.int p0), .val (.int p1), .val (.int p2), .val (.int p3), .val (.int ((p0).toUInt32.toUInt16.toUInt32.toInt32)), .val (.int i1), .val (.int ((p1).toUInt32.toUInt16.toUInt32.toInt32)), .unset, .unset, .unset, .unset, .unset, .unset, .unset, .unset] [(.int i2)])) _
    refine XS.istore X0.here hx rfl (hb hby at_20) rfl (l' := #[.val (.int p0), .val (.int p1), .val (.int p2), .val (.int p3), .val (.int ((p0).toUInt32.toUInt16.toUInt32.toInt32)), .val (.int i1), .val (.int ((p1).toUInt32.toUInt16.toUInt32.toInt32)), .val (.int i2), .unset, .unset, .unset, .unset, .unset, .unset, .unset]) rfl ?_
    show Steps p.tables e below (s₁.setTop (mkF m 22 #[.val (.int p0), .val (.int p1), .val (.int p2), .val (.int p3), .val (.int ((p0).toUInt32.toUInt16.toUInt32.toInt32)), .val (.int i1), .val (.int ((p1).toUInt32.toUInt16.toUInt32.toInt32)), .val (.int i2), .unset, .unset, .unset, .unset, .unset, .unset, .unset] [])) _
    refine XS.iloadN X0.here hx rfl (hb hby at_22) rfl ?_
    show Steps p.tables e below (s₁.setTop (mkF m 23 #[.val (.int p0), .val (.int p1), .val (.int p2), .val (.int p3), .val (.int ((p0).toUInt32.toUInt16.toUInt32.toInt32)), .val (.int i1), .val (.int ((p1).toUInt32.toUInt16.toUInt32.toInt32)), .val (.int i2), .unset, .unset, .unset, .unset, .unset, .unset, .unset] [(.int p2)])) _
    refine XS.i2c X0.here hx rfl (hb hby at_23) rfl ?_
    show Steps p.tables e below (s₁.setTop (mkF m 24 #[.val (.int p0), .val (.int p1), .val (.int p2), .val (.int p3), .val (.int ((p0).toUInt32.toUInt16.toUInt32.toInt32)), .val (.int i1), .val (.int ((p1).toUInt32.toUInt16.toUInt32.toInt32)), .val (.int i2), .unset, .unset, .unset, .unset, .unset, .unset, .unset] [(.int ((p2).toUInt32.toUInt16.toUInt32.toInt32))])) _
    refine XS.istore X0.here hx rfl (hb hby at_24) rfl (l' := #[.val (.int p0), .val (.int p1), .val (.int p2), .val (.int p3), .val (.int ((p0).toUInt32.toUInt16.toUInt32.toInt32)), .val (.int i1), .val (.int ((p1).toUInt32.toUInt16.toUInt32.toInt32)), .val (.int i2), .val (.int ((p2).toUInt32.toUInt16.toUInt32.toInt32)), .unset, .unset, .unset, .unset, .unset, .unset]) rfl ?_
    show Steps p.tables e below (s₁.setTop (mkF m 26 #[.val (.int p0), .val (.int p1), .val (.int p2), .val (.int p3), .val (.int ((p0).toUInt32.toUInt16.toUInt32.toInt32)), .val (.int i1), .val (.int ((p1).toUInt32.toUInt16.toUInt32.toInt32)), .val (.int i2), .val (.int ((p2).toUInt32.toUInt16.toUInt32.toInt32)), .unset, .unset, .unset, .unset, .unset, .unset] [])) _
    refine XS.iloadN X0.here hx rfl (hb hby at_26) rfl ?_
    show Steps p.tables e below (s₁.setTop (mkF m 27 #[.val (.int p0), .val (.int p1), .val (.int p2), .val (.int p3), .val (.int ((p0).toUInt32.toUInt16.toUInt32.toInt32)), .val (.int i1), .val (.int ((p1).toUInt32.toUInt16.toUInt32.toInt32)), .val (.int i2), .val (.int ((p2).toUInt32.toUInt16.toUInt32.toInt32)), .unset, .unset, .unset, .unset, .unset, .unset] [(.int p2)])) _
    refine XS.bipush X0.here hx rfl (hb hby at_27) ?_
    show Steps p.tables e below (s₁.setTop (mkF m 29 #[.val (.int p0), .val (.int p1), .val (.int p2), .val (.int p3), .val (.int ((p0).toUInt32.toUInt16.toUInt32.toInt32)), .val (.int i1), .val (.int ((p1).toUInt32.toUInt16.toUInt32.toInt32)), .val (.int i2), .val (.int ((p2).toUInt32.toUInt16.toUInt32.toInt32)), .unset, .unset, .unset, .unset, .unset, .unset] [(.int (16 : Int32)), (.int p2)])) _
    refine XS.iushr X0.here hx rfl (hb hby at_29) rfl ?_
    show Steps p.tables e below (s₁.setTop (mkF m 30 #[.val (.int p0), .val (.int p1), .val (.int p2), .val (.int p3), .val (.int ((p0).toUInt32.toUInt16.toUInt32.toInt32)), .val (.int i1), .val (.int ((p1).toUInt32.toUInt16.toUInt32.toInt32)), .val (.int i2), .val (.int ((p2).toUInt32.toUInt16.toUInt32.toInt32)), .unset, .unset, .unset, .unset, .unset, .unset] [(.int (((p2).toUInt32 >>> ((16 : Int32) &&& 31).toUInt32).toInt32))])) _
    refine XS.i2c X0.here hx rfl (hb hby at_30) rfl ?_
    show Steps p.tables e below (s₁.setTop (mkF m 31 #[.val (.int p0), .val (.int p1), .val (.int p2), .val (.int p3), .val (.int ((p0).toUInt32.toUInt16.toUInt32.toInt32)), .val (.int i1), .val (.int ((p1).toUInt32.toUInt16.toUInt32.toInt32)), .val (.int i2), .val (.int ((p2).toUInt32.toUInt16.toUInt32.toInt32)), .unset, .unset, .unset, .unset, .unset, .unset] [(.int (((((p2).toUInt32 >>> ((16 : Int32) &&& 31).toUInt32).toInt32)).toUInt32.toUInt16.toUInt32.toInt32))])) _
    rw [← h_i3]
    show Steps p.tables e below (s₁.setTop (mkF m 31 #[.val (.int p0), .val (.int p1), .val (.int p2), .val (.int p3), .val (.int ((p0).toUInt32.toUInt16.toUInt32.toInt32)), .val (.int i1), .val (.int ((p1).toUInt32.toUInt16.toUInt32.toInt32)), .val (.int i2), .val (.int ((p2).toUInt32.toUInt16.toUInt32.toInt32)), .unset, .unset, .unset, .unset, .unset, .unset] [(.int i3)])) _
    refine XS.istore X0.here hx rfl (hb hby at_31) rfl (l' := #[.val (.int p0), .val (.int p1), .val (.int p2), .val (.int p3), .val (.int ((p0).toUInt32.toUInt16.toUInt32.toInt32)), .val (.int i1), .val (.int ((p1).toUInt32.toUInt16.toUInt32.toInt32)), .val (.int i2), .val (.int ((p2).toUInt32.toUInt16.toUInt32.toInt32)), .val (.int i3), .unset, .unset, .unset, .unset, .unset]) rfl ?_
    show Steps p.tables e below (s₁.setTop (mkF m 33 #[.val (.int p0), .val (.int p1), .val (.int p2), .val (.int p3), .val (.int ((p0).toUInt32.toUInt16.toUInt32.toInt32)), .val (.int i1), .val (.int ((p1).toUInt32.toUInt16.toUInt32.toInt32)), .val (.int i2), .val (.int ((p2).toUInt32.toUInt16.toUInt32.toInt32)), .val (.int i3), .unset, .unset, .unset, .unset, .unset] [])) _
    refine st4 _ ?_
    show Steps p.tables e below (T4.setTop (mkF m 36 #[.val (.int p0), .val (.int p1), .val (.int p2), .val (.int p3), .val (.int ((p0).toUInt32.toUInt16.toUInt32.toInt32)), .val (.int i1), .val (.int ((p1).toUInt32.toUInt16.toUInt32.toInt32)), .val (.int i2), .val (.int ((p2).toUInt32.toUInt16.toUInt32.toInt32)), .val (.int i3), .unset, .unset, .unset, .unset, .unset] [(.ref b4)])) _
    refine XS.dup X4.here hx rfl (hb hby at_36) rfl rfl ?_
    show Steps p.tables e below (T4.setTop (mkF m 37 #[.val (.int p0), .val (.int p1), .val (.int p2), .val (.int p3), .val (.int ((p0).toUInt32.toUInt16.toUInt32.toInt32)), .val (.int i1), .val (.int ((p1).toUInt32.toUInt16.toUInt32.toInt32)), .val (.int i2), .val (.int ((p2).toUInt32.toUInt16.toUInt32.toInt32)), .val (.int i3), .unset, .unset, .unset, .unset, .unset] [(.ref b4), (.ref b4)])) _
    refine XS.iload X4.here hx rfl (hb hby at_37) rfl ?_
    show Steps p.tables e below (T4.setTop (mkF m 39 #[.val (.int p0), .val (.int p1), .val (.int p2), .val (.int p3), .val (.int ((p0).toUInt32.toUInt16.toUInt32.toInt32)), .val (.int i1), .val (.int ((p1).toUInt32.toUInt16.toUInt32.toInt32)), .val (.int i2), .val (.int ((p2).toUInt32.toUInt16.toUInt32.toInt32)), .val (.int i3), .unset, .unset, .unset, .unset, .unset] [(.int ((p0).toUInt32.toUInt16.toUInt32.toInt32)), (.ref b4), (.ref b4)])) _
    exact kk
  have z7 : n0 ≤ _ := (Nat.le_trans Z0 E4.1)
  obtain ⟨_, _, ⟨T6, L6, k6, n6⟩, -, X6, ⟨Lc6, hQ6, l6, y6, z6⟩, st6⟩ := X4.specialBack hx (y := (⟨"com/example/quirewire/quirewire/Separators", "<init>", "(CCCCCC)V"⟩ : MethodName)) rfl hown (mvT hZ (hw _ (List.mem_of_getElem? (i := 3) rfl))) (mvT hZ (hw _ (List.mem_of_getElem? (i := 4) rfl))) (mvT hZ (hw _ (List.mem_of_getElem? (i := 5) rfl))) (by decide) (backOf (W := 1) (rm2 l Z a0 hw [] b4 ((p0).toUInt32.toUInt16.toUInt32.toInt32) i1 ((p1).toUInt32.toUInt16.toUInt32.toInt32) i2 ((p2).toUInt32.toUInt16.toUInt32.toInt32) i3 (0 : Int32) (0 : Int32) (0 : Int32) (0 : Int32) (0 : Int32) (0 : Int32) h4 n0 z7 A4 F4_15 F4_17 F4_19 F4_21 F4_23 F4_25 ge_b4) hZ (hw _ (List.mem_of_getElem? (i := 5) rfl)) (hw _ (List.mem_of_getElem? (i := 2) rfl)) (by decide) (by decide)) (g := (mkF m 49 #[.val (.int p0), .val (.int p1), .val (.int p2), .val (.int p3), .val (.int ((p0).toUInt32.toUInt16.toUInt32.toInt32)), .val (.int i1), .val (.int ((p1).toUInt32.toUInt16.toUInt32.toInt32)), .val (.int i2), .val (.int ((p2).toUInt32.toUInt16.toUInt32.toInt32)), .val (.int i3), .unset, .unset, .unset, .unset, .unset] [(.int i3), (.int ((p2).toUInt32.toUInt16.toUInt32.toInt32)), (.int i2), (.int ((p1).toUInt32.toUInt16.toUInt32.toInt32)), (.int i1), (.int ((p0).toUInt32.toUInt16.toUInt32.toInt32)), (.ref b4), (.ref b4)])) rfl (by rw [hml]; rfl) (Steps.refl _) (a := b4) (argsL := [(.int ((p0).toUInt32.toUInt16.toUInt32.toInt32)), (.int i1), (.int ((p1).toUInt32.toUInt16.toUInt32.toInt32)), (.int i2), (.int ((p2).toUInt32.toUInt16.toUInt32.toInt32)), (.int i3)]) (rest := [(.ref b4)]) (lenOf pd_1 rfl) rfl (by show 2 * 0 + _ ≤ _; exact Nat.le_of_eq rfl) (hb hby at_49) (fun _ _ => ⟨rfl, e4, (by decide : 1 + 0 ≤ _), (by decide : 6 + 0 ≤ _)⟩)
  dsimp only [Pt.U, Pt.locs, Pt.cells, Pt.slots] at X6 l6 y6 z6 st6 hQ6
  subst l6 y6 z6
  obtain ⟨rfl, Nq6, K6, q6_0, q6_1, q6_2, q6_3, q6_4, q6_5⟩ := hQ6
  have N6 := Fr.app N0 Nq6
  obtain ⟨i8, h_i8⟩ : ∃ z : Int32, z = (((((p3).toUInt32 >>> ((16 : Int32) &&& 31).toUInt32).toInt32)).toUInt32.toUInt16.toUInt32.toInt32) := ⟨_, rfl⟩
  have P9 : ∀ t, Steps p.tables e below (T6.setTop (mkF m 69 #[.val (.int p0), .val (.int p1), .val (.int p2), .val (.int p3), .val (.int ((p0).toUInt32.toUInt16.toUInt32.toInt32)), .val (.int i1), .val (.int ((p1).toUInt32.toUInt16.toUInt32.toInt32)), .val (.int i2), .val (.int ((p2).toUInt32.toUInt16.toUInt32.toInt32)), .val (.int i3), .val (.ref b4), .val (.int (p3 &&& (7 : Int32))), .val (.int i8), .unset, .unset] [(.int (p3 &&& (7 : Int32)))])) t → Steps p.tables e below (s₁.setTop (entryFrame m #[(.int p0), (.int p1), (.int p2), (.int p3)] maxLocals)) t := by
    intro t kk
    refine P5 _ ?_
    show Steps p.tables e below (T4.setTop (mkF m 39 #[.val (.int p0), .val (.int p1), .val (.int p2), .val (.int p3), .val (.int ((p0).toUInt32.toUInt16.toUInt32.toInt32)), .val (.int i1), .val (.int ((p1).toUInt32.toUInt16.toUInt32.toInt32)), .val (.int i2), .val (.int ((p2).toUInt32.toUInt16.toUInt32.toInt32)), .val (.int i3), .unset, .unset, .unset, .unset, .unset] [(.int ((p0).toUInt32.toUInt16.toUInt32.toInt32)), (.ref b4), (.ref b4)])) _
    refine XS.iload X4.here hx rfl (hb hby at_39) rfl ?_
    show Steps p.tables e below (T4.setTop (mkF m 41 #[.val (.int p0), .val (.int p1), .val (.int p2), .val (.int p3), .val (.int ((p0).toUInt32.toUInt16.toUInt32.toInt32)), .val (.int i1), .val (.int ((p1).toUInt32.toUInt16.toUInt32.toInt32)), .val (.int i2), .val (.int ((p2).toUInt32.toUInt16.toUInt32.toInt32)), .val (.int i3), .unset, .unset, .unset, .unset, .unset] [(.int i1), (.int ((p0).toUInt32.toUInt16.toUInt32.toInt32)), (.ref b4), (.ref b4)])) _
    refine XS.iload X4.here hx rfl (hb hby at_41) rfl ?_
    show Steps p.tables e below (T4.setTop (mkF m 43 #[.val (.int p0), .val (.int p1), .val (.int p2), .val (.int p3), .val (.int ((p0).toUInt32.toUInt16.toUInt32.toInt32)), .val (.int i1), .val (.int ((p1).toUInt32.toUInt16.toUInt32.toInt32)), .val (.int i2), .val (.int ((p2).toUInt32.toUInt16.toUInt32.toInt32)), .val (.int i3), .unset, .unset, .unset, .unset, .unset] [(.int ((p1).toUInt32.toUInt16.toUInt32.toInt32)), (.int i1), (.int ((p0).toUInt32.toUInt16.toUInt32.toInt32)), (.ref b4), (.ref b4)])) _
    refine XS.iload X4.here hx rfl (hb hby at_43) rfl ?_
    show Steps p.tables e below (T4.setTop (mkF m 45 #[.val (.int p0), .val (.int p1), .val (.int p2), .val (.int p3), .val (.int ((p0).toUInt32.toUInt16.toUInt32.toInt32)), .val (.int i1), .val (.int ((p1).toUInt32.toUInt16.toUInt32.toInt32)), .val (.int i2), .val (.int ((p2).toUInt32.toUInt16.toUInt32.toInt32)), .val (.int i3), .unset, .unset, .unset, .unset, .unset] [(.int i2), (.int ((p1).toUInt32.toUInt16.toUInt32.toInt32)), (.int i1), (.int ((p0).toUInt32.toUInt16.toUInt32.toInt32)), (.ref b4), (.ref b4)])) _
    refine XS.iload X4.here hx rfl (hb hby at_45) rfl ?_
    show Steps p.tables e below (T4.setTop (mkF m 47 #[.val (.int p0), .val (.int p1), .val (.int p2), .val (.int p3), .val (.int ((p0).toUInt32.toUInt16.toUInt32.toInt32)), .val (.int i1), .val (.int ((p1).toUInt32.toUInt16.toUInt32.toInt32)), .val (.int i2), .val (.int ((p2).toUInt32.toUInt16.toUInt32.toInt32)), .val (.int i3), .unset, .unset, .unset, .unset, .unset] [(.int ((p2).toUInt32.toUInt16.toUInt32.toInt32)), (.int i2), (.int ((p1).toUInt32.toUInt16.toUInt32.toInt32)), (.int i1), (.int ((p0).toUInt32.toUInt16.toUInt32.toInt32)), (.ref b4), (.ref b4)])) _
    refine XS.iload X4.here hx rfl (hb hby at_47) rfl ?_
    show Steps p.tables e below (T4.setTop (mkF m 49 #[.val (.int p0), .val (.int p1), .val (.int p2), .val (.int p3), .val (.int ((p0).toUInt32.toUInt16.toUInt32.toInt32)), .val (.int i1), .val (.int ((p1).toUInt32.toUInt16.toUInt32.toInt32)), .val (.int i2), .val (.int ((p2).toUInt32.toUInt16.toUInt32.toInt32)), .val (.int i3), .unset, .unset, .unset, .unset, .unset] [(.int i3), (.int ((p2).toUInt32.toUInt16.toUInt32.toInt32)), (.int i2), (.int ((p1).toUInt32.toUInt16.toUInt32.toInt32)), (.int i1), (.int ((p0).toUInt32.toUInt16.toUInt32.toInt32)), (.ref b4), (.ref b4)])) _
    refine st6.trans ?_
    show Steps p.tables e below (T6.setTop (mkF m 52 #[.val (.int p0), .val (.int p1), .val (.int p2), .val (.int p3), .val (.int ((p0).toUInt32.toUInt16.toUInt32.toInt32)), .val (.int i1), .val (.int ((p1).toUInt32.toUInt16.toUInt32.toInt32)), .val (.int i2), .val (.int ((p2).toUInt32.toUInt16.toUInt32.toInt32)), .val (.int i3), .unset, .unset, .unset, .unset, .unset] [(.ref b4)])) _
    refine XS.astore X6.here hx rfl (hb hby at_52) rfl rfl (l' := #[.val (.int p0), .val (.int p1), .val (.int p2), .val (.int p3), .val (.int ((p0).toUInt32.toUInt16.toUInt32.toInt32)), .val (.int i1), .val (.int ((p1).toUInt32.toUInt16.toUInt32.toInt32)), .val (.int i2), .val (.int ((p2).toUInt32.toUInt16.toUInt32.toInt32)), .val (.int i3), .val (.ref b4), .unset, .unset, .unset, .unset]) rfl ?_
    show Steps p.tables e below (T6.setTop (mkF m 54 #[.val (.int p0), .val (.int p1), .val (.int p2), .val (.int p3), .val (.int ((p0).toUInt32.toUInt16.toUInt32.toInt32)), .val (.int i1), .val (.int ((p1).toUInt32.toUInt16.toUInt32.toInt32)), .val (.int i2), .val (.int ((p2).toUInt32.toUInt16.toUInt32.toInt32)), .val (.int i3), .val (.ref b4), .unset, .unset, .unset, .unset] [])) _
    refine XS.iloadN X6.here hx rfl (hb hby at_54) rfl ?_
    show Steps p.tables e below (T6.setTop (mkF m 55 #[.val (.int p0), .val (.int p1), .val (.int p2), .val (.int p3), .val (.int ((p0).toUInt32.toUInt16.toUInt32.toInt32)), .val (.int i1), .val (.int ((p1).toUInt32.toUInt16.toUInt32.toInt32)), .val (.int i2), .val (.int ((p2).toUInt32.toUInt16.toUInt32.toInt32)), .val (.int i3), .val (.ref b4), .unset, .unset, .unset, .unset] [(.int p3)])) _
    refine XS.bipush X6.here hx rfl (hb hby at_55) ?_
    show Steps p.tables e below (T6.setTop (mkF m 57 #[.val (.int p0), .val (.int p1), .val (.int p2), .val (.int p3), .val (.int ((p0).toUInt32.toUInt16.toUInt32.toInt32)), .val (.int i1), .val (.int ((p1).toUInt32.toUInt16.toUInt32.toInt32)), .val (.int i2), .val (.int ((p2).toUInt32.toUInt16.toUInt32.toInt32)), .val (.int i3), .val (.ref b4), .unset, .unset, .unset, .unset] [(.int (7 : Int32)), (.int p3)])) _
    refine XS.iand X6.here hx rfl (hb hby at_57) rfl ?_
    show Steps p.tables e below (T6.setTop (mkF m 58 #[.val (.int p0), .val (.int p1), .val (.int p2), .val (.int p3), .val (.int ((p0).toUInt32.toUInt16.toUInt32.toInt32)), .val (.int i1), .val (.int ((p1).toUInt32.toUInt16.toUInt32.toInt32)), .val (.int i2), .val (.int ((p2).toUInt32.toUInt16.toUInt32.toInt32)), .val (.int i3), .val (.ref b4), .unset, .unset, .unset, .unset] [(.int (p3 &&& (7 : Int32)))])) _
    refine XS.istore X6.here hx rfl (hb hby at_58) rfl (l' := #[.val (.int p0), .val (.int p1), .val (.int p2), .val (.int p3), .val (.int ((p0).toUInt32.toUInt16.toUInt32.toInt32)), .val (.int i1), .val (.int ((p1).toUInt32.toUInt16.toUInt32.toInt32)), .val (.int i2), .val (.int ((p2).toUInt32.toUInt16.toUInt32.toInt32)), .val (.int i3), .val (.ref b4), .val (.int (p3 &&& (7 : Int32))), .unset, .unset, .unset]) rfl ?_
    show Steps p.tables e below (T6.setTop (mkF m 60 #[.val (.int p0), .val (.int p1), .val (.int p2), .val (.int p3), .val (.int ((p0).toUInt32.toUInt16.toUInt32.toInt32)), .val (.int i1), .val (.int ((p1).toUInt32.toUInt16.toUInt32.toInt32)), .val (.int i2), .val (.int ((p2).toUInt32.toUInt16.toUInt32.toInt32)), .val (.int i3), .val (.ref b4), .val (.int (p3 &&& (7 : Int32))), .unset, .unset, .unset] [])) _
    refine XS.iloadN X6.here hx rfl (hb hby at_60) rfl ?_
    show Steps p.tables e below (T6.setTop (mkF m 61 #[.val (.int p0), .val (.int p1), .val (.int p2), .val (.int p3), .val (.int ((p0).toUInt32.toUInt16.toUInt32.toInt32)), .val (.int i1), .val (.int ((p1).toUInt32.toUInt16.toUInt32.toInt32)), .val (.int i2), .val (.int ((p2).toUInt32.toUInt16.toUInt32.toInt32)), .val (.int i3), .val (.ref b4), .val (.int (p3 &&& (7 : Int32))), .unset, .unset, .unset] [(.int p3)])) _
    refine XS.bipush X6.here hx rfl (hb hby at_61) ?_
    show Steps p.tables e below (T6.setTop (mkF m 63 #[.val (.int p0), .val (.int p1), .val (.int p2), .val (.int p3), .val (.int ((p0).toUInt32.toUInt16.toUInt32.toInt32)), .val (.int i1), .val (.int ((p1).toUInt32.toUInt16.toUInt32.toInt32)), .val (.int i2), .val (.int ((p2).toUInt32.toUInt16.toUInt32.toInt32)), .val (.int i3), .val (.ref b4), .val (.int (p3 &&& (7 : Int32))), .unset, .unset, .unset] [(.int (16 : Int32)), (.int p3)])) _
    refine XS.iushr X6.here hx rfl (hb hby at_63) rfl ?_
    show Steps p.tables e below (T6.setTop (mkF m 64 #[.val (.int p0), .val (.int p1), .val (.int p2), .val (.int p3), .val (.int ((p0).toUInt32.toUInt16.toUInt32.toInt32)), .val (.int i1), .val (.int ((p1).toUInt32.toUInt16.toUInt32.toInt32)), .val (.int i2), .val (.int ((p2).toUInt32.toUInt16.toUInt32.toInt32)), .val (.int i3), .val (.ref b4), .val (.int (p3 &&& (7 : Int32))), .unset, .unset, .unset] [(.int (((p3).toUInt32 >>> ((16 : Int32) &&& 31).toUInt32).toInt32))])) _
    refine XS.i2c X6.here hx rfl (hb hby at_64) rfl ?_
    show Steps p.tables e below (T6.setTop (mkF m 65 #[.val (.int p0), .val (.int p1), .val (.int p2), .val (.int p3), .val (.int ((p0).toUInt32.toUInt16.toUInt32.toInt32)), .val (.int i1), .val (.int ((p1).toUInt32.toUInt16.toUInt32.toInt32)), .val (.int i2), .val (.int ((p2).toUInt32.toUInt16.toUInt32.toInt32)), .val (.int i3), .val (.ref b4), .val (.int (p3 &&& (7 : Int32))), .unset, .unset, .unset] [(.int (((((p3).toUInt32 >>> ((16 : Int32) &&& 31).toUInt32).toInt32)).toUInt32.toUInt16.toUInt32.toInt32))])) _
    rw [← h_i8]
    show Steps p.tables e below (T6.setTop (mkF m 65 #[.val (.int p0), .val (.int p1), .val (.int p2), .val (.int p3), .val (.int ((p0).toUInt32.toUInt16.toUInt32.toInt32)), .val (.int i1), .val (.int ((p1).toUInt32.toUInt16.toUInt32.toInt32)), .val (.int i2), .val (.int ((p2).toUInt32.toUInt16.toUInt32.toInt32)), .val (.int i3), .val (.ref b4), .val (.int (p3 &&& (7 : Int32))), .unset, .unset, .unset] [(.int i8)])) _
    refine XS.istore X6.here hx rfl (hb hby at_65) rfl (l' := #[.val (.int p0), .val (.int p1), .val (.int p2), .val (.int p3), .val (.int ((p0).toUInt32.toUInt16.toUInt32.toInt32)), .val (.int i1), .val (.int ((p1).toUInt32.toUInt16.toUInt32.toInt32)), .val (.int i2), .val (.int ((p2).toUInt32.toUInt16.toUInt32.toInt32)), .val (.int i3), .val (.ref b4), .val (.int (p3 &&& (7 : Int32))), .val (.int i8), .unset, .unset]) rfl ?_
    show Steps p.tables e below (T6.setTop (mkF m 67 #[.val (.int p0), .val (.int p1), .val (.int p2), .val (.int p3), .val (.int ((p0).toUInt32.toUInt16.toUInt32.toInt32)), .val (.int i1), .val (.int ((p1).toUInt32.toUInt16.toUInt32.toInt32)), .val (.int i2), .val (.int ((p2).toUInt32.toUInt16.toUInt32.toInt32)), .val (.int i3), .val (.ref b4), .val (.int (p3 &&& (7 : Int32))), .val (.int i8), .unset, .unset] [])) _
    refine XS.iload X6.here hx rfl (hb hby at_67) rfl ?_
    show Steps p.tables e below (T6.setTop (mkF m 69 #[.val (.int p0), .val (.int p1), .val (.int p2), .val (.int p3), .val (.int ((p0).toUInt32.toUInt16.toUInt32.toInt32)), .val (.int i1), .val (.int ((p1).toUInt32.toUInt16.toUInt32.toInt32)), .val (.int i2), .val (.int ((p2).toUInt32.toUInt16.toUInt32.toInt32)), .val (.int i3), .val (.ref b4), .val (.int (p3 &&& (7 : Int32))), .val (.int i8), .unset, .unset] [(.int (p3 &&& (7 : Int32)))])) _
    exact kk
  obtain ⟨i10, h_i10, P11⟩ : ∃ (i10 : Int32), i10 = (if (p3 &&& (7 : Int32)) = (0 : Int32) then ((p0).toUInt32.toUInt16.toUInt32.toInt32) else (if (p3 &&& (7 : Int32)) = (1 : Int32) then i1 else (if (p3 &&& (7 : Int32)) = (2 : Int32) then i3 else (if (p3 &&& (7 : Int32)) = (3 : Int32) then ((p2).toUInt32.toUInt16.toUInt32.toInt32) else (if (p3 &&& (7 : Int32)) = (4 : Int32) then ((p1).toUInt32.toUInt16.toUInt32.toInt32) else (if (p3 &&& (7 : Int32)) = (5 : Int32) then i2 else (if (p3 &&& (7 : Int32)) = (6 : Int32) then (65535 : Int32) else i8))))))) ∧ ∀ t, Steps p.tables e below (T6.setTop (mkF m 162 #[.val (.int p0), .val (.int p1), .val (.int p2), .val (.int p3), .val (.int ((p0).toUInt32.toUInt16.toUInt32.toInt32)), .val (.int i1), .val (.int ((p1).toUInt32.toUInt16.toUInt32.toInt32)), .val (.int i2), .val (.int ((p2).toUInt32.toUInt16.toUInt32.toInt32)), .val (.int i3), .val (.ref b4), .val (.int (p3 &&& (7 : Int32))), .val (.int i8), .val (.int i10), .unset] [])) t → Steps p.tables e below (s₁.setTop (entryFrame m #[(.int p0), (.int p1), (.int p2), (.int p3)] maxLocals)) t := by
    by_cases c12 : (p3 &&& (7 : Int32)) = (0 : Int32)
    · skip
      refine ⟨((p0).toUInt32.toUInt16.toUInt32.toInt32), ((if_pos c12).trans rfl).symm, fun t kk => P9 t ?_⟩
      show Steps p.tables e below (T6.setTop (mkF m 69 #[.val (.int p0), .val (.int p1), .val (.int p2), .val (.int p3), .val (.int ((p0).toUInt32.toUInt16.toUInt32.toInt32)), .val (.int i1), .val (.int ((p1).toUInt32.toUInt16.toUInt32.toInt32)), .val (.int i2), .val (.int ((p2).toUInt32.toUInt16.toUInt32.toInt32)), .val (.int i3), .val (.ref b4), .val (.int (p3 &&& (7 : Int32))), .val (.int i8), .unset, .unset] [(.int (p3 &&& (7 : Int32)))])) _
      refine XS.ifNo X6.here hx rfl (hb hby at_69) rfl (XT.i0_ne_f c12) ?_
      show Steps p.tables e below (T6.setTop (mkF m 72 #[.val (.int p0), .val (.int p1), .val (.int p2), .val (.int p3), .val (.int ((p0).toUInt32.toUInt16.toUInt32.toInt32)), .val (.int i1), .val (.int ((p1).toUInt32.toUInt16.toUInt32.toInt32)), .val (.int i2), .val (.int ((p2).toUInt32.toUInt16.toUInt32.toInt32)), .val (.int i3), .val (.ref b4), .val (.int (p3 &&& (7 : Int32))), .val (.int i8), .unset, .unset] [])) _
      refine XS.iload X6.here hx rfl (hb hby at_72) rfl ?_
      show Steps p.tables e below (T6.setTop (mkF m 74 #[.val (.int p0), .val (.int p1), .val (.int p2), .val (.int p3), .val (.int ((p0).toUInt32.toUInt16.toUInt32.toInt32)), .val (.int i1), .val (.int ((p1).toUInt32.toUInt16.toUInt32.toInt32)), .val (.int i2), .val (.int ((p2).toUInt32.toUInt16.toUInt32.toInt32)), .val (.int i3), .val (.ref b4), .val (.int (p3 &&& (7 : Int32))), .val (.int i8), .unset, .unset] [(.int ((p0).toUInt32.toUInt16.toUInt32.toInt32))])) _
      refine XS.istore X6.here hx rfl (hb hby at_74) rfl (l' := #[.val (.int p0), .val (.int p1), .val (.int p2), .val (.int p3), .val (.int ((p0).toUInt32.toUInt16.toUInt32.toInt32)), .val (.int i1), .val (.int ((p1).toUInt32.toUInt16.toUInt32.toInt32)), .val (.int i2), .val (.int ((p2).toUInt32.toUInt16.toUInt32.toInt32)), .val (.int i3), .val (.ref b4), .val (.int (p3 &&& (7 : Int32))), .val (.int i8), .val (.int ((p0).toUInt32.toUInt16.toUInt32.toInt32)), .unset]) rfl ?_
      show Steps p.tables e below (T6.setTop (mkF m 76 #[.val (.int p0), .val (.int p1), .val (.int p2), .val (.int p3), .val (.int ((p0).toUInt32.toUInt16.toUInt32.toInt32)), .val (.int i1), .val (.int ((p1).toUInt32.toUInt16.toUInt32.toInt32)), .val (.int i2), .val (.int ((p2).toUInt32.toUInt16.toUInt32.toInt32)), .val (.int i3), .val (.ref b4), .val (.int (p3 &&& (7 : Int32))), .val (.int i8), .val (.int ((p0).toUInt32.toUInt16.toUInt32.toInt32)), .unset] [])) _
      refine XS.goto X6.here hx rfl (pc0 := 76) (pc' := 162) rfl (hb hby at_76) (by decide) (by decide) ?_
      show Steps p.tables e below (T6.setTop (mkF m 162 #[.val (.int p0), .val (.int p1), .val (.int p2), .val (.int p3), .val (.int ((p0).toUInt32.toUInt16.toUInt32.toInt32)), .val (.int i1), .val (.int ((p1).toUInt32.toUInt16.toUInt32.toInt32)), .val (.int i2), .val (.int ((p2).toUInt32.toUInt16.toUInt32.toInt32)), .val (.int i3), .val (.ref b4), .val (.int (p3 &&& (7 : Int32))), .val (.int i8), .val (.int ((p0).toUInt32.toUInt16.toUInt32.toInt32)), .unset] [])) _
      exact kk
    · skip
      have P13 : ∀ t, Steps p.tables e below (T6.setTop (mkF m 82 #[.val (.int p0), .val (.int p1), .val (.int p2), .val (.int p3), .val (.int ((p0).toUInt32.toUInt16.toUInt32.toInt32)), .val (.int i1), .val (.int ((p1).toUInt32.toUInt16.toUInt32.toInt32)), .val (.int i2), .val (.int ((p2).toUInt32.toUInt16.toUInt32.toInt32)), .val (.int i3), .val (.ref b4), .val (.int (p3 &&& (7 : Int32))), .val (.int i8), .unset, .unset] [(.int (1 : Int32)), (.int (p3 &&& (7 : Int32)))])) t → Steps p.tables e below (s₁.setTop (entryFrame m #[(.int p0), (.int p1), (.int p2), (.int p3)] maxLocals)) t := by
        intro t kk
        refine P9 _ ?_
        show Steps p.tables e below (T6.setTop (mkF m 69 #[.val (.int p0), .val (.int p1), .val (.int p2), .val (.int p3), .val (.int ((p0).toUInt32.toUInt16.toUInt32.toInt32)), .val (.int i1), .val (.int ((p1).toUInt32.toUInt16.toUInt32.toInt32)), .val (.int i2), .val (.int ((p2).toUInt32.toUInt16.toUInt32.toInt32)), .val (.int i3), .val (.ref b4), .val (.int (p3 &&& (7 : Int32))), .val (.int i8), .unset, .unset] [(.int (p3 &&& (7 : Int32)))])) _
        refine XS.ifYes X6.here hx rfl (pc0 := 69) (pc' := 79) rfl (hb hby at_69) rfl (XT.i0_ne_t c12) (by decide) (by decide) ?_
        show Steps p.tables e below (T6.setTop (mkF m 79 #[.val (.int p0), .val (.int p1), .val (.int p2), .val (.int p3), .val (.int ((p0).toUInt32.toUInt16.toUInt32.toInt32)), .val (.int i1), .val (.int ((p1).toUInt32.toUInt16.toUInt32.toInt32)), .val (.int i2), .val (.int ((p2).toUInt32.toUInt16.toUInt32.toInt32)), .val (.int i3), .val (.ref b4), .val (.int (p3 &&& (7 : Int32))), .val (.int i8), .unset, .unset] [])) _
        refine XS.iload X6.here hx rfl (hb hby at_79) rfl ?_
        show Steps p.tables e below (T6.setTop (mkF m 81 #[.val (.int p0), .val (.int p1), .val (.int p2), .val (.int p3), .val (.int ((p0).toUInt32.toUInt16.toUInt32.toInt32)), .val (.int i1), .val (.int ((p1).toUInt32.toUInt16.toUInt32.toInt32)), .val (.int i2), .val (.int ((p2).toUInt32.toUInt16.toUInt32.toInt32)), .val (.int i3), .val (.ref b4), .val (.int (p3 &&& (7 : Int32))), .val (.int i8), .unset, .unset] [(.int (p3 &&& (7 : Int32)))])) _
        refine XS.iconst X6.here hx rfl (hb hby at_81) ?_
        show Steps p.tables e below (T6.setTop (mkF m 82 #[.val (.int p0), .val (.int p1), .val (.int p2), .val (.int p3), .val (.int ((p0).toUInt32.toUInt16.toUInt32.toInt32)), .val (.int i1), .val (.int ((p1).toUInt32.toUInt16.toUInt32.toInt32)), .val (.int i2), .val (.int ((p2).toUInt32.toUInt16.toUInt32.toInt32)), .val (.int i3), .val (.ref b4), .val (.int (p3 &&& (7 : Int32))), .val (.int i8), .unset, .unset] [(.int (1 : Int32)), (.int (p3 &&& (7 : Int32)))])) _
        exact kk
      by_cases c14 : (p3 &&& (7 : Int32)) = (1 : Int32)
      · skip
        refine ⟨i1, ((if_neg c12).trans ((if_pos c14).trans rfl)).symm, fun t kk => P13 t ?_⟩
        show Steps p.tables e below (T6.setTop (mkF m 82 #[.val (.int p0), .val (.int p1), .val (.int p2), .val (.int p3), .val (.int ((p0).toUInt32.toUInt16.toUInt32.toInt32)), .val (.int i1), .val (.int ((p1).toUInt32.toUInt16.toUInt32.toInt32)), .val (.int i2), .val (.int ((p2).toUInt32.toUInt16.toUInt32.toInt32)), .val (.int i3), .val (.ref b4), .val (.int (p3 &&& (7 : Int32))), .val (.int i8), .unset, .unset] [(.int (1 : Int32)), (.int (p3 &&& (7 : Int32)))])) _
        refine XS.icmpNo X6.here hx rfl (hb hby at_82) rfl (XT.ii_ne_f c14) ?_
        show Steps p.tables e below (T6.setTop (mkF m 85 #[.val (.int p0), .val (.int p1), .val (.int p2), .val (.int p3), .val (.int ((p0).toUInt32.toUInt16.toUInt32.toInt32)), .val (.int i1), .val (.int ((p1).toUInt32.toUInt16.toUInt32.toInt32)), .val (.int i2), .val (.int ((p2).toUInt32.toUInt16.toUInt32.toInt32)), .val (.int i3), .val (.ref b4), .val (.int (p3 &&& (7 : Int32))), .val (.int i8), .unset, .unset] [])) _
        refine XS.iload X6.here hx rfl (hb hby at_85) rfl ?_
        show Steps p.tables e below (T6.setTop (mkF m 87 #[.val (.int p0), .val (.int p1), .val (.int p2), .val (.int p3), .val (.int ((p0).toUInt32.toUInt16.toUInt32.toInt32)), .val (.int i1), .val (.int ((p1).toUInt32.toUInt16.toUInt32.toInt32)), .val (.int i2), .val (.int ((p2).toUInt32.toUInt16.toUInt32.toInt32)), .val (.int i3), .val (.ref b4), .val (.int (p3 &&& (7 : Int32))), .val (.int i8), .unset, .unset] [(.int i1)])) _
        refine XS.istore X6.here hx rfl (hb hby at_87) rfl (l' := #[.val (.int p0), .val (.int p1), .val (.int p2), .val (.int p3), .val (.int ((p0).toUInt32.toUInt16.toUInt32.toInt32)), .val (.int i1), .val (.int ((p1).toUInt32.toUInt16.toUInt32.toInt32)), .val (.int i2), .val (.int ((p2).toUInt32.toUInt16.toUInt32.toInt32)), .val (.int i3), .val (.ref b4), .val (.int (p3 &&& (7 : Int32))), .val (.int i8), .val (.int i1), .unset]) rfl ?_
        show Steps p.tables e below (T6.setTop (mkF m 89 #[.val (.int p0), .val (.int p1), .val (.int p2), .val (.int p3), .val (.int ((p0).toUInt32.toUInt16.toUInt32.toInt32)), .val (.int i1), .val (.int ((p1).toUInt32.toUInt16.toUInt32.toInt32)), .val (.int i2), .val (.int ((p2).toUInt32.toUInt16.toUInt32.toInt32)), .val (.int i3), .val (.ref b4), .val (.int (p3 &&& (7 : Int32))), .val (.int i8), .val (.int i1), .unset] [])) _
        refine XS.goto X6.here hx rfl (pc0 := 89) (pc' := 162) rfl (hb hby at_89) (by decide) (by decide) ?_
        show Steps p.tables e below (T6.setTop (mkF m 162 #[.val (.int p0), .val (.int p1), .val (.int p2), .val (.int p3), .val (.int ((p0).toUInt32.toUInt16.toUInt32.toInt32)), .val (.int i1), .val (.int ((p1).toUInt32.toUInt16.toUInt32.toInt32)), .val (.int i2), .val (.int ((p2).toUInt32.toUInt16.toUInt32.toInt32)), .val (.int i3), .val (.ref b4), .val (.int (p3 &&& (7 : Int32))), .val (.int i8), .val (.int i1), .unset] [])) _
        exact kk
      · skip
        have P15 : ∀ t, Steps p.tables e below (T6.setTop (mkF m 95 #[.val (.int p0), .val (.int p1), .val (.int p2), .val (.int p3), .val (.int ((p0).toUInt32.toUInt16.toUInt32.toInt32)), .val (.int i1), .val (.int ((p1).toUInt32.toUInt16.toUInt32.toInt32)), .val (.int i2), .val (.int ((p2).toUInt32.toUInt16.toUInt32.toInt32)), .val (.int i3), .val (.ref b4), .val (.int (p3 &&& (7 : Int32))), .val (.int i8), .unset, .unset] [(.int (2 : Int32)), (.int (p3 &&& (7 : Int32)))])) t → Steps p.tables e below (s₁.setTop (entryFrame m #[(.int p0), (.int p1), (.int p2), (.int p3)] maxLocals)) t := by
          intro t kk
          refine P13 _ ?_
          show Steps p.tables e below (T6.setTop (mkF m 82 #[.val (.int p0), .val (.int p1), .val (.int p2), .val (.int p3), .val (.int ((p0).toUInt32.toUInt16.toUInt32.toInt32)), .val (.int i1), .val (.int ((p1).toUInt32.toUInt16.toUInt32.toInt32)), .val (.int i2), .val (.int ((p2).toUInt32.toUInt16.toUInt32.toInt32)), .val (.int i3), .val (.ref b4), .val (.int (p3 &&& (7 : Int32))), .val (.int i8), .unset, .unset] [(.int (1 : Int32)), (.int (p3 &&& (7 : Int32)))])) _
          refine XS.icmpYes X6.here hx rfl (pc0 := 82) (pc' := 92) rfl (hb hby at_82) rfl (XT.ii_ne_t c14) (by decide) (by decide) ?_
          show Steps p.tables e below (T6.setTop (mkF m 92 #[.val (.int p0), .val (.int p1), .val (.int p2), .val (.int p3), .val (.int ((p0).toUInt32.toUInt16.toUInt32.toInt32)), .val (.int i1), .val (.int ((p1).toUInt32.toUInt16.toUInt32.toInt32)), .val (.int i2), .val (.int ((p2).toUInt32.toUInt16.toUInt32.toInt32)), .val (.int i3), .val (.ref b4), .val (.int (p3 &&& (7 : Int32))), .val (.int i8), .unset, .unset] [])) _
          refine XS.iload X6.here hx rfl (hb hby at_92) rfl ?_
          show Steps p.tables e below (T6.setTop (mkF m 94 #[.val (.int p0), .val (.int p1), .val (.int p2), .val (.int p3), .val (.int ((p0).toUInt32.toUInt16.toUInt32.toInt32)), .val (.int i1), .val (.int ((p1).toUInt32.toUInt16.toUInt32.toInt32)), .val (.int i2), .val (.int ((p2).toUInt32.toUInt16.toUInt32.toInt32)), .val (.int i3), .val (.ref b4), .val (.int (p3 &&& (7 : Int32))), .val (.int i8), .unset, .unset] [(.int (p3 &&& (7 : Int32)))])) _
          refine XS.iconst X6.here hx rfl (hb hby at_94) ?_
          show Steps p.tables e below (T6.setTop (mkF m 95 #[.val (.int p0), .val (.int p1), .val (.int p2), .val (.int p3), .val (.int ((p0).toUInt32.toUInt16.toUInt32.toInt32)), .val (.int i1), .val (.int ((p1).toUInt32.toUInt16.toUInt32.toInt32)), .val (.int i2), .val (.int ((p2).toUInt32.toUInt16.toUInt32.toInt32)), .val (.int i3), .val (.ref b4), .val (.int (p3 &&& (7 : Int32))), .val (.int i8), .unset, .unset] [(.int (2 : Int32)), (.int (p3 &&& (7 : Int32)))])) _
          exact kk
        by_cases c16 : (p3 &&& (7 : Int32)) = (2 : Int32)
        · skip
          refine ⟨i3, ((if_neg c12).trans ((if_neg c14).trans ((if_pos c16).trans rfl))).symm, fun t kk => P15 t ?_⟩
          show Steps p.tables e below (T6.setTop (mkF m 95 #[.val (.int p0), .val (.int p1), .val (.int p2), .val (.int p3), .val (.int ((p0).toUInt32.toUInt16.toUInt32.toInt32)), .val (.int i1), .val (.int ((p1).toUInt32.toUInt16.toUInt32.toInt32)), .val (.int i2), .val (.int ((p2).toUInt32.toUInt16.toUInt32.toInt32)), .val (.int i3), .val (.ref b4), .val (.int (p3 &&& (7 : Int32))), .val (.int i8), .unset, .unset] [(.int (2 : Int32)), (.int (p3 &&& (7 : Int32)))])) _
          refine XS.icmpNo X6.here hx rfl (hb hby at_95) rfl (XT.ii_ne_f c16) ?_
          show Steps p.tables e below (T6.setTop (mkF m 98 #[.val (.int p0), .val (.int p1), .val (.int p2), .val (.int p3), .val (.int ((p0).toUInt32.toUInt16.toUInt32.toInt32)), .val (.int i1), .val (.int ((p1).toUInt32.toUInt16.toUInt32.toInt32)), .val (.int i2), .val (.int ((p2).toUInt32.toUInt16.toUInt32.toInt32)), .val (.int i3), .val (.ref b4), .val (.int (p3 &&& (7 : Int32))), .val (.int i8), .unset, .unset] [])) _
          refine XS.iload X6.here hx rfl (hb hby at_98) rfl ?_
          show Steps p.tables e below (T6.setTop (mkF m 100 #[.val (.int p0), .val (.int p1), .val (.int p2), .val (.int p3), .val (.int ((p0).toUInt32.toUInt16.toUInt32.toInt32)), .val (.int i1), .val (.int ((p1).toUInt32.toUInt16.toUInt32.toInt32)), .val (.int i2), .val (.int ((p2).toUInt32.toUInt16.toUInt32.toInt32)), .val (.int i3), .val (.ref b4), .val (.int (p3 &&& (7 : Int32))), .val (.int i8), .unset, .unset] [(.int i3)])) _
          refine XS.istore X6.here hx rfl (hb hby at_100) rfl (l' := #[.val (.int p0), .val (.int p1), .val (.int p2), .val (.int p3), .val (.int ((p0).toUInt32.toUInt16.toUInt32.toInt32)), .val (.int i1), .val (.int ((p1).toUInt32.toUInt16.toUInt32.toInt32)), .val (.int i2), .val (.int ((p2).toUInt32.toUInt16.toUInt32.toInt32)), .val (.int i3), .val (.ref b4), .val (.int (p3 &&& (7 : Int32))), .val (.int i8), .val (.int i3), .unset]) rfl ?_
          show Steps p.tables e below (T6.setTop (mkF m 102 #[.val (.int p0), .val (.int p1), .val (.int p2), .val (.int p3), .val (.int ((p0).toUInt32.toUInt16.toUInt32.toInt32)), .val (.int i1), .val (.int ((p1).toUInt32.toUInt16.toUInt32.toInt32)), .val (.int i2), .val (.int ((p2).toUInt32.toUInt16.toUInt32.toInt32)), .val (.int i3), .val (.ref b4), .val (.int (p3 &&& (7 : Int32))), .val (.int i8), .val (.int i3), .unset] [])) _
          refine XS.goto X6.here hx rfl (pc0 := 102) (pc' := 162) rfl (hb hby at_102) (by decide) (by decide) ?_
          show Steps p.tables e below (T6.setTop (mkF m 162 #[.val (.int p0), .val (.int p1), .val (.int p2), .val (.int p3), .val (.int ((p0).toUInt32.toUInt16.toUInt32.toInt32)), .val (.int i1), .val (.int ((p1).toUInt32.toUInt16.toUInt32.toInt32)), .val (.int i2), .val (.int ((p2).toUInt32.toUInt16.toUInt32.toInt32)), .val (.int i3), .val (.ref b4), .val (.int (p3 &&& (7 : Int32))), .val (.int i8), .val (.int i3), .unset] [])) _
          exact kk
        · skip
          have P17 : ∀ t, Steps p.tables e below (T6.setTop (mkF m 108 #[.val (.int p0), .val (.int p1), .val (.int p2), .val (.int p3), .val (.int ((p0).toUInt32.toUInt16.toUInt32.toInt32)), .val (.int i1), .val (.int ((p1).toUInt32.toUInt16.toUInt32.toInt32)), .val (.int i2), .val (.int ((p2).toUInt32.toUInt16.toUInt32.toInt32)), .val (.int i3), .val (.ref b4), .val (.int (p3 &&& (7 : Int32))), .val (.int i8), .unset, .unset] [(.int (3 : Int32)), (.int (p3 &&& (7 : Int32)))])) t → Steps p.tables e below (s₁.setTop (entryFrame m #[(.int p0), (.int p1), (.int p2), (.int p3)] maxLocals)) t := by
            intro t kk
            refine P15 _ ?_
            show Steps p.tables e below (T6.setTop (mkF m 95 #[.val (.int p0), .val (.int p1), .val (.int p2), .val (.int p3), .val (.int ((p0).toUInt32.toUInt16.toUInt32.toInt32)), .val (.int i1), .val (.int ((p1).toUInt32.toUInt16.toUInt32.toInt32)), .val (.int i2), .val (.int ((p2).toUInt32.toUInt16.toUInt32.toInt32)), .val (.int i3), .val (.ref b4), .val (.int (p3 &&& (7 : Int32))), .val (.int i8), .unset, .unset] [(.int (2 : Int32)), (.int (p3 &&& (7 : Int32)))])) _
            refine XS.icmpYes X6.here hx rfl (pc0 := 95) (pc' := 105) rfl (hb hby at_95) rfl (XT.ii_ne_t c16) (by decide) (by decide) ?_
            show Steps p.tables e below (T6.setTop (mkF m 105 #[.val (.int p0), .val (.int p1), .val (.int p2), .val (.int p3), .val (.int ((p0).toUInt32.toUInt16.toUInt32.toInt32)), .val (.int i1), .val (.int ((p1).toUInt32.toUInt16.toUInt32.toInt32)), .val (.int i2), .val (.int ((p2).toUInt32.toUInt16.toUInt32.toInt32)), .val (.int i3), .val (.ref b4), .val (.int (p3 &&& (7 : Int32))), .val (.int i8), .unset, .unset] [])) _
            refine XS.iload X6.here hx rfl (hb hby at_105) rfl ?_
            show Steps p.tables e below (T6.setTop (mkF m 107 #[.val (.int p0), .val (.int p1), .val (.int p2), .val (.int p3), .val (.int ((p0).toUInt32.toUInt16.toUInt32.toInt32)), .val (.int i1), .val (.int ((p1).toUInt32.toUInt16.toUInt32.toInt32)), .val (.int i2), .val (.int ((p2).toUInt32.toUInt16.toUInt32.toInt32)), .val (.int i3), .val (.ref b4), .val (.int (p3 &&& (7 : Int32))), .val (.int i8), .unset, .unset] [(.int (p3 &&& (7 : Int32)))])) _
            refine XS.iconst X6.here hx rfl (hb hby at_107) ?_
            show Steps p.tables e below (T6.setTop (mkF m 108 #[.val (.int p0), .val (.int p1), .val (.int p2), .val (.int p3), .val (.int ((p0).toUInt32.toUInt16.toUInt32.toInt32)), .val (.int i1), .val (.int ((p1).toUInt32.toUInt16.toUInt32.toInt32)), .val (.int i2), .val (.int ((p2).toUInt32.toUInt16.toUInt32.toInt32)), .val (.int i3), .val (.ref b4), .val (.int (p3 &&& (7 : Int32))), .val (.int i8), .unset, .unset] [(.int (3 : Int32)), (.int (p3 &&& (7 : Int32)))])) _
            exact kk
          by_cases c18 : (p3 &&& (7 : Int32)) = (3 : Int32)
          · skip
            refine ⟨((p2).toUInt32.toUInt16.toUInt32.toInt32), ((if_neg c12).trans ((if_neg c14).trans ((if_neg c16).trans ((if_pos c18).trans rfl)))).symm, fun t kk => P17 t ?_⟩
            show Steps p.tables e below (T6.setTop (mkF m 108 #[.val (.int p0), .val (.int p1), .val (.int p2), .val (.int p3), .val (.int ((p0).toUInt32.toUInt16.toUInt32.toInt32)), .val (.int i1), .val (.int ((p1).toUInt32.toUInt16.toUInt32.toInt32)), .val (.int i2), .val (.int ((p2).toUInt32.toUInt16.toUInt32.toInt32)), .val (.int i3), .val (.ref b4), .val (.int (p3 &&& (7 : Int32))), .val (.int i8), .unset, .unset] [(.int (3 : Int32)), (.int (p3 &&& (7 : Int32)))])) _
            refine XS.icmpNo X6.here hx rfl (hb hby at_108) rfl (XT.ii_ne_f c18) ?_
            show Steps p.tables e below (T6.setTop (mkF m 111 #[.val (.int p0), .val (.int p1), .val (.int p2), .val (.int p3), .val (.int ((p0).toUInt32.toUInt16.toUInt32.toInt32)), .val (.int i1), .val (.int ((p1).toUInt32.toUInt16.toUInt32.toInt32)), .val (.int i2), .val (.int ((p2).toUInt32.toUInt16.toUInt32.toInt32)), .val (.int i3), .val (.ref b4), .val (.int (p3 &&& (7 : Int32))), .val (.int i8), .unset, .unset] [])) _
            refine XS.iload X6.here hx rfl (hb hby at_111) rfl ?_
            show Steps p.tables e below (T6.setTop (mkF m 113 #[.val (.int p0), .val (.int p1), .val (.int p2), .val (.int p3), .val (.int ((p0).toUInt32.toUInt16.toUInt32.toInt32)), .val (.int i1), .val (.int ((p1).toUInt32.toUInt16.toUInt32.toInt32)), .val (.int i2), .val (.int ((p2).toUInt32.toUInt16.toUInt32.toInt32)), .val (.int i3), .val (.ref b4), .val (.int (p3 &&& (7 : Int32))), .val (.int i8), .unset, .unset] [(.int ((p2).toUInt32.toUInt16.toUInt32.toInt32))])) _
            refine XS.istore X6.here hx rfl (hb hby at_113) rfl (l' := #[.val (.int p0), .val (.int p1), .val (.int p2), .val (.int p3), .val (.int ((p0).toUInt32.toUInt16.toUInt32.toInt32)), .val (.int i1), .val (.int ((p1).toUInt32.toUInt16.toUInt32.toInt32)), .val (.int i2), .val (.int ((p2).toUInt32.toUInt16.toUInt32.toInt32)), .val (.int i3), .val (.ref b4), .val (.int (p3 &&& (7 : Int32))), .val (.int i8), .val (.int ((p2).toUInt32.toUInt16.toUInt32.toInt32)), .unset]) rfl ?_
            show Steps p.tables e below (T6.setTop (mkF m 115 #[.val (.int p0), .val (.int p1), .val (.int p2), .val (.int p3), .val (.int ((p0).toUInt32.toUInt16.toUInt32.toInt32)), .val (.int i1), .val (.int ((p1).toUInt32.toUInt16.toUInt32.toInt32)), .val (.int i2), .val (.int ((p2).toUInt32.toUInt16.toUInt32.toInt32)), .val (.int i3), .val (.ref b4), .val (.int (p3 &&& (7 : Int32))), .val (.int i8), .val (.int ((p2).toUInt32.toUInt16.toUInt32.toInt32)), .unset] [])) _
            refine XS.goto X6.here hx rfl (pc0 := 115) (pc' := 162) rfl (hb hby at_115) (by decide) (by decide) ?_
            show Steps p.tables e below (T6.setTop (mkF m 162 #[.val (.int p0), .val (.int p1), .val (.int p2), .val (.int p3), .val (.int ((p0).toUInt32.toUInt16.toUInt32.toInt32)), .val (.int i1), .val (.int ((p1).toUInt32.toUInt16.toUInt32.toInt32)), .val (.int i2), .val (.int ((p2).toUInt32.toUInt16.toUInt32.toInt32)), .val (.int i3), .val (.ref b4), .val (.int (p3 &&& (7 : Int32))), .val (.int i8), .val (.int ((p2).toUInt32.toUInt16.toUInt32.toInt32)), .unset] [])) _
            exact kk
          · skip
            have P19 : ∀ t, Steps p.tables e below (T6.setTop (mkF m 121 #[.val (.int p0), .val (.int p1), .val (.int p2), .val (.int p3), .val (.int ((p0).toUInt32.toUInt16.toUInt32.toInt32)), .val (.int i1), .val (.int ((p1).toUInt32.toUInt16.toUInt32.toInt32)), .val (.int i2), .val (.int ((p2).toUInt32.toUInt16.toUInt32.toInt32)), .val (.int i3), .val (.ref b4), .val (.int (p3 &&& (7 : Int32))), .val (.int i8), .unset, .unset] [(.int (4 : Int32)), (.int (p3 &&& (7 : Int32)))])) t → Steps p.tables e below (s₁.setTop (entryFrame m #[(.int p0), (.int p1), (.int p2), (.int p3)] maxLocals)) t := by
              intro t kk
              refine P17 _ ?_
              show Steps p.tables e below (T6.setTop (mkF m 108 #[.val (.int p0), .val (.int p1), .val (.int p2), .val (.int p3), .val (.int ((p0).toUInt32.toUInt16.toUInt32.toInt32)), .val (.int i1), .val (.int ((p1).toUInt32.toUInt16.toUInt32.toInt32)), .val (.int i2), .val (.int ((p2).toUInt32.toUInt16.toUInt32.toInt32)), .val (.int i3), .val (.ref b4), .val (.int (p3 &&& (7 : Int32))), .val (.int i8), .unset, .unset] [(.int (3 : Int32)), (.int (p3 &&& (7 : Int32)))])) _
              refine XS.icmpYes X6.here hx rfl (pc0 := 108) (pc' := 118) rfl (hb hby at_108) rfl (XT.ii_ne_t c18) (by decide) (by decide) ?_
              show Steps p.tables e below (T6.setTop (mkF m 118 #[.val (.int p0), .val (.int p1), .val (.int p2), .val (.int p3), .val (.int ((p0).toUInt32.toUInt16.toUInt32.toInt32)), .val (.int i1), .val (.int ((p1).toUInt32.toUInt16.toUInt32.toInt32)), .val (.int i2), .val (.int ((p2).toUInt32.toUInt16.toUInt32.toInt32)), .val (.int i3), .val (.ref b4), .val (.int (p3 &&& (7 : Int32))), .val (.int i8), .unset, .unset] [])) _
              refine XS.iload X6.here hx rfl (hb hby at_118) rfl ?_
              show Steps p.tables e below (T6.setTop (mkF m 120 #[.val (.int p0), .val (.int p1), .val (.int p2), .val (.int p3), .val (.int ((p0).toUInt32.toUInt16.toUInt32.toInt32)), .val (.int i1), .val (.int ((p1).toUInt32.toUInt16.toUInt32.toInt32)), .val (.int i2), .val (.int ((p2).toUInt32.toUInt16.toUInt32.toInt32)), .val (.int i3), .val (.ref b4), .val (.int (p3 &&& (7 : Int32))), .val (.int i8), .unset, .unset] [(.int (p3 &&& (7 : Int32)))])) _
              refine XS.iconst X6.here hx rfl (hb hby at_120) ?_
              show Steps p.tables e below (T6.setTop (mkF m 121 #[.val (.int p0), .val (.int p1), .val (.int p2), .val (.int p3), .val (.int ((p0).toUInt32.toUInt16.toUInt32.toInt32)), .val (.int i1), .val (.int ((p1).toUInt32.toUInt16.toUInt32.toInt32)), .val (.int i2), .val (.int ((p2).toUInt32.toUInt16.toUInt32.toInt32)), .val (.int i3), .val (.ref b4), .val (.int (p3 &&& (7 : Int32))), .val (.int i8), .unset, .unset] [(.int (4 : Int32)), (.int (p3 &&& (7 : Int32)))])) _
              exact kk
            by_cases c20 : (p3 &&& (7 : Int32)) = (4 : Int32)
            · skip
              refine ⟨((p1).toUInt32.toUInt16.toUInt32.toInt32), ((if_neg c12).trans ((if_neg c14).trans ((if_neg c16).trans ((if_neg c18).trans ((if_pos c20).trans rfl))))).symm, fun t kk => P19 t ?_⟩
              show Steps p.tables e below (T6.setTop (mkF m 121 #[.val (.int p0), .val (.int p1), .val (.int p2), .val (.int p3), .val (.int ((p0).toUInt32.toUInt16.toUInt32.toInt32)), .val (.int i1), .val (.int ((p1).toUInt32.toUInt16.toUInt32.toInt32)), .val (.int i2), .val (.int ((p2).toUInt32.toUInt16.toUInt32.toInt32)), .val (.int i3), .val (.ref b4), .val (.int (p3 &&& (7 : Int32))), .val (.int i8), .unset, .unset] [(.int (4 : Int32)), (.int (p3 &&& (7 : Int32)))])) _
              refine XS.icmpNo X6.here hx rfl (hb hby at_121) rfl (XT.ii_ne_f c20) ?_
              show Steps p.tables e below (T6.setTop (mkF m 124 #[.val (.int p0), .val (.int p1), .val (.int p2), .val (.int p3), .val (.int ((p0).toUInt32.toUInt16.toUInt32.toInt32)), .val (.int i1), .val (.int ((p1).toUInt32.toUInt16.toUInt32.toInt32)), .val (.int i2), .val (.int ((p2).toUInt32.toUInt16.toUInt32.toInt32)), .val (.int i3), .val (.ref b4), .val (.int (p3 &&& (7 : Int32))), .val (.int i8), .unset, .unset] [])) _
              refine XS.iload X6.here hx rfl (hb hby at_124) rfl ?_
              show Steps p.tables e below (T6.setTop (mkF m 126 #[.val (.int p0), .val (.int p1), .val (.int p2), .val (.int p3), .val (.int ((p0).toUInt32.toUInt16.toUInt32.toInt32)), .val (.int i1), .val (.int ((p1).toUInt32.toUInt16.toUInt32.toInt32)), .val (.int i2), .val (.int ((p2).toUInt32.toUInt16.toUInt32.toInt32)), .val (.int i3), .val (.ref b4), .val (.int (p3 &&& (7 : Int32))), .val (.int i8), .unset, .unset] [(.int ((p1).toUInt32.toUInt16.toUInt32.toInt32))])) _
              refine XS.istore X6.here hx rfl (hb hby at_126) rfl (l' := #[.val (.int p0), .val (.int p1), .val (.int p2), .val (.int p3), .val (.int ((p0).toUInt32.toUInt16.toUInt32.toInt32)), .val (.int i1), .val (.int ((p1).toUInt32.toUInt16.toUInt32.toInt32)), .val (.int i2), .val (.int ((p2).toUInt32.toUInt16.toUInt32.toInt32)), .val (.int i3), .val (.ref b4), .val (.int (p3 &&& (7 : Int32))), .val (.int i8), .val (.int ((p1).toUInt32.toUInt16.toUInt32.toInt32)), .unset]) rfl ?_
              show Steps p.tables e below (T6.setTop (mkF m 128 #[.val (.int p0), .val (.int p1), .val (.int p2), .val (.int p3), .val (.int ((p0).toUInt32.toUInt16.toUInt32.toInt32)), .val (.int i1), .val (.int ((p1).toUInt32.toUInt16.toUInt32.toInt32)), .val (.int i2), .val (.int ((p2).toUInt32.toUInt16.toUInt32.toInt32)), .val (.int i3), .val (.ref b4), .val (.int (p3 &&& (7 : Int32))), .val (.int i8), .val (.int ((p1).toUInt32.toUInt16.toUInt32.toInt32)), .unset] [])) _
              refine XS.goto X6.here hx rfl (pc0 := 128) (pc' := 162) rfl (hb hby at_128) (by decide) (by decide) ?_
              show Steps p.tables e below (T6.setTop (mkF m 162 #[.val (.int p0), .val (.int p1), .val (.int p2), .val (.int p3), .val (.int ((p0).toUInt32.toUInt16.toUInt32.toInt32)), .val (.int i1), .val (.int ((p1).toUInt32.toUInt16.toUInt32.toInt32)), .val (.int i2), .val (.int ((p2).toUInt32.toUInt16.toUInt32.toInt32)), .val (.int i3), .val (.ref b4), .val (.int (p3 &&& (7 : Int32))), .val (.int i8), .val (.int ((p1).toUInt32.toUInt16.toUInt32.toInt32)), .unset] [])) _
              exact kk
            · skip
              have P21 : ∀ t, Steps p.tables e below (T6.setTop (mkF m 134 #[.val (.int p0), .val (.int p1), .val (.int p2), .val (.int p3), .val (.int ((p0).toUInt32.toUInt16.toUInt32.toInt32)), .val (.int i1), .val (.int ((p1).toUInt32.toUInt16.toUInt32.toInt32)), .val (.int i2), .val (.int ((p2).toUInt32.toUInt16.toUInt32.toInt32)), .val (.int i3), .val (.ref b4), .val (.int (p3 &&& (7 : Int32))), .val (.int i8), .unset, .unset] [(.int (5 : Int32)), (.int (p3 &&& (7 : Int32)))])) t → Steps p.tables e below (s₁.setTop (entryFrame m #[(.int p0), (.int p1), (.int p2), (.int p3)] maxLocals)) t := by
                intro t kk
                refine P19 _ ?_
                show Steps p.tables e below (T6.setTop (mkF m 121 #[.val (.int p0), .val (.int p1), .val (.int p2), .val (.int p3), .val (.int ((p0).toUInt32.toUInt16.toUInt32.toInt32)), .val (.int i1), .val (.int ((p1).toUInt32.toUInt16.toUInt32.toInt32)), .val (.int i2), .val (.int ((p2).toUInt32.toUInt16.toUInt32.toInt32)), .val (.int i3), .val (.ref b4), .val (.int (p3 &&& (7 : Int32))), .val (.int i8), .unset, .unset] [(.int (4 : Int32)), (.int (p3 &&& (7 : Int32)))])) _
                refine XS.icmpYes X6.here hx rfl (pc0 := 121) (pc' := 131) rfl (hb hby at_121) rfl (XT.ii_ne_t c20) (by decide) (by decide) ?_
                show Steps p.tables e below (T6.setTop (mkF m 131 #[.val (.int p0), .val (.int p1), .val (.int p2), .val (.int p3), .val (.int ((p0).toUInt32.toUInt16.toUInt32.toInt32)), .val (.int i1), .val (.int ((p1).toUInt32.toUInt16.toUInt32.toInt32)), .val (.int i2), .val (.int ((p2).toUInt32.toUInt16.toUInt32.toInt32)), .val (.int i3), .val (.ref b4), .val (.int (p3 &&& (7 : Int32))), .val (.int i8), .unset, .unset] [])) _
                refine XS.iload X6.here hx rfl (hb hby at_131) rfl ?_
                show Steps p.tables e below (T6.setTop (mkF m 133 #[.val (.int p0), .val (.int p1), .val (.int p2), .val (.int p3), .val (.int ((p0).toUInt32.toUInt16.toUInt32.toInt32)), .val (.int i1), .val (.int ((p1).toUInt32.toUInt16.toUInt32.toInt32)), .val (.int i2), .val (.int ((p2).toUInt32.toUInt16.toUInt32.toInt32)), .val (.int i3), .val (.ref b4), .val (.int (p3 &&& (7 : Int32))), .val (.int i8), .unset, .unset] [(.int (p3 &&& (7 : Int32)))])) _
                refine XS.iconst X6.here hx rfl (hb hby at_133) ?_
                show Steps p.tables e below (T6.setTop (mkF m 134 #[.val (.int p0), .val (.int p1), .val (.int p2), .val (.int p3), .val (.int ((p0).toUInt32.toUInt16.toUInt32.toInt32)), .val (.int i1), .val (.int ((p1).toUInt32.toUInt16.toUInt32.toInt32)), .val (.int i2), .val (.int ((p2).toUInt32.toUInt16.toUInt32.toInt32)), .val (.int i3), .val (.ref b4), .val (.int (p3 &&& (7 : Int32))), .val (.int i8), .unset, .unset] [(.int (5 : Int32)), (.int (p3 &&& (7 : Int32)))])) _
                exact kk
              by_cases c22 : (p3 &&& (7 : Int32)) = (5 : Int32)
              · skip
                refine ⟨i2, ((if_neg c12).trans ((if_neg c14).trans ((if_neg c16).trans ((if_neg c18).trans ((if_neg c20).trans ((if_pos c22).trans rfl)))))).symm, fun t kk => P21 t ?_⟩
                show Steps p.tables e below (T6.setTop (mkF m 134 #[.val (.int p0), .val (.int p1), .val (.int p2), .val (.int p3), .val (.int ((p0).toUInt32.toUInt16.toUInt32.toInt32)), .val (.int i1), .val (.int ((p1).toUInt32.toUInt16.toUInt32.toInt32)), .val (.int i2), .val (.int ((p2).toUInt32.toUInt16.toUInt32.toInt32)), .val (.int i3), .val (.ref b4), .val (.int (p3 &&& (7 : Int32))), .val (.int i8), .unset, .unset] [(.int (5 : Int32)), (.int (p3 &&& (7 : Int32)))])) _
                refine XS.icmpNo X6.here hx rfl (hb hby at_134) rfl (XT.ii_ne_f c22) ?_
                show Steps p.tables e below (T6.setTop (mkF m 137 #[.val (.int p0), .val (.int p1), .val (.int p2), .val (.int p3), .val (.int ((p0).toUInt32.toUInt16.toUInt32.toInt32)), .val (.int i1), .val (.int ((p1).toUInt32.toUInt16.toUInt32.toInt32)), .val (.int i2), .val (.int ((p2).toUInt32.toUInt16.toUInt32.toInt32)), .val (.int i3), .val (.ref b4), .val (.int (p3 &&& (7 : Int32))), .val (.int i8), .unset, .unset] [])) _
                refine XS.iload X6.here hx rfl (hb hby at_137) rfl ?_
                show Steps p.tables e below (T6.setTop (mkF m 139 #[.val (.int p0), .val (.int p1), .val (.int p2), .val (.int p3), .val (.int ((p0).toUInt32.toUInt16.toUInt32.toInt32)), .val (.int i1), .val (.int ((p1).toUInt32.toUInt16.toUInt32.toInt32)), .val (.int i2), .val (.int ((p2).toUInt32.toUInt16.toUInt32.toInt32)), .val (.int i3), .val (.ref b4), .val (.int (p3 &&& (7 : Int32))), .val (.int i8), .unset, .unset] [(.int i2)])) _
                refine XS.istore X6.here hx rfl (hb hby at_139) rfl (l' := #[.val (.int p0), .val (.int p1), .val (.int p2), .val (.int p3), .val (.int ((p0).toUInt32.toUInt16.toUInt32.toInt32)), .val (.int i1), .val (.int ((p1).toUInt32.toUInt16.toUInt32.toInt32)), .val (.int i2), .val (.int ((p2).toUInt32.toUInt16.toUInt32.toInt32)), .val (.int i3), .val (.ref b4), .val (.int (p3 &&& (7 : Int32))), .val (.int i8), .val (.int i2), .unset]) rfl ?_
                show Steps p.tables e below (T6.setTop (mkF m 141 #[.val (.int p0), .val (.int p1), .val (.int p2), .val (.int p3), .val (.int ((p0).toUInt32.toUInt16.toUInt32.toInt32)), .val (.int i1), .val (.int ((p1).toUInt32.toUInt16.toUInt32.toInt32)), .val (.int i2), .val (.int ((p2).toUInt32.toUInt16.toUInt32.toInt32)), .val (.int i3), .val (.ref b4), .val (.int (p3 &&& (7 : Int32))), .val (.int i8), .val (.int i2), .unset] [])) _
                refine XS.goto X6.here hx rfl (pc0 := 141) (pc' := 162) rfl (hb hby at_141) (by decide) (by decide) ?_
                show Steps p.tables e below (T6.setTop (mkF m 162 #[.val (.int p0), .val (.int p1), .val (.int p2), .val (.int p3), .val (.int ((p0).toUInt32.toUInt16.toUInt32.toInt32)), .val (.int i1), .val (.int ((p1).toUInt32.toUInt16.toUInt32.toInt32)), .val (.int i2), .val (.int ((p2).toUInt32.toUInt16.toUInt32.toInt32)), .val (.int i3), .val (.ref b4), .val (.int (p3 &&& (7 : Int32))), .val (.int i8), .val (.int i2), .unset] [])) _
                exact kk
              · skip
                have P23 : ∀ t, Steps p.tables e below (T6.setTop (mkF m 148 #[.val (.int p0), .val (.int p1), .val (.int p2), .val (.int p3), .val (.int ((p0).toUInt32.toUInt16.toUInt32.toInt32)), .val (.int i1), .val (.int ((p1).toUInt32.toUInt16.toUInt32.toInt32)), .val (.int i2), .val (.int ((p2).toUInt32.toUInt16.toUInt32.toInt32)), .val (.int i3), .val (.ref b4), .val (.int (p3 &&& (7 : Int32))), .val (.int i8), .unset, .unset] [(.int (6 : Int32)), (.int (p3 &&& (7 : Int32)))])) t → Steps p.tables e below (s₁.setTop (entryFrame m #[(.int p0), (.int p1), (.int p2), (.int p3)] maxLocals)) t := by
                  intro t kk
                  refine P21 _ ?_
                  show Steps p.tables e below (T6.setTop (mkF m 134 #[.val (.int p0), .val (.int p1), .val (.int p2), .val (.int p3), .val (.int ((p0).toUInt32.toUInt16.toUInt32.toInt32)), .val (.int i1), .val (.int ((p1).toUInt32.toUInt16.toUInt32.toInt32)), .val (.int i2), .val (.int ((p2).toUInt32.toUInt16.toUInt32.toInt32)), .val (.int i3), .val (.ref b4), .val (.int (p3 &&& (7 : Int32))), .val (.int i8), .unset, .unset] [(.int (5 : Int32)), (.int (p3 &&& (7 : Int32)))])) _
                  refine XS.icmpYes X6.here hx rfl (pc0 := 134) (pc' := 144) rfl (hb hby at_134) rfl (XT.ii_ne_t c22) (by decide) (by decide) ?_
                  show Steps p.tables e below (T6.setTop (mkF m 144 #[.val (.int p0), .val (.int p1), .val (.int p2), .val (.int p3), .val (.int ((p0).toUInt32.toUInt16.toUInt32.toInt32)), .val (.int i1), .val (.int ((p1).toUInt32.toUInt16.toUInt32.toInt32)), .val (.int i2), .val (.int ((p2).toUInt32.toUInt16.toUInt32.toInt32)), .val (.int i3), .val (.ref b4), .val (.int (p3 &&& (7 : Int32))), .val (.int i8), .unset, .unset] [])) _
                  refine XS.iload X6.here hx rfl (hb hby at_144) rfl ?_
                  show Steps p.tables e below (T6.setTop (mkF m 146 #[.val (.int p0), .val (.int p1), .val (.int p2), .val (.int p3), .val (.int ((p0).toUInt32.toUInt16.toUInt32.toInt32)), .val (.int i1), .val (.int ((p1).toUInt32.toUInt16.toUInt32.toInt32)), .val (.int i2), .val (.int ((p2).toUInt32.toUInt16.toUInt32.toInt32)), .val (.int i3), .val (.ref b4), .val (.int (p3 &&& (7 : Int32))), .val (.int i8), .unset, .unset] [(.int (p3 &&& (7 : Int32)))])) _
                  refine XS.bipush X6.here hx rfl (hb hby at_146) ?_
                  show Steps p.tables e below (T6.setTop (mkF m 148 #[.val (.int p0), .val (.int p1), .val (.int p2), .val (.int p3), .val (.int ((p0).toUInt32.toUInt16.toUInt32.toInt32)), .val (.int i1), .val (.int ((p1).toUInt32.toUInt16.toUInt32.toInt32)), .val (.int i2), .val (.int ((p2).toUInt32.toUInt16.toUInt32.toInt32)), .val (.int i3), .val (.ref b4), .val (.int (p3 &&& (7 : Int32))), .val (.int i8), .unset, .unset] [(.int (6 : Int32)), (.int (p3 &&& (7 : Int32)))])) _
                  exact kk
                by_cases c24 : (p3 &&& (7 : Int32)) = (6 : Int32)
                · skip
                  refine ⟨(65535 : Int32), ((if_neg c12).trans ((if_neg c14).trans ((if_neg c16).trans ((if_neg c18).trans ((if_neg c20).trans ((if_neg c22).trans ((if_pos c24).trans rfl))))))).symm, fun t kk => P23 t ?_⟩
                  show Steps p.tables e below (T6.setTop (mkF m 148 #[.val (.int p0), .val (.int p1), .val (.int p2), .val (.int p3), .val (.int ((p0).toUInt32.toUInt16.toUInt32.toInt32)), .val (.int i1), .val (.int ((p1).toUInt32.toUInt16.toUInt32.toInt32)), .val (.int i2), .val (.int ((p2).toUInt32.toUInt16.toUInt32.toInt32)), .val (.int i3), .val (.ref b4), .val (.int (p3 &&& (7 : Int32))), .val (.int i8), .unset, .unset] [(.int (6 : Int32)), (.int (p3 &&& (7 : Int32)))])) _
                  refine XS.icmpNo X6.here hx rfl (hb hby at_148) rfl (XT.ii_ne_f c24) ?_
                  show Steps p.tables e below (T6.setTop (mkF m 151 #[.val (.int p0), .val (.int p1), .val (.int p2), .val (.int p3), .val (.int ((p0).toUInt32.toUInt16.toUInt32.toInt32)), .val (.int i1), .val (.int ((p1).toUInt32.toUInt16.toUInt32.toInt32)), .val (.int i2), .val (.int ((p2).toUInt32.toUInt16.toUInt32.toInt32)), .val (.int i3), .val (.ref b4), .val (.int (p3 &&& (7 : Int32))), .val (.int i8), .unset, .unset] [])) _
                  refine X6.ldcInt hx hown (mvT hZ (hw _ (List.mem_of_getElem? (i := 31) rfl))) (g := (mkF m 151 #[.val (.int p0), .val (.int p1), .val (.int p2), .val (.int p3), .val (.int ((p0).toUInt32.toUInt16.toUInt32.toInt32)), .val (.int i1), .val (.int ((p1).toUInt32.toUInt16.toUInt32.toInt32)), .val (.int i2), .val (.int ((p2).toUInt32.toUInt16.toUInt32.toInt32)), .val (.int i3), .val (.ref b4), .val (.int (p3 &&& (7 : Int32))), .val (.int i8), .unset, .unset] [])) rfl (hb hby at_151) _ ?_
                  show Steps p.tables e below (T6.setTop (mkF m 153 #[.val (.int p0), .val (.int p1), .val (.int p2), .val (.int p3), .val (.int ((p0).toUInt32.toUInt16.toUInt32.toInt32)), .val (.int i1), .val (.int ((p1).toUInt32.toUInt16.toUInt32.toInt32)), .val (.int i2), .val (.int ((p2).toUInt32.toUInt16.toUInt32.toInt32)), .val (.int i3), .val (.ref b4), .val (.int (p3 &&& (7 : Int32))), .val (.int i8), .unset, .unset] [(.int (65535 : Int32))])) _
                  refine XS.istore X6.here hx rfl (hb hby at_153) rfl (l' := #[.val (.int p0), .val (.int p1), .val (.int p2), .val (.int p3), .val (.int ((p0).toUInt32.toUInt16.toUInt32.toInt32)), .val (.int i1), .val (.int ((p1).toUInt32.toUInt16.toUInt32.toInt32)), .val (.int i2), .val (.int ((p2).toUInt32.toUInt16.toUInt32.toInt32)), .val (.int i3), .val (.ref b4), .val (.int (p3 &&& (7 : Int32))), .val (.int i8), .val (.int (65535 : Int32)), .unset]) rfl ?_
                  show Steps p.tables e below (T6.setTop (mkF m 155 #[.val (.int p0), .val (.int p1), .val (.int p2), .val (.int p3), .val (.int ((p0).toUInt32.toUInt16.toUInt32.toInt32)), .val (.int i1), .val (.int ((p1).toUInt32.toUInt16.toUInt32.toInt32)), .val (.int i2), .val (.int ((p2).toUInt32.toUInt16.toUInt32.toInt32)), .val (.int i3), .val (.ref b4), .val (.int (p3 &&& (7 : Int32))), .val (.int i8), .val (.int (65535 : Int32)), .unset] [])) _
                  refine XS.goto X6.here hx rfl (pc0 := 155) (pc' := 162) rfl (hb hby at_155) (by decide) (by decide) ?_
                  show Steps p.tables e below (T6.setTop (mkF m 162 #[.val (.int p0), .val (.int p1), .val (.int p2), .val (.int p3), .val (.int ((p0).toUInt32.toUInt16.toUInt32.toInt32)), .val (.int i1), .val (.int ((p1).toUInt32.toUInt16.toUInt32.toInt32)), .val (.int i2), .val (.int ((p2).toUInt32.toUInt16.toUInt32.toInt32)), .val (.int i3), .val (.ref b4), .val (.int (p3 &&& (7 : Int32))), .val (.int i8), .val (.int (65535 : Int32)), .unset] [])) _
                  exact kk
                · skip
                  refine ⟨i8, ((if_neg c12).trans ((if_neg c14).trans ((if_neg c16).trans ((if_neg c18).trans ((if_neg c20).trans ((if_neg c22).trans ((if_neg c24).trans rfl))))))).symm, fun t kk => P23 t ?_⟩
                  show Steps p.tables e below (T6.setTop (mkF m 148 #[.val (.int p0), .val (.int p1), .val (.int p2), .val (.int p3), .val (.int ((p0).toUInt32.toUInt16.toUInt32.toInt32)), .val (.int i1), .val (.int ((p1).toUInt32.toUInt16.toUInt32.toInt32)), .val (.int i2), .val (.int ((p2).toUInt32.toUInt16.toUInt32.toInt32)), .val (.int i3), .val (.ref b4), .val (.int (p3 &&& (7 : Int32))), .val (.int i8), .unset, .unset] [(.int (6 : Int32)), (.int (p3 &&& (7 : Int32)))])) _
                  refine XS.icmpYes X6.here hx rfl (pc0 := 148) (pc' := 158) rfl (hb hby at_148) rfl (XT.ii_ne_t c24) (by decide) (by decide) ?_
                  show Steps p.tables e below (T6.setTop (mkF m 158 #[.val (.int p0), .val (.int p1), .val (.int p2), .val (.int p3), .val (.int ((p0).toUInt32.toUInt16.toUInt32.toInt32)), .val (.int i1), .val (.int ((p1).toUInt32.toUInt16.toUInt32.toInt32)), .val (.int i2), .val (.int ((p2).toUInt32.toUInt16.toUInt32.toInt32)), .val (.int i3), .val (.ref b4), .val (.int (p3 &&& (7 : Int32))), .val (.int i8), .unset, .unset] [])) _
                  refine XS.iload X6.here hx rfl (hb hby at_158) rfl ?_
                  show Steps p.tables e below (T6.setTop (mkF m 160 #[.val (.int p0), .val (.int p1), .val (.int p2), .val (.int p3), .val (.int ((p0).toUInt32.toUInt16.toUInt32.toInt32)), .val (.int i1), .val (.int ((p1).toUInt32.toUInt16.toUInt32.toInt32)), .val (.int i2), .val (.int ((p2).toUInt32.toUInt16.toUInt32.toInt32)), .val (.int i3), .val (.ref b4), .val (.int (p3 &&& (7 : Int32))), .val (.int i8), .unset, .unset] [(.int i8)])) _
                  refine XS.istore X6.here hx rfl (hb hby at_160) rfl (l' := #[.val (.int p0), .val (.int p1), .val (.int p2), .val (.int p3), .val (.int ((p0).toUInt32.toUInt16.toUInt32.toInt32)), .val (.int i1), .val (.int ((p1).toUInt32.toUInt16.toUInt32.toInt32)), .val (.int i2), .val (.int ((p2).toUInt32.toUInt16.toUInt32.toInt32)), .val (.int i3), .val (.ref b4), .val (.int (p3 &&& (7 : Int32))), .val (.int i8), .val (.int i8), .unset]) rfl ?_
                  show Steps p.tables e below (T6.setTop (mkF m 162 #[.val (.int p0), .val (.int p1), .val (.int p2), .val (.int p3), .val (.int ((p0).toUInt32.toUInt16.toUInt32.toInt32)), .val (.int i1), .val (.int ((p1).toUInt32.toUInt16.toUInt32.toInt32)), .val (.int i2), .val (.int ((p2).toUInt32.toUInt16.toUInt32.toInt32)), .val (.int i3), .val (.ref b4), .val (.int (p3 &&& (7 : Int32))), .val (.int i8), .val (.int i8), .unset] [])) _
                  exact kk
  have P25 : ∀ t, Steps p.tables e below (T6.setTop (mkF m 165 #[.val (.int p0), .val (.int p1), .val (.int p2), .val (.int p3), .val (.int ((p0).toUInt32.toUInt16.toUInt32.toInt32)), .val (.int i1), .val (.int ((p1).toUInt32.toUInt16.toUInt32.toInt32)), .val (.int i2), .val (.int ((p2).toUInt32.toUInt16.toUInt32.toInt32)), .val (.int i3), .val (.ref b4), .val (.int (p3 &&& (7 : Int32))), .val (.int i8), .val (.int i10), .unset] [(.int (3 : Int32)), (.int (p3 &&& (7 : Int32)))])) t → Steps p.tables e below (s₁.setTop (entryFrame m #[(.int p0), (.int p1), (.int p2), (.int p3)] maxLocals)) t := by
    intro t kk
    refine P11 _ ?_
    show Steps p.tables e below (T6.setTop (mkF m 162 #[.val (.int p0), .val (.int p1), .val (.int p2), .val (.int p3), .val (.int ((p0).toUInt32.toUInt16.toUInt32.toInt32)), .val (.int i1), .val (.int ((p1).toUInt32.toUInt16.toUInt32.toInt32)), .val (.int i2), .val (.int ((p2).toUInt32.toUInt16.toUInt32.toInt32)), .val (.int i3), .val (.ref b4), .val (.int (p3 &&& (7 : Int32))), .val (.int i8), .val (.int i10), .unset] [])) _
    refine XS.iload X6.here hx rfl (hb hby at_162) rfl ?_
    show Steps p.tables e below (T6.setTop (mkF m 164 #[.val (.int p0), .val (.int p1), .val (.int p2), .val (.int p3), .val (.int ((p0).toUInt32.toUInt16.toUInt32.toInt32)), .val (.int i1), .val (.int ((p1).toUInt32.toUInt16.toUInt32.toInt32)), .val (.int i2), .val (.int ((p2).toUInt32.toUInt16.toUInt32.toInt32)), .val (.int i3), .val (.ref b4), .val (.int (p3 &&& (7 : Int32))), .val (.int i8), .val (.int i10), .unset] [(.int (p3 &&& (7 : Int32)))])) _
    refine XS.iconst X6.here hx rfl (hb hby at_164) ?_
    show Steps p.tables e below (T6.setTop (mkF m 165 #[.val (.int p0), .val (.int p1), .val (.int p2), .val (.int p3), .val (.int ((p0).toUInt32.toUInt16.toUInt32.toInt32)), .val (.int i1), .val (.int ((p1).toUInt32.toUInt16.toUInt32.toInt32)), .val (.int i2), .val (.int ((p2).toUInt32.toUInt16.toUInt32.toInt32)), .val (.int i3), .val (.ref b4), .val (.int (p3 &&& (7 : Int32))), .val (.int i8), .val (.int i10), .unset] [(.int (3 : Int32)), (.int (p3 &&& (7 : Int32)))])) _
    exact kk
  obtain ⟨i26, h_i26, P27⟩ : ∃ (i26 : Int32), i26 = (if (3 : Int32) < (p3 &&& (7 : Int32)) then (if i10 = ((p0).toUInt32.toUInt16.toUInt32.toInt32) then (1 : Int32) else (if i10 = i1 then (1 : Int32) else (if i10 = i3 then (1 : Int32) else (if i10 = ((p2).toUInt32.toUInt16.toUInt32.toInt32) then (1 : Int32) else (0 : Int32))))) else (1 : Int32)) ∧ ∀ t, Steps p.tables e below (T6.setTop (mkF m 209 #[.val (.int p0), .val (.int p1), .val (.int p2), .val (.int p3), .val (.int ((p0).toUInt32.toUInt16.toUInt32.toInt32)), .val (.int i1), .val (.int ((p1).toUInt32.toUInt16.toUInt32.toInt32)), .val (.int i2), .val (.int ((p2).toUInt32.toUInt16.toUInt32.toInt32)), .val (.int i3), .val (.ref b4), .val (.int (p3 &&& (7 : Int32))), .val (.int i8), .val (.int i10), .val (.int i26)] [])) t → Steps p.tables e below (s₁.setTop (entryFrame m #[(.int p0), (.int p1), (.int p2), (.int p3)] maxLocals)) t := by
    by_cases c28 : (3 : Int32) < (p3 &&& (7 : Int32))
    · skip
      have P29 : ∀ t, Steps p.tables e below (T6.setTop (mkF m 178 #[.val (.int p0), .val (.int p1), .val (.int p2), .val (.int p3), .val (.int ((p0).toUInt32.toUInt16.toUInt32.toInt32)), .val (.int i1), .val (.int ((p1).toUInt32.toUInt16.toUInt32.toInt32)), .val (.int i2), .val (.int ((p2).toUInt32.toUInt16.toUInt32.toInt32)), .val (.int i3), .val (.ref b4), .val (.int (p3 &&& (7 : Int32))), .val (.int i8), .val (.int i10), .unset] [(.int ((p0).toUInt32.toUInt16.toUInt32.toInt32)), (.int i10)])) t → Steps p.tables e below (s₁.setTop (entryFrame m #[(.int p0), (.int p1), (.int p2), (.int p3)] maxLocals)) t := by
        intro t kk
        refine P25 _ ?_
        show Steps p.tables e below (T6.setTop (mkF m 165 #[.val (.int p0), .val (.int p1), .val (.int p2), .val (.int p3), .val (.int ((p0).toUInt32.toUInt16.toUInt32.toInt32)), .val (.int i1), .val (.int ((p1).toUInt32.toUInt16.toUInt32.toInt32)), .val (.int i2), .val (.int ((p2).toUInt32.toUInt16.toUInt32.toInt32)), .val (.int i3), .val (.ref b4), .val (.int (p3 &&& (7 : Int32))), .val (.int i8), .val (.int i10), .unset] [(.int (3 : Int32)), (.int (p3 &&& (7 : Int32)))])) _
        refine XS.icmpYes X6.here hx rfl (pc0 := 165) (pc' := 174) rfl (hb hby at_165) rfl (XT.ii_gt_t c28) (by decide) (by decide) ?_
        show Steps p.tables e below (T6.setTop (mkF m 174 #[.val (.int p0), .val (.int p1), .val (.int p2), .val (.int p3), .val (.int ((p0).toUInt32.toUInt16.toUInt32.toInt32)), .val (.int i1), .val (.int ((p1).toUInt32.toUInt16.toUInt32.toInt32)), .val (.int i2), .val (.int ((p2).toUInt32.toUInt16.toUInt32.toInt32)), .val (.int i3), .val (.ref b4), .val (.int (p3 &&& (7 : Int32))), .val (.int i8), .val (.int i10), .unset] [])) _
        refine XS.iload X6.here hx rfl (hb hby at_174) rfl ?_
        show Steps p.tables e below (T6.setTop (mkF m 176 #[.val (.int p0), .val (.int p1), .val (.int p2), .val (.int p3), .val (.int ((p0).toUInt32.toUInt16.toUInt32.toInt32)), .val (.int i1), .val (.int ((p1).toUInt32.toUInt16.toUInt32.toInt32)), .val (.int i2), .val (.int ((p2).toUInt32.toUInt16.toUInt32.toInt32)), .val (.int i3), .val (.ref b4), .val (.int (p3 &&& (7 : Int32))), .val (.int i8), .val (.int i10), .unset] [(.int i10)])) _
        refine XS.iload X6.here hx rfl (hb hby at_176) rfl ?_
        show Steps p.tables e below (T6.setTop (mkF m 178 #[.val (.int p0), .val (.int p1), .val (.int p2), .val (.int p3), .val (.int ((p0).toUInt32.toUInt16.toUInt32.toInt32)), .val (.int i1), .val (.int ((p1).toUInt32.toUInt16.toUInt32.toInt32)), .val (.int i2), .val (.int ((p2).toUInt32.toUInt16.toUInt32.toInt32)), .val (.int i3), .val (.ref b4), .val (.int (p3 &&& (7 : Int32))), .val (.int i8), .val (.int i10), .unset] [(.int ((p0).toUInt32.toUInt16.toUInt32.toInt32)), (.int i10)])) _
        exact kk
      by_cases c30 : i10 = ((p0).toUInt32.toUInt16.toUInt32.toInt32)
      · skip
        refine ⟨(1 : Int32), ((if_pos c28).trans ((if_pos c30).trans rfl)).symm, fun t kk => P29 t ?_⟩
        show Steps p.tables e below (T6.setTop (mkF m 178 #[.val (.int p0), .val (.int p1), .val (.int p2), .val (.int p3), .val (.int ((p0).toUInt32.toUInt16.toUInt32.toInt32)), .val (.int i1), .val (.int ((p1).toUInt32.toUInt16.toUInt32.toInt32)), .val (.int i2), .val (.int ((p2).toUInt32.toUInt16.toUInt32.toInt32)), .val (.int i3), .val (.ref b4), .val (.int (p3 &&& (7 : Int32))), .val (.int i8), .val (.int i10), .unset] [(.int ((p0).toUInt32.toUInt16.toUInt32.toInt32)), (.int i10)])) _
        refine XS.icmpYes X6.here hx rfl (pc0 := 178) (pc' := 202) rfl (hb hby at_178) rfl (XT.ii_eq_t c30) (by decide) (by decide) ?_
        show Steps p.tables e below (T6.setTop (mkF m 202 #[.val (.int p0), .val (.int p1), .val (.int p2), .val (.int p3), .val (.int ((p0).toUInt32.toUInt16.toUInt32.toInt32)), .val (.int i1), .val (.int ((p1).toUInt32.toUInt16.toUInt32.toInt32)), .val (.int i2), .val (.int ((p2).toUInt32.toUInt16.toUInt32.toInt32)), .val (.int i3), .val (.ref b4), .val (.int (p3 &&& (7 : Int32))), .val (.int i8), .val (.int i10), .unset] [])) _
        refine XS.iconst X6.here hx rfl (hb hby at_202) ?_
        show Steps p.tables e below (T6.setTop (mkF m 203 #[.val (.int p0), .val (.int p1), .val (.int p2), .val (.int p3), .val (.int ((p0).toUInt32.toUInt16.toUInt32.toInt32)), .val (.int i1), .val (.int ((p1).toUInt32.toUInt16.toUInt32.toInt32)), .val (.int i2), .val (.int ((p2).toUInt32.toUInt16.toUInt32.toInt32)), .val (.int i3), .val (.ref b4), .val (.int (p3 &&& (7 : Int32))), .val (.int i8), .val (.int i10), .unset] [(.int (1 : Int32))])) _
        refine XS.goto X6.here hx rfl (pc0 := 203) (pc' := 207) rfl (hb hby at_203) (by decide) (by decide) ?_
        show Steps p.tables e below (T6.setTop (mkF m 207 #[.val (.int p0), .val (.int p1), .val (.int p2), .val (.int p3), .val (.int ((p0).toUInt32.toUInt16.toUInt32.toInt32)), .val (.int i1), .val (.int ((p1).toUInt32.toUInt16.toUInt32.toInt32)), .val (.int i2), .val (.int ((p2).toUInt32.toUInt16.toUInt32.toInt32)), .val (.int i3), .val (.ref b4), .val (.int (p3 &&& (7 : Int32))), .val (.int i8), .val (.int i10), .unset] [(.int (1 : Int32))])) _
        refine XS.istore X6.here hx rfl (hb hby at_207) rfl (l' := #[.val (.int p0), .val (.int p1), .val (.int p2), .val (.int p3), .val (.int ((p0).toUInt32.toUInt16.toUInt32.toInt32)), .val (.int i1), .val (.int ((p1).toUInt32.toUInt16.toUInt32.toInt32)), .val (.int i2), .val (.int ((p2).toUInt32.toUInt16.toUInt32.toInt32)), .val (.int i3), .val (.ref b4), .val (.int (p3 &&& (7 : Int32))), .val (.int i8), .val (.int i10), .val (.int (1 : Int32))]) rfl ?_
        show Steps p.tables e below (T6.setTop (mkF m 209 #[.val (.int p0), .val (.int p1), .val (.int p2), .val (.int p3), .val (.int ((p0).toUInt32.toUInt16.toUInt32.toInt32)), .val (.int i1), .val (.int ((p1).toUInt32.toUInt16.toUInt32.toInt32)), .val (.int i2), .val (.int ((p2).toUInt32.toUInt16.toUInt32.toInt32)), .val (.int i3), .val (.ref b4), .val (.int (p3 &&& (7 : Int32))), .val (.int i8), .val (.int i10), .val (.int (1 : Int32))] [])) _
        exact kk
      · skip
        have P31 : ∀ t, Steps p.tables e below (T6.setTop (mkF m 185 #[.val (.int p0), .val (.int p1), .val (.int p2), .val (.int p3), .val (.int ((p0).toUInt32.toUInt16.toUInt32.toInt32)), .val (.int i1), .val (.int ((p1).toUInt32.toUInt16.toUInt32.toInt32)), .val (.int i2), .val (.int ((p2).toUInt32.toUInt16.toUInt32.toInt32)), .val (.int i3), .val (.ref b4), .val (.int (p3 &&& (7 : Int32))), .val (.int i8), .val (.int i10), .unset] [(.int i1), (.int i10)])) t → Steps p.tables e below (s₁.setTop (entryFrame m #[(.int p0), (.int p1), (.int p2), (.int p3)] maxLocals)) t := by
          intro t kk
          refine P29 _ ?_
          show Steps p.tables e below (T6.setTop (mkF m 178 #[.val (.int p0), .val (.int p1), .val (.int p2), .val (.int p3), .val (.int ((p0).toUInt32.toUInt16.toUInt32.toInt32)), .val (.int i1), .val (.int ((p1).toUInt32.toUInt16.toUInt32.toInt32)), .val (.int i2), .val (.int ((p2).toUInt32.toUInt16.toUInt32.toInt32)), .val (.int i3), .val (.ref b4), .val (.int (p3 &&& (7 : Int32))), .val (.int i8), .val (.int i10), .unset] [(.int ((p0).toUInt32.toUInt16.toUInt32.toInt32)), (.int i10)])) _
          refine XS.icmpNo X6.here hx rfl (hb hby at_178) rfl (XT.ii_eq_f c30) ?_
          show Steps p.tables e below (T6.setTop (mkF m 181 #[.val (.int p0), .val (.int p1), .val (.int p2), .val (.int p3), .val (.int ((p0).toUInt32.toUInt16.toUInt32.toInt32)), .val (.int i1), .val (.int ((p1).toUInt32.toUInt16.toUInt32.toInt32)), .val (.int i2), .val (.int ((p2).toUInt32.toUInt16.toUInt32.toInt32)), .val (.int i3), .val (.ref b4), .val (.int (p3 &&& (7 : Int32))), .val (.int i8), .val (.int i10), .unset] [])) _
          refine XS.iload X6.here hx rfl (hb hby at_181) rfl ?_
          show Steps p.tables e below (T6.setTop (mkF m 183 #[.val (.int p0), .val (.int p1), .val (.int p2), .val (.int p3), .val (.int ((p0).toUInt32.toUInt16.toUInt32.toInt32)), .val (.int i1), .val (.int ((p1).toUInt32.toUInt16.toUInt32.toInt32)), .val (.int i2), .val (.int ((p2).toUInt32.toUInt16.toUInt32.toInt32)), .val (.int i3), .val (.ref b4), .val (.int (p3 &&& (7 : Int32))), .val (.int i8), .val (.int i10), .unset] [(.int i10)])) _
          refine XS.iload X6.here hx rfl (hb hby at_183) rfl ?_
          show Steps p.tables e below (T6.setTop (mkF m 185 #[.val (.int p0), .val (.int p1), .val (.int p2), .val (.int p3), .val (.int ((p0).toUInt32.toUInt16.toUInt32.toInt32)), .val (.int i1), .val (.int ((p1).toUInt32.toUInt16.toUInt32.toInt32)), .val (.int i2), .val (.int ((p2).toUInt32.toUInt16.toUInt32.toInt32)), .val (.int i3), .val (.ref b4), .val (.int (p3 &&& (7 : Int32))), .val (.int i8), .val (.int i10), .unset] [(.int i1), (.int i10)])) _
          exact kk
        by_cases c32 : i10 = i1
        · skip
          refine ⟨(1 : Int32), ((if_pos c28).trans ((if_neg c30).trans ((if_pos c32).trans rfl))).symm, fun t kk => P31 t ?_⟩
          show Steps p.tables e below (T6.setTop (mkF m 185 #[.val (.int p0), .val (.int p1), .val (.int p2), .val (.int p3), .val (.int ((p0).toUInt32.toUInt16.toUInt32.toInt32)), .val (.int i1), .val (.int ((p1).toUInt32.toUInt16.toUInt32.toInt32)), .val (.int i2), .val (.int ((p2).toUInt32.toUInt16.toUInt32.toInt32)), .val (.int i3), .val (.ref b4), .val (.int (p3 &&& (7 : Int32))), .val (.int i8), .val (.int i10), .unset] [(.int i1), (.int i10)])) _
          refine XS.icmpYes X6.here hx rfl (pc0 := 185) (pc' := 202) rfl (hb hby at_185) rfl (XT.ii_eq_t c32) (by decide) (by decide) ?_
          show Steps p.tables e below (T6.setTop (mkF m 202 #[.val (.int p0), .val (.int p1), .val (.int p2), .val (.int p3), .val (.int ((p0).toUInt32.toUInt16.toUInt32.toInt32)), .val (.int i1), .val (.int ((p1).toUInt32.toUInt16.toUInt32.toInt32)), .val (.int i2), .val (.int ((p2).toUInt32.toUInt16.toUInt32.toInt32)), .val (.int i3), .val (.ref b4), .val (.int (p3 &&& (7 : Int32))), .val (.int i8), .val (.int i10), .unset] [])) _
          refine XS.iconst X6.here hx rfl (hb hby at_202) ?_
          show Steps p.tables e below (T6.setTop (mkF m 203 #[.val (.int p0), .val (.int p1), .val (.int p2), .val (.int p3), .val (.int ((p0).toUInt32.toUInt16.toUInt32.toInt32)), .val (.int i1), .val (.int ((p1).toUInt32.toUInt16.toUInt32.toInt32)), .val (.int i2), .val (.int ((p2).toUInt32.toUInt16.toUInt32.toInt32)), .val (.int i3), .val (.ref b4), .val (.int (p3 &&& (7 : Int32))), .val (.int i8), .val (.int i10), .unset] [(.int (1 : Int32))])) _
          refine XS.goto X6.here hx rfl (pc0 := 203) (pc' := 207) rfl (hb hby at_203) (by decide) (by decide) ?_
          show Steps p.tables e below (T6.setTop (mkF m 207 #[.val (.int p0), .val (.int p1), .val (.int p2), .val (.int p3), .val (.int ((p0).toUInt32.toUInt16.toUInt32.toInt32)), .val (.int i1), .val (.int ((p1).toUInt32.toUInt16.toUInt32.toInt32)), .val (.int i2), .val (.int ((p2).toUInt32.toUInt16.toUInt32.toInt32)), .val (.int i3), .val (.ref b4), .val (.int (p3 &&& (7 : Int32))), .val (.int i8), .val (.int i10), .unset] [(.int (1 : Int32))])) _
          refine XS.istore X6.here hx rfl (hb hby at_207) rfl (l' := #[.val (.int p0), .val (.int p1), .val (.int p2), .val (.int p3), .val (.int ((p0).toUInt32.toUInt16.toUInt32.toInt32)), .val (.int i1), .val (.int ((p1).toUInt32.toUInt16.toUInt32.toInt32)), .val (.int i2), .val (.int ((p2).toUInt32.toUInt16.toUInt32.toInt32)), .val (.int i3), .val (.ref b4), .val (.int (p3 &&& (7 : Int32))), .val (.int i8), .val (.int i10), .val (.int (1 : Int32))]) rfl ?_
          show Steps p.tables e below (T6.setTop (mkF m 209 #[.val (.int p0), .val (.int p1), .val (.int p2), .val (.int p3), .val (.int ((p0).toUInt32.toUInt16.toUInt32.toInt32)), .val (.int i1), .val (.int ((p1).toUInt32.toUInt16.toUInt32.toInt32)), .val (.int i2), .val (.int ((p2).toUInt32.toUInt16.toUInt32.toInt32)), .val (.int i3), .val (.ref b4), .val (.int (p3 &&& (7 : Int32))), .val (.int i8), .val (.int i10), .val (.int (1 : Int32))] [])) _
          exact kk
        · skip
          have P33 : ∀ t, Steps p.tables e below (T6.setTop (mkF m 192 #[.val (.int p0), .val (.int p1), .val (.int p2), .val (.int p3), .val (.int ((p0).toUInt32.toUInt16.toUInt32.toInt32)), .val (.int i1), .val (.int ((p1).toUInt32.toUInt16.toUInt32.toInt32)), .val (.int i2), .val (.int ((p2).toUInt32.toUInt16.toUInt32.toInt32)), .val (.int i3), .val (.ref b4), .val (.int (p3 &&& (7 : Int32))), .val (.int i8), .val (.int i10), .unset] [(.int i3), (.int i10)])) t → Steps p.tables e below (s₁.setTop (entryFrame m #[(.int p0), (.int p1), (.int p2), (.int p3)] maxLocals)) t := by
            intro t kk
            refine P31 _ ?_
            show Steps p.tables e below (T6.setTop (mkF m 185 #[.val (.int p0), .val (.int p1), .val (.int p2), .val (.int p3), .val (.int ((p0).toUInt32.toUInt16.toUInt32.toInt32)), .val (.int i1), .val (.int ((p1).toUInt32.toUInt16.toUInt32.toInt32)), .val (.int i2), .val (.int ((p2).toUInt32.toUInt16.toUInt32.toInt32)), .val (.int i3), .val (.ref b4), .val (.int (p3 &&& (7 : Int32))), .val (.int i8), .val (.int i10), .unset] [(.int i1), (.int i10)])) _
            refine XS.icmpNo X6.here hx rfl (hb hby at_185) rfl (XT.ii_eq_f c32) ?_
            show Steps p.tables e below (T6.setTop (mkF m 188 #[.val (.int p0), .val (.int p1), .val (.int p2), .val (.int p3), .val (.int ((p0).toUInt32.toUInt16.toUInt32.toInt32)), .val (.int i1), .val (.int ((p1).toUInt32.toUInt16.toUInt32.toInt32)), .val (.int i2), .val (.int ((p2).toUInt32.toUInt16.toUInt32.toInt32)), .val (.int i3), .val (.ref b4), .val (.int (p3 &&& (7 : Int32))), .val (.int i8), .val (.int i10), .unset] [])) _
            refine XS.iload X6.here hx rfl (hb hby at_188) rfl ?_
            show Steps p.tables e below (T6.setTop (mkF m 190 #[.val (.int p0), .val (.int p1), .val (.int p2), .val (.int p3), .val (.int ((p0).toUInt32.toUInt16.toUInt32.toInt32)), .val (.int i1), .val (.int ((p1).toUInt32.toUInt16.toUInt32.toInt32)), .val (.int i2), .val (.int ((p2).toUInt32.toUInt16.toUInt32.toInt32)), .val (.int i3), .val (.ref b4), .val (.int (p3 &&& (7 : Int32))), .val (.int i8), .val (.int i10), .unset] [(.int i10)])) _
            refine XS.iload X6.here hx rfl (hb hby at_190) rfl ?_
            show Steps p.tables e below (T6.setTop (mkF m 192 #[.val (.int p0), .val (.int p1), .val (.int p2), .val (.int p3), .val (.int ((p0).toUInt32.toUInt16.toUInt32.toInt32)), .val (.int i1), .val (.int ((p1).toUInt32.toUInt16.toUInt32.toInt32)), .val (.int i2), .val (.int ((p2).toUInt32.toUInt16.toUInt32.toInt32)), .val (.int i3), .val (.ref b4), .val (.int (p3 &&& (7 : Int32))), .val (.int i8), .val (.int i10), .unset] [(.int i3), (.int i10)])) _
            exact kk
          by_cases c34 : i10 = i3
          · skip
            refine ⟨(1 : Int32), ((if_pos c28).trans ((if_neg c30).trans ((if_neg c32).trans ((if_pos c34).trans rfl)))).symm, fun t kk => P33 t ?_⟩
            show Steps p.tables e below (T6.setTop (mkF m 192 #[.val (.int p0), .val (.int p1), .val (.int p2), .val (.int p3), .val (.int ((p0).toUInt32.toUInt16.toUInt32.toInt32)), .val (.int i1), .val (.int ((p1).toUInt32.toUInt16.toUInt32.toInt32)), .val (.int i2), .val (.int ((p2).toUInt32.toUInt16.toUInt32.toInt32)), .val (.int i3), .val (.ref b4), .val (.int (p3 &&& (7 : Int32))), .val (.int i8), .val (.int i10), .unset] [(.int i3), (.int i10)])) _
            refine XS.icmpYes X6.here hx rfl (pc0 := 192) (pc' := 202) rfl (hb hby at_192) rfl (XT.ii_eq_t c34) (by decide) (by decide) ?_
            show Steps p.tables e below (T6.setTop (mkF m 202 #[.val (.int p0), .val (.int p1), .val (.int p2), .val (.int p3), .val (.int ((p0).toUInt32.toUInt16.toUInt32.toInt32)), .val (.int i1), .val (.int ((p1).toUInt32.toUInt16.toUInt32.toInt32)), .val (.int i2), .val (.int ((p2).toUInt32.toUInt16.toUInt32.toInt32)), .val (.int i3), .val (.ref b4), .val (.int (p3 &&& (7 : Int32))), .val (.int i8), .val (.int i10), .unset] [])) _
            refine XS.iconst X6.here hx rfl (hb hby at_202) ?_
            show Steps p.tables e below (T6.setTop (mkF m 203 #[.val (.int p0), .val (.int p1), .val (.int p2), .val (.int p3), .val (.int ((p0).toUInt32.toUInt16.toUInt32.toInt32)), .val (.int i1), .val (.int ((p1).toUInt32.toUInt16.toUInt32.toInt32)), .val (.int i2), .val (.int ((p2).toUInt32.toUInt16.toUInt32.toInt32)), .val (.int i3), .val (.ref b4), .val (.int (p3 &&& (7 : Int32))), .val (.int i8), .val (.int i10), .unset] [(.int (1 : Int32))])) _
            refine XS.goto X6.here hx rfl (pc0 := 203) (pc' := 207) rfl (hb hby at_203) (by decide) (by decide) ?_
            show Steps p.tables e below (T6.setTop (mkF m 207 #[.val (.int p0), .val (.int p1), .val (.int p2), .val (.int p3), .val (.int ((p0).toUInt32.toUInt16.toUInt32.toInt32)), .val (.int i1), .val (.int ((p1).toUInt32.toUInt16.toUInt32.toInt32)), .val (.int i2), .val (.int ((p2).toUInt32.toUInt16.toUInt32.toInt32)), .val (.int i3), .val (.ref b4), .val (.int (p3 &&& (7 : Int32))), .val (.int i8), .val (.int i10), .unset] [(.int (1 : Int32))])) _
            refine XS.istore X6.here hx rfl (hb hby at_207) rfl (l' := #[.val (.int p0), .val (.int p1), .val (.int p2), .val (.int p3), .val (.int ((p0).toUInt32.toUInt16.toUInt32.toInt32)), .val (.int i1), .val (.int ((p1).toUInt32.toUInt16.toUInt32.toInt32)), .val (.int i2), .val (.int ((p2).toUInt32.toUInt16.toUInt32.toInt32)), .val (.int i3), .val (.ref b4), .val (.int (p3 &&& (7 : Int32))), .val (.int i8), .val (.int i10), .val (.int (1 : Int32))]) rfl ?_
            show Steps p.tables e below (T6.setTop (mkF m 209 #[.val (.int p0), .val (.int p1), .val (.int p2), .val (.int p3), .val (.int ((p0).toUInt32.toUInt16.toUInt32.toInt32)), .val (.int i1), .val (.int ((p1).toUInt32.toUInt16.toUInt32.toInt32)), .val (.int i2), .val (.int ((p2).toUInt32.toUInt16.toUInt32.toInt32)), .val (.int i3), .val (.ref b4), .val (.int (p3 &&& (7 : Int32))), .val (.int i8), .val (.int i10), .val (.int (1 : Int32))] [])) _
            exact kk
          · skip
            have P35 : ∀ t, Steps p.tables e below (T6.setTop (mkF m 199 #[.val (.int p0), .val (.int p1), .val (.int p2), .val (.int p3), .val (.int ((p0).toUInt32.toUInt16.toUInt32.toInt32)), .val (.int i1), .val (.int ((p1).toUInt32.toUInt16.toUInt32.toInt32)), .val (.int i2), .val (.int ((p2).toUInt32.toUInt16.toUInt32.toInt32)), .val (.int i3), .val (.ref b4), .val (.int (p3 &&& (7 : Int32))), .val (.int i8), .val (.int i10), .unset] [(.int ((p2).toUInt32.toUInt16.toUInt32.toInt32)), (.int i10)])) t → Steps p.tables e below (s₁.setTop (entryFrame m #[(.int p0), (.int p1), (.int p2), (.int p3)] maxLocals)) t := by
              intro t kk
              refine P33 _ ?_
              show Steps p.tables e below (T6.setTop (mkF m 192 #[.val (.int p0), .val (.int p1), .val (.int p2), .val (.int p3), .val (.int ((p0).toUInt32.toUInt16.toUInt32.toInt32)), .val (.int i1), .val (.int ((p1).toUInt32.toUInt16.toUInt32.toInt32)), .val (.int i2), .val (.int ((p2).toUInt32.toUInt16.toUInt32.toInt32)), .val (.int i3), .val (.ref b4), .val (.int (p3 &&& (7 : Int32))), .val (.int i8), .val (.int i10), .unset] [(.int i3), (.int i10)])) _
              refine XS.icmpNo X6.here hx rfl (hb hby at_192) rfl (XT.ii_eq_f c34) ?_
              show Steps p.tables e below (T6.setTop (mkF m 195 #[.val (.int p0), .val (.int p1), .val (.int p2), .val (.int p3), .val (.int ((p0).toUInt32.toUInt16.toUInt32.toInt32)), .val (.int i1), .val (.int ((p1).toUInt32.toUInt16.toUInt32.toInt32)), .val (.int i2), .val (.int ((p2).toUInt32.toUInt16.toUInt32.toInt32)), .val (.int i3), .val (.ref b4), .val (.int (p3 &&& (7 : Int32))), .val (.int i8), .val (.int i10), .unset] [])) _
              refine XS.iload X6.here hx rfl (hb hby at_195) rfl ?_
              show Steps p.tables e below (T6.setTop (mkF m 197 #[.val (.int p0), .val (.int p1), .val (.int p2), .val (.int p3), .val (.int ((p0).toUInt32.toUInt16.toUInt32.toInt32)), .val (.int i1), .val (.int ((p1).toUInt32.toUInt16.toUInt32.toInt32)), .val (.int i2), .val (.int ((p2).toUInt32.toUInt16.toUInt32.toInt32)), .val (.int i3), .val (.ref b4), .val (.int (p3 &&& (7 : Int32))), .val (.int i8), .val (.int i10), .unset] [(.int i10)])) _
              refine XS.iload X6.here hx rfl (hb hby at_197) rfl ?_
              show Steps p.tables e below (T6.setTop (mkF m 199 #[.val (.int p0), .val (.int p1), .val (.int p2), .val (.int p3), .val (.int ((p0).toUInt32.toUInt16.toUInt32.toInt32)), .val (.int i1), .val (.int ((p1).toUInt32.toUInt16.toUInt32.toInt32)), .val (.int i2), .val (.int ((p2).toUInt32.toUInt16.toUInt32.toInt32)), .val (.int i3), .val (.ref b4), .val (.int (p3 &&& (7 : Int32))), .val (.int i8), .val (.int i10), .unset] [(.int ((p2).toUInt32.toUInt16.toUInt32.toInt32)), (.int i10)])) _
              exact kk
            by_cases c36 : i10 = ((p2).toUInt32.toUInt16.toUInt32.toInt32)
            · skip
              refine ⟨(1 : Int32), ((if_pos c28).trans ((if_neg c30).trans ((if_neg c32).trans ((if_neg c34).trans ((if_pos c36).trans rfl))))).symm, fun t kk => P35 t ?_⟩
              show Steps p.tables e below (T6.setTop (mkF m 199 #[.val (.int p0), .val (.int p1), .val (.int p2), .val (.int p3), .val (.int ((p0).toUInt32.toUInt16.toUInt32.toInt32)), .val (.int i1), .val (.int ((p1).toUInt32.toUInt16.toUInt32.toInt32)), .val (.int i2), .val (.int ((p2).toUInt32.toUInt16.toUInt32.toInt32)), .val (.int i3), .val (.ref b4), .val (.int (p3 &&& (7 : Int32))), .val (.int i8), .val (.int i10), .unset] [(.int ((p2).toUInt32.toUInt16.toUInt32.toInt32)), (.int i10)])) _
              refine XS.icmpNo X6.here hx rfl (hb hby at_199) rfl (XT.ii_ne_f c36) ?_
              show Steps p.tables e below (T6.setTop (mkF m 202 #[.val (.int p0), .val (.int p1), .val (.int p2), .val (.int p3), .val (.int ((p0).toUInt32.toUInt16.toUInt32.toInt32)), .val (.int i1), .val (.int ((p1).toUInt32.toUInt16.toUInt32.toInt32)), .val (.int i2), .val (.int ((p2).toUInt32.toUInt16.toUInt32.toInt32)), .val (.int i3), .val (.ref b4), .val (.int (p3 &&& (7 : Int32))), .val (.int i8), .val (.int i10), .unset] [])) _
              refine XS.iconst X6.here hx rfl (hb hby at_202) ?_
              show Steps p.tables e below (T6.setTop (mkF m 203 #[.val (.int p0), .val (.int p1), .val (.int p2), .val (.int p3), .val (.int ((p0).toUInt32.toUInt16.toUInt32.toInt32)), .val (.int i1), .val (.int ((p1).toUInt32.toUInt16.toUInt32.toInt32)), .val (.int i2), .val (.int ((p2).toUInt32.toUInt16.toUInt32.toInt32)), .val (.int i3), .val (.ref b4), .val (.int (p3 &&& (7 : Int32))), .val (.int i8), .val (.int i10), .unset] [(.int (1 : Int32))])) _
              refine XS.goto X6.here hx rfl (pc0 := 203) (pc' := 207) rfl (hb hby at_203) (by decide) (by decide) ?_
              show Steps p.tables e below (T6.setTop (mkF m 207 #[.val (.int p0), .val (.int p1), .val (.int p2), .val (.int p3), .val (.int ((p0).toUInt32.toUInt16.toUInt32.toInt32)), .val (.int i1), .val (.int ((p1).toUInt32.toUInt16.toUInt32.toInt32)), .val (.int i2), .val (.int ((p2).toUInt32.toUInt16.toUInt32.toInt32)), .val (.int i3), .val (.ref b4), .val (.int (p3 &&& (7 : Int32))), .val (.int i8), .val (.int i10), .unset] [(.int (1 : Int32))])) _
              refine XS.istore X6.here hx rfl (hb hby at_207) rfl (l' := #[.val (.int p0), .val (.int p1), .val (.int p2), .val (.int p3), .val (.int ((p0).toUInt32.toUInt16.toUInt32.toInt32)), .val (.int i1), .val (.int ((p1).toUInt32.toUInt16.toUInt32.toInt32)), .val (.int i2), .val (.int ((p2).toUInt32.toUInt16.toUInt32.toInt32)), .val (.int i3), .val (.ref b4), .val (.int (p3 &&& (7 : Int32))), .val (.int i8), .val (.int i10), .val (.int (1 : Int32))]) rfl ?_
              show Steps p.tables e below (T6.setTop (mkF m 209 #[.val (.int p0), .val (.int p1), .val (.int p2), .val (.int p3), .val (.int ((p0).toUInt32.toUInt16.toUInt32.toInt32)), .val (.int i1), .val (.int ((p1).toUInt32.toUInt16.toUInt32.toInt32)), .val (.int i2), .val (.int ((p2).toUInt32.toUInt16.toUInt32.toInt32)), .val (.int i3), .val (.ref b4), .val (.int (p3 &&& (7 : Int32))), .val (.int i8), .val (.int i10), .val (.int (1 : Int32))] [])) _
              exact kk
            · skip
              refine ⟨(0 : Int32), ((if_pos c28).trans ((if_neg c30).trans ((if_neg c32).trans ((if_neg c34).trans ((if_neg c36).trans rfl))))).symm, fun t kk => P35 t ?_⟩
              show Steps p.tables e below (T6.setTop (mkF m 199 #[.val (.int p0), .val (.int p1), .val (.int p2), .val (.int p3), .val (.int ((p0).toUInt32.toUInt16.toUInt32.toInt32)), .val (.int i1), .val (.int ((p1).toUInt32.toUInt16.toUInt32.toInt32)), .val (.int i2), .val (.int ((p2).toUInt32.toUInt16.toUInt32.toInt32)), .val (.int i3), .val (.ref b4), .val (.int (p3 &&& (7 : Int32))), .val (.int i8), .val (.int i10), .unset] [(.int ((p2).toUInt32.toUInt16.toUInt32.toInt32)), (.int i10)])) _
              refine XS.icmpYes X6.here hx rfl (pc0 := 199) (pc' := 206) rfl (hb hby at_199) rfl (XT.ii_ne_t c36) (by decide) (by decide) ?_
              show Steps p.tables e below (T6.setTop (mkF m 206 #[.val (.int p0), .val (.int p1), .val (.int p2), .val (.int p3), .val (.int ((p0).toUInt32.toUInt16.toUInt32.toInt32)), .val (.int i1), .val (.int ((p1).toUInt32.toUInt16.toUInt32.toInt32)), .val (.int i2), .val (.int ((p2).toUInt32.toUInt16.toUInt32.toInt32)), .val (.int i3), .val (.ref b4), .val (.int (p3 &&& (7 : Int32))), .val (.int i8), .val (.int i10), .unset] [])) _
              refine XS.iconst X6.here hx rfl (hb hby at_206) ?_
              show Steps p.tables e below (T6.setTop (mkF m 207 #[.val (.int p0), .val (.int p1), .val (.int p2), .val (.int p3), .val (.int ((p0).toUInt32.toUInt16.toUInt32.toInt32)), .val (.int i1), .val (.int ((p1).toUInt32.toUInt16.toUInt32.toInt32)), .val (.int i2), .val (.int ((p2).toUInt32.toUInt16.toUInt32.toInt32)), .val (.int i3), .val (.ref b4), .val (.int (p3 &&& (7 : Int32))), .val (.int i8), .val (.int i10), .unset] [(.int (0 : Int32))])) _
              refine XS.istore X6.here hx rfl (hb hby at_207) rfl (l' := #[.val (.int p0), .val (.int p1), .val (.int p2), .val (.int p3), .val (.int ((p0).toUInt32.toUInt16.toUInt32.toInt32)), .val (.int i1), .val (.int ((p1).toUInt32.toUInt16.toUInt32.toInt32)), .val (.int i2), .val (.int ((p2).toUInt32.toUInt16.toUInt32.toInt32)), .val (.int i3), .val (.ref b4), .val (.int (p3 &&& (7 : Int32))), .val (.int i8), .val (.int i10), .val (.int (0 : Int32))]) rfl ?_
              show Steps p.tables e below (T6.setTop (mkF m 209 #[.val (.int p0), .val (.int p1), .val (.int p2), .val (.int p3), .val (.int ((p0).toUInt32.toUInt16.toUInt32.toInt32)), .val (.int i1), .val (.int ((p1).toUInt32.toUInt16.toUInt32.toInt32)), .val (.int i2), .val (.int ((p2).toUInt32.toUInt16.toUInt32.toInt32)), .val (.int i3), .val (.ref b4), .val (.int (p3 &&& (7 : Int32))), .val (.int i8), .val (.int i10), .val (.int (0 : Int32))] [])) _
              exact kk
    · skip
      refine ⟨(1 : Int32), ((if_neg c28).trans rfl).symm, fun t kk => P25 t ?_⟩
      show Steps p.tables e below (T6.setTop (mkF m 165 #[.val (.int p0), .val (.int p1), .val (.int p2), .val (.int p3), .val (.int ((p0).toUInt32.toUInt16.toUInt32.toInt32)), .val (.int i1), .val (.int ((p1).toUInt32.toUInt16.toUInt32.toInt32)), .val (.int i2), .val (.int ((p2).toUInt32.toUInt16.toUInt32.toInt32)), .val (.int i3), .val (.ref b4), .val (.int (p3 &&& (7 : Int32))), .val (.int i8), .val (.int i10), .unset] [(.int (3 : Int32)), (.int (p3 &&& (7 : Int32)))])) _
      refine XS.icmpNo X6.here hx rfl (hb hby at_165) rfl (XT.ii_gt_f c28) ?_
      show Steps p.tables e below (T6.setTop (mkF m 168 #[.val (.int p0), .val (.int p1), .val (.int p2), .val (.int p3), .val (.int ((p0).toUInt32.toUInt16.toUInt32.toInt32)), .val (.int i1), .val (.int ((p1).toUInt32.toUInt16.toUInt32.toInt32)), .val (.int i2), .val (.int ((p2).toUInt32.toUInt16.toUInt32.toInt32)), .val (.int i3), .val (.ref b4), .val (.int (p3 &&& (7 : Int32))), .val (.int i8), .val (.int i10), .unset] [])) _
      refine XS.iconst X6.here hx rfl (hb hby at_168) ?_
      show Steps p.tables e below (T6.setTop (mkF m 169 #[.val (.int p0), .val (.int p1), .val (.int p2), .val (.int p3), .val (.int ((p0).toUInt32.toUInt16.toUInt32.toInt32)), .val (.int i1), .val (.int ((p1).toUInt32.toUInt16.toUInt32.toInt32)), .val (.int i2), .val (.int ((p2).toUInt32.toUInt16.toUInt32.toInt32)), .val (.int i3), .val (.ref b4), .val (.int (p3 &&& (7 : Int32))), .val (.int i8), .val (.int i10), .unset] [(.int (1 : Int32))])) _
      refine XS.istore X6.here hx rfl (hb hby at_169) rfl (l' := #[.val (.int p0), .val (.int p1), .val (.int p2), .val (.int p3), .val (.int ((p0).toUInt32.toUInt16.toUInt32.toInt32)), .val (.int i1), .val (.int ((p1).toUInt32.toUInt16.toUInt32.toInt32)), .val (.int i2), .val (.int ((p2).toUInt32.toUInt16.toUInt32.toInt32)), .val (.int i3), .val (.ref b4), .val (.int (p3 &&& (7 : Int32))), .val (.int i8), .val (.int i10), .val (.int (1 : Int32))]) rfl ?_
      show Steps p.tables e below (T6.setTop (mkF m 171 #[.val (.int p0), .val (.int p1), .val (.int p2), .val (.int p3), .val (.int ((p0).toUInt32.toUInt16.toUInt32.toInt32)), .val (.int i1), .val (.int ((p1).toUInt32.toUInt16.toUInt32.toInt32)), .val (.int i2), .val (.int ((p2).toUInt32.toUInt16.toUInt32.toInt32)), .val (.int i3), .val (.ref b4), .val (.int (p3 &&& (7 : Int32))), .val (.int i8), .val (.int i10), .val (.int (1 : Int32))] [])) _
      refine XS.goto X6.here hx rfl (pc0 := 171) (pc' := 209) rfl (hb hby at_171) (by decide) (by decide) ?_
      show Steps p.tables e below (T6.setTop (mkF m 209 #[.val (.int p0), .val (.int p1), .val (.int p2), .val (.int p3), .val (.int ((p0).toUInt32.toUInt16.toUInt32.toInt32)), .val (.int i1), .val (.int ((p1).toUInt32.toUInt16.toUInt32.toInt32)), .val (.int i2), .val (.int ((p2).toUInt32.toUInt16.toUInt32.toInt32)), .val (.int i3), .val (.ref b4), .val (.int (p3 &&& (7 : Int32))), .val (.int i8), .val (.int i10), .val (.int (1 : Int32))] [])) _
      exact kk
  have z38 : n0 ≤ _ := (Nat.le_trans z7 K6.1)
  have f39 := (Exa.keep A4 K6)
  obtain ⟨cq37, kq37, q37a, q37b, q37c⟩ := isOf hZ rfl f39
  obtain ⟨_, _, ⟨T37, L37, k37, n37⟩, -, X37, ⟨Lc37, hQ37, l37, y37, z37⟩, st37⟩ := X6.virtualBack hx (y := (⟨"com/example/quirewire/quirewire/Separators", "splits", "(C)Z"⟩ : MethodName)) (z := (⟨"com/example/quirewire/quirewire/Separators", "splits", "(C)Z"⟩ : MethodName)) hown (mvT hZ (hw _ (List.mem_of_getElem? (i := 26) rfl))) (mvT hZ (hw _ (List.mem_of_getElem? (i := 27) rfl))) (notFace_of_selects (args := #[]) (mvT hZ (hw _ (List.mem_of_getElem? (i := 29) rfl)))) (mvT hZ (hw _ (List.mem_of_getElem? (i := 29) rfl))) (mvT hZ (hw _ (List.mem_of_getElem? (i := 28) rfl))) (by decide) (backOf (W := 0) (rm3 l Z a0 hw [] b4 i10 (nar .char ((p0).toUInt32.toUInt16.toUInt32.toInt32)) (nar .char i1) (nar .char ((p2).toUInt32.toUInt16.toUInt32.toInt32)) (nar .char i3) T6.heap n0 z38 q6_0 q6_1 q6_4 q6_5) hZ (hw _ (List.mem_of_getElem? (i := 30) rfl)) (hw _ (List.mem_of_getElem? (i := 2) rfl)) (by decide) (by decide)) q37a q37c (g := (mkF m 213 #[.val (.int p0), .val (.int p1), .val (.int p2), .val (.int p3), .val (.int ((p0).toUInt32.toUInt16.toUInt32.toInt32)), .val (.int i1), .val (.int ((p1).toUInt32.toUInt16.toUInt32.toInt32)), .val (.int i2), .val (.int ((p2).toUInt32.toUInt16.toUInt32.toInt32)), .val (.int i3), .val (.ref b4), .val (.int (p3 &&& (7 : Int32))), .val (.int i8), .val (.int i10), .val (.int i26)] [(.int i10), (.ref b4)])) rfl (by rw [hml]; rfl) (Steps.refl _) (argsL := [(.int i10)]) (rest := []) (lenOf pd_2 rfl) rfl (by show 2 * 0 + _ ≤ _; exact Nat.le_of_eq rfl) (hb hby at_213) (fun _ _ => ⟨rfl, rfl, (by decide : 1 + 0 ≤ _), (by decide : 6 + 0 ≤ _)⟩)
  dsimp only [Pt.U, Pt.locs, Pt.cells, Pt.slots] at X37 l37 y37 z37 st37 hQ37
  subst l37 y37 z37
  obtain ⟨rfl, Nq37, e37⟩ := hQ37
  have N37 := Fr.app N6 Nq37
  have P40 : ∀ t, Steps p.tables e below (T37.setTop (mkF m 218 #[.val (.int p0), .val (.int p1), .val (.int p2), .val (.int p3), .val (.int ((p0).toUInt32.toUInt16.toUInt32.toInt32)), .val (.int i1), .val (.int ((p1).toUInt32.toUInt16.toUInt32.toInt32)), .val (.int i2), .val (.int ((p2).toUInt32.toUInt16.toUInt32.toInt32)), .val (.int i3), .val (.ref b4), .val (.int (p3 &&& (7 : Int32))), .val (.int i8), .val (.int i10), .val (.int i26)] [(.int i26), (.int (F3 i10 (nar .char ((p0).toUInt32.toUInt16.toUInt32.toInt32)) (nar .char i1) (nar .char ((p2).toUInt32.toUInt16.toUInt32.toInt32)) (nar .char i3)))])) t → Steps p.tables e below (s₁.setTop (entryFrame m #[(.int p0), (.int p1), (.int p2), (.int p3)] maxLocals)) t := by
    intro t kk
    refine P27 _ ?_
    show Steps p.tables e below (T6.setTop (mkF m 209 #[.val (.int p0), .val (.int p1), .val (.int p2), .val (.int p3), .val (.int ((p0).toUInt32.toUInt16.toUInt32.toInt32)), .val (.int i1), .val (.int ((p1).toUInt32.toUInt16.toUInt32.toInt32)), .val (.int i2), .val (.int ((p2).toUInt32.toUInt16.toUInt32.toInt32)), .val (.int i3), .val (.ref b4), .val (.int (p3 &&& (7 : Int32))), .val (.int i8), .val (.int i10), .val (.int i26)] [])) _
    refine XS.aload X6.here hx rfl (hb hby at_209) rfl rfl ?_
    show Steps p.tables e below (T6.setTop (mkF m 211 #[.val (.int p0), .val (.int p1), .val (.int p2), .val (.int p3), .val (.int ((p0).toUInt32.toUInt16.toUInt32.toInt32)), .val (.int i1), .val (.int ((p1).toUInt32.toUInt16.toUInt32.toInt32)), .val (.int i2), .val (.int ((p2).toUInt32.toUInt16.toUInt32.toInt32)), .val (.int i3), .val (.ref b4), .val (.int (p3 &&& (7 : Int32))), .val (.int i8), .val (.int i10), .val (.int i26)] [(.ref b4)])) _
    refine XS.iload X6.here hx rfl (hb hby at_211) rfl ?_
    show Steps p.tables e below (T6.setTop (mkF m 213 #[.val (.int p0), .val (.int p1), .val (.int p2), .val (.int p3), .val (.int ((p0).toUInt32.toUInt16.toUInt32.toInt32)), .val (.int i1), .val (.int ((p1).toUInt32.toUInt16.toUInt32.toInt32)), .val (.int i2), .val (.int ((p2).toUInt32.toUInt16.toUInt32.toInt32)), .val (.int i3), .val (.ref b4), .val (.int (p3 &&& (7 : Int32))), .val (.int i8), .val (.int i10), .val (.int i26)] [(.int i10), (.ref b4)])) _
    refine st37.trans ?_
    show Steps p.tables e below (T37.setTop (mkF m 216 #[.val (.int p0), .val (.int p1), .val (.int p2), .val (.int p3), .val (.int ((p0).toUInt32.toUInt16.toUInt32.toInt32)), .val (.int i1), .val (.int ((p1).toUInt32.toUInt16.toUInt32.toInt32)), .val (.int i2), .val (.int ((p2).toUInt32.toUInt16.toUInt32.toInt32)), .val (.int i3), .val (.ref b4), .val (.int (p3 &&& (7 : Int32))), .val (.int i8), .val (.int i10), .val (.int i26)] [(.int (F3 i10 (nar .char ((p0).toUInt32.toUInt16.toUInt32.toInt32)) (nar .char i1) (nar .char ((p2).toUInt32.toUInt16.toUInt32.toInt32)) (nar .char i3)))])) _
    refine XS.iload X37.here hx rfl (hb hby at_216) rfl ?_
    show Steps p.tables e below (T37.setTop (mkF m 218 #[.val (.int p0), .val (.int p1), .val (.int p2), .val (.int p3), .val (.int ((p0).toUInt32.toUInt16.toUInt32.toInt32)), .val (.int i1), .val (.int ((p1).toUInt32.toUInt16.toUInt32.toInt32)), .val (.int i2), .val (.int ((p2).toUInt32.toUInt16.toUInt32.toInt32)), .val (.int i3), .val (.ref b4), .val (.int (p3 &&& (7 : Int32))), .val (.int i8), .val (.int i10), .val (.int i26)] [(.int i26), (.int (F3 i10 (nar .char ((p0).toUInt32.toUInt16.toUInt32.toInt32)) (nar .char i1) (nar .char ((p2).toUInt32.toUInt16.toUInt32.toInt32)) (nar .char i3)))])) _
    exact kk
  obtain ⟨i41, h_i41, P42⟩ : ∃ (i41 : Int32), i41 = (if (F3 i10 (nar .char ((p0).toUInt32.toUInt16.toUInt32.toInt32)) (nar .char i1) (nar .char ((p2).toUInt32.toUInt16.toUInt32.toInt32)) (nar .char i3)) = i26 then (1 : Int32) else (0 : Int32)) ∧ ∀ t, Steps p.tables e below (T37.setTop (mkF m 226 #[.val (.int p0), .val (.int p1), .val (.int p2), .val (.int p3), .val (.int ((p0).toUInt32.toUInt16.toUInt32.toInt32)), .val (.int i1), .val (.int ((p1).toUInt32.toUInt16.toUInt32.toInt32)), .val (.int i2), .val (.int ((p2).toUInt32.toUInt16.toUInt32.toInt32)), .val (.int i3), .val (.ref b4), .val (.int (p3 &&& (7 : Int32))), .val (.int i8), .val (.int i10), .val (.int i26)] [(.int i41)])) t → Steps p.tables e below (s₁.setTop (entryFrame m #[(.int p0), (.int p1), (.int p2), (.int p3)] maxLocals)) t := by
    by_cases c43 : (F3 i10 (nar .char ((p0).toUInt32.toUInt16.toUInt32.toInt32)) (nar .char i1) (nar .char ((p2).toUInt32.toUInt16.toUInt32.toInt32)) (nar .char i3)) = i26
    · skip
      refine ⟨(1 : Int32), ((if_pos c43).trans rfl).symm, fun t kk => P40 t ?_⟩
      show Steps p.tables e below (T37.setTop (mkF m 218 #[.val (.int p0), .val (.int p1), .val (.int p2), .val (.int p3), .val (.int ((p0).toUInt32.toUInt16.toUInt32.toInt32)), .val (.int i1), .val (.int ((p1).toUInt32.toUInt16.toUInt32.toInt32)), .val (.int i2), .val (.int ((p2).toUInt32.toUInt16.toUInt32.toInt32)), .val (.int i3), .val (.ref b4), .val (.int (p3 &&& (7 : Int32))), .val (.int i8), .val (.int i10), .val (.int i26)] [(.int i26), (.int (F3 i10 (nar .char ((p0).toUInt32.toUInt16.toUInt32.toInt32)) (nar .char i1) (nar .char ((p2).toUInt32.toUInt16.toUInt32.toInt32)) (nar .char i3)))])) _
      refine XS.icmpNo X37.here hx rfl (hb hby at_218) rfl (XT.ii_ne_f c43) ?_
      show Steps p.tables e below (T37.setTop (mkF m 221 #[.val (.int p0), .val (.int p1), .val (.int p2), .val (.int p3), .val (.int ((p0).toUInt32.toUInt16.toUInt32.toInt32)), .val (.int i1), .val (.int ((p1).toUInt32.toUInt16.toUInt32.toInt32)), .val (.int i2), .val (.int ((p2).toUInt32.toUInt16.toUInt32.toInt32)), .val (.int i3), .val (.ref b4), .val (.int (p3 &&& (7 : Int32))), .val (.int i8), .val (.int i10), .val (.int i26)] [])) _
      refine XS.iconst X37.here hx rfl (hb hby at_221) ?_
      show Steps p.tables e below (T37.setTop (mkF m 222 #[.val (.int p0), .val (.int p1), .val (.int p2), .val (.int p3), .val (.int ((p0).toUInt32.toUInt16.toUInt32.toInt32)), .val (.int i1), .val (.int ((p1).toUInt32.toUInt16.toUInt32.toInt32)), .val (.int i2), .val (.int ((p2).toUInt32.toUInt16.toUInt32.toInt32)), .val (.int i3), .val (.ref b4), .val (.int (p3 &&& (7 : Int32))), .val (.int i8), .val (.int i10), .val (.int i26)] [(.int (1 : Int32))])) _
      refine XS.goto X37.here hx rfl (pc0 := 222) (pc' := 226) rfl (hb hby at_222) (by decide) (by decide) ?_
      show Steps p.tables e below (T37.setTop (mkF m 226 #[.val (.int p0), .val (.int p1), .val (.int p2), .val (.int p3), .val (.int ((p0).toUInt32.toUInt16.toUInt32.toInt32)), .val (.int i1), .val (.int ((p1).toUInt32.toUInt16.toUInt32.toInt32)), .val (.int i2), .val (.int ((p2).toUInt32.toUInt16.toUInt32.toInt32)), .val (.int i3), .val (.ref b4), .val (.int (p3 &&& (7 : Int32))), .val (.int i8), .val (.int i10), .val (.int i26)] [(.int (1 : Int32))])) _
      exact kk
    · skip
      refine ⟨(0 : Int32), ((if_neg c43).trans rfl).symm, fun t kk => P40 t ?_⟩
      show Steps p.tables e below (T37.setTop (mkF m 218 #[.val (.int p0), .val (.int p1), .val (.int p2), .val (.int p3), .val (.int ((p0).toUInt32.toUInt16.toUInt32.toInt32)), .val (.int i1), .val (.int ((p1).toUInt32.toUInt16.toUInt32.toInt32)), .val (.int i2), .val (.int ((p2).toUInt32.toUInt16.toUInt32.toInt32)), .val (.int i3), .val (.ref b4), .val (.int (p3 &&& (7 : Int32))), .val (.int i8), .val (.int i10), .val (.int i26)] [(.int i26), (.int (F3 i10 (nar .char ((p0).toUInt32.toUInt16.toUInt32.toInt32)) (nar .char i1) (nar .char ((p2).toUInt32.toUInt16.toUInt32.toInt32)) (nar .char i3)))])) _
      refine XS.icmpYes X37.here hx rfl (pc0 := 218) (pc' := 225) rfl (hb hby at_218) rfl (XT.ii_ne_t c43) (by decide) (by decide) ?_
      show Steps p.tables e below (T37.setTop (mkF m 225 #[.val (.int p0), .val (.int p1), .val (.int p2), .val (.int p3), .val (.int ((p0).toUInt32.toUInt16.toUInt32.toInt32)), .val (.int i1), .val (.int ((p1).toUInt32.toUInt16.toUInt32.toInt32)), .val (.int i2), .val (.int ((p2).toUInt32.toUInt16.toUInt32.toInt32)), .val (.int i3), .val (.ref b4), .val (.int (p3 &&& (7 : Int32))), .val (.int i8), .val (.int i10), .val (.int i26)] [])) _
      refine XS.iconst X37.here hx rfl (hb hby at_225) ?_
      show Steps p.tables e below (T37.setTop (mkF m 226 #[.val (.int p0), .val (.int p1), .val (.int p2), .val (.int p3), .val (.int ((p0).toUInt32.toUInt16.toUInt32.toInt32)), .val (.int i1), .val (.int ((p1).toUInt32.toUInt16.toUInt32.toInt32)), .val (.int i2), .val (.int ((p2).toUInt32.toUInt16.toUInt32.toInt32)), .val (.int i3), .val (.ref b4), .val (.int (p3 &&& (7 : Int32))), .val (.int i8), .val (.int i10), .val (.int i26)] [(.int (0 : Int32))])) _
      exact kk
  have P44 : ∀ t, Steps p.tables e below (T37.setTop (mkF m 226 #[.val (.int p0), .val (.int p1), .val (.int p2), .val (.int p3), .val (.int ((p0).toUInt32.toUInt16.toUInt32.toInt32)), .val (.int i1), .val (.int ((p1).toUInt32.toUInt16.toUInt32.toInt32)), .val (.int i2), .val (.int ((p2).toUInt32.toUInt16.toUInt32.toInt32)), .val (.int i3), .val (.ref b4), .val (.int (p3 &&& (7 : Int32))), .val (.int i8), .val (.int i10), .val (.int i26)] [(.int i41)])) t → Steps p.tables e below (s₁.setTop (entryFrame m #[(.int p0), (.int p1), (.int p2), (.int p3)] maxLocals)) t := by
    intro t kk
    refine P42 _ ?_
    show Steps p.tables e below (T37.setTop (mkF m 226 #[.val (.int p0), .val (.int p1), .val (.int p2), .val (.int p3), .val (.int ((p0).toUInt32.toUInt16.toUInt32.toInt32)), .val (.int i1), .val (.int ((p1).toUInt32.toUInt16.toUInt32.toInt32)), .val (.int i2), .val (.int ((p2).toUInt32.toUInt16.toUInt32.toInt32)), .val (.int i3), .val (.ref b4), .val (.int (p3 &&& (7 : Int32))), .val (.int i8), .val (.int i10), .val (.int i26)] [(.int i41)])) _
    exact kk
  obtain rfl : i41 = (1 : Int32) := own_plain0 p0 p1 p2 p3 i1 h_i1 i2 h_i2 i3 h_i3 i8 h_i8 i10 h_i10 i26 h_i26 i41 h_i41 
  obtain ⟨fs, hr, hrun, hended, hW, hsame⟩ := X37.leave (v := some (.int (1 : Int32))) (fun h => by rw [Bd.returns] at h; cases h)
  refine ⟨_, _, P44 _ ?_, hrun, hended, _, _, rfl, ?_, ⟨_, rfl⟩, hW, hsame.mono (by decide) (by decide)⟩
  · exact retN X37 hx (t := .boolean) Bd.returns (by simp) (hb hby at_226) hr
  · exact ⟨rfl, N37⟩
set_option maxRecDepth 65536 in
set_option maxHeartbeats 40000000 in
theorem comes_1 {Post : Tables → Env → Array Value → State → Outcome → State → Prop} (hpost : ∀ tb e args s v u, (limb_1_1.after args s (.returned v) u = true ∧ limb_1_2.after args s (.returned v) u = true ∧ True) → FrameEnd s (.returned v) u (Jvm.fieldLocs frame_1_writes args s ++ Jvm.arrayLocs frame_1_arrays args s ++ Jvm.staticLocs frame_1_statics s) 16 128 → Post tb e args s (.returned v) u) :
    ArmFor flags0 classFile x code maxLocals ret World_1 tables_1 room_1 Calls_1 rest_1 Pre_1 Post := by
  intro l hfl _ _ p e ha hc hk s m args below hf hA hF happ hP
  obtain ⟨hcalls, hrest, hpre⟩ := hP
  obtain ⟨-, -, -, hnamed, -, -, -, hat⟩ := (Spec.applies_iff hf).mp happ
  obtain ⟨hg, hn⟩ := and_e (Cond.before_iff.mp (show (Jvm.Cond.and given_1 narrow_1).before args s = true from hpre))
  obtain ⟨g0, gr0⟩ := and_e hg
  obtain ⟨g1, gr1⟩ := and_e gr0
  obtain ⟨g2, gr2⟩ := and_e gr1
  obtain ⟨g3, gr3⟩ := and_e gr2
  obtain ⟨w0, w1, w2, w3, rfl⟩ : ∃ w0 w1 w2 w3 : Value, args = #[w0, w1, w2, w3] := by
    have hs : args.size = 4 := by simpa [Cond.value, given_1] using g0
    obtain ⟨L⟩ := args
    match L, hs with
    | [w0, w1, w2, w3], _ => exact ⟨w0, w1, w2, w3, rfl⟩
  have hw := fun d (hd : d ∈ tables_1) => atoms_spec (ws := Jvm.Cond.code x code maxLocals ret :: tables_1) hat d (List.mem_cons_of_mem _ hd)
  have hfit : Fit s := fun {y c} hc i hi => by
    obtain ⟨ha, rfl⟩ := Array.getElem?_eq_some_iff.mp hc
    have q := List.all_eq_true.mp ((Array.all_eq_true_iff_forall_mem.mp hF) _ (Array.getElem_mem ha)) i (List.mem_range.mpr hi)
    simpa [Array.getElem?_eq_getElem hi] using q
  obtain ⟨i0, ei0⟩ := is_v g1
  obtain rfl : w0 = (.int i0) := Option.some.inj ei0
  obtain ⟨i1, ei1⟩ := is_v g2
  obtain rfl : w1 = (.int i1) := Option.some.inj ei1
  obtain ⟨i2, ei2⟩ := is_v g3
  obtain rfl : w2 = (.int i2) := Option.some.inj ei2
  obtain ⟨i3, ei3⟩ := is_v gr3
  obtain rfl : w3 = (.int i3) := Option.some.inj ei3
  obtain ⟨n, o, h1, h2, h3, _, L, rfl, ⟨rfl, N⟩, hq⟩ := rm0 l s _ hw tables_1 i0 i1 i2 i3  s.heap s.heap.size (Nat.le_refl _)  p e ha hc hk s m _ below hf ((Spec.applies_iff_loose hf).mp happ).1 ⟨rfl, State.Warmed39.refl s, rfl⟩ trivial
  refine ⟨n, _, h1, h2, h3, hpost _ _ _ _ _ _ ⟨Cond.after_iff.mpr rfl, Cond.after_iff.mpr (eq_i res_at (Term.int_eval (1)) rfl), trivial⟩ ⟨hq.1, hq.2.1, (hq.2.2.sift fun y hy => Or.inr (N y hy)).mono (by decide) (by decide)⟩⟩
theorem main_1_1 : Claimed_1_1 := comes_1 fun _ _ _ _ _ _ h hF => ⟨h.1, hF⟩
theorem main_1_2 : Claimed_1_2 := comes_1 fun _ _ _ _ _ _ h hF => ⟨h.2.1, hF⟩
end Jvm.Pilot.@@N@@
namespace Jvm.Pilot.@@N@@
open Jvm Jvm.ClassFile Sem Op Lib Jvm.Free Jvm.Stand Jvm.Pilot.@@N@@.Jvm.D
/-! MADE BY PROGRAM (witnessworld.py) out of the Statement's table words and the real class files: 10 classes; the members and pool entries that the words name. The judged class is class 1, her method 1. -/
namespace start1
open Jvm.ClassFile
def u (s : String) : CpInfo := .utf8 (stringToUtf16 s)
/-- a pool by its gaps: so many unusable entries, then the entry; so many at the end -/
def gap : Nat → List CpInfo → List CpInfo
  | 0, r => r
  | n + 1, r => .unusable :: gap n r
def poolList (es : List (Nat × CpInfo)) (last : Nat) : List CpInfo := es.foldr (fun e r => gap e.1 (e.2 :: r)) (gap last [])
def pool (es : List (Nat × CpInfo)) (last : Nat) : Array CpInfo := ⟨poolList es last⟩
def fileOf (pool : Array CpInfo) (this : Nat) (attrs : Array Attribute := #[]) (ms : Array MethodInfo := #[]) (fl : Nat := 33) (sup : Nat := 0) (ifs : Array Nat := #[]) (fds : Array FieldInfo := #[]) : ClassFile where
  minorVersion := 0
  majorVersion := 65
  constantPool := pool
  accessFlags := fl
  thisClass := this
  superClass := sup
  interfaces := ifs
  fields := fds
  methods := ms
  attributes := attrs
def plain (name : String) (sup : Option ClassId) : Class where
  name := name
  kind := .ordinary
  loader := none
  accessFlags := 33
  super := sup
  interfaces := #[]
  cf := none
  fields := #[]
  methods := #[]
  instanceTypes := #[]
  staticTypes := #[]
  resolved := #[]
  callSites := []
  init := .initialized
  statics := none
  mirror := none

def pool0 : Array CpInfo := pool [(5, u "<init>"), (0, u "()V"), (1, .class_ 10), (1, u "java/lang/Object")] 113

def k0c0 : Code := { maxStack := 0, maxLocals := 1, code := object_method_1_code, exceptionTable := #[], attributes := #[] }
def k0m0 : Method := { name := "<init>", desc := "()V", sig := { parameters := [], returnType := none }, accessFlags := 1, code := some k0c0 }
/-- java/lang/Object -/
def k0 : Class := { plain "java/lang/Object" none with
  accessFlags := 33
  interfaces := #[]
  cf := some (fileOf pool0 8 #[] #[{ accessFlags := 1, nameIndex := 5, descriptorIndex := 6, attributes := #[] }] 33 0 #[] #[])
  fields := #[]
  methods := #[k0m0]
  instanceTypes := #[]
  staticTypes := #[]
  resolved := Array.replicate 124 none
  statics := none }

def pool1 : Array CpInfo := pool [(2, .class_ 4), (1, u "java/lang/Object"), (0, u "<init>"), (0, u "()V"), (0, .class_ 8), (0, u "com/example/quirewire/quirewire/Separators"), (0, .methodref 7 10), (0, .nameAndType 5 11), (0, u "(CCCCCC)V"), (0, .integer 65535), (0, .methodref 7 14), (0, .nameAndType 15 16), (0, u "splits"), (0, u "(C)Z"), (0, .class_ 18), (0, u "com/example/quirewire/quirewire/SeparatorsSplitsPinLaw"), (2, u "law"), (0, u "(IIII)Z")] 3

def k1m0 : Method := { name := "<init>", desc := "()V", sig := { parameters := [], returnType := none }, accessFlags := 1, code := none }
def k1c1 : Code := { maxStack := 8, maxLocals := 15, code := code, exceptionTable := #[], attributes := #[] }
def k1m1 : Method := { name := "law", desc := "(IIII)Z", sig := { parameters := [.int, .int, .int, .int], returnType := some .boolean }, accessFlags := 9, code := some k1c1 }
/-- com/example/quirewire/quirewire/SeparatorsSplitsPinLaw -/
def k1 : Class := { plain "com/example/quirewire/quirewire/SeparatorsSplitsPinLaw" (some 0) with
  accessFlags := 49
  interfaces := #[]
  cf := some (fileOf pool1 17 #[] #[{ accessFlags := 1, nameIndex := 5, descriptorIndex := 6, attributes := #[] }, { accessFlags := 9, nameIndex := 21, descriptorIndex := 22, attributes := #[] }] 49 2 #[] #[])
  fields := #[]
  methods := #[k1m0, k1m1]
  instanceTypes := #[]
  staticTypes := #[]
  resolved := Array.replicate 26 none
  statics := none }

def pool2 : Array CpInfo := pool [(1, .methodref 2 3), (0, .class_ 4), (0, .nameAndType 5 6), (0, u "java/lang/Object"), (0, u "<init>"), (0, u "()V"), (0, .class_ 8), (0, u "java/lang/Record")] 13

def k2c0 : Code := { maxStack := 1, maxLocals := 1, code := jdk_30_method_1_code, exceptionTable := #[], attributes := #[] }
def k2m0 : Method := { name := "<init>", desc := "()V", sig := { parameters := [], returnType := none }, accessFlags := 4, code := some k2c0 }
/-- java/lang/Record -/
def k2 : Class := { plain "java/lang/Record" (some 0) with
  accessFlags := 1057
  interfaces := #[]
  cf := some (fileOf pool2 7 #[] #[{ accessFlags := 4, nameIndex := 5, descriptorIndex := 6, attributes := #[] }] 1057 2 #[] #[])
  fields := #[]
  methods := #[k2m0]
  instanceTypes := #[]
  staticTypes := #[]
  resolved := Array.replicate 22 none
  statics := none }

def pool3 : Array CpInfo := pool [(1, .methodref 2 3), (0, .class_ 4), (0, .nameAndType 5 6), (0, u "java/lang/Record"), (0, u "<init>"), (0, u "()V"), (0, .fieldref 8 9), (0, .class_ 10), (0, .nameAndType 11 12), (0, u "com/example/quirewire/quirewire/Separators"), (0, u "component"), (0, u "C"), (0, .fieldref 8 14), (0, .nameAndType 15 12), (0, u "element"), (0, .fieldref 8 17), (0, .nameAndType 18 12), (0, u "tag"), (0, .fieldref 8 20), (0, .nameAndType 21 12), (0, u "decimalMark"), (0, .fieldref 8 23), (0, .nameAndType 24 12), (0, u "release"), (0, .fieldref 8 26), (0, .nameAndType 27 12), (0, u "terminator"), (13, u "NO_RELEASE"), (1, u "(CCCCCC)V"), (6, u "splits"), (0, u "(C)Z")] 29

def k3c0 : Code := { maxStack := 2, maxLocals := 7, code := prog_25_method_1_code, exceptionTable := #[], attributes := #[] }
def k3m0 : Method := { name := "<init>", desc := "(CCCCCC)V", sig := { parameters := [.char, .char, .char, .char, .char, .char], returnType := none }, accessFlags := 1, code := some k3c0 }
def k3c1 : Code := { maxStack := 2, maxLocals := 2, code := prog_25_method_3_code, exceptionTable := #[], attributes := #[] }
def k3m1 : Method := { name := "splits", desc := "(C)Z", sig := { parameters := [.char], returnType := some .boolean }, accessFlags := 1, code := some k3c1 }
/-- com/example/quirewire/quirewire/Separators -/
def k3 : Class := { plain "com/example/quirewire/quirewire/Separators" (some 2) with
  accessFlags := 49
  interfaces := #[]
  cf := some (fileOf pool3 8 #[] #[{ accessFlags := 1, nameIndex := 5, descriptorIndex := 43, attributes := #[] }, { accessFlags := 1, nameIndex := 50, descriptorIndex := 51, attributes := #[] }] 49 2 #[] #[{ accessFlags := 18, nameIndex := 11, descriptorIndex := 12, attributes := #[] }, { accessFlags := 18, nameIndex := 15, descriptorIndex := 12, attributes := #[] }, { accessFlags := 18, nameIndex := 18, descriptorIndex := 12, attributes := #[] }, { accessFlags := 18, nameIndex := 21, descriptorIndex := 12, attributes := #[] }, { accessFlags := 18, nameIndex := 24, descriptorIndex := 12, attributes := #[] }, { accessFlags := 18, nameIndex := 27, descriptorIndex := 12, attributes := #[] }, { accessFlags := 25, nameIndex := 41, descriptorIndex := 12, attributes := #[] }])
  fields := #[{ name := "component", type := .char, accessFlags := 18, slot := 0, constantValue := 0 }, { name := "element", type := .char, accessFlags := 18, slot := 1, constantValue := 0 }, { name := "tag", type := .char, accessFlags := 18, slot := 2, constantValue := 0 }, { name := "decimalMark", type := .char, accessFlags := 18, slot := 3, constantValue := 0 }, { name := "release", type := .char, accessFlags := 18, slot := 4, constantValue := 0 }, { name := "terminator", type := .char, accessFlags := 18, slot := 5, constantValue := 0 }, { name := "NO_RELEASE", type := .char, accessFlags := 25, slot := 0, constantValue := 0 }]
  methods := #[k3m0, k3m1]
  instanceTypes := #[.char, .char, .char, .char, .char, .char]
  staticTypes := #[.char]
  resolved := Array.replicate 81 none
  statics := none }

def pool4 : Array CpInfo := pool [(1, u "java/lang/Cloneable"), (0, .class_ 1), (0, u "java/lang/Object"), (0, .class_ 3)] 3

/-- java/lang/Cloneable -/
def k4 : Class := { plain "java/lang/Cloneable" (some 0) with
  accessFlags := 1537
  interfaces := #[]
  cf := some (fileOf pool4 2 #[] #[] 1537 4 #[] #[])
  fields := #[]
  methods := #[]
  instanceTypes := #[]
  staticTypes := #[]
  resolved := Array.replicate 8 none
  statics := none }

def pool5 : Array CpInfo := pool [(1, u "java/io/Serializable"), (0, .class_ 1), (0, u "java/lang/Object"), (0, .class_ 3)] 3

/-- java/io/Serializable -/
def k5 : Class := { plain "java/io/Serializable" (some 0) with
  accessFlags := 1537
  interfaces := #[]
  cf := some (fileOf pool5 2 #[] #[] 1537 4 #[] #[])
  fields := #[]
  methods := #[]
  instanceTypes := #[]
  staticTypes := #[]
  resolved := Array.replicate 8 none
  statics := none }

/-- the primitive byte -/
def k6 : Class := { plain "byte" none with kind := .primitive 'B', accessFlags := 0x411 }
/-- [B -/
def k7 : Class := { plain "[B" (some 0) with kind := .array 6 .byte, interfaces := #[4, 5], accessFlags := 1041 }

/-- the primitive int -/
def k8 : Class := { plain "int" none with kind := .primitive 'I', accessFlags := 0x411 }
/-- [I -/
def k9 : Class := { plain "[I" (some 0) with kind := .array 8 .int, interfaces := #[4, 5], accessFlags := 1041 }

def heap : Heap := #[]
def classes : Array Class := #[k0, k1, k2, k3, k4, k5, k6, k7, k8, k9]
def interned : List (Array UInt16 × Addr) := []
def slotsUsed : Nat := 0
def theMethod : MethodId := ⟨1, 1⟩
def args0 : Array Value := #[.int 5, .int 5, .int 5, .int 5]
def aboutOver (below : List Frame) : State where
  vm := { classes := classes, interned := interned.toArray }
  heap := heap
  slotsUsed := slotsUsed
  threads := #[{ frames := .invoking theMethod args0 :: below }]
def below0 : List Frame := [.native { method := ⟨0, 0⟩, args := #[] }]
def about1 : State := aboutOver below0
def p0 : Program := .bare "" "" ""
def e0 : Env := launch0.env 0 0 0
theorem w_frames : about1.frames = Frame.invoking theMethod args0 :: below0 := rfl
set_option maxRecDepth 65536 in
theorem w_args : argsFit about1.vm theMethod args0 = true := by decide +kernel
set_option maxRecDepth 65536 in
theorem w_heap : heapFits about1 = true := by decide +kernel
set_option maxRecDepth 65536 in
theorem w_runnable : about1.curStatus? = some .runnable := by decide +kernel
set_option maxRecDepth 65536 in
theorem w_alone : about1.alone = true := by decide +kernel
set_option maxRecDepth 65536 in
theorem w_named : about1.methodNamed? x = some theMethod := by decide +kernel
set_option maxRecDepth 65536 in
theorem w_hears : about1.hears theMethod below0 = true := by decide +kernel
set_option maxRecDepth 65536 in
theorem w_ripe : about1.ripe theMethod args0 below0 = true := by decide +kernel
theorem w_running : about1.status = .running := rfl
set_option maxRecDepth 65536 in
theorem w_room : about1.hasRoom e0.platform room_1 = true :=
  launch0.hasRoom_least _ room_1 (by decide +kernel) (by decide +kernel) (by decide +kernel) (by decide +kernel) (by decide +kernel) (by decide +kernel)
theorem allAtoms_all (ts : List Jvm.Cond) (a : Array Jvm.Value) (st : Jvm.State) : (allAtoms ts).before a st = ts.all (fun c => c.before a st) := by
  induction ts with
  | nil => rfl
  | cons c t ih =>
    show (Jvm.Cond.and c (allAtoms t)).before a st = _
    rw [Jvm.Cond.before_and, ih, List.all_cons]
def words1 : List Jvm.Cond := Jvm.Cond.code x code maxLocals ret :: tables_1
/-- a 'code' word, met by the world's own term for the bytes: nothing is compared byte by byte -/
theorem code_word {y : MethodName} {bytes : ByteArray} {mx : Nat} {rt : Option FieldType} {a : Array Value} {s : State} {m : MethodId} {meth : Method} {c : Code} (h1 : s.methodNamed? y = some m) (h2 : s.vm.method? m = some meth) (h3 : meth.code = some c) (h4 : c.code = bytes)
    (h5 : (c.maxLocals == mx && c.exceptionTable.isEmpty && decide (c.maxStack ≤ mostOperands) && decide (meth.sig.returnType = rt) && !meth.locks && decide (parseMethodDescriptor y.desc = some meth.sig)) = true) : (Jvm.Cond.code y bytes mx rt).before a s = true := by
  simp only [Bool.and_eq_true, beq_iff_eq, Bool.not_eq_true', decide_eq_true_eq] at h5
  obtain ⟨⟨⟨⟨⟨g1, g2⟩, g3⟩, g4⟩, g5⟩, g6⟩ := h5
  simp [Cond.before, Cond.holds, Cond.value, h1, h2, h3, h4, g1, g2, g3, g4, g5, g6]
def isCode : Jvm.Cond → Bool
  | .code _ _ _ _ => true
  | _ => false
theorem all_split {L : List Jvm.Cond} {P : Jvm.Cond → Bool} (h1 : L.all (fun c => isCode c || P c) = true) (h2 : ∀ c ∈ L.filter isCode, P c = true) : L.all P = true := by
  refine List.all_eq_true.mpr fun c hc => ?_
  have h := List.all_eq_true.mp h1 c hc
  rcases Bool.eq_false_or_eq_true (isCode c) with hi | hi
  · exact h2 c (List.mem_filter.mpr ⟨hc, hi⟩)
  · simpa [hi] using h
set_option maxRecDepth 65536 in
theorem w_c0 : (Jvm.Cond.code x code maxLocals ret).before args0 about1 = true := code_word (m := ⟨1, 1⟩) (meth := k1m1) (c := k1c1) (by decide +kernel) rfl rfl rfl (by decide +kernel)
set_option maxRecDepth 65536 in
theorem w_c1 : (Jvm.Cond.code ({ cls := "com/example/quirewire/quirewire/Separators", name := "<init>", desc := "(CCCCCC)V" } : Jvm.MethodName) prog_25_method_1_code (7 : Nat) (Option.none : Option Jvm.ClassFile.FieldType)).before args0 about1 = true := code_word (m := ⟨3, 0⟩) (meth := k3m0) (c := k3c0) (by decide +kernel) rfl rfl rfl (by decide +kernel)
set_option maxRecDepth 65536 in
theorem w_c2 : (Jvm.Cond.code ({ cls := "java/lang/Record", name := "<init>", desc := "()V" } : Jvm.MethodName) jdk_30_method_1_code (1 : Nat) (Option.none : Option Jvm.ClassFile.FieldType)).before args0 about1 = true := code_word (m := ⟨2, 0⟩) (meth := k2m0) (c := k2c0) (by decide +kernel) rfl rfl rfl (by decide +kernel)
set_option maxRecDepth 65536 in
theorem w_c3 : (Jvm.Cond.code ({ cls := "java/lang/Object", name := "<init>", desc := "()V" } : Jvm.MethodName) object_method_1_code (1 : Nat) (Option.none : Option Jvm.ClassFile.FieldType)).before args0 about1 = true := code_word (m := ⟨0, 0⟩) (meth := k0m0) (c := k0c0) (by decide +kernel) rfl rfl rfl (by decide +kernel)
set_option maxRecDepth 65536 in
theorem w_c4 : (Jvm.Cond.code ({ cls := "com/example/quirewire/quirewire/Separators", name := "splits", desc := "(C)Z" } : Jvm.MethodName) prog_25_method_3_code (2 : Nat) (Option.some Jvm.ClassFile.FieldType.boolean)).before args0 about1 = true := code_word (m := ⟨3, 1⟩) (meth := k3m1) (c := k3c1) (by decide +kernel) rfl rfl rfl (by decide +kernel)
def codes1 : List Jvm.Cond := [Jvm.Cond.code x code maxLocals ret, Jvm.Cond.code ({ cls := "com/example/quirewire/quirewire/Separators", name := "<init>", desc := "(CCCCCC)V" } : Jvm.MethodName) prog_25_method_1_code (7 : Nat) (Option.none : Option Jvm.ClassFile.FieldType), Jvm.Cond.code ({ cls := "java/lang/Record", name := "<init>", desc := "()V" } : Jvm.MethodName) jdk_30_method_1_code (1 : Nat) (Option.none : Option Jvm.ClassFile.FieldType), Jvm.Cond.code ({ cls := "java/lang/Object", name := "<init>", desc := "()V" } : Jvm.MethodName) object_method_1_code (1 : Nat) (Option.none : Option Jvm.ClassFile.FieldType), Jvm.Cond.code ({ cls := "com/example/quirewire/quirewire/Separators", name := "splits", desc := "(C)Z" } : Jvm.MethodName) prog_25_method_3_code (2 : Nat) (Option.some Jvm.ClassFile.FieldType.boolean)]
set_option maxRecDepth 65536 in
theorem codes_eq : words1.filter isCode = codes1 := rfl
theorem w_codes : ∀ c ∈ words1.filter isCode, c.before args0 about1 = true := by
  rw [codes_eq]
  intro c hc
  simp only [codes1, List.mem_cons, List.not_mem_nil, or_false] at hc
  rcases hc with rfl | rfl | rfl | rfl | rfl
  · exact w_c0
  · exact w_c1
  · exact w_c2
  · exact w_c3
  · exact w_c4
set_option maxRecDepth 65536 in
theorem w_t1 : (words1.take 24).all (fun c => isCode c || c.before args0 about1) = true := by decide +kernel
set_option maxRecDepth 65536 in
theorem w_t2 : (words1.drop 24).all (fun c => isCode c || c.before args0 about1) = true := by decide +kernel
theorem w_tables : (allAtoms (Jvm.Cond.code x code maxLocals ret :: tables_1)).before args0 about1 = true := by
  rw [allAtoms_all]
  show words1.all (fun c => c.before args0 about1) = true
  refine all_split ?_ w_codes
  rw [← List.take_append_drop 24 words1, List.all_append, w_t1, w_t2]
  rfl
set_option maxRecDepth 65536 in
theorem w_case : (Jvm.Cond.and given_1 narrow_1).before args0 about1 = true := by decide +kernel
theorem w_applies : (headSpec (Jvm.Cond.code x code maxLocals ret :: tables_1) room_1).applies x e0.platform about1 = true :=
  (Spec.applies_iff w_frames).mpr ⟨w_running, w_runnable, w_alone, w_named, w_hears, w_ripe, w_room, w_tables⟩
theorem atStart : AtStart classFile x code maxLocals ret World_1 tables_1 room_1 Calls_1 rest_1 Pre_1 launch0 p0 e0 about1 theMethod args0 below0 :=
  ⟨lists_1, trivial, launch0.admits_env _ _ _, launch0.least_env, fairChoices_fair.cas, fairChoices_fair.clock, w_frames, w_args, w_heap, w_applies, trivial, trivial, w_case⟩
end start1
theorem witness_1 : WitnessClaimed_1 := ⟨start1.p0, start1.e0, start1.about1, start1.theMethod, start1.args0, start1.below0, start1.atStart⟩
end Jvm.Pilot.@@N@@
