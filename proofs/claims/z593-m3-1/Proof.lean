import JvmDerived
import JvmDerived.Pilot.@@N@@Statement
import JvmDerived.Pilot.@@N@@Code
set_option linter.unusedVariables false
set_option linter.unusedSimpArgs false
namespace Jvm.RoadKit
open Sem ClassFile Op Lib Jvm.Stand Jvm.Free Jvm.LawKit
section New
variable {p : Program} {l : Launch} {e : Env} {R : Room} {s : State} {m : MethodId} {args : Array Value} {below : List Frame} {meth : Method} {c : Code} {T : State} {locs : List Loc} {cells slots : Nat}
theorem retI (X : Stand p l e R s m args below meth c T locs cells slots) (hx : p.tables.exec = Jvm.exec) {pc : Nat} {Ls : Array Slot} {z : Int32} {rest : List Value} (hret : meth.sig.returnType = some .int) (hd : decode c.code pc = .ok (.ireturn, 1)) {fs : List Frame}
    (hl : ∀ (f : JFrame) (acts : List Action), f.method = m → f.locked = none → f.entered = [] → (doReturn e (T.setTop f) acts (some (.int z))).1 = T.setFrames fs) : Steps p.tables e below (T.setTop (mkF m pc Ls (.int z :: rest))) (T.setFrames fs) := by
  have hm' : T.vm.method? m = some meth := X.method'
  have hn : narrow .int (.int z) = .int z := rfl
  show Steps p.tables e below (T.setTop { method := m, pc := pc, locals := Ls, stack := _ :: rest, locked := none }) _
  jvm_step X.here [X.here.top, hx, hd, hm', hret, hn]
  first | (intro acts; rw [hl _ acts rfl rfl rfl]) | rw [hl _ _ rfl rfl rfl]
  exact Steps.refl _
end New
end Jvm.RoadKit
namespace Jvm.Pilot.@@N@@
open Jvm Jvm.ClassFile Sem Op Lib Jvm.Free Jvm.Stand Jvm.LawKit Jvm.RoadKit Bundle Jvm.Pilot.@@N@@.Jvm.D
theorem own_sta_keep0 {Z : State} {h h' : Heap} {C n d : String} {v : Value} (F : Sta Z h C n d v) (K : Keep h h' []) : Sta Z h' C n d v := by
  obtain ⟨cf, i, k, f, st, cell, h1, h2, h3, h4, h5, h6, h7⟩ := F
  exact ⟨cf, i, k, f, st, cell, h1, h2, h3, h4, K.2.1 _ _ h5 nin0, h6, h7⟩
theorem own_sta_keep1 {Z : State} {h h' : Heap} {C n d C' : String} {v : Value} {a : Addr} (F : Sta Z h C n d v) (K : Keep h h' [a]) (E : Exa Z h a C') : Sta Z h' C n d v := by
  obtain ⟨cf, i, k, f, st, cell, h1, h2, h3, h4, h5, h6, h7⟩ := F
  obtain ⟨ce, ke, g1, g2, g3, g4, g5⟩ := E
  refine ⟨cf, i, k, f, st, cell, h1, h2, h3, h4, K.2.1 _ _ h5 (ninS (fun q => ?_) nin0), h6, h7⟩
  subst q
  cases h5.symm.trans g1
  rw [h6] at g4; cases g4
theorem pn_0 : plainName "java/util/AbstractCollection" = true := by first | (simp [plainName, overriddenIn]; done) | decide +kernel
theorem pn_1 : plainName "java/util/AbstractList" = true := by first | (simp [plainName, overriddenIn]; done) | decide +kernel
theorem pn_2 : plainName "java/util/ArrayList" = true := by first | (simp [plainName, overriddenIn]; done) | decide +kernel
theorem pn_3 : plainName "com/example/meterwright/meterwright/RecordBody$Reader" = true := by first | (simp [plainName, overriddenIn]; done) | decide +kernel
theorem pn_4 : plainName "com/example/meterwright/meterwright/ReaderKindPinLaw" = true := by first | (simp [plainName, overriddenIn]; done) | decide +kernel
theorem pd_0 : parseMethodDescriptor "()V" = some ⟨[], none⟩ := by decide +kernel
theorem pd_1 : parseMethodDescriptor "([B)V" = some ⟨[(.array .byte)], none⟩ := by decide +kernel
theorem pd_2 : parseMethodDescriptor "()Z" = some ⟨[], some .boolean⟩ := by decide +kernel
theorem pd_3 : parseMethodDescriptor "()B" = some ⟨[], some .byte⟩ := by decide +kernel
theorem own_nb (x : Int32) : nar .byte (nar .byte x.toInt8.toInt32) = x.toInt8.toInt32 := by simp [nar]
theorem own_m3 (x : Int32) : ((x &&& (2147483647 : Int32)) % (3 : Int32)) = (0 : Int32) ∨ ((x &&& (2147483647 : Int32)) % (3 : Int32)) = (1 : Int32) ∨ ((x &&& (2147483647 : Int32)) % (3 : Int32)) = (2 : Int32) := by
  have h1 := c_mask x 2147483647 31 (by decide) (by decide)
  have h2 := (c_irem (x &&& (2147483647 : Int32)) (3 : Int32) 3 (by decide)).1 (by omega)
  have h3 : ((x &&& (2147483647 : Int32)) % (3 : Int32)).toInt = 0 ∨ ((x &&& (2147483647 : Int32)) % (3 : Int32)).toInt = 1 ∨ ((x &&& (2147483647 : Int32)) % (3 : Int32)).toInt = 2 := by omega
  rcases h3 with h | h | h
  · exact Or.inl (Int32.toInt_inj.mp (h.trans (by decide)))
  · exact Or.inr (Or.inl (Int32.toInt_inj.mp (h.trans (by decide))))
  · exact Or.inr (Or.inr ((Int32.toInt_inj.mp (h.trans (by decide)))))
theorem own_n3 (x : Int32) : (x &&& (2147483647 : Int32)) % (3 : Int32) + (1 : Int32) = (1 : Int32) ∨ (x &&& (2147483647 : Int32)) % (3 : Int32) + (1 : Int32) = (2 : Int32) ∨ (x &&& (2147483647 : Int32)) % (3 : Int32) + (1 : Int32) = (3 : Int32) := by
  rcases own_m3 x with h | h | h <;> rw [h] <;> decide
theorem d1_0 : decode jdk_22_method_1_code 0 = .ok (.aload_n 0, 1) := by decide +kernel
theorem d1_1 : decode jdk_22_method_1_code 1 = .ok (.invokespecial 1, 3) := by decide +kernel
theorem d1_4 : decode jdk_22_method_1_code 4 = .ok (.return_, 1) := by decide +kernel
theorem ef_1 (m : MethodId) (x0 : Addr) : entryFrame m #[(.ref x0)] 1 = (mkF m 0 #[.val (.ref x0)] []) := by first | (simp [entryFrame, mkF, argsToLocals, Value.category]; done) | rfl
def Q1 (Z : State) (a : Addr) (h0 : Heap) (n0 : Nat) (vX : Option Value) (hX : Heap) (lX : List Loc) : Prop := vX = none ∧ Fr n0 lX ∧ (hX = h0)
set_option maxRecDepth 65536 in
set_option maxHeartbeats 40000000 in
theorem rm1 (l : Launch) (Z : State) (a0 : Array Value) (hw : ∀ d ∈ tables_1, d.before a0 Z = true) (ws : List Jvm.Cond) (a : Addr) (h0 : Heap) (n0 : Nat) (Z0 : n0 ≤ h0.size)  :
    MetFree l (⟨"java/util/AbstractCollection", "<init>", "()V"⟩ : MethodName) (head1 (Jvm.Cond.code (⟨"java/util/AbstractCollection", "<init>", "()V"⟩ : MethodName) jdk_22_method_1_code 1 none :: ws) ({ frames := 1, cells := 0, slots := 0, locals := 12 } : Room)) (fun aX uX => aX = #[(.ref a)] ∧ Z.Warmed39 uX.vm ∧ uX.heap = h0) (fun _ _ _ _ _ => True) (fun _ uX oX wX => ∃ vX lX, oX = .returned vX ∧ Q1 Z a h0 n0 vX wX.heap lX ∧ FrameEnd uX oX wX lX ({ frames := 1, cells := 0, slots := 0, locals := 12 } : Room).cells ({ frames := 1, cells := 0, slots := 0, locals := 12 } : Room).slots) := by
  refine MetFree.of_bodySF (plainFor_of_name pn_0) hisR ?_
  intro p e s m args below meth c s₁ Bd hml0 hP hK
  obtain ⟨rfl, hZ, hh⟩ := hP
  have hx := Bd.exec
  have hby := Bd.bytes
  have hml : c.maxLocals = 1 := hml0
  have hown : s.vm.findClass "java/util/AbstractCollection" = some m.cls := findClass_of_methodNamed Bd.named
  have hnm := (name_of_methodNamed Bd.named Bd.method).1
  have X0 : Stand p l e ({ frames := 1, cells := 0, slots := 0, locals := 12 } : Room) s m #[(.ref a)] below meth c s₁ [] 0 0 := Stand.of_body Bd
  have e0 : s₁.heap = h0 := by rw [← hh, Bd.state]; rfl
  have N0 := Fr.nil n0
  have pre0 : ∀ t, Steps p.tables e below (s₁.setTop (mkF m 0 #[.val (.ref a)] [])) t → Steps p.tables e below (s₁.setTop (entryFrame m #[(.ref a)] 1)) t := fun t k => castTop (ef_1 m a) k
  obtain ⟨T1, X1, e1, st1⟩ := initO X0 hx hZ hown (hw _ (List.mem_of_getElem? (i := 29) rfl)) (hw _ (List.mem_of_getElem? (i := 9) rfl)) (hw _ (List.mem_of_getElem? (i := 10) rfl)) e0 (g := (mkF m 1 #[.val (.ref a)] [(.ref a)])) rfl (by rw [hml]; rfl) rfl (hb hby d1_1) (by decide) (W := 0) (by show 2 * 0 + _ ≤ _; exact Nat.le_of_eq rfl) (by decide)
  have P2 : ∀ t, Steps p.tables e below (T1.setTop (mkF m 4 #[.val (.ref a)] [])) t → Steps p.tables e below (s₁.setTop (entryFrame m #[(.ref a)] 1)) t := by
    intro t kk
    refine pre0 _ ?_
    show Steps p.tables e below (s₁.setTop (mkF m 0 #[.val (.ref a)] [])) _
    refine XS.aloadN X0.here hx rfl (hb hby d1_0) rfl rfl ?_
    show Steps p.tables e below (s₁.setTop (mkF m 1 #[.val (.ref a)] [(.ref a)])) _
    refine st1 _ ?_
    show Steps p.tables e below (T1.setTop (mkF m 4 #[.val (.ref a)] [])) _
    exact kk
  obtain ⟨fs, hr, hrun, hended, hW, hsame⟩ := X1.leave (v := none) (fun _ => rfl)
  refine ⟨_, _, P2 _ ?_, hrun, hended, _, _, rfl, ?_, ⟨_, rfl⟩, hW, hsame.mono (by decide) (by decide)⟩
  · exact X1.returnOut hx Bd.returns (hb hby d1_4) hr
  · show Q1 Z a h0 n0 _ T1.heap _
    rw [e1]
    exact ⟨rfl, N0, rfl⟩
theorem d2_0 : decode jdk_39_method_1_code 0 = .ok (.aload_n 0, 1) := by decide +kernel
theorem d2_1 : decode jdk_39_method_1_code 1 = .ok (.invokespecial 1, 3) := by decide +kernel
theorem d2_4 : decode jdk_39_method_1_code 4 = .ok (.aload_n 0, 1) := by decide +kernel
theorem d2_5 : decode jdk_39_method_1_code 5 = .ok (.iconst 0, 1) := by decide +kernel
theorem d2_6 : decode jdk_39_method_1_code 6 = .ok (.putfield 7, 3) := by decide +kernel
theorem d2_9 : decode jdk_39_method_1_code 9 = .ok (.return_, 1) := by decide +kernel
theorem ef_2 (m : MethodId) (x0 : Addr) : entryFrame m #[(.ref x0)] 1 = (mkF m 0 #[.val (.ref x0)] []) := by first | (simp [entryFrame, mkF, argsToLocals, Value.category]; done) | rfl
def Q2 (Z : State) (a : Addr) (u : Int32) (h0 : Heap) (n0 : Nat) (vX : Option Value) (hX : Heap) (lX : List Loc) : Prop := vX = none ∧ Fr n0 lX ∧ (Keep h0 hX [a]) ∧ (Fld Z hX a "java/util/AbstractList" "modCount" "I" (.int (0 : Int32))) ∧ (Fld Z hX a "java/util/ArrayList" "elementData" "[Ljava/lang/Object;" .null)
set_option maxRecDepth 65536 in
set_option maxHeartbeats 40000000 in
theorem rm2 (l : Launch) (Z : State) (a0 : Array Value) (hw : ∀ d ∈ tables_1, d.before a0 Z = true) (ws : List Jvm.Cond) (a : Addr) (u : Int32) (h0 : Heap) (n0 : Nat) (Z0 : n0 ≤ h0.size) (pr0 : Exa Z h0 a "java/util/ArrayList") (pr1 : Fld Z h0 a "java/util/AbstractList" "modCount" "I" (.int u)) (pr2 : n0 ≤ a) (pr3 : Fld Z h0 a "java/util/ArrayList" "elementData" "[Ljava/lang/Object;" .null) :
    MetFree l (⟨"java/util/AbstractList", "<init>", "()V"⟩ : MethodName) (head1 (Jvm.Cond.code (⟨"java/util/AbstractList", "<init>", "()V"⟩ : MethodName) jdk_39_method_1_code 1 none :: ws) ({ frames := 2, cells := 0, slots := 0, locals := 24 } : Room)) (fun aX uX => aX = #[(.ref a)] ∧ Z.Warmed39 uX.vm ∧ uX.heap = h0) (fun _ _ _ _ _ => True) (fun _ uX oX wX => ∃ vX lX, oX = .returned vX ∧ Q2 Z a u h0 n0 vX wX.heap lX ∧ FrameEnd uX oX wX lX ({ frames := 2, cells := 0, slots := 0, locals := 24 } : Room).cells ({ frames := 2, cells := 0, slots := 0, locals := 24 } : Room).slots) := by
  refine MetFree.of_bodySF (plainFor_of_name pn_1) hisR ?_
  intro p e s m args below meth c s₁ Bd hml0 hP hK
  obtain ⟨rfl, hZ, hh⟩ := hP
  have hx := Bd.exec
  have hby := Bd.bytes
  have hml : c.maxLocals = 1 := hml0
  have hown : s.vm.findClass "java/util/AbstractList" = some m.cls := findClass_of_methodNamed Bd.named
  have hnm := (name_of_methodNamed Bd.named Bd.method).1
  have X0 : Stand p l e ({ frames := 2, cells := 0, slots := 0, locals := 24 } : Room) s m #[(.ref a)] below meth c s₁ [] 0 0 := Stand.of_body Bd
  have e0 : s₁.heap = h0 := by rw [← hh, Bd.state]; rfl
  have N0 := Fr.nil n0
  have pre0 : ∀ t, Steps p.tables e below (s₁.setTop (mkF m 0 #[.val (.ref a)] [])) t → Steps p.tables e below (s₁.setTop (entryFrame m #[(.ref a)] 1)) t := fun t k => castTop (ef_2 m a) k
  obtain ⟨_, _, ⟨T1, L1, k1, n1⟩, -, X1, ⟨Lc1, hQ1, l1, y1, z1⟩, st1⟩ := X0.specialBack hx (y := (⟨"java/util/AbstractCollection", "<init>", "()V"⟩ : MethodName)) rfl hown (mvT hZ (hw _ (List.mem_of_getElem? (i := 23) rfl))) (mvT hZ (hw _ (List.mem_of_getElem? (i := 24) rfl))) (mvT hZ (hw _ (List.mem_of_getElem? (i := 28) rfl))) (by decide) (backOf (W := 0) (rm1 l Z a0 hw [] a h0 n0 Z0 ) hZ (hw _ (List.mem_of_getElem? (i := 28) rfl)) (hw _ (List.mem_of_getElem? (i := 27) rfl)) (by decide) (by decide)) (g := (mkF m 1 #[.val (.ref a)] [(.ref a)])) rfl (by rw [hml]; rfl) (Steps.refl _) (a := a) (argsL := []) (rest := []) (lenOf pd_0 rfl) rfl (by show 2 * 0 + _ ≤ _; exact Nat.le_of_eq rfl) (hb hby d2_1) (fun _ _ => ⟨rfl, e0, (by decide : 0 + 0 ≤ _), (by decide : 0 + 0 ≤ _)⟩)
  dsimp only [Pt.U, Pt.locs, Pt.cells, Pt.slots] at X1 l1 y1 z1 st1 hQ1
  subst l1 y1 z1
  obtain ⟨rfl, Nq1, e1⟩ := hQ1
  have N1 := Fr.app N0 Nq1
  obtain ⟨T2, h2, X2, e2, W2, st2⟩ := putF X1 hx hZ hown (host := "") (Or.inl (hw _ (List.mem_of_getElem? (i := 30) rfl))) Via.refl e1 pr1 pr0 (Or.inl (hw _ (List.mem_of_getElem? (i := 31) rfl))) (hw _ (List.mem_of_getElem? (i := 12) rfl)) (ty := .int) (by decide) rfl rfl (g := (mkF m 6 #[.val (.ref a)] [(.int (0 : Int32)), (.ref a)])) rfl rfl (hb hby d2_6)
  have N2 := Fr.snoc X2 N1 pr2
  have Fw2 := Fld.same W2 pr1
  have P3 : ∀ t, Steps p.tables e below (T2.setTop (mkF m 9 #[.val (.ref a)] [])) t → Steps p.tables e below (s₁.setTop (entryFrame m #[(.ref a)] 1)) t := by
    intro t kk
    refine pre0 _ ?_
    show Steps p.tables e below (s₁.setTop (mkF m 0 #[.val (.ref a)] [])) _
    refine XS.aloadN X0.here hx rfl (hb hby d2_0) rfl rfl ?_
    show Steps p.tables e below (s₁.setTop (mkF m 1 #[.val (.ref a)] [(.ref a)])) _
    refine st1.trans ?_
    show Steps p.tables e below (T1.setTop (mkF m 4 #[.val (.ref a)] [])) _
    refine XS.aloadN X1.here hx rfl (hb hby d2_4) rfl rfl ?_
    show Steps p.tables e below (T1.setTop (mkF m 5 #[.val (.ref a)] [(.ref a)])) _
    refine XS.iconst X1.here hx rfl (hb hby d2_5) ?_
    show Steps p.tables e below (T1.setTop (mkF m 6 #[.val (.ref a)] [(.int (0 : Int32)), (.ref a)])) _
    refine st2 _ ?_
    show Steps p.tables e below (T2.setTop (mkF m 9 #[.val (.ref a)] [])) _
    exact kk
  have k4 : Keep h0 h2 [a] := (Keep.wr (Keep.refl h0 [a]) W2 (Or.inl (List.mem_of_getElem? (i := 0) rfl)))
  have f5 := (Fld.other W2 pr3 (Or.inr (slot_ne (Or.inl (hw _ (List.mem_of_getElem? (i := 34) rfl))) (Or.inl (hw _ (List.mem_of_getElem? (i := 31) rfl))) (by decide) (t := (.array (.object "java/lang/Object"))) (t' := .int) (by decide) (by decide))))
  obtain ⟨fs, hr, hrun, hended, hW, hsame⟩ := X2.leave (v := none) (fun _ => rfl)
  refine ⟨_, _, P3 _ ?_, hrun, hended, _, _, rfl, ?_, ⟨_, rfl⟩, hW, hsame.mono (by decide) (by decide)⟩
  · exact X2.returnOut hx Bd.returns (hb hby d2_9) hr
  · show Q2 Z a u h0 n0 _ T2.heap _
    rw [e2]
    exact ⟨rfl, N2, k4, Fw2, f5⟩
theorem d3_0 : decode jdk_38_method_2_code 0 = .ok (.aload_n 0, 1) := by decide +kernel
theorem d3_1 : decode jdk_38_method_2_code 1 = .ok (.invokespecial 1, 3) := by decide +kernel
theorem d3_4 : decode jdk_38_method_2_code 4 = .ok (.aload_n 0, 1) := by decide +kernel
theorem d3_5 : decode jdk_38_method_2_code 5 = .ok (.getstatic 39, 3) := by decide +kernel
theorem d3_8 : decode jdk_38_method_2_code 8 = .ok (.putfield 9, 3) := by decide +kernel
theorem d3_11 : decode jdk_38_method_2_code 11 = .ok (.return_, 1) := by decide +kernel
theorem ef_3 (m : MethodId) (x0 : Addr) : entryFrame m #[(.ref x0)] 1 = (mkF m 0 #[.val (.ref x0)] []) := by first | (simp [entryFrame, mkF, argsToLocals, Value.category]; done) | rfl
def Q3 (Z : State) (a : Addr) (u : Int32) (sd : Addr) (h0 : Heap) (n0 : Nat) (vX : Option Value) (hX : Heap) (lX : List Loc) : Prop := vX = none ∧ Fr n0 lX ∧ (Keep h0 hX [a]) ∧ (Fld Z hX a "java/util/ArrayList" "elementData" "[Ljava/lang/Object;" (.ref sd))
set_option maxRecDepth 65536 in
set_option maxHeartbeats 40000000 in
theorem rm3 (l : Launch) (Z : State) (a0 : Array Value) (hw : ∀ d ∈ tables_1, d.before a0 Z = true) (ws : List Jvm.Cond) (a : Addr) (u : Int32) (sd : Addr) (h0 : Heap) (n0 : Nat) (Z0 : n0 ≤ h0.size) (pr0 : Exa Z h0 a "java/util/ArrayList") (pr1 : Fld Z h0 a "java/util/AbstractList" "modCount" "I" (.int u)) (pr2 : Fld Z h0 a "java/util/ArrayList" "elementData" "[Ljava/lang/Object;" .null) (pr3 : n0 ≤ a) (pr4 : Sta Z h0 "java/util/ArrayList" "DEFAULTCAPACITY_EMPTY_ELEMENTDATA" "[Ljava/lang/Object;" (.ref sd)) :
    MetFree l (⟨"java/util/ArrayList", "<init>", "()V"⟩ : MethodName) (head1 (Jvm.Cond.code (⟨"java/util/ArrayList", "<init>", "()V"⟩ : MethodName) jdk_38_method_2_code 1 none :: ws) ({ frames := 3, cells := 0, slots := 0, locals := 36 } : Room)) (fun aX uX => aX = #[(.ref a)] ∧ Z.Warmed39 uX.vm ∧ uX.heap = h0) (fun _ _ _ _ _ => True) (fun _ uX oX wX => ∃ vX lX, oX = .returned vX ∧ Q3 Z a u sd h0 n0 vX wX.heap lX ∧ FrameEnd uX oX wX lX ({ frames := 3, cells := 0, slots := 0, locals := 36 } : Room).cells ({ frames := 3, cells := 0, slots := 0, locals := 36 } : Room).slots) := by
  refine MetFree.of_bodySF (plainFor_of_name pn_2) hisR ?_
  intro p e s m args below meth c s₁ Bd hml0 hP hK
  obtain ⟨rfl, hZ, hh⟩ := hP
  have hx := Bd.exec
  have hby := Bd.bytes
  have hml : c.maxLocals = 1 := hml0
  have hown : s.vm.findClass "java/util/ArrayList" = some m.cls := findClass_of_methodNamed Bd.named
  have hnm := (name_of_methodNamed Bd.named Bd.method).1
  have X0 : Stand p l e ({ frames := 3, cells := 0, slots := 0, locals := 36 } : Room) s m #[(.ref a)] below meth c s₁ [] 0 0 := Stand.of_body Bd
  have e0 : s₁.heap = h0 := by rw [← hh, Bd.state]; rfl
  have N0 := Fr.nil n0
  have pre0 : ∀ t, Steps p.tables e below (s₁.setTop (mkF m 0 #[.val (.ref a)] [])) t → Steps p.tables e below (s₁.setTop (entryFrame m #[(.ref a)] 1)) t := fun t k => castTop (ef_3 m a) k
  obtain ⟨_, _, ⟨T1, L1, k1, n1⟩, -, X1, ⟨Lc1, hQ1, l1, y1, z1⟩, st1⟩ := X0.specialBack hx (y := (⟨"java/util/AbstractList", "<init>", "()V"⟩ : MethodName)) rfl hown (mvT hZ (hw _ (List.mem_of_getElem? (i := 17) rfl))) (mvT hZ (hw _ (List.mem_of_getElem? (i := 18) rfl))) (mvT hZ (hw _ (List.mem_of_getElem? (i := 22) rfl))) (by decide) (backOf (W := 0) (rm2 l Z a0 hw [] a u h0 n0 Z0 pr0 pr1 pr3 pr2) hZ (hw _ (List.mem_of_getElem? (i := 22) rfl)) (hw _ (List.mem_of_getElem? (i := 21) rfl)) (by decide) (by decide)) (g := (mkF m 1 #[.val (.ref a)] [(.ref a)])) rfl (by rw [hml]; rfl) (Steps.refl _) (a := a) (argsL := []) (rest := []) (lenOf pd_0 rfl) rfl (by show 2 * 0 + _ ≤ _; exact Nat.le_of_eq rfl) (hb hby d3_1) (fun _ _ => ⟨rfl, e0, (by decide : 0 + 0 ≤ _), (by decide : 0 + 0 ≤ _)⟩)
  dsimp only [Pt.U, Pt.locs, Pt.cells, Pt.slots] at X1 l1 y1 z1 st1 hQ1
  subst l1 y1 z1
  obtain ⟨rfl, Nq1, K1, q1_0, q1_1⟩ := hQ1
  have N1 := Fr.app N0 Nq1
  have f2 := (own_sta_keep1 pr4 K1 pr0)
  obtain ⟨T3, X3, e3, st3⟩ := getS2 X1 hx hZ hown (host := "") (Or.inl (hw _ (List.mem_of_getElem? (i := 32) rfl))) Via.refl rfl f2 (g := (mkF m 5 #[.val (.ref a)] [(.ref a)])) rfl (hb hby d3_5)
  have f4 := (Exa.keep pr0 K1)
  obtain ⟨T5, h5, X5, e5, W5, st5⟩ := putF X3 hx hZ hown (host := "") (Or.inl (hw _ (List.mem_of_getElem? (i := 33) rfl))) Via.refl e3 q1_1 f4 (Or.inl (hw _ (List.mem_of_getElem? (i := 34) rfl))) (hw _ (List.mem_of_getElem? (i := 12) rfl)) (ty := (.array (.object "java/lang/Object"))) (by decide) rfl rfl (g := (mkF m 8 #[.val (.ref a)] [(.ref sd), (.ref a)])) rfl rfl (hb hby d3_8)
  have N5 := Fr.snoc X5 N1 pr3
  have Fw5 := Fld.same W5 q1_1
  have P6 : ∀ t, Steps p.tables e below (T5.setTop (mkF m 11 #[.val (.ref a)] [])) t → Steps p.tables e below (s₁.setTop (entryFrame m #[(.ref a)] 1)) t := by
    intro t kk
    refine pre0 _ ?_
    show Steps p.tables e below (s₁.setTop (mkF m 0 #[.val (.ref a)] [])) _
    refine XS.aloadN X0.here hx rfl (hb hby d3_0) rfl rfl ?_
    show Steps p.tables e below (s₁.setTop (mkF m 1 #[.val (.ref a)] [(.ref a)])) _
    refine st1.trans ?_
    show Steps p.tables e below (T1.setTop (mkF m 4 #[.val (.ref a)] [])) _
    refine XS.aloadN X1.here hx rfl (hb hby d3_4) rfl rfl ?_
    show Steps p.tables e below (T1.setTop (mkF m 5 #[.val (.ref a)] [(.ref a)])) _
    refine st3 _ ?_
    show Steps p.tables e below (T3.setTop (mkF m 8 #[.val (.ref a)] [(.ref sd), (.ref a)])) _
    refine st5 _ ?_
    show Steps p.tables e below (T5.setTop (mkF m 11 #[.val (.ref a)] [])) _
    exact kk
  have k7 : Keep h0 h5 [a] := (Keep.wr (Keep.trans (Keep.refl h0 [a]) K1 (allS (Or.inl (List.mem_of_getElem? (i := 0) rfl)) all0)) W5 (Or.inl (List.mem_of_getElem? (i := 0) rfl)))
  obtain ⟨fs, hr, hrun, hended, hW, hsame⟩ := X5.leave (v := none) (fun _ => rfl)
  refine ⟨_, _, P6 _ ?_, hrun, hended, _, _, rfl, ?_, ⟨_, rfl⟩, hW, hsame.mono (by decide) (by decide)⟩
  · exact X5.returnOut hx Bd.returns (hb hby d3_11) hr
  · show Q3 Z a u sd h0 n0 _ T5.heap _
    rw [e5]
    exact ⟨rfl, N5, k7, Fw5⟩
theorem d4_0 : decode prog_25_method_1_code 0 = .ok (.aload_n 0, 1) := by decide +kernel
theorem d4_1 : decode prog_25_method_1_code 1 = .ok (.invokespecial 3, 3) := by decide +kernel
theorem d4_4 : decode prog_25_method_1_code 4 = .ok (.aload_n 0, 1) := by decide +kernel
theorem d4_5 : decode prog_25_method_1_code 5 = .ok (.new 9, 3) := by decide +kernel
theorem d4_8 : decode prog_25_method_1_code 8 = .ok (.dup, 1) := by decide +kernel
theorem d4_9 : decode prog_25_method_1_code 9 = .ok (.invokespecial 11, 3) := by decide +kernel
theorem d4_12 : decode prog_25_method_1_code 12 = .ok (.putfield 12, 3) := by decide +kernel
theorem d4_15 : decode prog_25_method_1_code 15 = .ok (.aload_n 0, 1) := by decide +kernel
theorem d4_16 : decode prog_25_method_1_code 16 = .ok (.aload_n 1, 1) := by decide +kernel
theorem d4_17 : decode prog_25_method_1_code 17 = .ok (.putfield 18, 3) := by decide +kernel
theorem d4_20 : decode prog_25_method_1_code 20 = .ok (.return_, 1) := by decide +kernel
theorem ef_4 (m : MethodId) (x0 : Addr) (x1 : Addr) : entryFrame m #[(.ref x0), (.ref x1)] 2 = (mkF m 0 #[.val (.ref x0), .val (.ref x1)] []) := by first | (simp [entryFrame, mkF, argsToLocals, Value.category]; done) | rfl
def Q4 (Z : State) (a : Addr) (b : Addr) (sd : Addr) (h0 : Heap) (n0 : Nat) (vX : Option Value) (hX : Heap) (lX : List Loc) : Prop := vX = none ∧ Fr n0 lX ∧ (Keep h0 hX [a]) ∧ (Fld Z hX a "com/example/meterwright/meterwright/RecordBody$Reader" "bytes" "[B" (.ref b)) ∧ (Fld Z hX a "com/example/meterwright/meterwright/RecordBody$Reader" "position" "I" (.int (0 : Int32)))
set_option maxRecDepth 65536 in
set_option maxHeartbeats 40000000 in
theorem rm4 (l : Launch) (Z : State) (a0 : Array Value) (hw : ∀ d ∈ tables_1, d.before a0 Z = true) (ws : List Jvm.Cond) (a : Addr) (b : Addr) (sd : Addr) (h0 : Heap) (n0 : Nat) (Z0 : n0 ≤ h0.size) (pr0 : Exa Z h0 a "com/example/meterwright/meterwright/RecordBody$Reader") (pr1 : Fld Z h0 a "com/example/meterwright/meterwright/RecordBody$Reader" "texts" "Ljava/util/List;" .null) (pr2 : Fld Z h0 a "com/example/meterwright/meterwright/RecordBody$Reader" "bytes" "[B" .null) (pr3 : Fld Z h0 a "com/example/meterwright/meterwright/RecordBody$Reader" "position" "I" (.int (0 : Int32))) (pr4 : n0 ≤ a) (pr5 : Sta Z h0 "java/util/ArrayList" "DEFAULTCAPACITY_EMPTY_ELEMENTDATA" "[Ljava/lang/Object;" (.ref sd)) :
    MetFree l (⟨"com/example/meterwright/meterwright/RecordBody$Reader", "<init>", "([B)V"⟩ : MethodName) (head1 (Jvm.Cond.code (⟨"com/example/meterwright/meterwright/RecordBody$Reader", "<init>", "([B)V"⟩ : MethodName) prog_25_method_1_code 2 none :: ws) ({ frames := 4, cells := 1, slots := 3, locals := 50 } : Room)) (fun aX uX => aX = #[(.ref a), (.ref b)] ∧ Z.Warmed39 uX.vm ∧ uX.heap = h0) (fun _ _ _ _ _ => True) (fun _ uX oX wX => ∃ vX lX, oX = .returned vX ∧ Q4 Z a b sd h0 n0 vX wX.heap lX ∧ FrameEnd uX oX wX lX ({ frames := 4, cells := 1, slots := 3, locals := 50 } : Room).cells ({ frames := 4, cells := 1, slots := 3, locals := 50 } : Room).slots) := by
  refine MetFree.of_bodySF (plainFor_of_name pn_3) hisR ?_
  intro p e s m args below meth c s₁ Bd hml0 hP hK
  obtain ⟨rfl, hZ, hh⟩ := hP
  have hx := Bd.exec
  have hby := Bd.bytes
  have hml : c.maxLocals = 2 := hml0
  have hown : s.vm.findClass "com/example/meterwright/meterwright/RecordBody$Reader" = some m.cls := findClass_of_methodNamed Bd.named
  have hnm := (name_of_methodNamed Bd.named Bd.method).1
  have X0 : Stand p l e ({ frames := 4, cells := 1, slots := 3, locals := 50 } : Room) s m #[(.ref a), (.ref b)] below meth c s₁ [] 0 0 := Stand.of_body Bd
  have e0 : s₁.heap = h0 := by rw [← hh, Bd.state]; rfl
  have N0 := Fr.nil n0
  have pre0 : ∀ t, Steps p.tables e below (s₁.setTop (mkF m 0 #[.val (.ref a), .val (.ref b)] [])) t → Steps p.tables e below (s₁.setTop (entryFrame m #[(.ref a), (.ref b)] 2)) t := fun t k => castTop (ef_4 m a b) k
  obtain ⟨T1, X1, e1, st1⟩ := initO X0 hx hZ hown (hw _ (List.mem_of_getElem? (i := 8) rfl)) (hw _ (List.mem_of_getElem? (i := 9) rfl)) (hw _ (List.mem_of_getElem? (i := 10) rfl)) e0 (g := (mkF m 1 #[.val (.ref a), .val (.ref b)] [(.ref a)])) rfl (by rw [hml]; rfl) rfl (hb hby d4_1) (by decide) (W := 0) (by show 2 * 0 + _ ≤ _; exact Nat.le_of_eq rfl) (by decide)
  obtain ⟨T2, h2, X2, e2, E2, A2, D2, -, st2⟩ := newO X1 hx hZ hown (hw _ (List.mem_of_getElem? (i := 11) rfl)) (hw _ (List.mem_of_getElem? (i := 12) rfl)) (hw _ (List.mem_of_getElem? (i := 13) rfl)) e1 (g := (mkF m 5 #[.val (.ref a), .val (.ref b)] [(.ref a)])) rfl (hb hby d4_5) (by decide) (by decide)
  obtain ⟨b2, g_b2⟩ : ∃ z, z = h0.size := ⟨_, rfl⟩
  rw [← g_b2] at A2 D2 st2
  have ne_a_b2 : a ≠ b2 := Nat.ne_of_lt (Nat.lt_of_lt_of_le pr0.lt (Nat.le_of_eq g_b2.symm))
  have ge_b2 : n0 ≤ b2 := Nat.le_trans Z0 (Nat.le_of_eq g_b2.symm)
  have sz_b2 : h0.size ≤ b2 := Nat.le_trans (Keep.refl h0 [a]).1 (Nat.le_of_eq g_b2.symm)
  have F2_31 : Fld Z h2 b2 "java/util/AbstractList" "modCount" "I" (.int (0 : Int32)) := D2 (Or.inl (hw _ (List.mem_of_getElem? (i := 31) rfl))) (ty := .int) (by decide)
  have F2_34 : Fld Z h2 b2 "java/util/ArrayList" "elementData" "[Ljava/lang/Object;" .null := D2 (Or.inl (hw _ (List.mem_of_getElem? (i := 34) rfl))) (ty := (.array (.object "java/lang/Object"))) (by decide)
  have f4 := (Sta.ext E2 pr5)
  have z5 : n0 ≤ _ := (Nat.le_trans Z0 E2.1)
  obtain ⟨_, _, ⟨T3, L3, k3, n3⟩, -, X3, ⟨Lc3, hQ3, l3, y3, z3⟩, st3⟩ := X2.specialBack hx (y := (⟨"java/util/ArrayList", "<init>", "()V"⟩ : MethodName)) rfl hown (mvT hZ (hw _ (List.mem_of_getElem? (i := 14) rfl))) (mvT hZ (hw _ (List.mem_of_getElem? (i := 15) rfl))) (mvT hZ (hw _ (List.mem_of_getElem? (i := 16) rfl))) (by decide) (backOf (W := 2) (rm3 l Z a0 hw [] b2 (0 : Int32) sd h2 n0 z5 A2 F2_31 F2_34 ge_b2 f4) hZ (hw _ (List.mem_of_getElem? (i := 16) rfl)) (hw _ (List.mem_of_getElem? (i := 13) rfl)) (by decide) (by decide)) (g := (mkF m 9 #[.val (.ref a), .val (.ref b)] [(.ref b2), (.ref b2), (.ref a)])) rfl (by rw [hml]; rfl) (Steps.refl _) (a := b2) (argsL := []) (rest := [(.ref b2), (.ref a)]) (lenOf pd_0 rfl) rfl (by show 2 * 0 + _ ≤ _; exact Nat.le_of_eq rfl) (hb hby d4_9) (fun _ _ => ⟨rfl, e2, (by decide : 1 + 0 ≤ _), (by decide : 3 + 0 ≤ _)⟩)
  dsimp only [Pt.U, Pt.locs, Pt.cells, Pt.slots] at X3 l3 y3 z3 st3 hQ3
  subst l3 y3 z3
  obtain ⟨rfl, Nq3, K3, q3_0⟩ := hQ3
  have N3 := Fr.app N0 Nq3
  have f6 := (Exa.keep (Exa.ext E2 pr0) K3)
  have f7 := (Fld.keep (Fld.ext E2 pr1) K3 (ninS ne_a_b2 nin0))
  obtain ⟨T8, h8, X8, e8, W8, st8⟩ := putF X3 hx hZ hown (host := "") (Or.inl (hw _ (List.mem_of_getElem? (i := 35) rfl))) Via.refl rfl f7 f6 (Or.inr ⟨(hw _ (List.mem_of_getElem? (i := 36) rfl)), rfl, hnm⟩) (hw _ (List.mem_of_getElem? (i := 3) rfl)) (ty := (.object "java/util/List")) (by decide) rfl rfl (g := (mkF m 12 #[.val (.ref a), .val (.ref b)] [(.ref b2), (.ref a)])) rfl rfl (hb hby d4_12)
  have N8 := Fr.snoc X8 N3 pr4
  have Fw8 := Fld.same W8 f7
  have f9 := (Exa.wr W8 f6)
  have f10 := (Fld.other W8 (Fld.keep (Fld.ext E2 pr2) K3 (ninS ne_a_b2 nin0)) (Or.inr (slot_ne (Or.inr (hw _ (List.mem_of_getElem? (i := 38) rfl))) (Or.inr (hw _ (List.mem_of_getElem? (i := 36) rfl))) (by decide) (t := (.array .byte)) (t' := (.object "java/util/List")) (by decide) (by decide))))
  obtain ⟨T11, h11, X11, e11, W11, st11⟩ := putF X8 hx hZ hown (host := "") (Or.inl (hw _ (List.mem_of_getElem? (i := 37) rfl))) Via.refl e8 f10 f9 (Or.inr ⟨(hw _ (List.mem_of_getElem? (i := 38) rfl)), rfl, hnm⟩) (hw _ (List.mem_of_getElem? (i := 3) rfl)) (ty := (.array .byte)) (by decide) rfl rfl (g := (mkF m 17 #[.val (.ref a), .val (.ref b)] [(.ref b), (.ref a)])) rfl rfl (hb hby d4_17)
  have N11 := Fr.snoc X11 N8 pr4
  have Fw11 := Fld.same W11 f10
  have P12 : ∀ t, Steps p.tables e below (T11.setTop (mkF m 20 #[.val (.ref a), .val (.ref b)] [])) t → Steps p.tables e below (s₁.setTop (entryFrame m #[(.ref a), (.ref b)] 2)) t := by
    intro t kk
    refine pre0 _ ?_
    show Steps p.tables e below (s₁.setTop (mkF m 0 #[.val (.ref a), .val (.ref b)] [])) _
    refine XS.aloadN X0.here hx rfl (hb hby d4_0) rfl rfl ?_
    show Steps p.tables e below (s₁.setTop (mkF m 1 #[.val (.ref a), .val (.ref b)] [(.ref a)])) _
    refine st1 _ ?_
    show Steps p.tables e below (T1.setTop (mkF m 4 #[.val (.ref a), .val (.ref b)] [])) _
    refine XS.aloadN X1.here hx rfl (hb hby d4_4) rfl rfl ?_
    show Steps p.tables e below (T1.setTop (mkF m 5 #[.val (.ref a), .val (.ref b)] [(.ref a)])) _
    refine st2 _ ?_
    show Steps p.tables e below (T2.setTop (mkF m 8 #[.val (.ref a), .val (.ref b)] [(.ref b2), (.ref a)])) _
    refine XS.dup X2.here hx rfl (hb hby d4_8) rfl rfl ?_
    show Steps p.tables e below (T2.setTop (mkF m 9 #[.val (.ref a), .val (.ref b)] [(.ref b2), (.ref b2), (.ref a)])) _
    refine st3.trans ?_
    show Steps p.tables e below (T3.setTop (mkF m 12 #[.val (.ref a), .val (.ref b)] [(.ref b2), (.ref a)])) _
    refine st8 _ ?_
    show Steps p.tables e below (T8.setTop (mkF m 15 #[.val (.ref a), .val (.ref b)] [])) _
    refine XS.aloadN X8.here hx rfl (hb hby d4_15) rfl rfl ?_
    show Steps p.tables e below (T8.setTop (mkF m 16 #[.val (.ref a), .val (.ref b)] [(.ref a)])) _
    refine XS.aloadN X8.here hx rfl (hb hby d4_16) rfl rfl ?_
    show Steps p.tables e below (T8.setTop (mkF m 17 #[.val (.ref a), .val (.ref b)] [(.ref b), (.ref a)])) _
    refine st11 _ ?_
    show Steps p.tables e below (T11.setTop (mkF m 20 #[.val (.ref a), .val (.ref b)] [])) _
    exact kk
  have k13 : Keep h0 h11 [a] := (Keep.wr (Keep.wr (Keep.trans (Keep.ext (Keep.refl h0 [a]) E2) K3 (allS (Or.inr sz_b2) all0)) W8 (Or.inl (List.mem_of_getElem? (i := 0) rfl))) W11 (Or.inl (List.mem_of_getElem? (i := 0) rfl)))
  have f14 := (Fld.other W11 (Fld.other W8 (Fld.keep (Fld.ext E2 pr3) K3 (ninS ne_a_b2 nin0)) (Or.inr (slot_ne (Or.inl (hw _ (List.mem_of_getElem? (i := 45) rfl))) (Or.inr (hw _ (List.mem_of_getElem? (i := 36) rfl))) (by decide) (t := .int) (t' := (.object "java/util/List")) (by decide) (by decide)))) (Or.inr (slot_ne (Or.inl (hw _ (List.mem_of_getElem? (i := 45) rfl))) (Or.inr (hw _ (List.mem_of_getElem? (i := 38) rfl))) (by decide) (t := .int) (t' := (.array .byte)) (by decide) (by decide))))
  obtain ⟨fs, hr, hrun, hended, hW, hsame⟩ := X11.leave (v := none) (fun _ => rfl)
  refine ⟨_, _, P12 _ ?_, hrun, hended, _, _, rfl, ?_, ⟨_, rfl⟩, hW, hsame.mono (by decide) (by decide)⟩
  · exact X11.returnOut hx Bd.returns (hb hby d4_20) hr
  · show Q4 Z a b sd h0 n0 _ T11.heap _
    rw [e11]
    exact ⟨rfl, N11, k13, Fw11, f14⟩
theorem d5_0 : decode prog_25_method_9_code 0 = .ok (.aload_n 0, 1) := by decide +kernel
theorem d5_1 : decode prog_25_method_9_code 1 = .ok (.getfield 22, 3) := by decide +kernel
theorem d5_4 : decode prog_25_method_9_code 4 = .ok (.aload_n 0, 1) := by decide +kernel
theorem d5_5 : decode prog_25_method_9_code 5 = .ok (.getfield 18, 3) := by decide +kernel
theorem d5_8 : decode prog_25_method_9_code 8 = .ok (.arraylength, 1) := by decide +kernel
theorem d5_9 : decode prog_25_method_9_code 9 = .ok (.if_icmp .ne 7, 3) := by decide +kernel
theorem d5_12 : decode prog_25_method_9_code 12 = .ok (.iconst 1, 1) := by decide +kernel
theorem d5_13 : decode prog_25_method_9_code 13 = .ok (.goto 4, 3) := by decide +kernel
theorem d5_16 : decode prog_25_method_9_code 16 = .ok (.iconst 0, 1) := by decide +kernel
theorem d5_17 : decode prog_25_method_9_code 17 = .ok (.ireturn, 1) := by decide +kernel
theorem ef_5 (m : MethodId) (x0 : Addr) : entryFrame m #[(.ref x0)] 1 = (mkF m 0 #[.val (.ref x0)] []) := by first | (simp [entryFrame, mkF, argsToLocals, Value.category]; done) | rfl
def F5 (q : Int32) (z : Int32) : Int32 := (if q = z then (1 : Int32) else (0 : Int32))
def Q5 (Z : State) (a : Addr) (q : Int32) (b : Addr) (k : ClassId) (z : Int32) (vs : List Value) (d : Value) (h0 : Heap) (n0 : Nat) (vX : Option Value) (hX : Heap) (lX : List Loc) : Prop := vX = some (.int (F5 q z)) ∧ Fr n0 lX ∧ (hX = h0)
set_option maxRecDepth 65536 in
set_option maxHeartbeats 40000000 in
theorem rm5 (l : Launch) (Z : State) (a0 : Array Value) (hw : ∀ d ∈ tables_1, d.before a0 Z = true) (ws : List Jvm.Cond) (a : Addr) (q : Int32) (b : Addr) (k : ClassId) (z : Int32) (vs : List Value) (d : Value) (h0 : Heap) (n0 : Nat) (Z0 : n0 ≤ h0.size) (pr0 : Fld Z h0 a "com/example/meterwright/meterwright/RecordBody$Reader" "position" "I" (.int q)) (pr1 : Fld Z h0 a "com/example/meterwright/meterwright/RecordBody$Reader" "bytes" "[B" (.ref b)) (pr2 : Arv Z h0 b k .byte z vs d) :
    MetFree l (⟨"com/example/meterwright/meterwright/RecordBody$Reader", "atEnd", "()Z"⟩ : MethodName) (head1 (Jvm.Cond.code (⟨"com/example/meterwright/meterwright/RecordBody$Reader", "atEnd", "()Z"⟩ : MethodName) prog_25_method_9_code 1 (some .boolean) :: ws) ({ frames := 0, cells := 0, slots := 0, locals := 0 } : Room)) (fun aX uX => aX = #[(.ref a)] ∧ Z.Warmed39 uX.vm ∧ uX.heap = h0) (fun _ _ _ _ _ => True) (fun _ uX oX wX => ∃ vX lX, oX = .returned vX ∧ Q5 Z a q b k z vs d h0 n0 vX wX.heap lX ∧ FrameEnd uX oX wX lX ({ frames := 0, cells := 0, slots := 0, locals := 0 } : Room).cells ({ frames := 0, cells := 0, slots := 0, locals := 0 } : Room).slots) := by
  refine MetFree.of_bodySF (plainFor_of_name pn_3) hisR ?_
  intro p e s m args below meth c s₁ Bd hml0 hP hK
  obtain ⟨rfl, hZ, hh⟩ := hP
  have hx := Bd.exec
  have hby := Bd.bytes
  have hml : c.maxLocals = 1 := hml0
  have hown : s.vm.findClass "com/example/meterwright/meterwright/RecordBody$Reader" = some m.cls := findClass_of_methodNamed Bd.named
  have hnm := (name_of_methodNamed Bd.named Bd.method).1
  have X0 : Stand p l e ({ frames := 0, cells := 0, slots := 0, locals := 0 } : Room) s m #[(.ref a)] below meth c s₁ [] 0 0 := Stand.of_body Bd
  have e0 : s₁.heap = h0 := by rw [← hh, Bd.state]; rfl
  have N0 := Fr.nil n0
  have pre0 : ∀ t, Steps p.tables e below (s₁.setTop (mkF m 0 #[.val (.ref a)] [])) t → Steps p.tables e below (s₁.setTop (entryFrame m #[(.ref a)] 1)) t := fun t k => castTop (ef_5 m a) k
  obtain ⟨T1, X1, e1, st1⟩ := getF X0 hx hZ hown (host := "") (Or.inl (hw _ (List.mem_of_getElem? (i := 44) rfl))) Via.refl e0 pr0 (g := (mkF m 1 #[.val (.ref a)] [(.ref a)])) rfl rfl (hb hby d5_1)
  obtain ⟨T2, X2, e2, st2⟩ := getF X1 hx hZ hown (host := "") (Or.inl (hw _ (List.mem_of_getElem? (i := 37) rfl))) Via.refl e1 pr1 (g := (mkF m 5 #[.val (.ref a)] [(.ref a), (.int q)])) rfl rfl (hb hby d5_5)
  obtain ⟨cl_a3, Ar_a3, q_a3, S_a3, N_a3, H_a3, G_a3⟩ := id pr2
  have P4 : ∀ t, Steps p.tables e below (T2.setTop (mkF m 9 #[.val (.ref a)] [(.int z), (.int q)])) t → Steps p.tables e below (s₁.setTop (entryFrame m #[(.ref a)] 1)) t := by
    intro t kk
    refine pre0 _ ?_
    show Steps p.tables e below (s₁.setTop (mkF m 0 #[.val (.ref a)] [])) _
    refine XS.aloadN X0.here hx rfl (hb hby d5_0) rfl rfl ?_
    show Steps p.tables e below (s₁.setTop (mkF m 1 #[.val (.ref a)] [(.ref a)])) _
    refine st1 _ ?_
    show Steps p.tables e below (T1.setTop (mkF m 4 #[.val (.ref a)] [(.int q)])) _
    refine XS.aloadN X1.here hx rfl (hb hby d5_4) rfl rfl ?_
    show Steps p.tables e below (T1.setTop (mkF m 5 #[.val (.ref a)] [(.ref a), (.int q)])) _
    refine st2 _ ?_
    show Steps p.tables e below (T2.setTop (mkF m 8 #[.val (.ref a)] [(.ref b), (.int q)])) _
    refine X2.arraylength hx (by rw [e2]; exact Ar_a3.1) (State.isArrayOf_alike hZ.alike Ar_a3.2.1) (g := (mkF m 8 #[.val (.ref a)] [(.ref b), (.int q)])) rfl rfl (hb hby d5_8) _ ?_
    rw [len_of S_a3 N_a3]
    show Steps p.tables e below (T2.setTop (mkF m 9 #[.val (.ref a)] [(.int z), (.int q)])) _
    exact kk
  by_cases c5 : q = z
  · skip
    have P6 : ∀ t, Steps p.tables e below (T2.setTop (mkF m 17 #[.val (.ref a)] [(.int (1 : Int32))])) t → Steps p.tables e below (s₁.setTop (entryFrame m #[(.ref a)] 1)) t := by
      intro t kk
      refine P4 _ ?_
      show Steps p.tables e below (T2.setTop (mkF m 9 #[.val (.ref a)] [(.int z), (.int q)])) _
      refine XS.icmpNo X2.here hx rfl (hb hby d5_9) rfl (XT.ii_ne_f c5) ?_
      show Steps p.tables e below (T2.setTop (mkF m 12 #[.val (.ref a)] [])) _
      refine XS.iconst X2.here hx rfl (hb hby d5_12) ?_
      show Steps p.tables e below (T2.setTop (mkF m 13 #[.val (.ref a)] [(.int (1 : Int32))])) _
      refine XS.goto X2.here hx rfl (pc0 := 13) (pc' := 17) rfl (hb hby d5_13) (by decide) (by decide) ?_
      show Steps p.tables e below (T2.setTop (mkF m 17 #[.val (.ref a)] [(.int (1 : Int32))])) _
      exact kk
    obtain ⟨fs, hr, hrun, hended, hW, hsame⟩ := X2.leave (v := some (.int (1 : Int32))) (fun h => by rw [Bd.returns] at h; cases h)
    refine ⟨_, _, P6 _ ?_, hrun, hended, _, _, rfl, ?_, ⟨_, rfl⟩, hW, hsame.mono (by decide) (by decide)⟩
    · exact retN X2 hx (t := .boolean) Bd.returns (by simp) (hb hby d5_17) hr
    · show Q5 Z a q b k z vs d h0 n0 _ T2.heap _
      rw [e2]
      exact ⟨congrArg (fun z => some (Value.int z)) (show (F5 q z) = _ from ((if_pos c5).trans rfl)).symm, N0, rfl⟩
  · skip
    have P7 : ∀ t, Steps p.tables e below (T2.setTop (mkF m 17 #[.val (.ref a)] [(.int (0 : Int32))])) t → Steps p.tables e below (s₁.setTop (entryFrame m #[(.ref a)] 1)) t := by
      intro t kk
      refine P4 _ ?_
      show Steps p.tables e below (T2.setTop (mkF m 9 #[.val (.ref a)] [(.int z), (.int q)])) _
      refine XS.icmpYes X2.here hx rfl (pc0 := 9) (pc' := 16) rfl (hb hby d5_9) rfl (XT.ii_ne_t c5) (by decide) (by decide) ?_
      show Steps p.tables e below (T2.setTop (mkF m 16 #[.val (.ref a)] [])) _
      refine XS.iconst X2.here hx rfl (hb hby d5_16) ?_
      show Steps p.tables e below (T2.setTop (mkF m 17 #[.val (.ref a)] [(.int (0 : Int32))])) _
      exact kk
    obtain ⟨fs, hr, hrun, hended, hW, hsame⟩ := X2.leave (v := some (.int (0 : Int32))) (fun h => by rw [Bd.returns] at h; cases h)
    refine ⟨_, _, P7 _ ?_, hrun, hended, _, _, rfl, ?_, ⟨_, rfl⟩, hW, hsame.mono (by decide) (by decide)⟩
    · exact retN X2 hx (t := .boolean) Bd.returns (by simp) (hb hby d5_17) hr
    · show Q5 Z a q b k z vs d h0 n0 _ T2.heap _
      rw [e2]
      exact ⟨congrArg (fun z => some (Value.int z)) (show (F5 q z) = _ from ((if_neg c5).trans rfl)).symm, N0, rfl⟩
theorem d6_0 : decode prog_25_method_2_code 0 = .ok (.aload_n 0, 1) := by decide +kernel
theorem d6_1 : decode prog_25_method_2_code 1 = .ok (.getfield 22, 3) := by decide +kernel
theorem d6_4 : decode prog_25_method_2_code 4 = .ok (.aload_n 0, 1) := by decide +kernel
theorem d6_5 : decode prog_25_method_2_code 5 = .ok (.getfield 18, 3) := by decide +kernel
theorem d6_8 : decode prog_25_method_2_code 8 = .ok (.arraylength, 1) := by decide +kernel
theorem d6_9 : decode prog_25_method_2_code 9 = .ok (.if_icmp .ne 13, 3) := by decide +kernel
theorem d6_22 : decode prog_25_method_2_code 22 = .ok (.aload_n 0, 1) := by decide +kernel
theorem d6_23 : decode prog_25_method_2_code 23 = .ok (.getfield 18, 3) := by decide +kernel
theorem d6_26 : decode prog_25_method_2_code 26 = .ok (.aload_n 0, 1) := by decide +kernel
theorem d6_27 : decode prog_25_method_2_code 27 = .ok (.dup, 1) := by decide +kernel
theorem d6_28 : decode prog_25_method_2_code 28 = .ok (.getfield 22, 3) := by decide +kernel
theorem d6_31 : decode prog_25_method_2_code 31 = .ok (.dup_x1, 1) := by decide +kernel
theorem d6_32 : decode prog_25_method_2_code 32 = .ok (.iconst 1, 1) := by decide +kernel
theorem d6_33 : decode prog_25_method_2_code 33 = .ok (.iadd, 1) := by decide +kernel
theorem d6_34 : decode prog_25_method_2_code 34 = .ok (.putfield 22, 3) := by decide +kernel
theorem d6_37 : decode prog_25_method_2_code 37 = .ok (.baload, 1) := by decide +kernel
theorem d6_38 : decode prog_25_method_2_code 38 = .ok (.ireturn, 1) := by decide +kernel
theorem ef_6 (m : MethodId) (x0 : Addr) : entryFrame m #[(.ref x0)] 1 = (mkF m 0 #[.val (.ref x0)] []) := by first | (simp [entryFrame, mkF, argsToLocals, Value.category]; done) | rfl
def Q6 (Z : State) (a : Addr) (q : Int32) (b : Addr) (k : ClassId) (z : Int32) (vs : List Value) (d : Value) (x : Int32) (h0 : Heap) (n0 : Nat) (vX : Option Value) (hX : Heap) (lX : List Loc) : Prop := vX = some (.int (nar .byte x)) ∧ Fr n0 lX ∧ (Keep h0 hX [a]) ∧ (Fld Z hX a "com/example/meterwright/meterwright/RecordBody$Reader" "position" "I" (.int (q + (1 : Int32)))) ∧ (Fld Z hX a "com/example/meterwright/meterwright/RecordBody$Reader" "bytes" "[B" (.ref b))
set_option maxRecDepth 65536 in
set_option maxHeartbeats 40000000 in
theorem rm6 (l : Launch) (Z : State) (a0 : Array Value) (hw : ∀ d ∈ tables_1, d.before a0 Z = true) (ws : List Jvm.Cond) (a : Addr) (q : Int32) (b : Addr) (k : ClassId) (z : Int32) (vs : List Value) (d : Value) (x : Int32) (h0 : Heap) (n0 : Nat) (Z0 : n0 ≤ h0.size) (pr0 : Exa Z h0 a "com/example/meterwright/meterwright/RecordBody$Reader") (pr1 : Fld Z h0 a "com/example/meterwright/meterwright/RecordBody$Reader" "position" "I" (.int q)) (pr2 : Fld Z h0 a "com/example/meterwright/meterwright/RecordBody$Reader" "bytes" "[B" (.ref b)) (pr3 : Arv Z h0 b k .byte z vs d) (pr4 : n0 ≤ a) (pr5 : b ≠ a) (pr6 : ¬ q < 0 ∧ q < z) (pr7 : vs.getD q.toNatClampNeg d = (.int x)) :
    MetFree l (⟨"com/example/meterwright/meterwright/RecordBody$Reader", "kind", "()B"⟩ : MethodName) (head1 (Jvm.Cond.code (⟨"com/example/meterwright/meterwright/RecordBody$Reader", "kind", "()B"⟩ : MethodName) prog_25_method_2_code 1 (some .byte) :: ws) ({ frames := 0, cells := 0, slots := 0, locals := 0 } : Room)) (fun aX uX => aX = #[(.ref a)] ∧ Z.Warmed39 uX.vm ∧ uX.heap = h0) (fun _ _ _ _ _ => True) (fun _ uX oX wX => ∃ vX lX, oX = .returned vX ∧ Q6 Z a q b k z vs d x h0 n0 vX wX.heap lX ∧ FrameEnd uX oX wX lX ({ frames := 0, cells := 0, slots := 0, locals := 0 } : Room).cells ({ frames := 0, cells := 0, slots := 0, locals := 0 } : Room).slots) := by
  refine MetFree.of_bodySF (plainFor_of_name pn_3) hisR ?_
  intro p e s m args below meth c s₁ Bd hml0 hP hK
  obtain ⟨rfl, hZ, hh⟩ := hP
  have hx := Bd.exec
  have hby := Bd.bytes
  have hml : c.maxLocals = 1 := hml0
  have hown : s.vm.findClass "com/example/meterwright/meterwright/RecordBody$Reader" = some m.cls := findClass_of_methodNamed Bd.named
  have hnm := (name_of_methodNamed Bd.named Bd.method).1
  have X0 : Stand p l e ({ frames := 0, cells := 0, slots := 0, locals := 0 } : Room) s m #[(.ref a)] below meth c s₁ [] 0 0 := Stand.of_body Bd
  have e0 : s₁.heap = h0 := by rw [← hh, Bd.state]; rfl
  have N0 := Fr.nil n0
  have pre0 : ∀ t, Steps p.tables e below (s₁.setTop (mkF m 0 #[.val (.ref a)] [])) t → Steps p.tables e below (s₁.setTop (entryFrame m #[(.ref a)] 1)) t := fun t k => castTop (ef_6 m a) k
  obtain ⟨T1, X1, e1, st1⟩ := getF X0 hx hZ hown (host := "") (Or.inl (hw _ (List.mem_of_getElem? (i := 44) rfl))) Via.refl e0 pr1 (g := (mkF m 1 #[.val (.ref a)] [(.ref a)])) rfl rfl (hb hby d6_1)
  obtain ⟨T2, X2, e2, st2⟩ := getF X1 hx hZ hown (host := "") (Or.inl (hw _ (List.mem_of_getElem? (i := 37) rfl))) Via.refl e1 pr2 (g := (mkF m 5 #[.val (.ref a)] [(.ref a), (.int q)])) rfl rfl (hb hby d6_5)
  obtain ⟨cl_a3, Ar_a3, q_a3, S_a3, N_a3, H_a3, G_a3⟩ := id pr3
  obtain ⟨T4, X4, e4, st4⟩ := getF X2 hx hZ hown (host := "") (Or.inl (hw _ (List.mem_of_getElem? (i := 37) rfl))) Via.refl e2 pr2 (g := (mkF m 23 #[.val (.ref a)] [(.ref a)])) rfl rfl (hb hby d6_23)
  obtain ⟨T5, X5, e5, st5⟩ := getF X4 hx hZ hown (host := "") (Or.inl (hw _ (List.mem_of_getElem? (i := 44) rfl))) Via.refl e4 pr1 (g := (mkF m 28 #[.val (.ref a)] [(.ref a), (.ref a), (.ref b)])) rfl rfl (hb hby d6_28)
  obtain ⟨T6, h6, X6, e6, W6, st6⟩ := putF X5 hx hZ hown (host := "") (Or.inl (hw _ (List.mem_of_getElem? (i := 44) rfl))) Via.refl e5 pr1 pr0 (Or.inl (hw _ (List.mem_of_getElem? (i := 45) rfl))) (hw _ (List.mem_of_getElem? (i := 3) rfl)) (ty := .int) (by decide) rfl rfl (g := (mkF m 34 #[.val (.ref a)] [(.int (q + (1 : Int32))), (.ref a), (.int q), (.ref b)])) rfl rfl (hb hby d6_34)
  have N6 := Fr.snoc X6 N0 pr4
  have Fw6 := Fld.same W6 pr1
  have f7 := (pr3.other W6 pr5)
  obtain ⟨cl_a8, Ar_a8, q_a8, S_a8, N_a8, H_a8, G_a8⟩ := id f7
  have hin_a8 : ¬ (q < 0 ∨ cl_a8.slots.size ≤ (q).toNatClampNeg) := inb_of S_a8 pr6
  have hat_a8 := Has.at (v := (.int x)) H_a8 hin_a8 pr7
  have P9 : ∀ t, Steps p.tables e below (T6.setTop (mkF m 38 #[.val (.ref a)] [(.int x)])) t → Steps p.tables e below (s₁.setTop (entryFrame m #[(.ref a)] 1)) t := by
    intro t kk
    refine pre0 _ ?_
    show Steps p.tables e below (s₁.setTop (mkF m 0 #[.val (.ref a)] [])) _
    refine XS.aloadN X0.here hx rfl (hb hby d6_0) rfl rfl ?_
    show Steps p.tables e below (s₁.setTop (mkF m 1 #[.val (.ref a)] [(.ref a)])) _
    refine st1 _ ?_
    show Steps p.tables e below (T1.setTop (mkF m 4 #[.val (.ref a)] [(.int q)])) _
    refine XS.aloadN X1.here hx rfl (hb hby d6_4) rfl rfl ?_
    show Steps p.tables e below (T1.setTop (mkF m 5 #[.val (.ref a)] [(.ref a), (.int q)])) _
    refine st2 _ ?_
    show Steps p.tables e below (T2.setTop (mkF m 8 #[.val (.ref a)] [(.ref b), (.int q)])) _
    refine X2.arraylength hx (by rw [e2]; exact Ar_a3.1) (State.isArrayOf_alike hZ.alike Ar_a3.2.1) (g := (mkF m 8 #[.val (.ref a)] [(.ref b), (.int q)])) rfl rfl (hb hby d6_8) _ ?_
    rw [len_of S_a3 N_a3]
    show Steps p.tables e below (T2.setTop (mkF m 9 #[.val (.ref a)] [(.int z), (.int q)])) _
    refine XS.icmpYes X2.here hx rfl (pc0 := 9) (pc' := 22) rfl (hb hby d6_9) rfl (XT.ii_ne_t (fun hh => absurd pr6.2 (by rw [hh]; exact Int32.lt_irrefl))) (by decide) (by decide) ?_
    show Steps p.tables e below (T2.setTop (mkF m 22 #[.val (.ref a)] [])) _
    refine XS.aloadN X2.here hx rfl (hb hby d6_22) rfl rfl ?_
    show Steps p.tables e below (T2.setTop (mkF m 23 #[.val (.ref a)] [(.ref a)])) _
    refine st4 _ ?_
    show Steps p.tables e below (T4.setTop (mkF m 26 #[.val (.ref a)] [(.ref b)])) _
    refine XS.aloadN X4.here hx rfl (hb hby d6_26) rfl rfl ?_
    show Steps p.tables e below (T4.setTop (mkF m 27 #[.val (.ref a)] [(.ref a), (.ref b)])) _
    refine XS.dup X4.here hx rfl (hb hby d6_27) rfl rfl ?_
    show Steps p.tables e below (T4.setTop (mkF m 28 #[.val (.ref a)] [(.ref a), (.ref a), (.ref b)])) _
    refine st5 _ ?_
    show Steps p.tables e below (T5.setTop (mkF m 31 #[.val (.ref a)] [(.int q), (.ref a), (.ref b)])) _
    refine XS.dupX1 X5.here hx rfl (hb hby d6_31) rfl rfl rfl ?_
    show Steps p.tables e below (T5.setTop (mkF m 32 #[.val (.ref a)] [(.int q), (.ref a), (.int q), (.ref b)])) _
    refine XS.iconst X5.here hx rfl (hb hby d6_32) ?_
    show Steps p.tables e below (T5.setTop (mkF m 33 #[.val (.ref a)] [(.int (1 : Int32)), (.int q), (.ref a), (.int q), (.ref b)])) _
    refine XS.iadd X5.here hx rfl (hb hby d6_33) rfl ?_
    show Steps p.tables e below (T5.setTop (mkF m 34 #[.val (.ref a)] [(.int (q + (1 : Int32))), (.ref a), (.int q), (.ref b)])) _
    refine st6 _ ?_
    show Steps p.tables e below (T6.setTop (mkF m 37 #[.val (.ref a)] [(.int q), (.ref b)])) _
    refine X6.baloadBytes hx (j := q) (v := (.int x)) (by rw [e6]; exact Ar_a8.1) (State.isArrayOf_alike hZ.alike Ar_a8.2.1) Ar_a8.2.2 hin_a8 hat_a8 (g := (mkF m 37 #[.val (.ref a)] [(.int q), (.ref b)])) rfl rfl (hb hby d6_37) _ ?_
    show Steps p.tables e below (T6.setTop (mkF m 38 #[.val (.ref a)] [(.int x)])) _
    exact kk
  have k10 : Keep h0 h6 [a] := (Keep.wr (Keep.refl h0 [a]) W6 (Or.inl (List.mem_of_getElem? (i := 0) rfl)))
  have f11 := (Fld.other W6 pr2 (Or.inr (slot_ne (Or.inr (hw _ (List.mem_of_getElem? (i := 38) rfl))) (Or.inl (hw _ (List.mem_of_getElem? (i := 45) rfl))) (by decide) (t := (.array .byte)) (t' := .int) (by decide) (by decide))))
  obtain ⟨fs, hr, hrun, hended, hW, hsame⟩ := X6.leave (v := some (.int (nar .byte x))) (fun h => by rw [Bd.returns] at h; cases h)
  refine ⟨_, _, P9 _ ?_, hrun, hended, _, _, rfl, ?_, ⟨_, rfl⟩, hW, hsame.mono (by decide) (by decide)⟩
  · exact retN X6 hx (t := .byte) Bd.returns (by simp) (hb hby d6_38) hr
  · show Q6 Z a q b k z vs d x h0 n0 _ T6.heap _
    rw [e6]
    exact ⟨rfl, N6, k10, Fw6, f11⟩
theorem ef_0 (m : MethodId) (x0 : Int32) (x1 : Int32) (x2 : Int32) (x3 : Int32) : entryFrame m #[(.int x0), (.int x1), (.int x2), (.int x3)] maxLocals = (mkF m 0 #[.val (.int x0), .val (.int x1), .val (.int x2), .val (.int x3), .unset, .unset, .unset, .unset, .unset, .unset] []) := by first | (simp [entryFrame, mkF, argsToLocals, Value.category, maxLocals]; done) | rfl
def Q0 (Z : State) (h0 : Heap) (n0 : Nat) (v : Option Value) (h : Heap) (L : List Loc) : Prop := v = some (.int (1 : Int32)) ∧ Fr n0 L
set_option maxRecDepth 65536 in
set_option maxHeartbeats 400000000 in
theorem rm0 (l : Launch) (Z : State) (a0 : Array Value) (hw : ∀ d ∈ tables_1, d.before a0 Z = true) (ws : List Jvm.Cond) (p0 : Int32) (p1 : Int32) (p2 : Int32) (p3 : Int32) (sd : Addr) (h0 : Heap) (n0 : Nat) (Z0 : n0 ≤ h0.size) (pr0 : Sta Z h0 "java/util/ArrayList" "DEFAULTCAPACITY_EMPTY_ELEMENTDATA" "[Ljava/lang/Object;" (.ref sd)) :
    MetFree l x (head1 (Jvm.Cond.code x code maxLocals ret :: ws) room_1) (fun a U => a = #[(.int p0), (.int p1), (.int p2), (.int p3)] ∧ Z.Warmed39 U.vm ∧ U.heap = h0) (fun _ _ _ _ _ => True) (fun _ U o U' => ∃ v L, o = .returned v ∧ Q0 Z h0 n0 v U'.heap L ∧ FrameEnd U o U' L room_1.cells room_1.slots) := by
  refine MetFree.of_bodySF (plainFor_of_name pn_4) hisR ?_
  intro p e s m args below meth c s₁ Bd hml0 hP hK
  obtain ⟨rfl, hZ, hh⟩ := hP
  have hx := Bd.exec
  have hby := Bd.bytes
  have hml : c.maxLocals = 10 := hml0
  have hown : s.vm.findClass "com/example/meterwright/meterwright/ReaderKindPinLaw" = some m.cls := findClass_of_methodNamed Bd.named
  have hnm := (name_of_methodNamed Bd.named Bd.method).1
  have X0 : Stand p l e room_1 s m #[(.int p0), (.int p1), (.int p2), (.int p3)] below meth c s₁ [] 0 0 := Stand.of_body Bd
  have e0 : s₁.heap = h0 := by rw [← hh, Bd.state]; rfl
  have N0 := Fr.nil n0
  have pre0 : ∀ t, Steps p.tables e below (s₁.setTop (mkF m 0 #[.val (.int p0), .val (.int p1), .val (.int p2), .val (.int p3), .unset, .unset, .unset, .unset, .unset, .unset] [])) t → Steps p.tables e below (s₁.setTop (entryFrame m #[(.int p0), (.int p1), (.int p2), (.int p3)] maxLocals)) t := fun t k => castTop (ef_0 m p0 p1 p2 p3) k
  have P1 : ∀ t, Steps p.tables e below (s₁.setTop (mkF m 10 #[.val (.int p0), .val (.int p1), .val (.int p2), .val (.int p3), .val (.int (((p3 &&& (2147483647 : Int32)) % (3 : Int32)) + (1 : Int32))), .unset, .unset, .unset, .unset, .unset] [])) t → Steps p.tables e below (s₁.setTop (entryFrame m #[(.int p0), (.int p1), (.int p2), (.int p3)] maxLocals)) t := by
    intro t kk
    refine pre0 _ ?_
    show Steps p.tables e below (s₁.setTop (mkF m 0 #[.val (.int p0), .val (.int p1), .val (.int p2), .val (.int p3), .unset, .unset, .unset, .unset, .unset, .unset] [])) _
    refine XS.iloadN X0.here hx rfl (hb hby at_0) rfl ?_
    show Steps p.tables e below (s₁.setTop (mkF m 1 #[.val (.int p0), .val (.int p1), .val (.int p2), .val (.int p3), .unset, .unset, .unset, .unset, .unset, .unset] [(.int p3)])) _
    refine X0.ldcInt hx hown (mvT hZ (hw _ (List.mem_of_getElem? (i := 0) rfl))) (g := (mkF m 1 #[.val (.int p0), .val (.int p1), .val (.int p2), .val (.int p3), .unset, .unset, .unset, .unset, .unset, .unset] [(.int p3)])) rfl (hb hby at_1) _ ?_
    show Steps p.tables e below (s₁.setTop (mkF m 3 #[.val (.int p0), .val (.int p1), .val (.int p2), .val (.int p3), .unset, .unset, .unset, .unset, .unset, .unset] [(.int (2147483647 : Int32)), (.int p3)])) _
    refine XS.iand X0.here hx rfl (hb hby at_3) rfl ?_
    show Steps p.tables e below (s₁.setTop (mkF m 4 #[.val (.int p0), .val (.int p1), .val (.int p2), .val (.int p3), .unset, .unset, .unset, .unset, .unset, .unset] [(.int (p3 &&& (2147483647 : Int32)))])) _
    refine XS.iconst X0.here hx rfl (hb hby at_4) ?_
    show Steps p.tables e below (s₁.setTop (mkF m 5 #[.val (.int p0), .val (.int p1), .val (.int p2), .val (.int p3), .unset, .unset, .unset, .unset, .unset, .unset] [(.int (3 : Int32)), (.int (p3 &&& (2147483647 : Int32)))])) _
    refine iremM (g := (mkF m 5 #[.val (.int p0), .val (.int p1), .val (.int p2), .val (.int p3), .unset, .unset, .unset, .unset, .unset, .unset] [(.int (3 : Int32)), (.int (p3 &&& (2147483647 : Int32)))])) X0 hx rfl (hb hby at_5) rfl (by decide) ?_
    show Steps p.tables e below (s₁.setTop (mkF m 6 #[.val (.int p0), .val (.int p1), .val (.int p2), .val (.int p3), .unset, .unset, .unset, .unset, .unset, .unset] [(.int ((p3 &&& (2147483647 : Int32)) % (3 : Int32)))])) _
    refine XS.iconst X0.here hx rfl (hb hby at_6) ?_
    show Steps p.tables e below (s₁.setTop (mkF m 7 #[.val (.int p0), .val (.int p1), .val (.int p2), .val (.int p3), .unset, .unset, .unset, .unset, .unset, .unset] [(.int (1 : Int32)), (.int ((p3 &&& (2147483647 : Int32)) % (3 : Int32)))])) _
    refine XS.iadd X0.here hx rfl (hb hby at_7) rfl ?_
    show Steps p.tables e below (s₁.setTop (mkF m 8 #[.val (.int p0), .val (.int p1), .val (.int p2), .val (.int p3), .unset, .unset, .unset, .unset, .unset, .unset] [(.int (((p3 &&& (2147483647 : Int32)) % (3 : Int32)) + (1 : Int32)))])) _
    refine XS.istore X0.here hx rfl (hb hby at_8) rfl (l' := #[.val (.int p0), .val (.int p1), .val (.int p2), .val (.int p3), .val (.int (((p3 &&& (2147483647 : Int32)) % (3 : Int32)) + (1 : Int32))), .unset, .unset, .unset, .unset, .unset]) rfl ?_
    show Steps p.tables e below (s₁.setTop (mkF m 10 #[.val (.int p0), .val (.int p1), .val (.int p2), .val (.int p3), .val (.int (((p3 &&& (2147483647 : Int32)) % (3 : Int32)) + (1 : Int32))), .unset, .unset, .unset, .unset, .unset] [])) _
    exact kk
  rcases own_n3 p3 with hs2 | hs2 | hs2
  · skip
    have P3 : ∀ t, Steps p.tables e below (s₁.setTop (mkF m 10 #[.val (.int p0), .val (.int p1), .val (.int p2), .val (.int p3), .val (.int (1 : Int32)), .unset, .unset, .unset, .unset, .unset] [])) t → Steps p.tables e below (s₁.setTop (entryFrame m #[(.int p0), (.int p1), (.int p2), (.int p3)] maxLocals)) t := by
      intro t kk
      refine P1 _ ?_
      rw [hs2]
      exact kk
    obtain ⟨T4, h4, k4, X4, e4, E4, A4, st4⟩ := newP X0 hx hZ (hw _ (List.mem_of_getElem? (i := 1) rfl)) e0 (g := (mkF m 29 #[.val (.int p0), .val (.int p1), .val (.int p2), .val (.int p3), .val (.int (1 : Int32)), .val (.int ((p0).toInt8.toInt32)), .val (.int ((p1).toInt8.toInt32)), .val (.int ((p2).toInt8.toInt32)), .unset, .unset] [(.int (1 : Int32))])) rfl (hb hby at_29) rfl (by decide) (cap := 1) (by decide) (by decide) (by decide) (by decide)
    obtain ⟨b4, g_b4⟩ : ∃ z, z = h0.size := ⟨_, rfl⟩
    rw [← g_b4] at A4 st4
    have ge_b4 : n0 ≤ b4 := Nat.le_trans Z0 (Nat.le_of_eq g_b4.symm)
    have sz_b4 : h0.size ≤ b4 := Nat.le_trans (Keep.refl h0 []).1 (Nat.le_of_eq g_b4.symm)
    have V4 : Arv Z h4 b4 k4 .byte (1 : Int32) [(.int (0 : Int32))] (.int (0 : Int32)) := (Arv.new A4 (by decide)).pad (pad_rep [] (.int (0 : Int32)) 1)
    obtain ⟨cl_a5, Ar_a5, q_a5, S_a5, N_a5, H_a5, G_a5⟩ := id V4
    have hin_a5 : ¬ ((0 : Int32) < 0 ∨ cl_a5.slots.size ≤ ((0 : Int32)).toNatClampNeg) := inb_of S_a5 ⟨by decide, by decide⟩
    obtain ⟨T6, h6, X6, e6, W6, st6⟩ := stB X4 hx hZ e4 Ar_a5 (j := (0 : Int32)) hin_a5 (g := (mkF m 35 #[.val (.int p0), .val (.int p1), .val (.int p2), .val (.int p3), .val (.int (1 : Int32)), .val (.int ((p0).toInt8.toInt32)), .val (.int ((p1).toInt8.toInt32)), .val (.int ((p2).toInt8.toInt32)), .unset, .unset] [(.int ((p0).toInt8.toInt32)), (.int (0 : Int32)), (.ref b4), (.ref b4)])) rfl rfl (hb hby at_35)
    have V6 : Arv Z h6 b4 k4 .byte (1 : Int32) [(.int (nar .byte ((p0).toInt8.toInt32)))] (.int (0 : Int32)) := Arv.set Ar_a5 q_a5 S_a5 N_a5 H_a5 G_a5 (fits_nar_byte _) W6 0 rfl (Nat.le_of_ble_eq_true rfl)
    have N6 := Fr.snoc X6 N0 ge_b4
    obtain ⟨T7, h7, X7, e7, E7, A7, D7, -, st7⟩ := newO X6 hx hZ hown (hw _ (List.mem_of_getElem? (i := 2) rfl)) (hw _ (List.mem_of_getElem? (i := 3) rfl)) (hw _ (List.mem_of_getElem? (i := 4) rfl)) e6 (g := (mkF m 85 #[.val (.int p0), .val (.int p1), .val (.int p2), .val (.int p3), .val (.int (1 : Int32)), .val (.int ((p0).toInt8.toInt32)), .val (.int ((p1).toInt8.toInt32)), .val (.int ((p2).toInt8.toInt32)), .val (.ref b4), .unset] [])) rfl (hb hby at_85) (by decide) (by decide)
    have z8 : n0 ≤ _ := (Nat.le_trans (Nat.le_trans Z0 E4.1) (Keep.of_wr W6).1)
    have k9 : Keep h0 h6 [] := (Keep.wr (Keep.ext (Keep.refl h0 []) E4) W6 (Or.inr sz_b4))
    obtain ⟨b7, g_b7⟩ : ∃ z, z = h6.size := ⟨_, rfl⟩
    rw [← g_b7] at A7 D7 st7
    have ne_b4_b7 : b4 ≠ b7 := Nat.ne_of_lt (Nat.lt_of_lt_of_le V6.lt (Nat.le_of_eq g_b7.symm))
    have ge_b7 : n0 ≤ b7 := Nat.le_trans z8 (Nat.le_of_eq g_b7.symm)
    have sz_b7 : h0.size ≤ b7 := Nat.le_trans k9.1 (Nat.le_of_eq g_b7.symm)
    have F7_36 : Fld Z h7 b7 "com/example/meterwright/meterwright/RecordBody$Reader" "texts" "Ljava/util/List;" .null := D7 (Or.inr (hw _ (List.mem_of_getElem? (i := 36) rfl))) (ty := (.object "java/util/List")) (by decide)
    have F7_38 : Fld Z h7 b7 "com/example/meterwright/meterwright/RecordBody$Reader" "bytes" "[B" .null := D7 (Or.inr (hw _ (List.mem_of_getElem? (i := 38) rfl))) (ty := (.array .byte)) (by decide)
    have F7_45 : Fld Z h7 b7 "com/example/meterwright/meterwright/RecordBody$Reader" "position" "I" (.int (0 : Int32)) := D7 (Or.inl (hw _ (List.mem_of_getElem? (i := 45) rfl))) (ty := .int) (by decide)
    have f11 := (Sta.ext E7 (Sta.wr W6 (Sta.ext E4 pr0)))
    have z12 : n0 ≤ _ := (Nat.le_trans z8 E7.1)
    obtain ⟨_, _, ⟨T10, L10, k10, n10⟩, -, X10, ⟨Lc10, hQ10, l10, y10, z10⟩, st10⟩ := X7.specialBack hx (y := (⟨"com/example/meterwright/meterwright/RecordBody$Reader", "<init>", "([B)V"⟩ : MethodName)) rfl hown (mvT hZ (hw _ (List.mem_of_getElem? (i := 5) rfl))) (mvT hZ (hw _ (List.mem_of_getElem? (i := 6) rfl))) (mvT hZ (hw _ (List.mem_of_getElem? (i := 7) rfl))) (by decide) (backOf (W := 1) (rm4 l Z a0 hw [] b7 b4 sd h7 n0 z12 A7 F7_36 F7_38 F7_45 ge_b7 f11) hZ (hw _ (List.mem_of_getElem? (i := 7) rfl)) (hw _ (List.mem_of_getElem? (i := 4) rfl)) (by decide) (by decide)) (g := (mkF m 91 #[.val (.int p0), .val (.int p1), .val (.int p2), .val (.int p3), .val (.int (1 : Int32)), .val (.int ((p0).toInt8.toInt32)), .val (.int ((p1).toInt8.toInt32)), .val (.int ((p2).toInt8.toInt32)), .val (.ref b4), .unset] [(.ref b4), (.ref b7), (.ref b7)])) rfl (by rw [hml]; rfl) (Steps.refl _) (a := b7) (argsL := [(.ref b4)]) (rest := [(.ref b7)]) (lenOf pd_1 rfl) rfl (by show 2 * 0 + _ ≤ _; exact Nat.le_of_eq rfl) (hb hby at_91) (fun _ _ => ⟨rfl, e7, (by decide : 2 + 1 ≤ _), (by decide : 5 + 3 ≤ _)⟩)
    dsimp only [Pt.U, Pt.locs, Pt.cells, Pt.slots] at X10 l10 y10 z10 st10 hQ10
    subst l10 y10 z10
    obtain ⟨rfl, Nq10, K10, q10_0, q10_1⟩ := hQ10
    have N10 := Fr.app N6 Nq10
    have f14 := (Arv.keep (V6.ext E7) K10 (ninS ne_b4_b7 nin0))
    have z15 : n0 ≤ _ := (Nat.le_trans z12 K10.1)
    have f16 := (Exa.keep A7 K10)
    obtain ⟨cq13, kq13, q13a, q13b, q13c⟩ := isOf hZ rfl f16
    obtain ⟨_, _, ⟨T13, L13, k13, n13⟩, -, X13, ⟨Lc13, hQ13, l13, y13, z13⟩, st13⟩ := X10.virtualBack hx (y := (⟨"com/example/meterwright/meterwright/RecordBody$Reader", "atEnd", "()Z"⟩ : MethodName)) (z := (⟨"com/example/meterwright/meterwright/RecordBody$Reader", "atEnd", "()Z"⟩ : MethodName)) hown (mvT hZ (hw _ (List.mem_of_getElem? (i := 39) rfl))) (mvT hZ (hw _ (List.mem_of_getElem? (i := 40) rfl))) (notFace_of_selects (args := #[]) (mvT hZ (hw _ (List.mem_of_getElem? (i := 42) rfl)))) (mvT hZ (hw _ (List.mem_of_getElem? (i := 42) rfl))) (mvT hZ (hw _ (List.mem_of_getElem? (i := 41) rfl))) (by decide) (backOf (W := 0) (rm5 l Z a0 hw [] b7 (0 : Int32) b4 k4 (1 : Int32) [(.int (nar .byte ((p0).toInt8.toInt32)))] (.int (0 : Int32)) T10.heap n0 z15 q10_1 q10_0 f14) hZ (hw _ (List.mem_of_getElem? (i := 43) rfl)) (hw _ (List.mem_of_getElem? (i := 4) rfl)) (by decide) (by decide)) q13a q13c (g := (mkF m 98 #[.val (.int p0), .val (.int p1), .val (.int p2), .val (.int p3), .val (.int (1 : Int32)), .val (.int ((p0).toInt8.toInt32)), .val (.int ((p1).toInt8.toInt32)), .val (.int ((p2).toInt8.toInt32)), .val (.ref b4), .val (.ref b7)] [(.ref b7)])) rfl (by rw [hml]; rfl) (Steps.refl _) (argsL := []) (rest := []) (lenOf pd_2 rfl) rfl (by show 2 * 0 + _ ≤ _; exact Nat.le_of_eq rfl) (hb hby at_98) (fun _ _ => ⟨rfl, rfl, (by decide : 3 + 0 ≤ _), (by decide : 8 + 0 ≤ _)⟩)
    dsimp only [Pt.U, Pt.locs, Pt.cells, Pt.slots] at X13 l13 y13 z13 st13 hQ13
    subst l13 y13 z13
    obtain ⟨rfl, Nq13, e13⟩ := hQ13
    have N13 := Fr.app N10 Nq13
    obtain ⟨cq17, kq17, q17a, q17b, q17c⟩ := isOf hZ e13 f16
    obtain ⟨_, _, ⟨T17, L17, k17, n17⟩, -, X17, ⟨Lc17, hQ17, l17, y17, z17⟩, st17⟩ := X13.virtualBack hx (y := (⟨"com/example/meterwright/meterwright/RecordBody$Reader", "kind", "()B"⟩ : MethodName)) (z := (⟨"com/example/meterwright/meterwright/RecordBody$Reader", "kind", "()B"⟩ : MethodName)) hown (mvT hZ (hw _ (List.mem_of_getElem? (i := 46) rfl))) (mvT hZ (hw _ (List.mem_of_getElem? (i := 47) rfl))) (notFace_of_selects (args := #[]) (mvT hZ (hw _ (List.mem_of_getElem? (i := 49) rfl)))) (mvT hZ (hw _ (List.mem_of_getElem? (i := 49) rfl))) (mvT hZ (hw _ (List.mem_of_getElem? (i := 48) rfl))) (by decide) (backOf (W := 0) (rm6 l Z a0 hw [] b7 (0 : Int32) b4 k4 (1 : Int32) [(.int (nar .byte ((p0).toInt8.toInt32)))] (.int (0 : Int32)) (nar .byte ((p0).toInt8.toInt32)) T10.heap n0 z15 f16 q10_1 q10_0 f14 ge_b7 ne_b4_b7 ⟨by decide, by decide⟩ rfl) hZ (hw _ (List.mem_of_getElem? (i := 50) rfl)) (hw _ (List.mem_of_getElem? (i := 4) rfl)) (by decide) (by decide)) q17a q17c (g := (mkF m 108 #[.val (.int p0), .val (.int p1), .val (.int p2), .val (.int p3), .val (.int (1 : Int32)), .val (.int ((p0).toInt8.toInt32)), .val (.int ((p1).toInt8.toInt32)), .val (.int ((p2).toInt8.toInt32)), .val (.ref b4), .val (.ref b7)] [(.ref b7)])) rfl (by rw [hml]; rfl) (Steps.refl _) (argsL := []) (rest := []) (lenOf pd_3 rfl) rfl (by show 2 * 0 + _ ≤ _; exact Nat.le_of_eq rfl) (hb hby at_108) (fun _ _ => ⟨rfl, e13, (by decide : 3 + 0 ≤ _), (by decide : 8 + 0 ≤ _)⟩)
    dsimp only [Pt.U, Pt.locs, Pt.cells, Pt.slots] at X17 l17 y17 z17 st17 hQ17
    subst l17 y17 z17
    obtain ⟨rfl, Nq17, K17, q17_0, q17_1⟩ := hQ17
    have N17 := Fr.app N13 Nq17
    have q17_0' : Fld Z T17.heap b7 "com/example/meterwright/meterwright/RecordBody$Reader" "position" "I" (.int (1 : Int32)) := q17_0
    have P18 : ∀ t, Steps p.tables e below (T17.setTop (mkF m 111 #[.val (.int p0), .val (.int p1), .val (.int p2), .val (.int p3), .val (.int (1 : Int32)), .val (.int ((p0).toInt8.toInt32)), .val (.int ((p1).toInt8.toInt32)), .val (.int ((p2).toInt8.toInt32)), .val (.ref b4), .val (.ref b7)] [(.int (nar .byte (nar .byte ((p0).toInt8.toInt32))))])) t → Steps p.tables e below (s₁.setTop (entryFrame m #[(.int p0), (.int p1), (.int p2), (.int p3)] maxLocals)) t := by
      intro t kk
      refine P3 _ ?_
      show Steps p.tables e below (s₁.setTop (mkF m 10 #[.val (.int p0), .val (.int p1), .val (.int p2), .val (.int p3), .val (.int (1 : Int32)), .unset, .unset, .unset, .unset, .unset] [])) _
      refine XS.iloadN X0.here hx rfl (hb hby at_10) rfl ?_
      show Steps p.tables e below (s₁.setTop (mkF m 11 #[.val (.int p0), .val (.int p1), .val (.int p2), .val (.int p3), .val (.int (1 : Int32)), .unset, .unset, .unset, .unset, .unset] [(.int p0)])) _
      refine XS.i2b X0.here hx rfl (hb hby at_11) rfl ?_
      show Steps p.tables e below (s₁.setTop (mkF m 12 #[.val (.int p0), .val (.int p1), .val (.int p2), .val (.int p3), .val (.int (1 : Int32)), .unset, .unset, .unset, .unset, .unset] [(.int ((p0).toInt8.toInt32))])) _
      refine XS.istore X0.here hx rfl (hb hby at_12) rfl (l' := #[.val (.int p0), .val (.int p1), .val (.int p2), .val (.int p3), .val (.int (1 : Int32)), .val (.int ((p0).toInt8.toInt32)), .unset, .unset, .unset, .unset]) rfl ?_
      show Steps p.tables e below (s₁.setTop (mkF m 14 #[.val (.int p0), .val (.int p1), .val (.int p2), .val (.int p3), .val (.int (1 : Int32)), .val (.int ((p0).toInt8.toInt32)), .unset, .unset, .unset, .unset] [])) _
      refine XS.iloadN X0.here hx rfl (hb hby at_14) rfl ?_
      show Steps p.tables e below (s₁.setTop (mkF m 15 #[.val (.int p0), .val (.int p1), .val (.int p2), .val (.int p3), .val (.int (1 : Int32)), .val (.int ((p0).toInt8.toInt32)), .unset, .unset, .unset, .unset] [(.int p1)])) _
      refine XS.i2b X0.here hx rfl (hb hby at_15) rfl ?_
      show Steps p.tables e below (s₁.setTop (mkF m 16 #[.val (.int p0), .val (.int p1), .val (.int p2), .val (.int p3), .val (.int (1 : Int32)), .val (.int ((p0).toInt8.toInt32)), .unset, .unset, .unset, .unset] [(.int ((p1).toInt8.toInt32))])) _
      refine XS.istore X0.here hx rfl (hb hby at_16) rfl (l' := #[.val (.int p0), .val (.int p1), .val (.int p2), .val (.int p3), .val (.int (1 : Int32)), .val (.int ((p0).toInt8.toInt32)), .val (.int ((p1).toInt8.toInt32)), .unset, .unset, .unset]) rfl ?_
      show Steps p.tables e below (s₁.setTop (mkF m 18 #[.val (.int p0), .val (.int p1), .val (.int p2), .val (.int p3), .val (.int (1 : Int32)), .val (.int ((p0).toInt8.toInt32)), .val (.int ((p1).toInt8.toInt32)), .unset, .unset, .unset] [])) _
      refine XS.iloadN X0.here hx rfl (hb hby at_18) rfl ?_
      show Steps p.tables e below (s₁.setTop (mkF m 19 #[.val (.int p0), .val (.int p1), .val (.int p2), .val (.int p3), .val (.int (1 : Int32)), .val (.int ((p0).toInt8.toInt32)), .val (.int ((p1).toInt8.toInt32)), .unset, .unset, .unset] [(.int p2)])) _
      refine XS.i2b X0.here hx rfl (hb hby at_19) rfl ?_
      show Steps p.tables e below (s₁.setTop (mkF m 20 #[.val (.int p0), .val (.int p1), .val (.int p2), .val (.int p3), .val (.int (1 : Int32)), .val (.int ((p0).toInt8.toInt32)), .val (.int ((p1).toInt8.toInt32)), .unset, .unset, .unset] [(.int ((p2).toInt8.toInt32))])) _
      refine XS.istore X0.here hx rfl (hb hby at_20) rfl (l' := #[.val (.int p0), .val (.int p1), .val (.int p2), .val (.int p3), .val (.int (1 : Int32)), .val (.int ((p0).toInt8.toInt32)), .val (.int ((p1).toInt8.toInt32)), .val (.int ((p2).toInt8.toInt32)), .unset, .unset]) rfl ?_
      show Steps p.tables e below (s₁.setTop (mkF m 22 #[.val (.int p0), .val (.int p1), .val (.int p2), .val (.int p3), .val (.int (1 : Int32)), .val (.int ((p0).toInt8.toInt32)), .val (.int ((p1).toInt8.toInt32)), .val (.int ((p2).toInt8.toInt32)), .unset, .unset] [])) _
      refine XS.iload X0.here hx rfl (hb hby at_22) rfl ?_
      show Steps p.tables e below (s₁.setTop (mkF m 24 #[.val (.int p0), .val (.int p1), .val (.int p2), .val (.int p3), .val (.int (1 : Int32)), .val (.int ((p0).toInt8.toInt32)), .val (.int ((p1).toInt8.toInt32)), .val (.int ((p2).toInt8.toInt32)), .unset, .unset] [(.int (1 : Int32))])) _
      refine XS.iconst X0.here hx rfl (hb hby at_24) ?_
      show Steps p.tables e below (s₁.setTop (mkF m 25 #[.val (.int p0), .val (.int p1), .val (.int p2), .val (.int p3), .val (.int (1 : Int32)), .val (.int ((p0).toInt8.toInt32)), .val (.int ((p1).toInt8.toInt32)), .val (.int ((p2).toInt8.toInt32)), .unset, .unset] [(.int (1 : Int32)), (.int (1 : Int32))])) _
      refine XS.icmpNo X0.here hx rfl (hb hby at_25) rfl (XT.ii_ne_f rfl) ?_
      show Steps p.tables e below (s₁.setTop (mkF m 28 #[.val (.int p0), .val (.int p1), .val (.int p2), .val (.int p3), .val (.int (1 : Int32)), .val (.int ((p0).toInt8.toInt32)), .val (.int ((p1).toInt8.toInt32)), .val (.int ((p2).toInt8.toInt32)), .unset, .unset] [])) _
      refine XS.iconst X0.here hx rfl (hb hby at_28) ?_
      show Steps p.tables e below (s₁.setTop (mkF m 29 #[.val (.int p0), .val (.int p1), .val (.int p2), .val (.int p3), .val (.int (1 : Int32)), .val (.int ((p0).toInt8.toInt32)), .val (.int ((p1).toInt8.toInt32)), .val (.int ((p2).toInt8.toInt32)), .unset, .unset] [(.int (1 : Int32))])) _
      refine st4 _ ?_
      show Steps p.tables e below (T4.setTop (mkF m 31 #[.val (.int p0), .val (.int p1), .val (.int p2), .val (.int p3), .val (.int (1 : Int32)), .val (.int ((p0).toInt8.toInt32)), .val (.int ((p1).toInt8.toInt32)), .val (.int ((p2).toInt8.toInt32)), .unset, .unset] [(.ref b4)])) _
      refine XS.dup X4.here hx rfl (hb hby at_31) rfl rfl ?_
      show Steps p.tables e below (T4.setTop (mkF m 32 #[.val (.int p0), .val (.int p1), .val (.int p2), .val (.int p3), .val (.int (1 : Int32)), .val (.int ((p0).toInt8.toInt32)), .val (.int ((p1).toInt8.toInt32)), .val (.int ((p2).toInt8.toInt32)), .unset, .unset] [(.ref b4), (.ref b4)])) _
      refine XS.iconst X4.here hx rfl (hb hby at_32) ?_
      show Steps p.tables e below (T4.setTop (mkF m 33 #[.val (.int p0), .val (.int p1), .val (.int p2), .val (.int p3), .val (.int (1 : Int32)), .val (.int ((p0).toInt8.toInt32)), .val (.int ((p1).toInt8.toInt32)), .val (.int ((p2).toInt8.toInt32)), .unset, .unset] [(.int (0 : Int32)), (.ref b4), (.ref b4)])) _
      refine XS.iload X4.here hx rfl (hb hby at_33) rfl ?_
      show Steps p.tables e below (T4.setTop (mkF m 35 #[.val (.int p0), .val (.int p1), .val (.int p2), .val (.int p3), .val (.int (1 : Int32)), .val (.int ((p0).toInt8.toInt32)), .val (.int ((p1).toInt8.toInt32)), .val (.int ((p2).toInt8.toInt32)), .unset, .unset] [(.int ((p0).toInt8.toInt32)), (.int (0 : Int32)), (.ref b4), (.ref b4)])) _
      refine st6 _ ?_
      show Steps p.tables e below (T6.setTop (mkF m 36 #[.val (.int p0), .val (.int p1), .val (.int p2), .val (.int p3), .val (.int (1 : Int32)), .val (.int ((p0).toInt8.toInt32)), .val (.int ((p1).toInt8.toInt32)), .val (.int ((p2).toInt8.toInt32)), .unset, .unset] [(.ref b4)])) _
      refine XS.astore X6.here hx rfl (hb hby at_36) rfl rfl (l' := #[.val (.int p0), .val (.int p1), .val (.int p2), .val (.int p3), .val (.int (1 : Int32)), .val (.int ((p0).toInt8.toInt32)), .val (.int ((p1).toInt8.toInt32)), .val (.int ((p2).toInt8.toInt32)), .val (.ref b4), .unset]) rfl ?_
      show Steps p.tables e below (T6.setTop (mkF m 38 #[.val (.int p0), .val (.int p1), .val (.int p2), .val (.int p3), .val (.int (1 : Int32)), .val (.int ((p0).toInt8.toInt32)), .val (.int ((p1).toInt8.toInt32)), .val (.int ((p2).toInt8.toInt32)), .val (.ref b4), .unset] [])) _
      refine XS.goto X6.here hx rfl (pc0 := 38) (pc' := 85) rfl (hb hby at_38) (by decide) (by decide) ?_
      show Steps p.tables e below (T6.setTop (mkF m 85 #[.val (.int p0), .val (.int p1), .val (.int p2), .val (.int p3), .val (.int (1 : Int32)), .val (.int ((p0).toInt8.toInt32)), .val (.int ((p1).toInt8.toInt32)), .val (.int ((p2).toInt8.toInt32)), .val (.ref b4), .unset] [])) _
      refine st7 _ ?_
      show Steps p.tables e below (T7.setTop (mkF m 88 #[.val (.int p0), .val (.int p1), .val (.int p2), .val (.int p3), .val (.int (1 : Int32)), .val (.int ((p0).toInt8.toInt32)), .val (.int ((p1).toInt8.toInt32)), .val (.int ((p2).toInt8.toInt32)), .val (.ref b4), .unset] [(.ref b7)])) _
      refine XS.dup X7.here hx rfl (hb hby at_88) rfl rfl ?_
      show Steps p.tables e below (T7.setTop (mkF m 89 #[.val (.int p0), .val (.int p1), .val (.int p2), .val (.int p3), .val (.int (1 : Int32)), .val (.int ((p0).toInt8.toInt32)), .val (.int ((p1).toInt8.toInt32)), .val (.int ((p2).toInt8.toInt32)), .val (.ref b4), .unset] [(.ref b7), (.ref b7)])) _
      refine XS.aload X7.here hx rfl (hb hby at_89) rfl rfl ?_
      show Steps p.tables e below (T7.setTop (mkF m 91 #[.val (.int p0), .val (.int p1), .val (.int p2), .val (.int p3), .val (.int (1 : Int32)), .val (.int ((p0).toInt8.toInt32)), .val (.int ((p1).toInt8.toInt32)), .val (.int ((p2).toInt8.toInt32)), .val (.ref b4), .unset] [(.ref b4), (.ref b7), (.ref b7)])) _
      refine st10.trans ?_
      show Steps p.tables e below (T10.setTop (mkF m 94 #[.val (.int p0), .val (.int p1), .val (.int p2), .val (.int p3), .val (.int (1 : Int32)), .val (.int ((p0).toInt8.toInt32)), .val (.int ((p1).toInt8.toInt32)), .val (.int ((p2).toInt8.toInt32)), .val (.ref b4), .unset] [(.ref b7)])) _
      refine XS.astore X10.here hx rfl (hb hby at_94) rfl rfl (l' := #[.val (.int p0), .val (.int p1), .val (.int p2), .val (.int p3), .val (.int (1 : Int32)), .val (.int ((p0).toInt8.toInt32)), .val (.int ((p1).toInt8.toInt32)), .val (.int ((p2).toInt8.toInt32)), .val (.ref b4), .val (.ref b7)]) rfl ?_
      show Steps p.tables e below (T10.setTop (mkF m 96 #[.val (.int p0), .val (.int p1), .val (.int p2), .val (.int p3), .val (.int (1 : Int32)), .val (.int ((p0).toInt8.toInt32)), .val (.int ((p1).toInt8.toInt32)), .val (.int ((p2).toInt8.toInt32)), .val (.ref b4), .val (.ref b7)] [])) _
      refine XS.aload X10.here hx rfl (hb hby at_96) rfl rfl ?_
      show Steps p.tables e below (T10.setTop (mkF m 98 #[.val (.int p0), .val (.int p1), .val (.int p2), .val (.int p3), .val (.int (1 : Int32)), .val (.int ((p0).toInt8.toInt32)), .val (.int ((p1).toInt8.toInt32)), .val (.int ((p2).toInt8.toInt32)), .val (.ref b4), .val (.ref b7)] [(.ref b7)])) _
      refine st13.trans ?_
      show Steps p.tables e below (T13.setTop (mkF m 101 #[.val (.int p0), .val (.int p1), .val (.int p2), .val (.int p3), .val (.int (1 : Int32)), .val (.int ((p0).toInt8.toInt32)), .val (.int ((p1).toInt8.toInt32)), .val (.int ((p2).toInt8.toInt32)), .val (.ref b4), .val (.ref b7)] [(.int (F5 (0 : Int32) (1 : Int32)))])) _
      refine XS.ifYes X13.here hx rfl (pc0 := 101) (pc' := 106) rfl (hb hby at_101) rfl (XT.i0_eq_t (by decide)) (by decide) (by decide) ?_
      show Steps p.tables e below (T13.setTop (mkF m 106 #[.val (.int p0), .val (.int p1), .val (.int p2), .val (.int p3), .val (.int (1 : Int32)), .val (.int ((p0).toInt8.toInt32)), .val (.int ((p1).toInt8.toInt32)), .val (.int ((p2).toInt8.toInt32)), .val (.ref b4), .val (.ref b7)] [])) _
      refine XS.aload X13.here hx rfl (hb hby at_106) rfl rfl ?_
      show Steps p.tables e below (T13.setTop (mkF m 108 #[.val (.int p0), .val (.int p1), .val (.int p2), .val (.int p3), .val (.int (1 : Int32)), .val (.int ((p0).toInt8.toInt32)), .val (.int ((p1).toInt8.toInt32)), .val (.int ((p2).toInt8.toInt32)), .val (.ref b4), .val (.ref b7)] [(.ref b7)])) _
      refine st17.trans ?_
      show Steps p.tables e below (T17.setTop (mkF m 111 #[.val (.int p0), .val (.int p1), .val (.int p2), .val (.int p3), .val (.int (1 : Int32)), .val (.int ((p0).toInt8.toInt32)), .val (.int ((p1).toInt8.toInt32)), .val (.int ((p2).toInt8.toInt32)), .val (.ref b4), .val (.ref b7)] [(.int (nar .byte (nar .byte ((p0).toInt8.toInt32))))])) _
      exact kk
    have f20 := (Arv.keep f14 K17 (ninS ne_b4_b7 nin0))
    have z21 : n0 ≤ _ := (Nat.le_trans z15 K17.1)
    have f22 := (Exa.keep f16 K17)
    obtain ⟨cq19, kq19, q19a, q19b, q19c⟩ := isOf hZ rfl f22
    obtain ⟨_, _, ⟨T19, L19, k19, n19⟩, -, X19, ⟨Lc19, hQ19, l19, y19, z19⟩, st19⟩ := X17.virtualBack hx (y := (⟨"com/example/meterwright/meterwright/RecordBody$Reader", "atEnd", "()Z"⟩ : MethodName)) (z := (⟨"com/example/meterwright/meterwright/RecordBody$Reader", "atEnd", "()Z"⟩ : MethodName)) hown (mvT hZ (hw _ (List.mem_of_getElem? (i := 39) rfl))) (mvT hZ (hw _ (List.mem_of_getElem? (i := 40) rfl))) (notFace_of_selects (args := #[]) (mvT hZ (hw _ (List.mem_of_getElem? (i := 42) rfl)))) (mvT hZ (hw _ (List.mem_of_getElem? (i := 42) rfl))) (mvT hZ (hw _ (List.mem_of_getElem? (i := 41) rfl))) (by decide) (backOf (W := 0) (rm5 l Z a0 hw [] b7 (1 : Int32) b4 k4 (1 : Int32) [(.int (nar .byte ((p0).toInt8.toInt32)))] (.int (0 : Int32)) T17.heap n0 z21 q17_0' q17_1 f20) hZ (hw _ (List.mem_of_getElem? (i := 43) rfl)) (hw _ (List.mem_of_getElem? (i := 4) rfl)) (by decide) (by decide)) q19a q19c (g := (mkF m 120 #[.val (.int p0), .val (.int p1), .val (.int p2), .val (.int p3), .val (.int (1 : Int32)), .val (.int ((p0).toInt8.toInt32)), .val (.int ((p1).toInt8.toInt32)), .val (.int ((p2).toInt8.toInt32)), .val (.ref b4), .val (.ref b7)] [(.ref b7)])) rfl (by rw [hml]; rfl) (Steps.refl _) (argsL := []) (rest := []) (lenOf pd_2 rfl) rfl (by show 2 * 0 + _ ≤ _; exact Nat.le_of_eq rfl) (hb hby at_120) (fun _ _ => ⟨rfl, rfl, (by decide : 3 + 0 ≤ _), (by decide : 8 + 0 ≤ _)⟩)
    dsimp only [Pt.U, Pt.locs, Pt.cells, Pt.slots] at X19 l19 y19 z19 st19 hQ19
    subst l19 y19 z19
    obtain ⟨rfl, Nq19, e19⟩ := hQ19
    have N19 := Fr.app N17 Nq19
    have P23 : ∀ t, Steps p.tables e below (T19.setTop (mkF m 146 #[.val (.int p0), .val (.int p1), .val (.int p2), .val (.int p3), .val (.int (1 : Int32)), .val (.int ((p0).toInt8.toInt32)), .val (.int ((p1).toInt8.toInt32)), .val (.int ((p2).toInt8.toInt32)), .val (.ref b4), .val (.ref b7)] [(.int (1 : Int32))])) t → Steps p.tables e below (s₁.setTop (entryFrame m #[(.int p0), (.int p1), (.int p2), (.int p3)] maxLocals)) t := by
      intro t kk
      refine P18 _ ?_
      show Steps p.tables e below (T17.setTop (mkF m 111 #[.val (.int p0), .val (.int p1), .val (.int p2), .val (.int p3), .val (.int (1 : Int32)), .val (.int ((p0).toInt8.toInt32)), .val (.int ((p1).toInt8.toInt32)), .val (.int ((p2).toInt8.toInt32)), .val (.ref b4), .val (.ref b7)] [(.int (nar .byte (nar .byte ((p0).toInt8.toInt32))))])) _
      refine XS.iload X17.here hx rfl (hb hby at_111) rfl ?_
      show Steps p.tables e below (T17.setTop (mkF m 113 #[.val (.int p0), .val (.int p1), .val (.int p2), .val (.int p3), .val (.int (1 : Int32)), .val (.int ((p0).toInt8.toInt32)), .val (.int ((p1).toInt8.toInt32)), .val (.int ((p2).toInt8.toInt32)), .val (.ref b4), .val (.ref b7)] [(.int ((p0).toInt8.toInt32)), (.int (nar .byte (nar .byte ((p0).toInt8.toInt32))))])) _
      refine XS.icmpYes X17.here hx rfl (pc0 := 113) (pc' := 118) rfl (hb hby at_113) rfl (XT.ii_eq_t (own_nb _)) (by decide) (by decide) ?_
      show Steps p.tables e below (T17.setTop (mkF m 118 #[.val (.int p0), .val (.int p1), .val (.int p2), .val (.int p3), .val (.int (1 : Int32)), .val (.int ((p0).toInt8.toInt32)), .val (.int ((p1).toInt8.toInt32)), .val (.int ((p2).toInt8.toInt32)), .val (.ref b4), .val (.ref b7)] [])) _
      refine XS.aload X17.here hx rfl (hb hby at_118) rfl rfl ?_
      show Steps p.tables e below (T17.setTop (mkF m 120 #[.val (.int p0), .val (.int p1), .val (.int p2), .val (.int p3), .val (.int (1 : Int32)), .val (.int ((p0).toInt8.toInt32)), .val (.int ((p1).toInt8.toInt32)), .val (.int ((p2).toInt8.toInt32)), .val (.ref b4), .val (.ref b7)] [(.ref b7)])) _
      refine st19.trans ?_
      show Steps p.tables e below (T19.setTop (mkF m 123 #[.val (.int p0), .val (.int p1), .val (.int p2), .val (.int p3), .val (.int (1 : Int32)), .val (.int ((p0).toInt8.toInt32)), .val (.int ((p1).toInt8.toInt32)), .val (.int ((p2).toInt8.toInt32)), .val (.ref b4), .val (.ref b7)] [(.int (F5 (1 : Int32) (1 : Int32)))])) _
      refine XS.iload X19.here hx rfl (hb hby at_123) rfl ?_
      show Steps p.tables e below (T19.setTop (mkF m 125 #[.val (.int p0), .val (.int p1), .val (.int p2), .val (.int p3), .val (.int (1 : Int32)), .val (.int ((p0).toInt8.toInt32)), .val (.int ((p1).toInt8.toInt32)), .val (.int ((p2).toInt8.toInt32)), .val (.ref b4), .val (.ref b7)] [(.int (1 : Int32)), (.int (F5 (1 : Int32) (1 : Int32)))])) _
      refine XS.iconst X19.here hx rfl (hb hby at_125) ?_
      show Steps p.tables e below (T19.setTop (mkF m 126 #[.val (.int p0), .val (.int p1), .val (.int p2), .val (.int p3), .val (.int (1 : Int32)), .val (.int ((p0).toInt8.toInt32)), .val (.int ((p1).toInt8.toInt32)), .val (.int ((p2).toInt8.toInt32)), .val (.ref b4), .val (.ref b7)] [(.int (1 : Int32)), (.int (1 : Int32)), (.int (F5 (1 : Int32) (1 : Int32)))])) _
      refine XS.icmpNo X19.here hx rfl (hb hby at_126) rfl (XT.ii_ne_f rfl) ?_
      show Steps p.tables e below (T19.setTop (mkF m 129 #[.val (.int p0), .val (.int p1), .val (.int p2), .val (.int p3), .val (.int (1 : Int32)), .val (.int ((p0).toInt8.toInt32)), .val (.int ((p1).toInt8.toInt32)), .val (.int ((p2).toInt8.toInt32)), .val (.ref b4), .val (.ref b7)] [(.int (F5 (1 : Int32) (1 : Int32)))])) _
      refine XS.iconst X19.here hx rfl (hb hby at_129) ?_
      show Steps p.tables e below (T19.setTop (mkF m 130 #[.val (.int p0), .val (.int p1), .val (.int p2), .val (.int p3), .val (.int (1 : Int32)), .val (.int ((p0).toInt8.toInt32)), .val (.int ((p1).toInt8.toInt32)), .val (.int ((p2).toInt8.toInt32)), .val (.ref b4), .val (.ref b7)] [(.int (1 : Int32)), (.int (F5 (1 : Int32) (1 : Int32)))])) _
      refine XS.goto X19.here hx rfl (pc0 := 130) (pc' := 134) rfl (hb hby at_130) (by decide) (by decide) ?_
      show Steps p.tables e below (T19.setTop (mkF m 134 #[.val (.int p0), .val (.int p1), .val (.int p2), .val (.int p3), .val (.int (1 : Int32)), .val (.int ((p0).toInt8.toInt32)), .val (.int ((p1).toInt8.toInt32)), .val (.int ((p2).toInt8.toInt32)), .val (.ref b4), .val (.ref b7)] [(.int (1 : Int32)), (.int (F5 (1 : Int32) (1 : Int32)))])) _
      refine XS.icmpYes X19.here hx rfl (pc0 := 134) (pc' := 139) rfl (hb hby at_134) rfl (XT.ii_eq_t (by decide)) (by decide) (by decide) ?_
      show Steps p.tables e below (T19.setTop (mkF m 139 #[.val (.int p0), .val (.int p1), .val (.int p2), .val (.int p3), .val (.int (1 : Int32)), .val (.int ((p0).toInt8.toInt32)), .val (.int ((p1).toInt8.toInt32)), .val (.int ((p2).toInt8.toInt32)), .val (.ref b4), .val (.ref b7)] [])) _
      refine XS.iload X19.here hx rfl (hb hby at_139) rfl ?_
      show Steps p.tables e below (T19.setTop (mkF m 141 #[.val (.int p0), .val (.int p1), .val (.int p2), .val (.int p3), .val (.int (1 : Int32)), .val (.int ((p0).toInt8.toInt32)), .val (.int ((p1).toInt8.toInt32)), .val (.int ((p2).toInt8.toInt32)), .val (.ref b4), .val (.ref b7)] [(.int (1 : Int32))])) _
      refine XS.iconst X19.here hx rfl (hb hby at_141) ?_
      show Steps p.tables e below (T19.setTop (mkF m 142 #[.val (.int p0), .val (.int p1), .val (.int p2), .val (.int p3), .val (.int (1 : Int32)), .val (.int ((p0).toInt8.toInt32)), .val (.int ((p1).toInt8.toInt32)), .val (.int ((p2).toInt8.toInt32)), .val (.ref b4), .val (.ref b7)] [(.int (1 : Int32)), (.int (1 : Int32))])) _
      refine XS.icmpNo X19.here hx rfl (hb hby at_142) rfl (XT.ii_ne_f rfl) ?_
      show Steps p.tables e below (T19.setTop (mkF m 145 #[.val (.int p0), .val (.int p1), .val (.int p2), .val (.int p3), .val (.int (1 : Int32)), .val (.int ((p0).toInt8.toInt32)), .val (.int ((p1).toInt8.toInt32)), .val (.int ((p2).toInt8.toInt32)), .val (.ref b4), .val (.ref b7)] [])) _
      refine XS.iconst X19.here hx rfl (hb hby at_145) ?_
      show Steps p.tables e below (T19.setTop (mkF m 146 #[.val (.int p0), .val (.int p1), .val (.int p2), .val (.int p3), .val (.int (1 : Int32)), .val (.int ((p0).toInt8.toInt32)), .val (.int ((p1).toInt8.toInt32)), .val (.int ((p2).toInt8.toInt32)), .val (.ref b4), .val (.ref b7)] [(.int (1 : Int32))])) _
      exact kk
    obtain ⟨fs, hr, hrun, hended, hW, hsame⟩ := X19.leave (v := some (.int (1 : Int32))) (fun h => by rw [Bd.returns] at h; cases h)
    refine ⟨_, _, P23 _ ?_, hrun, hended, _, _, rfl, ?_, ⟨_, rfl⟩, hW, hsame.mono (by decide) (by decide)⟩
    · exact retN X19 hx (t := .boolean) Bd.returns (by simp) (hb hby at_146) hr
    · exact ⟨rfl, N19⟩
  · skip
    have P24 : ∀ t, Steps p.tables e below (s₁.setTop (mkF m 10 #[.val (.int p0), .val (.int p1), .val (.int p2), .val (.int p3), .val (.int (2 : Int32)), .unset, .unset, .unset, .unset, .unset] [])) t → Steps p.tables e below (s₁.setTop (entryFrame m #[(.int p0), (.int p1), (.int p2), (.int p3)] maxLocals)) t := by
      intro t kk
      refine P1 _ ?_
      rw [hs2]
      exact kk
    obtain ⟨T25, h25, k25, X25, e25, E25, A25, st25⟩ := newP X0 hx hZ (hw _ (List.mem_of_getElem? (i := 1) rfl)) e0 (g := (mkF m 48 #[.val (.int p0), .val (.int p1), .val (.int p2), .val (.int p3), .val (.int (2 : Int32)), .val (.int ((p0).toInt8.toInt32)), .val (.int ((p1).toInt8.toInt32)), .val (.int ((p2).toInt8.toInt32)), .unset, .unset] [(.int (2 : Int32))])) rfl (hb hby at_48) rfl (by decide) (cap := 2) (by decide) (by decide) (by decide) (by decide)
    obtain ⟨b25, g_b25⟩ : ∃ z, z = h0.size := ⟨_, rfl⟩
    rw [← g_b25] at A25 st25
    have ge_b25 : n0 ≤ b25 := Nat.le_trans Z0 (Nat.le_of_eq g_b25.symm)
    have sz_b25 : h0.size ≤ b25 := Nat.le_trans (Keep.refl h0 []).1 (Nat.le_of_eq g_b25.symm)
    have V25 : Arv Z h25 b25 k25 .byte (2 : Int32) [(.int (0 : Int32)), (.int (0 : Int32))] (.int (0 : Int32)) := (Arv.new A25 (by decide)).pad (pad_rep [] (.int (0 : Int32)) 2)
    obtain ⟨cl_a26, Ar_a26, q_a26, S_a26, N_a26, H_a26, G_a26⟩ := id V25
    have hin_a26 : ¬ ((0 : Int32) < 0 ∨ cl_a26.slots.size ≤ ((0 : Int32)).toNatClampNeg) := inb_of S_a26 ⟨by decide, by decide⟩
    obtain ⟨T27, h27, X27, e27, W27, st27⟩ := stB X25 hx hZ e25 Ar_a26 (j := (0 : Int32)) hin_a26 (g := (mkF m 54 #[.val (.int p0), .val (.int p1), .val (.int p2), .val (.int p3), .val (.int (2 : Int32)), .val (.int ((p0).toInt8.toInt32)), .val (.int ((p1).toInt8.toInt32)), .val (.int ((p2).toInt8.toInt32)), .unset, .unset] [(.int ((p0).toInt8.toInt32)), (.int (0 : Int32)), (.ref b25), (.ref b25)])) rfl rfl (hb hby at_54)
    have V27 : Arv Z h27 b25 k25 .byte (2 : Int32) [(.int (nar .byte ((p0).toInt8.toInt32))), (.int (0 : Int32))] (.int (0 : Int32)) := Arv.set Ar_a26 q_a26 S_a26 N_a26 H_a26 G_a26 (fits_nar_byte _) W27 0 rfl (Nat.le_of_ble_eq_true rfl)
    have N27 := Fr.snoc X27 N0 ge_b25
    obtain ⟨cl_a28, Ar_a28, q_a28, S_a28, N_a28, H_a28, G_a28⟩ := id V27
    have hin_a28 : ¬ ((1 : Int32) < 0 ∨ cl_a28.slots.size ≤ ((1 : Int32)).toNatClampNeg) := inb_of S_a28 ⟨by decide, by decide⟩
    obtain ⟨T29, h29, X29, e29, W29, st29⟩ := stB X27 hx hZ e27 Ar_a28 (j := (1 : Int32)) hin_a28 (g := (mkF m 59 #[.val (.int p0), .val (.int p1), .val (.int p2), .val (.int p3), .val (.int (2 : Int32)), .val (.int ((p0).toInt8.toInt32)), .val (.int ((p1).toInt8.toInt32)), .val (.int ((p2).toInt8.toInt32)), .unset, .unset] [(.int ((p1).toInt8.toInt32)), (.int (1 : Int32)), (.ref b25), (.ref b25)])) rfl rfl (hb hby at_59)
    have V29 : Arv Z h29 b25 k25 .byte (2 : Int32) [(.int (nar .byte ((p0).toInt8.toInt32))), (.int (nar .byte ((p1).toInt8.toInt32)))] (.int (0 : Int32)) := Arv.set Ar_a28 q_a28 S_a28 N_a28 H_a28 G_a28 (fits_nar_byte _) W29 1 rfl (Nat.le_of_ble_eq_true rfl)
    have N29 := Fr.snoc X29 N27 ge_b25
    obtain ⟨T30, h30, X30, e30, E30, A30, D30, -, st30⟩ := newO X29 hx hZ hown (hw _ (List.mem_of_getElem? (i := 2) rfl)) (hw _ (List.mem_of_getElem? (i := 3) rfl)) (hw _ (List.mem_of_getElem? (i := 4) rfl)) e29 (g := (mkF m 85 #[.val (.int p0), .val (.int p1), .val (.int p2), .val (.int p3), .val (.int (2 : Int32)), .val (.int ((p0).toInt8.toInt32)), .val (.int ((p1).toInt8.toInt32)), .val (.int ((p2).toInt8.toInt32)), .val (.ref b25), .unset] [])) rfl (hb hby at_85) (by decide) (by decide)
    have z31 : n0 ≤ _ := (Nat.le_trans (Nat.le_trans (Nat.le_trans Z0 E25.1) (Keep.of_wr W27).1) (Keep.of_wr W29).1)
    have k32 : Keep h0 h29 [] := (Keep.wr (Keep.wr (Keep.ext (Keep.refl h0 []) E25) W27 (Or.inr sz_b25)) W29 (Or.inr sz_b25))
    obtain ⟨b30, g_b30⟩ : ∃ z, z = h29.size := ⟨_, rfl⟩
    rw [← g_b30] at A30 D30 st30
    have ne_b25_b30 : b25 ≠ b30 := Nat.ne_of_lt (Nat.lt_of_lt_of_le V29.lt (Nat.le_of_eq g_b30.symm))
    have ge_b30 : n0 ≤ b30 := Nat.le_trans z31 (Nat.le_of_eq g_b30.symm)
    have sz_b30 : h0.size ≤ b30 := Nat.le_trans k32.1 (Nat.le_of_eq g_b30.symm)
    have F30_36 : Fld Z h30 b30 "com/example/meterwright/meterwright/RecordBody$Reader" "texts" "Ljava/util/List;" .null := D30 (Or.inr (hw _ (List.mem_of_getElem? (i := 36) rfl))) (ty := (.object "java/util/List")) (by decide)
    have F30_38 : Fld Z h30 b30 "com/example/meterwright/meterwright/RecordBody$Reader" "bytes" "[B" .null := D30 (Or.inr (hw _ (List.mem_of_getElem? (i := 38) rfl))) (ty := (.array .byte)) (by decide)
    have F30_45 : Fld Z h30 b30 "com/example/meterwright/meterwright/RecordBody$Reader" "position" "I" (.int (0 : Int32)) := D30 (Or.inl (hw _ (List.mem_of_getElem? (i := 45) rfl))) (ty := .int) (by decide)
    have P33 : ∀ t, Steps p.tables e below (T30.setTop (mkF m 91 #[.val (.int p0), .val (.int p1), .val (.int p2), .val (.int p3), .val (.int (2 : Int32)), .val (.int ((p0).toInt8.toInt32)), .val (.int ((p1).toInt8.toInt32)), .val (.int ((p2).toInt8.toInt32)), .val (.ref b25), .unset] [(.ref b25), (.ref b30), (.ref b30)])) t → Steps p.tables e below (s₁.setTop (entryFrame m #[(.int p0), (.int p1), (.int p2), (.int p3)] maxLocals)) t := by
      intro t kk
      refine P24 _ ?_
      show Steps p.tables e below (s₁.setTop (mkF m 10 #[.val (.int p0), .val (.int p1), .val (.int p2), .val (.int p3), .val (.int (2 : Int32)), .unset, .unset, .unset, .unset, .unset] [])) _
      refine XS.iloadN X0.here hx rfl (hb hby at_10) rfl ?_
      show Steps p.tables e below (s₁.setTop (mkF m 11 #[.val (.int p0), .val (.int p1), .val (.int p2), .val (.int p3), .val (.int (2 : Int32)), .unset, .unset, .unset, .unset, .unset] [(.int p0)])) _
      refine XS.i2b X0.here hx rfl (hb hby at_11) rfl ?_
      show Steps p.tables e below (s₁.setTop (mkF m 12 #[.val (.int p0), .val (.int p1), .val (.int p2), .val (.int p3), .val (.int (2 : Int32)), .unset, .unset, .unset, .unset, .unset] [(.int ((p0).toInt8.toInt32))])) _
      refine XS.istore X0.here hx rfl (hb hby at_12) rfl (l' := #[.val (.int p0), .val (.int p1), .val (.int p2), .val (.int p3), .val (.int (2 : Int32)), .val (.int ((p0).toInt8.toInt32)), .unset, .unset, .unset, .unset]) rfl ?_
      show Steps p.tables e below (s₁.setTop (mkF m 14 #[.val (.int p0), .val (.int p1), .val (.int p2), .val (.int p3), .val (.int (2 : Int32)), .val (.int ((p0).toInt8.toInt32)), .unset, .unset, .unset, .unset] [])) _
      refine XS.iloadN X0.here hx rfl (hb hby at_14) rfl ?_
      show Steps p.tables e below (s₁.setTop (mkF m 15 #[.val (.int p0), .val (.int p1), .val (.int p2), .val (.int p3), .val (.int (2 : Int32)), .val (.int ((p0).toInt8.toInt32)), .unset, .unset, .unset, .unset] [(.int p1)])) _
      refine XS.i2b X0.here hx rfl (hb hby at_15) rfl ?_
      show Steps p.tables e below (s₁.setTop (mkF m 16 #[.val (.int p0), .val (.int p1), .val (.int p2), .val (.int p3), .val (.int (2 : Int32)), .val (.int ((p0).toInt8.toInt32)), .unset, .unset, .unset, .unset] [(.int ((p1).toInt8.toInt32))])) _
      refine XS.istore X0.here hx rfl (hb hby at_16) rfl (l' := #[.val (.int p0), .val (.int p1), .val (.int p2), .val (.int p3), .val (.int (2 : Int32)), .val (.int ((p0).toInt8.toInt32)), .val (.int ((p1).toInt8.toInt32)), .unset, .unset, .unset]) rfl ?_
      show Steps p.tables e below (s₁.setTop (mkF m 18 #[.val (.int p0), .val (.int p1), .val (.int p2), .val (.int p3), .val (.int (2 : Int32)), .val (.int ((p0).toInt8.toInt32)), .val (.int ((p1).toInt8.toInt32)), .unset, .unset, .unset] [])) _
      refine XS.iloadN X0.here hx rfl (hb hby at_18) rfl ?_
      show Steps p.tables e below (s₁.setTop (mkF m 19 #[.val (.int p0), .val (.int p1), .val (.int p2), .val (.int p3), .val (.int (2 : Int32)), .val (.int ((p0).toInt8.toInt32)), .val (.int ((p1).toInt8.toInt32)), .unset, .unset, .unset] [(.int p2)])) _
      refine XS.i2b X0.here hx rfl (hb hby at_19) rfl ?_
      show Steps p.tables e below (s₁.setTop (mkF m 20 #[.val (.int p0), .val (.int p1), .val (.int p2), .val (.int p3), .val (.int (2 : Int32)), .val (.int ((p0).toInt8.toInt32)), .val (.int ((p1).toInt8.toInt32)), .unset, .unset, .unset] [(.int ((p2).toInt8.toInt32))])) _
      refine XS.istore X0.here hx rfl (hb hby at_20) rfl (l' := #[.val (.int p0), .val (.int p1), .val (.int p2), .val (.int p3), .val (.int (2 : Int32)), .val (.int ((p0).toInt8.toInt32)), .val (.int ((p1).toInt8.toInt32)), .val (.int ((p2).toInt8.toInt32)), .unset, .unset]) rfl ?_
      show Steps p.tables e below (s₁.setTop (mkF m 22 #[.val (.int p0), .val (.int p1), .val (.int p2), .val (.int p3), .val (.int (2 : Int32)), .val (.int ((p0).toInt8.toInt32)), .val (.int ((p1).toInt8.toInt32)), .val (.int ((p2).toInt8.toInt32)), .unset, .unset] [])) _
      refine XS.iload X0.here hx rfl (hb hby at_22) rfl ?_
      show Steps p.tables e below (s₁.setTop (mkF m 24 #[.val (.int p0), .val (.int p1), .val (.int p2), .val (.int p3), .val (.int (2 : Int32)), .val (.int ((p0).toInt8.toInt32)), .val (.int ((p1).toInt8.toInt32)), .val (.int ((p2).toInt8.toInt32)), .unset, .unset] [(.int (2 : Int32))])) _
      refine XS.iconst X0.here hx rfl (hb hby at_24) ?_
      show Steps p.tables e below (s₁.setTop (mkF m 25 #[.val (.int p0), .val (.int p1), .val (.int p2), .val (.int p3), .val (.int (2 : Int32)), .val (.int ((p0).toInt8.toInt32)), .val (.int ((p1).toInt8.toInt32)), .val (.int ((p2).toInt8.toInt32)), .unset, .unset] [(.int (1 : Int32)), (.int (2 : Int32))])) _
      refine XS.icmpYes X0.here hx rfl (pc0 := 25) (pc' := 41) rfl (hb hby at_25) rfl (XT.ii_ne_t (by decide)) (by decide) (by decide) ?_
      show Steps p.tables e below (s₁.setTop (mkF m 41 #[.val (.int p0), .val (.int p1), .val (.int p2), .val (.int p3), .val (.int (2 : Int32)), .val (.int ((p0).toInt8.toInt32)), .val (.int ((p1).toInt8.toInt32)), .val (.int ((p2).toInt8.toInt32)), .unset, .unset] [])) _
      refine XS.iload X0.here hx rfl (hb hby at_41) rfl ?_
      show Steps p.tables e below (s₁.setTop (mkF m 43 #[.val (.int p0), .val (.int p1), .val (.int p2), .val (.int p3), .val (.int (2 : Int32)), .val (.int ((p0).toInt8.toInt32)), .val (.int ((p1).toInt8.toInt32)), .val (.int ((p2).toInt8.toInt32)), .unset, .unset] [(.int (2 : Int32))])) _
      refine XS.iconst X0.here hx rfl (hb hby at_43) ?_
      show Steps p.tables e below (s₁.setTop (mkF m 44 #[.val (.int p0), .val (.int p1), .val (.int p2), .val (.int p3), .val (.int (2 : Int32)), .val (.int ((p0).toInt8.toInt32)), .val (.int ((p1).toInt8.toInt32)), .val (.int ((p2).toInt8.toInt32)), .unset, .unset] [(.int (2 : Int32)), (.int (2 : Int32))])) _
      refine XS.icmpNo X0.here hx rfl (hb hby at_44) rfl (XT.ii_ne_f rfl) ?_
      show Steps p.tables e below (s₁.setTop (mkF m 47 #[.val (.int p0), .val (.int p1), .val (.int p2), .val (.int p3), .val (.int (2 : Int32)), .val (.int ((p0).toInt8.toInt32)), .val (.int ((p1).toInt8.toInt32)), .val (.int ((p2).toInt8.toInt32)), .unset, .unset] [])) _
      refine XS.iconst X0.here hx rfl (hb hby at_47) ?_
      show Steps p.tables e below (s₁.setTop (mkF m 48 #[.val (.int p0), .val (.int p1), .val (.int p2), .val (.int p3), .val (.int (2 : Int32)), .val (.int ((p0).toInt8.toInt32)), .val (.int ((p1).toInt8.toInt32)), .val (.int ((p2).toInt8.toInt32)), .unset, .unset] [(.int (2 : Int32))])) _
      refine st25 _ ?_
      show Steps p.tables e below (T25.setTop (mkF m 50 #[.val (.int p0), .val (.int p1), .val (.int p2), .val (.int p3), .val (.int (2 : Int32)), .val (.int ((p0).toInt8.toInt32)), .val (.int ((p1).toInt8.toInt32)), .val (.int ((p2).toInt8.toInt32)), .unset, .unset] [(.ref b25)])) _
      refine XS.dup X25.here hx rfl (hb hby at_50) rfl rfl ?_
      show Steps p.tables e below (T25.setTop (mkF m 51 #[.val (.int p0), .val (.int p1), .val (.int p2), .val (.int p3), .val (.int (2 : Int32)), .val (.int ((p0).toInt8.toInt32)), .val (.int ((p1).toInt8.toInt32)), .val (.int ((p2).toInt8.toInt32)), .unset, .unset] [(.ref b25), (.ref b25)])) _
      refine XS.iconst X25.here hx rfl (hb hby at_51) ?_
      show Steps p.tables e below (T25.setTop (mkF m 52 #[.val (.int p0), .val (.int p1), .val (.int p2), .val (.int p3), .val (.int (2 : Int32)), .val (.int ((p0).toInt8.toInt32)), .val (.int ((p1).toInt8.toInt32)), .val (.int ((p2).toInt8.toInt32)), .unset, .unset] [(.int (0 : Int32)), (.ref b25), (.ref b25)])) _
      refine XS.iload X25.here hx rfl (hb hby at_52) rfl ?_
      show Steps p.tables e below (T25.setTop (mkF m 54 #[.val (.int p0), .val (.int p1), .val (.int p2), .val (.int p3), .val (.int (2 : Int32)), .val (.int ((p0).toInt8.toInt32)), .val (.int ((p1).toInt8.toInt32)), .val (.int ((p2).toInt8.toInt32)), .unset, .unset] [(.int ((p0).toInt8.toInt32)), (.int (0 : Int32)), (.ref b25), (.ref b25)])) _
      refine st27 _ ?_
      show Steps p.tables e below (T27.setTop (mkF m 55 #[.val (.int p0), .val (.int p1), .val (.int p2), .val (.int p3), .val (.int (2 : Int32)), .val (.int ((p0).toInt8.toInt32)), .val (.int ((p1).toInt8.toInt32)), .val (.int ((p2).toInt8.toInt32)), .unset, .unset] [(.ref b25)])) _
      refine XS.dup X27.here hx rfl (hb hby at_55) rfl rfl ?_
      show Steps p.tables e below (T27.setTop (mkF m 56 #[.val (.int p0), .val (.int p1), .val (.int p2), .val (.int p3), .val (.int (2 : Int32)), .val (.int ((p0).toInt8.toInt32)), .val (.int ((p1).toInt8.toInt32)), .val (.int ((p2).toInt8.toInt32)), .unset, .unset] [(.ref b25), (.ref b25)])) _
      refine XS.iconst X27.here hx rfl (hb hby at_56) ?_
      show Steps p.tables e below (T27.setTop (mkF m 57 #[.val (.int p0), .val (.int p1), .val (.int p2), .val (.int p3), .val (.int (2 : Int32)), .val (.int ((p0).toInt8.toInt32)), .val (.int ((p1).toInt8.toInt32)), .val (.int ((p2).toInt8.toInt32)), .unset, .unset] [(.int (1 : Int32)), (.ref b25), (.ref b25)])) _
      refine XS.iload X27.here hx rfl (hb hby at_57) rfl ?_
      show Steps p.tables e below (T27.setTop (mkF m 59 #[.val (.int p0), .val (.int p1), .val (.int p2), .val (.int p3), .val (.int (2 : Int32)), .val (.int ((p0).toInt8.toInt32)), .val (.int ((p1).toInt8.toInt32)), .val (.int ((p2).toInt8.toInt32)), .unset, .unset] [(.int ((p1).toInt8.toInt32)), (.int (1 : Int32)), (.ref b25), (.ref b25)])) _
      refine st29 _ ?_
      show Steps p.tables e below (T29.setTop (mkF m 60 #[.val (.int p0), .val (.int p1), .val (.int p2), .val (.int p3), .val (.int (2 : Int32)), .val (.int ((p0).toInt8.toInt32)), .val (.int ((p1).toInt8.toInt32)), .val (.int ((p2).toInt8.toInt32)), .unset, .unset] [(.ref b25)])) _
      refine XS.astore X29.here hx rfl (hb hby at_60) rfl rfl (l' := #[.val (.int p0), .val (.int p1), .val (.int p2), .val (.int p3), .val (.int (2 : Int32)), .val (.int ((p0).toInt8.toInt32)), .val (.int ((p1).toInt8.toInt32)), .val (.int ((p2).toInt8.toInt32)), .val (.ref b25), .unset]) rfl ?_
      show Steps p.tables e below (T29.setTop (mkF m 62 #[.val (.int p0), .val (.int p1), .val (.int p2), .val (.int p3), .val (.int (2 : Int32)), .val (.int ((p0).toInt8.toInt32)), .val (.int ((p1).toInt8.toInt32)), .val (.int ((p2).toInt8.toInt32)), .val (.ref b25), .unset] [])) _
      refine XS.goto X29.here hx rfl (pc0 := 62) (pc' := 85) rfl (hb hby at_62) (by decide) (by decide) ?_
      show Steps p.tables e below (T29.setTop (mkF m 85 #[.val (.int p0), .val (.int p1), .val (.int p2), .val (.int p3), .val (.int (2 : Int32)), .val (.int ((p0).toInt8.toInt32)), .val (.int ((p1).toInt8.toInt32)), .val (.int ((p2).toInt8.toInt32)), .val (.ref b25), .unset] [])) _
      refine st30 _ ?_
      show Steps p.tables e below (T30.setTop (mkF m 88 #[.val (.int p0), .val (.int p1), .val (.int p2), .val (.int p3), .val (.int (2 : Int32)), .val (.int ((p0).toInt8.toInt32)), .val (.int ((p1).toInt8.toInt32)), .val (.int ((p2).toInt8.toInt32)), .val (.ref b25), .unset] [(.ref b30)])) _
      refine XS.dup X30.here hx rfl (hb hby at_88) rfl rfl ?_
      show Steps p.tables e below (T30.setTop (mkF m 89 #[.val (.int p0), .val (.int p1), .val (.int p2), .val (.int p3), .val (.int (2 : Int32)), .val (.int ((p0).toInt8.toInt32)), .val (.int ((p1).toInt8.toInt32)), .val (.int ((p2).toInt8.toInt32)), .val (.ref b25), .unset] [(.ref b30), (.ref b30)])) _
      refine XS.aload X30.here hx rfl (hb hby at_89) rfl rfl ?_
      show Steps p.tables e below (T30.setTop (mkF m 91 #[.val (.int p0), .val (.int p1), .val (.int p2), .val (.int p3), .val (.int (2 : Int32)), .val (.int ((p0).toInt8.toInt32)), .val (.int ((p1).toInt8.toInt32)), .val (.int ((p2).toInt8.toInt32)), .val (.ref b25), .unset] [(.ref b25), (.ref b30), (.ref b30)])) _
      exact kk
    have f35 := (Sta.ext E30 (Sta.wr W29 (Sta.wr W27 (Sta.ext E25 pr0))))
    have z36 : n0 ≤ _ := (Nat.le_trans z31 E30.1)
    obtain ⟨_, _, ⟨T34, L34, k34, n34⟩, -, X34, ⟨Lc34, hQ34, l34, y34, z34⟩, st34⟩ := X30.specialBack hx (y := (⟨"com/example/meterwright/meterwright/RecordBody$Reader", "<init>", "([B)V"⟩ : MethodName)) rfl hown (mvT hZ (hw _ (List.mem_of_getElem? (i := 5) rfl))) (mvT hZ (hw _ (List.mem_of_getElem? (i := 6) rfl))) (mvT hZ (hw _ (List.mem_of_getElem? (i := 7) rfl))) (by decide) (backOf (W := 1) (rm4 l Z a0 hw [] b30 b25 sd h30 n0 z36 A30 F30_36 F30_38 F30_45 ge_b30 f35) hZ (hw _ (List.mem_of_getElem? (i := 7) rfl)) (hw _ (List.mem_of_getElem? (i := 4) rfl)) (by decide) (by decide)) (g := (mkF m 91 #[.val (.int p0), .val (.int p1), .val (.int p2), .val (.int p3), .val (.int (2 : Int32)), .val (.int ((p0).toInt8.toInt32)), .val (.int ((p1).toInt8.toInt32)), .val (.int ((p2).toInt8.toInt32)), .val (.ref b25), .unset] [(.ref b25), (.ref b30), (.ref b30)])) rfl (by rw [hml]; rfl) (Steps.refl _) (a := b30) (argsL := [(.ref b25)]) (rest := [(.ref b30)]) (lenOf pd_1 rfl) rfl (by show 2 * 0 + _ ≤ _; exact Nat.le_of_eq rfl) (hb hby at_91) (fun _ _ => ⟨rfl, e30, (by decide : 2 + 1 ≤ _), (by decide : 6 + 3 ≤ _)⟩)
    dsimp only [Pt.U, Pt.locs, Pt.cells, Pt.slots] at X34 l34 y34 z34 st34 hQ34
    subst l34 y34 z34
    obtain ⟨rfl, Nq34, K34, q34_0, q34_1⟩ := hQ34
    have N34 := Fr.app N29 Nq34
    have f38 := (Arv.keep (V29.ext E30) K34 (ninS ne_b25_b30 nin0))
    have z39 : n0 ≤ _ := (Nat.le_trans z36 K34.1)
    have f40 := (Exa.keep A30 K34)
    obtain ⟨cq37, kq37, q37a, q37b, q37c⟩ := isOf hZ rfl f40
    obtain ⟨_, _, ⟨T37, L37, k37, n37⟩, -, X37, ⟨Lc37, hQ37, l37, y37, z37⟩, st37⟩ := X34.virtualBack hx (y := (⟨"com/example/meterwright/meterwright/RecordBody$Reader", "atEnd", "()Z"⟩ : MethodName)) (z := (⟨"com/example/meterwright/meterwright/RecordBody$Reader", "atEnd", "()Z"⟩ : MethodName)) hown (mvT hZ (hw _ (List.mem_of_getElem? (i := 39) rfl))) (mvT hZ (hw _ (List.mem_of_getElem? (i := 40) rfl))) (notFace_of_selects (args := #[]) (mvT hZ (hw _ (List.mem_of_getElem? (i := 42) rfl)))) (mvT hZ (hw _ (List.mem_of_getElem? (i := 42) rfl))) (mvT hZ (hw _ (List.mem_of_getElem? (i := 41) rfl))) (by decide) (backOf (W := 0) (rm5 l Z a0 hw [] b30 (0 : Int32) b25 k25 (2 : Int32) [(.int (nar .byte ((p0).toInt8.toInt32))), (.int (nar .byte ((p1).toInt8.toInt32)))] (.int (0 : Int32)) T34.heap n0 z39 q34_1 q34_0 f38) hZ (hw _ (List.mem_of_getElem? (i := 43) rfl)) (hw _ (List.mem_of_getElem? (i := 4) rfl)) (by decide) (by decide)) q37a q37c (g := (mkF m 98 #[.val (.int p0), .val (.int p1), .val (.int p2), .val (.int p3), .val (.int (2 : Int32)), .val (.int ((p0).toInt8.toInt32)), .val (.int ((p1).toInt8.toInt32)), .val (.int ((p2).toInt8.toInt32)), .val (.ref b25), .val (.ref b30)] [(.ref b30)])) rfl (by rw [hml]; rfl) (Steps.refl _) (argsL := []) (rest := []) (lenOf pd_2 rfl) rfl (by show 2 * 0 + _ ≤ _; exact Nat.le_of_eq rfl) (hb hby at_98) (fun _ _ => ⟨rfl, rfl, (by decide : 3 + 0 ≤ _), (by decide : 9 + 0 ≤ _)⟩)
    dsimp only [Pt.U, Pt.locs, Pt.cells, Pt.slots] at X37 l37 y37 z37 st37 hQ37
    subst l37 y37 z37
    obtain ⟨rfl, Nq37, e37⟩ := hQ37
    have N37 := Fr.app N34 Nq37
    obtain ⟨cq41, kq41, q41a, q41b, q41c⟩ := isOf hZ e37 f40
    obtain ⟨_, _, ⟨T41, L41, k41, n41⟩, -, X41, ⟨Lc41, hQ41, l41, y41, z41⟩, st41⟩ := X37.virtualBack hx (y := (⟨"com/example/meterwright/meterwright/RecordBody$Reader", "kind", "()B"⟩ : MethodName)) (z := (⟨"com/example/meterwright/meterwright/RecordBody$Reader", "kind", "()B"⟩ : MethodName)) hown (mvT hZ (hw _ (List.mem_of_getElem? (i := 46) rfl))) (mvT hZ (hw _ (List.mem_of_getElem? (i := 47) rfl))) (notFace_of_selects (args := #[]) (mvT hZ (hw _ (List.mem_of_getElem? (i := 49) rfl)))) (mvT hZ (hw _ (List.mem_of_getElem? (i := 49) rfl))) (mvT hZ (hw _ (List.mem_of_getElem? (i := 48) rfl))) (by decide) (backOf (W := 0) (rm6 l Z a0 hw [] b30 (0 : Int32) b25 k25 (2 : Int32) [(.int (nar .byte ((p0).toInt8.toInt32))), (.int (nar .byte ((p1).toInt8.toInt32)))] (.int (0 : Int32)) (nar .byte ((p0).toInt8.toInt32)) T34.heap n0 z39 f40 q34_1 q34_0 f38 ge_b30 ne_b25_b30 ⟨by decide, by decide⟩ rfl) hZ (hw _ (List.mem_of_getElem? (i := 50) rfl)) (hw _ (List.mem_of_getElem? (i := 4) rfl)) (by decide) (by decide)) q41a q41c (g := (mkF m 108 #[.val (.int p0), .val (.int p1), .val (.int p2), .val (.int p3), .val (.int (2 : Int32)), .val (.int ((p0).toInt8.toInt32)), .val (.int ((p1).toInt8.toInt32)), .val (.int ((p2).toInt8.toInt32)), .val (.ref b25), .val (.ref b30)] [(.ref b30)])) rfl (by rw [hml]; rfl) (Steps.refl _) (argsL := []) (rest := []) (lenOf pd_3 rfl) rfl (by show 2 * 0 + _ ≤ _; exact Nat.le_of_eq rfl) (hb hby at_108) (fun _ _ => ⟨rfl, e37, (by decide : 3 + 0 ≤ _), (by decide : 9 + 0 ≤ _)⟩)
    dsimp only [Pt.U, Pt.locs, Pt.cells, Pt.slots] at X41 l41 y41 z41 st41 hQ41
    subst l41 y41 z41
    obtain ⟨rfl, Nq41, K41, q41_0, q41_1⟩ := hQ41
    have N41 := Fr.app N37 Nq41
    have q41_0' : Fld Z T41.heap b30 "com/example/meterwright/meterwright/RecordBody$Reader" "position" "I" (.int (1 : Int32)) := q41_0
    have f43 := (Arv.keep f38 K41 (ninS ne_b25_b30 nin0))
    have z44 : n0 ≤ _ := (Nat.le_trans z39 K41.1)
    have f45 := (Exa.keep f40 K41)
    obtain ⟨cq42, kq42, q42a, q42b, q42c⟩ := isOf hZ rfl f45
    obtain ⟨_, _, ⟨T42, L42, k42, n42⟩, -, X42, ⟨Lc42, hQ42, l42, y42, z42⟩, st42⟩ := X41.virtualBack hx (y := (⟨"com/example/meterwright/meterwright/RecordBody$Reader", "atEnd", "()Z"⟩ : MethodName)) (z := (⟨"com/example/meterwright/meterwright/RecordBody$Reader", "atEnd", "()Z"⟩ : MethodName)) hown (mvT hZ (hw _ (List.mem_of_getElem? (i := 39) rfl))) (mvT hZ (hw _ (List.mem_of_getElem? (i := 40) rfl))) (notFace_of_selects (args := #[]) (mvT hZ (hw _ (List.mem_of_getElem? (i := 42) rfl)))) (mvT hZ (hw _ (List.mem_of_getElem? (i := 42) rfl))) (mvT hZ (hw _ (List.mem_of_getElem? (i := 41) rfl))) (by decide) (backOf (W := 0) (rm5 l Z a0 hw [] b30 (1 : Int32) b25 k25 (2 : Int32) [(.int (nar .byte ((p0).toInt8.toInt32))), (.int (nar .byte ((p1).toInt8.toInt32)))] (.int (0 : Int32)) T41.heap n0 z44 q41_0' q41_1 f43) hZ (hw _ (List.mem_of_getElem? (i := 43) rfl)) (hw _ (List.mem_of_getElem? (i := 4) rfl)) (by decide) (by decide)) q42a q42c (g := (mkF m 120 #[.val (.int p0), .val (.int p1), .val (.int p2), .val (.int p3), .val (.int (2 : Int32)), .val (.int ((p0).toInt8.toInt32)), .val (.int ((p1).toInt8.toInt32)), .val (.int ((p2).toInt8.toInt32)), .val (.ref b25), .val (.ref b30)] [(.ref b30)])) rfl (by rw [hml]; rfl) (Steps.refl _) (argsL := []) (rest := []) (lenOf pd_2 rfl) rfl (by show 2 * 0 + _ ≤ _; exact Nat.le_of_eq rfl) (hb hby at_120) (fun _ _ => ⟨rfl, rfl, (by decide : 3 + 0 ≤ _), (by decide : 9 + 0 ≤ _)⟩)
    dsimp only [Pt.U, Pt.locs, Pt.cells, Pt.slots] at X42 l42 y42 z42 st42 hQ42
    subst l42 y42 z42
    obtain ⟨rfl, Nq42, e42⟩ := hQ42
    have N42 := Fr.app N41 Nq42
    obtain ⟨cq46, kq46, q46a, q46b, q46c⟩ := isOf hZ e42 f45
    obtain ⟨_, _, ⟨T46, L46, k46, n46⟩, -, X46, ⟨Lc46, hQ46, l46, y46, z46⟩, st46⟩ := X42.virtualBack hx (y := (⟨"com/example/meterwright/meterwright/RecordBody$Reader", "kind", "()B"⟩ : MethodName)) (z := (⟨"com/example/meterwright/meterwright/RecordBody$Reader", "kind", "()B"⟩ : MethodName)) hown (mvT hZ (hw _ (List.mem_of_getElem? (i := 46) rfl))) (mvT hZ (hw _ (List.mem_of_getElem? (i := 47) rfl))) (notFace_of_selects (args := #[]) (mvT hZ (hw _ (List.mem_of_getElem? (i := 49) rfl)))) (mvT hZ (hw _ (List.mem_of_getElem? (i := 49) rfl))) (mvT hZ (hw _ (List.mem_of_getElem? (i := 48) rfl))) (by decide) (backOf (W := 0) (rm6 l Z a0 hw [] b30 (1 : Int32) b25 k25 (2 : Int32) [(.int (nar .byte ((p0).toInt8.toInt32))), (.int (nar .byte ((p1).toInt8.toInt32)))] (.int (0 : Int32)) (nar .byte ((p1).toInt8.toInt32)) T41.heap n0 z44 f45 q41_0' q41_1 f43 ge_b30 ne_b25_b30 ⟨by decide, by decide⟩ rfl) hZ (hw _ (List.mem_of_getElem? (i := 50) rfl)) (hw _ (List.mem_of_getElem? (i := 4) rfl)) (by decide) (by decide)) q46a q46c (g := (mkF m 149 #[.val (.int p0), .val (.int p1), .val (.int p2), .val (.int p3), .val (.int (2 : Int32)), .val (.int ((p0).toInt8.toInt32)), .val (.int ((p1).toInt8.toInt32)), .val (.int ((p2).toInt8.toInt32)), .val (.ref b25), .val (.ref b30)] [(.ref b30)])) rfl (by rw [hml]; rfl) (Steps.refl _) (argsL := []) (rest := []) (lenOf pd_3 rfl) rfl (by show 2 * 0 + _ ≤ _; exact Nat.le_of_eq rfl) (hb hby at_149) (fun _ _ => ⟨rfl, e42, (by decide : 3 + 0 ≤ _), (by decide : 9 + 0 ≤ _)⟩)
    dsimp only [Pt.U, Pt.locs, Pt.cells, Pt.slots] at X46 l46 y46 z46 st46 hQ46
    subst l46 y46 z46
    obtain ⟨rfl, Nq46, K46, q46_0, q46_1⟩ := hQ46
    have N46 := Fr.app N42 Nq46
    have q46_0' : Fld Z T46.heap b30 "com/example/meterwright/meterwright/RecordBody$Reader" "position" "I" (.int (2 : Int32)) := q46_0
    have f48 := (Arv.keep f43 K46 (ninS ne_b25_b30 nin0))
    have z49 : n0 ≤ _ := (Nat.le_trans z44 K46.1)
    have f50 := (Exa.keep f45 K46)
    obtain ⟨cq47, kq47, q47a, q47b, q47c⟩ := isOf hZ rfl f50
    obtain ⟨_, _, ⟨T47, L47, k47, n47⟩, -, X47, ⟨Lc47, hQ47, l47, y47, z47⟩, st47⟩ := X46.virtualBack hx (y := (⟨"com/example/meterwright/meterwright/RecordBody$Reader", "atEnd", "()Z"⟩ : MethodName)) (z := (⟨"com/example/meterwright/meterwright/RecordBody$Reader", "atEnd", "()Z"⟩ : MethodName)) hown (mvT hZ (hw _ (List.mem_of_getElem? (i := 39) rfl))) (mvT hZ (hw _ (List.mem_of_getElem? (i := 40) rfl))) (notFace_of_selects (args := #[]) (mvT hZ (hw _ (List.mem_of_getElem? (i := 42) rfl)))) (mvT hZ (hw _ (List.mem_of_getElem? (i := 42) rfl))) (mvT hZ (hw _ (List.mem_of_getElem? (i := 41) rfl))) (by decide) (backOf (W := 0) (rm5 l Z a0 hw [] b30 (2 : Int32) b25 k25 (2 : Int32) [(.int (nar .byte ((p0).toInt8.toInt32))), (.int (nar .byte ((p1).toInt8.toInt32)))] (.int (0 : Int32)) T46.heap n0 z49 q46_0' q46_1 f48) hZ (hw _ (List.mem_of_getElem? (i := 43) rfl)) (hw _ (List.mem_of_getElem? (i := 4) rfl)) (by decide) (by decide)) q47a q47c (g := (mkF m 161 #[.val (.int p0), .val (.int p1), .val (.int p2), .val (.int p3), .val (.int (2 : Int32)), .val (.int ((p0).toInt8.toInt32)), .val (.int ((p1).toInt8.toInt32)), .val (.int ((p2).toInt8.toInt32)), .val (.ref b25), .val (.ref b30)] [(.ref b30)])) rfl (by rw [hml]; rfl) (Steps.refl _) (argsL := []) (rest := []) (lenOf pd_2 rfl) rfl (by show 2 * 0 + _ ≤ _; exact Nat.le_of_eq rfl) (hb hby at_161) (fun _ _ => ⟨rfl, rfl, (by decide : 3 + 0 ≤ _), (by decide : 9 + 0 ≤ _)⟩)
    dsimp only [Pt.U, Pt.locs, Pt.cells, Pt.slots] at X47 l47 y47 z47 st47 hQ47
    subst l47 y47 z47
    obtain ⟨rfl, Nq47, e47⟩ := hQ47
    have N47 := Fr.app N46 Nq47
    have P51 : ∀ t, Steps p.tables e below (T47.setTop (mkF m 175 #[.val (.int p0), .val (.int p1), .val (.int p2), .val (.int p3), .val (.int (2 : Int32)), .val (.int ((p0).toInt8.toInt32)), .val (.int ((p1).toInt8.toInt32)), .val (.int ((p2).toInt8.toInt32)), .val (.ref b25), .val (.ref b30)] [(.int (1 : Int32)), (.int (F5 (2 : Int32) (2 : Int32)))])) t → Steps p.tables e below (s₁.setTop (entryFrame m #[(.int p0), (.int p1), (.int p2), (.int p3)] maxLocals)) t := by
      intro t kk
      refine P33 _ ?_
      show Steps p.tables e below (T30.setTop (mkF m 91 #[.val (.int p0), .val (.int p1), .val (.int p2), .val (.int p3), .val (.int (2 : Int32)), .val (.int ((p0).toInt8.toInt32)), .val (.int ((p1).toInt8.toInt32)), .val (.int ((p2).toInt8.toInt32)), .val (.ref b25), .unset] [(.ref b25), (.ref b30), (.ref b30)])) _
      refine st34.trans ?_
      show Steps p.tables e below (T34.setTop (mkF m 94 #[.val (.int p0), .val (.int p1), .val (.int p2), .val (.int p3), .val (.int (2 : Int32)), .val (.int ((p0).toInt8.toInt32)), .val (.int ((p1).toInt8.toInt32)), .val (.int ((p2).toInt8.toInt32)), .val (.ref b25), .unset] [(.ref b30)])) _
      refine XS.astore X34.here hx rfl (hb hby at_94) rfl rfl (l' := #[.val (.int p0), .val (.int p1), .val (.int p2), .val (.int p3), .val (.int (2 : Int32)), .val (.int ((p0).toInt8.toInt32)), .val (.int ((p1).toInt8.toInt32)), .val (.int ((p2).toInt8.toInt32)), .val (.ref b25), .val (.ref b30)]) rfl ?_
      show Steps p.tables e below (T34.setTop (mkF m 96 #[.val (.int p0), .val (.int p1), .val (.int p2), .val (.int p3), .val (.int (2 : Int32)), .val (.int ((p0).toInt8.toInt32)), .val (.int ((p1).toInt8.toInt32)), .val (.int ((p2).toInt8.toInt32)), .val (.ref b25), .val (.ref b30)] [])) _
      refine XS.aload X34.here hx rfl (hb hby at_96) rfl rfl ?_
      show Steps p.tables e below (T34.setTop (mkF m 98 #[.val (.int p0), .val (.int p1), .val (.int p2), .val (.int p3), .val (.int (2 : Int32)), .val (.int ((p0).toInt8.toInt32)), .val (.int ((p1).toInt8.toInt32)), .val (.int ((p2).toInt8.toInt32)), .val (.ref b25), .val (.ref b30)] [(.ref b30)])) _
      refine st37.trans ?_
      show Steps p.tables e below (T37.setTop (mkF m 101 #[.val (.int p0), .val (.int p1), .val (.int p2), .val (.int p3), .val (.int (2 : Int32)), .val (.int ((p0).toInt8.toInt32)), .val (.int ((p1).toInt8.toInt32)), .val (.int ((p2).toInt8.toInt32)), .val (.ref b25), .val (.ref b30)] [(.int (F5 (0 : Int32) (2 : Int32)))])) _
      refine XS.ifYes X37.here hx rfl (pc0 := 101) (pc' := 106) rfl (hb hby at_101) rfl (XT.i0_eq_t (by decide)) (by decide) (by decide) ?_
      show Steps p.tables e below (T37.setTop (mkF m 106 #[.val (.int p0), .val (.int p1), .val (.int p2), .val (.int p3), .val (.int (2 : Int32)), .val (.int ((p0).toInt8.toInt32)), .val (.int ((p1).toInt8.toInt32)), .val (.int ((p2).toInt8.toInt32)), .val (.ref b25), .val (.ref b30)] [])) _
      refine XS.aload X37.here hx rfl (hb hby at_106) rfl rfl ?_
      show Steps p.tables e below (T37.setTop (mkF m 108 #[.val (.int p0), .val (.int p1), .val (.int p2), .val (.int p3), .val (.int (2 : Int32)), .val (.int ((p0).toInt8.toInt32)), .val (.int ((p1).toInt8.toInt32)), .val (.int ((p2).toInt8.toInt32)), .val (.ref b25), .val (.ref b30)] [(.ref b30)])) _
      refine st41.trans ?_
      show Steps p.tables e below (T41.setTop (mkF m 111 #[.val (.int p0), .val (.int p1), .val (.int p2), .val (.int p3), .val (.int (2 : Int32)), .val (.int ((p0).toInt8.toInt32)), .val (.int ((p1).toInt8.toInt32)), .val (.int ((p2).toInt8.toInt32)), .val (.ref b25), .val (.ref b30)] [(.int (nar .byte (nar .byte ((p0).toInt8.toInt32))))])) _
      refine XS.iload X41.here hx rfl (hb hby at_111) rfl ?_
      show Steps p.tables e below (T41.setTop (mkF m 113 #[.val (.int p0), .val (.int p1), .val (.int p2), .val (.int p3), .val (.int (2 : Int32)), .val (.int ((p0).toInt8.toInt32)), .val (.int ((p1).toInt8.toInt32)), .val (.int ((p2).toInt8.toInt32)), .val (.ref b25), .val (.ref b30)] [(.int ((p0).toInt8.toInt32)), (.int (nar .byte (nar .byte ((p0).toInt8.toInt32))))])) _
      refine XS.icmpYes X41.here hx rfl (pc0 := 113) (pc' := 118) rfl (hb hby at_113) rfl (XT.ii_eq_t (own_nb _)) (by decide) (by decide) ?_
      show Steps p.tables e below (T41.setTop (mkF m 118 #[.val (.int p0), .val (.int p1), .val (.int p2), .val (.int p3), .val (.int (2 : Int32)), .val (.int ((p0).toInt8.toInt32)), .val (.int ((p1).toInt8.toInt32)), .val (.int ((p2).toInt8.toInt32)), .val (.ref b25), .val (.ref b30)] [])) _
      refine XS.aload X41.here hx rfl (hb hby at_118) rfl rfl ?_
      show Steps p.tables e below (T41.setTop (mkF m 120 #[.val (.int p0), .val (.int p1), .val (.int p2), .val (.int p3), .val (.int (2 : Int32)), .val (.int ((p0).toInt8.toInt32)), .val (.int ((p1).toInt8.toInt32)), .val (.int ((p2).toInt8.toInt32)), .val (.ref b25), .val (.ref b30)] [(.ref b30)])) _
      refine st42.trans ?_
      show Steps p.tables e below (T42.setTop (mkF m 123 #[.val (.int p0), .val (.int p1), .val (.int p2), .val (.int p3), .val (.int (2 : Int32)), .val (.int ((p0).toInt8.toInt32)), .val (.int ((p1).toInt8.toInt32)), .val (.int ((p2).toInt8.toInt32)), .val (.ref b25), .val (.ref b30)] [(.int (F5 (1 : Int32) (2 : Int32)))])) _
      refine XS.iload X42.here hx rfl (hb hby at_123) rfl ?_
      show Steps p.tables e below (T42.setTop (mkF m 125 #[.val (.int p0), .val (.int p1), .val (.int p2), .val (.int p3), .val (.int (2 : Int32)), .val (.int ((p0).toInt8.toInt32)), .val (.int ((p1).toInt8.toInt32)), .val (.int ((p2).toInt8.toInt32)), .val (.ref b25), .val (.ref b30)] [(.int (2 : Int32)), (.int (F5 (1 : Int32) (2 : Int32)))])) _
      refine XS.iconst X42.here hx rfl (hb hby at_125) ?_
      show Steps p.tables e below (T42.setTop (mkF m 126 #[.val (.int p0), .val (.int p1), .val (.int p2), .val (.int p3), .val (.int (2 : Int32)), .val (.int ((p0).toInt8.toInt32)), .val (.int ((p1).toInt8.toInt32)), .val (.int ((p2).toInt8.toInt32)), .val (.ref b25), .val (.ref b30)] [(.int (1 : Int32)), (.int (2 : Int32)), (.int (F5 (1 : Int32) (2 : Int32)))])) _
      refine XS.icmpYes X42.here hx rfl (pc0 := 126) (pc' := 133) rfl (hb hby at_126) rfl (XT.ii_ne_t (by decide)) (by decide) (by decide) ?_
      show Steps p.tables e below (T42.setTop (mkF m 133 #[.val (.int p0), .val (.int p1), .val (.int p2), .val (.int p3), .val (.int (2 : Int32)), .val (.int ((p0).toInt8.toInt32)), .val (.int ((p1).toInt8.toInt32)), .val (.int ((p2).toInt8.toInt32)), .val (.ref b25), .val (.ref b30)] [(.int (F5 (1 : Int32) (2 : Int32)))])) _
      refine XS.iconst X42.here hx rfl (hb hby at_133) ?_
      show Steps p.tables e below (T42.setTop (mkF m 134 #[.val (.int p0), .val (.int p1), .val (.int p2), .val (.int p3), .val (.int (2 : Int32)), .val (.int ((p0).toInt8.toInt32)), .val (.int ((p1).toInt8.toInt32)), .val (.int ((p2).toInt8.toInt32)), .val (.ref b25), .val (.ref b30)] [(.int (0 : Int32)), (.int (F5 (1 : Int32) (2 : Int32)))])) _
      refine XS.icmpYes X42.here hx rfl (pc0 := 134) (pc' := 139) rfl (hb hby at_134) rfl (XT.ii_eq_t (by decide)) (by decide) (by decide) ?_
      show Steps p.tables e below (T42.setTop (mkF m 139 #[.val (.int p0), .val (.int p1), .val (.int p2), .val (.int p3), .val (.int (2 : Int32)), .val (.int ((p0).toInt8.toInt32)), .val (.int ((p1).toInt8.toInt32)), .val (.int ((p2).toInt8.toInt32)), .val (.ref b25), .val (.ref b30)] [])) _
      refine XS.iload X42.here hx rfl (hb hby at_139) rfl ?_
      show Steps p.tables e below (T42.setTop (mkF m 141 #[.val (.int p0), .val (.int p1), .val (.int p2), .val (.int p3), .val (.int (2 : Int32)), .val (.int ((p0).toInt8.toInt32)), .val (.int ((p1).toInt8.toInt32)), .val (.int ((p2).toInt8.toInt32)), .val (.ref b25), .val (.ref b30)] [(.int (2 : Int32))])) _
      refine XS.iconst X42.here hx rfl (hb hby at_141) ?_
      show Steps p.tables e below (T42.setTop (mkF m 142 #[.val (.int p0), .val (.int p1), .val (.int p2), .val (.int p3), .val (.int (2 : Int32)), .val (.int ((p0).toInt8.toInt32)), .val (.int ((p1).toInt8.toInt32)), .val (.int ((p2).toInt8.toInt32)), .val (.ref b25), .val (.ref b30)] [(.int (1 : Int32)), (.int (2 : Int32))])) _
      refine XS.icmpYes X42.here hx rfl (pc0 := 142) (pc' := 147) rfl (hb hby at_142) rfl (XT.ii_ne_t (by decide)) (by decide) (by decide) ?_
      show Steps p.tables e below (T42.setTop (mkF m 147 #[.val (.int p0), .val (.int p1), .val (.int p2), .val (.int p3), .val (.int (2 : Int32)), .val (.int ((p0).toInt8.toInt32)), .val (.int ((p1).toInt8.toInt32)), .val (.int ((p2).toInt8.toInt32)), .val (.ref b25), .val (.ref b30)] [])) _
      refine XS.aload X42.here hx rfl (hb hby at_147) rfl rfl ?_
      show Steps p.tables e below (T42.setTop (mkF m 149 #[.val (.int p0), .val (.int p1), .val (.int p2), .val (.int p3), .val (.int (2 : Int32)), .val (.int ((p0).toInt8.toInt32)), .val (.int ((p1).toInt8.toInt32)), .val (.int ((p2).toInt8.toInt32)), .val (.ref b25), .val (.ref b30)] [(.ref b30)])) _
      refine st46.trans ?_
      show Steps p.tables e below (T46.setTop (mkF m 152 #[.val (.int p0), .val (.int p1), .val (.int p2), .val (.int p3), .val (.int (2 : Int32)), .val (.int ((p0).toInt8.toInt32)), .val (.int ((p1).toInt8.toInt32)), .val (.int ((p2).toInt8.toInt32)), .val (.ref b25), .val (.ref b30)] [(.int (nar .byte (nar .byte ((p1).toInt8.toInt32))))])) _
      refine XS.iload X46.here hx rfl (hb hby at_152) rfl ?_
      show Steps p.tables e below (T46.setTop (mkF m 154 #[.val (.int p0), .val (.int p1), .val (.int p2), .val (.int p3), .val (.int (2 : Int32)), .val (.int ((p0).toInt8.toInt32)), .val (.int ((p1).toInt8.toInt32)), .val (.int ((p2).toInt8.toInt32)), .val (.ref b25), .val (.ref b30)] [(.int ((p1).toInt8.toInt32)), (.int (nar .byte (nar .byte ((p1).toInt8.toInt32))))])) _
      refine XS.icmpYes X46.here hx rfl (pc0 := 154) (pc' := 159) rfl (hb hby at_154) rfl (XT.ii_eq_t (own_nb _)) (by decide) (by decide) ?_
      show Steps p.tables e below (T46.setTop (mkF m 159 #[.val (.int p0), .val (.int p1), .val (.int p2), .val (.int p3), .val (.int (2 : Int32)), .val (.int ((p0).toInt8.toInt32)), .val (.int ((p1).toInt8.toInt32)), .val (.int ((p2).toInt8.toInt32)), .val (.ref b25), .val (.ref b30)] [])) _
      refine XS.aload X46.here hx rfl (hb hby at_159) rfl rfl ?_
      show Steps p.tables e below (T46.setTop (mkF m 161 #[.val (.int p0), .val (.int p1), .val (.int p2), .val (.int p3), .val (.int (2 : Int32)), .val (.int ((p0).toInt8.toInt32)), .val (.int ((p1).toInt8.toInt32)), .val (.int ((p2).toInt8.toInt32)), .val (.ref b25), .val (.ref b30)] [(.ref b30)])) _
      refine st47.trans ?_
      show Steps p.tables e below (T47.setTop (mkF m 164 #[.val (.int p0), .val (.int p1), .val (.int p2), .val (.int p3), .val (.int (2 : Int32)), .val (.int ((p0).toInt8.toInt32)), .val (.int ((p1).toInt8.toInt32)), .val (.int ((p2).toInt8.toInt32)), .val (.ref b25), .val (.ref b30)] [(.int (F5 (2 : Int32) (2 : Int32)))])) _
      refine XS.iload X47.here hx rfl (hb hby at_164) rfl ?_
      show Steps p.tables e below (T47.setTop (mkF m 166 #[.val (.int p0), .val (.int p1), .val (.int p2), .val (.int p3), .val (.int (2 : Int32)), .val (.int ((p0).toInt8.toInt32)), .val (.int ((p1).toInt8.toInt32)), .val (.int ((p2).toInt8.toInt32)), .val (.ref b25), .val (.ref b30)] [(.int (2 : Int32)), (.int (F5 (2 : Int32) (2 : Int32)))])) _
      refine XS.iconst X47.here hx rfl (hb hby at_166) ?_
      show Steps p.tables e below (T47.setTop (mkF m 167 #[.val (.int p0), .val (.int p1), .val (.int p2), .val (.int p3), .val (.int (2 : Int32)), .val (.int ((p0).toInt8.toInt32)), .val (.int ((p1).toInt8.toInt32)), .val (.int ((p2).toInt8.toInt32)), .val (.ref b25), .val (.ref b30)] [(.int (2 : Int32)), (.int (2 : Int32)), (.int (F5 (2 : Int32) (2 : Int32)))])) _
      refine XS.icmpNo X47.here hx rfl (hb hby at_167) rfl (XT.ii_ne_f rfl) ?_
      show Steps p.tables e below (T47.setTop (mkF m 170 #[.val (.int p0), .val (.int p1), .val (.int p2), .val (.int p3), .val (.int (2 : Int32)), .val (.int ((p0).toInt8.toInt32)), .val (.int ((p1).toInt8.toInt32)), .val (.int ((p2).toInt8.toInt32)), .val (.ref b25), .val (.ref b30)] [(.int (F5 (2 : Int32) (2 : Int32)))])) _
      refine XS.iconst X47.here hx rfl (hb hby at_170) ?_
      show Steps p.tables e below (T47.setTop (mkF m 171 #[.val (.int p0), .val (.int p1), .val (.int p2), .val (.int p3), .val (.int (2 : Int32)), .val (.int ((p0).toInt8.toInt32)), .val (.int ((p1).toInt8.toInt32)), .val (.int ((p2).toInt8.toInt32)), .val (.ref b25), .val (.ref b30)] [(.int (1 : Int32)), (.int (F5 (2 : Int32) (2 : Int32)))])) _
      refine XS.goto X47.here hx rfl (pc0 := 171) (pc' := 175) rfl (hb hby at_171) (by decide) (by decide) ?_
      show Steps p.tables e below (T47.setTop (mkF m 175 #[.val (.int p0), .val (.int p1), .val (.int p2), .val (.int p3), .val (.int (2 : Int32)), .val (.int ((p0).toInt8.toInt32)), .val (.int ((p1).toInt8.toInt32)), .val (.int ((p2).toInt8.toInt32)), .val (.ref b25), .val (.ref b30)] [(.int (1 : Int32)), (.int (F5 (2 : Int32) (2 : Int32)))])) _
      exact kk
    have P52 : ∀ t, Steps p.tables e below (T47.setTop (mkF m 187 #[.val (.int p0), .val (.int p1), .val (.int p2), .val (.int p3), .val (.int (2 : Int32)), .val (.int ((p0).toInt8.toInt32)), .val (.int ((p1).toInt8.toInt32)), .val (.int ((p2).toInt8.toInt32)), .val (.ref b25), .val (.ref b30)] [(.int (1 : Int32))])) t → Steps p.tables e below (s₁.setTop (entryFrame m #[(.int p0), (.int p1), (.int p2), (.int p3)] maxLocals)) t := by
      intro t kk
      refine P51 _ ?_
      show Steps p.tables e below (T47.setTop (mkF m 175 #[.val (.int p0), .val (.int p1), .val (.int p2), .val (.int p3), .val (.int (2 : Int32)), .val (.int ((p0).toInt8.toInt32)), .val (.int ((p1).toInt8.toInt32)), .val (.int ((p2).toInt8.toInt32)), .val (.ref b25), .val (.ref b30)] [(.int (1 : Int32)), (.int (F5 (2 : Int32) (2 : Int32)))])) _
      refine XS.icmpYes X47.here hx rfl (pc0 := 175) (pc' := 180) rfl (hb hby at_175) rfl (XT.ii_eq_t (by decide)) (by decide) (by decide) ?_
      show Steps p.tables e below (T47.setTop (mkF m 180 #[.val (.int p0), .val (.int p1), .val (.int p2), .val (.int p3), .val (.int (2 : Int32)), .val (.int ((p0).toInt8.toInt32)), .val (.int ((p1).toInt8.toInt32)), .val (.int ((p2).toInt8.toInt32)), .val (.ref b25), .val (.ref b30)] [])) _
      refine XS.iload X47.here hx rfl (hb hby at_180) rfl ?_
      show Steps p.tables e below (T47.setTop (mkF m 182 #[.val (.int p0), .val (.int p1), .val (.int p2), .val (.int p3), .val (.int (2 : Int32)), .val (.int ((p0).toInt8.toInt32)), .val (.int ((p1).toInt8.toInt32)), .val (.int ((p2).toInt8.toInt32)), .val (.ref b25), .val (.ref b30)] [(.int (2 : Int32))])) _
      refine XS.iconst X47.here hx rfl (hb hby at_182) ?_
      show Steps p.tables e below (T47.setTop (mkF m 183 #[.val (.int p0), .val (.int p1), .val (.int p2), .val (.int p3), .val (.int (2 : Int32)), .val (.int ((p0).toInt8.toInt32)), .val (.int ((p1).toInt8.toInt32)), .val (.int ((p2).toInt8.toInt32)), .val (.ref b25), .val (.ref b30)] [(.int (2 : Int32)), (.int (2 : Int32))])) _
      refine XS.icmpNo X47.here hx rfl (hb hby at_183) rfl (XT.ii_ne_f rfl) ?_
      show Steps p.tables e below (T47.setTop (mkF m 186 #[.val (.int p0), .val (.int p1), .val (.int p2), .val (.int p3), .val (.int (2 : Int32)), .val (.int ((p0).toInt8.toInt32)), .val (.int ((p1).toInt8.toInt32)), .val (.int ((p2).toInt8.toInt32)), .val (.ref b25), .val (.ref b30)] [])) _
      refine XS.iconst X47.here hx rfl (hb hby at_186) ?_
      show Steps p.tables e below (T47.setTop (mkF m 187 #[.val (.int p0), .val (.int p1), .val (.int p2), .val (.int p3), .val (.int (2 : Int32)), .val (.int ((p0).toInt8.toInt32)), .val (.int ((p1).toInt8.toInt32)), .val (.int ((p2).toInt8.toInt32)), .val (.ref b25), .val (.ref b30)] [(.int (1 : Int32))])) _
      exact kk
    obtain ⟨fs, hr, hrun, hended, hW, hsame⟩ := X47.leave (v := some (.int (1 : Int32))) (fun h => by rw [Bd.returns] at h; cases h)
    refine ⟨_, _, P52 _ ?_, hrun, hended, _, _, rfl, ?_, ⟨_, rfl⟩, hW, hsame.mono (by decide) (by decide)⟩
    · exact retN X47 hx (t := .boolean) Bd.returns (by simp) (hb hby at_187) hr
    · exact ⟨rfl, N47⟩
  · skip
    have P53 : ∀ t, Steps p.tables e below (s₁.setTop (mkF m 10 #[.val (.int p0), .val (.int p1), .val (.int p2), .val (.int p3), .val (.int (3 : Int32)), .unset, .unset, .unset, .unset, .unset] [])) t → Steps p.tables e below (s₁.setTop (entryFrame m #[(.int p0), (.int p1), (.int p2), (.int p3)] maxLocals)) t := by
      intro t kk
      refine P1 _ ?_
      rw [hs2]
      exact kk
    obtain ⟨T54, h54, k54, X54, e54, E54, A54, st54⟩ := newP X0 hx hZ (hw _ (List.mem_of_getElem? (i := 1) rfl)) e0 (g := (mkF m 66 #[.val (.int p0), .val (.int p1), .val (.int p2), .val (.int p3), .val (.int (3 : Int32)), .val (.int ((p0).toInt8.toInt32)), .val (.int ((p1).toInt8.toInt32)), .val (.int ((p2).toInt8.toInt32)), .unset, .unset] [(.int (3 : Int32))])) rfl (hb hby at_66) rfl (by decide) (cap := 3) (by decide) (by decide) (by decide) (by decide)
    obtain ⟨b54, g_b54⟩ : ∃ z, z = h0.size := ⟨_, rfl⟩
    rw [← g_b54] at A54 st54
    have ge_b54 : n0 ≤ b54 := Nat.le_trans Z0 (Nat.le_of_eq g_b54.symm)
    have sz_b54 : h0.size ≤ b54 := Nat.le_trans (Keep.refl h0 []).1 (Nat.le_of_eq g_b54.symm)
    have V54 : Arv Z h54 b54 k54 .byte (3 : Int32) [(.int (0 : Int32)), (.int (0 : Int32)), (.int (0 : Int32))] (.int (0 : Int32)) := (Arv.new A54 (by decide)).pad (pad_rep [] (.int (0 : Int32)) 3)
    obtain ⟨cl_a55, Ar_a55, q_a55, S_a55, N_a55, H_a55, G_a55⟩ := id V54
    have hin_a55 : ¬ ((0 : Int32) < 0 ∨ cl_a55.slots.size ≤ ((0 : Int32)).toNatClampNeg) := inb_of S_a55 ⟨by decide, by decide⟩
    obtain ⟨T56, h56, X56, e56, W56, st56⟩ := stB X54 hx hZ e54 Ar_a55 (j := (0 : Int32)) hin_a55 (g := (mkF m 72 #[.val (.int p0), .val (.int p1), .val (.int p2), .val (.int p3), .val (.int (3 : Int32)), .val (.int ((p0).toInt8.toInt32)), .val (.int ((p1).toInt8.toInt32)), .val (.int ((p2).toInt8.toInt32)), .unset, .unset] [(.int ((p0).toInt8.toInt32)), (.int (0 : Int32)), (.ref b54), (.ref b54)])) rfl rfl (hb hby at_72)
    have V56 : Arv Z h56 b54 k54 .byte (3 : Int32) [(.int (nar .byte ((p0).toInt8.toInt32))), (.int (0 : Int32)), (.int (0 : Int32))] (.int (0 : Int32)) := Arv.set Ar_a55 q_a55 S_a55 N_a55 H_a55 G_a55 (fits_nar_byte _) W56 0 rfl (Nat.le_of_ble_eq_true rfl)
    have N56 := Fr.snoc X56 N0 ge_b54
    obtain ⟨cl_a57, Ar_a57, q_a57, S_a57, N_a57, H_a57, G_a57⟩ := id V56
    have hin_a57 : ¬ ((1 : Int32) < 0 ∨ cl_a57.slots.size ≤ ((1 : Int32)).toNatClampNeg) := inb_of S_a57 ⟨by decide, by decide⟩
    obtain ⟨T58, h58, X58, e58, W58, st58⟩ := stB X56 hx hZ e56 Ar_a57 (j := (1 : Int32)) hin_a57 (g := (mkF m 77 #[.val (.int p0), .val (.int p1), .val (.int p2), .val (.int p3), .val (.int (3 : Int32)), .val (.int ((p0).toInt8.toInt32)), .val (.int ((p1).toInt8.toInt32)), .val (.int ((p2).toInt8.toInt32)), .unset, .unset] [(.int ((p1).toInt8.toInt32)), (.int (1 : Int32)), (.ref b54), (.ref b54)])) rfl rfl (hb hby at_77)
    have V58 : Arv Z h58 b54 k54 .byte (3 : Int32) [(.int (nar .byte ((p0).toInt8.toInt32))), (.int (nar .byte ((p1).toInt8.toInt32))), (.int (0 : Int32))] (.int (0 : Int32)) := Arv.set Ar_a57 q_a57 S_a57 N_a57 H_a57 G_a57 (fits_nar_byte _) W58 1 rfl (Nat.le_of_ble_eq_true rfl)
    have N58 := Fr.snoc X58 N56 ge_b54
    obtain ⟨cl_a59, Ar_a59, q_a59, S_a59, N_a59, H_a59, G_a59⟩ := id V58
    have hin_a59 : ¬ ((2 : Int32) < 0 ∨ cl_a59.slots.size ≤ ((2 : Int32)).toNatClampNeg) := inb_of S_a59 ⟨by decide, by decide⟩
    obtain ⟨T60, h60, X60, e60, W60, st60⟩ := stB X58 hx hZ e58 Ar_a59 (j := (2 : Int32)) hin_a59 (g := (mkF m 82 #[.val (.int p0), .val (.int p1), .val (.int p2), .val (.int p3), .val (.int (3 : Int32)), .val (.int ((p0).toInt8.toInt32)), .val (.int ((p1).toInt8.toInt32)), .val (.int ((p2).toInt8.toInt32)), .unset, .unset] [(.int ((p2).toInt8.toInt32)), (.int (2 : Int32)), (.ref b54), (.ref b54)])) rfl rfl (hb hby at_82)
    have V60 : Arv Z h60 b54 k54 .byte (3 : Int32) [(.int (nar .byte ((p0).toInt8.toInt32))), (.int (nar .byte ((p1).toInt8.toInt32))), (.int (nar .byte ((p2).toInt8.toInt32)))] (.int (0 : Int32)) := Arv.set Ar_a59 q_a59 S_a59 N_a59 H_a59 G_a59 (fits_nar_byte _) W60 2 rfl (Nat.le_of_ble_eq_true rfl)
    have N60 := Fr.snoc X60 N58 ge_b54
    have P61 : ∀ t, Steps p.tables e below (T60.setTop (mkF m 85 #[.val (.int p0), .val (.int p1), .val (.int p2), .val (.int p3), .val (.int (3 : Int32)), .val (.int ((p0).toInt8.toInt32)), .val (.int ((p1).toInt8.toInt32)), .val (.int ((p2).toInt8.toInt32)), .val (.ref b54), .unset] [])) t → Steps p.tables e below (s₁.setTop (entryFrame m #[(.int p0), (.int p1), (.int p2), (.int p3)] maxLocals)) t := by
      intro t kk
      refine P53 _ ?_
      show Steps p.tables e below (s₁.setTop (mkF m 10 #[.val (.int p0), .val (.int p1), .val (.int p2), .val (.int p3), .val (.int (3 : Int32)), .unset, .unset, .unset, .unset, .unset] [])) _
      refine XS.iloadN X0.here hx rfl (hb hby at_10) rfl ?_
      show Steps p.tables e below (s₁.setTop (mkF m 11 #[.val (.int p0), .val (.int p1), .val (.int p2), .val (.int p3), .val (.int (3 : Int32)), .unset, .unset, .unset, .unset, .unset] [(.int p0)])) _
      refine XS.i2b X0.here hx rfl (hb hby at_11) rfl ?_
      show Steps p.tables e below (s₁.setTop (mkF m 12 #[.val (.int p0), .val (.int p1), .val (.int p2), .val (.int p3), .val (.int (3 : Int32)), .unset, .unset, .unset, .unset, .unset] [(.int ((p0).toInt8.toInt32))])) _
      refine XS.istore X0.here hx rfl (hb hby at_12) rfl (l' := #[.val (.int p0), .val (.int p1), .val (.int p2), .val (.int p3), .val (.int (3 : Int32)), .val (.int ((p0).toInt8.toInt32)), .unset, .unset, .unset, .unset]) rfl ?_
      show Steps p.tables e below (s₁.setTop (mkF m 14 #[.val (.int p0), .val (.int p1), .val (.int p2), .val (.int p3), .val (.int (3 : Int32)), .val (.int ((p0).toInt8.toInt32)), .unset, .unset, .unset, .unset] [])) _
      refine XS.iloadN X0.here hx rfl (hb hby at_14) rfl ?_
      show Steps p.tables e below (s₁.setTop (mkF m 15 #[.val (.int p0), .val (.int p1), .val (.int p2), .val (.int p3), .val (.int (3 : Int32)), .val (.int ((p0).toInt8.toInt32)), .unset, .unset, .unset, .unset] [(.int p1)])) _
      refine XS.i2b X0.here hx rfl (hb hby at_15) rfl ?_
      show Steps p.tables e below (s₁.setTop (mkF m 16 #[.val (.int p0), .val (.int p1), .val (.int p2), .val (.int p3), .val (.int (3 : Int32)), .val (.int ((p0).toInt8.toInt32)), .unset, .unset, .unset, .unset] [(.int ((p1).toInt8.toInt32))])) _
      refine XS.istore X0.here hx rfl (hb hby at_16) rfl (l' := #[.val (.int p0), .val (.int p1), .val (.int p2), .val (.int p3), .val (.int (3 : Int32)), .val (.int ((p0).toInt8.toInt32)), .val (.int ((p1).toInt8.toInt32)), .unset, .unset, .unset]) rfl ?_
      show Steps p.tables e below (s₁.setTop (mkF m 18 #[.val (.int p0), .val (.int p1), .val (.int p2), .val (.int p3), .val (.int (3 : Int32)), .val (.int ((p0).toInt8.toInt32)), .val (.int ((p1).toInt8.toInt32)), .unset, .unset, .unset] [])) _
      refine XS.iloadN X0.here hx rfl (hb hby at_18) rfl ?_
      show Steps p.tables e below (s₁.setTop (mkF m 19 #[.val (.int p0), .val (.int p1), .val (.int p2), .val (.int p3), .val (.int (3 : Int32)), .val (.int ((p0).toInt8.toInt32)), .val (.int ((p1).toInt8.toInt32)), .unset, .unset, .unset] [(.int p2)])) _
      refine XS.i2b X0.here hx rfl (hb hby at_19) rfl ?_
      show Steps p.tables e below (s₁.setTop (mkF m 20 #[.val (.int p0), .val (.int p1), .val (.int p2), .val (.int p3), .val (.int (3 : Int32)), .val (.int ((p0).toInt8.toInt32)), .val (.int ((p1).toInt8.toInt32)), .unset, .unset, .unset] [(.int ((p2).toInt8.toInt32))])) _
      refine XS.istore X0.here hx rfl (hb hby at_20) rfl (l' := #[.val (.int p0), .val (.int p1), .val (.int p2), .val (.int p3), .val (.int (3 : Int32)), .val (.int ((p0).toInt8.toInt32)), .val (.int ((p1).toInt8.toInt32)), .val (.int ((p2).toInt8.toInt32)), .unset, .unset]) rfl ?_
      show Steps p.tables e below (s₁.setTop (mkF m 22 #[.val (.int p0), .val (.int p1), .val (.int p2), .val (.int p3), .val (.int (3 : Int32)), .val (.int ((p0).toInt8.toInt32)), .val (.int ((p1).toInt8.toInt32)), .val (.int ((p2).toInt8.toInt32)), .unset, .unset] [])) _
      refine XS.iload X0.here hx rfl (hb hby at_22) rfl ?_
      show Steps p.tables e below (s₁.setTop (mkF m 24 #[.val (.int p0), .val (.int p1), .val (.int p2), .val (.int p3), .val (.int (3 : Int32)), .val (.int ((p0).toInt8.toInt32)), .val (.int ((p1).toInt8.toInt32)), .val (.int ((p2).toInt8.toInt32)), .unset, .unset] [(.int (3 : Int32))])) _
      refine XS.iconst X0.here hx rfl (hb hby at_24) ?_
      show Steps p.tables e below (s₁.setTop (mkF m 25 #[.val (.int p0), .val (.int p1), .val (.int p2), .val (.int p3), .val (.int (3 : Int32)), .val (.int ((p0).toInt8.toInt32)), .val (.int ((p1).toInt8.toInt32)), .val (.int ((p2).toInt8.toInt32)), .unset, .unset] [(.int (1 : Int32)), (.int (3 : Int32))])) _
      refine XS.icmpYes X0.here hx rfl (pc0 := 25) (pc' := 41) rfl (hb hby at_25) rfl (XT.ii_ne_t (by decide)) (by decide) (by decide) ?_
      show Steps p.tables e below (s₁.setTop (mkF m 41 #[.val (.int p0), .val (.int p1), .val (.int p2), .val (.int p3), .val (.int (3 : Int32)), .val (.int ((p0).toInt8.toInt32)), .val (.int ((p1).toInt8.toInt32)), .val (.int ((p2).toInt8.toInt32)), .unset, .unset] [])) _
      refine XS.iload X0.here hx rfl (hb hby at_41) rfl ?_
      show Steps p.tables e below (s₁.setTop (mkF m 43 #[.val (.int p0), .val (.int p1), .val (.int p2), .val (.int p3), .val (.int (3 : Int32)), .val (.int ((p0).toInt8.toInt32)), .val (.int ((p1).toInt8.toInt32)), .val (.int ((p2).toInt8.toInt32)), .unset, .unset] [(.int (3 : Int32))])) _
      refine XS.iconst X0.here hx rfl (hb hby at_43) ?_
      show Steps p.tables e below (s₁.setTop (mkF m 44 #[.val (.int p0), .val (.int p1), .val (.int p2), .val (.int p3), .val (.int (3 : Int32)), .val (.int ((p0).toInt8.toInt32)), .val (.int ((p1).toInt8.toInt32)), .val (.int ((p2).toInt8.toInt32)), .unset, .unset] [(.int (2 : Int32)), (.int (3 : Int32))])) _
      refine XS.icmpYes X0.here hx rfl (pc0 := 44) (pc' := 65) rfl (hb hby at_44) rfl (XT.ii_ne_t (by decide)) (by decide) (by decide) ?_
      show Steps p.tables e below (s₁.setTop (mkF m 65 #[.val (.int p0), .val (.int p1), .val (.int p2), .val (.int p3), .val (.int (3 : Int32)), .val (.int ((p0).toInt8.toInt32)), .val (.int ((p1).toInt8.toInt32)), .val (.int ((p2).toInt8.toInt32)), .unset, .unset] [])) _
      refine XS.iconst X0.here hx rfl (hb hby at_65) ?_
      show Steps p.tables e below (s₁.setTop (mkF m 66 #[.val (.int p0), .val (.int p1), .val (.int p2), .val (.int p3), .val (.int (3 : Int32)), .val (.int ((p0).toInt8.toInt32)), .val (.int ((p1).toInt8.toInt32)), .val (.int ((p2).toInt8.toInt32)), .unset, .unset] [(.int (3 : Int32))])) _
      refine st54 _ ?_
      show Steps p.tables e below (T54.setTop (mkF m 68 #[.val (.int p0), .val (.int p1), .val (.int p2), .val (.int p3), .val (.int (3 : Int32)), .val (.int ((p0).toInt8.toInt32)), .val (.int ((p1).toInt8.toInt32)), .val (.int ((p2).toInt8.toInt32)), .unset, .unset] [(.ref b54)])) _
      refine XS.dup X54.here hx rfl (hb hby at_68) rfl rfl ?_
      show Steps p.tables e below (T54.setTop (mkF m 69 #[.val (.int p0), .val (.int p1), .val (.int p2), .val (.int p3), .val (.int (3 : Int32)), .val (.int ((p0).toInt8.toInt32)), .val (.int ((p1).toInt8.toInt32)), .val (.int ((p2).toInt8.toInt32)), .unset, .unset] [(.ref b54), (.ref b54)])) _
      refine XS.iconst X54.here hx rfl (hb hby at_69) ?_
      show Steps p.tables e below (T54.setTop (mkF m 70 #[.val (.int p0), .val (.int p1), .val (.int p2), .val (.int p3), .val (.int (3 : Int32)), .val (.int ((p0).toInt8.toInt32)), .val (.int ((p1).toInt8.toInt32)), .val (.int ((p2).toInt8.toInt32)), .unset, .unset] [(.int (0 : Int32)), (.ref b54), (.ref b54)])) _
      refine XS.iload X54.here hx rfl (hb hby at_70) rfl ?_
      show Steps p.tables e below (T54.setTop (mkF m 72 #[.val (.int p0), .val (.int p1), .val (.int p2), .val (.int p3), .val (.int (3 : Int32)), .val (.int ((p0).toInt8.toInt32)), .val (.int ((p1).toInt8.toInt32)), .val (.int ((p2).toInt8.toInt32)), .unset, .unset] [(.int ((p0).toInt8.toInt32)), (.int (0 : Int32)), (.ref b54), (.ref b54)])) _
      refine st56 _ ?_
      show Steps p.tables e below (T56.setTop (mkF m 73 #[.val (.int p0), .val (.int p1), .val (.int p2), .val (.int p3), .val (.int (3 : Int32)), .val (.int ((p0).toInt8.toInt32)), .val (.int ((p1).toInt8.toInt32)), .val (.int ((p2).toInt8.toInt32)), .unset, .unset] [(.ref b54)])) _
      refine XS.dup X56.here hx rfl (hb hby at_73) rfl rfl ?_
      show Steps p.tables e below (T56.setTop (mkF m 74 #[.val (.int p0), .val (.int p1), .val (.int p2), .val (.int p3), .val (.int (3 : Int32)), .val (.int ((p0).toInt8.toInt32)), .val (.int ((p1).toInt8.toInt32)), .val (.int ((p2).toInt8.toInt32)), .unset, .unset] [(.ref b54), (.ref b54)])) _
      refine XS.iconst X56.here hx rfl (hb hby at_74) ?_
      show Steps p.tables e below (T56.setTop (mkF m 75 #[.val (.int p0), .val (.int p1), .val (.int p2), .val (.int p3), .val (.int (3 : Int32)), .val (.int ((p0).toInt8.toInt32)), .val (.int ((p1).toInt8.toInt32)), .val (.int ((p2).toInt8.toInt32)), .unset, .unset] [(.int (1 : Int32)), (.ref b54), (.ref b54)])) _
      refine XS.iload X56.here hx rfl (hb hby at_75) rfl ?_
      show Steps p.tables e below (T56.setTop (mkF m 77 #[.val (.int p0), .val (.int p1), .val (.int p2), .val (.int p3), .val (.int (3 : Int32)), .val (.int ((p0).toInt8.toInt32)), .val (.int ((p1).toInt8.toInt32)), .val (.int ((p2).toInt8.toInt32)), .unset, .unset] [(.int ((p1).toInt8.toInt32)), (.int (1 : Int32)), (.ref b54), (.ref b54)])) _
      refine st58 _ ?_
      show Steps p.tables e below (T58.setTop (mkF m 78 #[.val (.int p0), .val (.int p1), .val (.int p2), .val (.int p3), .val (.int (3 : Int32)), .val (.int ((p0).toInt8.toInt32)), .val (.int ((p1).toInt8.toInt32)), .val (.int ((p2).toInt8.toInt32)), .unset, .unset] [(.ref b54)])) _
      refine XS.dup X58.here hx rfl (hb hby at_78) rfl rfl ?_
      show Steps p.tables e below (T58.setTop (mkF m 79 #[.val (.int p0), .val (.int p1), .val (.int p2), .val (.int p3), .val (.int (3 : Int32)), .val (.int ((p0).toInt8.toInt32)), .val (.int ((p1).toInt8.toInt32)), .val (.int ((p2).toInt8.toInt32)), .unset, .unset] [(.ref b54), (.ref b54)])) _
      refine XS.iconst X58.here hx rfl (hb hby at_79) ?_
      show Steps p.tables e below (T58.setTop (mkF m 80 #[.val (.int p0), .val (.int p1), .val (.int p2), .val (.int p3), .val (.int (3 : Int32)), .val (.int ((p0).toInt8.toInt32)), .val (.int ((p1).toInt8.toInt32)), .val (.int ((p2).toInt8.toInt32)), .unset, .unset] [(.int (2 : Int32)), (.ref b54), (.ref b54)])) _
      refine XS.iload X58.here hx rfl (hb hby at_80) rfl ?_
      show Steps p.tables e below (T58.setTop (mkF m 82 #[.val (.int p0), .val (.int p1), .val (.int p2), .val (.int p3), .val (.int (3 : Int32)), .val (.int ((p0).toInt8.toInt32)), .val (.int ((p1).toInt8.toInt32)), .val (.int ((p2).toInt8.toInt32)), .unset, .unset] [(.int ((p2).toInt8.toInt32)), (.int (2 : Int32)), (.ref b54), (.ref b54)])) _
      refine st60 _ ?_
      show Steps p.tables e below (T60.setTop (mkF m 83 #[.val (.int p0), .val (.int p1), .val (.int p2), .val (.int p3), .val (.int (3 : Int32)), .val (.int ((p0).toInt8.toInt32)), .val (.int ((p1).toInt8.toInt32)), .val (.int ((p2).toInt8.toInt32)), .unset, .unset] [(.ref b54)])) _
      refine XS.astore X60.here hx rfl (hb hby at_83) rfl rfl (l' := #[.val (.int p0), .val (.int p1), .val (.int p2), .val (.int p3), .val (.int (3 : Int32)), .val (.int ((p0).toInt8.toInt32)), .val (.int ((p1).toInt8.toInt32)), .val (.int ((p2).toInt8.toInt32)), .val (.ref b54), .unset]) rfl ?_
      show Steps p.tables e below (T60.setTop (mkF m 85 #[.val (.int p0), .val (.int p1), .val (.int p2), .val (.int p3), .val (.int (3 : Int32)), .val (.int ((p0).toInt8.toInt32)), .val (.int ((p1).toInt8.toInt32)), .val (.int ((p2).toInt8.toInt32)), .val (.ref b54), .unset] [])) _
      exact kk
    obtain ⟨T62, h62, X62, e62, E62, A62, D62, -, st62⟩ := newO X60 hx hZ hown (hw _ (List.mem_of_getElem? (i := 2) rfl)) (hw _ (List.mem_of_getElem? (i := 3) rfl)) (hw _ (List.mem_of_getElem? (i := 4) rfl)) e60 (g := (mkF m 85 #[.val (.int p0), .val (.int p1), .val (.int p2), .val (.int p3), .val (.int (3 : Int32)), .val (.int ((p0).toInt8.toInt32)), .val (.int ((p1).toInt8.toInt32)), .val (.int ((p2).toInt8.toInt32)), .val (.ref b54), .unset] [])) rfl (hb hby at_85) (by decide) (by decide)
    have z63 : n0 ≤ _ := (Nat.le_trans (Nat.le_trans (Nat.le_trans (Nat.le_trans Z0 E54.1) (Keep.of_wr W56).1) (Keep.of_wr W58).1) (Keep.of_wr W60).1)
    have k64 : Keep h0 h60 [] := (Keep.wr (Keep.wr (Keep.wr (Keep.ext (Keep.refl h0 []) E54) W56 (Or.inr sz_b54)) W58 (Or.inr sz_b54)) W60 (Or.inr sz_b54))
    obtain ⟨b62, g_b62⟩ : ∃ z, z = h60.size := ⟨_, rfl⟩
    rw [← g_b62] at A62 D62 st62
    have ne_b54_b62 : b54 ≠ b62 := Nat.ne_of_lt (Nat.lt_of_lt_of_le V60.lt (Nat.le_of_eq g_b62.symm))
    have ge_b62 : n0 ≤ b62 := Nat.le_trans z63 (Nat.le_of_eq g_b62.symm)
    have sz_b62 : h0.size ≤ b62 := Nat.le_trans k64.1 (Nat.le_of_eq g_b62.symm)
    have F62_36 : Fld Z h62 b62 "com/example/meterwright/meterwright/RecordBody$Reader" "texts" "Ljava/util/List;" .null := D62 (Or.inr (hw _ (List.mem_of_getElem? (i := 36) rfl))) (ty := (.object "java/util/List")) (by decide)
    have F62_38 : Fld Z h62 b62 "com/example/meterwright/meterwright/RecordBody$Reader" "bytes" "[B" .null := D62 (Or.inr (hw _ (List.mem_of_getElem? (i := 38) rfl))) (ty := (.array .byte)) (by decide)
    have F62_45 : Fld Z h62 b62 "com/example/meterwright/meterwright/RecordBody$Reader" "position" "I" (.int (0 : Int32)) := D62 (Or.inl (hw _ (List.mem_of_getElem? (i := 45) rfl))) (ty := .int) (by decide)
    have f66 := (Sta.ext E62 (Sta.wr W60 (Sta.wr W58 (Sta.wr W56 (Sta.ext E54 pr0)))))
    have z67 : n0 ≤ _ := (Nat.le_trans z63 E62.1)
    obtain ⟨_, _, ⟨T65, L65, k65, n65⟩, -, X65, ⟨Lc65, hQ65, l65, y65, z65⟩, st65⟩ := X62.specialBack hx (y := (⟨"com/example/meterwright/meterwright/RecordBody$Reader", "<init>", "([B)V"⟩ : MethodName)) rfl hown (mvT hZ (hw _ (List.mem_of_getElem? (i := 5) rfl))) (mvT hZ (hw _ (List.mem_of_getElem? (i := 6) rfl))) (mvT hZ (hw _ (List.mem_of_getElem? (i := 7) rfl))) (by decide) (backOf (W := 1) (rm4 l Z a0 hw [] b62 b54 sd h62 n0 z67 A62 F62_36 F62_38 F62_45 ge_b62 f66) hZ (hw _ (List.mem_of_getElem? (i := 7) rfl)) (hw _ (List.mem_of_getElem? (i := 4) rfl)) (by decide) (by decide)) (g := (mkF m 91 #[.val (.int p0), .val (.int p1), .val (.int p2), .val (.int p3), .val (.int (3 : Int32)), .val (.int ((p0).toInt8.toInt32)), .val (.int ((p1).toInt8.toInt32)), .val (.int ((p2).toInt8.toInt32)), .val (.ref b54), .unset] [(.ref b54), (.ref b62), (.ref b62)])) rfl (by rw [hml]; rfl) (Steps.refl _) (a := b62) (argsL := [(.ref b54)]) (rest := [(.ref b62)]) (lenOf pd_1 rfl) rfl (by show 2 * 0 + _ ≤ _; exact Nat.le_of_eq rfl) (hb hby at_91) (fun _ _ => ⟨rfl, e62, (by decide : 2 + 1 ≤ _), (by decide : 7 + 3 ≤ _)⟩)
    dsimp only [Pt.U, Pt.locs, Pt.cells, Pt.slots] at X65 l65 y65 z65 st65 hQ65
    subst l65 y65 z65
    obtain ⟨rfl, Nq65, K65, q65_0, q65_1⟩ := hQ65
    have N65 := Fr.app N60 Nq65
    have f69 := (Arv.keep (V60.ext E62) K65 (ninS ne_b54_b62 nin0))
    have z70 : n0 ≤ _ := (Nat.le_trans z67 K65.1)
    have f71 := (Exa.keep A62 K65)
    obtain ⟨cq68, kq68, q68a, q68b, q68c⟩ := isOf hZ rfl f71
    obtain ⟨_, _, ⟨T68, L68, k68, n68⟩, -, X68, ⟨Lc68, hQ68, l68, y68, z68⟩, st68⟩ := X65.virtualBack hx (y := (⟨"com/example/meterwright/meterwright/RecordBody$Reader", "atEnd", "()Z"⟩ : MethodName)) (z := (⟨"com/example/meterwright/meterwright/RecordBody$Reader", "atEnd", "()Z"⟩ : MethodName)) hown (mvT hZ (hw _ (List.mem_of_getElem? (i := 39) rfl))) (mvT hZ (hw _ (List.mem_of_getElem? (i := 40) rfl))) (notFace_of_selects (args := #[]) (mvT hZ (hw _ (List.mem_of_getElem? (i := 42) rfl)))) (mvT hZ (hw _ (List.mem_of_getElem? (i := 42) rfl))) (mvT hZ (hw _ (List.mem_of_getElem? (i := 41) rfl))) (by decide) (backOf (W := 0) (rm5 l Z a0 hw [] b62 (0 : Int32) b54 k54 (3 : Int32) [(.int (nar .byte ((p0).toInt8.toInt32))), (.int (nar .byte ((p1).toInt8.toInt32))), (.int (nar .byte ((p2).toInt8.toInt32)))] (.int (0 : Int32)) T65.heap n0 z70 q65_1 q65_0 f69) hZ (hw _ (List.mem_of_getElem? (i := 43) rfl)) (hw _ (List.mem_of_getElem? (i := 4) rfl)) (by decide) (by decide)) q68a q68c (g := (mkF m 98 #[.val (.int p0), .val (.int p1), .val (.int p2), .val (.int p3), .val (.int (3 : Int32)), .val (.int ((p0).toInt8.toInt32)), .val (.int ((p1).toInt8.toInt32)), .val (.int ((p2).toInt8.toInt32)), .val (.ref b54), .val (.ref b62)] [(.ref b62)])) rfl (by rw [hml]; rfl) (Steps.refl _) (argsL := []) (rest := []) (lenOf pd_2 rfl) rfl (by show 2 * 0 + _ ≤ _; exact Nat.le_of_eq rfl) (hb hby at_98) (fun _ _ => ⟨rfl, rfl, (by decide : 3 + 0 ≤ _), (by decide : 10 + 0 ≤ _)⟩)
    dsimp only [Pt.U, Pt.locs, Pt.cells, Pt.slots] at X68 l68 y68 z68 st68 hQ68
    subst l68 y68 z68
    obtain ⟨rfl, Nq68, e68⟩ := hQ68
    have N68 := Fr.app N65 Nq68
    obtain ⟨cq72, kq72, q72a, q72b, q72c⟩ := isOf hZ e68 f71
    obtain ⟨_, _, ⟨T72, L72, k72, n72⟩, -, X72, ⟨Lc72, hQ72, l72, y72, z72⟩, st72⟩ := X68.virtualBack hx (y := (⟨"com/example/meterwright/meterwright/RecordBody$Reader", "kind", "()B"⟩ : MethodName)) (z := (⟨"com/example/meterwright/meterwright/RecordBody$Reader", "kind", "()B"⟩ : MethodName)) hown (mvT hZ (hw _ (List.mem_of_getElem? (i := 46) rfl))) (mvT hZ (hw _ (List.mem_of_getElem? (i := 47) rfl))) (notFace_of_selects (args := #[]) (mvT hZ (hw _ (List.mem_of_getElem? (i := 49) rfl)))) (mvT hZ (hw _ (List.mem_of_getElem? (i := 49) rfl))) (mvT hZ (hw _ (List.mem_of_getElem? (i := 48) rfl))) (by decide) (backOf (W := 0) (rm6 l Z a0 hw [] b62 (0 : Int32) b54 k54 (3 : Int32) [(.int (nar .byte ((p0).toInt8.toInt32))), (.int (nar .byte ((p1).toInt8.toInt32))), (.int (nar .byte ((p2).toInt8.toInt32)))] (.int (0 : Int32)) (nar .byte ((p0).toInt8.toInt32)) T65.heap n0 z70 f71 q65_1 q65_0 f69 ge_b62 ne_b54_b62 ⟨by decide, by decide⟩ rfl) hZ (hw _ (List.mem_of_getElem? (i := 50) rfl)) (hw _ (List.mem_of_getElem? (i := 4) rfl)) (by decide) (by decide)) q72a q72c (g := (mkF m 108 #[.val (.int p0), .val (.int p1), .val (.int p2), .val (.int p3), .val (.int (3 : Int32)), .val (.int ((p0).toInt8.toInt32)), .val (.int ((p1).toInt8.toInt32)), .val (.int ((p2).toInt8.toInt32)), .val (.ref b54), .val (.ref b62)] [(.ref b62)])) rfl (by rw [hml]; rfl) (Steps.refl _) (argsL := []) (rest := []) (lenOf pd_3 rfl) rfl (by show 2 * 0 + _ ≤ _; exact Nat.le_of_eq rfl) (hb hby at_108) (fun _ _ => ⟨rfl, e68, (by decide : 3 + 0 ≤ _), (by decide : 10 + 0 ≤ _)⟩)
    dsimp only [Pt.U, Pt.locs, Pt.cells, Pt.slots] at X72 l72 y72 z72 st72 hQ72
    subst l72 y72 z72
    obtain ⟨rfl, Nq72, K72, q72_0, q72_1⟩ := hQ72
    have N72 := Fr.app N68 Nq72
    have q72_0' : Fld Z T72.heap b62 "com/example/meterwright/meterwright/RecordBody$Reader" "position" "I" (.int (1 : Int32)) := q72_0
    have f74 := (Arv.keep f69 K72 (ninS ne_b54_b62 nin0))
    have z75 : n0 ≤ _ := (Nat.le_trans z70 K72.1)
    have f76 := (Exa.keep f71 K72)
    obtain ⟨cq73, kq73, q73a, q73b, q73c⟩ := isOf hZ rfl f76
    obtain ⟨_, _, ⟨T73, L73, k73, n73⟩, -, X73, ⟨Lc73, hQ73, l73, y73, z73⟩, st73⟩ := X72.virtualBack hx (y := (⟨"com/example/meterwright/meterwright/RecordBody$Reader", "atEnd", "()Z"⟩ : MethodName)) (z := (⟨"com/example/meterwright/meterwright/RecordBody$Reader", "atEnd", "()Z"⟩ : MethodName)) hown (mvT hZ (hw _ (List.mem_of_getElem? (i := 39) rfl))) (mvT hZ (hw _ (List.mem_of_getElem? (i := 40) rfl))) (notFace_of_selects (args := #[]) (mvT hZ (hw _ (List.mem_of_getElem? (i := 42) rfl)))) (mvT hZ (hw _ (List.mem_of_getElem? (i := 42) rfl))) (mvT hZ (hw _ (List.mem_of_getElem? (i := 41) rfl))) (by decide) (backOf (W := 0) (rm5 l Z a0 hw [] b62 (1 : Int32) b54 k54 (3 : Int32) [(.int (nar .byte ((p0).toInt8.toInt32))), (.int (nar .byte ((p1).toInt8.toInt32))), (.int (nar .byte ((p2).toInt8.toInt32)))] (.int (0 : Int32)) T72.heap n0 z75 q72_0' q72_1 f74) hZ (hw _ (List.mem_of_getElem? (i := 43) rfl)) (hw _ (List.mem_of_getElem? (i := 4) rfl)) (by decide) (by decide)) q73a q73c (g := (mkF m 120 #[.val (.int p0), .val (.int p1), .val (.int p2), .val (.int p3), .val (.int (3 : Int32)), .val (.int ((p0).toInt8.toInt32)), .val (.int ((p1).toInt8.toInt32)), .val (.int ((p2).toInt8.toInt32)), .val (.ref b54), .val (.ref b62)] [(.ref b62)])) rfl (by rw [hml]; rfl) (Steps.refl _) (argsL := []) (rest := []) (lenOf pd_2 rfl) rfl (by show 2 * 0 + _ ≤ _; exact Nat.le_of_eq rfl) (hb hby at_120) (fun _ _ => ⟨rfl, rfl, (by decide : 3 + 0 ≤ _), (by decide : 10 + 0 ≤ _)⟩)
    dsimp only [Pt.U, Pt.locs, Pt.cells, Pt.slots] at X73 l73 y73 z73 st73 hQ73
    subst l73 y73 z73
    obtain ⟨rfl, Nq73, e73⟩ := hQ73
    have N73 := Fr.app N72 Nq73
    obtain ⟨cq77, kq77, q77a, q77b, q77c⟩ := isOf hZ e73 f76
    obtain ⟨_, _, ⟨T77, L77, k77, n77⟩, -, X77, ⟨Lc77, hQ77, l77, y77, z77⟩, st77⟩ := X73.virtualBack hx (y := (⟨"com/example/meterwright/meterwright/RecordBody$Reader", "kind", "()B"⟩ : MethodName)) (z := (⟨"com/example/meterwright/meterwright/RecordBody$Reader", "kind", "()B"⟩ : MethodName)) hown (mvT hZ (hw _ (List.mem_of_getElem? (i := 46) rfl))) (mvT hZ (hw _ (List.mem_of_getElem? (i := 47) rfl))) (notFace_of_selects (args := #[]) (mvT hZ (hw _ (List.mem_of_getElem? (i := 49) rfl)))) (mvT hZ (hw _ (List.mem_of_getElem? (i := 49) rfl))) (mvT hZ (hw _ (List.mem_of_getElem? (i := 48) rfl))) (by decide) (backOf (W := 0) (rm6 l Z a0 hw [] b62 (1 : Int32) b54 k54 (3 : Int32) [(.int (nar .byte ((p0).toInt8.toInt32))), (.int (nar .byte ((p1).toInt8.toInt32))), (.int (nar .byte ((p2).toInt8.toInt32)))] (.int (0 : Int32)) (nar .byte ((p1).toInt8.toInt32)) T72.heap n0 z75 f76 q72_0' q72_1 f74 ge_b62 ne_b54_b62 ⟨by decide, by decide⟩ rfl) hZ (hw _ (List.mem_of_getElem? (i := 50) rfl)) (hw _ (List.mem_of_getElem? (i := 4) rfl)) (by decide) (by decide)) q77a q77c (g := (mkF m 149 #[.val (.int p0), .val (.int p1), .val (.int p2), .val (.int p3), .val (.int (3 : Int32)), .val (.int ((p0).toInt8.toInt32)), .val (.int ((p1).toInt8.toInt32)), .val (.int ((p2).toInt8.toInt32)), .val (.ref b54), .val (.ref b62)] [(.ref b62)])) rfl (by rw [hml]; rfl) (Steps.refl _) (argsL := []) (rest := []) (lenOf pd_3 rfl) rfl (by show 2 * 0 + _ ≤ _; exact Nat.le_of_eq rfl) (hb hby at_149) (fun _ _ => ⟨rfl, e73, (by decide : 3 + 0 ≤ _), (by decide : 10 + 0 ≤ _)⟩)
    dsimp only [Pt.U, Pt.locs, Pt.cells, Pt.slots] at X77 l77 y77 z77 st77 hQ77
    subst l77 y77 z77
    obtain ⟨rfl, Nq77, K77, q77_0, q77_1⟩ := hQ77
    have N77 := Fr.app N73 Nq77
    have q77_0' : Fld Z T77.heap b62 "com/example/meterwright/meterwright/RecordBody$Reader" "position" "I" (.int (2 : Int32)) := q77_0
    have f79 := (Arv.keep f74 K77 (ninS ne_b54_b62 nin0))
    have z80 : n0 ≤ _ := (Nat.le_trans z75 K77.1)
    have f81 := (Exa.keep f76 K77)
    obtain ⟨cq78, kq78, q78a, q78b, q78c⟩ := isOf hZ rfl f81
    obtain ⟨_, _, ⟨T78, L78, k78, n78⟩, -, X78, ⟨Lc78, hQ78, l78, y78, z78⟩, st78⟩ := X77.virtualBack hx (y := (⟨"com/example/meterwright/meterwright/RecordBody$Reader", "atEnd", "()Z"⟩ : MethodName)) (z := (⟨"com/example/meterwright/meterwright/RecordBody$Reader", "atEnd", "()Z"⟩ : MethodName)) hown (mvT hZ (hw _ (List.mem_of_getElem? (i := 39) rfl))) (mvT hZ (hw _ (List.mem_of_getElem? (i := 40) rfl))) (notFace_of_selects (args := #[]) (mvT hZ (hw _ (List.mem_of_getElem? (i := 42) rfl)))) (mvT hZ (hw _ (List.mem_of_getElem? (i := 42) rfl))) (mvT hZ (hw _ (List.mem_of_getElem? (i := 41) rfl))) (by decide) (backOf (W := 0) (rm5 l Z a0 hw [] b62 (2 : Int32) b54 k54 (3 : Int32) [(.int (nar .byte ((p0).toInt8.toInt32))), (.int (nar .byte ((p1).toInt8.toInt32))), (.int (nar .byte ((p2).toInt8.toInt32)))] (.int (0 : Int32)) T77.heap n0 z80 q77_0' q77_1 f79) hZ (hw _ (List.mem_of_getElem? (i := 43) rfl)) (hw _ (List.mem_of_getElem? (i := 4) rfl)) (by decide) (by decide)) q78a q78c (g := (mkF m 161 #[.val (.int p0), .val (.int p1), .val (.int p2), .val (.int p3), .val (.int (3 : Int32)), .val (.int ((p0).toInt8.toInt32)), .val (.int ((p1).toInt8.toInt32)), .val (.int ((p2).toInt8.toInt32)), .val (.ref b54), .val (.ref b62)] [(.ref b62)])) rfl (by rw [hml]; rfl) (Steps.refl _) (argsL := []) (rest := []) (lenOf pd_2 rfl) rfl (by show 2 * 0 + _ ≤ _; exact Nat.le_of_eq rfl) (hb hby at_161) (fun _ _ => ⟨rfl, rfl, (by decide : 3 + 0 ≤ _), (by decide : 10 + 0 ≤ _)⟩)
    dsimp only [Pt.U, Pt.locs, Pt.cells, Pt.slots] at X78 l78 y78 z78 st78 hQ78
    subst l78 y78 z78
    obtain ⟨rfl, Nq78, e78⟩ := hQ78
    have N78 := Fr.app N77 Nq78
    have P82 : ∀ t, Steps p.tables e below (T78.setTop (mkF m 167 #[.val (.int p0), .val (.int p1), .val (.int p2), .val (.int p3), .val (.int (3 : Int32)), .val (.int ((p0).toInt8.toInt32)), .val (.int ((p1).toInt8.toInt32)), .val (.int ((p2).toInt8.toInt32)), .val (.ref b54), .val (.ref b62)] [(.int (2 : Int32)), (.int (3 : Int32)), (.int (F5 (2 : Int32) (3 : Int32)))])) t → Steps p.tables e below (s₁.setTop (entryFrame m #[(.int p0), (.int p1), (.int p2), (.int p3)] maxLocals)) t := by
      intro t kk
      refine P61 _ ?_
      show Steps p.tables e below (T60.setTop (mkF m 85 #[.val (.int p0), .val (.int p1), .val (.int p2), .val (.int p3), .val (.int (3 : Int32)), .val (.int ((p0).toInt8.toInt32)), .val (.int ((p1).toInt8.toInt32)), .val (.int ((p2).toInt8.toInt32)), .val (.ref b54), .unset] [])) _
      refine st62 _ ?_
      show Steps p.tables e below (T62.setTop (mkF m 88 #[.val (.int p0), .val (.int p1), .val (.int p2), .val (.int p3), .val (.int (3 : Int32)), .val (.int ((p0).toInt8.toInt32)), .val (.int ((p1).toInt8.toInt32)), .val (.int ((p2).toInt8.toInt32)), .val (.ref b54), .unset] [(.ref b62)])) _
      refine XS.dup X62.here hx rfl (hb hby at_88) rfl rfl ?_
      show Steps p.tables e below (T62.setTop (mkF m 89 #[.val (.int p0), .val (.int p1), .val (.int p2), .val (.int p3), .val (.int (3 : Int32)), .val (.int ((p0).toInt8.toInt32)), .val (.int ((p1).toInt8.toInt32)), .val (.int ((p2).toInt8.toInt32)), .val (.ref b54), .unset] [(.ref b62), (.ref b62)])) _
      refine XS.aload X62.here hx rfl (hb hby at_89) rfl rfl ?_
      show Steps p.tables e below (T62.setTop (mkF m 91 #[.val (.int p0), .val (.int p1), .val (.int p2), .val (.int p3), .val (.int (3 : Int32)), .val (.int ((p0).toInt8.toInt32)), .val (.int ((p1).toInt8.toInt32)), .val (.int ((p2).toInt8.toInt32)), .val (.ref b54), .unset] [(.ref b54), (.ref b62), (.ref b62)])) _
      refine st65.trans ?_
      show Steps p.tables e below (T65.setTop (mkF m 94 #[.val (.int p0), .val (.int p1), .val (.int p2), .val (.int p3), .val (.int (3 : Int32)), .val (.int ((p0).toInt8.toInt32)), .val (.int ((p1).toInt8.toInt32)), .val (.int ((p2).toInt8.toInt32)), .val (.ref b54), .unset] [(.ref b62)])) _
      refine XS.astore X65.here hx rfl (hb hby at_94) rfl rfl (l' := #[.val (.int p0), .val (.int p1), .val (.int p2), .val (.int p3), .val (.int (3 : Int32)), .val (.int ((p0).toInt8.toInt32)), .val (.int ((p1).toInt8.toInt32)), .val (.int ((p2).toInt8.toInt32)), .val (.ref b54), .val (.ref b62)]) rfl ?_
      show Steps p.tables e below (T65.setTop (mkF m 96 #[.val (.int p0), .val (.int p1), .val (.int p2), .val (.int p3), .val (.int (3 : Int32)), .val (.int ((p0).toInt8.toInt32)), .val (.int ((p1).toInt8.toInt32)), .val (.int ((p2).toInt8.toInt32)), .val (.ref b54), .val (.ref b62)] [])) _
      refine XS.aload X65.here hx rfl (hb hby at_96) rfl rfl ?_
      show Steps p.tables e below (T65.setTop (mkF m 98 #[.val (.int p0), .val (.int p1), .val (.int p2), .val (.int p3), .val (.int (3 : Int32)), .val (.int ((p0).toInt8.toInt32)), .val (.int ((p1).toInt8.toInt32)), .val (.int ((p2).toInt8.toInt32)), .val (.ref b54), .val (.ref b62)] [(.ref b62)])) _
      refine st68.trans ?_
      show Steps p.tables e below (T68.setTop (mkF m 101 #[.val (.int p0), .val (.int p1), .val (.int p2), .val (.int p3), .val (.int (3 : Int32)), .val (.int ((p0).toInt8.toInt32)), .val (.int ((p1).toInt8.toInt32)), .val (.int ((p2).toInt8.toInt32)), .val (.ref b54), .val (.ref b62)] [(.int (F5 (0 : Int32) (3 : Int32)))])) _
      refine XS.ifYes X68.here hx rfl (pc0 := 101) (pc' := 106) rfl (hb hby at_101) rfl (XT.i0_eq_t (by decide)) (by decide) (by decide) ?_
      show Steps p.tables e below (T68.setTop (mkF m 106 #[.val (.int p0), .val (.int p1), .val (.int p2), .val (.int p3), .val (.int (3 : Int32)), .val (.int ((p0).toInt8.toInt32)), .val (.int ((p1).toInt8.toInt32)), .val (.int ((p2).toInt8.toInt32)), .val (.ref b54), .val (.ref b62)] [])) _
      refine XS.aload X68.here hx rfl (hb hby at_106) rfl rfl ?_
      show Steps p.tables e below (T68.setTop (mkF m 108 #[.val (.int p0), .val (.int p1), .val (.int p2), .val (.int p3), .val (.int (3 : Int32)), .val (.int ((p0).toInt8.toInt32)), .val (.int ((p1).toInt8.toInt32)), .val (.int ((p2).toInt8.toInt32)), .val (.ref b54), .val (.ref b62)] [(.ref b62)])) _
      refine st72.trans ?_
      show Steps p.tables e below (T72.setTop (mkF m 111 #[.val (.int p0), .val (.int p1), .val (.int p2), .val (.int p3), .val (.int (3 : Int32)), .val (.int ((p0).toInt8.toInt32)), .val (.int ((p1).toInt8.toInt32)), .val (.int ((p2).toInt8.toInt32)), .val (.ref b54), .val (.ref b62)] [(.int (nar .byte (nar .byte ((p0).toInt8.toInt32))))])) _
      refine XS.iload X72.here hx rfl (hb hby at_111) rfl ?_
      show Steps p.tables e below (T72.setTop (mkF m 113 #[.val (.int p0), .val (.int p1), .val (.int p2), .val (.int p3), .val (.int (3 : Int32)), .val (.int ((p0).toInt8.toInt32)), .val (.int ((p1).toInt8.toInt32)), .val (.int ((p2).toInt8.toInt32)), .val (.ref b54), .val (.ref b62)] [(.int ((p0).toInt8.toInt32)), (.int (nar .byte (nar .byte ((p0).toInt8.toInt32))))])) _
      refine XS.icmpYes X72.here hx rfl (pc0 := 113) (pc' := 118) rfl (hb hby at_113) rfl (XT.ii_eq_t (own_nb _)) (by decide) (by decide) ?_
      show Steps p.tables e below (T72.setTop (mkF m 118 #[.val (.int p0), .val (.int p1), .val (.int p2), .val (.int p3), .val (.int (3 : Int32)), .val (.int ((p0).toInt8.toInt32)), .val (.int ((p1).toInt8.toInt32)), .val (.int ((p2).toInt8.toInt32)), .val (.ref b54), .val (.ref b62)] [])) _
      refine XS.aload X72.here hx rfl (hb hby at_118) rfl rfl ?_
      show Steps p.tables e below (T72.setTop (mkF m 120 #[.val (.int p0), .val (.int p1), .val (.int p2), .val (.int p3), .val (.int (3 : Int32)), .val (.int ((p0).toInt8.toInt32)), .val (.int ((p1).toInt8.toInt32)), .val (.int ((p2).toInt8.toInt32)), .val (.ref b54), .val (.ref b62)] [(.ref b62)])) _
      refine st73.trans ?_
      show Steps p.tables e below (T73.setTop (mkF m 123 #[.val (.int p0), .val (.int p1), .val (.int p2), .val (.int p3), .val (.int (3 : Int32)), .val (.int ((p0).toInt8.toInt32)), .val (.int ((p1).toInt8.toInt32)), .val (.int ((p2).toInt8.toInt32)), .val (.ref b54), .val (.ref b62)] [(.int (F5 (1 : Int32) (3 : Int32)))])) _
      refine XS.iload X73.here hx rfl (hb hby at_123) rfl ?_
      show Steps p.tables e below (T73.setTop (mkF m 125 #[.val (.int p0), .val (.int p1), .val (.int p2), .val (.int p3), .val (.int (3 : Int32)), .val (.int ((p0).toInt8.toInt32)), .val (.int ((p1).toInt8.toInt32)), .val (.int ((p2).toInt8.toInt32)), .val (.ref b54), .val (.ref b62)] [(.int (3 : Int32)), (.int (F5 (1 : Int32) (3 : Int32)))])) _
      refine XS.iconst X73.here hx rfl (hb hby at_125) ?_
      show Steps p.tables e below (T73.setTop (mkF m 126 #[.val (.int p0), .val (.int p1), .val (.int p2), .val (.int p3), .val (.int (3 : Int32)), .val (.int ((p0).toInt8.toInt32)), .val (.int ((p1).toInt8.toInt32)), .val (.int ((p2).toInt8.toInt32)), .val (.ref b54), .val (.ref b62)] [(.int (1 : Int32)), (.int (3 : Int32)), (.int (F5 (1 : Int32) (3 : Int32)))])) _
      refine XS.icmpYes X73.here hx rfl (pc0 := 126) (pc' := 133) rfl (hb hby at_126) rfl (XT.ii_ne_t (by decide)) (by decide) (by decide) ?_
      show Steps p.tables e below (T73.setTop (mkF m 133 #[.val (.int p0), .val (.int p1), .val (.int p2), .val (.int p3), .val (.int (3 : Int32)), .val (.int ((p0).toInt8.toInt32)), .val (.int ((p1).toInt8.toInt32)), .val (.int ((p2).toInt8.toInt32)), .val (.ref b54), .val (.ref b62)] [(.int (F5 (1 : Int32) (3 : Int32)))])) _
      refine XS.iconst X73.here hx rfl (hb hby at_133) ?_
      show Steps p.tables e below (T73.setTop (mkF m 134 #[.val (.int p0), .val (.int p1), .val (.int p2), .val (.int p3), .val (.int (3 : Int32)), .val (.int ((p0).toInt8.toInt32)), .val (.int ((p1).toInt8.toInt32)), .val (.int ((p2).toInt8.toInt32)), .val (.ref b54), .val (.ref b62)] [(.int (0 : Int32)), (.int (F5 (1 : Int32) (3 : Int32)))])) _
      refine XS.icmpYes X73.here hx rfl (pc0 := 134) (pc' := 139) rfl (hb hby at_134) rfl (XT.ii_eq_t (by decide)) (by decide) (by decide) ?_
      show Steps p.tables e below (T73.setTop (mkF m 139 #[.val (.int p0), .val (.int p1), .val (.int p2), .val (.int p3), .val (.int (3 : Int32)), .val (.int ((p0).toInt8.toInt32)), .val (.int ((p1).toInt8.toInt32)), .val (.int ((p2).toInt8.toInt32)), .val (.ref b54), .val (.ref b62)] [])) _
      refine XS.iload X73.here hx rfl (hb hby at_139) rfl ?_
      show Steps p.tables e below (T73.setTop (mkF m 141 #[.val (.int p0), .val (.int p1), .val (.int p2), .val (.int p3), .val (.int (3 : Int32)), .val (.int ((p0).toInt8.toInt32)), .val (.int ((p1).toInt8.toInt32)), .val (.int ((p2).toInt8.toInt32)), .val (.ref b54), .val (.ref b62)] [(.int (3 : Int32))])) _
      refine XS.iconst X73.here hx rfl (hb hby at_141) ?_
      show Steps p.tables e below (T73.setTop (mkF m 142 #[.val (.int p0), .val (.int p1), .val (.int p2), .val (.int p3), .val (.int (3 : Int32)), .val (.int ((p0).toInt8.toInt32)), .val (.int ((p1).toInt8.toInt32)), .val (.int ((p2).toInt8.toInt32)), .val (.ref b54), .val (.ref b62)] [(.int (1 : Int32)), (.int (3 : Int32))])) _
      refine XS.icmpYes X73.here hx rfl (pc0 := 142) (pc' := 147) rfl (hb hby at_142) rfl (XT.ii_ne_t (by decide)) (by decide) (by decide) ?_
      show Steps p.tables e below (T73.setTop (mkF m 147 #[.val (.int p0), .val (.int p1), .val (.int p2), .val (.int p3), .val (.int (3 : Int32)), .val (.int ((p0).toInt8.toInt32)), .val (.int ((p1).toInt8.toInt32)), .val (.int ((p2).toInt8.toInt32)), .val (.ref b54), .val (.ref b62)] [])) _
      refine XS.aload X73.here hx rfl (hb hby at_147) rfl rfl ?_
      show Steps p.tables e below (T73.setTop (mkF m 149 #[.val (.int p0), .val (.int p1), .val (.int p2), .val (.int p3), .val (.int (3 : Int32)), .val (.int ((p0).toInt8.toInt32)), .val (.int ((p1).toInt8.toInt32)), .val (.int ((p2).toInt8.toInt32)), .val (.ref b54), .val (.ref b62)] [(.ref b62)])) _
      refine st77.trans ?_
      show Steps p.tables e below (T77.setTop (mkF m 152 #[.val (.int p0), .val (.int p1), .val (.int p2), .val (.int p3), .val (.int (3 : Int32)), .val (.int ((p0).toInt8.toInt32)), .val (.int ((p1).toInt8.toInt32)), .val (.int ((p2).toInt8.toInt32)), .val (.ref b54), .val (.ref b62)] [(.int (nar .byte (nar .byte ((p1).toInt8.toInt32))))])) _
      refine XS.iload X77.here hx rfl (hb hby at_152) rfl ?_
      show Steps p.tables e below (T77.setTop (mkF m 154 #[.val (.int p0), .val (.int p1), .val (.int p2), .val (.int p3), .val (.int (3 : Int32)), .val (.int ((p0).toInt8.toInt32)), .val (.int ((p1).toInt8.toInt32)), .val (.int ((p2).toInt8.toInt32)), .val (.ref b54), .val (.ref b62)] [(.int ((p1).toInt8.toInt32)), (.int (nar .byte (nar .byte ((p1).toInt8.toInt32))))])) _
      refine XS.icmpYes X77.here hx rfl (pc0 := 154) (pc' := 159) rfl (hb hby at_154) rfl (XT.ii_eq_t (own_nb _)) (by decide) (by decide) ?_
      show Steps p.tables e below (T77.setTop (mkF m 159 #[.val (.int p0), .val (.int p1), .val (.int p2), .val (.int p3), .val (.int (3 : Int32)), .val (.int ((p0).toInt8.toInt32)), .val (.int ((p1).toInt8.toInt32)), .val (.int ((p2).toInt8.toInt32)), .val (.ref b54), .val (.ref b62)] [])) _
      refine XS.aload X77.here hx rfl (hb hby at_159) rfl rfl ?_
      show Steps p.tables e below (T77.setTop (mkF m 161 #[.val (.int p0), .val (.int p1), .val (.int p2), .val (.int p3), .val (.int (3 : Int32)), .val (.int ((p0).toInt8.toInt32)), .val (.int ((p1).toInt8.toInt32)), .val (.int ((p2).toInt8.toInt32)), .val (.ref b54), .val (.ref b62)] [(.ref b62)])) _
      refine st78.trans ?_
      show Steps p.tables e below (T78.setTop (mkF m 164 #[.val (.int p0), .val (.int p1), .val (.int p2), .val (.int p3), .val (.int (3 : Int32)), .val (.int ((p0).toInt8.toInt32)), .val (.int ((p1).toInt8.toInt32)), .val (.int ((p2).toInt8.toInt32)), .val (.ref b54), .val (.ref b62)] [(.int (F5 (2 : Int32) (3 : Int32)))])) _
      refine XS.iload X78.here hx rfl (hb hby at_164) rfl ?_
      show Steps p.tables e below (T78.setTop (mkF m 166 #[.val (.int p0), .val (.int p1), .val (.int p2), .val (.int p3), .val (.int (3 : Int32)), .val (.int ((p0).toInt8.toInt32)), .val (.int ((p1).toInt8.toInt32)), .val (.int ((p2).toInt8.toInt32)), .val (.ref b54), .val (.ref b62)] [(.int (3 : Int32)), (.int (F5 (2 : Int32) (3 : Int32)))])) _
      refine XS.iconst X78.here hx rfl (hb hby at_166) ?_
      show Steps p.tables e below (T78.setTop (mkF m 167 #[.val (.int p0), .val (.int p1), .val (.int p2), .val (.int p3), .val (.int (3 : Int32)), .val (.int ((p0).toInt8.toInt32)), .val (.int ((p1).toInt8.toInt32)), .val (.int ((p2).toInt8.toInt32)), .val (.ref b54), .val (.ref b62)] [(.int (2 : Int32)), (.int (3 : Int32)), (.int (F5 (2 : Int32) (3 : Int32)))])) _
      exact kk
    obtain ⟨cq83, kq83, q83a, q83b, q83c⟩ := isOf hZ e78 f81
    obtain ⟨_, _, ⟨T83, L83, k83, n83⟩, -, X83, ⟨Lc83, hQ83, l83, y83, z83⟩, st83⟩ := X78.virtualBack hx (y := (⟨"com/example/meterwright/meterwright/RecordBody$Reader", "kind", "()B"⟩ : MethodName)) (z := (⟨"com/example/meterwright/meterwright/RecordBody$Reader", "kind", "()B"⟩ : MethodName)) hown (mvT hZ (hw _ (List.mem_of_getElem? (i := 46) rfl))) (mvT hZ (hw _ (List.mem_of_getElem? (i := 47) rfl))) (notFace_of_selects (args := #[]) (mvT hZ (hw _ (List.mem_of_getElem? (i := 49) rfl)))) (mvT hZ (hw _ (List.mem_of_getElem? (i := 49) rfl))) (mvT hZ (hw _ (List.mem_of_getElem? (i := 48) rfl))) (by decide) (backOf (W := 0) (rm6 l Z a0 hw [] b62 (2 : Int32) b54 k54 (3 : Int32) [(.int (nar .byte ((p0).toInt8.toInt32))), (.int (nar .byte ((p1).toInt8.toInt32))), (.int (nar .byte ((p2).toInt8.toInt32)))] (.int (0 : Int32)) (nar .byte ((p2).toInt8.toInt32)) T77.heap n0 z80 f81 q77_0' q77_1 f79 ge_b62 ne_b54_b62 ⟨by decide, by decide⟩ rfl) hZ (hw _ (List.mem_of_getElem? (i := 50) rfl)) (hw _ (List.mem_of_getElem? (i := 4) rfl)) (by decide) (by decide)) q83a q83c (g := (mkF m 190 #[.val (.int p0), .val (.int p1), .val (.int p2), .val (.int p3), .val (.int (3 : Int32)), .val (.int ((p0).toInt8.toInt32)), .val (.int ((p1).toInt8.toInt32)), .val (.int ((p2).toInt8.toInt32)), .val (.ref b54), .val (.ref b62)] [(.ref b62)])) rfl (by rw [hml]; rfl) (Steps.refl _) (argsL := []) (rest := []) (lenOf pd_3 rfl) rfl (by show 2 * 0 + _ ≤ _; exact Nat.le_of_eq rfl) (hb hby at_190) (fun _ _ => ⟨rfl, e78, (by decide : 3 + 0 ≤ _), (by decide : 10 + 0 ≤ _)⟩)
    dsimp only [Pt.U, Pt.locs, Pt.cells, Pt.slots] at X83 l83 y83 z83 st83 hQ83
    subst l83 y83 z83
    obtain ⟨rfl, Nq83, K83, q83_0, q83_1⟩ := hQ83
    have N83 := Fr.app N78 Nq83
    have q83_0' : Fld Z T83.heap b62 "com/example/meterwright/meterwright/RecordBody$Reader" "position" "I" (.int (3 : Int32)) := q83_0
    have f85 := (Arv.keep f79 K83 (ninS ne_b54_b62 nin0))
    have z86 : n0 ≤ _ := (Nat.le_trans z80 K83.1)
    have f87 := (Exa.keep f81 K83)
    obtain ⟨cq84, kq84, q84a, q84b, q84c⟩ := isOf hZ rfl f87
    obtain ⟨_, _, ⟨T84, L84, k84, n84⟩, -, X84, ⟨Lc84, hQ84, l84, y84, z84⟩, st84⟩ := X83.virtualBack hx (y := (⟨"com/example/meterwright/meterwright/RecordBody$Reader", "atEnd", "()Z"⟩ : MethodName)) (z := (⟨"com/example/meterwright/meterwright/RecordBody$Reader", "atEnd", "()Z"⟩ : MethodName)) hown (mvT hZ (hw _ (List.mem_of_getElem? (i := 39) rfl))) (mvT hZ (hw _ (List.mem_of_getElem? (i := 40) rfl))) (notFace_of_selects (args := #[]) (mvT hZ (hw _ (List.mem_of_getElem? (i := 42) rfl)))) (mvT hZ (hw _ (List.mem_of_getElem? (i := 42) rfl))) (mvT hZ (hw _ (List.mem_of_getElem? (i := 41) rfl))) (by decide) (backOf (W := 0) (rm5 l Z a0 hw [] b62 (3 : Int32) b54 k54 (3 : Int32) [(.int (nar .byte ((p0).toInt8.toInt32))), (.int (nar .byte ((p1).toInt8.toInt32))), (.int (nar .byte ((p2).toInt8.toInt32)))] (.int (0 : Int32)) T83.heap n0 z86 q83_0' q83_1 f85) hZ (hw _ (List.mem_of_getElem? (i := 43) rfl)) (hw _ (List.mem_of_getElem? (i := 4) rfl)) (by decide) (by decide)) q84a q84c (g := (mkF m 202 #[.val (.int p0), .val (.int p1), .val (.int p2), .val (.int p3), .val (.int (3 : Int32)), .val (.int ((p0).toInt8.toInt32)), .val (.int ((p1).toInt8.toInt32)), .val (.int ((p2).toInt8.toInt32)), .val (.ref b54), .val (.ref b62)] [(.ref b62)])) rfl (by rw [hml]; rfl) (Steps.refl _) (argsL := []) (rest := []) (lenOf pd_2 rfl) rfl (by show 2 * 0 + _ ≤ _; exact Nat.le_of_eq rfl) (hb hby at_202) (fun _ _ => ⟨rfl, rfl, (by decide : 3 + 0 ≤ _), (by decide : 10 + 0 ≤ _)⟩)
    dsimp only [Pt.U, Pt.locs, Pt.cells, Pt.slots] at X84 l84 y84 z84 st84 hQ84
    subst l84 y84 z84
    obtain ⟨rfl, Nq84, e84⟩ := hQ84
    have N84 := Fr.app N83 Nq84
    have P88 : ∀ t, Steps p.tables e below (T84.setTop (mkF m 205 #[.val (.int p0), .val (.int p1), .val (.int p2), .val (.int p3), .val (.int (3 : Int32)), .val (.int ((p0).toInt8.toInt32)), .val (.int ((p1).toInt8.toInt32)), .val (.int ((p2).toInt8.toInt32)), .val (.ref b54), .val (.ref b62)] [(.int (F5 (3 : Int32) (3 : Int32)))])) t → Steps p.tables e below (s₁.setTop (entryFrame m #[(.int p0), (.int p1), (.int p2), (.int p3)] maxLocals)) t := by
      intro t kk
      refine P82 _ ?_
      show Steps p.tables e below (T78.setTop (mkF m 167 #[.val (.int p0), .val (.int p1), .val (.int p2), .val (.int p3), .val (.int (3 : Int32)), .val (.int ((p0).toInt8.toInt32)), .val (.int ((p1).toInt8.toInt32)), .val (.int ((p2).toInt8.toInt32)), .val (.ref b54), .val (.ref b62)] [(.int (2 : Int32)), (.int (3 : Int32)), (.int (F5 (2 : Int32) (3 : Int32)))])) _
      refine XS.icmpYes X78.here hx rfl (pc0 := 167) (pc' := 174) rfl (hb hby at_167) rfl (XT.ii_ne_t (by decide)) (by decide) (by decide) ?_
      show Steps p.tables e below (T78.setTop (mkF m 174 #[.val (.int p0), .val (.int p1), .val (.int p2), .val (.int p3), .val (.int (3 : Int32)), .val (.int ((p0).toInt8.toInt32)), .val (.int ((p1).toInt8.toInt32)), .val (.int ((p2).toInt8.toInt32)), .val (.ref b54), .val (.ref b62)] [(.int (F5 (2 : Int32) (3 : Int32)))])) _
      refine XS.iconst X78.here hx rfl (hb hby at_174) ?_
      show Steps p.tables e below (T78.setTop (mkF m 175 #[.val (.int p0), .val (.int p1), .val (.int p2), .val (.int p3), .val (.int (3 : Int32)), .val (.int ((p0).toInt8.toInt32)), .val (.int ((p1).toInt8.toInt32)), .val (.int ((p2).toInt8.toInt32)), .val (.ref b54), .val (.ref b62)] [(.int (0 : Int32)), (.int (F5 (2 : Int32) (3 : Int32)))])) _
      refine XS.icmpYes X78.here hx rfl (pc0 := 175) (pc' := 180) rfl (hb hby at_175) rfl (XT.ii_eq_t (by decide)) (by decide) (by decide) ?_
      show Steps p.tables e below (T78.setTop (mkF m 180 #[.val (.int p0), .val (.int p1), .val (.int p2), .val (.int p3), .val (.int (3 : Int32)), .val (.int ((p0).toInt8.toInt32)), .val (.int ((p1).toInt8.toInt32)), .val (.int ((p2).toInt8.toInt32)), .val (.ref b54), .val (.ref b62)] [])) _
      refine XS.iload X78.here hx rfl (hb hby at_180) rfl ?_
      show Steps p.tables e below (T78.setTop (mkF m 182 #[.val (.int p0), .val (.int p1), .val (.int p2), .val (.int p3), .val (.int (3 : Int32)), .val (.int ((p0).toInt8.toInt32)), .val (.int ((p1).toInt8.toInt32)), .val (.int ((p2).toInt8.toInt32)), .val (.ref b54), .val (.ref b62)] [(.int (3 : Int32))])) _
      refine XS.iconst X78.here hx rfl (hb hby at_182) ?_
      show Steps p.tables e below (T78.setTop (mkF m 183 #[.val (.int p0), .val (.int p1), .val (.int p2), .val (.int p3), .val (.int (3 : Int32)), .val (.int ((p0).toInt8.toInt32)), .val (.int ((p1).toInt8.toInt32)), .val (.int ((p2).toInt8.toInt32)), .val (.ref b54), .val (.ref b62)] [(.int (2 : Int32)), (.int (3 : Int32))])) _
      refine XS.icmpYes X78.here hx rfl (pc0 := 183) (pc' := 188) rfl (hb hby at_183) rfl (XT.ii_ne_t (by decide)) (by decide) (by decide) ?_
      show Steps p.tables e below (T78.setTop (mkF m 188 #[.val (.int p0), .val (.int p1), .val (.int p2), .val (.int p3), .val (.int (3 : Int32)), .val (.int ((p0).toInt8.toInt32)), .val (.int ((p1).toInt8.toInt32)), .val (.int ((p2).toInt8.toInt32)), .val (.ref b54), .val (.ref b62)] [])) _
      refine XS.aload X78.here hx rfl (hb hby at_188) rfl rfl ?_
      show Steps p.tables e below (T78.setTop (mkF m 190 #[.val (.int p0), .val (.int p1), .val (.int p2), .val (.int p3), .val (.int (3 : Int32)), .val (.int ((p0).toInt8.toInt32)), .val (.int ((p1).toInt8.toInt32)), .val (.int ((p2).toInt8.toInt32)), .val (.ref b54), .val (.ref b62)] [(.ref b62)])) _
      refine st83.trans ?_
      show Steps p.tables e below (T83.setTop (mkF m 193 #[.val (.int p0), .val (.int p1), .val (.int p2), .val (.int p3), .val (.int (3 : Int32)), .val (.int ((p0).toInt8.toInt32)), .val (.int ((p1).toInt8.toInt32)), .val (.int ((p2).toInt8.toInt32)), .val (.ref b54), .val (.ref b62)] [(.int (nar .byte (nar .byte ((p2).toInt8.toInt32))))])) _
      refine XS.iload X83.here hx rfl (hb hby at_193) rfl ?_
      show Steps p.tables e below (T83.setTop (mkF m 195 #[.val (.int p0), .val (.int p1), .val (.int p2), .val (.int p3), .val (.int (3 : Int32)), .val (.int ((p0).toInt8.toInt32)), .val (.int ((p1).toInt8.toInt32)), .val (.int ((p2).toInt8.toInt32)), .val (.ref b54), .val (.ref b62)] [(.int ((p2).toInt8.toInt32)), (.int (nar .byte (nar .byte ((p2).toInt8.toInt32))))])) _
      refine XS.icmpYes X83.here hx rfl (pc0 := 195) (pc' := 200) rfl (hb hby at_195) rfl (XT.ii_eq_t (own_nb _)) (by decide) (by decide) ?_
      show Steps p.tables e below (T83.setTop (mkF m 200 #[.val (.int p0), .val (.int p1), .val (.int p2), .val (.int p3), .val (.int (3 : Int32)), .val (.int ((p0).toInt8.toInt32)), .val (.int ((p1).toInt8.toInt32)), .val (.int ((p2).toInt8.toInt32)), .val (.ref b54), .val (.ref b62)] [])) _
      refine XS.aload X83.here hx rfl (hb hby at_200) rfl rfl ?_
      show Steps p.tables e below (T83.setTop (mkF m 202 #[.val (.int p0), .val (.int p1), .val (.int p2), .val (.int p3), .val (.int (3 : Int32)), .val (.int ((p0).toInt8.toInt32)), .val (.int ((p1).toInt8.toInt32)), .val (.int ((p2).toInt8.toInt32)), .val (.ref b54), .val (.ref b62)] [(.ref b62)])) _
      refine st84.trans ?_
      show Steps p.tables e below (T84.setTop (mkF m 205 #[.val (.int p0), .val (.int p1), .val (.int p2), .val (.int p3), .val (.int (3 : Int32)), .val (.int ((p0).toInt8.toInt32)), .val (.int ((p1).toInt8.toInt32)), .val (.int ((p2).toInt8.toInt32)), .val (.ref b54), .val (.ref b62)] [(.int (F5 (3 : Int32) (3 : Int32)))])) _
      exact kk
    have hres : (F5 (3 : Int32) (3 : Int32)) = (1 : Int32) := (by decide)
    rw [hres] at P88
    obtain ⟨fs, hr, hrun, hended, hW, hsame⟩ := X84.leave (v := some (.int (1 : Int32))) (fun h => by rw [Bd.returns] at h; cases h)
    refine ⟨_, _, P88 _ ?_, hrun, hended, _, _, rfl, ?_, ⟨_, rfl⟩, hW, hsame.mono (by decide) (by decide)⟩
    · exact retN X84 hx (t := .boolean) Bd.returns (by simp) (hb hby at_205) hr
    · exact ⟨rfl, N84⟩
set_option maxRecDepth 65536 in
set_option maxHeartbeats 40000000 in
theorem comes_1 {Post : Tables → Env → Array Value → State → Outcome → State → Prop} (hpost : ∀ tb e args s v u, (limb_1_1.after args s (.returned v) u = true ∧ limb_1_2.after args s (.returned v) u = true ∧ True) → FrameEnd s (.returned v) u (Jvm.fieldLocs frame_1_writes args s ++ Jvm.arrayLocs frame_1_arrays args s ++ Jvm.staticLocs frame_1_statics s) 16 128 → Post tb e args s (.returned v) u) :
    ArmFor flags0 classFile x code maxLocals ret World_1 tables_1 room_1 Calls_1 rest_1 Pre_1 Post := by
  intro l hfl _ _ p e ha hc hk s m args below hf hA hF happ hP
  obtain ⟨hcalls, hrest, hpre⟩ := hP
  obtain ⟨-, -, -, hnamed, -, -, -, hat⟩ := (Spec.applies_iff hf).mp happ
  obtain ⟨hg, hn⟩ := and_e (Cond.before_iff.mp (show (Jvm.Cond.and given_1 narrow_1).before args s = true from hpre))
  obtain ⟨g0, gr0⟩ := and_e hg
  obtain ⟨g1, gr1⟩ := and_e gr0
  obtain ⟨g2, gr2⟩ := and_e gr1
  obtain ⟨g3, gr3⟩ := and_e gr2
  obtain ⟨w0, w1, w2, w3, rfl⟩ : ∃ w0 w1 w2 w3 : Value, args = #[w0, w1, w2, w3] := by
    have hs : args.size = 4 := by simpa [Cond.value, given_1] using g0
    obtain ⟨L⟩ := args
    match L, hs with
    | [w0, w1, w2, w3], _ => exact ⟨w0, w1, w2, w3, rfl⟩
  have hw := fun d (hd : d ∈ tables_1) => atoms_spec (ws := Jvm.Cond.code x code maxLocals ret :: tables_1) hat d (List.mem_cons_of_mem _ hd)
  have hfit : Fit s := fun {y c} hc i hi => by
    obtain ⟨ha, rfl⟩ := Array.getElem?_eq_some_iff.mp hc
    have q := List.all_eq_true.mp ((Array.all_eq_true_iff_forall_mem.mp hF) _ (Array.getElem_mem ha)) i (List.mem_range.mpr hi)
    simpa [Array.getElem?_eq_getElem hi] using q
  obtain ⟨i0, ei0⟩ := is_v g1
  obtain rfl : w0 = (.int i0) := Option.some.inj ei0
  obtain ⟨i1, ei1⟩ := is_v g2
  obtain rfl : w1 = (.int i1) := Option.some.inj ei1
  obtain ⟨i2, ei2⟩ := is_v g3
  obtain rfl : w2 = (.int i2) := Option.some.inj ei2
  obtain ⟨i3, ei3⟩ := is_v gr3
  obtain rfl : w3 = (.int i3) := Option.some.inj ei3
  obtain ⟨hsets, -⟩ := atoms_of _ (rest_1_c_eq ▸ (show rest_1_c.before _ s = true from hrest))
  obtain ⟨sd, esd⟩ := exa_v (Cond.before_iff.mp (hsets _ (List.mem_of_getElem? (i := 7) rfl)))
  have pr0 : Sta s s.heap "java/util/ArrayList" "DEFAULTCAPACITY_EMPTY_ELEMENTDATA" "[Ljava/lang/Object;" (.ref sd) := Sta.start esd (Or.inr ⟨hw _ (List.mem_of_getElem? (i := 13) rfl), hsets _ (List.mem_of_getElem? (i := 2) rfl)⟩)
  obtain ⟨n, o, h1, h2, h3, _, L, rfl, ⟨rfl, N⟩, hq⟩ := rm0 l s _ hw tables_1 i0 i1 i2 i3 sd s.heap s.heap.size (Nat.le_refl _) pr0 p e ha hc hk s m _ below hf ((Spec.applies_iff_loose hf).mp happ).1 ⟨rfl, State.Warmed39.refl s, rfl⟩ trivial
  refine ⟨n, _, h1, h2, h3, hpost _ _ _ _ _ _ ⟨Cond.after_iff.mpr rfl, Cond.after_iff.mpr (eq_i res_at (Term.int_eval (1)) rfl), trivial⟩ ⟨hq.1, hq.2.1, (hq.2.2.sift fun y hy => Or.inr (N y hy)).mono (by decide) (by decide)⟩⟩
theorem main_1_1 : Claimed_1_1 := comes_1 fun _ _ _ _ _ _ h hF => ⟨h.1, hF⟩
theorem main_1_2 : Claimed_1_2 := comes_1 fun _ _ _ _ _ _ h hF => ⟨h.2.1, hF⟩
end Jvm.Pilot.@@N@@
namespace Jvm.Pilot.@@N@@
open Jvm Jvm.ClassFile Sem Op Lib Jvm.Free Jvm.Stand Jvm.Pilot.@@N@@.Jvm.D
/-! MADE BY PROGRAM (witnessworld.py) out of the Statement's table words and the real class files: 18 classes; the members and pool entries that the words name. The judged class is class 1, her method 1. -/
namespace start1
open Jvm.ClassFile
def u (s : String) : CpInfo := .utf8 (stringToUtf16 s)
/-- a pool by its gaps: so many unusable entries, then the entry; so many at the end -/
def gap : Nat → List CpInfo → List CpInfo
  | 0, r => r
  | n + 1, r => .unusable :: gap n r
def poolList (es : List (Nat × CpInfo)) (last : Nat) : List CpInfo := es.foldr (fun e r => gap e.1 (e.2 :: r)) (gap last [])
def pool (es : List (Nat × CpInfo)) (last : Nat) : Array CpInfo := ⟨poolList es last⟩
def fileOf (pool : Array CpInfo) (this : Nat) (attrs : Array Attribute := #[]) (ms : Array MethodInfo := #[]) (fl : Nat := 33) (sup : Nat := 0) (ifs : Array Nat := #[]) (fds : Array FieldInfo := #[]) : ClassFile where
  minorVersion := 0
  majorVersion := 65
  constantPool := pool
  accessFlags := fl
  thisClass := this
  superClass := sup
  interfaces := ifs
  fields := fds
  methods := ms
  attributes := attrs
def plain (name : String) (sup : Option ClassId) : Class where
  name := name
  kind := .ordinary
  loader := none
  accessFlags := 33
  super := sup
  interfaces := #[]
  cf := none
  fields := #[]
  methods := #[]
  instanceTypes := #[]
  staticTypes := #[]
  resolved := #[]
  callSites := []
  init := .initialized
  statics := none
  mirror := none

def pool0 : Array CpInfo := pool [(5, u "<init>"), (0, u "()V"), (1, .class_ 10), (1, u "java/lang/Object")] 113

def k0c0 : Code := { maxStack := 0, maxLocals := 1, code := object_method_1_code, exceptionTable := #[], attributes := #[] }
def k0m0 : Method := { name := "<init>", desc := "()V", sig := { parameters := [], returnType := none }, accessFlags := 1, code := some k0c0 }
/-- java/lang/Object -/
def k0 : Class := { plain "java/lang/Object" none with
  accessFlags := 33
  interfaces := #[]
  cf := some (fileOf pool0 8 #[] #[{ accessFlags := 1, nameIndex := 5, descriptorIndex := 6, attributes := #[] }] 33 0 #[] #[])
  fields := #[]
  methods := #[k0m0]
  instanceTypes := #[]
  staticTypes := #[]
  resolved := Array.replicate 124 none
  statics := none }

def pool1 : Array CpInfo := pool [(2, .class_ 4), (1, u "java/lang/Object"), (0, u "<init>"), (0, u "()V"), (0, .integer 2147483647), (0, .class_ 9), (0, u "com/example/meterwright/meterwright/RecordBody$Reader"), (0, .methodref 8 11), (0, .nameAndType 5 12), (0, u "([B)V"), (0, .methodref 8 14), (0, .nameAndType 15 16), (0, u "atEnd"), (0, u "()Z"), (0, .methodref 8 18), (0, .nameAndType 19 20), (0, u "kind"), (0, u "()B"), (0, .class_ 22), (0, u "com/example/meterwright/meterwright/ReaderKindPinLaw"), (2, u "law"), (0, u "(IIII)Z")] 12

def k1m0 : Method := { name := "<init>", desc := "()V", sig := { parameters := [], returnType := none }, accessFlags := 1, code := none }
def k1c1 : Code := { maxStack := 4, maxLocals := 10, code := code, exceptionTable := #[], attributes := #[] }
def k1m1 : Method := { name := "law", desc := "(IIII)Z", sig := { parameters := [.int, .int, .int, .int], returnType := some .boolean }, accessFlags := 9, code := some k1c1 }
/-- com/example/meterwright/meterwright/ReaderKindPinLaw -/
def k1 : Class := { plain "com/example/meterwright/meterwright/ReaderKindPinLaw" (some 0) with
  accessFlags := 49
  interfaces := #[]
  cf := some (fileOf pool1 21 #[] #[{ accessFlags := 1, nameIndex := 5, descriptorIndex := 6, attributes := #[] }, { accessFlags := 9, nameIndex := 25, descriptorIndex := 26, attributes := #[] }] 49 2 #[] #[])
  fields := #[]
  methods := #[k1m0, k1m1]
  instanceTypes := #[]
  staticTypes := #[]
  resolved := Array.replicate 39 none
  statics := none }

def pool2 : Array CpInfo := pool [(1, .class_ 2), (0, u "com/example/meterwright/meterwright/RecordBody"), (0, .methodref 4 5), (0, .class_ 6), (0, .nameAndType 7 8), (0, u "java/lang/Object"), (0, u "<init>"), (0, u "()V"), (0, .class_ 10), (0, u "java/util/ArrayList"), (0, .methodref 9 5), (0, .fieldref 13 14), (0, .class_ 15), (0, .nameAndType 16 17), (0, u "com/example/meterwright/meterwright/RecordBody$Reader"), (0, u "texts"), (0, u "Ljava/util/List;"), (0, .fieldref 13 19), (0, .nameAndType 20 21), (0, u "bytes"), (0, u "[B"), (0, .fieldref 13 23), (0, .nameAndType 24 25), (0, u "position"), (0, u "I"), (55, u "seconds"), (0, u "J"), (28, u "([B)V"), (2, u "kind"), (0, u "()B"), (9, u "atEnd"), (0, u "()Z")] 21

def k2c0 : Code := { maxStack := 3, maxLocals := 2, code := prog_25_method_1_code, exceptionTable := #[], attributes := #[] }
def k2m0 : Method := { name := "<init>", desc := "([B)V", sig := { parameters := [(.array .byte)], returnType := none }, accessFlags := 0, code := some k2c0 }
def k2c1 : Code := { maxStack := 5, maxLocals := 1, code := prog_25_method_2_code, exceptionTable := #[], attributes := #[] }
def k2m1 : Method := { name := "kind", desc := "()B", sig := { parameters := [], returnType := some .byte }, accessFlags := 0, code := some k2c1 }
def k2c2 : Code := { maxStack := 2, maxLocals := 1, code := prog_25_method_9_code, exceptionTable := #[], attributes := #[] }
def k2m2 : Method := { name := "atEnd", desc := "()Z", sig := { parameters := [], returnType := some .boolean }, accessFlags := 0, code := some k2c2 }
/-- com/example/meterwright/meterwright/RecordBody$Reader -/
def k2 : Class := { plain "com/example/meterwright/meterwright/RecordBody$Reader" (some 0) with
  accessFlags := 48
  interfaces := #[]
  cf := some (fileOf pool2 13 #[.nestHost 1] #[{ accessFlags := 0, nameIndex := 7, descriptorIndex := 111, attributes := #[] }, { accessFlags := 0, nameIndex := 114, descriptorIndex := 115, attributes := #[] }, { accessFlags := 0, nameIndex := 125, descriptorIndex := 126, attributes := #[] }] 48 4 #[] #[{ accessFlags := 18, nameIndex := 20, descriptorIndex := 21, attributes := #[] }, { accessFlags := 2, nameIndex := 24, descriptorIndex := 25, attributes := #[] }, { accessFlags := 18, nameIndex := 16, descriptorIndex := 17, attributes := #[] }, { accessFlags := 2, nameIndex := 81, descriptorIndex := 82, attributes := #[] }])
  fields := #[{ name := "bytes", type := (.array .byte), accessFlags := 18, slot := 0, constantValue := 0 }, { name := "position", type := .int, accessFlags := 2, slot := 1, constantValue := 0 }, { name := "texts", type := (.object "java/util/List"), accessFlags := 18, slot := 2, constantValue := 0 }, { name := "seconds", type := .long, accessFlags := 2, slot := 3, constantValue := 0 }]
  methods := #[k2m0, k2m1, k2m2]
  instanceTypes := #[(.array .byte), .int, (.object "java/util/List"), .long]
  staticTypes := #[]
  resolved := Array.replicate 148 none
  statics := none }

def pool3 : Array CpInfo := pool [(8, .class_ 10), (1, u "java/lang/Iterable"), (24, .class_ 36), (0, u "java/lang/Object")] 25

/-- java/lang/Iterable -/
def k3 : Class := { plain "java/lang/Iterable" (some 0) with
  accessFlags := 1537
  interfaces := #[]
  cf := some (fileOf pool3 8 #[] #[] 1537 35 #[] #[])
  fields := #[]
  methods := #[]
  instanceTypes := #[]
  staticTypes := #[]
  resolved := Array.replicate 62 none
  statics := none }

def pool4 : Array CpInfo := pool [(10, .class_ 12), (1, u "java/util/Collection"), (47, .class_ 61), (0, u "java/lang/Object"), (0, .class_ 63), (0, u "java/lang/Iterable")] 51

/-- java/util/Collection -/
def k4 : Class := { plain "java/util/Collection" (some 0) with
  accessFlags := 1537
  interfaces := #[3]
  cf := some (fileOf pool4 10 #[] #[] 1537 60 #[62] #[])
  fields := #[]
  methods := #[]
  instanceTypes := #[]
  staticTypes := #[]
  resolved := Array.replicate 115 none
  statics := none }

def pool5 : Array CpInfo := pool [(1, .methodref 2 3), (0, .class_ 4), (0, .nameAndType 5 6), (0, u "java/lang/Object"), (0, u "<init>"), (0, u "()V"), (1, .class_ 10), (1, u "java/util/AbstractCollection"), (66, .class_ 78), (0, u "java/util/Collection")] 81

def k5c0 : Code := { maxStack := 1, maxLocals := 1, code := jdk_22_method_1_code, exceptionTable := #[], attributes := #[] }
def k5m0 : Method := { name := "<init>", desc := "()V", sig := { parameters := [], returnType := none }, accessFlags := 4, code := some k5c0 }
/-- java/util/AbstractCollection -/
def k5 : Class := { plain "java/util/AbstractCollection" (some 0) with
  accessFlags := 1057
  interfaces := #[4]
  cf := some (fileOf pool5 8 #[] #[{ accessFlags := 4, nameIndex := 5, descriptorIndex := 6, attributes := #[] }] 1057 2 #[77] #[])
  fields := #[]
  methods := #[k5m0]
  instanceTypes := #[]
  staticTypes := #[]
  resolved := Array.replicate 160 none
  statics := none }

def pool6 : Array CpInfo := pool [(8, .class_ 10), (1, u "java/util/SequencedCollection"), (15, .class_ 27), (0, u "java/lang/Object"), (0, .class_ 29), (0, u "java/util/Collection")] 27

/-- java/util/SequencedCollection -/
def k6 : Class := { plain "java/util/SequencedCollection" (some 0) with
  accessFlags := 1537
  interfaces := #[4]
  cf := some (fileOf pool6 8 #[] #[] 1537 26 #[28] #[])
  fields := #[]
  methods := #[]
  instanceTypes := #[]
  staticTypes := #[]
  resolved := Array.replicate 57 none
  statics := none }

def pool7 : Array CpInfo := pool [(8, .class_ 10), (1, u "java/util/List"), (92, .class_ 104), (0, u "java/lang/Object"), (15, .class_ 121), (0, u "java/util/SequencedCollection")] 129

/-- java/util/List -/
def k7 : Class := { plain "java/util/List" (some 0) with
  accessFlags := 1537
  interfaces := #[6]
  cf := some (fileOf pool7 8 #[] #[] 1537 103 #[120] #[])
  fields := #[]
  methods := #[]
  instanceTypes := #[]
  staticTypes := #[]
  resolved := Array.replicate 251 none
  statics := none }

def pool8 : Array CpInfo := pool [(1, .methodref 2 3), (0, .class_ 4), (0, .nameAndType 5 6), (0, u "java/util/AbstractCollection"), (0, u "<init>"), (0, u "()V"), (0, .fieldref 8 9), (0, .class_ 10), (0, .nameAndType 11 12), (0, u "java/util/AbstractList"), (0, u "modCount"), (0, u "I"), (64, .class_ 78), (0, u "java/util/AbstractList$Itr"), (3, .class_ 83), (0, u "java/util/AbstractList$ListItr"), (9, .class_ 94), (0, u "java/util/AbstractList$RandomAccessSubList"), (3, .class_ 99), (0, u "java/util/AbstractList$SubList"), (33, .class_ 134), (0, u "java/util/List"), (73, .class_ 209), (0, u "java/util/AbstractList$SubList$1"), (0, .class_ 211), (0, u "java/util/AbstractList$RandomAccessSpliterator")] 6

def k8c0 : Code := { maxStack := 2, maxLocals := 1, code := jdk_39_method_1_code, exceptionTable := #[], attributes := #[] }
def k8m0 : Method := { name := "<init>", desc := "()V", sig := { parameters := [], returnType := none }, accessFlags := 4, code := some k8c0 }
/-- java/util/AbstractList -/
def k8 : Class := { plain "java/util/AbstractList" (some 5) with
  accessFlags := 1057
  interfaces := #[7]
  cf := some (fileOf pool8 8 #[.nestMembers #[93, 98, 208, 210, 82, 77]] #[{ accessFlags := 4, nameIndex := 5, descriptorIndex := 6, attributes := #[] }] 1057 2 #[133] #[{ accessFlags := 132, nameIndex := 11, descriptorIndex := 12, attributes := #[] }])
  fields := #[{ name := "modCount", type := .int, accessFlags := 132, slot := 0, constantValue := 0 }]
  methods := #[k8m0]
  instanceTypes := #[.int]
  staticTypes := #[]
  resolved := Array.replicate 218 none
  statics := none }

def pool9 : Array CpInfo := pool [(1, .class_ 2), (0, u "java/util/RandomAccess"), (0, .class_ 4), (0, u "java/lang/Object")] 2

/-- java/util/RandomAccess -/
def k9 : Class := { plain "java/util/RandomAccess" (some 0) with
  accessFlags := 1537
  interfaces := #[]
  cf := some (fileOf pool9 1 #[] #[] 1537 3 #[] #[])
  fields := #[]
  methods := #[]
  instanceTypes := #[]
  staticTypes := #[]
  resolved := Array.replicate 7 none
  statics := none }

def pool10 : Array CpInfo := pool [(1, .class_ 2), (0, u "java/lang/Cloneable"), (0, .class_ 4), (0, u "java/lang/Object")] 2

/-- java/lang/Cloneable -/
def k10 : Class := { plain "java/lang/Cloneable" (some 0) with
  accessFlags := 1537
  interfaces := #[]
  cf := some (fileOf pool10 1 #[] #[] 1537 3 #[] #[])
  fields := #[]
  methods := #[]
  instanceTypes := #[]
  staticTypes := #[]
  resolved := Array.replicate 7 none
  statics := none }

def pool11 : Array CpInfo := pool [(1, .class_ 2), (0, u "java/io/Serializable"), (0, .class_ 4), (0, u "java/lang/Object")] 2

/-- java/io/Serializable -/
def k11 : Class := { plain "java/io/Serializable" (some 0) with
  accessFlags := 1537
  interfaces := #[]
  cf := some (fileOf pool11 1 #[] #[] 1537 3 #[] #[])
  fields := #[]
  methods := #[]
  instanceTypes := #[]
  staticTypes := #[]
  resolved := Array.replicate 7 none
  statics := none }

def pool12 : Array CpInfo := pool [(1, .methodref 2 3), (0, .class_ 4), (0, .nameAndType 5 6), (0, u "java/util/AbstractList"), (0, u "<init>"), (0, u "()V"), (2, .fieldref 10 11), (0, .class_ 12), (0, .nameAndType 13 14), (0, u "java/util/ArrayList"), (0, u "elementData"), (0, u "[Ljava/lang/Object;"), (2, u "EMPTY_ELEMENTDATA"), (21, .fieldref 10 40), (0, .nameAndType 41 14), (0, u "DEFAULTCAPACITY_EMPTY_ELEMENTDATA"), (8, u "size"), (0, u "I"), (96, .class_ 149), (0, u "java/util/List"), (112, .class_ 263), (0, u "java/util/ArrayList$ListItr"), (3, .class_ 268), (0, u "java/util/ArrayList$Itr"), (7, .class_ 277), (0, u "java/util/ArrayList$SubList"), (12, .class_ 291), (0, u "java/util/ArrayList$ArrayListSpliterator"), (37, .class_ 330), (0, u "java/util/RandomAccess"), (0, .class_ 332), (0, u "java/lang/Cloneable"), (0, .class_ 334), (0, u "java/io/Serializable"), (0, u "serialVersionUID"), (0, u "J"), (3, u "DEFAULT_CAPACITY"), (159, .class_ 501), (0, u "java/util/ArrayList$SubList$2"), (0, .class_ 503), (0, u "java/util/ArrayList$SubList$1")] 5

def k12c0 : Code := { maxStack := 2, maxLocals := 1, code := jdk_38_method_2_code, exceptionTable := #[], attributes := #[] }
def k12m0 : Method := { name := "<init>", desc := "()V", sig := { parameters := [], returnType := none }, accessFlags := 1, code := some k12c0 }
/-- java/util/ArrayList -/
def k12 : Class := { plain "java/util/ArrayList" (some 8) with
  accessFlags := 33
  interfaces := #[7, 9, 10, 11]
  cf := some (fileOf pool12 10 #[.nestMembers #[290, 276, 500, 502, 262, 267]] #[{ accessFlags := 1, nameIndex := 5, descriptorIndex := 6, attributes := #[] }] 33 2 #[148, 329, 331, 333] #[{ accessFlags := 26, nameIndex := 335, descriptorIndex := 336, attributes := #[] }, { accessFlags := 26, nameIndex := 340, descriptorIndex := 51, attributes := #[] }, { accessFlags := 26, nameIndex := 17, descriptorIndex := 14, attributes := #[] }, { accessFlags := 26, nameIndex := 41, descriptorIndex := 14, attributes := #[] }, { accessFlags := 128, nameIndex := 13, descriptorIndex := 14, attributes := #[] }, { accessFlags := 2, nameIndex := 50, descriptorIndex := 51, attributes := #[] }])
  fields := #[{ name := "serialVersionUID", type := .long, accessFlags := 26, slot := 0, constantValue := 0 }, { name := "DEFAULT_CAPACITY", type := .int, accessFlags := 26, slot := 1, constantValue := 0 }, { name := "EMPTY_ELEMENTDATA", type := (.array (.object "java/lang/Object")), accessFlags := 26, slot := 2, constantValue := 0 }, { name := "DEFAULTCAPACITY_EMPTY_ELEMENTDATA", type := (.array (.object "java/lang/Object")), accessFlags := 26, slot := 3, constantValue := 0 }, { name := "elementData", type := (.array (.object "java/lang/Object")), accessFlags := 128, slot := 1, constantValue := 0 }, { name := "size", type := .int, accessFlags := 2, slot := 2, constantValue := 0 }]
  methods := #[k12m0]
  instanceTypes := #[.int, (.array (.object "java/lang/Object")), .int]
  staticTypes := #[.long, .int, (.array (.object "java/lang/Object")), (.array (.object "java/lang/Object"))]
  resolved := Array.replicate 509 none
  statics := some 0 }

/-- the primitive byte -/
def k13 : Class := { plain "byte" none with kind := .primitive 'B', accessFlags := 0x411 }
/-- [B -/
def k14 : Class := { plain "[B" (some 0) with kind := .array 13 .byte, interfaces := #[10, 11], accessFlags := 1041 }

/-- the primitive int -/
def k15 : Class := { plain "int" none with kind := .primitive 'I', accessFlags := 0x411 }
/-- [I -/
def k16 : Class := { plain "[I" (some 0) with kind := .array 15 .int, interfaces := #[10, 11], accessFlags := 1041 }

/-- [Ljava/lang/Object; -/
def k17 : Class := { plain "[Ljava/lang/Object;" (some 0) with kind := .array 0 (.object "java/lang/Object"), interfaces := #[10, 11], accessFlags := 1041 }

def heap : Heap := #[{ cls := 12, slots := #[.long 0, .int 0, .ref 1, .ref 2], vm := .statics 12 },
  { cls := 17, slots := #[], vm := .none },
  { cls := 17, slots := #[], vm := .none }]
def classes : Array Class := #[k0, k1, k2, k3, k4, k5, k6, k7, k8, k9, k10, k11, k12, k13, k14, k15, k16, k17]
def interned : List (Array UInt16 × Addr) := []
def slotsUsed : Nat := 4
def theMethod : MethodId := ⟨1, 1⟩
def args0 : Array Value := #[.int 5, .int 5, .int 5, .int 5]
def aboutOver (below : List Frame) : State where
  vm := { classes := classes, interned := interned.toArray }
  heap := heap
  slotsUsed := slotsUsed
  threads := #[{ frames := .invoking theMethod args0 :: below }]
def below0 : List Frame := [.native { method := ⟨0, 0⟩, args := #[] }]
def about1 : State := aboutOver below0
def p0 : Program := .bare "" "" ""
def e0 : Env := launch0.env 0 0 0
theorem w_frames : about1.frames = Frame.invoking theMethod args0 :: below0 := rfl
set_option maxRecDepth 65536 in
theorem w_args : argsFit about1.vm theMethod args0 = true := by decide +kernel
set_option maxRecDepth 65536 in
theorem w_heap : heapFits about1 = true := by decide +kernel
set_option maxRecDepth 65536 in
theorem w_runnable : about1.curStatus? = some .runnable := by decide +kernel
set_option maxRecDepth 65536 in
theorem w_alone : about1.alone = true := by decide +kernel
set_option maxRecDepth 65536 in
theorem w_named : about1.methodNamed? x = some theMethod := by decide +kernel
set_option maxRecDepth 65536 in
theorem w_hears : about1.hears theMethod below0 = true := by decide +kernel
set_option maxRecDepth 65536 in
theorem w_ripe : about1.ripe theMethod args0 below0 = true := by decide +kernel
theorem w_running : about1.status = .running := rfl
set_option maxRecDepth 65536 in
theorem w_room : about1.hasRoom e0.platform room_1 = true :=
  launch0.hasRoom_least _ room_1 (by decide +kernel) (by decide +kernel) (by decide +kernel) (by decide +kernel) (by decide +kernel) (by decide +kernel)
theorem allAtoms_all (ts : List Jvm.Cond) (a : Array Jvm.Value) (st : Jvm.State) : (allAtoms ts).before a st = ts.all (fun c => c.before a st) := by
  induction ts with
  | nil => rfl
  | cons c t ih =>
    show (Jvm.Cond.and c (allAtoms t)).before a st = _
    rw [Jvm.Cond.before_and, ih, List.all_cons]
def words1 : List Jvm.Cond := Jvm.Cond.code x code maxLocals ret :: tables_1
/-- a 'code' word, met by the world's own term for the bytes: nothing is compared byte by byte -/
theorem code_word {y : MethodName} {bytes : ByteArray} {mx : Nat} {rt : Option FieldType} {a : Array Value} {s : State} {m : MethodId} {meth : Method} {c : Code} (h1 : s.methodNamed? y = some m) (h2 : s.vm.method? m = some meth) (h3 : meth.code = some c) (h4 : c.code = bytes)
    (h5 : (c.maxLocals == mx && c.exceptionTable.isEmpty && decide (c.maxStack ≤ mostOperands) && decide (meth.sig.returnType = rt) && !meth.locks && decide (parseMethodDescriptor y.desc = some meth.sig)) = true) : (Jvm.Cond.code y bytes mx rt).before a s = true := by
  simp only [Bool.and_eq_true, beq_iff_eq, Bool.not_eq_true', decide_eq_true_eq] at h5
  obtain ⟨⟨⟨⟨⟨g1, g2⟩, g3⟩, g4⟩, g5⟩, g6⟩ := h5
  simp [Cond.before, Cond.holds, Cond.value, h1, h2, h3, h4, g1, g2, g3, g4, g5, g6]
def isCode : Jvm.Cond → Bool
  | .code _ _ _ _ => true
  | _ => false
theorem all_split {L : List Jvm.Cond} {P : Jvm.Cond → Bool} (h1 : L.all (fun c => isCode c || P c) = true) (h2 : ∀ c ∈ L.filter isCode, P c = true) : L.all P = true := by
  refine List.all_eq_true.mpr fun c hc => ?_
  have h := List.all_eq_true.mp h1 c hc
  rcases Bool.eq_false_or_eq_true (isCode c) with hi | hi
  · exact h2 c (List.mem_filter.mpr ⟨hc, hi⟩)
  · simpa [hi] using h
set_option maxRecDepth 65536 in
theorem w_c0 : (Jvm.Cond.code x code maxLocals ret).before args0 about1 = true := code_word (m := ⟨1, 1⟩) (meth := k1m1) (c := k1c1) (by decide +kernel) rfl rfl rfl (by decide +kernel)
set_option maxRecDepth 65536 in
theorem w_c1 : (Jvm.Cond.code ({ cls := "com/example/meterwright/meterwright/RecordBody$Reader", name := "<init>", desc := "([B)V" } : Jvm.MethodName) prog_25_method_1_code (2 : Nat) (Option.none : Option Jvm.ClassFile.FieldType)).before args0 about1 = true := code_word (m := ⟨2, 0⟩) (meth := k2m0) (c := k2c0) (by decide +kernel) rfl rfl rfl (by decide +kernel)
set_option maxRecDepth 65536 in
theorem w_c2 : (Jvm.Cond.code ({ cls := "java/lang/Object", name := "<init>", desc := "()V" } : Jvm.MethodName) object_method_1_code (1 : Nat) (Option.none : Option Jvm.ClassFile.FieldType)).before args0 about1 = true := code_word (m := ⟨0, 0⟩) (meth := k0m0) (c := k0c0) (by decide +kernel) rfl rfl rfl (by decide +kernel)
set_option maxRecDepth 65536 in
theorem w_c3 : (Jvm.Cond.code ({ cls := "java/util/ArrayList", name := "<init>", desc := "()V" } : Jvm.MethodName) jdk_38_method_2_code (1 : Nat) (Option.none : Option Jvm.ClassFile.FieldType)).before args0 about1 = true := code_word (m := ⟨12, 0⟩) (meth := k12m0) (c := k12c0) (by decide +kernel) rfl rfl rfl (by decide +kernel)
set_option maxRecDepth 65536 in
theorem w_c4 : (Jvm.Cond.code ({ cls := "java/util/AbstractList", name := "<init>", desc := "()V" } : Jvm.MethodName) jdk_39_method_1_code (1 : Nat) (Option.none : Option Jvm.ClassFile.FieldType)).before args0 about1 = true := code_word (m := ⟨8, 0⟩) (meth := k8m0) (c := k8c0) (by decide +kernel) rfl rfl rfl (by decide +kernel)
set_option maxRecDepth 65536 in
theorem w_c5 : (Jvm.Cond.code ({ cls := "java/util/AbstractCollection", name := "<init>", desc := "()V" } : Jvm.MethodName) jdk_22_method_1_code (1 : Nat) (Option.none : Option Jvm.ClassFile.FieldType)).before args0 about1 = true := code_word (m := ⟨5, 0⟩) (meth := k5m0) (c := k5c0) (by decide +kernel) rfl rfl rfl (by decide +kernel)
set_option maxRecDepth 65536 in
theorem w_c6 : (Jvm.Cond.code ({ cls := "com/example/meterwright/meterwright/RecordBody$Reader", name := "atEnd", desc := "()Z" } : Jvm.MethodName) prog_25_method_9_code (1 : Nat) (Option.some Jvm.ClassFile.FieldType.boolean)).before args0 about1 = true := code_word (m := ⟨2, 2⟩) (meth := k2m2) (c := k2c2) (by decide +kernel) rfl rfl rfl (by decide +kernel)
set_option maxRecDepth 65536 in
theorem w_c7 : (Jvm.Cond.code ({ cls := "com/example/meterwright/meterwright/RecordBody$Reader", name := "kind", desc := "()B" } : Jvm.MethodName) prog_25_method_2_code (1 : Nat) (Option.some Jvm.ClassFile.FieldType.byte)).before args0 about1 = true := code_word (m := ⟨2, 1⟩) (meth := k2m1) (c := k2c1) (by decide +kernel) rfl rfl rfl (by decide +kernel)
def codes1 : List Jvm.Cond := [Jvm.Cond.code x code maxLocals ret, Jvm.Cond.code ({ cls := "com/example/meterwright/meterwright/RecordBody$Reader", name := "<init>", desc := "([B)V" } : Jvm.MethodName) prog_25_method_1_code (2 : Nat) (Option.none : Option Jvm.ClassFile.FieldType), Jvm.Cond.code ({ cls := "java/lang/Object", name := "<init>", desc := "()V" } : Jvm.MethodName) object_method_1_code (1 : Nat) (Option.none : Option Jvm.ClassFile.FieldType), Jvm.Cond.code ({ cls := "java/util/ArrayList", name := "<init>", desc := "()V" } : Jvm.MethodName) jdk_38_method_2_code (1 : Nat) (Option.none : Option Jvm.ClassFile.FieldType), Jvm.Cond.code ({ cls := "java/util/AbstractList", name := "<init>", desc := "()V" } : Jvm.MethodName) jdk_39_method_1_code (1 : Nat) (Option.none : Option Jvm.ClassFile.FieldType), Jvm.Cond.code ({ cls := "java/util/AbstractCollection", name := "<init>", desc := "()V" } : Jvm.MethodName) jdk_22_method_1_code (1 : Nat) (Option.none : Option Jvm.ClassFile.FieldType), Jvm.Cond.code ({ cls := "com/example/meterwright/meterwright/RecordBody$Reader", name := "atEnd", desc := "()Z" } : Jvm.MethodName) prog_25_method_9_code (1 : Nat) (Option.some Jvm.ClassFile.FieldType.boolean), Jvm.Cond.code ({ cls := "com/example/meterwright/meterwright/RecordBody$Reader", name := "kind", desc := "()B" } : Jvm.MethodName) prog_25_method_2_code (1 : Nat) (Option.some Jvm.ClassFile.FieldType.byte)]
set_option maxRecDepth 65536 in
theorem codes_eq : words1.filter isCode = codes1 := rfl
theorem w_codes : ∀ c ∈ words1.filter isCode, c.before args0 about1 = true := by
  rw [codes_eq]
  intro c hc
  simp only [codes1, List.mem_cons, List.not_mem_nil, or_false] at hc
  rcases hc with rfl | rfl | rfl | rfl | rfl | rfl | rfl | rfl
  · exact w_c0
  · exact w_c1
  · exact w_c2
  · exact w_c3
  · exact w_c4
  · exact w_c5
  · exact w_c6
  · exact w_c7
set_option maxRecDepth 65536 in
theorem w_t1 : (words1.take 24).all (fun c => isCode c || c.before args0 about1) = true := by decide +kernel
set_option maxRecDepth 65536 in
theorem w_t2 : ((words1.drop 24).take 24).all (fun c => isCode c || c.before args0 about1) = true := by decide +kernel
set_option maxRecDepth 65536 in
theorem w_t3 : ((words1.drop 24).drop 24).all (fun c => isCode c || c.before args0 about1) = true := by decide +kernel
theorem w_tables : (allAtoms (Jvm.Cond.code x code maxLocals ret :: tables_1)).before args0 about1 = true := by
  rw [allAtoms_all]
  show words1.all (fun c => c.before args0 about1) = true
  refine all_split ?_ w_codes
  rw [← List.take_append_drop 24 words1, List.all_append, w_t1, ← List.take_append_drop 24 (words1.drop 24), List.all_append, w_t2, w_t3]
  rfl
set_option maxRecDepth 65536 in
theorem w_rest : rest_1_c.before args0 about1 = true := by decide +kernel
set_option maxRecDepth 65536 in
theorem w_case : (Jvm.Cond.and given_1 narrow_1).before args0 about1 = true := by decide +kernel
theorem w_applies : (headSpec (Jvm.Cond.code x code maxLocals ret :: tables_1) room_1).applies x e0.platform about1 = true :=
  (Spec.applies_iff w_frames).mpr ⟨w_running, w_runnable, w_alone, w_named, w_hears, w_ripe, w_room, w_tables⟩
theorem atStart : AtStart classFile x code maxLocals ret World_1 tables_1 room_1 Calls_1 rest_1 Pre_1 launch0 p0 e0 about1 theMethod args0 below0 :=
  ⟨lists_1, trivial, launch0.admits_env _ _ _, launch0.least_env, fairChoices_fair.cas, fairChoices_fair.clock, w_frames, w_args, w_heap, w_applies, trivial, w_rest, w_case⟩
end start1
theorem witness_1 : WitnessClaimed_1 := ⟨start1.p0, start1.e0, start1.about1, start1.theMethod, start1.args0, start1.below0, start1.atStart⟩
end Jvm.Pilot.@@N@@
