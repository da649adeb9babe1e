import JvmDerived
import JvmDerived.Pilot.@@N@@Statement
import JvmDerived.Pilot.@@N@@Code
set_option linter.unusedVariables false
set_option linter.unusedSimpArgs false
namespace Jvm.RoadKit
open Sem ClassFile Op Lib Jvm.Stand Jvm.Free Jvm.LawKit
section New
variable {p : Program} {l : Launch} {e : Env} {R : Room} {s : State} {m : MethodId} {args : Array Value} {below : List Frame} {meth : Method} {c : Code} {T : State} {locs : List Loc} {cells slots : Nat}
theorem retI (X : Stand p l e R s m args below meth c T locs cells slots) (hx : p.tables.exec = Jvm.exec) {pc : Nat} {Ls : Array Slot} {z : Int32} {rest : List Value} (hret : meth.sig.returnType = some .int) (hd : decode c.code pc = .ok (.ireturn, 1)) {fs : List Frame}
    (hl : ∀ (f : JFrame) (acts : List Action), f.method = m → f.locked = none → f.entered = [] → (doReturn e (T.setTop f) acts (some (.int z))).1 = T.setFrames fs) : Steps p.tables e below (T.setTop (mkF m pc Ls (.int z :: rest))) (T.setFrames fs) := by
  have hm' : T.vm.method? m = some meth := X.method'
  have hn : narrow .int (.int z) = .int z := rfl
  show Steps p.tables e below (T.setTop { method := m, pc := pc, locals := Ls, stack := _ :: rest, locked := none }) _
  jvm_step X.here [X.here.top, hx, hd, hm', hret, hn]
  first | (intro acts; rw [hl _ acts rfl rfl rfl]) | rw [hl _ _ rfl rfl rfl]
  exact Steps.refl _
end New
end Jvm.RoadKit
namespace Jvm.Pilot.@@N@@
open Jvm Jvm.ClassFile Sem Op Lib Jvm.Free Jvm.Stand Jvm.LawKit Jvm.RoadKit Bundle Jvm.Pilot.@@N@@.Jvm.D
theorem own_sta_keep0 {Z : State} {h h' : Heap} {C n d : String} {v : Value} (F : Sta Z h C n d v) (K : Keep h h' []) : Sta Z h' C n d v := by
  obtain ⟨cf, i, k, f, st, cell, h1, h2, h3, h4, h5, h6, h7⟩ := F
  exact ⟨cf, i, k, f, st, cell, h1, h2, h3, h4, K.2.1 _ _ h5 nin0, h6, h7⟩
theorem own_sta_keep1 {Z : State} {h h' : Heap} {C n d C' : String} {v : Value} {a : Addr} (F : Sta Z h C n d v) (K : Keep h h' [a]) (E : Exa Z h a C') : Sta Z h' C n d v := by
  obtain ⟨cf, i, k, f, st, cell, h1, h2, h3, h4, h5, h6, h7⟩ := F
  obtain ⟨ce, ke, g1, g2, g3, g4, g5⟩ := E
  refine ⟨cf, i, k, f, st, cell, h1, h2, h3, h4, K.2.1 _ _ h5 (ninS (fun q => ?_) nin0), h6, h7⟩
  subst q
  cases h5.symm.trans g1
  rw [h6] at g4; cases g4
theorem own_selpriv {s : State} {args : Array Value} {y y' : MethodName} (hcls : y'.cls = y.cls) (h : (Cond.selects y'.cls y' y').before args s = true) (hpriv : s.PrivateAt y) (hinst : (Cond.instanceMethod y).before args s = true) (hy : y.cls ≠ "java/lang/invoke/MethodHandle" ∧ y.cls ≠ "java/lang/invoke/VarHandle") : (Cond.selects y.cls y y).before args s = true := by
  obtain ⟨c2, r2, m2, -, -, q3, -, kP, hkP, hkPi⟩ := Cond.selects_spec h
  have hc := findClass_of_methodNamed q3
  rw [hcls] at hc
  exact selects_self_of_private hc hkP hkPi hpriv hinst hy
theorem pn_0 : plainName "java/util/AbstractCollection" = true := by first | (simp [plainName, overriddenIn]; done) | decide +kernel
theorem pn_1 : plainName "java/util/AbstractList" = true := by first | (simp [plainName, overriddenIn]; done) | decide +kernel
theorem pn_2 : plainName "java/util/ArrayList" = true := by first | (simp [plainName, overriddenIn]; done) | decide +kernel
theorem pn_3 : plainName "com/example/meterwright/meterwright/RecordBody$Reader" = true := by first | (simp [plainName, overriddenIn]; done) | decide +kernel
theorem pn_4 : plainName "com/example/meterwright/meterwright/ReaderAtEndPinLaw" = true := by first | (simp [plainName, overriddenIn]; done) | decide +kernel
theorem pd_0 : parseMethodDescriptor "()V" = some ⟨[], none⟩ := by decide +kernel
theorem pd_1 : parseMethodDescriptor "()J" = some ⟨[], some .long⟩ := by decide +kernel
theorem pd_2 : parseMethodDescriptor "([B)V" = some ⟨[(.array .byte)], none⟩ := by decide +kernel
theorem pd_3 : parseMethodDescriptor "()Z" = some ⟨[], some .boolean⟩ := by decide +kernel
theorem pd_4 : parseMethodDescriptor "()B" = some ⟨[], some .byte⟩ := by decide +kernel
theorem own_nb (x : Int32) : nar .byte (nar .byte x) = nar .byte x := by simp [nar]
theorem own_n5 (x : Int32) : ((x &&& (2147483647 : Int32)) % (5 : Int32)) = (0 : Int32) ∨ ((x &&& (2147483647 : Int32)) % (5 : Int32)) = (1 : Int32) ∨ ((x &&& (2147483647 : Int32)) % (5 : Int32)) = (2 : Int32) ∨ ((x &&& (2147483647 : Int32)) % (5 : Int32)) = (3 : Int32) ∨ ((x &&& (2147483647 : Int32)) % (5 : Int32)) = (4 : Int32) := by
  have h1 := c_mask x 2147483647 31 (by decide) (by decide)
  have h2 := (c_irem (x &&& (2147483647 : Int32)) (5 : Int32) 5 (by decide)).1 (by omega)
  have h3 : ((x &&& (2147483647 : Int32)) % (5 : Int32)).toInt = 0 ∨ ((x &&& (2147483647 : Int32)) % (5 : Int32)).toInt = 1 ∨ ((x &&& (2147483647 : Int32)) % (5 : Int32)).toInt = 2 ∨ ((x &&& (2147483647 : Int32)) % (5 : Int32)).toInt = 3 ∨ ((x &&& (2147483647 : Int32)) % (5 : Int32)).toInt = 4 := by omega
  rcases h3 with h | h | h | h | h
  · exact Or.inl (Int32.toInt_inj.mp (h.trans (by decide)))
  · exact Or.inr (Or.inl (Int32.toInt_inj.mp (h.trans (by decide))))
  · exact Or.inr (Or.inr (Or.inl (Int32.toInt_inj.mp (h.trans (by decide)))))
  · exact Or.inr (Or.inr (Or.inr (Or.inl (Int32.toInt_inj.mp (h.trans (by decide))))))
  · exact Or.inr (Or.inr (Or.inr (Or.inr ((Int32.toInt_inj.mp (h.trans (by decide)))))))
theorem d1_0 : decode jdk_22_method_1_code 0 = .ok (.aload_n 0, 1) := by decide +kernel
theorem d1_1 : decode jdk_22_method_1_code 1 = .ok (.invokespecial 1, 3) := by decide +kernel
theorem d1_4 : decode jdk_22_method_1_code 4 = .ok (.return_, 1) := by decide +kernel
theorem ef_1 (m : MethodId) (x0 : Addr) : entryFrame m #[(.ref x0)] 1 = (mkF m 0 #[.val (.ref x0)] []) := by first | (simp [entryFrame, mkF, argsToLocals, Value.category]; done) | rfl
def Q1 (Z : State) (a : Addr) (h0 : Heap) (n0 : Nat) (vX : Option Value) (hX : Heap) (lX : List Loc) : Prop := vX = none ∧ Fr n0 lX ∧ (hX = h0)
set_option maxRecDepth 65536 in
set_option maxHeartbeats 40000000 in
theorem rm1 (l : Launch) (Z : State) (a0 : Array Value) (hw : ∀ d ∈ tables_1, d.before a0 Z = true) (ws : List Jvm.Cond) (a : Addr) (h0 : Heap) (n0 : Nat) (Z0 : n0 ≤ h0.size)  :
    MetFree l (⟨"java/util/AbstractCollection", "<init>", "()V"⟩ : MethodName) (head1 (Jvm.Cond.code (⟨"java/util/AbstractCollection", "<init>", "()V"⟩ : MethodName) jdk_22_method_1_code 1 none :: ws) ({ frames := 1, cells := 0, slots := 0, locals := 12 } : Room)) (fun aX uX => aX = #[(.ref a)] ∧ Z.Warmed39 uX.vm ∧ uX.heap = h0) (fun _ _ _ _ _ => True) (fun _ uX oX wX => ∃ vX lX, oX = .returned vX ∧ Q1 Z a h0 n0 vX wX.heap lX ∧ FrameEnd uX oX wX lX ({ frames := 1, cells := 0, slots := 0, locals := 12 } : Room).cells ({ frames := 1, cells := 0, slots := 0, locals := 12 } : Room).slots) := by
  refine MetFree.of_bodySF (plainFor_of_name pn_0) hisR ?_
  intro p e s m args below meth c s₁ Bd hml0 hP hK
  obtain ⟨rfl, hZ, hh⟩ := hP
  have hx := Bd.exec
  have hby := Bd.bytes
  have hml : c.maxLocals = 1 := hml0
  have hown : s.vm.findClass "java/util/AbstractCollection" = some m.cls := findClass_of_methodNamed Bd.named
  have hnm := (name_of_methodNamed Bd.named Bd.method).1
  have X0 : Stand p l e ({ frames := 1, cells := 0, slots := 0, locals := 12 } : Room) s m #[(.ref a)] below meth c s₁ [] 0 0 := Stand.of_body Bd
  have e0 : s₁.heap = h0 := by rw [← hh, Bd.state]; rfl
  have N0 := Fr.nil n0
  have pre0 : ∀ t, Steps p.tables e below (s₁.setTop (mkF m 0 #[.val (.ref a)] [])) t → Steps p.tables e below (s₁.setTop (entryFrame m #[(.ref a)] 1)) t := fun t k => castTop (ef_1 m a) k
  obtain ⟨T1, X1, e1, st1⟩ := initO X0 hx hZ hown (hw _ (List.mem_of_getElem? (i := 29) rfl)) (hw _ (List.mem_of_getElem? (i := 9) rfl)) (hw _ (List.mem_of_getElem? (i := 10) rfl)) e0 (g := (mkF m 1 #[.val (.ref a)] [(.ref a)])) rfl (by rw [hml]; rfl) rfl (hb hby d1_1) (by decide) (W := 0) (by show 2 * 0 + _ ≤ _; exact Nat.le_of_eq rfl) (by decide)
  have P2 : ∀ t, Steps p.tables e below (T1.setTop (mkF m 4 #[.val (.ref a)] [])) t → Steps p.tables e below (s₁.setTop (entryFrame m #[(.ref a)] 1)) t := by
    intro t kk
    refine pre0 _ ?_
    show Steps p.tables e below (s₁.setTop (mkF m 0 #[.val (.ref a)] [])) _
    refine XS.aloadN X0.here hx rfl (hb hby d1_0) rfl rfl ?_
    show Steps p.tables e below (s₁.setTop (mkF m 1 #[.val (.ref a)] [(.ref a)])) _
    refine st1 _ ?_
    show Steps p.tables e below (T1.setTop (mkF m 4 #[.val (.ref a)] [])) _
    exact kk
  obtain ⟨fs, hr, hrun, hended, hW, hsame⟩ := X1.leave (v := none) (fun _ => rfl)
  refine ⟨_, _, P2 _ ?_, hrun, hended, _, _, rfl, ?_, ⟨_, rfl⟩, hW, hsame.mono (by decide) (by decide)⟩
  · exact X1.returnOut hx Bd.returns (hb hby d1_4) hr
  · show Q1 Z a h0 n0 _ T1.heap _
    rw [e1]
    exact ⟨rfl, N0, rfl⟩
theorem d2_0 : decode jdk_39_method_1_code 0 = .ok (.aload_n 0, 1) := by decide +kernel
theorem d2_1 : decode jdk_39_method_1_code 1 = .ok (.invokespecial 1, 3) := by decide +kernel
theorem d2_4 : decode jdk_39_method_1_code 4 = .ok (.aload_n 0, 1) := by decide +kernel
theorem d2_5 : decode jdk_39_method_1_code 5 = .ok (.iconst 0, 1) := by decide +kernel
theorem d2_6 : decode jdk_39_method_1_code 6 = .ok (.putfield 7, 3) := by decide +kernel
theorem d2_9 : decode jdk_39_method_1_code 9 = .ok (.return_, 1) := by decide +kernel
theorem ef_2 (m : MethodId) (x0 : Addr) : entryFrame m #[(.ref x0)] 1 = (mkF m 0 #[.val (.ref x0)] []) := by first | (simp [entryFrame, mkF, argsToLocals, Value.category]; done) | rfl
def Q2 (Z : State) (a : Addr) (u : Int32) (h0 : Heap) (n0 : Nat) (vX : Option Value) (hX : Heap) (lX : List Loc) : Prop := vX = none ∧ Fr n0 lX ∧ (Keep h0 hX [a]) ∧ (Fld Z hX a "java/util/AbstractList" "modCount" "I" (.int (0 : Int32))) ∧ (Fld Z hX a "java/util/ArrayList" "elementData" "[Ljava/lang/Object;" .null)
set_option maxRecDepth 65536 in
set_option maxHeartbeats 40000000 in
theorem rm2 (l : Launch) (Z : State) (a0 : Array Value) (hw : ∀ d ∈ tables_1, d.before a0 Z = true) (ws : List Jvm.Cond) (a : Addr) (u : Int32) (h0 : Heap) (n0 : Nat) (Z0 : n0 ≤ h0.size) (pr0 : Exa Z h0 a "java/util/ArrayList") (pr1 : Fld Z h0 a "java/util/AbstractList" "modCount" "I" (.int u)) (pr2 : n0 ≤ a) (pr3 : Fld Z h0 a "java/util/ArrayList" "elementData" "[Ljava/lang/Object;" .null) :
    MetFree l (⟨"java/util/AbstractList", "<init>", "()V"⟩ : MethodName) (head1 (Jvm.Cond.code (⟨"java/util/AbstractList", "<init>", "()V"⟩ : MethodName) jdk_39_method_1_code 1 none :: ws) ({ frames := 2, cells := 0, slots := 0, locals := 24 } : Room)) (fun aX uX => aX = #[(.ref a)] ∧ Z.Warmed39 uX.vm ∧ uX.heap = h0) (fun _ _ _ _ _ => True) (fun _ uX oX wX => ∃ vX lX, oX = .returned vX ∧ Q2 Z a u h0 n0 vX wX.heap lX ∧ FrameEnd uX oX wX lX ({ frames := 2, cells := 0, slots := 0, locals := 24 } : Room).cells ({ frames := 2, cells := 0, slots := 0, locals := 24 } : Room).slots) := by
  refine MetFree.of_bodySF (plainFor_of_name pn_1) hisR ?_
  intro p e s m args below meth c s₁ Bd hml0 hP hK
  obtain ⟨rfl, hZ, hh⟩ := hP
  have hx := Bd.exec
  have hby := Bd.bytes
  have hml : c.maxLocals = 1 := hml0
  have hown : s.vm.findClass "java/util/AbstractList" = some m.cls := findClass_of_methodNamed Bd.named
  have hnm := (name_of_methodNamed Bd.named Bd.method).1
  have X0 : Stand p l e ({ frames := 2, cells := 0, slots := 0, locals := 24 } : Room) s m #[(.ref a)] below meth c s₁ [] 0 0 := Stand.of_body Bd
  have e0 : s₁.heap = h0 := by rw [← hh, Bd.state]; rfl
  have N0 := Fr.nil n0
  have pre0 : ∀ t, Steps p.tables e below (s₁.setTop (mkF m 0 #[.val (.ref a)] [])) t → Steps p.tables e below (s₁.setTop (entryFrame m #[(.ref a)] 1)) t := fun t k => castTop (ef_2 m a) k
  obtain ⟨_, _, ⟨T1, L1, k1, n1⟩, -, X1, ⟨Lc1, hQ1, l1, y1, z1⟩, st1⟩ := X0.specialBack hx (y := (⟨"java/util/AbstractCollection", "<init>", "()V"⟩ : MethodName)) rfl hown (mvT hZ (hw _ (List.mem_of_getElem? (i := 23) rfl))) (mvT hZ (hw _ (List.mem_of_getElem? (i := 24) rfl))) (mvT hZ (hw _ (List.mem_of_getElem? (i := 28) rfl))) (by decide) (backOf (W := 0) (rm1 l Z a0 hw [] a h0 n0 Z0 ) hZ (hw _ (List.mem_of_getElem? (i := 28) rfl)) (hw _ (List.mem_of_getElem? (i := 27) rfl)) (by decide) (by decide)) (g := (mkF m 1 #[.val (.ref a)] [(.ref a)])) rfl (by rw [hml]; rfl) (Steps.refl _) (a := a) (argsL := []) (rest := []) (lenOf pd_0 rfl) rfl (by show 2 * 0 + _ ≤ _; exact Nat.le_of_eq rfl) (hb hby d2_1) (fun _ _ => ⟨rfl, e0, (by decide : 0 + 0 ≤ _), (by decide : 0 + 0 ≤ _)⟩)
  dsimp only [Pt.U, Pt.locs, Pt.cells, Pt.slots] at X1 l1 y1 z1 st1 hQ1
  subst l1 y1 z1
  obtain ⟨rfl, Nq1, e1⟩ := hQ1
  have N1 := Fr.app N0 Nq1
  obtain ⟨T2, h2, X2, e2, W2, st2⟩ := putF X1 hx hZ hown (host := "") (Or.inl (hw _ (List.mem_of_getElem? (i := 30) rfl))) Via.refl e1 pr1 pr0 (Or.inl (hw _ (List.mem_of_getElem? (i := 31) rfl))) (hw _ (List.mem_of_getElem? (i := 12) rfl)) (ty := .int) (by decide) rfl rfl (g := (mkF m 6 #[.val (.ref a)] [(.int (0 : Int32)), (.ref a)])) rfl rfl (hb hby d2_6)
  have N2 := Fr.snoc X2 N1 pr2
  have Fw2 := Fld.same W2 pr1
  have P3 : ∀ t, Steps p.tables e below (T2.setTop (mkF m 9 #[.val (.ref a)] [])) t → Steps p.tables e below (s₁.setTop (entryFrame m #[(.ref a)] 1)) t := by
    intro t kk
    refine pre0 _ ?_
    show Steps p.tables e below (s₁.setTop (mkF m 0 #[.val (.ref a)] [])) _
    refine XS.aloadN X0.here hx rfl (hb hby d2_0) rfl rfl ?_
    show Steps p.tables e below (s₁.setTop (mkF m 1 #[.val (.ref a)] [(.ref a)])) _
    refine st1.trans ?_
    show Steps p.tables e below (T1.setTop (mkF m 4 #[.val (.ref a)] [])) _
    refine XS.aloadN X1.here hx rfl (hb hby d2_4) rfl rfl ?_
    show Steps p.tables e below (T1.setTop (mkF m 5 #[.val (.ref a)] [(.ref a)])) _
    refine XS.iconst X1.here hx rfl (hb hby d2_5) ?_
    show Steps p.tables e below (T1.setTop (mkF m 6 #[.val (.ref a)] [(.int (0 : Int32)), (.ref a)])) _
    refine st2 _ ?_
    show Steps p.tables e below (T2.setTop (mkF m 9 #[.val (.ref a)] [])) _
    exact kk
  have k4 : Keep h0 h2 [a] := (Keep.wr (Keep.refl h0 [a]) W2 (Or.inl (List.mem_of_getElem? (i := 0) rfl)))
  have f5 := (Fld.other W2 pr3 (Or.inr (slot_ne (Or.inl (hw _ (List.mem_of_getElem? (i := 34) rfl))) (Or.inl (hw _ (List.mem_of_getElem? (i := 31) rfl))) (by decide) (t := (.array (.object "java/lang/Object"))) (t' := .int) (by decide) (by decide))))
  obtain ⟨fs, hr, hrun, hended, hW, hsame⟩ := X2.leave (v := none) (fun _ => rfl)
  refine ⟨_, _, P3 _ ?_, hrun, hended, _, _, rfl, ?_, ⟨_, rfl⟩, hW, hsame.mono (by decide) (by decide)⟩
  · exact X2.returnOut hx Bd.returns (hb hby d2_9) hr
  · show Q2 Z a u h0 n0 _ T2.heap _
    rw [e2]
    exact ⟨rfl, N2, k4, Fw2, f5⟩
theorem d3_0 : decode jdk_38_method_2_code 0 = .ok (.aload_n 0, 1) := by decide +kernel
theorem d3_1 : decode jdk_38_method_2_code 1 = .ok (.invokespecial 1, 3) := by decide +kernel
theorem d3_4 : decode jdk_38_method_2_code 4 = .ok (.aload_n 0, 1) := by decide +kernel
theorem d3_5 : decode jdk_38_method_2_code 5 = .ok (.getstatic 39, 3) := by decide +kernel
theorem d3_8 : decode jdk_38_method_2_code 8 = .ok (.putfield 9, 3) := by decide +kernel
theorem d3_11 : decode jdk_38_method_2_code 11 = .ok (.return_, 1) := by decide +kernel
theorem ef_3 (m : MethodId) (x0 : Addr) : entryFrame m #[(.ref x0)] 1 = (mkF m 0 #[.val (.ref x0)] []) := by first | (simp [entryFrame, mkF, argsToLocals, Value.category]; done) | rfl
def Q3 (Z : State) (a : Addr) (u : Int32) (sd : Addr) (h0 : Heap) (n0 : Nat) (vX : Option Value) (hX : Heap) (lX : List Loc) : Prop := vX = none ∧ Fr n0 lX ∧ (Keep h0 hX [a]) ∧ (Fld Z hX a "java/util/ArrayList" "elementData" "[Ljava/lang/Object;" (.ref sd))
set_option maxRecDepth 65536 in
set_option maxHeartbeats 40000000 in
theorem rm3 (l : Launch) (Z : State) (a0 : Array Value) (hw : ∀ d ∈ tables_1, d.before a0 Z = true) (ws : List Jvm.Cond) (a : Addr) (u : Int32) (sd : Addr) (h0 : Heap) (n0 : Nat) (Z0 : n0 ≤ h0.size) (pr0 : Exa Z h0 a "java/util/ArrayList") (pr1 : Fld Z h0 a "java/util/AbstractList" "modCount" "I" (.int u)) (pr2 : Fld Z h0 a "java/util/ArrayList" "elementData" "[Ljava/lang/Object;" .null) (pr3 : n0 ≤ a) (pr4 : Sta Z h0 "java/util/ArrayList" "DEFAULTCAPACITY_EMPTY_ELEMENTDATA" "[Ljava/lang/Object;" (.ref sd)) :
    MetFree l (⟨"java/util/ArrayList", "<init>", "()V"⟩ : MethodName) (head1 (Jvm.Cond.code (⟨"java/util/ArrayList", "<init>", "()V"⟩ : MethodName) jdk_38_method_2_code 1 none :: ws) ({ frames := 3, cells := 0, slots := 0, locals := 36 } : Room)) (fun aX uX => aX = #[(.ref a)] ∧ Z.Warmed39 uX.vm ∧ uX.heap = h0) (fun _ _ _ _ _ => True) (fun _ uX oX wX => ∃ vX lX, oX = .returned vX ∧ Q3 Z a u sd h0 n0 vX wX.heap lX ∧ FrameEnd uX oX wX lX ({ frames := 3, cells := 0, slots := 0, locals := 36 } : Room).cells ({ frames := 3, cells := 0, slots := 0, locals := 36 } : Room).slots) := by
  refine MetFree.of_bodySF (plainFor_of_name pn_2) hisR ?_
  intro p e s m args below meth c s₁ Bd hml0 hP hK
  obtain ⟨rfl, hZ, hh⟩ := hP
  have hx := Bd.exec
  have hby := Bd.bytes
  have hml : c.maxLocals = 1 := hml0
  have hown : s.vm.findClass "java/util/ArrayList" = some m.cls := findClass_of_methodNamed Bd.named
  have hnm := (name_of_methodNamed Bd.named Bd.method).1
  have X0 : Stand p l e ({ frames := 3, cells := 0, slots := 0, locals := 36 } : Room) s m #[(.ref a)] below meth c s₁ [] 0 0 := Stand.of_body Bd
  have e0 : s₁.heap = h0 := by rw [← hh, Bd.state]; rfl
  have N0 := Fr.nil n0
  have pre0 : ∀ t, Steps p.tables e below (s₁.setTop (mkF m 0 #[.val (.ref a)] [])) t → Steps p.tables e below (s₁.setTop (entryFrame m #[(.ref a)] 1)) t := fun t k => castTop (ef_3 m a) k
  obtain ⟨_, _, ⟨T1, L1, k1, n1⟩, -, X1, ⟨Lc1, hQ1, l1, y1, z1⟩, st1⟩ := X0.specialBack hx (y := (⟨"java/util/AbstractList", "<init>", "()V"⟩ : MethodName)) rfl hown (mvT hZ (hw _ (List.mem_of_getElem? (i := 17) rfl))) (mvT hZ (hw _ (List.mem_of_getElem? (i := 18) rfl))) (mvT hZ (hw _ (List.mem_of_getElem? (i := 22) rfl))) (by decide) (backOf (W := 0) (rm2 l Z a0 hw [] a u h0 n0 Z0 pr0 pr1 pr3 pr2) hZ (hw _ (List.mem_of_getElem? (i := 22) rfl)) (hw _ (List.mem_of_getElem? (i := 21) rfl)) (by decide) (by decide)) (g := (mkF m 1 #[.val (.ref a)] [(.ref a)])) rfl (by rw [hml]; rfl) (Steps.refl _) (a := a) (argsL := []) (rest := []) (lenOf pd_0 rfl) rfl (by show 2 * 0 + _ ≤ _; exact Nat.le_of_eq rfl) (hb hby d3_1) (fun _ _ => ⟨rfl, e0, (by decide : 0 + 0 ≤ _), (by decide : 0 + 0 ≤ _)⟩)
  dsimp only [Pt.U, Pt.locs, Pt.cells, Pt.slots] at X1 l1 y1 z1 st1 hQ1
  subst l1 y1 z1
  obtain ⟨rfl, Nq1, K1, q1_0, q1_1⟩ := hQ1
  have N1 := Fr.app N0 Nq1
  have f2 := (own_sta_keep1 pr4 K1 pr0)
  obtain ⟨T3, X3, e3, st3⟩ := getS2 X1 hx hZ hown (host := "") (Or.inl (hw _ (List.mem_of_getElem? (i := 32) rfl))) Via.refl rfl f2 (g := (mkF m 5 #[.val (.ref a)] [(.ref a)])) rfl (hb hby d3_5)
  have f4 := (Exa.keep pr0 K1)
  obtain ⟨T5, h5, X5, e5, W5, st5⟩ := putF X3 hx hZ hown (host := "") (Or.inl (hw _ (List.mem_of_getElem? (i := 33) rfl))) Via.refl e3 q1_1 f4 (Or.inl (hw _ (List.mem_of_getElem? (i := 34) rfl))) (hw _ (List.mem_of_getElem? (i := 12) rfl)) (ty := (.array (.object "java/lang/Object"))) (by decide) rfl rfl (g := (mkF m 8 #[.val (.ref a)] [(.ref sd), (.ref a)])) rfl rfl (hb hby d3_8)
  have N5 := Fr.snoc X5 N1 pr3
  have Fw5 := Fld.same W5 q1_1
  have P6 : ∀ t, Steps p.tables e below (T5.setTop (mkF m 11 #[.val (.ref a)] [])) t → Steps p.tables e below (s₁.setTop (entryFrame m #[(.ref a)] 1)) t := by
    intro t kk
    refine pre0 _ ?_
    show Steps p.tables e below (s₁.setTop (mkF m 0 #[.val (.ref a)] [])) _
    refine XS.aloadN X0.here hx rfl (hb hby d3_0) rfl rfl ?_
    show Steps p.tables e below (s₁.setTop (mkF m 1 #[.val (.ref a)] [(.ref a)])) _
    refine st1.trans ?_
    show Steps p.tables e below (T1.setTop (mkF m 4 #[.val (.ref a)] [])) _
    refine XS.aloadN X1.here hx rfl (hb hby d3_4) rfl rfl ?_
    show Steps p.tables e below (T1.setTop (mkF m 5 #[.val (.ref a)] [(.ref a)])) _
    refine st3 _ ?_
    show Steps p.tables e below (T3.setTop (mkF m 8 #[.val (.ref a)] [(.ref sd), (.ref a)])) _
    refine st5 _ ?_
    show Steps p.tables e below (T5.setTop (mkF m 11 #[.val (.ref a)] [])) _
    exact kk
  have k7 : Keep h0 h5 [a] := (Keep.wr (Keep.trans (Keep.refl h0 [a]) K1 (allS (Or.inl (List.mem_of_getElem? (i := 0) rfl)) all0)) W5 (Or.inl (List.mem_of_getElem? (i := 0) rfl)))
  obtain ⟨fs, hr, hrun, hended, hW, hsame⟩ := X5.leave (v := none) (fun _ => rfl)
  refine ⟨_, _, P6 _ ?_, hrun, hended, _, _, rfl, ?_, ⟨_, rfl⟩, hW, hsame.mono (by decide) (by decide)⟩
  · exact X5.returnOut hx Bd.returns (hb hby d3_11) hr
  · show Q3 Z a u sd h0 n0 _ T5.heap _
    rw [e5]
    exact ⟨rfl, N5, k7, Fw5⟩
theorem d4_0 : decode prog_25_method_1_code 0 = .ok (.aload_n 0, 1) := by decide +kernel
theorem d4_1 : decode prog_25_method_1_code 1 = .ok (.invokespecial 3, 3) := by decide +kernel
theorem d4_4 : decode prog_25_method_1_code 4 = .ok (.aload_n 0, 1) := by decide +kernel
theorem d4_5 : decode prog_25_method_1_code 5 = .ok (.new 9, 3) := by decide +kernel
theorem d4_8 : decode prog_25_method_1_code 8 = .ok (.dup, 1) := by decide +kernel
theorem d4_9 : decode prog_25_method_1_code 9 = .ok (.invokespecial 11, 3) := by decide +kernel
theorem d4_12 : decode prog_25_method_1_code 12 = .ok (.putfield 12, 3) := by decide +kernel
theorem d4_15 : decode prog_25_method_1_code 15 = .ok (.aload_n 0, 1) := by decide +kernel
theorem d4_16 : decode prog_25_method_1_code 16 = .ok (.aload_n 1, 1) := by decide +kernel
theorem d4_17 : decode prog_25_method_1_code 17 = .ok (.putfield 18, 3) := by decide +kernel
theorem d4_20 : decode prog_25_method_1_code 20 = .ok (.return_, 1) := by decide +kernel
theorem ef_4 (m : MethodId) (x0 : Addr) (x1 : Addr) : entryFrame m #[(.ref x0), (.ref x1)] 2 = (mkF m 0 #[.val (.ref x0), .val (.ref x1)] []) := by first | (simp [entryFrame, mkF, argsToLocals, Value.category]; done) | rfl
def Q4 (Z : State) (a : Addr) (b : Addr) (sd : Addr) (h0 : Heap) (n0 : Nat) (vX : Option Value) (hX : Heap) (lX : List Loc) : Prop := vX = none ∧ Fr n0 lX ∧ (Keep h0 hX [a]) ∧ (Fld Z hX a "com/example/meterwright/meterwright/RecordBody$Reader" "bytes" "[B" (.ref b)) ∧ (Fld Z hX a "com/example/meterwright/meterwright/RecordBody$Reader" "position" "I" (.int (0 : Int32)))
set_option maxRecDepth 65536 in
set_option maxHeartbeats 40000000 in
theorem rm4 (l : Launch) (Z : State) (a0 : Array Value) (hw : ∀ d ∈ tables_1, d.before a0 Z = true) (ws : List Jvm.Cond) (a : Addr) (b : Addr) (sd : Addr) (h0 : Heap) (n0 : Nat) (Z0 : n0 ≤ h0.size) (pr0 : Exa Z h0 a "com/example/meterwright/meterwright/RecordBody$Reader") (pr1 : Fld Z h0 a "com/example/meterwright/meterwright/RecordBody$Reader" "texts" "Ljava/util/List;" .null) (pr2 : Fld Z h0 a "com/example/meterwright/meterwright/RecordBody$Reader" "bytes" "[B" .null) (pr3 : Fld Z h0 a "com/example/meterwright/meterwright/RecordBody$Reader" "position" "I" (.int (0 : Int32))) (pr4 : n0 ≤ a) (pr5 : Sta Z h0 "java/util/ArrayList" "DEFAULTCAPACITY_EMPTY_ELEMENTDATA" "[Ljava/lang/Object;" (.ref sd)) :
    MetFree l (⟨"com/example/meterwright/meterwright/RecordBody$Reader", "<init>", "([B)V"⟩ : MethodName) (head1 (Jvm.Cond.code (⟨"com/example/meterwright/meterwright/RecordBody$Reader", "<init>", "([B)V"⟩ : MethodName) prog_25_method_1_code 2 none :: ws) ({ frames := 4, cells := 1, slots := 3, locals := 50 } : Room)) (fun aX uX => aX = #[(.ref a), (.ref b)] ∧ Z.Warmed39 uX.vm ∧ uX.heap = h0) (fun _ _ _ _ _ => True) (fun _ uX oX wX => ∃ vX lX, oX = .returned vX ∧ Q4 Z a b sd h0 n0 vX wX.heap lX ∧ FrameEnd uX oX wX lX ({ frames := 4, cells := 1, slots := 3, locals := 50 } : Room).cells ({ frames := 4, cells := 1, slots := 3, locals := 50 } : Room).slots) := by
  refine MetFree.of_bodySF (plainFor_of_name pn_3) hisR ?_
  intro p e s m args below meth c s₁ Bd hml0 hP hK
  obtain ⟨rfl, hZ, hh⟩ := hP
  have hx := Bd.exec
  have hby := Bd.bytes
  have hml : c.maxLocals = 2 := hml0
  have hown : s.vm.findClass "com/example/meterwright/meterwright/RecordBody$Reader" = some m.cls := findClass_of_methodNamed Bd.named
  have hnm := (name_of_methodNamed Bd.named Bd.method).1
  have X0 : Stand p l e ({ frames := 4, cells := 1, slots := 3, locals := 50 } : Room) s m #[(.ref a), (.ref b)] below meth c s₁ [] 0 0 := Stand.of_body Bd
  have e0 : s₁.heap = h0 := by rw [← hh, Bd.state]; rfl
  have N0 := Fr.nil n0
  have pre0 : ∀ t, Steps p.tables e below (s₁.setTop (mkF m 0 #[.val (.ref a), .val (.ref b)] [])) t → Steps p.tables e below (s₁.setTop (entryFrame m #[(.ref a), (.ref b)] 2)) t := fun t k => castTop (ef_4 m a b) k
  obtain ⟨T1, X1, e1, st1⟩ := initO X0 hx hZ hown (hw _ (List.mem_of_getElem? (i := 8) rfl)) (hw _ (List.mem_of_getElem? (i := 9) rfl)) (hw _ (List.mem_of_getElem? (i := 10) rfl)) e0 (g := (mkF m 1 #[.val (.ref a), .val (.ref b)] [(.ref a)])) rfl (by rw [hml]; rfl) rfl (hb hby d4_1) (by decide) (W := 0) (by show 2 * 0 + _ ≤ _; exact Nat.le_of_eq rfl) (by decide)
  obtain ⟨T2, h2, X2, e2, E2, A2, D2, -, st2⟩ := newO X1 hx hZ hown (hw _ (List.mem_of_getElem? (i := 11) rfl)) (hw _ (List.mem_of_getElem? (i := 12) rfl)) (hw _ (List.mem_of_getElem? (i := 13) rfl)) e1 (g := (mkF m 5 #[.val (.ref a), .val (.ref b)] [(.ref a)])) rfl (hb hby d4_5) (by decide) (by decide)
  obtain ⟨b2, g_b2⟩ : ∃ z, z = h0.size := ⟨_, rfl⟩
  rw [← g_b2] at A2 D2 st2
  have ne_a_b2 : a ≠ b2 := Nat.ne_of_lt (Nat.lt_of_lt_of_le pr0.lt (Nat.le_of_eq g_b2.symm))
  have ge_b2 : n0 ≤ b2 := Nat.le_trans Z0 (Nat.le_of_eq g_b2.symm)
  have sz_b2 : h0.size ≤ b2 := Nat.le_trans (Keep.refl h0 [a]).1 (Nat.le_of_eq g_b2.symm)
  have F2_31 : Fld Z h2 b2 "java/util/AbstractList" "modCount" "I" (.int (0 : Int32)) := D2 (Or.inl (hw _ (List.mem_of_getElem? (i := 31) rfl))) (ty := .int) (by decide)
  have F2_34 : Fld Z h2 b2 "java/util/ArrayList" "elementData" "[Ljava/lang/Object;" .null := D2 (Or.inl (hw _ (List.mem_of_getElem? (i := 34) rfl))) (ty := (.array (.object "java/lang/Object"))) (by decide)
  have f4 := (Sta.ext E2 pr5)
  have z5 : n0 ≤ _ := (Nat.le_trans Z0 E2.1)
  obtain ⟨_, _, ⟨T3, L3, k3, n3⟩, -, X3, ⟨Lc3, hQ3, l3, y3, z3⟩, st3⟩ := X2.specialBack hx (y := (⟨"java/util/ArrayList", "<init>", "()V"⟩ : MethodName)) rfl hown (mvT hZ (hw _ (List.mem_of_getElem? (i := 14) rfl))) (mvT hZ (hw _ (List.mem_of_getElem? (i := 15) rfl))) (mvT hZ (hw _ (List.mem_of_getElem? (i := 16) rfl))) (by decide) (backOf (W := 2) (rm3 l Z a0 hw [] b2 (0 : Int32) sd h2 n0 z5 A2 F2_31 F2_34 ge_b2 f4) hZ (hw _ (List.mem_of_getElem? (i := 16) rfl)) (hw _ (List.mem_of_getElem? (i := 13) rfl)) (by decide) (by decide)) (g := (mkF m 9 #[.val (.ref a), .val (.ref b)] [(.ref b2), (.ref b2), (.ref a)])) rfl (by rw [hml]; rfl) (Steps.refl _) (a := b2) (argsL := []) (rest := [(.ref b2), (.ref a)]) (lenOf pd_0 rfl) rfl (by show 2 * 0 + _ ≤ _; exact Nat.le_of_eq rfl) (hb hby d4_9) (fun _ _ => ⟨rfl, e2, (by decide : 1 + 0 ≤ _), (by decide : 3 + 0 ≤ _)⟩)
  dsimp only [Pt.U, Pt.locs, Pt.cells, Pt.slots] at X3 l3 y3 z3 st3 hQ3
  subst l3 y3 z3
  obtain ⟨rfl, Nq3, K3, q3_0⟩ := hQ3
  have N3 := Fr.app N0 Nq3
  have f6 := (Exa.keep (Exa.ext E2 pr0) K3)
  have f7 := (Fld.keep (Fld.ext E2 pr1) K3 (ninS ne_a_b2 nin0))
  obtain ⟨T8, h8, X8, e8, W8, st8⟩ := putF X3 hx hZ hown (host := "") (Or.inl (hw _ (List.mem_of_getElem? (i := 35) rfl))) Via.refl rfl f7 f6 (Or.inr ⟨(hw _ (List.mem_of_getElem? (i := 36) rfl)), rfl, hnm⟩) (hw _ (List.mem_of_getElem? (i := 3) rfl)) (ty := (.object "java/util/List")) (by decide) rfl rfl (g := (mkF m 12 #[.val (.ref a), .val (.ref b)] [(.ref b2), (.ref a)])) rfl rfl (hb hby d4_12)
  have N8 := Fr.snoc X8 N3 pr4
  have Fw8 := Fld.same W8 f7
  have f9 := (Exa.wr W8 f6)
  have f10 := (Fld.other W8 (Fld.keep (Fld.ext E2 pr2) K3 (ninS ne_a_b2 nin0)) (Or.inr (slot_ne (Or.inr (hw _ (List.mem_of_getElem? (i := 38) rfl))) (Or.inr (hw _ (List.mem_of_getElem? (i := 36) rfl))) (by decide) (t := (.array .byte)) (t' := (.object "java/util/List")) (by decide) (by decide))))
  obtain ⟨T11, h11, X11, e11, W11, st11⟩ := putF X8 hx hZ hown (host := "") (Or.inl (hw _ (List.mem_of_getElem? (i := 37) rfl))) Via.refl e8 f10 f9 (Or.inr ⟨(hw _ (List.mem_of_getElem? (i := 38) rfl)), rfl, hnm⟩) (hw _ (List.mem_of_getElem? (i := 3) rfl)) (ty := (.array .byte)) (by decide) rfl rfl (g := (mkF m 17 #[.val (.ref a), .val (.ref b)] [(.ref b), (.ref a)])) rfl rfl (hb hby d4_17)
  have N11 := Fr.snoc X11 N8 pr4
  have Fw11 := Fld.same W11 f10
  have P12 : ∀ t, Steps p.tables e below (T11.setTop (mkF m 20 #[.val (.ref a), .val (.ref b)] [])) t → Steps p.tables e below (s₁.setTop (entryFrame m #[(.ref a), (.ref b)] 2)) t := by
    intro t kk
    refine pre0 _ ?_
    show Steps p.tables e below (s₁.setTop (mkF m 0 #[.val (.ref a), .val (.ref b)] [])) _
    refine XS.aloadN X0.here hx rfl (hb hby d4_0) rfl rfl ?_
    show Steps p.tables e below (s₁.setTop (mkF m 1 #[.val (.ref a), .val (.ref b)] [(.ref a)])) _
    refine st1 _ ?_
    show Steps p.tables e below (T1.setTop (mkF m 4 #[.val (.ref a), .val (.ref b)] [])) _
    refine XS.aloadN X1.here hx rfl (hb hby d4_4) rfl rfl ?_
    show Steps p.tables e below (T1.setTop (mkF m 5 #[.val (.ref a), .val (.ref b)] [(.ref a)])) _
    refine st2 _ ?_
    show Steps p.tables e below (T2.setTop (mkF m 8 #[.val (.ref a), .val (.ref b)] [(.ref b2), (.ref a)])) _
    refine XS.dup X2.here hx rfl (hb hby d4_8) rfl rfl ?_
    show Steps p.tables e below (T2.setTop (mkF m 9 #[.val (.ref a), .val (.ref b)] [(.ref b2), (.ref b2), (.ref a)])) _
    refine st3.trans ?_
    show Steps p.tables e below (T3.setTop (mkF m 12 #[.val (.ref a), .val (.ref b)] [(.ref b2), (.ref a)])) _
    refine st8 _ ?_
    show Steps p.tables e below (T8.setTop (mkF m 15 #[.val (.ref a), .val (.ref b)] [])) _
    refine XS.aloadN X8.here hx rfl (hb hby d4_15) rfl rfl ?_
    show Steps p.tables e below (T8.setTop (mkF m 16 #[.val (.ref a), .val (.ref b)] [(.ref a)])) _
    refine XS.aloadN X8.here hx rfl (hb hby d4_16) rfl rfl ?_
    show Steps p.tables e below (T8.setTop (mkF m 17 #[.val (.ref a), .val (.ref b)] [(.ref b), (.ref a)])) _
    refine st11 _ ?_
    show Steps p.tables e below (T11.setTop (mkF m 20 #[.val (.ref a), .val (.ref b)] [])) _
    exact kk
  have k13 : Keep h0 h11 [a] := (Keep.wr (Keep.wr (Keep.trans (Keep.ext (Keep.refl h0 [a]) E2) K3 (allS (Or.inr sz_b2) all0)) W8 (Or.inl (List.mem_of_getElem? (i := 0) rfl))) W11 (Or.inl (List.mem_of_getElem? (i := 0) rfl)))
  have f14 := (Fld.other W11 (Fld.other W8 (Fld.keep (Fld.ext E2 pr3) K3 (ninS ne_a_b2 nin0)) (Or.inr (slot_ne (Or.inl (hw _ (List.mem_of_getElem? (i := 45) rfl))) (Or.inr (hw _ (List.mem_of_getElem? (i := 36) rfl))) (by decide) (t := .int) (t' := (.object "java/util/List")) (by decide) (by decide)))) (Or.inr (slot_ne (Or.inl (hw _ (List.mem_of_getElem? (i := 45) rfl))) (Or.inr (hw _ (List.mem_of_getElem? (i := 38) rfl))) (by decide) (t := .int) (t' := (.array .byte)) (by decide) (by decide))))
  obtain ⟨fs, hr, hrun, hended, hW, hsame⟩ := X11.leave (v := none) (fun _ => rfl)
  refine ⟨_, _, P12 _ ?_, hrun, hended, _, _, rfl, ?_, ⟨_, rfl⟩, hW, hsame.mono (by decide) (by decide)⟩
  · exact X11.returnOut hx Bd.returns (hb hby d4_20) hr
  · show Q4 Z a b sd h0 n0 _ T11.heap _
    rw [e11]
    exact ⟨rfl, N11, k13, Fw11, f14⟩
theorem d5_0 : decode prog_25_method_9_code 0 = .ok (.aload_n 0, 1) := by decide +kernel
theorem d5_1 : decode prog_25_method_9_code 1 = .ok (.getfield 22, 3) := by decide +kernel
theorem d5_4 : decode prog_25_method_9_code 4 = .ok (.aload_n 0, 1) := by decide +kernel
theorem d5_5 : decode prog_25_method_9_code 5 = .ok (.getfield 18, 3) := by decide +kernel
theorem d5_8 : decode prog_25_method_9_code 8 = .ok (.arraylength, 1) := by decide +kernel
theorem d5_9 : decode prog_25_method_9_code 9 = .ok (.if_icmp .ne 7, 3) := by decide +kernel
theorem d5_12 : decode prog_25_method_9_code 12 = .ok (.iconst 1, 1) := by decide +kernel
theorem d5_13 : decode prog_25_method_9_code 13 = .ok (.goto 4, 3) := by decide +kernel
theorem d5_16 : decode prog_25_method_9_code 16 = .ok (.iconst 0, 1) := by decide +kernel
theorem d5_17 : decode prog_25_method_9_code 17 = .ok (.ireturn, 1) := by decide +kernel
theorem ef_5 (m : MethodId) (x0 : Addr) : entryFrame m #[(.ref x0)] 1 = (mkF m 0 #[.val (.ref x0)] []) := by first | (simp [entryFrame, mkF, argsToLocals, Value.category]; done) | rfl
def F5 (q : Int32) (z : Int32) : Int32 := (if q = z then (1 : Int32) else (0 : Int32))
def Q5 (Z : State) (a : Addr) (q : Int32) (b : Addr) (k : ClassId) (z : Int32) (vs : List Value) (d : Value) (h0 : Heap) (n0 : Nat) (vX : Option Value) (hX : Heap) (lX : List Loc) : Prop := vX = some (.int (F5 q z)) ∧ Fr n0 lX ∧ (hX = h0)
set_option maxRecDepth 65536 in
set_option maxHeartbeats 40000000 in
theorem rm5 (l : Launch) (Z : State) (a0 : Array Value) (hw : ∀ d ∈ tables_1, d.before a0 Z = true) (ws : List Jvm.Cond) (a : Addr) (q : Int32) (b : Addr) (k : ClassId) (z : Int32) (vs : List Value) (d : Value) (h0 : Heap) (n0 : Nat) (Z0 : n0 ≤ h0.size) (pr0 : Fld Z h0 a "com/example/meterwright/meterwright/RecordBody$Reader" "position" "I" (.int q)) (pr1 : Fld Z h0 a "com/example/meterwright/meterwright/RecordBody$Reader" "bytes" "[B" (.ref b)) (pr2 : Arv Z h0 b k .byte z vs d) :
    MetFree l (⟨"com/example/meterwright/meterwright/RecordBody$Reader", "atEnd", "()Z"⟩ : MethodName) (head1 (Jvm.Cond.code (⟨"com/example/meterwright/meterwright/RecordBody$Reader", "atEnd", "()Z"⟩ : MethodName) prog_25_method_9_code 1 (some .boolean) :: ws) ({ frames := 0, cells := 0, slots := 0, locals := 0 } : Room)) (fun aX uX => aX = #[(.ref a)] ∧ Z.Warmed39 uX.vm ∧ uX.heap = h0) (fun _ _ _ _ _ => True) (fun _ uX oX wX => ∃ vX lX, oX = .returned vX ∧ Q5 Z a q b k z vs d h0 n0 vX wX.heap lX ∧ FrameEnd uX oX wX lX ({ frames := 0, cells := 0, slots := 0, locals := 0 } : Room).cells ({ frames := 0, cells := 0, slots := 0, locals := 0 } : Room).slots) := by
  refine MetFree.of_bodySF (plainFor_of_name pn_3) hisR ?_
  intro p e s m args below meth c s₁ Bd hml0 hP hK
  obtain ⟨rfl, hZ, hh⟩ := hP
  have hx := Bd.exec
  have hby := Bd.bytes
  have hml : c.maxLocals = 1 := hml0
  have hown : s.vm.findClass "com/example/meterwright/meterwright/RecordBody$Reader" = some m.cls := findClass_of_methodNamed Bd.named
  have hnm := (name_of_methodNamed Bd.named Bd.method).1
  have X0 : Stand p l e ({ frames := 0, cells := 0, slots := 0, locals := 0 } : Room) s m #[(.ref a)] below meth c s₁ [] 0 0 := Stand.of_body Bd
  have e0 : s₁.heap = h0 := by rw [← hh, Bd.state]; rfl
  have N0 := Fr.nil n0
  have pre0 : ∀ t, Steps p.tables e below (s₁.setTop (mkF m 0 #[.val (.ref a)] [])) t → Steps p.tables e below (s₁.setTop (entryFrame m #[(.ref a)] 1)) t := fun t k => castTop (ef_5 m a) k
  obtain ⟨T1, X1, e1, st1⟩ := getF X0 hx hZ hown (host := "") (Or.inl (hw _ (List.mem_of_getElem? (i := 44) rfl))) Via.refl e0 pr0 (g := (mkF m 1 #[.val (.ref a)] [(.ref a)])) rfl rfl (hb hby d5_1)
  obtain ⟨T2, X2, e2, st2⟩ := getF X1 hx hZ hown (host := "") (Or.inl (hw _ (List.mem_of_getElem? (i := 37) rfl))) Via.refl e1 pr1 (g := (mkF m 5 #[.val (.ref a)] [(.ref a), (.int q)])) rfl rfl (hb hby d5_5)
  obtain ⟨cl_a3, Ar_a3, q_a3, S_a3, N_a3, H_a3, G_a3⟩ := id pr2
  have P4 : ∀ t, Steps p.tables e below (T2.setTop (mkF m 9 #[.val (.ref a)] [(.int z), (.int q)])) t → Steps p.tables e below (s₁.setTop (entryFrame m #[(.ref a)] 1)) t := by
    intro t kk
    refine pre0 _ ?_
    show Steps p.tables e below (s₁.setTop (mkF m 0 #[.val (.ref a)] [])) _
    refine XS.aloadN X0.here hx rfl (hb hby d5_0) rfl rfl ?_
    show Steps p.tables e below (s₁.setTop (mkF m 1 #[.val (.ref a)] [(.ref a)])) _
    refine st1 _ ?_
    show Steps p.tables e below (T1.setTop (mkF m 4 #[.val (.ref a)] [(.int q)])) _
    refine XS.aloadN X1.here hx rfl (hb hby d5_4) rfl rfl ?_
    show Steps p.tables e below (T1.setTop (mkF m 5 #[.val (.ref a)] [(.ref a), (.int q)])) _
    refine st2 _ ?_
    show Steps p.tables e below (T2.setTop (mkF m 8 #[.val (.ref a)] [(.ref b), (.int q)])) _
    refine X2.arraylength hx (by rw [e2]; exact Ar_a3.1) (State.isArrayOf_alike hZ.alike Ar_a3.2.1) (g := (mkF m 8 #[.val (.ref a)] [(.ref b), (.int q)])) rfl rfl (hb hby d5_8) _ ?_
    rw [len_of S_a3 N_a3]
    show Steps p.tables e below (T2.setTop (mkF m 9 #[.val (.ref a)] [(.int z), (.int q)])) _
    exact kk
  by_cases c5 : q = z
  · skip
    have P6 : ∀ t, Steps p.tables e below (T2.setTop (mkF m 17 #[.val (.ref a)] [(.int (1 : Int32))])) t → Steps p.tables e below (s₁.setTop (entryFrame m #[(.ref a)] 1)) t := by
      intro t kk
      refine P4 _ ?_
      show Steps p.tables e below (T2.setTop (mkF m 9 #[.val (.ref a)] [(.int z), (.int q)])) _
      refine XS.icmpNo X2.here hx rfl (hb hby d5_9) rfl (XT.ii_ne_f c5) ?_
      show Steps p.tables e below (T2.setTop (mkF m 12 #[.val (.ref a)] [])) _
      refine XS.iconst X2.here hx rfl (hb hby d5_12) ?_
      show Steps p.tables e below (T2.setTop (mkF m 13 #[.val (.ref a)] [(.int (1 : Int32))])) _
      refine XS.goto X2.here hx rfl (pc0 := 13) (pc' := 17) rfl (hb hby d5_13) (by decide) (by decide) ?_
      show Steps p.tables e below (T2.setTop (mkF m 17 #[.val (.ref a)] [(.int (1 : Int32))])) _
      exact kk
    obtain ⟨fs, hr, hrun, hended, hW, hsame⟩ := X2.leave (v := some (.int (1 : Int32))) (fun h => by rw [Bd.returns] at h; cases h)
    refine ⟨_, _, P6 _ ?_, hrun, hended, _, _, rfl, ?_, ⟨_, rfl⟩, hW, hsame.mono (by decide) (by decide)⟩
    · exact retN X2 hx (t := .boolean) Bd.returns (by simp) (hb hby d5_17) hr
    · show Q5 Z a q b k z vs d h0 n0 _ T2.heap _
      rw [e2]
      exact ⟨congrArg (fun z => some (Value.int z)) (show (F5 q z) = _ from ((if_pos c5).trans rfl)).symm, N0, rfl⟩
  · skip
    have P7 : ∀ t, Steps p.tables e below (T2.setTop (mkF m 17 #[.val (.ref a)] [(.int (0 : Int32))])) t → Steps p.tables e below (s₁.setTop (entryFrame m #[(.ref a)] 1)) t := by
      intro t kk
      refine P4 _ ?_
      show Steps p.tables e below (T2.setTop (mkF m 9 #[.val (.ref a)] [(.int z), (.int q)])) _
      refine XS.icmpYes X2.here hx rfl (pc0 := 9) (pc' := 16) rfl (hb hby d5_9) rfl (XT.ii_ne_t c5) (by decide) (by decide) ?_
      show Steps p.tables e below (T2.setTop (mkF m 16 #[.val (.ref a)] [])) _
      refine XS.iconst X2.here hx rfl (hb hby d5_16) ?_
      show Steps p.tables e below (T2.setTop (mkF m 17 #[.val (.ref a)] [(.int (0 : Int32))])) _
      exact kk
    obtain ⟨fs, hr, hrun, hended, hW, hsame⟩ := X2.leave (v := some (.int (0 : Int32))) (fun h => by rw [Bd.returns] at h; cases h)
    refine ⟨_, _, P7 _ ?_, hrun, hended, _, _, rfl, ?_, ⟨_, rfl⟩, hW, hsame.mono (by decide) (by decide)⟩
    · exact retN X2 hx (t := .boolean) Bd.returns (by simp) (hb hby d5_17) hr
    · show Q5 Z a q b k z vs d h0 n0 _ T2.heap _
      rw [e2]
      exact ⟨congrArg (fun z => some (Value.int z)) (show (F5 q z) = _ from ((if_neg c5).trans rfl)).symm, N0, rfl⟩
theorem d6_0 : decode prog_25_method_2_code 0 = .ok (.aload_n 0, 1) := by decide +kernel
theorem d6_1 : decode prog_25_method_2_code 1 = .ok (.getfield 22, 3) := by decide +kernel
theorem d6_4 : decode prog_25_method_2_code 4 = .ok (.aload_n 0, 1) := by decide +kernel
theorem d6_5 : decode prog_25_method_2_code 5 = .ok (.getfield 18, 3) := by decide +kernel
theorem d6_8 : decode prog_25_method_2_code 8 = .ok (.arraylength, 1) := by decide +kernel
theorem d6_9 : decode prog_25_method_2_code 9 = .ok (.if_icmp .ne 13, 3) := by decide +kernel
theorem d6_22 : decode prog_25_method_2_code 22 = .ok (.aload_n 0, 1) := by decide +kernel
theorem d6_23 : decode prog_25_method_2_code 23 = .ok (.getfield 18, 3) := by decide +kernel
theorem d6_26 : decode prog_25_method_2_code 26 = .ok (.aload_n 0, 1) := by decide +kernel
theorem d6_27 : decode prog_25_method_2_code 27 = .ok (.dup, 1) := by decide +kernel
theorem d6_28 : decode prog_25_method_2_code 28 = .ok (.getfield 22, 3) := by decide +kernel
theorem d6_31 : decode prog_25_method_2_code 31 = .ok (.dup_x1, 1) := by decide +kernel
theorem d6_32 : decode prog_25_method_2_code 32 = .ok (.iconst 1, 1) := by decide +kernel
theorem d6_33 : decode prog_25_method_2_code 33 = .ok (.iadd, 1) := by decide +kernel
theorem d6_34 : decode prog_25_method_2_code 34 = .ok (.putfield 22, 3) := by decide +kernel
theorem d6_37 : decode prog_25_method_2_code 37 = .ok (.baload, 1) := by decide +kernel
theorem d6_38 : decode prog_25_method_2_code 38 = .ok (.ireturn, 1) := by decide +kernel
theorem ef_6 (m : MethodId) (x0 : Addr) : entryFrame m #[(.ref x0)] 1 = (mkF m 0 #[.val (.ref x0)] []) := by first | (simp [entryFrame, mkF, argsToLocals, Value.category]; done) | rfl
def Q6 (Z : State) (a : Addr) (q : Int32) (b : Addr) (k : ClassId) (z : Int32) (vs : List Value) (d : Value) (x : Int32) (h0 : Heap) (n0 : Nat) (vX : Option Value) (hX : Heap) (lX : List Loc) : Prop := vX = some (.int (nar .byte x)) ∧ Fr n0 lX ∧ (Keep h0 hX [a]) ∧ (Fld Z hX a "com/example/meterwright/meterwright/RecordBody$Reader" "position" "I" (.int (q + (1 : Int32)))) ∧ (Fld Z hX a "com/example/meterwright/meterwright/RecordBody$Reader" "bytes" "[B" (.ref b))
set_option maxRecDepth 65536 in
set_option maxHeartbeats 40000000 in
theorem rm6 (l : Launch) (Z : State) (a0 : Array Value) (hw : ∀ d ∈ tables_1, d.before a0 Z = true) (ws : List Jvm.Cond) (a : Addr) (q : Int32) (b : Addr) (k : ClassId) (z : Int32) (vs : List Value) (d : Value) (x : Int32) (h0 : Heap) (n0 : Nat) (Z0 : n0 ≤ h0.size) (pr0 : Exa Z h0 a "com/example/meterwright/meterwright/RecordBody$Reader") (pr1 : Fld Z h0 a "com/example/meterwright/meterwright/RecordBody$Reader" "position" "I" (.int q)) (pr2 : Fld Z h0 a "com/example/meterwright/meterwright/RecordBody$Reader" "bytes" "[B" (.ref b)) (pr3 : Arv Z h0 b k .byte z vs d) (pr4 : n0 ≤ a) (pr5 : b ≠ a) (pr6 : ¬ q < 0 ∧ q < z) (pr7 : vs.getD q.toNatClampNeg d = (.int x)) :
    MetFree l (⟨"com/example/meterwright/meterwright/RecordBody$Reader", "kind", "()B"⟩ : MethodName) (head1 (Jvm.Cond.code (⟨"com/example/meterwright/meterwright/RecordBody$Reader", "kind", "()B"⟩ : MethodName) prog_25_method_2_code 1 (some .byte) :: ws) ({ frames := 0, cells := 0, slots := 0, locals := 0 } : Room)) (fun aX uX => aX = #[(.ref a)] ∧ Z.Warmed39 uX.vm ∧ uX.heap = h0) (fun _ _ _ _ _ => True) (fun _ uX oX wX => ∃ vX lX, oX = .returned vX ∧ Q6 Z a q b k z vs d x h0 n0 vX wX.heap lX ∧ FrameEnd uX oX wX lX ({ frames := 0, cells := 0, slots := 0, locals := 0 } : Room).cells ({ frames := 0, cells := 0, slots := 0, locals := 0 } : Room).slots) := by
  refine MetFree.of_bodySF (plainFor_of_name pn_3) hisR ?_
  intro p e s m args below meth c s₁ Bd hml0 hP hK
  obtain ⟨rfl, hZ, hh⟩ := hP
  have hx := Bd.exec
  have hby := Bd.bytes
  have hml : c.maxLocals = 1 := hml0
  have hown : s.vm.findClass "com/example/meterwright/meterwright/RecordBody$Reader" = some m.cls := findClass_of_methodNamed Bd.named
  have hnm := (name_of_methodNamed Bd.named Bd.method).1
  have X0 : Stand p l e ({ frames := 0, cells := 0, slots := 0, locals := 0 } : Room) s m #[(.ref a)] below meth c s₁ [] 0 0 := Stand.of_body Bd
  have e0 : s₁.heap = h0 := by rw [← hh, Bd.state]; rfl
  have N0 := Fr.nil n0
  have pre0 : ∀ t, Steps p.tables e below (s₁.setTop (mkF m 0 #[.val (.ref a)] [])) t → Steps p.tables e below (s₁.setTop (entryFrame m #[(.ref a)] 1)) t := fun t k => castTop (ef_6 m a) k
  obtain ⟨T1, X1, e1, st1⟩ := getF X0 hx hZ hown (host := "") (Or.inl (hw _ (List.mem_of_getElem? (i := 44) rfl))) Via.refl e0 pr1 (g := (mkF m 1 #[.val (.ref a)] [(.ref a)])) rfl rfl (hb hby d6_1)
  obtain ⟨T2, X2, e2, st2⟩ := getF X1 hx hZ hown (host := "") (Or.inl (hw _ (List.mem_of_getElem? (i := 37) rfl))) Via.refl e1 pr2 (g := (mkF m 5 #[.val (.ref a)] [(.ref a), (.int q)])) rfl rfl (hb hby d6_5)
  obtain ⟨cl_a3, Ar_a3, q_a3, S_a3, N_a3, H_a3, G_a3⟩ := id pr3
  obtain ⟨T4, X4, e4, st4⟩ := getF X2 hx hZ hown (host := "") (Or.inl (hw _ (List.mem_of_getElem? (i := 37) rfl))) Via.refl e2 pr2 (g := (mkF m 23 #[.val (.ref a)] [(.ref a)])) rfl rfl (hb hby d6_23)
  obtain ⟨T5, X5, e5, st5⟩ := getF X4 hx hZ hown (host := "") (Or.inl (hw _ (List.mem_of_getElem? (i := 44) rfl))) Via.refl e4 pr1 (g := (mkF m 28 #[.val (.ref a)] [(.ref a), (.ref a), (.ref b)])) rfl rfl (hb hby d6_28)
  obtain ⟨T6, h6, X6, e6, W6, st6⟩ := putF X5 hx hZ hown (host := "") (Or.inl (hw _ (List.mem_of_getElem? (i := 44) rfl))) Via.refl e5 pr1 pr0 (Or.inl (hw _ (List.mem_of_getElem? (i := 45) rfl))) (hw _ (List.mem_of_getElem? (i := 3) rfl)) (ty := .int) (by decide) rfl rfl (g := (mkF m 34 #[.val (.ref a)] [(.int (q + (1 : Int32))), (.ref a), (.int q), (.ref b)])) rfl rfl (hb hby d6_34)
  have N6 := Fr.snoc X6 N0 pr4
  have Fw6 := Fld.same W6 pr1
  have f7 := (pr3.other W6 pr5)
  obtain ⟨cl_a8, Ar_a8, q_a8, S_a8, N_a8, H_a8, G_a8⟩ := id f7
  have hin_a8 : ¬ (q < 0 ∨ cl_a8.slots.size ≤ (q).toNatClampNeg) := inb_of S_a8 pr6
  have hat_a8 := Has.at (v := (.int x)) H_a8 hin_a8 pr7
  have P9 : ∀ t, Steps p.tables e below (T6.setTop (mkF m 38 #[.val (.ref a)] [(.int x)])) t → Steps p.tables e below (s₁.setTop (entryFrame m #[(.ref a)] 1)) t := by
    intro t kk
    refine pre0 _ ?_
    show Steps p.tables e below (s₁.setTop (mkF m 0 #[.val (.ref a)] [])) _
    refine XS.aloadN X0.here hx rfl (hb hby d6_0) rfl rfl ?_
    show Steps p.tables e below (s₁.setTop (mkF m 1 #[.val (.ref a)] [(.ref a)])) _
    refine st1 _ ?_
    show Steps p.tables e below (T1.setTop (mkF m 4 #[.val (.ref a)] [(.int q)])) _
    refine XS.aloadN X1.here hx rfl (hb hby d6_4) rfl rfl ?_
    show Steps p.tables e below (T1.setTop (mkF m 5 #[.val (.ref a)] [(.ref a), (.int q)])) _
    refine st2 _ ?_
    show Steps p.tables e below (T2.setTop (mkF m 8 #[.val (.ref a)] [(.ref b), (.int q)])) _
    refine X2.arraylength hx (by rw [e2]; exact Ar_a3.1) (State.isArrayOf_alike hZ.alike Ar_a3.2.1) (g := (mkF m 8 #[.val (.ref a)] [(.ref b), (.int q)])) rfl rfl (hb hby d6_8) _ ?_
    rw [len_of S_a3 N_a3]
    show Steps p.tables e below (T2.setTop (mkF m 9 #[.val (.ref a)] [(.int z), (.int q)])) _
    refine XS.icmpYes X2.here hx rfl (pc0 := 9) (pc' := 22) rfl (hb hby d6_9) rfl (XT.ii_ne_t (fun hh => absurd pr6.2 (by rw [hh]; exact Int32.lt_irrefl))) (by decide) (by decide) ?_
    show Steps p.tables e below (T2.setTop (mkF m 22 #[.val (.ref a)] [])) _
    refine XS.aloadN X2.here hx rfl (hb hby d6_22) rfl rfl ?_
    show Steps p.tables e below (T2.setTop (mkF m 23 #[.val (.ref a)] [(.ref a)])) _
    refine st4 _ ?_
    show Steps p.tables e below (T4.setTop (mkF m 26 #[.val (.ref a)] [(.ref b)])) _
    refine XS.aloadN X4.here hx rfl (hb hby d6_26) rfl rfl ?_
    show Steps p.tables e below (T4.setTop (mkF m 27 #[.val (.ref a)] [(.ref a), (.ref b)])) _
    refine XS.dup X4.here hx rfl (hb hby d6_27) rfl rfl ?_
    show Steps p.tables e below (T4.setTop (mkF m 28 #[.val (.ref a)] [(.ref a), (.ref a), (.ref b)])) _
    refine st5 _ ?_
    show Steps p.tables e below (T5.setTop (mkF m 31 #[.val (.ref a)] [(.int q), (.ref a), (.ref b)])) _
    refine XS.dupX1 X5.here hx rfl (hb hby d6_31) rfl rfl rfl ?_
    show Steps p.tables e below (T5.setTop (mkF m 32 #[.val (.ref a)] [(.int q), (.ref a), (.int q), (.ref b)])) _
    refine XS.iconst X5.here hx rfl (hb hby d6_32) ?_
    show Steps p.tables e below (T5.setTop (mkF m 33 #[.val (.ref a)] [(.int (1 : Int32)), (.int q), (.ref a), (.int q), (.ref b)])) _
    refine XS.iadd X5.here hx rfl (hb hby d6_33) rfl ?_
    show Steps p.tables e below (T5.setTop (mkF m 34 #[.val (.ref a)] [(.int (q + (1 : Int32))), (.ref a), (.int q), (.ref b)])) _
    refine st6 _ ?_
    show Steps p.tables e below (T6.setTop (mkF m 37 #[.val (.ref a)] [(.int q), (.ref b)])) _
    refine X6.baloadBytes hx (j := q) (v := (.int x)) (by rw [e6]; exact Ar_a8.1) (State.isArrayOf_alike hZ.alike Ar_a8.2.1) Ar_a8.2.2 hin_a8 hat_a8 (g := (mkF m 37 #[.val (.ref a)] [(.int q), (.ref b)])) rfl rfl (hb hby d6_37) _ ?_
    show Steps p.tables e below (T6.setTop (mkF m 38 #[.val (.ref a)] [(.int x)])) _
    exact kk
  have k10 : Keep h0 h6 [a] := (Keep.wr (Keep.refl h0 [a]) W6 (Or.inl (List.mem_of_getElem? (i := 0) rfl)))
  have f11 := (Fld.other W6 pr2 (Or.inr (slot_ne (Or.inr (hw _ (List.mem_of_getElem? (i := 38) rfl))) (Or.inl (hw _ (List.mem_of_getElem? (i := 45) rfl))) (by decide) (t := (.array .byte)) (t' := .int) (by decide) (by decide))))
  obtain ⟨fs, hr, hrun, hended, hW, hsame⟩ := X6.leave (v := some (.int (nar .byte x))) (fun h => by rw [Bd.returns] at h; cases h)
  refine ⟨_, _, P9 _ ?_, hrun, hended, _, _, rfl, ?_, ⟨_, rfl⟩, hW, hsame.mono (by decide) (by decide)⟩
  · exact retN X6 hx (t := .byte) Bd.returns (by simp) (hb hby d6_38) hr
  · show Q6 Z a q b k z vs d x h0 n0 _ T6.heap _
    rw [e6]
    exact ⟨rfl, N6, k10, Fw6, f11⟩
theorem d7_0 : decode prog_25_method_10_code 0 = .ok (.lconst 0, 1) := by decide +kernel
theorem d7_1 : decode prog_25_method_10_code 1 = .ok (.lstore_n 1, 1) := by decide +kernel
theorem d7_2 : decode prog_25_method_10_code 2 = .ok (.iconst 0, 1) := by decide +kernel
theorem d7_3 : decode prog_25_method_10_code 3 = .ok (.istore_n 3, 1) := by decide +kernel
theorem d7_4 : decode prog_25_method_10_code 4 = .ok (.iload_n 3, 1) := by decide +kernel
theorem d7_5 : decode prog_25_method_10_code 5 = .ok (.bipush 64, 2) := by decide +kernel
theorem d7_7 : decode prog_25_method_10_code 7 = .ok (.if_icmp .ge 82, 3) := by decide +kernel
theorem d7_10 : decode prog_25_method_10_code 10 = .ok (.aload_n 0, 1) := by decide +kernel
theorem d7_11 : decode prog_25_method_10_code 11 = .ok (.getfield 22, 3) := by decide +kernel
theorem d7_14 : decode prog_25_method_10_code 14 = .ok (.aload_n 0, 1) := by decide +kernel
theorem d7_15 : decode prog_25_method_10_code 15 = .ok (.getfield 18, 3) := by decide +kernel
theorem d7_18 : decode prog_25_method_10_code 18 = .ok (.arraylength, 1) := by decide +kernel
theorem d7_19 : decode prog_25_method_10_code 19 = .ok (.if_icmp .ne 13, 3) := by decide +kernel
theorem d7_32 : decode prog_25_method_10_code 32 = .ok (.aload_n 0, 1) := by decide +kernel
theorem d7_33 : decode prog_25_method_10_code 33 = .ok (.getfield 18, 3) := by decide +kernel
theorem d7_36 : decode prog_25_method_10_code 36 = .ok (.aload_n 0, 1) := by decide +kernel
theorem d7_37 : decode prog_25_method_10_code 37 = .ok (.dup, 1) := by decide +kernel
theorem d7_38 : decode prog_25_method_10_code 38 = .ok (.getfield 22, 3) := by decide +kernel
theorem d7_41 : decode prog_25_method_10_code 41 = .ok (.dup_x1, 1) := by decide +kernel
theorem d7_42 : decode prog_25_method_10_code 42 = .ok (.iconst 1, 1) := by decide +kernel
theorem d7_43 : decode prog_25_method_10_code 43 = .ok (.iadd, 1) := by decide +kernel
theorem d7_44 : decode prog_25_method_10_code 44 = .ok (.putfield 22, 3) := by decide +kernel
theorem d7_47 : decode prog_25_method_10_code 47 = .ok (.baload, 1) := by decide +kernel
theorem d7_48 : decode prog_25_method_10_code 48 = .ok (.istore 4, 2) := by decide +kernel
theorem d7_50 : decode prog_25_method_10_code 50 = .ok (.lload_n 1, 1) := by decide +kernel
theorem d7_51 : decode prog_25_method_10_code 51 = .ok (.iload 4, 2) := by decide +kernel
theorem d7_53 : decode prog_25_method_10_code 53 = .ok (.bipush 127, 2) := by decide +kernel
theorem d7_55 : decode prog_25_method_10_code 55 = .ok (.iand, 1) := by decide +kernel
theorem d7_56 : decode prog_25_method_10_code 56 = .ok (.i2l, 1) := by decide +kernel
theorem d7_57 : decode prog_25_method_10_code 57 = .ok (.iload_n 3, 1) := by decide +kernel
theorem d7_58 : decode prog_25_method_10_code 58 = .ok (.lshl, 1) := by decide +kernel
theorem d7_59 : decode prog_25_method_10_code 59 = .ok (.lor, 1) := by decide +kernel
theorem d7_60 : decode prog_25_method_10_code 60 = .ok (.lstore_n 1, 1) := by decide +kernel
theorem d7_61 : decode prog_25_method_10_code 61 = .ok (.iload 4, 2) := by decide +kernel
theorem d7_63 : decode prog_25_method_10_code 63 = .ok (.ifCond .lt 20, 3) := by decide +kernel
theorem d7_66 : decode prog_25_method_10_code 66 = .ok (.iload_n 3, 1) := by decide +kernel
theorem d7_67 : decode prog_25_method_10_code 67 = .ok (.bipush 63, 2) := by decide +kernel
theorem d7_69 : decode prog_25_method_10_code 69 = .ok (.if_icmp .ne 12, 3) := by decide +kernel
theorem d7_81 : decode prog_25_method_10_code 81 = .ok (.lload_n 1, 1) := by decide +kernel
theorem d7_82 : decode prog_25_method_10_code 82 = .ok (.lreturn, 1) := by decide +kernel
theorem ef_7 (m : MethodId) (x0 : Addr) : entryFrame m #[(.ref x0)] 5 = (mkF m 0 #[.val (.ref x0), .unset, .unset, .unset, .unset] []) := by first | (simp [entryFrame, mkF, argsToLocals, Value.category]; done) | rfl
def Q7 (Z : State) (a : Addr) (b : Addr) (k : ClassId) (z : Int32) (vs : List Value) (d : Value) (x1 : Int32) (h0 : Heap) (n0 : Nat) (vX : Option Value) (hX : Heap) (lX : List Loc) : Prop := ∃ (r : Int64), vX = some (.long r) ∧ Fr n0 lX ∧ (Keep h0 hX [a]) ∧ (Fld Z hX a "com/example/meterwright/meterwright/RecordBody$Reader" "position" "I" (.int (2 : Int32))) ∧ (Fld Z hX a "com/example/meterwright/meterwright/RecordBody$Reader" "bytes" "[B" (.ref b))
set_option maxRecDepth 65536 in
set_option maxHeartbeats 40000000 in
theorem rm7 (l : Launch) (Z : State) (a0 : Array Value) (hw : ∀ d ∈ tables_1, d.before a0 Z = true) (ws : List Jvm.Cond) (a : Addr) (b : Addr) (k : ClassId) (z : Int32) (vs : List Value) (d : Value) (x1 : Int32) (h0 : Heap) (n0 : Nat) (Z0 : n0 ≤ h0.size) (pr0 : Exa Z h0 a "com/example/meterwright/meterwright/RecordBody$Reader") (pr1 : Fld Z h0 a "com/example/meterwright/meterwright/RecordBody$Reader" "position" "I" (.int (1 : Int32))) (pr2 : Fld Z h0 a "com/example/meterwright/meterwright/RecordBody$Reader" "bytes" "[B" (.ref b)) (pr3 : Arv Z h0 b k .byte z vs d) (pr4 : n0 ≤ a) (pr5 : b ≠ a) (pr6 : (1 : Int32) < z) (pr7 : vs.getD (1 : Int32).toNatClampNeg d = (.int x1)) (pr8 : ¬ x1 < (0 : Int32)) :
    MetFree l (⟨"com/example/meterwright/meterwright/RecordBody$Reader", "varint", "()J"⟩ : MethodName) (head1 (Jvm.Cond.code (⟨"com/example/meterwright/meterwright/RecordBody$Reader", "varint", "()J"⟩ : MethodName) prog_25_method_10_code 5 (some .long) :: ws) ({ frames := 0, cells := 0, slots := 0, locals := 0 } : Room)) (fun aX uX => aX = #[(.ref a)] ∧ Z.Warmed39 uX.vm ∧ uX.heap = h0) (fun _ _ _ _ _ => True) (fun _ uX oX wX => ∃ vX lX, oX = .returned vX ∧ Q7 Z a b k z vs d x1 h0 n0 vX wX.heap lX ∧ FrameEnd uX oX wX lX ({ frames := 0, cells := 0, slots := 0, locals := 0 } : Room).cells ({ frames := 0, cells := 0, slots := 0, locals := 0 } : Room).slots) := by
  refine MetFree.of_bodySF (plainFor_of_name pn_3) hisR ?_
  intro p e s m args below meth c s₁ Bd hml0 hP hK
  obtain ⟨rfl, hZ, hh⟩ := hP
  have hx := Bd.exec
  have hby := Bd.bytes
  have hml : c.maxLocals = 5 := hml0
  have hown : s.vm.findClass "com/example/meterwright/meterwright/RecordBody$Reader" = some m.cls := findClass_of_methodNamed Bd.named
  have hnm := (name_of_methodNamed Bd.named Bd.method).1
  have X0 : Stand p l e ({ frames := 0, cells := 0, slots := 0, locals := 0 } : Room) s m #[(.ref a)] below meth c s₁ [] 0 0 := Stand.of_body Bd
  have e0 : s₁.heap = h0 := by rw [← hh, Bd.state]; rfl
  have N0 := Fr.nil n0
  have pre0 : ∀ t, Steps p.tables e below (s₁.setTop (mkF m 0 #[.val (.ref a), .unset, .unset, .unset, .unset] [])) t → Steps p.tables e below (s₁.setTop (entryFrame m #[(.ref a)] 5)) t := fun t k => castTop (ef_7 m a) k
  obtain ⟨T1, X1, e1, st1⟩ := getF X0 hx hZ hown (host := "") (Or.inl (hw _ (List.mem_of_getElem? (i := 44) rfl))) Via.refl e0 pr1 (g := (mkF m 11 #[.val (.ref a), .val (.long (0 : Int64)), .second, .val (.int (0 : Int32)), .unset] [(.ref a)])) rfl rfl (hb hby d7_11)
  obtain ⟨T2, X2, e2, st2⟩ := getF X1 hx hZ hown (host := "") (Or.inl (hw _ (List.mem_of_getElem? (i := 37) rfl))) Via.refl e1 pr2 (g := (mkF m 15 #[.val (.ref a), .val (.long (0 : Int64)), .second, .val (.int (0 : Int32)), .unset] [(.ref a), (.int (1 : Int32))])) rfl rfl (hb hby d7_15)
  obtain ⟨cl_a3, Ar_a3, q_a3, S_a3, N_a3, H_a3, G_a3⟩ := id pr3
  obtain ⟨T4, X4, e4, st4⟩ := getF X2 hx hZ hown (host := "") (Or.inl (hw _ (List.mem_of_getElem? (i := 37) rfl))) Via.refl e2 pr2 (g := (mkF m 33 #[.val (.ref a), .val (.long (0 : Int64)), .second, .val (.int (0 : Int32)), .unset] [(.ref a)])) rfl rfl (hb hby d7_33)
  obtain ⟨T5, X5, e5, st5⟩ := getF X4 hx hZ hown (host := "") (Or.inl (hw _ (List.mem_of_getElem? (i := 44) rfl))) Via.refl e4 pr1 (g := (mkF m 38 #[.val (.ref a), .val (.long (0 : Int64)), .second, .val (.int (0 : Int32)), .unset] [(.ref a), (.ref a), (.ref b)])) rfl rfl (hb hby d7_38)
  obtain ⟨T6, h6, X6, e6, W6, st6⟩ := putF X5 hx hZ hown (host := "") (Or.inl (hw _ (List.mem_of_getElem? (i := 44) rfl))) Via.refl e5 pr1 pr0 (Or.inl (hw _ (List.mem_of_getElem? (i := 45) rfl))) (hw _ (List.mem_of_getElem? (i := 3) rfl)) (ty := .int) (by decide) rfl rfl (g := (mkF m 44 #[.val (.ref a), .val (.long (0 : Int64)), .second, .val (.int (0 : Int32)), .unset] [(.int (2 : Int32)), (.ref a), (.int (1 : Int32)), (.ref b)])) rfl rfl (hb hby d7_44)
  have N6 := Fr.snoc X6 N0 pr4
  have Fw6 := Fld.same W6 pr1
  have f7 := (pr3.other W6 pr5)
  obtain ⟨cl_a8, Ar_a8, q_a8, S_a8, N_a8, H_a8, G_a8⟩ := id f7
  have hin_a8 : ¬ ((1 : Int32) < 0 ∨ cl_a8.slots.size ≤ ((1 : Int32)).toNatClampNeg) := inb_of S_a8 ⟨by decide, pr6⟩
  have hat_a8 := Has.at (v := (.int x1)) H_a8 hin_a8 pr7
  have P9 : ∀ t, Steps p.tables e below (T6.setTop (mkF m 58 #[.val (.ref a), .val (.long (0 : Int64)), .second, .val (.int (0 : Int32)), .val (.int x1)] [(.int (0 : Int32)), (.long (((x1 &&& (127 : Int32))).toInt64)), (.long (0 : Int64))])) t → Steps p.tables e below (s₁.setTop (entryFrame m #[(.ref a)] 5)) t := by
    intro t kk
    refine pre0 _ ?_
    show Steps p.tables e below (s₁.setTop (mkF m 0 #[.val (.ref a), .unset, .unset, .unset, .unset] [])) _
    refine XS.lconst X0.here hx rfl (hb hby d7_0) ?_
    show Steps p.tables e below (s₁.setTop (mkF m 1 #[.val (.ref a), .unset, .unset, .unset, .unset] [(.long (0 : Int64))])) _
    refine XS.lstoreN X0.here hx rfl (hb hby d7_1) rfl (l' := #[.val (.ref a), .val (.long (0 : Int64)), .second, .unset, .unset]) rfl ?_
    show Steps p.tables e below (s₁.setTop (mkF m 2 #[.val (.ref a), .val (.long (0 : Int64)), .second, .unset, .unset] [])) _
    refine XS.iconst X0.here hx rfl (hb hby d7_2) ?_
    show Steps p.tables e below (s₁.setTop (mkF m 3 #[.val (.ref a), .val (.long (0 : Int64)), .second, .unset, .unset] [(.int (0 : Int32))])) _
    refine XS.istoreN X0.here hx rfl (hb hby d7_3) rfl (l' := #[.val (.ref a), .val (.long (0 : Int64)), .second, .val (.int (0 : Int32)), .unset]) rfl ?_
    show Steps p.tables e below (s₁.setTop (mkF m 4 #[.val (.ref a), .val (.long (0 : Int64)), .second, .val (.int (0 : Int32)), .unset] [])) _
    refine XS.iloadN X0.here hx rfl (hb hby d7_4) rfl ?_
    show Steps p.tables e below (s₁.setTop (mkF m 5 #[.val (.ref a), .val (.long (0 : Int64)), .second, .val (.int (0 : Int32)), .unset] [(.int (0 : Int32))])) _
    refine XS.bipush X0.here hx rfl (hb hby d7_5) ?_
    show Steps p.tables e below (s₁.setTop (mkF m 7 #[.val (.ref a), .val (.long (0 : Int64)), .second, .val (.int (0 : Int32)), .unset] [(.int (64 : Int32)), (.int (0 : Int32))])) _
    refine XS.icmpNo X0.here hx rfl (hb hby d7_7) rfl (XT.ii_ge_f (by decide)) ?_
    show Steps p.tables e below (s₁.setTop (mkF m 10 #[.val (.ref a), .val (.long (0 : Int64)), .second, .val (.int (0 : Int32)), .unset] [])) _
    refine XS.aloadN X0.here hx rfl (hb hby d7_10) rfl rfl ?_
    show Steps p.tables e below (s₁.setTop (mkF m 11 #[.val (.ref a), .val (.long (0 : Int64)), .second, .val (.int (0 : Int32)), .unset] [(.ref a)])) _
    refine st1 _ ?_
    show Steps p.tables e below (T1.setTop (mkF m 14 #[.val (.ref a), .val (.long (0 : Int64)), .second, .val (.int (0 : Int32)), .unset] [(.int (1 : Int32))])) _
    refine XS.aloadN X1.here hx rfl (hb hby d7_14) rfl rfl ?_
    show Steps p.tables e below (T1.setTop (mkF m 15 #[.val (.ref a), .val (.long (0 : Int64)), .second, .val (.int (0 : Int32)), .unset] [(.ref a), (.int (1 : Int32))])) _
    refine st2 _ ?_
    show Steps p.tables e below (T2.setTop (mkF m 18 #[.val (.ref a), .val (.long (0 : Int64)), .second, .val (.int (0 : Int32)), .unset] [(.ref b), (.int (1 : Int32))])) _
    refine X2.arraylength hx (by rw [e2]; exact Ar_a3.1) (State.isArrayOf_alike hZ.alike Ar_a3.2.1) (g := (mkF m 18 #[.val (.ref a), .val (.long (0 : Int64)), .second, .val (.int (0 : Int32)), .unset] [(.ref b), (.int (1 : Int32))])) rfl rfl (hb hby d7_18) _ ?_
    rw [len_of S_a3 N_a3]
    show Steps p.tables e below (T2.setTop (mkF m 19 #[.val (.ref a), .val (.long (0 : Int64)), .second, .val (.int (0 : Int32)), .unset] [(.int z), (.int (1 : Int32))])) _
    refine XS.icmpYes X2.here hx rfl (pc0 := 19) (pc' := 32) rfl (hb hby d7_19) rfl (XT.ii_ne_t (fun hh => absurd pr6 (by rw [← hh]; exact Int32.lt_irrefl))) (by decide) (by decide) ?_
    show Steps p.tables e below (T2.setTop (mkF m 32 #[.val (.ref a), .val (.long (0 : Int64)), .second, .val (.int (0 : Int32)), .unset] [])) _
    refine XS.aloadN X2.here hx rfl (hb hby d7_32) rfl rfl ?_
    show Steps p.tables e below (T2.setTop (mkF m 33 #[.val (.ref a), .val (.long (0 : Int64)), .second, .val (.int (0 : Int32)), .unset] [(.ref a)])) _
    refine st4 _ ?_
    show Steps p.tables e below (T4.setTop (mkF m 36 #[.val (.ref a), .val (.long (0 : Int64)), .second, .val (.int (0 : Int32)), .unset] [(.ref b)])) _
    refine XS.aloadN X4.here hx rfl (hb hby d7_36) rfl rfl ?_
    show Steps p.tables e below (T4.setTop (mkF m 37 #[.val (.ref a), .val (.long (0 : Int64)), .second, .val (.int (0 : Int32)), .unset] [(.ref a), (.ref b)])) _
    refine XS.dup X4.here hx rfl (hb hby d7_37) rfl rfl ?_
    show Steps p.tables e below (T4.setTop (mkF m 38 #[.val (.ref a), .val (.long (0 : Int64)), .second, .val (.int (0 : Int32)), .unset] [(.ref a), (.ref a), (.ref b)])) _
    refine st5 _ ?_
    show Steps p.tables e below (T5.setTop (mkF m 41 #[.val (.ref a), .val (.long (0 : Int64)), .second, .val (.int (0 : Int32)), .unset] [(.int (1 : Int32)), (.ref a), (.ref b)])) _
    refine XS.dupX1 X5.here hx rfl (hb hby d7_41) rfl rfl rfl ?_
    show Steps p.tables e below (T5.setTop (mkF m 42 #[.val (.ref a), .val (.long (0 : Int64)), .second, .val (.int (0 : Int32)), .unset] [(.int (1 : Int32)), (.ref a), (.int (1 : Int32)), (.ref b)])) _
    refine XS.iconst X5.here hx rfl (hb hby d7_42) ?_
    show Steps p.tables e below (T5.setTop (mkF m 43 #[.val (.ref a), .val (.long (0 : Int64)), .second, .val (.int (0 : Int32)), .unset] [(.int (1 : Int32)), (.int (1 : Int32)), (.ref a), (.int (1 : Int32)), (.ref b)])) _
    refine XS.iadd X5.here hx rfl (hb hby d7_43) rfl ?_
    show Steps p.tables e below (T5.setTop (mkF m 44 #[.val (.ref a), .val (.long (0 : Int64)), .second, .val (.int (0 : Int32)), .unset] [(.int (2 : Int32)), (.ref a), (.int (1 : Int32)), (.ref b)])) _
    refine st6 _ ?_
    show Steps p.tables e below (T6.setTop (mkF m 47 #[.val (.ref a), .val (.long (0 : Int64)), .second, .val (.int (0 : Int32)), .unset] [(.int (1 : Int32)), (.ref b)])) _
    refine X6.baloadBytes hx (j := (1 : Int32)) (v := (.int x1)) (by rw [e6]; exact Ar_a8.1) (State.isArrayOf_alike hZ.alike Ar_a8.2.1) Ar_a8.2.2 hin_a8 hat_a8 (g := (mkF m 47 #[.val (.ref a), .val (.long (0 : Int64)), .second, .val (.int (0 : Int32)), .unset] [(.int (1 : Int32)), (.ref b)])) rfl rfl (hb hby d7_47) _ ?_
    show Steps p.tables e below (T6.setTop (mkF m 48 #[.val (.ref a), .val (.long (0 : Int64)), .second, .val (.int (0 : Int32)), .unset] [(.int x1)])) _
    refine XS.istore X6.here hx rfl (hb hby d7_48) rfl (l' := #[.val (.ref a), .val (.long (0 : Int64)), .second, .val (.int (0 : Int32)), .val (.int x1)]) rfl ?_
    show Steps p.tables e below (T6.setTop (mkF m 50 #[.val (.ref a), .val (.long (0 : Int64)), .second, .val (.int (0 : Int32)), .val (.int x1)] [])) _
    refine XS.lloadN X6.here hx rfl (hb hby d7_50) rfl ?_
    show Steps p.tables e below (T6.setTop (mkF m 51 #[.val (.ref a), .val (.long (0 : Int64)), .second, .val (.int (0 : Int32)), .val (.int x1)] [(.long (0 : Int64))])) _
    refine XS.iload X6.here hx rfl (hb hby d7_51) rfl ?_
    show Steps p.tables e below (T6.setTop (mkF m 53 #[.val (.ref a), .val (.long (0 : Int64)), .second, .val (.int (0 : Int32)), .val (.int x1)] [(.int x1), (.long (0 : Int64))])) _
    refine XS.bipush X6.here hx rfl (hb hby d7_53) ?_
    show Steps p.tables e below (T6.setTop (mkF m 55 #[.val (.ref a), .val (.long (0 : Int64)), .second, .val (.int (0 : Int32)), .val (.int x1)] [(.int (127 : Int32)), (.int x1), (.long (0 : Int64))])) _
    refine XS.iand X6.here hx rfl (hb hby d7_55) rfl ?_
    show Steps p.tables e below (T6.setTop (mkF m 56 #[.val (.ref a), .val (.long (0 : Int64)), .second, .val (.int (0 : Int32)), .val (.int x1)] [(.int (x1 &&& (127 : Int32))), (.long (0 : Int64))])) _
    refine XS.i2l X6.here hx rfl (hb hby d7_56) rfl ?_
    show Steps p.tables e below (T6.setTop (mkF m 57 #[.val (.ref a), .val (.long (0 : Int64)), .second, .val (.int (0 : Int32)), .val (.int x1)] [(.long (((x1 &&& (127 : Int32))).toInt64)), (.long (0 : Int64))])) _
    refine XS.iloadN X6.here hx rfl (hb hby d7_57) rfl ?_
    show Steps p.tables e below (T6.setTop (mkF m 58 #[.val (.ref a), .val (.long (0 : Int64)), .second, .val (.int (0 : Int32)), .val (.int x1)] [(.int (0 : Int32)), (.long (((x1 &&& (127 : Int32))).toInt64)), (.long (0 : Int64))])) _
    exact kk
  have P10 : ∀ t, Steps p.tables e below (T6.setTop (mkF m 82 #[.val (.ref a), .val (.long ((0 : Int64) ||| (((((x1 &&& (127 : Int32))).toInt64) <<< ((0 : Int32) &&& 0x3f).toInt64)))), .second, .val (.int (0 : Int32)), .val (.int x1)] [(.long ((0 : Int64) ||| (((((x1 &&& (127 : Int32))).toInt64) <<< ((0 : Int32) &&& 0x3f).toInt64))))])) t → Steps p.tables e below (s₁.setTop (entryFrame m #[(.ref a)] 5)) t := by
    intro t kk
    refine P9 _ ?_
    show Steps p.tables e below (T6.setTop (mkF m 58 #[.val (.ref a), .val (.long (0 : Int64)), .second, .val (.int (0 : Int32)), .val (.int x1)] [(.int (0 : Int32)), (.long (((x1 &&& (127 : Int32))).toInt64)), (.long (0 : Int64))])) _
    refine XS.lshl X6.here hx rfl (hb hby d7_58) rfl ?_
    show Steps p.tables e below (T6.setTop (mkF m 59 #[.val (.ref a), .val (.long (0 : Int64)), .second, .val (.int (0 : Int32)), .val (.int x1)] [(.long (((((x1 &&& (127 : Int32))).toInt64) <<< ((0 : Int32) &&& 0x3f).toInt64))), (.long (0 : Int64))])) _
    refine XS.lor X6.here hx rfl (hb hby d7_59) rfl ?_
    show Steps p.tables e below (T6.setTop (mkF m 60 #[.val (.ref a), .val (.long (0 : Int64)), .second, .val (.int (0 : Int32)), .val (.int x1)] [(.long ((0 : Int64) ||| (((((x1 &&& (127 : Int32))).toInt64) <<< ((0 : Int32) &&& 0x3f).toInt64))))])) _
    refine XS.lstoreN X6.here hx rfl (hb hby d7_60) rfl (l' := #[.val (.ref a), .val (.long ((0 : Int64) ||| (((((x1 &&& (127 : Int32))).toInt64) <<< ((0 : Int32) &&& 0x3f).toInt64)))), .second, .val (.int (0 : Int32)), .val (.int x1)]) rfl ?_
    show Steps p.tables e below (T6.setTop (mkF m 61 #[.val (.ref a), .val (.long ((0 : Int64) ||| (((((x1 &&& (127 : Int32))).toInt64) <<< ((0 : Int32) &&& 0x3f).toInt64)))), .second, .val (.int (0 : Int32)), .val (.int x1)] [])) _
    refine XS.iload X6.here hx rfl (hb hby d7_61) rfl ?_
    show Steps p.tables e below (T6.setTop (mkF m 63 #[.val (.ref a), .val (.long ((0 : Int64) ||| (((((x1 &&& (127 : Int32))).toInt64) <<< ((0 : Int32) &&& 0x3f).toInt64)))), .second, .val (.int (0 : Int32)), .val (.int x1)] [(.int x1)])) _
    refine XS.ifNo X6.here hx rfl (hb hby d7_63) rfl (XT.i0_lt_f pr8) ?_
    show Steps p.tables e below (T6.setTop (mkF m 66 #[.val (.ref a), .val (.long ((0 : Int64) ||| (((((x1 &&& (127 : Int32))).toInt64) <<< ((0 : Int32) &&& 0x3f).toInt64)))), .second, .val (.int (0 : Int32)), .val (.int x1)] [])) _
    refine XS.iloadN X6.here hx rfl (hb hby d7_66) rfl ?_
    show Steps p.tables e below (T6.setTop (mkF m 67 #[.val (.ref a), .val (.long ((0 : Int64) ||| (((((x1 &&& (127 : Int32))).toInt64) <<< ((0 : Int32) &&& 0x3f).toInt64)))), .second, .val (.int (0 : Int32)), .val (.int x1)] [(.int (0 : Int32))])) _
    refine XS.bipush X6.here hx rfl (hb hby d7_67) ?_
    show Steps p.tables e below (T6.setTop (mkF m 69 #[.val (.ref a), .val (.long ((0 : Int64) ||| (((((x1 &&& (127 : Int32))).toInt64) <<< ((0 : Int32) &&& 0x3f).toInt64)))), .second, .val (.int (0 : Int32)), .val (.int x1)] [(.int (63 : Int32)), (.int (0 : Int32))])) _
    refine XS.icmpYes X6.here hx rfl (pc0 := 69) (pc' := 81) rfl (hb hby d7_69) rfl (XT.ii_ne_t (by decide)) (by decide) (by decide) ?_
    show Steps p.tables e below (T6.setTop (mkF m 81 #[.val (.ref a), .val (.long ((0 : Int64) ||| (((((x1 &&& (127 : Int32))).toInt64) <<< ((0 : Int32) &&& 0x3f).toInt64)))), .second, .val (.int (0 : Int32)), .val (.int x1)] [])) _
    refine XS.lloadN X6.here hx rfl (hb hby d7_81) rfl ?_
    show Steps p.tables e below (T6.setTop (mkF m 82 #[.val (.ref a), .val (.long ((0 : Int64) ||| (((((x1 &&& (127 : Int32))).toInt64) <<< ((0 : Int32) &&& 0x3f).toInt64)))), .second, .val (.int (0 : Int32)), .val (.int x1)] [(.long ((0 : Int64) ||| (((((x1 &&& (127 : Int32))).toInt64) <<< ((0 : Int32) &&& 0x3f).toInt64))))])) _
    exact kk
  have k11 : Keep h0 h6 [a] := (Keep.wr (Keep.refl h0 [a]) W6 (Or.inl (List.mem_of_getElem? (i := 0) rfl)))
  have f12 := (Fld.other W6 pr2 (Or.inr (slot_ne (Or.inr (hw _ (List.mem_of_getElem? (i := 38) rfl))) (Or.inl (hw _ (List.mem_of_getElem? (i := 45) rfl))) (by decide) (t := (.array .byte)) (t' := .int) (by decide) (by decide))))
  obtain ⟨fs, hr, hrun, hended, hW, hsame⟩ := X6.leave (v := some (.long ((0 : Int64) ||| (((((x1 &&& (127 : Int32))).toInt64) <<< ((0 : Int32) &&& 0x3f).toInt64))))) (fun h => by rw [Bd.returns] at h; cases h)
  refine ⟨_, _, P10 _ ?_, hrun, hended, _, _, rfl, ?_, ⟨_, rfl⟩, hW, hsame.mono (by decide) (by decide)⟩
  · exact X6.lreturnOut hx Bd.returns (hb hby d7_82) hr
  · show Q7 Z a b k z vs d x1 h0 n0 _ T6.heap _
    rw [e6]
    exact ⟨_, rfl, N6, k11, Fw6, f12⟩
theorem d8_0 : decode prog_25_method_5_code 0 = .ok (.aload_n 0, 1) := by decide +kernel
theorem d8_1 : decode prog_25_method_5_code 1 = .ok (.invokevirtual 37, 3) := by decide +kernel
theorem d8_4 : decode prog_25_method_5_code 4 = .ok (.lstore_n 1, 1) := by decide +kernel
theorem d8_5 : decode prog_25_method_5_code 5 = .ok (.lload_n 1, 1) := by decide +kernel
theorem d8_6 : decode prog_25_method_5_code 6 = .ok (.iconst 1, 1) := by decide +kernel
theorem d8_7 : decode prog_25_method_5_code 7 = .ok (.lushr, 1) := by decide +kernel
theorem d8_8 : decode prog_25_method_5_code 8 = .ok (.lload_n 1, 1) := by decide +kernel
theorem d8_9 : decode prog_25_method_5_code 9 = .ok (.lconst 1, 1) := by decide +kernel
theorem d8_10 : decode prog_25_method_5_code 10 = .ok (.land, 1) := by decide +kernel
theorem d8_11 : decode prog_25_method_5_code 11 = .ok (.lneg, 1) := by decide +kernel
theorem d8_12 : decode prog_25_method_5_code 12 = .ok (.lxor, 1) := by decide +kernel
theorem d8_13 : decode prog_25_method_5_code 13 = .ok (.lreturn, 1) := by decide +kernel
theorem ef_8 (m : MethodId) (x0 : Addr) : entryFrame m #[(.ref x0)] 3 = (mkF m 0 #[.val (.ref x0), .unset, .unset] []) := by first | (simp [entryFrame, mkF, argsToLocals, Value.category]; done) | rfl
def Q8 (Z : State) (a : Addr) (b : Addr) (k : ClassId) (z : Int32) (vs : List Value) (d : Value) (x1 : Int32) (h0 : Heap) (n0 : Nat) (vX : Option Value) (hX : Heap) (lX : List Loc) : Prop := ∃ (r : Int64), vX = some (.long r) ∧ Fr n0 lX ∧ (Keep h0 hX [a]) ∧ (Fld Z hX a "com/example/meterwright/meterwright/RecordBody$Reader" "position" "I" (.int (2 : Int32))) ∧ (Fld Z hX a "com/example/meterwright/meterwright/RecordBody$Reader" "bytes" "[B" (.ref b))
set_option maxRecDepth 65536 in
set_option maxHeartbeats 40000000 in
theorem rm8 (l : Launch) (Z : State) (a0 : Array Value) (hw : ∀ d ∈ tables_1, d.before a0 Z = true) (ws : List Jvm.Cond) (a : Addr) (b : Addr) (k : ClassId) (z : Int32) (vs : List Value) (d : Value) (x1 : Int32) (h0 : Heap) (n0 : Nat) (Z0 : n0 ≤ h0.size) (pr0 : Exa Z h0 a "com/example/meterwright/meterwright/RecordBody$Reader") (pr1 : Fld Z h0 a "com/example/meterwright/meterwright/RecordBody$Reader" "position" "I" (.int (1 : Int32))) (pr2 : Fld Z h0 a "com/example/meterwright/meterwright/RecordBody$Reader" "bytes" "[B" (.ref b)) (pr3 : Arv Z h0 b k .byte z vs d) (pr4 : n0 ≤ a) (pr5 : b ≠ a) (pr6 : (1 : Int32) < z) (pr7 : vs.getD (1 : Int32).toNatClampNeg d = (.int x1)) (pr8 : ¬ x1 < (0 : Int32)) :
    MetFree l (⟨"com/example/meterwright/meterwright/RecordBody$Reader", "number", "()J"⟩ : MethodName) (head1 (Jvm.Cond.code (⟨"com/example/meterwright/meterwright/RecordBody$Reader", "number", "()J"⟩ : MethodName) prog_25_method_5_code 3 (some .long) :: ws) ({ frames := 1, cells := 0, slots := 0, locals := 16 } : Room)) (fun aX uX => aX = #[(.ref a)] ∧ Z.Warmed39 uX.vm ∧ uX.heap = h0) (fun _ _ _ _ _ => True) (fun _ uX oX wX => ∃ vX lX, oX = .returned vX ∧ Q8 Z a b k z vs d x1 h0 n0 vX wX.heap lX ∧ FrameEnd uX oX wX lX ({ frames := 1, cells := 0, slots := 0, locals := 16 } : Room).cells ({ frames := 1, cells := 0, slots := 0, locals := 16 } : Room).slots) := by
  refine MetFree.of_bodySF (plainFor_of_name pn_3) hisR ?_
  intro p e s m args below meth c s₁ Bd hml0 hP hK
  obtain ⟨rfl, hZ, hh⟩ := hP
  have hx := Bd.exec
  have hby := Bd.bytes
  have hml : c.maxLocals = 3 := hml0
  have hown : s.vm.findClass "com/example/meterwright/meterwright/RecordBody$Reader" = some m.cls := findClass_of_methodNamed Bd.named
  have hnm := (name_of_methodNamed Bd.named Bd.method).1
  have X0 : Stand p l e ({ frames := 1, cells := 0, slots := 0, locals := 16 } : Room) s m #[(.ref a)] below meth c s₁ [] 0 0 := Stand.of_body Bd
  have e0 : s₁.heap = h0 := by rw [← hh, Bd.state]; rfl
  have N0 := Fr.nil n0
  have pre0 : ∀ t, Steps p.tables e below (s₁.setTop (mkF m 0 #[.val (.ref a), .unset, .unset] [])) t → Steps p.tables e below (s₁.setTop (entryFrame m #[(.ref a)] 3)) t := fun t k => castTop (ef_8 m a) k
  obtain ⟨cq1, q1, q1'⟩ := pr0.cell
  obtain ⟨_, _, ⟨T1, L1, k1, n1⟩, -, X1, ⟨Lc1, hQ1, l1, y1, z1⟩, st1⟩ := X0.privateBack hx (y := (⟨"com/example/meterwright/meterwright/RecordBody$Reader", "varint", "()J"⟩ : MethodName)) hown (mvT hZ (hw _ (List.mem_of_getElem? (i := 56) rfl))) (mvT hZ (hw _ (List.mem_of_getElem? (i := 57) rfl))) (own_selpriv (y := (⟨"com/example/meterwright/meterwright/RecordBody$Reader", "varint", "()J"⟩ : MethodName)) (y' := (⟨"com/example/meterwright/meterwright/RecordBody$Reader", "atEnd", "()Z"⟩ : MethodName)) rfl (mvT hZ (hw _ (List.mem_of_getElem? (i := 42) rfl))) (Cond.privateMethod_at (mvP hZ (hw _ (List.mem_of_getElem? (i := 58) rfl)) (args := #[]))) (mvT hZ (hw _ (List.mem_of_getElem? (i := 57) rfl))) (by decide)) (Cond.privateMethod_at (mvP hZ (hw _ (List.mem_of_getElem? (i := 58) rfl)) (args := #[]))) (mvT hZ (hw _ (List.mem_of_getElem? (i := 59) rfl))) (by decide) (backOf (W := 0) (rm7 l Z a0 hw [] a b k z vs d x1 h0 n0 Z0 pr0 pr1 pr2 pr3 pr4 pr5 pr6 pr7 pr8) hZ (hw _ (List.mem_of_getElem? (i := 59) rfl)) (hw _ (List.mem_of_getElem? (i := 4) rfl)) (by decide) (by decide)) (g := (mkF m 1 #[.val (.ref a), .unset, .unset] [(.ref a)])) rfl (by rw [hml]; rfl) (Steps.refl _) (a := a) (by rw [e0]; exact q1) q1' (argsL := []) (rest := []) (lenOf pd_1 rfl) rfl (by show 2 * 0 + _ ≤ _; exact Nat.le_of_eq rfl) (hb hby d8_1) (fun _ _ => ⟨rfl, e0, (by decide : 0 + 0 ≤ _), (by decide : 0 + 0 ≤ _)⟩)
  dsimp only [Pt.U, Pt.locs, Pt.cells, Pt.slots] at X1 l1 y1 z1 st1 hQ1
  subst l1 y1 z1
  obtain ⟨r_1, rfl, Nq1, K1, q1_0, q1_1⟩ := hQ1
  have N1 := Fr.app N0 Nq1
  have P2 : ∀ t, Steps p.tables e below (T1.setTop (mkF m 13 #[.val (.ref a), .val (.long r_1), .second] [(.long ((((r_1).toUInt64 >>> ((1 : Int32) &&& 0x3f).toInt64.toUInt64).toInt64) ^^^ ((-(r_1 &&& (1 : Int64))))))])) t → Steps p.tables e below (s₁.setTop (entryFrame m #[(.ref a)] 3)) t := by
    intro t kk
    refine pre0 _ ?_
    show Steps p.tables e below (s₁.setTop (mkF m 0 #[.val (.ref a), .unset, .unset] [])) _
    refine XS.aloadN X0.here hx rfl (hb hby d8_0) rfl rfl ?_
    show Steps p.tables e below (s₁.setTop (mkF m 1 #[.val (.ref a), .unset, .unset] [(.ref a)])) _
    refine st1.trans ?_
    show Steps p.tables e below (T1.setTop (mkF m 4 #[.val (.ref a), .unset, .unset] [(.long r_1)])) _
    refine XS.lstoreN X1.here hx rfl (hb hby d8_4) rfl (l' := #[.val (.ref a), .val (.long r_1), .second]) rfl ?_
    show Steps p.tables e below (T1.setTop (mkF m 5 #[.val (.ref a), .val (.long r_1), .second] [])) _
    refine XS.lloadN X1.here hx rfl (hb hby d8_5) rfl ?_
    show Steps p.tables e below (T1.setTop (mkF m 6 #[.val (.ref a), .val (.long r_1), .second] [(.long r_1)])) _
    refine XS.iconst X1.here hx rfl (hb hby d8_6) ?_
    show Steps p.tables e below (T1.setTop (mkF m 7 #[.val (.ref a), .val (.long r_1), .second] [(.int (1 : Int32)), (.long r_1)])) _
    refine XS.lushr X1.here hx rfl (hb hby d8_7) rfl ?_
    show Steps p.tables e below (T1.setTop (mkF m 8 #[.val (.ref a), .val (.long r_1), .second] [(.long (((r_1).toUInt64 >>> ((1 : Int32) &&& 0x3f).toInt64.toUInt64).toInt64))])) _
    refine XS.lloadN X1.here hx rfl (hb hby d8_8) rfl ?_
    show Steps p.tables e below (T1.setTop (mkF m 9 #[.val (.ref a), .val (.long r_1), .second] [(.long r_1), (.long (((r_1).toUInt64 >>> ((1 : Int32) &&& 0x3f).toInt64.toUInt64).toInt64))])) _
    refine XS.lconst X1.here hx rfl (hb hby d8_9) ?_
    show Steps p.tables e below (T1.setTop (mkF m 10 #[.val (.ref a), .val (.long r_1), .second] [(.long (1 : Int64)), (.long r_1), (.long (((r_1).toUInt64 >>> ((1 : Int32) &&& 0x3f).toInt64.toUInt64).toInt64))])) _
    refine XS.land X1.here hx rfl (hb hby d8_10) rfl ?_
    show Steps p.tables e below (T1.setTop (mkF m 11 #[.val (.ref a), .val (.long r_1), .second] [(.long (r_1 &&& (1 : Int64))), (.long (((r_1).toUInt64 >>> ((1 : Int32) &&& 0x3f).toInt64.toUInt64).toInt64))])) _
    refine XS.lneg X1.here hx rfl (hb hby d8_11) rfl ?_
    show Steps p.tables e below (T1.setTop (mkF m 12 #[.val (.ref a), .val (.long r_1), .second] [(.long ((-(r_1 &&& (1 : Int64))))), (.long (((r_1).toUInt64 >>> ((1 : Int32) &&& 0x3f).toInt64.toUInt64).toInt64))])) _
    refine XS.lxor X1.here hx rfl (hb hby d8_12) rfl ?_
    show Steps p.tables e below (T1.setTop (mkF m 13 #[.val (.ref a), .val (.long r_1), .second] [(.long ((((r_1).toUInt64 >>> ((1 : Int32) &&& 0x3f).toInt64.toUInt64).toInt64) ^^^ ((-(r_1 &&& (1 : Int64))))))])) _
    exact kk
  have k3 : Keep h0 T1.heap [a] := (Keep.trans (Keep.refl h0 [a]) K1 (allS (Or.inl (List.mem_of_getElem? (i := 0) rfl)) all0))
  obtain ⟨fs, hr, hrun, hended, hW, hsame⟩ := X1.leave (v := some (.long ((((r_1).toUInt64 >>> ((1 : Int32) &&& 0x3f).toInt64.toUInt64).toInt64) ^^^ ((-(r_1 &&& (1 : Int64))))))) (fun h => by rw [Bd.returns] at h; cases h)
  refine ⟨_, _, P2 _ ?_, hrun, hended, _, _, rfl, ?_, ⟨_, rfl⟩, hW, hsame.mono (by decide) (by decide)⟩
  · exact X1.lreturnOut hx Bd.returns (hb hby d8_13) hr
  · show Q8 Z a b k z vs d x1 h0 n0 _ T1.heap _
    exact ⟨_, rfl, N1, k3, q1_0, q1_1⟩
theorem d9_0 : decode prog_25_method_10_code 0 = .ok (.lconst 0, 1) := by decide +kernel
theorem d9_1 : decode prog_25_method_10_code 1 = .ok (.lstore_n 1, 1) := by decide +kernel
theorem d9_2 : decode prog_25_method_10_code 2 = .ok (.iconst 0, 1) := by decide +kernel
theorem d9_3 : decode prog_25_method_10_code 3 = .ok (.istore_n 3, 1) := by decide +kernel
theorem d9_4 : decode prog_25_method_10_code 4 = .ok (.iload_n 3, 1) := by decide +kernel
theorem d9_5 : decode prog_25_method_10_code 5 = .ok (.bipush 64, 2) := by decide +kernel
theorem d9_7 : decode prog_25_method_10_code 7 = .ok (.if_icmp .ge 82, 3) := by decide +kernel
theorem d9_10 : decode prog_25_method_10_code 10 = .ok (.aload_n 0, 1) := by decide +kernel
theorem d9_11 : decode prog_25_method_10_code 11 = .ok (.getfield 22, 3) := by decide +kernel
theorem d9_14 : decode prog_25_method_10_code 14 = .ok (.aload_n 0, 1) := by decide +kernel
theorem d9_15 : decode prog_25_method_10_code 15 = .ok (.getfield 18, 3) := by decide +kernel
theorem d9_18 : decode prog_25_method_10_code 18 = .ok (.arraylength, 1) := by decide +kernel
theorem d9_19 : decode prog_25_method_10_code 19 = .ok (.if_icmp .ne 13, 3) := by decide +kernel
theorem d9_32 : decode prog_25_method_10_code 32 = .ok (.aload_n 0, 1) := by decide +kernel
theorem d9_33 : decode prog_25_method_10_code 33 = .ok (.getfield 18, 3) := by decide +kernel
theorem d9_36 : decode prog_25_method_10_code 36 = .ok (.aload_n 0, 1) := by decide +kernel
theorem d9_37 : decode prog_25_method_10_code 37 = .ok (.dup, 1) := by decide +kernel
theorem d9_38 : decode prog_25_method_10_code 38 = .ok (.getfield 22, 3) := by decide +kernel
theorem d9_41 : decode prog_25_method_10_code 41 = .ok (.dup_x1, 1) := by decide +kernel
theorem d9_42 : decode prog_25_method_10_code 42 = .ok (.iconst 1, 1) := by decide +kernel
theorem d9_43 : decode prog_25_method_10_code 43 = .ok (.iadd, 1) := by decide +kernel
theorem d9_44 : decode prog_25_method_10_code 44 = .ok (.putfield 22, 3) := by decide +kernel
theorem d9_47 : decode prog_25_method_10_code 47 = .ok (.baload, 1) := by decide +kernel
theorem d9_48 : decode prog_25_method_10_code 48 = .ok (.istore 4, 2) := by decide +kernel
theorem d9_50 : decode prog_25_method_10_code 50 = .ok (.lload_n 1, 1) := by decide +kernel
theorem d9_51 : decode prog_25_method_10_code 51 = .ok (.iload 4, 2) := by decide +kernel
theorem d9_53 : decode prog_25_method_10_code 53 = .ok (.bipush 127, 2) := by decide +kernel
theorem d9_55 : decode prog_25_method_10_code 55 = .ok (.iand, 1) := by decide +kernel
theorem d9_56 : decode prog_25_method_10_code 56 = .ok (.i2l, 1) := by decide +kernel
theorem d9_57 : decode prog_25_method_10_code 57 = .ok (.iload_n 3, 1) := by decide +kernel
theorem d9_58 : decode prog_25_method_10_code 58 = .ok (.lshl, 1) := by decide +kernel
theorem d9_59 : decode prog_25_method_10_code 59 = .ok (.lor, 1) := by decide +kernel
theorem d9_60 : decode prog_25_method_10_code 60 = .ok (.lstore_n 1, 1) := by decide +kernel
theorem d9_61 : decode prog_25_method_10_code 61 = .ok (.iload 4, 2) := by decide +kernel
theorem d9_63 : decode prog_25_method_10_code 63 = .ok (.ifCond .lt 20, 3) := by decide +kernel
theorem d9_66 : decode prog_25_method_10_code 66 = .ok (.iload_n 3, 1) := by decide +kernel
theorem d9_67 : decode prog_25_method_10_code 67 = .ok (.bipush 63, 2) := by decide +kernel
theorem d9_69 : decode prog_25_method_10_code 69 = .ok (.if_icmp .ne 12, 3) := by decide +kernel
theorem d9_81 : decode prog_25_method_10_code 81 = .ok (.lload_n 1, 1) := by decide +kernel
theorem d9_82 : decode prog_25_method_10_code 82 = .ok (.lreturn, 1) := by decide +kernel
theorem d9_83 : decode prog_25_method_10_code 83 = .ok (.iinc 3 7, 3) := by decide +kernel
theorem d9_86 : decode prog_25_method_10_code 86 = .ok (.goto (-82), 3) := by decide +kernel
theorem ef_9 (m : MethodId) (x0 : Addr) : entryFrame m #[(.ref x0)] 5 = (mkF m 0 #[.val (.ref x0), .unset, .unset, .unset, .unset] []) := by first | (simp [entryFrame, mkF, argsToLocals, Value.category]; done) | rfl
def Q9 (Z : State) (a : Addr) (b : Addr) (k : ClassId) (z : Int32) (vs : List Value) (d : Value) (x1 : Int32) (x2 : Int32) (h0 : Heap) (n0 : Nat) (vX : Option Value) (hX : Heap) (lX : List Loc) : Prop := ∃ (r : Int64), vX = some (.long r) ∧ Fr n0 lX ∧ (Keep h0 hX [a]) ∧ (Fld Z hX a "com/example/meterwright/meterwright/RecordBody$Reader" "position" "I" (.int (3 : Int32))) ∧ (Fld Z hX a "com/example/meterwright/meterwright/RecordBody$Reader" "bytes" "[B" (.ref b))
set_option maxRecDepth 65536 in
set_option maxHeartbeats 40000000 in
theorem rm9 (l : Launch) (Z : State) (a0 : Array Value) (hw : ∀ d ∈ tables_1, d.before a0 Z = true) (ws : List Jvm.Cond) (a : Addr) (b : Addr) (k : ClassId) (z : Int32) (vs : List Value) (d : Value) (x1 : Int32) (x2 : Int32) (h0 : Heap) (n0 : Nat) (Z0 : n0 ≤ h0.size) (pr0 : Exa Z h0 a "com/example/meterwright/meterwright/RecordBody$Reader") (pr1 : Fld Z h0 a "com/example/meterwright/meterwright/RecordBody$Reader" "position" "I" (.int (1 : Int32))) (pr2 : Fld Z h0 a "com/example/meterwright/meterwright/RecordBody$Reader" "bytes" "[B" (.ref b)) (pr3 : Arv Z h0 b k .byte z vs d) (pr4 : n0 ≤ a) (pr5 : b ≠ a) (pr6 : (1 : Int32) < z) (pr7 : vs.getD (1 : Int32).toNatClampNeg d = (.int x1)) (pr8 : x1 < (0 : Int32)) (pr9 : (2 : Int32) < z) (pr10 : vs.getD (2 : Int32).toNatClampNeg d = (.int x2)) (pr11 : ¬ x2 < (0 : Int32)) :
    MetFree l (⟨"com/example/meterwright/meterwright/RecordBody$Reader", "varint", "()J"⟩ : MethodName) (head1 (Jvm.Cond.code (⟨"com/example/meterwright/meterwright/RecordBody$Reader", "varint", "()J"⟩ : MethodName) prog_25_method_10_code 5 (some .long) :: ws) ({ frames := 0, cells := 0, slots := 0, locals := 0 } : Room)) (fun aX uX => aX = #[(.ref a)] ∧ Z.Warmed39 uX.vm ∧ uX.heap = h0) (fun _ _ _ _ _ => True) (fun _ uX oX wX => ∃ vX lX, oX = .returned vX ∧ Q9 Z a b k z vs d x1 x2 h0 n0 vX wX.heap lX ∧ FrameEnd uX oX wX lX ({ frames := 0, cells := 0, slots := 0, locals := 0 } : Room).cells ({ frames := 0, cells := 0, slots := 0, locals := 0 } : Room).slots) := by
  refine MetFree.of_bodySF (plainFor_of_name pn_3) hisR ?_
  intro p e s m args below meth c s₁ Bd hml0 hP hK
  obtain ⟨rfl, hZ, hh⟩ := hP
  have hx := Bd.exec
  have hby := Bd.bytes
  have hml : c.maxLocals = 5 := hml0
  have hown : s.vm.findClass "com/example/meterwright/meterwright/RecordBody$Reader" = some m.cls := findClass_of_methodNamed Bd.named
  have hnm := (name_of_methodNamed Bd.named Bd.method).1
  have X0 : Stand p l e ({ frames := 0, cells := 0, slots := 0, locals := 0 } : Room) s m #[(.ref a)] below meth c s₁ [] 0 0 := Stand.of_body Bd
  have e0 : s₁.heap = h0 := by rw [← hh, Bd.state]; rfl
  have N0 := Fr.nil n0
  have pre0 : ∀ t, Steps p.tables e below (s₁.setTop (mkF m 0 #[.val (.ref a), .unset, .unset, .unset, .unset] [])) t → Steps p.tables e below (s₁.setTop (entryFrame m #[(.ref a)] 5)) t := fun t k => castTop (ef_9 m a) k
  obtain ⟨T1, X1, e1, st1⟩ := getF X0 hx hZ hown (host := "") (Or.inl (hw _ (List.mem_of_getElem? (i := 44) rfl))) Via.refl e0 pr1 (g := (mkF m 11 #[.val (.ref a), .val (.long (0 : Int64)), .second, .val (.int (0 : Int32)), .unset] [(.ref a)])) rfl rfl (hb hby d9_11)
  obtain ⟨T2, X2, e2, st2⟩ := getF X1 hx hZ hown (host := "") (Or.inl (hw _ (List.mem_of_getElem? (i := 37) rfl))) Via.refl e1 pr2 (g := (mkF m 15 #[.val (.ref a), .val (.long (0 : Int64)), .second, .val (.int (0 : Int32)), .unset] [(.ref a), (.int (1 : Int32))])) rfl rfl (hb hby d9_15)
  obtain ⟨cl_a3, Ar_a3, q_a3, S_a3, N_a3, H_a3, G_a3⟩ := id pr3
  obtain ⟨T4, X4, e4, st4⟩ := getF X2 hx hZ hown (host := "") (Or.inl (hw _ (List.mem_of_getElem? (i := 37) rfl))) Via.refl e2 pr2 (g := (mkF m 33 #[.val (.ref a), .val (.long (0 : Int64)), .second, .val (.int (0 : Int32)), .unset] [(.ref a)])) rfl rfl (hb hby d9_33)
  obtain ⟨T5, X5, e5, st5⟩ := getF X4 hx hZ hown (host := "") (Or.inl (hw _ (List.mem_of_getElem? (i := 44) rfl))) Via.refl e4 pr1 (g := (mkF m 38 #[.val (.ref a), .val (.long (0 : Int64)), .second, .val (.int (0 : Int32)), .unset] [(.ref a), (.ref a), (.ref b)])) rfl rfl (hb hby d9_38)
  obtain ⟨T6, h6, X6, e6, W6, st6⟩ := putF X5 hx hZ hown (host := "") (Or.inl (hw _ (List.mem_of_getElem? (i := 44) rfl))) Via.refl e5 pr1 pr0 (Or.inl (hw _ (List.mem_of_getElem? (i := 45) rfl))) (hw _ (List.mem_of_getElem? (i := 3) rfl)) (ty := .int) (by decide) rfl rfl (g := (mkF m 44 #[.val (.ref a), .val (.long (0 : Int64)), .second, .val (.int (0 : Int32)), .unset] [(.int (2 : Int32)), (.ref a), (.int (1 : Int32)), (.ref b)])) rfl rfl (hb hby d9_44)
  have N6 := Fr.snoc X6 N0 pr4
  have Fw6 := Fld.same W6 pr1
  have f7 := (pr3.other W6 pr5)
  obtain ⟨cl_a8, Ar_a8, q_a8, S_a8, N_a8, H_a8, G_a8⟩ := id f7
  have hin_a8 : ¬ ((1 : Int32) < 0 ∨ cl_a8.slots.size ≤ ((1 : Int32)).toNatClampNeg) := inb_of S_a8 ⟨by decide, pr6⟩
  have hat_a8 := Has.at (v := (.int x1)) H_a8 hin_a8 pr7
  have P9 : ∀ t, Steps p.tables e below (T6.setTop (mkF m 58 #[.val (.ref a), .val (.long (0 : Int64)), .second, .val (.int (0 : Int32)), .val (.int x1)] [(.int (0 : Int32)), (.long (((x1 &&& (127 : Int32))).toInt64)), (.long (0 : Int64))])) t → Steps p.tables e below (s₁.setTop (entryFrame m #[(.ref a)] 5)) t := by
    intro t kk
    refine pre0 _ ?_
    show Steps p.tables e below (s₁.setTop (mkF m 0 #[.val (.ref a), .unset, .unset, .unset, .unset] [])) _
    refine XS.lconst X0.here hx rfl (hb hby d9_0) ?_
    show Steps p.tables e below (s₁.setTop (mkF m 1 #[.val (.ref a), .unset, .unset, .unset, .unset] [(.long (0 : Int64))])) _
    refine XS.lstoreN X0.here hx rfl (hb hby d9_1) rfl (l' := #[.val (.ref a), .val (.long (0 : Int64)), .second, .unset, .unset]) rfl ?_
    show Steps p.tables e below (s₁.setTop (mkF m 2 #[.val (.ref a), .val (.long (0 : Int64)), .second, .unset, .unset] [])) _
    refine XS.iconst X0.here hx rfl (hb hby d9_2) ?_
    show Steps p.tables e below (s₁.setTop (mkF m 3 #[.val (.ref a), .val (.long (0 : Int64)), .second, .unset, .unset] [(.int (0 : Int32))])) _
    refine XS.istoreN X0.here hx rfl (hb hby d9_3) rfl (l' := #[.val (.ref a), .val (.long (0 : Int64)), .second, .val (.int (0 : Int32)), .unset]) rfl ?_
    show Steps p.tables e below (s₁.setTop (mkF m 4 #[.val (.ref a), .val (.long (0 : Int64)), .second, .val (.int (0 : Int32)), .unset] [])) _
    refine XS.iloadN X0.here hx rfl (hb hby d9_4) rfl ?_
    show Steps p.tables e below (s₁.setTop (mkF m 5 #[.val (.ref a), .val (.long (0 : Int64)), .second, .val (.int (0 : Int32)), .unset] [(.int (0 : Int32))])) _
    refine XS.bipush X0.here hx rfl (hb hby d9_5) ?_
    show Steps p.tables e below (s₁.setTop (mkF m 7 #[.val (.ref a), .val (.long (0 : Int64)), .second, .val (.int (0 : Int32)), .unset] [(.int (64 : Int32)), (.int (0 : Int32))])) _
    refine XS.icmpNo X0.here hx rfl (hb hby d9_7) rfl (XT.ii_ge_f (by decide)) ?_
    show Steps p.tables e below (s₁.setTop (mkF m 10 #[.val (.ref a), .val (.long (0 : Int64)), .second, .val (.int (0 : Int32)), .unset] [])) _
    refine XS.aloadN X0.here hx rfl (hb hby d9_10) rfl rfl ?_
    show Steps p.tables e below (s₁.setTop (mkF m 11 #[.val (.ref a), .val (.long (0 : Int64)), .second, .val (.int (0 : Int32)), .unset] [(.ref a)])) _
    refine st1 _ ?_
    show Steps p.tables e below (T1.setTop (mkF m 14 #[.val (.ref a), .val (.long (0 : Int64)), .second, .val (.int (0 : Int32)), .unset] [(.int (1 : Int32))])) _
    refine XS.aloadN X1.here hx rfl (hb hby d9_14) rfl rfl ?_
    show Steps p.tables e below (T1.setTop (mkF m 15 #[.val (.ref a), .val (.long (0 : Int64)), .second, .val (.int (0 : Int32)), .unset] [(.ref a), (.int (1 : Int32))])) _
    refine st2 _ ?_
    show Steps p.tables e below (T2.setTop (mkF m 18 #[.val (.ref a), .val (.long (0 : Int64)), .second, .val (.int (0 : Int32)), .unset] [(.ref b), (.int (1 : Int32))])) _
    refine X2.arraylength hx (by rw [e2]; exact Ar_a3.1) (State.isArrayOf_alike hZ.alike Ar_a3.2.1) (g := (mkF m 18 #[.val (.ref a), .val (.long (0 : Int64)), .second, .val (.int (0 : Int32)), .unset] [(.ref b), (.int (1 : Int32))])) rfl rfl (hb hby d9_18) _ ?_
    rw [len_of S_a3 N_a3]
    show Steps p.tables e below (T2.setTop (mkF m 19 #[.val (.ref a), .val (.long (0 : Int64)), .second, .val (.int (0 : Int32)), .unset] [(.int z), (.int (1 : Int32))])) _
    refine XS.icmpYes X2.here hx rfl (pc0 := 19) (pc' := 32) rfl (hb hby d9_19) rfl (XT.ii_ne_t (fun hh => absurd pr6 (by rw [← hh]; exact Int32.lt_irrefl))) (by decide) (by decide) ?_
    show Steps p.tables e below (T2.setTop (mkF m 32 #[.val (.ref a), .val (.long (0 : Int64)), .second, .val (.int (0 : Int32)), .unset] [])) _
    refine XS.aloadN X2.here hx rfl (hb hby d9_32) rfl rfl ?_
    show Steps p.tables e below (T2.setTop (mkF m 33 #[.val (.ref a), .val (.long (0 : Int64)), .second, .val (.int (0 : Int32)), .unset] [(.ref a)])) _
    refine st4 _ ?_
    show Steps p.tables e below (T4.setTop (mkF m 36 #[.val (.ref a), .val (.long (0 : Int64)), .second, .val (.int (0 : Int32)), .unset] [(.ref b)])) _
    refine XS.aloadN X4.here hx rfl (hb hby d9_36) rfl rfl ?_
    show Steps p.tables e below (T4.setTop (mkF m 37 #[.val (.ref a), .val (.long (0 : Int64)), .second, .val (.int (0 : Int32)), .unset] [(.ref a), (.ref b)])) _
    refine XS.dup X4.here hx rfl (hb hby d9_37) rfl rfl ?_
    show Steps p.tables e below (T4.setTop (mkF m 38 #[.val (.ref a), .val (.long (0 : Int64)), .second, .val (.int (0 : Int32)), .unset] [(.ref a), (.ref a), (.ref b)])) _
    refine st5 _ ?_
    show Steps p.tables e below (T5.setTop (mkF m 41 #[.val (.ref a), .val (.long (0 : Int64)), .second, .val (.int (0 : Int32)), .unset] [(.int (1 : Int32)), (.ref a), (.ref b)])) _
    refine XS.dupX1 X5.here hx rfl (hb hby d9_41) rfl rfl rfl ?_
    show Steps p.tables e below (T5.setTop (mkF m 42 #[.val (.ref a), .val (.long (0 : Int64)), .second, .val (.int (0 : Int32)), .unset] [(.int (1 : Int32)), (.ref a), (.int (1 : Int32)), (.ref b)])) _
    refine XS.iconst X5.here hx rfl (hb hby d9_42) ?_
    show Steps p.tables e below (T5.setTop (mkF m 43 #[.val (.ref a), .val (.long (0 : Int64)), .second, .val (.int (0 : Int32)), .unset] [(.int (1 : Int32)), (.int (1 : Int32)), (.ref a), (.int (1 : Int32)), (.ref b)])) _
    refine XS.iadd X5.here hx rfl (hb hby d9_43) rfl ?_
    show Steps p.tables e below (T5.setTop (mkF m 44 #[.val (.ref a), .val (.long (0 : Int64)), .second, .val (.int (0 : Int32)), .unset] [(.int (2 : Int32)), (.ref a), (.int (1 : Int32)), (.ref b)])) _
    refine st6 _ ?_
    show Steps p.tables e below (T6.setTop (mkF m 47 #[.val (.ref a), .val (.long (0 : Int64)), .second, .val (.int (0 : Int32)), .unset] [(.int (1 : Int32)), (.ref b)])) _
    refine X6.baloadBytes hx (j := (1 : Int32)) (v := (.int x1)) (by rw [e6]; exact Ar_a8.1) (State.isArrayOf_alike hZ.alike Ar_a8.2.1) Ar_a8.2.2 hin_a8 hat_a8 (g := (mkF m 47 #[.val (.ref a), .val (.long (0 : Int64)), .second, .val (.int (0 : Int32)), .unset] [(.int (1 : Int32)), (.ref b)])) rfl rfl (hb hby d9_47) _ ?_
    show Steps p.tables e below (T6.setTop (mkF m 48 #[.val (.ref a), .val (.long (0 : Int64)), .second, .val (.int (0 : Int32)), .unset] [(.int x1)])) _
    refine XS.istore X6.here hx rfl (hb hby d9_48) rfl (l' := #[.val (.ref a), .val (.long (0 : Int64)), .second, .val (.int (0 : Int32)), .val (.int x1)]) rfl ?_
    show Steps p.tables e below (T6.setTop (mkF m 50 #[.val (.ref a), .val (.long (0 : Int64)), .second, .val (.int (0 : Int32)), .val (.int x1)] [])) _
    refine XS.lloadN X6.here hx rfl (hb hby d9_50) rfl ?_
    show Steps p.tables e below (T6.setTop (mkF m 51 #[.val (.ref a), .val (.long (0 : Int64)), .second, .val (.int (0 : Int32)), .val (.int x1)] [(.long (0 : Int64))])) _
    refine XS.iload X6.here hx rfl (hb hby d9_51) rfl ?_
    show Steps p.tables e below (T6.setTop (mkF m 53 #[.val (.ref a), .val (.long (0 : Int64)), .second, .val (.int (0 : Int32)), .val (.int x1)] [(.int x1), (.long (0 : Int64))])) _
    refine XS.bipush X6.here hx rfl (hb hby d9_53) ?_
    show Steps p.tables e below (T6.setTop (mkF m 55 #[.val (.ref a), .val (.long (0 : Int64)), .second, .val (.int (0 : Int32)), .val (.int x1)] [(.int (127 : Int32)), (.int x1), (.long (0 : Int64))])) _
    refine XS.iand X6.here hx rfl (hb hby d9_55) rfl ?_
    show Steps p.tables e below (T6.setTop (mkF m 56 #[.val (.ref a), .val (.long (0 : Int64)), .second, .val (.int (0 : Int32)), .val (.int x1)] [(.int (x1 &&& (127 : Int32))), (.long (0 : Int64))])) _
    refine XS.i2l X6.here hx rfl (hb hby d9_56) rfl ?_
    show Steps p.tables e below (T6.setTop (mkF m 57 #[.val (.ref a), .val (.long (0 : Int64)), .second, .val (.int (0 : Int32)), .val (.int x1)] [(.long (((x1 &&& (127 : Int32))).toInt64)), (.long (0 : Int64))])) _
    refine XS.iloadN X6.here hx rfl (hb hby d9_57) rfl ?_
    show Steps p.tables e below (T6.setTop (mkF m 58 #[.val (.ref a), .val (.long (0 : Int64)), .second, .val (.int (0 : Int32)), .val (.int x1)] [(.int (0 : Int32)), (.long (((x1 &&& (127 : Int32))).toInt64)), (.long (0 : Int64))])) _
    exact kk
  obtain ⟨T10, X10, e10, st10⟩ := getF X6 hx hZ hown (host := "") (Or.inl (hw _ (List.mem_of_getElem? (i := 44) rfl))) Via.refl e6 Fw6 (g := (mkF m 11 #[.val (.ref a), .val (.long ((0 : Int64) ||| (((((x1 &&& (127 : Int32))).toInt64) <<< ((0 : Int32) &&& 0x3f).toInt64)))), .second, .val (.int (7 : Int32)), .val (.int x1)] [(.ref a)])) rfl rfl (hb hby d9_11)
  have f11 := (Fld.other W6 pr2 (Or.inr (slot_ne (Or.inr (hw _ (List.mem_of_getElem? (i := 38) rfl))) (Or.inl (hw _ (List.mem_of_getElem? (i := 45) rfl))) (by decide) (t := (.array .byte)) (t' := .int) (by decide) (by decide))))
  obtain ⟨T12, X12, e12, st12⟩ := getF X10 hx hZ hown (host := "") (Or.inl (hw _ (List.mem_of_getElem? (i := 37) rfl))) Via.refl e10 f11 (g := (mkF m 15 #[.val (.ref a), .val (.long ((0 : Int64) ||| (((((x1 &&& (127 : Int32))).toInt64) <<< ((0 : Int32) &&& 0x3f).toInt64)))), .second, .val (.int (7 : Int32)), .val (.int x1)] [(.ref a), (.int (2 : Int32))])) rfl rfl (hb hby d9_15)
  obtain ⟨cl_a13, Ar_a13, q_a13, S_a13, N_a13, H_a13, G_a13⟩ := id f7
  obtain ⟨T14, X14, e14, st14⟩ := getF X12 hx hZ hown (host := "") (Or.inl (hw _ (List.mem_of_getElem? (i := 37) rfl))) Via.refl e12 f11 (g := (mkF m 33 #[.val (.ref a), .val (.long ((0 : Int64) ||| (((((x1 &&& (127 : Int32))).toInt64) <<< ((0 : Int32) &&& 0x3f).toInt64)))), .second, .val (.int (7 : Int32)), .val (.int x1)] [(.ref a)])) rfl rfl (hb hby d9_33)
  obtain ⟨T15, X15, e15, st15⟩ := getF X14 hx hZ hown (host := "") (Or.inl (hw _ (List.mem_of_getElem? (i := 44) rfl))) Via.refl e14 Fw6 (g := (mkF m 38 #[.val (.ref a), .val (.long ((0 : Int64) ||| (((((x1 &&& (127 : Int32))).toInt64) <<< ((0 : Int32) &&& 0x3f).toInt64)))), .second, .val (.int (7 : Int32)), .val (.int x1)] [(.ref a), (.ref a), (.ref b)])) rfl rfl (hb hby d9_38)
  have f16 := (Exa.wr W6 pr0)
  obtain ⟨T17, h17, X17, e17, W17, st17⟩ := putF X15 hx hZ hown (host := "") (Or.inl (hw _ (List.mem_of_getElem? (i := 44) rfl))) Via.refl e15 Fw6 f16 (Or.inl (hw _ (List.mem_of_getElem? (i := 45) rfl))) (hw _ (List.mem_of_getElem? (i := 3) rfl)) (ty := .int) (by decide) rfl rfl (g := (mkF m 44 #[.val (.ref a), .val (.long ((0 : Int64) ||| (((((x1 &&& (127 : Int32))).toInt64) <<< ((0 : Int32) &&& 0x3f).toInt64)))), .second, .val (.int (7 : Int32)), .val (.int x1)] [(.int (3 : Int32)), (.ref a), (.int (2 : Int32)), (.ref b)])) rfl rfl (hb hby d9_44)
  have N17 := Fr.snoc X17 N6 pr4
  have Fw17 := Fld.same W17 Fw6
  have f18 := (f7.other W17 pr5)
  obtain ⟨cl_a19, Ar_a19, q_a19, S_a19, N_a19, H_a19, G_a19⟩ := id f18
  have hin_a19 : ¬ ((2 : Int32) < 0 ∨ cl_a19.slots.size ≤ ((2 : Int32)).toNatClampNeg) := inb_of S_a19 ⟨by decide, pr9⟩
  have hat_a19 := Has.at (v := (.int x2)) H_a19 hin_a19 pr10
  have P20 : ∀ t, Steps p.tables e below (T17.setTop (mkF m 55 #[.val (.ref a), .val (.long ((0 : Int64) ||| (((((x1 &&& (127 : Int32))).toInt64) <<< ((0 : Int32) &&& 0x3f).toInt64)))), .second, .val (.int (7 : Int32)), .val (.int x2)] [(.int (127 : Int32)), (.int x2), (.long ((0 : Int64) ||| (((((x1 &&& (127 : Int32))).toInt64) <<< ((0 : Int32) &&& 0x3f).toInt64))))])) t → Steps p.tables e below (s₁.setTop (entryFrame m #[(.ref a)] 5)) t := by
    intro t kk
    refine P9 _ ?_
    show Steps p.tables e below (T6.setTop (mkF m 58 #[.val (.ref a), .val (.long (0 : Int64)), .second, .val (.int (0 : Int32)), .val (.int x1)] [(.int (0 : Int32)), (.long (((x1 &&& (127 : Int32))).toInt64)), (.long (0 : Int64))])) _
    refine XS.lshl X6.here hx rfl (hb hby d9_58) rfl ?_
    show Steps p.tables e below (T6.setTop (mkF m 59 #[.val (.ref a), .val (.long (0 : Int64)), .second, .val (.int (0 : Int32)), .val (.int x1)] [(.long (((((x1 &&& (127 : Int32))).toInt64) <<< ((0 : Int32) &&& 0x3f).toInt64))), (.long (0 : Int64))])) _
    refine XS.lor X6.here hx rfl (hb hby d9_59) rfl ?_
    show Steps p.tables e below (T6.setTop (mkF m 60 #[.val (.ref a), .val (.long (0 : Int64)), .second, .val (.int (0 : Int32)), .val (.int x1)] [(.long ((0 : Int64) ||| (((((x1 &&& (127 : Int32))).toInt64) <<< ((0 : Int32) &&& 0x3f).toInt64))))])) _
    refine XS.lstoreN X6.here hx rfl (hb hby d9_60) rfl (l' := #[.val (.ref a), .val (.long ((0 : Int64) ||| (((((x1 &&& (127 : Int32))).toInt64) <<< ((0 : Int32) &&& 0x3f).toInt64)))), .second, .val (.int (0 : Int32)), .val (.int x1)]) rfl ?_
    show Steps p.tables e below (T6.setTop (mkF m 61 #[.val (.ref a), .val (.long ((0 : Int64) ||| (((((x1 &&& (127 : Int32))).toInt64) <<< ((0 : Int32) &&& 0x3f).toInt64)))), .second, .val (.int (0 : Int32)), .val (.int x1)] [])) _
    refine XS.iload X6.here hx rfl (hb hby d9_61) rfl ?_
    show Steps p.tables e below (T6.setTop (mkF m 63 #[.val (.ref a), .val (.long ((0 : Int64) ||| (((((x1 &&& (127 : Int32))).toInt64) <<< ((0 : Int32) &&& 0x3f).toInt64)))), .second, .val (.int (0 : Int32)), .val (.int x1)] [(.int x1)])) _
    refine XS.ifYes X6.here hx rfl (pc0 := 63) (pc' := 83) rfl (hb hby d9_63) rfl (XT.i0_lt_t pr8) (by decide) (by decide) ?_
    show Steps p.tables e below (T6.setTop (mkF m 83 #[.val (.ref a), .val (.long ((0 : Int64) ||| (((((x1 &&& (127 : Int32))).toInt64) <<< ((0 : Int32) &&& 0x3f).toInt64)))), .second, .val (.int (0 : Int32)), .val (.int x1)] [])) _
    refine XS.iinc X6.here hx rfl (hb hby d9_83) rfl (l' := #[.val (.ref a), .val (.long ((0 : Int64) ||| (((((x1 &&& (127 : Int32))).toInt64) <<< ((0 : Int32) &&& 0x3f).toInt64)))), .second, .val (.int (7 : Int32)), .val (.int x1)]) rfl ?_
    show Steps p.tables e below (T6.setTop (mkF m 86 #[.val (.ref a), .val (.long ((0 : Int64) ||| (((((x1 &&& (127 : Int32))).toInt64) <<< ((0 : Int32) &&& 0x3f).toInt64)))), .second, .val (.int (7 : Int32)), .val (.int x1)] [])) _
    refine XS.goto X6.here hx rfl (pc0 := 86) (pc' := 4) rfl (hb hby d9_86) (by decide) (by decide) ?_
    show Steps p.tables e below (T6.setTop (mkF m 4 #[.val (.ref a), .val (.long ((0 : Int64) ||| (((((x1 &&& (127 : Int32))).toInt64) <<< ((0 : Int32) &&& 0x3f).toInt64)))), .second, .val (.int (7 : Int32)), .val (.int x1)] [])) _
    refine XS.iloadN X6.here hx rfl (hb hby d9_4) rfl ?_
    show Steps p.tables e below (T6.setTop (mkF m 5 #[.val (.ref a), .val (.long ((0 : Int64) ||| (((((x1 &&& (127 : Int32))).toInt64) <<< ((0 : Int32) &&& 0x3f).toInt64)))), .second, .val (.int (7 : Int32)), .val (.int x1)] [(.int (7 : Int32))])) _
    refine XS.bipush X6.here hx rfl (hb hby d9_5) ?_
    show Steps p.tables e below (T6.setTop (mkF m 7 #[.val (.ref a), .val (.long ((0 : Int64) ||| (((((x1 &&& (127 : Int32))).toInt64) <<< ((0 : Int32) &&& 0x3f).toInt64)))), .second, .val (.int (7 : Int32)), .val (.int x1)] [(.int (64 : Int32)), (.int (7 : Int32))])) _
    refine XS.icmpNo X6.here hx rfl (hb hby d9_7) rfl (XT.ii_ge_f (by decide)) ?_
    show Steps p.tables e below (T6.setTop (mkF m 10 #[.val (.ref a), .val (.long ((0 : Int64) ||| (((((x1 &&& (127 : Int32))).toInt64) <<< ((0 : Int32) &&& 0x3f).toInt64)))), .second, .val (.int (7 : Int32)), .val (.int x1)] [])) _
    refine XS.aloadN X6.here hx rfl (hb hby d9_10) rfl rfl ?_
    show Steps p.tables e below (T6.setTop (mkF m 11 #[.val (.ref a), .val (.long ((0 : Int64) ||| (((((x1 &&& (127 : Int32))).toInt64) <<< ((0 : Int32) &&& 0x3f).toInt64)))), .second, .val (.int (7 : Int32)), .val (.int x1)] [(.ref a)])) _
    refine st10 _ ?_
    show Steps p.tables e below (T10.setTop (mkF m 14 #[.val (.ref a), .val (.long ((0 : Int64) ||| (((((x1 &&& (127 : Int32))).toInt64) <<< ((0 : Int32) &&& 0x3f).toInt64)))), .second, .val (.int (7 : Int32)), .val (.int x1)] [(.int (2 : Int32))])) _
    refine XS.aloadN X10.here hx rfl (hb hby d9_14) rfl rfl ?_
    show Steps p.tables e below (T10.setTop (mkF m 15 #[.val (.ref a), .val (.long ((0 : Int64) ||| (((((x1 &&& (127 : Int32))).toInt64) <<< ((0 : Int32) &&& 0x3f).toInt64)))), .second, .val (.int (7 : Int32)), .val (.int x1)] [(.ref a), (.int (2 : Int32))])) _
    refine st12 _ ?_
    show Steps p.tables e below (T12.setTop (mkF m 18 #[.val (.ref a), .val (.long ((0 : Int64) ||| (((((x1 &&& (127 : Int32))).toInt64) <<< ((0 : Int32) &&& 0x3f).toInt64)))), .second, .val (.int (7 : Int32)), .val (.int x1)] [(.ref b), (.int (2 : Int32))])) _
    refine X12.arraylength hx (by rw [e12]; exact Ar_a13.1) (State.isArrayOf_alike hZ.alike Ar_a13.2.1) (g := (mkF m 18 #[.val (.ref a), .val (.long ((0 : Int64) ||| (((((x1 &&& (127 : Int32))).toInt64) <<< ((0 : Int32) &&& 0x3f).toInt64)))), .second, .val (.int (7 : Int32)), .val (.int x1)] [(.ref b), (.int (2 : Int32))])) rfl rfl (hb hby d9_18) _ ?_
    rw [len_of S_a13 N_a13]
    show Steps p.tables e below (T12.setTop (mkF m 19 #[.val (.ref a), .val (.long ((0 : Int64) ||| (((((x1 &&& (127 : Int32))).toInt64) <<< ((0 : Int32) &&& 0x3f).toInt64)))), .second, .val (.int (7 : Int32)), .val (.int x1)] [(.int z), (.int (2 : Int32))])) _
    refine XS.icmpYes X12.here hx rfl (pc0 := 19) (pc' := 32) rfl (hb hby d9_19) rfl (XT.ii_ne_t (fun hh => absurd pr9 (by rw [← hh]; exact Int32.lt_irrefl))) (by decide) (by decide) ?_
    show Steps p.tables e below (T12.setTop (mkF m 32 #[.val (.ref a), .val (.long ((0 : Int64) ||| (((((x1 &&& (127 : Int32))).toInt64) <<< ((0 : Int32) &&& 0x3f).toInt64)))), .second, .val (.int (7 : Int32)), .val (.int x1)] [])) _
    refine XS.aloadN X12.here hx rfl (hb hby d9_32) rfl rfl ?_
    show Steps p.tables e below (T12.setTop (mkF m 33 #[.val (.ref a), .val (.long ((0 : Int64) ||| (((((x1 &&& (127 : Int32))).toInt64) <<< ((0 : Int32) &&& 0x3f).toInt64)))), .second, .val (.int (7 : Int32)), .val (.int x1)] [(.ref a)])) _
    refine st14 _ ?_
    show Steps p.tables e below (T14.setTop (mkF m 36 #[.val (.ref a), .val (.long ((0 : Int64) ||| (((((x1 &&& (127 : Int32))).toInt64) <<< ((0 : Int32) &&& 0x3f).toInt64)))), .second, .val (.int (7 : Int32)), .val (.int x1)] [(.ref b)])) _
    refine XS.aloadN X14.here hx rfl (hb hby d9_36) rfl rfl ?_
    show Steps p.tables e below (T14.setTop (mkF m 37 #[.val (.ref a), .val (.long ((0 : Int64) ||| (((((x1 &&& (127 : Int32))).toInt64) <<< ((0 : Int32) &&& 0x3f).toInt64)))), .second, .val (.int (7 : Int32)), .val (.int x1)] [(.ref a), (.ref b)])) _
    refine XS.dup X14.here hx rfl (hb hby d9_37) rfl rfl ?_
    show Steps p.tables e below (T14.setTop (mkF m 38 #[.val (.ref a), .val (.long ((0 : Int64) ||| (((((x1 &&& (127 : Int32))).toInt64) <<< ((0 : Int32) &&& 0x3f).toInt64)))), .second, .val (.int (7 : Int32)), .val (.int x1)] [(.ref a), (.ref a), (.ref b)])) _
    refine st15 _ ?_
    show Steps p.tables e below (T15.setTop (mkF m 41 #[.val (.ref a), .val (.long ((0 : Int64) ||| (((((x1 &&& (127 : Int32))).toInt64) <<< ((0 : Int32) &&& 0x3f).toInt64)))), .second, .val (.int (7 : Int32)), .val (.int x1)] [(.int (2 : Int32)), (.ref a), (.ref b)])) _
    refine XS.dupX1 X15.here hx rfl (hb hby d9_41) rfl rfl rfl ?_
    show Steps p.tables e below (T15.setTop (mkF m 42 #[.val (.ref a), .val (.long ((0 : Int64) ||| (((((x1 &&& (127 : Int32))).toInt64) <<< ((0 : Int32) &&& 0x3f).toInt64)))), .second, .val (.int (7 : Int32)), .val (.int x1)] [(.int (2 : Int32)), (.ref a), (.int (2 : Int32)), (.ref b)])) _
    refine XS.iconst X15.here hx rfl (hb hby d9_42) ?_
    show Steps p.tables e below (T15.setTop (mkF m 43 #[.val (.ref a), .val (.long ((0 : Int64) ||| (((((x1 &&& (127 : Int32))).toInt64) <<< ((0 : Int32) &&& 0x3f).toInt64)))), .second, .val (.int (7 : Int32)), .val (.int x1)] [(.int (1 : Int32)), (.int (2 : Int32)), (.ref a), (.int (2 : Int32)), (.ref b)])) _
    refine XS.iadd X15.here hx rfl (hb hby d9_43) rfl ?_
    show Steps p.tables e below (T15.setTop (mkF m 44 #[.val (.ref a), .val (.long ((0 : Int64) ||| (((((x1 &&& (127 : Int32))).toInt64) <<< ((0 : Int32) &&& 0x3f).toInt64)))), .second, .val (.int (7 : Int32)), .val (.int x1)] [(.int (3 : Int32)), (.ref a), (.int (2 : Int32)), (.ref b)])) _
    refine st17 _ ?_
    show Steps p.tables e below (T17.setTop (mkF m 47 #[.val (.ref a), .val (.long ((0 : Int64) ||| (((((x1 &&& (127 : Int32))).toInt64) <<< ((0 : Int32) &&& 0x3f).toInt64)))), .second, .val (.int (7 : Int32)), .val (.int x1)] [(.int (2 : Int32)), (.ref b)])) _
    refine X17.baloadBytes hx (j := (2 : Int32)) (v := (.int x2)) (by rw [e17]; exact Ar_a19.1) (State.isArrayOf_alike hZ.alike Ar_a19.2.1) Ar_a19.2.2 hin_a19 hat_a19 (g := (mkF m 47 #[.val (.ref a), .val (.long ((0 : Int64) ||| (((((x1 &&& (127 : Int32))).toInt64) <<< ((0 : Int32) &&& 0x3f).toInt64)))), .second, .val (.int (7 : Int32)), .val (.int x1)] [(.int (2 : Int32)), (.ref b)])) rfl rfl (hb hby d9_47) _ ?_
    show Steps p.tables e below (T17.setTop (mkF m 48 #[.val (.ref a), .val (.long ((0 : Int64) ||| (((((x1 &&& (127 : Int32))).toInt64) <<< ((0 : Int32) &&& 0x3f).toInt64)))), .second, .val (.int (7 : Int32)), .val (.int x1)] [(.int x2)])) _
    refine XS.istore X17.here hx rfl (hb hby d9_48) rfl (l' := #[.val (.ref a), .val (.long ((0 : Int64) ||| (((((x1 &&& (127 : Int32))).toInt64) <<< ((0 : Int32) &&& 0x3f).toInt64)))), .second, .val (.int (7 : Int32)), .val (.int x2)]) rfl ?_
    show Steps p.tables e below (T17.setTop (mkF m 50 #[.val (.ref a), .val (.long ((0 : Int64) ||| (((((x1 &&& (127 : Int32))).toInt64) <<< ((0 : Int32) &&& 0x3f).toInt64)))), .second, .val (.int (7 : Int32)), .val (.int x2)] [])) _
    refine XS.lloadN X17.here hx rfl (hb hby d9_50) rfl ?_
    show Steps p.tables e below (T17.setTop (mkF m 51 #[.val (.ref a), .val (.long ((0 : Int64) ||| (((((x1 &&& (127 : Int32))).toInt64) <<< ((0 : Int32) &&& 0x3f).toInt64)))), .second, .val (.int (7 : Int32)), .val (.int x2)] [(.long ((0 : Int64) ||| (((((x1 &&& (127 : Int32))).toInt64) <<< ((0 : Int32) &&& 0x3f).toInt64))))])) _
    refine XS.iload X17.here hx rfl (hb hby d9_51) rfl ?_
    show Steps p.tables e below (T17.setTop (mkF m 53 #[.val (.ref a), .val (.long ((0 : Int64) ||| (((((x1 &&& (127 : Int32))).toInt64) <<< ((0 : Int32) &&& 0x3f).toInt64)))), .second, .val (.int (7 : Int32)), .val (.int x2)] [(.int x2), (.long ((0 : Int64) ||| (((((x1 &&& (127 : Int32))).toInt64) <<< ((0 : Int32) &&& 0x3f).toInt64))))])) _
    refine XS.bipush X17.here hx rfl (hb hby d9_53) ?_
    show Steps p.tables e below (T17.setTop (mkF m 55 #[.val (.ref a), .val (.long ((0 : Int64) ||| (((((x1 &&& (127 : Int32))).toInt64) <<< ((0 : Int32) &&& 0x3f).toInt64)))), .second, .val (.int (7 : Int32)), .val (.int x2)] [(.int (127 : Int32)), (.int x2), (.long ((0 : Int64) ||| (((((x1 &&& (127 : Int32))).toInt64) <<< ((0 : Int32) &&& 0x3f).toInt64))))])) _
    exact kk
  have P21 : ∀ t, Steps p.tables e below (T17.setTop (mkF m 82 #[.val (.ref a), .val (.long (((0 : Int64) ||| (((((x1 &&& (127 : Int32))).toInt64) <<< ((0 : Int32) &&& 0x3f).toInt64))) ||| (((((x2 &&& (127 : Int32))).toInt64) <<< ((7 : Int32) &&& 0x3f).toInt64)))), .second, .val (.int (7 : Int32)), .val (.int x2)] [(.long (((0 : Int64) ||| (((((x1 &&& (127 : Int32))).toInt64) <<< ((0 : Int32) &&& 0x3f).toInt64))) ||| (((((x2 &&& (127 : Int32))).toInt64) <<< ((7 : Int32) &&& 0x3f).toInt64))))])) t → Steps p.tables e below (s₁.setTop (entryFrame m #[(.ref a)] 5)) t := by
    intro t kk
    refine P20 _ ?_
    show Steps p.tables e below (T17.setTop (mkF m 55 #[.val (.ref a), .val (.long ((0 : Int64) ||| (((((x1 &&& (127 : Int32))).toInt64) <<< ((0 : Int32) &&& 0x3f).toInt64)))), .second, .val (.int (7 : Int32)), .val (.int x2)] [(.int (127 : Int32)), (.int x2), (.long ((0 : Int64) ||| (((((x1 &&& (127 : Int32))).toInt64) <<< ((0 : Int32) &&& 0x3f).toInt64))))])) _
    refine XS.iand X17.here hx rfl (hb hby d9_55) rfl ?_
    show Steps p.tables e below (T17.setTop (mkF m 56 #[.val (.ref a), .val (.long ((0 : Int64) ||| (((((x1 &&& (127 : Int32))).toInt64) <<< ((0 : Int32) &&& 0x3f).toInt64)))), .second, .val (.int (7 : Int32)), .val (.int x2)] [(.int (x2 &&& (127 : Int32))), (.long ((0 : Int64) ||| (((((x1 &&& (127 : Int32))).toInt64) <<< ((0 : Int32) &&& 0x3f).toInt64))))])) _
    refine XS.i2l X17.here hx rfl (hb hby d9_56) rfl ?_
    show Steps p.tables e below (T17.setTop (mkF m 57 #[.val (.ref a), .val (.long ((0 : Int64) ||| (((((x1 &&& (127 : Int32))).toInt64) <<< ((0 : Int32) &&& 0x3f).toInt64)))), .second, .val (.int (7 : Int32)), .val (.int x2)] [(.long (((x2 &&& (127 : Int32))).toInt64)), (.long ((0 : Int64) ||| (((((x1 &&& (127 : Int32))).toInt64) <<< ((0 : Int32) &&& 0x3f).toInt64))))])) _
    refine XS.iloadN X17.here hx rfl (hb hby d9_57) rfl ?_
    show Steps p.tables e below (T17.setTop (mkF m 58 #[.val (.ref a), .val (.long ((0 : Int64) ||| (((((x1 &&& (127 : Int32))).toInt64) <<< ((0 : Int32) &&& 0x3f).toInt64)))), .second, .val (.int (7 : Int32)), .val (.int x2)] [(.int (7 : Int32)), (.long (((x2 &&& (127 : Int32))).toInt64)), (.long ((0 : Int64) ||| (((((x1 &&& (127 : Int32))).toInt64) <<< ((0 : Int32) &&& 0x3f).toInt64))))])) _
    refine XS.lshl X17.here hx rfl (hb hby d9_58) rfl ?_
    show Steps p.tables e below (T17.setTop (mkF m 59 #[.val (.ref a), .val (.long ((0 : Int64) ||| (((((x1 &&& (127 : Int32))).toInt64) <<< ((0 : Int32) &&& 0x3f).toInt64)))), .second, .val (.int (7 : Int32)), .val (.int x2)] [(.long (((((x2 &&& (127 : Int32))).toInt64) <<< ((7 : Int32) &&& 0x3f).toInt64))), (.long ((0 : Int64) ||| (((((x1 &&& (127 : Int32))).toInt64) <<< ((0 : Int32) &&& 0x3f).toInt64))))])) _
    refine XS.lor X17.here hx rfl (hb hby d9_59) rfl ?_
    show Steps p.tables e below (T17.setTop (mkF m 60 #[.val (.ref a), .val (.long ((0 : Int64) ||| (((((x1 &&& (127 : Int32))).toInt64) <<< ((0 : Int32) &&& 0x3f).toInt64)))), .second, .val (.int (7 : Int32)), .val (.int x2)] [(.long (((0 : Int64) ||| (((((x1 &&& (127 : Int32))).toInt64) <<< ((0 : Int32) &&& 0x3f).toInt64))) ||| (((((x2 &&& (127 : Int32))).toInt64) <<< ((7 : Int32) &&& 0x3f).toInt64))))])) _
    refine XS.lstoreN X17.here hx rfl (hb hby d9_60) rfl (l' := #[.val (.ref a), .val (.long (((0 : Int64) ||| (((((x1 &&& (127 : Int32))).toInt64) <<< ((0 : Int32) &&& 0x3f).toInt64))) ||| (((((x2 &&& (127 : Int32))).toInt64) <<< ((7 : Int32) &&& 0x3f).toInt64)))), .second, .val (.int (7 : Int32)), .val (.int x2)]) rfl ?_
    show Steps p.tables e below (T17.setTop (mkF m 61 #[.val (.ref a), .val (.long (((0 : Int64) ||| (((((x1 &&& (127 : Int32))).toInt64) <<< ((0 : Int32) &&& 0x3f).toInt64))) ||| (((((x2 &&& (127 : Int32))).toInt64) <<< ((7 : Int32) &&& 0x3f).toInt64)))), .second, .val (.int (7 : Int32)), .val (.int x2)] [])) _
    refine XS.iload X17.here hx rfl (hb hby d9_61) rfl ?_
    show Steps p.tables e below (T17.setTop (mkF m 63 #[.val (.ref a), .val (.long (((0 : Int64) ||| (((((x1 &&& (127 : Int32))).toInt64) <<< ((0 : Int32) &&& 0x3f).toInt64))) ||| (((((x2 &&& (127 : Int32))).toInt64) <<< ((7 : Int32) &&& 0x3f).toInt64)))), .second, .val (.int (7 : Int32)), .val (.int x2)] [(.int x2)])) _
    refine XS.ifNo X17.here hx rfl (hb hby d9_63) rfl (XT.i0_lt_f pr11) ?_
    show Steps p.tables e below (T17.setTop (mkF m 66 #[.val (.ref a), .val (.long (((0 : Int64) ||| (((((x1 &&& (127 : Int32))).toInt64) <<< ((0 : Int32) &&& 0x3f).toInt64))) ||| (((((x2 &&& (127 : Int32))).toInt64) <<< ((7 : Int32) &&& 0x3f).toInt64)))), .second, .val (.int (7 : Int32)), .val (.int x2)] [])) _
    refine XS.iloadN X17.here hx rfl (hb hby d9_66) rfl ?_
    show Steps p.tables e below (T17.setTop (mkF m 67 #[.val (.ref a), .val (.long (((0 : Int64) ||| (((((x1 &&& (127 : Int32))).toInt64) <<< ((0 : Int32) &&& 0x3f).toInt64))) ||| (((((x2 &&& (127 : Int32))).toInt64) <<< ((7 : Int32) &&& 0x3f).toInt64)))), .second, .val (.int (7 : Int32)), .val (.int x2)] [(.int (7 : Int32))])) _
    refine XS.bipush X17.here hx rfl (hb hby d9_67) ?_
    show Steps p.tables e below (T17.setTop (mkF m 69 #[.val (.ref a), .val (.long (((0 : Int64) ||| (((((x1 &&& (127 : Int32))).toInt64) <<< ((0 : Int32) &&& 0x3f).toInt64))) ||| (((((x2 &&& (127 : Int32))).toInt64) <<< ((7 : Int32) &&& 0x3f).toInt64)))), .second, .val (.int (7 : Int32)), .val (.int x2)] [(.int (63 : Int32)), (.int (7 : Int32))])) _
    refine XS.icmpYes X17.here hx rfl (pc0 := 69) (pc' := 81) rfl (hb hby d9_69) rfl (XT.ii_ne_t (by decide)) (by decide) (by decide) ?_
    show Steps p.tables e below (T17.setTop (mkF m 81 #[.val (.ref a), .val (.long (((0 : Int64) ||| (((((x1 &&& (127 : Int32))).toInt64) <<< ((0 : Int32) &&& 0x3f).toInt64))) ||| (((((x2 &&& (127 : Int32))).toInt64) <<< ((7 : Int32) &&& 0x3f).toInt64)))), .second, .val (.int (7 : Int32)), .val (.int x2)] [])) _
    refine XS.lloadN X17.here hx rfl (hb hby d9_81) rfl ?_
    show Steps p.tables e below (T17.setTop (mkF m 82 #[.val (.ref a), .val (.long (((0 : Int64) ||| (((((x1 &&& (127 : Int32))).toInt64) <<< ((0 : Int32) &&& 0x3f).toInt64))) ||| (((((x2 &&& (127 : Int32))).toInt64) <<< ((7 : Int32) &&& 0x3f).toInt64)))), .second, .val (.int (7 : Int32)), .val (.int x2)] [(.long (((0 : Int64) ||| (((((x1 &&& (127 : Int32))).toInt64) <<< ((0 : Int32) &&& 0x3f).toInt64))) ||| (((((x2 &&& (127 : Int32))).toInt64) <<< ((7 : Int32) &&& 0x3f).toInt64))))])) _
    exact kk
  have k22 : Keep h0 h17 [a] := (Keep.wr (Keep.wr (Keep.refl h0 [a]) W6 (Or.inl (List.mem_of_getElem? (i := 0) rfl))) W17 (Or.inl (List.mem_of_getElem? (i := 0) rfl)))
  have f23 := (Fld.other W17 f11 (Or.inr (slot_ne (Or.inr (hw _ (List.mem_of_getElem? (i := 38) rfl))) (Or.inl (hw _ (List.mem_of_getElem? (i := 45) rfl))) (by decide) (t := (.array .byte)) (t' := .int) (by decide) (by decide))))
  obtain ⟨fs, hr, hrun, hended, hW, hsame⟩ := X17.leave (v := some (.long (((0 : Int64) ||| (((((x1 &&& (127 : Int32))).toInt64) <<< ((0 : Int32) &&& 0x3f).toInt64))) ||| (((((x2 &&& (127 : Int32))).toInt64) <<< ((7 : Int32) &&& 0x3f).toInt64))))) (fun h => by rw [Bd.returns] at h; cases h)
  refine ⟨_, _, P21 _ ?_, hrun, hended, _, _, rfl, ?_, ⟨_, rfl⟩, hW, hsame.mono (by decide) (by decide)⟩
  · exact X17.lreturnOut hx Bd.returns (hb hby d9_82) hr
  · show Q9 Z a b k z vs d x1 x2 h0 n0 _ T17.heap _
    rw [e17]
    exact ⟨_, rfl, N17, k22, Fw17, f23⟩
theorem d10_0 : decode prog_25_method_5_code 0 = .ok (.aload_n 0, 1) := by decide +kernel
theorem d10_1 : decode prog_25_method_5_code 1 = .ok (.invokevirtual 37, 3) := by decide +kernel
theorem d10_4 : decode prog_25_method_5_code 4 = .ok (.lstore_n 1, 1) := by decide +kernel
theorem d10_5 : decode prog_25_method_5_code 5 = .ok (.lload_n 1, 1) := by decide +kernel
theorem d10_6 : decode prog_25_method_5_code 6 = .ok (.iconst 1, 1) := by decide +kernel
theorem d10_7 : decode prog_25_method_5_code 7 = .ok (.lushr, 1) := by decide +kernel
theorem d10_8 : decode prog_25_method_5_code 8 = .ok (.lload_n 1, 1) := by decide +kernel
theorem d10_9 : decode prog_25_method_5_code 9 = .ok (.lconst 1, 1) := by decide +kernel
theorem d10_10 : decode prog_25_method_5_code 10 = .ok (.land, 1) := by decide +kernel
theorem d10_11 : decode prog_25_method_5_code 11 = .ok (.lneg, 1) := by decide +kernel
theorem d10_12 : decode prog_25_method_5_code 12 = .ok (.lxor, 1) := by decide +kernel
theorem d10_13 : decode prog_25_method_5_code 13 = .ok (.lreturn, 1) := by decide +kernel
theorem ef_10 (m : MethodId) (x0 : Addr) : entryFrame m #[(.ref x0)] 3 = (mkF m 0 #[.val (.ref x0), .unset, .unset] []) := by first | (simp [entryFrame, mkF, argsToLocals, Value.category]; done) | rfl
def Q10 (Z : State) (a : Addr) (b : Addr) (k : ClassId) (z : Int32) (vs : List Value) (d : Value) (x1 : Int32) (x2 : Int32) (h0 : Heap) (n0 : Nat) (vX : Option Value) (hX : Heap) (lX : List Loc) : Prop := ∃ (r : Int64), vX = some (.long r) ∧ Fr n0 lX ∧ (Keep h0 hX [a]) ∧ (Fld Z hX a "com/example/meterwright/meterwright/RecordBody$Reader" "position" "I" (.int (3 : Int32))) ∧ (Fld Z hX a "com/example/meterwright/meterwright/RecordBody$Reader" "bytes" "[B" (.ref b))
set_option maxRecDepth 65536 in
set_option maxHeartbeats 40000000 in
theorem rm10 (l : Launch) (Z : State) (a0 : Array Value) (hw : ∀ d ∈ tables_1, d.before a0 Z = true) (ws : List Jvm.Cond) (a : Addr) (b : Addr) (k : ClassId) (z : Int32) (vs : List Value) (d : Value) (x1 : Int32) (x2 : Int32) (h0 : Heap) (n0 : Nat) (Z0 : n0 ≤ h0.size) (pr0 : Exa Z h0 a "com/example/meterwright/meterwright/RecordBody$Reader") (pr1 : Fld Z h0 a "com/example/meterwright/meterwright/RecordBody$Reader" "position" "I" (.int (1 : Int32))) (pr2 : Fld Z h0 a "com/example/meterwright/meterwright/RecordBody$Reader" "bytes" "[B" (.ref b)) (pr3 : Arv Z h0 b k .byte z vs d) (pr4 : n0 ≤ a) (pr5 : b ≠ a) (pr6 : (1 : Int32) < z) (pr7 : vs.getD (1 : Int32).toNatClampNeg d = (.int x1)) (pr8 : x1 < (0 : Int32)) (pr9 : (2 : Int32) < z) (pr10 : vs.getD (2 : Int32).toNatClampNeg d = (.int x2)) (pr11 : ¬ x2 < (0 : Int32)) :
    MetFree l (⟨"com/example/meterwright/meterwright/RecordBody$Reader", "number", "()J"⟩ : MethodName) (head1 (Jvm.Cond.code (⟨"com/example/meterwright/meterwright/RecordBody$Reader", "number", "()J"⟩ : MethodName) prog_25_method_5_code 3 (some .long) :: ws) ({ frames := 1, cells := 0, slots := 0, locals := 16 } : Room)) (fun aX uX => aX = #[(.ref a)] ∧ Z.Warmed39 uX.vm ∧ uX.heap = h0) (fun _ _ _ _ _ => True) (fun _ uX oX wX => ∃ vX lX, oX = .returned vX ∧ Q10 Z a b k z vs d x1 x2 h0 n0 vX wX.heap lX ∧ FrameEnd uX oX wX lX ({ frames := 1, cells := 0, slots := 0, locals := 16 } : Room).cells ({ frames := 1, cells := 0, slots := 0, locals := 16 } : Room).slots) := by
  refine MetFree.of_bodySF (plainFor_of_name pn_3) hisR ?_
  intro p e s m args below meth c s₁ Bd hml0 hP hK
  obtain ⟨rfl, hZ, hh⟩ := hP
  have hx := Bd.exec
  have hby := Bd.bytes
  have hml : c.maxLocals = 3 := hml0
  have hown : s.vm.findClass "com/example/meterwright/meterwright/RecordBody$Reader" = some m.cls := findClass_of_methodNamed Bd.named
  have hnm := (name_of_methodNamed Bd.named Bd.method).1
  have X0 : Stand p l e ({ frames := 1, cells := 0, slots := 0, locals := 16 } : Room) s m #[(.ref a)] below meth c s₁ [] 0 0 := Stand.of_body Bd
  have e0 : s₁.heap = h0 := by rw [← hh, Bd.state]; rfl
  have N0 := Fr.nil n0
  have pre0 : ∀ t, Steps p.tables e below (s₁.setTop (mkF m 0 #[.val (.ref a), .unset, .unset] [])) t → Steps p.tables e below (s₁.setTop (entryFrame m #[(.ref a)] 3)) t := fun t k => castTop (ef_10 m a) k
  obtain ⟨cq1, q1, q1'⟩ := pr0.cell
  obtain ⟨_, _, ⟨T1, L1, k1, n1⟩, -, X1, ⟨Lc1, hQ1, l1, y1, z1⟩, st1⟩ := X0.privateBack hx (y := (⟨"com/example/meterwright/meterwright/RecordBody$Reader", "varint", "()J"⟩ : MethodName)) hown (mvT hZ (hw _ (List.mem_of_getElem? (i := 56) rfl))) (mvT hZ (hw _ (List.mem_of_getElem? (i := 57) rfl))) (own_selpriv (y := (⟨"com/example/meterwright/meterwright/RecordBody$Reader", "varint", "()J"⟩ : MethodName)) (y' := (⟨"com/example/meterwright/meterwright/RecordBody$Reader", "atEnd", "()Z"⟩ : MethodName)) rfl (mvT hZ (hw _ (List.mem_of_getElem? (i := 42) rfl))) (Cond.privateMethod_at (mvP hZ (hw _ (List.mem_of_getElem? (i := 58) rfl)) (args := #[]))) (mvT hZ (hw _ (List.mem_of_getElem? (i := 57) rfl))) (by decide)) (Cond.privateMethod_at (mvP hZ (hw _ (List.mem_of_getElem? (i := 58) rfl)) (args := #[]))) (mvT hZ (hw _ (List.mem_of_getElem? (i := 59) rfl))) (by decide) (backOf (W := 0) (rm9 l Z a0 hw [] a b k z vs d x1 x2 h0 n0 Z0 pr0 pr1 pr2 pr3 pr4 pr5 pr6 pr7 pr8 pr9 pr10 pr11) hZ (hw _ (List.mem_of_getElem? (i := 59) rfl)) (hw _ (List.mem_of_getElem? (i := 4) rfl)) (by decide) (by decide)) (g := (mkF m 1 #[.val (.ref a), .unset, .unset] [(.ref a)])) rfl (by rw [hml]; rfl) (Steps.refl _) (a := a) (by rw [e0]; exact q1) q1' (argsL := []) (rest := []) (lenOf pd_1 rfl) rfl (by show 2 * 0 + _ ≤ _; exact Nat.le_of_eq rfl) (hb hby d10_1) (fun _ _ => ⟨rfl, e0, (by decide : 0 + 0 ≤ _), (by decide : 0 + 0 ≤ _)⟩)
  dsimp only [Pt.U, Pt.locs, Pt.cells, Pt.slots] at X1 l1 y1 z1 st1 hQ1
  subst l1 y1 z1
  obtain ⟨r_1, rfl, Nq1, K1, q1_0, q1_1⟩ := hQ1
  have N1 := Fr.app N0 Nq1
  have P2 : ∀ t, Steps p.tables e below (T1.setTop (mkF m 13 #[.val (.ref a), .val (.long r_1), .second] [(.long ((((r_1).toUInt64 >>> ((1 : Int32) &&& 0x3f).toInt64.toUInt64).toInt64) ^^^ ((-(r_1 &&& (1 : Int64))))))])) t → Steps p.tables e below (s₁.setTop (entryFrame m #[(.ref a)] 3)) t := by
    intro t kk
    refine pre0 _ ?_
    show Steps p.tables e below (s₁.setTop (mkF m 0 #[.val (.ref a), .unset, .unset] [])) _
    refine XS.aloadN X0.here hx rfl (hb hby d10_0) rfl rfl ?_
    show Steps p.tables e below (s₁.setTop (mkF m 1 #[.val (.ref a), .unset, .unset] [(.ref a)])) _
    refine st1.trans ?_
    show Steps p.tables e below (T1.setTop (mkF m 4 #[.val (.ref a), .unset, .unset] [(.long r_1)])) _
    refine XS.lstoreN X1.here hx rfl (hb hby d10_4) rfl (l' := #[.val (.ref a), .val (.long r_1), .second]) rfl ?_
    show Steps p.tables e below (T1.setTop (mkF m 5 #[.val (.ref a), .val (.long r_1), .second] [])) _
    refine XS.lloadN X1.here hx rfl (hb hby d10_5) rfl ?_
    show Steps p.tables e below (T1.setTop (mkF m 6 #[.val (.ref a), .val (.long r_1), .second] [(.long r_1)])) _
    refine XS.iconst X1.here hx rfl (hb hby d10_6) ?_
    show Steps p.tables e below (T1.setTop (mkF m 7 #[.val (.ref a), .val (.long r_1), .second] [(.int (1 : Int32)), (.long r_1)])) _
    refine XS.lushr X1.here hx rfl (hb hby d10_7) rfl ?_
    show Steps p.tables e below (T1.setTop (mkF m 8 #[.val (.ref a), .val (.long r_1), .second] [(.long (((r_1).toUInt64 >>> ((1 : Int32) &&& 0x3f).toInt64.toUInt64).toInt64))])) _
    refine XS.lloadN X1.here hx rfl (hb hby d10_8) rfl ?_
    show Steps p.tables e below (T1.setTop (mkF m 9 #[.val (.ref a), .val (.long r_1), .second] [(.long r_1), (.long (((r_1).toUInt64 >>> ((1 : Int32) &&& 0x3f).toInt64.toUInt64).toInt64))])) _
    refine XS.lconst X1.here hx rfl (hb hby d10_9) ?_
    show Steps p.tables e below (T1.setTop (mkF m 10 #[.val (.ref a), .val (.long r_1), .second] [(.long (1 : Int64)), (.long r_1), (.long (((r_1).toUInt64 >>> ((1 : Int32) &&& 0x3f).toInt64.toUInt64).toInt64))])) _
    refine XS.land X1.here hx rfl (hb hby d10_10) rfl ?_
    show Steps p.tables e below (T1.setTop (mkF m 11 #[.val (.ref a), .val (.long r_1), .second] [(.long (r_1 &&& (1 : Int64))), (.long (((r_1).toUInt64 >>> ((1 : Int32) &&& 0x3f).toInt64.toUInt64).toInt64))])) _
    refine XS.lneg X1.here hx rfl (hb hby d10_11) rfl ?_
    show Steps p.tables e below (T1.setTop (mkF m 12 #[.val (.ref a), .val (.long r_1), .second] [(.long ((-(r_1 &&& (1 : Int64))))), (.long (((r_1).toUInt64 >>> ((1 : Int32) &&& 0x3f).toInt64.toUInt64).toInt64))])) _
    refine XS.lxor X1.here hx rfl (hb hby d10_12) rfl ?_
    show Steps p.tables e below (T1.setTop (mkF m 13 #[.val (.ref a), .val (.long r_1), .second] [(.long ((((r_1).toUInt64 >>> ((1 : Int32) &&& 0x3f).toInt64.toUInt64).toInt64) ^^^ ((-(r_1 &&& (1 : Int64))))))])) _
    exact kk
  have k3 : Keep h0 T1.heap [a] := (Keep.trans (Keep.refl h0 [a]) K1 (allS (Or.inl (List.mem_of_getElem? (i := 0) rfl)) all0))
  obtain ⟨fs, hr, hrun, hended, hW, hsame⟩ := X1.leave (v := some (.long ((((r_1).toUInt64 >>> ((1 : Int32) &&& 0x3f).toInt64.toUInt64).toInt64) ^^^ ((-(r_1 &&& (1 : Int64))))))) (fun h => by rw [Bd.returns] at h; cases h)
  refine ⟨_, _, P2 _ ?_, hrun, hended, _, _, rfl, ?_, ⟨_, rfl⟩, hW, hsame.mono (by decide) (by decide)⟩
  · exact X1.lreturnOut hx Bd.returns (hb hby d10_13) hr
  · show Q10 Z a b k z vs d x1 x2 h0 n0 _ T1.heap _
    exact ⟨_, rfl, N1, k3, q1_0, q1_1⟩
theorem d11_0 : decode prog_25_method_10_code 0 = .ok (.lconst 0, 1) := by decide +kernel
theorem d11_1 : decode prog_25_method_10_code 1 = .ok (.lstore_n 1, 1) := by decide +kernel
theorem d11_2 : decode prog_25_method_10_code 2 = .ok (.iconst 0, 1) := by decide +kernel
theorem d11_3 : decode prog_25_method_10_code 3 = .ok (.istore_n 3, 1) := by decide +kernel
theorem d11_4 : decode prog_25_method_10_code 4 = .ok (.iload_n 3, 1) := by decide +kernel
theorem d11_5 : decode prog_25_method_10_code 5 = .ok (.bipush 64, 2) := by decide +kernel
theorem d11_7 : decode prog_25_method_10_code 7 = .ok (.if_icmp .ge 82, 3) := by decide +kernel
theorem d11_10 : decode prog_25_method_10_code 10 = .ok (.aload_n 0, 1) := by decide +kernel
theorem d11_11 : decode prog_25_method_10_code 11 = .ok (.getfield 22, 3) := by decide +kernel
theorem d11_14 : decode prog_25_method_10_code 14 = .ok (.aload_n 0, 1) := by decide +kernel
theorem d11_15 : decode prog_25_method_10_code 15 = .ok (.getfield 18, 3) := by decide +kernel
theorem d11_18 : decode prog_25_method_10_code 18 = .ok (.arraylength, 1) := by decide +kernel
theorem d11_19 : decode prog_25_method_10_code 19 = .ok (.if_icmp .ne 13, 3) := by decide +kernel
theorem d11_32 : decode prog_25_method_10_code 32 = .ok (.aload_n 0, 1) := by decide +kernel
theorem d11_33 : decode prog_25_method_10_code 33 = .ok (.getfield 18, 3) := by decide +kernel
theorem d11_36 : decode prog_25_method_10_code 36 = .ok (.aload_n 0, 1) := by decide +kernel
theorem d11_37 : decode prog_25_method_10_code 37 = .ok (.dup, 1) := by decide +kernel
theorem d11_38 : decode prog_25_method_10_code 38 = .ok (.getfield 22, 3) := by decide +kernel
theorem d11_41 : decode prog_25_method_10_code 41 = .ok (.dup_x1, 1) := by decide +kernel
theorem d11_42 : decode prog_25_method_10_code 42 = .ok (.iconst 1, 1) := by decide +kernel
theorem d11_43 : decode prog_25_method_10_code 43 = .ok (.iadd, 1) := by decide +kernel
theorem d11_44 : decode prog_25_method_10_code 44 = .ok (.putfield 22, 3) := by decide +kernel
theorem d11_47 : decode prog_25_method_10_code 47 = .ok (.baload, 1) := by decide +kernel
theorem d11_48 : decode prog_25_method_10_code 48 = .ok (.istore 4, 2) := by decide +kernel
theorem d11_50 : decode prog_25_method_10_code 50 = .ok (.lload_n 1, 1) := by decide +kernel
theorem d11_51 : decode prog_25_method_10_code 51 = .ok (.iload 4, 2) := by decide +kernel
theorem d11_53 : decode prog_25_method_10_code 53 = .ok (.bipush 127, 2) := by decide +kernel
theorem d11_55 : decode prog_25_method_10_code 55 = .ok (.iand, 1) := by decide +kernel
theorem d11_56 : decode prog_25_method_10_code 56 = .ok (.i2l, 1) := by decide +kernel
theorem d11_57 : decode prog_25_method_10_code 57 = .ok (.iload_n 3, 1) := by decide +kernel
theorem d11_58 : decode prog_25_method_10_code 58 = .ok (.lshl, 1) := by decide +kernel
theorem d11_59 : decode prog_25_method_10_code 59 = .ok (.lor, 1) := by decide +kernel
theorem d11_60 : decode prog_25_method_10_code 60 = .ok (.lstore_n 1, 1) := by decide +kernel
theorem d11_61 : decode prog_25_method_10_code 61 = .ok (.iload 4, 2) := by decide +kernel
theorem d11_63 : decode prog_25_method_10_code 63 = .ok (.ifCond .lt 20, 3) := by decide +kernel
theorem d11_66 : decode prog_25_method_10_code 66 = .ok (.iload_n 3, 1) := by decide +kernel
theorem d11_67 : decode prog_25_method_10_code 67 = .ok (.bipush 63, 2) := by decide +kernel
theorem d11_69 : decode prog_25_method_10_code 69 = .ok (.if_icmp .ne 12, 3) := by decide +kernel
theorem d11_81 : decode prog_25_method_10_code 81 = .ok (.lload_n 1, 1) := by decide +kernel
theorem d11_82 : decode prog_25_method_10_code 82 = .ok (.lreturn, 1) := by decide +kernel
theorem d11_83 : decode prog_25_method_10_code 83 = .ok (.iinc 3 7, 3) := by decide +kernel
theorem d11_86 : decode prog_25_method_10_code 86 = .ok (.goto (-82), 3) := by decide +kernel
theorem ef_11 (m : MethodId) (x0 : Addr) : entryFrame m #[(.ref x0)] 5 = (mkF m 0 #[.val (.ref x0), .unset, .unset, .unset, .unset] []) := by first | (simp [entryFrame, mkF, argsToLocals, Value.category]; done) | rfl
def Q11 (Z : State) (a : Addr) (b : Addr) (k : ClassId) (z : Int32) (vs : List Value) (d : Value) (x1 : Int32) (x2 : Int32) (x3 : Int32) (h0 : Heap) (n0 : Nat) (vX : Option Value) (hX : Heap) (lX : List Loc) : Prop := ∃ (r : Int64), vX = some (.long r) ∧ Fr n0 lX ∧ (Keep h0 hX [a]) ∧ (Fld Z hX a "com/example/meterwright/meterwright/RecordBody$Reader" "position" "I" (.int (4 : Int32))) ∧ (Fld Z hX a "com/example/meterwright/meterwright/RecordBody$Reader" "bytes" "[B" (.ref b))
set_option maxRecDepth 65536 in
set_option maxHeartbeats 40000000 in
theorem rm11 (l : Launch) (Z : State) (a0 : Array Value) (hw : ∀ d ∈ tables_1, d.before a0 Z = true) (ws : List Jvm.Cond) (a : Addr) (b : Addr) (k : ClassId) (z : Int32) (vs : List Value) (d : Value) (x1 : Int32) (x2 : Int32) (x3 : Int32) (h0 : Heap) (n0 : Nat) (Z0 : n0 ≤ h0.size) (pr0 : Exa Z h0 a "com/example/meterwright/meterwright/RecordBody$Reader") (pr1 : Fld Z h0 a "com/example/meterwright/meterwright/RecordBody$Reader" "position" "I" (.int (1 : Int32))) (pr2 : Fld Z h0 a "com/example/meterwright/meterwright/RecordBody$Reader" "bytes" "[B" (.ref b)) (pr3 : Arv Z h0 b k .byte z vs d) (pr4 : n0 ≤ a) (pr5 : b ≠ a) (pr6 : (1 : Int32) < z) (pr7 : vs.getD (1 : Int32).toNatClampNeg d = (.int x1)) (pr8 : x1 < (0 : Int32)) (pr9 : (2 : Int32) < z) (pr10 : vs.getD (2 : Int32).toNatClampNeg d = (.int x2)) (pr11 : x2 < (0 : Int32)) (pr12 : (3 : Int32) < z) (pr13 : vs.getD (3 : Int32).toNatClampNeg d = (.int x3)) (pr14 : ¬ x3 < (0 : Int32)) :
    MetFree l (⟨"com/example/meterwright/meterwright/RecordBody$Reader", "varint", "()J"⟩ : MethodName) (head1 (Jvm.Cond.code (⟨"com/example/meterwright/meterwright/RecordBody$Reader", "varint", "()J"⟩ : MethodName) prog_25_method_10_code 5 (some .long) :: ws) ({ frames := 0, cells := 0, slots := 0, locals := 0 } : Room)) (fun aX uX => aX = #[(.ref a)] ∧ Z.Warmed39 uX.vm ∧ uX.heap = h0) (fun _ _ _ _ _ => True) (fun _ uX oX wX => ∃ vX lX, oX = .returned vX ∧ Q11 Z a b k z vs d x1 x2 x3 h0 n0 vX wX.heap lX ∧ FrameEnd uX oX wX lX ({ frames := 0, cells := 0, slots := 0, locals := 0 } : Room).cells ({ frames := 0, cells := 0, slots := 0, locals := 0 } : Room).slots) := by
  refine MetFree.of_bodySF (plainFor_of_name pn_3) hisR ?_
  intro p e s m args below meth c s₁ Bd hml0 hP hK
  obtain ⟨rfl, hZ, hh⟩ := hP
  have hx := Bd.exec
  have hby := Bd.bytes
  have hml : c.maxLocals = 5 := hml0
  have hown : s.vm.findClass "com/example/meterwright/meterwright/RecordBody$Reader" = some m.cls := findClass_of_methodNamed Bd.named
  have hnm := (name_of_methodNamed Bd.named Bd.method).1
  have X0 : Stand p l e ({ frames := 0, cells := 0, slots := 0, locals := 0 } : Room) s m #[(.ref a)] below meth c s₁ [] 0 0 := Stand.of_body Bd
  have e0 : s₁.heap = h0 := by rw [← hh, Bd.state]; rfl
  have N0 := Fr.nil n0
  have pre0 : ∀ t, Steps p.tables e below (s₁.setTop (mkF m 0 #[.val (.ref a), .unset, .unset, .unset, .unset] [])) t → Steps p.tables e below (s₁.setTop (entryFrame m #[(.ref a)] 5)) t := fun t k => castTop (ef_11 m a) k
  obtain ⟨T1, X1, e1, st1⟩ := getF X0 hx hZ hown (host := "") (Or.inl (hw _ (List.mem_of_getElem? (i := 44) rfl))) Via.refl e0 pr1 (g := (mkF m 11 #[.val (.ref a), .val (.long (0 : Int64)), .second, .val (.int (0 : Int32)), .unset] [(.ref a)])) rfl rfl (hb hby d11_11)
  obtain ⟨T2, X2, e2, st2⟩ := getF X1 hx hZ hown (host := "") (Or.inl (hw _ (List.mem_of_getElem? (i := 37) rfl))) Via.refl e1 pr2 (g := (mkF m 15 #[.val (.ref a), .val (.long (0 : Int64)), .second, .val (.int (0 : Int32)), .unset] [(.ref a), (.int (1 : Int32))])) rfl rfl (hb hby d11_15)
  obtain ⟨cl_a3, Ar_a3, q_a3, S_a3, N_a3, H_a3, G_a3⟩ := id pr3
  obtain ⟨T4, X4, e4, st4⟩ := getF X2 hx hZ hown (host := "") (Or.inl (hw _ (List.mem_of_getElem? (i := 37) rfl))) Via.refl e2 pr2 (g := (mkF m 33 #[.val (.ref a), .val (.long (0 : Int64)), .second, .val (.int (0 : Int32)), .unset] [(.ref a)])) rfl rfl (hb hby d11_33)
  obtain ⟨T5, X5, e5, st5⟩ := getF X4 hx hZ hown (host := "") (Or.inl (hw _ (List.mem_of_getElem? (i := 44) rfl))) Via.refl e4 pr1 (g := (mkF m 38 #[.val (.ref a), .val (.long (0 : Int64)), .second, .val (.int (0 : Int32)), .unset] [(.ref a), (.ref a), (.ref b)])) rfl rfl (hb hby d11_38)
  obtain ⟨T6, h6, X6, e6, W6, st6⟩ := putF X5 hx hZ hown (host := "") (Or.inl (hw _ (List.mem_of_getElem? (i := 44) rfl))) Via.refl e5 pr1 pr0 (Or.inl (hw _ (List.mem_of_getElem? (i := 45) rfl))) (hw _ (List.mem_of_getElem? (i := 3) rfl)) (ty := .int) (by decide) rfl rfl (g := (mkF m 44 #[.val (.ref a), .val (.long (0 : Int64)), .second, .val (.int (0 : Int32)), .unset] [(.int (2 : Int32)), (.ref a), (.int (1 : Int32)), (.ref b)])) rfl rfl (hb hby d11_44)
  have N6 := Fr.snoc X6 N0 pr4
  have Fw6 := Fld.same W6 pr1
  have f7 := (pr3.other W6 pr5)
  obtain ⟨cl_a8, Ar_a8, q_a8, S_a8, N_a8, H_a8, G_a8⟩ := id f7
  have hin_a8 : ¬ ((1 : Int32) < 0 ∨ cl_a8.slots.size ≤ ((1 : Int32)).toNatClampNeg) := inb_of S_a8 ⟨by decide, pr6⟩
  have hat_a8 := Has.at (v := (.int x1)) H_a8 hin_a8 pr7
  have P9 : ∀ t, Steps p.tables e below (T6.setTop (mkF m 58 #[.val (.ref a), .val (.long (0 : Int64)), .second, .val (.int (0 : Int32)), .val (.int x1)] [(.int (0 : Int32)), (.long (((x1 &&& (127 : Int32))).toInt64)), (.long (0 : Int64))])) t → Steps p.tables e below (s₁.setTop (entryFrame m #[(.ref a)] 5)) t := by
    intro t kk
    refine pre0 _ ?_
    show Steps p.tables e below (s₁.setTop (mkF m 0 #[.val (.ref a), .unset, .unset, .unset, .unset] [])) _
    refine XS.lconst X0.here hx rfl (hb hby d11_0) ?_
    show Steps p.tables e below (s₁.setTop (mkF m 1 #[.val (.ref a), .unset, .unset, .unset, .unset] [(.long (0 : Int64))])) _
    refine XS.lstoreN X0.here hx rfl (hb hby d11_1) rfl (l' := #[.val (.ref a), .val (.long (0 : Int64)), .second, .unset, .unset]) rfl ?_
    show Steps p.tables e below (s₁.setTop (mkF m 2 #[.val (.ref a), .val (.long (0 : Int64)), .second, .unset, .unset] [])) _
    refine XS.iconst X0.here hx rfl (hb hby d11_2) ?_
    show Steps p.tables e below (s₁.setTop (mkF m 3 #[.val (.ref a), .val (.long (0 : Int64)), .second, .unset, .unset] [(.int (0 : Int32))])) _
    refine XS.istoreN X0.here hx rfl (hb hby d11_3) rfl (l' := #[.val (.ref a), .val (.long (0 : Int64)), .second, .val (.int (0 : Int32)), .unset]) rfl ?_
    show Steps p.tables e below (s₁.setTop (mkF m 4 #[.val (.ref a), .val (.long (0 : Int64)), .second, .val (.int (0 : Int32)), .unset] [])) _
    refine XS.iloadN X0.here hx rfl (hb hby d11_4) rfl ?_
    show Steps p.tables e below (s₁.setTop (mkF m 5 #[.val (.ref a), .val (.long (0 : Int64)), .second, .val (.int (0 : Int32)), .unset] [(.int (0 : Int32))])) _
    refine XS.bipush X0.here hx rfl (hb hby d11_5) ?_
    show Steps p.tables e below (s₁.setTop (mkF m 7 #[.val (.ref a), .val (.long (0 : Int64)), .second, .val (.int (0 : Int32)), .unset] [(.int (64 : Int32)), (.int (0 : Int32))])) _
    refine XS.icmpNo X0.here hx rfl (hb hby d11_7) rfl (XT.ii_ge_f (by decide)) ?_
    show Steps p.tables e below (s₁.setTop (mkF m 10 #[.val (.ref a), .val (.long (0 : Int64)), .second, .val (.int (0 : Int32)), .unset] [])) _
    refine XS.aloadN X0.here hx rfl (hb hby d11_10) rfl rfl ?_
    show Steps p.tables e below (s₁.setTop (mkF m 11 #[.val (.ref a), .val (.long (0 : Int64)), .second, .val (.int (0 : Int32)), .unset] [(.ref a)])) _
    refine st1 _ ?_
    show Steps p.tables e below (T1.setTop (mkF m 14 #[.val (.ref a), .val (.long (0 : Int64)), .second, .val (.int (0 : Int32)), .unset] [(.int (1 : Int32))])) _
    refine XS.aloadN X1.here hx rfl (hb hby d11_14) rfl rfl ?_
    show Steps p.tables e below (T1.setTop (mkF m 15 #[.val (.ref a), .val (.long (0 : Int64)), .second, .val (.int (0 : Int32)), .unset] [(.ref a), (.int (1 : Int32))])) _
    refine st2 _ ?_
    show Steps p.tables e below (T2.setTop (mkF m 18 #[.val (.ref a), .val (.long (0 : Int64)), .second, .val (.int (0 : Int32)), .unset] [(.ref b), (.int (1 : Int32))])) _
    refine X2.arraylength hx (by rw [e2]; exact Ar_a3.1) (State.isArrayOf_alike hZ.alike Ar_a3.2.1) (g := (mkF m 18 #[.val (.ref a), .val (.long (0 : Int64)), .second, .val (.int (0 : Int32)), .unset] [(.ref b), (.int (1 : Int32))])) rfl rfl (hb hby d11_18) _ ?_
    rw [len_of S_a3 N_a3]
    show Steps p.tables e below (T2.setTop (mkF m 19 #[.val (.ref a), .val (.long (0 : Int64)), .second, .val (.int (0 : Int32)), .unset] [(.int z), (.int (1 : Int32))])) _
    refine XS.icmpYes X2.here hx rfl (pc0 := 19) (pc' := 32) rfl (hb hby d11_19) rfl (XT.ii_ne_t (fun hh => absurd pr6 (by rw [← hh]; exact Int32.lt_irrefl))) (by decide) (by decide) ?_
    show Steps p.tables e below (T2.setTop (mkF m 32 #[.val (.ref a), .val (.long (0 : Int64)), .second, .val (.int (0 : Int32)), .unset] [])) _
    refine XS.aloadN X2.here hx rfl (hb hby d11_32) rfl rfl ?_
    show Steps p.tables e below (T2.setTop (mkF m 33 #[.val (.ref a), .val (.long (0 : Int64)), .second, .val (.int (0 : Int32)), .unset] [(.ref a)])) _
    refine st4 _ ?_
    show Steps p.tables e below (T4.setTop (mkF m 36 #[.val (.ref a), .val (.long (0 : Int64)), .second, .val (.int (0 : Int32)), .unset] [(.ref b)])) _
    refine XS.aloadN X4.here hx rfl (hb hby d11_36) rfl rfl ?_
    show Steps p.tables e below (T4.setTop (mkF m 37 #[.val (.ref a), .val (.long (0 : Int64)), .second, .val (.int (0 : Int32)), .unset] [(.ref a), (.ref b)])) _
    refine XS.dup X4.here hx rfl (hb hby d11_37) rfl rfl ?_
    show Steps p.tables e below (T4.setTop (mkF m 38 #[.val (.ref a), .val (.long (0 : Int64)), .second, .val (.int (0 : Int32)), .unset] [(.ref a), (.ref a), (.ref b)])) _
    refine st5 _ ?_
    show Steps p.tables e below (T5.setTop (mkF m 41 #[.val (.ref a), .val (.long (0 : Int64)), .second, .val (.int (0 : Int32)), .unset] [(.int (1 : Int32)), (.ref a), (.ref b)])) _
    refine XS.dupX1 X5.here hx rfl (hb hby d11_41) rfl rfl rfl ?_
    show Steps p.tables e below (T5.setTop (mkF m 42 #[.val (.ref a), .val (.long (0 : Int64)), .second, .val (.int (0 : Int32)), .unset] [(.int (1 : Int32)), (.ref a), (.int (1 : Int32)), (.ref b)])) _
    refine XS.iconst X5.here hx rfl (hb hby d11_42) ?_
    show Steps p.tables e below (T5.setTop (mkF m 43 #[.val (.ref a), .val (.long (0 : Int64)), .second, .val (.int (0 : Int32)), .unset] [(.int (1 : Int32)), (.int (1 : Int32)), (.ref a), (.int (1 : Int32)), (.ref b)])) _
    refine XS.iadd X5.here hx rfl (hb hby d11_43) rfl ?_
    show Steps p.tables e below (T5.setTop (mkF m 44 #[.val (.ref a), .val (.long (0 : Int64)), .second, .val (.int (0 : Int32)), .unset] [(.int (2 : Int32)), (.ref a), (.int (1 : Int32)), (.ref b)])) _
    refine st6 _ ?_
    show Steps p.tables e below (T6.setTop (mkF m 47 #[.val (.ref a), .val (.long (0 : Int64)), .second, .val (.int (0 : Int32)), .unset] [(.int (1 : Int32)), (.ref b)])) _
    refine X6.baloadBytes hx (j := (1 : Int32)) (v := (.int x1)) (by rw [e6]; exact Ar_a8.1) (State.isArrayOf_alike hZ.alike Ar_a8.2.1) Ar_a8.2.2 hin_a8 hat_a8 (g := (mkF m 47 #[.val (.ref a), .val (.long (0 : Int64)), .second, .val (.int (0 : Int32)), .unset] [(.int (1 : Int32)), (.ref b)])) rfl rfl (hb hby d11_47) _ ?_
    show Steps p.tables e below (T6.setTop (mkF m 48 #[.val (.ref a), .val (.long (0 : Int64)), .second, .val (.int (0 : Int32)), .unset] [(.int x1)])) _
    refine XS.istore X6.here hx rfl (hb hby d11_48) rfl (l' := #[.val (.ref a), .val (.long (0 : Int64)), .second, .val (.int (0 : Int32)), .val (.int x1)]) rfl ?_
    show Steps p.tables e below (T6.setTop (mkF m 50 #[.val (.ref a), .val (.long (0 : Int64)), .second, .val (.int (0 : Int32)), .val (.int x1)] [])) _
    refine XS.lloadN X6.here hx rfl (hb hby d11_50) rfl ?_
    show Steps p.tables e below (T6.setTop (mkF m 51 #[.val (.ref a), .val (.long (0 : Int64)), .second, .val (.int (0 : Int32)), .val (.int x1)] [(.long (0 : Int64))])) _
    refine XS.iload X6.here hx rfl (hb hby d11_51) rfl ?_
    show Steps p.tables e below (T6.setTop (mkF m 53 #[.val (.ref a), .val (.long (0 : Int64)), .second, .val (.int (0 : Int32)), .val (.int x1)] [(.int x1), (.long (0 : Int64))])) _
    refine XS.bipush X6.here hx rfl (hb hby d11_53) ?_
    show Steps p.tables e below (T6.setTop (mkF m 55 #[.val (.ref a), .val (.long (0 : Int64)), .second, .val (.int (0 : Int32)), .val (.int x1)] [(.int (127 : Int32)), (.int x1), (.long (0 : Int64))])) _
    refine XS.iand X6.here hx rfl (hb hby d11_55) rfl ?_
    show Steps p.tables e below (T6.setTop (mkF m 56 #[.val (.ref a), .val (.long (0 : Int64)), .second, .val (.int (0 : Int32)), .val (.int x1)] [(.int (x1 &&& (127 : Int32))), (.long (0 : Int64))])) _
    refine XS.i2l X6.here hx rfl (hb hby d11_56) rfl ?_
    show Steps p.tables e below (T6.setTop (mkF m 57 #[.val (.ref a), .val (.long (0 : Int64)), .second, .val (.int (0 : Int32)), .val (.int x1)] [(.long (((x1 &&& (127 : Int32))).toInt64)), (.long (0 : Int64))])) _
    refine XS.iloadN X6.here hx rfl (hb hby d11_57) rfl ?_
    show Steps p.tables e below (T6.setTop (mkF m 58 #[.val (.ref a), .val (.long (0 : Int64)), .second, .val (.int (0 : Int32)), .val (.int x1)] [(.int (0 : Int32)), (.long (((x1 &&& (127 : Int32))).toInt64)), (.long (0 : Int64))])) _
    exact kk
  obtain ⟨T10, X10, e10, st10⟩ := getF X6 hx hZ hown (host := "") (Or.inl (hw _ (List.mem_of_getElem? (i := 44) rfl))) Via.refl e6 Fw6 (g := (mkF m 11 #[.val (.ref a), .val (.long ((0 : Int64) ||| (((((x1 &&& (127 : Int32))).toInt64) <<< ((0 : Int32) &&& 0x3f).toInt64)))), .second, .val (.int (7 : Int32)), .val (.int x1)] [(.ref a)])) rfl rfl (hb hby d11_11)
  have f11 := (Fld.other W6 pr2 (Or.inr (slot_ne (Or.inr (hw _ (List.mem_of_getElem? (i := 38) rfl))) (Or.inl (hw _ (List.mem_of_getElem? (i := 45) rfl))) (by decide) (t := (.array .byte)) (t' := .int) (by decide) (by decide))))
  obtain ⟨T12, X12, e12, st12⟩ := getF X10 hx hZ hown (host := "") (Or.inl (hw _ (List.mem_of_getElem? (i := 37) rfl))) Via.refl e10 f11 (g := (mkF m 15 #[.val (.ref a), .val (.long ((0 : Int64) ||| (((((x1 &&& (127 : Int32))).toInt64) <<< ((0 : Int32) &&& 0x3f).toInt64)))), .second, .val (.int (7 : Int32)), .val (.int x1)] [(.ref a), (.int (2 : Int32))])) rfl rfl (hb hby d11_15)
  obtain ⟨cl_a13, Ar_a13, q_a13, S_a13, N_a13, H_a13, G_a13⟩ := id f7
  obtain ⟨T14, X14, e14, st14⟩ := getF X12 hx hZ hown (host := "") (Or.inl (hw _ (List.mem_of_getElem? (i := 37) rfl))) Via.refl e12 f11 (g := (mkF m 33 #[.val (.ref a), .val (.long ((0 : Int64) ||| (((((x1 &&& (127 : Int32))).toInt64) <<< ((0 : Int32) &&& 0x3f).toInt64)))), .second, .val (.int (7 : Int32)), .val (.int x1)] [(.ref a)])) rfl rfl (hb hby d11_33)
  obtain ⟨T15, X15, e15, st15⟩ := getF X14 hx hZ hown (host := "") (Or.inl (hw _ (List.mem_of_getElem? (i := 44) rfl))) Via.refl e14 Fw6 (g := (mkF m 38 #[.val (.ref a), .val (.long ((0 : Int64) ||| (((((x1 &&& (127 : Int32))).toInt64) <<< ((0 : Int32) &&& 0x3f).toInt64)))), .second, .val (.int (7 : Int32)), .val (.int x1)] [(.ref a), (.ref a), (.ref b)])) rfl rfl (hb hby d11_38)
  have f16 := (Exa.wr W6 pr0)
  obtain ⟨T17, h17, X17, e17, W17, st17⟩ := putF X15 hx hZ hown (host := "") (Or.inl (hw _ (List.mem_of_getElem? (i := 44) rfl))) Via.refl e15 Fw6 f16 (Or.inl (hw _ (List.mem_of_getElem? (i := 45) rfl))) (hw _ (List.mem_of_getElem? (i := 3) rfl)) (ty := .int) (by decide) rfl rfl (g := (mkF m 44 #[.val (.ref a), .val (.long ((0 : Int64) ||| (((((x1 &&& (127 : Int32))).toInt64) <<< ((0 : Int32) &&& 0x3f).toInt64)))), .second, .val (.int (7 : Int32)), .val (.int x1)] [(.int (3 : Int32)), (.ref a), (.int (2 : Int32)), (.ref b)])) rfl rfl (hb hby d11_44)
  have N17 := Fr.snoc X17 N6 pr4
  have Fw17 := Fld.same W17 Fw6
  have f18 := (f7.other W17 pr5)
  obtain ⟨cl_a19, Ar_a19, q_a19, S_a19, N_a19, H_a19, G_a19⟩ := id f18
  have hin_a19 : ¬ ((2 : Int32) < 0 ∨ cl_a19.slots.size ≤ ((2 : Int32)).toNatClampNeg) := inb_of S_a19 ⟨by decide, pr9⟩
  have hat_a19 := Has.at (v := (.int x2)) H_a19 hin_a19 pr10
  have P20 : ∀ t, Steps p.tables e below (T17.setTop (mkF m 55 #[.val (.ref a), .val (.long ((0 : Int64) ||| (((((x1 &&& (127 : Int32))).toInt64) <<< ((0 : Int32) &&& 0x3f).toInt64)))), .second, .val (.int (7 : Int32)), .val (.int x2)] [(.int (127 : Int32)), (.int x2), (.long ((0 : Int64) ||| (((((x1 &&& (127 : Int32))).toInt64) <<< ((0 : Int32) &&& 0x3f).toInt64))))])) t → Steps p.tables e below (s₁.setTop (entryFrame m #[(.ref a)] 5)) t := by
    intro t kk
    refine P9 _ ?_
    show Steps p.tables e below (T6.setTop (mkF m 58 #[.val (.ref a), .val (.long (0 : Int64)), .second, .val (.int (0 : Int32)), .val (.int x1)] [(.int (0 : Int32)), (.long (((x1 &&& (127 : Int32))).toInt64)), (.long (0 : Int64))])) _
    refine XS.lshl X6.here hx rfl (hb hby d11_58) rfl ?_
    show Steps p.tables e below (T6.setTop (mkF m 59 #[.val (.ref a), .val (.long (0 : Int64)), .second, .val (.int (0 : Int32)), .val (.int x1)] [(.long (((((x1 &&& (127 : Int32))).toInt64) <<< ((0 : Int32) &&& 0x3f).toInt64))), (.long (0 : Int64))])) _
    refine XS.lor X6.here hx rfl (hb hby d11_59) rfl ?_
    show Steps p.tables e below (T6.setTop (mkF m 60 #[.val (.ref a), .val (.long (0 : Int64)), .second, .val (.int (0 : Int32)), .val (.int x1)] [(.long ((0 : Int64) ||| (((((x1 &&& (127 : Int32))).toInt64) <<< ((0 : Int32) &&& 0x3f).toInt64))))])) _
    refine XS.lstoreN X6.here hx rfl (hb hby d11_60) rfl (l' := #[.val (.ref a), .val (.long ((0 : Int64) ||| (((((x1 &&& (127 : Int32))).toInt64) <<< ((0 : Int32) &&& 0x3f).toInt64)))), .second, .val (.int (0 : Int32)), .val (.int x1)]) rfl ?_
    show Steps p.tables e below (T6.setTop (mkF m 61 #[.val (.ref a), .val (.long ((0 : Int64) ||| (((((x1 &&& (127 : Int32))).toInt64) <<< ((0 : Int32) &&& 0x3f).toInt64)))), .second, .val (.int (0 : Int32)), .val (.int x1)] [])) _
    refine XS.iload X6.here hx rfl (hb hby d11_61) rfl ?_
    show Steps p.tables e below (T6.setTop (mkF m 63 #[.val (.ref a), .val (.long ((0 : Int64) ||| (((((x1 &&& (127 : Int32))).toInt64) <<< ((0 : Int32) &&& 0x3f).toInt64)))), .second, .val (.int (0 : Int32)), .val (.int x1)] [(.int x1)])) _
    refine XS.ifYes X6.here hx rfl (pc0 := 63) (pc' := 83) rfl (hb hby d11_63) rfl (XT.i0_lt_t pr8) (by decide) (by decide) ?_
    show Steps p.tables e below (T6.setTop (mkF m 83 #[.val (.ref a), .val (.long ((0 : Int64) ||| (((((x1 &&& (127 : Int32))).toInt64) <<< ((0 : Int32) &&& 0x3f).toInt64)))), .second, .val (.int (0 : Int32)), .val (.int x1)] [])) _
    refine XS.iinc X6.here hx rfl (hb hby d11_83) rfl (l' := #[.val (.ref a), .val (.long ((0 : Int64) ||| (((((x1 &&& (127 : Int32))).toInt64) <<< ((0 : Int32) &&& 0x3f).toInt64)))), .second, .val (.int (7 : Int32)), .val (.int x1)]) rfl ?_
    show Steps p.tables e below (T6.setTop (mkF m 86 #[.val (.ref a), .val (.long ((0 : Int64) ||| (((((x1 &&& (127 : Int32))).toInt64) <<< ((0 : Int32) &&& 0x3f).toInt64)))), .second, .val (.int (7 : Int32)), .val (.int x1)] [])) _
    refine XS.goto X6.here hx rfl (pc0 := 86) (pc' := 4) rfl (hb hby d11_86) (by decide) (by decide) ?_
    show Steps p.tables e below (T6.setTop (mkF m 4 #[.val (.ref a), .val (.long ((0 : Int64) ||| (((((x1 &&& (127 : Int32))).toInt64) <<< ((0 : Int32) &&& 0x3f).toInt64)))), .second, .val (.int (7 : Int32)), .val (.int x1)] [])) _
    refine XS.iloadN X6.here hx rfl (hb hby d11_4) rfl ?_
    show Steps p.tables e below (T6.setTop (mkF m 5 #[.val (.ref a), .val (.long ((0 : Int64) ||| (((((x1 &&& (127 : Int32))).toInt64) <<< ((0 : Int32) &&& 0x3f).toInt64)))), .second, .val (.int (7 : Int32)), .val (.int x1)] [(.int (7 : Int32))])) _
    refine XS.bipush X6.here hx rfl (hb hby d11_5) ?_
    show Steps p.tables e below (T6.setTop (mkF m 7 #[.val (.ref a), .val (.long ((0 : Int64) ||| (((((x1 &&& (127 : Int32))).toInt64) <<< ((0 : Int32) &&& 0x3f).toInt64)))), .second, .val (.int (7 : Int32)), .val (.int x1)] [(.int (64 : Int32)), (.int (7 : Int32))])) _
    refine XS.icmpNo X6.here hx rfl (hb hby d11_7) rfl (XT.ii_ge_f (by decide)) ?_
    show Steps p.tables e below (T6.setTop (mkF m 10 #[.val (.ref a), .val (.long ((0 : Int64) ||| (((((x1 &&& (127 : Int32))).toInt64) <<< ((0 : Int32) &&& 0x3f).toInt64)))), .second, .val (.int (7 : Int32)), .val (.int x1)] [])) _
    refine XS.aloadN X6.here hx rfl (hb hby d11_10) rfl rfl ?_
    show Steps p.tables e below (T6.setTop (mkF m 11 #[.val (.ref a), .val (.long ((0 : Int64) ||| (((((x1 &&& (127 : Int32))).toInt64) <<< ((0 : Int32) &&& 0x3f).toInt64)))), .second, .val (.int (7 : Int32)), .val (.int x1)] [(.ref a)])) _
    refine st10 _ ?_
    show Steps p.tables e below (T10.setTop (mkF m 14 #[.val (.ref a), .val (.long ((0 : Int64) ||| (((((x1 &&& (127 : Int32))).toInt64) <<< ((0 : Int32) &&& 0x3f).toInt64)))), .second, .val (.int (7 : Int32)), .val (.int x1)] [(.int (2 : Int32))])) _
    refine XS.aloadN X10.here hx rfl (hb hby d11_14) rfl rfl ?_
    show Steps p.tables e below (T10.setTop (mkF m 15 #[.val (.ref a), .val (.long ((0 : Int64) ||| (((((x1 &&& (127 : Int32))).toInt64) <<< ((0 : Int32) &&& 0x3f).toInt64)))), .second, .val (.int (7 : Int32)), .val (.int x1)] [(.ref a), (.int (2 : Int32))])) _
    refine st12 _ ?_
    show Steps p.tables e below (T12.setTop (mkF m 18 #[.val (.ref a), .val (.long ((0 : Int64) ||| (((((x1 &&& (127 : Int32))).toInt64) <<< ((0 : Int32) &&& 0x3f).toInt64)))), .second, .val (.int (7 : Int32)), .val (.int x1)] [(.ref b), (.int (2 : Int32))])) _
    refine X12.arraylength hx (by rw [e12]; exact Ar_a13.1) (State.isArrayOf_alike hZ.alike Ar_a13.2.1) (g := (mkF m 18 #[.val (.ref a), .val (.long ((0 : Int64) ||| (((((x1 &&& (127 : Int32))).toInt64) <<< ((0 : Int32) &&& 0x3f).toInt64)))), .second, .val (.int (7 : Int32)), .val (.int x1)] [(.ref b), (.int (2 : Int32))])) rfl rfl (hb hby d11_18) _ ?_
    rw [len_of S_a13 N_a13]
    show Steps p.tables e below (T12.setTop (mkF m 19 #[.val (.ref a), .val (.long ((0 : Int64) ||| (((((x1 &&& (127 : Int32))).toInt64) <<< ((0 : Int32) &&& 0x3f).toInt64)))), .second, .val (.int (7 : Int32)), .val (.int x1)] [(.int z), (.int (2 : Int32))])) _
    refine XS.icmpYes X12.here hx rfl (pc0 := 19) (pc' := 32) rfl (hb hby d11_19) rfl (XT.ii_ne_t (fun hh => absurd pr9 (by rw [← hh]; exact Int32.lt_irrefl))) (by decide) (by decide) ?_
    show Steps p.tables e below (T12.setTop (mkF m 32 #[.val (.ref a), .val (.long ((0 : Int64) ||| (((((x1 &&& (127 : Int32))).toInt64) <<< ((0 : Int32) &&& 0x3f).toInt64)))), .second, .val (.int (7 : Int32)), .val (.int x1)] [])) _
    refine XS.aloadN X12.here hx rfl (hb hby d11_32) rfl rfl ?_
    show Steps p.tables e below (T12.setTop (mkF m 33 #[.val (.ref a), .val (.long ((0 : Int64) ||| (((((x1 &&& (127 : Int32))).toInt64) <<< ((0 : Int32) &&& 0x3f).toInt64)))), .second, .val (.int (7 : Int32)), .val (.int x1)] [(.ref a)])) _
    refine st14 _ ?_
    show Steps p.tables e below (T14.setTop (mkF m 36 #[.val (.ref a), .val (.long ((0 : Int64) ||| (((((x1 &&& (127 : Int32))).toInt64) <<< ((0 : Int32) &&& 0x3f).toInt64)))), .second, .val (.int (7 : Int32)), .val (.int x1)] [(.ref b)])) _
    refine XS.aloadN X14.here hx rfl (hb hby d11_36) rfl rfl ?_
    show Steps p.tables e below (T14.setTop (mkF m 37 #[.val (.ref a), .val (.long ((0 : Int64) ||| (((((x1 &&& (127 : Int32))).toInt64) <<< ((0 : Int32) &&& 0x3f).toInt64)))), .second, .val (.int (7 : Int32)), .val (.int x1)] [(.ref a), (.ref b)])) _
    refine XS.dup X14.here hx rfl (hb hby d11_37) rfl rfl ?_
    show Steps p.tables e below (T14.setTop (mkF m 38 #[.val (.ref a), .val (.long ((0 : Int64) ||| (((((x1 &&& (127 : Int32))).toInt64) <<< ((0 : Int32) &&& 0x3f).toInt64)))), .second, .val (.int (7 : Int32)), .val (.int x1)] [(.ref a), (.ref a), (.ref b)])) _
    refine st15 _ ?_
    show Steps p.tables e below (T15.setTop (mkF m 41 #[.val (.ref a), .val (.long ((0 : Int64) ||| (((((x1 &&& (127 : Int32))).toInt64) <<< ((0 : Int32) &&& 0x3f).toInt64)))), .second, .val (.int (7 : Int32)), .val (.int x1)] [(.int (2 : Int32)), (.ref a), (.ref b)])) _
    refine XS.dupX1 X15.here hx rfl (hb hby d11_41) rfl rfl rfl ?_
    show Steps p.tables e below (T15.setTop (mkF m 42 #[.val (.ref a), .val (.long ((0 : Int64) ||| (((((x1 &&& (127 : Int32))).toInt64) <<< ((0 : Int32) &&& 0x3f).toInt64)))), .second, .val (.int (7 : Int32)), .val (.int x1)] [(.int (2 : Int32)), (.ref a), (.int (2 : Int32)), (.ref b)])) _
    refine XS.iconst X15.here hx rfl (hb hby d11_42) ?_
    show Steps p.tables e below (T15.setTop (mkF m 43 #[.val (.ref a), .val (.long ((0 : Int64) ||| (((((x1 &&& (127 : Int32))).toInt64) <<< ((0 : Int32) &&& 0x3f).toInt64)))), .second, .val (.int (7 : Int32)), .val (.int x1)] [(.int (1 : Int32)), (.int (2 : Int32)), (.ref a), (.int (2 : Int32)), (.ref b)])) _
    refine XS.iadd X15.here hx rfl (hb hby d11_43) rfl ?_
    show Steps p.tables e below (T15.setTop (mkF m 44 #[.val (.ref a), .val (.long ((0 : Int64) ||| (((((x1 &&& (127 : Int32))).toInt64) <<< ((0 : Int32) &&& 0x3f).toInt64)))), .second, .val (.int (7 : Int32)), .val (.int x1)] [(.int (3 : Int32)), (.ref a), (.int (2 : Int32)), (.ref b)])) _
    refine st17 _ ?_
    show Steps p.tables e below (T17.setTop (mkF m 47 #[.val (.ref a), .val (.long ((0 : Int64) ||| (((((x1 &&& (127 : Int32))).toInt64) <<< ((0 : Int32) &&& 0x3f).toInt64)))), .second, .val (.int (7 : Int32)), .val (.int x1)] [(.int (2 : Int32)), (.ref b)])) _
    refine X17.baloadBytes hx (j := (2 : Int32)) (v := (.int x2)) (by rw [e17]; exact Ar_a19.1) (State.isArrayOf_alike hZ.alike Ar_a19.2.1) Ar_a19.2.2 hin_a19 hat_a19 (g := (mkF m 47 #[.val (.ref a), .val (.long ((0 : Int64) ||| (((((x1 &&& (127 : Int32))).toInt64) <<< ((0 : Int32) &&& 0x3f).toInt64)))), .second, .val (.int (7 : Int32)), .val (.int x1)] [(.int (2 : Int32)), (.ref b)])) rfl rfl (hb hby d11_47) _ ?_
    show Steps p.tables e below (T17.setTop (mkF m 48 #[.val (.ref a), .val (.long ((0 : Int64) ||| (((((x1 &&& (127 : Int32))).toInt64) <<< ((0 : Int32) &&& 0x3f).toInt64)))), .second, .val (.int (7 : Int32)), .val (.int x1)] [(.int x2)])) _
    refine XS.istore X17.here hx rfl (hb hby d11_48) rfl (l' := #[.val (.ref a), .val (.long ((0 : Int64) ||| (((((x1 &&& (127 : Int32))).toInt64) <<< ((0 : Int32) &&& 0x3f).toInt64)))), .second, .val (.int (7 : Int32)), .val (.int x2)]) rfl ?_
    show Steps p.tables e below (T17.setTop (mkF m 50 #[.val (.ref a), .val (.long ((0 : Int64) ||| (((((x1 &&& (127 : Int32))).toInt64) <<< ((0 : Int32) &&& 0x3f).toInt64)))), .second, .val (.int (7 : Int32)), .val (.int x2)] [])) _
    refine XS.lloadN X17.here hx rfl (hb hby d11_50) rfl ?_
    show Steps p.tables e below (T17.setTop (mkF m 51 #[.val (.ref a), .val (.long ((0 : Int64) ||| (((((x1 &&& (127 : Int32))).toInt64) <<< ((0 : Int32) &&& 0x3f).toInt64)))), .second, .val (.int (7 : Int32)), .val (.int x2)] [(.long ((0 : Int64) ||| (((((x1 &&& (127 : Int32))).toInt64) <<< ((0 : Int32) &&& 0x3f).toInt64))))])) _
    refine XS.iload X17.here hx rfl (hb hby d11_51) rfl ?_
    show Steps p.tables e below (T17.setTop (mkF m 53 #[.val (.ref a), .val (.long ((0 : Int64) ||| (((((x1 &&& (127 : Int32))).toInt64) <<< ((0 : Int32) &&& 0x3f).toInt64)))), .second, .val (.int (7 : Int32)), .val (.int x2)] [(.int x2), (.long ((0 : Int64) ||| (((((x1 &&& (127 : Int32))).toInt64) <<< ((0 : Int32) &&& 0x3f).toInt64))))])) _
    refine XS.bipush X17.here hx rfl (hb hby d11_53) ?_
    show Steps p.tables e below (T17.setTop (mkF m 55 #[.val (.ref a), .val (.long ((0 : Int64) ||| (((((x1 &&& (127 : Int32))).toInt64) <<< ((0 : Int32) &&& 0x3f).toInt64)))), .second, .val (.int (7 : Int32)), .val (.int x2)] [(.int (127 : Int32)), (.int x2), (.long ((0 : Int64) ||| (((((x1 &&& (127 : Int32))).toInt64) <<< ((0 : Int32) &&& 0x3f).toInt64))))])) _
    exact kk
  obtain ⟨T21, X21, e21, st21⟩ := getF X17 hx hZ hown (host := "") (Or.inl (hw _ (List.mem_of_getElem? (i := 44) rfl))) Via.refl e17 Fw17 (g := (mkF m 11 #[.val (.ref a), .val (.long (((0 : Int64) ||| (((((x1 &&& (127 : Int32))).toInt64) <<< ((0 : Int32) &&& 0x3f).toInt64))) ||| (((((x2 &&& (127 : Int32))).toInt64) <<< ((7 : Int32) &&& 0x3f).toInt64)))), .second, .val (.int (14 : Int32)), .val (.int x2)] [(.ref a)])) rfl rfl (hb hby d11_11)
  have f22 := (Fld.other W17 f11 (Or.inr (slot_ne (Or.inr (hw _ (List.mem_of_getElem? (i := 38) rfl))) (Or.inl (hw _ (List.mem_of_getElem? (i := 45) rfl))) (by decide) (t := (.array .byte)) (t' := .int) (by decide) (by decide))))
  obtain ⟨T23, X23, e23, st23⟩ := getF X21 hx hZ hown (host := "") (Or.inl (hw _ (List.mem_of_getElem? (i := 37) rfl))) Via.refl e21 f22 (g := (mkF m 15 #[.val (.ref a), .val (.long (((0 : Int64) ||| (((((x1 &&& (127 : Int32))).toInt64) <<< ((0 : Int32) &&& 0x3f).toInt64))) ||| (((((x2 &&& (127 : Int32))).toInt64) <<< ((7 : Int32) &&& 0x3f).toInt64)))), .second, .val (.int (14 : Int32)), .val (.int x2)] [(.ref a), (.int (3 : Int32))])) rfl rfl (hb hby d11_15)
  obtain ⟨cl_a24, Ar_a24, q_a24, S_a24, N_a24, H_a24, G_a24⟩ := id f18
  obtain ⟨T25, X25, e25, st25⟩ := getF X23 hx hZ hown (host := "") (Or.inl (hw _ (List.mem_of_getElem? (i := 37) rfl))) Via.refl e23 f22 (g := (mkF m 33 #[.val (.ref a), .val (.long (((0 : Int64) ||| (((((x1 &&& (127 : Int32))).toInt64) <<< ((0 : Int32) &&& 0x3f).toInt64))) ||| (((((x2 &&& (127 : Int32))).toInt64) <<< ((7 : Int32) &&& 0x3f).toInt64)))), .second, .val (.int (14 : Int32)), .val (.int x2)] [(.ref a)])) rfl rfl (hb hby d11_33)
  obtain ⟨T26, X26, e26, st26⟩ := getF X25 hx hZ hown (host := "") (Or.inl (hw _ (List.mem_of_getElem? (i := 44) rfl))) Via.refl e25 Fw17 (g := (mkF m 38 #[.val (.ref a), .val (.long (((0 : Int64) ||| (((((x1 &&& (127 : Int32))).toInt64) <<< ((0 : Int32) &&& 0x3f).toInt64))) ||| (((((x2 &&& (127 : Int32))).toInt64) <<< ((7 : Int32) &&& 0x3f).toInt64)))), .second, .val (.int (14 : Int32)), .val (.int x2)] [(.ref a), (.ref a), (.ref b)])) rfl rfl (hb hby d11_38)
  have f27 := (Exa.wr W17 f16)
  obtain ⟨T28, h28, X28, e28, W28, st28⟩ := putF X26 hx hZ hown (host := "") (Or.inl (hw _ (List.mem_of_getElem? (i := 44) rfl))) Via.refl e26 Fw17 f27 (Or.inl (hw _ (List.mem_of_getElem? (i := 45) rfl))) (hw _ (List.mem_of_getElem? (i := 3) rfl)) (ty := .int) (by decide) rfl rfl (g := (mkF m 44 #[.val (.ref a), .val (.long (((0 : Int64) ||| (((((x1 &&& (127 : Int32))).toInt64) <<< ((0 : Int32) &&& 0x3f).toInt64))) ||| (((((x2 &&& (127 : Int32))).toInt64) <<< ((7 : Int32) &&& 0x3f).toInt64)))), .second, .val (.int (14 : Int32)), .val (.int x2)] [(.int (4 : Int32)), (.ref a), (.int (3 : Int32)), (.ref b)])) rfl rfl (hb hby d11_44)
  have N28 := Fr.snoc X28 N17 pr4
  have Fw28 := Fld.same W28 Fw17
  have f29 := (f18.other W28 pr5)
  obtain ⟨cl_a30, Ar_a30, q_a30, S_a30, N_a30, H_a30, G_a30⟩ := id f29
  have hin_a30 : ¬ ((3 : Int32) < 0 ∨ cl_a30.slots.size ≤ ((3 : Int32)).toNatClampNeg) := inb_of S_a30 ⟨by decide, pr12⟩
  have hat_a30 := Has.at (v := (.int x3)) H_a30 hin_a30 pr13
  have P31 : ∀ t, Steps p.tables e below (T28.setTop (mkF m 50 #[.val (.ref a), .val (.long (((0 : Int64) ||| (((((x1 &&& (127 : Int32))).toInt64) <<< ((0 : Int32) &&& 0x3f).toInt64))) ||| (((((x2 &&& (127 : Int32))).toInt64) <<< ((7 : Int32) &&& 0x3f).toInt64)))), .second, .val (.int (14 : Int32)), .val (.int x3)] [])) t → Steps p.tables e below (s₁.setTop (entryFrame m #[(.ref a)] 5)) t := by
    intro t kk
    refine P20 _ ?_
    show Steps p.tables e below (T17.setTop (mkF m 55 #[.val (.ref a), .val (.long ((0 : Int64) ||| (((((x1 &&& (127 : Int32))).toInt64) <<< ((0 : Int32) &&& 0x3f).toInt64)))), .second, .val (.int (7 : Int32)), .val (.int x2)] [(.int (127 : Int32)), (.int x2), (.long ((0 : Int64) ||| (((((x1 &&& (127 : Int32))).toInt64) <<< ((0 : Int32) &&& 0x3f).toInt64))))])) _
    refine XS.iand X17.here hx rfl (hb hby d11_55) rfl ?_
    show Steps p.tables e below (T17.setTop (mkF m 56 #[.val (.ref a), .val (.long ((0 : Int64) ||| (((((x1 &&& (127 : Int32))).toInt64) <<< ((0 : Int32) &&& 0x3f).toInt64)))), .second, .val (.int (7 : Int32)), .val (.int x2)] [(.int (x2 &&& (127 : Int32))), (.long ((0 : Int64) ||| (((((x1 &&& (127 : Int32))).toInt64) <<< ((0 : Int32) &&& 0x3f).toInt64))))])) _
    refine XS.i2l X17.here hx rfl (hb hby d11_56) rfl ?_
    show Steps p.tables e below (T17.setTop (mkF m 57 #[.val (.ref a), .val (.long ((0 : Int64) ||| (((((x1 &&& (127 : Int32))).toInt64) <<< ((0 : Int32) &&& 0x3f).toInt64)))), .second, .val (.int (7 : Int32)), .val (.int x2)] [(.long (((x2 &&& (127 : Int32))).toInt64)), (.long ((0 : Int64) ||| (((((x1 &&& (127 : Int32))).toInt64) <<< ((0 : Int32) &&& 0x3f).toInt64))))])) _
    refine XS.iloadN X17.here hx rfl (hb hby d11_57) rfl ?_
    show Steps p.tables e below (T17.setTop (mkF m 58 #[.val (.ref a), .val (.long ((0 : Int64) ||| (((((x1 &&& (127 : Int32))).toInt64) <<< ((0 : Int32) &&& 0x3f).toInt64)))), .second, .val (.int (7 : Int32)), .val (.int x2)] [(.int (7 : Int32)), (.long (((x2 &&& (127 : Int32))).toInt64)), (.long ((0 : Int64) ||| (((((x1 &&& (127 : Int32))).toInt64) <<< ((0 : Int32) &&& 0x3f).toInt64))))])) _
    refine XS.lshl X17.here hx rfl (hb hby d11_58) rfl ?_
    show Steps p.tables e below (T17.setTop (mkF m 59 #[.val (.ref a), .val (.long ((0 : Int64) ||| (((((x1 &&& (127 : Int32))).toInt64) <<< ((0 : Int32) &&& 0x3f).toInt64)))), .second, .val (.int (7 : Int32)), .val (.int x2)] [(.long (((((x2 &&& (127 : Int32))).toInt64) <<< ((7 : Int32) &&& 0x3f).toInt64))), (.long ((0 : Int64) ||| (((((x1 &&& (127 : Int32))).toInt64) <<< ((0 : Int32) &&& 0x3f).toInt64))))])) _
    refine XS.lor X17.here hx rfl (hb hby d11_59) rfl ?_
    show Steps p.tables e below (T17.setTop (mkF m 60 #[.val (.ref a), .val (.long ((0 : Int64) ||| (((((x1 &&& (127 : Int32))).toInt64) <<< ((0 : Int32) &&& 0x3f).toInt64)))), .second, .val (.int (7 : Int32)), .val (.int x2)] [(.long (((0 : Int64) ||| (((((x1 &&& (127 : Int32))).toInt64) <<< ((0 : Int32) &&& 0x3f).toInt64))) ||| (((((x2 &&& (127 : Int32))).toInt64) <<< ((7 : Int32) &&& 0x3f).toInt64))))])) _
    refine XS.lstoreN X17.here hx rfl (hb hby d11_60) rfl (l' := #[.val (.ref a), .val (.long (((0 : Int64) ||| (((((x1 &&& (127 : Int32))).toInt64) <<< ((0 : Int32) &&& 0x3f).toInt64))) ||| (((((x2 &&& (127 : Int32))).toInt64) <<< ((7 : Int32) &&& 0x3f).toInt64)))), .second, .val (.int (7 : Int32)), .val (.int x2)]) rfl ?_
    show Steps p.tables e below (T17.setTop (mkF m 61 #[.val (.ref a), .val (.long (((0 : Int64) ||| (((((x1 &&& (127 : Int32))).toInt64) <<< ((0 : Int32) &&& 0x3f).toInt64))) ||| (((((x2 &&& (127 : Int32))).toInt64) <<< ((7 : Int32) &&& 0x3f).toInt64)))), .second, .val (.int (7 : Int32)), .val (.int x2)] [])) _
    refine XS.iload X17.here hx rfl (hb hby d11_61) rfl ?_
    show Steps p.tables e below (T17.setTop (mkF m 63 #[.val (.ref a), .val (.long (((0 : Int64) ||| (((((x1 &&& (127 : Int32))).toInt64) <<< ((0 : Int32) &&& 0x3f).toInt64))) ||| (((((x2 &&& (127 : Int32))).toInt64) <<< ((7 : Int32) &&& 0x3f).toInt64)))), .second, .val (.int (7 : Int32)), .val (.int x2)] [(.int x2)])) _
    refine XS.ifYes X17.here hx rfl (pc0 := 63) (pc' := 83) rfl (hb hby d11_63) rfl (XT.i0_lt_t pr11) (by decide) (by decide) ?_
    show Steps p.tables e below (T17.setTop (mkF m 83 #[.val (.ref a), .val (.long (((0 : Int64) ||| (((((x1 &&& (127 : Int32))).toInt64) <<< ((0 : Int32) &&& 0x3f).toInt64))) ||| (((((x2 &&& (127 : Int32))).toInt64) <<< ((7 : Int32) &&& 0x3f).toInt64)))), .second, .val (.int (7 : Int32)), .val (.int x2)] [])) _
    refine XS.iinc X17.here hx rfl (hb hby d11_83) rfl (l' := #[.val (.ref a), .val (.long (((0 : Int64) ||| (((((x1 &&& (127 : Int32))).toInt64) <<< ((0 : Int32) &&& 0x3f).toInt64))) ||| (((((x2 &&& (127 : Int32))).toInt64) <<< ((7 : Int32) &&& 0x3f).toInt64)))), .second, .val (.int (14 : Int32)), .val (.int x2)]) rfl ?_
    show Steps p.tables e below (T17.setTop (mkF m 86 #[.val (.ref a), .val (.long (((0 : Int64) ||| (((((x1 &&& (127 : Int32))).toInt64) <<< ((0 : Int32) &&& 0x3f).toInt64))) ||| (((((x2 &&& (127 : Int32))).toInt64) <<< ((7 : Int32) &&& 0x3f).toInt64)))), .second, .val (.int (14 : Int32)), .val (.int x2)] [])) _
    refine XS.goto X17.here hx rfl (pc0 := 86) (pc' := 4) rfl (hb hby d11_86) (by decide) (by decide) ?_
    show Steps p.tables e below (T17.setTop (mkF m 4 #[.val (.ref a), .val (.long (((0 : Int64) ||| (((((x1 &&& (127 : Int32))).toInt64) <<< ((0 : Int32) &&& 0x3f).toInt64))) ||| (((((x2 &&& (127 : Int32))).toInt64) <<< ((7 : Int32) &&& 0x3f).toInt64)))), .second, .val (.int (14 : Int32)), .val (.int x2)] [])) _
    refine XS.iloadN X17.here hx rfl (hb hby d11_4) rfl ?_
    show Steps p.tables e below (T17.setTop (mkF m 5 #[.val (.ref a), .val (.long (((0 : Int64) ||| (((((x1 &&& (127 : Int32))).toInt64) <<< ((0 : Int32) &&& 0x3f).toInt64))) ||| (((((x2 &&& (127 : Int32))).toInt64) <<< ((7 : Int32) &&& 0x3f).toInt64)))), .second, .val (.int (14 : Int32)), .val (.int x2)] [(.int (14 : Int32))])) _
    refine XS.bipush X17.here hx rfl (hb hby d11_5) ?_
    show Steps p.tables e below (T17.setTop (mkF m 7 #[.val (.ref a), .val (.long (((0 : Int64) ||| (((((x1 &&& (127 : Int32))).toInt64) <<< ((0 : Int32) &&& 0x3f).toInt64))) ||| (((((x2 &&& (127 : Int32))).toInt64) <<< ((7 : Int32) &&& 0x3f).toInt64)))), .second, .val (.int (14 : Int32)), .val (.int x2)] [(.int (64 : Int32)), (.int (14 : Int32))])) _
    refine XS.icmpNo X17.here hx rfl (hb hby d11_7) rfl (XT.ii_ge_f (by decide)) ?_
    show Steps p.tables e below (T17.setTop (mkF m 10 #[.val (.ref a), .val (.long (((0 : Int64) ||| (((((x1 &&& (127 : Int32))).toInt64) <<< ((0 : Int32) &&& 0x3f).toInt64))) ||| (((((x2 &&& (127 : Int32))).toInt64) <<< ((7 : Int32) &&& 0x3f).toInt64)))), .second, .val (.int (14 : Int32)), .val (.int x2)] [])) _
    refine XS.aloadN X17.here hx rfl (hb hby d11_10) rfl rfl ?_
    show Steps p.tables e below (T17.setTop (mkF m 11 #[.val (.ref a), .val (.long (((0 : Int64) ||| (((((x1 &&& (127 : Int32))).toInt64) <<< ((0 : Int32) &&& 0x3f).toInt64))) ||| (((((x2 &&& (127 : Int32))).toInt64) <<< ((7 : Int32) &&& 0x3f).toInt64)))), .second, .val (.int (14 : Int32)), .val (.int x2)] [(.ref a)])) _
    refine st21 _ ?_
    show Steps p.tables e below (T21.setTop (mkF m 14 #[.val (.ref a), .val (.long (((0 : Int64) ||| (((((x1 &&& (127 : Int32))).toInt64) <<< ((0 : Int32) &&& 0x3f).toInt64))) ||| (((((x2 &&& (127 : Int32))).toInt64) <<< ((7 : Int32) &&& 0x3f).toInt64)))), .second, .val (.int (14 : Int32)), .val (.int x2)] [(.int (3 : Int32))])) _
    refine XS.aloadN X21.here hx rfl (hb hby d11_14) rfl rfl ?_
    show Steps p.tables e below (T21.setTop (mkF m 15 #[.val (.ref a), .val (.long (((0 : Int64) ||| (((((x1 &&& (127 : Int32))).toInt64) <<< ((0 : Int32) &&& 0x3f).toInt64))) ||| (((((x2 &&& (127 : Int32))).toInt64) <<< ((7 : Int32) &&& 0x3f).toInt64)))), .second, .val (.int (14 : Int32)), .val (.int x2)] [(.ref a), (.int (3 : Int32))])) _
    refine st23 _ ?_
    show Steps p.tables e below (T23.setTop (mkF m 18 #[.val (.ref a), .val (.long (((0 : Int64) ||| (((((x1 &&& (127 : Int32))).toInt64) <<< ((0 : Int32) &&& 0x3f).toInt64))) ||| (((((x2 &&& (127 : Int32))).toInt64) <<< ((7 : Int32) &&& 0x3f).toInt64)))), .second, .val (.int (14 : Int32)), .val (.int x2)] [(.ref b), (.int (3 : Int32))])) _
    refine X23.arraylength hx (by rw [e23]; exact Ar_a24.1) (State.isArrayOf_alike hZ.alike Ar_a24.2.1) (g := (mkF m 18 #[.val (.ref a), .val (.long (((0 : Int64) ||| (((((x1 &&& (127 : Int32))).toInt64) <<< ((0 : Int32) &&& 0x3f).toInt64))) ||| (((((x2 &&& (127 : Int32))).toInt64) <<< ((7 : Int32) &&& 0x3f).toInt64)))), .second, .val (.int (14 : Int32)), .val (.int x2)] [(.ref b), (.int (3 : Int32))])) rfl rfl (hb hby d11_18) _ ?_
    rw [len_of S_a24 N_a24]
    show Steps p.tables e below (T23.setTop (mkF m 19 #[.val (.ref a), .val (.long (((0 : Int64) ||| (((((x1 &&& (127 : Int32))).toInt64) <<< ((0 : Int32) &&& 0x3f).toInt64))) ||| (((((x2 &&& (127 : Int32))).toInt64) <<< ((7 : Int32) &&& 0x3f).toInt64)))), .second, .val (.int (14 : Int32)), .val (.int x2)] [(.int z), (.int (3 : Int32))])) _
    refine XS.icmpYes X23.here hx rfl (pc0 := 19) (pc' := 32) rfl (hb hby d11_19) rfl (XT.ii_ne_t (fun hh => absurd pr12 (by rw [← hh]; exact Int32.lt_irrefl))) (by decide) (by decide) ?_
    show Steps p.tables e below (T23.setTop (mkF m 32 #[.val (.ref a), .val (.long (((0 : Int64) ||| (((((x1 &&& (127 : Int32))).toInt64) <<< ((0 : Int32) &&& 0x3f).toInt64))) ||| (((((x2 &&& (127 : Int32))).toInt64) <<< ((7 : Int32) &&& 0x3f).toInt64)))), .second, .val (.int (14 : Int32)), .val (.int x2)] [])) _
    refine XS.aloadN X23.here hx rfl (hb hby d11_32) rfl rfl ?_
    show Steps p.tables e below (T23.setTop (mkF m 33 #[.val (.ref a), .val (.long (((0 : Int64) ||| (((((x1 &&& (127 : Int32))).toInt64) <<< ((0 : Int32) &&& 0x3f).toInt64))) ||| (((((x2 &&& (127 : Int32))).toInt64) <<< ((7 : Int32) &&& 0x3f).toInt64)))), .second, .val (.int (14 : Int32)), .val (.int x2)] [(.ref a)])) _
    refine st25 _ ?_
    show Steps p.tables e below (T25.setTop (mkF m 36 #[.val (.ref a), .val (.long (((0 : Int64) ||| (((((x1 &&& (127 : Int32))).toInt64) <<< ((0 : Int32) &&& 0x3f).toInt64))) ||| (((((x2 &&& (127 : Int32))).toInt64) <<< ((7 : Int32) &&& 0x3f).toInt64)))), .second, .val (.int (14 : Int32)), .val (.int x2)] [(.ref b)])) _
    refine XS.aloadN X25.here hx rfl (hb hby d11_36) rfl rfl ?_
    show Steps p.tables e below (T25.setTop (mkF m 37 #[.val (.ref a), .val (.long (((0 : Int64) ||| (((((x1 &&& (127 : Int32))).toInt64) <<< ((0 : Int32) &&& 0x3f).toInt64))) ||| (((((x2 &&& (127 : Int32))).toInt64) <<< ((7 : Int32) &&& 0x3f).toInt64)))), .second, .val (.int (14 : Int32)), .val (.int x2)] [(.ref a), (.ref b)])) _
    refine XS.dup X25.here hx rfl (hb hby d11_37) rfl rfl ?_
    show Steps p.tables e below (T25.setTop (mkF m 38 #[.val (.ref a), .val (.long (((0 : Int64) ||| (((((x1 &&& (127 : Int32))).toInt64) <<< ((0 : Int32) &&& 0x3f).toInt64))) ||| (((((x2 &&& (127 : Int32))).toInt64) <<< ((7 : Int32) &&& 0x3f).toInt64)))), .second, .val (.int (14 : Int32)), .val (.int x2)] [(.ref a), (.ref a), (.ref b)])) _
    refine st26 _ ?_
    show Steps p.tables e below (T26.setTop (mkF m 41 #[.val (.ref a), .val (.long (((0 : Int64) ||| (((((x1 &&& (127 : Int32))).toInt64) <<< ((0 : Int32) &&& 0x3f).toInt64))) ||| (((((x2 &&& (127 : Int32))).toInt64) <<< ((7 : Int32) &&& 0x3f).toInt64)))), .second, .val (.int (14 : Int32)), .val (.int x2)] [(.int (3 : Int32)), (.ref a), (.ref b)])) _
    refine XS.dupX1 X26.here hx rfl (hb hby d11_41) rfl rfl rfl ?_
    show Steps p.tables e below (T26.setTop (mkF m 42 #[.val (.ref a), .val (.long (((0 : Int64) ||| (((((x1 &&& (127 : Int32))).toInt64) <<< ((0 : Int32) &&& 0x3f).toInt64))) ||| (((((x2 &&& (127 : Int32))).toInt64) <<< ((7 : Int32) &&& 0x3f).toInt64)))), .second, .val (.int (14 : Int32)), .val (.int x2)] [(.int (3 : Int32)), (.ref a), (.int (3 : Int32)), (.ref b)])) _
    refine XS.iconst X26.here hx rfl (hb hby d11_42) ?_
    show Steps p.tables e below (T26.setTop (mkF m 43 #[.val (.ref a), .val (.long (((0 : Int64) ||| (((((x1 &&& (127 : Int32))).toInt64) <<< ((0 : Int32) &&& 0x3f).toInt64))) ||| (((((x2 &&& (127 : Int32))).toInt64) <<< ((7 : Int32) &&& 0x3f).toInt64)))), .second, .val (.int (14 : Int32)), .val (.int x2)] [(.int (1 : Int32)), (.int (3 : Int32)), (.ref a), (.int (3 : Int32)), (.ref b)])) _
    refine XS.iadd X26.here hx rfl (hb hby d11_43) rfl ?_
    show Steps p.tables e below (T26.setTop (mkF m 44 #[.val (.ref a), .val (.long (((0 : Int64) ||| (((((x1 &&& (127 : Int32))).toInt64) <<< ((0 : Int32) &&& 0x3f).toInt64))) ||| (((((x2 &&& (127 : Int32))).toInt64) <<< ((7 : Int32) &&& 0x3f).toInt64)))), .second, .val (.int (14 : Int32)), .val (.int x2)] [(.int (4 : Int32)), (.ref a), (.int (3 : Int32)), (.ref b)])) _
    refine st28 _ ?_
    show Steps p.tables e below (T28.setTop (mkF m 47 #[.val (.ref a), .val (.long (((0 : Int64) ||| (((((x1 &&& (127 : Int32))).toInt64) <<< ((0 : Int32) &&& 0x3f).toInt64))) ||| (((((x2 &&& (127 : Int32))).toInt64) <<< ((7 : Int32) &&& 0x3f).toInt64)))), .second, .val (.int (14 : Int32)), .val (.int x2)] [(.int (3 : Int32)), (.ref b)])) _
    refine X28.baloadBytes hx (j := (3 : Int32)) (v := (.int x3)) (by rw [e28]; exact Ar_a30.1) (State.isArrayOf_alike hZ.alike Ar_a30.2.1) Ar_a30.2.2 hin_a30 hat_a30 (g := (mkF m 47 #[.val (.ref a), .val (.long (((0 : Int64) ||| (((((x1 &&& (127 : Int32))).toInt64) <<< ((0 : Int32) &&& 0x3f).toInt64))) ||| (((((x2 &&& (127 : Int32))).toInt64) <<< ((7 : Int32) &&& 0x3f).toInt64)))), .second, .val (.int (14 : Int32)), .val (.int x2)] [(.int (3 : Int32)), (.ref b)])) rfl rfl (hb hby d11_47) _ ?_
    show Steps p.tables e below (T28.setTop (mkF m 48 #[.val (.ref a), .val (.long (((0 : Int64) ||| (((((x1 &&& (127 : Int32))).toInt64) <<< ((0 : Int32) &&& 0x3f).toInt64))) ||| (((((x2 &&& (127 : Int32))).toInt64) <<< ((7 : Int32) &&& 0x3f).toInt64)))), .second, .val (.int (14 : Int32)), .val (.int x2)] [(.int x3)])) _
    refine XS.istore X28.here hx rfl (hb hby d11_48) rfl (l' := #[.val (.ref a), .val (.long (((0 : Int64) ||| (((((x1 &&& (127 : Int32))).toInt64) <<< ((0 : Int32) &&& 0x3f).toInt64))) ||| (((((x2 &&& (127 : Int32))).toInt64) <<< ((7 : Int32) &&& 0x3f).toInt64)))), .second, .val (.int (14 : Int32)), .val (.int x3)]) rfl ?_
    show Steps p.tables e below (T28.setTop (mkF m 50 #[.val (.ref a), .val (.long (((0 : Int64) ||| (((((x1 &&& (127 : Int32))).toInt64) <<< ((0 : Int32) &&& 0x3f).toInt64))) ||| (((((x2 &&& (127 : Int32))).toInt64) <<< ((7 : Int32) &&& 0x3f).toInt64)))), .second, .val (.int (14 : Int32)), .val (.int x3)] [])) _
    exact kk
  have P32 : ∀ t, Steps p.tables e below (T28.setTop (mkF m 82 #[.val (.ref a), .val (.long ((((0 : Int64) ||| (((((x1 &&& (127 : Int32))).toInt64) <<< ((0 : Int32) &&& 0x3f).toInt64))) ||| (((((x2 &&& (127 : Int32))).toInt64) <<< ((7 : Int32) &&& 0x3f).toInt64))) ||| (((((x3 &&& (127 : Int32))).toInt64) <<< ((14 : Int32) &&& 0x3f).toInt64)))), .second, .val (.int (14 : Int32)), .val (.int x3)] [(.long ((((0 : Int64) ||| (((((x1 &&& (127 : Int32))).toInt64) <<< ((0 : Int32) &&& 0x3f).toInt64))) ||| (((((x2 &&& (127 : Int32))).toInt64) <<< ((7 : Int32) &&& 0x3f).toInt64))) ||| (((((x3 &&& (127 : Int32))).toInt64) <<< ((14 : Int32) &&& 0x3f).toInt64))))])) t → Steps p.tables e below (s₁.setTop (entryFrame m #[(.ref a)] 5)) t := by
    intro t kk
    refine P31 _ ?_
    show Steps p.tables e below (T28.setTop (mkF m 50 #[.val (.ref a), .val (.long (((0 : Int64) ||| (((((x1 &&& (127 : Int32))).toInt64) <<< ((0 : Int32) &&& 0x3f).toInt64))) ||| (((((x2 &&& (127 : Int32))).toInt64) <<< ((7 : Int32) &&& 0x3f).toInt64)))), .second, .val (.int (14 : Int32)), .val (.int x3)] [])) _
    refine XS.lloadN X28.here hx rfl (hb hby d11_50) rfl ?_
    show Steps p.tables e below (T28.setTop (mkF m 51 #[.val (.ref a), .val (.long (((0 : Int64) ||| (((((x1 &&& (127 : Int32))).toInt64) <<< ((0 : Int32) &&& 0x3f).toInt64))) ||| (((((x2 &&& (127 : Int32))).toInt64) <<< ((7 : Int32) &&& 0x3f).toInt64)))), .second, .val (.int (14 : Int32)), .val (.int x3)] [(.long (((0 : Int64) ||| (((((x1 &&& (127 : Int32))).toInt64) <<< ((0 : Int32) &&& 0x3f).toInt64))) ||| (((((x2 &&& (127 : Int32))).toInt64) <<< ((7 : Int32) &&& 0x3f).toInt64))))])) _
    refine XS.iload X28.here hx rfl (hb hby d11_51) rfl ?_
    show Steps p.tables e below (T28.setTop (mkF m 53 #[.val (.ref a), .val (.long (((0 : Int64) ||| (((((x1 &&& (127 : Int32))).toInt64) <<< ((0 : Int32) &&& 0x3f).toInt64))) ||| (((((x2 &&& (127 : Int32))).toInt64) <<< ((7 : Int32) &&& 0x3f).toInt64)))), .second, .val (.int (14 : Int32)), .val (.int x3)] [(.int x3), (.long (((0 : Int64) ||| (((((x1 &&& (127 : Int32))).toInt64) <<< ((0 : Int32) &&& 0x3f).toInt64))) ||| (((((x2 &&& (127 : Int32))).toInt64) <<< ((7 : Int32) &&& 0x3f).toInt64))))])) _
    refine XS.bipush X28.here hx rfl (hb hby d11_53) ?_
    show Steps p.tables e below (T28.setTop (mkF m 55 #[.val (.ref a), .val (.long (((0 : Int64) ||| (((((x1 &&& (127 : Int32))).toInt64) <<< ((0 : Int32) &&& 0x3f).toInt64))) ||| (((((x2 &&& (127 : Int32))).toInt64) <<< ((7 : Int32) &&& 0x3f).toInt64)))), .second, .val (.int (14 : Int32)), .val (.int x3)] [(.int (127 : Int32)), (.int x3), (.long (((0 : Int64) ||| (((((x1 &&& (127 : Int32))).toInt64) <<< ((0 : Int32) &&& 0x3f).toInt64))) ||| (((((x2 &&& (127 : Int32))).toInt64) <<< ((7 : Int32) &&& 0x3f).toInt64))))])) _
    refine XS.iand X28.here hx rfl (hb hby d11_55) rfl ?_
    show Steps p.tables e below (T28.setTop (mkF m 56 #[.val (.ref a), .val (.long (((0 : Int64) ||| (((((x1 &&& (127 : Int32))).toInt64) <<< ((0 : Int32) &&& 0x3f).toInt64))) ||| (((((x2 &&& (127 : Int32))).toInt64) <<< ((7 : Int32) &&& 0x3f).toInt64)))), .second, .val (.int (14 : Int32)), .val (.int x3)] [(.int (x3 &&& (127 : Int32))), (.long (((0 : Int64) ||| (((((x1 &&& (127 : Int32))).toInt64) <<< ((0 : Int32) &&& 0x3f).toInt64))) ||| (((((x2 &&& (127 : Int32))).toInt64) <<< ((7 : Int32) &&& 0x3f).toInt64))))])) _
    refine XS.i2l X28.here hx rfl (hb hby d11_56) rfl ?_
    show Steps p.tables e below (T28.setTop (mkF m 57 #[.val (.ref a), .val (.long (((0 : Int64) ||| (((((x1 &&& (127 : Int32))).toInt64) <<< ((0 : Int32) &&& 0x3f).toInt64))) ||| (((((x2 &&& (127 : Int32))).toInt64) <<< ((7 : Int32) &&& 0x3f).toInt64)))), .second, .val (.int (14 : Int32)), .val (.int x3)] [(.long (((x3 &&& (127 : Int32))).toInt64)), (.long (((0 : Int64) ||| (((((x1 &&& (127 : Int32))).toInt64) <<< ((0 : Int32) &&& 0x3f).toInt64))) ||| (((((x2 &&& (127 : Int32))).toInt64) <<< ((7 : Int32) &&& 0x3f).toInt64))))])) _
    refine XS.iloadN X28.here hx rfl (hb hby d11_57) rfl ?_
    show Steps p.tables e below (T28.setTop (mkF m 58 #[.val (.ref a), .val (.long (((0 : Int64) ||| (((((x1 &&& (127 : Int32))).toInt64) <<< ((0 : Int32) &&& 0x3f).toInt64))) ||| (((((x2 &&& (127 : Int32))).toInt64) <<< ((7 : Int32) &&& 0x3f).toInt64)))), .second, .val (.int (14 : Int32)), .val (.int x3)] [(.int (14 : Int32)), (.long (((x3 &&& (127 : Int32))).toInt64)), (.long (((0 : Int64) ||| (((((x1 &&& (127 : Int32))).toInt64) <<< ((0 : Int32) &&& 0x3f).toInt64))) ||| (((((x2 &&& (127 : Int32))).toInt64) <<< ((7 : Int32) &&& 0x3f).toInt64))))])) _
    refine XS.lshl X28.here hx rfl (hb hby d11_58) rfl ?_
    show Steps p.tables e below (T28.setTop (mkF m 59 #[.val (.ref a), .val (.long (((0 : Int64) ||| (((((x1 &&& (127 : Int32))).toInt64) <<< ((0 : Int32) &&& 0x3f).toInt64))) ||| (((((x2 &&& (127 : Int32))).toInt64) <<< ((7 : Int32) &&& 0x3f).toInt64)))), .second, .val (.int (14 : Int32)), .val (.int x3)] [(.long (((((x3 &&& (127 : Int32))).toInt64) <<< ((14 : Int32) &&& 0x3f).toInt64))), (.long (((0 : Int64) ||| (((((x1 &&& (127 : Int32))).toInt64) <<< ((0 : Int32) &&& 0x3f).toInt64))) ||| (((((x2 &&& (127 : Int32))).toInt64) <<< ((7 : Int32) &&& 0x3f).toInt64))))])) _
    refine XS.lor X28.here hx rfl (hb hby d11_59) rfl ?_
    show Steps p.tables e below (T28.setTop (mkF m 60 #[.val (.ref a), .val (.long (((0 : Int64) ||| (((((x1 &&& (127 : Int32))).toInt64) <<< ((0 : Int32) &&& 0x3f).toInt64))) ||| (((((x2 &&& (127 : Int32))).toInt64) <<< ((7 : Int32) &&& 0x3f).toInt64)))), .second, .val (.int (14 : Int32)), .val (.int x3)] [(.long ((((0 : Int64) ||| (((((x1 &&& (127 : Int32))).toInt64) <<< ((0 : Int32) &&& 0x3f).toInt64))) ||| (((((x2 &&& (127 : Int32))).toInt64) <<< ((7 : Int32) &&& 0x3f).toInt64))) ||| (((((x3 &&& (127 : Int32))).toInt64) <<< ((14 : Int32) &&& 0x3f).toInt64))))])) _
    refine XS.lstoreN X28.here hx rfl (hb hby d11_60) rfl (l' := #[.val (.ref a), .val (.long ((((0 : Int64) ||| (((((x1 &&& (127 : Int32))).toInt64) <<< ((0 : Int32) &&& 0x3f).toInt64))) ||| (((((x2 &&& (127 : Int32))).toInt64) <<< ((7 : Int32) &&& 0x3f).toInt64))) ||| (((((x3 &&& (127 : Int32))).toInt64) <<< ((14 : Int32) &&& 0x3f).toInt64)))), .second, .val (.int (14 : Int32)), .val (.int x3)]) rfl ?_
    show Steps p.tables e below (T28.setTop (mkF m 61 #[.val (.ref a), .val (.long ((((0 : Int64) ||| (((((x1 &&& (127 : Int32))).toInt64) <<< ((0 : Int32) &&& 0x3f).toInt64))) ||| (((((x2 &&& (127 : Int32))).toInt64) <<< ((7 : Int32) &&& 0x3f).toInt64))) ||| (((((x3 &&& (127 : Int32))).toInt64) <<< ((14 : Int32) &&& 0x3f).toInt64)))), .second, .val (.int (14 : Int32)), .val (.int x3)] [])) _
    refine XS.iload X28.here hx rfl (hb hby d11_61) rfl ?_
    show Steps p.tables e below (T28.setTop (mkF m 63 #[.val (.ref a), .val (.long ((((0 : Int64) ||| (((((x1 &&& (127 : Int32))).toInt64) <<< ((0 : Int32) &&& 0x3f).toInt64))) ||| (((((x2 &&& (127 : Int32))).toInt64) <<< ((7 : Int32) &&& 0x3f).toInt64))) ||| (((((x3 &&& (127 : Int32))).toInt64) <<< ((14 : Int32) &&& 0x3f).toInt64)))), .second, .val (.int (14 : Int32)), .val (.int x3)] [(.int x3)])) _
    refine XS.ifNo X28.here hx rfl (hb hby d11_63) rfl (XT.i0_lt_f pr14) ?_
    show Steps p.tables e below (T28.setTop (mkF m 66 #[.val (.ref a), .val (.long ((((0 : Int64) ||| (((((x1 &&& (127 : Int32))).toInt64) <<< ((0 : Int32) &&& 0x3f).toInt64))) ||| (((((x2 &&& (127 : Int32))).toInt64) <<< ((7 : Int32) &&& 0x3f).toInt64))) ||| (((((x3 &&& (127 : Int32))).toInt64) <<< ((14 : Int32) &&& 0x3f).toInt64)))), .second, .val (.int (14 : Int32)), .val (.int x3)] [])) _
    refine XS.iloadN X28.here hx rfl (hb hby d11_66) rfl ?_
    show Steps p.tables e below (T28.setTop (mkF m 67 #[.val (.ref a), .val (.long ((((0 : Int64) ||| (((((x1 &&& (127 : Int32))).toInt64) <<< ((0 : Int32) &&& 0x3f).toInt64))) ||| (((((x2 &&& (127 : Int32))).toInt64) <<< ((7 : Int32) &&& 0x3f).toInt64))) ||| (((((x3 &&& (127 : Int32))).toInt64) <<< ((14 : Int32) &&& 0x3f).toInt64)))), .second, .val (.int (14 : Int32)), .val (.int x3)] [(.int (14 : Int32))])) _
    refine XS.bipush X28.here hx rfl (hb hby d11_67) ?_
    show Steps p.tables e below (T28.setTop (mkF m 69 #[.val (.ref a), .val (.long ((((0 : Int64) ||| (((((x1 &&& (127 : Int32))).toInt64) <<< ((0 : Int32) &&& 0x3f).toInt64))) ||| (((((x2 &&& (127 : Int32))).toInt64) <<< ((7 : Int32) &&& 0x3f).toInt64))) ||| (((((x3 &&& (127 : Int32))).toInt64) <<< ((14 : Int32) &&& 0x3f).toInt64)))), .second, .val (.int (14 : Int32)), .val (.int x3)] [(.int (63 : Int32)), (.int (14 : Int32))])) _
    refine XS.icmpYes X28.here hx rfl (pc0 := 69) (pc' := 81) rfl (hb hby d11_69) rfl (XT.ii_ne_t (by decide)) (by decide) (by decide) ?_
    show Steps p.tables e below (T28.setTop (mkF m 81 #[.val (.ref a), .val (.long ((((0 : Int64) ||| (((((x1 &&& (127 : Int32))).toInt64) <<< ((0 : Int32) &&& 0x3f).toInt64))) ||| (((((x2 &&& (127 : Int32))).toInt64) <<< ((7 : Int32) &&& 0x3f).toInt64))) ||| (((((x3 &&& (127 : Int32))).toInt64) <<< ((14 : Int32) &&& 0x3f).toInt64)))), .second, .val (.int (14 : Int32)), .val (.int x3)] [])) _
    refine XS.lloadN X28.here hx rfl (hb hby d11_81) rfl ?_
    show Steps p.tables e below (T28.setTop (mkF m 82 #[.val (.ref a), .val (.long ((((0 : Int64) ||| (((((x1 &&& (127 : Int32))).toInt64) <<< ((0 : Int32) &&& 0x3f).toInt64))) ||| (((((x2 &&& (127 : Int32))).toInt64) <<< ((7 : Int32) &&& 0x3f).toInt64))) ||| (((((x3 &&& (127 : Int32))).toInt64) <<< ((14 : Int32) &&& 0x3f).toInt64)))), .second, .val (.int (14 : Int32)), .val (.int x3)] [(.long ((((0 : Int64) ||| (((((x1 &&& (127 : Int32))).toInt64) <<< ((0 : Int32) &&& 0x3f).toInt64))) ||| (((((x2 &&& (127 : Int32))).toInt64) <<< ((7 : Int32) &&& 0x3f).toInt64))) ||| (((((x3 &&& (127 : Int32))).toInt64) <<< ((14 : Int32) &&& 0x3f).toInt64))))])) _
    exact kk
  have k33 : Keep h0 h28 [a] := (Keep.wr (Keep.wr (Keep.wr (Keep.refl h0 [a]) W6 (Or.inl (List.mem_of_getElem? (i := 0) rfl))) W17 (Or.inl (List.mem_of_getElem? (i := 0) rfl))) W28 (Or.inl (List.mem_of_getElem? (i := 0) rfl)))
  have f34 := (Fld.other W28 f22 (Or.inr (slot_ne (Or.inr (hw _ (List.mem_of_getElem? (i := 38) rfl))) (Or.inl (hw _ (List.mem_of_getElem? (i := 45) rfl))) (by decide) (t := (.array .byte)) (t' := .int) (by decide) (by decide))))
  obtain ⟨fs, hr, hrun, hended, hW, hsame⟩ := X28.leave (v := some (.long ((((0 : Int64) ||| (((((x1 &&& (127 : Int32))).toInt64) <<< ((0 : Int32) &&& 0x3f).toInt64))) ||| (((((x2 &&& (127 : Int32))).toInt64) <<< ((7 : Int32) &&& 0x3f).toInt64))) ||| (((((x3 &&& (127 : Int32))).toInt64) <<< ((14 : Int32) &&& 0x3f).toInt64))))) (fun h => by rw [Bd.returns] at h; cases h)
  refine ⟨_, _, P32 _ ?_, hrun, hended, _, _, rfl, ?_, ⟨_, rfl⟩, hW, hsame.mono (by decide) (by decide)⟩
  · exact X28.lreturnOut hx Bd.returns (hb hby d11_82) hr
  · show Q11 Z a b k z vs d x1 x2 x3 h0 n0 _ T28.heap _
    rw [e28]
    exact ⟨_, rfl, N28, k33, Fw28, f34⟩
theorem d12_0 : decode prog_25_method_5_code 0 = .ok (.aload_n 0, 1) := by decide +kernel
theorem d12_1 : decode prog_25_method_5_code 1 = .ok (.invokevirtual 37, 3) := by decide +kernel
theorem d12_4 : decode prog_25_method_5_code 4 = .ok (.lstore_n 1, 1) := by decide +kernel
theorem d12_5 : decode prog_25_method_5_code 5 = .ok (.lload_n 1, 1) := by decide +kernel
theorem d12_6 : decode prog_25_method_5_code 6 = .ok (.iconst 1, 1) := by decide +kernel
theorem d12_7 : decode prog_25_method_5_code 7 = .ok (.lushr, 1) := by decide +kernel
theorem d12_8 : decode prog_25_method_5_code 8 = .ok (.lload_n 1, 1) := by decide +kernel
theorem d12_9 : decode prog_25_method_5_code 9 = .ok (.lconst 1, 1) := by decide +kernel
theorem d12_10 : decode prog_25_method_5_code 10 = .ok (.land, 1) := by decide +kernel
theorem d12_11 : decode prog_25_method_5_code 11 = .ok (.lneg, 1) := by decide +kernel
theorem d12_12 : decode prog_25_method_5_code 12 = .ok (.lxor, 1) := by decide +kernel
theorem d12_13 : decode prog_25_method_5_code 13 = .ok (.lreturn, 1) := by decide +kernel
theorem ef_12 (m : MethodId) (x0 : Addr) : entryFrame m #[(.ref x0)] 3 = (mkF m 0 #[.val (.ref x0), .unset, .unset] []) := by first | (simp [entryFrame, mkF, argsToLocals, Value.category]; done) | rfl
def Q12 (Z : State) (a : Addr) (b : Addr) (k : ClassId) (z : Int32) (vs : List Value) (d : Value) (x1 : Int32) (x2 : Int32) (x3 : Int32) (h0 : Heap) (n0 : Nat) (vX : Option Value) (hX : Heap) (lX : List Loc) : Prop := ∃ (r : Int64), vX = some (.long r) ∧ Fr n0 lX ∧ (Keep h0 hX [a]) ∧ (Fld Z hX a "com/example/meterwright/meterwright/RecordBody$Reader" "position" "I" (.int (4 : Int32))) ∧ (Fld Z hX a "com/example/meterwright/meterwright/RecordBody$Reader" "bytes" "[B" (.ref b))
set_option maxRecDepth 65536 in
set_option maxHeartbeats 40000000 in
theorem rm12 (l : Launch) (Z : State) (a0 : Array Value) (hw : ∀ d ∈ tables_1, d.before a0 Z = true) (ws : List Jvm.Cond) (a : Addr) (b : Addr) (k : ClassId) (z : Int32) (vs : List Value) (d : Value) (x1 : Int32) (x2 : Int32) (x3 : Int32) (h0 : Heap) (n0 : Nat) (Z0 : n0 ≤ h0.size) (pr0 : Exa Z h0 a "com/example/meterwright/meterwright/RecordBody$Reader") (pr1 : Fld Z h0 a "com/example/meterwright/meterwright/RecordBody$Reader" "position" "I" (.int (1 : Int32))) (pr2 : Fld Z h0 a "com/example/meterwright/meterwright/RecordBody$Reader" "bytes" "[B" (.ref b)) (pr3 : Arv Z h0 b k .byte z vs d) (pr4 : n0 ≤ a) (pr5 : b ≠ a) (pr6 : (1 : Int32) < z) (pr7 : vs.getD (1 : Int32).toNatClampNeg d = (.int x1)) (pr8 : x1 < (0 : Int32)) (pr9 : (2 : Int32) < z) (pr10 : vs.getD (2 : Int32).toNatClampNeg d = (.int x2)) (pr11 : x2 < (0 : Int32)) (pr12 : (3 : Int32) < z) (pr13 : vs.getD (3 : Int32).toNatClampNeg d = (.int x3)) (pr14 : ¬ x3 < (0 : Int32)) :
    MetFree l (⟨"com/example/meterwright/meterwright/RecordBody$Reader", "number", "()J"⟩ : MethodName) (head1 (Jvm.Cond.code (⟨"com/example/meterwright/meterwright/RecordBody$Reader", "number", "()J"⟩ : MethodName) prog_25_method_5_code 3 (some .long) :: ws) ({ frames := 1, cells := 0, slots := 0, locals := 16 } : Room)) (fun aX uX => aX = #[(.ref a)] ∧ Z.Warmed39 uX.vm ∧ uX.heap = h0) (fun _ _ _ _ _ => True) (fun _ uX oX wX => ∃ vX lX, oX = .returned vX ∧ Q12 Z a b k z vs d x1 x2 x3 h0 n0 vX wX.heap lX ∧ FrameEnd uX oX wX lX ({ frames := 1, cells := 0, slots := 0, locals := 16 } : Room).cells ({ frames := 1, cells := 0, slots := 0, locals := 16 } : Room).slots) := by
  refine MetFree.of_bodySF (plainFor_of_name pn_3) hisR ?_
  intro p e s m args below meth c s₁ Bd hml0 hP hK
  obtain ⟨rfl, hZ, hh⟩ := hP
  have hx := Bd.exec
  have hby := Bd.bytes
  have hml : c.maxLocals = 3 := hml0
  have hown : s.vm.findClass "com/example/meterwright/meterwright/RecordBody$Reader" = some m.cls := findClass_of_methodNamed Bd.named
  have hnm := (name_of_methodNamed Bd.named Bd.method).1
  have X0 : Stand p l e ({ frames := 1, cells := 0, slots := 0, locals := 16 } : Room) s m #[(.ref a)] below meth c s₁ [] 0 0 := Stand.of_body Bd
  have e0 : s₁.heap = h0 := by rw [← hh, Bd.state]; rfl
  have N0 := Fr.nil n0
  have pre0 : ∀ t, Steps p.tables e below (s₁.setTop (mkF m 0 #[.val (.ref a), .unset, .unset] [])) t → Steps p.tables e below (s₁.setTop (entryFrame m #[(.ref a)] 3)) t := fun t k => castTop (ef_12 m a) k
  obtain ⟨cq1, q1, q1'⟩ := pr0.cell
  obtain ⟨_, _, ⟨T1, L1, k1, n1⟩, -, X1, ⟨Lc1, hQ1, l1, y1, z1⟩, st1⟩ := X0.privateBack hx (y := (⟨"com/example/meterwright/meterwright/RecordBody$Reader", "varint", "()J"⟩ : MethodName)) hown (mvT hZ (hw _ (List.mem_of_getElem? (i := 56) rfl))) (mvT hZ (hw _ (List.mem_of_getElem? (i := 57) rfl))) (own_selpriv (y := (⟨"com/example/meterwright/meterwright/RecordBody$Reader", "varint", "()J"⟩ : MethodName)) (y' := (⟨"com/example/meterwright/meterwright/RecordBody$Reader", "atEnd", "()Z"⟩ : MethodName)) rfl (mvT hZ (hw _ (List.mem_of_getElem? (i := 42) rfl))) (Cond.privateMethod_at (mvP hZ (hw _ (List.mem_of_getElem? (i := 58) rfl)) (args := #[]))) (mvT hZ (hw _ (List.mem_of_getElem? (i := 57) rfl))) (by decide)) (Cond.privateMethod_at (mvP hZ (hw _ (List.mem_of_getElem? (i := 58) rfl)) (args := #[]))) (mvT hZ (hw _ (List.mem_of_getElem? (i := 59) rfl))) (by decide) (backOf (W := 0) (rm11 l Z a0 hw [] a b k z vs d x1 x2 x3 h0 n0 Z0 pr0 pr1 pr2 pr3 pr4 pr5 pr6 pr7 pr8 pr9 pr10 pr11 pr12 pr13 pr14) hZ (hw _ (List.mem_of_getElem? (i := 59) rfl)) (hw _ (List.mem_of_getElem? (i := 4) rfl)) (by decide) (by decide)) (g := (mkF m 1 #[.val (.ref a), .unset, .unset] [(.ref a)])) rfl (by rw [hml]; rfl) (Steps.refl _) (a := a) (by rw [e0]; exact q1) q1' (argsL := []) (rest := []) (lenOf pd_1 rfl) rfl (by show 2 * 0 + _ ≤ _; exact Nat.le_of_eq rfl) (hb hby d12_1) (fun _ _ => ⟨rfl, e0, (by decide : 0 + 0 ≤ _), (by decide : 0 + 0 ≤ _)⟩)
  dsimp only [Pt.U, Pt.locs, Pt.cells, Pt.slots] at X1 l1 y1 z1 st1 hQ1
  subst l1 y1 z1
  obtain ⟨r_1, rfl, Nq1, K1, q1_0, q1_1⟩ := hQ1
  have N1 := Fr.app N0 Nq1
  have P2 : ∀ t, Steps p.tables e below (T1.setTop (mkF m 13 #[.val (.ref a), .val (.long r_1), .second] [(.long ((((r_1).toUInt64 >>> ((1 : Int32) &&& 0x3f).toInt64.toUInt64).toInt64) ^^^ ((-(r_1 &&& (1 : Int64))))))])) t → Steps p.tables e below (s₁.setTop (entryFrame m #[(.ref a)] 3)) t := by
    intro t kk
    refine pre0 _ ?_
    show Steps p.tables e below (s₁.setTop (mkF m 0 #[.val (.ref a), .unset, .unset] [])) _
    refine XS.aloadN X0.here hx rfl (hb hby d12_0) rfl rfl ?_
    show Steps p.tables e below (s₁.setTop (mkF m 1 #[.val (.ref a), .unset, .unset] [(.ref a)])) _
    refine st1.trans ?_
    show Steps p.tables e below (T1.setTop (mkF m 4 #[.val (.ref a), .unset, .unset] [(.long r_1)])) _
    refine XS.lstoreN X1.here hx rfl (hb hby d12_4) rfl (l' := #[.val (.ref a), .val (.long r_1), .second]) rfl ?_
    show Steps p.tables e below (T1.setTop (mkF m 5 #[.val (.ref a), .val (.long r_1), .second] [])) _
    refine XS.lloadN X1.here hx rfl (hb hby d12_5) rfl ?_
    show Steps p.tables e below (T1.setTop (mkF m 6 #[.val (.ref a), .val (.long r_1), .second] [(.long r_1)])) _
    refine XS.iconst X1.here hx rfl (hb hby d12_6) ?_
    show Steps p.tables e below (T1.setTop (mkF m 7 #[.val (.ref a), .val (.long r_1), .second] [(.int (1 : Int32)), (.long r_1)])) _
    refine XS.lushr X1.here hx rfl (hb hby d12_7) rfl ?_
    show Steps p.tables e below (T1.setTop (mkF m 8 #[.val (.ref a), .val (.long r_1), .second] [(.long (((r_1).toUInt64 >>> ((1 : Int32) &&& 0x3f).toInt64.toUInt64).toInt64))])) _
    refine XS.lloadN X1.here hx rfl (hb hby d12_8) rfl ?_
    show Steps p.tables e below (T1.setTop (mkF m 9 #[.val (.ref a), .val (.long r_1), .second] [(.long r_1), (.long (((r_1).toUInt64 >>> ((1 : Int32) &&& 0x3f).toInt64.toUInt64).toInt64))])) _
    refine XS.lconst X1.here hx rfl (hb hby d12_9) ?_
    show Steps p.tables e below (T1.setTop (mkF m 10 #[.val (.ref a), .val (.long r_1), .second] [(.long (1 : Int64)), (.long r_1), (.long (((r_1).toUInt64 >>> ((1 : Int32) &&& 0x3f).toInt64.toUInt64).toInt64))])) _
    refine XS.land X1.here hx rfl (hb hby d12_10) rfl ?_
    show Steps p.tables e below (T1.setTop (mkF m 11 #[.val (.ref a), .val (.long r_1), .second] [(.long (r_1 &&& (1 : Int64))), (.long (((r_1).toUInt64 >>> ((1 : Int32) &&& 0x3f).toInt64.toUInt64).toInt64))])) _
    refine XS.lneg X1.here hx rfl (hb hby d12_11) rfl ?_
    show Steps p.tables e below (T1.setTop (mkF m 12 #[.val (.ref a), .val (.long r_1), .second] [(.long ((-(r_1 &&& (1 : Int64))))), (.long (((r_1).toUInt64 >>> ((1 : Int32) &&& 0x3f).toInt64.toUInt64).toInt64))])) _
    refine XS.lxor X1.here hx rfl (hb hby d12_12) rfl ?_
    show Steps p.tables e below (T1.setTop (mkF m 13 #[.val (.ref a), .val (.long r_1), .second] [(.long ((((r_1).toUInt64 >>> ((1 : Int32) &&& 0x3f).toInt64.toUInt64).toInt64) ^^^ ((-(r_1 &&& (1 : Int64))))))])) _
    exact kk
  have k3 : Keep h0 T1.heap [a] := (Keep.trans (Keep.refl h0 [a]) K1 (allS (Or.inl (List.mem_of_getElem? (i := 0) rfl)) all0))
  obtain ⟨fs, hr, hrun, hended, hW, hsame⟩ := X1.leave (v := some (.long ((((r_1).toUInt64 >>> ((1 : Int32) &&& 0x3f).toInt64.toUInt64).toInt64) ^^^ ((-(r_1 &&& (1 : Int64))))))) (fun h => by rw [Bd.returns] at h; cases h)
  refine ⟨_, _, P2 _ ?_, hrun, hended, _, _, rfl, ?_, ⟨_, rfl⟩, hW, hsame.mono (by decide) (by decide)⟩
  · exact X1.lreturnOut hx Bd.returns (hb hby d12_13) hr
  · show Q12 Z a b k z vs d x1 x2 x3 h0 n0 _ T1.heap _
    exact ⟨_, rfl, N1, k3, q1_0, q1_1⟩
theorem ef_0 (m : MethodId) (x0 : Int32) (x1 : Int32) (x2 : Int32) (x3 : Int32) (x4 : Int32) : entryFrame m #[(.int x0), (.int x1), (.int x2), (.int x3), (.int x4)] maxLocals = (mkF m 0 #[.val (.int x0), .val (.int x1), .val (.int x2), .val (.int x3), .val (.int x4), .unset, .unset, .unset, .unset, .unset, .unset] []) := by first | (simp [entryFrame, mkF, argsToLocals, Value.category, maxLocals]; done) | rfl
def Q0 (Z : State) (h0 : Heap) (n0 : Nat) (v : Option Value) (h : Heap) (L : List Loc) : Prop := v = some (.int (1 : Int32)) ∧ Fr n0 L
set_option maxRecDepth 65536 in
set_option maxHeartbeats 400000000 in
theorem rm0 (l : Launch) (Z : State) (a0 : Array Value) (hw : ∀ d ∈ tables_1, d.before a0 Z = true) (ws : List Jvm.Cond) (p0 : Int32) (p1 : Int32) (p2 : Int32) (p3 : Int32) (p4 : Int32) (sd : Addr) (h0 : Heap) (n0 : Nat) (Z0 : n0 ≤ h0.size) (pr0 : Sta Z h0 "java/util/ArrayList" "DEFAULTCAPACITY_EMPTY_ELEMENTDATA" "[Ljava/lang/Object;" (.ref sd)) :
    MetFree l x (head1 (Jvm.Cond.code x code maxLocals ret :: ws) room_1) (fun a U => a = #[(.int p0), (.int p1), (.int p2), (.int p3), (.int p4)] ∧ Z.Warmed39 U.vm ∧ U.heap = h0) (fun _ _ _ _ _ => True) (fun _ U o U' => ∃ v L, o = .returned v ∧ Q0 Z h0 n0 v U'.heap L ∧ FrameEnd U o U' L room_1.cells room_1.slots) := by
  refine MetFree.of_bodySF (plainFor_of_name pn_4) hisR ?_
  intro p e s m args below meth c s₁ Bd hml0 hP hK
  obtain ⟨rfl, hZ, hh⟩ := hP
  have hx := Bd.exec
  have hby := Bd.bytes
  have hml : c.maxLocals = 11 := hml0
  have hown : s.vm.findClass "com/example/meterwright/meterwright/ReaderAtEndPinLaw" = some m.cls := findClass_of_methodNamed Bd.named
  have hnm := (name_of_methodNamed Bd.named Bd.method).1
  have X0 : Stand p l e room_1 s m #[(.int p0), (.int p1), (.int p2), (.int p3), (.int p4)] below meth c s₁ [] 0 0 := Stand.of_body Bd
  have e0 : s₁.heap = h0 := by rw [← hh, Bd.state]; rfl
  have N0 := Fr.nil n0
  have pre0 : ∀ t, Steps p.tables e below (s₁.setTop (mkF m 0 #[.val (.int p0), .val (.int p1), .val (.int p2), .val (.int p3), .val (.int p4), .unset, .unset, .unset, .unset, .unset, .unset] [])) t → Steps p.tables e below (s₁.setTop (entryFrame m #[(.int p0), (.int p1), (.int p2), (.int p3), (.int p4)] maxLocals)) t := fun t k => castTop (ef_0 m p0 p1 p2 p3 p4) k
  have P1 : ∀ t, Steps p.tables e below (s₁.setTop (mkF m 8 #[.val (.int p0), .val (.int p1), .val (.int p2), .val (.int p3), .val (.int p4), .val (.int ((p0 &&& (2147483647 : Int32)) % (5 : Int32))), .unset, .unset, .unset, .unset, .unset] [])) t → Steps p.tables e below (s₁.setTop (entryFrame m #[(.int p0), (.int p1), (.int p2), (.int p3), (.int p4)] maxLocals)) t := by
    intro t kk
    refine pre0 _ ?_
    show Steps p.tables e below (s₁.setTop (mkF m 0 #[.val (.int p0), .val (.int p1), .val (.int p2), .val (.int p3), .val (.int p4), .unset, .unset, .unset, .unset, .unset, .unset] [])) _
    refine XS.iloadN X0.here hx rfl (hb hby at_0) rfl ?_
    show Steps p.tables e below (s₁.setTop (mkF m 1 #[.val (.int p0), .val (.int p1), .val (.int p2), .val (.int p3), .val (.int p4), .unset, .unset, .unset, .unset, .unset, .unset] [(.int p0)])) _
    refine X0.ldcInt hx hown (mvT hZ (hw _ (List.mem_of_getElem? (i := 0) rfl))) (g := (mkF m 1 #[.val (.int p0), .val (.int p1), .val (.int p2), .val (.int p3), .val (.int p4), .unset, .unset, .unset, .unset, .unset, .unset] [(.int p0)])) rfl (hb hby at_1) _ ?_
    show Steps p.tables e below (s₁.setTop (mkF m 3 #[.val (.int p0), .val (.int p1), .val (.int p2), .val (.int p3), .val (.int p4), .unset, .unset, .unset, .unset, .unset, .unset] [(.int (2147483647 : Int32)), (.int p0)])) _
    refine XS.iand X0.here hx rfl (hb hby at_3) rfl ?_
    show Steps p.tables e below (s₁.setTop (mkF m 4 #[.val (.int p0), .val (.int p1), .val (.int p2), .val (.int p3), .val (.int p4), .unset, .unset, .unset, .unset, .unset, .unset] [(.int (p0 &&& (2147483647 : Int32)))])) _
    refine XS.iconst X0.here hx rfl (hb hby at_4) ?_
    show Steps p.tables e below (s₁.setTop (mkF m 5 #[.val (.int p0), .val (.int p1), .val (.int p2), .val (.int p3), .val (.int p4), .unset, .unset, .unset, .unset, .unset, .unset] [(.int (5 : Int32)), (.int (p0 &&& (2147483647 : Int32)))])) _
    refine iremM (g := (mkF m 5 #[.val (.int p0), .val (.int p1), .val (.int p2), .val (.int p3), .val (.int p4), .unset, .unset, .unset, .unset, .unset, .unset] [(.int (5 : Int32)), (.int (p0 &&& (2147483647 : Int32)))])) X0 hx rfl (hb hby at_5) rfl (by decide) ?_
    show Steps p.tables e below (s₁.setTop (mkF m 6 #[.val (.int p0), .val (.int p1), .val (.int p2), .val (.int p3), .val (.int p4), .unset, .unset, .unset, .unset, .unset, .unset] [(.int ((p0 &&& (2147483647 : Int32)) % (5 : Int32)))])) _
    refine XS.istore X0.here hx rfl (hb hby at_6) rfl (l' := #[.val (.int p0), .val (.int p1), .val (.int p2), .val (.int p3), .val (.int p4), .val (.int ((p0 &&& (2147483647 : Int32)) % (5 : Int32))), .unset, .unset, .unset, .unset, .unset]) rfl ?_
    show Steps p.tables e below (s₁.setTop (mkF m 8 #[.val (.int p0), .val (.int p1), .val (.int p2), .val (.int p3), .val (.int p4), .val (.int ((p0 &&& (2147483647 : Int32)) % (5 : Int32))), .unset, .unset, .unset, .unset, .unset] [])) _
    exact kk
  rcases own_n5 p0 with hs2 | hs2 | hs2 | hs2 | hs2
  · skip
    have P3 : ∀ t, Steps p.tables e below (s₁.setTop (mkF m 8 #[.val (.int p0), .val (.int p1), .val (.int p2), .val (.int p3), .val (.int p4), .val (.int (0 : Int32)), .unset, .unset, .unset, .unset, .unset] [])) t → Steps p.tables e below (s₁.setTop (entryFrame m #[(.int p0), (.int p1), (.int p2), (.int p3), (.int p4)] maxLocals)) t := by
      intro t kk
      refine P1 _ ?_
      rw [hs2]
      exact kk
    obtain ⟨T4, h4, k4, X4, e4, E4, A4, st4⟩ := newP X0 hx hZ (hw _ (List.mem_of_getElem? (i := 1) rfl)) e0 (g := (mkF m 10 #[.val (.int p0), .val (.int p1), .val (.int p2), .val (.int p3), .val (.int p4), .val (.int (0 : Int32)), .unset, .unset, .unset, .unset, .unset] [(.int (0 : Int32))])) rfl (hb hby at_10) rfl (by decide) (cap := 0) (by decide) (by decide) (by decide) (by decide)
    obtain ⟨b4, g_b4⟩ : ∃ z, z = h0.size := ⟨_, rfl⟩
    rw [← g_b4] at A4 st4
    have ge_b4 : n0 ≤ b4 := Nat.le_trans Z0 (Nat.le_of_eq g_b4.symm)
    have sz_b4 : h0.size ≤ b4 := Nat.le_trans (Keep.refl h0 []).1 (Nat.le_of_eq g_b4.symm)
    have V4 : Arv Z h4 b4 k4 .byte (0 : Int32) [] (.int (0 : Int32)) := (Arv.new A4 (by decide)).pad (pad_rep [] (.int (0 : Int32)) 0)
    obtain ⟨T5, h5, X5, e5, E5, A5, D5, -, st5⟩ := newO X4 hx hZ hown (hw _ (List.mem_of_getElem? (i := 2) rfl)) (hw _ (List.mem_of_getElem? (i := 3) rfl)) (hw _ (List.mem_of_getElem? (i := 4) rfl)) e4 (g := (mkF m 62 #[.val (.int p0), .val (.int p1), .val (.int p2), .val (.int p3), .val (.int p4), .val (.int (0 : Int32)), .val (.ref b4), .unset, .unset, .unset, .unset] [])) rfl (hb hby at_62) (by decide) (by decide)
    have z6 : n0 ≤ _ := (Nat.le_trans Z0 E4.1)
    have k7 : Keep h0 h4 [] := (Keep.ext (Keep.refl h0 []) E4)
    obtain ⟨b5, g_b5⟩ : ∃ z, z = h4.size := ⟨_, rfl⟩
    rw [← g_b5] at A5 D5 st5
    have ne_b4_b5 : b4 ≠ b5 := Nat.ne_of_lt (Nat.lt_of_lt_of_le V4.lt (Nat.le_of_eq g_b5.symm))
    have ge_b5 : n0 ≤ b5 := Nat.le_trans z6 (Nat.le_of_eq g_b5.symm)
    have sz_b5 : h0.size ≤ b5 := Nat.le_trans k7.1 (Nat.le_of_eq g_b5.symm)
    have F5_36 : Fld Z h5 b5 "com/example/meterwright/meterwright/RecordBody$Reader" "texts" "Ljava/util/List;" .null := D5 (Or.inr (hw _ (List.mem_of_getElem? (i := 36) rfl))) (ty := (.object "java/util/List")) (by decide)
    have F5_38 : Fld Z h5 b5 "com/example/meterwright/meterwright/RecordBody$Reader" "bytes" "[B" .null := D5 (Or.inr (hw _ (List.mem_of_getElem? (i := 38) rfl))) (ty := (.array .byte)) (by decide)
    have F5_45 : Fld Z h5 b5 "com/example/meterwright/meterwright/RecordBody$Reader" "position" "I" (.int (0 : Int32)) := D5 (Or.inl (hw _ (List.mem_of_getElem? (i := 45) rfl))) (ty := .int) (by decide)
    have f9 := (Sta.ext E5 (Sta.ext E4 pr0))
    have z10 : n0 ≤ _ := (Nat.le_trans z6 E5.1)
    obtain ⟨_, _, ⟨T8, L8, k8, n8⟩, -, X8, ⟨Lc8, hQ8, l8, y8, z8⟩, st8⟩ := X5.specialBack hx (y := (⟨"com/example/meterwright/meterwright/RecordBody$Reader", "<init>", "([B)V"⟩ : MethodName)) rfl hown (mvT hZ (hw _ (List.mem_of_getElem? (i := 5) rfl))) (mvT hZ (hw _ (List.mem_of_getElem? (i := 6) rfl))) (mvT hZ (hw _ (List.mem_of_getElem? (i := 7) rfl))) (by decide) (backOf (W := 1) (rm4 l Z a0 hw [] b5 b4 sd h5 n0 z10 A5 F5_36 F5_38 F5_45 ge_b5 f9) hZ (hw _ (List.mem_of_getElem? (i := 7) rfl)) (hw _ (List.mem_of_getElem? (i := 4) rfl)) (by decide) (by decide)) (g := (mkF m 68 #[.val (.int p0), .val (.int p1), .val (.int p2), .val (.int p3), .val (.int p4), .val (.int (0 : Int32)), .val (.ref b4), .unset, .unset, .unset, .unset] [(.ref b4), (.ref b5), (.ref b5)])) rfl (by rw [hml]; rfl) (Steps.refl _) (a := b5) (argsL := [(.ref b4)]) (rest := [(.ref b5)]) (lenOf pd_2 rfl) rfl (by show 2 * 0 + _ ≤ _; exact Nat.le_of_eq rfl) (hb hby at_68) (fun _ _ => ⟨rfl, e5, (by decide : 2 + 1 ≤ _), (by decide : 4 + 3 ≤ _)⟩)
    dsimp only [Pt.U, Pt.locs, Pt.cells, Pt.slots] at X8 l8 y8 z8 st8 hQ8
    subst l8 y8 z8
    obtain ⟨rfl, Nq8, K8, q8_0, q8_1⟩ := hQ8
    have N8 := Fr.app N0 Nq8
    have f12 := (Arv.keep (V4.ext E5) K8 (ninS ne_b4_b5 nin0))
    have z13 : n0 ≤ _ := (Nat.le_trans z10 K8.1)
    have f14 := (Exa.keep A5 K8)
    obtain ⟨cq11, kq11, q11a, q11b, q11c⟩ := isOf hZ rfl f14
    obtain ⟨_, _, ⟨T11, L11, k11, n11⟩, -, X11, ⟨Lc11, hQ11, l11, y11, z11⟩, st11⟩ := X8.virtualBack hx (y := (⟨"com/example/meterwright/meterwright/RecordBody$Reader", "atEnd", "()Z"⟩ : MethodName)) (z := (⟨"com/example/meterwright/meterwright/RecordBody$Reader", "atEnd", "()Z"⟩ : MethodName)) hown (mvT hZ (hw _ (List.mem_of_getElem? (i := 39) rfl))) (mvT hZ (hw _ (List.mem_of_getElem? (i := 40) rfl))) (notFace_of_selects (args := #[]) (mvT hZ (hw _ (List.mem_of_getElem? (i := 42) rfl)))) (mvT hZ (hw _ (List.mem_of_getElem? (i := 42) rfl))) (mvT hZ (hw _ (List.mem_of_getElem? (i := 41) rfl))) (by decide) (backOf (W := 0) (rm5 l Z a0 hw [] b5 (0 : Int32) b4 k4 (0 : Int32) [] (.int (0 : Int32)) T8.heap n0 z13 q8_1 q8_0 f12) hZ (hw _ (List.mem_of_getElem? (i := 43) rfl)) (hw _ (List.mem_of_getElem? (i := 4) rfl)) (by decide) (by decide)) q11a q11c (g := (mkF m 75 #[.val (.int p0), .val (.int p1), .val (.int p2), .val (.int p3), .val (.int p4), .val (.int (0 : Int32)), .val (.ref b4), .val (.ref b5), .unset, .unset, .unset] [(.ref b5)])) rfl (by rw [hml]; rfl) (Steps.refl _) (argsL := []) (rest := []) (lenOf pd_3 rfl) rfl (by show 2 * 0 + _ ≤ _; exact Nat.le_of_eq rfl) (hb hby at_75) (fun _ _ => ⟨rfl, rfl, (by decide : 3 + 0 ≤ _), (by decide : 7 + 0 ≤ _)⟩)
    dsimp only [Pt.U, Pt.locs, Pt.cells, Pt.slots] at X11 l11 y11 z11 st11 hQ11
    subst l11 y11 z11
    obtain ⟨rfl, Nq11, e11⟩ := hQ11
    have N11 := Fr.app N8 Nq11
    have P15 : ∀ t, Steps p.tables e below (T11.setTop (mkF m 100 #[.val (.int p0), .val (.int p1), .val (.int p2), .val (.int p3), .val (.int p4), .val (.int (0 : Int32)), .val (.ref b4), .val (.ref b5), .val (.int (1 : Int32)), .unset, .unset] [(.int (1 : Int32))])) t → Steps p.tables e below (s₁.setTop (entryFrame m #[(.int p0), (.int p1), (.int p2), (.int p3), (.int p4)] maxLocals)) t := by
      intro t kk
      refine P3 _ ?_
      show Steps p.tables e below (s₁.setTop (mkF m 8 #[.val (.int p0), .val (.int p1), .val (.int p2), .val (.int p3), .val (.int p4), .val (.int (0 : Int32)), .unset, .unset, .unset, .unset, .unset] [])) _
      refine XS.iload X0.here hx rfl (hb hby at_8) rfl ?_
      show Steps p.tables e below (s₁.setTop (mkF m 10 #[.val (.int p0), .val (.int p1), .val (.int p2), .val (.int p3), .val (.int p4), .val (.int (0 : Int32)), .unset, .unset, .unset, .unset, .unset] [(.int (0 : Int32))])) _
      refine st4 _ ?_
      show Steps p.tables e below (T4.setTop (mkF m 12 #[.val (.int p0), .val (.int p1), .val (.int p2), .val (.int p3), .val (.int p4), .val (.int (0 : Int32)), .unset, .unset, .unset, .unset, .unset] [(.ref b4)])) _
      refine XS.astore X4.here hx rfl (hb hby at_12) rfl rfl (l' := #[.val (.int p0), .val (.int p1), .val (.int p2), .val (.int p3), .val (.int p4), .val (.int (0 : Int32)), .val (.ref b4), .unset, .unset, .unset, .unset]) rfl ?_
      show Steps p.tables e below (T4.setTop (mkF m 14 #[.val (.int p0), .val (.int p1), .val (.int p2), .val (.int p3), .val (.int p4), .val (.int (0 : Int32)), .val (.ref b4), .unset, .unset, .unset, .unset] [])) _
      refine XS.iload X4.here hx rfl (hb hby at_14) rfl ?_
      show Steps p.tables e below (T4.setTop (mkF m 16 #[.val (.int p0), .val (.int p1), .val (.int p2), .val (.int p3), .val (.int p4), .val (.int (0 : Int32)), .val (.ref b4), .unset, .unset, .unset, .unset] [(.int (0 : Int32))])) _
      refine XS.ifYes X4.here hx rfl (pc0 := 16) (pc' := 25) rfl (hb hby at_16) rfl (XT.i0_le_t (by decide)) (by decide) (by decide) ?_
      show Steps p.tables e below (T4.setTop (mkF m 25 #[.val (.int p0), .val (.int p1), .val (.int p2), .val (.int p3), .val (.int p4), .val (.int (0 : Int32)), .val (.ref b4), .unset, .unset, .unset, .unset] [])) _
      refine XS.iload X4.here hx rfl (hb hby at_25) rfl ?_
      show Steps p.tables e below (T4.setTop (mkF m 27 #[.val (.int p0), .val (.int p1), .val (.int p2), .val (.int p3), .val (.int p4), .val (.int (0 : Int32)), .val (.ref b4), .unset, .unset, .unset, .unset] [(.int (0 : Int32))])) _
      refine XS.iconst X4.here hx rfl (hb hby at_27) ?_
      show Steps p.tables e below (T4.setTop (mkF m 28 #[.val (.int p0), .val (.int p1), .val (.int p2), .val (.int p3), .val (.int p4), .val (.int (0 : Int32)), .val (.ref b4), .unset, .unset, .unset, .unset] [(.int (1 : Int32)), (.int (0 : Int32))])) _
      refine XS.icmpYes X4.here hx rfl (pc0 := 28) (pc' := 37) rfl (hb hby at_28) rfl (XT.ii_le_t (by decide)) (by decide) (by decide) ?_
      show Steps p.tables e below (T4.setTop (mkF m 37 #[.val (.int p0), .val (.int p1), .val (.int p2), .val (.int p3), .val (.int p4), .val (.int (0 : Int32)), .val (.ref b4), .unset, .unset, .unset, .unset] [])) _
      refine XS.iload X4.here hx rfl (hb hby at_37) rfl ?_
      show Steps p.tables e below (T4.setTop (mkF m 39 #[.val (.int p0), .val (.int p1), .val (.int p2), .val (.int p3), .val (.int p4), .val (.int (0 : Int32)), .val (.ref b4), .unset, .unset, .unset, .unset] [(.int (0 : Int32))])) _
      refine XS.iconst X4.here hx rfl (hb hby at_39) ?_
      show Steps p.tables e below (T4.setTop (mkF m 40 #[.val (.int p0), .val (.int p1), .val (.int p2), .val (.int p3), .val (.int p4), .val (.int (0 : Int32)), .val (.ref b4), .unset, .unset, .unset, .unset] [(.int (2 : Int32)), (.int (0 : Int32))])) _
      refine XS.icmpYes X4.here hx rfl (pc0 := 40) (pc' := 49) rfl (hb hby at_40) rfl (XT.ii_le_t (by decide)) (by decide) (by decide) ?_
      show Steps p.tables e below (T4.setTop (mkF m 49 #[.val (.int p0), .val (.int p1), .val (.int p2), .val (.int p3), .val (.int p4), .val (.int (0 : Int32)), .val (.ref b4), .unset, .unset, .unset, .unset] [])) _
      refine XS.iload X4.here hx rfl (hb hby at_49) rfl ?_
      show Steps p.tables e below (T4.setTop (mkF m 51 #[.val (.int p0), .val (.int p1), .val (.int p2), .val (.int p3), .val (.int p4), .val (.int (0 : Int32)), .val (.ref b4), .unset, .unset, .unset, .unset] [(.int (0 : Int32))])) _
      refine XS.iconst X4.here hx rfl (hb hby at_51) ?_
      show Steps p.tables e below (T4.setTop (mkF m 52 #[.val (.int p0), .val (.int p1), .val (.int p2), .val (.int p3), .val (.int p4), .val (.int (0 : Int32)), .val (.ref b4), .unset, .unset, .unset, .unset] [(.int (3 : Int32)), (.int (0 : Int32))])) _
      refine XS.icmpYes X4.here hx rfl (pc0 := 52) (pc' := 62) rfl (hb hby at_52) rfl (XT.ii_le_t (by decide)) (by decide) (by decide) ?_
      show Steps p.tables e below (T4.setTop (mkF m 62 #[.val (.int p0), .val (.int p1), .val (.int p2), .val (.int p3), .val (.int p4), .val (.int (0 : Int32)), .val (.ref b4), .unset, .unset, .unset, .unset] [])) _
      refine st5 _ ?_
      show Steps p.tables e below (T5.setTop (mkF m 65 #[.val (.int p0), .val (.int p1), .val (.int p2), .val (.int p3), .val (.int p4), .val (.int (0 : Int32)), .val (.ref b4), .unset, .unset, .unset, .unset] [(.ref b5)])) _
      refine XS.dup X5.here hx rfl (hb hby at_65) rfl rfl ?_
      show Steps p.tables e below (T5.setTop (mkF m 66 #[.val (.int p0), .val (.int p1), .val (.int p2), .val (.int p3), .val (.int p4), .val (.int (0 : Int32)), .val (.ref b4), .unset, .unset, .unset, .unset] [(.ref b5), (.ref b5)])) _
      refine XS.aload X5.here hx rfl (hb hby at_66) rfl rfl ?_
      show Steps p.tables e below (T5.setTop (mkF m 68 #[.val (.int p0), .val (.int p1), .val (.int p2), .val (.int p3), .val (.int p4), .val (.int (0 : Int32)), .val (.ref b4), .unset, .unset, .unset, .unset] [(.ref b4), (.ref b5), (.ref b5)])) _
      refine st8.trans ?_
      show Steps p.tables e below (T8.setTop (mkF m 71 #[.val (.int p0), .val (.int p1), .val (.int p2), .val (.int p3), .val (.int p4), .val (.int (0 : Int32)), .val (.ref b4), .unset, .unset, .unset, .unset] [(.ref b5)])) _
      refine XS.astore X8.here hx rfl (hb hby at_71) rfl rfl (l' := #[.val (.int p0), .val (.int p1), .val (.int p2), .val (.int p3), .val (.int p4), .val (.int (0 : Int32)), .val (.ref b4), .val (.ref b5), .unset, .unset, .unset]) rfl ?_
      show Steps p.tables e below (T8.setTop (mkF m 73 #[.val (.int p0), .val (.int p1), .val (.int p2), .val (.int p3), .val (.int p4), .val (.int (0 : Int32)), .val (.ref b4), .val (.ref b5), .unset, .unset, .unset] [])) _
      refine XS.aload X8.here hx rfl (hb hby at_73) rfl rfl ?_
      show Steps p.tables e below (T8.setTop (mkF m 75 #[.val (.int p0), .val (.int p1), .val (.int p2), .val (.int p3), .val (.int p4), .val (.int (0 : Int32)), .val (.ref b4), .val (.ref b5), .unset, .unset, .unset] [(.ref b5)])) _
      refine st11.trans ?_
      show Steps p.tables e below (T11.setTop (mkF m 78 #[.val (.int p0), .val (.int p1), .val (.int p2), .val (.int p3), .val (.int p4), .val (.int (0 : Int32)), .val (.ref b4), .val (.ref b5), .unset, .unset, .unset] [(.int (F5 (0 : Int32) (0 : Int32)))])) _
      refine XS.iload X11.here hx rfl (hb hby at_78) rfl ?_
      show Steps p.tables e below (T11.setTop (mkF m 80 #[.val (.int p0), .val (.int p1), .val (.int p2), .val (.int p3), .val (.int p4), .val (.int (0 : Int32)), .val (.ref b4), .val (.ref b5), .unset, .unset, .unset] [(.int (0 : Int32)), (.int (F5 (0 : Int32) (0 : Int32)))])) _
      refine XS.ifNo X11.here hx rfl (hb hby at_80) rfl (XT.i0_ne_f rfl) ?_
      show Steps p.tables e below (T11.setTop (mkF m 83 #[.val (.int p0), .val (.int p1), .val (.int p2), .val (.int p3), .val (.int p4), .val (.int (0 : Int32)), .val (.ref b4), .val (.ref b5), .unset, .unset, .unset] [(.int (F5 (0 : Int32) (0 : Int32)))])) _
      refine XS.iconst X11.here hx rfl (hb hby at_83) ?_
      show Steps p.tables e below (T11.setTop (mkF m 84 #[.val (.int p0), .val (.int p1), .val (.int p2), .val (.int p3), .val (.int p4), .val (.int (0 : Int32)), .val (.ref b4), .val (.ref b5), .unset, .unset, .unset] [(.int (1 : Int32)), (.int (F5 (0 : Int32) (0 : Int32)))])) _
      refine XS.goto X11.here hx rfl (pc0 := 84) (pc' := 88) rfl (hb hby at_84) (by decide) (by decide) ?_
      show Steps p.tables e below (T11.setTop (mkF m 88 #[.val (.int p0), .val (.int p1), .val (.int p2), .val (.int p3), .val (.int p4), .val (.int (0 : Int32)), .val (.ref b4), .val (.ref b5), .unset, .unset, .unset] [(.int (1 : Int32)), (.int (F5 (0 : Int32) (0 : Int32)))])) _
      refine XS.icmpNo X11.here hx rfl (hb hby at_88) rfl (XT.ii_ne_f (by decide)) ?_
      show Steps p.tables e below (T11.setTop (mkF m 91 #[.val (.int p0), .val (.int p1), .val (.int p2), .val (.int p3), .val (.int p4), .val (.int (0 : Int32)), .val (.ref b4), .val (.ref b5), .unset, .unset, .unset] [])) _
      refine XS.iconst X11.here hx rfl (hb hby at_91) ?_
      show Steps p.tables e below (T11.setTop (mkF m 92 #[.val (.int p0), .val (.int p1), .val (.int p2), .val (.int p3), .val (.int p4), .val (.int (0 : Int32)), .val (.ref b4), .val (.ref b5), .unset, .unset, .unset] [(.int (1 : Int32))])) _
      refine XS.goto X11.here hx rfl (pc0 := 92) (pc' := 96) rfl (hb hby at_92) (by decide) (by decide) ?_
      show Steps p.tables e below (T11.setTop (mkF m 96 #[.val (.int p0), .val (.int p1), .val (.int p2), .val (.int p3), .val (.int p4), .val (.int (0 : Int32)), .val (.ref b4), .val (.ref b5), .unset, .unset, .unset] [(.int (1 : Int32))])) _
      refine XS.istore X11.here hx rfl (hb hby at_96) rfl (l' := #[.val (.int p0), .val (.int p1), .val (.int p2), .val (.int p3), .val (.int p4), .val (.int (0 : Int32)), .val (.ref b4), .val (.ref b5), .val (.int (1 : Int32)), .unset, .unset]) rfl ?_
      show Steps p.tables e below (T11.setTop (mkF m 98 #[.val (.int p0), .val (.int p1), .val (.int p2), .val (.int p3), .val (.int p4), .val (.int (0 : Int32)), .val (.ref b4), .val (.ref b5), .val (.int (1 : Int32)), .unset, .unset] [])) _
      refine XS.iload X11.here hx rfl (hb hby at_98) rfl ?_
      show Steps p.tables e below (T11.setTop (mkF m 100 #[.val (.int p0), .val (.int p1), .val (.int p2), .val (.int p3), .val (.int p4), .val (.int (0 : Int32)), .val (.ref b4), .val (.ref b5), .val (.int (1 : Int32)), .unset, .unset] [(.int (1 : Int32))])) _
      exact kk
    obtain ⟨cq16, kq16, q16a, q16b, q16c⟩ := isOf hZ e11 f14
    obtain ⟨_, _, ⟨T16, L16, k16, n16⟩, -, X16, ⟨Lc16, hQ16, l16, y16, z16⟩, st16⟩ := X11.virtualBack hx (y := (⟨"com/example/meterwright/meterwright/RecordBody$Reader", "atEnd", "()Z"⟩ : MethodName)) (z := (⟨"com/example/meterwright/meterwright/RecordBody$Reader", "atEnd", "()Z"⟩ : MethodName)) hown (mvT hZ (hw _ (List.mem_of_getElem? (i := 39) rfl))) (mvT hZ (hw _ (List.mem_of_getElem? (i := 40) rfl))) (notFace_of_selects (args := #[]) (mvT hZ (hw _ (List.mem_of_getElem? (i := 42) rfl)))) (mvT hZ (hw _ (List.mem_of_getElem? (i := 42) rfl))) (mvT hZ (hw _ (List.mem_of_getElem? (i := 41) rfl))) (by decide) (backOf (W := 0) (rm5 l Z a0 hw [] b5 (0 : Int32) b4 k4 (0 : Int32) [] (.int (0 : Int32)) T8.heap n0 z13 q8_1 q8_0 f12) hZ (hw _ (List.mem_of_getElem? (i := 43) rfl)) (hw _ (List.mem_of_getElem? (i := 4) rfl)) (by decide) (by decide)) q16a q16c (g := (mkF m 105 #[.val (.int p0), .val (.int p1), .val (.int p2), .val (.int p3), .val (.int p4), .val (.int (0 : Int32)), .val (.ref b4), .val (.ref b5), .val (.int (1 : Int32)), .unset, .unset] [(.ref b5)])) rfl (by rw [hml]; rfl) (Steps.refl _) (argsL := []) (rest := []) (lenOf pd_3 rfl) rfl (by show 2 * 0 + _ ≤ _; exact Nat.le_of_eq rfl) (hb hby at_105) (fun _ _ => ⟨rfl, e11, (by decide : 3 + 0 ≤ _), (by decide : 7 + 0 ≤ _)⟩)
    dsimp only [Pt.U, Pt.locs, Pt.cells, Pt.slots] at X16 l16 y16 z16 st16 hQ16
    subst l16 y16 z16
    obtain ⟨rfl, Nq16, e16⟩ := hQ16
    have N16 := Fr.app N11 Nq16
    have P17 : ∀ t, Steps p.tables e below (T16.setTop (mkF m 135 #[.val (.int p0), .val (.int p1), .val (.int p2), .val (.int p3), .val (.int p4), .val (.int (0 : Int32)), .val (.ref b4), .val (.ref b5), .val (.int (1 : Int32)), .unset, .unset] [(.int (1 : Int32))])) t → Steps p.tables e below (s₁.setTop (entryFrame m #[(.int p0), (.int p1), (.int p2), (.int p3), (.int p4)] maxLocals)) t := by
      intro t kk
      refine P15 _ ?_
      show Steps p.tables e below (T11.setTop (mkF m 100 #[.val (.int p0), .val (.int p1), .val (.int p2), .val (.int p3), .val (.int p4), .val (.int (0 : Int32)), .val (.ref b4), .val (.ref b5), .val (.int (1 : Int32)), .unset, .unset] [(.int (1 : Int32))])) _
      refine XS.ifNo X11.here hx rfl (hb hby at_100) rfl (XT.i0_eq_f (by decide)) ?_
      show Steps p.tables e below (T11.setTop (mkF m 103 #[.val (.int p0), .val (.int p1), .val (.int p2), .val (.int p3), .val (.int p4), .val (.int (0 : Int32)), .val (.ref b4), .val (.ref b5), .val (.int (1 : Int32)), .unset, .unset] [])) _
      refine XS.aload X11.here hx rfl (hb hby at_103) rfl rfl ?_
      show Steps p.tables e below (T11.setTop (mkF m 105 #[.val (.int p0), .val (.int p1), .val (.int p2), .val (.int p3), .val (.int p4), .val (.int (0 : Int32)), .val (.ref b4), .val (.ref b5), .val (.int (1 : Int32)), .unset, .unset] [(.ref b5)])) _
      refine st16.trans ?_
      show Steps p.tables e below (T16.setTop (mkF m 108 #[.val (.int p0), .val (.int p1), .val (.int p2), .val (.int p3), .val (.int p4), .val (.int (0 : Int32)), .val (.ref b4), .val (.ref b5), .val (.int (1 : Int32)), .unset, .unset] [(.int (F5 (0 : Int32) (0 : Int32)))])) _
      refine XS.iload X16.here hx rfl (hb hby at_108) rfl ?_
      show Steps p.tables e below (T16.setTop (mkF m 110 #[.val (.int p0), .val (.int p1), .val (.int p2), .val (.int p3), .val (.int p4), .val (.int (0 : Int32)), .val (.ref b4), .val (.ref b5), .val (.int (1 : Int32)), .unset, .unset] [(.int (0 : Int32)), (.int (F5 (0 : Int32) (0 : Int32)))])) _
      refine XS.ifNo X16.here hx rfl (hb hby at_110) rfl (XT.i0_ne_f rfl) ?_
      show Steps p.tables e below (T16.setTop (mkF m 113 #[.val (.int p0), .val (.int p1), .val (.int p2), .val (.int p3), .val (.int p4), .val (.int (0 : Int32)), .val (.ref b4), .val (.ref b5), .val (.int (1 : Int32)), .unset, .unset] [(.int (F5 (0 : Int32) (0 : Int32)))])) _
      refine XS.iconst X16.here hx rfl (hb hby at_113) ?_
      show Steps p.tables e below (T16.setTop (mkF m 114 #[.val (.int p0), .val (.int p1), .val (.int p2), .val (.int p3), .val (.int p4), .val (.int (0 : Int32)), .val (.ref b4), .val (.ref b5), .val (.int (1 : Int32)), .unset, .unset] [(.int (1 : Int32)), (.int (F5 (0 : Int32) (0 : Int32)))])) _
      refine XS.goto X16.here hx rfl (pc0 := 114) (pc' := 118) rfl (hb hby at_114) (by decide) (by decide) ?_
      show Steps p.tables e below (T16.setTop (mkF m 118 #[.val (.int p0), .val (.int p1), .val (.int p2), .val (.int p3), .val (.int p4), .val (.int (0 : Int32)), .val (.ref b4), .val (.ref b5), .val (.int (1 : Int32)), .unset, .unset] [(.int (1 : Int32)), (.int (F5 (0 : Int32) (0 : Int32)))])) _
      refine XS.icmpNo X16.here hx rfl (hb hby at_118) rfl (XT.ii_ne_f (by decide)) ?_
      show Steps p.tables e below (T16.setTop (mkF m 121 #[.val (.int p0), .val (.int p1), .val (.int p2), .val (.int p3), .val (.int p4), .val (.int (0 : Int32)), .val (.ref b4), .val (.ref b5), .val (.int (1 : Int32)), .unset, .unset] [])) _
      refine XS.iconst X16.here hx rfl (hb hby at_121) ?_
      show Steps p.tables e below (T16.setTop (mkF m 122 #[.val (.int p0), .val (.int p1), .val (.int p2), .val (.int p3), .val (.int p4), .val (.int (0 : Int32)), .val (.ref b4), .val (.ref b5), .val (.int (1 : Int32)), .unset, .unset] [(.int (1 : Int32))])) _
      refine XS.goto X16.here hx rfl (pc0 := 122) (pc' := 126) rfl (hb hby at_122) (by decide) (by decide) ?_
      show Steps p.tables e below (T16.setTop (mkF m 126 #[.val (.int p0), .val (.int p1), .val (.int p2), .val (.int p3), .val (.int p4), .val (.int (0 : Int32)), .val (.ref b4), .val (.ref b5), .val (.int (1 : Int32)), .unset, .unset] [(.int (1 : Int32))])) _
      refine XS.istore X16.here hx rfl (hb hby at_126) rfl (l' := #[.val (.int p0), .val (.int p1), .val (.int p2), .val (.int p3), .val (.int p4), .val (.int (0 : Int32)), .val (.ref b4), .val (.ref b5), .val (.int (1 : Int32)), .unset, .unset]) rfl ?_
      show Steps p.tables e below (T16.setTop (mkF m 128 #[.val (.int p0), .val (.int p1), .val (.int p2), .val (.int p3), .val (.int p4), .val (.int (0 : Int32)), .val (.ref b4), .val (.ref b5), .val (.int (1 : Int32)), .unset, .unset] [])) _
      refine XS.iload X16.here hx rfl (hb hby at_128) rfl ?_
      show Steps p.tables e below (T16.setTop (mkF m 130 #[.val (.int p0), .val (.int p1), .val (.int p2), .val (.int p3), .val (.int p4), .val (.int (0 : Int32)), .val (.ref b4), .val (.ref b5), .val (.int (1 : Int32)), .unset, .unset] [(.int (0 : Int32))])) _
      refine XS.ifNo X16.here hx rfl (hb hby at_130) rfl (XT.i0_ne_f rfl) ?_
      show Steps p.tables e below (T16.setTop (mkF m 133 #[.val (.int p0), .val (.int p1), .val (.int p2), .val (.int p3), .val (.int p4), .val (.int (0 : Int32)), .val (.ref b4), .val (.ref b5), .val (.int (1 : Int32)), .unset, .unset] [])) _
      refine XS.iload X16.here hx rfl (hb hby at_133) rfl ?_
      show Steps p.tables e below (T16.setTop (mkF m 135 #[.val (.int p0), .val (.int p1), .val (.int p2), .val (.int p3), .val (.int p4), .val (.int (0 : Int32)), .val (.ref b4), .val (.ref b5), .val (.int (1 : Int32)), .unset, .unset] [(.int (1 : Int32))])) _
      exact kk
    obtain ⟨fs, hr, hrun, hended, hW, hsame⟩ := X16.leave (v := some (.int (1 : Int32))) (fun h => by rw [Bd.returns] at h; cases h)
    refine ⟨_, _, P17 _ ?_, hrun, hended, _, _, rfl, ?_, ⟨_, rfl⟩, hW, hsame.mono (by decide) (by decide)⟩
    · exact retN X16 hx (t := .boolean) Bd.returns (by simp) (hb hby at_135) hr
    · exact ⟨rfl, N16⟩
  · skip
    have P18 : ∀ t, Steps p.tables e below (s₁.setTop (mkF m 8 #[.val (.int p0), .val (.int p1), .val (.int p2), .val (.int p3), .val (.int p4), .val (.int (1 : Int32)), .unset, .unset, .unset, .unset, .unset] [])) t → Steps p.tables e below (s₁.setTop (entryFrame m #[(.int p0), (.int p1), (.int p2), (.int p3), (.int p4)] maxLocals)) t := by
      intro t kk
      refine P1 _ ?_
      rw [hs2]
      exact kk
    obtain ⟨T19, h19, k19, X19, e19, E19, A19, st19⟩ := newP X0 hx hZ (hw _ (List.mem_of_getElem? (i := 1) rfl)) e0 (g := (mkF m 10 #[.val (.int p0), .val (.int p1), .val (.int p2), .val (.int p3), .val (.int p4), .val (.int (1 : Int32)), .unset, .unset, .unset, .unset, .unset] [(.int (1 : Int32))])) rfl (hb hby at_10) rfl (by decide) (cap := 1) (by decide) (by decide) (by decide) (by decide)
    obtain ⟨b19, g_b19⟩ : ∃ z, z = h0.size := ⟨_, rfl⟩
    rw [← g_b19] at A19 st19
    have ge_b19 : n0 ≤ b19 := Nat.le_trans Z0 (Nat.le_of_eq g_b19.symm)
    have sz_b19 : h0.size ≤ b19 := Nat.le_trans (Keep.refl h0 []).1 (Nat.le_of_eq g_b19.symm)
    have V19 : Arv Z h19 b19 k19 .byte (1 : Int32) [(.int (0 : Int32))] (.int (0 : Int32)) := (Arv.new A19 (by decide)).pad (pad_rep [] (.int (0 : Int32)) 1)
    obtain ⟨cl_a20, Ar_a20, q_a20, S_a20, N_a20, H_a20, G_a20⟩ := id V19
    have hin_a20 : ¬ ((0 : Int32) < 0 ∨ cl_a20.slots.size ≤ ((0 : Int32)).toNatClampNeg) := inb_of S_a20 ⟨by decide, by decide⟩
    obtain ⟨T21, h21, X21, e21, W21, st21⟩ := stB X19 hx hZ e19 Ar_a20 (j := (0 : Int32)) hin_a20 (g := (mkF m 24 #[.val (.int p0), .val (.int p1), .val (.int p2), .val (.int p3), .val (.int p4), .val (.int (1 : Int32)), .val (.ref b19), .unset, .unset, .unset, .unset] [(.int ((p1).toInt8.toInt32)), (.int (0 : Int32)), (.ref b19)])) rfl rfl (hb hby at_24)
    have V21 : Arv Z h21 b19 k19 .byte (1 : Int32) [(.int (nar .byte ((p1).toInt8.toInt32)))] (.int (0 : Int32)) := Arv.set Ar_a20 q_a20 S_a20 N_a20 H_a20 G_a20 (fits_nar_byte _) W21 0 rfl (Nat.le_of_ble_eq_true rfl)
    have N21 := Fr.snoc X21 N0 ge_b19
    obtain ⟨T22, h22, X22, e22, E22, A22, D22, -, st22⟩ := newO X21 hx hZ hown (hw _ (List.mem_of_getElem? (i := 2) rfl)) (hw _ (List.mem_of_getElem? (i := 3) rfl)) (hw _ (List.mem_of_getElem? (i := 4) rfl)) e21 (g := (mkF m 62 #[.val (.int p0), .val (.int p1), .val (.int p2), .val (.int p3), .val (.int p4), .val (.int (1 : Int32)), .val (.ref b19), .unset, .unset, .unset, .unset] [])) rfl (hb hby at_62) (by decide) (by decide)
    have z23 : n0 ≤ _ := (Nat.le_trans (Nat.le_trans Z0 E19.1) (Keep.of_wr W21).1)
    have k24 : Keep h0 h21 [] := (Keep.wr (Keep.ext (Keep.refl h0 []) E19) W21 (Or.inr sz_b19))
    obtain ⟨b22, g_b22⟩ : ∃ z, z = h21.size := ⟨_, rfl⟩
    rw [← g_b22] at A22 D22 st22
    have ne_b19_b22 : b19 ≠ b22 := Nat.ne_of_lt (Nat.lt_of_lt_of_le V21.lt (Nat.le_of_eq g_b22.symm))
    have ge_b22 : n0 ≤ b22 := Nat.le_trans z23 (Nat.le_of_eq g_b22.symm)
    have sz_b22 : h0.size ≤ b22 := Nat.le_trans k24.1 (Nat.le_of_eq g_b22.symm)
    have F22_36 : Fld Z h22 b22 "com/example/meterwright/meterwright/RecordBody$Reader" "texts" "Ljava/util/List;" .null := D22 (Or.inr (hw _ (List.mem_of_getElem? (i := 36) rfl))) (ty := (.object "java/util/List")) (by decide)
    have F22_38 : Fld Z h22 b22 "com/example/meterwright/meterwright/RecordBody$Reader" "bytes" "[B" .null := D22 (Or.inr (hw _ (List.mem_of_getElem? (i := 38) rfl))) (ty := (.array .byte)) (by decide)
    have F22_45 : Fld Z h22 b22 "com/example/meterwright/meterwright/RecordBody$Reader" "position" "I" (.int (0 : Int32)) := D22 (Or.inl (hw _ (List.mem_of_getElem? (i := 45) rfl))) (ty := .int) (by decide)
    have f26 := (Sta.ext E22 (Sta.wr W21 (Sta.ext E19 pr0)))
    have z27 : n0 ≤ _ := (Nat.le_trans z23 E22.1)
    obtain ⟨_, _, ⟨T25, L25, k25, n25⟩, -, X25, ⟨Lc25, hQ25, l25, y25, z25⟩, st25⟩ := X22.specialBack hx (y := (⟨"com/example/meterwright/meterwright/RecordBody$Reader", "<init>", "([B)V"⟩ : MethodName)) rfl hown (mvT hZ (hw _ (List.mem_of_getElem? (i := 5) rfl))) (mvT hZ (hw _ (List.mem_of_getElem? (i := 6) rfl))) (mvT hZ (hw _ (List.mem_of_getElem? (i := 7) rfl))) (by decide) (backOf (W := 1) (rm4 l Z a0 hw [] b22 b19 sd h22 n0 z27 A22 F22_36 F22_38 F22_45 ge_b22 f26) hZ (hw _ (List.mem_of_getElem? (i := 7) rfl)) (hw _ (List.mem_of_getElem? (i := 4) rfl)) (by decide) (by decide)) (g := (mkF m 68 #[.val (.int p0), .val (.int p1), .val (.int p2), .val (.int p3), .val (.int p4), .val (.int (1 : Int32)), .val (.ref b19), .unset, .unset, .unset, .unset] [(.ref b19), (.ref b22), (.ref b22)])) rfl (by rw [hml]; rfl) (Steps.refl _) (a := b22) (argsL := [(.ref b19)]) (rest := [(.ref b22)]) (lenOf pd_2 rfl) rfl (by show 2 * 0 + _ ≤ _; exact Nat.le_of_eq rfl) (hb hby at_68) (fun _ _ => ⟨rfl, e22, (by decide : 2 + 1 ≤ _), (by decide : 5 + 3 ≤ _)⟩)
    dsimp only [Pt.U, Pt.locs, Pt.cells, Pt.slots] at X25 l25 y25 z25 st25 hQ25
    subst l25 y25 z25
    obtain ⟨rfl, Nq25, K25, q25_0, q25_1⟩ := hQ25
    have N25 := Fr.app N21 Nq25
    have f29 := (Arv.keep (V21.ext E22) K25 (ninS ne_b19_b22 nin0))
    have z30 : n0 ≤ _ := (Nat.le_trans z27 K25.1)
    have f31 := (Exa.keep A22 K25)
    obtain ⟨cq28, kq28, q28a, q28b, q28c⟩ := isOf hZ rfl f31
    obtain ⟨_, _, ⟨T28, L28, k28, n28⟩, -, X28, ⟨Lc28, hQ28, l28, y28, z28⟩, st28⟩ := X25.virtualBack hx (y := (⟨"com/example/meterwright/meterwright/RecordBody$Reader", "atEnd", "()Z"⟩ : MethodName)) (z := (⟨"com/example/meterwright/meterwright/RecordBody$Reader", "atEnd", "()Z"⟩ : MethodName)) hown (mvT hZ (hw _ (List.mem_of_getElem? (i := 39) rfl))) (mvT hZ (hw _ (List.mem_of_getElem? (i := 40) rfl))) (notFace_of_selects (args := #[]) (mvT hZ (hw _ (List.mem_of_getElem? (i := 42) rfl)))) (mvT hZ (hw _ (List.mem_of_getElem? (i := 42) rfl))) (mvT hZ (hw _ (List.mem_of_getElem? (i := 41) rfl))) (by decide) (backOf (W := 0) (rm5 l Z a0 hw [] b22 (0 : Int32) b19 k19 (1 : Int32) [(.int (nar .byte ((p1).toInt8.toInt32)))] (.int (0 : Int32)) T25.heap n0 z30 q25_1 q25_0 f29) hZ (hw _ (List.mem_of_getElem? (i := 43) rfl)) (hw _ (List.mem_of_getElem? (i := 4) rfl)) (by decide) (by decide)) q28a q28c (g := (mkF m 75 #[.val (.int p0), .val (.int p1), .val (.int p2), .val (.int p3), .val (.int p4), .val (.int (1 : Int32)), .val (.ref b19), .val (.ref b22), .unset, .unset, .unset] [(.ref b22)])) rfl (by rw [hml]; rfl) (Steps.refl _) (argsL := []) (rest := []) (lenOf pd_3 rfl) rfl (by show 2 * 0 + _ ≤ _; exact Nat.le_of_eq rfl) (hb hby at_75) (fun _ _ => ⟨rfl, rfl, (by decide : 3 + 0 ≤ _), (by decide : 8 + 0 ≤ _)⟩)
    dsimp only [Pt.U, Pt.locs, Pt.cells, Pt.slots] at X28 l28 y28 z28 st28 hQ28
    subst l28 y28 z28
    obtain ⟨rfl, Nq28, e28⟩ := hQ28
    have N28 := Fr.app N25 Nq28
    have P32 : ∀ t, Steps p.tables e below (T28.setTop (mkF m 91 #[.val (.int p0), .val (.int p1), .val (.int p2), .val (.int p3), .val (.int p4), .val (.int (1 : Int32)), .val (.ref b19), .val (.ref b22), .unset, .unset, .unset] [])) t → Steps p.tables e below (s₁.setTop (entryFrame m #[(.int p0), (.int p1), (.int p2), (.int p3), (.int p4)] maxLocals)) t := by
      intro t kk
      refine P18 _ ?_
      show Steps p.tables e below (s₁.setTop (mkF m 8 #[.val (.int p0), .val (.int p1), .val (.int p2), .val (.int p3), .val (.int p4), .val (.int (1 : Int32)), .unset, .unset, .unset, .unset, .unset] [])) _
      refine XS.iload X0.here hx rfl (hb hby at_8) rfl ?_
      show Steps p.tables e below (s₁.setTop (mkF m 10 #[.val (.int p0), .val (.int p1), .val (.int p2), .val (.int p3), .val (.int p4), .val (.int (1 : Int32)), .unset, .unset, .unset, .unset, .unset] [(.int (1 : Int32))])) _
      refine st19 _ ?_
      show Steps p.tables e below (T19.setTop (mkF m 12 #[.val (.int p0), .val (.int p1), .val (.int p2), .val (.int p3), .val (.int p4), .val (.int (1 : Int32)), .unset, .unset, .unset, .unset, .unset] [(.ref b19)])) _
      refine XS.astore X19.here hx rfl (hb hby at_12) rfl rfl (l' := #[.val (.int p0), .val (.int p1), .val (.int p2), .val (.int p3), .val (.int p4), .val (.int (1 : Int32)), .val (.ref b19), .unset, .unset, .unset, .unset]) rfl ?_
      show Steps p.tables e below (T19.setTop (mkF m 14 #[.val (.int p0), .val (.int p1), .val (.int p2), .val (.int p3), .val (.int p4), .val (.int (1 : Int32)), .val (.ref b19), .unset, .unset, .unset, .unset] [])) _
      refine XS.iload X19.here hx rfl (hb hby at_14) rfl ?_
      show Steps p.tables e below (T19.setTop (mkF m 16 #[.val (.int p0), .val (.int p1), .val (.int p2), .val (.int p3), .val (.int p4), .val (.int (1 : Int32)), .val (.ref b19), .unset, .unset, .unset, .unset] [(.int (1 : Int32))])) _
      refine XS.ifNo X19.here hx rfl (hb hby at_16) rfl (XT.i0_le_f (by decide)) ?_
      show Steps p.tables e below (T19.setTop (mkF m 19 #[.val (.int p0), .val (.int p1), .val (.int p2), .val (.int p3), .val (.int p4), .val (.int (1 : Int32)), .val (.ref b19), .unset, .unset, .unset, .unset] [])) _
      refine XS.aload X19.here hx rfl (hb hby at_19) rfl rfl ?_
      show Steps p.tables e below (T19.setTop (mkF m 21 #[.val (.int p0), .val (.int p1), .val (.int p2), .val (.int p3), .val (.int p4), .val (.int (1 : Int32)), .val (.ref b19), .unset, .unset, .unset, .unset] [(.ref b19)])) _
      refine XS.iconst X19.here hx rfl (hb hby at_21) ?_
      show Steps p.tables e below (T19.setTop (mkF m 22 #[.val (.int p0), .val (.int p1), .val (.int p2), .val (.int p3), .val (.int p4), .val (.int (1 : Int32)), .val (.ref b19), .unset, .unset, .unset, .unset] [(.int (0 : Int32)), (.ref b19)])) _
      refine XS.iloadN X19.here hx rfl (hb hby at_22) rfl ?_
      show Steps p.tables e below (T19.setTop (mkF m 23 #[.val (.int p0), .val (.int p1), .val (.int p2), .val (.int p3), .val (.int p4), .val (.int (1 : Int32)), .val (.ref b19), .unset, .unset, .unset, .unset] [(.int p1), (.int (0 : Int32)), (.ref b19)])) _
      refine XS.i2b X19.here hx rfl (hb hby at_23) rfl ?_
      show Steps p.tables e below (T19.setTop (mkF m 24 #[.val (.int p0), .val (.int p1), .val (.int p2), .val (.int p3), .val (.int p4), .val (.int (1 : Int32)), .val (.ref b19), .unset, .unset, .unset, .unset] [(.int ((p1).toInt8.toInt32)), (.int (0 : Int32)), (.ref b19)])) _
      refine st21 _ ?_
      show Steps p.tables e below (T21.setTop (mkF m 25 #[.val (.int p0), .val (.int p1), .val (.int p2), .val (.int p3), .val (.int p4), .val (.int (1 : Int32)), .val (.ref b19), .unset, .unset, .unset, .unset] [])) _
      refine XS.iload X21.here hx rfl (hb hby at_25) rfl ?_
      show Steps p.tables e below (T21.setTop (mkF m 27 #[.val (.int p0), .val (.int p1), .val (.int p2), .val (.int p3), .val (.int p4), .val (.int (1 : Int32)), .val (.ref b19), .unset, .unset, .unset, .unset] [(.int (1 : Int32))])) _
      refine XS.iconst X21.here hx rfl (hb hby at_27) ?_
      show Steps p.tables e below (T21.setTop (mkF m 28 #[.val (.int p0), .val (.int p1), .val (.int p2), .val (.int p3), .val (.int p4), .val (.int (1 : Int32)), .val (.ref b19), .unset, .unset, .unset, .unset] [(.int (1 : Int32)), (.int (1 : Int32))])) _
      refine XS.icmpYes X21.here hx rfl (pc0 := 28) (pc' := 37) rfl (hb hby at_28) rfl (XT.ii_le_t (by decide)) (by decide) (by decide) ?_
      show Steps p.tables e below (T21.setTop (mkF m 37 #[.val (.int p0), .val (.int p1), .val (.int p2), .val (.int p3), .val (.int p4), .val (.int (1 : Int32)), .val (.ref b19), .unset, .unset, .unset, .unset] [])) _
      refine XS.iload X21.here hx rfl (hb hby at_37) rfl ?_
      show Steps p.tables e below (T21.setTop (mkF m 39 #[.val (.int p0), .val (.int p1), .val (.int p2), .val (.int p3), .val (.int p4), .val (.int (1 : Int32)), .val (.ref b19), .unset, .unset, .unset, .unset] [(.int (1 : Int32))])) _
      refine XS.iconst X21.here hx rfl (hb hby at_39) ?_
      show Steps p.tables e below (T21.setTop (mkF m 40 #[.val (.int p0), .val (.int p1), .val (.int p2), .val (.int p3), .val (.int p4), .val (.int (1 : Int32)), .val (.ref b19), .unset, .unset, .unset, .unset] [(.int (2 : Int32)), (.int (1 : Int32))])) _
      refine XS.icmpYes X21.here hx rfl (pc0 := 40) (pc' := 49) rfl (hb hby at_40) rfl (XT.ii_le_t (by decide)) (by decide) (by decide) ?_
      show Steps p.tables e below (T21.setTop (mkF m 49 #[.val (.int p0), .val (.int p1), .val (.int p2), .val (.int p3), .val (.int p4), .val (.int (1 : Int32)), .val (.ref b19), .unset, .unset, .unset, .unset] [])) _
      refine XS.iload X21.here hx rfl (hb hby at_49) rfl ?_
      show Steps p.tables e below (T21.setTop (mkF m 51 #[.val (.int p0), .val (.int p1), .val (.int p2), .val (.int p3), .val (.int p4), .val (.int (1 : Int32)), .val (.ref b19), .unset, .unset, .unset, .unset] [(.int (1 : Int32))])) _
      refine XS.iconst X21.here hx rfl (hb hby at_51) ?_
      show Steps p.tables e below (T21.setTop (mkF m 52 #[.val (.int p0), .val (.int p1), .val (.int p2), .val (.int p3), .val (.int p4), .val (.int (1 : Int32)), .val (.ref b19), .unset, .unset, .unset, .unset] [(.int (3 : Int32)), (.int (1 : Int32))])) _
      refine XS.icmpYes X21.here hx rfl (pc0 := 52) (pc' := 62) rfl (hb hby at_52) rfl (XT.ii_le_t (by decide)) (by decide) (by decide) ?_
      show Steps p.tables e below (T21.setTop (mkF m 62 #[.val (.int p0), .val (.int p1), .val (.int p2), .val (.int p3), .val (.int p4), .val (.int (1 : Int32)), .val (.ref b19), .unset, .unset, .unset, .unset] [])) _
      refine st22 _ ?_
      show Steps p.tables e below (T22.setTop (mkF m 65 #[.val (.int p0), .val (.int p1), .val (.int p2), .val (.int p3), .val (.int p4), .val (.int (1 : Int32)), .val (.ref b19), .unset, .unset, .unset, .unset] [(.ref b22)])) _
      refine XS.dup X22.here hx rfl (hb hby at_65) rfl rfl ?_
      show Steps p.tables e below (T22.setTop (mkF m 66 #[.val (.int p0), .val (.int p1), .val (.int p2), .val (.int p3), .val (.int p4), .val (.int (1 : Int32)), .val (.ref b19), .unset, .unset, .unset, .unset] [(.ref b22), (.ref b22)])) _
      refine XS.aload X22.here hx rfl (hb hby at_66) rfl rfl ?_
      show Steps p.tables e below (T22.setTop (mkF m 68 #[.val (.int p0), .val (.int p1), .val (.int p2), .val (.int p3), .val (.int p4), .val (.int (1 : Int32)), .val (.ref b19), .unset, .unset, .unset, .unset] [(.ref b19), (.ref b22), (.ref b22)])) _
      refine st25.trans ?_
      show Steps p.tables e below (T25.setTop (mkF m 71 #[.val (.int p0), .val (.int p1), .val (.int p2), .val (.int p3), .val (.int p4), .val (.int (1 : Int32)), .val (.ref b19), .unset, .unset, .unset, .unset] [(.ref b22)])) _
      refine XS.astore X25.here hx rfl (hb hby at_71) rfl rfl (l' := #[.val (.int p0), .val (.int p1), .val (.int p2), .val (.int p3), .val (.int p4), .val (.int (1 : Int32)), .val (.ref b19), .val (.ref b22), .unset, .unset, .unset]) rfl ?_
      show Steps p.tables e below (T25.setTop (mkF m 73 #[.val (.int p0), .val (.int p1), .val (.int p2), .val (.int p3), .val (.int p4), .val (.int (1 : Int32)), .val (.ref b19), .val (.ref b22), .unset, .unset, .unset] [])) _
      refine XS.aload X25.here hx rfl (hb hby at_73) rfl rfl ?_
      show Steps p.tables e below (T25.setTop (mkF m 75 #[.val (.int p0), .val (.int p1), .val (.int p2), .val (.int p3), .val (.int p4), .val (.int (1 : Int32)), .val (.ref b19), .val (.ref b22), .unset, .unset, .unset] [(.ref b22)])) _
      refine st28.trans ?_
      show Steps p.tables e below (T28.setTop (mkF m 78 #[.val (.int p0), .val (.int p1), .val (.int p2), .val (.int p3), .val (.int p4), .val (.int (1 : Int32)), .val (.ref b19), .val (.ref b22), .unset, .unset, .unset] [(.int (F5 (0 : Int32) (1 : Int32)))])) _
      refine XS.iload X28.here hx rfl (hb hby at_78) rfl ?_
      show Steps p.tables e below (T28.setTop (mkF m 80 #[.val (.int p0), .val (.int p1), .val (.int p2), .val (.int p3), .val (.int p4), .val (.int (1 : Int32)), .val (.ref b19), .val (.ref b22), .unset, .unset, .unset] [(.int (1 : Int32)), (.int (F5 (0 : Int32) (1 : Int32)))])) _
      refine XS.ifYes X28.here hx rfl (pc0 := 80) (pc' := 87) rfl (hb hby at_80) rfl (XT.i0_ne_t (by decide)) (by decide) (by decide) ?_
      show Steps p.tables e below (T28.setTop (mkF m 87 #[.val (.int p0), .val (.int p1), .val (.int p2), .val (.int p3), .val (.int p4), .val (.int (1 : Int32)), .val (.ref b19), .val (.ref b22), .unset, .unset, .unset] [(.int (F5 (0 : Int32) (1 : Int32)))])) _
      refine XS.iconst X28.here hx rfl (hb hby at_87) ?_
      show Steps p.tables e below (T28.setTop (mkF m 88 #[.val (.int p0), .val (.int p1), .val (.int p2), .val (.int p3), .val (.int p4), .val (.int (1 : Int32)), .val (.ref b19), .val (.ref b22), .unset, .unset, .unset] [(.int (0 : Int32)), (.int (F5 (0 : Int32) (1 : Int32)))])) _
      refine XS.icmpNo X28.here hx rfl (hb hby at_88) rfl (XT.ii_ne_f (by decide)) ?_
      show Steps p.tables e below (T28.setTop (mkF m 91 #[.val (.int p0), .val (.int p1), .val (.int p2), .val (.int p3), .val (.int p4), .val (.int (1 : Int32)), .val (.ref b19), .val (.ref b22), .unset, .unset, .unset] [])) _
      exact kk
    obtain ⟨cq33, kq33, q33a, q33b, q33c⟩ := isOf hZ e28 f31
    obtain ⟨_, _, ⟨T33, L33, k33, n33⟩, -, X33, ⟨Lc33, hQ33, l33, y33, z33⟩, st33⟩ := X28.virtualBack hx (y := (⟨"com/example/meterwright/meterwright/RecordBody$Reader", "atEnd", "()Z"⟩ : MethodName)) (z := (⟨"com/example/meterwright/meterwright/RecordBody$Reader", "atEnd", "()Z"⟩ : MethodName)) hown (mvT hZ (hw _ (List.mem_of_getElem? (i := 39) rfl))) (mvT hZ (hw _ (List.mem_of_getElem? (i := 40) rfl))) (notFace_of_selects (args := #[]) (mvT hZ (hw _ (List.mem_of_getElem? (i := 42) rfl)))) (mvT hZ (hw _ (List.mem_of_getElem? (i := 42) rfl))) (mvT hZ (hw _ (List.mem_of_getElem? (i := 41) rfl))) (by decide) (backOf (W := 0) (rm5 l Z a0 hw [] b22 (0 : Int32) b19 k19 (1 : Int32) [(.int (nar .byte ((p1).toInt8.toInt32)))] (.int (0 : Int32)) T25.heap n0 z30 q25_1 q25_0 f29) hZ (hw _ (List.mem_of_getElem? (i := 43) rfl)) (hw _ (List.mem_of_getElem? (i := 4) rfl)) (by decide) (by decide)) q33a q33c (g := (mkF m 105 #[.val (.int p0), .val (.int p1), .val (.int p2), .val (.int p3), .val (.int p4), .val (.int (1 : Int32)), .val (.ref b19), .val (.ref b22), .val (.int (1 : Int32)), .unset, .unset] [(.ref b22)])) rfl (by rw [hml]; rfl) (Steps.refl _) (argsL := []) (rest := []) (lenOf pd_3 rfl) rfl (by show 2 * 0 + _ ≤ _; exact Nat.le_of_eq rfl) (hb hby at_105) (fun _ _ => ⟨rfl, e28, (by decide : 3 + 0 ≤ _), (by decide : 8 + 0 ≤ _)⟩)
    dsimp only [Pt.U, Pt.locs, Pt.cells, Pt.slots] at X33 l33 y33 z33 st33 hQ33
    subst l33 y33 z33
    obtain ⟨rfl, Nq33, e33⟩ := hQ33
    have N33 := Fr.app N28 Nq33
    obtain ⟨cq34, kq34, q34a, q34b, q34c⟩ := isOf hZ e33 f31
    obtain ⟨_, _, ⟨T34, L34, k34, n34⟩, -, X34, ⟨Lc34, hQ34, l34, y34, z34⟩, st34⟩ := X33.virtualBack hx (y := (⟨"com/example/meterwright/meterwright/RecordBody$Reader", "kind", "()B"⟩ : MethodName)) (z := (⟨"com/example/meterwright/meterwright/RecordBody$Reader", "kind", "()B"⟩ : MethodName)) hown (mvT hZ (hw _ (List.mem_of_getElem? (i := 46) rfl))) (mvT hZ (hw _ (List.mem_of_getElem? (i := 47) rfl))) (notFace_of_selects (args := #[]) (mvT hZ (hw _ (List.mem_of_getElem? (i := 49) rfl)))) (mvT hZ (hw _ (List.mem_of_getElem? (i := 49) rfl))) (mvT hZ (hw _ (List.mem_of_getElem? (i := 48) rfl))) (by decide) (backOf (W := 0) (rm6 l Z a0 hw [] b22 (0 : Int32) b19 k19 (1 : Int32) [(.int (nar .byte ((p1).toInt8.toInt32)))] (.int (0 : Int32)) (nar .byte ((p1).toInt8.toInt32)) T25.heap n0 z30 f31 q25_1 q25_0 f29 ge_b22 ne_b19_b22 ⟨by decide, by decide⟩ rfl) hZ (hw _ (List.mem_of_getElem? (i := 50) rfl)) (hw _ (List.mem_of_getElem? (i := 4) rfl)) (by decide) (by decide)) q34a q34c (g := (mkF m 138 #[.val (.int p0), .val (.int p1), .val (.int p2), .val (.int p3), .val (.int p4), .val (.int (1 : Int32)), .val (.ref b19), .val (.ref b22), .val (.int (1 : Int32)), .unset, .unset] [(.ref b22)])) rfl (by rw [hml]; rfl) (Steps.refl _) (argsL := []) (rest := []) (lenOf pd_4 rfl) rfl (by show 2 * 0 + _ ≤ _; exact Nat.le_of_eq rfl) (hb hby at_138) (fun _ _ => ⟨rfl, e33, (by decide : 3 + 0 ≤ _), (by decide : 8 + 0 ≤ _)⟩)
    dsimp only [Pt.U, Pt.locs, Pt.cells, Pt.slots] at X34 l34 y34 z34 st34 hQ34
    subst l34 y34 z34
    obtain ⟨rfl, Nq34, K34, q34_0, q34_1⟩ := hQ34
    have N34 := Fr.app N33 Nq34
    have q34_0' : Fld Z T34.heap b22 "com/example/meterwright/meterwright/RecordBody$Reader" "position" "I" (.int (1 : Int32)) := q34_0
    have f35 := (Arv.keep f29 K34 (ninS ne_b19_b22 nin0))
    obtain ⟨cl_a36, Ar_a36, q_a36, S_a36, N_a36, H_a36, G_a36⟩ := id f35
    have hin_a36 : ¬ ((0 : Int32) < 0 ∨ cl_a36.slots.size ≤ ((0 : Int32)).toNatClampNeg) := inb_of S_a36 ⟨by decide, by decide⟩
    have hat_a36 := Has.at (v := (.int (nar .byte ((p1).toInt8.toInt32)))) H_a36 hin_a36 rfl
    have P37 : ∀ t, Steps p.tables e below (T34.setTop (mkF m 166 #[.val (.int p0), .val (.int p1), .val (.int p2), .val (.int p3), .val (.int p4), .val (.int (1 : Int32)), .val (.ref b19), .val (.ref b22), .val (.int (1 : Int32)), .val (.int (nar .byte (nar .byte ((p1).toInt8.toInt32)))), .unset] [(.int (1 : Int32))])) t → Steps p.tables e below (s₁.setTop (entryFrame m #[(.int p0), (.int p1), (.int p2), (.int p3), (.int p4)] maxLocals)) t := by
      intro t kk
      refine P32 _ ?_
      show Steps p.tables e below (T28.setTop (mkF m 91 #[.val (.int p0), .val (.int p1), .val (.int p2), .val (.int p3), .val (.int p4), .val (.int (1 : Int32)), .val (.ref b19), .val (.ref b22), .unset, .unset, .unset] [])) _
      refine XS.iconst X28.here hx rfl (hb hby at_91) ?_
      show Steps p.tables e below (T28.setTop (mkF m 92 #[.val (.int p0), .val (.int p1), .val (.int p2), .val (.int p3), .val (.int p4), .val (.int (1 : Int32)), .val (.ref b19), .val (.ref b22), .unset, .unset, .unset] [(.int (1 : Int32))])) _
      refine XS.goto X28.here hx rfl (pc0 := 92) (pc' := 96) rfl (hb hby at_92) (by decide) (by decide) ?_
      show Steps p.tables e below (T28.setTop (mkF m 96 #[.val (.int p0), .val (.int p1), .val (.int p2), .val (.int p3), .val (.int p4), .val (.int (1 : Int32)), .val (.ref b19), .val (.ref b22), .unset, .unset, .unset] [(.int (1 : Int32))])) _
      refine XS.istore X28.here hx rfl (hb hby at_96) rfl (l' := #[.val (.int p0), .val (.int p1), .val (.int p2), .val (.int p3), .val (.int p4), .val (.int (1 : Int32)), .val (.ref b19), .val (.ref b22), .val (.int (1 : Int32)), .unset, .unset]) rfl ?_
      show Steps p.tables e below (T28.setTop (mkF m 98 #[.val (.int p0), .val (.int p1), .val (.int p2), .val (.int p3), .val (.int p4), .val (.int (1 : Int32)), .val (.ref b19), .val (.ref b22), .val (.int (1 : Int32)), .unset, .unset] [])) _
      refine XS.iload X28.here hx rfl (hb hby at_98) rfl ?_
      show Steps p.tables e below (T28.setTop (mkF m 100 #[.val (.int p0), .val (.int p1), .val (.int p2), .val (.int p3), .val (.int p4), .val (.int (1 : Int32)), .val (.ref b19), .val (.ref b22), .val (.int (1 : Int32)), .unset, .unset] [(.int (1 : Int32))])) _
      refine XS.ifNo X28.here hx rfl (hb hby at_100) rfl (XT.i0_eq_f (by decide)) ?_
      show Steps p.tables e below (T28.setTop (mkF m 103 #[.val (.int p0), .val (.int p1), .val (.int p2), .val (.int p3), .val (.int p4), .val (.int (1 : Int32)), .val (.ref b19), .val (.ref b22), .val (.int (1 : Int32)), .unset, .unset] [])) _
      refine XS.aload X28.here hx rfl (hb hby at_103) rfl rfl ?_
      show Steps p.tables e below (T28.setTop (mkF m 105 #[.val (.int p0), .val (.int p1), .val (.int p2), .val (.int p3), .val (.int p4), .val (.int (1 : Int32)), .val (.ref b19), .val (.ref b22), .val (.int (1 : Int32)), .unset, .unset] [(.ref b22)])) _
      refine st33.trans ?_
      show Steps p.tables e below (T33.setTop (mkF m 108 #[.val (.int p0), .val (.int p1), .val (.int p2), .val (.int p3), .val (.int p4), .val (.int (1 : Int32)), .val (.ref b19), .val (.ref b22), .val (.int (1 : Int32)), .unset, .unset] [(.int (F5 (0 : Int32) (1 : Int32)))])) _
      refine XS.iload X33.here hx rfl (hb hby at_108) rfl ?_
      show Steps p.tables e below (T33.setTop (mkF m 110 #[.val (.int p0), .val (.int p1), .val (.int p2), .val (.int p3), .val (.int p4), .val (.int (1 : Int32)), .val (.ref b19), .val (.ref b22), .val (.int (1 : Int32)), .unset, .unset] [(.int (1 : Int32)), (.int (F5 (0 : Int32) (1 : Int32)))])) _
      refine XS.ifYes X33.here hx rfl (pc0 := 110) (pc' := 117) rfl (hb hby at_110) rfl (XT.i0_ne_t (by decide)) (by decide) (by decide) ?_
      show Steps p.tables e below (T33.setTop (mkF m 117 #[.val (.int p0), .val (.int p1), .val (.int p2), .val (.int p3), .val (.int p4), .val (.int (1 : Int32)), .val (.ref b19), .val (.ref b22), .val (.int (1 : Int32)), .unset, .unset] [(.int (F5 (0 : Int32) (1 : Int32)))])) _
      refine XS.iconst X33.here hx rfl (hb hby at_117) ?_
      show Steps p.tables e below (T33.setTop (mkF m 118 #[.val (.int p0), .val (.int p1), .val (.int p2), .val (.int p3), .val (.int p4), .val (.int (1 : Int32)), .val (.ref b19), .val (.ref b22), .val (.int (1 : Int32)), .unset, .unset] [(.int (0 : Int32)), (.int (F5 (0 : Int32) (1 : Int32)))])) _
      refine XS.icmpNo X33.here hx rfl (hb hby at_118) rfl (XT.ii_ne_f (by decide)) ?_
      show Steps p.tables e below (T33.setTop (mkF m 121 #[.val (.int p0), .val (.int p1), .val (.int p2), .val (.int p3), .val (.int p4), .val (.int (1 : Int32)), .val (.ref b19), .val (.ref b22), .val (.int (1 : Int32)), .unset, .unset] [])) _
      refine XS.iconst X33.here hx rfl (hb hby at_121) ?_
      show Steps p.tables e below (T33.setTop (mkF m 122 #[.val (.int p0), .val (.int p1), .val (.int p2), .val (.int p3), .val (.int p4), .val (.int (1 : Int32)), .val (.ref b19), .val (.ref b22), .val (.int (1 : Int32)), .unset, .unset] [(.int (1 : Int32))])) _
      refine XS.goto X33.here hx rfl (pc0 := 122) (pc' := 126) rfl (hb hby at_122) (by decide) (by decide) ?_
      show Steps p.tables e below (T33.setTop (mkF m 126 #[.val (.int p0), .val (.int p1), .val (.int p2), .val (.int p3), .val (.int p4), .val (.int (1 : Int32)), .val (.ref b19), .val (.ref b22), .val (.int (1 : Int32)), .unset, .unset] [(.int (1 : Int32))])) _
      refine XS.istore X33.here hx rfl (hb hby at_126) rfl (l' := #[.val (.int p0), .val (.int p1), .val (.int p2), .val (.int p3), .val (.int p4), .val (.int (1 : Int32)), .val (.ref b19), .val (.ref b22), .val (.int (1 : Int32)), .unset, .unset]) rfl ?_
      show Steps p.tables e below (T33.setTop (mkF m 128 #[.val (.int p0), .val (.int p1), .val (.int p2), .val (.int p3), .val (.int p4), .val (.int (1 : Int32)), .val (.ref b19), .val (.ref b22), .val (.int (1 : Int32)), .unset, .unset] [])) _
      refine XS.iload X33.here hx rfl (hb hby at_128) rfl ?_
      show Steps p.tables e below (T33.setTop (mkF m 130 #[.val (.int p0), .val (.int p1), .val (.int p2), .val (.int p3), .val (.int p4), .val (.int (1 : Int32)), .val (.ref b19), .val (.ref b22), .val (.int (1 : Int32)), .unset, .unset] [(.int (1 : Int32))])) _
      refine XS.ifYes X33.here hx rfl (pc0 := 130) (pc' := 136) rfl (hb hby at_130) rfl (XT.i0_ne_t (by decide)) (by decide) (by decide) ?_
      show Steps p.tables e below (T33.setTop (mkF m 136 #[.val (.int p0), .val (.int p1), .val (.int p2), .val (.int p3), .val (.int p4), .val (.int (1 : Int32)), .val (.ref b19), .val (.ref b22), .val (.int (1 : Int32)), .unset, .unset] [])) _
      refine XS.aload X33.here hx rfl (hb hby at_136) rfl rfl ?_
      show Steps p.tables e below (T33.setTop (mkF m 138 #[.val (.int p0), .val (.int p1), .val (.int p2), .val (.int p3), .val (.int p4), .val (.int (1 : Int32)), .val (.ref b19), .val (.ref b22), .val (.int (1 : Int32)), .unset, .unset] [(.ref b22)])) _
      refine st34.trans ?_
      show Steps p.tables e below (T34.setTop (mkF m 141 #[.val (.int p0), .val (.int p1), .val (.int p2), .val (.int p3), .val (.int p4), .val (.int (1 : Int32)), .val (.ref b19), .val (.ref b22), .val (.int (1 : Int32)), .unset, .unset] [(.int (nar .byte (nar .byte ((p1).toInt8.toInt32))))])) _
      refine XS.istore X34.here hx rfl (hb hby at_141) rfl (l' := #[.val (.int p0), .val (.int p1), .val (.int p2), .val (.int p3), .val (.int p4), .val (.int (1 : Int32)), .val (.ref b19), .val (.ref b22), .val (.int (1 : Int32)), .val (.int (nar .byte (nar .byte ((p1).toInt8.toInt32)))), .unset]) rfl ?_
      show Steps p.tables e below (T34.setTop (mkF m 143 #[.val (.int p0), .val (.int p1), .val (.int p2), .val (.int p3), .val (.int p4), .val (.int (1 : Int32)), .val (.ref b19), .val (.ref b22), .val (.int (1 : Int32)), .val (.int (nar .byte (nar .byte ((p1).toInt8.toInt32)))), .unset] [])) _
      refine XS.iload X34.here hx rfl (hb hby at_143) rfl ?_
      show Steps p.tables e below (T34.setTop (mkF m 145 #[.val (.int p0), .val (.int p1), .val (.int p2), .val (.int p3), .val (.int p4), .val (.int (1 : Int32)), .val (.ref b19), .val (.ref b22), .val (.int (1 : Int32)), .val (.int (nar .byte (nar .byte ((p1).toInt8.toInt32)))), .unset] [(.int (1 : Int32))])) _
      refine XS.ifNo X34.here hx rfl (hb hby at_145) rfl (XT.i0_eq_f (by decide)) ?_
      show Steps p.tables e below (T34.setTop (mkF m 148 #[.val (.int p0), .val (.int p1), .val (.int p2), .val (.int p3), .val (.int p4), .val (.int (1 : Int32)), .val (.ref b19), .val (.ref b22), .val (.int (1 : Int32)), .val (.int (nar .byte (nar .byte ((p1).toInt8.toInt32)))), .unset] [])) _
      refine XS.iload X34.here hx rfl (hb hby at_148) rfl ?_
      show Steps p.tables e below (T34.setTop (mkF m 150 #[.val (.int p0), .val (.int p1), .val (.int p2), .val (.int p3), .val (.int p4), .val (.int (1 : Int32)), .val (.ref b19), .val (.ref b22), .val (.int (1 : Int32)), .val (.int (nar .byte (nar .byte ((p1).toInt8.toInt32)))), .unset] [(.int (nar .byte (nar .byte ((p1).toInt8.toInt32))))])) _
      refine XS.aload X34.here hx rfl (hb hby at_150) rfl rfl ?_
      show Steps p.tables e below (T34.setTop (mkF m 152 #[.val (.int p0), .val (.int p1), .val (.int p2), .val (.int p3), .val (.int p4), .val (.int (1 : Int32)), .val (.ref b19), .val (.ref b22), .val (.int (1 : Int32)), .val (.int (nar .byte (nar .byte ((p1).toInt8.toInt32)))), .unset] [(.ref b19), (.int (nar .byte (nar .byte ((p1).toInt8.toInt32))))])) _
      refine XS.iconst X34.here hx rfl (hb hby at_152) ?_
      show Steps p.tables e below (T34.setTop (mkF m 153 #[.val (.int p0), .val (.int p1), .val (.int p2), .val (.int p3), .val (.int p4), .val (.int (1 : Int32)), .val (.ref b19), .val (.ref b22), .val (.int (1 : Int32)), .val (.int (nar .byte (nar .byte ((p1).toInt8.toInt32)))), .unset] [(.int (0 : Int32)), (.ref b19), (.int (nar .byte (nar .byte ((p1).toInt8.toInt32))))])) _
      refine X34.baloadBytes hx (j := (0 : Int32)) (v := (.int (nar .byte ((p1).toInt8.toInt32)))) (Ar_a36.1) (State.isArrayOf_alike hZ.alike Ar_a36.2.1) Ar_a36.2.2 hin_a36 hat_a36 (g := (mkF m 153 #[.val (.int p0), .val (.int p1), .val (.int p2), .val (.int p3), .val (.int p4), .val (.int (1 : Int32)), .val (.ref b19), .val (.ref b22), .val (.int (1 : Int32)), .val (.int (nar .byte (nar .byte ((p1).toInt8.toInt32)))), .unset] [(.int (0 : Int32)), (.ref b19), (.int (nar .byte (nar .byte ((p1).toInt8.toInt32))))])) rfl rfl (hb hby at_153) _ ?_
      show Steps p.tables e below (T34.setTop (mkF m 154 #[.val (.int p0), .val (.int p1), .val (.int p2), .val (.int p3), .val (.int p4), .val (.int (1 : Int32)), .val (.ref b19), .val (.ref b22), .val (.int (1 : Int32)), .val (.int (nar .byte (nar .byte ((p1).toInt8.toInt32)))), .unset] [(.int (nar .byte ((p1).toInt8.toInt32))), (.int (nar .byte (nar .byte ((p1).toInt8.toInt32))))])) _
      refine XS.icmpNo X34.here hx rfl (hb hby at_154) rfl (XT.ii_ne_f (own_nb _)) ?_
      show Steps p.tables e below (T34.setTop (mkF m 157 #[.val (.int p0), .val (.int p1), .val (.int p2), .val (.int p3), .val (.int p4), .val (.int (1 : Int32)), .val (.ref b19), .val (.ref b22), .val (.int (1 : Int32)), .val (.int (nar .byte (nar .byte ((p1).toInt8.toInt32)))), .unset] [])) _
      refine XS.iconst X34.here hx rfl (hb hby at_157) ?_
      show Steps p.tables e below (T34.setTop (mkF m 158 #[.val (.int p0), .val (.int p1), .val (.int p2), .val (.int p3), .val (.int p4), .val (.int (1 : Int32)), .val (.ref b19), .val (.ref b22), .val (.int (1 : Int32)), .val (.int (nar .byte (nar .byte ((p1).toInt8.toInt32)))), .unset] [(.int (1 : Int32))])) _
      refine XS.goto X34.here hx rfl (pc0 := 158) (pc' := 162) rfl (hb hby at_158) (by decide) (by decide) ?_
      show Steps p.tables e below (T34.setTop (mkF m 162 #[.val (.int p0), .val (.int p1), .val (.int p2), .val (.int p3), .val (.int p4), .val (.int (1 : Int32)), .val (.ref b19), .val (.ref b22), .val (.int (1 : Int32)), .val (.int (nar .byte (nar .byte ((p1).toInt8.toInt32)))), .unset] [(.int (1 : Int32))])) _
      refine XS.istore X34.here hx rfl (hb hby at_162) rfl (l' := #[.val (.int p0), .val (.int p1), .val (.int p2), .val (.int p3), .val (.int p4), .val (.int (1 : Int32)), .val (.ref b19), .val (.ref b22), .val (.int (1 : Int32)), .val (.int (nar .byte (nar .byte ((p1).toInt8.toInt32)))), .unset]) rfl ?_
      show Steps p.tables e below (T34.setTop (mkF m 164 #[.val (.int p0), .val (.int p1), .val (.int p2), .val (.int p3), .val (.int p4), .val (.int (1 : Int32)), .val (.ref b19), .val (.ref b22), .val (.int (1 : Int32)), .val (.int (nar .byte (nar .byte ((p1).toInt8.toInt32)))), .unset] [])) _
      refine XS.iload X34.here hx rfl (hb hby at_164) rfl ?_
      show Steps p.tables e below (T34.setTop (mkF m 166 #[.val (.int p0), .val (.int p1), .val (.int p2), .val (.int p3), .val (.int p4), .val (.int (1 : Int32)), .val (.ref b19), .val (.ref b22), .val (.int (1 : Int32)), .val (.int (nar .byte (nar .byte ((p1).toInt8.toInt32)))), .unset] [(.int (1 : Int32))])) _
      exact kk
    have z39 : n0 ≤ _ := (Nat.le_trans z30 K34.1)
    have f40 := (Exa.keep f31 K34)
    obtain ⟨cq38, kq38, q38a, q38b, q38c⟩ := isOf hZ rfl f40
    obtain ⟨_, _, ⟨T38, L38, k38, n38⟩, -, X38, ⟨Lc38, hQ38, l38, y38, z38⟩, st38⟩ := X34.virtualBack hx (y := (⟨"com/example/meterwright/meterwright/RecordBody$Reader", "atEnd", "()Z"⟩ : MethodName)) (z := (⟨"com/example/meterwright/meterwright/RecordBody$Reader", "atEnd", "()Z"⟩ : MethodName)) hown (mvT hZ (hw _ (List.mem_of_getElem? (i := 39) rfl))) (mvT hZ (hw _ (List.mem_of_getElem? (i := 40) rfl))) (notFace_of_selects (args := #[]) (mvT hZ (hw _ (List.mem_of_getElem? (i := 42) rfl)))) (mvT hZ (hw _ (List.mem_of_getElem? (i := 42) rfl))) (mvT hZ (hw _ (List.mem_of_getElem? (i := 41) rfl))) (by decide) (backOf (W := 0) (rm5 l Z a0 hw [] b22 (1 : Int32) b19 k19 (1 : Int32) [(.int (nar .byte ((p1).toInt8.toInt32)))] (.int (0 : Int32)) T34.heap n0 z39 q34_0' q34_1 f35) hZ (hw _ (List.mem_of_getElem? (i := 43) rfl)) (hw _ (List.mem_of_getElem? (i := 4) rfl)) (by decide) (by decide)) q38a q38c (g := (mkF m 171 #[.val (.int p0), .val (.int p1), .val (.int p2), .val (.int p3), .val (.int p4), .val (.int (1 : Int32)), .val (.ref b19), .val (.ref b22), .val (.int (1 : Int32)), .val (.int (nar .byte (nar .byte ((p1).toInt8.toInt32)))), .unset] [(.ref b22)])) rfl (by rw [hml]; rfl) (Steps.refl _) (argsL := []) (rest := []) (lenOf pd_3 rfl) rfl (by show 2 * 0 + _ ≤ _; exact Nat.le_of_eq rfl) (hb hby at_171) (fun _ _ => ⟨rfl, rfl, (by decide : 3 + 0 ≤ _), (by decide : 8 + 0 ≤ _)⟩)
    dsimp only [Pt.U, Pt.locs, Pt.cells, Pt.slots] at X38 l38 y38 z38 st38 hQ38
    subst l38 y38 z38
    obtain ⟨rfl, Nq38, e38⟩ := hQ38
    have N38 := Fr.app N34 Nq38
    have P41 : ∀ t, Steps p.tables e below (T38.setTop (mkF m 203 #[.val (.int p0), .val (.int p1), .val (.int p2), .val (.int p3), .val (.int p4), .val (.int (1 : Int32)), .val (.ref b19), .val (.ref b22), .val (.int (1 : Int32)), .val (.int (nar .byte (nar .byte ((p1).toInt8.toInt32)))), .unset] [(.int (1 : Int32))])) t → Steps p.tables e below (s₁.setTop (entryFrame m #[(.int p0), (.int p1), (.int p2), (.int p3), (.int p4)] maxLocals)) t := by
      intro t kk
      refine P37 _ ?_
      show Steps p.tables e below (T34.setTop (mkF m 166 #[.val (.int p0), .val (.int p1), .val (.int p2), .val (.int p3), .val (.int p4), .val (.int (1 : Int32)), .val (.ref b19), .val (.ref b22), .val (.int (1 : Int32)), .val (.int (nar .byte (nar .byte ((p1).toInt8.toInt32)))), .unset] [(.int (1 : Int32))])) _
      refine XS.ifNo X34.here hx rfl (hb hby at_166) rfl (XT.i0_eq_f (by decide)) ?_
      show Steps p.tables e below (T34.setTop (mkF m 169 #[.val (.int p0), .val (.int p1), .val (.int p2), .val (.int p3), .val (.int p4), .val (.int (1 : Int32)), .val (.ref b19), .val (.ref b22), .val (.int (1 : Int32)), .val (.int (nar .byte (nar .byte ((p1).toInt8.toInt32)))), .unset] [])) _
      refine XS.aload X34.here hx rfl (hb hby at_169) rfl rfl ?_
      show Steps p.tables e below (T34.setTop (mkF m 171 #[.val (.int p0), .val (.int p1), .val (.int p2), .val (.int p3), .val (.int p4), .val (.int (1 : Int32)), .val (.ref b19), .val (.ref b22), .val (.int (1 : Int32)), .val (.int (nar .byte (nar .byte ((p1).toInt8.toInt32)))), .unset] [(.ref b22)])) _
      refine st38.trans ?_
      show Steps p.tables e below (T38.setTop (mkF m 174 #[.val (.int p0), .val (.int p1), .val (.int p2), .val (.int p3), .val (.int p4), .val (.int (1 : Int32)), .val (.ref b19), .val (.ref b22), .val (.int (1 : Int32)), .val (.int (nar .byte (nar .byte ((p1).toInt8.toInt32)))), .unset] [(.int (F5 (1 : Int32) (1 : Int32)))])) _
      refine XS.iload X38.here hx rfl (hb hby at_174) rfl ?_
      show Steps p.tables e below (T38.setTop (mkF m 176 #[.val (.int p0), .val (.int p1), .val (.int p2), .val (.int p3), .val (.int p4), .val (.int (1 : Int32)), .val (.ref b19), .val (.ref b22), .val (.int (1 : Int32)), .val (.int (nar .byte (nar .byte ((p1).toInt8.toInt32)))), .unset] [(.int (1 : Int32)), (.int (F5 (1 : Int32) (1 : Int32)))])) _
      refine XS.iconst X38.here hx rfl (hb hby at_176) ?_
      show Steps p.tables e below (T38.setTop (mkF m 177 #[.val (.int p0), .val (.int p1), .val (.int p2), .val (.int p3), .val (.int p4), .val (.int (1 : Int32)), .val (.ref b19), .val (.ref b22), .val (.int (1 : Int32)), .val (.int (nar .byte (nar .byte ((p1).toInt8.toInt32)))), .unset] [(.int (1 : Int32)), (.int (1 : Int32)), (.int (F5 (1 : Int32) (1 : Int32)))])) _
      refine XS.icmpNo X38.here hx rfl (hb hby at_177) rfl (XT.ii_ne_f rfl) ?_
      show Steps p.tables e below (T38.setTop (mkF m 180 #[.val (.int p0), .val (.int p1), .val (.int p2), .val (.int p3), .val (.int p4), .val (.int (1 : Int32)), .val (.ref b19), .val (.ref b22), .val (.int (1 : Int32)), .val (.int (nar .byte (nar .byte ((p1).toInt8.toInt32)))), .unset] [(.int (F5 (1 : Int32) (1 : Int32)))])) _
      refine XS.iconst X38.here hx rfl (hb hby at_180) ?_
      show Steps p.tables e below (T38.setTop (mkF m 181 #[.val (.int p0), .val (.int p1), .val (.int p2), .val (.int p3), .val (.int p4), .val (.int (1 : Int32)), .val (.ref b19), .val (.ref b22), .val (.int (1 : Int32)), .val (.int (nar .byte (nar .byte ((p1).toInt8.toInt32)))), .unset] [(.int (1 : Int32)), (.int (F5 (1 : Int32) (1 : Int32)))])) _
      refine XS.goto X38.here hx rfl (pc0 := 181) (pc' := 185) rfl (hb hby at_181) (by decide) (by decide) ?_
      show Steps p.tables e below (T38.setTop (mkF m 185 #[.val (.int p0), .val (.int p1), .val (.int p2), .val (.int p3), .val (.int p4), .val (.int (1 : Int32)), .val (.ref b19), .val (.ref b22), .val (.int (1 : Int32)), .val (.int (nar .byte (nar .byte ((p1).toInt8.toInt32)))), .unset] [(.int (1 : Int32)), (.int (F5 (1 : Int32) (1 : Int32)))])) _
      refine XS.icmpNo X38.here hx rfl (hb hby at_185) rfl (XT.ii_ne_f (by decide)) ?_
      show Steps p.tables e below (T38.setTop (mkF m 188 #[.val (.int p0), .val (.int p1), .val (.int p2), .val (.int p3), .val (.int p4), .val (.int (1 : Int32)), .val (.ref b19), .val (.ref b22), .val (.int (1 : Int32)), .val (.int (nar .byte (nar .byte ((p1).toInt8.toInt32)))), .unset] [])) _
      refine XS.iconst X38.here hx rfl (hb hby at_188) ?_
      show Steps p.tables e below (T38.setTop (mkF m 189 #[.val (.int p0), .val (.int p1), .val (.int p2), .val (.int p3), .val (.int p4), .val (.int (1 : Int32)), .val (.ref b19), .val (.ref b22), .val (.int (1 : Int32)), .val (.int (nar .byte (nar .byte ((p1).toInt8.toInt32)))), .unset] [(.int (1 : Int32))])) _
      refine XS.goto X38.here hx rfl (pc0 := 189) (pc' := 193) rfl (hb hby at_189) (by decide) (by decide) ?_
      show Steps p.tables e below (T38.setTop (mkF m 193 #[.val (.int p0), .val (.int p1), .val (.int p2), .val (.int p3), .val (.int p4), .val (.int (1 : Int32)), .val (.ref b19), .val (.ref b22), .val (.int (1 : Int32)), .val (.int (nar .byte (nar .byte ((p1).toInt8.toInt32)))), .unset] [(.int (1 : Int32))])) _
      refine XS.istore X38.here hx rfl (hb hby at_193) rfl (l' := #[.val (.int p0), .val (.int p1), .val (.int p2), .val (.int p3), .val (.int p4), .val (.int (1 : Int32)), .val (.ref b19), .val (.ref b22), .val (.int (1 : Int32)), .val (.int (nar .byte (nar .byte ((p1).toInt8.toInt32)))), .unset]) rfl ?_
      show Steps p.tables e below (T38.setTop (mkF m 195 #[.val (.int p0), .val (.int p1), .val (.int p2), .val (.int p3), .val (.int p4), .val (.int (1 : Int32)), .val (.ref b19), .val (.ref b22), .val (.int (1 : Int32)), .val (.int (nar .byte (nar .byte ((p1).toInt8.toInt32)))), .unset] [])) _
      refine XS.iload X38.here hx rfl (hb hby at_195) rfl ?_
      show Steps p.tables e below (T38.setTop (mkF m 197 #[.val (.int p0), .val (.int p1), .val (.int p2), .val (.int p3), .val (.int p4), .val (.int (1 : Int32)), .val (.ref b19), .val (.ref b22), .val (.int (1 : Int32)), .val (.int (nar .byte (nar .byte ((p1).toInt8.toInt32)))), .unset] [(.int (1 : Int32))])) _
      refine XS.iconst X38.here hx rfl (hb hby at_197) ?_
      show Steps p.tables e below (T38.setTop (mkF m 198 #[.val (.int p0), .val (.int p1), .val (.int p2), .val (.int p3), .val (.int p4), .val (.int (1 : Int32)), .val (.ref b19), .val (.ref b22), .val (.int (1 : Int32)), .val (.int (nar .byte (nar .byte ((p1).toInt8.toInt32)))), .unset] [(.int (1 : Int32)), (.int (1 : Int32))])) _
      refine XS.icmpNo X38.here hx rfl (hb hby at_198) rfl (XT.ii_ne_f rfl) ?_
      show Steps p.tables e below (T38.setTop (mkF m 201 #[.val (.int p0), .val (.int p1), .val (.int p2), .val (.int p3), .val (.int p4), .val (.int (1 : Int32)), .val (.ref b19), .val (.ref b22), .val (.int (1 : Int32)), .val (.int (nar .byte (nar .byte ((p1).toInt8.toInt32)))), .unset] [])) _
      refine XS.iload X38.here hx rfl (hb hby at_201) rfl ?_
      show Steps p.tables e below (T38.setTop (mkF m 203 #[.val (.int p0), .val (.int p1), .val (.int p2), .val (.int p3), .val (.int p4), .val (.int (1 : Int32)), .val (.ref b19), .val (.ref b22), .val (.int (1 : Int32)), .val (.int (nar .byte (nar .byte ((p1).toInt8.toInt32)))), .unset] [(.int (1 : Int32))])) _
      exact kk
    obtain ⟨fs, hr, hrun, hended, hW, hsame⟩ := X38.leave (v := some (.int (1 : Int32))) (fun h => by rw [Bd.returns] at h; cases h)
    refine ⟨_, _, P41 _ ?_, hrun, hended, _, _, rfl, ?_, ⟨_, rfl⟩, hW, hsame.mono (by decide) (by decide)⟩
    · exact retN X38 hx (t := .boolean) Bd.returns (by simp) (hb hby at_203) hr
    · exact ⟨rfl, N38⟩
  · skip
    have P42 : ∀ t, Steps p.tables e below (s₁.setTop (mkF m 8 #[.val (.int p0), .val (.int p1), .val (.int p2), .val (.int p3), .val (.int p4), .val (.int (2 : Int32)), .unset, .unset, .unset, .unset, .unset] [])) t → Steps p.tables e below (s₁.setTop (entryFrame m #[(.int p0), (.int p1), (.int p2), (.int p3), (.int p4)] maxLocals)) t := by
      intro t kk
      refine P1 _ ?_
      rw [hs2]
      exact kk
    obtain ⟨T43, h43, k43, X43, e43, E43, A43, st43⟩ := newP X0 hx hZ (hw _ (List.mem_of_getElem? (i := 1) rfl)) e0 (g := (mkF m 10 #[.val (.int p0), .val (.int p1), .val (.int p2), .val (.int p3), .val (.int p4), .val (.int (2 : Int32)), .unset, .unset, .unset, .unset, .unset] [(.int (2 : Int32))])) rfl (hb hby at_10) rfl (by decide) (cap := 2) (by decide) (by decide) (by decide) (by decide)
    obtain ⟨b43, g_b43⟩ : ∃ z, z = h0.size := ⟨_, rfl⟩
    rw [← g_b43] at A43 st43
    have ge_b43 : n0 ≤ b43 := Nat.le_trans Z0 (Nat.le_of_eq g_b43.symm)
    have sz_b43 : h0.size ≤ b43 := Nat.le_trans (Keep.refl h0 []).1 (Nat.le_of_eq g_b43.symm)
    have V43 : Arv Z h43 b43 k43 .byte (2 : Int32) [(.int (0 : Int32)), (.int (0 : Int32))] (.int (0 : Int32)) := (Arv.new A43 (by decide)).pad (pad_rep [] (.int (0 : Int32)) 2)
    obtain ⟨cl_a44, Ar_a44, q_a44, S_a44, N_a44, H_a44, G_a44⟩ := id V43
    have hin_a44 : ¬ ((0 : Int32) < 0 ∨ cl_a44.slots.size ≤ ((0 : Int32)).toNatClampNeg) := inb_of S_a44 ⟨by decide, by decide⟩
    obtain ⟨T45, h45, X45, e45, W45, st45⟩ := stB X43 hx hZ e43 Ar_a44 (j := (0 : Int32)) hin_a44 (g := (mkF m 24 #[.val (.int p0), .val (.int p1), .val (.int p2), .val (.int p3), .val (.int p4), .val (.int (2 : Int32)), .val (.ref b43), .unset, .unset, .unset, .unset] [(.int ((p1).toInt8.toInt32)), (.int (0 : Int32)), (.ref b43)])) rfl rfl (hb hby at_24)
    have V45 : Arv Z h45 b43 k43 .byte (2 : Int32) [(.int (nar .byte ((p1).toInt8.toInt32))), (.int (0 : Int32))] (.int (0 : Int32)) := Arv.set Ar_a44 q_a44 S_a44 N_a44 H_a44 G_a44 (fits_nar_byte _) W45 0 rfl (Nat.le_of_ble_eq_true rfl)
    have N45 := Fr.snoc X45 N0 ge_b43
    obtain ⟨cl_a46, Ar_a46, q_a46, S_a46, N_a46, H_a46, G_a46⟩ := id V45
    have hin_a46 : ¬ ((1 : Int32) < 0 ∨ cl_a46.slots.size ≤ ((1 : Int32)).toNatClampNeg) := inb_of S_a46 ⟨by decide, by decide⟩
    obtain ⟨T47, h47, X47, e47, W47, st47⟩ := stB X45 hx hZ e45 Ar_a46 (j := (1 : Int32)) hin_a46 (g := (mkF m 36 #[.val (.int p0), .val (.int p1), .val (.int p2), .val (.int p3), .val (.int p4), .val (.int (2 : Int32)), .val (.ref b43), .unset, .unset, .unset, .unset] [(.int ((p2).toInt8.toInt32)), (.int (1 : Int32)), (.ref b43)])) rfl rfl (hb hby at_36)
    have V47 : Arv Z h47 b43 k43 .byte (2 : Int32) [(.int (nar .byte ((p1).toInt8.toInt32))), (.int (nar .byte ((p2).toInt8.toInt32)))] (.int (0 : Int32)) := Arv.set Ar_a46 q_a46 S_a46 N_a46 H_a46 G_a46 (fits_nar_byte _) W47 1 rfl (Nat.le_of_ble_eq_true rfl)
    have N47 := Fr.snoc X47 N45 ge_b43
    obtain ⟨T48, h48, X48, e48, E48, A48, D48, -, st48⟩ := newO X47 hx hZ hown (hw _ (List.mem_of_getElem? (i := 2) rfl)) (hw _ (List.mem_of_getElem? (i := 3) rfl)) (hw _ (List.mem_of_getElem? (i := 4) rfl)) e47 (g := (mkF m 62 #[.val (.int p0), .val (.int p1), .val (.int p2), .val (.int p3), .val (.int p4), .val (.int (2 : Int32)), .val (.ref b43), .unset, .unset, .unset, .unset] [])) rfl (hb hby at_62) (by decide) (by decide)
    have z49 : n0 ≤ _ := (Nat.le_trans (Nat.le_trans (Nat.le_trans Z0 E43.1) (Keep.of_wr W45).1) (Keep.of_wr W47).1)
    have k50 : Keep h0 h47 [] := (Keep.wr (Keep.wr (Keep.ext (Keep.refl h0 []) E43) W45 (Or.inr sz_b43)) W47 (Or.inr sz_b43))
    obtain ⟨b48, g_b48⟩ : ∃ z, z = h47.size := ⟨_, rfl⟩
    rw [← g_b48] at A48 D48 st48
    have ne_b43_b48 : b43 ≠ b48 := Nat.ne_of_lt (Nat.lt_of_lt_of_le V47.lt (Nat.le_of_eq g_b48.symm))
    have ge_b48 : n0 ≤ b48 := Nat.le_trans z49 (Nat.le_of_eq g_b48.symm)
    have sz_b48 : h0.size ≤ b48 := Nat.le_trans k50.1 (Nat.le_of_eq g_b48.symm)
    have F48_36 : Fld Z h48 b48 "com/example/meterwright/meterwright/RecordBody$Reader" "texts" "Ljava/util/List;" .null := D48 (Or.inr (hw _ (List.mem_of_getElem? (i := 36) rfl))) (ty := (.object "java/util/List")) (by decide)
    have F48_38 : Fld Z h48 b48 "com/example/meterwright/meterwright/RecordBody$Reader" "bytes" "[B" .null := D48 (Or.inr (hw _ (List.mem_of_getElem? (i := 38) rfl))) (ty := (.array .byte)) (by decide)
    have F48_45 : Fld Z h48 b48 "com/example/meterwright/meterwright/RecordBody$Reader" "position" "I" (.int (0 : Int32)) := D48 (Or.inl (hw _ (List.mem_of_getElem? (i := 45) rfl))) (ty := .int) (by decide)
    have f52 := (Sta.ext E48 (Sta.wr W47 (Sta.wr W45 (Sta.ext E43 pr0))))
    have z53 : n0 ≤ _ := (Nat.le_trans z49 E48.1)
    obtain ⟨_, _, ⟨T51, L51, k51, n51⟩, -, X51, ⟨Lc51, hQ51, l51, y51, z51⟩, st51⟩ := X48.specialBack hx (y := (⟨"com/example/meterwright/meterwright/RecordBody$Reader", "<init>", "([B)V"⟩ : MethodName)) rfl hown (mvT hZ (hw _ (List.mem_of_getElem? (i := 5) rfl))) (mvT hZ (hw _ (List.mem_of_getElem? (i := 6) rfl))) (mvT hZ (hw _ (List.mem_of_getElem? (i := 7) rfl))) (by decide) (backOf (W := 1) (rm4 l Z a0 hw [] b48 b43 sd h48 n0 z53 A48 F48_36 F48_38 F48_45 ge_b48 f52) hZ (hw _ (List.mem_of_getElem? (i := 7) rfl)) (hw _ (List.mem_of_getElem? (i := 4) rfl)) (by decide) (by decide)) (g := (mkF m 68 #[.val (.int p0), .val (.int p1), .val (.int p2), .val (.int p3), .val (.int p4), .val (.int (2 : Int32)), .val (.ref b43), .unset, .unset, .unset, .unset] [(.ref b43), (.ref b48), (.ref b48)])) rfl (by rw [hml]; rfl) (Steps.refl _) (a := b48) (argsL := [(.ref b43)]) (rest := [(.ref b48)]) (lenOf pd_2 rfl) rfl (by show 2 * 0 + _ ≤ _; exact Nat.le_of_eq rfl) (hb hby at_68) (fun _ _ => ⟨rfl, e48, (by decide : 2 + 1 ≤ _), (by decide : 6 + 3 ≤ _)⟩)
    dsimp only [Pt.U, Pt.locs, Pt.cells, Pt.slots] at X51 l51 y51 z51 st51 hQ51
    subst l51 y51 z51
    obtain ⟨rfl, Nq51, K51, q51_0, q51_1⟩ := hQ51
    have N51 := Fr.app N47 Nq51
    have P54 : ∀ t, Steps p.tables e below (T51.setTop (mkF m 75 #[.val (.int p0), .val (.int p1), .val (.int p2), .val (.int p3), .val (.int p4), .val (.int (2 : Int32)), .val (.ref b43), .val (.ref b48), .unset, .unset, .unset] [(.ref b48)])) t → Steps p.tables e below (s₁.setTop (entryFrame m #[(.int p0), (.int p1), (.int p2), (.int p3), (.int p4)] maxLocals)) t := by
      intro t kk
      refine P42 _ ?_
      show Steps p.tables e below (s₁.setTop (mkF m 8 #[.val (.int p0), .val (.int p1), .val (.int p2), .val (.int p3), .val (.int p4), .val (.int (2 : Int32)), .unset, .unset, .unset, .unset, .unset] [])) _
      refine XS.iload X0.here hx rfl (hb hby at_8) rfl ?_
      show Steps p.tables e below (s₁.setTop (mkF m 10 #[.val (.int p0), .val (.int p1), .val (.int p2), .val (.int p3), .val (.int p4), .val (.int (2 : Int32)), .unset, .unset, .unset, .unset, .unset] [(.int (2 : Int32))])) _
      refine st43 _ ?_
      show Steps p.tables e below (T43.setTop (mkF m 12 #[.val (.int p0), .val (.int p1), .val (.int p2), .val (.int p3), .val (.int p4), .val (.int (2 : Int32)), .unset, .unset, .unset, .unset, .unset] [(.ref b43)])) _
      refine XS.astore X43.here hx rfl (hb hby at_12) rfl rfl (l' := #[.val (.int p0), .val (.int p1), .val (.int p2), .val (.int p3), .val (.int p4), .val (.int (2 : Int32)), .val (.ref b43), .unset, .unset, .unset, .unset]) rfl ?_
      show Steps p.tables e below (T43.setTop (mkF m 14 #[.val (.int p0), .val (.int p1), .val (.int p2), .val (.int p3), .val (.int p4), .val (.int (2 : Int32)), .val (.ref b43), .unset, .unset, .unset, .unset] [])) _
      refine XS.iload X43.here hx rfl (hb hby at_14) rfl ?_
      show Steps p.tables e below (T43.setTop (mkF m 16 #[.val (.int p0), .val (.int p1), .val (.int p2), .val (.int p3), .val (.int p4), .val (.int (2 : Int32)), .val (.ref b43), .unset, .unset, .unset, .unset] [(.int (2 : Int32))])) _
      refine XS.ifNo X43.here hx rfl (hb hby at_16) rfl (XT.i0_le_f (by decide)) ?_
      show Steps p.tables e below (T43.setTop (mkF m 19 #[.val (.int p0), .val (.int p1), .val (.int p2), .val (.int p3), .val (.int p4), .val (.int (2 : Int32)), .val (.ref b43), .unset, .unset, .unset, .unset] [])) _
      refine XS.aload X43.here hx rfl (hb hby at_19) rfl rfl ?_
      show Steps p.tables e below (T43.setTop (mkF m 21 #[.val (.int p0), .val (.int p1), .val (.int p2), .val (.int p3), .val (.int p4), .val (.int (2 : Int32)), .val (.ref b43), .unset, .unset, .unset, .unset] [(.ref b43)])) _
      refine XS.iconst X43.here hx rfl (hb hby at_21) ?_
      show Steps p.tables e below (T43.setTop (mkF m 22 #[.val (.int p0), .val (.int p1), .val (.int p2), .val (.int p3), .val (.int p4), .val (.int (2 : Int32)), .val (.ref b43), .unset, .unset, .unset, .unset] [(.int (0 : Int32)), (.ref b43)])) _
      refine XS.iloadN X43.here hx rfl (hb hby at_22) rfl ?_
      show Steps p.tables e below (T43.setTop (mkF m 23 #[.val (.int p0), .val (.int p1), .val (.int p2), .val (.int p3), .val (.int p4), .val (.int (2 : Int32)), .val (.ref b43), .unset, .unset, .unset, .unset] [(.int p1), (.int (0 : Int32)), (.ref b43)])) _
      refine XS.i2b X43.here hx rfl (hb hby at_23) rfl ?_
      show Steps p.tables e below (T43.setTop (mkF m 24 #[.val (.int p0), .val (.int p1), .val (.int p2), .val (.int p3), .val (.int p4), .val (.int (2 : Int32)), .val (.ref b43), .unset, .unset, .unset, .unset] [(.int ((p1).toInt8.toInt32)), (.int (0 : Int32)), (.ref b43)])) _
      refine st45 _ ?_
      show Steps p.tables e below (T45.setTop (mkF m 25 #[.val (.int p0), .val (.int p1), .val (.int p2), .val (.int p3), .val (.int p4), .val (.int (2 : Int32)), .val (.ref b43), .unset, .unset, .unset, .unset] [])) _
      refine XS.iload X45.here hx rfl (hb hby at_25) rfl ?_
      show Steps p.tables e below (T45.setTop (mkF m 27 #[.val (.int p0), .val (.int p1), .val (.int p2), .val (.int p3), .val (.int p4), .val (.int (2 : Int32)), .val (.ref b43), .unset, .unset, .unset, .unset] [(.int (2 : Int32))])) _
      refine XS.iconst X45.here hx rfl (hb hby at_27) ?_
      show Steps p.tables e below (T45.setTop (mkF m 28 #[.val (.int p0), .val (.int p1), .val (.int p2), .val (.int p3), .val (.int p4), .val (.int (2 : Int32)), .val (.ref b43), .unset, .unset, .unset, .unset] [(.int (1 : Int32)), (.int (2 : Int32))])) _
      refine XS.icmpNo X45.here hx rfl (hb hby at_28) rfl (XT.ii_le_f (by decide)) ?_
      show Steps p.tables e below (T45.setTop (mkF m 31 #[.val (.int p0), .val (.int p1), .val (.int p2), .val (.int p3), .val (.int p4), .val (.int (2 : Int32)), .val (.ref b43), .unset, .unset, .unset, .unset] [])) _
      refine XS.aload X45.here hx rfl (hb hby at_31) rfl rfl ?_
      show Steps p.tables e below (T45.setTop (mkF m 33 #[.val (.int p0), .val (.int p1), .val (.int p2), .val (.int p3), .val (.int p4), .val (.int (2 : Int32)), .val (.ref b43), .unset, .unset, .unset, .unset] [(.ref b43)])) _
      refine XS.iconst X45.here hx rfl (hb hby at_33) ?_
      show Steps p.tables e below (T45.setTop (mkF m 34 #[.val (.int p0), .val (.int p1), .val (.int p2), .val (.int p3), .val (.int p4), .val (.int (2 : Int32)), .val (.ref b43), .unset, .unset, .unset, .unset] [(.int (1 : Int32)), (.ref b43)])) _
      refine XS.iloadN X45.here hx rfl (hb hby at_34) rfl ?_
      show Steps p.tables e below (T45.setTop (mkF m 35 #[.val (.int p0), .val (.int p1), .val (.int p2), .val (.int p3), .val (.int p4), .val (.int (2 : Int32)), .val (.ref b43), .unset, .unset, .unset, .unset] [(.int p2), (.int (1 : Int32)), (.ref b43)])) _
      refine XS.i2b X45.here hx rfl (hb hby at_35) rfl ?_
      show Steps p.tables e below (T45.setTop (mkF m 36 #[.val (.int p0), .val (.int p1), .val (.int p2), .val (.int p3), .val (.int p4), .val (.int (2 : Int32)), .val (.ref b43), .unset, .unset, .unset, .unset] [(.int ((p2).toInt8.toInt32)), (.int (1 : Int32)), (.ref b43)])) _
      refine st47 _ ?_
      show Steps p.tables e below (T47.setTop (mkF m 37 #[.val (.int p0), .val (.int p1), .val (.int p2), .val (.int p3), .val (.int p4), .val (.int (2 : Int32)), .val (.ref b43), .unset, .unset, .unset, .unset] [])) _
      refine XS.iload X47.here hx rfl (hb hby at_37) rfl ?_
      show Steps p.tables e below (T47.setTop (mkF m 39 #[.val (.int p0), .val (.int p1), .val (.int p2), .val (.int p3), .val (.int p4), .val (.int (2 : Int32)), .val (.ref b43), .unset, .unset, .unset, .unset] [(.int (2 : Int32))])) _
      refine XS.iconst X47.here hx rfl (hb hby at_39) ?_
      show Steps p.tables e below (T47.setTop (mkF m 40 #[.val (.int p0), .val (.int p1), .val (.int p2), .val (.int p3), .val (.int p4), .val (.int (2 : Int32)), .val (.ref b43), .unset, .unset, .unset, .unset] [(.int (2 : Int32)), (.int (2 : Int32))])) _
      refine XS.icmpYes X47.here hx rfl (pc0 := 40) (pc' := 49) rfl (hb hby at_40) rfl (XT.ii_le_t (by decide)) (by decide) (by decide) ?_
      show Steps p.tables e below (T47.setTop (mkF m 49 #[.val (.int p0), .val (.int p1), .val (.int p2), .val (.int p3), .val (.int p4), .val (.int (2 : Int32)), .val (.ref b43), .unset, .unset, .unset, .unset] [])) _
      refine XS.iload X47.here hx rfl (hb hby at_49) rfl ?_
      show Steps p.tables e below (T47.setTop (mkF m 51 #[.val (.int p0), .val (.int p1), .val (.int p2), .val (.int p3), .val (.int p4), .val (.int (2 : Int32)), .val (.ref b43), .unset, .unset, .unset, .unset] [(.int (2 : Int32))])) _
      refine XS.iconst X47.here hx rfl (hb hby at_51) ?_
      show Steps p.tables e below (T47.setTop (mkF m 52 #[.val (.int p0), .val (.int p1), .val (.int p2), .val (.int p3), .val (.int p4), .val (.int (2 : Int32)), .val (.ref b43), .unset, .unset, .unset, .unset] [(.int (3 : Int32)), (.int (2 : Int32))])) _
      refine XS.icmpYes X47.here hx rfl (pc0 := 52) (pc' := 62) rfl (hb hby at_52) rfl (XT.ii_le_t (by decide)) (by decide) (by decide) ?_
      show Steps p.tables e below (T47.setTop (mkF m 62 #[.val (.int p0), .val (.int p1), .val (.int p2), .val (.int p3), .val (.int p4), .val (.int (2 : Int32)), .val (.ref b43), .unset, .unset, .unset, .unset] [])) _
      refine st48 _ ?_
      show Steps p.tables e below (T48.setTop (mkF m 65 #[.val (.int p0), .val (.int p1), .val (.int p2), .val (.int p3), .val (.int p4), .val (.int (2 : Int32)), .val (.ref b43), .unset, .unset, .unset, .unset] [(.ref b48)])) _
      refine XS.dup X48.here hx rfl (hb hby at_65) rfl rfl ?_
      show Steps p.tables e below (T48.setTop (mkF m 66 #[.val (.int p0), .val (.int p1), .val (.int p2), .val (.int p3), .val (.int p4), .val (.int (2 : Int32)), .val (.ref b43), .unset, .unset, .unset, .unset] [(.ref b48), (.ref b48)])) _
      refine XS.aload X48.here hx rfl (hb hby at_66) rfl rfl ?_
      show Steps p.tables e below (T48.setTop (mkF m 68 #[.val (.int p0), .val (.int p1), .val (.int p2), .val (.int p3), .val (.int p4), .val (.int (2 : Int32)), .val (.ref b43), .unset, .unset, .unset, .unset] [(.ref b43), (.ref b48), (.ref b48)])) _
      refine st51.trans ?_
      show Steps p.tables e below (T51.setTop (mkF m 71 #[.val (.int p0), .val (.int p1), .val (.int p2), .val (.int p3), .val (.int p4), .val (.int (2 : Int32)), .val (.ref b43), .unset, .unset, .unset, .unset] [(.ref b48)])) _
      refine XS.astore X51.here hx rfl (hb hby at_71) rfl rfl (l' := #[.val (.int p0), .val (.int p1), .val (.int p2), .val (.int p3), .val (.int p4), .val (.int (2 : Int32)), .val (.ref b43), .val (.ref b48), .unset, .unset, .unset]) rfl ?_
      show Steps p.tables e below (T51.setTop (mkF m 73 #[.val (.int p0), .val (.int p1), .val (.int p2), .val (.int p3), .val (.int p4), .val (.int (2 : Int32)), .val (.ref b43), .val (.ref b48), .unset, .unset, .unset] [])) _
      refine XS.aload X51.here hx rfl (hb hby at_73) rfl rfl ?_
      show Steps p.tables e below (T51.setTop (mkF m 75 #[.val (.int p0), .val (.int p1), .val (.int p2), .val (.int p3), .val (.int p4), .val (.int (2 : Int32)), .val (.ref b43), .val (.ref b48), .unset, .unset, .unset] [(.ref b48)])) _
      exact kk
    have f56 := (Arv.keep (V47.ext E48) K51 (ninS ne_b43_b48 nin0))
    have z57 : n0 ≤ _ := (Nat.le_trans z53 K51.1)
    have f58 := (Exa.keep A48 K51)
    obtain ⟨cq55, kq55, q55a, q55b, q55c⟩ := isOf hZ rfl f58
    obtain ⟨_, _, ⟨T55, L55, k55, n55⟩, -, X55, ⟨Lc55, hQ55, l55, y55, z55⟩, st55⟩ := X51.virtualBack hx (y := (⟨"com/example/meterwright/meterwright/RecordBody$Reader", "atEnd", "()Z"⟩ : MethodName)) (z := (⟨"com/example/meterwright/meterwright/RecordBody$Reader", "atEnd", "()Z"⟩ : MethodName)) hown (mvT hZ (hw _ (List.mem_of_getElem? (i := 39) rfl))) (mvT hZ (hw _ (List.mem_of_getElem? (i := 40) rfl))) (notFace_of_selects (args := #[]) (mvT hZ (hw _ (List.mem_of_getElem? (i := 42) rfl)))) (mvT hZ (hw _ (List.mem_of_getElem? (i := 42) rfl))) (mvT hZ (hw _ (List.mem_of_getElem? (i := 41) rfl))) (by decide) (backOf (W := 0) (rm5 l Z a0 hw [] b48 (0 : Int32) b43 k43 (2 : Int32) [(.int (nar .byte ((p1).toInt8.toInt32))), (.int (nar .byte ((p2).toInt8.toInt32)))] (.int (0 : Int32)) T51.heap n0 z57 q51_1 q51_0 f56) hZ (hw _ (List.mem_of_getElem? (i := 43) rfl)) (hw _ (List.mem_of_getElem? (i := 4) rfl)) (by decide) (by decide)) q55a q55c (g := (mkF m 75 #[.val (.int p0), .val (.int p1), .val (.int p2), .val (.int p3), .val (.int p4), .val (.int (2 : Int32)), .val (.ref b43), .val (.ref b48), .unset, .unset, .unset] [(.ref b48)])) rfl (by rw [hml]; rfl) (Steps.refl _) (argsL := []) (rest := []) (lenOf pd_3 rfl) rfl (by show 2 * 0 + _ ≤ _; exact Nat.le_of_eq rfl) (hb hby at_75) (fun _ _ => ⟨rfl, rfl, (by decide : 3 + 0 ≤ _), (by decide : 9 + 0 ≤ _)⟩)
    dsimp only [Pt.U, Pt.locs, Pt.cells, Pt.slots] at X55 l55 y55 z55 st55 hQ55
    subst l55 y55 z55
    obtain ⟨rfl, Nq55, e55⟩ := hQ55
    have N55 := Fr.app N51 Nq55
    obtain ⟨cq59, kq59, q59a, q59b, q59c⟩ := isOf hZ e55 f58
    obtain ⟨_, _, ⟨T59, L59, k59, n59⟩, -, X59, ⟨Lc59, hQ59, l59, y59, z59⟩, st59⟩ := X55.virtualBack hx (y := (⟨"com/example/meterwright/meterwright/RecordBody$Reader", "atEnd", "()Z"⟩ : MethodName)) (z := (⟨"com/example/meterwright/meterwright/RecordBody$Reader", "atEnd", "()Z"⟩ : MethodName)) hown (mvT hZ (hw _ (List.mem_of_getElem? (i := 39) rfl))) (mvT hZ (hw _ (List.mem_of_getElem? (i := 40) rfl))) (notFace_of_selects (args := #[]) (mvT hZ (hw _ (List.mem_of_getElem? (i := 42) rfl)))) (mvT hZ (hw _ (List.mem_of_getElem? (i := 42) rfl))) (mvT hZ (hw _ (List.mem_of_getElem? (i := 41) rfl))) (by decide) (backOf (W := 0) (rm5 l Z a0 hw [] b48 (0 : Int32) b43 k43 (2 : Int32) [(.int (nar .byte ((p1).toInt8.toInt32))), (.int (nar .byte ((p2).toInt8.toInt32)))] (.int (0 : Int32)) T51.heap n0 z57 q51_1 q51_0 f56) hZ (hw _ (List.mem_of_getElem? (i := 43) rfl)) (hw _ (List.mem_of_getElem? (i := 4) rfl)) (by decide) (by decide)) q59a q59c (g := (mkF m 105 #[.val (.int p0), .val (.int p1), .val (.int p2), .val (.int p3), .val (.int p4), .val (.int (2 : Int32)), .val (.ref b43), .val (.ref b48), .val (.int (1 : Int32)), .unset, .unset] [(.ref b48)])) rfl (by rw [hml]; rfl) (Steps.refl _) (argsL := []) (rest := []) (lenOf pd_3 rfl) rfl (by show 2 * 0 + _ ≤ _; exact Nat.le_of_eq rfl) (hb hby at_105) (fun _ _ => ⟨rfl, e55, (by decide : 3 + 0 ≤ _), (by decide : 9 + 0 ≤ _)⟩)
    dsimp only [Pt.U, Pt.locs, Pt.cells, Pt.slots] at X59 l59 y59 z59 st59 hQ59
    subst l59 y59 z59
    obtain ⟨rfl, Nq59, e59⟩ := hQ59
    have N59 := Fr.app N55 Nq59
    obtain ⟨cq60, kq60, q60a, q60b, q60c⟩ := isOf hZ e59 f58
    obtain ⟨_, _, ⟨T60, L60, k60, n60⟩, -, X60, ⟨Lc60, hQ60, l60, y60, z60⟩, st60⟩ := X59.virtualBack hx (y := (⟨"com/example/meterwright/meterwright/RecordBody$Reader", "kind", "()B"⟩ : MethodName)) (z := (⟨"com/example/meterwright/meterwright/RecordBody$Reader", "kind", "()B"⟩ : MethodName)) hown (mvT hZ (hw _ (List.mem_of_getElem? (i := 46) rfl))) (mvT hZ (hw _ (List.mem_of_getElem? (i := 47) rfl))) (notFace_of_selects (args := #[]) (mvT hZ (hw _ (List.mem_of_getElem? (i := 49) rfl)))) (mvT hZ (hw _ (List.mem_of_getElem? (i := 49) rfl))) (mvT hZ (hw _ (List.mem_of_getElem? (i := 48) rfl))) (by decide) (backOf (W := 0) (rm6 l Z a0 hw [] b48 (0 : Int32) b43 k43 (2 : Int32) [(.int (nar .byte ((p1).toInt8.toInt32))), (.int (nar .byte ((p2).toInt8.toInt32)))] (.int (0 : Int32)) (nar .byte ((p1).toInt8.toInt32)) T51.heap n0 z57 f58 q51_1 q51_0 f56 ge_b48 ne_b43_b48 ⟨by decide, by decide⟩ rfl) hZ (hw _ (List.mem_of_getElem? (i := 50) rfl)) (hw _ (List.mem_of_getElem? (i := 4) rfl)) (by decide) (by decide)) q60a q60c (g := (mkF m 138 #[.val (.int p0), .val (.int p1), .val (.int p2), .val (.int p3), .val (.int p4), .val (.int (2 : Int32)), .val (.ref b43), .val (.ref b48), .val (.int (1 : Int32)), .unset, .unset] [(.ref b48)])) rfl (by rw [hml]; rfl) (Steps.refl _) (argsL := []) (rest := []) (lenOf pd_4 rfl) rfl (by show 2 * 0 + _ ≤ _; exact Nat.le_of_eq rfl) (hb hby at_138) (fun _ _ => ⟨rfl, e59, (by decide : 3 + 0 ≤ _), (by decide : 9 + 0 ≤ _)⟩)
    dsimp only [Pt.U, Pt.locs, Pt.cells, Pt.slots] at X60 l60 y60 z60 st60 hQ60
    subst l60 y60 z60
    obtain ⟨rfl, Nq60, K60, q60_0, q60_1⟩ := hQ60
    have N60 := Fr.app N59 Nq60
    have q60_0' : Fld Z T60.heap b48 "com/example/meterwright/meterwright/RecordBody$Reader" "position" "I" (.int (1 : Int32)) := q60_0
    have f61 := (Arv.keep f56 K60 (ninS ne_b43_b48 nin0))
    obtain ⟨cl_a62, Ar_a62, q_a62, S_a62, N_a62, H_a62, G_a62⟩ := id f61
    have hin_a62 : ¬ ((0 : Int32) < 0 ∨ cl_a62.slots.size ≤ ((0 : Int32)).toNatClampNeg) := inb_of S_a62 ⟨by decide, by decide⟩
    have hat_a62 := Has.at (v := (.int (nar .byte ((p1).toInt8.toInt32)))) H_a62 hin_a62 rfl
    have P63 : ∀ t, Steps p.tables e below (T60.setTop (mkF m 154 #[.val (.int p0), .val (.int p1), .val (.int p2), .val (.int p3), .val (.int p4), .val (.int (2 : Int32)), .val (.ref b43), .val (.ref b48), .val (.int (1 : Int32)), .val (.int (nar .byte (nar .byte ((p1).toInt8.toInt32)))), .unset] [(.int (nar .byte ((p1).toInt8.toInt32))), (.int (nar .byte (nar .byte ((p1).toInt8.toInt32))))])) t → Steps p.tables e below (s₁.setTop (entryFrame m #[(.int p0), (.int p1), (.int p2), (.int p3), (.int p4)] maxLocals)) t := by
      intro t kk
      refine P54 _ ?_
      show Steps p.tables e below (T51.setTop (mkF m 75 #[.val (.int p0), .val (.int p1), .val (.int p2), .val (.int p3), .val (.int p4), .val (.int (2 : Int32)), .val (.ref b43), .val (.ref b48), .unset, .unset, .unset] [(.ref b48)])) _
      refine st55.trans ?_
      show Steps p.tables e below (T55.setTop (mkF m 78 #[.val (.int p0), .val (.int p1), .val (.int p2), .val (.int p3), .val (.int p4), .val (.int (2 : Int32)), .val (.ref b43), .val (.ref b48), .unset, .unset, .unset] [(.int (F5 (0 : Int32) (2 : Int32)))])) _
      refine XS.iload X55.here hx rfl (hb hby at_78) rfl ?_
      show Steps p.tables e below (T55.setTop (mkF m 80 #[.val (.int p0), .val (.int p1), .val (.int p2), .val (.int p3), .val (.int p4), .val (.int (2 : Int32)), .val (.ref b43), .val (.ref b48), .unset, .unset, .unset] [(.int (2 : Int32)), (.int (F5 (0 : Int32) (2 : Int32)))])) _
      refine XS.ifYes X55.here hx rfl (pc0 := 80) (pc' := 87) rfl (hb hby at_80) rfl (XT.i0_ne_t (by decide)) (by decide) (by decide) ?_
      show Steps p.tables e below (T55.setTop (mkF m 87 #[.val (.int p0), .val (.int p1), .val (.int p2), .val (.int p3), .val (.int p4), .val (.int (2 : Int32)), .val (.ref b43), .val (.ref b48), .unset, .unset, .unset] [(.int (F5 (0 : Int32) (2 : Int32)))])) _
      refine XS.iconst X55.here hx rfl (hb hby at_87) ?_
      show Steps p.tables e below (T55.setTop (mkF m 88 #[.val (.int p0), .val (.int p1), .val (.int p2), .val (.int p3), .val (.int p4), .val (.int (2 : Int32)), .val (.ref b43), .val (.ref b48), .unset, .unset, .unset] [(.int (0 : Int32)), (.int (F5 (0 : Int32) (2 : Int32)))])) _
      refine XS.icmpNo X55.here hx rfl (hb hby at_88) rfl (XT.ii_ne_f (by decide)) ?_
      show Steps p.tables e below (T55.setTop (mkF m 91 #[.val (.int p0), .val (.int p1), .val (.int p2), .val (.int p3), .val (.int p4), .val (.int (2 : Int32)), .val (.ref b43), .val (.ref b48), .unset, .unset, .unset] [])) _
      refine XS.iconst X55.here hx rfl (hb hby at_91) ?_
      show Steps p.tables e below (T55.setTop (mkF m 92 #[.val (.int p0), .val (.int p1), .val (.int p2), .val (.int p3), .val (.int p4), .val (.int (2 : Int32)), .val (.ref b43), .val (.ref b48), .unset, .unset, .unset] [(.int (1 : Int32))])) _
      refine XS.goto X55.here hx rfl (pc0 := 92) (pc' := 96) rfl (hb hby at_92) (by decide) (by decide) ?_
      show Steps p.tables e below (T55.setTop (mkF m 96 #[.val (.int p0), .val (.int p1), .val (.int p2), .val (.int p3), .val (.int p4), .val (.int (2 : Int32)), .val (.ref b43), .val (.ref b48), .unset, .unset, .unset] [(.int (1 : Int32))])) _
      refine XS.istore X55.here hx rfl (hb hby at_96) rfl (l' := #[.val (.int p0), .val (.int p1), .val (.int p2), .val (.int p3), .val (.int p4), .val (.int (2 : Int32)), .val (.ref b43), .val (.ref b48), .val (.int (1 : Int32)), .unset, .unset]) rfl ?_
      show Steps p.tables e below (T55.setTop (mkF m 98 #[.val (.int p0), .val (.int p1), .val (.int p2), .val (.int p3), .val (.int p4), .val (.int (2 : Int32)), .val (.ref b43), .val (.ref b48), .val (.int (1 : Int32)), .unset, .unset] [])) _
      refine XS.iload X55.here hx rfl (hb hby at_98) rfl ?_
      show Steps p.tables e below (T55.setTop (mkF m 100 #[.val (.int p0), .val (.int p1), .val (.int p2), .val (.int p3), .val (.int p4), .val (.int (2 : Int32)), .val (.ref b43), .val (.ref b48), .val (.int (1 : Int32)), .unset, .unset] [(.int (1 : Int32))])) _
      refine XS.ifNo X55.here hx rfl (hb hby at_100) rfl (XT.i0_eq_f (by decide)) ?_
      show Steps p.tables e below (T55.setTop (mkF m 103 #[.val (.int p0), .val (.int p1), .val (.int p2), .val (.int p3), .val (.int p4), .val (.int (2 : Int32)), .val (.ref b43), .val (.ref b48), .val (.int (1 : Int32)), .unset, .unset] [])) _
      refine XS.aload X55.here hx rfl (hb hby at_103) rfl rfl ?_
      show Steps p.tables e below (T55.setTop (mkF m 105 #[.val (.int p0), .val (.int p1), .val (.int p2), .val (.int p3), .val (.int p4), .val (.int (2 : Int32)), .val (.ref b43), .val (.ref b48), .val (.int (1 : Int32)), .unset, .unset] [(.ref b48)])) _
      refine st59.trans ?_
      show Steps p.tables e below (T59.setTop (mkF m 108 #[.val (.int p0), .val (.int p1), .val (.int p2), .val (.int p3), .val (.int p4), .val (.int (2 : Int32)), .val (.ref b43), .val (.ref b48), .val (.int (1 : Int32)), .unset, .unset] [(.int (F5 (0 : Int32) (2 : Int32)))])) _
      refine XS.iload X59.here hx rfl (hb hby at_108) rfl ?_
      show Steps p.tables e below (T59.setTop (mkF m 110 #[.val (.int p0), .val (.int p1), .val (.int p2), .val (.int p3), .val (.int p4), .val (.int (2 : Int32)), .val (.ref b43), .val (.ref b48), .val (.int (1 : Int32)), .unset, .unset] [(.int (2 : Int32)), (.int (F5 (0 : Int32) (2 : Int32)))])) _
      refine XS.ifYes X59.here hx rfl (pc0 := 110) (pc' := 117) rfl (hb hby at_110) rfl (XT.i0_ne_t (by decide)) (by decide) (by decide) ?_
      show Steps p.tables e below (T59.setTop (mkF m 117 #[.val (.int p0), .val (.int p1), .val (.int p2), .val (.int p3), .val (.int p4), .val (.int (2 : Int32)), .val (.ref b43), .val (.ref b48), .val (.int (1 : Int32)), .unset, .unset] [(.int (F5 (0 : Int32) (2 : Int32)))])) _
      refine XS.iconst X59.here hx rfl (hb hby at_117) ?_
      show Steps p.tables e below (T59.setTop (mkF m 118 #[.val (.int p0), .val (.int p1), .val (.int p2), .val (.int p3), .val (.int p4), .val (.int (2 : Int32)), .val (.ref b43), .val (.ref b48), .val (.int (1 : Int32)), .unset, .unset] [(.int (0 : Int32)), (.int (F5 (0 : Int32) (2 : Int32)))])) _
      refine XS.icmpNo X59.here hx rfl (hb hby at_118) rfl (XT.ii_ne_f (by decide)) ?_
      show Steps p.tables e below (T59.setTop (mkF m 121 #[.val (.int p0), .val (.int p1), .val (.int p2), .val (.int p3), .val (.int p4), .val (.int (2 : Int32)), .val (.ref b43), .val (.ref b48), .val (.int (1 : Int32)), .unset, .unset] [])) _
      refine XS.iconst X59.here hx rfl (hb hby at_121) ?_
      show Steps p.tables e below (T59.setTop (mkF m 122 #[.val (.int p0), .val (.int p1), .val (.int p2), .val (.int p3), .val (.int p4), .val (.int (2 : Int32)), .val (.ref b43), .val (.ref b48), .val (.int (1 : Int32)), .unset, .unset] [(.int (1 : Int32))])) _
      refine XS.goto X59.here hx rfl (pc0 := 122) (pc' := 126) rfl (hb hby at_122) (by decide) (by decide) ?_
      show Steps p.tables e below (T59.setTop (mkF m 126 #[.val (.int p0), .val (.int p1), .val (.int p2), .val (.int p3), .val (.int p4), .val (.int (2 : Int32)), .val (.ref b43), .val (.ref b48), .val (.int (1 : Int32)), .unset, .unset] [(.int (1 : Int32))])) _
      refine XS.istore X59.here hx rfl (hb hby at_126) rfl (l' := #[.val (.int p0), .val (.int p1), .val (.int p2), .val (.int p3), .val (.int p4), .val (.int (2 : Int32)), .val (.ref b43), .val (.ref b48), .val (.int (1 : Int32)), .unset, .unset]) rfl ?_
      show Steps p.tables e below (T59.setTop (mkF m 128 #[.val (.int p0), .val (.int p1), .val (.int p2), .val (.int p3), .val (.int p4), .val (.int (2 : Int32)), .val (.ref b43), .val (.ref b48), .val (.int (1 : Int32)), .unset, .unset] [])) _
      refine XS.iload X59.here hx rfl (hb hby at_128) rfl ?_
      show Steps p.tables e below (T59.setTop (mkF m 130 #[.val (.int p0), .val (.int p1), .val (.int p2), .val (.int p3), .val (.int p4), .val (.int (2 : Int32)), .val (.ref b43), .val (.ref b48), .val (.int (1 : Int32)), .unset, .unset] [(.int (2 : Int32))])) _
      refine XS.ifYes X59.here hx rfl (pc0 := 130) (pc' := 136) rfl (hb hby at_130) rfl (XT.i0_ne_t (by decide)) (by decide) (by decide) ?_
      show Steps p.tables e below (T59.setTop (mkF m 136 #[.val (.int p0), .val (.int p1), .val (.int p2), .val (.int p3), .val (.int p4), .val (.int (2 : Int32)), .val (.ref b43), .val (.ref b48), .val (.int (1 : Int32)), .unset, .unset] [])) _
      refine XS.aload X59.here hx rfl (hb hby at_136) rfl rfl ?_
      show Steps p.tables e below (T59.setTop (mkF m 138 #[.val (.int p0), .val (.int p1), .val (.int p2), .val (.int p3), .val (.int p4), .val (.int (2 : Int32)), .val (.ref b43), .val (.ref b48), .val (.int (1 : Int32)), .unset, .unset] [(.ref b48)])) _
      refine st60.trans ?_
      show Steps p.tables e below (T60.setTop (mkF m 141 #[.val (.int p0), .val (.int p1), .val (.int p2), .val (.int p3), .val (.int p4), .val (.int (2 : Int32)), .val (.ref b43), .val (.ref b48), .val (.int (1 : Int32)), .unset, .unset] [(.int (nar .byte (nar .byte ((p1).toInt8.toInt32))))])) _
      refine XS.istore X60.here hx rfl (hb hby at_141) rfl (l' := #[.val (.int p0), .val (.int p1), .val (.int p2), .val (.int p3), .val (.int p4), .val (.int (2 : Int32)), .val (.ref b43), .val (.ref b48), .val (.int (1 : Int32)), .val (.int (nar .byte (nar .byte ((p1).toInt8.toInt32)))), .unset]) rfl ?_
      show Steps p.tables e below (T60.setTop (mkF m 143 #[.val (.int p0), .val (.int p1), .val (.int p2), .val (.int p3), .val (.int p4), .val (.int (2 : Int32)), .val (.ref b43), .val (.ref b48), .val (.int (1 : Int32)), .val (.int (nar .byte (nar .byte ((p1).toInt8.toInt32)))), .unset] [])) _
      refine XS.iload X60.here hx rfl (hb hby at_143) rfl ?_
      show Steps p.tables e below (T60.setTop (mkF m 145 #[.val (.int p0), .val (.int p1), .val (.int p2), .val (.int p3), .val (.int p4), .val (.int (2 : Int32)), .val (.ref b43), .val (.ref b48), .val (.int (1 : Int32)), .val (.int (nar .byte (nar .byte ((p1).toInt8.toInt32)))), .unset] [(.int (1 : Int32))])) _
      refine XS.ifNo X60.here hx rfl (hb hby at_145) rfl (XT.i0_eq_f (by decide)) ?_
      show Steps p.tables e below (T60.setTop (mkF m 148 #[.val (.int p0), .val (.int p1), .val (.int p2), .val (.int p3), .val (.int p4), .val (.int (2 : Int32)), .val (.ref b43), .val (.ref b48), .val (.int (1 : Int32)), .val (.int (nar .byte (nar .byte ((p1).toInt8.toInt32)))), .unset] [])) _
      refine XS.iload X60.here hx rfl (hb hby at_148) rfl ?_
      show Steps p.tables e below (T60.setTop (mkF m 150 #[.val (.int p0), .val (.int p1), .val (.int p2), .val (.int p3), .val (.int p4), .val (.int (2 : Int32)), .val (.ref b43), .val (.ref b48), .val (.int (1 : Int32)), .val (.int (nar .byte (nar .byte ((p1).toInt8.toInt32)))), .unset] [(.int (nar .byte (nar .byte ((p1).toInt8.toInt32))))])) _
      refine XS.aload X60.here hx rfl (hb hby at_150) rfl rfl ?_
      show Steps p.tables e below (T60.setTop (mkF m 152 #[.val (.int p0), .val (.int p1), .val (.int p2), .val (.int p3), .val (.int p4), .val (.int (2 : Int32)), .val (.ref b43), .val (.ref b48), .val (.int (1 : Int32)), .val (.int (nar .byte (nar .byte ((p1).toInt8.toInt32)))), .unset] [(.ref b43), (.int (nar .byte (nar .byte ((p1).toInt8.toInt32))))])) _
      refine XS.iconst X60.here hx rfl (hb hby at_152) ?_
      show Steps p.tables e below (T60.setTop (mkF m 153 #[.val (.int p0), .val (.int p1), .val (.int p2), .val (.int p3), .val (.int p4), .val (.int (2 : Int32)), .val (.ref b43), .val (.ref b48), .val (.int (1 : Int32)), .val (.int (nar .byte (nar .byte ((p1).toInt8.toInt32)))), .unset] [(.int (0 : Int32)), (.ref b43), (.int (nar .byte (nar .byte ((p1).toInt8.toInt32))))])) _
      refine X60.baloadBytes hx (j := (0 : Int32)) (v := (.int (nar .byte ((p1).toInt8.toInt32)))) (Ar_a62.1) (State.isArrayOf_alike hZ.alike Ar_a62.2.1) Ar_a62.2.2 hin_a62 hat_a62 (g := (mkF m 153 #[.val (.int p0), .val (.int p1), .val (.int p2), .val (.int p3), .val (.int p4), .val (.int (2 : Int32)), .val (.ref b43), .val (.ref b48), .val (.int (1 : Int32)), .val (.int (nar .byte (nar .byte ((p1).toInt8.toInt32)))), .unset] [(.int (0 : Int32)), (.ref b43), (.int (nar .byte (nar .byte ((p1).toInt8.toInt32))))])) rfl rfl (hb hby at_153) _ ?_
      show Steps p.tables e below (T60.setTop (mkF m 154 #[.val (.int p0), .val (.int p1), .val (.int p2), .val (.int p3), .val (.int p4), .val (.int (2 : Int32)), .val (.ref b43), .val (.ref b48), .val (.int (1 : Int32)), .val (.int (nar .byte (nar .byte ((p1).toInt8.toInt32)))), .unset] [(.int (nar .byte ((p1).toInt8.toInt32))), (.int (nar .byte (nar .byte ((p1).toInt8.toInt32))))])) _
      exact kk
    have z65 : n0 ≤ _ := (Nat.le_trans z57 K60.1)
    have f66 := (Exa.keep f58 K60)
    obtain ⟨cq64, kq64, q64a, q64b, q64c⟩ := isOf hZ rfl f66
    obtain ⟨_, _, ⟨T64, L64, k64, n64⟩, -, X64, ⟨Lc64, hQ64, l64, y64, z64⟩, st64⟩ := X60.virtualBack hx (y := (⟨"com/example/meterwright/meterwright/RecordBody$Reader", "atEnd", "()Z"⟩ : MethodName)) (z := (⟨"com/example/meterwright/meterwright/RecordBody$Reader", "atEnd", "()Z"⟩ : MethodName)) hown (mvT hZ (hw _ (List.mem_of_getElem? (i := 39) rfl))) (mvT hZ (hw _ (List.mem_of_getElem? (i := 40) rfl))) (notFace_of_selects (args := #[]) (mvT hZ (hw _ (List.mem_of_getElem? (i := 42) rfl)))) (mvT hZ (hw _ (List.mem_of_getElem? (i := 42) rfl))) (mvT hZ (hw _ (List.mem_of_getElem? (i := 41) rfl))) (by decide) (backOf (W := 0) (rm5 l Z a0 hw [] b48 (1 : Int32) b43 k43 (2 : Int32) [(.int (nar .byte ((p1).toInt8.toInt32))), (.int (nar .byte ((p2).toInt8.toInt32)))] (.int (0 : Int32)) T60.heap n0 z65 q60_0' q60_1 f61) hZ (hw _ (List.mem_of_getElem? (i := 43) rfl)) (hw _ (List.mem_of_getElem? (i := 4) rfl)) (by decide) (by decide)) q64a q64c (g := (mkF m 171 #[.val (.int p0), .val (.int p1), .val (.int p2), .val (.int p3), .val (.int p4), .val (.int (2 : Int32)), .val (.ref b43), .val (.ref b48), .val (.int (1 : Int32)), .val (.int (nar .byte (nar .byte ((p1).toInt8.toInt32)))), .unset] [(.ref b48)])) rfl (by rw [hml]; rfl) (Steps.refl _) (argsL := []) (rest := []) (lenOf pd_3 rfl) rfl (by show 2 * 0 + _ ≤ _; exact Nat.le_of_eq rfl) (hb hby at_171) (fun _ _ => ⟨rfl, rfl, (by decide : 3 + 0 ≤ _), (by decide : 9 + 0 ≤ _)⟩)
    dsimp only [Pt.U, Pt.locs, Pt.cells, Pt.slots] at X64 l64 y64 z64 st64 hQ64
    subst l64 y64 z64
    obtain ⟨rfl, Nq64, e64⟩ := hQ64
    have N64 := Fr.app N60 Nq64
    obtain ⟨cl_a67, Ar_a67, q_a67, S_a67, N_a67, H_a67, G_a67⟩ := id f61
    have hin_a67 : ¬ ((1 : Int32) < 0 ∨ cl_a67.slots.size ≤ ((1 : Int32)).toNatClampNeg) := inb_of S_a67 ⟨by decide, by decide⟩
    have hat_a67 := Has.at (v := (.int (nar .byte ((p2).toInt8.toInt32)))) H_a67 hin_a67 rfl
    have P68 : ∀ t, Steps p.tables e below (T64.setTop (mkF m 211 #[.val (.int p0), .val (.int p1), .val (.int p2), .val (.int p3), .val (.int p4), .val (.int (2 : Int32)), .val (.ref b43), .val (.ref b48), .val (.int (1 : Int32)), .val (.int (nar .byte (nar .byte ((p1).toInt8.toInt32)))), .val (.int (-1 : Int32))] [(.int (nar .byte ((p2).toInt8.toInt32)))])) t → Steps p.tables e below (s₁.setTop (entryFrame m #[(.int p0), (.int p1), (.int p2), (.int p3), (.int p4)] maxLocals)) t := by
      intro t kk
      refine P63 _ ?_
      show Steps p.tables e below (T60.setTop (mkF m 154 #[.val (.int p0), .val (.int p1), .val (.int p2), .val (.int p3), .val (.int p4), .val (.int (2 : Int32)), .val (.ref b43), .val (.ref b48), .val (.int (1 : Int32)), .val (.int (nar .byte (nar .byte ((p1).toInt8.toInt32)))), .unset] [(.int (nar .byte ((p1).toInt8.toInt32))), (.int (nar .byte (nar .byte ((p1).toInt8.toInt32))))])) _
      refine XS.icmpNo X60.here hx rfl (hb hby at_154) rfl (XT.ii_ne_f (own_nb _)) ?_
      show Steps p.tables e below (T60.setTop (mkF m 157 #[.val (.int p0), .val (.int p1), .val (.int p2), .val (.int p3), .val (.int p4), .val (.int (2 : Int32)), .val (.ref b43), .val (.ref b48), .val (.int (1 : Int32)), .val (.int (nar .byte (nar .byte ((p1).toInt8.toInt32)))), .unset] [])) _
      refine XS.iconst X60.here hx rfl (hb hby at_157) ?_
      show Steps p.tables e below (T60.setTop (mkF m 158 #[.val (.int p0), .val (.int p1), .val (.int p2), .val (.int p3), .val (.int p4), .val (.int (2 : Int32)), .val (.ref b43), .val (.ref b48), .val (.int (1 : Int32)), .val (.int (nar .byte (nar .byte ((p1).toInt8.toInt32)))), .unset] [(.int (1 : Int32))])) _
      refine XS.goto X60.here hx rfl (pc0 := 158) (pc' := 162) rfl (hb hby at_158) (by decide) (by decide) ?_
      show Steps p.tables e below (T60.setTop (mkF m 162 #[.val (.int p0), .val (.int p1), .val (.int p2), .val (.int p3), .val (.int p4), .val (.int (2 : Int32)), .val (.ref b43), .val (.ref b48), .val (.int (1 : Int32)), .val (.int (nar .byte (nar .byte ((p1).toInt8.toInt32)))), .unset] [(.int (1 : Int32))])) _
      refine XS.istore X60.here hx rfl (hb hby at_162) rfl (l' := #[.val (.int p0), .val (.int p1), .val (.int p2), .val (.int p3), .val (.int p4), .val (.int (2 : Int32)), .val (.ref b43), .val (.ref b48), .val (.int (1 : Int32)), .val (.int (nar .byte (nar .byte ((p1).toInt8.toInt32)))), .unset]) rfl ?_
      show Steps p.tables e below (T60.setTop (mkF m 164 #[.val (.int p0), .val (.int p1), .val (.int p2), .val (.int p3), .val (.int p4), .val (.int (2 : Int32)), .val (.ref b43), .val (.ref b48), .val (.int (1 : Int32)), .val (.int (nar .byte (nar .byte ((p1).toInt8.toInt32)))), .unset] [])) _
      refine XS.iload X60.here hx rfl (hb hby at_164) rfl ?_
      show Steps p.tables e below (T60.setTop (mkF m 166 #[.val (.int p0), .val (.int p1), .val (.int p2), .val (.int p3), .val (.int p4), .val (.int (2 : Int32)), .val (.ref b43), .val (.ref b48), .val (.int (1 : Int32)), .val (.int (nar .byte (nar .byte ((p1).toInt8.toInt32)))), .unset] [(.int (1 : Int32))])) _
      refine XS.ifNo X60.here hx rfl (hb hby at_166) rfl (XT.i0_eq_f (by decide)) ?_
      show Steps p.tables e below (T60.setTop (mkF m 169 #[.val (.int p0), .val (.int p1), .val (.int p2), .val (.int p3), .val (.int p4), .val (.int (2 : Int32)), .val (.ref b43), .val (.ref b48), .val (.int (1 : Int32)), .val (.int (nar .byte (nar .byte ((p1).toInt8.toInt32)))), .unset] [])) _
      refine XS.aload X60.here hx rfl (hb hby at_169) rfl rfl ?_
      show Steps p.tables e below (T60.setTop (mkF m 171 #[.val (.int p0), .val (.int p1), .val (.int p2), .val (.int p3), .val (.int p4), .val (.int (2 : Int32)), .val (.ref b43), .val (.ref b48), .val (.int (1 : Int32)), .val (.int (nar .byte (nar .byte ((p1).toInt8.toInt32)))), .unset] [(.ref b48)])) _
      refine st64.trans ?_
      show Steps p.tables e below (T64.setTop (mkF m 174 #[.val (.int p0), .val (.int p1), .val (.int p2), .val (.int p3), .val (.int p4), .val (.int (2 : Int32)), .val (.ref b43), .val (.ref b48), .val (.int (1 : Int32)), .val (.int (nar .byte (nar .byte ((p1).toInt8.toInt32)))), .unset] [(.int (F5 (1 : Int32) (2 : Int32)))])) _
      refine XS.iload X64.here hx rfl (hb hby at_174) rfl ?_
      show Steps p.tables e below (T64.setTop (mkF m 176 #[.val (.int p0), .val (.int p1), .val (.int p2), .val (.int p3), .val (.int p4), .val (.int (2 : Int32)), .val (.ref b43), .val (.ref b48), .val (.int (1 : Int32)), .val (.int (nar .byte (nar .byte ((p1).toInt8.toInt32)))), .unset] [(.int (2 : Int32)), (.int (F5 (1 : Int32) (2 : Int32)))])) _
      refine XS.iconst X64.here hx rfl (hb hby at_176) ?_
      show Steps p.tables e below (T64.setTop (mkF m 177 #[.val (.int p0), .val (.int p1), .val (.int p2), .val (.int p3), .val (.int p4), .val (.int (2 : Int32)), .val (.ref b43), .val (.ref b48), .val (.int (1 : Int32)), .val (.int (nar .byte (nar .byte ((p1).toInt8.toInt32)))), .unset] [(.int (1 : Int32)), (.int (2 : Int32)), (.int (F5 (1 : Int32) (2 : Int32)))])) _
      refine XS.icmpYes X64.here hx rfl (pc0 := 177) (pc' := 184) rfl (hb hby at_177) rfl (XT.ii_ne_t (by decide)) (by decide) (by decide) ?_
      show Steps p.tables e below (T64.setTop (mkF m 184 #[.val (.int p0), .val (.int p1), .val (.int p2), .val (.int p3), .val (.int p4), .val (.int (2 : Int32)), .val (.ref b43), .val (.ref b48), .val (.int (1 : Int32)), .val (.int (nar .byte (nar .byte ((p1).toInt8.toInt32)))), .unset] [(.int (F5 (1 : Int32) (2 : Int32)))])) _
      refine XS.iconst X64.here hx rfl (hb hby at_184) ?_
      show Steps p.tables e below (T64.setTop (mkF m 185 #[.val (.int p0), .val (.int p1), .val (.int p2), .val (.int p3), .val (.int p4), .val (.int (2 : Int32)), .val (.ref b43), .val (.ref b48), .val (.int (1 : Int32)), .val (.int (nar .byte (nar .byte ((p1).toInt8.toInt32)))), .unset] [(.int (0 : Int32)), (.int (F5 (1 : Int32) (2 : Int32)))])) _
      refine XS.icmpNo X64.here hx rfl (hb hby at_185) rfl (XT.ii_ne_f (by decide)) ?_
      show Steps p.tables e below (T64.setTop (mkF m 188 #[.val (.int p0), .val (.int p1), .val (.int p2), .val (.int p3), .val (.int p4), .val (.int (2 : Int32)), .val (.ref b43), .val (.ref b48), .val (.int (1 : Int32)), .val (.int (nar .byte (nar .byte ((p1).toInt8.toInt32)))), .unset] [])) _
      refine XS.iconst X64.here hx rfl (hb hby at_188) ?_
      show Steps p.tables e below (T64.setTop (mkF m 189 #[.val (.int p0), .val (.int p1), .val (.int p2), .val (.int p3), .val (.int p4), .val (.int (2 : Int32)), .val (.ref b43), .val (.ref b48), .val (.int (1 : Int32)), .val (.int (nar .byte (nar .byte ((p1).toInt8.toInt32)))), .unset] [(.int (1 : Int32))])) _
      refine XS.goto X64.here hx rfl (pc0 := 189) (pc' := 193) rfl (hb hby at_189) (by decide) (by decide) ?_
      show Steps p.tables e below (T64.setTop (mkF m 193 #[.val (.int p0), .val (.int p1), .val (.int p2), .val (.int p3), .val (.int p4), .val (.int (2 : Int32)), .val (.ref b43), .val (.ref b48), .val (.int (1 : Int32)), .val (.int (nar .byte (nar .byte ((p1).toInt8.toInt32)))), .unset] [(.int (1 : Int32))])) _
      refine XS.istore X64.here hx rfl (hb hby at_193) rfl (l' := #[.val (.int p0), .val (.int p1), .val (.int p2), .val (.int p3), .val (.int p4), .val (.int (2 : Int32)), .val (.ref b43), .val (.ref b48), .val (.int (1 : Int32)), .val (.int (nar .byte (nar .byte ((p1).toInt8.toInt32)))), .unset]) rfl ?_
      show Steps p.tables e below (T64.setTop (mkF m 195 #[.val (.int p0), .val (.int p1), .val (.int p2), .val (.int p3), .val (.int p4), .val (.int (2 : Int32)), .val (.ref b43), .val (.ref b48), .val (.int (1 : Int32)), .val (.int (nar .byte (nar .byte ((p1).toInt8.toInt32)))), .unset] [])) _
      refine XS.iload X64.here hx rfl (hb hby at_195) rfl ?_
      show Steps p.tables e below (T64.setTop (mkF m 197 #[.val (.int p0), .val (.int p1), .val (.int p2), .val (.int p3), .val (.int p4), .val (.int (2 : Int32)), .val (.ref b43), .val (.ref b48), .val (.int (1 : Int32)), .val (.int (nar .byte (nar .byte ((p1).toInt8.toInt32)))), .unset] [(.int (2 : Int32))])) _
      refine XS.iconst X64.here hx rfl (hb hby at_197) ?_
      show Steps p.tables e below (T64.setTop (mkF m 198 #[.val (.int p0), .val (.int p1), .val (.int p2), .val (.int p3), .val (.int p4), .val (.int (2 : Int32)), .val (.ref b43), .val (.ref b48), .val (.int (1 : Int32)), .val (.int (nar .byte (nar .byte ((p1).toInt8.toInt32)))), .unset] [(.int (1 : Int32)), (.int (2 : Int32))])) _
      refine XS.icmpYes X64.here hx rfl (pc0 := 198) (pc' := 204) rfl (hb hby at_198) rfl (XT.ii_ne_t (by decide)) (by decide) (by decide) ?_
      show Steps p.tables e below (T64.setTop (mkF m 204 #[.val (.int p0), .val (.int p1), .val (.int p2), .val (.int p3), .val (.int p4), .val (.int (2 : Int32)), .val (.ref b43), .val (.ref b48), .val (.int (1 : Int32)), .val (.int (nar .byte (nar .byte ((p1).toInt8.toInt32)))), .unset] [])) _
      refine XT.iconstV X64.here hx rfl (-1 : Int32) (hb hby at_204) (by decide) ?_
      show Steps p.tables e below (T64.setTop (mkF m 205 #[.val (.int p0), .val (.int p1), .val (.int p2), .val (.int p3), .val (.int p4), .val (.int (2 : Int32)), .val (.ref b43), .val (.ref b48), .val (.int (1 : Int32)), .val (.int (nar .byte (nar .byte ((p1).toInt8.toInt32)))), .unset] [(.int (-1 : Int32))])) _
      refine XS.istore X64.here hx rfl (hb hby at_205) rfl (l' := #[.val (.int p0), .val (.int p1), .val (.int p2), .val (.int p3), .val (.int p4), .val (.int (2 : Int32)), .val (.ref b43), .val (.ref b48), .val (.int (1 : Int32)), .val (.int (nar .byte (nar .byte ((p1).toInt8.toInt32)))), .val (.int (-1 : Int32))]) rfl ?_
      show Steps p.tables e below (T64.setTop (mkF m 207 #[.val (.int p0), .val (.int p1), .val (.int p2), .val (.int p3), .val (.int p4), .val (.int (2 : Int32)), .val (.ref b43), .val (.ref b48), .val (.int (1 : Int32)), .val (.int (nar .byte (nar .byte ((p1).toInt8.toInt32)))), .val (.int (-1 : Int32))] [])) _
      refine XS.aload X64.here hx rfl (hb hby at_207) rfl rfl ?_
      show Steps p.tables e below (T64.setTop (mkF m 209 #[.val (.int p0), .val (.int p1), .val (.int p2), .val (.int p3), .val (.int p4), .val (.int (2 : Int32)), .val (.ref b43), .val (.ref b48), .val (.int (1 : Int32)), .val (.int (nar .byte (nar .byte ((p1).toInt8.toInt32)))), .val (.int (-1 : Int32))] [(.ref b43)])) _
      refine XS.iconst X64.here hx rfl (hb hby at_209) ?_
      show Steps p.tables e below (T64.setTop (mkF m 210 #[.val (.int p0), .val (.int p1), .val (.int p2), .val (.int p3), .val (.int p4), .val (.int (2 : Int32)), .val (.ref b43), .val (.ref b48), .val (.int (1 : Int32)), .val (.int (nar .byte (nar .byte ((p1).toInt8.toInt32)))), .val (.int (-1 : Int32))] [(.int (1 : Int32)), (.ref b43)])) _
      refine X64.baloadBytes hx (j := (1 : Int32)) (v := (.int (nar .byte ((p2).toInt8.toInt32)))) (by rw [e64]; exact Ar_a67.1) (State.isArrayOf_alike hZ.alike Ar_a67.2.1) Ar_a67.2.2 hin_a67 hat_a67 (g := (mkF m 210 #[.val (.int p0), .val (.int p1), .val (.int p2), .val (.int p3), .val (.int p4), .val (.int (2 : Int32)), .val (.ref b43), .val (.ref b48), .val (.int (1 : Int32)), .val (.int (nar .byte (nar .byte ((p1).toInt8.toInt32)))), .val (.int (-1 : Int32))] [(.int (1 : Int32)), (.ref b43)])) rfl rfl (hb hby at_210) _ ?_
      show Steps p.tables e below (T64.setTop (mkF m 211 #[.val (.int p0), .val (.int p1), .val (.int p2), .val (.int p3), .val (.int p4), .val (.int (2 : Int32)), .val (.ref b43), .val (.ref b48), .val (.int (1 : Int32)), .val (.int (nar .byte (nar .byte ((p1).toInt8.toInt32)))), .val (.int (-1 : Int32))] [(.int (nar .byte ((p2).toInt8.toInt32)))])) _
      exact kk
    by_cases c69 : (nar .byte ((p2).toInt8.toInt32)) < (0 : Int32)
    · skip
      have P70 : ∀ t, Steps p.tables e below (T64.setTop (mkF m 262 #[.val (.int p0), .val (.int p1), .val (.int p2), .val (.int p3), .val (.int p4), .val (.int (2 : Int32)), .val (.ref b43), .val (.ref b48), .val (.int (1 : Int32)), .val (.int (nar .byte (nar .byte ((p1).toInt8.toInt32)))), .val (.int (-1 : Int32))] [(.int (1 : Int32))])) t → Steps p.tables e below (s₁.setTop (entryFrame m #[(.int p0), (.int p1), (.int p2), (.int p3), (.int p4)] maxLocals)) t := by
        intro t kk
        refine P68 _ ?_
        show Steps p.tables e below (T64.setTop (mkF m 211 #[.val (.int p0), .val (.int p1), .val (.int p2), .val (.int p3), .val (.int p4), .val (.int (2 : Int32)), .val (.ref b43), .val (.ref b48), .val (.int (1 : Int32)), .val (.int (nar .byte (nar .byte ((p1).toInt8.toInt32)))), .val (.int (-1 : Int32))] [(.int (nar .byte ((p2).toInt8.toInt32)))])) _
        refine XS.ifYes X64.here hx rfl (pc0 := 211) (pc' := 220) rfl (hb hby at_211) rfl (XT.i0_lt_t c69) (by decide) (by decide) ?_
        show Steps p.tables e below (T64.setTop (mkF m 220 #[.val (.int p0), .val (.int p1), .val (.int p2), .val (.int p3), .val (.int p4), .val (.int (2 : Int32)), .val (.ref b43), .val (.ref b48), .val (.int (1 : Int32)), .val (.int (nar .byte (nar .byte ((p1).toInt8.toInt32)))), .val (.int (-1 : Int32))] [])) _
        refine XS.iload X64.here hx rfl (hb hby at_220) rfl ?_
        show Steps p.tables e below (T64.setTop (mkF m 222 #[.val (.int p0), .val (.int p1), .val (.int p2), .val (.int p3), .val (.int p4), .val (.int (2 : Int32)), .val (.ref b43), .val (.ref b48), .val (.int (1 : Int32)), .val (.int (nar .byte (nar .byte ((p1).toInt8.toInt32)))), .val (.int (-1 : Int32))] [(.int (2 : Int32))])) _
        refine XS.iconst X64.here hx rfl (hb hby at_222) ?_
        show Steps p.tables e below (T64.setTop (mkF m 223 #[.val (.int p0), .val (.int p1), .val (.int p2), .val (.int p3), .val (.int p4), .val (.int (2 : Int32)), .val (.ref b43), .val (.ref b48), .val (.int (1 : Int32)), .val (.int (nar .byte (nar .byte ((p1).toInt8.toInt32)))), .val (.int (-1 : Int32))] [(.int (2 : Int32)), (.int (2 : Int32))])) _
        refine XS.icmpYes X64.here hx rfl (pc0 := 223) (pc' := 239) rfl (hb hby at_223) rfl (XT.ii_le_t (by decide)) (by decide) (by decide) ?_
        show Steps p.tables e below (T64.setTop (mkF m 239 #[.val (.int p0), .val (.int p1), .val (.int p2), .val (.int p3), .val (.int p4), .val (.int (2 : Int32)), .val (.ref b43), .val (.ref b48), .val (.int (1 : Int32)), .val (.int (nar .byte (nar .byte ((p1).toInt8.toInt32)))), .val (.int (-1 : Int32))] [])) _
        refine XS.iload X64.here hx rfl (hb hby at_239) rfl ?_
        show Steps p.tables e below (T64.setTop (mkF m 241 #[.val (.int p0), .val (.int p1), .val (.int p2), .val (.int p3), .val (.int p4), .val (.int (2 : Int32)), .val (.ref b43), .val (.ref b48), .val (.int (1 : Int32)), .val (.int (nar .byte (nar .byte ((p1).toInt8.toInt32)))), .val (.int (-1 : Int32))] [(.int (2 : Int32))])) _
        refine XS.iconst X64.here hx rfl (hb hby at_241) ?_
        show Steps p.tables e below (T64.setTop (mkF m 242 #[.val (.int p0), .val (.int p1), .val (.int p2), .val (.int p3), .val (.int p4), .val (.int (2 : Int32)), .val (.ref b43), .val (.ref b48), .val (.int (1 : Int32)), .val (.int (nar .byte (nar .byte ((p1).toInt8.toInt32)))), .val (.int (-1 : Int32))] [(.int (3 : Int32)), (.int (2 : Int32))])) _
        refine XS.icmpYes X64.here hx rfl (pc0 := 242) (pc' := 255) rfl (hb hby at_242) rfl (XT.ii_le_t (by decide)) (by decide) (by decide) ?_
        show Steps p.tables e below (T64.setTop (mkF m 255 #[.val (.int p0), .val (.int p1), .val (.int p2), .val (.int p3), .val (.int p4), .val (.int (2 : Int32)), .val (.ref b43), .val (.ref b48), .val (.int (1 : Int32)), .val (.int (nar .byte (nar .byte ((p1).toInt8.toInt32)))), .val (.int (-1 : Int32))] [])) _
        refine XS.iload X64.here hx rfl (hb hby at_255) rfl ?_
        show Steps p.tables e below (T64.setTop (mkF m 257 #[.val (.int p0), .val (.int p1), .val (.int p2), .val (.int p3), .val (.int p4), .val (.int (2 : Int32)), .val (.ref b43), .val (.ref b48), .val (.int (1 : Int32)), .val (.int (nar .byte (nar .byte ((p1).toInt8.toInt32)))), .val (.int (-1 : Int32))] [(.int (-1 : Int32))])) _
        refine XS.ifNo X64.here hx rfl (hb hby at_257) rfl (XT.i0_ge_f (by decide)) ?_
        show Steps p.tables e below (T64.setTop (mkF m 260 #[.val (.int p0), .val (.int p1), .val (.int p2), .val (.int p3), .val (.int p4), .val (.int (2 : Int32)), .val (.ref b43), .val (.ref b48), .val (.int (1 : Int32)), .val (.int (nar .byte (nar .byte ((p1).toInt8.toInt32)))), .val (.int (-1 : Int32))] [])) _
        refine XS.iload X64.here hx rfl (hb hby at_260) rfl ?_
        show Steps p.tables e below (T64.setTop (mkF m 262 #[.val (.int p0), .val (.int p1), .val (.int p2), .val (.int p3), .val (.int p4), .val (.int (2 : Int32)), .val (.ref b43), .val (.ref b48), .val (.int (1 : Int32)), .val (.int (nar .byte (nar .byte ((p1).toInt8.toInt32)))), .val (.int (-1 : Int32))] [(.int (1 : Int32))])) _
        exact kk
      obtain ⟨fs, hr, hrun, hended, hW, hsame⟩ := X64.leave (v := some (.int (1 : Int32))) (fun h => by rw [Bd.returns] at h; cases h)
      refine ⟨_, _, P70 _ ?_, hrun, hended, _, _, rfl, ?_, ⟨_, rfl⟩, hW, hsame.mono (by decide) (by decide)⟩
      · exact retN X64 hx (t := .boolean) Bd.returns (by simp) (hb hby at_262) hr
      · exact ⟨rfl, N64⟩
    · skip
      obtain ⟨cq71, kq71, q71a, q71b, q71c⟩ := isOf hZ e64 f66
      obtain ⟨_, _, ⟨T71, L71, k71, n71⟩, -, X71, ⟨Lc71, hQ71, l71, y71, z71⟩, st71⟩ := X64.virtualBack hx (y := (⟨"com/example/meterwright/meterwright/RecordBody$Reader", "number", "()J"⟩ : MethodName)) (z := (⟨"com/example/meterwright/meterwright/RecordBody$Reader", "number", "()J"⟩ : MethodName)) hown (mvT hZ (hw _ (List.mem_of_getElem? (i := 51) rfl))) (mvT hZ (hw _ (List.mem_of_getElem? (i := 52) rfl))) (notFace_of_selects (args := #[]) (mvT hZ (hw _ (List.mem_of_getElem? (i := 54) rfl)))) (mvT hZ (hw _ (List.mem_of_getElem? (i := 54) rfl))) (mvT hZ (hw _ (List.mem_of_getElem? (i := 53) rfl))) (by decide) (backOf (W := 0) (rm8 l Z a0 hw [] b48 b43 k43 (2 : Int32) [(.int (nar .byte ((p1).toInt8.toInt32))), (.int (nar .byte ((p2).toInt8.toInt32)))] (.int (0 : Int32)) (nar .byte ((p2).toInt8.toInt32)) T60.heap n0 z65 f66 q60_0' q60_1 f61 ge_b48 ne_b43_b48 (by decide) rfl c69) hZ (hw _ (List.mem_of_getElem? (i := 55) rfl)) (hw _ (List.mem_of_getElem? (i := 4) rfl)) (by decide) (by decide)) q71a q71c (g := (mkF m 265 #[.val (.int p0), .val (.int p1), .val (.int p2), .val (.int p3), .val (.int p4), .val (.int (2 : Int32)), .val (.ref b43), .val (.ref b48), .val (.int (1 : Int32)), .val (.int (nar .byte (nar .byte ((p1).toInt8.toInt32)))), .val (.int (2 : Int32))] [(.ref b48)])) rfl (by rw [hml]; rfl) (Steps.refl _) (argsL := []) (rest := []) (lenOf pd_1 rfl) rfl (by show 2 * 0 + _ ≤ _; exact Nat.le_of_eq rfl) (hb hby at_265) (fun _ _ => ⟨rfl, e64, (by decide : 3 + 0 ≤ _), (by decide : 9 + 0 ≤ _)⟩)
      dsimp only [Pt.U, Pt.locs, Pt.cells, Pt.slots] at X71 l71 y71 z71 st71 hQ71
      subst l71 y71 z71
      obtain ⟨r_71, rfl, Nq71, K71, q71_0, q71_1⟩ := hQ71
      have N71 := Fr.app N64 Nq71
      have f73 := (Arv.keep f61 K71 (ninS ne_b43_b48 nin0))
      have z74 : n0 ≤ _ := (Nat.le_trans z65 K71.1)
      have f75 := (Exa.keep f66 K71)
      obtain ⟨cq72, kq72, q72a, q72b, q72c⟩ := isOf hZ rfl f75
      obtain ⟨_, _, ⟨T72, L72, k72, n72⟩, -, X72, ⟨Lc72, hQ72, l72, y72, z72⟩, st72⟩ := X71.virtualBack hx (y := (⟨"com/example/meterwright/meterwright/RecordBody$Reader", "atEnd", "()Z"⟩ : MethodName)) (z := (⟨"com/example/meterwright/meterwright/RecordBody$Reader", "atEnd", "()Z"⟩ : MethodName)) hown (mvT hZ (hw _ (List.mem_of_getElem? (i := 39) rfl))) (mvT hZ (hw _ (List.mem_of_getElem? (i := 40) rfl))) (notFace_of_selects (args := #[]) (mvT hZ (hw _ (List.mem_of_getElem? (i := 42) rfl)))) (mvT hZ (hw _ (List.mem_of_getElem? (i := 42) rfl))) (mvT hZ (hw _ (List.mem_of_getElem? (i := 41) rfl))) (by decide) (backOf (W := 0) (rm5 l Z a0 hw [] b48 (2 : Int32) b43 k43 (2 : Int32) [(.int (nar .byte ((p1).toInt8.toInt32))), (.int (nar .byte ((p2).toInt8.toInt32)))] (.int (0 : Int32)) T71.heap n0 z74 q71_0 q71_1 f73) hZ (hw _ (List.mem_of_getElem? (i := 43) rfl)) (hw _ (List.mem_of_getElem? (i := 4) rfl)) (by decide) (by decide)) q72a q72c (g := (mkF m 276 #[.val (.int p0), .val (.int p1), .val (.int p2), .val (.int p3), .val (.int p4), .val (.int (2 : Int32)), .val (.ref b43), .val (.ref b48), .val (.int (1 : Int32)), .val (.int (nar .byte (nar .byte ((p1).toInt8.toInt32)))), .val (.int (2 : Int32))] [(.ref b48)])) rfl (by rw [hml]; rfl) (Steps.refl _) (argsL := []) (rest := []) (lenOf pd_3 rfl) rfl (by show 2 * 0 + _ ≤ _; exact Nat.le_of_eq rfl) (hb hby at_276) (fun _ _ => ⟨rfl, rfl, (by decide : 3 + 0 ≤ _), (by decide : 9 + 0 ≤ _)⟩)
      dsimp only [Pt.U, Pt.locs, Pt.cells, Pt.slots] at X72 l72 y72 z72 st72 hQ72
      subst l72 y72 z72
      obtain ⟨rfl, Nq72, e72⟩ := hQ72
      have N72 := Fr.app N71 Nq72
      obtain ⟨cq76, kq76, q76a, q76b, q76c⟩ := isOf hZ e72 f75
      obtain ⟨_, _, ⟨T76, L76, k76, n76⟩, -, X76, ⟨Lc76, hQ76, l76, y76, z76⟩, st76⟩ := X72.virtualBack hx (y := (⟨"com/example/meterwright/meterwright/RecordBody$Reader", "atEnd", "()Z"⟩ : MethodName)) (z := (⟨"com/example/meterwright/meterwright/RecordBody$Reader", "atEnd", "()Z"⟩ : MethodName)) hown (mvT hZ (hw _ (List.mem_of_getElem? (i := 39) rfl))) (mvT hZ (hw _ (List.mem_of_getElem? (i := 40) rfl))) (notFace_of_selects (args := #[]) (mvT hZ (hw _ (List.mem_of_getElem? (i := 42) rfl)))) (mvT hZ (hw _ (List.mem_of_getElem? (i := 42) rfl))) (mvT hZ (hw _ (List.mem_of_getElem? (i := 41) rfl))) (by decide) (backOf (W := 0) (rm5 l Z a0 hw [] b48 (2 : Int32) b43 k43 (2 : Int32) [(.int (nar .byte ((p1).toInt8.toInt32))), (.int (nar .byte ((p2).toInt8.toInt32)))] (.int (0 : Int32)) T71.heap n0 z74 q71_0 q71_1 f73) hZ (hw _ (List.mem_of_getElem? (i := 43) rfl)) (hw _ (List.mem_of_getElem? (i := 4) rfl)) (by decide) (by decide)) q76a q76c (g := (mkF m 308 #[.val (.int p0), .val (.int p1), .val (.int p2), .val (.int p3), .val (.int p4), .val (.int (2 : Int32)), .val (.ref b43), .val (.ref b48), .val (.int (1 : Int32)), .val (.int (nar .byte (nar .byte ((p1).toInt8.toInt32)))), .val (.int (2 : Int32))] [(.ref b48)])) rfl (by rw [hml]; rfl) (Steps.refl _) (argsL := []) (rest := []) (lenOf pd_3 rfl) rfl (by show 2 * 0 + _ ≤ _; exact Nat.le_of_eq rfl) (hb hby at_308) (fun _ _ => ⟨rfl, e72, (by decide : 3 + 0 ≤ _), (by decide : 9 + 0 ≤ _)⟩)
      dsimp only [Pt.U, Pt.locs, Pt.cells, Pt.slots] at X76 l76 y76 z76 st76 hQ76
      subst l76 y76 z76
      obtain ⟨rfl, Nq76, e76⟩ := hQ76
      have N76 := Fr.app N72 Nq76
      have P77 : ∀ t, Steps p.tables e below (T76.setTop (mkF m 319 #[.val (.int p0), .val (.int p1), .val (.int p2), .val (.int p3), .val (.int p4), .val (.int (2 : Int32)), .val (.ref b43), .val (.ref b48), .val (.int (1 : Int32)), .val (.int (nar .byte (nar .byte ((p1).toInt8.toInt32)))), .val (.int (2 : Int32))] [(.int (1 : Int32)), (.int (F5 (2 : Int32) (2 : Int32)))])) t → Steps p.tables e below (s₁.setTop (entryFrame m #[(.int p0), (.int p1), (.int p2), (.int p3), (.int p4)] maxLocals)) t := by
        intro t kk
        refine P68 _ ?_
        show Steps p.tables e below (T64.setTop (mkF m 211 #[.val (.int p0), .val (.int p1), .val (.int p2), .val (.int p3), .val (.int p4), .val (.int (2 : Int32)), .val (.ref b43), .val (.ref b48), .val (.int (1 : Int32)), .val (.int (nar .byte (nar .byte ((p1).toInt8.toInt32)))), .val (.int (-1 : Int32))] [(.int (nar .byte ((p2).toInt8.toInt32)))])) _
        refine XS.ifNo X64.here hx rfl (hb hby at_211) rfl (XT.i0_lt_f c69) ?_
        show Steps p.tables e below (T64.setTop (mkF m 214 #[.val (.int p0), .val (.int p1), .val (.int p2), .val (.int p3), .val (.int p4), .val (.int (2 : Int32)), .val (.ref b43), .val (.ref b48), .val (.int (1 : Int32)), .val (.int (nar .byte (nar .byte ((p1).toInt8.toInt32)))), .val (.int (-1 : Int32))] [])) _
        refine XS.iconst X64.here hx rfl (hb hby at_214) ?_
        show Steps p.tables e below (T64.setTop (mkF m 215 #[.val (.int p0), .val (.int p1), .val (.int p2), .val (.int p3), .val (.int p4), .val (.int (2 : Int32)), .val (.ref b43), .val (.ref b48), .val (.int (1 : Int32)), .val (.int (nar .byte (nar .byte ((p1).toInt8.toInt32)))), .val (.int (-1 : Int32))] [(.int (2 : Int32))])) _
        refine XS.istore X64.here hx rfl (hb hby at_215) rfl (l' := #[.val (.int p0), .val (.int p1), .val (.int p2), .val (.int p3), .val (.int p4), .val (.int (2 : Int32)), .val (.ref b43), .val (.ref b48), .val (.int (1 : Int32)), .val (.int (nar .byte (nar .byte ((p1).toInt8.toInt32)))), .val (.int (2 : Int32))]) rfl ?_
        show Steps p.tables e below (T64.setTop (mkF m 217 #[.val (.int p0), .val (.int p1), .val (.int p2), .val (.int p3), .val (.int p4), .val (.int (2 : Int32)), .val (.ref b43), .val (.ref b48), .val (.int (1 : Int32)), .val (.int (nar .byte (nar .byte ((p1).toInt8.toInt32)))), .val (.int (2 : Int32))] [])) _
        refine XS.goto X64.here hx rfl (pc0 := 217) (pc' := 255) rfl (hb hby at_217) (by decide) (by decide) ?_
        show Steps p.tables e below (T64.setTop (mkF m 255 #[.val (.int p0), .val (.int p1), .val (.int p2), .val (.int p3), .val (.int p4), .val (.int (2 : Int32)), .val (.ref b43), .val (.ref b48), .val (.int (1 : Int32)), .val (.int (nar .byte (nar .byte ((p1).toInt8.toInt32)))), .val (.int (2 : Int32))] [])) _
        refine XS.iload X64.here hx rfl (hb hby at_255) rfl ?_
        show Steps p.tables e below (T64.setTop (mkF m 257 #[.val (.int p0), .val (.int p1), .val (.int p2), .val (.int p3), .val (.int p4), .val (.int (2 : Int32)), .val (.ref b43), .val (.ref b48), .val (.int (1 : Int32)), .val (.int (nar .byte (nar .byte ((p1).toInt8.toInt32)))), .val (.int (2 : Int32))] [(.int (2 : Int32))])) _
        refine XS.ifYes X64.here hx rfl (pc0 := 257) (pc' := 263) rfl (hb hby at_257) rfl (XT.i0_ge_t (by decide)) (by decide) (by decide) ?_
        show Steps p.tables e below (T64.setTop (mkF m 263 #[.val (.int p0), .val (.int p1), .val (.int p2), .val (.int p3), .val (.int p4), .val (.int (2 : Int32)), .val (.ref b43), .val (.ref b48), .val (.int (1 : Int32)), .val (.int (nar .byte (nar .byte ((p1).toInt8.toInt32)))), .val (.int (2 : Int32))] [])) _
        refine XS.aload X64.here hx rfl (hb hby at_263) rfl rfl ?_
        show Steps p.tables e below (T64.setTop (mkF m 265 #[.val (.int p0), .val (.int p1), .val (.int p2), .val (.int p3), .val (.int p4), .val (.int (2 : Int32)), .val (.ref b43), .val (.ref b48), .val (.int (1 : Int32)), .val (.int (nar .byte (nar .byte ((p1).toInt8.toInt32)))), .val (.int (2 : Int32))] [(.ref b48)])) _
        refine st71.trans ?_
        show Steps p.tables e below (T71.setTop (mkF m 268 #[.val (.int p0), .val (.int p1), .val (.int p2), .val (.int p3), .val (.int p4), .val (.int (2 : Int32)), .val (.ref b43), .val (.ref b48), .val (.int (1 : Int32)), .val (.int (nar .byte (nar .byte ((p1).toInt8.toInt32)))), .val (.int (2 : Int32))] [(.long r_71)])) _
        jvm_step X71.here [X71.here.top, hx, (hb hby at_268), Value.category]
        show Steps p.tables e below (T71.setTop (mkF m 269 #[.val (.int p0), .val (.int p1), .val (.int p2), .val (.int p3), .val (.int p4), .val (.int (2 : Int32)), .val (.ref b43), .val (.ref b48), .val (.int (1 : Int32)), .val (.int (nar .byte (nar .byte ((p1).toInt8.toInt32)))), .val (.int (2 : Int32))] [])) _
        refine XS.iload X71.here hx rfl (hb hby at_269) rfl ?_
        show Steps p.tables e below (T71.setTop (mkF m 271 #[.val (.int p0), .val (.int p1), .val (.int p2), .val (.int p3), .val (.int p4), .val (.int (2 : Int32)), .val (.ref b43), .val (.ref b48), .val (.int (1 : Int32)), .val (.int (nar .byte (nar .byte ((p1).toInt8.toInt32)))), .val (.int (2 : Int32))] [(.int (1 : Int32))])) _
        refine XS.ifNo X71.here hx rfl (hb hby at_271) rfl (XT.i0_eq_f (by decide)) ?_
        show Steps p.tables e below (T71.setTop (mkF m 274 #[.val (.int p0), .val (.int p1), .val (.int p2), .val (.int p3), .val (.int p4), .val (.int (2 : Int32)), .val (.ref b43), .val (.ref b48), .val (.int (1 : Int32)), .val (.int (nar .byte (nar .byte ((p1).toInt8.toInt32)))), .val (.int (2 : Int32))] [])) _
        refine XS.aload X71.here hx rfl (hb hby at_274) rfl rfl ?_
        show Steps p.tables e below (T71.setTop (mkF m 276 #[.val (.int p0), .val (.int p1), .val (.int p2), .val (.int p3), .val (.int p4), .val (.int (2 : Int32)), .val (.ref b43), .val (.ref b48), .val (.int (1 : Int32)), .val (.int (nar .byte (nar .byte ((p1).toInt8.toInt32)))), .val (.int (2 : Int32))] [(.ref b48)])) _
        refine st72.trans ?_
        show Steps p.tables e below (T72.setTop (mkF m 279 #[.val (.int p0), .val (.int p1), .val (.int p2), .val (.int p3), .val (.int p4), .val (.int (2 : Int32)), .val (.ref b43), .val (.ref b48), .val (.int (1 : Int32)), .val (.int (nar .byte (nar .byte ((p1).toInt8.toInt32)))), .val (.int (2 : Int32))] [(.int (F5 (2 : Int32) (2 : Int32)))])) _
        refine XS.iload X72.here hx rfl (hb hby at_279) rfl ?_
        show Steps p.tables e below (T72.setTop (mkF m 281 #[.val (.int p0), .val (.int p1), .val (.int p2), .val (.int p3), .val (.int p4), .val (.int (2 : Int32)), .val (.ref b43), .val (.ref b48), .val (.int (1 : Int32)), .val (.int (nar .byte (nar .byte ((p1).toInt8.toInt32)))), .val (.int (2 : Int32))] [(.int (2 : Int32)), (.int (F5 (2 : Int32) (2 : Int32)))])) _
        refine XS.iload X72.here hx rfl (hb hby at_281) rfl ?_
        show Steps p.tables e below (T72.setTop (mkF m 283 #[.val (.int p0), .val (.int p1), .val (.int p2), .val (.int p3), .val (.int p4), .val (.int (2 : Int32)), .val (.ref b43), .val (.ref b48), .val (.int (1 : Int32)), .val (.int (nar .byte (nar .byte ((p1).toInt8.toInt32)))), .val (.int (2 : Int32))] [(.int (2 : Int32)), (.int (2 : Int32)), (.int (F5 (2 : Int32) (2 : Int32)))])) _
        refine XS.icmpNo X72.here hx rfl (hb hby at_283) rfl (XT.ii_ne_f rfl) ?_
        show Steps p.tables e below (T72.setTop (mkF m 286 #[.val (.int p0), .val (.int p1), .val (.int p2), .val (.int p3), .val (.int p4), .val (.int (2 : Int32)), .val (.ref b43), .val (.ref b48), .val (.int (1 : Int32)), .val (.int (nar .byte (nar .byte ((p1).toInt8.toInt32)))), .val (.int (2 : Int32))] [(.int (F5 (2 : Int32) (2 : Int32)))])) _
        refine XS.iconst X72.here hx rfl (hb hby at_286) ?_
        show Steps p.tables e below (T72.setTop (mkF m 287 #[.val (.int p0), .val (.int p1), .val (.int p2), .val (.int p3), .val (.int p4), .val (.int (2 : Int32)), .val (.ref b43), .val (.ref b48), .val (.int (1 : Int32)), .val (.int (nar .byte (nar .byte ((p1).toInt8.toInt32)))), .val (.int (2 : Int32))] [(.int (1 : Int32)), (.int (F5 (2 : Int32) (2 : Int32)))])) _
        refine XS.goto X72.here hx rfl (pc0 := 287) (pc' := 291) rfl (hb hby at_287) (by decide) (by decide) ?_
        show Steps p.tables e below (T72.setTop (mkF m 291 #[.val (.int p0), .val (.int p1), .val (.int p2), .val (.int p3), .val (.int p4), .val (.int (2 : Int32)), .val (.ref b43), .val (.ref b48), .val (.int (1 : Int32)), .val (.int (nar .byte (nar .byte ((p1).toInt8.toInt32)))), .val (.int (2 : Int32))] [(.int (1 : Int32)), (.int (F5 (2 : Int32) (2 : Int32)))])) _
        refine XS.icmpNo X72.here hx rfl (hb hby at_291) rfl (XT.ii_ne_f (by decide)) ?_
        show Steps p.tables e below (T72.setTop (mkF m 294 #[.val (.int p0), .val (.int p1), .val (.int p2), .val (.int p3), .val (.int p4), .val (.int (2 : Int32)), .val (.ref b43), .val (.ref b48), .val (.int (1 : Int32)), .val (.int (nar .byte (nar .byte ((p1).toInt8.toInt32)))), .val (.int (2 : Int32))] [])) _
        refine XS.iconst X72.here hx rfl (hb hby at_294) ?_
        show Steps p.tables e below (T72.setTop (mkF m 295 #[.val (.int p0), .val (.int p1), .val (.int p2), .val (.int p3), .val (.int p4), .val (.int (2 : Int32)), .val (.ref b43), .val (.ref b48), .val (.int (1 : Int32)), .val (.int (nar .byte (nar .byte ((p1).toInt8.toInt32)))), .val (.int (2 : Int32))] [(.int (1 : Int32))])) _
        refine XS.goto X72.here hx rfl (pc0 := 295) (pc' := 299) rfl (hb hby at_295) (by decide) (by decide) ?_
        show Steps p.tables e below (T72.setTop (mkF m 299 #[.val (.int p0), .val (.int p1), .val (.int p2), .val (.int p3), .val (.int p4), .val (.int (2 : Int32)), .val (.ref b43), .val (.ref b48), .val (.int (1 : Int32)), .val (.int (nar .byte (nar .byte ((p1).toInt8.toInt32)))), .val (.int (2 : Int32))] [(.int (1 : Int32))])) _
        refine XS.istore X72.here hx rfl (hb hby at_299) rfl (l' := #[.val (.int p0), .val (.int p1), .val (.int p2), .val (.int p3), .val (.int p4), .val (.int (2 : Int32)), .val (.ref b43), .val (.ref b48), .val (.int (1 : Int32)), .val (.int (nar .byte (nar .byte ((p1).toInt8.toInt32)))), .val (.int (2 : Int32))]) rfl ?_
        show Steps p.tables e below (T72.setTop (mkF m 301 #[.val (.int p0), .val (.int p1), .val (.int p2), .val (.int p3), .val (.int p4), .val (.int (2 : Int32)), .val (.ref b43), .val (.ref b48), .val (.int (1 : Int32)), .val (.int (nar .byte (nar .byte ((p1).toInt8.toInt32)))), .val (.int (2 : Int32))] [])) _
        refine XS.iload X72.here hx rfl (hb hby at_301) rfl ?_
        show Steps p.tables e below (T72.setTop (mkF m 303 #[.val (.int p0), .val (.int p1), .val (.int p2), .val (.int p3), .val (.int p4), .val (.int (2 : Int32)), .val (.ref b43), .val (.ref b48), .val (.int (1 : Int32)), .val (.int (nar .byte (nar .byte ((p1).toInt8.toInt32)))), .val (.int (2 : Int32))] [(.int (1 : Int32))])) _
        refine XS.ifNo X72.here hx rfl (hb hby at_303) rfl (XT.i0_eq_f (by decide)) ?_
        show Steps p.tables e below (T72.setTop (mkF m 306 #[.val (.int p0), .val (.int p1), .val (.int p2), .val (.int p3), .val (.int p4), .val (.int (2 : Int32)), .val (.ref b43), .val (.ref b48), .val (.int (1 : Int32)), .val (.int (nar .byte (nar .byte ((p1).toInt8.toInt32)))), .val (.int (2 : Int32))] [])) _
        refine XS.aload X72.here hx rfl (hb hby at_306) rfl rfl ?_
        show Steps p.tables e below (T72.setTop (mkF m 308 #[.val (.int p0), .val (.int p1), .val (.int p2), .val (.int p3), .val (.int p4), .val (.int (2 : Int32)), .val (.ref b43), .val (.ref b48), .val (.int (1 : Int32)), .val (.int (nar .byte (nar .byte ((p1).toInt8.toInt32)))), .val (.int (2 : Int32))] [(.ref b48)])) _
        refine st76.trans ?_
        show Steps p.tables e below (T76.setTop (mkF m 311 #[.val (.int p0), .val (.int p1), .val (.int p2), .val (.int p3), .val (.int p4), .val (.int (2 : Int32)), .val (.ref b43), .val (.ref b48), .val (.int (1 : Int32)), .val (.int (nar .byte (nar .byte ((p1).toInt8.toInt32)))), .val (.int (2 : Int32))] [(.int (F5 (2 : Int32) (2 : Int32)))])) _
        refine XS.iload X76.here hx rfl (hb hby at_311) rfl ?_
        show Steps p.tables e below (T76.setTop (mkF m 313 #[.val (.int p0), .val (.int p1), .val (.int p2), .val (.int p3), .val (.int p4), .val (.int (2 : Int32)), .val (.ref b43), .val (.ref b48), .val (.int (1 : Int32)), .val (.int (nar .byte (nar .byte ((p1).toInt8.toInt32)))), .val (.int (2 : Int32))] [(.int (2 : Int32)), (.int (F5 (2 : Int32) (2 : Int32)))])) _
        refine XS.iload X76.here hx rfl (hb hby at_313) rfl ?_
        show Steps p.tables e below (T76.setTop (mkF m 315 #[.val (.int p0), .val (.int p1), .val (.int p2), .val (.int p3), .val (.int p4), .val (.int (2 : Int32)), .val (.ref b43), .val (.ref b48), .val (.int (1 : Int32)), .val (.int (nar .byte (nar .byte ((p1).toInt8.toInt32)))), .val (.int (2 : Int32))] [(.int (2 : Int32)), (.int (2 : Int32)), (.int (F5 (2 : Int32) (2 : Int32)))])) _
        refine XS.icmpNo X76.here hx rfl (hb hby at_315) rfl (XT.ii_ne_f rfl) ?_
        show Steps p.tables e below (T76.setTop (mkF m 318 #[.val (.int p0), .val (.int p1), .val (.int p2), .val (.int p3), .val (.int p4), .val (.int (2 : Int32)), .val (.ref b43), .val (.ref b48), .val (.int (1 : Int32)), .val (.int (nar .byte (nar .byte ((p1).toInt8.toInt32)))), .val (.int (2 : Int32))] [(.int (F5 (2 : Int32) (2 : Int32)))])) _
        refine XS.iconst X76.here hx rfl (hb hby at_318) ?_
        show Steps p.tables e below (T76.setTop (mkF m 319 #[.val (.int p0), .val (.int p1), .val (.int p2), .val (.int p3), .val (.int p4), .val (.int (2 : Int32)), .val (.ref b43), .val (.ref b48), .val (.int (1 : Int32)), .val (.int (nar .byte (nar .byte ((p1).toInt8.toInt32)))), .val (.int (2 : Int32))] [(.int (1 : Int32)), (.int (F5 (2 : Int32) (2 : Int32)))])) _
        exact kk
      have P78 : ∀ t, Steps p.tables e below (T76.setTop (mkF m 335 #[.val (.int p0), .val (.int p1), .val (.int p2), .val (.int p3), .val (.int p4), .val (.int (2 : Int32)), .val (.ref b43), .val (.ref b48), .val (.int (1 : Int32)), .val (.int (nar .byte (nar .byte ((p1).toInt8.toInt32)))), .val (.int (2 : Int32))] [(.int (1 : Int32))])) t → Steps p.tables e below (s₁.setTop (entryFrame m #[(.int p0), (.int p1), (.int p2), (.int p3), (.int p4)] maxLocals)) t := by
        intro t kk
        refine P77 _ ?_
        show Steps p.tables e below (T76.setTop (mkF m 319 #[.val (.int p0), .val (.int p1), .val (.int p2), .val (.int p3), .val (.int p4), .val (.int (2 : Int32)), .val (.ref b43), .val (.ref b48), .val (.int (1 : Int32)), .val (.int (nar .byte (nar .byte ((p1).toInt8.toInt32)))), .val (.int (2 : Int32))] [(.int (1 : Int32)), (.int (F5 (2 : Int32) (2 : Int32)))])) _
        refine XS.goto X76.here hx rfl (pc0 := 319) (pc' := 323) rfl (hb hby at_319) (by decide) (by decide) ?_
        show Steps p.tables e below (T76.setTop (mkF m 323 #[.val (.int p0), .val (.int p1), .val (.int p2), .val (.int p3), .val (.int p4), .val (.int (2 : Int32)), .val (.ref b43), .val (.ref b48), .val (.int (1 : Int32)), .val (.int (nar .byte (nar .byte ((p1).toInt8.toInt32)))), .val (.int (2 : Int32))] [(.int (1 : Int32)), (.int (F5 (2 : Int32) (2 : Int32)))])) _
        refine XS.icmpNo X76.here hx rfl (hb hby at_323) rfl (XT.ii_ne_f (by decide)) ?_
        show Steps p.tables e below (T76.setTop (mkF m 326 #[.val (.int p0), .val (.int p1), .val (.int p2), .val (.int p3), .val (.int p4), .val (.int (2 : Int32)), .val (.ref b43), .val (.ref b48), .val (.int (1 : Int32)), .val (.int (nar .byte (nar .byte ((p1).toInt8.toInt32)))), .val (.int (2 : Int32))] [])) _
        refine XS.iconst X76.here hx rfl (hb hby at_326) ?_
        show Steps p.tables e below (T76.setTop (mkF m 327 #[.val (.int p0), .val (.int p1), .val (.int p2), .val (.int p3), .val (.int p4), .val (.int (2 : Int32)), .val (.ref b43), .val (.ref b48), .val (.int (1 : Int32)), .val (.int (nar .byte (nar .byte ((p1).toInt8.toInt32)))), .val (.int (2 : Int32))] [(.int (1 : Int32))])) _
        refine XS.goto X76.here hx rfl (pc0 := 327) (pc' := 331) rfl (hb hby at_327) (by decide) (by decide) ?_
        show Steps p.tables e below (T76.setTop (mkF m 331 #[.val (.int p0), .val (.int p1), .val (.int p2), .val (.int p3), .val (.int p4), .val (.int (2 : Int32)), .val (.ref b43), .val (.ref b48), .val (.int (1 : Int32)), .val (.int (nar .byte (nar .byte ((p1).toInt8.toInt32)))), .val (.int (2 : Int32))] [(.int (1 : Int32))])) _
        refine XS.istore X76.here hx rfl (hb hby at_331) rfl (l' := #[.val (.int p0), .val (.int p1), .val (.int p2), .val (.int p3), .val (.int p4), .val (.int (2 : Int32)), .val (.ref b43), .val (.ref b48), .val (.int (1 : Int32)), .val (.int (nar .byte (nar .byte ((p1).toInt8.toInt32)))), .val (.int (2 : Int32))]) rfl ?_
        show Steps p.tables e below (T76.setTop (mkF m 333 #[.val (.int p0), .val (.int p1), .val (.int p2), .val (.int p3), .val (.int p4), .val (.int (2 : Int32)), .val (.ref b43), .val (.ref b48), .val (.int (1 : Int32)), .val (.int (nar .byte (nar .byte ((p1).toInt8.toInt32)))), .val (.int (2 : Int32))] [])) _
        refine XS.iload X76.here hx rfl (hb hby at_333) rfl ?_
        show Steps p.tables e below (T76.setTop (mkF m 335 #[.val (.int p0), .val (.int p1), .val (.int p2), .val (.int p3), .val (.int p4), .val (.int (2 : Int32)), .val (.ref b43), .val (.ref b48), .val (.int (1 : Int32)), .val (.int (nar .byte (nar .byte ((p1).toInt8.toInt32)))), .val (.int (2 : Int32))] [(.int (1 : Int32))])) _
        exact kk
      obtain ⟨fs, hr, hrun, hended, hW, hsame⟩ := X76.leave (v := some (.int (1 : Int32))) (fun h => by rw [Bd.returns] at h; cases h)
      refine ⟨_, _, P78 _ ?_, hrun, hended, _, _, rfl, ?_, ⟨_, rfl⟩, hW, hsame.mono (by decide) (by decide)⟩
      · exact retN X76 hx (t := .boolean) Bd.returns (by simp) (hb hby at_335) hr
      · exact ⟨rfl, N76⟩
  · skip
    have P79 : ∀ t, Steps p.tables e below (s₁.setTop (mkF m 8 #[.val (.int p0), .val (.int p1), .val (.int p2), .val (.int p3), .val (.int p4), .val (.int (3 : Int32)), .unset, .unset, .unset, .unset, .unset] [])) t → Steps p.tables e below (s₁.setTop (entryFrame m #[(.int p0), (.int p1), (.int p2), (.int p3), (.int p4)] maxLocals)) t := by
      intro t kk
      refine P1 _ ?_
      rw [hs2]
      exact kk
    obtain ⟨T80, h80, k80, X80, e80, E80, A80, st80⟩ := newP X0 hx hZ (hw _ (List.mem_of_getElem? (i := 1) rfl)) e0 (g := (mkF m 10 #[.val (.int p0), .val (.int p1), .val (.int p2), .val (.int p3), .val (.int p4), .val (.int (3 : Int32)), .unset, .unset, .unset, .unset, .unset] [(.int (3 : Int32))])) rfl (hb hby at_10) rfl (by decide) (cap := 3) (by decide) (by decide) (by decide) (by decide)
    obtain ⟨b80, g_b80⟩ : ∃ z, z = h0.size := ⟨_, rfl⟩
    rw [← g_b80] at A80 st80
    have ge_b80 : n0 ≤ b80 := Nat.le_trans Z0 (Nat.le_of_eq g_b80.symm)
    have sz_b80 : h0.size ≤ b80 := Nat.le_trans (Keep.refl h0 []).1 (Nat.le_of_eq g_b80.symm)
    have V80 : Arv Z h80 b80 k80 .byte (3 : Int32) [(.int (0 : Int32)), (.int (0 : Int32)), (.int (0 : Int32))] (.int (0 : Int32)) := (Arv.new A80 (by decide)).pad (pad_rep [] (.int (0 : Int32)) 3)
    obtain ⟨cl_a81, Ar_a81, q_a81, S_a81, N_a81, H_a81, G_a81⟩ := id V80
    have hin_a81 : ¬ ((0 : Int32) < 0 ∨ cl_a81.slots.size ≤ ((0 : Int32)).toNatClampNeg) := inb_of S_a81 ⟨by decide, by decide⟩
    obtain ⟨T82, h82, X82, e82, W82, st82⟩ := stB X80 hx hZ e80 Ar_a81 (j := (0 : Int32)) hin_a81 (g := (mkF m 24 #[.val (.int p0), .val (.int p1), .val (.int p2), .val (.int p3), .val (.int p4), .val (.int (3 : Int32)), .val (.ref b80), .unset, .unset, .unset, .unset] [(.int ((p1).toInt8.toInt32)), (.int (0 : Int32)), (.ref b80)])) rfl rfl (hb hby at_24)
    have V82 : Arv Z h82 b80 k80 .byte (3 : Int32) [(.int (nar .byte ((p1).toInt8.toInt32))), (.int (0 : Int32)), (.int (0 : Int32))] (.int (0 : Int32)) := Arv.set Ar_a81 q_a81 S_a81 N_a81 H_a81 G_a81 (fits_nar_byte _) W82 0 rfl (Nat.le_of_ble_eq_true rfl)
    have N82 := Fr.snoc X82 N0 ge_b80
    obtain ⟨cl_a83, Ar_a83, q_a83, S_a83, N_a83, H_a83, G_a83⟩ := id V82
    have hin_a83 : ¬ ((1 : Int32) < 0 ∨ cl_a83.slots.size ≤ ((1 : Int32)).toNatClampNeg) := inb_of S_a83 ⟨by decide, by decide⟩
    obtain ⟨T84, h84, X84, e84, W84, st84⟩ := stB X82 hx hZ e82 Ar_a83 (j := (1 : Int32)) hin_a83 (g := (mkF m 36 #[.val (.int p0), .val (.int p1), .val (.int p2), .val (.int p3), .val (.int p4), .val (.int (3 : Int32)), .val (.ref b80), .unset, .unset, .unset, .unset] [(.int ((p2).toInt8.toInt32)), (.int (1 : Int32)), (.ref b80)])) rfl rfl (hb hby at_36)
    have V84 : Arv Z h84 b80 k80 .byte (3 : Int32) [(.int (nar .byte ((p1).toInt8.toInt32))), (.int (nar .byte ((p2).toInt8.toInt32))), (.int (0 : Int32))] (.int (0 : Int32)) := Arv.set Ar_a83 q_a83 S_a83 N_a83 H_a83 G_a83 (fits_nar_byte _) W84 1 rfl (Nat.le_of_ble_eq_true rfl)
    have N84 := Fr.snoc X84 N82 ge_b80
    obtain ⟨cl_a85, Ar_a85, q_a85, S_a85, N_a85, H_a85, G_a85⟩ := id V84
    have hin_a85 : ¬ ((2 : Int32) < 0 ∨ cl_a85.slots.size ≤ ((2 : Int32)).toNatClampNeg) := inb_of S_a85 ⟨by decide, by decide⟩
    obtain ⟨T86, h86, X86, e86, W86, st86⟩ := stB X84 hx hZ e84 Ar_a85 (j := (2 : Int32)) hin_a85 (g := (mkF m 48 #[.val (.int p0), .val (.int p1), .val (.int p2), .val (.int p3), .val (.int p4), .val (.int (3 : Int32)), .val (.ref b80), .unset, .unset, .unset, .unset] [(.int ((p3).toInt8.toInt32)), (.int (2 : Int32)), (.ref b80)])) rfl rfl (hb hby at_48)
    have V86 : Arv Z h86 b80 k80 .byte (3 : Int32) [(.int (nar .byte ((p1).toInt8.toInt32))), (.int (nar .byte ((p2).toInt8.toInt32))), (.int (nar .byte ((p3).toInt8.toInt32)))] (.int (0 : Int32)) := Arv.set Ar_a85 q_a85 S_a85 N_a85 H_a85 G_a85 (fits_nar_byte _) W86 2 rfl (Nat.le_of_ble_eq_true rfl)
    have N86 := Fr.snoc X86 N84 ge_b80
    obtain ⟨T87, h87, X87, e87, E87, A87, D87, -, st87⟩ := newO X86 hx hZ hown (hw _ (List.mem_of_getElem? (i := 2) rfl)) (hw _ (List.mem_of_getElem? (i := 3) rfl)) (hw _ (List.mem_of_getElem? (i := 4) rfl)) e86 (g := (mkF m 62 #[.val (.int p0), .val (.int p1), .val (.int p2), .val (.int p3), .val (.int p4), .val (.int (3 : Int32)), .val (.ref b80), .unset, .unset, .unset, .unset] [])) rfl (hb hby at_62) (by decide) (by decide)
    have z88 : n0 ≤ _ := (Nat.le_trans (Nat.le_trans (Nat.le_trans (Nat.le_trans Z0 E80.1) (Keep.of_wr W82).1) (Keep.of_wr W84).1) (Keep.of_wr W86).1)
    have k89 : Keep h0 h86 [] := (Keep.wr (Keep.wr (Keep.wr (Keep.ext (Keep.refl h0 []) E80) W82 (Or.inr sz_b80)) W84 (Or.inr sz_b80)) W86 (Or.inr sz_b80))
    obtain ⟨b87, g_b87⟩ : ∃ z, z = h86.size := ⟨_, rfl⟩
    rw [← g_b87] at A87 D87 st87
    have ne_b80_b87 : b80 ≠ b87 := Nat.ne_of_lt (Nat.lt_of_lt_of_le V86.lt (Nat.le_of_eq g_b87.symm))
    have ge_b87 : n0 ≤ b87 := Nat.le_trans z88 (Nat.le_of_eq g_b87.symm)
    have sz_b87 : h0.size ≤ b87 := Nat.le_trans k89.1 (Nat.le_of_eq g_b87.symm)
    have F87_36 : Fld Z h87 b87 "com/example/meterwright/meterwright/RecordBody$Reader" "texts" "Ljava/util/List;" .null := D87 (Or.inr (hw _ (List.mem_of_getElem? (i := 36) rfl))) (ty := (.object "java/util/List")) (by decide)
    have F87_38 : Fld Z h87 b87 "com/example/meterwright/meterwright/RecordBody$Reader" "bytes" "[B" .null := D87 (Or.inr (hw _ (List.mem_of_getElem? (i := 38) rfl))) (ty := (.array .byte)) (by decide)
    have F87_45 : Fld Z h87 b87 "com/example/meterwright/meterwright/RecordBody$Reader" "position" "I" (.int (0 : Int32)) := D87 (Or.inl (hw _ (List.mem_of_getElem? (i := 45) rfl))) (ty := .int) (by decide)
    have P90 : ∀ t, Steps p.tables e below (T87.setTop (mkF m 65 #[.val (.int p0), .val (.int p1), .val (.int p2), .val (.int p3), .val (.int p4), .val (.int (3 : Int32)), .val (.ref b80), .unset, .unset, .unset, .unset] [(.ref b87)])) t → Steps p.tables e below (s₁.setTop (entryFrame m #[(.int p0), (.int p1), (.int p2), (.int p3), (.int p4)] maxLocals)) t := by
      intro t kk
      refine P79 _ ?_
      show Steps p.tables e below (s₁.setTop (mkF m 8 #[.val (.int p0), .val (.int p1), .val (.int p2), .val (.int p3), .val (.int p4), .val (.int (3 : Int32)), .unset, .unset, .unset, .unset, .unset] [])) _
      refine XS.iload X0.here hx rfl (hb hby at_8) rfl ?_
      show Steps p.tables e below (s₁.setTop (mkF m 10 #[.val (.int p0), .val (.int p1), .val (.int p2), .val (.int p3), .val (.int p4), .val (.int (3 : Int32)), .unset, .unset, .unset, .unset, .unset] [(.int (3 : Int32))])) _
      refine st80 _ ?_
      show Steps p.tables e below (T80.setTop (mkF m 12 #[.val (.int p0), .val (.int p1), .val (.int p2), .val (.int p3), .val (.int p4), .val (.int (3 : Int32)), .unset, .unset, .unset, .unset, .unset] [(.ref b80)])) _
      refine XS.astore X80.here hx rfl (hb hby at_12) rfl rfl (l' := #[.val (.int p0), .val (.int p1), .val (.int p2), .val (.int p3), .val (.int p4), .val (.int (3 : Int32)), .val (.ref b80), .unset, .unset, .unset, .unset]) rfl ?_
      show Steps p.tables e below (T80.setTop (mkF m 14 #[.val (.int p0), .val (.int p1), .val (.int p2), .val (.int p3), .val (.int p4), .val (.int (3 : Int32)), .val (.ref b80), .unset, .unset, .unset, .unset] [])) _
      refine XS.iload X80.here hx rfl (hb hby at_14) rfl ?_
      show Steps p.tables e below (T80.setTop (mkF m 16 #[.val (.int p0), .val (.int p1), .val (.int p2), .val (.int p3), .val (.int p4), .val (.int (3 : Int32)), .val (.ref b80), .unset, .unset, .unset, .unset] [(.int (3 : Int32))])) _
      refine XS.ifNo X80.here hx rfl (hb hby at_16) rfl (XT.i0_le_f (by decide)) ?_
      show Steps p.tables e below (T80.setTop (mkF m 19 #[.val (.int p0), .val (.int p1), .val (.int p2), .val (.int p3), .val (.int p4), .val (.int (3 : Int32)), .val (.ref b80), .unset, .unset, .unset, .unset] [])) _
      refine XS.aload X80.here hx rfl (hb hby at_19) rfl rfl ?_
      show Steps p.tables e below (T80.setTop (mkF m 21 #[.val (.int p0), .val (.int p1), .val (.int p2), .val (.int p3), .val (.int p4), .val (.int (3 : Int32)), .val (.ref b80), .unset, .unset, .unset, .unset] [(.ref b80)])) _
      refine XS.iconst X80.here hx rfl (hb hby at_21) ?_
      show Steps p.tables e below (T80.setTop (mkF m 22 #[.val (.int p0), .val (.int p1), .val (.int p2), .val (.int p3), .val (.int p4), .val (.int (3 : Int32)), .val (.ref b80), .unset, .unset, .unset, .unset] [(.int (0 : Int32)), (.ref b80)])) _
      refine XS.iloadN X80.here hx rfl (hb hby at_22) rfl ?_
      show Steps p.tables e below (T80.setTop (mkF m 23 #[.val (.int p0), .val (.int p1), .val (.int p2), .val (.int p3), .val (.int p4), .val (.int (3 : Int32)), .val (.ref b80), .unset, .unset, .unset, .unset] [(.int p1), (.int (0 : Int32)), (.ref b80)])) _
      refine XS.i2b X80.here hx rfl (hb hby at_23) rfl ?_
      show Steps p.tables e below (T80.setTop (mkF m 24 #[.val (.int p0), .val (.int p1), .val (.int p2), .val (.int p3), .val (.int p4), .val (.int (3 : Int32)), .val (.ref b80), .unset, .unset, .unset, .unset] [(.int ((p1).toInt8.toInt32)), (.int (0 : Int32)), (.ref b80)])) _
      refine st82 _ ?_
      show Steps p.tables e below (T82.setTop (mkF m 25 #[.val (.int p0), .val (.int p1), .val (.int p2), .val (.int p3), .val (.int p4), .val (.int (3 : Int32)), .val (.ref b80), .unset, .unset, .unset, .unset] [])) _
      refine XS.iload X82.here hx rfl (hb hby at_25) rfl ?_
      show Steps p.tables e below (T82.setTop (mkF m 27 #[.val (.int p0), .val (.int p1), .val (.int p2), .val (.int p3), .val (.int p4), .val (.int (3 : Int32)), .val (.ref b80), .unset, .unset, .unset, .unset] [(.int (3 : Int32))])) _
      refine XS.iconst X82.here hx rfl (hb hby at_27) ?_
      show Steps p.tables e below (T82.setTop (mkF m 28 #[.val (.int p0), .val (.int p1), .val (.int p2), .val (.int p3), .val (.int p4), .val (.int (3 : Int32)), .val (.ref b80), .unset, .unset, .unset, .unset] [(.int (1 : Int32)), (.int (3 : Int32))])) _
      refine XS.icmpNo X82.here hx rfl (hb hby at_28) rfl (XT.ii_le_f (by decide)) ?_
      show Steps p.tables e below (T82.setTop (mkF m 31 #[.val (.int p0), .val (.int p1), .val (.int p2), .val (.int p3), .val (.int p4), .val (.int (3 : Int32)), .val (.ref b80), .unset, .unset, .unset, .unset] [])) _
      refine XS.aload X82.here hx rfl (hb hby at_31) rfl rfl ?_
      show Steps p.tables e below (T82.setTop (mkF m 33 #[.val (.int p0), .val (.int p1), .val (.int p2), .val (.int p3), .val (.int p4), .val (.int (3 : Int32)), .val (.ref b80), .unset, .unset, .unset, .unset] [(.ref b80)])) _
      refine XS.iconst X82.here hx rfl (hb hby at_33) ?_
      show Steps p.tables e below (T82.setTop (mkF m 34 #[.val (.int p0), .val (.int p1), .val (.int p2), .val (.int p3), .val (.int p4), .val (.int (3 : Int32)), .val (.ref b80), .unset, .unset, .unset, .unset] [(.int (1 : Int32)), (.ref b80)])) _
      refine XS.iloadN X82.here hx rfl (hb hby at_34) rfl ?_
      show Steps p.tables e below (T82.setTop (mkF m 35 #[.val (.int p0), .val (.int p1), .val (.int p2), .val (.int p3), .val (.int p4), .val (.int (3 : Int32)), .val (.ref b80), .unset, .unset, .unset, .unset] [(.int p2), (.int (1 : Int32)), (.ref b80)])) _
      refine XS.i2b X82.here hx rfl (hb hby at_35) rfl ?_
      show Steps p.tables e below (T82.setTop (mkF m 36 #[.val (.int p0), .val (.int p1), .val (.int p2), .val (.int p3), .val (.int p4), .val (.int (3 : Int32)), .val (.ref b80), .unset, .unset, .unset, .unset] [(.int ((p2).toInt8.toInt32)), (.int (1 : Int32)), (.ref b80)])) _
      refine st84 _ ?_
      show Steps p.tables e below (T84.setTop (mkF m 37 #[.val (.int p0), .val (.int p1), .val (.int p2), .val (.int p3), .val (.int p4), .val (.int (3 : Int32)), .val (.ref b80), .unset, .unset, .unset, .unset] [])) _
      refine XS.iload X84.here hx rfl (hb hby at_37) rfl ?_
      show Steps p.tables e below (T84.setTop (mkF m 39 #[.val (.int p0), .val (.int p1), .val (.int p2), .val (.int p3), .val (.int p4), .val (.int (3 : Int32)), .val (.ref b80), .unset, .unset, .unset, .unset] [(.int (3 : Int32))])) _
      refine XS.iconst X84.here hx rfl (hb hby at_39) ?_
      show Steps p.tables e below (T84.setTop (mkF m 40 #[.val (.int p0), .val (.int p1), .val (.int p2), .val (.int p3), .val (.int p4), .val (.int (3 : Int32)), .val (.ref b80), .unset, .unset, .unset, .unset] [(.int (2 : Int32)), (.int (3 : Int32))])) _
      refine XS.icmpNo X84.here hx rfl (hb hby at_40) rfl (XT.ii_le_f (by decide)) ?_
      show Steps p.tables e below (T84.setTop (mkF m 43 #[.val (.int p0), .val (.int p1), .val (.int p2), .val (.int p3), .val (.int p4), .val (.int (3 : Int32)), .val (.ref b80), .unset, .unset, .unset, .unset] [])) _
      refine XS.aload X84.here hx rfl (hb hby at_43) rfl rfl ?_
      show Steps p.tables e below (T84.setTop (mkF m 45 #[.val (.int p0), .val (.int p1), .val (.int p2), .val (.int p3), .val (.int p4), .val (.int (3 : Int32)), .val (.ref b80), .unset, .unset, .unset, .unset] [(.ref b80)])) _
      refine XS.iconst X84.here hx rfl (hb hby at_45) ?_
      show Steps p.tables e below (T84.setTop (mkF m 46 #[.val (.int p0), .val (.int p1), .val (.int p2), .val (.int p3), .val (.int p4), .val (.int (3 : Int32)), .val (.ref b80), .unset, .unset, .unset, .unset] [(.int (2 : Int32)), (.ref b80)])) _
      refine XS.iloadN X84.here hx rfl (hb hby at_46) rfl ?_
      show Steps p.tables e below (T84.setTop (mkF m 47 #[.val (.int p0), .val (.int p1), .val (.int p2), .val (.int p3), .val (.int p4), .val (.int (3 : Int32)), .val (.ref b80), .unset, .unset, .unset, .unset] [(.int p3), (.int (2 : Int32)), (.ref b80)])) _
      refine XS.i2b X84.here hx rfl (hb hby at_47) rfl ?_
      show Steps p.tables e below (T84.setTop (mkF m 48 #[.val (.int p0), .val (.int p1), .val (.int p2), .val (.int p3), .val (.int p4), .val (.int (3 : Int32)), .val (.ref b80), .unset, .unset, .unset, .unset] [(.int ((p3).toInt8.toInt32)), (.int (2 : Int32)), (.ref b80)])) _
      refine st86 _ ?_
      show Steps p.tables e below (T86.setTop (mkF m 49 #[.val (.int p0), .val (.int p1), .val (.int p2), .val (.int p3), .val (.int p4), .val (.int (3 : Int32)), .val (.ref b80), .unset, .unset, .unset, .unset] [])) _
      refine XS.iload X86.here hx rfl (hb hby at_49) rfl ?_
      show Steps p.tables e below (T86.setTop (mkF m 51 #[.val (.int p0), .val (.int p1), .val (.int p2), .val (.int p3), .val (.int p4), .val (.int (3 : Int32)), .val (.ref b80), .unset, .unset, .unset, .unset] [(.int (3 : Int32))])) _
      refine XS.iconst X86.here hx rfl (hb hby at_51) ?_
      show Steps p.tables e below (T86.setTop (mkF m 52 #[.val (.int p0), .val (.int p1), .val (.int p2), .val (.int p3), .val (.int p4), .val (.int (3 : Int32)), .val (.ref b80), .unset, .unset, .unset, .unset] [(.int (3 : Int32)), (.int (3 : Int32))])) _
      refine XS.icmpYes X86.here hx rfl (pc0 := 52) (pc' := 62) rfl (hb hby at_52) rfl (XT.ii_le_t (by decide)) (by decide) (by decide) ?_
      show Steps p.tables e below (T86.setTop (mkF m 62 #[.val (.int p0), .val (.int p1), .val (.int p2), .val (.int p3), .val (.int p4), .val (.int (3 : Int32)), .val (.ref b80), .unset, .unset, .unset, .unset] [])) _
      refine st87 _ ?_
      show Steps p.tables e below (T87.setTop (mkF m 65 #[.val (.int p0), .val (.int p1), .val (.int p2), .val (.int p3), .val (.int p4), .val (.int (3 : Int32)), .val (.ref b80), .unset, .unset, .unset, .unset] [(.ref b87)])) _
      exact kk
    have f92 := (Sta.ext E87 (Sta.wr W86 (Sta.wr W84 (Sta.wr W82 (Sta.ext E80 pr0)))))
    have z93 : n0 ≤ _ := (Nat.le_trans z88 E87.1)
    obtain ⟨_, _, ⟨T91, L91, k91, n91⟩, -, X91, ⟨Lc91, hQ91, l91, y91, z91⟩, st91⟩ := X87.specialBack hx (y := (⟨"com/example/meterwright/meterwright/RecordBody$Reader", "<init>", "([B)V"⟩ : MethodName)) rfl hown (mvT hZ (hw _ (List.mem_of_getElem? (i := 5) rfl))) (mvT hZ (hw _ (List.mem_of_getElem? (i := 6) rfl))) (mvT hZ (hw _ (List.mem_of_getElem? (i := 7) rfl))) (by decide) (backOf (W := 1) (rm4 l Z a0 hw [] b87 b80 sd h87 n0 z93 A87 F87_36 F87_38 F87_45 ge_b87 f92) hZ (hw _ (List.mem_of_getElem? (i := 7) rfl)) (hw _ (List.mem_of_getElem? (i := 4) rfl)) (by decide) (by decide)) (g := (mkF m 68 #[.val (.int p0), .val (.int p1), .val (.int p2), .val (.int p3), .val (.int p4), .val (.int (3 : Int32)), .val (.ref b80), .unset, .unset, .unset, .unset] [(.ref b80), (.ref b87), (.ref b87)])) rfl (by rw [hml]; rfl) (Steps.refl _) (a := b87) (argsL := [(.ref b80)]) (rest := [(.ref b87)]) (lenOf pd_2 rfl) rfl (by show 2 * 0 + _ ≤ _; exact Nat.le_of_eq rfl) (hb hby at_68) (fun _ _ => ⟨rfl, e87, (by decide : 2 + 1 ≤ _), (by decide : 7 + 3 ≤ _)⟩)
    dsimp only [Pt.U, Pt.locs, Pt.cells, Pt.slots] at X91 l91 y91 z91 st91 hQ91
    subst l91 y91 z91
    obtain ⟨rfl, Nq91, K91, q91_0, q91_1⟩ := hQ91
    have N91 := Fr.app N86 Nq91
    have f95 := (Arv.keep (V86.ext E87) K91 (ninS ne_b80_b87 nin0))
    have z96 : n0 ≤ _ := (Nat.le_trans z93 K91.1)
    have f97 := (Exa.keep A87 K91)
    obtain ⟨cq94, kq94, q94a, q94b, q94c⟩ := isOf hZ rfl f97
    obtain ⟨_, _, ⟨T94, L94, k94, n94⟩, -, X94, ⟨Lc94, hQ94, l94, y94, z94⟩, st94⟩ := X91.virtualBack hx (y := (⟨"com/example/meterwright/meterwright/RecordBody$Reader", "atEnd", "()Z"⟩ : MethodName)) (z := (⟨"com/example/meterwright/meterwright/RecordBody$Reader", "atEnd", "()Z"⟩ : MethodName)) hown (mvT hZ (hw _ (List.mem_of_getElem? (i := 39) rfl))) (mvT hZ (hw _ (List.mem_of_getElem? (i := 40) rfl))) (notFace_of_selects (args := #[]) (mvT hZ (hw _ (List.mem_of_getElem? (i := 42) rfl)))) (mvT hZ (hw _ (List.mem_of_getElem? (i := 42) rfl))) (mvT hZ (hw _ (List.mem_of_getElem? (i := 41) rfl))) (by decide) (backOf (W := 0) (rm5 l Z a0 hw [] b87 (0 : Int32) b80 k80 (3 : Int32) [(.int (nar .byte ((p1).toInt8.toInt32))), (.int (nar .byte ((p2).toInt8.toInt32))), (.int (nar .byte ((p3).toInt8.toInt32)))] (.int (0 : Int32)) T91.heap n0 z96 q91_1 q91_0 f95) hZ (hw _ (List.mem_of_getElem? (i := 43) rfl)) (hw _ (List.mem_of_getElem? (i := 4) rfl)) (by decide) (by decide)) q94a q94c (g := (mkF m 75 #[.val (.int p0), .val (.int p1), .val (.int p2), .val (.int p3), .val (.int p4), .val (.int (3 : Int32)), .val (.ref b80), .val (.ref b87), .unset, .unset, .unset] [(.ref b87)])) rfl (by rw [hml]; rfl) (Steps.refl _) (argsL := []) (rest := []) (lenOf pd_3 rfl) rfl (by show 2 * 0 + _ ≤ _; exact Nat.le_of_eq rfl) (hb hby at_75) (fun _ _ => ⟨rfl, rfl, (by decide : 3 + 0 ≤ _), (by decide : 10 + 0 ≤ _)⟩)
    dsimp only [Pt.U, Pt.locs, Pt.cells, Pt.slots] at X94 l94 y94 z94 st94 hQ94
    subst l94 y94 z94
    obtain ⟨rfl, Nq94, e94⟩ := hQ94
    have N94 := Fr.app N91 Nq94
    obtain ⟨cq98, kq98, q98a, q98b, q98c⟩ := isOf hZ e94 f97
    obtain ⟨_, _, ⟨T98, L98, k98, n98⟩, -, X98, ⟨Lc98, hQ98, l98, y98, z98⟩, st98⟩ := X94.virtualBack hx (y := (⟨"com/example/meterwright/meterwright/RecordBody$Reader", "atEnd", "()Z"⟩ : MethodName)) (z := (⟨"com/example/meterwright/meterwright/RecordBody$Reader", "atEnd", "()Z"⟩ : MethodName)) hown (mvT hZ (hw _ (List.mem_of_getElem? (i := 39) rfl))) (mvT hZ (hw _ (List.mem_of_getElem? (i := 40) rfl))) (notFace_of_selects (args := #[]) (mvT hZ (hw _ (List.mem_of_getElem? (i := 42) rfl)))) (mvT hZ (hw _ (List.mem_of_getElem? (i := 42) rfl))) (mvT hZ (hw _ (List.mem_of_getElem? (i := 41) rfl))) (by decide) (backOf (W := 0) (rm5 l Z a0 hw [] b87 (0 : Int32) b80 k80 (3 : Int32) [(.int (nar .byte ((p1).toInt8.toInt32))), (.int (nar .byte ((p2).toInt8.toInt32))), (.int (nar .byte ((p3).toInt8.toInt32)))] (.int (0 : Int32)) T91.heap n0 z96 q91_1 q91_0 f95) hZ (hw _ (List.mem_of_getElem? (i := 43) rfl)) (hw _ (List.mem_of_getElem? (i := 4) rfl)) (by decide) (by decide)) q98a q98c (g := (mkF m 105 #[.val (.int p0), .val (.int p1), .val (.int p2), .val (.int p3), .val (.int p4), .val (.int (3 : Int32)), .val (.ref b80), .val (.ref b87), .val (.int (1 : Int32)), .unset, .unset] [(.ref b87)])) rfl (by rw [hml]; rfl) (Steps.refl _) (argsL := []) (rest := []) (lenOf pd_3 rfl) rfl (by show 2 * 0 + _ ≤ _; exact Nat.le_of_eq rfl) (hb hby at_105) (fun _ _ => ⟨rfl, e94, (by decide : 3 + 0 ≤ _), (by decide : 10 + 0 ≤ _)⟩)
    dsimp only [Pt.U, Pt.locs, Pt.cells, Pt.slots] at X98 l98 y98 z98 st98 hQ98
    subst l98 y98 z98
    obtain ⟨rfl, Nq98, e98⟩ := hQ98
    have N98 := Fr.app N94 Nq98
    obtain ⟨cq99, kq99, q99a, q99b, q99c⟩ := isOf hZ e98 f97
    obtain ⟨_, _, ⟨T99, L99, k99, n99⟩, -, X99, ⟨Lc99, hQ99, l99, y99, z99⟩, st99⟩ := X98.virtualBack hx (y := (⟨"com/example/meterwright/meterwright/RecordBody$Reader", "kind", "()B"⟩ : MethodName)) (z := (⟨"com/example/meterwright/meterwright/RecordBody$Reader", "kind", "()B"⟩ : MethodName)) hown (mvT hZ (hw _ (List.mem_of_getElem? (i := 46) rfl))) (mvT hZ (hw _ (List.mem_of_getElem? (i := 47) rfl))) (notFace_of_selects (args := #[]) (mvT hZ (hw _ (List.mem_of_getElem? (i := 49) rfl)))) (mvT hZ (hw _ (List.mem_of_getElem? (i := 49) rfl))) (mvT hZ (hw _ (List.mem_of_getElem? (i := 48) rfl))) (by decide) (backOf (W := 0) (rm6 l Z a0 hw [] b87 (0 : Int32) b80 k80 (3 : Int32) [(.int (nar .byte ((p1).toInt8.toInt32))), (.int (nar .byte ((p2).toInt8.toInt32))), (.int (nar .byte ((p3).toInt8.toInt32)))] (.int (0 : Int32)) (nar .byte ((p1).toInt8.toInt32)) T91.heap n0 z96 f97 q91_1 q91_0 f95 ge_b87 ne_b80_b87 ⟨by decide, by decide⟩ rfl) hZ (hw _ (List.mem_of_getElem? (i := 50) rfl)) (hw _ (List.mem_of_getElem? (i := 4) rfl)) (by decide) (by decide)) q99a q99c (g := (mkF m 138 #[.val (.int p0), .val (.int p1), .val (.int p2), .val (.int p3), .val (.int p4), .val (.int (3 : Int32)), .val (.ref b80), .val (.ref b87), .val (.int (1 : Int32)), .unset, .unset] [(.ref b87)])) rfl (by rw [hml]; rfl) (Steps.refl _) (argsL := []) (rest := []) (lenOf pd_4 rfl) rfl (by show 2 * 0 + _ ≤ _; exact Nat.le_of_eq rfl) (hb hby at_138) (fun _ _ => ⟨rfl, e98, (by decide : 3 + 0 ≤ _), (by decide : 10 + 0 ≤ _)⟩)
    dsimp only [Pt.U, Pt.locs, Pt.cells, Pt.slots] at X99 l99 y99 z99 st99 hQ99
    subst l99 y99 z99
    obtain ⟨rfl, Nq99, K99, q99_0, q99_1⟩ := hQ99
    have N99 := Fr.app N98 Nq99
    have q99_0' : Fld Z T99.heap b87 "com/example/meterwright/meterwright/RecordBody$Reader" "position" "I" (.int (1 : Int32)) := q99_0
    have P100 : ∀ t, Steps p.tables e below (T99.setTop (mkF m 145 #[.val (.int p0), .val (.int p1), .val (.int p2), .val (.int p3), .val (.int p4), .val (.int (3 : Int32)), .val (.ref b80), .val (.ref b87), .val (.int (1 : Int32)), .val (.int (nar .byte (nar .byte ((p1).toInt8.toInt32)))), .unset] [(.int (1 : Int32))])) t → Steps p.tables e below (s₁.setTop (entryFrame m #[(.int p0), (.int p1), (.int p2), (.int p3), (.int p4)] maxLocals)) t := by
      intro t kk
      refine P90 _ ?_
      show Steps p.tables e below (T87.setTop (mkF m 65 #[.val (.int p0), .val (.int p1), .val (.int p2), .val (.int p3), .val (.int p4), .val (.int (3 : Int32)), .val (.ref b80), .unset, .unset, .unset, .unset] [(.ref b87)])) _
      refine XS.dup X87.here hx rfl (hb hby at_65) rfl rfl ?_
      show Steps p.tables e below (T87.setTop (mkF m 66 #[.val (.int p0), .val (.int p1), .val (.int p2), .val (.int p3), .val (.int p4), .val (.int (3 : Int32)), .val (.ref b80), .unset, .unset, .unset, .unset] [(.ref b87), (.ref b87)])) _
      refine XS.aload X87.here hx rfl (hb hby at_66) rfl rfl ?_
      show Steps p.tables e below (T87.setTop (mkF m 68 #[.val (.int p0), .val (.int p1), .val (.int p2), .val (.int p3), .val (.int p4), .val (.int (3 : Int32)), .val (.ref b80), .unset, .unset, .unset, .unset] [(.ref b80), (.ref b87), (.ref b87)])) _
      refine st91.trans ?_
      show Steps p.tables e below (T91.setTop (mkF m 71 #[.val (.int p0), .val (.int p1), .val (.int p2), .val (.int p3), .val (.int p4), .val (.int (3 : Int32)), .val (.ref b80), .unset, .unset, .unset, .unset] [(.ref b87)])) _
      refine XS.astore X91.here hx rfl (hb hby at_71) rfl rfl (l' := #[.val (.int p0), .val (.int p1), .val (.int p2), .val (.int p3), .val (.int p4), .val (.int (3 : Int32)), .val (.ref b80), .val (.ref b87), .unset, .unset, .unset]) rfl ?_
      show Steps p.tables e below (T91.setTop (mkF m 73 #[.val (.int p0), .val (.int p1), .val (.int p2), .val (.int p3), .val (.int p4), .val (.int (3 : Int32)), .val (.ref b80), .val (.ref b87), .unset, .unset, .unset] [])) _
      refine XS.aload X91.here hx rfl (hb hby at_73) rfl rfl ?_
      show Steps p.tables e below (T91.setTop (mkF m 75 #[.val (.int p0), .val (.int p1), .val (.int p2), .val (.int p3), .val (.int p4), .val (.int (3 : Int32)), .val (.ref b80), .val (.ref b87), .unset, .unset, .unset] [(.ref b87)])) _
      refine st94.trans ?_
      show Steps p.tables e below (T94.setTop (mkF m 78 #[.val (.int p0), .val (.int p1), .val (.int p2), .val (.int p3), .val (.int p4), .val (.int (3 : Int32)), .val (.ref b80), .val (.ref b87), .unset, .unset, .unset] [(.int (F5 (0 : Int32) (3 : Int32)))])) _
      refine XS.iload X94.here hx rfl (hb hby at_78) rfl ?_
      show Steps p.tables e below (T94.setTop (mkF m 80 #[.val (.int p0), .val (.int p1), .val (.int p2), .val (.int p3), .val (.int p4), .val (.int (3 : Int32)), .val (.ref b80), .val (.ref b87), .unset, .unset, .unset] [(.int (3 : Int32)), (.int (F5 (0 : Int32) (3 : Int32)))])) _
      refine XS.ifYes X94.here hx rfl (pc0 := 80) (pc' := 87) rfl (hb hby at_80) rfl (XT.i0_ne_t (by decide)) (by decide) (by decide) ?_
      show Steps p.tables e below (T94.setTop (mkF m 87 #[.val (.int p0), .val (.int p1), .val (.int p2), .val (.int p3), .val (.int p4), .val (.int (3 : Int32)), .val (.ref b80), .val (.ref b87), .unset, .unset, .unset] [(.int (F5 (0 : Int32) (3 : Int32)))])) _
      refine XS.iconst X94.here hx rfl (hb hby at_87) ?_
      show Steps p.tables e below (T94.setTop (mkF m 88 #[.val (.int p0), .val (.int p1), .val (.int p2), .val (.int p3), .val (.int p4), .val (.int (3 : Int32)), .val (.ref b80), .val (.ref b87), .unset, .unset, .unset] [(.int (0 : Int32)), (.int (F5 (0 : Int32) (3 : Int32)))])) _
      refine XS.icmpNo X94.here hx rfl (hb hby at_88) rfl (XT.ii_ne_f (by decide)) ?_
      show Steps p.tables e below (T94.setTop (mkF m 91 #[.val (.int p0), .val (.int p1), .val (.int p2), .val (.int p3), .val (.int p4), .val (.int (3 : Int32)), .val (.ref b80), .val (.ref b87), .unset, .unset, .unset] [])) _
      refine XS.iconst X94.here hx rfl (hb hby at_91) ?_
      show Steps p.tables e below (T94.setTop (mkF m 92 #[.val (.int p0), .val (.int p1), .val (.int p2), .val (.int p3), .val (.int p4), .val (.int (3 : Int32)), .val (.ref b80), .val (.ref b87), .unset, .unset, .unset] [(.int (1 : Int32))])) _
      refine XS.goto X94.here hx rfl (pc0 := 92) (pc' := 96) rfl (hb hby at_92) (by decide) (by decide) ?_
      show Steps p.tables e below (T94.setTop (mkF m 96 #[.val (.int p0), .val (.int p1), .val (.int p2), .val (.int p3), .val (.int p4), .val (.int (3 : Int32)), .val (.ref b80), .val (.ref b87), .unset, .unset, .unset] [(.int (1 : Int32))])) _
      refine XS.istore X94.here hx rfl (hb hby at_96) rfl (l' := #[.val (.int p0), .val (.int p1), .val (.int p2), .val (.int p3), .val (.int p4), .val (.int (3 : Int32)), .val (.ref b80), .val (.ref b87), .val (.int (1 : Int32)), .unset, .unset]) rfl ?_
      show Steps p.tables e below (T94.setTop (mkF m 98 #[.val (.int p0), .val (.int p1), .val (.int p2), .val (.int p3), .val (.int p4), .val (.int (3 : Int32)), .val (.ref b80), .val (.ref b87), .val (.int (1 : Int32)), .unset, .unset] [])) _
      refine XS.iload X94.here hx rfl (hb hby at_98) rfl ?_
      show Steps p.tables e below (T94.setTop (mkF m 100 #[.val (.int p0), .val (.int p1), .val (.int p2), .val (.int p3), .val (.int p4), .val (.int (3 : Int32)), .val (.ref b80), .val (.ref b87), .val (.int (1 : Int32)), .unset, .unset] [(.int (1 : Int32))])) _
      refine XS.ifNo X94.here hx rfl (hb hby at_100) rfl (XT.i0_eq_f (by decide)) ?_
      show Steps p.tables e below (T94.setTop (mkF m 103 #[.val (.int p0), .val (.int p1), .val (.int p2), .val (.int p3), .val (.int p4), .val (.int (3 : Int32)), .val (.ref b80), .val (.ref b87), .val (.int (1 : Int32)), .unset, .unset] [])) _
      refine XS.aload X94.here hx rfl (hb hby at_103) rfl rfl ?_
      show Steps p.tables e below (T94.setTop (mkF m 105 #[.val (.int p0), .val (.int p1), .val (.int p2), .val (.int p3), .val (.int p4), .val (.int (3 : Int32)), .val (.ref b80), .val (.ref b87), .val (.int (1 : Int32)), .unset, .unset] [(.ref b87)])) _
      refine st98.trans ?_
      show Steps p.tables e below (T98.setTop (mkF m 108 #[.val (.int p0), .val (.int p1), .val (.int p2), .val (.int p3), .val (.int p4), .val (.int (3 : Int32)), .val (.ref b80), .val (.ref b87), .val (.int (1 : Int32)), .unset, .unset] [(.int (F5 (0 : Int32) (3 : Int32)))])) _
      refine XS.iload X98.here hx rfl (hb hby at_108) rfl ?_
      show Steps p.tables e below (T98.setTop (mkF m 110 #[.val (.int p0), .val (.int p1), .val (.int p2), .val (.int p3), .val (.int p4), .val (.int (3 : Int32)), .val (.ref b80), .val (.ref b87), .val (.int (1 : Int32)), .unset, .unset] [(.int (3 : Int32)), (.int (F5 (0 : Int32) (3 : Int32)))])) _
      refine XS.ifYes X98.here hx rfl (pc0 := 110) (pc' := 117) rfl (hb hby at_110) rfl (XT.i0_ne_t (by decide)) (by decide) (by decide) ?_
      show Steps p.tables e below (T98.setTop (mkF m 117 #[.val (.int p0), .val (.int p1), .val (.int p2), .val (.int p3), .val (.int p4), .val (.int (3 : Int32)), .val (.ref b80), .val (.ref b87), .val (.int (1 : Int32)), .unset, .unset] [(.int (F5 (0 : Int32) (3 : Int32)))])) _
      refine XS.iconst X98.here hx rfl (hb hby at_117) ?_
      show Steps p.tables e below (T98.setTop (mkF m 118 #[.val (.int p0), .val (.int p1), .val (.int p2), .val (.int p3), .val (.int p4), .val (.int (3 : Int32)), .val (.ref b80), .val (.ref b87), .val (.int (1 : Int32)), .unset, .unset] [(.int (0 : Int32)), (.int (F5 (0 : Int32) (3 : Int32)))])) _
      refine XS.icmpNo X98.here hx rfl (hb hby at_118) rfl (XT.ii_ne_f (by decide)) ?_
      show Steps p.tables e below (T98.setTop (mkF m 121 #[.val (.int p0), .val (.int p1), .val (.int p2), .val (.int p3), .val (.int p4), .val (.int (3 : Int32)), .val (.ref b80), .val (.ref b87), .val (.int (1 : Int32)), .unset, .unset] [])) _
      refine XS.iconst X98.here hx rfl (hb hby at_121) ?_
      show Steps p.tables e below (T98.setTop (mkF m 122 #[.val (.int p0), .val (.int p1), .val (.int p2), .val (.int p3), .val (.int p4), .val (.int (3 : Int32)), .val (.ref b80), .val (.ref b87), .val (.int (1 : Int32)), .unset, .unset] [(.int (1 : Int32))])) _
      refine XS.goto X98.here hx rfl (pc0 := 122) (pc' := 126) rfl (hb hby at_122) (by decide) (by decide) ?_
      show Steps p.tables e below (T98.setTop (mkF m 126 #[.val (.int p0), .val (.int p1), .val (.int p2), .val (.int p3), .val (.int p4), .val (.int (3 : Int32)), .val (.ref b80), .val (.ref b87), .val (.int (1 : Int32)), .unset, .unset] [(.int (1 : Int32))])) _
      refine XS.istore X98.here hx rfl (hb hby at_126) rfl (l' := #[.val (.int p0), .val (.int p1), .val (.int p2), .val (.int p3), .val (.int p4), .val (.int (3 : Int32)), .val (.ref b80), .val (.ref b87), .val (.int (1 : Int32)), .unset, .unset]) rfl ?_
      show Steps p.tables e below (T98.setTop (mkF m 128 #[.val (.int p0), .val (.int p1), .val (.int p2), .val (.int p3), .val (.int p4), .val (.int (3 : Int32)), .val (.ref b80), .val (.ref b87), .val (.int (1 : Int32)), .unset, .unset] [])) _
      refine XS.iload X98.here hx rfl (hb hby at_128) rfl ?_
      show Steps p.tables e below (T98.setTop (mkF m 130 #[.val (.int p0), .val (.int p1), .val (.int p2), .val (.int p3), .val (.int p4), .val (.int (3 : Int32)), .val (.ref b80), .val (.ref b87), .val (.int (1 : Int32)), .unset, .unset] [(.int (3 : Int32))])) _
      refine XS.ifYes X98.here hx rfl (pc0 := 130) (pc' := 136) rfl (hb hby at_130) rfl (XT.i0_ne_t (by decide)) (by decide) (by decide) ?_
      show Steps p.tables e below (T98.setTop (mkF m 136 #[.val (.int p0), .val (.int p1), .val (.int p2), .val (.int p3), .val (.int p4), .val (.int (3 : Int32)), .val (.ref b80), .val (.ref b87), .val (.int (1 : Int32)), .unset, .unset] [])) _
      refine XS.aload X98.here hx rfl (hb hby at_136) rfl rfl ?_
      show Steps p.tables e below (T98.setTop (mkF m 138 #[.val (.int p0), .val (.int p1), .val (.int p2), .val (.int p3), .val (.int p4), .val (.int (3 : Int32)), .val (.ref b80), .val (.ref b87), .val (.int (1 : Int32)), .unset, .unset] [(.ref b87)])) _
      refine st99.trans ?_
      show Steps p.tables e below (T99.setTop (mkF m 141 #[.val (.int p0), .val (.int p1), .val (.int p2), .val (.int p3), .val (.int p4), .val (.int (3 : Int32)), .val (.ref b80), .val (.ref b87), .val (.int (1 : Int32)), .unset, .unset] [(.int (nar .byte (nar .byte ((p1).toInt8.toInt32))))])) _
      refine XS.istore X99.here hx rfl (hb hby at_141) rfl (l' := #[.val (.int p0), .val (.int p1), .val (.int p2), .val (.int p3), .val (.int p4), .val (.int (3 : Int32)), .val (.ref b80), .val (.ref b87), .val (.int (1 : Int32)), .val (.int (nar .byte (nar .byte ((p1).toInt8.toInt32)))), .unset]) rfl ?_
      show Steps p.tables e below (T99.setTop (mkF m 143 #[.val (.int p0), .val (.int p1), .val (.int p2), .val (.int p3), .val (.int p4), .val (.int (3 : Int32)), .val (.ref b80), .val (.ref b87), .val (.int (1 : Int32)), .val (.int (nar .byte (nar .byte ((p1).toInt8.toInt32)))), .unset] [])) _
      refine XS.iload X99.here hx rfl (hb hby at_143) rfl ?_
      show Steps p.tables e below (T99.setTop (mkF m 145 #[.val (.int p0), .val (.int p1), .val (.int p2), .val (.int p3), .val (.int p4), .val (.int (3 : Int32)), .val (.ref b80), .val (.ref b87), .val (.int (1 : Int32)), .val (.int (nar .byte (nar .byte ((p1).toInt8.toInt32)))), .unset] [(.int (1 : Int32))])) _
      exact kk
    have f101 := (Arv.keep f95 K99 (ninS ne_b80_b87 nin0))
    obtain ⟨cl_a102, Ar_a102, q_a102, S_a102, N_a102, H_a102, G_a102⟩ := id f101
    have hin_a102 : ¬ ((0 : Int32) < 0 ∨ cl_a102.slots.size ≤ ((0 : Int32)).toNatClampNeg) := inb_of S_a102 ⟨by decide, by decide⟩
    have hat_a102 := Has.at (v := (.int (nar .byte ((p1).toInt8.toInt32)))) H_a102 hin_a102 rfl
    have z104 : n0 ≤ _ := (Nat.le_trans z96 K99.1)
    have f105 := (Exa.keep f97 K99)
    obtain ⟨cq103, kq103, q103a, q103b, q103c⟩ := isOf hZ rfl f105
    obtain ⟨_, _, ⟨T103, L103, k103, n103⟩, -, X103, ⟨Lc103, hQ103, l103, y103, z103⟩, st103⟩ := X99.virtualBack hx (y := (⟨"com/example/meterwright/meterwright/RecordBody$Reader", "atEnd", "()Z"⟩ : MethodName)) (z := (⟨"com/example/meterwright/meterwright/RecordBody$Reader", "atEnd", "()Z"⟩ : MethodName)) hown (mvT hZ (hw _ (List.mem_of_getElem? (i := 39) rfl))) (mvT hZ (hw _ (List.mem_of_getElem? (i := 40) rfl))) (notFace_of_selects (args := #[]) (mvT hZ (hw _ (List.mem_of_getElem? (i := 42) rfl)))) (mvT hZ (hw _ (List.mem_of_getElem? (i := 42) rfl))) (mvT hZ (hw _ (List.mem_of_getElem? (i := 41) rfl))) (by decide) (backOf (W := 0) (rm5 l Z a0 hw [] b87 (1 : Int32) b80 k80 (3 : Int32) [(.int (nar .byte ((p1).toInt8.toInt32))), (.int (nar .byte ((p2).toInt8.toInt32))), (.int (nar .byte ((p3).toInt8.toInt32)))] (.int (0 : Int32)) T99.heap n0 z104 q99_0' q99_1 f101) hZ (hw _ (List.mem_of_getElem? (i := 43) rfl)) (hw _ (List.mem_of_getElem? (i := 4) rfl)) (by decide) (by decide)) q103a q103c (g := (mkF m 171 #[.val (.int p0), .val (.int p1), .val (.int p2), .val (.int p3), .val (.int p4), .val (.int (3 : Int32)), .val (.ref b80), .val (.ref b87), .val (.int (1 : Int32)), .val (.int (nar .byte (nar .byte ((p1).toInt8.toInt32)))), .unset] [(.ref b87)])) rfl (by rw [hml]; rfl) (Steps.refl _) (argsL := []) (rest := []) (lenOf pd_3 rfl) rfl (by show 2 * 0 + _ ≤ _; exact Nat.le_of_eq rfl) (hb hby at_171) (fun _ _ => ⟨rfl, rfl, (by decide : 3 + 0 ≤ _), (by decide : 10 + 0 ≤ _)⟩)
    dsimp only [Pt.U, Pt.locs, Pt.cells, Pt.slots] at X103 l103 y103 z103 st103 hQ103
    subst l103 y103 z103
    obtain ⟨rfl, Nq103, e103⟩ := hQ103
    have N103 := Fr.app N99 Nq103
    obtain ⟨cl_a106, Ar_a106, q_a106, S_a106, N_a106, H_a106, G_a106⟩ := id f101
    have hin_a106 : ¬ ((1 : Int32) < 0 ∨ cl_a106.slots.size ≤ ((1 : Int32)).toNatClampNeg) := inb_of S_a106 ⟨by decide, by decide⟩
    have hat_a106 := Has.at (v := (.int (nar .byte ((p2).toInt8.toInt32)))) H_a106 hin_a106 rfl
    have P107 : ∀ t, Steps p.tables e below (T103.setTop (mkF m 211 #[.val (.int p0), .val (.int p1), .val (.int p2), .val (.int p3), .val (.int p4), .val (.int (3 : Int32)), .val (.ref b80), .val (.ref b87), .val (.int (1 : Int32)), .val (.int (nar .byte (nar .byte ((p1).toInt8.toInt32)))), .val (.int (-1 : Int32))] [(.int (nar .byte ((p2).toInt8.toInt32)))])) t → Steps p.tables e below (s₁.setTop (entryFrame m #[(.int p0), (.int p1), (.int p2), (.int p3), (.int p4)] maxLocals)) t := by
      intro t kk
      refine P100 _ ?_
      show Steps p.tables e below (T99.setTop (mkF m 145 #[.val (.int p0), .val (.int p1), .val (.int p2), .val (.int p3), .val (.int p4), .val (.int (3 : Int32)), .val (.ref b80), .val (.ref b87), .val (.int (1 : Int32)), .val (.int (nar .byte (nar .byte ((p1).toInt8.toInt32)))), .unset] [(.int (1 : Int32))])) _
      refine XS.ifNo X99.here hx rfl (hb hby at_145) rfl (XT.i0_eq_f (by decide)) ?_
      show Steps p.tables e below (T99.setTop (mkF m 148 #[.val (.int p0), .val (.int p1), .val (.int p2), .val (.int p3), .val (.int p4), .val (.int (3 : Int32)), .val (.ref b80), .val (.ref b87), .val (.int (1 : Int32)), .val (.int (nar .byte (nar .byte ((p1).toInt8.toInt32)))), .unset] [])) _
      refine XS.iload X99.here hx rfl (hb hby at_148) rfl ?_
      show Steps p.tables e below (T99.setTop (mkF m 150 #[.val (.int p0), .val (.int p1), .val (.int p2), .val (.int p3), .val (.int p4), .val (.int (3 : Int32)), .val (.ref b80), .val (.ref b87), .val (.int (1 : Int32)), .val (.int (nar .byte (nar .byte ((p1).toInt8.toInt32)))), .unset] [(.int (nar .byte (nar .byte ((p1).toInt8.toInt32))))])) _
      refine XS.aload X99.here hx rfl (hb hby at_150) rfl rfl ?_
      show Steps p.tables e below (T99.setTop (mkF m 152 #[.val (.int p0), .val (.int p1), .val (.int p2), .val (.int p3), .val (.int p4), .val (.int (3 : Int32)), .val (.ref b80), .val (.ref b87), .val (.int (1 : Int32)), .val (.int (nar .byte (nar .byte ((p1).toInt8.toInt32)))), .unset] [(.ref b80), (.int (nar .byte (nar .byte ((p1).toInt8.toInt32))))])) _
      refine XS.iconst X99.here hx rfl (hb hby at_152) ?_
      show Steps p.tables e below (T99.setTop (mkF m 153 #[.val (.int p0), .val (.int p1), .val (.int p2), .val (.int p3), .val (.int p4), .val (.int (3 : Int32)), .val (.ref b80), .val (.ref b87), .val (.int (1 : Int32)), .val (.int (nar .byte (nar .byte ((p1).toInt8.toInt32)))), .unset] [(.int (0 : Int32)), (.ref b80), (.int (nar .byte (nar .byte ((p1).toInt8.toInt32))))])) _
      refine X99.baloadBytes hx (j := (0 : Int32)) (v := (.int (nar .byte ((p1).toInt8.toInt32)))) (Ar_a102.1) (State.isArrayOf_alike hZ.alike Ar_a102.2.1) Ar_a102.2.2 hin_a102 hat_a102 (g := (mkF m 153 #[.val (.int p0), .val (.int p1), .val (.int p2), .val (.int p3), .val (.int p4), .val (.int (3 : Int32)), .val (.ref b80), .val (.ref b87), .val (.int (1 : Int32)), .val (.int (nar .byte (nar .byte ((p1).toInt8.toInt32)))), .unset] [(.int (0 : Int32)), (.ref b80), (.int (nar .byte (nar .byte ((p1).toInt8.toInt32))))])) rfl rfl (hb hby at_153) _ ?_
      show Steps p.tables e below (T99.setTop (mkF m 154 #[.val (.int p0), .val (.int p1), .val (.int p2), .val (.int p3), .val (.int p4), .val (.int (3 : Int32)), .val (.ref b80), .val (.ref b87), .val (.int (1 : Int32)), .val (.int (nar .byte (nar .byte ((p1).toInt8.toInt32)))), .unset] [(.int (nar .byte ((p1).toInt8.toInt32))), (.int (nar .byte (nar .byte ((p1).toInt8.toInt32))))])) _
      refine XS.icmpNo X99.here hx rfl (hb hby at_154) rfl (XT.ii_ne_f (own_nb _)) ?_
      show Steps p.tables e below (T99.setTop (mkF m 157 #[.val (.int p0), .val (.int p1), .val (.int p2), .val (.int p3), .val (.int p4), .val (.int (3 : Int32)), .val (.ref b80), .val (.ref b87), .val (.int (1 : Int32)), .val (.int (nar .byte (nar .byte ((p1).toInt8.toInt32)))), .unset] [])) _
      refine XS.iconst X99.here hx rfl (hb hby at_157) ?_
      show Steps p.tables e below (T99.setTop (mkF m 158 #[.val (.int p0), .val (.int p1), .val (.int p2), .val (.int p3), .val (.int p4), .val (.int (3 : Int32)), .val (.ref b80), .val (.ref b87), .val (.int (1 : Int32)), .val (.int (nar .byte (nar .byte ((p1).toInt8.toInt32)))), .unset] [(.int (1 : Int32))])) _
      refine XS.goto X99.here hx rfl (pc0 := 158) (pc' := 162) rfl (hb hby at_158) (by decide) (by decide) ?_
      show Steps p.tables e below (T99.setTop (mkF m 162 #[.val (.int p0), .val (.int p1), .val (.int p2), .val (.int p3), .val (.int p4), .val (.int (3 : Int32)), .val (.ref b80), .val (.ref b87), .val (.int (1 : Int32)), .val (.int (nar .byte (nar .byte ((p1).toInt8.toInt32)))), .unset] [(.int (1 : Int32))])) _
      refine XS.istore X99.here hx rfl (hb hby at_162) rfl (l' := #[.val (.int p0), .val (.int p1), .val (.int p2), .val (.int p3), .val (.int p4), .val (.int (3 : Int32)), .val (.ref b80), .val (.ref b87), .val (.int (1 : Int32)), .val (.int (nar .byte (nar .byte ((p1).toInt8.toInt32)))), .unset]) rfl ?_
      show Steps p.tables e below (T99.setTop (mkF m 164 #[.val (.int p0), .val (.int p1), .val (.int p2), .val (.int p3), .val (.int p4), .val (.int (3 : Int32)), .val (.ref b80), .val (.ref b87), .val (.int (1 : Int32)), .val (.int (nar .byte (nar .byte ((p1).toInt8.toInt32)))), .unset] [])) _
      refine XS.iload X99.here hx rfl (hb hby at_164) rfl ?_
      show Steps p.tables e below (T99.setTop (mkF m 166 #[.val (.int p0), .val (.int p1), .val (.int p2), .val (.int p3), .val (.int p4), .val (.int (3 : Int32)), .val (.ref b80), .val (.ref b87), .val (.int (1 : Int32)), .val (.int (nar .byte (nar .byte ((p1).toInt8.toInt32)))), .unset] [(.int (1 : Int32))])) _
      refine XS.ifNo X99.here hx rfl (hb hby at_166) rfl (XT.i0_eq_f (by decide)) ?_
      show Steps p.tables e below (T99.setTop (mkF m 169 #[.val (.int p0), .val (.int p1), .val (.int p2), .val (.int p3), .val (.int p4), .val (.int (3 : Int32)), .val (.ref b80), .val (.ref b87), .val (.int (1 : Int32)), .val (.int (nar .byte (nar .byte ((p1).toInt8.toInt32)))), .unset] [])) _
      refine XS.aload X99.here hx rfl (hb hby at_169) rfl rfl ?_
      show Steps p.tables e below (T99.setTop (mkF m 171 #[.val (.int p0), .val (.int p1), .val (.int p2), .val (.int p3), .val (.int p4), .val (.int (3 : Int32)), .val (.ref b80), .val (.ref b87), .val (.int (1 : Int32)), .val (.int (nar .byte (nar .byte ((p1).toInt8.toInt32)))), .unset] [(.ref b87)])) _
      refine st103.trans ?_
      show Steps p.tables e below (T103.setTop (mkF m 174 #[.val (.int p0), .val (.int p1), .val (.int p2), .val (.int p3), .val (.int p4), .val (.int (3 : Int32)), .val (.ref b80), .val (.ref b87), .val (.int (1 : Int32)), .val (.int (nar .byte (nar .byte ((p1).toInt8.toInt32)))), .unset] [(.int (F5 (1 : Int32) (3 : Int32)))])) _
      refine XS.iload X103.here hx rfl (hb hby at_174) rfl ?_
      show Steps p.tables e below (T103.setTop (mkF m 176 #[.val (.int p0), .val (.int p1), .val (.int p2), .val (.int p3), .val (.int p4), .val (.int (3 : Int32)), .val (.ref b80), .val (.ref b87), .val (.int (1 : Int32)), .val (.int (nar .byte (nar .byte ((p1).toInt8.toInt32)))), .unset] [(.int (3 : Int32)), (.int (F5 (1 : Int32) (3 : Int32)))])) _
      refine XS.iconst X103.here hx rfl (hb hby at_176) ?_
      show Steps p.tables e below (T103.setTop (mkF m 177 #[.val (.int p0), .val (.int p1), .val (.int p2), .val (.int p3), .val (.int p4), .val (.int (3 : Int32)), .val (.ref b80), .val (.ref b87), .val (.int (1 : Int32)), .val (.int (nar .byte (nar .byte ((p1).toInt8.toInt32)))), .unset] [(.int (1 : Int32)), (.int (3 : Int32)), (.int (F5 (1 : Int32) (3 : Int32)))])) _
      refine XS.icmpYes X103.here hx rfl (pc0 := 177) (pc' := 184) rfl (hb hby at_177) rfl (XT.ii_ne_t (by decide)) (by decide) (by decide) ?_
      show Steps p.tables e below (T103.setTop (mkF m 184 #[.val (.int p0), .val (.int p1), .val (.int p2), .val (.int p3), .val (.int p4), .val (.int (3 : Int32)), .val (.ref b80), .val (.ref b87), .val (.int (1 : Int32)), .val (.int (nar .byte (nar .byte ((p1).toInt8.toInt32)))), .unset] [(.int (F5 (1 : Int32) (3 : Int32)))])) _
      refine XS.iconst X103.here hx rfl (hb hby at_184) ?_
      show Steps p.tables e below (T103.setTop (mkF m 185 #[.val (.int p0), .val (.int p1), .val (.int p2), .val (.int p3), .val (.int p4), .val (.int (3 : Int32)), .val (.ref b80), .val (.ref b87), .val (.int (1 : Int32)), .val (.int (nar .byte (nar .byte ((p1).toInt8.toInt32)))), .unset] [(.int (0 : Int32)), (.int (F5 (1 : Int32) (3 : Int32)))])) _
      refine XS.icmpNo X103.here hx rfl (hb hby at_185) rfl (XT.ii_ne_f (by decide)) ?_
      show Steps p.tables e below (T103.setTop (mkF m 188 #[.val (.int p0), .val (.int p1), .val (.int p2), .val (.int p3), .val (.int p4), .val (.int (3 : Int32)), .val (.ref b80), .val (.ref b87), .val (.int (1 : Int32)), .val (.int (nar .byte (nar .byte ((p1).toInt8.toInt32)))), .unset] [])) _
      refine XS.iconst X103.here hx rfl (hb hby at_188) ?_
      show Steps p.tables e below (T103.setTop (mkF m 189 #[.val (.int p0), .val (.int p1), .val (.int p2), .val (.int p3), .val (.int p4), .val (.int (3 : Int32)), .val (.ref b80), .val (.ref b87), .val (.int (1 : Int32)), .val (.int (nar .byte (nar .byte ((p1).toInt8.toInt32)))), .unset] [(.int (1 : Int32))])) _
      refine XS.goto X103.here hx rfl (pc0 := 189) (pc' := 193) rfl (hb hby at_189) (by decide) (by decide) ?_
      show Steps p.tables e below (T103.setTop (mkF m 193 #[.val (.int p0), .val (.int p1), .val (.int p2), .val (.int p3), .val (.int p4), .val (.int (3 : Int32)), .val (.ref b80), .val (.ref b87), .val (.int (1 : Int32)), .val (.int (nar .byte (nar .byte ((p1).toInt8.toInt32)))), .unset] [(.int (1 : Int32))])) _
      refine XS.istore X103.here hx rfl (hb hby at_193) rfl (l' := #[.val (.int p0), .val (.int p1), .val (.int p2), .val (.int p3), .val (.int p4), .val (.int (3 : Int32)), .val (.ref b80), .val (.ref b87), .val (.int (1 : Int32)), .val (.int (nar .byte (nar .byte ((p1).toInt8.toInt32)))), .unset]) rfl ?_
      show Steps p.tables e below (T103.setTop (mkF m 195 #[.val (.int p0), .val (.int p1), .val (.int p2), .val (.int p3), .val (.int p4), .val (.int (3 : Int32)), .val (.ref b80), .val (.ref b87), .val (.int (1 : Int32)), .val (.int (nar .byte (nar .byte ((p1).toInt8.toInt32)))), .unset] [])) _
      refine XS.iload X103.here hx rfl (hb hby at_195) rfl ?_
      show Steps p.tables e below (T103.setTop (mkF m 197 #[.val (.int p0), .val (.int p1), .val (.int p2), .val (.int p3), .val (.int p4), .val (.int (3 : Int32)), .val (.ref b80), .val (.ref b87), .val (.int (1 : Int32)), .val (.int (nar .byte (nar .byte ((p1).toInt8.toInt32)))), .unset] [(.int (3 : Int32))])) _
      refine XS.iconst X103.here hx rfl (hb hby at_197) ?_
      show Steps p.tables e below (T103.setTop (mkF m 198 #[.val (.int p0), .val (.int p1), .val (.int p2), .val (.int p3), .val (.int p4), .val (.int (3 : Int32)), .val (.ref b80), .val (.ref b87), .val (.int (1 : Int32)), .val (.int (nar .byte (nar .byte ((p1).toInt8.toInt32)))), .unset] [(.int (1 : Int32)), (.int (3 : Int32))])) _
      refine XS.icmpYes X103.here hx rfl (pc0 := 198) (pc' := 204) rfl (hb hby at_198) rfl (XT.ii_ne_t (by decide)) (by decide) (by decide) ?_
      show Steps p.tables e below (T103.setTop (mkF m 204 #[.val (.int p0), .val (.int p1), .val (.int p2), .val (.int p3), .val (.int p4), .val (.int (3 : Int32)), .val (.ref b80), .val (.ref b87), .val (.int (1 : Int32)), .val (.int (nar .byte (nar .byte ((p1).toInt8.toInt32)))), .unset] [])) _
      refine XT.iconstV X103.here hx rfl (-1 : Int32) (hb hby at_204) (by decide) ?_
      show Steps p.tables e below (T103.setTop (mkF m 205 #[.val (.int p0), .val (.int p1), .val (.int p2), .val (.int p3), .val (.int p4), .val (.int (3 : Int32)), .val (.ref b80), .val (.ref b87), .val (.int (1 : Int32)), .val (.int (nar .byte (nar .byte ((p1).toInt8.toInt32)))), .unset] [(.int (-1 : Int32))])) _
      refine XS.istore X103.here hx rfl (hb hby at_205) rfl (l' := #[.val (.int p0), .val (.int p1), .val (.int p2), .val (.int p3), .val (.int p4), .val (.int (3 : Int32)), .val (.ref b80), .val (.ref b87), .val (.int (1 : Int32)), .val (.int (nar .byte (nar .byte ((p1).toInt8.toInt32)))), .val (.int (-1 : Int32))]) rfl ?_
      show Steps p.tables e below (T103.setTop (mkF m 207 #[.val (.int p0), .val (.int p1), .val (.int p2), .val (.int p3), .val (.int p4), .val (.int (3 : Int32)), .val (.ref b80), .val (.ref b87), .val (.int (1 : Int32)), .val (.int (nar .byte (nar .byte ((p1).toInt8.toInt32)))), .val (.int (-1 : Int32))] [])) _
      refine XS.aload X103.here hx rfl (hb hby at_207) rfl rfl ?_
      show Steps p.tables e below (T103.setTop (mkF m 209 #[.val (.int p0), .val (.int p1), .val (.int p2), .val (.int p3), .val (.int p4), .val (.int (3 : Int32)), .val (.ref b80), .val (.ref b87), .val (.int (1 : Int32)), .val (.int (nar .byte (nar .byte ((p1).toInt8.toInt32)))), .val (.int (-1 : Int32))] [(.ref b80)])) _
      refine XS.iconst X103.here hx rfl (hb hby at_209) ?_
      show Steps p.tables e below (T103.setTop (mkF m 210 #[.val (.int p0), .val (.int p1), .val (.int p2), .val (.int p3), .val (.int p4), .val (.int (3 : Int32)), .val (.ref b80), .val (.ref b87), .val (.int (1 : Int32)), .val (.int (nar .byte (nar .byte ((p1).toInt8.toInt32)))), .val (.int (-1 : Int32))] [(.int (1 : Int32)), (.ref b80)])) _
      refine X103.baloadBytes hx (j := (1 : Int32)) (v := (.int (nar .byte ((p2).toInt8.toInt32)))) (by rw [e103]; exact Ar_a106.1) (State.isArrayOf_alike hZ.alike Ar_a106.2.1) Ar_a106.2.2 hin_a106 hat_a106 (g := (mkF m 210 #[.val (.int p0), .val (.int p1), .val (.int p2), .val (.int p3), .val (.int p4), .val (.int (3 : Int32)), .val (.ref b80), .val (.ref b87), .val (.int (1 : Int32)), .val (.int (nar .byte (nar .byte ((p1).toInt8.toInt32)))), .val (.int (-1 : Int32))] [(.int (1 : Int32)), (.ref b80)])) rfl rfl (hb hby at_210) _ ?_
      show Steps p.tables e below (T103.setTop (mkF m 211 #[.val (.int p0), .val (.int p1), .val (.int p2), .val (.int p3), .val (.int p4), .val (.int (3 : Int32)), .val (.ref b80), .val (.ref b87), .val (.int (1 : Int32)), .val (.int (nar .byte (nar .byte ((p1).toInt8.toInt32)))), .val (.int (-1 : Int32))] [(.int (nar .byte ((p2).toInt8.toInt32)))])) _
      exact kk
    by_cases c108 : (nar .byte ((p2).toInt8.toInt32)) < (0 : Int32)
    · skip
      obtain ⟨cl_a109, Ar_a109, q_a109, S_a109, N_a109, H_a109, G_a109⟩ := id f101
      have hin_a109 : ¬ ((2 : Int32) < 0 ∨ cl_a109.slots.size ≤ ((2 : Int32)).toNatClampNeg) := inb_of S_a109 ⟨by decide, by decide⟩
      have hat_a109 := Has.at (v := (.int (nar .byte ((p3).toInt8.toInt32)))) H_a109 hin_a109 rfl
      have P110 : ∀ t, Steps p.tables e below (T103.setTop (mkF m 230 #[.val (.int p0), .val (.int p1), .val (.int p2), .val (.int p3), .val (.int p4), .val (.int (3 : Int32)), .val (.ref b80), .val (.ref b87), .val (.int (1 : Int32)), .val (.int (nar .byte (nar .byte ((p1).toInt8.toInt32)))), .val (.int (-1 : Int32))] [(.int (nar .byte ((p3).toInt8.toInt32)))])) t → Steps p.tables e below (s₁.setTop (entryFrame m #[(.int p0), (.int p1), (.int p2), (.int p3), (.int p4)] maxLocals)) t := by
        intro t kk
        refine P107 _ ?_
        show Steps p.tables e below (T103.setTop (mkF m 211 #[.val (.int p0), .val (.int p1), .val (.int p2), .val (.int p3), .val (.int p4), .val (.int (3 : Int32)), .val (.ref b80), .val (.ref b87), .val (.int (1 : Int32)), .val (.int (nar .byte (nar .byte ((p1).toInt8.toInt32)))), .val (.int (-1 : Int32))] [(.int (nar .byte ((p2).toInt8.toInt32)))])) _
        refine XS.ifYes X103.here hx rfl (pc0 := 211) (pc' := 220) rfl (hb hby at_211) rfl (XT.i0_lt_t c108) (by decide) (by decide) ?_
        show Steps p.tables e below (T103.setTop (mkF m 220 #[.val (.int p0), .val (.int p1), .val (.int p2), .val (.int p3), .val (.int p4), .val (.int (3 : Int32)), .val (.ref b80), .val (.ref b87), .val (.int (1 : Int32)), .val (.int (nar .byte (nar .byte ((p1).toInt8.toInt32)))), .val (.int (-1 : Int32))] [])) _
        refine XS.iload X103.here hx rfl (hb hby at_220) rfl ?_
        show Steps p.tables e below (T103.setTop (mkF m 222 #[.val (.int p0), .val (.int p1), .val (.int p2), .val (.int p3), .val (.int p4), .val (.int (3 : Int32)), .val (.ref b80), .val (.ref b87), .val (.int (1 : Int32)), .val (.int (nar .byte (nar .byte ((p1).toInt8.toInt32)))), .val (.int (-1 : Int32))] [(.int (3 : Int32))])) _
        refine XS.iconst X103.here hx rfl (hb hby at_222) ?_
        show Steps p.tables e below (T103.setTop (mkF m 223 #[.val (.int p0), .val (.int p1), .val (.int p2), .val (.int p3), .val (.int p4), .val (.int (3 : Int32)), .val (.ref b80), .val (.ref b87), .val (.int (1 : Int32)), .val (.int (nar .byte (nar .byte ((p1).toInt8.toInt32)))), .val (.int (-1 : Int32))] [(.int (2 : Int32)), (.int (3 : Int32))])) _
        refine XS.icmpNo X103.here hx rfl (hb hby at_223) rfl (XT.ii_le_f (by decide)) ?_
        show Steps p.tables e below (T103.setTop (mkF m 226 #[.val (.int p0), .val (.int p1), .val (.int p2), .val (.int p3), .val (.int p4), .val (.int (3 : Int32)), .val (.ref b80), .val (.ref b87), .val (.int (1 : Int32)), .val (.int (nar .byte (nar .byte ((p1).toInt8.toInt32)))), .val (.int (-1 : Int32))] [])) _
        refine XS.aload X103.here hx rfl (hb hby at_226) rfl rfl ?_
        show Steps p.tables e below (T103.setTop (mkF m 228 #[.val (.int p0), .val (.int p1), .val (.int p2), .val (.int p3), .val (.int p4), .val (.int (3 : Int32)), .val (.ref b80), .val (.ref b87), .val (.int (1 : Int32)), .val (.int (nar .byte (nar .byte ((p1).toInt8.toInt32)))), .val (.int (-1 : Int32))] [(.ref b80)])) _
        refine XS.iconst X103.here hx rfl (hb hby at_228) ?_
        show Steps p.tables e below (T103.setTop (mkF m 229 #[.val (.int p0), .val (.int p1), .val (.int p2), .val (.int p3), .val (.int p4), .val (.int (3 : Int32)), .val (.ref b80), .val (.ref b87), .val (.int (1 : Int32)), .val (.int (nar .byte (nar .byte ((p1).toInt8.toInt32)))), .val (.int (-1 : Int32))] [(.int (2 : Int32)), (.ref b80)])) _
        refine X103.baloadBytes hx (j := (2 : Int32)) (v := (.int (nar .byte ((p3).toInt8.toInt32)))) (by rw [e103]; exact Ar_a109.1) (State.isArrayOf_alike hZ.alike Ar_a109.2.1) Ar_a109.2.2 hin_a109 hat_a109 (g := (mkF m 229 #[.val (.int p0), .val (.int p1), .val (.int p2), .val (.int p3), .val (.int p4), .val (.int (3 : Int32)), .val (.ref b80), .val (.ref b87), .val (.int (1 : Int32)), .val (.int (nar .byte (nar .byte ((p1).toInt8.toInt32)))), .val (.int (-1 : Int32))] [(.int (2 : Int32)), (.ref b80)])) rfl rfl (hb hby at_229) _ ?_
        show Steps p.tables e below (T103.setTop (mkF m 230 #[.val (.int p0), .val (.int p1), .val (.int p2), .val (.int p3), .val (.int p4), .val (.int (3 : Int32)), .val (.ref b80), .val (.ref b87), .val (.int (1 : Int32)), .val (.int (nar .byte (nar .byte ((p1).toInt8.toInt32)))), .val (.int (-1 : Int32))] [(.int (nar .byte ((p3).toInt8.toInt32)))])) _
        exact kk
      by_cases c111 : (nar .byte ((p3).toInt8.toInt32)) < (0 : Int32)
      · skip
        have P112 : ∀ t, Steps p.tables e below (T103.setTop (mkF m 262 #[.val (.int p0), .val (.int p1), .val (.int p2), .val (.int p3), .val (.int p4), .val (.int (3 : Int32)), .val (.ref b80), .val (.ref b87), .val (.int (1 : Int32)), .val (.int (nar .byte (nar .byte ((p1).toInt8.toInt32)))), .val (.int (-1 : Int32))] [(.int (1 : Int32))])) t → Steps p.tables e below (s₁.setTop (entryFrame m #[(.int p0), (.int p1), (.int p2), (.int p3), (.int p4)] maxLocals)) t := by
          intro t kk
          refine P110 _ ?_
          show Steps p.tables e below (T103.setTop (mkF m 230 #[.val (.int p0), .val (.int p1), .val (.int p2), .val (.int p3), .val (.int p4), .val (.int (3 : Int32)), .val (.ref b80), .val (.ref b87), .val (.int (1 : Int32)), .val (.int (nar .byte (nar .byte ((p1).toInt8.toInt32)))), .val (.int (-1 : Int32))] [(.int (nar .byte ((p3).toInt8.toInt32)))])) _
          refine XS.ifYes X103.here hx rfl (pc0 := 230) (pc' := 239) rfl (hb hby at_230) rfl (XT.i0_lt_t c111) (by decide) (by decide) ?_
          show Steps p.tables e below (T103.setTop (mkF m 239 #[.val (.int p0), .val (.int p1), .val (.int p2), .val (.int p3), .val (.int p4), .val (.int (3 : Int32)), .val (.ref b80), .val (.ref b87), .val (.int (1 : Int32)), .val (.int (nar .byte (nar .byte ((p1).toInt8.toInt32)))), .val (.int (-1 : Int32))] [])) _
          refine XS.iload X103.here hx rfl (hb hby at_239) rfl ?_
          show Steps p.tables e below (T103.setTop (mkF m 241 #[.val (.int p0), .val (.int p1), .val (.int p2), .val (.int p3), .val (.int p4), .val (.int (3 : Int32)), .val (.ref b80), .val (.ref b87), .val (.int (1 : Int32)), .val (.int (nar .byte (nar .byte ((p1).toInt8.toInt32)))), .val (.int (-1 : Int32))] [(.int (3 : Int32))])) _
          refine XS.iconst X103.here hx rfl (hb hby at_241) ?_
          show Steps p.tables e below (T103.setTop (mkF m 242 #[.val (.int p0), .val (.int p1), .val (.int p2), .val (.int p3), .val (.int p4), .val (.int (3 : Int32)), .val (.ref b80), .val (.ref b87), .val (.int (1 : Int32)), .val (.int (nar .byte (nar .byte ((p1).toInt8.toInt32)))), .val (.int (-1 : Int32))] [(.int (3 : Int32)), (.int (3 : Int32))])) _
          refine XS.icmpYes X103.here hx rfl (pc0 := 242) (pc' := 255) rfl (hb hby at_242) rfl (XT.ii_le_t (by decide)) (by decide) (by decide) ?_
          show Steps p.tables e below (T103.setTop (mkF m 255 #[.val (.int p0), .val (.int p1), .val (.int p2), .val (.int p3), .val (.int p4), .val (.int (3 : Int32)), .val (.ref b80), .val (.ref b87), .val (.int (1 : Int32)), .val (.int (nar .byte (nar .byte ((p1).toInt8.toInt32)))), .val (.int (-1 : Int32))] [])) _
          refine XS.iload X103.here hx rfl (hb hby at_255) rfl ?_
          show Steps p.tables e below (T103.setTop (mkF m 257 #[.val (.int p0), .val (.int p1), .val (.int p2), .val (.int p3), .val (.int p4), .val (.int (3 : Int32)), .val (.ref b80), .val (.ref b87), .val (.int (1 : Int32)), .val (.int (nar .byte (nar .byte ((p1).toInt8.toInt32)))), .val (.int (-1 : Int32))] [(.int (-1 : Int32))])) _
          refine XS.ifNo X103.here hx rfl (hb hby at_257) rfl (XT.i0_ge_f (by decide)) ?_
          show Steps p.tables e below (T103.setTop (mkF m 260 #[.val (.int p0), .val (.int p1), .val (.int p2), .val (.int p3), .val (.int p4), .val (.int (3 : Int32)), .val (.ref b80), .val (.ref b87), .val (.int (1 : Int32)), .val (.int (nar .byte (nar .byte ((p1).toInt8.toInt32)))), .val (.int (-1 : Int32))] [])) _
          refine XS.iload X103.here hx rfl (hb hby at_260) rfl ?_
          show Steps p.tables e below (T103.setTop (mkF m 262 #[.val (.int p0), .val (.int p1), .val (.int p2), .val (.int p3), .val (.int p4), .val (.int (3 : Int32)), .val (.ref b80), .val (.ref b87), .val (.int (1 : Int32)), .val (.int (nar .byte (nar .byte ((p1).toInt8.toInt32)))), .val (.int (-1 : Int32))] [(.int (1 : Int32))])) _
          exact kk
        obtain ⟨fs, hr, hrun, hended, hW, hsame⟩ := X103.leave (v := some (.int (1 : Int32))) (fun h => by rw [Bd.returns] at h; cases h)
        refine ⟨_, _, P112 _ ?_, hrun, hended, _, _, rfl, ?_, ⟨_, rfl⟩, hW, hsame.mono (by decide) (by decide)⟩
        · exact retN X103 hx (t := .boolean) Bd.returns (by simp) (hb hby at_262) hr
        · exact ⟨rfl, N103⟩
      · skip
        obtain ⟨cq113, kq113, q113a, q113b, q113c⟩ := isOf hZ e103 f105
        obtain ⟨_, _, ⟨T113, L113, k113, n113⟩, -, X113, ⟨Lc113, hQ113, l113, y113, z113⟩, st113⟩ := X103.virtualBack hx (y := (⟨"com/example/meterwright/meterwright/RecordBody$Reader", "number", "()J"⟩ : MethodName)) (z := (⟨"com/example/meterwright/meterwright/RecordBody$Reader", "number", "()J"⟩ : MethodName)) hown (mvT hZ (hw _ (List.mem_of_getElem? (i := 51) rfl))) (mvT hZ (hw _ (List.mem_of_getElem? (i := 52) rfl))) (notFace_of_selects (args := #[]) (mvT hZ (hw _ (List.mem_of_getElem? (i := 54) rfl)))) (mvT hZ (hw _ (List.mem_of_getElem? (i := 54) rfl))) (mvT hZ (hw _ (List.mem_of_getElem? (i := 53) rfl))) (by decide) (backOf (W := 0) (rm10 l Z a0 hw [] b87 b80 k80 (3 : Int32) [(.int (nar .byte ((p1).toInt8.toInt32))), (.int (nar .byte ((p2).toInt8.toInt32))), (.int (nar .byte ((p3).toInt8.toInt32)))] (.int (0 : Int32)) (nar .byte ((p2).toInt8.toInt32)) (nar .byte ((p3).toInt8.toInt32)) T99.heap n0 z104 f105 q99_0' q99_1 f101 ge_b87 ne_b80_b87 (by decide) rfl c108 (by decide) rfl c111) hZ (hw _ (List.mem_of_getElem? (i := 55) rfl)) (hw _ (List.mem_of_getElem? (i := 4) rfl)) (by decide) (by decide)) q113a q113c (g := (mkF m 265 #[.val (.int p0), .val (.int p1), .val (.int p2), .val (.int p3), .val (.int p4), .val (.int (3 : Int32)), .val (.ref b80), .val (.ref b87), .val (.int (1 : Int32)), .val (.int (nar .byte (nar .byte ((p1).toInt8.toInt32)))), .val (.int (3 : Int32))] [(.ref b87)])) rfl (by rw [hml]; rfl) (Steps.refl _) (argsL := []) (rest := []) (lenOf pd_1 rfl) rfl (by show 2 * 0 + _ ≤ _; exact Nat.le_of_eq rfl) (hb hby at_265) (fun _ _ => ⟨rfl, e103, (by decide : 3 + 0 ≤ _), (by decide : 10 + 0 ≤ _)⟩)
        dsimp only [Pt.U, Pt.locs, Pt.cells, Pt.slots] at X113 l113 y113 z113 st113 hQ113
        subst l113 y113 z113
        obtain ⟨r_113, rfl, Nq113, K113, q113_0, q113_1⟩ := hQ113
        have N113 := Fr.app N103 Nq113
        have f115 := (Arv.keep f101 K113 (ninS ne_b80_b87 nin0))
        have z116 : n0 ≤ _ := (Nat.le_trans z104 K113.1)
        have f117 := (Exa.keep f105 K113)
        obtain ⟨cq114, kq114, q114a, q114b, q114c⟩ := isOf hZ rfl f117
        obtain ⟨_, _, ⟨T114, L114, k114, n114⟩, -, X114, ⟨Lc114, hQ114, l114, y114, z114⟩, st114⟩ := X113.virtualBack hx (y := (⟨"com/example/meterwright/meterwright/RecordBody$Reader", "atEnd", "()Z"⟩ : MethodName)) (z := (⟨"com/example/meterwright/meterwright/RecordBody$Reader", "atEnd", "()Z"⟩ : MethodName)) hown (mvT hZ (hw _ (List.mem_of_getElem? (i := 39) rfl))) (mvT hZ (hw _ (List.mem_of_getElem? (i := 40) rfl))) (notFace_of_selects (args := #[]) (mvT hZ (hw _ (List.mem_of_getElem? (i := 42) rfl)))) (mvT hZ (hw _ (List.mem_of_getElem? (i := 42) rfl))) (mvT hZ (hw _ (List.mem_of_getElem? (i := 41) rfl))) (by decide) (backOf (W := 0) (rm5 l Z a0 hw [] b87 (3 : Int32) b80 k80 (3 : Int32) [(.int (nar .byte ((p1).toInt8.toInt32))), (.int (nar .byte ((p2).toInt8.toInt32))), (.int (nar .byte ((p3).toInt8.toInt32)))] (.int (0 : Int32)) T113.heap n0 z116 q113_0 q113_1 f115) hZ (hw _ (List.mem_of_getElem? (i := 43) rfl)) (hw _ (List.mem_of_getElem? (i := 4) rfl)) (by decide) (by decide)) q114a q114c (g := (mkF m 276 #[.val (.int p0), .val (.int p1), .val (.int p2), .val (.int p3), .val (.int p4), .val (.int (3 : Int32)), .val (.ref b80), .val (.ref b87), .val (.int (1 : Int32)), .val (.int (nar .byte (nar .byte ((p1).toInt8.toInt32)))), .val (.int (3 : Int32))] [(.ref b87)])) rfl (by rw [hml]; rfl) (Steps.refl _) (argsL := []) (rest := []) (lenOf pd_3 rfl) rfl (by show 2 * 0 + _ ≤ _; exact Nat.le_of_eq rfl) (hb hby at_276) (fun _ _ => ⟨rfl, rfl, (by decide : 3 + 0 ≤ _), (by decide : 10 + 0 ≤ _)⟩)
        dsimp only [Pt.U, Pt.locs, Pt.cells, Pt.slots] at X114 l114 y114 z114 st114 hQ114
        subst l114 y114 z114
        obtain ⟨rfl, Nq114, e114⟩ := hQ114
        have N114 := Fr.app N113 Nq114
        obtain ⟨cq118, kq118, q118a, q118b, q118c⟩ := isOf hZ e114 f117
        obtain ⟨_, _, ⟨T118, L118, k118, n118⟩, -, X118, ⟨Lc118, hQ118, l118, y118, z118⟩, st118⟩ := X114.virtualBack hx (y := (⟨"com/example/meterwright/meterwright/RecordBody$Reader", "atEnd", "()Z"⟩ : MethodName)) (z := (⟨"com/example/meterwright/meterwright/RecordBody$Reader", "atEnd", "()Z"⟩ : MethodName)) hown (mvT hZ (hw _ (List.mem_of_getElem? (i := 39) rfl))) (mvT hZ (hw _ (List.mem_of_getElem? (i := 40) rfl))) (notFace_of_selects (args := #[]) (mvT hZ (hw _ (List.mem_of_getElem? (i := 42) rfl)))) (mvT hZ (hw _ (List.mem_of_getElem? (i := 42) rfl))) (mvT hZ (hw _ (List.mem_of_getElem? (i := 41) rfl))) (by decide) (backOf (W := 0) (rm5 l Z a0 hw [] b87 (3 : Int32) b80 k80 (3 : Int32) [(.int (nar .byte ((p1).toInt8.toInt32))), (.int (nar .byte ((p2).toInt8.toInt32))), (.int (nar .byte ((p3).toInt8.toInt32)))] (.int (0 : Int32)) T113.heap n0 z116 q113_0 q113_1 f115) hZ (hw _ (List.mem_of_getElem? (i := 43) rfl)) (hw _ (List.mem_of_getElem? (i := 4) rfl)) (by decide) (by decide)) q118a q118c (g := (mkF m 308 #[.val (.int p0), .val (.int p1), .val (.int p2), .val (.int p3), .val (.int p4), .val (.int (3 : Int32)), .val (.ref b80), .val (.ref b87), .val (.int (1 : Int32)), .val (.int (nar .byte (nar .byte ((p1).toInt8.toInt32)))), .val (.int (3 : Int32))] [(.ref b87)])) rfl (by rw [hml]; rfl) (Steps.refl _) (argsL := []) (rest := []) (lenOf pd_3 rfl) rfl (by show 2 * 0 + _ ≤ _; exact Nat.le_of_eq rfl) (hb hby at_308) (fun _ _ => ⟨rfl, e114, (by decide : 3 + 0 ≤ _), (by decide : 10 + 0 ≤ _)⟩)
        dsimp only [Pt.U, Pt.locs, Pt.cells, Pt.slots] at X118 l118 y118 z118 st118 hQ118
        subst l118 y118 z118
        obtain ⟨rfl, Nq118, e118⟩ := hQ118
        have N118 := Fr.app N114 Nq118
        have P119 : ∀ t, Steps p.tables e below (T118.setTop (mkF m 319 #[.val (.int p0), .val (.int p1), .val (.int p2), .val (.int p3), .val (.int p4), .val (.int (3 : Int32)), .val (.ref b80), .val (.ref b87), .val (.int (1 : Int32)), .val (.int (nar .byte (nar .byte ((p1).toInt8.toInt32)))), .val (.int (3 : Int32))] [(.int (1 : Int32)), (.int (F5 (3 : Int32) (3 : Int32)))])) t → Steps p.tables e below (s₁.setTop (entryFrame m #[(.int p0), (.int p1), (.int p2), (.int p3), (.int p4)] maxLocals)) t := by
          intro t kk
          refine P110 _ ?_
          show Steps p.tables e below (T103.setTop (mkF m 230 #[.val (.int p0), .val (.int p1), .val (.int p2), .val (.int p3), .val (.int p4), .val (.int (3 : Int32)), .val (.ref b80), .val (.ref b87), .val (.int (1 : Int32)), .val (.int (nar .byte (nar .byte ((p1).toInt8.toInt32)))), .val (.int (-1 : Int32))] [(.int (nar .byte ((p3).toInt8.toInt32)))])) _
          refine XS.ifNo X103.here hx rfl (hb hby at_230) rfl (XT.i0_lt_f c111) ?_
          show Steps p.tables e below (T103.setTop (mkF m 233 #[.val (.int p0), .val (.int p1), .val (.int p2), .val (.int p3), .val (.int p4), .val (.int (3 : Int32)), .val (.ref b80), .val (.ref b87), .val (.int (1 : Int32)), .val (.int (nar .byte (nar .byte ((p1).toInt8.toInt32)))), .val (.int (-1 : Int32))] [])) _
          refine XS.iconst X103.here hx rfl (hb hby at_233) ?_
          show Steps p.tables e below (T103.setTop (mkF m 234 #[.val (.int p0), .val (.int p1), .val (.int p2), .val (.int p3), .val (.int p4), .val (.int (3 : Int32)), .val (.ref b80), .val (.ref b87), .val (.int (1 : Int32)), .val (.int (nar .byte (nar .byte ((p1).toInt8.toInt32)))), .val (.int (-1 : Int32))] [(.int (3 : Int32))])) _
          refine XS.istore X103.here hx rfl (hb hby at_234) rfl (l' := #[.val (.int p0), .val (.int p1), .val (.int p2), .val (.int p3), .val (.int p4), .val (.int (3 : Int32)), .val (.ref b80), .val (.ref b87), .val (.int (1 : Int32)), .val (.int (nar .byte (nar .byte ((p1).toInt8.toInt32)))), .val (.int (3 : Int32))]) rfl ?_
          show Steps p.tables e below (T103.setTop (mkF m 236 #[.val (.int p0), .val (.int p1), .val (.int p2), .val (.int p3), .val (.int p4), .val (.int (3 : Int32)), .val (.ref b80), .val (.ref b87), .val (.int (1 : Int32)), .val (.int (nar .byte (nar .byte ((p1).toInt8.toInt32)))), .val (.int (3 : Int32))] [])) _
          refine XS.goto X103.here hx rfl (pc0 := 236) (pc' := 255) rfl (hb hby at_236) (by decide) (by decide) ?_
          show Steps p.tables e below (T103.setTop (mkF m 255 #[.val (.int p0), .val (.int p1), .val (.int p2), .val (.int p3), .val (.int p4), .val (.int (3 : Int32)), .val (.ref b80), .val (.ref b87), .val (.int (1 : Int32)), .val (.int (nar .byte (nar .byte ((p1).toInt8.toInt32)))), .val (.int (3 : Int32))] [])) _
          refine XS.iload X103.here hx rfl (hb hby at_255) rfl ?_
          show Steps p.tables e below (T103.setTop (mkF m 257 #[.val (.int p0), .val (.int p1), .val (.int p2), .val (.int p3), .val (.int p4), .val (.int (3 : Int32)), .val (.ref b80), .val (.ref b87), .val (.int (1 : Int32)), .val (.int (nar .byte (nar .byte ((p1).toInt8.toInt32)))), .val (.int (3 : Int32))] [(.int (3 : Int32))])) _
          refine XS.ifYes X103.here hx rfl (pc0 := 257) (pc' := 263) rfl (hb hby at_257) rfl (XT.i0_ge_t (by decide)) (by decide) (by decide) ?_
          show Steps p.tables e below (T103.setTop (mkF m 263 #[.val (.int p0), .val (.int p1), .val (.int p2), .val (.int p3), .val (.int p4), .val (.int (3 : Int32)), .val (.ref b80), .val (.ref b87), .val (.int (1 : Int32)), .val (.int (nar .byte (nar .byte ((p1).toInt8.toInt32)))), .val (.int (3 : Int32))] [])) _
          refine XS.aload X103.here hx rfl (hb hby at_263) rfl rfl ?_
          show Steps p.tables e below (T103.setTop (mkF m 265 #[.val (.int p0), .val (.int p1), .val (.int p2), .val (.int p3), .val (.int p4), .val (.int (3 : Int32)), .val (.ref b80), .val (.ref b87), .val (.int (1 : Int32)), .val (.int (nar .byte (nar .byte ((p1).toInt8.toInt32)))), .val (.int (3 : Int32))] [(.ref b87)])) _
          refine st113.trans ?_
          show Steps p.tables e below (T113.setTop (mkF m 268 #[.val (.int p0), .val (.int p1), .val (.int p2), .val (.int p3), .val (.int p4), .val (.int (3 : Int32)), .val (.ref b80), .val (.ref b87), .val (.int (1 : Int32)), .val (.int (nar .byte (nar .byte ((p1).toInt8.toInt32)))), .val (.int (3 : Int32))] [(.long r_113)])) _
          jvm_step X113.here [X113.here.top, hx, (hb hby at_268), Value.category]
          show Steps p.tables e below (T113.setTop (mkF m 269 #[.val (.int p0), .val (.int p1), .val (.int p2), .val (.int p3), .val (.int p4), .val (.int (3 : Int32)), .val (.ref b80), .val (.ref b87), .val (.int (1 : Int32)), .val (.int (nar .byte (nar .byte ((p1).toInt8.toInt32)))), .val (.int (3 : Int32))] [])) _
          refine XS.iload X113.here hx rfl (hb hby at_269) rfl ?_
          show Steps p.tables e below (T113.setTop (mkF m 271 #[.val (.int p0), .val (.int p1), .val (.int p2), .val (.int p3), .val (.int p4), .val (.int (3 : Int32)), .val (.ref b80), .val (.ref b87), .val (.int (1 : Int32)), .val (.int (nar .byte (nar .byte ((p1).toInt8.toInt32)))), .val (.int (3 : Int32))] [(.int (1 : Int32))])) _
          refine XS.ifNo X113.here hx rfl (hb hby at_271) rfl (XT.i0_eq_f (by decide)) ?_
          show Steps p.tables e below (T113.setTop (mkF m 274 #[.val (.int p0), .val (.int p1), .val (.int p2), .val (.int p3), .val (.int p4), .val (.int (3 : Int32)), .val (.ref b80), .val (.ref b87), .val (.int (1 : Int32)), .val (.int (nar .byte (nar .byte ((p1).toInt8.toInt32)))), .val (.int (3 : Int32))] [])) _
          refine XS.aload X113.here hx rfl (hb hby at_274) rfl rfl ?_
          show Steps p.tables e below (T113.setTop (mkF m 276 #[.val (.int p0), .val (.int p1), .val (.int p2), .val (.int p3), .val (.int p4), .val (.int (3 : Int32)), .val (.ref b80), .val (.ref b87), .val (.int (1 : Int32)), .val (.int (nar .byte (nar .byte ((p1).toInt8.toInt32)))), .val (.int (3 : Int32))] [(.ref b87)])) _
          refine st114.trans ?_
          show Steps p.tables e below (T114.setTop (mkF m 279 #[.val (.int p0), .val (.int p1), .val (.int p2), .val (.int p3), .val (.int p4), .val (.int (3 : Int32)), .val (.ref b80), .val (.ref b87), .val (.int (1 : Int32)), .val (.int (nar .byte (nar .byte ((p1).toInt8.toInt32)))), .val (.int (3 : Int32))] [(.int (F5 (3 : Int32) (3 : Int32)))])) _
          refine XS.iload X114.here hx rfl (hb hby at_279) rfl ?_
          show Steps p.tables e below (T114.setTop (mkF m 281 #[.val (.int p0), .val (.int p1), .val (.int p2), .val (.int p3), .val (.int p4), .val (.int (3 : Int32)), .val (.ref b80), .val (.ref b87), .val (.int (1 : Int32)), .val (.int (nar .byte (nar .byte ((p1).toInt8.toInt32)))), .val (.int (3 : Int32))] [(.int (3 : Int32)), (.int (F5 (3 : Int32) (3 : Int32)))])) _
          refine XS.iload X114.here hx rfl (hb hby at_281) rfl ?_
          show Steps p.tables e below (T114.setTop (mkF m 283 #[.val (.int p0), .val (.int p1), .val (.int p2), .val (.int p3), .val (.int p4), .val (.int (3 : Int32)), .val (.ref b80), .val (.ref b87), .val (.int (1 : Int32)), .val (.int (nar .byte (nar .byte ((p1).toInt8.toInt32)))), .val (.int (3 : Int32))] [(.int (3 : Int32)), (.int (3 : Int32)), (.int (F5 (3 : Int32) (3 : Int32)))])) _
          refine XS.icmpNo X114.here hx rfl (hb hby at_283) rfl (XT.ii_ne_f rfl) ?_
          show Steps p.tables e below (T114.setTop (mkF m 286 #[.val (.int p0), .val (.int p1), .val (.int p2), .val (.int p3), .val (.int p4), .val (.int (3 : Int32)), .val (.ref b80), .val (.ref b87), .val (.int (1 : Int32)), .val (.int (nar .byte (nar .byte ((p1).toInt8.toInt32)))), .val (.int (3 : Int32))] [(.int (F5 (3 : Int32) (3 : Int32)))])) _
          refine XS.iconst X114.here hx rfl (hb hby at_286) ?_
          show Steps p.tables e below (T114.setTop (mkF m 287 #[.val (.int p0), .val (.int p1), .val (.int p2), .val (.int p3), .val (.int p4), .val (.int (3 : Int32)), .val (.ref b80), .val (.ref b87), .val (.int (1 : Int32)), .val (.int (nar .byte (nar .byte ((p1).toInt8.toInt32)))), .val (.int (3 : Int32))] [(.int (1 : Int32)), (.int (F5 (3 : Int32) (3 : Int32)))])) _
          refine XS.goto X114.here hx rfl (pc0 := 287) (pc' := 291) rfl (hb hby at_287) (by decide) (by decide) ?_
          show Steps p.tables e below (T114.setTop (mkF m 291 #[.val (.int p0), .val (.int p1), .val (.int p2), .val (.int p3), .val (.int p4), .val (.int (3 : Int32)), .val (.ref b80), .val (.ref b87), .val (.int (1 : Int32)), .val (.int (nar .byte (nar .byte ((p1).toInt8.toInt32)))), .val (.int (3 : Int32))] [(.int (1 : Int32)), (.int (F5 (3 : Int32) (3 : Int32)))])) _
          refine XS.icmpNo X114.here hx rfl (hb hby at_291) rfl (XT.ii_ne_f (by decide)) ?_
          show Steps p.tables e below (T114.setTop (mkF m 294 #[.val (.int p0), .val (.int p1), .val (.int p2), .val (.int p3), .val (.int p4), .val (.int (3 : Int32)), .val (.ref b80), .val (.ref b87), .val (.int (1 : Int32)), .val (.int (nar .byte (nar .byte ((p1).toInt8.toInt32)))), .val (.int (3 : Int32))] [])) _
          refine XS.iconst X114.here hx rfl (hb hby at_294) ?_
          show Steps p.tables e below (T114.setTop (mkF m 295 #[.val (.int p0), .val (.int p1), .val (.int p2), .val (.int p3), .val (.int p4), .val (.int (3 : Int32)), .val (.ref b80), .val (.ref b87), .val (.int (1 : Int32)), .val (.int (nar .byte (nar .byte ((p1).toInt8.toInt32)))), .val (.int (3 : Int32))] [(.int (1 : Int32))])) _
          refine XS.goto X114.here hx rfl (pc0 := 295) (pc' := 299) rfl (hb hby at_295) (by decide) (by decide) ?_
          show Steps p.tables e below (T114.setTop (mkF m 299 #[.val (.int p0), .val (.int p1), .val (.int p2), .val (.int p3), .val (.int p4), .val (.int (3 : Int32)), .val (.ref b80), .val (.ref b87), .val (.int (1 : Int32)), .val (.int (nar .byte (nar .byte ((p1).toInt8.toInt32)))), .val (.int (3 : Int32))] [(.int (1 : Int32))])) _
          refine XS.istore X114.here hx rfl (hb hby at_299) rfl (l' := #[.val (.int p0), .val (.int p1), .val (.int p2), .val (.int p3), .val (.int p4), .val (.int (3 : Int32)), .val (.ref b80), .val (.ref b87), .val (.int (1 : Int32)), .val (.int (nar .byte (nar .byte ((p1).toInt8.toInt32)))), .val (.int (3 : Int32))]) rfl ?_
          show Steps p.tables e below (T114.setTop (mkF m 301 #[.val (.int p0), .val (.int p1), .val (.int p2), .val (.int p3), .val (.int p4), .val (.int (3 : Int32)), .val (.ref b80), .val (.ref b87), .val (.int (1 : Int32)), .val (.int (nar .byte (nar .byte ((p1).toInt8.toInt32)))), .val (.int (3 : Int32))] [])) _
          refine XS.iload X114.here hx rfl (hb hby at_301) rfl ?_
          show Steps p.tables e below (T114.setTop (mkF m 303 #[.val (.int p0), .val (.int p1), .val (.int p2), .val (.int p3), .val (.int p4), .val (.int (3 : Int32)), .val (.ref b80), .val (.ref b87), .val (.int (1 : Int32)), .val (.int (nar .byte (nar .byte ((p1).toInt8.toInt32)))), .val (.int (3 : Int32))] [(.int (1 : Int32))])) _
          refine XS.ifNo X114.here hx rfl (hb hby at_303) rfl (XT.i0_eq_f (by decide)) ?_
          show Steps p.tables e below (T114.setTop (mkF m 306 #[.val (.int p0), .val (.int p1), .val (.int p2), .val (.int p3), .val (.int p4), .val (.int (3 : Int32)), .val (.ref b80), .val (.ref b87), .val (.int (1 : Int32)), .val (.int (nar .byte (nar .byte ((p1).toInt8.toInt32)))), .val (.int (3 : Int32))] [])) _
          refine XS.aload X114.here hx rfl (hb hby at_306) rfl rfl ?_
          show Steps p.tables e below (T114.setTop (mkF m 308 #[.val (.int p0), .val (.int p1), .val (.int p2), .val (.int p3), .val (.int p4), .val (.int (3 : Int32)), .val (.ref b80), .val (.ref b87), .val (.int (1 : Int32)), .val (.int (nar .byte (nar .byte ((p1).toInt8.toInt32)))), .val (.int (3 : Int32))] [(.ref b87)])) _
          refine st118.trans ?_
          show Steps p.tables e below (T118.setTop (mkF m 311 #[.val (.int p0), .val (.int p1), .val (.int p2), .val (.int p3), .val (.int p4), .val (.int (3 : Int32)), .val (.ref b80), .val (.ref b87), .val (.int (1 : Int32)), .val (.int (nar .byte (nar .byte ((p1).toInt8.toInt32)))), .val (.int (3 : Int32))] [(.int (F5 (3 : Int32) (3 : Int32)))])) _
          refine XS.iload X118.here hx rfl (hb hby at_311) rfl ?_
          show Steps p.tables e below (T118.setTop (mkF m 313 #[.val (.int p0), .val (.int p1), .val (.int p2), .val (.int p3), .val (.int p4), .val (.int (3 : Int32)), .val (.ref b80), .val (.ref b87), .val (.int (1 : Int32)), .val (.int (nar .byte (nar .byte ((p1).toInt8.toInt32)))), .val (.int (3 : Int32))] [(.int (3 : Int32)), (.int (F5 (3 : Int32) (3 : Int32)))])) _
          refine XS.iload X118.here hx rfl (hb hby at_313) rfl ?_
          show Steps p.tables e below (T118.setTop (mkF m 315 #[.val (.int p0), .val (.int p1), .val (.int p2), .val (.int p3), .val (.int p4), .val (.int (3 : Int32)), .val (.ref b80), .val (.ref b87), .val (.int (1 : Int32)), .val (.int (nar .byte (nar .byte ((p1).toInt8.toInt32)))), .val (.int (3 : Int32))] [(.int (3 : Int32)), (.int (3 : Int32)), (.int (F5 (3 : Int32) (3 : Int32)))])) _
          refine XS.icmpNo X118.here hx rfl (hb hby at_315) rfl (XT.ii_ne_f rfl) ?_
          show Steps p.tables e below (T118.setTop (mkF m 318 #[.val (.int p0), .val (.int p1), .val (.int p2), .val (.int p3), .val (.int p4), .val (.int (3 : Int32)), .val (.ref b80), .val (.ref b87), .val (.int (1 : Int32)), .val (.int (nar .byte (nar .byte ((p1).toInt8.toInt32)))), .val (.int (3 : Int32))] [(.int (F5 (3 : Int32) (3 : Int32)))])) _
          refine XS.iconst X118.here hx rfl (hb hby at_318) ?_
          show Steps p.tables e below (T118.setTop (mkF m 319 #[.val (.int p0), .val (.int p1), .val (.int p2), .val (.int p3), .val (.int p4), .val (.int (3 : Int32)), .val (.ref b80), .val (.ref b87), .val (.int (1 : Int32)), .val (.int (nar .byte (nar .byte ((p1).toInt8.toInt32)))), .val (.int (3 : Int32))] [(.int (1 : Int32)), (.int (F5 (3 : Int32) (3 : Int32)))])) _
          exact kk
        have P120 : ∀ t, Steps p.tables e below (T118.setTop (mkF m 335 #[.val (.int p0), .val (.int p1), .val (.int p2), .val (.int p3), .val (.int p4), .val (.int (3 : Int32)), .val (.ref b80), .val (.ref b87), .val (.int (1 : Int32)), .val (.int (nar .byte (nar .byte ((p1).toInt8.toInt32)))), .val (.int (3 : Int32))] [(.int (1 : Int32))])) t → Steps p.tables e below (s₁.setTop (entryFrame m #[(.int p0), (.int p1), (.int p2), (.int p3), (.int p4)] maxLocals)) t := by
          intro t kk
          refine P119 _ ?_
          show Steps p.tables e below (T118.setTop (mkF m 319 #[.val (.int p0), .val (.int p1), .val (.int p2), .val (.int p3), .val (.int p4), .val (.int (3 : Int32)), .val (.ref b80), .val (.ref b87), .val (.int (1 : Int32)), .val (.int (nar .byte (nar .byte ((p1).toInt8.toInt32)))), .val (.int (3 : Int32))] [(.int (1 : Int32)), (.int (F5 (3 : Int32) (3 : Int32)))])) _
          refine XS.goto X118.here hx rfl (pc0 := 319) (pc' := 323) rfl (hb hby at_319) (by decide) (by decide) ?_
          show Steps p.tables e below (T118.setTop (mkF m 323 #[.val (.int p0), .val (.int p1), .val (.int p2), .val (.int p3), .val (.int p4), .val (.int (3 : Int32)), .val (.ref b80), .val (.ref b87), .val (.int (1 : Int32)), .val (.int (nar .byte (nar .byte ((p1).toInt8.toInt32)))), .val (.int (3 : Int32))] [(.int (1 : Int32)), (.int (F5 (3 : Int32) (3 : Int32)))])) _
          refine XS.icmpNo X118.here hx rfl (hb hby at_323) rfl (XT.ii_ne_f (by decide)) ?_
          show Steps p.tables e below (T118.setTop (mkF m 326 #[.val (.int p0), .val (.int p1), .val (.int p2), .val (.int p3), .val (.int p4), .val (.int (3 : Int32)), .val (.ref b80), .val (.ref b87), .val (.int (1 : Int32)), .val (.int (nar .byte (nar .byte ((p1).toInt8.toInt32)))), .val (.int (3 : Int32))] [])) _
          refine XS.iconst X118.here hx rfl (hb hby at_326) ?_
          show Steps p.tables e below (T118.setTop (mkF m 327 #[.val (.int p0), .val (.int p1), .val (.int p2), .val (.int p3), .val (.int p4), .val (.int (3 : Int32)), .val (.ref b80), .val (.ref b87), .val (.int (1 : Int32)), .val (.int (nar .byte (nar .byte ((p1).toInt8.toInt32)))), .val (.int (3 : Int32))] [(.int (1 : Int32))])) _
          refine XS.goto X118.here hx rfl (pc0 := 327) (pc' := 331) rfl (hb hby at_327) (by decide) (by decide) ?_
          show Steps p.tables e below (T118.setTop (mkF m 331 #[.val (.int p0), .val (.int p1), .val (.int p2), .val (.int p3), .val (.int p4), .val (.int (3 : Int32)), .val (.ref b80), .val (.ref b87), .val (.int (1 : Int32)), .val (.int (nar .byte (nar .byte ((p1).toInt8.toInt32)))), .val (.int (3 : Int32))] [(.int (1 : Int32))])) _
          refine XS.istore X118.here hx rfl (hb hby at_331) rfl (l' := #[.val (.int p0), .val (.int p1), .val (.int p2), .val (.int p3), .val (.int p4), .val (.int (3 : Int32)), .val (.ref b80), .val (.ref b87), .val (.int (1 : Int32)), .val (.int (nar .byte (nar .byte ((p1).toInt8.toInt32)))), .val (.int (3 : Int32))]) rfl ?_
          show Steps p.tables e below (T118.setTop (mkF m 333 #[.val (.int p0), .val (.int p1), .val (.int p2), .val (.int p3), .val (.int p4), .val (.int (3 : Int32)), .val (.ref b80), .val (.ref b87), .val (.int (1 : Int32)), .val (.int (nar .byte (nar .byte ((p1).toInt8.toInt32)))), .val (.int (3 : Int32))] [])) _
          refine XS.iload X118.here hx rfl (hb hby at_333) rfl ?_
          show Steps p.tables e below (T118.setTop (mkF m 335 #[.val (.int p0), .val (.int p1), .val (.int p2), .val (.int p3), .val (.int p4), .val (.int (3 : Int32)), .val (.ref b80), .val (.ref b87), .val (.int (1 : Int32)), .val (.int (nar .byte (nar .byte ((p1).toInt8.toInt32)))), .val (.int (3 : Int32))] [(.int (1 : Int32))])) _
          exact kk
        obtain ⟨fs, hr, hrun, hended, hW, hsame⟩ := X118.leave (v := some (.int (1 : Int32))) (fun h => by rw [Bd.returns] at h; cases h)
        refine ⟨_, _, P120 _ ?_, hrun, hended, _, _, rfl, ?_, ⟨_, rfl⟩, hW, hsame.mono (by decide) (by decide)⟩
        · exact retN X118 hx (t := .boolean) Bd.returns (by simp) (hb hby at_335) hr
        · exact ⟨rfl, N118⟩
    · skip
      obtain ⟨cq121, kq121, q121a, q121b, q121c⟩ := isOf hZ e103 f105
      obtain ⟨_, _, ⟨T121, L121, k121, n121⟩, -, X121, ⟨Lc121, hQ121, l121, y121, z121⟩, st121⟩ := X103.virtualBack hx (y := (⟨"com/example/meterwright/meterwright/RecordBody$Reader", "number", "()J"⟩ : MethodName)) (z := (⟨"com/example/meterwright/meterwright/RecordBody$Reader", "number", "()J"⟩ : MethodName)) hown (mvT hZ (hw _ (List.mem_of_getElem? (i := 51) rfl))) (mvT hZ (hw _ (List.mem_of_getElem? (i := 52) rfl))) (notFace_of_selects (args := #[]) (mvT hZ (hw _ (List.mem_of_getElem? (i := 54) rfl)))) (mvT hZ (hw _ (List.mem_of_getElem? (i := 54) rfl))) (mvT hZ (hw _ (List.mem_of_getElem? (i := 53) rfl))) (by decide) (backOf (W := 0) (rm8 l Z a0 hw [] b87 b80 k80 (3 : Int32) [(.int (nar .byte ((p1).toInt8.toInt32))), (.int (nar .byte ((p2).toInt8.toInt32))), (.int (nar .byte ((p3).toInt8.toInt32)))] (.int (0 : Int32)) (nar .byte ((p2).toInt8.toInt32)) T99.heap n0 z104 f105 q99_0' q99_1 f101 ge_b87 ne_b80_b87 (by decide) rfl c108) hZ (hw _ (List.mem_of_getElem? (i := 55) rfl)) (hw _ (List.mem_of_getElem? (i := 4) rfl)) (by decide) (by decide)) q121a q121c (g := (mkF m 265 #[.val (.int p0), .val (.int p1), .val (.int p2), .val (.int p3), .val (.int p4), .val (.int (3 : Int32)), .val (.ref b80), .val (.ref b87), .val (.int (1 : Int32)), .val (.int (nar .byte (nar .byte ((p1).toInt8.toInt32)))), .val (.int (2 : Int32))] [(.ref b87)])) rfl (by rw [hml]; rfl) (Steps.refl _) (argsL := []) (rest := []) (lenOf pd_1 rfl) rfl (by show 2 * 0 + _ ≤ _; exact Nat.le_of_eq rfl) (hb hby at_265) (fun _ _ => ⟨rfl, e103, (by decide : 3 + 0 ≤ _), (by decide : 10 + 0 ≤ _)⟩)
      dsimp only [Pt.U, Pt.locs, Pt.cells, Pt.slots] at X121 l121 y121 z121 st121 hQ121
      subst l121 y121 z121
      obtain ⟨r_121, rfl, Nq121, K121, q121_0, q121_1⟩ := hQ121
      have N121 := Fr.app N103 Nq121
      have f123 := (Arv.keep f101 K121 (ninS ne_b80_b87 nin0))
      have z124 : n0 ≤ _ := (Nat.le_trans z104 K121.1)
      have f125 := (Exa.keep f105 K121)
      obtain ⟨cq122, kq122, q122a, q122b, q122c⟩ := isOf hZ rfl f125
      obtain ⟨_, _, ⟨T122, L122, k122, n122⟩, -, X122, ⟨Lc122, hQ122, l122, y122, z122⟩, st122⟩ := X121.virtualBack hx (y := (⟨"com/example/meterwright/meterwright/RecordBody$Reader", "atEnd", "()Z"⟩ : MethodName)) (z := (⟨"com/example/meterwright/meterwright/RecordBody$Reader", "atEnd", "()Z"⟩ : MethodName)) hown (mvT hZ (hw _ (List.mem_of_getElem? (i := 39) rfl))) (mvT hZ (hw _ (List.mem_of_getElem? (i := 40) rfl))) (notFace_of_selects (args := #[]) (mvT hZ (hw _ (List.mem_of_getElem? (i := 42) rfl)))) (mvT hZ (hw _ (List.mem_of_getElem? (i := 42) rfl))) (mvT hZ (hw _ (List.mem_of_getElem? (i := 41) rfl))) (by decide) (backOf (W := 0) (rm5 l Z a0 hw [] b87 (2 : Int32) b80 k80 (3 : Int32) [(.int (nar .byte ((p1).toInt8.toInt32))), (.int (nar .byte ((p2).toInt8.toInt32))), (.int (nar .byte ((p3).toInt8.toInt32)))] (.int (0 : Int32)) T121.heap n0 z124 q121_0 q121_1 f123) hZ (hw _ (List.mem_of_getElem? (i := 43) rfl)) (hw _ (List.mem_of_getElem? (i := 4) rfl)) (by decide) (by decide)) q122a q122c (g := (mkF m 276 #[.val (.int p0), .val (.int p1), .val (.int p2), .val (.int p3), .val (.int p4), .val (.int (3 : Int32)), .val (.ref b80), .val (.ref b87), .val (.int (1 : Int32)), .val (.int (nar .byte (nar .byte ((p1).toInt8.toInt32)))), .val (.int (2 : Int32))] [(.ref b87)])) rfl (by rw [hml]; rfl) (Steps.refl _) (argsL := []) (rest := []) (lenOf pd_3 rfl) rfl (by show 2 * 0 + _ ≤ _; exact Nat.le_of_eq rfl) (hb hby at_276) (fun _ _ => ⟨rfl, rfl, (by decide : 3 + 0 ≤ _), (by decide : 10 + 0 ≤ _)⟩)
      dsimp only [Pt.U, Pt.locs, Pt.cells, Pt.slots] at X122 l122 y122 z122 st122 hQ122
      subst l122 y122 z122
      obtain ⟨rfl, Nq122, e122⟩ := hQ122
      have N122 := Fr.app N121 Nq122
      obtain ⟨cq126, kq126, q126a, q126b, q126c⟩ := isOf hZ e122 f125
      obtain ⟨_, _, ⟨T126, L126, k126, n126⟩, -, X126, ⟨Lc126, hQ126, l126, y126, z126⟩, st126⟩ := X122.virtualBack hx (y := (⟨"com/example/meterwright/meterwright/RecordBody$Reader", "atEnd", "()Z"⟩ : MethodName)) (z := (⟨"com/example/meterwright/meterwright/RecordBody$Reader", "atEnd", "()Z"⟩ : MethodName)) hown (mvT hZ (hw _ (List.mem_of_getElem? (i := 39) rfl))) (mvT hZ (hw _ (List.mem_of_getElem? (i := 40) rfl))) (notFace_of_selects (args := #[]) (mvT hZ (hw _ (List.mem_of_getElem? (i := 42) rfl)))) (mvT hZ (hw _ (List.mem_of_getElem? (i := 42) rfl))) (mvT hZ (hw _ (List.mem_of_getElem? (i := 41) rfl))) (by decide) (backOf (W := 0) (rm5 l Z a0 hw [] b87 (2 : Int32) b80 k80 (3 : Int32) [(.int (nar .byte ((p1).toInt8.toInt32))), (.int (nar .byte ((p2).toInt8.toInt32))), (.int (nar .byte ((p3).toInt8.toInt32)))] (.int (0 : Int32)) T121.heap n0 z124 q121_0 q121_1 f123) hZ (hw _ (List.mem_of_getElem? (i := 43) rfl)) (hw _ (List.mem_of_getElem? (i := 4) rfl)) (by decide) (by decide)) q126a q126c (g := (mkF m 308 #[.val (.int p0), .val (.int p1), .val (.int p2), .val (.int p3), .val (.int p4), .val (.int (3 : Int32)), .val (.ref b80), .val (.ref b87), .val (.int (1 : Int32)), .val (.int (nar .byte (nar .byte ((p1).toInt8.toInt32)))), .val (.int (2 : Int32))] [(.ref b87)])) rfl (by rw [hml]; rfl) (Steps.refl _) (argsL := []) (rest := []) (lenOf pd_3 rfl) rfl (by show 2 * 0 + _ ≤ _; exact Nat.le_of_eq rfl) (hb hby at_308) (fun _ _ => ⟨rfl, e122, (by decide : 3 + 0 ≤ _), (by decide : 10 + 0 ≤ _)⟩)
      dsimp only [Pt.U, Pt.locs, Pt.cells, Pt.slots] at X126 l126 y126 z126 st126 hQ126
      subst l126 y126 z126
      obtain ⟨rfl, Nq126, e126⟩ := hQ126
      have N126 := Fr.app N122 Nq126
      have P127 : ∀ t, Steps p.tables e below (T126.setTop (mkF m 326 #[.val (.int p0), .val (.int p1), .val (.int p2), .val (.int p3), .val (.int p4), .val (.int (3 : Int32)), .val (.ref b80), .val (.ref b87), .val (.int (1 : Int32)), .val (.int (nar .byte (nar .byte ((p1).toInt8.toInt32)))), .val (.int (2 : Int32))] [])) t → Steps p.tables e below (s₁.setTop (entryFrame m #[(.int p0), (.int p1), (.int p2), (.int p3), (.int p4)] maxLocals)) t := by
        intro t kk
        refine P107 _ ?_
        show Steps p.tables e below (T103.setTop (mkF m 211 #[.val (.int p0), .val (.int p1), .val (.int p2), .val (.int p3), .val (.int p4), .val (.int (3 : Int32)), .val (.ref b80), .val (.ref b87), .val (.int (1 : Int32)), .val (.int (nar .byte (nar .byte ((p1).toInt8.toInt32)))), .val (.int (-1 : Int32))] [(.int (nar .byte ((p2).toInt8.toInt32)))])) _
        refine XS.ifNo X103.here hx rfl (hb hby at_211) rfl (XT.i0_lt_f c108) ?_
        show Steps p.tables e below (T103.setTop (mkF m 214 #[.val (.int p0), .val (.int p1), .val (.int p2), .val (.int p3), .val (.int p4), .val (.int (3 : Int32)), .val (.ref b80), .val (.ref b87), .val (.int (1 : Int32)), .val (.int (nar .byte (nar .byte ((p1).toInt8.toInt32)))), .val (.int (-1 : Int32))] [])) _
        refine XS.iconst X103.here hx rfl (hb hby at_214) ?_
        show Steps p.tables e below (T103.setTop (mkF m 215 #[.val (.int p0), .val (.int p1), .val (.int p2), .val (.int p3), .val (.int p4), .val (.int (3 : Int32)), .val (.ref b80), .val (.ref b87), .val (.int (1 : Int32)), .val (.int (nar .byte (nar .byte ((p1).toInt8.toInt32)))), .val (.int (-1 : Int32))] [(.int (2 : Int32))])) _
        refine XS.istore X103.here hx rfl (hb hby at_215) rfl (l' := #[.val (.int p0), .val (.int p1), .val (.int p2), .val (.int p3), .val (.int p4), .val (.int (3 : Int32)), .val (.ref b80), .val (.ref b87), .val (.int (1 : Int32)), .val (.int (nar .byte (nar .byte ((p1).toInt8.toInt32)))), .val (.int (2 : Int32))]) rfl ?_
        show Steps p.tables e below (T103.setTop (mkF m 217 #[.val (.int p0), .val (.int p1), .val (.int p2), .val (.int p3), .val (.int p4), .val (.int (3 : Int32)), .val (.ref b80), .val (.ref b87), .val (.int (1 : Int32)), .val (.int (nar .byte (nar .byte ((p1).toInt8.toInt32)))), .val (.int (2 : Int32))] [])) _
        refine XS.goto X103.here hx rfl (pc0 := 217) (pc' := 255) rfl (hb hby at_217) (by decide) (by decide) ?_
        show Steps p.tables e below (T103.setTop (mkF m 255 #[.val (.int p0), .val (.int p1), .val (.int p2), .val (.int p3), .val (.int p4), .val (.int (3 : Int32)), .val (.ref b80), .val (.ref b87), .val (.int (1 : Int32)), .val (.int (nar .byte (nar .byte ((p1).toInt8.toInt32)))), .val (.int (2 : Int32))] [])) _
        refine XS.iload X103.here hx rfl (hb hby at_255) rfl ?_
        show Steps p.tables e below (T103.setTop (mkF m 257 #[.val (.int p0), .val (.int p1), .val (.int p2), .val (.int p3), .val (.int p4), .val (.int (3 : Int32)), .val (.ref b80), .val (.ref b87), .val (.int (1 : Int32)), .val (.int (nar .byte (nar .byte ((p1).toInt8.toInt32)))), .val (.int (2 : Int32))] [(.int (2 : Int32))])) _
        refine XS.ifYes X103.here hx rfl (pc0 := 257) (pc' := 263) rfl (hb hby at_257) rfl (XT.i0_ge_t (by decide)) (by decide) (by decide) ?_
        show Steps p.tables e below (T103.setTop (mkF m 263 #[.val (.int p0), .val (.int p1), .val (.int p2), .val (.int p3), .val (.int p4), .val (.int (3 : Int32)), .val (.ref b80), .val (.ref b87), .val (.int (1 : Int32)), .val (.int (nar .byte (nar .byte ((p1).toInt8.toInt32)))), .val (.int (2 : Int32))] [])) _
        refine XS.aload X103.here hx rfl (hb hby at_263) rfl rfl ?_
        show Steps p.tables e below (T103.setTop (mkF m 265 #[.val (.int p0), .val (.int p1), .val (.int p2), .val (.int p3), .val (.int p4), .val (.int (3 : Int32)), .val (.ref b80), .val (.ref b87), .val (.int (1 : Int32)), .val (.int (nar .byte (nar .byte ((p1).toInt8.toInt32)))), .val (.int (2 : Int32))] [(.ref b87)])) _
        refine st121.trans ?_
        show Steps p.tables e below (T121.setTop (mkF m 268 #[.val (.int p0), .val (.int p1), .val (.int p2), .val (.int p3), .val (.int p4), .val (.int (3 : Int32)), .val (.ref b80), .val (.ref b87), .val (.int (1 : Int32)), .val (.int (nar .byte (nar .byte ((p1).toInt8.toInt32)))), .val (.int (2 : Int32))] [(.long r_121)])) _
        jvm_step X121.here [X121.here.top, hx, (hb hby at_268), Value.category]
        show Steps p.tables e below (T121.setTop (mkF m 269 #[.val (.int p0), .val (.int p1), .val (.int p2), .val (.int p3), .val (.int p4), .val (.int (3 : Int32)), .val (.ref b80), .val (.ref b87), .val (.int (1 : Int32)), .val (.int (nar .byte (nar .byte ((p1).toInt8.toInt32)))), .val (.int (2 : Int32))] [])) _
        refine XS.iload X121.here hx rfl (hb hby at_269) rfl ?_
        show Steps p.tables e below (T121.setTop (mkF m 271 #[.val (.int p0), .val (.int p1), .val (.int p2), .val (.int p3), .val (.int p4), .val (.int (3 : Int32)), .val (.ref b80), .val (.ref b87), .val (.int (1 : Int32)), .val (.int (nar .byte (nar .byte ((p1).toInt8.toInt32)))), .val (.int (2 : Int32))] [(.int (1 : Int32))])) _
        refine XS.ifNo X121.here hx rfl (hb hby at_271) rfl (XT.i0_eq_f (by decide)) ?_
        show Steps p.tables e below (T121.setTop (mkF m 274 #[.val (.int p0), .val (.int p1), .val (.int p2), .val (.int p3), .val (.int p4), .val (.int (3 : Int32)), .val (.ref b80), .val (.ref b87), .val (.int (1 : Int32)), .val (.int (nar .byte (nar .byte ((p1).toInt8.toInt32)))), .val (.int (2 : Int32))] [])) _
        refine XS.aload X121.here hx rfl (hb hby at_274) rfl rfl ?_
        show Steps p.tables e below (T121.setTop (mkF m 276 #[.val (.int p0), .val (.int p1), .val (.int p2), .val (.int p3), .val (.int p4), .val (.int (3 : Int32)), .val (.ref b80), .val (.ref b87), .val (.int (1 : Int32)), .val (.int (nar .byte (nar .byte ((p1).toInt8.toInt32)))), .val (.int (2 : Int32))] [(.ref b87)])) _
        refine st122.trans ?_
        show Steps p.tables e below (T122.setTop (mkF m 279 #[.val (.int p0), .val (.int p1), .val (.int p2), .val (.int p3), .val (.int p4), .val (.int (3 : Int32)), .val (.ref b80), .val (.ref b87), .val (.int (1 : Int32)), .val (.int (nar .byte (nar .byte ((p1).toInt8.toInt32)))), .val (.int (2 : Int32))] [(.int (F5 (2 : Int32) (3 : Int32)))])) _
        refine XS.iload X122.here hx rfl (hb hby at_279) rfl ?_
        show Steps p.tables e below (T122.setTop (mkF m 281 #[.val (.int p0), .val (.int p1), .val (.int p2), .val (.int p3), .val (.int p4), .val (.int (3 : Int32)), .val (.ref b80), .val (.ref b87), .val (.int (1 : Int32)), .val (.int (nar .byte (nar .byte ((p1).toInt8.toInt32)))), .val (.int (2 : Int32))] [(.int (2 : Int32)), (.int (F5 (2 : Int32) (3 : Int32)))])) _
        refine XS.iload X122.here hx rfl (hb hby at_281) rfl ?_
        show Steps p.tables e below (T122.setTop (mkF m 283 #[.val (.int p0), .val (.int p1), .val (.int p2), .val (.int p3), .val (.int p4), .val (.int (3 : Int32)), .val (.ref b80), .val (.ref b87), .val (.int (1 : Int32)), .val (.int (nar .byte (nar .byte ((p1).toInt8.toInt32)))), .val (.int (2 : Int32))] [(.int (3 : Int32)), (.int (2 : Int32)), (.int (F5 (2 : Int32) (3 : Int32)))])) _
        refine XS.icmpYes X122.here hx rfl (pc0 := 283) (pc' := 290) rfl (hb hby at_283) rfl (XT.ii_ne_t (by decide)) (by decide) (by decide) ?_
        show Steps p.tables e below (T122.setTop (mkF m 290 #[.val (.int p0), .val (.int p1), .val (.int p2), .val (.int p3), .val (.int p4), .val (.int (3 : Int32)), .val (.ref b80), .val (.ref b87), .val (.int (1 : Int32)), .val (.int (nar .byte (nar .byte ((p1).toInt8.toInt32)))), .val (.int (2 : Int32))] [(.int (F5 (2 : Int32) (3 : Int32)))])) _
        refine XS.iconst X122.here hx rfl (hb hby at_290) ?_
        show Steps p.tables e below (T122.setTop (mkF m 291 #[.val (.int p0), .val (.int p1), .val (.int p2), .val (.int p3), .val (.int p4), .val (.int (3 : Int32)), .val (.ref b80), .val (.ref b87), .val (.int (1 : Int32)), .val (.int (nar .byte (nar .byte ((p1).toInt8.toInt32)))), .val (.int (2 : Int32))] [(.int (0 : Int32)), (.int (F5 (2 : Int32) (3 : Int32)))])) _
        refine XS.icmpNo X122.here hx rfl (hb hby at_291) rfl (XT.ii_ne_f (by decide)) ?_
        show Steps p.tables e below (T122.setTop (mkF m 294 #[.val (.int p0), .val (.int p1), .val (.int p2), .val (.int p3), .val (.int p4), .val (.int (3 : Int32)), .val (.ref b80), .val (.ref b87), .val (.int (1 : Int32)), .val (.int (nar .byte (nar .byte ((p1).toInt8.toInt32)))), .val (.int (2 : Int32))] [])) _
        refine XS.iconst X122.here hx rfl (hb hby at_294) ?_
        show Steps p.tables e below (T122.setTop (mkF m 295 #[.val (.int p0), .val (.int p1), .val (.int p2), .val (.int p3), .val (.int p4), .val (.int (3 : Int32)), .val (.ref b80), .val (.ref b87), .val (.int (1 : Int32)), .val (.int (nar .byte (nar .byte ((p1).toInt8.toInt32)))), .val (.int (2 : Int32))] [(.int (1 : Int32))])) _
        refine XS.goto X122.here hx rfl (pc0 := 295) (pc' := 299) rfl (hb hby at_295) (by decide) (by decide) ?_
        show Steps p.tables e below (T122.setTop (mkF m 299 #[.val (.int p0), .val (.int p1), .val (.int p2), .val (.int p3), .val (.int p4), .val (.int (3 : Int32)), .val (.ref b80), .val (.ref b87), .val (.int (1 : Int32)), .val (.int (nar .byte (nar .byte ((p1).toInt8.toInt32)))), .val (.int (2 : Int32))] [(.int (1 : Int32))])) _
        refine XS.istore X122.here hx rfl (hb hby at_299) rfl (l' := #[.val (.int p0), .val (.int p1), .val (.int p2), .val (.int p3), .val (.int p4), .val (.int (3 : Int32)), .val (.ref b80), .val (.ref b87), .val (.int (1 : Int32)), .val (.int (nar .byte (nar .byte ((p1).toInt8.toInt32)))), .val (.int (2 : Int32))]) rfl ?_
        show Steps p.tables e below (T122.setTop (mkF m 301 #[.val (.int p0), .val (.int p1), .val (.int p2), .val (.int p3), .val (.int p4), .val (.int (3 : Int32)), .val (.ref b80), .val (.ref b87), .val (.int (1 : Int32)), .val (.int (nar .byte (nar .byte ((p1).toInt8.toInt32)))), .val (.int (2 : Int32))] [])) _
        refine XS.iload X122.here hx rfl (hb hby at_301) rfl ?_
        show Steps p.tables e below (T122.setTop (mkF m 303 #[.val (.int p0), .val (.int p1), .val (.int p2), .val (.int p3), .val (.int p4), .val (.int (3 : Int32)), .val (.ref b80), .val (.ref b87), .val (.int (1 : Int32)), .val (.int (nar .byte (nar .byte ((p1).toInt8.toInt32)))), .val (.int (2 : Int32))] [(.int (1 : Int32))])) _
        refine XS.ifNo X122.here hx rfl (hb hby at_303) rfl (XT.i0_eq_f (by decide)) ?_
        show Steps p.tables e below (T122.setTop (mkF m 306 #[.val (.int p0), .val (.int p1), .val (.int p2), .val (.int p3), .val (.int p4), .val (.int (3 : Int32)), .val (.ref b80), .val (.ref b87), .val (.int (1 : Int32)), .val (.int (nar .byte (nar .byte ((p1).toInt8.toInt32)))), .val (.int (2 : Int32))] [])) _
        refine XS.aload X122.here hx rfl (hb hby at_306) rfl rfl ?_
        show Steps p.tables e below (T122.setTop (mkF m 308 #[.val (.int p0), .val (.int p1), .val (.int p2), .val (.int p3), .val (.int p4), .val (.int (3 : Int32)), .val (.ref b80), .val (.ref b87), .val (.int (1 : Int32)), .val (.int (nar .byte (nar .byte ((p1).toInt8.toInt32)))), .val (.int (2 : Int32))] [(.ref b87)])) _
        refine st126.trans ?_
        show Steps p.tables e below (T126.setTop (mkF m 311 #[.val (.int p0), .val (.int p1), .val (.int p2), .val (.int p3), .val (.int p4), .val (.int (3 : Int32)), .val (.ref b80), .val (.ref b87), .val (.int (1 : Int32)), .val (.int (nar .byte (nar .byte ((p1).toInt8.toInt32)))), .val (.int (2 : Int32))] [(.int (F5 (2 : Int32) (3 : Int32)))])) _
        refine XS.iload X126.here hx rfl (hb hby at_311) rfl ?_
        show Steps p.tables e below (T126.setTop (mkF m 313 #[.val (.int p0), .val (.int p1), .val (.int p2), .val (.int p3), .val (.int p4), .val (.int (3 : Int32)), .val (.ref b80), .val (.ref b87), .val (.int (1 : Int32)), .val (.int (nar .byte (nar .byte ((p1).toInt8.toInt32)))), .val (.int (2 : Int32))] [(.int (2 : Int32)), (.int (F5 (2 : Int32) (3 : Int32)))])) _
        refine XS.iload X126.here hx rfl (hb hby at_313) rfl ?_
        show Steps p.tables e below (T126.setTop (mkF m 315 #[.val (.int p0), .val (.int p1), .val (.int p2), .val (.int p3), .val (.int p4), .val (.int (3 : Int32)), .val (.ref b80), .val (.ref b87), .val (.int (1 : Int32)), .val (.int (nar .byte (nar .byte ((p1).toInt8.toInt32)))), .val (.int (2 : Int32))] [(.int (3 : Int32)), (.int (2 : Int32)), (.int (F5 (2 : Int32) (3 : Int32)))])) _
        refine XS.icmpYes X126.here hx rfl (pc0 := 315) (pc' := 322) rfl (hb hby at_315) rfl (XT.ii_ne_t (by decide)) (by decide) (by decide) ?_
        show Steps p.tables e below (T126.setTop (mkF m 322 #[.val (.int p0), .val (.int p1), .val (.int p2), .val (.int p3), .val (.int p4), .val (.int (3 : Int32)), .val (.ref b80), .val (.ref b87), .val (.int (1 : Int32)), .val (.int (nar .byte (nar .byte ((p1).toInt8.toInt32)))), .val (.int (2 : Int32))] [(.int (F5 (2 : Int32) (3 : Int32)))])) _
        refine XS.iconst X126.here hx rfl (hb hby at_322) ?_
        show Steps p.tables e below (T126.setTop (mkF m 323 #[.val (.int p0), .val (.int p1), .val (.int p2), .val (.int p3), .val (.int p4), .val (.int (3 : Int32)), .val (.ref b80), .val (.ref b87), .val (.int (1 : Int32)), .val (.int (nar .byte (nar .byte ((p1).toInt8.toInt32)))), .val (.int (2 : Int32))] [(.int (0 : Int32)), (.int (F5 (2 : Int32) (3 : Int32)))])) _
        refine XS.icmpNo X126.here hx rfl (hb hby at_323) rfl (XT.ii_ne_f (by decide)) ?_
        show Steps p.tables e below (T126.setTop (mkF m 326 #[.val (.int p0), .val (.int p1), .val (.int p2), .val (.int p3), .val (.int p4), .val (.int (3 : Int32)), .val (.ref b80), .val (.ref b87), .val (.int (1 : Int32)), .val (.int (nar .byte (nar .byte ((p1).toInt8.toInt32)))), .val (.int (2 : Int32))] [])) _
        exact kk
      have P128 : ∀ t, Steps p.tables e below (T126.setTop (mkF m 335 #[.val (.int p0), .val (.int p1), .val (.int p2), .val (.int p3), .val (.int p4), .val (.int (3 : Int32)), .val (.ref b80), .val (.ref b87), .val (.int (1 : Int32)), .val (.int (nar .byte (nar .byte ((p1).toInt8.toInt32)))), .val (.int (2 : Int32))] [(.int (1 : Int32))])) t → Steps p.tables e below (s₁.setTop (entryFrame m #[(.int p0), (.int p1), (.int p2), (.int p3), (.int p4)] maxLocals)) t := by
        intro t kk
        refine P127 _ ?_
        show Steps p.tables e below (T126.setTop (mkF m 326 #[.val (.int p0), .val (.int p1), .val (.int p2), .val (.int p3), .val (.int p4), .val (.int (3 : Int32)), .val (.ref b80), .val (.ref b87), .val (.int (1 : Int32)), .val (.int (nar .byte (nar .byte ((p1).toInt8.toInt32)))), .val (.int (2 : Int32))] [])) _
        refine XS.iconst X126.here hx rfl (hb hby at_326) ?_
        show Steps p.tables e below (T126.setTop (mkF m 327 #[.val (.int p0), .val (.int p1), .val (.int p2), .val (.int p3), .val (.int p4), .val (.int (3 : Int32)), .val (.ref b80), .val (.ref b87), .val (.int (1 : Int32)), .val (.int (nar .byte (nar .byte ((p1).toInt8.toInt32)))), .val (.int (2 : Int32))] [(.int (1 : Int32))])) _
        refine XS.goto X126.here hx rfl (pc0 := 327) (pc' := 331) rfl (hb hby at_327) (by decide) (by decide) ?_
        show Steps p.tables e below (T126.setTop (mkF m 331 #[.val (.int p0), .val (.int p1), .val (.int p2), .val (.int p3), .val (.int p4), .val (.int (3 : Int32)), .val (.ref b80), .val (.ref b87), .val (.int (1 : Int32)), .val (.int (nar .byte (nar .byte ((p1).toInt8.toInt32)))), .val (.int (2 : Int32))] [(.int (1 : Int32))])) _
        refine XS.istore X126.here hx rfl (hb hby at_331) rfl (l' := #[.val (.int p0), .val (.int p1), .val (.int p2), .val (.int p3), .val (.int p4), .val (.int (3 : Int32)), .val (.ref b80), .val (.ref b87), .val (.int (1 : Int32)), .val (.int (nar .byte (nar .byte ((p1).toInt8.toInt32)))), .val (.int (2 : Int32))]) rfl ?_
        show Steps p.tables e below (T126.setTop (mkF m 333 #[.val (.int p0), .val (.int p1), .val (.int p2), .val (.int p3), .val (.int p4), .val (.int (3 : Int32)), .val (.ref b80), .val (.ref b87), .val (.int (1 : Int32)), .val (.int (nar .byte (nar .byte ((p1).toInt8.toInt32)))), .val (.int (2 : Int32))] [])) _
        refine XS.iload X126.here hx rfl (hb hby at_333) rfl ?_
        show Steps p.tables e below (T126.setTop (mkF m 335 #[.val (.int p0), .val (.int p1), .val (.int p2), .val (.int p3), .val (.int p4), .val (.int (3 : Int32)), .val (.ref b80), .val (.ref b87), .val (.int (1 : Int32)), .val (.int (nar .byte (nar .byte ((p1).toInt8.toInt32)))), .val (.int (2 : Int32))] [(.int (1 : Int32))])) _
        exact kk
      obtain ⟨fs, hr, hrun, hended, hW, hsame⟩ := X126.leave (v := some (.int (1 : Int32))) (fun h => by rw [Bd.returns] at h; cases h)
      refine ⟨_, _, P128 _ ?_, hrun, hended, _, _, rfl, ?_, ⟨_, rfl⟩, hW, hsame.mono (by decide) (by decide)⟩
      · exact retN X126 hx (t := .boolean) Bd.returns (by simp) (hb hby at_335) hr
      · exact ⟨rfl, N126⟩
  · skip
    have P129 : ∀ t, Steps p.tables e below (s₁.setTop (mkF m 8 #[.val (.int p0), .val (.int p1), .val (.int p2), .val (.int p3), .val (.int p4), .val (.int (4 : Int32)), .unset, .unset, .unset, .unset, .unset] [])) t → Steps p.tables e below (s₁.setTop (entryFrame m #[(.int p0), (.int p1), (.int p2), (.int p3), (.int p4)] maxLocals)) t := by
      intro t kk
      refine P1 _ ?_
      rw [hs2]
      exact kk
    obtain ⟨T130, h130, k130, X130, e130, E130, A130, st130⟩ := newP X0 hx hZ (hw _ (List.mem_of_getElem? (i := 1) rfl)) e0 (g := (mkF m 10 #[.val (.int p0), .val (.int p1), .val (.int p2), .val (.int p3), .val (.int p4), .val (.int (4 : Int32)), .unset, .unset, .unset, .unset, .unset] [(.int (4 : Int32))])) rfl (hb hby at_10) rfl (by decide) (cap := 4) (by decide) (by decide) (by decide) (by decide)
    obtain ⟨b130, g_b130⟩ : ∃ z, z = h0.size := ⟨_, rfl⟩
    rw [← g_b130] at A130 st130
    have ge_b130 : n0 ≤ b130 := Nat.le_trans Z0 (Nat.le_of_eq g_b130.symm)
    have sz_b130 : h0.size ≤ b130 := Nat.le_trans (Keep.refl h0 []).1 (Nat.le_of_eq g_b130.symm)
    have V130 : Arv Z h130 b130 k130 .byte (4 : Int32) [(.int (0 : Int32)), (.int (0 : Int32)), (.int (0 : Int32)), (.int (0 : Int32))] (.int (0 : Int32)) := (Arv.new A130 (by decide)).pad (pad_rep [] (.int (0 : Int32)) 4)
    obtain ⟨cl_a131, Ar_a131, q_a131, S_a131, N_a131, H_a131, G_a131⟩ := id V130
    have hin_a131 : ¬ ((0 : Int32) < 0 ∨ cl_a131.slots.size ≤ ((0 : Int32)).toNatClampNeg) := inb_of S_a131 ⟨by decide, by decide⟩
    obtain ⟨T132, h132, X132, e132, W132, st132⟩ := stB X130 hx hZ e130 Ar_a131 (j := (0 : Int32)) hin_a131 (g := (mkF m 24 #[.val (.int p0), .val (.int p1), .val (.int p2), .val (.int p3), .val (.int p4), .val (.int (4 : Int32)), .val (.ref b130), .unset, .unset, .unset, .unset] [(.int ((p1).toInt8.toInt32)), (.int (0 : Int32)), (.ref b130)])) rfl rfl (hb hby at_24)
    have V132 : Arv Z h132 b130 k130 .byte (4 : Int32) [(.int (nar .byte ((p1).toInt8.toInt32))), (.int (0 : Int32)), (.int (0 : Int32)), (.int (0 : Int32))] (.int (0 : Int32)) := Arv.set Ar_a131 q_a131 S_a131 N_a131 H_a131 G_a131 (fits_nar_byte _) W132 0 rfl (Nat.le_of_ble_eq_true rfl)
    have N132 := Fr.snoc X132 N0 ge_b130
    obtain ⟨cl_a133, Ar_a133, q_a133, S_a133, N_a133, H_a133, G_a133⟩ := id V132
    have hin_a133 : ¬ ((1 : Int32) < 0 ∨ cl_a133.slots.size ≤ ((1 : Int32)).toNatClampNeg) := inb_of S_a133 ⟨by decide, by decide⟩
    obtain ⟨T134, h134, X134, e134, W134, st134⟩ := stB X132 hx hZ e132 Ar_a133 (j := (1 : Int32)) hin_a133 (g := (mkF m 36 #[.val (.int p0), .val (.int p1), .val (.int p2), .val (.int p3), .val (.int p4), .val (.int (4 : Int32)), .val (.ref b130), .unset, .unset, .unset, .unset] [(.int ((p2).toInt8.toInt32)), (.int (1 : Int32)), (.ref b130)])) rfl rfl (hb hby at_36)
    have V134 : Arv Z h134 b130 k130 .byte (4 : Int32) [(.int (nar .byte ((p1).toInt8.toInt32))), (.int (nar .byte ((p2).toInt8.toInt32))), (.int (0 : Int32)), (.int (0 : Int32))] (.int (0 : Int32)) := Arv.set Ar_a133 q_a133 S_a133 N_a133 H_a133 G_a133 (fits_nar_byte _) W134 1 rfl (Nat.le_of_ble_eq_true rfl)
    have N134 := Fr.snoc X134 N132 ge_b130
    obtain ⟨cl_a135, Ar_a135, q_a135, S_a135, N_a135, H_a135, G_a135⟩ := id V134
    have hin_a135 : ¬ ((2 : Int32) < 0 ∨ cl_a135.slots.size ≤ ((2 : Int32)).toNatClampNeg) := inb_of S_a135 ⟨by decide, by decide⟩
    obtain ⟨T136, h136, X136, e136, W136, st136⟩ := stB X134 hx hZ e134 Ar_a135 (j := (2 : Int32)) hin_a135 (g := (mkF m 48 #[.val (.int p0), .val (.int p1), .val (.int p2), .val (.int p3), .val (.int p4), .val (.int (4 : Int32)), .val (.ref b130), .unset, .unset, .unset, .unset] [(.int ((p3).toInt8.toInt32)), (.int (2 : Int32)), (.ref b130)])) rfl rfl (hb hby at_48)
    have V136 : Arv Z h136 b130 k130 .byte (4 : Int32) [(.int (nar .byte ((p1).toInt8.toInt32))), (.int (nar .byte ((p2).toInt8.toInt32))), (.int (nar .byte ((p3).toInt8.toInt32))), (.int (0 : Int32))] (.int (0 : Int32)) := Arv.set Ar_a135 q_a135 S_a135 N_a135 H_a135 G_a135 (fits_nar_byte _) W136 2 rfl (Nat.le_of_ble_eq_true rfl)
    have N136 := Fr.snoc X136 N134 ge_b130
    have P137 : ∀ t, Steps p.tables e below (T136.setTop (mkF m 57 #[.val (.int p0), .val (.int p1), .val (.int p2), .val (.int p3), .val (.int p4), .val (.int (4 : Int32)), .val (.ref b130), .unset, .unset, .unset, .unset] [(.ref b130)])) t → Steps p.tables e below (s₁.setTop (entryFrame m #[(.int p0), (.int p1), (.int p2), (.int p3), (.int p4)] maxLocals)) t := by
      intro t kk
      refine P129 _ ?_
      show Steps p.tables e below (s₁.setTop (mkF m 8 #[.val (.int p0), .val (.int p1), .val (.int p2), .val (.int p3), .val (.int p4), .val (.int (4 : Int32)), .unset, .unset, .unset, .unset, .unset] [])) _
      refine XS.iload X0.here hx rfl (hb hby at_8) rfl ?_
      show Steps p.tables e below (s₁.setTop (mkF m 10 #[.val (.int p0), .val (.int p1), .val (.int p2), .val (.int p3), .val (.int p4), .val (.int (4 : Int32)), .unset, .unset, .unset, .unset, .unset] [(.int (4 : Int32))])) _
      refine st130 _ ?_
      show Steps p.tables e below (T130.setTop (mkF m 12 #[.val (.int p0), .val (.int p1), .val (.int p2), .val (.int p3), .val (.int p4), .val (.int (4 : Int32)), .unset, .unset, .unset, .unset, .unset] [(.ref b130)])) _
      refine XS.astore X130.here hx rfl (hb hby at_12) rfl rfl (l' := #[.val (.int p0), .val (.int p1), .val (.int p2), .val (.int p3), .val (.int p4), .val (.int (4 : Int32)), .val (.ref b130), .unset, .unset, .unset, .unset]) rfl ?_
      show Steps p.tables e below (T130.setTop (mkF m 14 #[.val (.int p0), .val (.int p1), .val (.int p2), .val (.int p3), .val (.int p4), .val (.int (4 : Int32)), .val (.ref b130), .unset, .unset, .unset, .unset] [])) _
      refine XS.iload X130.here hx rfl (hb hby at_14) rfl ?_
      show Steps p.tables e below (T130.setTop (mkF m 16 #[.val (.int p0), .val (.int p1), .val (.int p2), .val (.int p3), .val (.int p4), .val (.int (4 : Int32)), .val (.ref b130), .unset, .unset, .unset, .unset] [(.int (4 : Int32))])) _
      refine XS.ifNo X130.here hx rfl (hb hby at_16) rfl (XT.i0_le_f (by decide)) ?_
      show Steps p.tables e below (T130.setTop (mkF m 19 #[.val (.int p0), .val (.int p1), .val (.int p2), .val (.int p3), .val (.int p4), .val (.int (4 : Int32)), .val (.ref b130), .unset, .unset, .unset, .unset] [])) _
      refine XS.aload X130.here hx rfl (hb hby at_19) rfl rfl ?_
      show Steps p.tables e below (T130.setTop (mkF m 21 #[.val (.int p0), .val (.int p1), .val (.int p2), .val (.int p3), .val (.int p4), .val (.int (4 : Int32)), .val (.ref b130), .unset, .unset, .unset, .unset] [(.ref b130)])) _
      refine XS.iconst X130.here hx rfl (hb hby at_21) ?_
      show Steps p.tables e below (T130.setTop (mkF m 22 #[.val (.int p0), .val (.int p1), .val (.int p2), .val (.int p3), .val (.int p4), .val (.int (4 : Int32)), .val (.ref b130), .unset, .unset, .unset, .unset] [(.int (0 : Int32)), (.ref b130)])) _
      refine XS.iloadN X130.here hx rfl (hb hby at_22) rfl ?_
      show Steps p.tables e below (T130.setTop (mkF m 23 #[.val (.int p0), .val (.int p1), .val (.int p2), .val (.int p3), .val (.int p4), .val (.int (4 : Int32)), .val (.ref b130), .unset, .unset, .unset, .unset] [(.int p1), (.int (0 : Int32)), (.ref b130)])) _
      refine XS.i2b X130.here hx rfl (hb hby at_23) rfl ?_
      show Steps p.tables e below (T130.setTop (mkF m 24 #[.val (.int p0), .val (.int p1), .val (.int p2), .val (.int p3), .val (.int p4), .val (.int (4 : Int32)), .val (.ref b130), .unset, .unset, .unset, .unset] [(.int ((p1).toInt8.toInt32)), (.int (0 : Int32)), (.ref b130)])) _
      refine st132 _ ?_
      show Steps p.tables e below (T132.setTop (mkF m 25 #[.val (.int p0), .val (.int p1), .val (.int p2), .val (.int p3), .val (.int p4), .val (.int (4 : Int32)), .val (.ref b130), .unset, .unset, .unset, .unset] [])) _
      refine XS.iload X132.here hx rfl (hb hby at_25) rfl ?_
      show Steps p.tables e below (T132.setTop (mkF m 27 #[.val (.int p0), .val (.int p1), .val (.int p2), .val (.int p3), .val (.int p4), .val (.int (4 : Int32)), .val (.ref b130), .unset, .unset, .unset, .unset] [(.int (4 : Int32))])) _
      refine XS.iconst X132.here hx rfl (hb hby at_27) ?_
      show Steps p.tables e below (T132.setTop (mkF m 28 #[.val (.int p0), .val (.int p1), .val (.int p2), .val (.int p3), .val (.int p4), .val (.int (4 : Int32)), .val (.ref b130), .unset, .unset, .unset, .unset] [(.int (1 : Int32)), (.int (4 : Int32))])) _
      refine XS.icmpNo X132.here hx rfl (hb hby at_28) rfl (XT.ii_le_f (by decide)) ?_
      show Steps p.tables e below (T132.setTop (mkF m 31 #[.val (.int p0), .val (.int p1), .val (.int p2), .val (.int p3), .val (.int p4), .val (.int (4 : Int32)), .val (.ref b130), .unset, .unset, .unset, .unset] [])) _
      refine XS.aload X132.here hx rfl (hb hby at_31) rfl rfl ?_
      show Steps p.tables e below (T132.setTop (mkF m 33 #[.val (.int p0), .val (.int p1), .val (.int p2), .val (.int p3), .val (.int p4), .val (.int (4 : Int32)), .val (.ref b130), .unset, .unset, .unset, .unset] [(.ref b130)])) _
      refine XS.iconst X132.here hx rfl (hb hby at_33) ?_
      show Steps p.tables e below (T132.setTop (mkF m 34 #[.val (.int p0), .val (.int p1), .val (.int p2), .val (.int p3), .val (.int p4), .val (.int (4 : Int32)), .val (.ref b130), .unset, .unset, .unset, .unset] [(.int (1 : Int32)), (.ref b130)])) _
      refine XS.iloadN X132.here hx rfl (hb hby at_34) rfl ?_
      show Steps p.tables e below (T132.setTop (mkF m 35 #[.val (.int p0), .val (.int p1), .val (.int p2), .val (.int p3), .val (.int p4), .val (.int (4 : Int32)), .val (.ref b130), .unset, .unset, .unset, .unset] [(.int p2), (.int (1 : Int32)), (.ref b130)])) _
      refine XS.i2b X132.here hx rfl (hb hby at_35) rfl ?_
      show Steps p.tables e below (T132.setTop (mkF m 36 #[.val (.int p0), .val (.int p1), .val (.int p2), .val (.int p3), .val (.int p4), .val (.int (4 : Int32)), .val (.ref b130), .unset, .unset, .unset, .unset] [(.int ((p2).toInt8.toInt32)), (.int (1 : Int32)), (.ref b130)])) _
      refine st134 _ ?_
      show Steps p.tables e below (T134.setTop (mkF m 37 #[.val (.int p0), .val (.int p1), .val (.int p2), .val (.int p3), .val (.int p4), .val (.int (4 : Int32)), .val (.ref b130), .unset, .unset, .unset, .unset] [])) _
      refine XS.iload X134.here hx rfl (hb hby at_37) rfl ?_
      show Steps p.tables e below (T134.setTop (mkF m 39 #[.val (.int p0), .val (.int p1), .val (.int p2), .val (.int p3), .val (.int p4), .val (.int (4 : Int32)), .val (.ref b130), .unset, .unset, .unset, .unset] [(.int (4 : Int32))])) _
      refine XS.iconst X134.here hx rfl (hb hby at_39) ?_
      show Steps p.tables e below (T134.setTop (mkF m 40 #[.val (.int p0), .val (.int p1), .val (.int p2), .val (.int p3), .val (.int p4), .val (.int (4 : Int32)), .val (.ref b130), .unset, .unset, .unset, .unset] [(.int (2 : Int32)), (.int (4 : Int32))])) _
      refine XS.icmpNo X134.here hx rfl (hb hby at_40) rfl (XT.ii_le_f (by decide)) ?_
      show Steps p.tables e below (T134.setTop (mkF m 43 #[.val (.int p0), .val (.int p1), .val (.int p2), .val (.int p3), .val (.int p4), .val (.int (4 : Int32)), .val (.ref b130), .unset, .unset, .unset, .unset] [])) _
      refine XS.aload X134.here hx rfl (hb hby at_43) rfl rfl ?_
      show Steps p.tables e below (T134.setTop (mkF m 45 #[.val (.int p0), .val (.int p1), .val (.int p2), .val (.int p3), .val (.int p4), .val (.int (4 : Int32)), .val (.ref b130), .unset, .unset, .unset, .unset] [(.ref b130)])) _
      refine XS.iconst X134.here hx rfl (hb hby at_45) ?_
      show Steps p.tables e below (T134.setTop (mkF m 46 #[.val (.int p0), .val (.int p1), .val (.int p2), .val (.int p3), .val (.int p4), .val (.int (4 : Int32)), .val (.ref b130), .unset, .unset, .unset, .unset] [(.int (2 : Int32)), (.ref b130)])) _
      refine XS.iloadN X134.here hx rfl (hb hby at_46) rfl ?_
      show Steps p.tables e below (T134.setTop (mkF m 47 #[.val (.int p0), .val (.int p1), .val (.int p2), .val (.int p3), .val (.int p4), .val (.int (4 : Int32)), .val (.ref b130), .unset, .unset, .unset, .unset] [(.int p3), (.int (2 : Int32)), (.ref b130)])) _
      refine XS.i2b X134.here hx rfl (hb hby at_47) rfl ?_
      show Steps p.tables e below (T134.setTop (mkF m 48 #[.val (.int p0), .val (.int p1), .val (.int p2), .val (.int p3), .val (.int p4), .val (.int (4 : Int32)), .val (.ref b130), .unset, .unset, .unset, .unset] [(.int ((p3).toInt8.toInt32)), (.int (2 : Int32)), (.ref b130)])) _
      refine st136 _ ?_
      show Steps p.tables e below (T136.setTop (mkF m 49 #[.val (.int p0), .val (.int p1), .val (.int p2), .val (.int p3), .val (.int p4), .val (.int (4 : Int32)), .val (.ref b130), .unset, .unset, .unset, .unset] [])) _
      refine XS.iload X136.here hx rfl (hb hby at_49) rfl ?_
      show Steps p.tables e below (T136.setTop (mkF m 51 #[.val (.int p0), .val (.int p1), .val (.int p2), .val (.int p3), .val (.int p4), .val (.int (4 : Int32)), .val (.ref b130), .unset, .unset, .unset, .unset] [(.int (4 : Int32))])) _
      refine XS.iconst X136.here hx rfl (hb hby at_51) ?_
      show Steps p.tables e below (T136.setTop (mkF m 52 #[.val (.int p0), .val (.int p1), .val (.int p2), .val (.int p3), .val (.int p4), .val (.int (4 : Int32)), .val (.ref b130), .unset, .unset, .unset, .unset] [(.int (3 : Int32)), (.int (4 : Int32))])) _
      refine XS.icmpNo X136.here hx rfl (hb hby at_52) rfl (XT.ii_le_f (by decide)) ?_
      show Steps p.tables e below (T136.setTop (mkF m 55 #[.val (.int p0), .val (.int p1), .val (.int p2), .val (.int p3), .val (.int p4), .val (.int (4 : Int32)), .val (.ref b130), .unset, .unset, .unset, .unset] [])) _
      refine XS.aload X136.here hx rfl (hb hby at_55) rfl rfl ?_
      show Steps p.tables e below (T136.setTop (mkF m 57 #[.val (.int p0), .val (.int p1), .val (.int p2), .val (.int p3), .val (.int p4), .val (.int (4 : Int32)), .val (.ref b130), .unset, .unset, .unset, .unset] [(.ref b130)])) _
      exact kk
    obtain ⟨cl_a138, Ar_a138, q_a138, S_a138, N_a138, H_a138, G_a138⟩ := id V136
    have hin_a138 : ¬ ((3 : Int32) < 0 ∨ cl_a138.slots.size ≤ ((3 : Int32)).toNatClampNeg) := inb_of S_a138 ⟨by decide, by decide⟩
    obtain ⟨T139, h139, X139, e139, W139, st139⟩ := stB X136 hx hZ e136 Ar_a138 (j := (3 : Int32)) hin_a138 (g := (mkF m 61 #[.val (.int p0), .val (.int p1), .val (.int p2), .val (.int p3), .val (.int p4), .val (.int (4 : Int32)), .val (.ref b130), .unset, .unset, .unset, .unset] [(.int ((p4).toInt8.toInt32)), (.int (3 : Int32)), (.ref b130)])) rfl rfl (hb hby at_61)
    have V139 : Arv Z h139 b130 k130 .byte (4 : Int32) [(.int (nar .byte ((p1).toInt8.toInt32))), (.int (nar .byte ((p2).toInt8.toInt32))), (.int (nar .byte ((p3).toInt8.toInt32))), (.int (nar .byte ((p4).toInt8.toInt32)))] (.int (0 : Int32)) := Arv.set Ar_a138 q_a138 S_a138 N_a138 H_a138 G_a138 (fits_nar_byte _) W139 3 rfl (Nat.le_of_ble_eq_true rfl)
    have N139 := Fr.snoc X139 N136 ge_b130
    obtain ⟨T140, h140, X140, e140, E140, A140, D140, -, st140⟩ := newO X139 hx hZ hown (hw _ (List.mem_of_getElem? (i := 2) rfl)) (hw _ (List.mem_of_getElem? (i := 3) rfl)) (hw _ (List.mem_of_getElem? (i := 4) rfl)) e139 (g := (mkF m 62 #[.val (.int p0), .val (.int p1), .val (.int p2), .val (.int p3), .val (.int p4), .val (.int (4 : Int32)), .val (.ref b130), .unset, .unset, .unset, .unset] [])) rfl (hb hby at_62) (by decide) (by decide)
    have z141 : n0 ≤ _ := (Nat.le_trans (Nat.le_trans (Nat.le_trans (Nat.le_trans (Nat.le_trans Z0 E130.1) (Keep.of_wr W132).1) (Keep.of_wr W134).1) (Keep.of_wr W136).1) (Keep.of_wr W139).1)
    have k142 : Keep h0 h139 [] := (Keep.wr (Keep.wr (Keep.wr (Keep.wr (Keep.ext (Keep.refl h0 []) E130) W132 (Or.inr sz_b130)) W134 (Or.inr sz_b130)) W136 (Or.inr sz_b130)) W139 (Or.inr sz_b130))
    obtain ⟨b140, g_b140⟩ : ∃ z, z = h139.size := ⟨_, rfl⟩
    rw [← g_b140] at A140 D140 st140
    have ne_b130_b140 : b130 ≠ b140 := Nat.ne_of_lt (Nat.lt_of_lt_of_le V139.lt (Nat.le_of_eq g_b140.symm))
    have ge_b140 : n0 ≤ b140 := Nat.le_trans z141 (Nat.le_of_eq g_b140.symm)
    have sz_b140 : h0.size ≤ b140 := Nat.le_trans k142.1 (Nat.le_of_eq g_b140.symm)
    have F140_36 : Fld Z h140 b140 "com/example/meterwright/meterwright/RecordBody$Reader" "texts" "Ljava/util/List;" .null := D140 (Or.inr (hw _ (List.mem_of_getElem? (i := 36) rfl))) (ty := (.object "java/util/List")) (by decide)
    have F140_38 : Fld Z h140 b140 "com/example/meterwright/meterwright/RecordBody$Reader" "bytes" "[B" .null := D140 (Or.inr (hw _ (List.mem_of_getElem? (i := 38) rfl))) (ty := (.array .byte)) (by decide)
    have F140_45 : Fld Z h140 b140 "com/example/meterwright/meterwright/RecordBody$Reader" "position" "I" (.int (0 : Int32)) := D140 (Or.inl (hw _ (List.mem_of_getElem? (i := 45) rfl))) (ty := .int) (by decide)
    have f144 := (Sta.ext E140 (Sta.wr W139 (Sta.wr W136 (Sta.wr W134 (Sta.wr W132 (Sta.ext E130 pr0))))))
    have z145 : n0 ≤ _ := (Nat.le_trans z141 E140.1)
    obtain ⟨_, _, ⟨T143, L143, k143, n143⟩, -, X143, ⟨Lc143, hQ143, l143, y143, z143⟩, st143⟩ := X140.specialBack hx (y := (⟨"com/example/meterwright/meterwright/RecordBody$Reader", "<init>", "([B)V"⟩ : MethodName)) rfl hown (mvT hZ (hw _ (List.mem_of_getElem? (i := 5) rfl))) (mvT hZ (hw _ (List.mem_of_getElem? (i := 6) rfl))) (mvT hZ (hw _ (List.mem_of_getElem? (i := 7) rfl))) (by decide) (backOf (W := 1) (rm4 l Z a0 hw [] b140 b130 sd h140 n0 z145 A140 F140_36 F140_38 F140_45 ge_b140 f144) hZ (hw _ (List.mem_of_getElem? (i := 7) rfl)) (hw _ (List.mem_of_getElem? (i := 4) rfl)) (by decide) (by decide)) (g := (mkF m 68 #[.val (.int p0), .val (.int p1), .val (.int p2), .val (.int p3), .val (.int p4), .val (.int (4 : Int32)), .val (.ref b130), .unset, .unset, .unset, .unset] [(.ref b130), (.ref b140), (.ref b140)])) rfl (by rw [hml]; rfl) (Steps.refl _) (a := b140) (argsL := [(.ref b130)]) (rest := [(.ref b140)]) (lenOf pd_2 rfl) rfl (by show 2 * 0 + _ ≤ _; exact Nat.le_of_eq rfl) (hb hby at_68) (fun _ _ => ⟨rfl, e140, (by decide : 2 + 1 ≤ _), (by decide : 8 + 3 ≤ _)⟩)
    dsimp only [Pt.U, Pt.locs, Pt.cells, Pt.slots] at X143 l143 y143 z143 st143 hQ143
    subst l143 y143 z143
    obtain ⟨rfl, Nq143, K143, q143_0, q143_1⟩ := hQ143
    have N143 := Fr.app N139 Nq143
    have f147 := (Arv.keep (V139.ext E140) K143 (ninS ne_b130_b140 nin0))
    have z148 : n0 ≤ _ := (Nat.le_trans z145 K143.1)
    have f149 := (Exa.keep A140 K143)
    obtain ⟨cq146, kq146, q146a, q146b, q146c⟩ := isOf hZ rfl f149
    obtain ⟨_, _, ⟨T146, L146, k146, n146⟩, -, X146, ⟨Lc146, hQ146, l146, y146, z146⟩, st146⟩ := X143.virtualBack hx (y := (⟨"com/example/meterwright/meterwright/RecordBody$Reader", "atEnd", "()Z"⟩ : MethodName)) (z := (⟨"com/example/meterwright/meterwright/RecordBody$Reader", "atEnd", "()Z"⟩ : MethodName)) hown (mvT hZ (hw _ (List.mem_of_getElem? (i := 39) rfl))) (mvT hZ (hw _ (List.mem_of_getElem? (i := 40) rfl))) (notFace_of_selects (args := #[]) (mvT hZ (hw _ (List.mem_of_getElem? (i := 42) rfl)))) (mvT hZ (hw _ (List.mem_of_getElem? (i := 42) rfl))) (mvT hZ (hw _ (List.mem_of_getElem? (i := 41) rfl))) (by decide) (backOf (W := 0) (rm5 l Z a0 hw [] b140 (0 : Int32) b130 k130 (4 : Int32) [(.int (nar .byte ((p1).toInt8.toInt32))), (.int (nar .byte ((p2).toInt8.toInt32))), (.int (nar .byte ((p3).toInt8.toInt32))), (.int (nar .byte ((p4).toInt8.toInt32)))] (.int (0 : Int32)) T143.heap n0 z148 q143_1 q143_0 f147) hZ (hw _ (List.mem_of_getElem? (i := 43) rfl)) (hw _ (List.mem_of_getElem? (i := 4) rfl)) (by decide) (by decide)) q146a q146c (g := (mkF m 75 #[.val (.int p0), .val (.int p1), .val (.int p2), .val (.int p3), .val (.int p4), .val (.int (4 : Int32)), .val (.ref b130), .val (.ref b140), .unset, .unset, .unset] [(.ref b140)])) rfl (by rw [hml]; rfl) (Steps.refl _) (argsL := []) (rest := []) (lenOf pd_3 rfl) rfl (by show 2 * 0 + _ ≤ _; exact Nat.le_of_eq rfl) (hb hby at_75) (fun _ _ => ⟨rfl, rfl, (by decide : 3 + 0 ≤ _), (by decide : 11 + 0 ≤ _)⟩)
    dsimp only [Pt.U, Pt.locs, Pt.cells, Pt.slots] at X146 l146 y146 z146 st146 hQ146
    subst l146 y146 z146
    obtain ⟨rfl, Nq146, e146⟩ := hQ146
    have N146 := Fr.app N143 Nq146
    obtain ⟨cq150, kq150, q150a, q150b, q150c⟩ := isOf hZ e146 f149
    obtain ⟨_, _, ⟨T150, L150, k150, n150⟩, -, X150, ⟨Lc150, hQ150, l150, y150, z150⟩, st150⟩ := X146.virtualBack hx (y := (⟨"com/example/meterwright/meterwright/RecordBody$Reader", "atEnd", "()Z"⟩ : MethodName)) (z := (⟨"com/example/meterwright/meterwright/RecordBody$Reader", "atEnd", "()Z"⟩ : MethodName)) hown (mvT hZ (hw _ (List.mem_of_getElem? (i := 39) rfl))) (mvT hZ (hw _ (List.mem_of_getElem? (i := 40) rfl))) (notFace_of_selects (args := #[]) (mvT hZ (hw _ (List.mem_of_getElem? (i := 42) rfl)))) (mvT hZ (hw _ (List.mem_of_getElem? (i := 42) rfl))) (mvT hZ (hw _ (List.mem_of_getElem? (i := 41) rfl))) (by decide) (backOf (W := 0) (rm5 l Z a0 hw [] b140 (0 : Int32) b130 k130 (4 : Int32) [(.int (nar .byte ((p1).toInt8.toInt32))), (.int (nar .byte ((p2).toInt8.toInt32))), (.int (nar .byte ((p3).toInt8.toInt32))), (.int (nar .byte ((p4).toInt8.toInt32)))] (.int (0 : Int32)) T143.heap n0 z148 q143_1 q143_0 f147) hZ (hw _ (List.mem_of_getElem? (i := 43) rfl)) (hw _ (List.mem_of_getElem? (i := 4) rfl)) (by decide) (by decide)) q150a q150c (g := (mkF m 105 #[.val (.int p0), .val (.int p1), .val (.int p2), .val (.int p3), .val (.int p4), .val (.int (4 : Int32)), .val (.ref b130), .val (.ref b140), .val (.int (1 : Int32)), .unset, .unset] [(.ref b140)])) rfl (by rw [hml]; rfl) (Steps.refl _) (argsL := []) (rest := []) (lenOf pd_3 rfl) rfl (by show 2 * 0 + _ ≤ _; exact Nat.le_of_eq rfl) (hb hby at_105) (fun _ _ => ⟨rfl, e146, (by decide : 3 + 0 ≤ _), (by decide : 11 + 0 ≤ _)⟩)
    dsimp only [Pt.U, Pt.locs, Pt.cells, Pt.slots] at X150 l150 y150 z150 st150 hQ150
    subst l150 y150 z150
    obtain ⟨rfl, Nq150, e150⟩ := hQ150
    have N150 := Fr.app N146 Nq150
    have P151 : ∀ t, Steps p.tables e below (T150.setTop (mkF m 130 #[.val (.int p0), .val (.int p1), .val (.int p2), .val (.int p3), .val (.int p4), .val (.int (4 : Int32)), .val (.ref b130), .val (.ref b140), .val (.int (1 : Int32)), .unset, .unset] [(.int (4 : Int32))])) t → Steps p.tables e below (s₁.setTop (entryFrame m #[(.int p0), (.int p1), (.int p2), (.int p3), (.int p4)] maxLocals)) t := by
      intro t kk
      refine P137 _ ?_
      show Steps p.tables e below (T136.setTop (mkF m 57 #[.val (.int p0), .val (.int p1), .val (.int p2), .val (.int p3), .val (.int p4), .val (.int (4 : Int32)), .val (.ref b130), .unset, .unset, .unset, .unset] [(.ref b130)])) _
      refine XS.iconst X136.here hx rfl (hb hby at_57) ?_
      show Steps p.tables e below (T136.setTop (mkF m 58 #[.val (.int p0), .val (.int p1), .val (.int p2), .val (.int p3), .val (.int p4), .val (.int (4 : Int32)), .val (.ref b130), .unset, .unset, .unset, .unset] [(.int (3 : Int32)), (.ref b130)])) _
      refine XS.iload X136.here hx rfl (hb hby at_58) rfl ?_
      show Steps p.tables e below (T136.setTop (mkF m 60 #[.val (.int p0), .val (.int p1), .val (.int p2), .val (.int p3), .val (.int p4), .val (.int (4 : Int32)), .val (.ref b130), .unset, .unset, .unset, .unset] [(.int p4), (.int (3 : Int32)), (.ref b130)])) _
      refine XS.i2b X136.here hx rfl (hb hby at_60) rfl ?_
      show Steps p.tables e below (T136.setTop (mkF m 61 #[.val (.int p0), .val (.int p1), .val (.int p2), .val (.int p3), .val (.int p4), .val (.int (4 : Int32)), .val (.ref b130), .unset, .unset, .unset, .unset] [(.int ((p4).toInt8.toInt32)), (.int (3 : Int32)), (.ref b130)])) _
      refine st139 _ ?_
      show Steps p.tables e below (T139.setTop (mkF m 62 #[.val (.int p0), .val (.int p1), .val (.int p2), .val (.int p3), .val (.int p4), .val (.int (4 : Int32)), .val (.ref b130), .unset, .unset, .unset, .unset] [])) _
      refine st140 _ ?_
      show Steps p.tables e below (T140.setTop (mkF m 65 #[.val (.int p0), .val (.int p1), .val (.int p2), .val (.int p3), .val (.int p4), .val (.int (4 : Int32)), .val (.ref b130), .unset, .unset, .unset, .unset] [(.ref b140)])) _
      refine XS.dup X140.here hx rfl (hb hby at_65) rfl rfl ?_
      show Steps p.tables e below (T140.setTop (mkF m 66 #[.val (.int p0), .val (.int p1), .val (.int p2), .val (.int p3), .val (.int p4), .val (.int (4 : Int32)), .val (.ref b130), .unset, .unset, .unset, .unset] [(.ref b140), (.ref b140)])) _
      refine XS.aload X140.here hx rfl (hb hby at_66) rfl rfl ?_
      show Steps p.tables e below (T140.setTop (mkF m 68 #[.val (.int p0), .val (.int p1), .val (.int p2), .val (.int p3), .val (.int p4), .val (.int (4 : Int32)), .val (.ref b130), .unset, .unset, .unset, .unset] [(.ref b130), (.ref b140), (.ref b140)])) _
      refine st143.trans ?_
      show Steps p.tables e below (T143.setTop (mkF m 71 #[.val (.int p0), .val (.int p1), .val (.int p2), .val (.int p3), .val (.int p4), .val (.int (4 : Int32)), .val (.ref b130), .unset, .unset, .unset, .unset] [(.ref b140)])) _
      refine XS.astore X143.here hx rfl (hb hby at_71) rfl rfl (l' := #[.val (.int p0), .val (.int p1), .val (.int p2), .val (.int p3), .val (.int p4), .val (.int (4 : Int32)), .val (.ref b130), .val (.ref b140), .unset, .unset, .unset]) rfl ?_
      show Steps p.tables e below (T143.setTop (mkF m 73 #[.val (.int p0), .val (.int p1), .val (.int p2), .val (.int p3), .val (.int p4), .val (.int (4 : Int32)), .val (.ref b130), .val (.ref b140), .unset, .unset, .unset] [])) _
      refine XS.aload X143.here hx rfl (hb hby at_73) rfl rfl ?_
      show Steps p.tables e below (T143.setTop (mkF m 75 #[.val (.int p0), .val (.int p1), .val (.int p2), .val (.int p3), .val (.int p4), .val (.int (4 : Int32)), .val (.ref b130), .val (.ref b140), .unset, .unset, .unset] [(.ref b140)])) _
      refine st146.trans ?_
      show Steps p.tables e below (T146.setTop (mkF m 78 #[.val (.int p0), .val (.int p1), .val (.int p2), .val (.int p3), .val (.int p4), .val (.int (4 : Int32)), .val (.ref b130), .val (.ref b140), .unset, .unset, .unset] [(.int (F5 (0 : Int32) (4 : Int32)))])) _
      refine XS.iload X146.here hx rfl (hb hby at_78) rfl ?_
      show Steps p.tables e below (T146.setTop (mkF m 80 #[.val (.int p0), .val (.int p1), .val (.int p2), .val (.int p3), .val (.int p4), .val (.int (4 : Int32)), .val (.ref b130), .val (.ref b140), .unset, .unset, .unset] [(.int (4 : Int32)), (.int (F5 (0 : Int32) (4 : Int32)))])) _
      refine XS.ifYes X146.here hx rfl (pc0 := 80) (pc' := 87) rfl (hb hby at_80) rfl (XT.i0_ne_t (by decide)) (by decide) (by decide) ?_
      show Steps p.tables e below (T146.setTop (mkF m 87 #[.val (.int p0), .val (.int p1), .val (.int p2), .val (.int p3), .val (.int p4), .val (.int (4 : Int32)), .val (.ref b130), .val (.ref b140), .unset, .unset, .unset] [(.int (F5 (0 : Int32) (4 : Int32)))])) _
      refine XS.iconst X146.here hx rfl (hb hby at_87) ?_
      show Steps p.tables e below (T146.setTop (mkF m 88 #[.val (.int p0), .val (.int p1), .val (.int p2), .val (.int p3), .val (.int p4), .val (.int (4 : Int32)), .val (.ref b130), .val (.ref b140), .unset, .unset, .unset] [(.int (0 : Int32)), (.int (F5 (0 : Int32) (4 : Int32)))])) _
      refine XS.icmpNo X146.here hx rfl (hb hby at_88) rfl (XT.ii_ne_f (by decide)) ?_
      show Steps p.tables e below (T146.setTop (mkF m 91 #[.val (.int p0), .val (.int p1), .val (.int p2), .val (.int p3), .val (.int p4), .val (.int (4 : Int32)), .val (.ref b130), .val (.ref b140), .unset, .unset, .unset] [])) _
      refine XS.iconst X146.here hx rfl (hb hby at_91) ?_
      show Steps p.tables e below (T146.setTop (mkF m 92 #[.val (.int p0), .val (.int p1), .val (.int p2), .val (.int p3), .val (.int p4), .val (.int (4 : Int32)), .val (.ref b130), .val (.ref b140), .unset, .unset, .unset] [(.int (1 : Int32))])) _
      refine XS.goto X146.here hx rfl (pc0 := 92) (pc' := 96) rfl (hb hby at_92) (by decide) (by decide) ?_
      show Steps p.tables e below (T146.setTop (mkF m 96 #[.val (.int p0), .val (.int p1), .val (.int p2), .val (.int p3), .val (.int p4), .val (.int (4 : Int32)), .val (.ref b130), .val (.ref b140), .unset, .unset, .unset] [(.int (1 : Int32))])) _
      refine XS.istore X146.here hx rfl (hb hby at_96) rfl (l' := #[.val (.int p0), .val (.int p1), .val (.int p2), .val (.int p3), .val (.int p4), .val (.int (4 : Int32)), .val (.ref b130), .val (.ref b140), .val (.int (1 : Int32)), .unset, .unset]) rfl ?_
      show Steps p.tables e below (T146.setTop (mkF m 98 #[.val (.int p0), .val (.int p1), .val (.int p2), .val (.int p3), .val (.int p4), .val (.int (4 : Int32)), .val (.ref b130), .val (.ref b140), .val (.int (1 : Int32)), .unset, .unset] [])) _
      refine XS.iload X146.here hx rfl (hb hby at_98) rfl ?_
      show Steps p.tables e below (T146.setTop (mkF m 100 #[.val (.int p0), .val (.int p1), .val (.int p2), .val (.int p3), .val (.int p4), .val (.int (4 : Int32)), .val (.ref b130), .val (.ref b140), .val (.int (1 : Int32)), .unset, .unset] [(.int (1 : Int32))])) _
      refine XS.ifNo X146.here hx rfl (hb hby at_100) rfl (XT.i0_eq_f (by decide)) ?_
      show Steps p.tables e below (T146.setTop (mkF m 103 #[.val (.int p0), .val (.int p1), .val (.int p2), .val (.int p3), .val (.int p4), .val (.int (4 : Int32)), .val (.ref b130), .val (.ref b140), .val (.int (1 : Int32)), .unset, .unset] [])) _
      refine XS.aload X146.here hx rfl (hb hby at_103) rfl rfl ?_
      show Steps p.tables e below (T146.setTop (mkF m 105 #[.val (.int p0), .val (.int p1), .val (.int p2), .val (.int p3), .val (.int p4), .val (.int (4 : Int32)), .val (.ref b130), .val (.ref b140), .val (.int (1 : Int32)), .unset, .unset] [(.ref b140)])) _
      refine st150.trans ?_
      show Steps p.tables e below (T150.setTop (mkF m 108 #[.val (.int p0), .val (.int p1), .val (.int p2), .val (.int p3), .val (.int p4), .val (.int (4 : Int32)), .val (.ref b130), .val (.ref b140), .val (.int (1 : Int32)), .unset, .unset] [(.int (F5 (0 : Int32) (4 : Int32)))])) _
      refine XS.iload X150.here hx rfl (hb hby at_108) rfl ?_
      show Steps p.tables e below (T150.setTop (mkF m 110 #[.val (.int p0), .val (.int p1), .val (.int p2), .val (.int p3), .val (.int p4), .val (.int (4 : Int32)), .val (.ref b130), .val (.ref b140), .val (.int (1 : Int32)), .unset, .unset] [(.int (4 : Int32)), (.int (F5 (0 : Int32) (4 : Int32)))])) _
      refine XS.ifYes X150.here hx rfl (pc0 := 110) (pc' := 117) rfl (hb hby at_110) rfl (XT.i0_ne_t (by decide)) (by decide) (by decide) ?_
      show Steps p.tables e below (T150.setTop (mkF m 117 #[.val (.int p0), .val (.int p1), .val (.int p2), .val (.int p3), .val (.int p4), .val (.int (4 : Int32)), .val (.ref b130), .val (.ref b140), .val (.int (1 : Int32)), .unset, .unset] [(.int (F5 (0 : Int32) (4 : Int32)))])) _
      refine XS.iconst X150.here hx rfl (hb hby at_117) ?_
      show Steps p.tables e below (T150.setTop (mkF m 118 #[.val (.int p0), .val (.int p1), .val (.int p2), .val (.int p3), .val (.int p4), .val (.int (4 : Int32)), .val (.ref b130), .val (.ref b140), .val (.int (1 : Int32)), .unset, .unset] [(.int (0 : Int32)), (.int (F5 (0 : Int32) (4 : Int32)))])) _
      refine XS.icmpNo X150.here hx rfl (hb hby at_118) rfl (XT.ii_ne_f (by decide)) ?_
      show Steps p.tables e below (T150.setTop (mkF m 121 #[.val (.int p0), .val (.int p1), .val (.int p2), .val (.int p3), .val (.int p4), .val (.int (4 : Int32)), .val (.ref b130), .val (.ref b140), .val (.int (1 : Int32)), .unset, .unset] [])) _
      refine XS.iconst X150.here hx rfl (hb hby at_121) ?_
      show Steps p.tables e below (T150.setTop (mkF m 122 #[.val (.int p0), .val (.int p1), .val (.int p2), .val (.int p3), .val (.int p4), .val (.int (4 : Int32)), .val (.ref b130), .val (.ref b140), .val (.int (1 : Int32)), .unset, .unset] [(.int (1 : Int32))])) _
      refine XS.goto X150.here hx rfl (pc0 := 122) (pc' := 126) rfl (hb hby at_122) (by decide) (by decide) ?_
      show Steps p.tables e below (T150.setTop (mkF m 126 #[.val (.int p0), .val (.int p1), .val (.int p2), .val (.int p3), .val (.int p4), .val (.int (4 : Int32)), .val (.ref b130), .val (.ref b140), .val (.int (1 : Int32)), .unset, .unset] [(.int (1 : Int32))])) _
      refine XS.istore X150.here hx rfl (hb hby at_126) rfl (l' := #[.val (.int p0), .val (.int p1), .val (.int p2), .val (.int p3), .val (.int p4), .val (.int (4 : Int32)), .val (.ref b130), .val (.ref b140), .val (.int (1 : Int32)), .unset, .unset]) rfl ?_
      show Steps p.tables e below (T150.setTop (mkF m 128 #[.val (.int p0), .val (.int p1), .val (.int p2), .val (.int p3), .val (.int p4), .val (.int (4 : Int32)), .val (.ref b130), .val (.ref b140), .val (.int (1 : Int32)), .unset, .unset] [])) _
      refine XS.iload X150.here hx rfl (hb hby at_128) rfl ?_
      show Steps p.tables e below (T150.setTop (mkF m 130 #[.val (.int p0), .val (.int p1), .val (.int p2), .val (.int p3), .val (.int p4), .val (.int (4 : Int32)), .val (.ref b130), .val (.ref b140), .val (.int (1 : Int32)), .unset, .unset] [(.int (4 : Int32))])) _
      exact kk
    obtain ⟨cq152, kq152, q152a, q152b, q152c⟩ := isOf hZ e150 f149
    obtain ⟨_, _, ⟨T152, L152, k152, n152⟩, -, X152, ⟨Lc152, hQ152, l152, y152, z152⟩, st152⟩ := X150.virtualBack hx (y := (⟨"com/example/meterwright/meterwright/RecordBody$Reader", "kind", "()B"⟩ : MethodName)) (z := (⟨"com/example/meterwright/meterwright/RecordBody$Reader", "kind", "()B"⟩ : MethodName)) hown (mvT hZ (hw _ (List.mem_of_getElem? (i := 46) rfl))) (mvT hZ (hw _ (List.mem_of_getElem? (i := 47) rfl))) (notFace_of_selects (args := #[]) (mvT hZ (hw _ (List.mem_of_getElem? (i := 49) rfl)))) (mvT hZ (hw _ (List.mem_of_getElem? (i := 49) rfl))) (mvT hZ (hw _ (List.mem_of_getElem? (i := 48) rfl))) (by decide) (backOf (W := 0) (rm6 l Z a0 hw [] b140 (0 : Int32) b130 k130 (4 : Int32) [(.int (nar .byte ((p1).toInt8.toInt32))), (.int (nar .byte ((p2).toInt8.toInt32))), (.int (nar .byte ((p3).toInt8.toInt32))), (.int (nar .byte ((p4).toInt8.toInt32)))] (.int (0 : Int32)) (nar .byte ((p1).toInt8.toInt32)) T143.heap n0 z148 f149 q143_1 q143_0 f147 ge_b140 ne_b130_b140 ⟨by decide, by decide⟩ rfl) hZ (hw _ (List.mem_of_getElem? (i := 50) rfl)) (hw _ (List.mem_of_getElem? (i := 4) rfl)) (by decide) (by decide)) q152a q152c (g := (mkF m 138 #[.val (.int p0), .val (.int p1), .val (.int p2), .val (.int p3), .val (.int p4), .val (.int (4 : Int32)), .val (.ref b130), .val (.ref b140), .val (.int (1 : Int32)), .unset, .unset] [(.ref b140)])) rfl (by rw [hml]; rfl) (Steps.refl _) (argsL := []) (rest := []) (lenOf pd_4 rfl) rfl (by show 2 * 0 + _ ≤ _; exact Nat.le_of_eq rfl) (hb hby at_138) (fun _ _ => ⟨rfl, e150, (by decide : 3 + 0 ≤ _), (by decide : 11 + 0 ≤ _)⟩)
    dsimp only [Pt.U, Pt.locs, Pt.cells, Pt.slots] at X152 l152 y152 z152 st152 hQ152
    subst l152 y152 z152
    obtain ⟨rfl, Nq152, K152, q152_0, q152_1⟩ := hQ152
    have N152 := Fr.app N150 Nq152
    have q152_0' : Fld Z T152.heap b140 "com/example/meterwright/meterwright/RecordBody$Reader" "position" "I" (.int (1 : Int32)) := q152_0
    have f153 := (Arv.keep f147 K152 (ninS ne_b130_b140 nin0))
    obtain ⟨cl_a154, Ar_a154, q_a154, S_a154, N_a154, H_a154, G_a154⟩ := id f153
    have hin_a154 : ¬ ((0 : Int32) < 0 ∨ cl_a154.slots.size ≤ ((0 : Int32)).toNatClampNeg) := inb_of S_a154 ⟨by decide, by decide⟩
    have hat_a154 := Has.at (v := (.int (nar .byte ((p1).toInt8.toInt32)))) H_a154 hin_a154 rfl
    have z156 : n0 ≤ _ := (Nat.le_trans z148 K152.1)
    have f157 := (Exa.keep f149 K152)
    obtain ⟨cq155, kq155, q155a, q155b, q155c⟩ := isOf hZ rfl f157
    obtain ⟨_, _, ⟨T155, L155, k155, n155⟩, -, X155, ⟨Lc155, hQ155, l155, y155, z155⟩, st155⟩ := X152.virtualBack hx (y := (⟨"com/example/meterwright/meterwright/RecordBody$Reader", "atEnd", "()Z"⟩ : MethodName)) (z := (⟨"com/example/meterwright/meterwright/RecordBody$Reader", "atEnd", "()Z"⟩ : MethodName)) hown (mvT hZ (hw _ (List.mem_of_getElem? (i := 39) rfl))) (mvT hZ (hw _ (List.mem_of_getElem? (i := 40) rfl))) (notFace_of_selects (args := #[]) (mvT hZ (hw _ (List.mem_of_getElem? (i := 42) rfl)))) (mvT hZ (hw _ (List.mem_of_getElem? (i := 42) rfl))) (mvT hZ (hw _ (List.mem_of_getElem? (i := 41) rfl))) (by decide) (backOf (W := 0) (rm5 l Z a0 hw [] b140 (1 : Int32) b130 k130 (4 : Int32) [(.int (nar .byte ((p1).toInt8.toInt32))), (.int (nar .byte ((p2).toInt8.toInt32))), (.int (nar .byte ((p3).toInt8.toInt32))), (.int (nar .byte ((p4).toInt8.toInt32)))] (.int (0 : Int32)) T152.heap n0 z156 q152_0' q152_1 f153) hZ (hw _ (List.mem_of_getElem? (i := 43) rfl)) (hw _ (List.mem_of_getElem? (i := 4) rfl)) (by decide) (by decide)) q155a q155c (g := (mkF m 171 #[.val (.int p0), .val (.int p1), .val (.int p2), .val (.int p3), .val (.int p4), .val (.int (4 : Int32)), .val (.ref b130), .val (.ref b140), .val (.int (1 : Int32)), .val (.int (nar .byte (nar .byte ((p1).toInt8.toInt32)))), .unset] [(.ref b140)])) rfl (by rw [hml]; rfl) (Steps.refl _) (argsL := []) (rest := []) (lenOf pd_3 rfl) rfl (by show 2 * 0 + _ ≤ _; exact Nat.le_of_eq rfl) (hb hby at_171) (fun _ _ => ⟨rfl, rfl, (by decide : 3 + 0 ≤ _), (by decide : 11 + 0 ≤ _)⟩)
    dsimp only [Pt.U, Pt.locs, Pt.cells, Pt.slots] at X155 l155 y155 z155 st155 hQ155
    subst l155 y155 z155
    obtain ⟨rfl, Nq155, e155⟩ := hQ155
    have N155 := Fr.app N152 Nq155
    have P158 : ∀ t, Steps p.tables e below (T155.setTop (mkF m 205 #[.val (.int p0), .val (.int p1), .val (.int p2), .val (.int p3), .val (.int p4), .val (.int (4 : Int32)), .val (.ref b130), .val (.ref b140), .val (.int (1 : Int32)), .val (.int (nar .byte (nar .byte ((p1).toInt8.toInt32)))), .unset] [(.int (-1 : Int32))])) t → Steps p.tables e below (s₁.setTop (entryFrame m #[(.int p0), (.int p1), (.int p2), (.int p3), (.int p4)] maxLocals)) t := by
      intro t kk
      refine P151 _ ?_
      show Steps p.tables e below (T150.setTop (mkF m 130 #[.val (.int p0), .val (.int p1), .val (.int p2), .val (.int p3), .val (.int p4), .val (.int (4 : Int32)), .val (.ref b130), .val (.ref b140), .val (.int (1 : Int32)), .unset, .unset] [(.int (4 : Int32))])) _
      refine XS.ifYes X150.here hx rfl (pc0 := 130) (pc' := 136) rfl (hb hby at_130) rfl (XT.i0_ne_t (by decide)) (by decide) (by decide) ?_
      show Steps p.tables e below (T150.setTop (mkF m 136 #[.val (.int p0), .val (.int p1), .val (.int p2), .val (.int p3), .val (.int p4), .val (.int (4 : Int32)), .val (.ref b130), .val (.ref b140), .val (.int (1 : Int32)), .unset, .unset] [])) _
      refine XS.aload X150.here hx rfl (hb hby at_136) rfl rfl ?_
      show Steps p.tables e below (T150.setTop (mkF m 138 #[.val (.int p0), .val (.int p1), .val (.int p2), .val (.int p3), .val (.int p4), .val (.int (4 : Int32)), .val (.ref b130), .val (.ref b140), .val (.int (1 : Int32)), .unset, .unset] [(.ref b140)])) _
      refine st152.trans ?_
      show Steps p.tables e below (T152.setTop (mkF m 141 #[.val (.int p0), .val (.int p1), .val (.int p2), .val (.int p3), .val (.int p4), .val (.int (4 : Int32)), .val (.ref b130), .val (.ref b140), .val (.int (1 : Int32)), .unset, .unset] [(.int (nar .byte (nar .byte ((p1).toInt8.toInt32))))])) _
      refine XS.istore X152.here hx rfl (hb hby at_141) rfl (l' := #[.val (.int p0), .val (.int p1), .val (.int p2), .val (.int p3), .val (.int p4), .val (.int (4 : Int32)), .val (.ref b130), .val (.ref b140), .val (.int (1 : Int32)), .val (.int (nar .byte (nar .byte ((p1).toInt8.toInt32)))), .unset]) rfl ?_
      show Steps p.tables e below (T152.setTop (mkF m 143 #[.val (.int p0), .val (.int p1), .val (.int p2), .val (.int p3), .val (.int p4), .val (.int (4 : Int32)), .val (.ref b130), .val (.ref b140), .val (.int (1 : Int32)), .val (.int (nar .byte (nar .byte ((p1).toInt8.toInt32)))), .unset] [])) _
      refine XS.iload X152.here hx rfl (hb hby at_143) rfl ?_
      show Steps p.tables e below (T152.setTop (mkF m 145 #[.val (.int p0), .val (.int p1), .val (.int p2), .val (.int p3), .val (.int p4), .val (.int (4 : Int32)), .val (.ref b130), .val (.ref b140), .val (.int (1 : Int32)), .val (.int (nar .byte (nar .byte ((p1).toInt8.toInt32)))), .unset] [(.int (1 : Int32))])) _
      refine XS.ifNo X152.here hx rfl (hb hby at_145) rfl (XT.i0_eq_f (by decide)) ?_
      show Steps p.tables e below (T152.setTop (mkF m 148 #[.val (.int p0), .val (.int p1), .val (.int p2), .val (.int p3), .val (.int p4), .val (.int (4 : Int32)), .val (.ref b130), .val (.ref b140), .val (.int (1 : Int32)), .val (.int (nar .byte (nar .byte ((p1).toInt8.toInt32)))), .unset] [])) _
      refine XS.iload X152.here hx rfl (hb hby at_148) rfl ?_
      show Steps p.tables e below (T152.setTop (mkF m 150 #[.val (.int p0), .val (.int p1), .val (.int p2), .val (.int p3), .val (.int p4), .val (.int (4 : Int32)), .val (.ref b130), .val (.ref b140), .val (.int (1 : Int32)), .val (.int (nar .byte (nar .byte ((p1).toInt8.toInt32)))), .unset] [(.int (nar .byte (nar .byte ((p1).toInt8.toInt32))))])) _
      refine XS.aload X152.here hx rfl (hb hby at_150) rfl rfl ?_
      show Steps p.tables e below (T152.setTop (mkF m 152 #[.val (.int p0), .val (.int p1), .val (.int p2), .val (.int p3), .val (.int p4), .val (.int (4 : Int32)), .val (.ref b130), .val (.ref b140), .val (.int (1 : Int32)), .val (.int (nar .byte (nar .byte ((p1).toInt8.toInt32)))), .unset] [(.ref b130), (.int (nar .byte (nar .byte ((p1).toInt8.toInt32))))])) _
      refine XS.iconst X152.here hx rfl (hb hby at_152) ?_
      show Steps p.tables e below (T152.setTop (mkF m 153 #[.val (.int p0), .val (.int p1), .val (.int p2), .val (.int p3), .val (.int p4), .val (.int (4 : Int32)), .val (.ref b130), .val (.ref b140), .val (.int (1 : Int32)), .val (.int (nar .byte (nar .byte ((p1).toInt8.toInt32)))), .unset] [(.int (0 : Int32)), (.ref b130), (.int (nar .byte (nar .byte ((p1).toInt8.toInt32))))])) _
      refine X152.baloadBytes hx (j := (0 : Int32)) (v := (.int (nar .byte ((p1).toInt8.toInt32)))) (Ar_a154.1) (State.isArrayOf_alike hZ.alike Ar_a154.2.1) Ar_a154.2.2 hin_a154 hat_a154 (g := (mkF m 153 #[.val (.int p0), .val (.int p1), .val (.int p2), .val (.int p3), .val (.int p4), .val (.int (4 : Int32)), .val (.ref b130), .val (.ref b140), .val (.int (1 : Int32)), .val (.int (nar .byte (nar .byte ((p1).toInt8.toInt32)))), .unset] [(.int (0 : Int32)), (.ref b130), (.int (nar .byte (nar .byte ((p1).toInt8.toInt32))))])) rfl rfl (hb hby at_153) _ ?_
      show Steps p.tables e below (T152.setTop (mkF m 154 #[.val (.int p0), .val (.int p1), .val (.int p2), .val (.int p3), .val (.int p4), .val (.int (4 : Int32)), .val (.ref b130), .val (.ref b140), .val (.int (1 : Int32)), .val (.int (nar .byte (nar .byte ((p1).toInt8.toInt32)))), .unset] [(.int (nar .byte ((p1).toInt8.toInt32))), (.int (nar .byte (nar .byte ((p1).toInt8.toInt32))))])) _
      refine XS.icmpNo X152.here hx rfl (hb hby at_154) rfl (XT.ii_ne_f (own_nb _)) ?_
      show Steps p.tables e below (T152.setTop (mkF m 157 #[.val (.int p0), .val (.int p1), .val (.int p2), .val (.int p3), .val (.int p4), .val (.int (4 : Int32)), .val (.ref b130), .val (.ref b140), .val (.int (1 : Int32)), .val (.int (nar .byte (nar .byte ((p1).toInt8.toInt32)))), .unset] [])) _
      refine XS.iconst X152.here hx rfl (hb hby at_157) ?_
      show Steps p.tables e below (T152.setTop (mkF m 158 #[.val (.int p0), .val (.int p1), .val (.int p2), .val (.int p3), .val (.int p4), .val (.int (4 : Int32)), .val (.ref b130), .val (.ref b140), .val (.int (1 : Int32)), .val (.int (nar .byte (nar .byte ((p1).toInt8.toInt32)))), .unset] [(.int (1 : Int32))])) _
      refine XS.goto X152.here hx rfl (pc0 := 158) (pc' := 162) rfl (hb hby at_158) (by decide) (by decide) ?_
      show Steps p.tables e below (T152.setTop (mkF m 162 #[.val (.int p0), .val (.int p1), .val (.int p2), .val (.int p3), .val (.int p4), .val (.int (4 : Int32)), .val (.ref b130), .val (.ref b140), .val (.int (1 : Int32)), .val (.int (nar .byte (nar .byte ((p1).toInt8.toInt32)))), .unset] [(.int (1 : Int32))])) _
      refine XS.istore X152.here hx rfl (hb hby at_162) rfl (l' := #[.val (.int p0), .val (.int p1), .val (.int p2), .val (.int p3), .val (.int p4), .val (.int (4 : Int32)), .val (.ref b130), .val (.ref b140), .val (.int (1 : Int32)), .val (.int (nar .byte (nar .byte ((p1).toInt8.toInt32)))), .unset]) rfl ?_
      show Steps p.tables e below (T152.setTop (mkF m 164 #[.val (.int p0), .val (.int p1), .val (.int p2), .val (.int p3), .val (.int p4), .val (.int (4 : Int32)), .val (.ref b130), .val (.ref b140), .val (.int (1 : Int32)), .val (.int (nar .byte (nar .byte ((p1).toInt8.toInt32)))), .unset] [])) _
      refine XS.iload X152.here hx rfl (hb hby at_164) rfl ?_
      show Steps p.tables e below (T152.setTop (mkF m 166 #[.val (.int p0), .val (.int p1), .val (.int p2), .val (.int p3), .val (.int p4), .val (.int (4 : Int32)), .val (.ref b130), .val (.ref b140), .val (.int (1 : Int32)), .val (.int (nar .byte (nar .byte ((p1).toInt8.toInt32)))), .unset] [(.int (1 : Int32))])) _
      refine XS.ifNo X152.here hx rfl (hb hby at_166) rfl (XT.i0_eq_f (by decide)) ?_
      show Steps p.tables e below (T152.setTop (mkF m 169 #[.val (.int p0), .val (.int p1), .val (.int p2), .val (.int p3), .val (.int p4), .val (.int (4 : Int32)), .val (.ref b130), .val (.ref b140), .val (.int (1 : Int32)), .val (.int (nar .byte (nar .byte ((p1).toInt8.toInt32)))), .unset] [])) _
      refine XS.aload X152.here hx rfl (hb hby at_169) rfl rfl ?_
      show Steps p.tables e below (T152.setTop (mkF m 171 #[.val (.int p0), .val (.int p1), .val (.int p2), .val (.int p3), .val (.int p4), .val (.int (4 : Int32)), .val (.ref b130), .val (.ref b140), .val (.int (1 : Int32)), .val (.int (nar .byte (nar .byte ((p1).toInt8.toInt32)))), .unset] [(.ref b140)])) _
      refine st155.trans ?_
      show Steps p.tables e below (T155.setTop (mkF m 174 #[.val (.int p0), .val (.int p1), .val (.int p2), .val (.int p3), .val (.int p4), .val (.int (4 : Int32)), .val (.ref b130), .val (.ref b140), .val (.int (1 : Int32)), .val (.int (nar .byte (nar .byte ((p1).toInt8.toInt32)))), .unset] [(.int (F5 (1 : Int32) (4 : Int32)))])) _
      refine XS.iload X155.here hx rfl (hb hby at_174) rfl ?_
      show Steps p.tables e below (T155.setTop (mkF m 176 #[.val (.int p0), .val (.int p1), .val (.int p2), .val (.int p3), .val (.int p4), .val (.int (4 : Int32)), .val (.ref b130), .val (.ref b140), .val (.int (1 : Int32)), .val (.int (nar .byte (nar .byte ((p1).toInt8.toInt32)))), .unset] [(.int (4 : Int32)), (.int (F5 (1 : Int32) (4 : Int32)))])) _
      refine XS.iconst X155.here hx rfl (hb hby at_176) ?_
      show Steps p.tables e below (T155.setTop (mkF m 177 #[.val (.int p0), .val (.int p1), .val (.int p2), .val (.int p3), .val (.int p4), .val (.int (4 : Int32)), .val (.ref b130), .val (.ref b140), .val (.int (1 : Int32)), .val (.int (nar .byte (nar .byte ((p1).toInt8.toInt32)))), .unset] [(.int (1 : Int32)), (.int (4 : Int32)), (.int (F5 (1 : Int32) (4 : Int32)))])) _
      refine XS.icmpYes X155.here hx rfl (pc0 := 177) (pc' := 184) rfl (hb hby at_177) rfl (XT.ii_ne_t (by decide)) (by decide) (by decide) ?_
      show Steps p.tables e below (T155.setTop (mkF m 184 #[.val (.int p0), .val (.int p1), .val (.int p2), .val (.int p3), .val (.int p4), .val (.int (4 : Int32)), .val (.ref b130), .val (.ref b140), .val (.int (1 : Int32)), .val (.int (nar .byte (nar .byte ((p1).toInt8.toInt32)))), .unset] [(.int (F5 (1 : Int32) (4 : Int32)))])) _
      refine XS.iconst X155.here hx rfl (hb hby at_184) ?_
      show Steps p.tables e below (T155.setTop (mkF m 185 #[.val (.int p0), .val (.int p1), .val (.int p2), .val (.int p3), .val (.int p4), .val (.int (4 : Int32)), .val (.ref b130), .val (.ref b140), .val (.int (1 : Int32)), .val (.int (nar .byte (nar .byte ((p1).toInt8.toInt32)))), .unset] [(.int (0 : Int32)), (.int (F5 (1 : Int32) (4 : Int32)))])) _
      refine XS.icmpNo X155.here hx rfl (hb hby at_185) rfl (XT.ii_ne_f (by decide)) ?_
      show Steps p.tables e below (T155.setTop (mkF m 188 #[.val (.int p0), .val (.int p1), .val (.int p2), .val (.int p3), .val (.int p4), .val (.int (4 : Int32)), .val (.ref b130), .val (.ref b140), .val (.int (1 : Int32)), .val (.int (nar .byte (nar .byte ((p1).toInt8.toInt32)))), .unset] [])) _
      refine XS.iconst X155.here hx rfl (hb hby at_188) ?_
      show Steps p.tables e below (T155.setTop (mkF m 189 #[.val (.int p0), .val (.int p1), .val (.int p2), .val (.int p3), .val (.int p4), .val (.int (4 : Int32)), .val (.ref b130), .val (.ref b140), .val (.int (1 : Int32)), .val (.int (nar .byte (nar .byte ((p1).toInt8.toInt32)))), .unset] [(.int (1 : Int32))])) _
      refine XS.goto X155.here hx rfl (pc0 := 189) (pc' := 193) rfl (hb hby at_189) (by decide) (by decide) ?_
      show Steps p.tables e below (T155.setTop (mkF m 193 #[.val (.int p0), .val (.int p1), .val (.int p2), .val (.int p3), .val (.int p4), .val (.int (4 : Int32)), .val (.ref b130), .val (.ref b140), .val (.int (1 : Int32)), .val (.int (nar .byte (nar .byte ((p1).toInt8.toInt32)))), .unset] [(.int (1 : Int32))])) _
      refine XS.istore X155.here hx rfl (hb hby at_193) rfl (l' := #[.val (.int p0), .val (.int p1), .val (.int p2), .val (.int p3), .val (.int p4), .val (.int (4 : Int32)), .val (.ref b130), .val (.ref b140), .val (.int (1 : Int32)), .val (.int (nar .byte (nar .byte ((p1).toInt8.toInt32)))), .unset]) rfl ?_
      show Steps p.tables e below (T155.setTop (mkF m 195 #[.val (.int p0), .val (.int p1), .val (.int p2), .val (.int p3), .val (.int p4), .val (.int (4 : Int32)), .val (.ref b130), .val (.ref b140), .val (.int (1 : Int32)), .val (.int (nar .byte (nar .byte ((p1).toInt8.toInt32)))), .unset] [])) _
      refine XS.iload X155.here hx rfl (hb hby at_195) rfl ?_
      show Steps p.tables e below (T155.setTop (mkF m 197 #[.val (.int p0), .val (.int p1), .val (.int p2), .val (.int p3), .val (.int p4), .val (.int (4 : Int32)), .val (.ref b130), .val (.ref b140), .val (.int (1 : Int32)), .val (.int (nar .byte (nar .byte ((p1).toInt8.toInt32)))), .unset] [(.int (4 : Int32))])) _
      refine XS.iconst X155.here hx rfl (hb hby at_197) ?_
      show Steps p.tables e below (T155.setTop (mkF m 198 #[.val (.int p0), .val (.int p1), .val (.int p2), .val (.int p3), .val (.int p4), .val (.int (4 : Int32)), .val (.ref b130), .val (.ref b140), .val (.int (1 : Int32)), .val (.int (nar .byte (nar .byte ((p1).toInt8.toInt32)))), .unset] [(.int (1 : Int32)), (.int (4 : Int32))])) _
      refine XS.icmpYes X155.here hx rfl (pc0 := 198) (pc' := 204) rfl (hb hby at_198) rfl (XT.ii_ne_t (by decide)) (by decide) (by decide) ?_
      show Steps p.tables e below (T155.setTop (mkF m 204 #[.val (.int p0), .val (.int p1), .val (.int p2), .val (.int p3), .val (.int p4), .val (.int (4 : Int32)), .val (.ref b130), .val (.ref b140), .val (.int (1 : Int32)), .val (.int (nar .byte (nar .byte ((p1).toInt8.toInt32)))), .unset] [])) _
      refine XT.iconstV X155.here hx rfl (-1 : Int32) (hb hby at_204) (by decide) ?_
      show Steps p.tables e below (T155.setTop (mkF m 205 #[.val (.int p0), .val (.int p1), .val (.int p2), .val (.int p3), .val (.int p4), .val (.int (4 : Int32)), .val (.ref b130), .val (.ref b140), .val (.int (1 : Int32)), .val (.int (nar .byte (nar .byte ((p1).toInt8.toInt32)))), .unset] [(.int (-1 : Int32))])) _
      exact kk
    obtain ⟨cl_a159, Ar_a159, q_a159, S_a159, N_a159, H_a159, G_a159⟩ := id f153
    have hin_a159 : ¬ ((1 : Int32) < 0 ∨ cl_a159.slots.size ≤ ((1 : Int32)).toNatClampNeg) := inb_of S_a159 ⟨by decide, by decide⟩
    have hat_a159 := Has.at (v := (.int (nar .byte ((p2).toInt8.toInt32)))) H_a159 hin_a159 rfl
    have P160 : ∀ t, Steps p.tables e below (T155.setTop (mkF m 211 #[.val (.int p0), .val (.int p1), .val (.int p2), .val (.int p3), .val (.int p4), .val (.int (4 : Int32)), .val (.ref b130), .val (.ref b140), .val (.int (1 : Int32)), .val (.int (nar .byte (nar .byte ((p1).toInt8.toInt32)))), .val (.int (-1 : Int32))] [(.int (nar .byte ((p2).toInt8.toInt32)))])) t → Steps p.tables e below (s₁.setTop (entryFrame m #[(.int p0), (.int p1), (.int p2), (.int p3), (.int p4)] maxLocals)) t := by
      intro t kk
      refine P158 _ ?_
      show Steps p.tables e below (T155.setTop (mkF m 205 #[.val (.int p0), .val (.int p1), .val (.int p2), .val (.int p3), .val (.int p4), .val (.int (4 : Int32)), .val (.ref b130), .val (.ref b140), .val (.int (1 : Int32)), .val (.int (nar .byte (nar .byte ((p1).toInt8.toInt32)))), .unset] [(.int (-1 : Int32))])) _
      refine XS.istore X155.here hx rfl (hb hby at_205) rfl (l' := #[.val (.int p0), .val (.int p1), .val (.int p2), .val (.int p3), .val (.int p4), .val (.int (4 : Int32)), .val (.ref b130), .val (.ref b140), .val (.int (1 : Int32)), .val (.int (nar .byte (nar .byte ((p1).toInt8.toInt32)))), .val (.int (-1 : Int32))]) rfl ?_
      show Steps p.tables e below (T155.setTop (mkF m 207 #[.val (.int p0), .val (.int p1), .val (.int p2), .val (.int p3), .val (.int p4), .val (.int (4 : Int32)), .val (.ref b130), .val (.ref b140), .val (.int (1 : Int32)), .val (.int (nar .byte (nar .byte ((p1).toInt8.toInt32)))), .val (.int (-1 : Int32))] [])) _
      refine XS.aload X155.here hx rfl (hb hby at_207) rfl rfl ?_
      show Steps p.tables e below (T155.setTop (mkF m 209 #[.val (.int p0), .val (.int p1), .val (.int p2), .val (.int p3), .val (.int p4), .val (.int (4 : Int32)), .val (.ref b130), .val (.ref b140), .val (.int (1 : Int32)), .val (.int (nar .byte (nar .byte ((p1).toInt8.toInt32)))), .val (.int (-1 : Int32))] [(.ref b130)])) _
      refine XS.iconst X155.here hx rfl (hb hby at_209) ?_
      show Steps p.tables e below (T155.setTop (mkF m 210 #[.val (.int p0), .val (.int p1), .val (.int p2), .val (.int p3), .val (.int p4), .val (.int (4 : Int32)), .val (.ref b130), .val (.ref b140), .val (.int (1 : Int32)), .val (.int (nar .byte (nar .byte ((p1).toInt8.toInt32)))), .val (.int (-1 : Int32))] [(.int (1 : Int32)), (.ref b130)])) _
      refine X155.baloadBytes hx (j := (1 : Int32)) (v := (.int (nar .byte ((p2).toInt8.toInt32)))) (by rw [e155]; exact Ar_a159.1) (State.isArrayOf_alike hZ.alike Ar_a159.2.1) Ar_a159.2.2 hin_a159 hat_a159 (g := (mkF m 210 #[.val (.int p0), .val (.int p1), .val (.int p2), .val (.int p3), .val (.int p4), .val (.int (4 : Int32)), .val (.ref b130), .val (.ref b140), .val (.int (1 : Int32)), .val (.int (nar .byte (nar .byte ((p1).toInt8.toInt32)))), .val (.int (-1 : Int32))] [(.int (1 : Int32)), (.ref b130)])) rfl rfl (hb hby at_210) _ ?_
      show Steps p.tables e below (T155.setTop (mkF m 211 #[.val (.int p0), .val (.int p1), .val (.int p2), .val (.int p3), .val (.int p4), .val (.int (4 : Int32)), .val (.ref b130), .val (.ref b140), .val (.int (1 : Int32)), .val (.int (nar .byte (nar .byte ((p1).toInt8.toInt32)))), .val (.int (-1 : Int32))] [(.int (nar .byte ((p2).toInt8.toInt32)))])) _
      exact kk
    by_cases c161 : (nar .byte ((p2).toInt8.toInt32)) < (0 : Int32)
    · skip
      obtain ⟨cl_a162, Ar_a162, q_a162, S_a162, N_a162, H_a162, G_a162⟩ := id f153
      have hin_a162 : ¬ ((2 : Int32) < 0 ∨ cl_a162.slots.size ≤ ((2 : Int32)).toNatClampNeg) := inb_of S_a162 ⟨by decide, by decide⟩
      have hat_a162 := Has.at (v := (.int (nar .byte ((p3).toInt8.toInt32)))) H_a162 hin_a162 rfl
      have P163 : ∀ t, Steps p.tables e below (T155.setTop (mkF m 230 #[.val (.int p0), .val (.int p1), .val (.int p2), .val (.int p3), .val (.int p4), .val (.int (4 : Int32)), .val (.ref b130), .val (.ref b140), .val (.int (1 : Int32)), .val (.int (nar .byte (nar .byte ((p1).toInt8.toInt32)))), .val (.int (-1 : Int32))] [(.int (nar .byte ((p3).toInt8.toInt32)))])) t → Steps p.tables e below (s₁.setTop (entryFrame m #[(.int p0), (.int p1), (.int p2), (.int p3), (.int p4)] maxLocals)) t := by
        intro t kk
        refine P160 _ ?_
        show Steps p.tables e below (T155.setTop (mkF m 211 #[.val (.int p0), .val (.int p1), .val (.int p2), .val (.int p3), .val (.int p4), .val (.int (4 : Int32)), .val (.ref b130), .val (.ref b140), .val (.int (1 : Int32)), .val (.int (nar .byte (nar .byte ((p1).toInt8.toInt32)))), .val (.int (-1 : Int32))] [(.int (nar .byte ((p2).toInt8.toInt32)))])) _
        refine XS.ifYes X155.here hx rfl (pc0 := 211) (pc' := 220) rfl (hb hby at_211) rfl (XT.i0_lt_t c161) (by decide) (by decide) ?_
        show Steps p.tables e below (T155.setTop (mkF m 220 #[.val (.int p0), .val (.int p1), .val (.int p2), .val (.int p3), .val (.int p4), .val (.int (4 : Int32)), .val (.ref b130), .val (.ref b140), .val (.int (1 : Int32)), .val (.int (nar .byte (nar .byte ((p1).toInt8.toInt32)))), .val (.int (-1 : Int32))] [])) _
        refine XS.iload X155.here hx rfl (hb hby at_220) rfl ?_
        show Steps p.tables e below (T155.setTop (mkF m 222 #[.val (.int p0), .val (.int p1), .val (.int p2), .val (.int p3), .val (.int p4), .val (.int (4 : Int32)), .val (.ref b130), .val (.ref b140), .val (.int (1 : Int32)), .val (.int (nar .byte (nar .byte ((p1).toInt8.toInt32)))), .val (.int (-1 : Int32))] [(.int (4 : Int32))])) _
        refine XS.iconst X155.here hx rfl (hb hby at_222) ?_
        show Steps p.tables e below (T155.setTop (mkF m 223 #[.val (.int p0), .val (.int p1), .val (.int p2), .val (.int p3), .val (.int p4), .val (.int (4 : Int32)), .val (.ref b130), .val (.ref b140), .val (.int (1 : Int32)), .val (.int (nar .byte (nar .byte ((p1).toInt8.toInt32)))), .val (.int (-1 : Int32))] [(.int (2 : Int32)), (.int (4 : Int32))])) _
        refine XS.icmpNo X155.here hx rfl (hb hby at_223) rfl (XT.ii_le_f (by decide)) ?_
        show Steps p.tables e below (T155.setTop (mkF m 226 #[.val (.int p0), .val (.int p1), .val (.int p2), .val (.int p3), .val (.int p4), .val (.int (4 : Int32)), .val (.ref b130), .val (.ref b140), .val (.int (1 : Int32)), .val (.int (nar .byte (nar .byte ((p1).toInt8.toInt32)))), .val (.int (-1 : Int32))] [])) _
        refine XS.aload X155.here hx rfl (hb hby at_226) rfl rfl ?_
        show Steps p.tables e below (T155.setTop (mkF m 228 #[.val (.int p0), .val (.int p1), .val (.int p2), .val (.int p3), .val (.int p4), .val (.int (4 : Int32)), .val (.ref b130), .val (.ref b140), .val (.int (1 : Int32)), .val (.int (nar .byte (nar .byte ((p1).toInt8.toInt32)))), .val (.int (-1 : Int32))] [(.ref b130)])) _
        refine XS.iconst X155.here hx rfl (hb hby at_228) ?_
        show Steps p.tables e below (T155.setTop (mkF m 229 #[.val (.int p0), .val (.int p1), .val (.int p2), .val (.int p3), .val (.int p4), .val (.int (4 : Int32)), .val (.ref b130), .val (.ref b140), .val (.int (1 : Int32)), .val (.int (nar .byte (nar .byte ((p1).toInt8.toInt32)))), .val (.int (-1 : Int32))] [(.int (2 : Int32)), (.ref b130)])) _
        refine X155.baloadBytes hx (j := (2 : Int32)) (v := (.int (nar .byte ((p3).toInt8.toInt32)))) (by rw [e155]; exact Ar_a162.1) (State.isArrayOf_alike hZ.alike Ar_a162.2.1) Ar_a162.2.2 hin_a162 hat_a162 (g := (mkF m 229 #[.val (.int p0), .val (.int p1), .val (.int p2), .val (.int p3), .val (.int p4), .val (.int (4 : Int32)), .val (.ref b130), .val (.ref b140), .val (.int (1 : Int32)), .val (.int (nar .byte (nar .byte ((p1).toInt8.toInt32)))), .val (.int (-1 : Int32))] [(.int (2 : Int32)), (.ref b130)])) rfl rfl (hb hby at_229) _ ?_
        show Steps p.tables e below (T155.setTop (mkF m 230 #[.val (.int p0), .val (.int p1), .val (.int p2), .val (.int p3), .val (.int p4), .val (.int (4 : Int32)), .val (.ref b130), .val (.ref b140), .val (.int (1 : Int32)), .val (.int (nar .byte (nar .byte ((p1).toInt8.toInt32)))), .val (.int (-1 : Int32))] [(.int (nar .byte ((p3).toInt8.toInt32)))])) _
        exact kk
      by_cases c164 : (nar .byte ((p3).toInt8.toInt32)) < (0 : Int32)
      · skip
        obtain ⟨cl_a165, Ar_a165, q_a165, S_a165, N_a165, H_a165, G_a165⟩ := id f153
        have hin_a165 : ¬ ((3 : Int32) < 0 ∨ cl_a165.slots.size ≤ ((3 : Int32)).toNatClampNeg) := inb_of S_a165 ⟨by decide, by decide⟩
        have hat_a165 := Has.at (v := (.int (nar .byte ((p4).toInt8.toInt32)))) H_a165 hin_a165 rfl
        have P166 : ∀ t, Steps p.tables e below (T155.setTop (mkF m 249 #[.val (.int p0), .val (.int p1), .val (.int p2), .val (.int p3), .val (.int p4), .val (.int (4 : Int32)), .val (.ref b130), .val (.ref b140), .val (.int (1 : Int32)), .val (.int (nar .byte (nar .byte ((p1).toInt8.toInt32)))), .val (.int (-1 : Int32))] [(.int (nar .byte ((p4).toInt8.toInt32)))])) t → Steps p.tables e below (s₁.setTop (entryFrame m #[(.int p0), (.int p1), (.int p2), (.int p3), (.int p4)] maxLocals)) t := by
          intro t kk
          refine P163 _ ?_
          show Steps p.tables e below (T155.setTop (mkF m 230 #[.val (.int p0), .val (.int p1), .val (.int p2), .val (.int p3), .val (.int p4), .val (.int (4 : Int32)), .val (.ref b130), .val (.ref b140), .val (.int (1 : Int32)), .val (.int (nar .byte (nar .byte ((p1).toInt8.toInt32)))), .val (.int (-1 : Int32))] [(.int (nar .byte ((p3).toInt8.toInt32)))])) _
          refine XS.ifYes X155.here hx rfl (pc0 := 230) (pc' := 239) rfl (hb hby at_230) rfl (XT.i0_lt_t c164) (by decide) (by decide) ?_
          show Steps p.tables e below (T155.setTop (mkF m 239 #[.val (.int p0), .val (.int p1), .val (.int p2), .val (.int p3), .val (.int p4), .val (.int (4 : Int32)), .val (.ref b130), .val (.ref b140), .val (.int (1 : Int32)), .val (.int (nar .byte (nar .byte ((p1).toInt8.toInt32)))), .val (.int (-1 : Int32))] [])) _
          refine XS.iload X155.here hx rfl (hb hby at_239) rfl ?_
          show Steps p.tables e below (T155.setTop (mkF m 241 #[.val (.int p0), .val (.int p1), .val (.int p2), .val (.int p3), .val (.int p4), .val (.int (4 : Int32)), .val (.ref b130), .val (.ref b140), .val (.int (1 : Int32)), .val (.int (nar .byte (nar .byte ((p1).toInt8.toInt32)))), .val (.int (-1 : Int32))] [(.int (4 : Int32))])) _
          refine XS.iconst X155.here hx rfl (hb hby at_241) ?_
          show Steps p.tables e below (T155.setTop (mkF m 242 #[.val (.int p0), .val (.int p1), .val (.int p2), .val (.int p3), .val (.int p4), .val (.int (4 : Int32)), .val (.ref b130), .val (.ref b140), .val (.int (1 : Int32)), .val (.int (nar .byte (nar .byte ((p1).toInt8.toInt32)))), .val (.int (-1 : Int32))] [(.int (3 : Int32)), (.int (4 : Int32))])) _
          refine XS.icmpNo X155.here hx rfl (hb hby at_242) rfl (XT.ii_le_f (by decide)) ?_
          show Steps p.tables e below (T155.setTop (mkF m 245 #[.val (.int p0), .val (.int p1), .val (.int p2), .val (.int p3), .val (.int p4), .val (.int (4 : Int32)), .val (.ref b130), .val (.ref b140), .val (.int (1 : Int32)), .val (.int (nar .byte (nar .byte ((p1).toInt8.toInt32)))), .val (.int (-1 : Int32))] [])) _
          refine XS.aload X155.here hx rfl (hb hby at_245) rfl rfl ?_
          show Steps p.tables e below (T155.setTop (mkF m 247 #[.val (.int p0), .val (.int p1), .val (.int p2), .val (.int p3), .val (.int p4), .val (.int (4 : Int32)), .val (.ref b130), .val (.ref b140), .val (.int (1 : Int32)), .val (.int (nar .byte (nar .byte ((p1).toInt8.toInt32)))), .val (.int (-1 : Int32))] [(.ref b130)])) _
          refine XS.iconst X155.here hx rfl (hb hby at_247) ?_
          show Steps p.tables e below (T155.setTop (mkF m 248 #[.val (.int p0), .val (.int p1), .val (.int p2), .val (.int p3), .val (.int p4), .val (.int (4 : Int32)), .val (.ref b130), .val (.ref b140), .val (.int (1 : Int32)), .val (.int (nar .byte (nar .byte ((p1).toInt8.toInt32)))), .val (.int (-1 : Int32))] [(.int (3 : Int32)), (.ref b130)])) _
          refine X155.baloadBytes hx (j := (3 : Int32)) (v := (.int (nar .byte ((p4).toInt8.toInt32)))) (by rw [e155]; exact Ar_a165.1) (State.isArrayOf_alike hZ.alike Ar_a165.2.1) Ar_a165.2.2 hin_a165 hat_a165 (g := (mkF m 248 #[.val (.int p0), .val (.int p1), .val (.int p2), .val (.int p3), .val (.int p4), .val (.int (4 : Int32)), .val (.ref b130), .val (.ref b140), .val (.int (1 : Int32)), .val (.int (nar .byte (nar .byte ((p1).toInt8.toInt32)))), .val (.int (-1 : Int32))] [(.int (3 : Int32)), (.ref b130)])) rfl rfl (hb hby at_248) _ ?_
          show Steps p.tables e below (T155.setTop (mkF m 249 #[.val (.int p0), .val (.int p1), .val (.int p2), .val (.int p3), .val (.int p4), .val (.int (4 : Int32)), .val (.ref b130), .val (.ref b140), .val (.int (1 : Int32)), .val (.int (nar .byte (nar .byte ((p1).toInt8.toInt32)))), .val (.int (-1 : Int32))] [(.int (nar .byte ((p4).toInt8.toInt32)))])) _
          exact kk
        by_cases c167 : (nar .byte ((p4).toInt8.toInt32)) < (0 : Int32)
        · skip
          have P168 : ∀ t, Steps p.tables e below (T155.setTop (mkF m 262 #[.val (.int p0), .val (.int p1), .val (.int p2), .val (.int p3), .val (.int p4), .val (.int (4 : Int32)), .val (.ref b130), .val (.ref b140), .val (.int (1 : Int32)), .val (.int (nar .byte (nar .byte ((p1).toInt8.toInt32)))), .val (.int (-1 : Int32))] [(.int (1 : Int32))])) t → Steps p.tables e below (s₁.setTop (entryFrame m #[(.int p0), (.int p1), (.int p2), (.int p3), (.int p4)] maxLocals)) t := by
            intro t kk
            refine P166 _ ?_
            show Steps p.tables e below (T155.setTop (mkF m 249 #[.val (.int p0), .val (.int p1), .val (.int p2), .val (.int p3), .val (.int p4), .val (.int (4 : Int32)), .val (.ref b130), .val (.ref b140), .val (.int (1 : Int32)), .val (.int (nar .byte (nar .byte ((p1).toInt8.toInt32)))), .val (.int (-1 : Int32))] [(.int (nar .byte ((p4).toInt8.toInt32)))])) _
            refine XS.ifYes X155.here hx rfl (pc0 := 249) (pc' := 255) rfl (hb hby at_249) rfl (XT.i0_lt_t c167) (by decide) (by decide) ?_
            show Steps p.tables e below (T155.setTop (mkF m 255 #[.val (.int p0), .val (.int p1), .val (.int p2), .val (.int p3), .val (.int p4), .val (.int (4 : Int32)), .val (.ref b130), .val (.ref b140), .val (.int (1 : Int32)), .val (.int (nar .byte (nar .byte ((p1).toInt8.toInt32)))), .val (.int (-1 : Int32))] [])) _
            refine XS.iload X155.here hx rfl (hb hby at_255) rfl ?_
            show Steps p.tables e below (T155.setTop (mkF m 257 #[.val (.int p0), .val (.int p1), .val (.int p2), .val (.int p3), .val (.int p4), .val (.int (4 : Int32)), .val (.ref b130), .val (.ref b140), .val (.int (1 : Int32)), .val (.int (nar .byte (nar .byte ((p1).toInt8.toInt32)))), .val (.int (-1 : Int32))] [(.int (-1 : Int32))])) _
            refine XS.ifNo X155.here hx rfl (hb hby at_257) rfl (XT.i0_ge_f (by decide)) ?_
            show Steps p.tables e below (T155.setTop (mkF m 260 #[.val (.int p0), .val (.int p1), .val (.int p2), .val (.int p3), .val (.int p4), .val (.int (4 : Int32)), .val (.ref b130), .val (.ref b140), .val (.int (1 : Int32)), .val (.int (nar .byte (nar .byte ((p1).toInt8.toInt32)))), .val (.int (-1 : Int32))] [])) _
            refine XS.iload X155.here hx rfl (hb hby at_260) rfl ?_
            show Steps p.tables e below (T155.setTop (mkF m 262 #[.val (.int p0), .val (.int p1), .val (.int p2), .val (.int p3), .val (.int p4), .val (.int (4 : Int32)), .val (.ref b130), .val (.ref b140), .val (.int (1 : Int32)), .val (.int (nar .byte (nar .byte ((p1).toInt8.toInt32)))), .val (.int (-1 : Int32))] [(.int (1 : Int32))])) _
            exact kk
          obtain ⟨fs, hr, hrun, hended, hW, hsame⟩ := X155.leave (v := some (.int (1 : Int32))) (fun h => by rw [Bd.returns] at h; cases h)
          refine ⟨_, _, P168 _ ?_, hrun, hended, _, _, rfl, ?_, ⟨_, rfl⟩, hW, hsame.mono (by decide) (by decide)⟩
          · exact retN X155 hx (t := .boolean) Bd.returns (by simp) (hb hby at_262) hr
          · exact ⟨rfl, N155⟩
        · skip
          obtain ⟨cq169, kq169, q169a, q169b, q169c⟩ := isOf hZ e155 f157
          obtain ⟨_, _, ⟨T169, L169, k169, n169⟩, -, X169, ⟨Lc169, hQ169, l169, y169, z169⟩, st169⟩ := X155.virtualBack hx (y := (⟨"com/example/meterwright/meterwright/RecordBody$Reader", "number", "()J"⟩ : MethodName)) (z := (⟨"com/example/meterwright/meterwright/RecordBody$Reader", "number", "()J"⟩ : MethodName)) hown (mvT hZ (hw _ (List.mem_of_getElem? (i := 51) rfl))) (mvT hZ (hw _ (List.mem_of_getElem? (i := 52) rfl))) (notFace_of_selects (args := #[]) (mvT hZ (hw _ (List.mem_of_getElem? (i := 54) rfl)))) (mvT hZ (hw _ (List.mem_of_getElem? (i := 54) rfl))) (mvT hZ (hw _ (List.mem_of_getElem? (i := 53) rfl))) (by decide) (backOf (W := 0) (rm12 l Z a0 hw [] b140 b130 k130 (4 : Int32) [(.int (nar .byte ((p1).toInt8.toInt32))), (.int (nar .byte ((p2).toInt8.toInt32))), (.int (nar .byte ((p3).toInt8.toInt32))), (.int (nar .byte ((p4).toInt8.toInt32)))] (.int (0 : Int32)) (nar .byte ((p2).toInt8.toInt32)) (nar .byte ((p3).toInt8.toInt32)) (nar .byte ((p4).toInt8.toInt32)) T152.heap n0 z156 f157 q152_0' q152_1 f153 ge_b140 ne_b130_b140 (by decide) rfl c161 (by decide) rfl c164 (by decide) rfl c167) hZ (hw _ (List.mem_of_getElem? (i := 55) rfl)) (hw _ (List.mem_of_getElem? (i := 4) rfl)) (by decide) (by decide)) q169a q169c (g := (mkF m 265 #[.val (.int p0), .val (.int p1), .val (.int p2), .val (.int p3), .val (.int p4), .val (.int (4 : Int32)), .val (.ref b130), .val (.ref b140), .val (.int (1 : Int32)), .val (.int (nar .byte (nar .byte ((p1).toInt8.toInt32)))), .val (.int (4 : Int32))] [(.ref b140)])) rfl (by rw [hml]; rfl) (Steps.refl _) (argsL := []) (rest := []) (lenOf pd_1 rfl) rfl (by show 2 * 0 + _ ≤ _; exact Nat.le_of_eq rfl) (hb hby at_265) (fun _ _ => ⟨rfl, e155, (by decide : 3 + 0 ≤ _), (by decide : 11 + 0 ≤ _)⟩)
          dsimp only [Pt.U, Pt.locs, Pt.cells, Pt.slots] at X169 l169 y169 z169 st169 hQ169
          subst l169 y169 z169
          obtain ⟨r_169, rfl, Nq169, K169, q169_0, q169_1⟩ := hQ169
          have N169 := Fr.app N155 Nq169
          have f171 := (Arv.keep f153 K169 (ninS ne_b130_b140 nin0))
          have z172 : n0 ≤ _ := (Nat.le_trans z156 K169.1)
          have f173 := (Exa.keep f157 K169)
          obtain ⟨cq170, kq170, q170a, q170b, q170c⟩ := isOf hZ rfl f173
          obtain ⟨_, _, ⟨T170, L170, k170, n170⟩, -, X170, ⟨Lc170, hQ170, l170, y170, z170⟩, st170⟩ := X169.virtualBack hx (y := (⟨"com/example/meterwright/meterwright/RecordBody$Reader", "atEnd", "()Z"⟩ : MethodName)) (z := (⟨"com/example/meterwright/meterwright/RecordBody$Reader", "atEnd", "()Z"⟩ : MethodName)) hown (mvT hZ (hw _ (List.mem_of_getElem? (i := 39) rfl))) (mvT hZ (hw _ (List.mem_of_getElem? (i := 40) rfl))) (notFace_of_selects (args := #[]) (mvT hZ (hw _ (List.mem_of_getElem? (i := 42) rfl)))) (mvT hZ (hw _ (List.mem_of_getElem? (i := 42) rfl))) (mvT hZ (hw _ (List.mem_of_getElem? (i := 41) rfl))) (by decide) (backOf (W := 0) (rm5 l Z a0 hw [] b140 (4 : Int32) b130 k130 (4 : Int32) [(.int (nar .byte ((p1).toInt8.toInt32))), (.int (nar .byte ((p2).toInt8.toInt32))), (.int (nar .byte ((p3).toInt8.toInt32))), (.int (nar .byte ((p4).toInt8.toInt32)))] (.int (0 : Int32)) T169.heap n0 z172 q169_0 q169_1 f171) hZ (hw _ (List.mem_of_getElem? (i := 43) rfl)) (hw _ (List.mem_of_getElem? (i := 4) rfl)) (by decide) (by decide)) q170a q170c (g := (mkF m 276 #[.val (.int p0), .val (.int p1), .val (.int p2), .val (.int p3), .val (.int p4), .val (.int (4 : Int32)), .val (.ref b130), .val (.ref b140), .val (.int (1 : Int32)), .val (.int (nar .byte (nar .byte ((p1).toInt8.toInt32)))), .val (.int (4 : Int32))] [(.ref b140)])) rfl (by rw [hml]; rfl) (Steps.refl _) (argsL := []) (rest := []) (lenOf pd_3 rfl) rfl (by show 2 * 0 + _ ≤ _; exact Nat.le_of_eq rfl) (hb hby at_276) (fun _ _ => ⟨rfl, rfl, (by decide : 3 + 0 ≤ _), (by decide : 11 + 0 ≤ _)⟩)
          dsimp only [Pt.U, Pt.locs, Pt.cells, Pt.slots] at X170 l170 y170 z170 st170 hQ170
          subst l170 y170 z170
          obtain ⟨rfl, Nq170, e170⟩ := hQ170
          have N170 := Fr.app N169 Nq170
          obtain ⟨cq174, kq174, q174a, q174b, q174c⟩ := isOf hZ e170 f173
          obtain ⟨_, _, ⟨T174, L174, k174, n174⟩, -, X174, ⟨Lc174, hQ174, l174, y174, z174⟩, st174⟩ := X170.virtualBack hx (y := (⟨"com/example/meterwright/meterwright/RecordBody$Reader", "atEnd", "()Z"⟩ : MethodName)) (z := (⟨"com/example/meterwright/meterwright/RecordBody$Reader", "atEnd", "()Z"⟩ : MethodName)) hown (mvT hZ (hw _ (List.mem_of_getElem? (i := 39) rfl))) (mvT hZ (hw _ (List.mem_of_getElem? (i := 40) rfl))) (notFace_of_selects (args := #[]) (mvT hZ (hw _ (List.mem_of_getElem? (i := 42) rfl)))) (mvT hZ (hw _ (List.mem_of_getElem? (i := 42) rfl))) (mvT hZ (hw _ (List.mem_of_getElem? (i := 41) rfl))) (by decide) (backOf (W := 0) (rm5 l Z a0 hw [] b140 (4 : Int32) b130 k130 (4 : Int32) [(.int (nar .byte ((p1).toInt8.toInt32))), (.int (nar .byte ((p2).toInt8.toInt32))), (.int (nar .byte ((p3).toInt8.toInt32))), (.int (nar .byte ((p4).toInt8.toInt32)))] (.int (0 : Int32)) T169.heap n0 z172 q169_0 q169_1 f171) hZ (hw _ (List.mem_of_getElem? (i := 43) rfl)) (hw _ (List.mem_of_getElem? (i := 4) rfl)) (by decide) (by decide)) q174a q174c (g := (mkF m 308 #[.val (.int p0), .val (.int p1), .val (.int p2), .val (.int p3), .val (.int p4), .val (.int (4 : Int32)), .val (.ref b130), .val (.ref b140), .val (.int (1 : Int32)), .val (.int (nar .byte (nar .byte ((p1).toInt8.toInt32)))), .val (.int (4 : Int32))] [(.ref b140)])) rfl (by rw [hml]; rfl) (Steps.refl _) (argsL := []) (rest := []) (lenOf pd_3 rfl) rfl (by show 2 * 0 + _ ≤ _; exact Nat.le_of_eq rfl) (hb hby at_308) (fun _ _ => ⟨rfl, e170, (by decide : 3 + 0 ≤ _), (by decide : 11 + 0 ≤ _)⟩)
          dsimp only [Pt.U, Pt.locs, Pt.cells, Pt.slots] at X174 l174 y174 z174 st174 hQ174
          subst l174 y174 z174
          obtain ⟨rfl, Nq174, e174⟩ := hQ174
          have N174 := Fr.app N170 Nq174
          have P175 : ∀ t, Steps p.tables e below (T174.setTop (mkF m 323 #[.val (.int p0), .val (.int p1), .val (.int p2), .val (.int p3), .val (.int p4), .val (.int (4 : Int32)), .val (.ref b130), .val (.ref b140), .val (.int (1 : Int32)), .val (.int (nar .byte (nar .byte ((p1).toInt8.toInt32)))), .val (.int (4 : Int32))] [(.int (1 : Int32)), (.int (F5 (4 : Int32) (4 : Int32)))])) t → Steps p.tables e below (s₁.setTop (entryFrame m #[(.int p0), (.int p1), (.int p2), (.int p3), (.int p4)] maxLocals)) t := by
            intro t kk
            refine P166 _ ?_
            show Steps p.tables e below (T155.setTop (mkF m 249 #[.val (.int p0), .val (.int p1), .val (.int p2), .val (.int p3), .val (.int p4), .val (.int (4 : Int32)), .val (.ref b130), .val (.ref b140), .val (.int (1 : Int32)), .val (.int (nar .byte (nar .byte ((p1).toInt8.toInt32)))), .val (.int (-1 : Int32))] [(.int (nar .byte ((p4).toInt8.toInt32)))])) _
            refine XS.ifNo X155.here hx rfl (hb hby at_249) rfl (XT.i0_lt_f c167) ?_
            show Steps p.tables e below (T155.setTop (mkF m 252 #[.val (.int p0), .val (.int p1), .val (.int p2), .val (.int p3), .val (.int p4), .val (.int (4 : Int32)), .val (.ref b130), .val (.ref b140), .val (.int (1 : Int32)), .val (.int (nar .byte (nar .byte ((p1).toInt8.toInt32)))), .val (.int (-1 : Int32))] [])) _
            refine XS.iconst X155.here hx rfl (hb hby at_252) ?_
            show Steps p.tables e below (T155.setTop (mkF m 253 #[.val (.int p0), .val (.int p1), .val (.int p2), .val (.int p3), .val (.int p4), .val (.int (4 : Int32)), .val (.ref b130), .val (.ref b140), .val (.int (1 : Int32)), .val (.int (nar .byte (nar .byte ((p1).toInt8.toInt32)))), .val (.int (-1 : Int32))] [(.int (4 : Int32))])) _
            refine XS.istore X155.here hx rfl (hb hby at_253) rfl (l' := #[.val (.int p0), .val (.int p1), .val (.int p2), .val (.int p3), .val (.int p4), .val (.int (4 : Int32)), .val (.ref b130), .val (.ref b140), .val (.int (1 : Int32)), .val (.int (nar .byte (nar .byte ((p1).toInt8.toInt32)))), .val (.int (4 : Int32))]) rfl ?_
            show Steps p.tables e below (T155.setTop (mkF m 255 #[.val (.int p0), .val (.int p1), .val (.int p2), .val (.int p3), .val (.int p4), .val (.int (4 : Int32)), .val (.ref b130), .val (.ref b140), .val (.int (1 : Int32)), .val (.int (nar .byte (nar .byte ((p1).toInt8.toInt32)))), .val (.int (4 : Int32))] [])) _
            refine XS.iload X155.here hx rfl (hb hby at_255) rfl ?_
            show Steps p.tables e below (T155.setTop (mkF m 257 #[.val (.int p0), .val (.int p1), .val (.int p2), .val (.int p3), .val (.int p4), .val (.int (4 : Int32)), .val (.ref b130), .val (.ref b140), .val (.int (1 : Int32)), .val (.int (nar .byte (nar .byte ((p1).toInt8.toInt32)))), .val (.int (4 : Int32))] [(.int (4 : Int32))])) _
            refine XS.ifYes X155.here hx rfl (pc0 := 257) (pc' := 263) rfl (hb hby at_257) rfl (XT.i0_ge_t (by decide)) (by decide) (by decide) ?_
            show Steps p.tables e below (T155.setTop (mkF m 263 #[.val (.int p0), .val (.int p1), .val (.int p2), .val (.int p3), .val (.int p4), .val (.int (4 : Int32)), .val (.ref b130), .val (.ref b140), .val (.int (1 : Int32)), .val (.int (nar .byte (nar .byte ((p1).toInt8.toInt32)))), .val (.int (4 : Int32))] [])) _
            refine XS.aload X155.here hx rfl (hb hby at_263) rfl rfl ?_
            show Steps p.tables e below (T155.setTop (mkF m 265 #[.val (.int p0), .val (.int p1), .val (.int p2), .val (.int p3), .val (.int p4), .val (.int (4 : Int32)), .val (.ref b130), .val (.ref b140), .val (.int (1 : Int32)), .val (.int (nar .byte (nar .byte ((p1).toInt8.toInt32)))), .val (.int (4 : Int32))] [(.ref b140)])) _
            refine st169.trans ?_
            show Steps p.tables e below (T169.setTop (mkF m 268 #[.val (.int p0), .val (.int p1), .val (.int p2), .val (.int p3), .val (.int p4), .val (.int (4 : Int32)), .val (.ref b130), .val (.ref b140), .val (.int (1 : Int32)), .val (.int (nar .byte (nar .byte ((p1).toInt8.toInt32)))), .val (.int (4 : Int32))] [(.long r_169)])) _
            jvm_step X169.here [X169.here.top, hx, (hb hby at_268), Value.category]
            show Steps p.tables e below (T169.setTop (mkF m 269 #[.val (.int p0), .val (.int p1), .val (.int p2), .val (.int p3), .val (.int p4), .val (.int (4 : Int32)), .val (.ref b130), .val (.ref b140), .val (.int (1 : Int32)), .val (.int (nar .byte (nar .byte ((p1).toInt8.toInt32)))), .val (.int (4 : Int32))] [])) _
            refine XS.iload X169.here hx rfl (hb hby at_269) rfl ?_
            show Steps p.tables e below (T169.setTop (mkF m 271 #[.val (.int p0), .val (.int p1), .val (.int p2), .val (.int p3), .val (.int p4), .val (.int (4 : Int32)), .val (.ref b130), .val (.ref b140), .val (.int (1 : Int32)), .val (.int (nar .byte (nar .byte ((p1).toInt8.toInt32)))), .val (.int (4 : Int32))] [(.int (1 : Int32))])) _
            refine XS.ifNo X169.here hx rfl (hb hby at_271) rfl (XT.i0_eq_f (by decide)) ?_
            show Steps p.tables e below (T169.setTop (mkF m 274 #[.val (.int p0), .val (.int p1), .val (.int p2), .val (.int p3), .val (.int p4), .val (.int (4 : Int32)), .val (.ref b130), .val (.ref b140), .val (.int (1 : Int32)), .val (.int (nar .byte (nar .byte ((p1).toInt8.toInt32)))), .val (.int (4 : Int32))] [])) _
            refine XS.aload X169.here hx rfl (hb hby at_274) rfl rfl ?_
            show Steps p.tables e below (T169.setTop (mkF m 276 #[.val (.int p0), .val (.int p1), .val (.int p2), .val (.int p3), .val (.int p4), .val (.int (4 : Int32)), .val (.ref b130), .val (.ref b140), .val (.int (1 : Int32)), .val (.int (nar .byte (nar .byte ((p1).toInt8.toInt32)))), .val (.int (4 : Int32))] [(.ref b140)])) _
            refine st170.trans ?_
            show Steps p.tables e below (T170.setTop (mkF m 279 #[.val (.int p0), .val (.int p1), .val (.int p2), .val (.int p3), .val (.int p4), .val (.int (4 : Int32)), .val (.ref b130), .val (.ref b140), .val (.int (1 : Int32)), .val (.int (nar .byte (nar .byte ((p1).toInt8.toInt32)))), .val (.int (4 : Int32))] [(.int (F5 (4 : Int32) (4 : Int32)))])) _
            refine XS.iload X170.here hx rfl (hb hby at_279) rfl ?_
            show Steps p.tables e below (T170.setTop (mkF m 281 #[.val (.int p0), .val (.int p1), .val (.int p2), .val (.int p3), .val (.int p4), .val (.int (4 : Int32)), .val (.ref b130), .val (.ref b140), .val (.int (1 : Int32)), .val (.int (nar .byte (nar .byte ((p1).toInt8.toInt32)))), .val (.int (4 : Int32))] [(.int (4 : Int32)), (.int (F5 (4 : Int32) (4 : Int32)))])) _
            refine XS.iload X170.here hx rfl (hb hby at_281) rfl ?_
            show Steps p.tables e below (T170.setTop (mkF m 283 #[.val (.int p0), .val (.int p1), .val (.int p2), .val (.int p3), .val (.int p4), .val (.int (4 : Int32)), .val (.ref b130), .val (.ref b140), .val (.int (1 : Int32)), .val (.int (nar .byte (nar .byte ((p1).toInt8.toInt32)))), .val (.int (4 : Int32))] [(.int (4 : Int32)), (.int (4 : Int32)), (.int (F5 (4 : Int32) (4 : Int32)))])) _
            refine XS.icmpNo X170.here hx rfl (hb hby at_283) rfl (XT.ii_ne_f rfl) ?_
            show Steps p.tables e below (T170.setTop (mkF m 286 #[.val (.int p0), .val (.int p1), .val (.int p2), .val (.int p3), .val (.int p4), .val (.int (4 : Int32)), .val (.ref b130), .val (.ref b140), .val (.int (1 : Int32)), .val (.int (nar .byte (nar .byte ((p1).toInt8.toInt32)))), .val (.int (4 : Int32))] [(.int (F5 (4 : Int32) (4 : Int32)))])) _
            refine XS.iconst X170.here hx rfl (hb hby at_286) ?_
            show Steps p.tables e below (T170.setTop (mkF m 287 #[.val (.int p0), .val (.int p1), .val (.int p2), .val (.int p3), .val (.int p4), .val (.int (4 : Int32)), .val (.ref b130), .val (.ref b140), .val (.int (1 : Int32)), .val (.int (nar .byte (nar .byte ((p1).toInt8.toInt32)))), .val (.int (4 : Int32))] [(.int (1 : Int32)), (.int (F5 (4 : Int32) (4 : Int32)))])) _
            refine XS.goto X170.here hx rfl (pc0 := 287) (pc' := 291) rfl (hb hby at_287) (by decide) (by decide) ?_
            show Steps p.tables e below (T170.setTop (mkF m 291 #[.val (.int p0), .val (.int p1), .val (.int p2), .val (.int p3), .val (.int p4), .val (.int (4 : Int32)), .val (.ref b130), .val (.ref b140), .val (.int (1 : Int32)), .val (.int (nar .byte (nar .byte ((p1).toInt8.toInt32)))), .val (.int (4 : Int32))] [(.int (1 : Int32)), (.int (F5 (4 : Int32) (4 : Int32)))])) _
            refine XS.icmpNo X170.here hx rfl (hb hby at_291) rfl (XT.ii_ne_f (by decide)) ?_
            show Steps p.tables e below (T170.setTop (mkF m 294 #[.val (.int p0), .val (.int p1), .val (.int p2), .val (.int p3), .val (.int p4), .val (.int (4 : Int32)), .val (.ref b130), .val (.ref b140), .val (.int (1 : Int32)), .val (.int (nar .byte (nar .byte ((p1).toInt8.toInt32)))), .val (.int (4 : Int32))] [])) _
            refine XS.iconst X170.here hx rfl (hb hby at_294) ?_
            show Steps p.tables e below (T170.setTop (mkF m 295 #[.val (.int p0), .val (.int p1), .val (.int p2), .val (.int p3), .val (.int p4), .val (.int (4 : Int32)), .val (.ref b130), .val (.ref b140), .val (.int (1 : Int32)), .val (.int (nar .byte (nar .byte ((p1).toInt8.toInt32)))), .val (.int (4 : Int32))] [(.int (1 : Int32))])) _
            refine XS.goto X170.here hx rfl (pc0 := 295) (pc' := 299) rfl (hb hby at_295) (by decide) (by decide) ?_
            show Steps p.tables e below (T170.setTop (mkF m 299 #[.val (.int p0), .val (.int p1), .val (.int p2), .val (.int p3), .val (.int p4), .val (.int (4 : Int32)), .val (.ref b130), .val (.ref b140), .val (.int (1 : Int32)), .val (.int (nar .byte (nar .byte ((p1).toInt8.toInt32)))), .val (.int (4 : Int32))] [(.int (1 : Int32))])) _
            refine XS.istore X170.here hx rfl (hb hby at_299) rfl (l' := #[.val (.int p0), .val (.int p1), .val (.int p2), .val (.int p3), .val (.int p4), .val (.int (4 : Int32)), .val (.ref b130), .val (.ref b140), .val (.int (1 : Int32)), .val (.int (nar .byte (nar .byte ((p1).toInt8.toInt32)))), .val (.int (4 : Int32))]) rfl ?_
            show Steps p.tables e below (T170.setTop (mkF m 301 #[.val (.int p0), .val (.int p1), .val (.int p2), .val (.int p3), .val (.int p4), .val (.int (4 : Int32)), .val (.ref b130), .val (.ref b140), .val (.int (1 : Int32)), .val (.int (nar .byte (nar .byte ((p1).toInt8.toInt32)))), .val (.int (4 : Int32))] [])) _
            refine XS.iload X170.here hx rfl (hb hby at_301) rfl ?_
            show Steps p.tables e below (T170.setTop (mkF m 303 #[.val (.int p0), .val (.int p1), .val (.int p2), .val (.int p3), .val (.int p4), .val (.int (4 : Int32)), .val (.ref b130), .val (.ref b140), .val (.int (1 : Int32)), .val (.int (nar .byte (nar .byte ((p1).toInt8.toInt32)))), .val (.int (4 : Int32))] [(.int (1 : Int32))])) _
            refine XS.ifNo X170.here hx rfl (hb hby at_303) rfl (XT.i0_eq_f (by decide)) ?_
            show Steps p.tables e below (T170.setTop (mkF m 306 #[.val (.int p0), .val (.int p1), .val (.int p2), .val (.int p3), .val (.int p4), .val (.int (4 : Int32)), .val (.ref b130), .val (.ref b140), .val (.int (1 : Int32)), .val (.int (nar .byte (nar .byte ((p1).toInt8.toInt32)))), .val (.int (4 : Int32))] [])) _
            refine XS.aload X170.here hx rfl (hb hby at_306) rfl rfl ?_
            show Steps p.tables e below (T170.setTop (mkF m 308 #[.val (.int p0), .val (.int p1), .val (.int p2), .val (.int p3), .val (.int p4), .val (.int (4 : Int32)), .val (.ref b130), .val (.ref b140), .val (.int (1 : Int32)), .val (.int (nar .byte (nar .byte ((p1).toInt8.toInt32)))), .val (.int (4 : Int32))] [(.ref b140)])) _
            refine st174.trans ?_
            show Steps p.tables e below (T174.setTop (mkF m 311 #[.val (.int p0), .val (.int p1), .val (.int p2), .val (.int p3), .val (.int p4), .val (.int (4 : Int32)), .val (.ref b130), .val (.ref b140), .val (.int (1 : Int32)), .val (.int (nar .byte (nar .byte ((p1).toInt8.toInt32)))), .val (.int (4 : Int32))] [(.int (F5 (4 : Int32) (4 : Int32)))])) _
            refine XS.iload X174.here hx rfl (hb hby at_311) rfl ?_
            show Steps p.tables e below (T174.setTop (mkF m 313 #[.val (.int p0), .val (.int p1), .val (.int p2), .val (.int p3), .val (.int p4), .val (.int (4 : Int32)), .val (.ref b130), .val (.ref b140), .val (.int (1 : Int32)), .val (.int (nar .byte (nar .byte ((p1).toInt8.toInt32)))), .val (.int (4 : Int32))] [(.int (4 : Int32)), (.int (F5 (4 : Int32) (4 : Int32)))])) _
            refine XS.iload X174.here hx rfl (hb hby at_313) rfl ?_
            show Steps p.tables e below (T174.setTop (mkF m 315 #[.val (.int p0), .val (.int p1), .val (.int p2), .val (.int p3), .val (.int p4), .val (.int (4 : Int32)), .val (.ref b130), .val (.ref b140), .val (.int (1 : Int32)), .val (.int (nar .byte (nar .byte ((p1).toInt8.toInt32)))), .val (.int (4 : Int32))] [(.int (4 : Int32)), (.int (4 : Int32)), (.int (F5 (4 : Int32) (4 : Int32)))])) _
            refine XS.icmpNo X174.here hx rfl (hb hby at_315) rfl (XT.ii_ne_f rfl) ?_
            show Steps p.tables e below (T174.setTop (mkF m 318 #[.val (.int p0), .val (.int p1), .val (.int p2), .val (.int p3), .val (.int p4), .val (.int (4 : Int32)), .val (.ref b130), .val (.ref b140), .val (.int (1 : Int32)), .val (.int (nar .byte (nar .byte ((p1).toInt8.toInt32)))), .val (.int (4 : Int32))] [(.int (F5 (4 : Int32) (4 : Int32)))])) _
            refine XS.iconst X174.here hx rfl (hb hby at_318) ?_
            show Steps p.tables e below (T174.setTop (mkF m 319 #[.val (.int p0), .val (.int p1), .val (.int p2), .val (.int p3), .val (.int p4), .val (.int (4 : Int32)), .val (.ref b130), .val (.ref b140), .val (.int (1 : Int32)), .val (.int (nar .byte (nar .byte ((p1).toInt8.toInt32)))), .val (.int (4 : Int32))] [(.int (1 : Int32)), (.int (F5 (4 : Int32) (4 : Int32)))])) _
            refine XS.goto X174.here hx rfl (pc0 := 319) (pc' := 323) rfl (hb hby at_319) (by decide) (by decide) ?_
            show Steps p.tables e below (T174.setTop (mkF m 323 #[.val (.int p0), .val (.int p1), .val (.int p2), .val (.int p3), .val (.int p4), .val (.int (4 : Int32)), .val (.ref b130), .val (.ref b140), .val (.int (1 : Int32)), .val (.int (nar .byte (nar .byte ((p1).toInt8.toInt32)))), .val (.int (4 : Int32))] [(.int (1 : Int32)), (.int (F5 (4 : Int32) (4 : Int32)))])) _
            exact kk
          have P176 : ∀ t, Steps p.tables e below (T174.setTop (mkF m 335 #[.val (.int p0), .val (.int p1), .val (.int p2), .val (.int p3), .val (.int p4), .val (.int (4 : Int32)), .val (.ref b130), .val (.ref b140), .val (.int (1 : Int32)), .val (.int (nar .byte (nar .byte ((p1).toInt8.toInt32)))), .val (.int (4 : Int32))] [(.int (1 : Int32))])) t → Steps p.tables e below (s₁.setTop (entryFrame m #[(.int p0), (.int p1), (.int p2), (.int p3), (.int p4)] maxLocals)) t := by
            intro t kk
            refine P175 _ ?_
            show Steps p.tables e below (T174.setTop (mkF m 323 #[.val (.int p0), .val (.int p1), .val (.int p2), .val (.int p3), .val (.int p4), .val (.int (4 : Int32)), .val (.ref b130), .val (.ref b140), .val (.int (1 : Int32)), .val (.int (nar .byte (nar .byte ((p1).toInt8.toInt32)))), .val (.int (4 : Int32))] [(.int (1 : Int32)), (.int (F5 (4 : Int32) (4 : Int32)))])) _
            refine XS.icmpNo X174.here hx rfl (hb hby at_323) rfl (XT.ii_ne_f (by decide)) ?_
            show Steps p.tables e below (T174.setTop (mkF m 326 #[.val (.int p0), .val (.int p1), .val (.int p2), .val (.int p3), .val (.int p4), .val (.int (4 : Int32)), .val (.ref b130), .val (.ref b140), .val (.int (1 : Int32)), .val (.int (nar .byte (nar .byte ((p1).toInt8.toInt32)))), .val (.int (4 : Int32))] [])) _
            refine XS.iconst X174.here hx rfl (hb hby at_326) ?_
            show Steps p.tables e below (T174.setTop (mkF m 327 #[.val (.int p0), .val (.int p1), .val (.int p2), .val (.int p3), .val (.int p4), .val (.int (4 : Int32)), .val (.ref b130), .val (.ref b140), .val (.int (1 : Int32)), .val (.int (nar .byte (nar .byte ((p1).toInt8.toInt32)))), .val (.int (4 : Int32))] [(.int (1 : Int32))])) _
            refine XS.goto X174.here hx rfl (pc0 := 327) (pc' := 331) rfl (hb hby at_327) (by decide) (by decide) ?_
            show Steps p.tables e below (T174.setTop (mkF m 331 #[.val (.int p0), .val (.int p1), .val (.int p2), .val (.int p3), .val (.int p4), .val (.int (4 : Int32)), .val (.ref b130), .val (.ref b140), .val (.int (1 : Int32)), .val (.int (nar .byte (nar .byte ((p1).toInt8.toInt32)))), .val (.int (4 : Int32))] [(.int (1 : Int32))])) _
            refine XS.istore X174.here hx rfl (hb hby at_331) rfl (l' := #[.val (.int p0), .val (.int p1), .val (.int p2), .val (.int p3), .val (.int p4), .val (.int (4 : Int32)), .val (.ref b130), .val (.ref b140), .val (.int (1 : Int32)), .val (.int (nar .byte (nar .byte ((p1).toInt8.toInt32)))), .val (.int (4 : Int32))]) rfl ?_
            show Steps p.tables e below (T174.setTop (mkF m 333 #[.val (.int p0), .val (.int p1), .val (.int p2), .val (.int p3), .val (.int p4), .val (.int (4 : Int32)), .val (.ref b130), .val (.ref b140), .val (.int (1 : Int32)), .val (.int (nar .byte (nar .byte ((p1).toInt8.toInt32)))), .val (.int (4 : Int32))] [])) _
            refine XS.iload X174.here hx rfl (hb hby at_333) rfl ?_
            show Steps p.tables e below (T174.setTop (mkF m 335 #[.val (.int p0), .val (.int p1), .val (.int p2), .val (.int p3), .val (.int p4), .val (.int (4 : Int32)), .val (.ref b130), .val (.ref b140), .val (.int (1 : Int32)), .val (.int (nar .byte (nar .byte ((p1).toInt8.toInt32)))), .val (.int (4 : Int32))] [(.int (1 : Int32))])) _
            exact kk
          obtain ⟨fs, hr, hrun, hended, hW, hsame⟩ := X174.leave (v := some (.int (1 : Int32))) (fun h => by rw [Bd.returns] at h; cases h)
          refine ⟨_, _, P176 _ ?_, hrun, hended, _, _, rfl, ?_, ⟨_, rfl⟩, hW, hsame.mono (by decide) (by decide)⟩
          · exact retN X174 hx (t := .boolean) Bd.returns (by simp) (hb hby at_335) hr
          · exact ⟨rfl, N174⟩
      · skip
        obtain ⟨cq177, kq177, q177a, q177b, q177c⟩ := isOf hZ e155 f157
        obtain ⟨_, _, ⟨T177, L177, k177, n177⟩, -, X177, ⟨Lc177, hQ177, l177, y177, z177⟩, st177⟩ := X155.virtualBack hx (y := (⟨"com/example/meterwright/meterwright/RecordBody$Reader", "number", "()J"⟩ : MethodName)) (z := (⟨"com/example/meterwright/meterwright/RecordBody$Reader", "number", "()J"⟩ : MethodName)) hown (mvT hZ (hw _ (List.mem_of_getElem? (i := 51) rfl))) (mvT hZ (hw _ (List.mem_of_getElem? (i := 52) rfl))) (notFace_of_selects (args := #[]) (mvT hZ (hw _ (List.mem_of_getElem? (i := 54) rfl)))) (mvT hZ (hw _ (List.mem_of_getElem? (i := 54) rfl))) (mvT hZ (hw _ (List.mem_of_getElem? (i := 53) rfl))) (by decide) (backOf (W := 0) (rm10 l Z a0 hw [] b140 b130 k130 (4 : Int32) [(.int (nar .byte ((p1).toInt8.toInt32))), (.int (nar .byte ((p2).toInt8.toInt32))), (.int (nar .byte ((p3).toInt8.toInt32))), (.int (nar .byte ((p4).toInt8.toInt32)))] (.int (0 : Int32)) (nar .byte ((p2).toInt8.toInt32)) (nar .byte ((p3).toInt8.toInt32)) T152.heap n0 z156 f157 q152_0' q152_1 f153 ge_b140 ne_b130_b140 (by decide) rfl c161 (by decide) rfl c164) hZ (hw _ (List.mem_of_getElem? (i := 55) rfl)) (hw _ (List.mem_of_getElem? (i := 4) rfl)) (by decide) (by decide)) q177a q177c (g := (mkF m 265 #[.val (.int p0), .val (.int p1), .val (.int p2), .val (.int p3), .val (.int p4), .val (.int (4 : Int32)), .val (.ref b130), .val (.ref b140), .val (.int (1 : Int32)), .val (.int (nar .byte (nar .byte ((p1).toInt8.toInt32)))), .val (.int (3 : Int32))] [(.ref b140)])) rfl (by rw [hml]; rfl) (Steps.refl _) (argsL := []) (rest := []) (lenOf pd_1 rfl) rfl (by show 2 * 0 + _ ≤ _; exact Nat.le_of_eq rfl) (hb hby at_265) (fun _ _ => ⟨rfl, e155, (by decide : 3 + 0 ≤ _), (by decide : 11 + 0 ≤ _)⟩)
        dsimp only [Pt.U, Pt.locs, Pt.cells, Pt.slots] at X177 l177 y177 z177 st177 hQ177
        subst l177 y177 z177
        obtain ⟨r_177, rfl, Nq177, K177, q177_0, q177_1⟩ := hQ177
        have N177 := Fr.app N155 Nq177
        have f179 := (Arv.keep f153 K177 (ninS ne_b130_b140 nin0))
        have z180 : n0 ≤ _ := (Nat.le_trans z156 K177.1)
        have f181 := (Exa.keep f157 K177)
        obtain ⟨cq178, kq178, q178a, q178b, q178c⟩ := isOf hZ rfl f181
        obtain ⟨_, _, ⟨T178, L178, k178, n178⟩, -, X178, ⟨Lc178, hQ178, l178, y178, z178⟩, st178⟩ := X177.virtualBack hx (y := (⟨"com/example/meterwright/meterwright/RecordBody$Reader", "atEnd", "()Z"⟩ : MethodName)) (z := (⟨"com/example/meterwright/meterwright/RecordBody$Reader", "atEnd", "()Z"⟩ : MethodName)) hown (mvT hZ (hw _ (List.mem_of_getElem? (i := 39) rfl))) (mvT hZ (hw _ (List.mem_of_getElem? (i := 40) rfl))) (notFace_of_selects (args := #[]) (mvT hZ (hw _ (List.mem_of_getElem? (i := 42) rfl)))) (mvT hZ (hw _ (List.mem_of_getElem? (i := 42) rfl))) (mvT hZ (hw _ (List.mem_of_getElem? (i := 41) rfl))) (by decide) (backOf (W := 0) (rm5 l Z a0 hw [] b140 (3 : Int32) b130 k130 (4 : Int32) [(.int (nar .byte ((p1).toInt8.toInt32))), (.int (nar .byte ((p2).toInt8.toInt32))), (.int (nar .byte ((p3).toInt8.toInt32))), (.int (nar .byte ((p4).toInt8.toInt32)))] (.int (0 : Int32)) T177.heap n0 z180 q177_0 q177_1 f179) hZ (hw _ (List.mem_of_getElem? (i := 43) rfl)) (hw _ (List.mem_of_getElem? (i := 4) rfl)) (by decide) (by decide)) q178a q178c (g := (mkF m 276 #[.val (.int p0), .val (.int p1), .val (.int p2), .val (.int p3), .val (.int p4), .val (.int (4 : Int32)), .val (.ref b130), .val (.ref b140), .val (.int (1 : Int32)), .val (.int (nar .byte (nar .byte ((p1).toInt8.toInt32)))), .val (.int (3 : Int32))] [(.ref b140)])) rfl (by rw [hml]; rfl) (Steps.refl _) (argsL := []) (rest := []) (lenOf pd_3 rfl) rfl (by show 2 * 0 + _ ≤ _; exact Nat.le_of_eq rfl) (hb hby at_276) (fun _ _ => ⟨rfl, rfl, (by decide : 3 + 0 ≤ _), (by decide : 11 + 0 ≤ _)⟩)
        dsimp only [Pt.U, Pt.locs, Pt.cells, Pt.slots] at X178 l178 y178 z178 st178 hQ178
        subst l178 y178 z178
        obtain ⟨rfl, Nq178, e178⟩ := hQ178
        have N178 := Fr.app N177 Nq178
        obtain ⟨cq182, kq182, q182a, q182b, q182c⟩ := isOf hZ e178 f181
        obtain ⟨_, _, ⟨T182, L182, k182, n182⟩, -, X182, ⟨Lc182, hQ182, l182, y182, z182⟩, st182⟩ := X178.virtualBack hx (y := (⟨"com/example/meterwright/meterwright/RecordBody$Reader", "atEnd", "()Z"⟩ : MethodName)) (z := (⟨"com/example/meterwright/meterwright/RecordBody$Reader", "atEnd", "()Z"⟩ : MethodName)) hown (mvT hZ (hw _ (List.mem_of_getElem? (i := 39) rfl))) (mvT hZ (hw _ (List.mem_of_getElem? (i := 40) rfl))) (notFace_of_selects (args := #[]) (mvT hZ (hw _ (List.mem_of_getElem? (i := 42) rfl)))) (mvT hZ (hw _ (List.mem_of_getElem? (i := 42) rfl))) (mvT hZ (hw _ (List.mem_of_getElem? (i := 41) rfl))) (by decide) (backOf (W := 0) (rm5 l Z a0 hw [] b140 (3 : Int32) b130 k130 (4 : Int32) [(.int (nar .byte ((p1).toInt8.toInt32))), (.int (nar .byte ((p2).toInt8.toInt32))), (.int (nar .byte ((p3).toInt8.toInt32))), (.int (nar .byte ((p4).toInt8.toInt32)))] (.int (0 : Int32)) T177.heap n0 z180 q177_0 q177_1 f179) hZ (hw _ (List.mem_of_getElem? (i := 43) rfl)) (hw _ (List.mem_of_getElem? (i := 4) rfl)) (by decide) (by decide)) q182a q182c (g := (mkF m 308 #[.val (.int p0), .val (.int p1), .val (.int p2), .val (.int p3), .val (.int p4), .val (.int (4 : Int32)), .val (.ref b130), .val (.ref b140), .val (.int (1 : Int32)), .val (.int (nar .byte (nar .byte ((p1).toInt8.toInt32)))), .val (.int (3 : Int32))] [(.ref b140)])) rfl (by rw [hml]; rfl) (Steps.refl _) (argsL := []) (rest := []) (lenOf pd_3 rfl) rfl (by show 2 * 0 + _ ≤ _; exact Nat.le_of_eq rfl) (hb hby at_308) (fun _ _ => ⟨rfl, e178, (by decide : 3 + 0 ≤ _), (by decide : 11 + 0 ≤ _)⟩)
        dsimp only [Pt.U, Pt.locs, Pt.cells, Pt.slots] at X182 l182 y182 z182 st182 hQ182
        subst l182 y182 z182
        obtain ⟨rfl, Nq182, e182⟩ := hQ182
        have N182 := Fr.app N178 Nq182
        have P183 : ∀ t, Steps p.tables e below (T182.setTop (mkF m 326 #[.val (.int p0), .val (.int p1), .val (.int p2), .val (.int p3), .val (.int p4), .val (.int (4 : Int32)), .val (.ref b130), .val (.ref b140), .val (.int (1 : Int32)), .val (.int (nar .byte (nar .byte ((p1).toInt8.toInt32)))), .val (.int (3 : Int32))] [])) t → Steps p.tables e below (s₁.setTop (entryFrame m #[(.int p0), (.int p1), (.int p2), (.int p3), (.int p4)] maxLocals)) t := by
          intro t kk
          refine P163 _ ?_
          show Steps p.tables e below (T155.setTop (mkF m 230 #[.val (.int p0), .val (.int p1), .val (.int p2), .val (.int p3), .val (.int p4), .val (.int (4 : Int32)), .val (.ref b130), .val (.ref b140), .val (.int (1 : Int32)), .val (.int (nar .byte (nar .byte ((p1).toInt8.toInt32)))), .val (.int (-1 : Int32))] [(.int (nar .byte ((p3).toInt8.toInt32)))])) _
          refine XS.ifNo X155.here hx rfl (hb hby at_230) rfl (XT.i0_lt_f c164) ?_
          show Steps p.tables e below (T155.setTop (mkF m 233 #[.val (.int p0), .val (.int p1), .val (.int p2), .val (.int p3), .val (.int p4), .val (.int (4 : Int32)), .val (.ref b130), .val (.ref b140), .val (.int (1 : Int32)), .val (.int (nar .byte (nar .byte ((p1).toInt8.toInt32)))), .val (.int (-1 : Int32))] [])) _
          refine XS.iconst X155.here hx rfl (hb hby at_233) ?_
          show Steps p.tables e below (T155.setTop (mkF m 234 #[.val (.int p0), .val (.int p1), .val (.int p2), .val (.int p3), .val (.int p4), .val (.int (4 : Int32)), .val (.ref b130), .val (.ref b140), .val (.int (1 : Int32)), .val (.int (nar .byte (nar .byte ((p1).toInt8.toInt32)))), .val (.int (-1 : Int32))] [(.int (3 : Int32))])) _
          refine XS.istore X155.here hx rfl (hb hby at_234) rfl (l' := #[.val (.int p0), .val (.int p1), .val (.int p2), .val (.int p3), .val (.int p4), .val (.int (4 : Int32)), .val (.ref b130), .val (.ref b140), .val (.int (1 : Int32)), .val (.int (nar .byte (nar .byte ((p1).toInt8.toInt32)))), .val (.int (3 : Int32))]) rfl ?_
          show Steps p.tables e below (T155.setTop (mkF m 236 #[.val (.int p0), .val (.int p1), .val (.int p2), .val (.int p3), .val (.int p4), .val (.int (4 : Int32)), .val (.ref b130), .val (.ref b140), .val (.int (1 : Int32)), .val (.int (nar .byte (nar .byte ((p1).toInt8.toInt32)))), .val (.int (3 : Int32))] [])) _
          refine XS.goto X155.here hx rfl (pc0 := 236) (pc' := 255) rfl (hb hby at_236) (by decide) (by decide) ?_
          show Steps p.tables e below (T155.setTop (mkF m 255 #[.val (.int p0), .val (.int p1), .val (.int p2), .val (.int p3), .val (.int p4), .val (.int (4 : Int32)), .val (.ref b130), .val (.ref b140), .val (.int (1 : Int32)), .val (.int (nar .byte (nar .byte ((p1).toInt8.toInt32)))), .val (.int (3 : Int32))] [])) _
          refine XS.iload X155.here hx rfl (hb hby at_255) rfl ?_
          show Steps p.tables e below (T155.setTop (mkF m 257 #[.val (.int p0), .val (.int p1), .val (.int p2), .val (.int p3), .val (.int p4), .val (.int (4 : Int32)), .val (.ref b130), .val (.ref b140), .val (.int (1 : Int32)), .val (.int (nar .byte (nar .byte ((p1).toInt8.toInt32)))), .val (.int (3 : Int32))] [(.int (3 : Int32))])) _
          refine XS.ifYes X155.here hx rfl (pc0 := 257) (pc' := 263) rfl (hb hby at_257) rfl (XT.i0_ge_t (by decide)) (by decide) (by decide) ?_
          show Steps p.tables e below (T155.setTop (mkF m 263 #[.val (.int p0), .val (.int p1), .val (.int p2), .val (.int p3), .val (.int p4), .val (.int (4 : Int32)), .val (.ref b130), .val (.ref b140), .val (.int (1 : Int32)), .val (.int (nar .byte (nar .byte ((p1).toInt8.toInt32)))), .val (.int (3 : Int32))] [])) _
          refine XS.aload X155.here hx rfl (hb hby at_263) rfl rfl ?_
          show Steps p.tables e below (T155.setTop (mkF m 265 #[.val (.int p0), .val (.int p1), .val (.int p2), .val (.int p3), .val (.int p4), .val (.int (4 : Int32)), .val (.ref b130), .val (.ref b140), .val (.int (1 : Int32)), .val (.int (nar .byte (nar .byte ((p1).toInt8.toInt32)))), .val (.int (3 : Int32))] [(.ref b140)])) _
          refine st177.trans ?_
          show Steps p.tables e below (T177.setTop (mkF m 268 #[.val (.int p0), .val (.int p1), .val (.int p2), .val (.int p3), .val (.int p4), .val (.int (4 : Int32)), .val (.ref b130), .val (.ref b140), .val (.int (1 : Int32)), .val (.int (nar .byte (nar .byte ((p1).toInt8.toInt32)))), .val (.int (3 : Int32))] [(.long r_177)])) _
          jvm_step X177.here [X177.here.top, hx, (hb hby at_268), Value.category]
          show Steps p.tables e below (T177.setTop (mkF m 269 #[.val (.int p0), .val (.int p1), .val (.int p2), .val (.int p3), .val (.int p4), .val (.int (4 : Int32)), .val (.ref b130), .val (.ref b140), .val (.int (1 : Int32)), .val (.int (nar .byte (nar .byte ((p1).toInt8.toInt32)))), .val (.int (3 : Int32))] [])) _
          refine XS.iload X177.here hx rfl (hb hby at_269) rfl ?_
          show Steps p.tables e below (T177.setTop (mkF m 271 #[.val (.int p0), .val (.int p1), .val (.int p2), .val (.int p3), .val (.int p4), .val (.int (4 : Int32)), .val (.ref b130), .val (.ref b140), .val (.int (1 : Int32)), .val (.int (nar .byte (nar .byte ((p1).toInt8.toInt32)))), .val (.int (3 : Int32))] [(.int (1 : Int32))])) _
          refine XS.ifNo X177.here hx rfl (hb hby at_271) rfl (XT.i0_eq_f (by decide)) ?_
          show Steps p.tables e below (T177.setTop (mkF m 274 #[.val (.int p0), .val (.int p1), .val (.int p2), .val (.int p3), .val (.int p4), .val (.int (4 : Int32)), .val (.ref b130), .val (.ref b140), .val (.int (1 : Int32)), .val (.int (nar .byte (nar .byte ((p1).toInt8.toInt32)))), .val (.int (3 : Int32))] [])) _
          refine XS.aload X177.here hx rfl (hb hby at_274) rfl rfl ?_
          show Steps p.tables e below (T177.setTop (mkF m 276 #[.val (.int p0), .val (.int p1), .val (.int p2), .val (.int p3), .val (.int p4), .val (.int (4 : Int32)), .val (.ref b130), .val (.ref b140), .val (.int (1 : Int32)), .val (.int (nar .byte (nar .byte ((p1).toInt8.toInt32)))), .val (.int (3 : Int32))] [(.ref b140)])) _
          refine st178.trans ?_
          show Steps p.tables e below (T178.setTop (mkF m 279 #[.val (.int p0), .val (.int p1), .val (.int p2), .val (.int p3), .val (.int p4), .val (.int (4 : Int32)), .val (.ref b130), .val (.ref b140), .val (.int (1 : Int32)), .val (.int (nar .byte (nar .byte ((p1).toInt8.toInt32)))), .val (.int (3 : Int32))] [(.int (F5 (3 : Int32) (4 : Int32)))])) _
          refine XS.iload X178.here hx rfl (hb hby at_279) rfl ?_
          show Steps p.tables e below (T178.setTop (mkF m 281 #[.val (.int p0), .val (.int p1), .val (.int p2), .val (.int p3), .val (.int p4), .val (.int (4 : Int32)), .val (.ref b130), .val (.ref b140), .val (.int (1 : Int32)), .val (.int (nar .byte (nar .byte ((p1).toInt8.toInt32)))), .val (.int (3 : Int32))] [(.int (3 : Int32)), (.int (F5 (3 : Int32) (4 : Int32)))])) _
          refine XS.iload X178.here hx rfl (hb hby at_281) rfl ?_
          show Steps p.tables e below (T178.setTop (mkF m 283 #[.val (.int p0), .val (.int p1), .val (.int p2), .val (.int p3), .val (.int p4), .val (.int (4 : Int32)), .val (.ref b130), .val (.ref b140), .val (.int (1 : Int32)), .val (.int (nar .byte (nar .byte ((p1).toInt8.toInt32)))), .val (.int (3 : Int32))] [(.int (4 : Int32)), (.int (3 : Int32)), (.int (F5 (3 : Int32) (4 : Int32)))])) _
          refine XS.icmpYes X178.here hx rfl (pc0 := 283) (pc' := 290) rfl (hb hby at_283) rfl (XT.ii_ne_t (by decide)) (by decide) (by decide) ?_
          show Steps p.tables e below (T178.setTop (mkF m 290 #[.val (.int p0), .val (.int p1), .val (.int p2), .val (.int p3), .val (.int p4), .val (.int (4 : Int32)), .val (.ref b130), .val (.ref b140), .val (.int (1 : Int32)), .val (.int (nar .byte (nar .byte ((p1).toInt8.toInt32)))), .val (.int (3 : Int32))] [(.int (F5 (3 : Int32) (4 : Int32)))])) _
          refine XS.iconst X178.here hx rfl (hb hby at_290) ?_
          show Steps p.tables e below (T178.setTop (mkF m 291 #[.val (.int p0), .val (.int p1), .val (.int p2), .val (.int p3), .val (.int p4), .val (.int (4 : Int32)), .val (.ref b130), .val (.ref b140), .val (.int (1 : Int32)), .val (.int (nar .byte (nar .byte ((p1).toInt8.toInt32)))), .val (.int (3 : Int32))] [(.int (0 : Int32)), (.int (F5 (3 : Int32) (4 : Int32)))])) _
          refine XS.icmpNo X178.here hx rfl (hb hby at_291) rfl (XT.ii_ne_f (by decide)) ?_
          show Steps p.tables e below (T178.setTop (mkF m 294 #[.val (.int p0), .val (.int p1), .val (.int p2), .val (.int p3), .val (.int p4), .val (.int (4 : Int32)), .val (.ref b130), .val (.ref b140), .val (.int (1 : Int32)), .val (.int (nar .byte (nar .byte ((p1).toInt8.toInt32)))), .val (.int (3 : Int32))] [])) _
          refine XS.iconst X178.here hx rfl (hb hby at_294) ?_
          show Steps p.tables e below (T178.setTop (mkF m 295 #[.val (.int p0), .val (.int p1), .val (.int p2), .val (.int p3), .val (.int p4), .val (.int (4 : Int32)), .val (.ref b130), .val (.ref b140), .val (.int (1 : Int32)), .val (.int (nar .byte (nar .byte ((p1).toInt8.toInt32)))), .val (.int (3 : Int32))] [(.int (1 : Int32))])) _
          refine XS.goto X178.here hx rfl (pc0 := 295) (pc' := 299) rfl (hb hby at_295) (by decide) (by decide) ?_
          show Steps p.tables e below (T178.setTop (mkF m 299 #[.val (.int p0), .val (.int p1), .val (.int p2), .val (.int p3), .val (.int p4), .val (.int (4 : Int32)), .val (.ref b130), .val (.ref b140), .val (.int (1 : Int32)), .val (.int (nar .byte (nar .byte ((p1).toInt8.toInt32)))), .val (.int (3 : Int32))] [(.int (1 : Int32))])) _
          refine XS.istore X178.here hx rfl (hb hby at_299) rfl (l' := #[.val (.int p0), .val (.int p1), .val (.int p2), .val (.int p3), .val (.int p4), .val (.int (4 : Int32)), .val (.ref b130), .val (.ref b140), .val (.int (1 : Int32)), .val (.int (nar .byte (nar .byte ((p1).toInt8.toInt32)))), .val (.int (3 : Int32))]) rfl ?_
          show Steps p.tables e below (T178.setTop (mkF m 301 #[.val (.int p0), .val (.int p1), .val (.int p2), .val (.int p3), .val (.int p4), .val (.int (4 : Int32)), .val (.ref b130), .val (.ref b140), .val (.int (1 : Int32)), .val (.int (nar .byte (nar .byte ((p1).toInt8.toInt32)))), .val (.int (3 : Int32))] [])) _
          refine XS.iload X178.here hx rfl (hb hby at_301) rfl ?_
          show Steps p.tables e below (T178.setTop (mkF m 303 #[.val (.int p0), .val (.int p1), .val (.int p2), .val (.int p3), .val (.int p4), .val (.int (4 : Int32)), .val (.ref b130), .val (.ref b140), .val (.int (1 : Int32)), .val (.int (nar .byte (nar .byte ((p1).toInt8.toInt32)))), .val (.int (3 : Int32))] [(.int (1 : Int32))])) _
          refine XS.ifNo X178.here hx rfl (hb hby at_303) rfl (XT.i0_eq_f (by decide)) ?_
          show Steps p.tables e below (T178.setTop (mkF m 306 #[.val (.int p0), .val (.int p1), .val (.int p2), .val (.int p3), .val (.int p4), .val (.int (4 : Int32)), .val (.ref b130), .val (.ref b140), .val (.int (1 : Int32)), .val (.int (nar .byte (nar .byte ((p1).toInt8.toInt32)))), .val (.int (3 : Int32))] [])) _
          refine XS.aload X178.here hx rfl (hb hby at_306) rfl rfl ?_
          show Steps p.tables e below (T178.setTop (mkF m 308 #[.val (.int p0), .val (.int p1), .val (.int p2), .val (.int p3), .val (.int p4), .val (.int (4 : Int32)), .val (.ref b130), .val (.ref b140), .val (.int (1 : Int32)), .val (.int (nar .byte (nar .byte ((p1).toInt8.toInt32)))), .val (.int (3 : Int32))] [(.ref b140)])) _
          refine st182.trans ?_
          show Steps p.tables e below (T182.setTop (mkF m 311 #[.val (.int p0), .val (.int p1), .val (.int p2), .val (.int p3), .val (.int p4), .val (.int (4 : Int32)), .val (.ref b130), .val (.ref b140), .val (.int (1 : Int32)), .val (.int (nar .byte (nar .byte ((p1).toInt8.toInt32)))), .val (.int (3 : Int32))] [(.int (F5 (3 : Int32) (4 : Int32)))])) _
          refine XS.iload X182.here hx rfl (hb hby at_311) rfl ?_
          show Steps p.tables e below (T182.setTop (mkF m 313 #[.val (.int p0), .val (.int p1), .val (.int p2), .val (.int p3), .val (.int p4), .val (.int (4 : Int32)), .val (.ref b130), .val (.ref b140), .val (.int (1 : Int32)), .val (.int (nar .byte (nar .byte ((p1).toInt8.toInt32)))), .val (.int (3 : Int32))] [(.int (3 : Int32)), (.int (F5 (3 : Int32) (4 : Int32)))])) _
          refine XS.iload X182.here hx rfl (hb hby at_313) rfl ?_
          show Steps p.tables e below (T182.setTop (mkF m 315 #[.val (.int p0), .val (.int p1), .val (.int p2), .val (.int p3), .val (.int p4), .val (.int (4 : Int32)), .val (.ref b130), .val (.ref b140), .val (.int (1 : Int32)), .val (.int (nar .byte (nar .byte ((p1).toInt8.toInt32)))), .val (.int (3 : Int32))] [(.int (4 : Int32)), (.int (3 : Int32)), (.int (F5 (3 : Int32) (4 : Int32)))])) _
          refine XS.icmpYes X182.here hx rfl (pc0 := 315) (pc' := 322) rfl (hb hby at_315) rfl (XT.ii_ne_t (by decide)) (by decide) (by decide) ?_
          show Steps p.tables e below (T182.setTop (mkF m 322 #[.val (.int p0), .val (.int p1), .val (.int p2), .val (.int p3), .val (.int p4), .val (.int (4 : Int32)), .val (.ref b130), .val (.ref b140), .val (.int (1 : Int32)), .val (.int (nar .byte (nar .byte ((p1).toInt8.toInt32)))), .val (.int (3 : Int32))] [(.int (F5 (3 : Int32) (4 : Int32)))])) _
          refine XS.iconst X182.here hx rfl (hb hby at_322) ?_
          show Steps p.tables e below (T182.setTop (mkF m 323 #[.val (.int p0), .val (.int p1), .val (.int p2), .val (.int p3), .val (.int p4), .val (.int (4 : Int32)), .val (.ref b130), .val (.ref b140), .val (.int (1 : Int32)), .val (.int (nar .byte (nar .byte ((p1).toInt8.toInt32)))), .val (.int (3 : Int32))] [(.int (0 : Int32)), (.int (F5 (3 : Int32) (4 : Int32)))])) _
          refine XS.icmpNo X182.here hx rfl (hb hby at_323) rfl (XT.ii_ne_f (by decide)) ?_
          show Steps p.tables e below (T182.setTop (mkF m 326 #[.val (.int p0), .val (.int p1), .val (.int p2), .val (.int p3), .val (.int p4), .val (.int (4 : Int32)), .val (.ref b130), .val (.ref b140), .val (.int (1 : Int32)), .val (.int (nar .byte (nar .byte ((p1).toInt8.toInt32)))), .val (.int (3 : Int32))] [])) _
          exact kk
        have P184 : ∀ t, Steps p.tables e below (T182.setTop (mkF m 335 #[.val (.int p0), .val (.int p1), .val (.int p2), .val (.int p3), .val (.int p4), .val (.int (4 : Int32)), .val (.ref b130), .val (.ref b140), .val (.int (1 : Int32)), .val (.int (nar .byte (nar .byte ((p1).toInt8.toInt32)))), .val (.int (3 : Int32))] [(.int (1 : Int32))])) t → Steps p.tables e below (s₁.setTop (entryFrame m #[(.int p0), (.int p1), (.int p2), (.int p3), (.int p4)] maxLocals)) t := by
          intro t kk
          refine P183 _ ?_
          show Steps p.tables e below (T182.setTop (mkF m 326 #[.val (.int p0), .val (.int p1), .val (.int p2), .val (.int p3), .val (.int p4), .val (.int (4 : Int32)), .val (.ref b130), .val (.ref b140), .val (.int (1 : Int32)), .val (.int (nar .byte (nar .byte ((p1).toInt8.toInt32)))), .val (.int (3 : Int32))] [])) _
          refine XS.iconst X182.here hx rfl (hb hby at_326) ?_
          show Steps p.tables e below (T182.setTop (mkF m 327 #[.val (.int p0), .val (.int p1), .val (.int p2), .val (.int p3), .val (.int p4), .val (.int (4 : Int32)), .val (.ref b130), .val (.ref b140), .val (.int (1 : Int32)), .val (.int (nar .byte (nar .byte ((p1).toInt8.toInt32)))), .val (.int (3 : Int32))] [(.int (1 : Int32))])) _
          refine XS.goto X182.here hx rfl (pc0 := 327) (pc' := 331) rfl (hb hby at_327) (by decide) (by decide) ?_
          show Steps p.tables e below (T182.setTop (mkF m 331 #[.val (.int p0), .val (.int p1), .val (.int p2), .val (.int p3), .val (.int p4), .val (.int (4 : Int32)), .val (.ref b130), .val (.ref b140), .val (.int (1 : Int32)), .val (.int (nar .byte (nar .byte ((p1).toInt8.toInt32)))), .val (.int (3 : Int32))] [(.int (1 : Int32))])) _
          refine XS.istore X182.here hx rfl (hb hby at_331) rfl (l' := #[.val (.int p0), .val (.int p1), .val (.int p2), .val (.int p3), .val (.int p4), .val (.int (4 : Int32)), .val (.ref b130), .val (.ref b140), .val (.int (1 : Int32)), .val (.int (nar .byte (nar .byte ((p1).toInt8.toInt32)))), .val (.int (3 : Int32))]) rfl ?_
          show Steps p.tables e below (T182.setTop (mkF m 333 #[.val (.int p0), .val (.int p1), .val (.int p2), .val (.int p3), .val (.int p4), .val (.int (4 : Int32)), .val (.ref b130), .val (.ref b140), .val (.int (1 : Int32)), .val (.int (nar .byte (nar .byte ((p1).toInt8.toInt32)))), .val (.int (3 : Int32))] [])) _
          refine XS.iload X182.here hx rfl (hb hby at_333) rfl ?_
          show Steps p.tables e below (T182.setTop (mkF m 335 #[.val (.int p0), .val (.int p1), .val (.int p2), .val (.int p3), .val (.int p4), .val (.int (4 : Int32)), .val (.ref b130), .val (.ref b140), .val (.int (1 : Int32)), .val (.int (nar .byte (nar .byte ((p1).toInt8.toInt32)))), .val (.int (3 : Int32))] [(.int (1 : Int32))])) _
          exact kk
        obtain ⟨fs, hr, hrun, hended, hW, hsame⟩ := X182.leave (v := some (.int (1 : Int32))) (fun h => by rw [Bd.returns] at h; cases h)
        refine ⟨_, _, P184 _ ?_, hrun, hended, _, _, rfl, ?_, ⟨_, rfl⟩, hW, hsame.mono (by decide) (by decide)⟩
        · exact retN X182 hx (t := .boolean) Bd.returns (by simp) (hb hby at_335) hr
        · exact ⟨rfl, N182⟩
    · skip
      obtain ⟨cq185, kq185, q185a, q185b, q185c⟩ := isOf hZ e155 f157
      obtain ⟨_, _, ⟨T185, L185, k185, n185⟩, -, X185, ⟨Lc185, hQ185, l185, y185, z185⟩, st185⟩ := X155.virtualBack hx (y := (⟨"com/example/meterwright/meterwright/RecordBody$Reader", "number", "()J"⟩ : MethodName)) (z := (⟨"com/example/meterwright/meterwright/RecordBody$Reader", "number", "()J"⟩ : MethodName)) hown (mvT hZ (hw _ (List.mem_of_getElem? (i := 51) rfl))) (mvT hZ (hw _ (List.mem_of_getElem? (i := 52) rfl))) (notFace_of_selects (args := #[]) (mvT hZ (hw _ (List.mem_of_getElem? (i := 54) rfl)))) (mvT hZ (hw _ (List.mem_of_getElem? (i := 54) rfl))) (mvT hZ (hw _ (List.mem_of_getElem? (i := 53) rfl))) (by decide) (backOf (W := 0) (rm8 l Z a0 hw [] b140 b130 k130 (4 : Int32) [(.int (nar .byte ((p1).toInt8.toInt32))), (.int (nar .byte ((p2).toInt8.toInt32))), (.int (nar .byte ((p3).toInt8.toInt32))), (.int (nar .byte ((p4).toInt8.toInt32)))] (.int (0 : Int32)) (nar .byte ((p2).toInt8.toInt32)) T152.heap n0 z156 f157 q152_0' q152_1 f153 ge_b140 ne_b130_b140 (by decide) rfl c161) hZ (hw _ (List.mem_of_getElem? (i := 55) rfl)) (hw _ (List.mem_of_getElem? (i := 4) rfl)) (by decide) (by decide)) q185a q185c (g := (mkF m 265 #[.val (.int p0), .val (.int p1), .val (.int p2), .val (.int p3), .val (.int p4), .val (.int (4 : Int32)), .val (.ref b130), .val (.ref b140), .val (.int (1 : Int32)), .val (.int (nar .byte (nar .byte ((p1).toInt8.toInt32)))), .val (.int (2 : Int32))] [(.ref b140)])) rfl (by rw [hml]; rfl) (Steps.refl _) (argsL := []) (rest := []) (lenOf pd_1 rfl) rfl (by show 2 * 0 + _ ≤ _; exact Nat.le_of_eq rfl) (hb hby at_265) (fun _ _ => ⟨rfl, e155, (by decide : 3 + 0 ≤ _), (by decide : 11 + 0 ≤ _)⟩)
      dsimp only [Pt.U, Pt.locs, Pt.cells, Pt.slots] at X185 l185 y185 z185 st185 hQ185
      subst l185 y185 z185
      obtain ⟨r_185, rfl, Nq185, K185, q185_0, q185_1⟩ := hQ185
      have N185 := Fr.app N155 Nq185
      have f187 := (Arv.keep f153 K185 (ninS ne_b130_b140 nin0))
      have z188 : n0 ≤ _ := (Nat.le_trans z156 K185.1)
      have f189 := (Exa.keep f157 K185)
      obtain ⟨cq186, kq186, q186a, q186b, q186c⟩ := isOf hZ rfl f189
      obtain ⟨_, _, ⟨T186, L186, k186, n186⟩, -, X186, ⟨Lc186, hQ186, l186, y186, z186⟩, st186⟩ := X185.virtualBack hx (y := (⟨"com/example/meterwright/meterwright/RecordBody$Reader", "atEnd", "()Z"⟩ : MethodName)) (z := (⟨"com/example/meterwright/meterwright/RecordBody$Reader", "atEnd", "()Z"⟩ : MethodName)) hown (mvT hZ (hw _ (List.mem_of_getElem? (i := 39) rfl))) (mvT hZ (hw _ (List.mem_of_getElem? (i := 40) rfl))) (notFace_of_selects (args := #[]) (mvT hZ (hw _ (List.mem_of_getElem? (i := 42) rfl)))) (mvT hZ (hw _ (List.mem_of_getElem? (i := 42) rfl))) (mvT hZ (hw _ (List.mem_of_getElem? (i := 41) rfl))) (by decide) (backOf (W := 0) (rm5 l Z a0 hw [] b140 (2 : Int32) b130 k130 (4 : Int32) [(.int (nar .byte ((p1).toInt8.toInt32))), (.int (nar .byte ((p2).toInt8.toInt32))), (.int (nar .byte ((p3).toInt8.toInt32))), (.int (nar .byte ((p4).toInt8.toInt32)))] (.int (0 : Int32)) T185.heap n0 z188 q185_0 q185_1 f187) hZ (hw _ (List.mem_of_getElem? (i := 43) rfl)) (hw _ (List.mem_of_getElem? (i := 4) rfl)) (by decide) (by decide)) q186a q186c (g := (mkF m 276 #[.val (.int p0), .val (.int p1), .val (.int p2), .val (.int p3), .val (.int p4), .val (.int (4 : Int32)), .val (.ref b130), .val (.ref b140), .val (.int (1 : Int32)), .val (.int (nar .byte (nar .byte ((p1).toInt8.toInt32)))), .val (.int (2 : Int32))] [(.ref b140)])) rfl (by rw [hml]; rfl) (Steps.refl _) (argsL := []) (rest := []) (lenOf pd_3 rfl) rfl (by show 2 * 0 + _ ≤ _; exact Nat.le_of_eq rfl) (hb hby at_276) (fun _ _ => ⟨rfl, rfl, (by decide : 3 + 0 ≤ _), (by decide : 11 + 0 ≤ _)⟩)
      dsimp only [Pt.U, Pt.locs, Pt.cells, Pt.slots] at X186 l186 y186 z186 st186 hQ186
      subst l186 y186 z186
      obtain ⟨rfl, Nq186, e186⟩ := hQ186
      have N186 := Fr.app N185 Nq186
      obtain ⟨cq190, kq190, q190a, q190b, q190c⟩ := isOf hZ e186 f189
      obtain ⟨_, _, ⟨T190, L190, k190, n190⟩, -, X190, ⟨Lc190, hQ190, l190, y190, z190⟩, st190⟩ := X186.virtualBack hx (y := (⟨"com/example/meterwright/meterwright/RecordBody$Reader", "atEnd", "()Z"⟩ : MethodName)) (z := (⟨"com/example/meterwright/meterwright/RecordBody$Reader", "atEnd", "()Z"⟩ : MethodName)) hown (mvT hZ (hw _ (List.mem_of_getElem? (i := 39) rfl))) (mvT hZ (hw _ (List.mem_of_getElem? (i := 40) rfl))) (notFace_of_selects (args := #[]) (mvT hZ (hw _ (List.mem_of_getElem? (i := 42) rfl)))) (mvT hZ (hw _ (List.mem_of_getElem? (i := 42) rfl))) (mvT hZ (hw _ (List.mem_of_getElem? (i := 41) rfl))) (by decide) (backOf (W := 0) (rm5 l Z a0 hw [] b140 (2 : Int32) b130 k130 (4 : Int32) [(.int (nar .byte ((p1).toInt8.toInt32))), (.int (nar .byte ((p2).toInt8.toInt32))), (.int (nar .byte ((p3).toInt8.toInt32))), (.int (nar .byte ((p4).toInt8.toInt32)))] (.int (0 : Int32)) T185.heap n0 z188 q185_0 q185_1 f187) hZ (hw _ (List.mem_of_getElem? (i := 43) rfl)) (hw _ (List.mem_of_getElem? (i := 4) rfl)) (by decide) (by decide)) q190a q190c (g := (mkF m 308 #[.val (.int p0), .val (.int p1), .val (.int p2), .val (.int p3), .val (.int p4), .val (.int (4 : Int32)), .val (.ref b130), .val (.ref b140), .val (.int (1 : Int32)), .val (.int (nar .byte (nar .byte ((p1).toInt8.toInt32)))), .val (.int (2 : Int32))] [(.ref b140)])) rfl (by rw [hml]; rfl) (Steps.refl _) (argsL := []) (rest := []) (lenOf pd_3 rfl) rfl (by show 2 * 0 + _ ≤ _; exact Nat.le_of_eq rfl) (hb hby at_308) (fun _ _ => ⟨rfl, e186, (by decide : 3 + 0 ≤ _), (by decide : 11 + 0 ≤ _)⟩)
      dsimp only [Pt.U, Pt.locs, Pt.cells, Pt.slots] at X190 l190 y190 z190 st190 hQ190
      subst l190 y190 z190
      obtain ⟨rfl, Nq190, e190⟩ := hQ190
      have N190 := Fr.app N186 Nq190
      have P191 : ∀ t, Steps p.tables e below (T190.setTop (mkF m 326 #[.val (.int p0), .val (.int p1), .val (.int p2), .val (.int p3), .val (.int p4), .val (.int (4 : Int32)), .val (.ref b130), .val (.ref b140), .val (.int (1 : Int32)), .val (.int (nar .byte (nar .byte ((p1).toInt8.toInt32)))), .val (.int (2 : Int32))] [])) t → Steps p.tables e below (s₁.setTop (entryFrame m #[(.int p0), (.int p1), (.int p2), (.int p3), (.int p4)] maxLocals)) t := by
        intro t kk
        refine P160 _ ?_
        show Steps p.tables e below (T155.setTop (mkF m 211 #[.val (.int p0), .val (.int p1), .val (.int p2), .val (.int p3), .val (.int p4), .val (.int (4 : Int32)), .val (.ref b130), .val (.ref b140), .val (.int (1 : Int32)), .val (.int (nar .byte (nar .byte ((p1).toInt8.toInt32)))), .val (.int (-1 : Int32))] [(.int (nar .byte ((p2).toInt8.toInt32)))])) _
        refine XS.ifNo X155.here hx rfl (hb hby at_211) rfl (XT.i0_lt_f c161) ?_
        show Steps p.tables e below (T155.setTop (mkF m 214 #[.val (.int p0), .val (.int p1), .val (.int p2), .val (.int p3), .val (.int p4), .val (.int (4 : Int32)), .val (.ref b130), .val (.ref b140), .val (.int (1 : Int32)), .val (.int (nar .byte (nar .byte ((p1).toInt8.toInt32)))), .val (.int (-1 : Int32))] [])) _
        refine XS.iconst X155.here hx rfl (hb hby at_214) ?_
        show Steps p.tables e below (T155.setTop (mkF m 215 #[.val (.int p0), .val (.int p1), .val (.int p2), .val (.int p3), .val (.int p4), .val (.int (4 : Int32)), .val (.ref b130), .val (.ref b140), .val (.int (1 : Int32)), .val (.int (nar .byte (nar .byte ((p1).toInt8.toInt32)))), .val (.int (-1 : Int32))] [(.int (2 : Int32))])) _
        refine XS.istore X155.here hx rfl (hb hby at_215) rfl (l' := #[.val (.int p0), .val (.int p1), .val (.int p2), .val (.int p3), .val (.int p4), .val (.int (4 : Int32)), .val (.ref b130), .val (.ref b140), .val (.int (1 : Int32)), .val (.int (nar .byte (nar .byte ((p1).toInt8.toInt32)))), .val (.int (2 : Int32))]) rfl ?_
        show Steps p.tables e below (T155.setTop (mkF m 217 #[.val (.int p0), .val (.int p1), .val (.int p2), .val (.int p3), .val (.int p4), .val (.int (4 : Int32)), .val (.ref b130), .val (.ref b140), .val (.int (1 : Int32)), .val (.int (nar .byte (nar .byte ((p1).toInt8.toInt32)))), .val (.int (2 : Int32))] [])) _
        refine XS.goto X155.here hx rfl (pc0 := 217) (pc' := 255) rfl (hb hby at_217) (by decide) (by decide) ?_
        show Steps p.tables e below (T155.setTop (mkF m 255 #[.val (.int p0), .val (.int p1), .val (.int p2), .val (.int p3), .val (.int p4), .val (.int (4 : Int32)), .val (.ref b130), .val (.ref b140), .val (.int (1 : Int32)), .val (.int (nar .byte (nar .byte ((p1).toInt8.toInt32)))), .val (.int (2 : Int32))] [])) _
        refine XS.iload X155.here hx rfl (hb hby at_255) rfl ?_
        show Steps p.tables e below (T155.setTop (mkF m 257 #[.val (.int p0), .val (.int p1), .val (.int p2), .val (.int p3), .val (.int p4), .val (.int (4 : Int32)), .val (.ref b130), .val (.ref b140), .val (.int (1 : Int32)), .val (.int (nar .byte (nar .byte ((p1).toInt8.toInt32)))), .val (.int (2 : Int32))] [(.int (2 : Int32))])) _
        refine XS.ifYes X155.here hx rfl (pc0 := 257) (pc' := 263) rfl (hb hby at_257) rfl (XT.i0_ge_t (by decide)) (by decide) (by decide) ?_
        show Steps p.tables e below (T155.setTop (mkF m 263 #[.val (.int p0), .val (.int p1), .val (.int p2), .val (.int p3), .val (.int p4), .val (.int (4 : Int32)), .val (.ref b130), .val (.ref b140), .val (.int (1 : Int32)), .val (.int (nar .byte (nar .byte ((p1).toInt8.toInt32)))), .val (.int (2 : Int32))] [])) _
        refine XS.aload X155.here hx rfl (hb hby at_263) rfl rfl ?_
        show Steps p.tables e below (T155.setTop (mkF m 265 #[.val (.int p0), .val (.int p1), .val (.int p2), .val (.int p3), .val (.int p4), .val (.int (4 : Int32)), .val (.ref b130), .val (.ref b140), .val (.int (1 : Int32)), .val (.int (nar .byte (nar .byte ((p1).toInt8.toInt32)))), .val (.int (2 : Int32))] [(.ref b140)])) _
        refine st185.trans ?_
        show Steps p.tables e below (T185.setTop (mkF m 268 #[.val (.int p0), .val (.int p1), .val (.int p2), .val (.int p3), .val (.int p4), .val (.int (4 : Int32)), .val (.ref b130), .val (.ref b140), .val (.int (1 : Int32)), .val (.int (nar .byte (nar .byte ((p1).toInt8.toInt32)))), .val (.int (2 : Int32))] [(.long r_185)])) _
        jvm_step X185.here [X185.here.top, hx, (hb hby at_268), Value.category]
        show Steps p.tables e below (T185.setTop (mkF m 269 #[.val (.int p0), .val (.int p1), .val (.int p2), .val (.int p3), .val (.int p4), .val (.int (4 : Int32)), .val (.ref b130), .val (.ref b140), .val (.int (1 : Int32)), .val (.int (nar .byte (nar .byte ((p1).toInt8.toInt32)))), .val (.int (2 : Int32))] [])) _
        refine XS.iload X185.here hx rfl (hb hby at_269) rfl ?_
        show Steps p.tables e below (T185.setTop (mkF m 271 #[.val (.int p0), .val (.int p1), .val (.int p2), .val (.int p3), .val (.int p4), .val (.int (4 : Int32)), .val (.ref b130), .val (.ref b140), .val (.int (1 : Int32)), .val (.int (nar .byte (nar .byte ((p1).toInt8.toInt32)))), .val (.int (2 : Int32))] [(.int (1 : Int32))])) _
        refine XS.ifNo X185.here hx rfl (hb hby at_271) rfl (XT.i0_eq_f (by decide)) ?_
        show Steps p.tables e below (T185.setTop (mkF m 274 #[.val (.int p0), .val (.int p1), .val (.int p2), .val (.int p3), .val (.int p4), .val (.int (4 : Int32)), .val (.ref b130), .val (.ref b140), .val (.int (1 : Int32)), .val (.int (nar .byte (nar .byte ((p1).toInt8.toInt32)))), .val (.int (2 : Int32))] [])) _
        refine XS.aload X185.here hx rfl (hb hby at_274) rfl rfl ?_
        show Steps p.tables e below (T185.setTop (mkF m 276 #[.val (.int p0), .val (.int p1), .val (.int p2), .val (.int p3), .val (.int p4), .val (.int (4 : Int32)), .val (.ref b130), .val (.ref b140), .val (.int (1 : Int32)), .val (.int (nar .byte (nar .byte ((p1).toInt8.toInt32)))), .val (.int (2 : Int32))] [(.ref b140)])) _
        refine st186.trans ?_
        show Steps p.tables e below (T186.setTop (mkF m 279 #[.val (.int p0), .val (.int p1), .val (.int p2), .val (.int p3), .val (.int p4), .val (.int (4 : Int32)), .val (.ref b130), .val (.ref b140), .val (.int (1 : Int32)), .val (.int (nar .byte (nar .byte ((p1).toInt8.toInt32)))), .val (.int (2 : Int32))] [(.int (F5 (2 : Int32) (4 : Int32)))])) _
        refine XS.iload X186.here hx rfl (hb hby at_279) rfl ?_
        show Steps p.tables e below (T186.setTop (mkF m 281 #[.val (.int p0), .val (.int p1), .val (.int p2), .val (.int p3), .val (.int p4), .val (.int (4 : Int32)), .val (.ref b130), .val (.ref b140), .val (.int (1 : Int32)), .val (.int (nar .byte (nar .byte ((p1).toInt8.toInt32)))), .val (.int (2 : Int32))] [(.int (2 : Int32)), (.int (F5 (2 : Int32) (4 : Int32)))])) _
        refine XS.iload X186.here hx rfl (hb hby at_281) rfl ?_
        show Steps p.tables e below (T186.setTop (mkF m 283 #[.val (.int p0), .val (.int p1), .val (.int p2), .val (.int p3), .val (.int p4), .val (.int (4 : Int32)), .val (.ref b130), .val (.ref b140), .val (.int (1 : Int32)), .val (.int (nar .byte (nar .byte ((p1).toInt8.toInt32)))), .val (.int (2 : Int32))] [(.int (4 : Int32)), (.int (2 : Int32)), (.int (F5 (2 : Int32) (4 : Int32)))])) _
        refine XS.icmpYes X186.here hx rfl (pc0 := 283) (pc' := 290) rfl (hb hby at_283) rfl (XT.ii_ne_t (by decide)) (by decide) (by decide) ?_
        show Steps p.tables e below (T186.setTop (mkF m 290 #[.val (.int p0), .val (.int p1), .val (.int p2), .val (.int p3), .val (.int p4), .val (.int (4 : Int32)), .val (.ref b130), .val (.ref b140), .val (.int (1 : Int32)), .val (.int (nar .byte (nar .byte ((p1).toInt8.toInt32)))), .val (.int (2 : Int32))] [(.int (F5 (2 : Int32) (4 : Int32)))])) _
        refine XS.iconst X186.here hx rfl (hb hby at_290) ?_
        show Steps p.tables e below (T186.setTop (mkF m 291 #[.val (.int p0), .val (.int p1), .val (.int p2), .val (.int p3), .val (.int p4), .val (.int (4 : Int32)), .val (.ref b130), .val (.ref b140), .val (.int (1 : Int32)), .val (.int (nar .byte (nar .byte ((p1).toInt8.toInt32)))), .val (.int (2 : Int32))] [(.int (0 : Int32)), (.int (F5 (2 : Int32) (4 : Int32)))])) _
        refine XS.icmpNo X186.here hx rfl (hb hby at_291) rfl (XT.ii_ne_f (by decide)) ?_
        show Steps p.tables e below (T186.setTop (mkF m 294 #[.val (.int p0), .val (.int p1), .val (.int p2), .val (.int p3), .val (.int p4), .val (.int (4 : Int32)), .val (.ref b130), .val (.ref b140), .val (.int (1 : Int32)), .val (.int (nar .byte (nar .byte ((p1).toInt8.toInt32)))), .val (.int (2 : Int32))] [])) _
        refine XS.iconst X186.here hx rfl (hb hby at_294) ?_
        show Steps p.tables e below (T186.setTop (mkF m 295 #[.val (.int p0), .val (.int p1), .val (.int p2), .val (.int p3), .val (.int p4), .val (.int (4 : Int32)), .val (.ref b130), .val (.ref b140), .val (.int (1 : Int32)), .val (.int (nar .byte (nar .byte ((p1).toInt8.toInt32)))), .val (.int (2 : Int32))] [(.int (1 : Int32))])) _
        refine XS.goto X186.here hx rfl (pc0 := 295) (pc' := 299) rfl (hb hby at_295) (by decide) (by decide) ?_
        show Steps p.tables e below (T186.setTop (mkF m 299 #[.val (.int p0), .val (.int p1), .val (.int p2), .val (.int p3), .val (.int p4), .val (.int (4 : Int32)), .val (.ref b130), .val (.ref b140), .val (.int (1 : Int32)), .val (.int (nar .byte (nar .byte ((p1).toInt8.toInt32)))), .val (.int (2 : Int32))] [(.int (1 : Int32))])) _
        refine XS.istore X186.here hx rfl (hb hby at_299) rfl (l' := #[.val (.int p0), .val (.int p1), .val (.int p2), .val (.int p3), .val (.int p4), .val (.int (4 : Int32)), .val (.ref b130), .val (.ref b140), .val (.int (1 : Int32)), .val (.int (nar .byte (nar .byte ((p1).toInt8.toInt32)))), .val (.int (2 : Int32))]) rfl ?_
        show Steps p.tables e below (T186.setTop (mkF m 301 #[.val (.int p0), .val (.int p1), .val (.int p2), .val (.int p3), .val (.int p4), .val (.int (4 : Int32)), .val (.ref b130), .val (.ref b140), .val (.int (1 : Int32)), .val (.int (nar .byte (nar .byte ((p1).toInt8.toInt32)))), .val (.int (2 : Int32))] [])) _
        refine XS.iload X186.here hx rfl (hb hby at_301) rfl ?_
        show Steps p.tables e below (T186.setTop (mkF m 303 #[.val (.int p0), .val (.int p1), .val (.int p2), .val (.int p3), .val (.int p4), .val (.int (4 : Int32)), .val (.ref b130), .val (.ref b140), .val (.int (1 : Int32)), .val (.int (nar .byte (nar .byte ((p1).toInt8.toInt32)))), .val (.int (2 : Int32))] [(.int (1 : Int32))])) _
        refine XS.ifNo X186.here hx rfl (hb hby at_303) rfl (XT.i0_eq_f (by decide)) ?_
        show Steps p.tables e below (T186.setTop (mkF m 306 #[.val (.int p0), .val (.int p1), .val (.int p2), .val (.int p3), .val (.int p4), .val (.int (4 : Int32)), .val (.ref b130), .val (.ref b140), .val (.int (1 : Int32)), .val (.int (nar .byte (nar .byte ((p1).toInt8.toInt32)))), .val (.int (2 : Int32))] [])) _
        refine XS.aload X186.here hx rfl (hb hby at_306) rfl rfl ?_
        show Steps p.tables e below (T186.setTop (mkF m 308 #[.val (.int p0), .val (.int p1), .val (.int p2), .val (.int p3), .val (.int p4), .val (.int (4 : Int32)), .val (.ref b130), .val (.ref b140), .val (.int (1 : Int32)), .val (.int (nar .byte (nar .byte ((p1).toInt8.toInt32)))), .val (.int (2 : Int32))] [(.ref b140)])) _
        refine st190.trans ?_
        show Steps p.tables e below (T190.setTop (mkF m 311 #[.val (.int p0), .val (.int p1), .val (.int p2), .val (.int p3), .val (.int p4), .val (.int (4 : Int32)), .val (.ref b130), .val (.ref b140), .val (.int (1 : Int32)), .val (.int (nar .byte (nar .byte ((p1).toInt8.toInt32)))), .val (.int (2 : Int32))] [(.int (F5 (2 : Int32) (4 : Int32)))])) _
        refine XS.iload X190.here hx rfl (hb hby at_311) rfl ?_
        show Steps p.tables e below (T190.setTop (mkF m 313 #[.val (.int p0), .val (.int p1), .val (.int p2), .val (.int p3), .val (.int p4), .val (.int (4 : Int32)), .val (.ref b130), .val (.ref b140), .val (.int (1 : Int32)), .val (.int (nar .byte (nar .byte ((p1).toInt8.toInt32)))), .val (.int (2 : Int32))] [(.int (2 : Int32)), (.int (F5 (2 : Int32) (4 : Int32)))])) _
        refine XS.iload X190.here hx rfl (hb hby at_313) rfl ?_
        show Steps p.tables e below (T190.setTop (mkF m 315 #[.val (.int p0), .val (.int p1), .val (.int p2), .val (.int p3), .val (.int p4), .val (.int (4 : Int32)), .val (.ref b130), .val (.ref b140), .val (.int (1 : Int32)), .val (.int (nar .byte (nar .byte ((p1).toInt8.toInt32)))), .val (.int (2 : Int32))] [(.int (4 : Int32)), (.int (2 : Int32)), (.int (F5 (2 : Int32) (4 : Int32)))])) _
        refine XS.icmpYes X190.here hx rfl (pc0 := 315) (pc' := 322) rfl (hb hby at_315) rfl (XT.ii_ne_t (by decide)) (by decide) (by decide) ?_
        show Steps p.tables e below (T190.setTop (mkF m 322 #[.val (.int p0), .val (.int p1), .val (.int p2), .val (.int p3), .val (.int p4), .val (.int (4 : Int32)), .val (.ref b130), .val (.ref b140), .val (.int (1 : Int32)), .val (.int (nar .byte (nar .byte ((p1).toInt8.toInt32)))), .val (.int (2 : Int32))] [(.int (F5 (2 : Int32) (4 : Int32)))])) _
        refine XS.iconst X190.here hx rfl (hb hby at_322) ?_
        show Steps p.tables e below (T190.setTop (mkF m 323 #[.val (.int p0), .val (.int p1), .val (.int p2), .val (.int p3), .val (.int p4), .val (.int (4 : Int32)), .val (.ref b130), .val (.ref b140), .val (.int (1 : Int32)), .val (.int (nar .byte (nar .byte ((p1).toInt8.toInt32)))), .val (.int (2 : Int32))] [(.int (0 : Int32)), (.int (F5 (2 : Int32) (4 : Int32)))])) _
        refine XS.icmpNo X190.here hx rfl (hb hby at_323) rfl (XT.ii_ne_f (by decide)) ?_
        show Steps p.tables e below (T190.setTop (mkF m 326 #[.val (.int p0), .val (.int p1), .val (.int p2), .val (.int p3), .val (.int p4), .val (.int (4 : Int32)), .val (.ref b130), .val (.ref b140), .val (.int (1 : Int32)), .val (.int (nar .byte (nar .byte ((p1).toInt8.toInt32)))), .val (.int (2 : Int32))] [])) _
        exact kk
      have P192 : ∀ t, Steps p.tables e below (T190.setTop (mkF m 335 #[.val (.int p0), .val (.int p1), .val (.int p2), .val (.int p3), .val (.int p4), .val (.int (4 : Int32)), .val (.ref b130), .val (.ref b140), .val (.int (1 : Int32)), .val (.int (nar .byte (nar .byte ((p1).toInt8.toInt32)))), .val (.int (2 : Int32))] [(.int (1 : Int32))])) t → Steps p.tables e below (s₁.setTop (entryFrame m #[(.int p0), (.int p1), (.int p2), (.int p3), (.int p4)] maxLocals)) t := by
        intro t kk
        refine P191 _ ?_
        show Steps p.tables e below (T190.setTop (mkF m 326 #[.val (.int p0), .val (.int p1), .val (.int p2), .val (.int p3), .val (.int p4), .val (.int (4 : Int32)), .val (.ref b130), .val (.ref b140), .val (.int (1 : Int32)), .val (.int (nar .byte (nar .byte ((p1).toInt8.toInt32)))), .val (.int (2 : Int32))] [])) _
        refine XS.iconst X190.here hx rfl (hb hby at_326) ?_
        show Steps p.tables e below (T190.setTop (mkF m 327 #[.val (.int p0), .val (.int p1), .val (.int p2), .val (.int p3), .val (.int p4), .val (.int (4 : Int32)), .val (.ref b130), .val (.ref b140), .val (.int (1 : Int32)), .val (.int (nar .byte (nar .byte ((p1).toInt8.toInt32)))), .val (.int (2 : Int32))] [(.int (1 : Int32))])) _
        refine XS.goto X190.here hx rfl (pc0 := 327) (pc' := 331) rfl (hb hby at_327) (by decide) (by decide) ?_
        show Steps p.tables e below (T190.setTop (mkF m 331 #[.val (.int p0), .val (.int p1), .val (.int p2), .val (.int p3), .val (.int p4), .val (.int (4 : Int32)), .val (.ref b130), .val (.ref b140), .val (.int (1 : Int32)), .val (.int (nar .byte (nar .byte ((p1).toInt8.toInt32)))), .val (.int (2 : Int32))] [(.int (1 : Int32))])) _
        refine XS.istore X190.here hx rfl (hb hby at_331) rfl (l' := #[.val (.int p0), .val (.int p1), .val (.int p2), .val (.int p3), .val (.int p4), .val (.int (4 : Int32)), .val (.ref b130), .val (.ref b140), .val (.int (1 : Int32)), .val (.int (nar .byte (nar .byte ((p1).toInt8.toInt32)))), .val (.int (2 : Int32))]) rfl ?_
        show Steps p.tables e below (T190.setTop (mkF m 333 #[.val (.int p0), .val (.int p1), .val (.int p2), .val (.int p3), .val (.int p4), .val (.int (4 : Int32)), .val (.ref b130), .val (.ref b140), .val (.int (1 : Int32)), .val (.int (nar .byte (nar .byte ((p1).toInt8.toInt32)))), .val (.int (2 : Int32))] [])) _
        refine XS.iload X190.here hx rfl (hb hby at_333) rfl ?_
        show Steps p.tables e below (T190.setTop (mkF m 335 #[.val (.int p0), .val (.int p1), .val (.int p2), .val (.int p3), .val (.int p4), .val (.int (4 : Int32)), .val (.ref b130), .val (.ref b140), .val (.int (1 : Int32)), .val (.int (nar .byte (nar .byte ((p1).toInt8.toInt32)))), .val (.int (2 : Int32))] [(.int (1 : Int32))])) _
        exact kk
      obtain ⟨fs, hr, hrun, hended, hW, hsame⟩ := X190.leave (v := some (.int (1 : Int32))) (fun h => by rw [Bd.returns] at h; cases h)
      refine ⟨_, _, P192 _ ?_, hrun, hended, _, _, rfl, ?_, ⟨_, rfl⟩, hW, hsame.mono (by decide) (by decide)⟩
      · exact retN X190 hx (t := .boolean) Bd.returns (by simp) (hb hby at_335) hr
      · exact ⟨rfl, N190⟩
set_option maxRecDepth 65536 in
set_option maxHeartbeats 40000000 in
theorem comes_1 {Post : Tables → Env → Array Value → State → Outcome → State → Prop} (hpost : ∀ tb e args s v u, (limb_1_1.after args s (.returned v) u = true ∧ limb_1_2.after args s (.returned v) u = true ∧ True) → FrameEnd s (.returned v) u (Jvm.fieldLocs frame_1_writes args s ++ Jvm.arrayLocs frame_1_arrays args s ++ Jvm.staticLocs frame_1_statics s) 16 128 → Post tb e args s (.returned v) u) :
    ArmFor flags0 classFile x code maxLocals ret World_1 tables_1 room_1 Calls_1 rest_1 Pre_1 Post := by
  intro l hfl _ _ p e ha hc hk s m args below hf hA hF happ hP
  obtain ⟨hcalls, hrest, hpre⟩ := hP
  obtain ⟨-, -, -, hnamed, -, -, -, hat⟩ := (Spec.applies_iff hf).mp happ
  obtain ⟨hg, hn⟩ := and_e (Cond.before_iff.mp (show (Jvm.Cond.and given_1 narrow_1).before args s = true from hpre))
  obtain ⟨g0, gr0⟩ := and_e hg
  obtain ⟨g1, gr1⟩ := and_e gr0
  obtain ⟨g2, gr2⟩ := and_e gr1
  obtain ⟨g3, gr3⟩ := and_e gr2
  obtain ⟨g4, gr4⟩ := and_e gr3
  obtain ⟨w0, w1, w2, w3, w4, rfl⟩ : ∃ w0 w1 w2 w3 w4 : Value, args = #[w0, w1, w2, w3, w4] := by
    have hs : args.size = 5 := by simpa [Cond.value, given_1] using g0
    obtain ⟨L⟩ := args
    match L, hs with
    | [w0, w1, w2, w3, w4], _ => exact ⟨w0, w1, w2, w3, w4, rfl⟩
  have hw := fun d (hd : d ∈ tables_1) => atoms_spec (ws := Jvm.Cond.code x code maxLocals ret :: tables_1) hat d (List.mem_cons_of_mem _ hd)
  have hfit : Fit s := fun {y c} hc i hi => by
    obtain ⟨ha, rfl⟩ := Array.getElem?_eq_some_iff.mp hc
    have q := List.all_eq_true.mp ((Array.all_eq_true_iff_forall_mem.mp hF) _ (Array.getElem_mem ha)) i (List.mem_range.mpr hi)
    simpa [Array.getElem?_eq_getElem hi] using q
  obtain ⟨i0, ei0⟩ := is_v g1
  obtain rfl : w0 = (.int i0) := Option.some.inj ei0
  obtain ⟨i1, ei1⟩ := is_v g2
  obtain rfl : w1 = (.int i1) := Option.some.inj ei1
  obtain ⟨i2, ei2⟩ := is_v g3
  obtain rfl : w2 = (.int i2) := Option.some.inj ei2
  obtain ⟨i3, ei3⟩ := is_v g4
  obtain rfl : w3 = (.int i3) := Option.some.inj ei3
  obtain ⟨i4, ei4⟩ := is_v gr4
  obtain rfl : w4 = (.int i4) := Option.some.inj ei4
  obtain ⟨hsets, -⟩ := atoms_of _ (rest_1_c_eq ▸ (show rest_1_c.before _ s = true from hrest))
  obtain ⟨sd, esd⟩ := exa_v (Cond.before_iff.mp (hsets _ (List.mem_of_getElem? (i := 7) rfl)))
  have pr0 : Sta s s.heap "java/util/ArrayList" "DEFAULTCAPACITY_EMPTY_ELEMENTDATA" "[Ljava/lang/Object;" (.ref sd) := Sta.start esd (Or.inr ⟨hw _ (List.mem_of_getElem? (i := 13) rfl), hsets _ (List.mem_of_getElem? (i := 2) rfl)⟩)
  obtain ⟨n, o, h1, h2, h3, _, L, rfl, ⟨rfl, N⟩, hq⟩ := rm0 l s _ hw tables_1 i0 i1 i2 i3 i4 sd s.heap s.heap.size (Nat.le_refl _) pr0 p e ha hc hk s m _ below hf ((Spec.applies_iff_loose hf).mp happ).1 ⟨rfl, State.Warmed39.refl s, rfl⟩ trivial
  refine ⟨n, _, h1, h2, h3, hpost _ _ _ _ _ _ ⟨Cond.after_iff.mpr rfl, Cond.after_iff.mpr (eq_i res_at (Term.int_eval (1)) rfl), trivial⟩ ⟨hq.1, hq.2.1, (hq.2.2.sift fun y hy => Or.inr (N y hy)).mono (by decide) (by decide)⟩⟩
theorem main_1_1 : Claimed_1_1 := comes_1 fun _ _ _ _ _ _ h hF => ⟨h.1, hF⟩
theorem main_1_2 : Claimed_1_2 := comes_1 fun _ _ _ _ _ _ h hF => ⟨h.2.1, hF⟩
end Jvm.Pilot.@@N@@
namespace Jvm.Pilot.@@N@@
open Jvm Jvm.ClassFile Sem Op Lib Jvm.Free Jvm.Stand Jvm.Pilot.@@N@@.Jvm.D
/-! MADE BY PROGRAM (witnessworld.py) out of the Statement's table words and the real class files: 18 classes; the members and pool entries that the words name. The judged class is class 1, her method 1. -/
namespace start1
open Jvm.ClassFile
def u (s : String) : CpInfo := .utf8 (stringToUtf16 s)
/-- a pool by its gaps: so many unusable entries, then the entry; so many at the end -/
def gap : Nat → List CpInfo → List CpInfo
  | 0, r => r
  | n + 1, r => .unusable :: gap n r
def poolList (es : List (Nat × CpInfo)) (last : Nat) : List CpInfo := es.foldr (fun e r => gap e.1 (e.2 :: r)) (gap last [])
def pool (es : List (Nat × CpInfo)) (last : Nat) : Array CpInfo := ⟨poolList es last⟩
def fileOf (pool : Array CpInfo) (this : Nat) (attrs : Array Attribute := #[]) (ms : Array MethodInfo := #[]) (fl : Nat := 33) (sup : Nat := 0) (ifs : Array Nat := #[]) (fds : Array FieldInfo := #[]) : ClassFile where
  minorVersion := 0
  majorVersion := 65
  constantPool := pool
  accessFlags := fl
  thisClass := this
  superClass := sup
  interfaces := ifs
  fields := fds
  methods := ms
  attributes := attrs
def plain (name : String) (sup : Option ClassId) : Class where
  name := name
  kind := .ordinary
  loader := none
  accessFlags := 33
  super := sup
  interfaces := #[]
  cf := none
  fields := #[]
  methods := #[]
  instanceTypes := #[]
  staticTypes := #[]
  resolved := #[]
  callSites := []
  init := .initialized
  statics := none
  mirror := none

def pool0 : Array CpInfo := pool [(5, u "<init>"), (0, u "()V"), (1, .class_ 10), (1, u "java/lang/Object")] 113

def k0c0 : Code := { maxStack := 0, maxLocals := 1, code := object_method_1_code, exceptionTable := #[], attributes := #[] }
def k0m0 : Method := { name := "<init>", desc := "()V", sig := { parameters := [], returnType := none }, accessFlags := 1, code := some k0c0 }
/-- java/lang/Object -/
def k0 : Class := { plain "java/lang/Object" none with
  accessFlags := 33
  interfaces := #[]
  cf := some (fileOf pool0 8 #[] #[{ accessFlags := 1, nameIndex := 5, descriptorIndex := 6, attributes := #[] }] 33 0 #[] #[])
  fields := #[]
  methods := #[k0m0]
  instanceTypes := #[]
  staticTypes := #[]
  resolved := Array.replicate 124 none
  statics := none }

def pool1 : Array CpInfo := pool [(2, .class_ 4), (1, u "java/lang/Object"), (0, u "<init>"), (0, u "()V"), (0, .integer 2147483647), (0, .class_ 9), (0, u "com/example/meterwright/meterwright/RecordBody$Reader"), (0, .methodref 8 11), (0, .nameAndType 5 12), (0, u "([B)V"), (0, .methodref 8 14), (0, .nameAndType 15 16), (0, u "atEnd"), (0, u "()Z"), (0, .methodref 8 18), (0, .nameAndType 19 20), (0, u "kind"), (0, u "()B"), (0, .methodref 8 22), (0, .nameAndType 23 24), (0, u "number"), (0, u "()J"), (0, .class_ 26), (0, u "com/example/meterwright/meterwright/ReaderAtEndPinLaw"), (2, u "law"), (0, u "(IIIII)Z")] 12

def k1m0 : Method := { name := "<init>", desc := "()V", sig := { parameters := [], returnType := none }, accessFlags := 2, code := none }
def k1c1 : Code := { maxStack := 3, maxLocals := 11, code := code, exceptionTable := #[], attributes := #[] }
def k1m1 : Method := { name := "law", desc := "(IIIII)Z", sig := { parameters := [.int, .int, .int, .int, .int], returnType := some .boolean }, accessFlags := 9, code := some k1c1 }
/-- com/example/meterwright/meterwright/ReaderAtEndPinLaw -/
def k1 : Class := { plain "com/example/meterwright/meterwright/ReaderAtEndPinLaw" (some 0) with
  accessFlags := 49
  interfaces := #[]
  cf := some (fileOf pool1 25 #[] #[{ accessFlags := 2, nameIndex := 5, descriptorIndex := 6, attributes := #[] }, { accessFlags := 9, nameIndex := 29, descriptorIndex := 30, attributes := #[] }] 49 2 #[] #[])
  fields := #[]
  methods := #[k1m0, k1m1]
  instanceTypes := #[]
  staticTypes := #[]
  resolved := Array.replicate 43 none
  statics := none }

def pool2 : Array CpInfo := pool [(1, .class_ 2), (0, u "com/example/meterwright/meterwright/RecordBody"), (0, .methodref 4 5), (0, .class_ 6), (0, .nameAndType 7 8), (0, u "java/lang/Object"), (0, u "<init>"), (0, u "()V"), (0, .class_ 10), (0, u "java/util/ArrayList"), (0, .methodref 9 5), (0, .fieldref 13 14), (0, .class_ 15), (0, .nameAndType 16 17), (0, u "com/example/meterwright/meterwright/RecordBody$Reader"), (0, u "texts"), (0, u "Ljava/util/List;"), (0, .fieldref 13 19), (0, .nameAndType 20 21), (0, u "bytes"), (0, u "[B"), (0, .fieldref 13 23), (0, .nameAndType 24 25), (0, u "position"), (0, u "I"), (11, .methodref 13 38), (0, .nameAndType 39 40), (0, u "varint"), (0, u "()J"), (40, u "seconds"), (0, u "J"), (2, u "number"), (25, u "([B)V"), (2, u "kind"), (0, u "()B"), (9, u "atEnd"), (0, u "()Z")] 21

def k2c0 : Code := { maxStack := 3, maxLocals := 2, code := prog_25_method_1_code, exceptionTable := #[], attributes := #[] }
def k2m0 : Method := { name := "<init>", desc := "([B)V", sig := { parameters := [(.array .byte)], returnType := none }, accessFlags := 0, code := some k2c0 }
def k2c1 : Code := { maxStack := 5, maxLocals := 1, code := prog_25_method_2_code, exceptionTable := #[], attributes := #[] }
def k2m1 : Method := { name := "kind", desc := "()B", sig := { parameters := [], returnType := some .byte }, accessFlags := 0, code := some k2c1 }
def k2c2 : Code := { maxStack := 6, maxLocals := 3, code := prog_25_method_5_code, exceptionTable := #[], attributes := #[] }
def k2m2 : Method := { name := "number", desc := "()J", sig := { parameters := [], returnType := some .long }, accessFlags := 0, code := some k2c2 }
def k2c3 : Code := { maxStack := 2, maxLocals := 1, code := prog_25_method_9_code, exceptionTable := #[], attributes := #[] }
def k2m3 : Method := { name := "atEnd", desc := "()Z", sig := { parameters := [], returnType := some .boolean }, accessFlags := 0, code := some k2c3 }
def k2c4 : Code := { maxStack := 5, maxLocals := 5, code := prog_25_method_10_code, exceptionTable := #[], attributes := #[] }
def k2m4 : Method := { name := "varint", desc := "()J", sig := { parameters := [], returnType := some .long }, accessFlags := 2, code := some k2c4 }
/-- com/example/meterwright/meterwright/RecordBody$Reader -/
def k2 : Class := { plain "com/example/meterwright/meterwright/RecordBody$Reader" (some 0) with
  accessFlags := 48
  interfaces := #[]
  cf := some (fileOf pool2 13 #[.nestHost 1] #[{ accessFlags := 0, nameIndex := 7, descriptorIndex := 111, attributes := #[] }, { accessFlags := 0, nameIndex := 114, descriptorIndex := 115, attributes := #[] }, { accessFlags := 0, nameIndex := 85, descriptorIndex := 40, attributes := #[] }, { accessFlags := 0, nameIndex := 125, descriptorIndex := 126, attributes := #[] }, { accessFlags := 2, nameIndex := 39, descriptorIndex := 40, attributes := #[] }] 48 4 #[] #[{ accessFlags := 18, nameIndex := 20, descriptorIndex := 21, attributes := #[] }, { accessFlags := 2, nameIndex := 24, descriptorIndex := 25, attributes := #[] }, { accessFlags := 18, nameIndex := 16, descriptorIndex := 17, attributes := #[] }, { accessFlags := 2, nameIndex := 81, descriptorIndex := 82, attributes := #[] }])
  fields := #[{ name := "bytes", type := (.array .byte), accessFlags := 18, slot := 0, constantValue := 0 }, { name := "position", type := .int, accessFlags := 2, slot := 1, constantValue := 0 }, { name := "texts", type := (.object "java/util/List"), accessFlags := 18, slot := 2, constantValue := 0 }, { name := "seconds", type := .long, accessFlags := 2, slot := 3, constantValue := 0 }]
  methods := #[k2m0, k2m1, k2m2, k2m3, k2m4]
  instanceTypes := #[(.array .byte), .int, (.object "java/util/List"), .long]
  staticTypes := #[]
  resolved := Array.replicate 148 none
  statics := none }

def pool3 : Array CpInfo := pool [(8, .class_ 10), (1, u "java/lang/Iterable"), (24, .class_ 36), (0, u "java/lang/Object")] 25

/-- java/lang/Iterable -/
def k3 : Class := { plain "java/lang/Iterable" (some 0) with
  accessFlags := 1537
  interfaces := #[]
  cf := some (fileOf pool3 8 #[] #[] 1537 35 #[] #[])
  fields := #[]
  methods := #[]
  instanceTypes := #[]
  staticTypes := #[]
  resolved := Array.replicate 62 none
  statics := none }

def pool4 : Array CpInfo := pool [(10, .class_ 12), (1, u "java/util/Collection"), (47, .class_ 61), (0, u "java/lang/Object"), (0, .class_ 63), (0, u "java/lang/Iterable")] 51

/-- java/util/Collection -/
def k4 : Class := { plain "java/util/Collection" (some 0) with
  accessFlags := 1537
  interfaces := #[3]
  cf := some (fileOf pool4 10 #[] #[] 1537 60 #[62] #[])
  fields := #[]
  methods := #[]
  instanceTypes := #[]
  staticTypes := #[]
  resolved := Array.replicate 115 none
  statics := none }

def pool5 : Array CpInfo := pool [(1, .methodref 2 3), (0, .class_ 4), (0, .nameAndType 5 6), (0, u "java/lang/Object"), (0, u "<init>"), (0, u "()V"), (1, .class_ 10), (1, u "java/util/AbstractCollection"), (66, .class_ 78), (0, u "java/util/Collection")] 81

def k5c0 : Code := { maxStack := 1, maxLocals := 1, code := jdk_22_method_1_code, exceptionTable := #[], attributes := #[] }
def k5m0 : Method := { name := "<init>", desc := "()V", sig := { parameters := [], returnType := none }, accessFlags := 4, code := some k5c0 }
/-- java/util/AbstractCollection -/
def k5 : Class := { plain "java/util/AbstractCollection" (some 0) with
  accessFlags := 1057
  interfaces := #[4]
  cf := some (fileOf pool5 8 #[] #[{ accessFlags := 4, nameIndex := 5, descriptorIndex := 6, attributes := #[] }] 1057 2 #[77] #[])
  fields := #[]
  methods := #[k5m0]
  instanceTypes := #[]
  staticTypes := #[]
  resolved := Array.replicate 160 none
  statics := none }

def pool6 : Array CpInfo := pool [(8, .class_ 10), (1, u "java/util/SequencedCollection"), (15, .class_ 27), (0, u "java/lang/Object"), (0, .class_ 29), (0, u "java/util/Collection")] 27

/-- java/util/SequencedCollection -/
def k6 : Class := { plain "java/util/SequencedCollection" (some 0) with
  accessFlags := 1537
  interfaces := #[4]
  cf := some (fileOf pool6 8 #[] #[] 1537 26 #[28] #[])
  fields := #[]
  methods := #[]
  instanceTypes := #[]
  staticTypes := #[]
  resolved := Array.replicate 57 none
  statics := none }

def pool7 : Array CpInfo := pool [(8, .class_ 10), (1, u "java/util/List"), (92, .class_ 104), (0, u "java/lang/Object"), (15, .class_ 121), (0, u "java/util/SequencedCollection")] 129

/-- java/util/List -/
def k7 : Class := { plain "java/util/List" (some 0) with
  accessFlags := 1537
  interfaces := #[6]
  cf := some (fileOf pool7 8 #[] #[] 1537 103 #[120] #[])
  fields := #[]
  methods := #[]
  instanceTypes := #[]
  staticTypes := #[]
  resolved := Array.replicate 251 none
  statics := none }

def pool8 : Array CpInfo := pool [(1, .methodref 2 3), (0, .class_ 4), (0, .nameAndType 5 6), (0, u "java/util/AbstractCollection"), (0, u "<init>"), (0, u "()V"), (0, .fieldref 8 9), (0, .class_ 10), (0, .nameAndType 11 12), (0, u "java/util/AbstractList"), (0, u "modCount"), (0, u "I"), (64, .class_ 78), (0, u "java/util/AbstractList$Itr"), (3, .class_ 83), (0, u "java/util/AbstractList$ListItr"), (9, .class_ 94), (0, u "java/util/AbstractList$RandomAccessSubList"), (3, .class_ 99), (0, u "java/util/AbstractList$SubList"), (33, .class_ 134), (0, u "java/util/List"), (73, .class_ 209), (0, u "java/util/AbstractList$SubList$1"), (0, .class_ 211), (0, u "java/util/AbstractList$RandomAccessSpliterator")] 6

def k8c0 : Code := { maxStack := 2, maxLocals := 1, code := jdk_39_method_1_code, exceptionTable := #[], attributes := #[] }
def k8m0 : Method := { name := "<init>", desc := "()V", sig := { parameters := [], returnType := none }, accessFlags := 4, code := some k8c0 }
/-- java/util/AbstractList -/
def k8 : Class := { plain "java/util/AbstractList" (some 5) with
  accessFlags := 1057
  interfaces := #[7]
  cf := some (fileOf pool8 8 #[.nestMembers #[93, 98, 208, 210, 82, 77]] #[{ accessFlags := 4, nameIndex := 5, descriptorIndex := 6, attributes := #[] }] 1057 2 #[133] #[{ accessFlags := 132, nameIndex := 11, descriptorIndex := 12, attributes := #[] }])
  fields := #[{ name := "modCount", type := .int, accessFlags := 132, slot := 0, constantValue := 0 }]
  methods := #[k8m0]
  instanceTypes := #[.int]
  staticTypes := #[]
  resolved := Array.replicate 218 none
  statics := none }

def pool9 : Array CpInfo := pool [(1, .class_ 2), (0, u "java/util/RandomAccess"), (0, .class_ 4), (0, u "java/lang/Object")] 2

/-- java/util/RandomAccess -/
def k9 : Class := { plain "java/util/RandomAccess" (some 0) with
  accessFlags := 1537
  interfaces := #[]
  cf := some (fileOf pool9 1 #[] #[] 1537 3 #[] #[])
  fields := #[]
  methods := #[]
  instanceTypes := #[]
  staticTypes := #[]
  resolved := Array.replicate 7 none
  statics := none }

def pool10 : Array CpInfo := pool [(1, .class_ 2), (0, u "java/lang/Cloneable"), (0, .class_ 4), (0, u "java/lang/Object")] 2

/-- java/lang/Cloneable -/
def k10 : Class := { plain "java/lang/Cloneable" (some 0) with
  accessFlags := 1537
  interfaces := #[]
  cf := some (fileOf pool10 1 #[] #[] 1537 3 #[] #[])
  fields := #[]
  methods := #[]
  instanceTypes := #[]
  staticTypes := #[]
  resolved := Array.replicate 7 none
  statics := none }

def pool11 : Array CpInfo := pool [(1, .class_ 2), (0, u "java/io/Serializable"), (0, .class_ 4), (0, u "java/lang/Object")] 2

/-- java/io/Serializable -/
def k11 : Class := { plain "java/io/Serializable" (some 0) with
  accessFlags := 1537
  interfaces := #[]
  cf := some (fileOf pool11 1 #[] #[] 1537 3 #[] #[])
  fields := #[]
  methods := #[]
  instanceTypes := #[]
  staticTypes := #[]
  resolved := Array.replicate 7 none
  statics := none }

def pool12 : Array CpInfo := pool [(1, .methodref 2 3), (0, .class_ 4), (0, .nameAndType 5 6), (0, u "java/util/AbstractList"), (0, u "<init>"), (0, u "()V"), (2, .fieldref 10 11), (0, .class_ 12), (0, .nameAndType 13 14), (0, u "java/util/ArrayList"), (0, u "elementData"), (0, u "[Ljava/lang/Object;"), (2, u "EMPTY_ELEMENTDATA"), (21, .fieldref 10 40), (0, .nameAndType 41 14), (0, u "DEFAULTCAPACITY_EMPTY_ELEMENTDATA"), (8, u "size"), (0, u "I"), (96, .class_ 149), (0, u "java/util/List"), (112, .class_ 263), (0, u "java/util/ArrayList$ListItr"), (3, .class_ 268), (0, u "java/util/ArrayList$Itr"), (7, .class_ 277), (0, u "java/util/ArrayList$SubList"), (12, .class_ 291), (0, u "java/util/ArrayList$ArrayListSpliterator"), (37, .class_ 330), (0, u "java/util/RandomAccess"), (0, .class_ 332), (0, u "java/lang/Cloneable"), (0, .class_ 334), (0, u "java/io/Serializable"), (0, u "serialVersionUID"), (0, u "J"), (3, u "DEFAULT_CAPACITY"), (159, .class_ 501), (0, u "java/util/ArrayList$SubList$2"), (0, .class_ 503), (0, u "java/util/ArrayList$SubList$1")] 5

def k12c0 : Code := { maxStack := 2, maxLocals := 1, code := jdk_38_method_2_code, exceptionTable := #[], attributes := #[] }
def k12m0 : Method := { name := "<init>", desc := "()V", sig := { parameters := [], returnType := none }, accessFlags := 1, code := some k12c0 }
/-- java/util/ArrayList -/
def k12 : Class := { plain "java/util/ArrayList" (some 8) with
  accessFlags := 33
  interfaces := #[7, 9, 10, 11]
  cf := some (fileOf pool12 10 #[.nestMembers #[290, 276, 500, 502, 262, 267]] #[{ accessFlags := 1, nameIndex := 5, descriptorIndex := 6, attributes := #[] }] 33 2 #[148, 329, 331, 333] #[{ accessFlags := 26, nameIndex := 335, descriptorIndex := 336, attributes := #[] }, { accessFlags := 26, nameIndex := 340, descriptorIndex := 51, attributes := #[] }, { accessFlags := 26, nameIndex := 17, descriptorIndex := 14, attributes := #[] }, { accessFlags := 26, nameIndex := 41, descriptorIndex := 14, attributes := #[] }, { accessFlags := 128, nameIndex := 13, descriptorIndex := 14, attributes := #[] }, { accessFlags := 2, nameIndex := 50, descriptorIndex := 51, attributes := #[] }])
  fields := #[{ name := "serialVersionUID", type := .long, accessFlags := 26, slot := 0, constantValue := 0 }, { name := "DEFAULT_CAPACITY", type := .int, accessFlags := 26, slot := 1, constantValue := 0 }, { name := "EMPTY_ELEMENTDATA", type := (.array (.object "java/lang/Object")), accessFlags := 26, slot := 2, constantValue := 0 }, { name := "DEFAULTCAPACITY_EMPTY_ELEMENTDATA", type := (.array (.object "java/lang/Object")), accessFlags := 26, slot := 3, constantValue := 0 }, { name := "elementData", type := (.array (.object "java/lang/Object")), accessFlags := 128, slot := 1, constantValue := 0 }, { name := "size", type := .int, accessFlags := 2, slot := 2, constantValue := 0 }]
  methods := #[k12m0]
  instanceTypes := #[.int, (.array (.object "java/lang/Object")), .int]
  staticTypes := #[.long, .int, (.array (.object "java/lang/Object")), (.array (.object "java/lang/Object"))]
  resolved := Array.replicate 509 none
  statics := some 0 }

/-- the primitive byte -/
def k13 : Class := { plain "byte" none with kind := .primitive 'B', accessFlags := 0x411 }
/-- [B -/
def k14 : Class := { plain "[B" (some 0) with kind := .array 13 .byte, interfaces := #[10, 11], accessFlags := 1041 }

/-- the primitive int -/
def k15 : Class := { plain "int" none with kind := .primitive 'I', accessFlags := 0x411 }
/-- [I -/
def k16 : Class := { plain "[I" (some 0) with kind := .array 15 .int, interfaces := #[10, 11], accessFlags := 1041 }

/-- [Ljava/lang/Object; -/
def k17 : Class := { plain "[Ljava/lang/Object;" (some 0) with kind := .array 0 (.object "java/lang/Object"), interfaces := #[10, 11], accessFlags := 1041 }

def heap : Heap := #[{ cls := 12, slots := #[.long 0, .int 0, .ref 1, .ref 2], vm := .statics 12 },
  { cls := 17, slots := #[], vm := .none },
  { cls := 17, slots := #[], vm := .none }]
def classes : Array Class := #[k0, k1, k2, k3, k4, k5, k6, k7, k8, k9, k10, k11, k12, k13, k14, k15, k16, k17]
def interned : List (Array UInt16 × Addr) := []
def slotsUsed : Nat := 4
def theMethod : MethodId := ⟨1, 1⟩
def args0 : Array Value := #[.int 5, .int 5, .int 5, .int 5, .int 5]
def aboutOver (below : List Frame) : State where
  vm := { classes := classes, interned := interned.toArray }
  heap := heap
  slotsUsed := slotsUsed
  threads := #[{ frames := .invoking theMethod args0 :: below }]
def below0 : List Frame := [.native { method := ⟨0, 0⟩, args := #[] }]
def about1 : State := aboutOver below0
def p0 : Program := .bare "" "" ""
def e0 : Env := launch0.env 0 0 0
theorem w_frames : about1.frames = Frame.invoking theMethod args0 :: below0 := rfl
set_option maxRecDepth 65536 in
theorem w_args : argsFit about1.vm theMethod args0 = true := by decide +kernel
set_option maxRecDepth 65536 in
theorem w_heap : heapFits about1 = true := by decide +kernel
set_option maxRecDepth 65536 in
theorem w_runnable : about1.curStatus? = some .runnable := by decide +kernel
set_option maxRecDepth 65536 in
theorem w_alone : about1.alone = true := by decide +kernel
set_option maxRecDepth 65536 in
theorem w_named : about1.methodNamed? x = some theMethod := by decide +kernel
set_option maxRecDepth 65536 in
theorem w_hears : about1.hears theMethod below0 = true := by decide +kernel
set_option maxRecDepth 65536 in
theorem w_ripe : about1.ripe theMethod args0 below0 = true := by decide +kernel
theorem w_running : about1.status = .running := rfl
set_option maxRecDepth 65536 in
theorem w_room : about1.hasRoom e0.platform room_1 = true :=
  launch0.hasRoom_least _ room_1 (by decide +kernel) (by decide +kernel) (by decide +kernel) (by decide +kernel) (by decide +kernel) (by decide +kernel)
theorem allAtoms_all (ts : List Jvm.Cond) (a : Array Jvm.Value) (st : Jvm.State) : (allAtoms ts).before a st = ts.all (fun c => c.before a st) := by
  induction ts with
  | nil => rfl
  | cons c t ih =>
    show (Jvm.Cond.and c (allAtoms t)).before a st = _
    rw [Jvm.Cond.before_and, ih, List.all_cons]
def words1 : List Jvm.Cond := Jvm.Cond.code x code maxLocals ret :: tables_1
/-- a 'code' word, met by the world's own term for the bytes: nothing is compared byte by byte -/
theorem code_word {y : MethodName} {bytes : ByteArray} {mx : Nat} {rt : Option FieldType} {a : Array Value} {s : State} {m : MethodId} {meth : Method} {c : Code} (h1 : s.methodNamed? y = some m) (h2 : s.vm.method? m = some meth) (h3 : meth.code = some c) (h4 : c.code = bytes)
    (h5 : (c.maxLocals == mx && c.exceptionTable.isEmpty && decide (c.maxStack ≤ mostOperands) && decide (meth.sig.returnType = rt) && !meth.locks && decide (parseMethodDescriptor y.desc = some meth.sig)) = true) : (Jvm.Cond.code y bytes mx rt).before a s = true := by
  simp only [Bool.and_eq_true, beq_iff_eq, Bool.not_eq_true', decide_eq_true_eq] at h5
  obtain ⟨⟨⟨⟨⟨g1, g2⟩, g3⟩, g4⟩, g5⟩, g6⟩ := h5
  simp [Cond.before, Cond.holds, Cond.value, h1, h2, h3, h4, g1, g2, g3, g4, g5, g6]
def isCode : Jvm.Cond → Bool
  | .code _ _ _ _ => true
  | _ => false
theorem all_split {L : List Jvm.Cond} {P : Jvm.Cond → Bool} (h1 : L.all (fun c => isCode c || P c) = true) (h2 : ∀ c ∈ L.filter isCode, P c = true) : L.all P = true := by
  refine List.all_eq_true.mpr fun c hc => ?_
  have h := List.all_eq_true.mp h1 c hc
  rcases Bool.eq_false_or_eq_true (isCode c) with hi | hi
  · exact h2 c (List.mem_filter.mpr ⟨hc, hi⟩)
  · simpa [hi] using h
set_option maxRecDepth 65536 in
theorem w_c0 : (Jvm.Cond.code x code maxLocals ret).before args0 about1 = true := code_word (m := ⟨1, 1⟩) (meth := k1m1) (c := k1c1) (by decide +kernel) rfl rfl rfl (by decide +kernel)
set_option maxRecDepth 65536 in
theorem w_c1 : (Jvm.Cond.code ({ cls := "com/example/meterwright/meterwright/RecordBody$Reader", name := "<init>", desc := "([B)V" } : Jvm.MethodName) prog_25_method_1_code (2 : Nat) (Option.none : Option Jvm.ClassFile.FieldType)).before args0 about1 = true := code_word (m := ⟨2, 0⟩) (meth := k2m0) (c := k2c0) (by decide +kernel) rfl rfl rfl (by decide +kernel)
set_option maxRecDepth 65536 in
theorem w_c2 : (Jvm.Cond.code ({ cls := "java/lang/Object", name := "<init>", desc := "()V" } : Jvm.MethodName) object_method_1_code (1 : Nat) (Option.none : Option Jvm.ClassFile.FieldType)).before args0 about1 = true := code_word (m := ⟨0, 0⟩) (meth := k0m0) (c := k0c0) (by decide +kernel) rfl rfl rfl (by decide +kernel)
set_option maxRecDepth 65536 in
theorem w_c3 : (Jvm.Cond.code ({ cls := "java/util/ArrayList", name := "<init>", desc := "()V" } : Jvm.MethodName) jdk_38_method_2_code (1 : Nat) (Option.none : Option Jvm.ClassFile.FieldType)).before args0 about1 = true := code_word (m := ⟨12, 0⟩) (meth := k12m0) (c := k12c0) (by decide +kernel) rfl rfl rfl (by decide +kernel)
set_option maxRecDepth 65536 in
theorem w_c4 : (Jvm.Cond.code ({ cls := "java/util/AbstractList", name := "<init>", desc := "()V" } : Jvm.MethodName) jdk_39_method_1_code (1 : Nat) (Option.none : Option Jvm.ClassFile.FieldType)).before args0 about1 = true := code_word (m := ⟨8, 0⟩) (meth := k8m0) (c := k8c0) (by decide +kernel) rfl rfl rfl (by decide +kernel)
set_option maxRecDepth 65536 in
theorem w_c5 : (Jvm.Cond.code ({ cls := "java/util/AbstractCollection", name := "<init>", desc := "()V" } : Jvm.MethodName) jdk_22_method_1_code (1 : Nat) (Option.none : Option Jvm.ClassFile.FieldType)).before args0 about1 = true := code_word (m := ⟨5, 0⟩) (meth := k5m0) (c := k5c0) (by decide +kernel) rfl rfl rfl (by decide +kernel)
set_option maxRecDepth 65536 in
theorem w_c6 : (Jvm.Cond.code ({ cls := "com/example/meterwright/meterwright/RecordBody$Reader", name := "atEnd", desc := "()Z" } : Jvm.MethodName) prog_25_method_9_code (1 : Nat) (Option.some Jvm.ClassFile.FieldType.boolean)).before args0 about1 = true := code_word (m := ⟨2, 3⟩) (meth := k2m3) (c := k2c3) (by decide +kernel) rfl rfl rfl (by decide +kernel)
set_option maxRecDepth 65536 in
theorem w_c7 : (Jvm.Cond.code ({ cls := "com/example/meterwright/meterwright/RecordBody$Reader", name := "kind", desc := "()B" } : Jvm.MethodName) prog_25_method_2_code (1 : Nat) (Option.some Jvm.ClassFile.FieldType.byte)).before args0 about1 = true := code_word (m := ⟨2, 1⟩) (meth := k2m1) (c := k2c1) (by decide +kernel) rfl rfl rfl (by decide +kernel)
set_option maxRecDepth 65536 in
theorem w_c8 : (Jvm.Cond.code ({ cls := "com/example/meterwright/meterwright/RecordBody$Reader", name := "number", desc := "()J" } : Jvm.MethodName) prog_25_method_5_code (3 : Nat) (Option.some Jvm.ClassFile.FieldType.long)).before args0 about1 = true := code_word (m := ⟨2, 2⟩) (meth := k2m2) (c := k2c2) (by decide +kernel) rfl rfl rfl (by decide +kernel)
set_option maxRecDepth 65536 in
theorem w_c9 : (Jvm.Cond.code ({ cls := "com/example/meterwright/meterwright/RecordBody$Reader", name := "varint", desc := "()J" } : Jvm.MethodName) prog_25_method_10_code (5 : Nat) (Option.some Jvm.ClassFile.FieldType.long)).before args0 about1 = true := code_word (m := ⟨2, 4⟩) (meth := k2m4) (c := k2c4) (by decide +kernel) rfl rfl rfl (by decide +kernel)
def codes1 : List Jvm.Cond := [Jvm.Cond.code x code maxLocals ret, Jvm.Cond.code ({ cls := "com/example/meterwright/meterwright/RecordBody$Reader", name := "<init>", desc := "([B)V" } : Jvm.MethodName) prog_25_method_1_code (2 : Nat) (Option.none : Option Jvm.ClassFile.FieldType), Jvm.Cond.code ({ cls := "java/lang/Object", name := "<init>", desc := "()V" } : Jvm.MethodName) object_method_1_code (1 : Nat) (Option.none : Option Jvm.ClassFile.FieldType), Jvm.Cond.code ({ cls := "java/util/ArrayList", name := "<init>", desc := "()V" } : Jvm.MethodName) jdk_38_method_2_code (1 : Nat) (Option.none : Option Jvm.ClassFile.FieldType), Jvm.Cond.code ({ cls := "java/util/AbstractList", name := "<init>", desc := "()V" } : Jvm.MethodName) jdk_39_method_1_code (1 : Nat) (Option.none : Option Jvm.ClassFile.FieldType), Jvm.Cond.code ({ cls := "java/util/AbstractCollection", name := "<init>", desc := "()V" } : Jvm.MethodName) jdk_22_method_1_code (1 : Nat) (Option.none : Option Jvm.ClassFile.FieldType), Jvm.Cond.code ({ cls := "com/example/meterwright/meterwright/RecordBody$Reader", name := "atEnd", desc := "()Z" } : Jvm.MethodName) prog_25_method_9_code (1 : Nat) (Option.some Jvm.ClassFile.FieldType.boolean), Jvm.Cond.code ({ cls := "com/example/meterwright/meterwright/RecordBody$Reader", name := "kind", desc := "()B" } : Jvm.MethodName) prog_25_method_2_code (1 : Nat) (Option.some Jvm.ClassFile.FieldType.byte), Jvm.Cond.code ({ cls := "com/example/meterwright/meterwright/RecordBody$Reader", name := "number", desc := "()J" } : Jvm.MethodName) prog_25_method_5_code (3 : Nat) (Option.some Jvm.ClassFile.FieldType.long), Jvm.Cond.code ({ cls := "com/example/meterwright/meterwright/RecordBody$Reader", name := "varint", desc := "()J" } : Jvm.MethodName) prog_25_method_10_code (5 : Nat) (Option.some Jvm.ClassFile.FieldType.long)]
set_option maxRecDepth 65536 in
theorem codes_eq : words1.filter isCode = codes1 := rfl
theorem w_codes : ∀ c ∈ words1.filter isCode, c.before args0 about1 = true := by
  rw [codes_eq]
  intro c hc
  simp only [codes1, List.mem_cons, List.not_mem_nil, or_false] at hc
  rcases hc with rfl | rfl | rfl | rfl | rfl | rfl | rfl | rfl | rfl | rfl
  · exact w_c0
  · exact w_c1
  · exact w_c2
  · exact w_c3
  · exact w_c4
  · exact w_c5
  · exact w_c6
  · exact w_c7
  · exact w_c8
  · exact w_c9
set_option maxRecDepth 65536 in
theorem w_t1 : (words1.take 24).all (fun c => isCode c || c.before args0 about1) = true := by decide +kernel
set_option maxRecDepth 65536 in
theorem w_t2 : ((words1.drop 24).take 24).all (fun c => isCode c || c.before args0 about1) = true := by decide +kernel
set_option maxRecDepth 65536 in
theorem w_t3 : ((words1.drop 24).drop 24).all (fun c => isCode c || c.before args0 about1) = true := by decide +kernel
theorem w_tables : (allAtoms (Jvm.Cond.code x code maxLocals ret :: tables_1)).before args0 about1 = true := by
  rw [allAtoms_all]
  show words1.all (fun c => c.before args0 about1) = true
  refine all_split ?_ w_codes
  rw [← List.take_append_drop 24 words1, List.all_append, w_t1, ← List.take_append_drop 24 (words1.drop 24), List.all_append, w_t2, w_t3]
  rfl
set_option maxRecDepth 65536 in
theorem w_rest : rest_1_c.before args0 about1 = true := by decide +kernel
set_option maxRecDepth 65536 in
theorem w_case : (Jvm.Cond.and given_1 narrow_1).before args0 about1 = true := by decide +kernel
theorem w_applies : (headSpec (Jvm.Cond.code x code maxLocals ret :: tables_1) room_1).applies x e0.platform about1 = true :=
  (Spec.applies_iff w_frames).mpr ⟨w_running, w_runnable, w_alone, w_named, w_hears, w_ripe, w_room, w_tables⟩
theorem atStart : AtStart classFile x code maxLocals ret World_1 tables_1 room_1 Calls_1 rest_1 Pre_1 launch0 p0 e0 about1 theMethod args0 below0 :=
  ⟨lists_1, trivial, launch0.admits_env _ _ _, launch0.least_env, fairChoices_fair.cas, fairChoices_fair.clock, w_frames, w_args, w_heap, w_applies, trivial, w_rest, w_case⟩
end start1
theorem witness_1 : WitnessClaimed_1 := ⟨start1.p0, start1.e0, start1.about1, start1.theMethod, start1.args0, start1.below0, start1.atStart⟩
end Jvm.Pilot.@@N@@
