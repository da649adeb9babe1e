import JvmDerived
import JvmDerived.Pilot.@@N@@Statement
import JvmDerived.Pilot.@@N@@Code
set_option linter.unusedVariables false
set_option linter.unusedSimpArgs false
namespace Jvm.RoadKit
open Sem ClassFile Op Lib Jvm.Stand Jvm.Free Jvm.LawKit
section New
variable {p : Program} {l : Launch} {e : Env} {R : Room} {s : State} {m : MethodId} {args : Array Value} {below : List Frame} {meth : Method} {c : Code} {T : State} {locs : List Loc} {cells slots : Nat}
theorem retI (X : Stand p l e R s m args below meth c T locs cells slots) (hx : p.tables.exec = Jvm.exec) {pc : Nat} {Ls : Array Slot} {z : Int32} {rest : List Value} (hret : meth.sig.returnType = some .int) (hd : decode c.code pc = .ok (.ireturn, 1)) {fs : List Frame}
    (hl : ∀ (f : JFrame) (acts : List Action), f.method = m → f.locked = none → f.entered = [] → (doReturn e (T.setTop f) acts (some (.int z))).1 = T.setFrames fs) : Steps p.tables e below (T.setTop (mkF m pc Ls (.int z :: rest))) (T.setFrames fs) := by
  have hm' : T.vm.method? m = some meth := X.method'
  have hn : narrow .int (.int z) = .int z := rfl
  show Steps p.tables e below (T.setTop { method := m, pc := pc, locals := Ls, stack := _ :: rest, locked := none }) _
  jvm_step X.here [X.here.top, hx, hd, hm', hret, hn]
  first | (intro acts; rw [hl _ acts rfl rfl rfl]) | rw [hl _ _ rfl rfl rfl]
  exact Steps.refl _
end New
end Jvm.RoadKit
namespace Jvm.Pilot.@@N@@
open Jvm Jvm.ClassFile Sem Op Lib Jvm.Free Jvm.Stand Jvm.LawKit Jvm.RoadKit Bundle Jvm.Pilot.@@N@@.Jvm.D
theorem pn_0 : plainName "java/util/Optional" = true := by first | (simp [plainName, overriddenIn]; done) | decide +kernel
theorem pn_1 : plainName "com/example/envelope/envelope/IntegerEncoding" = true := by first | (simp [plainName, overriddenIn]; done) | decide +kernel
theorem pn_2 : plainName "com/example/envelope/envelope/IntegerEncodingOfPinLaw" = true := by first | (simp [plainName, overriddenIn]; done) | decide +kernel
theorem pd_0 : parseMethodDescriptor "()Ljava/util/Optional;" = some ⟨[], some (.object "java/util/Optional")⟩ := by decide +kernel
theorem pd_1 : parseMethodDescriptor "(I)Ljava/util/Optional;" = some ⟨[.int], some (.object "java/util/Optional")⟩ := by decide +kernel
theorem pd_2 : parseMethodDescriptor "(Ljava/lang/Object;)Ljava/lang/Object;" = some ⟨[(.object "java/lang/Object")], some (.object "java/lang/Object")⟩ := by decide +kernel
theorem own_miss (k : Int32) (h1 : ¬ k = (1 : Int32)) (h2 : ¬ k = (2 : Int32)) : (#[(1, 28), (2, 34)] : Array (Int × Int)).find? (·.1 == k.toInt) = none := by
  refine find_miss fun q hq => ?_
  simp only [List.mem_cons, List.not_mem_nil, or_false] at hq
  rcases hq with rfl | rfl
  · exact fun h => h1 (Int32.toInt_inj.mp h.symm)
  · exact fun h => h2 (Int32.toInt_inj.mp h.symm)
theorem own_cases (i : Int32) : (i &&& (15 : Int32)) = (1 : Int32) ∨ (i &&& (15 : Int32)) = (2 : Int32) ∨ (¬ (i &&& (15 : Int32)) = (1 : Int32) ∧ ¬ (i &&& (15 : Int32)) = (2 : Int32)) := by
  by_cases h1 : (i &&& (15 : Int32)) = (1 : Int32)
  · exact Or.inl h1
  · by_cases h2 : (i &&& (15 : Int32)) = (2 : Int32)
    · exact Or.inr (Or.inl h2)
    · exact Or.inr (Or.inr ⟨h1, h2⟩)
theorem own_part (p j : Int32) (h : j = (if (p % (16 : Int32)) < (0 : Int32) then ((p % (16 : Int32)) + (16 : Int32)) else (p % (16 : Int32)))) : j = p &&& (15 : Int32) := by
  have h1 := c_mask p 15 4 (by decide) (by decide)
  have h2 := c_irem p 16 16 (by decide)
  have h3 := c_iadd (p % (16 : Int32)) 16
  have l0 : (0 : Int32).toInt = 0 := by decide
  have l16 : (16 : Int32).toInt = 16 := by decide
  have r1 := rng32 (p % (16 : Int32) + (16 : Int32))
  have rp := rng32 p
  rw [l16] at h3
  refine Int32.toInt_inj.mp ?_
  rw [h1]
  by_cases c : (p % (16 : Int32)) < (0 : Int32)
  · rw [if_pos c] at h
    rw [Int32.lt_iff_toInt_lt, l0] at c
    subst h
    omega
  · rw [if_neg c] at h
    rw [Int32.lt_iff_toInt_lt, l0] at c
    subst h
    omega
theorem own_eqref {args : Array Value} {s : State} {t u : Term} {b : Addr} (h : (Cond.eq t u).value args s none s [] = some true) (hu : u.eval args s none [] s = some (.ref b)) : t.eval args s none [] s = some (.ref b) := by
  obtain ⟨x, y, h1, h2, k1, k2⟩ := cmp_v (Or.inl h)
  rw [hu] at h2
  cases h2
  have hx : x.isRef = true := k2.2
  have := eq_R h1 hu hx rfl
  rw [h] at this
  have e := of_decide_eq_true (Option.some.inj this).symm
  rw [h1, e]
theorem d1_0 : decode jdk_32_method_1_code 0 = .ok (.getstatic 1, 3) := by decide +kernel
theorem d1_3 : decode jdk_32_method_1_code 3 = .ok (.astore_n 0, 1) := by decide +kernel
theorem d1_4 : decode jdk_32_method_1_code 4 = .ok (.aload_n 0, 1) := by decide +kernel
theorem d1_5 : decode jdk_32_method_1_code 5 = .ok (.areturn, 1) := by decide +kernel
theorem ef_1 (m : MethodId)  : entryFrame m #[] 1 = (mkF m 0 #[.unset] []) := by first | (simp [entryFrame, mkF, argsToLocals, Value.category]; done) | rfl
def Q1 (Z : State) (sx : Addr) (h0 : Heap) (n0 : Nat) (vX : Option Value) (hX : Heap) (lX : List Loc) : Prop := vX = some (.ref sx) ∧ Fr n0 lX ∧ (hX = h0)
set_option maxRecDepth 65536 in
set_option maxHeartbeats 40000000 in
theorem rm1 (l : Launch) (Z : State) (a0 : Array Value) (hw : ∀ d ∈ tables_1, d.before a0 Z = true) (ws : List Jvm.Cond) (sx : Addr) (h0 : Heap) (n0 : Nat) (Z0 : n0 ≤ h0.size) (pr0 : Sta Z h0 "java/util/Optional" "EMPTY" "Ljava/util/Optional;" (.ref sx)) :
    MetFree l (⟨"java/util/Optional", "empty", "()Ljava/util/Optional;"⟩ : MethodName) (head1 (Jvm.Cond.code (⟨"java/util/Optional", "empty", "()Ljava/util/Optional;"⟩ : MethodName) jdk_32_method_1_code 1 (some (.object "java/util/Optional")) :: ws) ({ frames := 0, cells := 0, slots := 0, locals := 0 } : Room)) (fun aX uX => aX = #[] ∧ Z.Warmed39 uX.vm ∧ uX.heap = h0) (fun _ _ _ _ _ => True) (fun _ uX oX wX => ∃ vX lX, oX = .returned vX ∧ Q1 Z sx h0 n0 vX wX.heap lX ∧ FrameEnd uX oX wX lX ({ frames := 0, cells := 0, slots := 0, locals := 0 } : Room).cells ({ frames := 0, cells := 0, slots := 0, locals := 0 } : Room).slots) := by
  refine MetFree.of_bodySF (plainFor_of_name pn_0) hisR ?_
  intro p e s m args below meth c s₁ Bd hml0 hP hK
  obtain ⟨rfl, hZ, hh⟩ := hP
  have hx := Bd.exec
  have hby := Bd.bytes
  have hml : c.maxLocals = 1 := hml0
  have hown : s.vm.findClass "java/util/Optional" = some m.cls := findClass_of_methodNamed Bd.named
  have hnm := (name_of_methodNamed Bd.named Bd.method).1
  have X0 : Stand p l e ({ frames := 0, cells := 0, slots := 0, locals := 0 } : Room) s m #[] below meth c s₁ [] 0 0 := Stand.of_body Bd
  have e0 : s₁.heap = h0 := by rw [← hh, Bd.state]; rfl
  have N0 := Fr.nil n0
  have pre0 : ∀ t, Steps p.tables e below (s₁.setTop (mkF m 0 #[.unset] [])) t → Steps p.tables e below (s₁.setTop (entryFrame m #[] 1)) t := fun t k => castTop (ef_1 m ) k
  obtain ⟨T1, X1, e1, st1⟩ := getS2 X0 hx hZ hown (host := "") (Or.inl (hw _ (List.mem_of_getElem? (i := 8) rfl))) Via.refl e0 pr0 (g := (mkF m 0 #[.unset] [])) rfl (hb hby d1_0)
  have P2 : ∀ t, Steps p.tables e below (T1.setTop (mkF m 5 #[.val (.ref sx)] [(.ref sx)])) t → Steps p.tables e below (s₁.setTop (entryFrame m #[] 1)) t := by
    intro t kk
    refine pre0 _ ?_
    show Steps p.tables e below (s₁.setTop (mkF m 0 #[.unset] [])) _
    refine st1 _ ?_
    show Steps p.tables e below (T1.setTop (mkF m 3 #[.unset] [(.ref sx)])) _
    refine XS.astoreN X1.here hx rfl (hb hby d1_3) rfl rfl (l' := #[.val (.ref sx)]) rfl ?_
    show Steps p.tables e below (T1.setTop (mkF m 4 #[.val (.ref sx)] [])) _
    refine XS.aloadN X1.here hx rfl (hb hby d1_4) rfl rfl ?_
    show Steps p.tables e below (T1.setTop (mkF m 5 #[.val (.ref sx)] [(.ref sx)])) _
    exact kk
  obtain ⟨fs, hr, hrun, hended, hW, hsame⟩ := X1.leave (v := some (.ref sx)) (fun h => by rw [Bd.returns] at h; cases h)
  refine ⟨_, _, P2 _ ?_, hrun, hended, _, _, rfl, ?_, ⟨_, rfl⟩, hW, hsame.mono (by decide) (by decide)⟩
  · exact X1.areturnOut hx rfl Bd.returns rfl (hb hby d1_5) hr
  · show Q1 Z sx h0 n0 _ T1.heap _
    rw [e1]
    exact ⟨rfl, N0, rfl⟩
theorem d2_0 : decode prog_40_method_4_code 0 = .ok (.iload_n 0, 1) := by decide +kernel
theorem d2_1 : decode prog_40_method_4_code 1 = .ok (.bipush 15, 2) := by decide +kernel
theorem d2_3 : decode prog_40_method_4_code 3 = .ok (.iand, 1) := by decide +kernel
theorem d2_4 : decode prog_40_method_4_code 4 = .ok (.lookupswitch 40 #[(1, 28), (2, 34)], 28) := by decide +kernel
theorem d2_32 : decode prog_40_method_4_code 32 = .ok (.getstatic 29, 3) := by decide +kernel
theorem d2_35 : decode prog_40_method_4_code 35 = .ok (.goto 12, 3) := by decide +kernel
theorem d2_47 : decode prog_40_method_4_code 47 = .ok (.areturn, 1) := by decide +kernel
theorem ef_2 (m : MethodId) (x0 : Int32) : entryFrame m #[(.int x0)] 1 = (mkF m 0 #[.val (.int x0)] []) := by first | (simp [entryFrame, mkF, argsToLocals, Value.category]; done) | rfl
def Q2 (Z : State) (i : Int32) (sx : Addr) (h0 : Heap) (n0 : Nat) (vX : Option Value) (hX : Heap) (lX : List Loc) : Prop := vX = some (.ref sx) ∧ Fr n0 lX ∧ (hX = h0)
set_option maxRecDepth 65536 in
set_option maxHeartbeats 40000000 in
theorem rm2 (l : Launch) (Z : State) (a0 : Array Value) (hw : ∀ d ∈ tables_1, d.before a0 Z = true) (ws : List Jvm.Cond) (i : Int32) (sx : Addr) (h0 : Heap) (n0 : Nat) (Z0 : n0 ≤ h0.size) (pr0 : Sta Z h0 "com/example/envelope/envelope/IntegerEncoding" "FOUND_NORMAL" "Ljava/util/Optional;" (.ref sx)) (pr1 : (i &&& (15 : Int32)) = (1 : Int32)) :
    MetFree l (⟨"com/example/envelope/envelope/IntegerEncoding", "of", "(I)Ljava/util/Optional;"⟩ : MethodName) (head1 (Jvm.Cond.code (⟨"com/example/envelope/envelope/IntegerEncoding", "of", "(I)Ljava/util/Optional;"⟩ : MethodName) prog_40_method_4_code 1 (some (.object "java/util/Optional")) :: ws) ({ frames := 0, cells := 0, slots := 0, locals := 0 } : Room)) (fun aX uX => aX = #[(.int i)] ∧ Z.Warmed39 uX.vm ∧ uX.heap = h0) (fun _ _ _ _ _ => True) (fun _ uX oX wX => ∃ vX lX, oX = .returned vX ∧ Q2 Z i sx h0 n0 vX wX.heap lX ∧ FrameEnd uX oX wX lX ({ frames := 0, cells := 0, slots := 0, locals := 0 } : Room).cells ({ frames := 0, cells := 0, slots := 0, locals := 0 } : Room).slots) := by
  refine MetFree.of_bodySF (plainFor_of_name pn_1) hisR ?_
  intro p e s m args below meth c s₁ Bd hml0 hP hK
  obtain ⟨rfl, hZ, hh⟩ := hP
  have hx := Bd.exec
  have hby := Bd.bytes
  have hml : c.maxLocals = 1 := hml0
  have hown : s.vm.findClass "com/example/envelope/envelope/IntegerEncoding" = some m.cls := findClass_of_methodNamed Bd.named
  have hnm := (name_of_methodNamed Bd.named Bd.method).1
  have X0 : Stand p l e ({ frames := 0, cells := 0, slots := 0, locals := 0 } : Room) s m #[(.int i)] below meth c s₁ [] 0 0 := Stand.of_body Bd
  have e0 : s₁.heap = h0 := by rw [← hh, Bd.state]; rfl
  have N0 := Fr.nil n0
  have pre0 : ∀ t, Steps p.tables e below (s₁.setTop (mkF m 0 #[.val (.int i)] [])) t → Steps p.tables e below (s₁.setTop (entryFrame m #[(.int i)] 1)) t := fun t k => castTop (ef_2 m i) k
  obtain ⟨T1, X1, e1, st1⟩ := getS2 X0 hx hZ hown (host := "") (Or.inl (hw _ (List.mem_of_getElem? (i := 22) rfl))) Via.refl e0 pr0 (g := (mkF m 32 #[.val (.int i)] [])) rfl (hb hby d2_32)
  have P2 : ∀ t, Steps p.tables e below (T1.setTop (mkF m 47 #[.val (.int i)] [(.ref sx)])) t → Steps p.tables e below (s₁.setTop (entryFrame m #[(.int i)] 1)) t := by
    intro t kk
    refine pre0 _ ?_
    show Steps p.tables e below (s₁.setTop (mkF m 0 #[.val (.int i)] [])) _
    refine XS.iloadN X0.here hx rfl (hb hby d2_0) rfl ?_
    show Steps p.tables e below (s₁.setTop (mkF m 1 #[.val (.int i)] [(.int i)])) _
    refine XS.bipush X0.here hx rfl (hb hby d2_1) ?_
    show Steps p.tables e below (s₁.setTop (mkF m 3 #[.val (.int i)] [(.int (15 : Int32)), (.int i)])) _
    refine XS.iand X0.here hx rfl (hb hby d2_3) rfl ?_
    show Steps p.tables e below (s₁.setTop (mkF m 4 #[.val (.int i)] [(.int (i &&& (15 : Int32)))])) _
    refine X0.lookupswitchHit hx (g := (mkF m 4 #[.val (.int i)] [(.int (i &&& (15 : Int32)))])) rfl (k := (i &&& (15 : Int32))) (rest := []) rfl (hb hby d2_4) (by decide) (a := 1) (off := 28) (by rw [pr1]; decide) (by show (0 : Int) ≤ (4 : Nat) + (28); decide) _ ?_
    show Steps p.tables e below (s₁.setTop (mkF m 32 #[.val (.int i)] [])) _
    refine st1 _ ?_
    show Steps p.tables e below (T1.setTop (mkF m 35 #[.val (.int i)] [(.ref sx)])) _
    refine XS.goto X1.here hx rfl (pc0 := 35) (pc' := 47) rfl (hb hby d2_35) (by decide) (by decide) ?_
    show Steps p.tables e below (T1.setTop (mkF m 47 #[.val (.int i)] [(.ref sx)])) _
    exact kk
  obtain ⟨fs, hr, hrun, hended, hW, hsame⟩ := X1.leave (v := some (.ref sx)) (fun h => by rw [Bd.returns] at h; cases h)
  refine ⟨_, _, P2 _ ?_, hrun, hended, _, _, rfl, ?_, ⟨_, rfl⟩, hW, hsame.mono (by decide) (by decide)⟩
  · exact X1.areturnOut hx rfl Bd.returns rfl (hb hby d2_47) hr
  · show Q2 Z i sx h0 n0 _ T1.heap _
    rw [e1]
    exact ⟨rfl, N0, rfl⟩
theorem d3_0 : decode prog_40_method_4_code 0 = .ok (.iload_n 0, 1) := by decide +kernel
theorem d3_1 : decode prog_40_method_4_code 1 = .ok (.bipush 15, 2) := by decide +kernel
theorem d3_3 : decode prog_40_method_4_code 3 = .ok (.iand, 1) := by decide +kernel
theorem d3_4 : decode prog_40_method_4_code 4 = .ok (.lookupswitch 40 #[(1, 28), (2, 34)], 28) := by decide +kernel
theorem d3_38 : decode prog_40_method_4_code 38 = .ok (.getstatic 33, 3) := by decide +kernel
theorem d3_41 : decode prog_40_method_4_code 41 = .ok (.goto 6, 3) := by decide +kernel
theorem d3_47 : decode prog_40_method_4_code 47 = .ok (.areturn, 1) := by decide +kernel
theorem ef_3 (m : MethodId) (x0 : Int32) : entryFrame m #[(.int x0)] 1 = (mkF m 0 #[.val (.int x0)] []) := by first | (simp [entryFrame, mkF, argsToLocals, Value.category]; done) | rfl
def Q3 (Z : State) (i : Int32) (sx : Addr) (h0 : Heap) (n0 : Nat) (vX : Option Value) (hX : Heap) (lX : List Loc) : Prop := vX = some (.ref sx) ∧ Fr n0 lX ∧ (hX = h0)
set_option maxRecDepth 65536 in
set_option maxHeartbeats 40000000 in
theorem rm3 (l : Launch) (Z : State) (a0 : Array Value) (hw : ∀ d ∈ tables_1, d.before a0 Z = true) (ws : List Jvm.Cond) (i : Int32) (sx : Addr) (h0 : Heap) (n0 : Nat) (Z0 : n0 ≤ h0.size) (pr0 : Sta Z h0 "com/example/envelope/envelope/IntegerEncoding" "FOUND_REVERSED" "Ljava/util/Optional;" (.ref sx)) (pr1 : (i &&& (15 : Int32)) = (2 : Int32)) :
    MetFree l (⟨"com/example/envelope/envelope/IntegerEncoding", "of", "(I)Ljava/util/Optional;"⟩ : MethodName) (head1 (Jvm.Cond.code (⟨"com/example/envelope/envelope/IntegerEncoding", "of", "(I)Ljava/util/Optional;"⟩ : MethodName) prog_40_method_4_code 1 (some (.object "java/util/Optional")) :: ws) ({ frames := 0, cells := 0, slots := 0, locals := 0 } : Room)) (fun aX uX => aX = #[(.int i)] ∧ Z.Warmed39 uX.vm ∧ uX.heap = h0) (fun _ _ _ _ _ => True) (fun _ uX oX wX => ∃ vX lX, oX = .returned vX ∧ Q3 Z i sx h0 n0 vX wX.heap lX ∧ FrameEnd uX oX wX lX ({ frames := 0, cells := 0, slots := 0, locals := 0 } : Room).cells ({ frames := 0, cells := 0, slots := 0, locals := 0 } : Room).slots) := by
  refine MetFree.of_bodySF (plainFor_of_name pn_1) hisR ?_
  intro p e s m args below meth c s₁ Bd hml0 hP hK
  obtain ⟨rfl, hZ, hh⟩ := hP
  have hx := Bd.exec
  have hby := Bd.bytes
  have hml : c.maxLocals = 1 := hml0
  have hown : s.vm.findClass "com/example/envelope/envelope/IntegerEncoding" = some m.cls := findClass_of_methodNamed Bd.named
  have hnm := (name_of_methodNamed Bd.named Bd.method).1
  have X0 : Stand p l e ({ frames := 0, cells := 0, slots := 0, locals := 0 } : Room) s m #[(.int i)] below meth c s₁ [] 0 0 := Stand.of_body Bd
  have e0 : s₁.heap = h0 := by rw [← hh, Bd.state]; rfl
  have N0 := Fr.nil n0
  have pre0 : ∀ t, Steps p.tables e below (s₁.setTop (mkF m 0 #[.val (.int i)] [])) t → Steps p.tables e below (s₁.setTop (entryFrame m #[(.int i)] 1)) t := fun t k => castTop (ef_3 m i) k
  obtain ⟨T1, X1, e1, st1⟩ := getS2 X0 hx hZ hown (host := "") (Or.inl (hw _ (List.mem_of_getElem? (i := 16) rfl))) Via.refl e0 pr0 (g := (mkF m 38 #[.val (.int i)] [])) rfl (hb hby d3_38)
  have P2 : ∀ t, Steps p.tables e below (T1.setTop (mkF m 47 #[.val (.int i)] [(.ref sx)])) t → Steps p.tables e below (s₁.setTop (entryFrame m #[(.int i)] 1)) t := by
    intro t kk
    refine pre0 _ ?_
    show Steps p.tables e below (s₁.setTop (mkF m 0 #[.val (.int i)] [])) _
    refine XS.iloadN X0.here hx rfl (hb hby d3_0) rfl ?_
    show Steps p.tables e below (s₁.setTop (mkF m 1 #[.val (.int i)] [(.int i)])) _
    refine XS.bipush X0.here hx rfl (hb hby d3_1) ?_
    show Steps p.tables e below (s₁.setTop (mkF m 3 #[.val (.int i)] [(.int (15 : Int32)), (.int i)])) _
    refine XS.iand X0.here hx rfl (hb hby d3_3) rfl ?_
    show Steps p.tables e below (s₁.setTop (mkF m 4 #[.val (.int i)] [(.int (i &&& (15 : Int32)))])) _
    refine X0.lookupswitchHit hx (g := (mkF m 4 #[.val (.int i)] [(.int (i &&& (15 : Int32)))])) rfl (k := (i &&& (15 : Int32))) (rest := []) rfl (hb hby d3_4) (by decide) (a := 2) (off := 34) (by rw [pr1]; decide) (by show (0 : Int) ≤ (4 : Nat) + (34); decide) _ ?_
    show Steps p.tables e below (s₁.setTop (mkF m 38 #[.val (.int i)] [])) _
    refine st1 _ ?_
    show Steps p.tables e below (T1.setTop (mkF m 41 #[.val (.int i)] [(.ref sx)])) _
    refine XS.goto X1.here hx rfl (pc0 := 41) (pc' := 47) rfl (hb hby d3_41) (by decide) (by decide) ?_
    show Steps p.tables e below (T1.setTop (mkF m 47 #[.val (.int i)] [(.ref sx)])) _
    exact kk
  obtain ⟨fs, hr, hrun, hended, hW, hsame⟩ := X1.leave (v := some (.ref sx)) (fun h => by rw [Bd.returns] at h; cases h)
  refine ⟨_, _, P2 _ ?_, hrun, hended, _, _, rfl, ?_, ⟨_, rfl⟩, hW, hsame.mono (by decide) (by decide)⟩
  · exact X1.areturnOut hx rfl Bd.returns rfl (hb hby d3_47) hr
  · show Q3 Z i sx h0 n0 _ T1.heap _
    rw [e1]
    exact ⟨rfl, N0, rfl⟩
theorem d4_0 : decode prog_40_method_4_code 0 = .ok (.iload_n 0, 1) := by decide +kernel
theorem d4_1 : decode prog_40_method_4_code 1 = .ok (.bipush 15, 2) := by decide +kernel
theorem d4_3 : decode prog_40_method_4_code 3 = .ok (.iand, 1) := by decide +kernel
theorem d4_4 : decode prog_40_method_4_code 4 = .ok (.lookupswitch 40 #[(1, 28), (2, 34)], 28) := by decide +kernel
theorem d4_44 : decode prog_40_method_4_code 44 = .ok (.invokestatic 36, 3) := by decide +kernel
theorem d4_47 : decode prog_40_method_4_code 47 = .ok (.areturn, 1) := by decide +kernel
theorem ef_4 (m : MethodId) (x0 : Int32) : entryFrame m #[(.int x0)] 1 = (mkF m 0 #[.val (.int x0)] []) := by first | (simp [entryFrame, mkF, argsToLocals, Value.category]; done) | rfl
def Q4 (Z : State) (i : Int32) (sx : Addr) (h0 : Heap) (n0 : Nat) (vX : Option Value) (hX : Heap) (lX : List Loc) : Prop := vX = some (.ref sx) ∧ Fr n0 lX ∧ (hX = h0)
set_option maxRecDepth 65536 in
set_option maxHeartbeats 40000000 in
theorem rm4 (l : Launch) (Z : State) (a0 : Array Value) (hw : ∀ d ∈ tables_1, d.before a0 Z = true) (ws : List Jvm.Cond) (i : Int32) (sx : Addr) (h0 : Heap) (n0 : Nat) (Z0 : n0 ≤ h0.size) (pr0 : Sta Z h0 "java/util/Optional" "EMPTY" "Ljava/util/Optional;" (.ref sx)) (pr1 : ¬ (i &&& (15 : Int32)) = (1 : Int32) ∧ ¬ (i &&& (15 : Int32)) = (2 : Int32)) :
    MetFree l (⟨"com/example/envelope/envelope/IntegerEncoding", "of", "(I)Ljava/util/Optional;"⟩ : MethodName) (head1 (Jvm.Cond.code (⟨"com/example/envelope/envelope/IntegerEncoding", "of", "(I)Ljava/util/Optional;"⟩ : MethodName) prog_40_method_4_code 1 (some (.object "java/util/Optional")) :: ws) ({ frames := 1, cells := 0, slots := 0, locals := 12 } : Room)) (fun aX uX => aX = #[(.int i)] ∧ Z.Warmed39 uX.vm ∧ uX.heap = h0) (fun _ _ _ _ _ => True) (fun _ uX oX wX => ∃ vX lX, oX = .returned vX ∧ Q4 Z i sx h0 n0 vX wX.heap lX ∧ FrameEnd uX oX wX lX ({ frames := 1, cells := 0, slots := 0, locals := 12 } : Room).cells ({ frames := 1, cells := 0, slots := 0, locals := 12 } : Room).slots) := by
  refine MetFree.of_bodySF (plainFor_of_name pn_1) hisR ?_
  intro p e s m args below meth c s₁ Bd hml0 hP hK
  obtain ⟨rfl, hZ, hh⟩ := hP
  have hx := Bd.exec
  have hby := Bd.bytes
  have hml : c.maxLocals = 1 := hml0
  have hown : s.vm.findClass "com/example/envelope/envelope/IntegerEncoding" = some m.cls := findClass_of_methodNamed Bd.named
  have hnm := (name_of_methodNamed Bd.named Bd.method).1
  have X0 : Stand p l e ({ frames := 1, cells := 0, slots := 0, locals := 12 } : Room) s m #[(.int i)] below meth c s₁ [] 0 0 := Stand.of_body Bd
  have e0 : s₁.heap = h0 := by rw [← hh, Bd.state]; rfl
  have N0 := Fr.nil n0
  have pre0 : ∀ t, Steps p.tables e below (s₁.setTop (mkF m 0 #[.val (.int i)] [])) t → Steps p.tables e below (s₁.setTop (entryFrame m #[(.int i)] 1)) t := fun t k => castTop (ef_4 m i) k
  obtain ⟨_, _, ⟨T1, L1, k1, n1⟩, -, X1, ⟨Lc1, hQ1, l1, y1, z1⟩, st1⟩ := Jvm.LawKit.callS X0 hx (y := (⟨"java/util/Optional", "empty", "()Ljava/util/Optional;"⟩ : MethodName)) hown (mvT hZ (hw _ (List.mem_of_getElem? (i := 4) rfl))) (mvT hZ (hw _ (List.mem_of_getElem? (i := 5) rfl))) (mvT hZ (hw _ (List.mem_of_getElem? (i := 6) rfl))) (mvT hZ (hw _ (List.mem_of_getElem? (i := 7) rfl))) (by decide) (backOf (W := 0) (rm1 l Z a0 hw [] sx h0 n0 Z0 pr0) hZ (hw _ (List.mem_of_getElem? (i := 7) rfl)) (hw _ (List.mem_of_getElem? (i := 6) rfl)) (by decide) (by decide)) (g := (mkF m 44 #[.val (.int i)] [])) rfl (by rw [hml]; rfl) (argsL := []) (rest := []) (lenOf pd_0 rfl) rfl (by show 2 * 0 + _ ≤ _; exact Nat.le_of_eq rfl) (hb hby d4_44) (fun _ _ => ⟨rfl, e0, (by decide : 0 + 0 ≤ _), (by decide : 0 + 0 ≤ _)⟩)
  dsimp only [Pt.U, Pt.locs, Pt.cells, Pt.slots] at X1 l1 y1 z1 st1 hQ1
  subst l1 y1 z1
  obtain ⟨rfl, Nq1, e1⟩ := hQ1
  have N1 := Fr.app N0 Nq1
  have P2 : ∀ t, Steps p.tables e below (T1.setTop (mkF m 47 #[.val (.int i)] [(.ref sx)])) t → Steps p.tables e below (s₁.setTop (entryFrame m #[(.int i)] 1)) t := by
    intro t kk
    refine pre0 _ ?_
    show Steps p.tables e below (s₁.setTop (mkF m 0 #[.val (.int i)] [])) _
    refine XS.iloadN X0.here hx rfl (hb hby d4_0) rfl ?_
    show Steps p.tables e below (s₁.setTop (mkF m 1 #[.val (.int i)] [(.int i)])) _
    refine XS.bipush X0.here hx rfl (hb hby d4_1) ?_
    show Steps p.tables e below (s₁.setTop (mkF m 3 #[.val (.int i)] [(.int (15 : Int32)), (.int i)])) _
    refine XS.iand X0.here hx rfl (hb hby d4_3) rfl ?_
    show Steps p.tables e below (s₁.setTop (mkF m 4 #[.val (.int i)] [(.int (i &&& (15 : Int32)))])) _
    refine X0.lookupswitchMiss hx (g := (mkF m 4 #[.val (.int i)] [(.int (i &&& (15 : Int32)))])) rfl (k := (i &&& (15 : Int32))) (rest := []) rfl (hb hby d4_4) (by decide) (own_miss _ pr1.1 pr1.2) (by show (0 : Int) ≤ (4 : Nat) + (40); decide) _ ?_
    show Steps p.tables e below (s₁.setTop (mkF m 44 #[.val (.int i)] [])) _
    refine st1 _ ?_
    show Steps p.tables e below (T1.setTop (mkF m 47 #[.val (.int i)] [(.ref sx)])) _
    exact kk
  obtain ⟨fs, hr, hrun, hended, hW, hsame⟩ := X1.leave (v := some (.ref sx)) (fun h => by rw [Bd.returns] at h; cases h)
  refine ⟨_, _, P2 _ ?_, hrun, hended, _, _, rfl, ?_, ⟨_, rfl⟩, hW, hsame.mono (by decide) (by decide)⟩
  · exact X1.areturnOut hx rfl Bd.returns rfl (hb hby d4_47) hr
  · show Q4 Z i sx h0 n0 _ T1.heap _
    rw [e1]
    exact ⟨rfl, N1, rfl⟩
theorem d5_0 : decode jdk_32_method_15_code 0 = .ok (.aload_n 0, 1) := by decide +kernel
theorem d5_1 : decode jdk_32_method_15_code 1 = .ok (.getfield 13, 3) := by decide +kernel
theorem d5_4 : decode jdk_32_method_15_code 4 = .ok (.ifnull 10, 3) := by decide +kernel
theorem d5_14 : decode jdk_32_method_15_code 14 = .ok (.aload_n 1, 1) := by decide +kernel
theorem d5_15 : decode jdk_32_method_15_code 15 = .ok (.areturn, 1) := by decide +kernel
theorem ef_5 (m : MethodId) (x0 : Addr) : entryFrame m #[(.ref x0), .null] 2 = (mkF m 0 #[.val (.ref x0), .val .null] []) := by first | (simp [entryFrame, mkF, argsToLocals, Value.category]; done) | rfl
def Q5 (Z : State) (a : Addr) (h0 : Heap) (n0 : Nat) (vX : Option Value) (hX : Heap) (lX : List Loc) : Prop := vX = some .null ∧ Fr n0 lX ∧ (hX = h0)
set_option maxRecDepth 65536 in
set_option maxHeartbeats 40000000 in
theorem rm5 (l : Launch) (Z : State) (a0 : Array Value) (hw : ∀ d ∈ tables_1, d.before a0 Z = true) (ws : List Jvm.Cond) (a : Addr) (h0 : Heap) (n0 : Nat) (Z0 : n0 ≤ h0.size) (pr0 : Fld Z h0 a "java/util/Optional" "value" "Ljava/lang/Object;" .null) :
    MetFree l (⟨"java/util/Optional", "orElse", "(Ljava/lang/Object;)Ljava/lang/Object;"⟩ : MethodName) (head1 (Jvm.Cond.code (⟨"java/util/Optional", "orElse", "(Ljava/lang/Object;)Ljava/lang/Object;"⟩ : MethodName) jdk_32_method_15_code 2 (some (.object "java/lang/Object")) :: ws) ({ frames := 0, cells := 0, slots := 0, locals := 0 } : Room)) (fun aX uX => aX = #[(.ref a), .null] ∧ Z.Warmed39 uX.vm ∧ uX.heap = h0) (fun _ _ _ _ _ => True) (fun _ uX oX wX => ∃ vX lX, oX = .returned vX ∧ Q5 Z a h0 n0 vX wX.heap lX ∧ FrameEnd uX oX wX lX ({ frames := 0, cells := 0, slots := 0, locals := 0 } : Room).cells ({ frames := 0, cells := 0, slots := 0, locals := 0 } : Room).slots) := by
  refine MetFree.of_bodySF (plainFor_of_name pn_0) hisR ?_
  intro p e s m args below meth c s₁ Bd hml0 hP hK
  obtain ⟨rfl, hZ, hh⟩ := hP
  have hx := Bd.exec
  have hby := Bd.bytes
  have hml : c.maxLocals = 2 := hml0
  have hown : s.vm.findClass "java/util/Optional" = some m.cls := findClass_of_methodNamed Bd.named
  have hnm := (name_of_methodNamed Bd.named Bd.method).1
  have X0 : Stand p l e ({ frames := 0, cells := 0, slots := 0, locals := 0 } : Room) s m #[(.ref a), .null] below meth c s₁ [] 0 0 := Stand.of_body Bd
  have e0 : s₁.heap = h0 := by rw [← hh, Bd.state]; rfl
  have N0 := Fr.nil n0
  have pre0 : ∀ t, Steps p.tables e below (s₁.setTop (mkF m 0 #[.val (.ref a), .val .null] [])) t → Steps p.tables e below (s₁.setTop (entryFrame m #[(.ref a), .null] 2)) t := fun t k => castTop (ef_5 m a) k
  obtain ⟨T1, X1, e1, st1⟩ := getF X0 hx hZ hown (host := "") (Or.inl (hw _ (List.mem_of_getElem? (i := 14) rfl))) Via.refl e0 pr0 (g := (mkF m 1 #[.val (.ref a), .val .null] [(.ref a)])) rfl rfl (hb hby d5_1)
  have P2 : ∀ t, Steps p.tables e below (T1.setTop (mkF m 15 #[.val (.ref a), .val .null] [.null])) t → Steps p.tables e below (s₁.setTop (entryFrame m #[(.ref a), .null] 2)) t := by
    intro t kk
    refine pre0 _ ?_
    show Steps p.tables e below (s₁.setTop (mkF m 0 #[.val (.ref a), .val .null] [])) _
    refine XS.aloadN X0.here hx rfl (hb hby d5_0) rfl rfl ?_
    show Steps p.tables e below (s₁.setTop (mkF m 1 #[.val (.ref a), .val .null] [(.ref a)])) _
    refine st1 _ ?_
    show Steps p.tables e below (T1.setTop (mkF m 4 #[.val (.ref a), .val .null] [.null])) _
    refine XS.ifnullYes X1.here hx rfl (pc0 := 4) (pc' := 14) rfl (hb hby d5_4) rfl (by decide) (by decide) ?_
    show Steps p.tables e below (T1.setTop (mkF m 14 #[.val (.ref a), .val .null] [])) _
    refine XS.aloadN X1.here hx rfl (hb hby d5_14) rfl rfl ?_
    show Steps p.tables e below (T1.setTop (mkF m 15 #[.val (.ref a), .val .null] [.null])) _
    exact kk
  obtain ⟨fs, hr, hrun, hended, hW, hsame⟩ := X1.leave (v := some .null) (fun h => by rw [Bd.returns] at h; cases h)
  refine ⟨_, _, P2 _ ?_, hrun, hended, _, _, rfl, ?_, ⟨_, rfl⟩, hW, hsame.mono (by decide) (by decide)⟩
  · exact X1.areturnOut hx rfl Bd.returns rfl (hb hby d5_15) hr
  · show Q5 Z a h0 n0 _ T1.heap _
    rw [e1]
    exact ⟨rfl, N0, rfl⟩
theorem d6_0 : decode jdk_32_method_15_code 0 = .ok (.aload_n 0, 1) := by decide +kernel
theorem d6_1 : decode jdk_32_method_15_code 1 = .ok (.getfield 13, 3) := by decide +kernel
theorem d6_4 : decode jdk_32_method_15_code 4 = .ok (.ifnull 10, 3) := by decide +kernel
theorem d6_7 : decode jdk_32_method_15_code 7 = .ok (.aload_n 0, 1) := by decide +kernel
theorem d6_8 : decode jdk_32_method_15_code 8 = .ok (.getfield 13, 3) := by decide +kernel
theorem d6_11 : decode jdk_32_method_15_code 11 = .ok (.goto 4, 3) := by decide +kernel
theorem d6_15 : decode jdk_32_method_15_code 15 = .ok (.areturn, 1) := by decide +kernel
theorem ef_6 (m : MethodId) (x0 : Addr) : entryFrame m #[(.ref x0), .null] 2 = (mkF m 0 #[.val (.ref x0), .val .null] []) := by first | (simp [entryFrame, mkF, argsToLocals, Value.category]; done) | rfl
def Q6 (Z : State) (a : Addr) (o : Addr) (h0 : Heap) (n0 : Nat) (vX : Option Value) (hX : Heap) (lX : List Loc) : Prop := vX = some (.ref o) ∧ Fr n0 lX ∧ (hX = h0)
set_option maxRecDepth 65536 in
set_option maxHeartbeats 40000000 in
theorem rm6 (l : Launch) (Z : State) (a0 : Array Value) (hw : ∀ d ∈ tables_1, d.before a0 Z = true) (ws : List Jvm.Cond) (a : Addr) (o : Addr) (h0 : Heap) (n0 : Nat) (Z0 : n0 ≤ h0.size) (pr0 : Fld Z h0 a "java/util/Optional" "value" "Ljava/lang/Object;" (.ref o)) :
    MetFree l (⟨"java/util/Optional", "orElse", "(Ljava/lang/Object;)Ljava/lang/Object;"⟩ : MethodName) (head1 (Jvm.Cond.code (⟨"java/util/Optional", "orElse", "(Ljava/lang/Object;)Ljava/lang/Object;"⟩ : MethodName) jdk_32_method_15_code 2 (some (.object "java/lang/Object")) :: ws) ({ frames := 0, cells := 0, slots := 0, locals := 0 } : Room)) (fun aX uX => aX = #[(.ref a), .null] ∧ Z.Warmed39 uX.vm ∧ uX.heap = h0) (fun _ _ _ _ _ => True) (fun _ uX oX wX => ∃ vX lX, oX = .returned vX ∧ Q6 Z a o h0 n0 vX wX.heap lX ∧ FrameEnd uX oX wX lX ({ frames := 0, cells := 0, slots := 0, locals := 0 } : Room).cells ({ frames := 0, cells := 0, slots := 0, locals := 0 } : Room).slots) := by
  refine MetFree.of_bodySF (plainFor_of_name pn_0) hisR ?_
  intro p e s m args below meth c s₁ Bd hml0 hP hK
  obtain ⟨rfl, hZ, hh⟩ := hP
  have hx := Bd.exec
  have hby := Bd.bytes
  have hml : c.maxLocals = 2 := hml0
  have hown : s.vm.findClass "java/util/Optional" = some m.cls := findClass_of_methodNamed Bd.named
  have hnm := (name_of_methodNamed Bd.named Bd.method).1
  have X0 : Stand p l e ({ frames := 0, cells := 0, slots := 0, locals := 0 } : Room) s m #[(.ref a), .null] below meth c s₁ [] 0 0 := Stand.of_body Bd
  have e0 : s₁.heap = h0 := by rw [← hh, Bd.state]; rfl
  have N0 := Fr.nil n0
  have pre0 : ∀ t, Steps p.tables e below (s₁.setTop (mkF m 0 #[.val (.ref a), .val .null] [])) t → Steps p.tables e below (s₁.setTop (entryFrame m #[(.ref a), .null] 2)) t := fun t k => castTop (ef_6 m a) k
  obtain ⟨T1, X1, e1, st1⟩ := getF X0 hx hZ hown (host := "") (Or.inl (hw _ (List.mem_of_getElem? (i := 14) rfl))) Via.refl e0 pr0 (g := (mkF m 1 #[.val (.ref a), .val .null] [(.ref a)])) rfl rfl (hb hby d6_1)
  obtain ⟨T2, X2, e2, st2⟩ := getF X1 hx hZ hown (host := "") (Or.inl (hw _ (List.mem_of_getElem? (i := 14) rfl))) Via.refl e1 pr0 (g := (mkF m 8 #[.val (.ref a), .val .null] [(.ref a)])) rfl rfl (hb hby d6_8)
  have P3 : ∀ t, Steps p.tables e below (T2.setTop (mkF m 15 #[.val (.ref a), .val .null] [(.ref o)])) t → Steps p.tables e below (s₁.setTop (entryFrame m #[(.ref a), .null] 2)) t := by
    intro t kk
    refine pre0 _ ?_
    show Steps p.tables e below (s₁.setTop (mkF m 0 #[.val (.ref a), .val .null] [])) _
    refine XS.aloadN X0.here hx rfl (hb hby d6_0) rfl rfl ?_
    show Steps p.tables e below (s₁.setTop (mkF m 1 #[.val (.ref a), .val .null] [(.ref a)])) _
    refine st1 _ ?_
    show Steps p.tables e below (T1.setTop (mkF m 4 #[.val (.ref a), .val .null] [(.ref o)])) _
    refine XS.ifnullNo X1.here hx rfl (hb hby d6_4) rfl ?_
    show Steps p.tables e below (T1.setTop (mkF m 7 #[.val (.ref a), .val .null] [])) _
    refine XS.aloadN X1.here hx rfl (hb hby d6_7) rfl rfl ?_
    show Steps p.tables e below (T1.setTop (mkF m 8 #[.val (.ref a), .val .null] [(.ref a)])) _
    refine st2 _ ?_
    show Steps p.tables e below (T2.setTop (mkF m 11 #[.val (.ref a), .val .null] [(.ref o)])) _
    refine XS.goto X2.here hx rfl (pc0 := 11) (pc' := 15) rfl (hb hby d6_11) (by decide) (by decide) ?_
    show Steps p.tables e below (T2.setTop (mkF m 15 #[.val (.ref a), .val .null] [(.ref o)])) _
    exact kk
  obtain ⟨fs, hr, hrun, hended, hW, hsame⟩ := X2.leave (v := some (.ref o)) (fun h => by rw [Bd.returns] at h; cases h)
  refine ⟨_, _, P3 _ ?_, hrun, hended, _, _, rfl, ?_, ⟨_, rfl⟩, hW, hsame.mono (by decide) (by decide)⟩
  · exact X2.areturnOut hx rfl Bd.returns rfl (hb hby d6_15) hr
  · show Q6 Z a o h0 n0 _ T2.heap _
    rw [e2]
    exact ⟨rfl, N0, rfl⟩
theorem ef_0 (m : MethodId) (x0 : Int32) : entryFrame m #[(.int x0)] maxLocals = (mkF m 0 #[.val (.int x0), .unset, .unset, .unset] []) := by first | (simp [entryFrame, mkF, argsToLocals, Value.category, maxLocals]; done) | rfl
def Q0 (Z : State) (h0 : Heap) (n0 : Nat) (v : Option Value) (h : Heap) (L : List Loc) : Prop := v = some (.int (1 : Int32)) ∧ Fr n0 L
set_option maxRecDepth 65536 in
set_option maxHeartbeats 400000000 in
theorem rm0 (l : Launch) (Z : State) (a0 : Array Value) (hw : ∀ d ∈ tables_1, d.before a0 Z = true) (ws : List Jvm.Cond) (p0 : Int32) (s0 : Addr) (s1 : Addr) (s2 : Addr) (t0 : Addr) (t1 : Addr) (h0 : Heap) (n0 : Nat) (Z0 : n0 ≤ h0.size) (pr0 : Sta Z h0 "com/example/envelope/envelope/IntegerEncoding" "FOUND_NORMAL" "Ljava/util/Optional;" (.ref s0)) (pr1 : Sta Z h0 "com/example/envelope/envelope/IntegerEncoding" "FOUND_REVERSED" "Ljava/util/Optional;" (.ref s1)) (pr2 : Sta Z h0 "java/util/Optional" "EMPTY" "Ljava/util/Optional;" (.ref s2)) (pr3 : Sta Z h0 "com/example/envelope/envelope/IntegerEncoding" "NORMAL" "Lcom/example/envelope/envelope/IntegerEncoding;" (.ref t0)) (pr4 : Sta Z h0 "com/example/envelope/envelope/IntegerEncoding" "REVERSED" "Lcom/example/envelope/envelope/IntegerEncoding;" (.ref t1)) (pr5 : Exa Z h0 s0 "java/util/Optional") (pr6 : Exa Z h0 s1 "java/util/Optional") (pr7 : Exa Z h0 s2 "java/util/Optional") (pr8 : Exa Z h0 t0 "com/example/envelope/envelope/IntegerEncoding") (pr9 : Exa Z h0 t1 "com/example/envelope/envelope/IntegerEncoding") (pr10 : Fld Z h0 s0 "java/util/Optional" "value" "Ljava/lang/Object;" (.ref t0)) (pr11 : Fld Z h0 s1 "java/util/Optional" "value" "Ljava/lang/Object;" (.ref t1)) (pr12 : Fld Z h0 s2 "java/util/Optional" "value" "Ljava/lang/Object;" .null) :
    MetFree l x (head1 (Jvm.Cond.code x code maxLocals ret :: ws) room_1) (fun a U => a = #[(.int p0)] ∧ Z.Warmed39 U.vm ∧ U.heap = h0) (fun _ _ _ _ _ => True) (fun _ U o U' => ∃ v L, o = .returned v ∧ Q0 Z h0 n0 v U'.heap L ∧ FrameEnd U o U' L room_1.cells room_1.slots) := by
  refine MetFree.of_bodySF (plainFor_of_name pn_2) hisR ?_
  intro p e s m args below meth c s₁ Bd hml0 hP hK
  obtain ⟨rfl, hZ, hh⟩ := hP
  have hx := Bd.exec
  have hby := Bd.bytes
  have hml : c.maxLocals = 4 := hml0
  have hown : s.vm.findClass "com/example/envelope/envelope/IntegerEncodingOfPinLaw" = some m.cls := findClass_of_methodNamed Bd.named
  have hnm := (name_of_methodNamed Bd.named Bd.method).1
  have X0 : Stand p l e room_1 s m #[(.int p0)] below meth c s₁ [] 0 0 := Stand.of_body Bd
  have e0 : s₁.heap = h0 := by rw [← hh, Bd.state]; rfl
  have N0 := Fr.nil n0
  have pre0 : ∀ t, Steps p.tables e below (s₁.setTop (mkF m 0 #[.val (.int p0), .unset, .unset, .unset] [])) t → Steps p.tables e below (s₁.setTop (entryFrame m #[(.int p0)] maxLocals)) t := fun t k => castTop (ef_0 m p0) k
  have P1 : ∀ t, Steps p.tables e below (s₁.setTop (mkF m 0 #[.val (.int p0), .unset, .unset, .unset] [])) t → Steps p.tables e below (s₁.setTop (entryFrame m #[(.int p0)] maxLocals)) t := by
    intro t kk
    refine pre0 _ ?_
    show Steps p.tables e below (s₁.setTop (mkF m 0 #[.val (.int p0), .unset, .unset, .unset] [])) _
    exact kk
  rcases own_cases p0 with hk2 | hk2 | hk2
  · skip
    obtain ⟨_, _, ⟨T3, L3, k3, n3⟩, -, X3, ⟨Lc3, hQ3, l3, y3, z3⟩, st3⟩ := Jvm.LawKit.callS X0 hx (y := (⟨"com/example/envelope/envelope/IntegerEncoding", "of", "(I)Ljava/util/Optional;"⟩ : MethodName)) hown (mvT hZ (hw _ (List.mem_of_getElem? (i := 0) rfl))) (mvT hZ (hw _ (List.mem_of_getElem? (i := 1) rfl))) (mvT hZ (hw _ (List.mem_of_getElem? (i := 2) rfl))) (mvT hZ (hw _ (List.mem_of_getElem? (i := 3) rfl))) (by decide) (backOf (W := 0) (rm2 l Z a0 hw [] p0 s0 h0 n0 Z0 pr0 hk2) hZ (hw _ (List.mem_of_getElem? (i := 3) rfl)) (hw _ (List.mem_of_getElem? (i := 2) rfl)) (by decide) (by decide)) (g := (mkF m 1 #[.val (.int p0), .unset, .unset, .unset] [(.int p0)])) rfl (by rw [hml]; rfl) (argsL := [(.int p0)]) (rest := []) (lenOf pd_1 rfl) rfl (by show 2 * 0 + _ ≤ _; exact Nat.le_of_eq rfl) (hb hby at_1) (fun _ _ => ⟨rfl, e0, (by decide : 0 + 0 ≤ _), (by decide : 0 + 0 ≤ _)⟩)
    dsimp only [Pt.U, Pt.locs, Pt.cells, Pt.slots] at X3 l3 y3 z3 st3 hQ3
    subst l3 y3 z3
    obtain ⟨rfl, Nq3, e3⟩ := hQ3
    have N3 := Fr.app N0 Nq3
    obtain ⟨cq4, kq4, q4a, q4b, q4c⟩ := isOf hZ e3 pr5
    obtain ⟨_, _, ⟨T4, L4, k4, n4⟩, -, X4, ⟨Lc4, hQ4, l4, y4, z4⟩, st4⟩ := X3.virtualBack hx (y := (⟨"java/util/Optional", "orElse", "(Ljava/lang/Object;)Ljava/lang/Object;"⟩ : MethodName)) (z := (⟨"java/util/Optional", "orElse", "(Ljava/lang/Object;)Ljava/lang/Object;"⟩ : MethodName)) hown (mvT hZ (hw _ (List.mem_of_getElem? (i := 9) rfl))) (mvT hZ (hw _ (List.mem_of_getElem? (i := 10) rfl))) (notFace_of_selects (args := #[]) (mvT hZ (hw _ (List.mem_of_getElem? (i := 12) rfl)))) (mvT hZ (hw _ (List.mem_of_getElem? (i := 12) rfl))) (mvT hZ (hw _ (List.mem_of_getElem? (i := 11) rfl))) (by decide) (backOf (W := 0) (rm6 l Z a0 hw [] s0 t0 h0 n0 Z0 pr10) hZ (hw _ (List.mem_of_getElem? (i := 13) rfl)) (hw _ (List.mem_of_getElem? (i := 6) rfl)) (by decide) (by decide)) q4a q4c (g := (mkF m 5 #[.val (.int p0), .unset, .unset, .unset] [.null, (.ref s0)])) rfl (by rw [hml]; rfl) (Steps.refl _) (argsL := [.null]) (rest := []) (lenOf pd_2 rfl) rfl (by show 2 * 0 + _ ≤ _; exact Nat.le_of_eq rfl) (hb hby at_5) (fun _ _ => ⟨rfl, e3, (by decide : 0 + 0 ≤ _), (by decide : 0 + 0 ≤ _)⟩)
    dsimp only [Pt.U, Pt.locs, Pt.cells, Pt.slots] at X4 l4 y4 z4 st4 hQ4
    subst l4 y4 z4
    obtain ⟨rfl, Nq4, e4⟩ := hQ4
    have N4 := Fr.app N3 Nq4
    obtain ⟨T5, X5, e5, st5⟩ := castY X4 hx hZ hown (hw _ (List.mem_of_getElem? (i := 19) rfl)) e4 (Ins.self pr8) (g := (mkF m 8 #[.val (.int p0), .unset, .unset, .unset] [(.ref t0)])) rfl rfl (hb hby at_8)
    have P6 : ∀ t, Steps p.tables e below (T5.setTop (mkF m 18 #[.val (.int p0), .val (.ref t0), .val (.int (p0 % (16 : Int32))), .unset] [(.int (p0 % (16 : Int32)))])) t → Steps p.tables e below (s₁.setTop (entryFrame m #[(.int p0)] maxLocals)) t := by
      intro t kk
      refine P1 _ ?_
      show Steps p.tables e below (s₁.setTop (mkF m 0 #[.val (.int p0), .unset, .unset, .unset] [])) _
      refine XS.iloadN X0.here hx rfl (hb hby at_0) rfl ?_
      show Steps p.tables e below (s₁.setTop (mkF m 1 #[.val (.int p0), .unset, .unset, .unset] [(.int p0)])) _
      refine st3 _ ?_
      show Steps p.tables e below (T3.setTop (mkF m 4 #[.val (.int p0), .unset, .unset, .unset] [(.ref s0)])) _
      refine XS.aconstNull X3.here hx rfl (hb hby at_4) ?_
      show Steps p.tables e below (T3.setTop (mkF m 5 #[.val (.int p0), .unset, .unset, .unset] [.null, (.ref s0)])) _
      refine st4.trans ?_
      show Steps p.tables e below (T4.setTop (mkF m 8 #[.val (.int p0), .unset, .unset, .unset] [(.ref t0)])) _
      refine st5 _ ?_
      show Steps p.tables e below (T5.setTop (mkF m 11 #[.val (.int p0), .unset, .unset, .unset] [(.ref t0)])) _
      refine XS.astoreN X5.here hx rfl (hb hby at_11) rfl rfl (l' := #[.val (.int p0), .val (.ref t0), .unset, .unset]) rfl ?_
      show Steps p.tables e below (T5.setTop (mkF m 12 #[.val (.int p0), .val (.ref t0), .unset, .unset] [])) _
      refine XS.iloadN X5.here hx rfl (hb hby at_12) rfl ?_
      show Steps p.tables e below (T5.setTop (mkF m 13 #[.val (.int p0), .val (.ref t0), .unset, .unset] [(.int p0)])) _
      refine XS.bipush X5.here hx rfl (hb hby at_13) ?_
      show Steps p.tables e below (T5.setTop (mkF m 15 #[.val (.int p0), .val (.ref t0), .unset, .unset] [(.int (16 : Int32)), (.int p0)])) _
      refine iremM (g := (mkF m 15 #[.val (.int p0), .val (.ref t0), .unset, .unset] [(.int (16 : Int32)), (.int p0)])) X5 hx rfl (hb hby at_15) rfl (by decide) ?_
      show Steps p.tables e below (T5.setTop (mkF m 16 #[.val (.int p0), .val (.ref t0), .unset, .unset] [(.int (p0 % (16 : Int32)))])) _
      refine XS.istoreN X5.here hx rfl (hb hby at_16) rfl (l' := #[.val (.int p0), .val (.ref t0), .val (.int (p0 % (16 : Int32))), .unset]) rfl ?_
      show Steps p.tables e below (T5.setTop (mkF m 17 #[.val (.int p0), .val (.ref t0), .val (.int (p0 % (16 : Int32))), .unset] [])) _
      refine XS.iloadN X5.here hx rfl (hb hby at_17) rfl ?_
      show Steps p.tables e below (T5.setTop (mkF m 18 #[.val (.int p0), .val (.ref t0), .val (.int (p0 % (16 : Int32))), .unset] [(.int (p0 % (16 : Int32)))])) _
      exact kk
    obtain ⟨i7, h_i7, P8⟩ : ∃ (i7 : Int32), i7 = (if (p0 % (16 : Int32)) < (0 : Int32) then ((p0 % (16 : Int32)) + (16 : Int32)) else (p0 % (16 : Int32))) ∧ ∀ t, Steps p.tables e below (T5.setTop (mkF m 26 #[.val (.int p0), .val (.ref t0), .val (.int i7), .unset] [])) t → Steps p.tables e below (s₁.setTop (entryFrame m #[(.int p0)] maxLocals)) t := by
      by_cases c9 : (p0 % (16 : Int32)) < (0 : Int32)
      · skip
        refine ⟨((p0 % (16 : Int32)) + (16 : Int32)), ((if_pos c9).trans rfl).symm, fun t kk => P6 t ?_⟩
        show Steps p.tables e below (T5.setTop (mkF m 18 #[.val (.int p0), .val (.ref t0), .val (.int (p0 % (16 : Int32))), .unset] [(.int (p0 % (16 : Int32)))])) _
        refine XS.ifNo X5.here hx rfl (hb hby at_18) rfl (XT.i0_ge_f c9) ?_
        show Steps p.tables e below (T5.setTop (mkF m 21 #[.val (.int p0), .val (.ref t0), .val (.int (p0 % (16 : Int32))), .unset] [])) _
        refine XS.iloadN X5.here hx rfl (hb hby at_21) rfl ?_
        show Steps p.tables e below (T5.setTop (mkF m 22 #[.val (.int p0), .val (.ref t0), .val (.int (p0 % (16 : Int32))), .unset] [(.int (p0 % (16 : Int32)))])) _
        refine XS.bipush X5.here hx rfl (hb hby at_22) ?_
        show Steps p.tables e below (T5.setTop (mkF m 24 #[.val (.int p0), .val (.ref t0), .val (.int (p0 % (16 : Int32))), .unset] [(.int (16 : Int32)), (.int (p0 % (16 : Int32)))])) _
        refine XS.iadd X5.here hx rfl (hb hby at_24) rfl ?_
        show Steps p.tables e below (T5.setTop (mkF m 25 #[.val (.int p0), .val (.ref t0), .val (.int (p0 % (16 : Int32))), .unset] [(.int ((p0 % (16 : Int32)) + (16 : Int32)))])) _
        refine XS.istoreN X5.here hx rfl (hb hby at_25) rfl (l' := #[.val (.int p0), .val (.ref t0), .val (.int ((p0 % (16 : Int32)) + (16 : Int32))), .unset]) rfl ?_
        show Steps p.tables e below (T5.setTop (mkF m 26 #[.val (.int p0), .val (.ref t0), .val (.int ((p0 % (16 : Int32)) + (16 : Int32))), .unset] [])) _
        exact kk
      · skip
        refine ⟨(p0 % (16 : Int32)), ((if_neg c9).trans rfl).symm, fun t kk => P6 t ?_⟩
        show Steps p.tables e below (T5.setTop (mkF m 18 #[.val (.int p0), .val (.ref t0), .val (.int (p0 % (16 : Int32))), .unset] [(.int (p0 % (16 : Int32)))])) _
        refine XS.ifYes X5.here hx rfl (pc0 := 18) (pc' := 26) rfl (hb hby at_18) rfl (XT.i0_ge_t c9) (by decide) (by decide) ?_
        show Steps p.tables e below (T5.setTop (mkF m 26 #[.val (.int p0), .val (.ref t0), .val (.int (p0 % (16 : Int32))), .unset] [])) _
        exact kk
    obtain ⟨T10, X10, e10, st10⟩ := getS2 X5 hx hZ hown (host := "") (Or.inl (hw _ (List.mem_of_getElem? (i := 25) rfl))) Via.refl e5 pr3 (g := (mkF m 33 #[.val (.int p0), .val (.ref t0), .val (.int i7), .val .null] [])) rfl (hb hby at_33)
    have P11 : ∀ t, Steps p.tables e below (T10.setTop (mkF m 59 #[.val (.int p0), .val (.ref t0), .val (.int i7), .val (.ref t0)] [(.int (1 : Int32))])) t → Steps p.tables e below (s₁.setTop (entryFrame m #[(.int p0)] maxLocals)) t := by
      intro t kk
      refine P8 _ ?_
      show Steps p.tables e below (T5.setTop (mkF m 26 #[.val (.int p0), .val (.ref t0), .val (.int i7), .unset] [])) _
      refine XS.aconstNull X5.here hx rfl (hb hby at_26) ?_
      show Steps p.tables e below (T5.setTop (mkF m 27 #[.val (.int p0), .val (.ref t0), .val (.int i7), .unset] [.null])) _
      refine XS.astoreN X5.here hx rfl (hb hby at_27) rfl rfl (l' := #[.val (.int p0), .val (.ref t0), .val (.int i7), .val .null]) rfl ?_
      show Steps p.tables e below (T5.setTop (mkF m 28 #[.val (.int p0), .val (.ref t0), .val (.int i7), .val .null] [])) _
      refine XS.iloadN X5.here hx rfl (hb hby at_28) rfl ?_
      show Steps p.tables e below (T5.setTop (mkF m 29 #[.val (.int p0), .val (.ref t0), .val (.int i7), .val .null] [(.int i7)])) _
      refine XS.iconst X5.here hx rfl (hb hby at_29) ?_
      show Steps p.tables e below (T5.setTop (mkF m 30 #[.val (.int p0), .val (.ref t0), .val (.int i7), .val .null] [(.int (1 : Int32)), (.int i7)])) _
      refine XS.icmpNo X5.here hx rfl (hb hby at_30) rfl (XT.ii_ne_f ((own_part p0 i7 h_i7).trans hk2)) ?_
      show Steps p.tables e below (T5.setTop (mkF m 33 #[.val (.int p0), .val (.ref t0), .val (.int i7), .val .null] [])) _
      refine st10 _ ?_
      show Steps p.tables e below (T10.setTop (mkF m 36 #[.val (.int p0), .val (.ref t0), .val (.int i7), .val .null] [(.ref t0)])) _
      refine XS.astoreN X10.here hx rfl (hb hby at_36) rfl rfl (l' := #[.val (.int p0), .val (.ref t0), .val (.int i7), .val (.ref t0)]) rfl ?_
      show Steps p.tables e below (T10.setTop (mkF m 37 #[.val (.int p0), .val (.ref t0), .val (.int i7), .val (.ref t0)] [])) _
      refine XS.goto X10.here hx rfl (pc0 := 37) (pc' := 49) rfl (hb hby at_37) (by decide) (by decide) ?_
      show Steps p.tables e below (T10.setTop (mkF m 49 #[.val (.int p0), .val (.ref t0), .val (.int i7), .val (.ref t0)] [])) _
      refine XS.aloadN X10.here hx rfl (hb hby at_49) rfl rfl ?_
      show Steps p.tables e below (T10.setTop (mkF m 50 #[.val (.int p0), .val (.ref t0), .val (.int i7), .val (.ref t0)] [(.ref t0)])) _
      refine XS.aloadN X10.here hx rfl (hb hby at_50) rfl rfl ?_
      show Steps p.tables e below (T10.setTop (mkF m 51 #[.val (.int p0), .val (.ref t0), .val (.int i7), .val (.ref t0)] [(.ref t0), (.ref t0)])) _
      refine Jvm.RoadKit.acmp (g := (mkF m 51 #[.val (.int p0), .val (.ref t0), .val (.int i7), .val (.ref t0)] [(.ref t0), (.ref t0)])) X10 hx rfl rfl rfl (pc0 := 51) (pc' := 54) (same := true) rfl (hb hby at_51) rfl (decide_eq_true (congrArg Value.ref rfl)) (by decide) (by decide) ?_
      show Steps p.tables e below (T10.setTop (mkF m 54 #[.val (.int p0), .val (.ref t0), .val (.int i7), .val (.ref t0)] [])) _
      refine XS.iconst X10.here hx rfl (hb hby at_54) ?_
      show Steps p.tables e below (T10.setTop (mkF m 55 #[.val (.int p0), .val (.ref t0), .val (.int i7), .val (.ref t0)] [(.int (1 : Int32))])) _
      refine XS.goto X10.here hx rfl (pc0 := 55) (pc' := 59) rfl (hb hby at_55) (by decide) (by decide) ?_
      show Steps p.tables e below (T10.setTop (mkF m 59 #[.val (.int p0), .val (.ref t0), .val (.int i7), .val (.ref t0)] [(.int (1 : Int32))])) _
      exact kk
    obtain ⟨fs, hr, hrun, hended, hW, hsame⟩ := X10.leave (v := some (.int (1 : Int32))) (fun h => by rw [Bd.returns] at h; cases h)
    refine ⟨_, _, P11 _ ?_, hrun, hended, _, _, rfl, ?_, ⟨_, rfl⟩, hW, hsame.mono (by decide) (by decide)⟩
    · exact retN X10 hx (t := .boolean) Bd.returns (by simp) (hb hby at_59) hr
    · exact ⟨rfl, N4⟩
  · skip
    obtain ⟨_, _, ⟨T12, L12, k12, n12⟩, -, X12, ⟨Lc12, hQ12, l12, y12, z12⟩, st12⟩ := Jvm.LawKit.callS X0 hx (y := (⟨"com/example/envelope/envelope/IntegerEncoding", "of", "(I)Ljava/util/Optional;"⟩ : MethodName)) hown (mvT hZ (hw _ (List.mem_of_getElem? (i := 0) rfl))) (mvT hZ (hw _ (List.mem_of_getElem? (i := 1) rfl))) (mvT hZ (hw _ (List.mem_of_getElem? (i := 2) rfl))) (mvT hZ (hw _ (List.mem_of_getElem? (i := 3) rfl))) (by decide) (backOf (W := 0) (rm3 l Z a0 hw [] p0 s1 h0 n0 Z0 pr1 hk2) hZ (hw _ (List.mem_of_getElem? (i := 3) rfl)) (hw _ (List.mem_of_getElem? (i := 2) rfl)) (by decide) (by decide)) (g := (mkF m 1 #[.val (.int p0), .unset, .unset, .unset] [(.int p0)])) rfl (by rw [hml]; rfl) (argsL := [(.int p0)]) (rest := []) (lenOf pd_1 rfl) rfl (by show 2 * 0 + _ ≤ _; exact Nat.le_of_eq rfl) (hb hby at_1) (fun _ _ => ⟨rfl, e0, (by decide : 0 + 0 ≤ _), (by decide : 0 + 0 ≤ _)⟩)
    dsimp only [Pt.U, Pt.locs, Pt.cells, Pt.slots] at X12 l12 y12 z12 st12 hQ12
    subst l12 y12 z12
    obtain ⟨rfl, Nq12, e12⟩ := hQ12
    have N12 := Fr.app N0 Nq12
    obtain ⟨cq13, kq13, q13a, q13b, q13c⟩ := isOf hZ e12 pr6
    obtain ⟨_, _, ⟨T13, L13, k13, n13⟩, -, X13, ⟨Lc13, hQ13, l13, y13, z13⟩, st13⟩ := X12.virtualBack hx (y := (⟨"java/util/Optional", "orElse", "(Ljava/lang/Object;)Ljava/lang/Object;"⟩ : MethodName)) (z := (⟨"java/util/Optional", "orElse", "(Ljava/lang/Object;)Ljava/lang/Object;"⟩ : MethodName)) hown (mvT hZ (hw _ (List.mem_of_getElem? (i := 9) rfl))) (mvT hZ (hw _ (List.mem_of_getElem? (i := 10) rfl))) (notFace_of_selects (args := #[]) (mvT hZ (hw _ (List.mem_of_getElem? (i := 12) rfl)))) (mvT hZ (hw _ (List.mem_of_getElem? (i := 12) rfl))) (mvT hZ (hw _ (List.mem_of_getElem? (i := 11) rfl))) (by decide) (backOf (W := 0) (rm6 l Z a0 hw [] s1 t1 h0 n0 Z0 pr11) hZ (hw _ (List.mem_of_getElem? (i := 13) rfl)) (hw _ (List.mem_of_getElem? (i := 6) rfl)) (by decide) (by decide)) q13a q13c (g := (mkF m 5 #[.val (.int p0), .unset, .unset, .unset] [.null, (.ref s1)])) rfl (by rw [hml]; rfl) (Steps.refl _) (argsL := [.null]) (rest := []) (lenOf pd_2 rfl) rfl (by show 2 * 0 + _ ≤ _; exact Nat.le_of_eq rfl) (hb hby at_5) (fun _ _ => ⟨rfl, e12, (by decide : 0 + 0 ≤ _), (by decide : 0 + 0 ≤ _)⟩)
    dsimp only [Pt.U, Pt.locs, Pt.cells, Pt.slots] at X13 l13 y13 z13 st13 hQ13
    subst l13 y13 z13
    obtain ⟨rfl, Nq13, e13⟩ := hQ13
    have N13 := Fr.app N12 Nq13
    obtain ⟨T14, X14, e14, st14⟩ := castY X13 hx hZ hown (hw _ (List.mem_of_getElem? (i := 19) rfl)) e13 (Ins.self pr9) (g := (mkF m 8 #[.val (.int p0), .unset, .unset, .unset] [(.ref t1)])) rfl rfl (hb hby at_8)
    have P15 : ∀ t, Steps p.tables e below (T14.setTop (mkF m 18 #[.val (.int p0), .val (.ref t1), .val (.int (p0 % (16 : Int32))), .unset] [(.int (p0 % (16 : Int32)))])) t → Steps p.tables e below (s₁.setTop (entryFrame m #[(.int p0)] maxLocals)) t := by
      intro t kk
      refine P1 _ ?_
      show Steps p.tables e below (s₁.setTop (mkF m 0 #[.val (.int p0), .unset, .unset, .unset] [])) _
      refine XS.iloadN X0.here hx rfl (hb hby at_0) rfl ?_
      show Steps p.tables e below (s₁.setTop (mkF m 1 #[.val (.int p0), .unset, .unset, .unset] [(.int p0)])) _
      refine st12 _ ?_
      show Steps p.tables e below (T12.setTop (mkF m 4 #[.val (.int p0), .unset, .unset, .unset] [(.ref s1)])) _
      refine XS.aconstNull X12.here hx rfl (hb hby at_4) ?_
      show Steps p.tables e below (T12.setTop (mkF m 5 #[.val (.int p0), .unset, .unset, .unset] [.null, (.ref s1)])) _
      refine st13.trans ?_
      show Steps p.tables e below (T13.setTop (mkF m 8 #[.val (.int p0), .unset, .unset, .unset] [(.ref t1)])) _
      refine st14 _ ?_
      show Steps p.tables e below (T14.setTop (mkF m 11 #[.val (.int p0), .unset, .unset, .unset] [(.ref t1)])) _
      refine XS.astoreN X14.here hx rfl (hb hby at_11) rfl rfl (l' := #[.val (.int p0), .val (.ref t1), .unset, .unset]) rfl ?_
      show Steps p.tables e below (T14.setTop (mkF m 12 #[.val (.int p0), .val (.ref t1), .unset, .unset] [])) _
      refine XS.iloadN X14.here hx rfl (hb hby at_12) rfl ?_
      show Steps p.tables e below (T14.setTop (mkF m 13 #[.val (.int p0), .val (.ref t1), .unset, .unset] [(.int p0)])) _
      refine XS.bipush X14.here hx rfl (hb hby at_13) ?_
      show Steps p.tables e below (T14.setTop (mkF m 15 #[.val (.int p0), .val (.ref t1), .unset, .unset] [(.int (16 : Int32)), (.int p0)])) _
      refine iremM (g := (mkF m 15 #[.val (.int p0), .val (.ref t1), .unset, .unset] [(.int (16 : Int32)), (.int p0)])) X14 hx rfl (hb hby at_15) rfl (by decide) ?_
      show Steps p.tables e below (T14.setTop (mkF m 16 #[.val (.int p0), .val (.ref t1), .unset, .unset] [(.int (p0 % (16 : Int32)))])) _
      refine XS.istoreN X14.here hx rfl (hb hby at_16) rfl (l' := #[.val (.int p0), .val (.ref t1), .val (.int (p0 % (16 : Int32))), .unset]) rfl ?_
      show Steps p.tables e below (T14.setTop (mkF m 17 #[.val (.int p0), .val (.ref t1), .val (.int (p0 % (16 : Int32))), .unset] [])) _
      refine XS.iloadN X14.here hx rfl (hb hby at_17) rfl ?_
      show Steps p.tables e below (T14.setTop (mkF m 18 #[.val (.int p0), .val (.ref t1), .val (.int (p0 % (16 : Int32))), .unset] [(.int (p0 % (16 : Int32)))])) _
      exact kk
    obtain ⟨i16, h_i16, P17⟩ : ∃ (i16 : Int32), i16 = (if (p0 % (16 : Int32)) < (0 : Int32) then ((p0 % (16 : Int32)) + (16 : Int32)) else (p0 % (16 : Int32))) ∧ ∀ t, Steps p.tables e below (T14.setTop (mkF m 26 #[.val (.int p0), .val (.ref t1), .val (.int i16), .unset] [])) t → Steps p.tables e below (s₁.setTop (entryFrame m #[(.int p0)] maxLocals)) t := by
      by_cases c18 : (p0 % (16 : Int32)) < (0 : Int32)
      · skip
        refine ⟨((p0 % (16 : Int32)) + (16 : Int32)), ((if_pos c18).trans rfl).symm, fun t kk => P15 t ?_⟩
        show Steps p.tables e below (T14.setTop (mkF m 18 #[.val (.int p0), .val (.ref t1), .val (.int (p0 % (16 : Int32))), .unset] [(.int (p0 % (16 : Int32)))])) _
        refine XS.ifNo X14.here hx rfl (hb hby at_18) rfl (XT.i0_ge_f c18) ?_
        show Steps p.tables e below (T14.setTop (mkF m 21 #[.val (.int p0), .val (.ref t1), .val (.int (p0 % (16 : Int32))), .unset] [])) _
        refine XS.iloadN X14.here hx rfl (hb hby at_21) rfl ?_
        show Steps p.tables e below (T14.setTop (mkF m 22 #[.val (.int p0), .val (.ref t1), .val (.int (p0 % (16 : Int32))), .unset] [(.int (p0 % (16 : Int32)))])) _
        refine XS.bipush X14.here hx rfl (hb hby at_22) ?_
        show Steps p.tables e below (T14.setTop (mkF m 24 #[.val (.int p0), .val (.ref t1), .val (.int (p0 % (16 : Int32))), .unset] [(.int (16 : Int32)), (.int (p0 % (16 : Int32)))])) _
        refine XS.iadd X14.here hx rfl (hb hby at_24) rfl ?_
        show Steps p.tables e below (T14.setTop (mkF m 25 #[.val (.int p0), .val (.ref t1), .val (.int (p0 % (16 : Int32))), .unset] [(.int ((p0 % (16 : Int32)) + (16 : Int32)))])) _
        refine XS.istoreN X14.here hx rfl (hb hby at_25) rfl (l' := #[.val (.int p0), .val (.ref t1), .val (.int ((p0 % (16 : Int32)) + (16 : Int32))), .unset]) rfl ?_
        show Steps p.tables e below (T14.setTop (mkF m 26 #[.val (.int p0), .val (.ref t1), .val (.int ((p0 % (16 : Int32)) + (16 : Int32))), .unset] [])) _
        exact kk
      · skip
        refine ⟨(p0 % (16 : Int32)), ((if_neg c18).trans rfl).symm, fun t kk => P15 t ?_⟩
        show Steps p.tables e below (T14.setTop (mkF m 18 #[.val (.int p0), .val (.ref t1), .val (.int (p0 % (16 : Int32))), .unset] [(.int (p0 % (16 : Int32)))])) _
        refine XS.ifYes X14.here hx rfl (pc0 := 18) (pc' := 26) rfl (hb hby at_18) rfl (XT.i0_ge_t c18) (by decide) (by decide) ?_
        show Steps p.tables e below (T14.setTop (mkF m 26 #[.val (.int p0), .val (.ref t1), .val (.int (p0 % (16 : Int32))), .unset] [])) _
        exact kk
    obtain ⟨T19, X19, e19, st19⟩ := getS2 X14 hx hZ hown (host := "") (Or.inl (hw _ (List.mem_of_getElem? (i := 21) rfl))) Via.refl e14 pr4 (g := (mkF m 45 #[.val (.int p0), .val (.ref t1), .val (.int i16), .val .null] [])) rfl (hb hby at_45)
    have P20 : ∀ t, Steps p.tables e below (T19.setTop (mkF m 59 #[.val (.int p0), .val (.ref t1), .val (.int i16), .val (.ref t1)] [(.int (1 : Int32))])) t → Steps p.tables e below (s₁.setTop (entryFrame m #[(.int p0)] maxLocals)) t := by
      intro t kk
      refine P17 _ ?_
      show Steps p.tables e below (T14.setTop (mkF m 26 #[.val (.int p0), .val (.ref t1), .val (.int i16), .unset] [])) _
      refine XS.aconstNull X14.here hx rfl (hb hby at_26) ?_
      show Steps p.tables e below (T14.setTop (mkF m 27 #[.val (.int p0), .val (.ref t1), .val (.int i16), .unset] [.null])) _
      refine XS.astoreN X14.here hx rfl (hb hby at_27) rfl rfl (l' := #[.val (.int p0), .val (.ref t1), .val (.int i16), .val .null]) rfl ?_
      show Steps p.tables e below (T14.setTop (mkF m 28 #[.val (.int p0), .val (.ref t1), .val (.int i16), .val .null] [])) _
      refine XS.iloadN X14.here hx rfl (hb hby at_28) rfl ?_
      show Steps p.tables e below (T14.setTop (mkF m 29 #[.val (.int p0), .val (.ref t1), .val (.int i16), .val .null] [(.int i16)])) _
      refine XS.iconst X14.here hx rfl (hb hby at_29) ?_
      show Steps p.tables e below (T14.setTop (mkF m 30 #[.val (.int p0), .val (.ref t1), .val (.int i16), .val .null] [(.int (1 : Int32)), (.int i16)])) _
      refine XS.icmpYes X14.here hx rfl (pc0 := 30) (pc' := 40) rfl (hb hby at_30) rfl (XT.ii_ne_t (fun hh => absurd ((own_part p0 i16 h_i16).symm.trans hh) (by rw [hk2]; decide))) (by decide) (by decide) ?_
      show Steps p.tables e below (T14.setTop (mkF m 40 #[.val (.int p0), .val (.ref t1), .val (.int i16), .val .null] [])) _
      refine XS.iloadN X14.here hx rfl (hb hby at_40) rfl ?_
      show Steps p.tables e below (T14.setTop (mkF m 41 #[.val (.int p0), .val (.ref t1), .val (.int i16), .val .null] [(.int i16)])) _
      refine XS.iconst X14.here hx rfl (hb hby at_41) ?_
      show Steps p.tables e below (T14.setTop (mkF m 42 #[.val (.int p0), .val (.ref t1), .val (.int i16), .val .null] [(.int (2 : Int32)), (.int i16)])) _
      refine XS.icmpNo X14.here hx rfl (hb hby at_42) rfl (XT.ii_ne_f ((own_part p0 i16 h_i16).trans hk2)) ?_
      show Steps p.tables e below (T14.setTop (mkF m 45 #[.val (.int p0), .val (.ref t1), .val (.int i16), .val .null] [])) _
      refine st19 _ ?_
      show Steps p.tables e below (T19.setTop (mkF m 48 #[.val (.int p0), .val (.ref t1), .val (.int i16), .val .null] [(.ref t1)])) _
      refine XS.astoreN X19.here hx rfl (hb hby at_48) rfl rfl (l' := #[.val (.int p0), .val (.ref t1), .val (.int i16), .val (.ref t1)]) rfl ?_
      show Steps p.tables e below (T19.setTop (mkF m 49 #[.val (.int p0), .val (.ref t1), .val (.int i16), .val (.ref t1)] [])) _
      refine XS.aloadN X19.here hx rfl (hb hby at_49) rfl rfl ?_
      show Steps p.tables e below (T19.setTop (mkF m 50 #[.val (.int p0), .val (.ref t1), .val (.int i16), .val (.ref t1)] [(.ref t1)])) _
      refine XS.aloadN X19.here hx rfl (hb hby at_50) rfl rfl ?_
      show Steps p.tables e below (T19.setTop (mkF m 51 #[.val (.int p0), .val (.ref t1), .val (.int i16), .val (.ref t1)] [(.ref t1), (.ref t1)])) _
      refine Jvm.RoadKit.acmp (g := (mkF m 51 #[.val (.int p0), .val (.ref t1), .val (.int i16), .val (.ref t1)] [(.ref t1), (.ref t1)])) X19 hx rfl rfl rfl (pc0 := 51) (pc' := 54) (same := true) rfl (hb hby at_51) rfl (decide_eq_true (congrArg Value.ref rfl)) (by decide) (by decide) ?_
      show Steps p.tables e below (T19.setTop (mkF m 54 #[.val (.int p0), .val (.ref t1), .val (.int i16), .val (.ref t1)] [])) _
      refine XS.iconst X19.here hx rfl (hb hby at_54) ?_
      show Steps p.tables e below (T19.setTop (mkF m 55 #[.val (.int p0), .val (.ref t1), .val (.int i16), .val (.ref t1)] [(.int (1 : Int32))])) _
      refine XS.goto X19.here hx rfl (pc0 := 55) (pc' := 59) rfl (hb hby at_55) (by decide) (by decide) ?_
      show Steps p.tables e below (T19.setTop (mkF m 59 #[.val (.int p0), .val (.ref t1), .val (.int i16), .val (.ref t1)] [(.int (1 : Int32))])) _
      exact kk
    obtain ⟨fs, hr, hrun, hended, hW, hsame⟩ := X19.leave (v := some (.int (1 : Int32))) (fun h => by rw [Bd.returns] at h; cases h)
    refine ⟨_, _, P20 _ ?_, hrun, hended, _, _, rfl, ?_, ⟨_, rfl⟩, hW, hsame.mono (by decide) (by decide)⟩
    · exact retN X19 hx (t := .boolean) Bd.returns (by simp) (hb hby at_59) hr
    · exact ⟨rfl, N13⟩
  · skip
    obtain ⟨_, _, ⟨T21, L21, k21, n21⟩, -, X21, ⟨Lc21, hQ21, l21, y21, z21⟩, st21⟩ := Jvm.LawKit.callS X0 hx (y := (⟨"com/example/envelope/envelope/IntegerEncoding", "of", "(I)Ljava/util/Optional;"⟩ : MethodName)) hown (mvT hZ (hw _ (List.mem_of_getElem? (i := 0) rfl))) (mvT hZ (hw _ (List.mem_of_getElem? (i := 1) rfl))) (mvT hZ (hw _ (List.mem_of_getElem? (i := 2) rfl))) (mvT hZ (hw _ (List.mem_of_getElem? (i := 3) rfl))) (by decide) (backOf (W := 0) (rm4 l Z a0 hw [] p0 s2 h0 n0 Z0 pr2 hk2) hZ (hw _ (List.mem_of_getElem? (i := 3) rfl)) (hw _ (List.mem_of_getElem? (i := 2) rfl)) (by decide) (by decide)) (g := (mkF m 1 #[.val (.int p0), .unset, .unset, .unset] [(.int p0)])) rfl (by rw [hml]; rfl) (argsL := [(.int p0)]) (rest := []) (lenOf pd_1 rfl) rfl (by show 2 * 0 + _ ≤ _; exact Nat.le_of_eq rfl) (hb hby at_1) (fun _ _ => ⟨rfl, e0, (by decide : 0 + 0 ≤ _), (by decide : 0 + 0 ≤ _)⟩)
    dsimp only [Pt.U, Pt.locs, Pt.cells, Pt.slots] at X21 l21 y21 z21 st21 hQ21
    subst l21 y21 z21
    obtain ⟨rfl, Nq21, e21⟩ := hQ21
    have N21 := Fr.app N0 Nq21
    obtain ⟨cq22, kq22, q22a, q22b, q22c⟩ := isOf hZ e21 pr7
    obtain ⟨_, _, ⟨T22, L22, k22, n22⟩, -, X22, ⟨Lc22, hQ22, l22, y22, z22⟩, st22⟩ := X21.virtualBack hx (y := (⟨"java/util/Optional", "orElse", "(Ljava/lang/Object;)Ljava/lang/Object;"⟩ : MethodName)) (z := (⟨"java/util/Optional", "orElse", "(Ljava/lang/Object;)Ljava/lang/Object;"⟩ : MethodName)) hown (mvT hZ (hw _ (List.mem_of_getElem? (i := 9) rfl))) (mvT hZ (hw _ (List.mem_of_getElem? (i := 10) rfl))) (notFace_of_selects (args := #[]) (mvT hZ (hw _ (List.mem_of_getElem? (i := 12) rfl)))) (mvT hZ (hw _ (List.mem_of_getElem? (i := 12) rfl))) (mvT hZ (hw _ (List.mem_of_getElem? (i := 11) rfl))) (by decide) (backOf (W := 0) (rm5 l Z a0 hw [] s2 h0 n0 Z0 pr12) hZ (hw _ (List.mem_of_getElem? (i := 13) rfl)) (hw _ (List.mem_of_getElem? (i := 6) rfl)) (by decide) (by decide)) q22a q22c (g := (mkF m 5 #[.val (.int p0), .unset, .unset, .unset] [.null, (.ref s2)])) rfl (by rw [hml]; rfl) (Steps.refl _) (argsL := [.null]) (rest := []) (lenOf pd_2 rfl) rfl (by show 2 * 0 + _ ≤ _; exact Nat.le_of_eq rfl) (hb hby at_5) (fun _ _ => ⟨rfl, e21, (by decide : 0 + 0 ≤ _), (by decide : 0 + 0 ≤ _)⟩)
    dsimp only [Pt.U, Pt.locs, Pt.cells, Pt.slots] at X22 l22 y22 z22 st22 hQ22
    subst l22 y22 z22
    obtain ⟨rfl, Nq22, e22⟩ := hQ22
    have N22 := Fr.app N21 Nq22
    have P23 : ∀ t, Steps p.tables e below (T22.setTop (mkF m 18 #[.val (.int p0), .val .null, .val (.int (p0 % (16 : Int32))), .unset] [(.int (p0 % (16 : Int32)))])) t → Steps p.tables e below (s₁.setTop (entryFrame m #[(.int p0)] maxLocals)) t := by
      intro t kk
      refine P1 _ ?_
      show Steps p.tables e below (s₁.setTop (mkF m 0 #[.val (.int p0), .unset, .unset, .unset] [])) _
      refine XS.iloadN X0.here hx rfl (hb hby at_0) rfl ?_
      show Steps p.tables e below (s₁.setTop (mkF m 1 #[.val (.int p0), .unset, .unset, .unset] [(.int p0)])) _
      refine st21 _ ?_
      show Steps p.tables e below (T21.setTop (mkF m 4 #[.val (.int p0), .unset, .unset, .unset] [(.ref s2)])) _
      refine XS.aconstNull X21.here hx rfl (hb hby at_4) ?_
      show Steps p.tables e below (T21.setTop (mkF m 5 #[.val (.int p0), .unset, .unset, .unset] [.null, (.ref s2)])) _
      refine st22.trans ?_
      show Steps p.tables e below (T22.setTop (mkF m 8 #[.val (.int p0), .unset, .unset, .unset] [.null])) _
      refine X22.checkcastNull hx (g := (mkF m 8 #[.val (.int p0), .unset, .unset, .unset] [.null])) rfl rfl (hb hby at_8) _ ?_
      show Steps p.tables e below (T22.setTop (mkF m 11 #[.val (.int p0), .unset, .unset, .unset] [.null])) _
      refine XS.astoreN X22.here hx rfl (hb hby at_11) rfl rfl (l' := #[.val (.int p0), .val .null, .unset, .unset]) rfl ?_
      show Steps p.tables e below (T22.setTop (mkF m 12 #[.val (.int p0), .val .null, .unset, .unset] [])) _
      refine XS.iloadN X22.here hx rfl (hb hby at_12) rfl ?_
      show Steps p.tables e below (T22.setTop (mkF m 13 #[.val (.int p0), .val .null, .unset, .unset] [(.int p0)])) _
      refine XS.bipush X22.here hx rfl (hb hby at_13) ?_
      show Steps p.tables e below (T22.setTop (mkF m 15 #[.val (.int p0), .val .null, .unset, .unset] [(.int (16 : Int32)), (.int p0)])) _
      refine iremM (g := (mkF m 15 #[.val (.int p0), .val .null, .unset, .unset] [(.int (16 : Int32)), (.int p0)])) X22 hx rfl (hb hby at_15) rfl (by decide) ?_
      show Steps p.tables e below (T22.setTop (mkF m 16 #[.val (.int p0), .val .null, .unset, .unset] [(.int (p0 % (16 : Int32)))])) _
      refine XS.istoreN X22.here hx rfl (hb hby at_16) rfl (l' := #[.val (.int p0), .val .null, .val (.int (p0 % (16 : Int32))), .unset]) rfl ?_
      show Steps p.tables e below (T22.setTop (mkF m 17 #[.val (.int p0), .val .null, .val (.int (p0 % (16 : Int32))), .unset] [])) _
      refine XS.iloadN X22.here hx rfl (hb hby at_17) rfl ?_
      show Steps p.tables e below (T22.setTop (mkF m 18 #[.val (.int p0), .val .null, .val (.int (p0 % (16 : Int32))), .unset] [(.int (p0 % (16 : Int32)))])) _
      exact kk
    obtain ⟨i24, h_i24, P25⟩ : ∃ (i24 : Int32), i24 = (if (p0 % (16 : Int32)) < (0 : Int32) then ((p0 % (16 : Int32)) + (16 : Int32)) else (p0 % (16 : Int32))) ∧ ∀ t, Steps p.tables e below (T22.setTop (mkF m 26 #[.val (.int p0), .val .null, .val (.int i24), .unset] [])) t → Steps p.tables e below (s₁.setTop (entryFrame m #[(.int p0)] maxLocals)) t := by
      by_cases c26 : (p0 % (16 : Int32)) < (0 : Int32)
      · skip
        refine ⟨((p0 % (16 : Int32)) + (16 : Int32)), ((if_pos c26).trans rfl).symm, fun t kk => P23 t ?_⟩
        show Steps p.tables e below (T22.setTop (mkF m 18 #[.val (.int p0), .val .null, .val (.int (p0 % (16 : Int32))), .unset] [(.int (p0 % (16 : Int32)))])) _
        refine XS.ifNo X22.here hx rfl (hb hby at_18) rfl (XT.i0_ge_f c26) ?_
        show Steps p.tables e below (T22.setTop (mkF m 21 #[.val (.int p0), .val .null, .val (.int (p0 % (16 : Int32))), .unset] [])) _
        refine XS.iloadN X22.here hx rfl (hb hby at_21) rfl ?_
        show Steps p.tables e below (T22.setTop (mkF m 22 #[.val (.int p0), .val .null, .val (.int (p0 % (16 : Int32))), .unset] [(.int (p0 % (16 : Int32)))])) _
        refine XS.bipush X22.here hx rfl (hb hby at_22) ?_
        show Steps p.tables e below (T22.setTop (mkF m 24 #[.val (.int p0), .val .null, .val (.int (p0 % (16 : Int32))), .unset] [(.int (16 : Int32)), (.int (p0 % (16 : Int32)))])) _
        refine XS.iadd X22.here hx rfl (hb hby at_24) rfl ?_
        show Steps p.tables e below (T22.setTop (mkF m 25 #[.val (.int p0), .val .null, .val (.int (p0 % (16 : Int32))), .unset] [(.int ((p0 % (16 : Int32)) + (16 : Int32)))])) _
        refine XS.istoreN X22.here hx rfl (hb hby at_25) rfl (l' := #[.val (.int p0), .val .null, .val (.int ((p0 % (16 : Int32)) + (16 : Int32))), .unset]) rfl ?_
        show Steps p.tables e below (T22.setTop (mkF m 26 #[.val (.int p0), .val .null, .val (.int ((p0 % (16 : Int32)) + (16 : Int32))), .unset] [])) _
        exact kk
      · skip
        refine ⟨(p0 % (16 : Int32)), ((if_neg c26).trans rfl).symm, fun t kk => P23 t ?_⟩
        show Steps p.tables e below (T22.setTop (mkF m 18 #[.val (.int p0), .val .null, .val (.int (p0 % (16 : Int32))), .unset] [(.int (p0 % (16 : Int32)))])) _
        refine XS.ifYes X22.here hx rfl (pc0 := 18) (pc' := 26) rfl (hb hby at_18) rfl (XT.i0_ge_t c26) (by decide) (by decide) ?_
        show Steps p.tables e below (T22.setTop (mkF m 26 #[.val (.int p0), .val .null, .val (.int (p0 % (16 : Int32))), .unset] [])) _
        exact kk
    have P27 : ∀ t, Steps p.tables e below (T22.setTop (mkF m 59 #[.val (.int p0), .val .null, .val (.int i24), .val .null] [(.int (1 : Int32))])) t → Steps p.tables e below (s₁.setTop (entryFrame m #[(.int p0)] maxLocals)) t := by
      intro t kk
      refine P25 _ ?_
      show Steps p.tables e below (T22.setTop (mkF m 26 #[.val (.int p0), .val .null, .val (.int i24), .unset] [])) _
      refine XS.aconstNull X22.here hx rfl (hb hby at_26) ?_
      show Steps p.tables e below (T22.setTop (mkF m 27 #[.val (.int p0), .val .null, .val (.int i24), .unset] [.null])) _
      refine XS.astoreN X22.here hx rfl (hb hby at_27) rfl rfl (l' := #[.val (.int p0), .val .null, .val (.int i24), .val .null]) rfl ?_
      show Steps p.tables e below (T22.setTop (mkF m 28 #[.val (.int p0), .val .null, .val (.int i24), .val .null] [])) _
      refine XS.iloadN X22.here hx rfl (hb hby at_28) rfl ?_
      show Steps p.tables e below (T22.setTop (mkF m 29 #[.val (.int p0), .val .null, .val (.int i24), .val .null] [(.int i24)])) _
      refine XS.iconst X22.here hx rfl (hb hby at_29) ?_
      show Steps p.tables e below (T22.setTop (mkF m 30 #[.val (.int p0), .val .null, .val (.int i24), .val .null] [(.int (1 : Int32)), (.int i24)])) _
      refine XS.icmpYes X22.here hx rfl (pc0 := 30) (pc' := 40) rfl (hb hby at_30) rfl (XT.ii_ne_t (fun hh => absurd ((own_part p0 i24 h_i24).symm.trans hh) hk2.1)) (by decide) (by decide) ?_
      show Steps p.tables e below (T22.setTop (mkF m 40 #[.val (.int p0), .val .null, .val (.int i24), .val .null] [])) _
      refine XS.iloadN X22.here hx rfl (hb hby at_40) rfl ?_
      show Steps p.tables e below (T22.setTop (mkF m 41 #[.val (.int p0), .val .null, .val (.int i24), .val .null] [(.int i24)])) _
      refine XS.iconst X22.here hx rfl (hb hby at_41) ?_
      show Steps p.tables e below (T22.setTop (mkF m 42 #[.val (.int p0), .val .null, .val (.int i24), .val .null] [(.int (2 : Int32)), (.int i24)])) _
      refine XS.icmpYes X22.here hx rfl (pc0 := 42) (pc' := 49) rfl (hb hby at_42) rfl (XT.ii_ne_t (fun hh => absurd ((own_part p0 i24 h_i24).symm.trans hh) hk2.2)) (by decide) (by decide) ?_
      show Steps p.tables e below (T22.setTop (mkF m 49 #[.val (.int p0), .val .null, .val (.int i24), .val .null] [])) _
      refine XS.aloadN X22.here hx rfl (hb hby at_49) rfl rfl ?_
      show Steps p.tables e below (T22.setTop (mkF m 50 #[.val (.int p0), .val .null, .val (.int i24), .val .null] [.null])) _
      refine XS.aloadN X22.here hx rfl (hb hby at_50) rfl rfl ?_
      show Steps p.tables e below (T22.setTop (mkF m 51 #[.val (.int p0), .val .null, .val (.int i24), .val .null] [.null, .null])) _
      refine Jvm.RoadKit.acmp (g := (mkF m 51 #[.val (.int p0), .val .null, .val (.int i24), .val .null] [.null, .null])) X22 hx rfl rfl rfl (pc0 := 51) (pc' := 54) (same := true) rfl (hb hby at_51) rfl (decide_eq_true rfl) (by decide) (by decide) ?_
      show Steps p.tables e below (T22.setTop (mkF m 54 #[.val (.int p0), .val .null, .val (.int i24), .val .null] [])) _
      refine XS.iconst X22.here hx rfl (hb hby at_54) ?_
      show Steps p.tables e below (T22.setTop (mkF m 55 #[.val (.int p0), .val .null, .val (.int i24), .val .null] [(.int (1 : Int32))])) _
      refine XS.goto X22.here hx rfl (pc0 := 55) (pc' := 59) rfl (hb hby at_55) (by decide) (by decide) ?_
      show Steps p.tables e below (T22.setTop (mkF m 59 #[.val (.int p0), .val .null, .val (.int i24), .val .null] [(.int (1 : Int32))])) _
      exact kk
    obtain ⟨fs, hr, hrun, hended, hW, hsame⟩ := X22.leave (v := some (.int (1 : Int32))) (fun h => by rw [Bd.returns] at h; cases h)
    refine ⟨_, _, P27 _ ?_, hrun, hended, _, _, rfl, ?_, ⟨_, rfl⟩, hW, hsame.mono (by decide) (by decide)⟩
    · exact retN X22 hx (t := .boolean) Bd.returns (by simp) (hb hby at_59) hr
    · exact ⟨rfl, N22⟩
set_option maxRecDepth 65536 in
set_option maxHeartbeats 40000000 in
theorem comes_1 {Post : Tables → Env → Array Value → State → Outcome → State → Prop} (hpost : ∀ tb e args s v u, (limb_1_1.after args s (.returned v) u = true ∧ limb_1_2.after args s (.returned v) u = true ∧ True) → FrameEnd s (.returned v) u (Jvm.fieldLocs frame_1_writes args s ++ Jvm.arrayLocs frame_1_arrays args s ++ Jvm.staticLocs frame_1_statics s) 0 0 → Post tb e args s (.returned v) u) :
    ArmFor flags0 classFile x code maxLocals ret World_1 tables_1 room_1 Calls_1 rest_1 Pre_1 Post := by
  intro l hfl _ _ p e ha hc hk s m args below hf hA hF happ hP
  obtain ⟨hcalls, hrest, hpre⟩ := hP
  obtain ⟨-, -, -, hnamed, -, -, -, hat⟩ := (Spec.applies_iff hf).mp happ
  obtain ⟨hg, hn⟩ := and_e (Cond.before_iff.mp (show (Jvm.Cond.and given_1 narrow_1).before args s = true from hpre))
  obtain ⟨g0, gr0⟩ := and_e hg
  obtain ⟨w0, rfl⟩ : ∃ w0 : Value, args = #[w0] := by
    have hs : args.size = 1 := by simpa [Cond.value, given_1] using g0
    obtain ⟨L⟩ := args
    match L, hs with
    | [w0], _ => exact ⟨w0, rfl⟩
  have hw := fun d (hd : d ∈ tables_1) => atoms_spec (ws := Jvm.Cond.code x code maxLocals ret :: tables_1) hat d (List.mem_cons_of_mem _ hd)
  have hfit : Fit s := fun {y c} hc i hi => by
    obtain ⟨ha, rfl⟩ := Array.getElem?_eq_some_iff.mp hc
    have q := List.all_eq_true.mp ((Array.all_eq_true_iff_forall_mem.mp hF) _ (Array.getElem_mem ha)) i (List.mem_range.mpr hi)
    simpa [Array.getElem?_eq_getElem hi] using q
  obtain ⟨i0, ei0⟩ := is_v gr0
  obtain rfl : w0 = (.int i0) := Option.some.inj ei0
  obtain ⟨n0, r0⟩ := and_e hn
  obtain ⟨n1, r1⟩ := and_e r0
  obtain ⟨n2, r2⟩ := and_e r1
  obtain ⟨n3, r3⟩ := and_e r2
  obtain ⟨n4, r4⟩ := and_e r3
  obtain ⟨hsets, -⟩ := atoms_of _ (rest_1_c_eq ▸ (show rest_1_c.before _ s = true from hrest))
  obtain ⟨s0, e_s0⟩ := exa_v n3
  have E_s0 : Exa s s.heap s0 "java/util/Optional" := Exa.start e_s0 n3
  have S_s0 : Sta s s.heap "com/example/envelope/envelope/IntegerEncoding" "FOUND_NORMAL" "Ljava/util/Optional;" (.ref s0) := Sta.start e_s0 (Or.inr ⟨(hw _ (List.mem_of_getElem? (i := 2) rfl)), (hw _ (List.mem_of_getElem? (i := 23) rfl))⟩)
  obtain ⟨s1, e_s1⟩ := exa_v n0
  have E_s1 : Exa s s.heap s1 "java/util/Optional" := Exa.start e_s1 n0
  have S_s1 : Sta s s.heap "com/example/envelope/envelope/IntegerEncoding" "FOUND_REVERSED" "Ljava/util/Optional;" (.ref s1) := Sta.start e_s1 (Or.inr ⟨(hw _ (List.mem_of_getElem? (i := 2) rfl)), (hw _ (List.mem_of_getElem? (i := 17) rfl))⟩)
  obtain ⟨s2, e_s2⟩ := exa_v (Cond.before_iff.mp (hsets _ (List.mem_of_getElem? (i := 2) rfl)))
  have E_s2 : Exa s s.heap s2 "java/util/Optional" := Exa.start e_s2 (Cond.before_iff.mp (hsets _ (List.mem_of_getElem? (i := 2) rfl)))
  have S_s2 : Sta s s.heap "java/util/Optional" "EMPTY" "Ljava/util/Optional;" (.ref s2) := Sta.start e_s2 (Or.inl (hsets _ (List.mem_of_getElem? (i := 1) rfl)))
  obtain ⟨t0, e_t0⟩ := exa_v n4
  have E_t0 : Exa s s.heap t0 "com/example/envelope/envelope/IntegerEncoding" := Exa.start e_t0 n4
  have S_t0 : Sta s s.heap "com/example/envelope/envelope/IntegerEncoding" "NORMAL" "Lcom/example/envelope/envelope/IntegerEncoding;" (.ref t0) := Sta.start e_t0 (Or.inr ⟨(hw _ (List.mem_of_getElem? (i := 2) rfl)), (hw _ (List.mem_of_getElem? (i := 24) rfl))⟩)
  obtain ⟨t1, e_t1⟩ := exa_v n1
  have E_t1 : Exa s s.heap t1 "com/example/envelope/envelope/IntegerEncoding" := Exa.start e_t1 n1
  have S_t1 : Sta s s.heap "com/example/envelope/envelope/IntegerEncoding" "REVERSED" "Lcom/example/envelope/envelope/IntegerEncoding;" (.ref t1) := Sta.start e_t1 (Or.inr ⟨(hw _ (List.mem_of_getElem? (i := 2) rfl)), (hw _ (List.mem_of_getElem? (i := 18) rfl))⟩)
  have F_s0 : Fld s s.heap s0 "java/util/Optional" "value" "Ljava/lang/Object;" (.ref t0) := Fld.start ((fld_at e_s0).symm.trans (own_eqref r4 e_t0))
  have F_s1 : Fld s s.heap s1 "java/util/Optional" "value" "Ljava/lang/Object;" (.ref t1) := Fld.start ((fld_at e_s1).symm.trans (own_eqref n2 e_t1))
  have F_s2 : Fld s s.heap s2 "java/util/Optional" "value" "Ljava/lang/Object;" .null := Fld.start ((fld_at e_s2).symm.trans (null_v (Cond.before_iff.mp (hsets _ (List.mem_of_getElem? (i := 3) rfl)))))
  have pr0 := S_s0
  have pr1 := S_s1
  have pr2 := S_s2
  have pr3 := S_t0
  have pr4 := S_t1
  have pr5 := E_s0
  have pr6 := E_s1
  have pr7 := E_s2
  have pr8 := E_t0
  have pr9 := E_t1
  have pr10 := F_s0
  have pr11 := F_s1
  have pr12 := F_s2
  obtain ⟨n, o, h1, h2, h3, _, L, rfl, ⟨rfl, N⟩, hq⟩ := rm0 l s _ hw tables_1 i0 s0 s1 s2 t0 t1 s.heap s.heap.size (Nat.le_refl _) pr0 pr1 pr2 pr3 pr4 pr5 pr6 pr7 pr8 pr9 pr10 pr11 pr12 p e ha hc hk s m _ below hf ((Spec.applies_iff_loose hf).mp happ).1 ⟨rfl, State.Warmed39.refl s, rfl⟩ trivial
  refine ⟨n, _, h1, h2, h3, hpost _ _ _ _ _ _ ⟨Cond.after_iff.mpr rfl, Cond.after_iff.mpr (eq_i res_at (Term.int_eval (1)) rfl), trivial⟩ ⟨hq.1, hq.2.1, (hq.2.2.sift fun y hy => Or.inr (N y hy)).mono (by decide) (by decide)⟩⟩
theorem main_1_1 : Claimed_1_1 := comes_1 fun _ _ _ _ _ _ h hF => ⟨h.1, hF⟩
theorem main_1_2 : Claimed_1_2 := comes_1 fun _ _ _ _ _ _ h hF => ⟨h.2.1, hF⟩
end Jvm.Pilot.@@N@@
namespace Jvm.Pilot.@@N@@
open Jvm Jvm.ClassFile Sem Op Lib Jvm.Free Jvm.Stand Jvm.Pilot.@@N@@.Jvm.D
/-! MADE BY PROGRAM (witnessworld.py) out of the Statement's table words and the real class files: 13 classes; the members and pool entries that the words name. The judged class is class 1, her method 1. -/
namespace start1
open Jvm.ClassFile
def u (s : String) : CpInfo := .utf8 (stringToUtf16 s)
/-- a pool by its gaps: so many unusable entries, then the entry; so many at the end -/
def gap : Nat → List CpInfo → List CpInfo
  | 0, r => r
  | n + 1, r => .unusable :: gap n r
def poolList (es : List (Nat × CpInfo)) (last : Nat) : List CpInfo := es.foldr (fun e r => gap e.1 (e.2 :: r)) (gap last [])
def pool (es : List (Nat × CpInfo)) (last : Nat) : Array CpInfo := ⟨poolList es last⟩
def fileOf (pool : Array CpInfo) (this : Nat) (attrs : Array Attribute := #[]) (ms : Array MethodInfo := #[]) (fl : Nat := 33) (sup : Nat := 0) (ifs : Array Nat := #[]) (fds : Array FieldInfo := #[]) : ClassFile where
  minorVersion := 0
  majorVersion := 65
  constantPool := pool
  accessFlags := fl
  thisClass := this
  superClass := sup
  interfaces := ifs
  fields := fds
  methods := ms
  attributes := attrs
def plain (name : String) (sup : Option ClassId) : Class where
  name := name
  kind := .ordinary
  loader := none
  accessFlags := 33
  super := sup
  interfaces := #[]
  cf := none
  fields := #[]
  methods := #[]
  instanceTypes := #[]
  staticTypes := #[]
  resolved := #[]
  callSites := []
  init := .initialized
  statics := none
  mirror := none

def pool0 : Array CpInfo := pool [(5, u "<init>"), (0, u "()V"), (1, .class_ 10), (1, u "java/lang/Object")] 113

def k0m0 : Method := { name := "<init>", desc := "()V", sig := { parameters := [], returnType := none }, accessFlags := 1, code := none }
/-- java/lang/Object -/
def k0 : Class := { plain "java/lang/Object" none with
  accessFlags := 33
  interfaces := #[]
  cf := some (fileOf pool0 8 #[] #[{ accessFlags := 1, nameIndex := 5, descriptorIndex := 6, attributes := #[] }] 33 0 #[] #[])
  fields := #[]
  methods := #[k0m0]
  instanceTypes := #[]
  staticTypes := #[]
  resolved := Array.replicate 124 none
  statics := none }

def pool1 : Array CpInfo := pool [(2, .class_ 4), (1, u "java/lang/Object"), (0, u "<init>"), (0, u "()V"), (0, .methodref 8 9), (0, .class_ 10), (0, .nameAndType 11 12), (0, u "com/example/envelope/envelope/IntegerEncoding"), (0, u "of"), (0, u "(I)Ljava/util/Optional;"), (0, .methodref 14 15), (0, .class_ 16), (0, .nameAndType 17 18), (0, u "java/util/Optional"), (0, u "orElse"), (0, u "(Ljava/lang/Object;)Ljava/lang/Object;"), (0, .fieldref 8 20), (0, .nameAndType 21 22), (0, u "NORMAL"), (0, u "Lcom/example/envelope/envelope/IntegerEncoding;"), (0, .fieldref 8 24), (0, .nameAndType 25 22), (0, u "REVERSED"), (0, .class_ 27), (0, u "com/example/envelope/envelope/IntegerEncodingOfPinLaw"), (2, u "law"), (0, u "(I)Z")] 3

def k1m0 : Method := { name := "<init>", desc := "()V", sig := { parameters := [], returnType := none }, accessFlags := 1, code := none }
def k1c1 : Code := { maxStack := 2, maxLocals := 4, code := code, exceptionTable := #[], attributes := #[] }
def k1m1 : Method := { name := "law", desc := "(I)Z", sig := { parameters := [.int], returnType := some .boolean }, accessFlags := 9, code := some k1c1 }
/-- com/example/envelope/envelope/IntegerEncodingOfPinLaw -/
def k1 : Class := { plain "com/example/envelope/envelope/IntegerEncodingOfPinLaw" (some 0) with
  accessFlags := 49
  interfaces := #[]
  cf := some (fileOf pool1 26 #[] #[{ accessFlags := 1, nameIndex := 5, descriptorIndex := 6, attributes := #[] }, { accessFlags := 9, nameIndex := 30, descriptorIndex := 31, attributes := #[] }] 49 2 #[] #[])
  fields := #[]
  methods := #[k1m0, k1m1]
  instanceTypes := #[]
  staticTypes := #[]
  resolved := Array.replicate 35 none
  statics := none }

def pool2 : Array CpInfo := pool [(1, .class_ 2), (0, u "java/lang/constant/Constable"), (0, .class_ 4), (0, u "java/lang/Object")] 6

/-- java/lang/constant/Constable -/
def k2 : Class := { plain "java/lang/constant/Constable" (some 0) with
  accessFlags := 1537
  interfaces := #[]
  cf := some (fileOf pool2 1 #[] #[] 1537 3 #[] #[])
  fields := #[]
  methods := #[]
  instanceTypes := #[]
  staticTypes := #[]
  resolved := Array.replicate 11 none
  statics := none }

def pool3 : Array CpInfo := pool [(1, .class_ 2), (0, u "java/lang/Comparable"), (0, .class_ 4), (0, u "java/lang/Object")] 7

/-- java/lang/Comparable -/
def k3 : Class := { plain "java/lang/Comparable" (some 0) with
  accessFlags := 1537
  interfaces := #[]
  cf := some (fileOf pool3 1 #[] #[] 1537 3 #[] #[])
  fields := #[]
  methods := #[]
  instanceTypes := #[]
  staticTypes := #[]
  resolved := Array.replicate 12 none
  statics := none }

def pool4 : Array CpInfo := pool [(1, .class_ 2), (0, u "java/io/Serializable"), (0, .class_ 4), (0, u "java/lang/Object")] 2

/-- java/io/Serializable -/
def k4 : Class := { plain "java/io/Serializable" (some 0) with
  accessFlags := 1537
  interfaces := #[]
  cf := some (fileOf pool4 1 #[] #[] 1537 3 #[] #[])
  fields := #[]
  methods := #[]
  instanceTypes := #[]
  staticTypes := #[]
  resolved := Array.replicate 7 none
  statics := none }

def pool5 : Array CpInfo := pool [(2, .class_ 4), (1, u "java/lang/Enum"), (0, u "name"), (0, u "Ljava/lang/String;"), (2, u "ordinal"), (0, u "I"), (1, .class_ 14), (1, u "java/lang/Object"), (4, u "hash"), (86, .class_ 108), (1, u "java/lang/Enum$EnumDesc"), (2, .class_ 112), (0, u "java/lang/constant/Constable"), (0, .class_ 114), (0, u "java/lang/Comparable"), (0, .class_ 116), (0, u "java/io/Serializable")] 87

/-- java/lang/Enum -/
def k5 : Class := { plain "java/lang/Enum" (some 0) with
  accessFlags := 1057
  interfaces := #[2, 3, 4]
  cf := some (fileOf pool5 2 #[.nestMembers #[106]] #[] 1057 12 #[111, 113, 115] #[{ accessFlags := 18, nameIndex := 5, descriptorIndex := 6, attributes := #[] }, { accessFlags := 18, nameIndex := 9, descriptorIndex := 10, attributes := #[] }, { accessFlags := 2, nameIndex := 19, descriptorIndex := 10, attributes := #[] }])
  fields := #[{ name := "name", type := (.object "java/lang/String"), accessFlags := 18, slot := 0, constantValue := 0 }, { name := "ordinal", type := .int, accessFlags := 18, slot := 1, constantValue := 0 }, { name := "hash", type := .int, accessFlags := 2, slot := 2, constantValue := 0 }]
  methods := #[]
  instanceTypes := #[(.object "java/lang/String"), .int, .int]
  staticTypes := #[]
  resolved := Array.replicate 204 none
  statics := none }

def pool6 : Array CpInfo := pool [(1, .class_ 2), (0, u "com/example/envelope/envelope/IntegerEncoding"), (2, u "NORMAL"), (0, u "Lcom/example/envelope/envelope/IntegerEncoding;"), (2, u "REVERSED"), (2, u "$VALUES"), (0, u "[Lcom/example/envelope/envelope/IntegerEncoding;"), (6, .class_ 22), (1, u "java/lang/Enum"), (6, .fieldref 1 30), (0, .nameAndType 31 32), (0, u "FOUND_NORMAL"), (0, u "Ljava/util/Optional;"), (0, .fieldref 1 34), (0, .nameAndType 35 32), (0, u "FOUND_REVERSED"), (0, .methodref 37 38), (0, .class_ 39), (0, .nameAndType 40 41), (0, u "java/util/Optional"), (0, u "empty"), (0, u "()Ljava/util/Optional;"), (2, u "NORMAL_INTS"), (0, u "Ljava/lang/invoke/VarHandle;"), (8, u "REVERSED_INTS"), (6, u "NORMAL_LONGS"), (5, u "REVERSED_LONGS"), (22, u "of"), (17, u "INTEGER_MASK"), (0, u "I"), (2, u "INTEGER_NORMAL"), (1, u "INTEGER_REVERSED"), (9, u "(I)Ljava/util/Optional;")] 10

def k6c0 : Code := { maxStack := 2, maxLocals := 1, code := prog_40_method_4_code, exceptionTable := #[], attributes := #[] }
def k6m0 : Method := { name := "of", desc := "(I)Ljava/util/Optional;", sig := { parameters := [.int], returnType := some (.object "java/util/Optional") }, accessFlags := 9, code := some k6c0 }
/-- com/example/envelope/envelope/IntegerEncoding -/
def k6 : Class := { plain "com/example/envelope/envelope/IntegerEncoding" (some 5) with
  accessFlags := 16433
  interfaces := #[]
  cf := some (fileOf pool6 1 #[] #[{ accessFlags := 9, nameIndex := 90, descriptorIndex := 124, attributes := #[] }] 16433 20 #[] #[{ accessFlags := 16409, nameIndex := 5, descriptorIndex := 6, attributes := #[] }, { accessFlags := 16409, nameIndex := 9, descriptorIndex := 6, attributes := #[] }, { accessFlags := 26, nameIndex := 108, descriptorIndex := 109, attributes := #[] }, { accessFlags := 26, nameIndex := 112, descriptorIndex := 109, attributes := #[] }, { accessFlags := 26, nameIndex := 114, descriptorIndex := 109, attributes := #[] }, { accessFlags := 26, nameIndex := 31, descriptorIndex := 32, attributes := #[] }, { accessFlags := 26, nameIndex := 35, descriptorIndex := 32, attributes := #[] }, { accessFlags := 26, nameIndex := 44, descriptorIndex := 45, attributes := #[] }, { accessFlags := 26, nameIndex := 54, descriptorIndex := 45, attributes := #[] }, { accessFlags := 26, nameIndex := 61, descriptorIndex := 45, attributes := #[] }, { accessFlags := 26, nameIndex := 67, descriptorIndex := 45, attributes := #[] }, { accessFlags := 4122, nameIndex := 12, descriptorIndex := 13, attributes := #[] }])
  fields := #[{ name := "NORMAL", type := (.object "com/example/envelope/envelope/IntegerEncoding"), accessFlags := 16409, slot := 0, constantValue := 0 }, { name := "REVERSED", type := (.object "com/example/envelope/envelope/IntegerEncoding"), accessFlags := 16409, slot := 1, constantValue := 0 }, { name := "INTEGER_MASK", type := .int, accessFlags := 26, slot := 2, constantValue := 0 }, { name := "INTEGER_NORMAL", type := .int, accessFlags := 26, slot := 3, constantValue := 0 }, { name := "INTEGER_REVERSED", type := .int, accessFlags := 26, slot := 4, constantValue := 0 }, { name := "FOUND_NORMAL", type := (.object "java/util/Optional"), accessFlags := 26, slot := 5, constantValue := 0 }, { name := "FOUND_REVERSED", type := (.object "java/util/Optional"), accessFlags := 26, slot := 6, constantValue := 0 }, { name := "NORMAL_INTS", type := (.object "java/lang/invoke/VarHandle"), accessFlags := 26, slot := 7, constantValue := 0 }, { name := "REVERSED_INTS", type := (.object "java/lang/invoke/VarHandle"), accessFlags := 26, slot := 8, constantValue := 0 }, { name := "NORMAL_LONGS", type := (.object "java/lang/invoke/VarHandle"), accessFlags := 26, slot := 9, constantValue := 0 }, { name := "REVERSED_LONGS", type := (.object "java/lang/invoke/VarHandle"), accessFlags := 26, slot := 10, constantValue := 0 }, { name := "$VALUES", type := (.array (.object "com/example/envelope/envelope/IntegerEncoding")), accessFlags := 4122, slot := 11, constantValue := 0 }]
  methods := #[k6m0]
  instanceTypes := #[(.object "java/lang/String"), .int, .int]
  staticTypes := #[(.object "com/example/envelope/envelope/IntegerEncoding"), (.object "com/example/envelope/envelope/IntegerEncoding"), .int, .int, .int, (.object "java/util/Optional"), (.object "java/util/Optional"), (.object "java/lang/invoke/VarHandle"), (.object "java/lang/invoke/VarHandle"), (.object "java/lang/invoke/VarHandle"), (.object "java/lang/invoke/VarHandle"), (.array (.object "com/example/envelope/envelope/IntegerEncoding"))]
  resolved := Array.replicate 135 none
  statics := some 0 }

def pool7 : Array CpInfo := pool [(1, .fieldref 2 3), (0, .class_ 4), (0, .nameAndType 5 6), (0, u "java/util/Optional"), (0, u "EMPTY"), (0, u "Ljava/util/Optional;"), (1, .class_ 10), (1, u "java/lang/Object"), (2, .fieldref 2 14), (0, .nameAndType 15 16), (0, u "value"), (0, u "Ljava/lang/Object;"), (5, u "(Ljava/lang/Object;)Ljava/lang/Object;"), (32, u "empty"), (0, u "()Ljava/util/Optional;"), (108, u "orElse")] 21

def k7c0 : Code := { maxStack := 1, maxLocals := 1, code := jdk_32_method_1_code, exceptionTable := #[], attributes := #[] }
def k7m0 : Method := { name := "empty", desc := "()Ljava/util/Optional;", sig := { parameters := [], returnType := some (.object "java/util/Optional") }, accessFlags := 9, code := some k7c0 }
def k7c1 : Code := { maxStack := 1, maxLocals := 2, code := jdk_32_method_15_code, exceptionTable := #[], attributes := #[] }
def k7m1 : Method := { name := "orElse", desc := "(Ljava/lang/Object;)Ljava/lang/Object;", sig := { parameters := [(.object "java/lang/Object")], returnType := some (.object "java/lang/Object") }, accessFlags := 1, code := some k7c1 }
/-- java/util/Optional -/
def k7 : Class := { plain "java/util/Optional" (some 0) with
  accessFlags := 49
  interfaces := #[]
  cf := some (fileOf pool7 2 #[] #[{ accessFlags := 9, nameIndex := 55, descriptorIndex := 56, attributes := #[] }, { accessFlags := 1, nameIndex := 165, descriptorIndex := 22, attributes := #[] }] 49 8 #[] #[{ accessFlags := 26, nameIndex := 5, descriptorIndex := 6, attributes := #[] }, { accessFlags := 18, nameIndex := 15, descriptorIndex := 16, attributes := #[] }])
  fields := #[{ name := "EMPTY", type := (.object "java/util/Optional"), accessFlags := 26, slot := 0, constantValue := 0 }, { name := "value", type := (.object "java/lang/Object"), accessFlags := 18, slot := 0, constantValue := 0 }]
  methods := #[k7m0, k7m1]
  instanceTypes := #[(.object "java/lang/Object")]
  staticTypes := #[(.object "java/util/Optional")]
  resolved := Array.replicate 187 none
  statics := some 1 }

def pool8 : Array CpInfo := pool [(1, u "java/lang/Cloneable"), (0, .class_ 1), (0, u "java/lang/Object"), (0, .class_ 3)] 3

/-- java/lang/Cloneable -/
def k8 : Class := { plain "java/lang/Cloneable" (some 0) with
  accessFlags := 1537
  interfaces := #[]
  cf := some (fileOf pool8 2 #[] #[] 1537 4 #[] #[])
  fields := #[]
  methods := #[]
  instanceTypes := #[]
  staticTypes := #[]
  resolved := Array.replicate 8 none
  statics := none }

/-- the primitive byte -/
def k9 : Class := { plain "byte" none with kind := .primitive 'B', accessFlags := 0x411 }
/-- [B -/
def k10 : Class := { plain "[B" (some 0) with kind := .array 9 .byte, interfaces := #[8, 4], accessFlags := 1041 }

/-- the primitive int -/
def k11 : Class := { plain "int" none with kind := .primitive 'I', accessFlags := 0x411 }
/-- [I -/
def k12 : Class := { plain "[I" (some 0) with kind := .array 11 .int, interfaces := #[8, 4], accessFlags := 1041 }

def heap : Heap := #[{ cls := 6, slots := #[.ref 2, .ref 3, .int 0, .int 0, .int 0, .ref 4, .ref 5, .null, .null, .null, .null, .null], vm := .statics 6 },
  { cls := 7, slots := #[.ref 6], vm := .statics 7 },
  { cls := 6, slots := #[.null, .int 0, .int 0], vm := .none },
  { cls := 6, slots := #[.null, .int 1, .int 0], vm := .none },
  { cls := 7, slots := #[.ref 2], vm := .none },
  { cls := 7, slots := #[.ref 3], vm := .none },
  { cls := 7, slots := #[.null], vm := .none }]
def classes : Array Class := #[k0, k1, k2, k3, k4, k5, k6, k7, k8, k9, k10, k11, k12]
def interned : List (Array UInt16 × Addr) := []
def slotsUsed : Nat := 22
def theMethod : MethodId := ⟨1, 1⟩
def args0 : Array Value := #[.int 5]
def aboutOver (below : List Frame) : State where
  vm := { classes := classes, interned := interned.toArray }
  heap := heap
  slotsUsed := slotsUsed
  threads := #[{ frames := .invoking theMethod args0 :: below }]
def below0 : List Frame := [.native { method := ⟨0, 0⟩, args := #[] }]
def about1 : State := aboutOver below0
def p0 : Program := .bare "" "" ""
def e0 : Env := launch0.env 0 0 0
theorem w_frames : about1.frames = Frame.invoking theMethod args0 :: below0 := rfl
set_option maxRecDepth 65536 in
theorem w_args : argsFit about1.vm theMethod args0 = true := by decide +kernel
set_option maxRecDepth 65536 in
theorem w_heap : heapFits about1 = true := by decide +kernel
set_option maxRecDepth 65536 in
theorem w_runnable : about1.curStatus? = some .runnable := by decide +kernel
set_option maxRecDepth 65536 in
theorem w_alone : about1.alone = true := by decide +kernel
set_option maxRecDepth 65536 in
theorem w_named : about1.methodNamed? x = some theMethod := by decide +kernel
set_option maxRecDepth 65536 in
theorem w_hears : about1.hears theMethod below0 = true := by decide +kernel
set_option maxRecDepth 65536 in
theorem w_ripe : about1.ripe theMethod args0 below0 = true := by decide +kernel
theorem w_running : about1.status = .running := rfl
set_option maxRecDepth 65536 in
theorem w_room : about1.hasRoom e0.platform room_1 = true :=
  launch0.hasRoom_least _ room_1 (by decide +kernel) (by decide +kernel) (by decide +kernel) (by decide +kernel) (by decide +kernel) (by decide +kernel)
theorem allAtoms_all (ts : List Jvm.Cond) (a : Array Jvm.Value) (st : Jvm.State) : (allAtoms ts).before a st = ts.all (fun c => c.before a st) := by
  induction ts with
  | nil => rfl
  | cons c t ih =>
    show (Jvm.Cond.and c (allAtoms t)).before a st = _
    rw [Jvm.Cond.before_and, ih, List.all_cons]
def words1 : List Jvm.Cond := Jvm.Cond.code x code maxLocals ret :: tables_1
/-- a 'code' word, met by the world's own term for the bytes: nothing is compared byte by byte -/
theorem code_word {y : MethodName} {bytes : ByteArray} {mx : Nat} {rt : Option FieldType} {a : Array Value} {s : State} {m : MethodId} {meth : Method} {c : Code} (h1 : s.methodNamed? y = some m) (h2 : s.vm.method? m = some meth) (h3 : meth.code = some c) (h4 : c.code = bytes)
    (h5 : (c.maxLocals == mx && c.exceptionTable.isEmpty && decide (c.maxStack ≤ mostOperands) && decide (meth.sig.returnType = rt) && !meth.locks && decide (parseMethodDescriptor y.desc = some meth.sig)) = true) : (Jvm.Cond.code y bytes mx rt).before a s = true := by
  simp only [Bool.and_eq_true, beq_iff_eq, Bool.not_eq_true', decide_eq_true_eq] at h5
  obtain ⟨⟨⟨⟨⟨g1, g2⟩, g3⟩, g4⟩, g5⟩, g6⟩ := h5
  simp [Cond.before, Cond.holds, Cond.value, h1, h2, h3, h4, g1, g2, g3, g4, g5, g6]
def isCode : Jvm.Cond → Bool
  | .code _ _ _ _ => true
  | _ => false
theorem all_split {L : List Jvm.Cond} {P : Jvm.Cond → Bool} (h1 : L.all (fun c => isCode c || P c) = true) (h2 : ∀ c ∈ L.filter isCode, P c = true) : L.all P = true := by
  refine List.all_eq_true.mpr fun c hc => ?_
  have h := List.all_eq_true.mp h1 c hc
  rcases Bool.eq_false_or_eq_true (isCode c) with hi | hi
  · exact h2 c (List.mem_filter.mpr ⟨hc, hi⟩)
  · simpa [hi] using h
set_option maxRecDepth 65536 in
theorem w_c0 : (Jvm.Cond.code x code maxLocals ret).before args0 about1 = true := code_word (m := ⟨1, 1⟩) (meth := k1m1) (c := k1c1) (by decide +kernel) rfl rfl rfl (by decide +kernel)
set_option maxRecDepth 65536 in
theorem w_c1 : (Jvm.Cond.code ({ cls := "com/example/envelope/envelope/IntegerEncoding", name := "of", desc := "(I)Ljava/util/Optional;" } : Jvm.MethodName) prog_40_method_4_code (1 : Nat) (Option.some (Jvm.ClassFile.FieldType.object "java/util/Optional"))).before args0 about1 = true := code_word (m := ⟨6, 0⟩) (meth := k6m0) (c := k6c0) (by decide +kernel) rfl rfl rfl (by decide +kernel)
set_option maxRecDepth 65536 in
theorem w_c2 : (Jvm.Cond.code ({ cls := "java/util/Optional", name := "empty", desc := "()Ljava/util/Optional;" } : Jvm.MethodName) jdk_32_method_1_code (1 : Nat) (Option.some (Jvm.ClassFile.FieldType.object "java/util/Optional"))).before args0 about1 = true := code_word (m := ⟨7, 0⟩) (meth := k7m0) (c := k7c0) (by decide +kernel) rfl rfl rfl (by decide +kernel)
set_option maxRecDepth 65536 in
theorem w_c3 : (Jvm.Cond.code ({ cls := "java/util/Optional", name := "orElse", desc := "(Ljava/lang/Object;)Ljava/lang/Object;" } : Jvm.MethodName) jdk_32_method_15_code (2 : Nat) (Option.some (Jvm.ClassFile.FieldType.object "java/lang/Object"))).before args0 about1 = true := code_word (m := ⟨7, 1⟩) (meth := k7m1) (c := k7c1) (by decide +kernel) rfl rfl rfl (by decide +kernel)
def codes1 : List Jvm.Cond := [Jvm.Cond.code x code maxLocals ret, Jvm.Cond.code ({ cls := "com/example/envelope/envelope/IntegerEncoding", name := "of", desc := "(I)Ljava/util/Optional;" } : Jvm.MethodName) prog_40_method_4_code (1 : Nat) (Option.some (Jvm.ClassFile.FieldType.object "java/util/Optional")), Jvm.Cond.code ({ cls := "java/util/Optional", name := "empty", desc := "()Ljava/util/Optional;" } : Jvm.MethodName) jdk_32_method_1_code (1 : Nat) (Option.some (Jvm.ClassFile.FieldType.object "java/util/Optional")), Jvm.Cond.code ({ cls := "java/util/Optional", name := "orElse", desc := "(Ljava/lang/Object;)Ljava/lang/Object;" } : Jvm.MethodName) jdk_32_method_15_code (2 : Nat) (Option.some (Jvm.ClassFile.FieldType.object "java/lang/Object"))]
set_option maxRecDepth 65536 in
theorem codes_eq : words1.filter isCode = codes1 := rfl
theorem w_codes : ∀ c ∈ words1.filter isCode, c.before args0 about1 = true := by
  rw [codes_eq]
  intro c hc
  simp only [codes1, List.mem_cons, List.not_mem_nil, or_false] at hc
  rcases hc with rfl | rfl | rfl | rfl
  · exact w_c0
  · exact w_c1
  · exact w_c2
  · exact w_c3
set_option maxRecDepth 65536 in
theorem w_t1 : (words1.take 24).all (fun c => isCode c || c.before args0 about1) = true := by decide +kernel
set_option maxRecDepth 65536 in
theorem w_t2 : (words1.drop 24).all (fun c => isCode c || c.before args0 about1) = true := by decide +kernel
theorem w_tables : (allAtoms (Jvm.Cond.code x code maxLocals ret :: tables_1)).before args0 about1 = true := by
  rw [allAtoms_all]
  show words1.all (fun c => c.before args0 about1) = true
  refine all_split ?_ w_codes
  rw [← List.take_append_drop 24 words1, List.all_append, w_t1, w_t2]
  rfl
set_option maxRecDepth 65536 in
theorem w_rest : rest_1_c.before args0 about1 = true := by decide +kernel
set_option maxRecDepth 65536 in
theorem w_case : (Jvm.Cond.and given_1 narrow_1).before args0 about1 = true := by decide +kernel
theorem w_applies : (headSpec (Jvm.Cond.code x code maxLocals ret :: tables_1) room_1).applies x e0.platform about1 = true :=
  (Spec.applies_iff w_frames).mpr ⟨w_running, w_runnable, w_alone, w_named, w_hears, w_ripe, w_room, w_tables⟩
theorem atStart : AtStart classFile x code maxLocals ret World_1 tables_1 room_1 Calls_1 rest_1 Pre_1 launch0 p0 e0 about1 theMethod args0 below0 :=
  ⟨lists_1, trivial, launch0.admits_env _ _ _, launch0.least_env, fairChoices_fair.cas, fairChoices_fair.clock, w_frames, w_args, w_heap, w_applies, trivial, w_rest, w_case⟩
end start1
theorem witness_1 : WitnessClaimed_1 := ⟨start1.p0, start1.e0, start1.about1, start1.theMethod, start1.args0, start1.below0, start1.atStart⟩
end Jvm.Pilot.@@N@@
