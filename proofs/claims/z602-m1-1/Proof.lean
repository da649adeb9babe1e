import JvmDerived
import JvmDerived.Pilot.@@N@@Statement
import JvmDerived.Pilot.@@N@@Code
set_option linter.unusedVariables false
set_option linter.unusedSimpArgs false
namespace Jvm.RoadKit
open Sem ClassFile Op Lib Jvm.Stand Jvm.Free Jvm.LawKit
section New
variable {p : Program} {l : Launch} {e : Env} {R : Room} {s : State} {m : MethodId} {args : Array Value} {below : List Frame} {meth : Method} {c : Code} {T : State} {locs : List Loc} {cells slots : Nat}
theorem retI (X : Stand p l e R s m args below meth c T locs cells slots) (hx : p.tables.exec = Jvm.exec) {pc : Nat} {Ls : Array Slot} {z : Int32} {rest : List Value} (hret : meth.sig.returnType = some .int) (hd : decode c.code pc = .ok (.ireturn, 1)) {fs : List Frame}
    (hl : ∀ (f : JFrame) (acts : List Action), f.method = m → f.locked = none → f.entered = [] → (doReturn e (T.setTop f) acts (some (.int z))).1 = T.setFrames fs) : Steps p.tables e below (T.setTop (mkF m pc Ls (.int z :: rest))) (T.setFrames fs) := by
  have hm' : T.vm.method? m = some meth := X.method'
  have hn : narrow .int (.int z) = .int z := rfl
  show Steps p.tables e below (T.setTop { method := m, pc := pc, locals := Ls, stack := _ :: rest, locked := none }) _
  jvm_step X.here [X.here.top, hx, hd, hm', hret, hn]
  first | (intro acts; rw [hl _ acts rfl rfl rfl]) | rw [hl _ _ rfl rfl rfl]
  exact Steps.refl _
end New
end Jvm.RoadKit
namespace Jvm.Pilot.@@N@@
open Jvm Jvm.ClassFile Sem Op Lib Jvm.Free Jvm.Stand Jvm.LawKit Jvm.RoadKit Bundle Jvm.Pilot.@@N@@.Jvm.D
theorem own_sta_keep0 {Z : State} {h h' : Heap} {C n d : String} {v : Value} (F : Sta Z h C n d v) (K : Keep h h' []) : Sta Z h' C n d v := by
  obtain ⟨cf, i, k, f, st, cell, h1, h2, h3, h4, h5, h6, h7⟩ := F
  exact ⟨cf, i, k, f, st, cell, h1, h2, h3, h4, K.2.1 _ _ h5 nin0, h6, h7⟩
theorem own_sta_keep1 {Z : State} {h h' : Heap} {C n d C' : String} {v : Value} {a : Addr} (F : Sta Z h C n d v) (K : Keep h h' [a]) (E : Exa Z h a C') : Sta Z h' C n d v := by
  obtain ⟨cf, i, k, f, st, cell, h1, h2, h3, h4, h5, h6, h7⟩ := F
  obtain ⟨ce, ke, g1, g2, g3, g4, g5⟩ := E
  refine ⟨cf, i, k, f, st, cell, h1, h2, h3, h4, K.2.1 _ _ h5 (ninS (fun q => ?_) nin0), h6, h7⟩
  subst q
  cases h5.symm.trans g1
  rw [h6] at g4; cases g4
def Rar (Z : State) (h : Heap) (a : Addr) (k : ClassId) (ty : FieldType) (z : Int32) (f : Nat → Value) : Prop := ∃ c : Cell, Arr Z h a c ty ∧ c.cls = k ∧ c.slots.size = z.toNatClampNeg ∧ ¬ z < 0 ∧ ∀ i, i < c.slots.size → c.slots[i]? = some (f i)
theorem Rar.lt {Z : State} {h : Heap} {a : Addr} {k : ClassId} {ty : FieldType} {z : Int32} {f : Nat → Value} (F : Rar Z h a k ty z f) : a < h.size := by
  obtain ⟨c, A, -⟩ := F; exact A.lt
theorem Rar.ext {Z : State} {h h' : Heap} {a : Addr} {k : ClassId} {ty : FieldType} {z : Int32} {f : Nat → Value} (F : Rar Z h a k ty z f) (E : Ext h h') : Rar Z h' a k ty z f := by
  obtain ⟨c, A, r⟩ := F; exact ⟨c, Arr.ext E A, r⟩
theorem Rar.other {Z : State} {h h' : Heap} {a b : Addr} {k : ClassId} {ty : FieldType} {z : Int32} {f : Nat → Value} {sl : Nat} {v : Value} (F : Rar Z h a k ty z f) (W : Wr h h' b sl v) (q : a ≠ b) : Rar Z h' a k ty z f := by
  obtain ⟨c, A, r⟩ := F; exact ⟨c, Arr.other W A q, r⟩
theorem Rar.keep {Z : State} {h h' : Heap} {a : Addr} {k : ClassId} {ty : FieldType} {z : Int32} {f : Nat → Value} {ws : List Addr} (F : Rar Z h a k ty z f) (K : Keep h h' ws) (q : a ∉ ws) : Rar Z h' a k ty z f := by
  obtain ⟨c, A, r⟩ := F; exact ⟨c, ⟨K.2.1 _ _ A.1 q, A.2⟩, r⟩
theorem Rar.new {Z : State} {h : Heap} {a : Addr} {k : ClassId} {C : String} {z : Int32} (A : Arr Z h a (newA k (.object C) z) (.object C)) (q : ¬ z < 0) : Rar Z h a k (.object C) z (fun _ => .null) := by
  obtain ⟨c, A', q1, q2, q3, H, -⟩ := Arv.new A q
  exact ⟨c, A', q1, q2, q3, fun i hi => H i hi⟩
theorem Rar.set {Z : State} {h h' : Heap} {a : Addr} {k : ClassId} {ty : FieldType} {z j : Int32} {f : Nat → Value} {c : Cell} {x : Value} (A : Arr Z h a c ty) (q1 : c.cls = k) (S : c.slots.size = z.toNatClampNeg) (q3 : ¬ z < 0) (H : ∀ i, i < c.slots.size → c.slots[i]? = some (f i)) (W : Wr h h' a j.toNatClampNeg x) : Rar Z h' a k ty z (fun i => if i = j.toNatClampNeg then x else f i) := by
  refine ⟨c.setSlot j.toNatClampNeg x, Arr.same W A, q1, (sz_set _ _ _).trans S, q3, fun i hi => ?_⟩
  rw [sz_set] at hi
  have hs : (c.setSlot j.toNatClampNeg x).slots = c.slots.setIfInBounds j.toNatClampNeg x := rfl
  rw [hs, Array.getElem?_setIfInBounds]
  by_cases e : j.toNatClampNeg = i
  · subst e; simp [hi]
  · rw [if_neg e]
    show c.slots[i]? = some (if i = j.toNatClampNeg then x else f i)
    rw [if_neg (fun q => e q.symm)]; exact H i hi
theorem own_narrow_ref {C : String} {v : Value} (h : v.isRef = true) : narrow (.object C) v = v := by cases v <;> first | rfl | cases h
theorem own_fits_ref {C : String} {v : Value} (h : v.isRef = true) : fits (.object C) v = true := by cases v <;> first | rfl | cases h
theorem pn_0 : plainName "java/lang/Number" = true := by first | (simp [plainName, overriddenIn]; done) | decide +kernel
theorem pn_1 : plainName "java/lang/Integer" = true := by first | (simp [plainName, overriddenIn]; done) | decide +kernel
theorem pn_2 : plainName "java/lang/Long" = true := by first | (simp [plainName, overriddenIn]; done) | decide +kernel
theorem pn_3 : plainName "com/example/quernloop/quernloop/Message" = true := by first | (simp [plainName, overriddenIn]; done) | decide +kernel
theorem pn_4 : plainName "com/example/quernloop/quernloop/WorkSlots" = true := by first | (simp [plainName, overriddenIn]; done) | decide +kernel
theorem pn_5 : plainName "com/example/quernloop/quernloop/WorkSlotsObjectPinLaw" = true := by first | (simp [plainName, overriddenIn]; done) | decide +kernel
theorem pd_0 : parseMethodDescriptor "()V" = some ⟨[], none⟩ := by decide +kernel
theorem pd_1 : parseMethodDescriptor "(I)V" = some ⟨[.int], none⟩ := by decide +kernel
theorem pd_2 : parseMethodDescriptor "(J)V" = some ⟨[.long], none⟩ := by decide +kernel
theorem pd_3 : parseMethodDescriptor "(I)Ljava/lang/Integer;" = some ⟨[.int], some (.object "java/lang/Integer")⟩ := by decide +kernel
theorem pd_4 : parseMethodDescriptor "(J)Ljava/lang/Long;" = some ⟨[.long], some (.object "java/lang/Long")⟩ := by decide +kernel
theorem pd_5 : parseMethodDescriptor "(ILjava/lang/Object;Lcom/example/quernloop/quernloop/Handler;Ljava/lang/Object;)V" = some ⟨[.int, (.object "java/lang/Object"), (.object "com/example/quernloop/quernloop/Handler"), (.object "java/lang/Object")], none⟩ := by decide +kernel
theorem pd_6 : parseMethodDescriptor "(I)Ljava/lang/Object;" = some ⟨[.int], some (.object "java/lang/Object")⟩ := by decide +kernel
def Cac (Z : State) (h : Heap) (a : Addr) (C : String) : Prop := ∃ c : Cell, Arr Z h a c (.object C) ∧ c.slots.size = 256 ∧ ∀ i, i < 256 → ∃ v, c.slots[i]? = some v ∧ v.isRef = true
theorem Cac.keep0 {Z : State} {h h' : Heap} {a : Addr} {C : String} (F : Cac Z h a C) (K : Keep h h' []) : Cac Z h' a C := by
  obtain ⟨c, A, r⟩ := F; exact ⟨c, ⟨K.2.1 _ _ A.1 nin0, A.2⟩, r⟩
theorem own_ix (x : Int32) (h1 : ¬ x < (-128 : Int32)) (h2 : ¬ (127 : Int32) < x) : ¬ (x + (128 : Int32)) < 0 ∧ (x + (128 : Int32)).toNatClampNeg < 256 := by
  have k := c_iadd x 128
  have r := rng32 (x + (128 : Int32))
  have l0 : (0 : Int32).toInt = 0 := by decide
  have l1 : (128 : Int32).toInt = 128 := by decide
  have l2 : (-128 : Int32).toInt = -128 := by decide
  have l3 : (127 : Int32).toInt = 127 := by decide
  have e : (x + (128 : Int32)).toNatClampNeg = (x + (128 : Int32)).toInt.toNat := rfl
  rw [l1] at k
  rw [Int32.lt_iff_toInt_lt, l2] at h1
  rw [Int32.lt_iff_toInt_lt, l3] at h2
  rw [Int32.lt_iff_toInt_lt, l0, e]
  omega
theorem own_lx (x : Int64) (h1 : ¬ x < (-128 : Int64)) (h2 : ¬ (127 : Int64) < x) : ¬ ((x).toInt32 + (128 : Int32)) < 0 ∧ ((x).toInt32 + (128 : Int32)).toNatClampNeg < 256 := by
  have l2 : (-128 : Int64).toInt = -128 := by decide
  have l3 : (127 : Int64).toInt = 127 := by decide
  have l2' : (-128 : Int32).toInt = -128 := by decide
  have l3' : (127 : Int32).toInt = 127 := by decide
  have k := c_l2i x
  have r := rng32 x.toInt32
  rw [Int64.lt_iff_toInt_lt, l2] at h1
  rw [Int64.lt_iff_toInt_lt, l3] at h2
  refine own_ix x.toInt32 ?_ ?_
  · rw [Int32.lt_iff_toInt_lt, l2']; omega
  · rw [Int32.lt_iff_toInt_lt, l3']; omega
theorem own_cap (p z : Int32) (h : z = ((1 : Int32) + (p &&& (7 : Int32)))) : z ≠ 0 ∧ (¬ z < 0 ∧ z.toNatClampNeg ≤ 8) ∧ 0 < z.toInt ∧ z.toInt ≤ 8 := by
  have h1 := c_mask p 7 3 (by decide) (by decide)
  have k := c_iadd 1 (p &&& (7 : Int32))
  have r := rng32 ((1 : Int32) + (p &&& (7 : Int32)))
  have l0 : (0 : Int32).toInt = 0 := by decide
  have l1 : (1 : Int32).toInt = 1 := by decide
  rw [l1] at k
  subst h
  have e : ((1 : Int32) + (p &&& (7 : Int32))).toNatClampNeg = ((1 : Int32) + (p &&& (7 : Int32))).toInt.toNat := rfl
  refine ⟨fun q => ?_, ⟨?_, ?_⟩, by omega, by omega⟩
  · have q' := congrArg Int32.toInt q
    rw [l0] at q'
    omega
  · rw [Int32.lt_iff_toInt_lt, l0]; omega
  · rw [e]; omega
theorem own_idx (q z j : Int32) (h0 : 0 < z.toInt) (h : j = ((q &&& (2147483647 : Int32)) % z)) : ¬ j < 0 ∧ j < z := by
  have h1 := c_mask q 2147483647 31 (by decide) (by decide)
  have h2 := (c_iremV (q &&& (2147483647 : Int32)) z).1 (by omega) h0
  have l0 : (0 : Int32).toInt = 0 := by decide
  subst h
  rw [Int32.lt_iff_toInt_lt, Int32.lt_iff_toInt_lt, l0]
  omega
theorem own_tn {j k : Int32} (h1 : ¬ j < 0) (h2 : ¬ k < 0) (h : ¬ j = k) : j.toNatClampNeg ≠ k.toNatClampNeg := by
  have l0 : (0 : Int32).toInt = 0 := by decide
  rw [Int32.lt_iff_toInt_lt, l0] at h1 h2
  intro q
  have q' : j.toInt.toNat = k.toInt.toNat := q
  exact h (Int32.toInt_inj.mp (by omega))
theorem own_cac {args : Array Value} {s : State} {t : Term} {a : Addr} {C : String} (hf : Fit s) (ev : t.eval args s none [] s = some (.ref a)) (ha : (Cond.arrayOf t (.object C)).value args s none s [] = some true) (hl : (Cond.eq (Term.length t) (Term.int (256 : Int32))).before args s = true) : Cac s s.heap a C := by
  obtain ⟨c, A⟩ := Arr.start ev ha
  have hl' := Cond.eq_int hl rfl
  have hat : s.arrayAt? a = some c := Arr.fin (State.Warmed39.refl s).alike A
  have h31 := SBG.length_lt ev hat hl'
  have e := len_f ev hat h31
  have e2 : c.slots.size.toInt32 = (256 : Int32) := by simpa using Option.some.inj (e.symm.trans hl')
  have e3 : c.slots.size = 256 := by
    have q := congrArg Int32.toInt e2
    rw [len_toInt h31, show (256 : Int32).toInt = 256 by decide] at q
    omega
  refine ⟨c, A, e3, fun i hi => ?_⟩
  have hj := idx_in (i := i) (n := c.slots.size) (by omega) h31
  obtain ⟨v, hv, hf'⟩ := elem_fit hf A hj
  have e4 : (Nat.toInt32 i).toNatClampNeg = i := by
    show (Nat.toInt32 i).toInt.toNat = i
    rw [len_toInt (by omega)]
    omega
  rw [e4] at hv
  exact ⟨v, hv, fit_R hf' rfl⟩
theorem d1_0 : decode jdk_18_method_1_code 0 = .ok (.aload_n 0, 1) := by decide +kernel
theorem d1_1 : decode jdk_18_method_1_code 1 = .ok (.invokespecial 1, 3) := by decide +kernel
theorem d1_4 : decode jdk_18_method_1_code 4 = .ok (.return_, 1) := by decide +kernel
theorem ef_1 (m : MethodId) (x0 : Addr) : entryFrame m #[(.ref x0)] 1 = (mkF m 0 #[.val (.ref x0)] []) := by first | (simp [entryFrame, mkF, argsToLocals, Value.category]; done) | rfl
def Q1 (Z : State) (a : Addr) (h0 : Heap) (n0 : Nat) (vX : Option Value) (hX : Heap) (lX : List Loc) : Prop := vX = none ∧ Fr n0 lX ∧ (hX = h0)
set_option maxRecDepth 65536 in
set_option maxHeartbeats 40000000 in
theorem rm1 (l : Launch) (Z : State) (a0 : Array Value) (hw : ∀ d ∈ tables_1, d.before a0 Z = true) (ws : List Jvm.Cond) (a : Addr) (h0 : Heap) (n0 : Nat) (Z0 : n0 ≤ h0.size)  :
    MetFree l (⟨"java/lang/Number", "<init>", "()V"⟩ : MethodName) (head1 (Jvm.Cond.code (⟨"java/lang/Number", "<init>", "()V"⟩ : MethodName) jdk_18_method_1_code 1 none :: ws) ({ frames := 1, cells := 0, slots := 0, locals := 12 } : Room)) (fun aX uX => aX = #[(.ref a)] ∧ Z.Warmed39 uX.vm ∧ uX.heap = h0) (fun _ _ _ _ _ => True) (fun _ uX oX wX => ∃ vX lX, oX = .returned vX ∧ Q1 Z a h0 n0 vX wX.heap lX ∧ FrameEnd uX oX wX lX ({ frames := 1, cells := 0, slots := 0, locals := 12 } : Room).cells ({ frames := 1, cells := 0, slots := 0, locals := 12 } : Room).slots) := by
  refine MetFree.of_bodySF (plainFor_of_name pn_0) hisR ?_
  intro p e s m args below meth c s₁ Bd hml0 hP hK
  obtain ⟨rfl, hZ, hh⟩ := hP
  have hx := Bd.exec
  have hby := Bd.bytes
  have hml : c.maxLocals = 1 := hml0
  have hown : s.vm.findClass "java/lang/Number" = some m.cls := findClass_of_methodNamed Bd.named
  have hnm := (name_of_methodNamed Bd.named Bd.method).1
  have X0 : Stand p l e ({ frames := 1, cells := 0, slots := 0, locals := 12 } : Room) s m #[(.ref a)] below meth c s₁ [] 0 0 := Stand.of_body Bd
  have e0 : s₁.heap = h0 := by rw [← hh, Bd.state]; rfl
  have N0 := Fr.nil n0
  have pre0 : ∀ t, Steps p.tables e below (s₁.setTop (mkF m 0 #[.val (.ref a)] [])) t → Steps p.tables e below (s₁.setTop (entryFrame m #[(.ref a)] 1)) t := fun t k => castTop (ef_1 m a) k
  obtain ⟨T1, X1, e1, st1⟩ := initO X0 hx hZ hown (hw _ (List.mem_of_getElem? (i := 70) rfl)) (hw _ (List.mem_of_getElem? (i := 16) rfl)) (hw _ (List.mem_of_getElem? (i := 17) rfl)) e0 (g := (mkF m 1 #[.val (.ref a)] [(.ref a)])) rfl (by rw [hml]; rfl) rfl (hb hby d1_1) (by decide) (W := 0) (by show 2 * 0 + _ ≤ _; exact Nat.le_of_eq rfl) (by decide)
  have P2 : ∀ t, Steps p.tables e below (T1.setTop (mkF m 4 #[.val (.ref a)] [])) t → Steps p.tables e below (s₁.setTop (entryFrame m #[(.ref a)] 1)) t := by
    intro t kk
    refine pre0 _ ?_
    show Steps p.tables e below (s₁.setTop (mkF m 0 #[.val (.ref a)] [])) _
    refine XS.aloadN X0.here hx rfl (hb hby d1_0) rfl rfl ?_
    show Steps p.tables e below (s₁.setTop (mkF m 1 #[.val (.ref a)] [(.ref a)])) _
    refine st1 _ ?_
    show Steps p.tables e below (T1.setTop (mkF m 4 #[.val (.ref a)] [])) _
    exact kk
  obtain ⟨fs, hr, hrun, hended, hW, hsame⟩ := X1.leave (v := none) (fun _ => rfl)
  refine ⟨_, _, P2 _ ?_, hrun, hended, _, _, rfl, ?_, ⟨_, rfl⟩, hW, hsame.mono (by decide) (by decide)⟩
  · exact X1.returnOut hx Bd.returns (hb hby d1_4) hr
  · show Q1 Z a h0 n0 _ T1.heap _
    rw [e1]
    exact ⟨rfl, N0, rfl⟩
theorem d2_0 : decode jdk_33_method_23_code 0 = .ok (.aload_n 0, 1) := by decide +kernel
theorem d2_1 : decode jdk_33_method_23_code 1 = .ok (.invokespecial 202, 3) := by decide +kernel
theorem d2_4 : decode jdk_33_method_23_code 4 = .ok (.aload_n 0, 1) := by decide +kernel
theorem d2_5 : decode jdk_33_method_23_code 5 = .ok (.iload_n 1, 1) := by decide +kernel
theorem d2_6 : decode jdk_33_method_23_code 6 = .ok (.putfield 205, 3) := by decide +kernel
theorem d2_9 : decode jdk_33_method_23_code 9 = .ok (.return_, 1) := by decide +kernel
theorem ef_2 (m : MethodId) (x0 : Addr) (x1 : Int32) : entryFrame m #[(.ref x0), (.int x1)] 2 = (mkF m 0 #[.val (.ref x0), .val (.int x1)] []) := by first | (simp [entryFrame, mkF, argsToLocals, Value.category]; done) | rfl
def Q2 (Z : State) (a : Addr) (x : Int32) (u : Int32) (h0 : Heap) (n0 : Nat) (vX : Option Value) (hX : Heap) (lX : List Loc) : Prop := vX = none ∧ Fr n0 lX ∧ (Keep h0 hX [a]) ∧ (Fld Z hX a "java/lang/Integer" "value" "I" (.int x))
set_option maxRecDepth 65536 in
set_option maxHeartbeats 40000000 in
theorem rm2 (l : Launch) (Z : State) (a0 : Array Value) (hw : ∀ d ∈ tables_1, d.before a0 Z = true) (ws : List Jvm.Cond) (a : Addr) (x : Int32) (u : Int32) (h0 : Heap) (n0 : Nat) (Z0 : n0 ≤ h0.size) (pr0 : Exa Z h0 a "java/lang/Integer") (pr1 : Fld Z h0 a "java/lang/Integer" "value" "I" (.int u)) (pr2 : n0 ≤ a) :
    MetFree l (⟨"java/lang/Integer", "<init>", "(I)V"⟩ : MethodName) (head1 (Jvm.Cond.code (⟨"java/lang/Integer", "<init>", "(I)V"⟩ : MethodName) jdk_33_method_23_code 2 none :: ws) ({ frames := 2, cells := 0, slots := 0, locals := 24 } : Room)) (fun aX uX => aX = #[(.ref a), (.int x)] ∧ Z.Warmed39 uX.vm ∧ uX.heap = h0) (fun _ _ _ _ _ => True) (fun _ uX oX wX => ∃ vX lX, oX = .returned vX ∧ Q2 Z a x u h0 n0 vX wX.heap lX ∧ FrameEnd uX oX wX lX ({ frames := 2, cells := 0, slots := 0, locals := 24 } : Room).cells ({ frames := 2, cells := 0, slots := 0, locals := 24 } : Room).slots) := by
  refine MetFree.of_bodySF (plainFor_of_name pn_1) hisR ?_
  intro p e s m args below meth c s₁ Bd hml0 hP hK
  obtain ⟨rfl, hZ, hh⟩ := hP
  have hx := Bd.exec
  have hby := Bd.bytes
  have hml : c.maxLocals = 2 := hml0
  have hown : s.vm.findClass "java/lang/Integer" = some m.cls := findClass_of_methodNamed Bd.named
  have hnm := (name_of_methodNamed Bd.named Bd.method).1
  have X0 : Stand p l e ({ frames := 2, cells := 0, slots := 0, locals := 24 } : Room) s m #[(.ref a), (.int x)] below meth c s₁ [] 0 0 := Stand.of_body Bd
  have e0 : s₁.heap = h0 := by rw [← hh, Bd.state]; rfl
  have N0 := Fr.nil n0
  have pre0 : ∀ t, Steps p.tables e below (s₁.setTop (mkF m 0 #[.val (.ref a), .val (.int x)] [])) t → Steps p.tables e below (s₁.setTop (entryFrame m #[(.ref a), (.int x)] 2)) t := fun t k => castTop (ef_2 m a x) k
  obtain ⟨_, _, ⟨T1, L1, k1, n1⟩, -, X1, ⟨Lc1, hQ1, l1, y1, z1⟩, st1⟩ := X0.specialBack hx (y := (⟨"java/lang/Number", "<init>", "()V"⟩ : MethodName)) rfl hown (mvT hZ (hw _ (List.mem_of_getElem? (i := 79) rfl))) (mvT hZ (hw _ (List.mem_of_getElem? (i := 65) rfl))) (mvT hZ (hw _ (List.mem_of_getElem? (i := 69) rfl))) (by decide) (backOf (W := 0) (rm1 l Z a0 hw [] a h0 n0 Z0 ) hZ (hw _ (List.mem_of_getElem? (i := 69) rfl)) (hw _ (List.mem_of_getElem? (i := 68) rfl)) (by decide) (by decide)) (g := (mkF m 1 #[.val (.ref a), .val (.int x)] [(.ref a)])) rfl (by rw [hml]; rfl) (Steps.refl _) (a := a) (argsL := []) (rest := []) (lenOf pd_0 rfl) rfl (by show 2 * 0 + _ ≤ _; exact Nat.le_of_eq rfl) (hb hby d2_1) (fun _ _ => ⟨rfl, e0, (by decide : 0 + 0 ≤ _), (by decide : 0 + 0 ≤ _)⟩)
  dsimp only [Pt.U, Pt.locs, Pt.cells, Pt.slots] at X1 l1 y1 z1 st1 hQ1
  subst l1 y1 z1
  obtain ⟨rfl, Nq1, e1⟩ := hQ1
  have N1 := Fr.app N0 Nq1
  obtain ⟨T2, h2, X2, e2, W2, st2⟩ := putF X1 hx hZ hown (host := "") (Or.inl (hw _ (List.mem_of_getElem? (i := 81) rfl))) Via.refl e1 pr1 pr0 (Or.inr ⟨(hw _ (List.mem_of_getElem? (i := 82) rfl)), rfl, hnm⟩) (hw _ (List.mem_of_getElem? (i := 74) rfl)) (ty := .int) (by decide) rfl rfl (g := (mkF m 6 #[.val (.ref a), .val (.int x)] [(.int x), (.ref a)])) rfl rfl (hb hby d2_6)
  have N2 := Fr.snoc X2 N1 pr2
  have Fw2 := Fld.same W2 pr1
  have P3 : ∀ t, Steps p.tables e below (T2.setTop (mkF m 9 #[.val (.ref a), .val (.int x)] [])) t → Steps p.tables e below (s₁.setTop (entryFrame m #[(.ref a), (.int x)] 2)) t := by
    intro t kk
    refine pre0 _ ?_
    show Steps p.tables e below (s₁.setTop (mkF m 0 #[.val (.ref a), .val (.int x)] [])) _
    refine XS.aloadN X0.here hx rfl (hb hby d2_0) rfl rfl ?_
    show Steps p.tables e below (s₁.setTop (mkF m 1 #[.val (.ref a), .val (.int x)] [(.ref a)])) _
    refine st1.trans ?_
    show Steps p.tables e below (T1.setTop (mkF m 4 #[.val (.ref a), .val (.int x)] [])) _
    refine XS.aloadN X1.here hx rfl (hb hby d2_4) rfl rfl ?_
    show Steps p.tables e below (T1.setTop (mkF m 5 #[.val (.ref a), .val (.int x)] [(.ref a)])) _
    refine XS.iloadN X1.here hx rfl (hb hby d2_5) rfl ?_
    show Steps p.tables e below (T1.setTop (mkF m 6 #[.val (.ref a), .val (.int x)] [(.int x), (.ref a)])) _
    refine st2 _ ?_
    show Steps p.tables e below (T2.setTop (mkF m 9 #[.val (.ref a), .val (.int x)] [])) _
    exact kk
  have k4 : Keep h0 h2 [a] := (Keep.wr (Keep.refl h0 [a]) W2 (Or.inl (List.mem_of_getElem? (i := 0) rfl)))
  obtain ⟨fs, hr, hrun, hended, hW, hsame⟩ := X2.leave (v := none) (fun _ => rfl)
  refine ⟨_, _, P3 _ ?_, hrun, hended, _, _, rfl, ?_, ⟨_, rfl⟩, hW, hsame.mono (by decide) (by decide)⟩
  · exact X2.returnOut hx Bd.returns (hb hby d2_9) hr
  · show Q2 Z a x u h0 n0 _ T2.heap _
    rw [e2]
    exact ⟨rfl, N2, k4, Fw2⟩
theorem d3_0 : decode jdk_33_method_22_code 0 = .ok (.iload_n 0, 1) := by decide +kernel
theorem d3_1 : decode jdk_33_method_22_code 1 = .ok (.bipush (-128), 2) := by decide +kernel
theorem d3_3 : decode jdk_33_method_22_code 3 = .ok (.if_icmp .lt 20, 3) := by decide +kernel
theorem d3_6 : decode jdk_33_method_22_code 6 = .ok (.iload_n 0, 1) := by decide +kernel
theorem d3_7 : decode jdk_33_method_22_code 7 = .ok (.getstatic 191, 3) := by decide +kernel
theorem d3_10 : decode jdk_33_method_22_code 10 = .ok (.if_icmp .gt 13, 3) := by decide +kernel
theorem d3_13 : decode jdk_33_method_22_code 13 = .ok (.getstatic 195, 3) := by decide +kernel
theorem d3_16 : decode jdk_33_method_22_code 16 = .ok (.iload_n 0, 1) := by decide +kernel
theorem d3_17 : decode jdk_33_method_22_code 17 = .ok (.sipush 128, 3) := by decide +kernel
theorem d3_20 : decode jdk_33_method_22_code 20 = .ok (.iadd, 1) := by decide +kernel
theorem d3_21 : decode jdk_33_method_22_code 21 = .ok (.aaload, 1) := by decide +kernel
theorem d3_22 : decode jdk_33_method_22_code 22 = .ok (.areturn, 1) := by decide +kernel
theorem d3_23 : decode jdk_33_method_22_code 23 = .ok (.new 1, 3) := by decide +kernel
theorem d3_26 : decode jdk_33_method_22_code 26 = .ok (.dup, 1) := by decide +kernel
theorem d3_27 : decode jdk_33_method_22_code 27 = .ok (.iload_n 0, 1) := by decide +kernel
theorem d3_28 : decode jdk_33_method_22_code 28 = .ok (.invokespecial 199, 3) := by decide +kernel
theorem d3_31 : decode jdk_33_method_22_code 31 = .ok (.areturn, 1) := by decide +kernel
theorem ef_3 (m : MethodId) (x0 : Int32) : entryFrame m #[(.int x0)] 1 = (mkF m 0 #[.val (.int x0)] []) := by first | (simp [entryFrame, mkF, argsToLocals, Value.category]; done) | rfl
def Q3 (Z : State) (x : Int32) (ca : Addr) (h0 : Heap) (n0 : Nat) (vX : Option Value) (hX : Heap) (lX : List Loc) : Prop := ∃ (r : Value), vX = some r ∧ Fr n0 lX ∧ (Keep h0 hX []) ∧ (r.isRef = true)
set_option maxRecDepth 65536 in
set_option maxHeartbeats 40000000 in
theorem rm3 (l : Launch) (Z : State) (a0 : Array Value) (hw : ∀ d ∈ tables_1, d.before a0 Z = true) (ws : List Jvm.Cond) (x : Int32) (ca : Addr) (h0 : Heap) (n0 : Nat) (Z0 : n0 ≤ h0.size) (pr0 : Sta Z h0 "java/lang/Integer$IntegerCache" "high" "I" (.int (127 : Int32))) (pr1 : Sta Z h0 "java/lang/Integer$IntegerCache" "cache" "[Ljava/lang/Integer;" (.ref ca)) (pr2 : Cac Z h0 ca "java/lang/Integer") :
    MetFree l (⟨"java/lang/Integer", "valueOf", "(I)Ljava/lang/Integer;"⟩ : MethodName) (head1 (Jvm.Cond.code (⟨"java/lang/Integer", "valueOf", "(I)Ljava/lang/Integer;"⟩ : MethodName) jdk_33_method_22_code 1 (some (.object "java/lang/Integer")) :: ws) ({ frames := 3, cells := 1, slots := 1, locals := 38 } : Room)) (fun aX uX => aX = #[(.int x)] ∧ Z.Warmed39 uX.vm ∧ uX.heap = h0) (fun _ _ _ _ _ => True) (fun _ uX oX wX => ∃ vX lX, oX = .returned vX ∧ Q3 Z x ca h0 n0 vX wX.heap lX ∧ FrameEnd uX oX wX lX ({ frames := 3, cells := 1, slots := 1, locals := 38 } : Room).cells ({ frames := 3, cells := 1, slots := 1, locals := 38 } : Room).slots) := by
  refine MetFree.of_bodySF (plainFor_of_name pn_1) hisR ?_
  intro p e s m args below meth c s₁ Bd hml0 hP hK
  obtain ⟨rfl, hZ, hh⟩ := hP
  have hx := Bd.exec
  have hby := Bd.bytes
  have hml : c.maxLocals = 1 := hml0
  have hown : s.vm.findClass "java/lang/Integer" = some m.cls := findClass_of_methodNamed Bd.named
  have hnm := (name_of_methodNamed Bd.named Bd.method).1
  have X0 : Stand p l e ({ frames := 3, cells := 1, slots := 1, locals := 38 } : Room) s m #[(.int x)] below meth c s₁ [] 0 0 := Stand.of_body Bd
  have e0 : s₁.heap = h0 := by rw [← hh, Bd.state]; rfl
  have N0 := Fr.nil n0
  have pre0 : ∀ t, Steps p.tables e below (s₁.setTop (mkF m 0 #[.val (.int x)] [])) t → Steps p.tables e below (s₁.setTop (entryFrame m #[(.int x)] 1)) t := fun t k => castTop (ef_3 m x) k
  have P1 : ∀ t, Steps p.tables e below (s₁.setTop (mkF m 3 #[.val (.int x)] [(.int (-128 : Int32)), (.int x)])) t → Steps p.tables e below (s₁.setTop (entryFrame m #[(.int x)] 1)) t := by
    intro t kk
    refine pre0 _ ?_
    show Steps p.tables e below (s₁.setTop (mkF m 0 #[.val (.int x)] [])) _
    refine XS.iloadN X0.here hx rfl (hb hby d3_0) rfl ?_
    show Steps p.tables e below (s₁.setTop (mkF m 1 #[.val (.int x)] [(.int x)])) _
    refine XT.bipushV X0.here hx rfl (-128 : Int32) (hb hby d3_1) (by decide) ?_
    show Steps p.tables e below (s₁.setTop (mkF m 3 #[.val (.int x)] [(.int (-128 : Int32)), (.int x)])) _
    exact kk
  by_cases c2 : x < (-128 : Int32)
  · skip
    obtain ⟨T3, h3, X3, e3, E3, A3, D3, -, st3⟩ := newO X0 hx hZ hown (hw _ (List.mem_of_getElem? (i := 73) rfl)) (hw _ (List.mem_of_getElem? (i := 74) rfl)) (hw _ (List.mem_of_getElem? (i := 53) rfl)) e0 (g := (mkF m 23 #[.val (.int x)] [])) rfl (hb hby d3_23) (by decide) (by decide)
    obtain ⟨b3, g_b3⟩ : ∃ z, z = h0.size := ⟨_, rfl⟩
    rw [← g_b3] at A3 D3 st3
    have ge_b3 : n0 ≤ b3 := Nat.le_trans Z0 (Nat.le_of_eq g_b3.symm)
    have sz_b3 : h0.size ≤ b3 := Nat.le_trans (Keep.refl h0 []).1 (Nat.le_of_eq g_b3.symm)
    have F3_82 : Fld Z h3 b3 "java/lang/Integer" "value" "I" (.int (0 : Int32)) := D3 (Or.inr (hw _ (List.mem_of_getElem? (i := 82) rfl))) (ty := .int) (by decide)
    have z5 : n0 ≤ _ := (Nat.le_trans Z0 E3.1)
    obtain ⟨_, _, ⟨T4, L4, k4, n4⟩, -, X4, ⟨Lc4, hQ4, l4, y4, z4⟩, st4⟩ := X3.specialBack hx (y := (⟨"java/lang/Integer", "<init>", "(I)V"⟩ : MethodName)) rfl hown (mvT hZ (hw _ (List.mem_of_getElem? (i := 75) rfl))) (mvT hZ (hw _ (List.mem_of_getElem? (i := 76) rfl))) (mvT hZ (hw _ (List.mem_of_getElem? (i := 78) rfl))) (by decide) (backOf (W := 1) (rm2 l Z a0 hw [] b3 x (0 : Int32) h3 n0 z5 A3 F3_82 ge_b3) hZ (hw _ (List.mem_of_getElem? (i := 78) rfl)) (hw _ (List.mem_of_getElem? (i := 53) rfl)) (by decide) (by decide)) (g := (mkF m 28 #[.val (.int x)] [(.int x), (.ref b3), (.ref b3)])) rfl (by rw [hml]; rfl) (Steps.refl _) (a := b3) (argsL := [(.int x)]) (rest := [(.ref b3)]) (lenOf pd_1 rfl) rfl (by show 2 * 0 + _ ≤ _; exact Nat.le_of_eq rfl) (hb hby d3_28) (fun _ _ => ⟨rfl, e3, (by decide : 1 + 0 ≤ _), (by decide : 1 + 0 ≤ _)⟩)
    dsimp only [Pt.U, Pt.locs, Pt.cells, Pt.slots] at X4 l4 y4 z4 st4 hQ4
    subst l4 y4 z4
    obtain ⟨rfl, Nq4, K4, q4_0⟩ := hQ4
    have N4 := Fr.app N0 Nq4
    have P6 : ∀ t, Steps p.tables e below (T4.setTop (mkF m 31 #[.val (.int x)] [(.ref b3)])) t → Steps p.tables e below (s₁.setTop (entryFrame m #[(.int x)] 1)) t := by
      intro t kk
      refine P1 _ ?_
      show Steps p.tables e below (s₁.setTop (mkF m 3 #[.val (.int x)] [(.int (-128 : Int32)), (.int x)])) _
      refine XS.icmpYes X0.here hx rfl (pc0 := 3) (pc' := 23) rfl (hb hby d3_3) rfl (XT.ii_lt_t c2) (by decide) (by decide) ?_
      show Steps p.tables e below (s₁.setTop (mkF m 23 #[.val (.int x)] [])) _
      refine st3 _ ?_
      show Steps p.tables e below (T3.setTop (mkF m 26 #[.val (.int x)] [(.ref b3)])) _
      refine XS.dup X3.here hx rfl (hb hby d3_26) rfl rfl ?_
      show Steps p.tables e below (T3.setTop (mkF m 27 #[.val (.int x)] [(.ref b3), (.ref b3)])) _
      refine XS.iloadN X3.here hx rfl (hb hby d3_27) rfl ?_
      show Steps p.tables e below (T3.setTop (mkF m 28 #[.val (.int x)] [(.int x), (.ref b3), (.ref b3)])) _
      refine st4.trans ?_
      show Steps p.tables e below (T4.setTop (mkF m 31 #[.val (.int x)] [(.ref b3)])) _
      exact kk
    have k7 : Keep h0 T4.heap [] := (Keep.trans (Keep.ext (Keep.refl h0 []) E3) K4 (allS (Or.inr sz_b3) all0))
    obtain ⟨fs, hr, hrun, hended, hW, hsame⟩ := X4.leave (v := some (.ref b3)) (fun h => by rw [Bd.returns] at h; cases h)
    refine ⟨_, _, P6 _ ?_, hrun, hended, _, _, rfl, ?_, ⟨_, rfl⟩, hW, hsame.mono (by decide) (by decide)⟩
    · exact X4.areturnOut hx rfl Bd.returns rfl (hb hby d3_31) hr
    · show Q3 Z x ca h0 n0 _ T4.heap _
      exact ⟨(.ref b3), rfl, N4, k7, rfl⟩
  · skip
    obtain ⟨T8, X8, e8, st8⟩ := getS2 X0 hx hZ hown (host := "") (Or.inl (hw _ (List.mem_of_getElem? (i := 55) rfl))) Via.refl e0 pr0 (g := (mkF m 7 #[.val (.int x)] [(.int x)])) rfl (hb hby d3_7)
    have P9 : ∀ t, Steps p.tables e below (T8.setTop (mkF m 10 #[.val (.int x)] [(.int (127 : Int32)), (.int x)])) t → Steps p.tables e below (s₁.setTop (entryFrame m #[(.int x)] 1)) t := by
      intro t kk
      refine P1 _ ?_
      show Steps p.tables e below (s₁.setTop (mkF m 3 #[.val (.int x)] [(.int (-128 : Int32)), (.int x)])) _
      refine XS.icmpNo X0.here hx rfl (hb hby d3_3) rfl (XT.ii_lt_f c2) ?_
      show Steps p.tables e below (s₁.setTop (mkF m 6 #[.val (.int x)] [])) _
      refine XS.iloadN X0.here hx rfl (hb hby d3_6) rfl ?_
      show Steps p.tables e below (s₁.setTop (mkF m 7 #[.val (.int x)] [(.int x)])) _
      refine st8 _ ?_
      show Steps p.tables e below (T8.setTop (mkF m 10 #[.val (.int x)] [(.int (127 : Int32)), (.int x)])) _
      exact kk
    by_cases c10 : (127 : Int32) < x
    · skip
      obtain ⟨T11, h11, X11, e11, E11, A11, D11, -, st11⟩ := newO X8 hx hZ hown (hw _ (List.mem_of_getElem? (i := 73) rfl)) (hw _ (List.mem_of_getElem? (i := 74) rfl)) (hw _ (List.mem_of_getElem? (i := 53) rfl)) e8 (g := (mkF m 23 #[.val (.int x)] [])) rfl (hb hby d3_23) (by decide) (by decide)
      obtain ⟨b11, g_b11⟩ : ∃ z, z = h0.size := ⟨_, rfl⟩
      rw [← g_b11] at A11 D11 st11
      have ge_b11 : n0 ≤ b11 := Nat.le_trans Z0 (Nat.le_of_eq g_b11.symm)
      have sz_b11 : h0.size ≤ b11 := Nat.le_trans (Keep.refl h0 []).1 (Nat.le_of_eq g_b11.symm)
      have F11_82 : Fld Z h11 b11 "java/lang/Integer" "value" "I" (.int (0 : Int32)) := D11 (Or.inr (hw _ (List.mem_of_getElem? (i := 82) rfl))) (ty := .int) (by decide)
      have z13 : n0 ≤ _ := (Nat.le_trans Z0 E11.1)
      obtain ⟨_, _, ⟨T12, L12, k12, n12⟩, -, X12, ⟨Lc12, hQ12, l12, y12, z12⟩, st12⟩ := X11.specialBack hx (y := (⟨"java/lang/Integer", "<init>", "(I)V"⟩ : MethodName)) rfl hown (mvT hZ (hw _ (List.mem_of_getElem? (i := 75) rfl))) (mvT hZ (hw _ (List.mem_of_getElem? (i := 76) rfl))) (mvT hZ (hw _ (List.mem_of_getElem? (i := 78) rfl))) (by decide) (backOf (W := 1) (rm2 l Z a0 hw [] b11 x (0 : Int32) h11 n0 z13 A11 F11_82 ge_b11) hZ (hw _ (List.mem_of_getElem? (i := 78) rfl)) (hw _ (List.mem_of_getElem? (i := 53) rfl)) (by decide) (by decide)) (g := (mkF m 28 #[.val (.int x)] [(.int x), (.ref b11), (.ref b11)])) rfl (by rw [hml]; rfl) (Steps.refl _) (a := b11) (argsL := [(.int x)]) (rest := [(.ref b11)]) (lenOf pd_1 rfl) rfl (by show 2 * 0 + _ ≤ _; exact Nat.le_of_eq rfl) (hb hby d3_28) (fun _ _ => ⟨rfl, e11, (by decide : 1 + 0 ≤ _), (by decide : 1 + 0 ≤ _)⟩)
      dsimp only [Pt.U, Pt.locs, Pt.cells, Pt.slots] at X12 l12 y12 z12 st12 hQ12
      subst l12 y12 z12
      obtain ⟨rfl, Nq12, K12, q12_0⟩ := hQ12
      have N12 := Fr.app N0 Nq12
      have P14 : ∀ t, Steps p.tables e below (T12.setTop (mkF m 31 #[.val (.int x)] [(.ref b11)])) t → Steps p.tables e below (s₁.setTop (entryFrame m #[(.int x)] 1)) t := by
        intro t kk
        refine P9 _ ?_
        show Steps p.tables e below (T8.setTop (mkF m 10 #[.val (.int x)] [(.int (127 : Int32)), (.int x)])) _
        refine XS.icmpYes X8.here hx rfl (pc0 := 10) (pc' := 23) rfl (hb hby d3_10) rfl (XT.ii_gt_t c10) (by decide) (by decide) ?_
        show Steps p.tables e below (T8.setTop (mkF m 23 #[.val (.int x)] [])) _
        refine st11 _ ?_
        show Steps p.tables e below (T11.setTop (mkF m 26 #[.val (.int x)] [(.ref b11)])) _
        refine XS.dup X11.here hx rfl (hb hby d3_26) rfl rfl ?_
        show Steps p.tables e below (T11.setTop (mkF m 27 #[.val (.int x)] [(.ref b11), (.ref b11)])) _
        refine XS.iloadN X11.here hx rfl (hb hby d3_27) rfl ?_
        show Steps p.tables e below (T11.setTop (mkF m 28 #[.val (.int x)] [(.int x), (.ref b11), (.ref b11)])) _
        refine st12.trans ?_
        show Steps p.tables e below (T12.setTop (mkF m 31 #[.val (.int x)] [(.ref b11)])) _
        exact kk
      have k15 : Keep h0 T12.heap [] := (Keep.trans (Keep.ext (Keep.refl h0 []) E11) K12 (allS (Or.inr sz_b11) all0))
      obtain ⟨fs, hr, hrun, hended, hW, hsame⟩ := X12.leave (v := some (.ref b11)) (fun h => by rw [Bd.returns] at h; cases h)
      refine ⟨_, _, P14 _ ?_, hrun, hended, _, _, rfl, ?_, ⟨_, rfl⟩, hW, hsame.mono (by decide) (by decide)⟩
      · exact X12.areturnOut hx rfl Bd.returns rfl (hb hby d3_31) hr
      · show Q3 Z x ca h0 n0 _ T12.heap _
        exact ⟨(.ref b11), rfl, N12, k15, rfl⟩
    · skip
      obtain ⟨T16, X16, e16, st16⟩ := getS2 X8 hx hZ hown (host := "") (Or.inl (hw _ (List.mem_of_getElem? (i := 57) rfl))) Via.refl e8 pr1 (g := (mkF m 13 #[.val (.int x)] [])) rfl (hb hby d3_13)
      obtain ⟨cl17, Ar17, S17, H17⟩ := pr2
      obtain ⟨v17, hv17, rv17⟩ := H17 _ (own_ix x c2 c10).2
      have P18 : ∀ t, Steps p.tables e below (T16.setTop (mkF m 22 #[.val (.int x)] [v17])) t → Steps p.tables e below (s₁.setTop (entryFrame m #[(.int x)] 1)) t := by
        intro t kk
        refine P9 _ ?_
        show Steps p.tables e below (T8.setTop (mkF m 10 #[.val (.int x)] [(.int (127 : Int32)), (.int x)])) _
        refine XS.icmpNo X8.here hx rfl (hb hby d3_10) rfl (XT.ii_gt_f c10) ?_
        show Steps p.tables e below (T8.setTop (mkF m 13 #[.val (.int x)] [])) _
        refine st16 _ ?_
        show Steps p.tables e below (T16.setTop (mkF m 16 #[.val (.int x)] [(.ref ca)])) _
        refine XS.iloadN X16.here hx rfl (hb hby d3_16) rfl ?_
        show Steps p.tables e below (T16.setTop (mkF m 17 #[.val (.int x)] [(.int x), (.ref ca)])) _
        refine XS.sipush X16.here hx rfl (hb hby d3_17) ?_
        show Steps p.tables e below (T16.setTop (mkF m 20 #[.val (.int x)] [(.int (128 : Int32)), (.int x), (.ref ca)])) _
        refine XS.iadd X16.here hx rfl (hb hby d3_20) rfl ?_
        show Steps p.tables e below (T16.setTop (mkF m 21 #[.val (.int x)] [(.int (x + (128 : Int32))), (.ref ca)])) _
        refine X16.aaload hx (j := (x + (128 : Int32))) (v := v17) (by rw [e16]; exact Ar17.1) (State.isArrayOf_alike hZ.alike Ar17.2.1) rfl Ar17.2.2 (fun q => q.elim (own_ix x c2 c10).1 (fun r => absurd (own_ix x c2 c10).2 (by rw [S17] at r; omega))) hv17 (g := (mkF m 21 #[.val (.int x)] [(.int (x + (128 : Int32))), (.ref ca)])) rfl rfl (hb hby d3_21) _ ?_
        show Steps p.tables e below (T16.setTop (mkF m 22 #[.val (.int x)] [v17])) _
        exact kk
      obtain ⟨fs, hr, hrun, hended, hW, hsame⟩ := X16.leave (v := some v17) (fun h => by rw [Bd.returns] at h; cases h)
      refine ⟨_, _, P18 _ ?_, hrun, hended, _, _, rfl, ?_, ⟨_, rfl⟩, hW, hsame.mono (by decide) (by decide)⟩
      · exact X16.areturnOut hx rv17 Bd.returns rfl (hb hby d3_22) hr
      · show Q3 Z x ca h0 n0 _ T16.heap _
        rw [e16]
        exact ⟨v17, rfl, N0, (Keep.refl h0 []), rv17⟩
theorem d4_0 : decode jdk_35_method_26_code 0 = .ok (.aload_n 0, 1) := by decide +kernel
theorem d4_1 : decode jdk_35_method_26_code 1 = .ok (.invokespecial 270, 3) := by decide +kernel
theorem d4_4 : decode jdk_35_method_26_code 4 = .ok (.aload_n 0, 1) := by decide +kernel
theorem d4_5 : decode jdk_35_method_26_code 5 = .ok (.lload_n 1, 1) := by decide +kernel
theorem d4_6 : decode jdk_35_method_26_code 6 = .ok (.putfield 273, 3) := by decide +kernel
theorem d4_9 : decode jdk_35_method_26_code 9 = .ok (.return_, 1) := by decide +kernel
theorem ef_4 (m : MethodId) (x0 : Addr) (x1 : Int64) : entryFrame m #[(.ref x0), (.long x1)] 3 = (mkF m 0 #[.val (.ref x0), .val (.long x1), .second] []) := by first | (simp [entryFrame, mkF, argsToLocals, Value.category]; done) | rfl
def Q4 (Z : State) (a : Addr) (x : Int64) (u : Int64) (h0 : Heap) (n0 : Nat) (vX : Option Value) (hX : Heap) (lX : List Loc) : Prop := vX = none ∧ Fr n0 lX ∧ (Keep h0 hX [a]) ∧ (Fld Z hX a "java/lang/Long" "value" "J" (.long x))
set_option maxRecDepth 65536 in
set_option maxHeartbeats 40000000 in
theorem rm4 (l : Launch) (Z : State) (a0 : Array Value) (hw : ∀ d ∈ tables_1, d.before a0 Z = true) (ws : List Jvm.Cond) (a : Addr) (x : Int64) (u : Int64) (h0 : Heap) (n0 : Nat) (Z0 : n0 ≤ h0.size) (pr0 : Exa Z h0 a "java/lang/Long") (pr1 : Fld Z h0 a "java/lang/Long" "value" "J" (.long u)) (pr2 : n0 ≤ a) :
    MetFree l (⟨"java/lang/Long", "<init>", "(J)V"⟩ : MethodName) (head1 (Jvm.Cond.code (⟨"java/lang/Long", "<init>", "(J)V"⟩ : MethodName) jdk_35_method_26_code 3 none :: ws) ({ frames := 2, cells := 0, slots := 0, locals := 24 } : Room)) (fun aX uX => aX = #[(.ref a), (.long x)] ∧ Z.Warmed39 uX.vm ∧ uX.heap = h0) (fun _ _ _ _ _ => True) (fun _ uX oX wX => ∃ vX lX, oX = .returned vX ∧ Q4 Z a x u h0 n0 vX wX.heap lX ∧ FrameEnd uX oX wX lX ({ frames := 2, cells := 0, slots := 0, locals := 24 } : Room).cells ({ frames := 2, cells := 0, slots := 0, locals := 24 } : Room).slots) := by
  refine MetFree.of_bodySF (plainFor_of_name pn_2) hisR ?_
  intro p e s m args below meth c s₁ Bd hml0 hP hK
  obtain ⟨rfl, hZ, hh⟩ := hP
  have hx := Bd.exec
  have hby := Bd.bytes
  have hml : c.maxLocals = 3 := hml0
  have hown : s.vm.findClass "java/lang/Long" = some m.cls := findClass_of_methodNamed Bd.named
  have hnm := (name_of_methodNamed Bd.named Bd.method).1
  have X0 : Stand p l e ({ frames := 2, cells := 0, slots := 0, locals := 24 } : Room) s m #[(.ref a), (.long x)] below meth c s₁ [] 0 0 := Stand.of_body Bd
  have e0 : s₁.heap = h0 := by rw [← hh, Bd.state]; rfl
  have N0 := Fr.nil n0
  have pre0 : ∀ t, Steps p.tables e below (s₁.setTop (mkF m 0 #[.val (.ref a), .val (.long x), .second] [])) t → Steps p.tables e below (s₁.setTop (entryFrame m #[(.ref a), (.long x)] 3)) t := fun t k => castTop (ef_4 m a x) k
  obtain ⟨_, _, ⟨T1, L1, k1, n1⟩, -, X1, ⟨Lc1, hQ1, l1, y1, z1⟩, st1⟩ := X0.specialBack hx (y := (⟨"java/lang/Number", "<init>", "()V"⟩ : MethodName)) rfl hown (mvT hZ (hw _ (List.mem_of_getElem? (i := 64) rfl))) (mvT hZ (hw _ (List.mem_of_getElem? (i := 65) rfl))) (mvT hZ (hw _ (List.mem_of_getElem? (i := 69) rfl))) (by decide) (backOf (W := 0) (rm1 l Z a0 hw [] a h0 n0 Z0 ) hZ (hw _ (List.mem_of_getElem? (i := 69) rfl)) (hw _ (List.mem_of_getElem? (i := 68) rfl)) (by decide) (by decide)) (g := (mkF m 1 #[.val (.ref a), .val (.long x), .second] [(.ref a)])) rfl (by rw [hml]; rfl) (Steps.refl _) (a := a) (argsL := []) (rest := []) (lenOf pd_0 rfl) rfl (by show 2 * 0 + _ ≤ _; exact Nat.le_of_eq rfl) (hb hby d4_1) (fun _ _ => ⟨rfl, e0, (by decide : 0 + 0 ≤ _), (by decide : 0 + 0 ≤ _)⟩)
  dsimp only [Pt.U, Pt.locs, Pt.cells, Pt.slots] at X1 l1 y1 z1 st1 hQ1
  subst l1 y1 z1
  obtain ⟨rfl, Nq1, e1⟩ := hQ1
  have N1 := Fr.app N0 Nq1
  obtain ⟨T2, h2, X2, e2, W2, st2⟩ := putF X1 hx hZ hown (host := "") (Or.inl (hw _ (List.mem_of_getElem? (i := 71) rfl))) Via.refl e1 pr1 pr0 (Or.inr ⟨(hw _ (List.mem_of_getElem? (i := 72) rfl)), rfl, hnm⟩) (hw _ (List.mem_of_getElem? (i := 59) rfl)) (ty := .long) (by decide) rfl rfl (g := (mkF m 6 #[.val (.ref a), .val (.long x), .second] [(.long x), (.ref a)])) rfl rfl (hb hby d4_6)
  have N2 := Fr.snoc X2 N1 pr2
  have Fw2 := Fld.same W2 pr1
  have P3 : ∀ t, Steps p.tables e below (T2.setTop (mkF m 9 #[.val (.ref a), .val (.long x), .second] [])) t → Steps p.tables e below (s₁.setTop (entryFrame m #[(.ref a), (.long x)] 3)) t := by
    intro t kk
    refine pre0 _ ?_
    show Steps p.tables e below (s₁.setTop (mkF m 0 #[.val (.ref a), .val (.long x), .second] [])) _
    refine XS.aloadN X0.here hx rfl (hb hby d4_0) rfl rfl ?_
    show Steps p.tables e below (s₁.setTop (mkF m 1 #[.val (.ref a), .val (.long x), .second] [(.ref a)])) _
    refine st1.trans ?_
    show Steps p.tables e below (T1.setTop (mkF m 4 #[.val (.ref a), .val (.long x), .second] [])) _
    refine XS.aloadN X1.here hx rfl (hb hby d4_4) rfl rfl ?_
    show Steps p.tables e below (T1.setTop (mkF m 5 #[.val (.ref a), .val (.long x), .second] [(.ref a)])) _
    refine XS.lloadN X1.here hx rfl (hb hby d4_5) rfl ?_
    show Steps p.tables e below (T1.setTop (mkF m 6 #[.val (.ref a), .val (.long x), .second] [(.long x), (.ref a)])) _
    refine st2 _ ?_
    show Steps p.tables e below (T2.setTop (mkF m 9 #[.val (.ref a), .val (.long x), .second] [])) _
    exact kk
  have k4 : Keep h0 h2 [a] := (Keep.wr (Keep.refl h0 [a]) W2 (Or.inl (List.mem_of_getElem? (i := 0) rfl)))
  obtain ⟨fs, hr, hrun, hended, hW, hsame⟩ := X2.leave (v := none) (fun _ => rfl)
  refine ⟨_, _, P3 _ ?_, hrun, hended, _, _, rfl, ?_, ⟨_, rfl⟩, hW, hsame.mono (by decide) (by decide)⟩
  · exact X2.returnOut hx Bd.returns (hb hby d4_9) hr
  · show Q4 Z a x u h0 n0 _ T2.heap _
    rw [e2]
    exact ⟨rfl, N2, k4, Fw2⟩
theorem d5_0 : decode jdk_35_method_24_code 0 = .ok (.sipush 128, 3) := by decide +kernel
theorem d5_3 : decode jdk_35_method_24_code 3 = .ok (.istore_n 2, 1) := by decide +kernel
theorem d5_4 : decode jdk_35_method_24_code 4 = .ok (.lload_n 0, 1) := by decide +kernel
theorem d5_5 : decode jdk_35_method_24_code 5 = .ok (.ldc2_w 230, 3) := by decide +kernel
theorem d5_8 : decode jdk_35_method_24_code 8 = .ok (.lcmp, 1) := by decide +kernel
theorem d5_9 : decode jdk_35_method_24_code 9 = .ok (.ifCond .lt 22, 3) := by decide +kernel
theorem d5_12 : decode jdk_35_method_24_code 12 = .ok (.lload_n 0, 1) := by decide +kernel
theorem d5_13 : decode jdk_35_method_24_code 13 = .ok (.ldc2_w 232, 3) := by decide +kernel
theorem d5_16 : decode jdk_35_method_24_code 16 = .ok (.lcmp, 1) := by decide +kernel
theorem d5_17 : decode jdk_35_method_24_code 17 = .ok (.ifCond .gt 14, 3) := by decide +kernel
theorem d5_20 : decode jdk_35_method_24_code 20 = .ok (.getstatic 234, 3) := by decide +kernel
theorem d5_23 : decode jdk_35_method_24_code 23 = .ok (.lload_n 0, 1) := by decide +kernel
theorem d5_24 : decode jdk_35_method_24_code 24 = .ok (.l2i, 1) := by decide +kernel
theorem d5_25 : decode jdk_35_method_24_code 25 = .ok (.sipush 128, 3) := by decide +kernel
theorem d5_28 : decode jdk_35_method_24_code 28 = .ok (.iadd, 1) := by decide +kernel
theorem d5_29 : decode jdk_35_method_24_code 29 = .ok (.aaload, 1) := by decide +kernel
theorem d5_30 : decode jdk_35_method_24_code 30 = .ok (.areturn, 1) := by decide +kernel
theorem d5_31 : decode jdk_35_method_24_code 31 = .ok (.new 1, 3) := by decide +kernel
theorem d5_34 : decode jdk_35_method_24_code 34 = .ok (.dup, 1) := by decide +kernel
theorem d5_35 : decode jdk_35_method_24_code 35 = .ok (.lload_n 0, 1) := by decide +kernel
theorem d5_36 : decode jdk_35_method_24_code 36 = .ok (.invokespecial 240, 3) := by decide +kernel
theorem d5_39 : decode jdk_35_method_24_code 39 = .ok (.areturn, 1) := by decide +kernel
theorem ef_5 (m : MethodId) (x0 : Int64) : entryFrame m #[(.long x0)] 3 = (mkF m 0 #[.val (.long x0), .second, .unset] []) := by first | (simp [entryFrame, mkF, argsToLocals, Value.category]; done) | rfl
def Q5 (Z : State) (x : Int64) (ca : Addr) (h0 : Heap) (n0 : Nat) (vX : Option Value) (hX : Heap) (lX : List Loc) : Prop := ∃ (r : Value), vX = some r ∧ Fr n0 lX ∧ (Keep h0 hX []) ∧ (r.isRef = true)
set_option maxRecDepth 65536 in
set_option maxHeartbeats 40000000 in
theorem rm5 (l : Launch) (Z : State) (a0 : Array Value) (hw : ∀ d ∈ tables_1, d.before a0 Z = true) (ws : List Jvm.Cond) (x : Int64) (ca : Addr) (h0 : Heap) (n0 : Nat) (Z0 : n0 ≤ h0.size) (pr0 : Sta Z h0 "java/lang/Long$LongCache" "cache" "[Ljava/lang/Long;" (.ref ca)) (pr1 : Cac Z h0 ca "java/lang/Long") :
    MetFree l (⟨"java/lang/Long", "valueOf", "(J)Ljava/lang/Long;"⟩ : MethodName) (head1 (Jvm.Cond.code (⟨"java/lang/Long", "valueOf", "(J)Ljava/lang/Long;"⟩ : MethodName) jdk_35_method_24_code 3 (some (.object "java/lang/Long")) :: ws) ({ frames := 3, cells := 1, slots := 1, locals := 39 } : Room)) (fun aX uX => aX = #[(.long x)] ∧ Z.Warmed39 uX.vm ∧ uX.heap = h0) (fun _ _ _ _ _ => True) (fun _ uX oX wX => ∃ vX lX, oX = .returned vX ∧ Q5 Z x ca h0 n0 vX wX.heap lX ∧ FrameEnd uX oX wX lX ({ frames := 3, cells := 1, slots := 1, locals := 39 } : Room).cells ({ frames := 3, cells := 1, slots := 1, locals := 39 } : Room).slots) := by
  refine MetFree.of_bodySF (plainFor_of_name pn_2) hisR ?_
  intro p e s m args below meth c s₁ Bd hml0 hP hK
  obtain ⟨rfl, hZ, hh⟩ := hP
  have hx := Bd.exec
  have hby := Bd.bytes
  have hml : c.maxLocals = 3 := hml0
  have hown : s.vm.findClass "java/lang/Long" = some m.cls := findClass_of_methodNamed Bd.named
  have hnm := (name_of_methodNamed Bd.named Bd.method).1
  have X0 : Stand p l e ({ frames := 3, cells := 1, slots := 1, locals := 39 } : Room) s m #[(.long x)] below meth c s₁ [] 0 0 := Stand.of_body Bd
  have e0 : s₁.heap = h0 := by rw [← hh, Bd.state]; rfl
  have N0 := Fr.nil n0
  have pre0 : ∀ t, Steps p.tables e below (s₁.setTop (mkF m 0 #[.val (.long x), .second, .unset] [])) t → Steps p.tables e below (s₁.setTop (entryFrame m #[(.long x)] 3)) t := fun t k => castTop (ef_5 m x) k
  have P1 : ∀ t, Steps p.tables e below (s₁.setTop (mkF m 9 #[.val (.long x), .second, .val (.int (128 : Int32))] [(.int (XT.cmpL x (-128 : Int64)))])) t → Steps p.tables e below (s₁.setTop (entryFrame m #[(.long x)] 3)) t := by
    intro t kk
    refine pre0 _ ?_
    show Steps p.tables e below (s₁.setTop (mkF m 0 #[.val (.long x), .second, .unset] [])) _
    refine XS.sipush X0.here hx rfl (hb hby d5_0) ?_
    show Steps p.tables e below (s₁.setTop (mkF m 3 #[.val (.long x), .second, .unset] [(.int (128 : Int32))])) _
    refine XS.istoreN X0.here hx rfl (hb hby d5_3) rfl (l' := #[.val (.long x), .second, .val (.int (128 : Int32))]) rfl ?_
    show Steps p.tables e below (s₁.setTop (mkF m 4 #[.val (.long x), .second, .val (.int (128 : Int32))] [])) _
    refine XS.lloadN X0.here hx rfl (hb hby d5_4) rfl ?_
    show Steps p.tables e below (s₁.setTop (mkF m 5 #[.val (.long x), .second, .val (.int (128 : Int32))] [(.long x)])) _
    refine X0.ldc2Long hx hown (mvT hZ (hw _ (List.mem_of_getElem? (i := 5) rfl))) (g := (mkF m 5 #[.val (.long x), .second, .val (.int (128 : Int32))] [(.long x)])) rfl (hb hby d5_5) _ ?_
    show Steps p.tables e below (s₁.setTop (mkF m 8 #[.val (.long x), .second, .val (.int (128 : Int32))] [(.long (-128 : Int64)), (.long x)])) _
    refine XT.lcmp X0.here hx rfl (hb hby d5_8) rfl ?_
    show Steps p.tables e below (s₁.setTop (mkF m 9 #[.val (.long x), .second, .val (.int (128 : Int32))] [(.int (XT.cmpL x (-128 : Int64)))])) _
    exact kk
  by_cases c2 : x < (-128 : Int64)
  · skip
    obtain ⟨T3, h3, X3, e3, E3, A3, D3, -, st3⟩ := newO X0 hx hZ hown (hw _ (List.mem_of_getElem? (i := 58) rfl)) (hw _ (List.mem_of_getElem? (i := 59) rfl)) (hw _ (List.mem_of_getElem? (i := 3) rfl)) e0 (g := (mkF m 31 #[.val (.long x), .second, .val (.int (128 : Int32))] [])) rfl (hb hby d5_31) (by decide) (by decide)
    obtain ⟨b3, g_b3⟩ : ∃ z, z = h0.size := ⟨_, rfl⟩
    rw [← g_b3] at A3 D3 st3
    have ge_b3 : n0 ≤ b3 := Nat.le_trans Z0 (Nat.le_of_eq g_b3.symm)
    have sz_b3 : h0.size ≤ b3 := Nat.le_trans (Keep.refl h0 []).1 (Nat.le_of_eq g_b3.symm)
    have F3_72 : Fld Z h3 b3 "java/lang/Long" "value" "J" (.long (0 : Int64)) := D3 (Or.inr (hw _ (List.mem_of_getElem? (i := 72) rfl))) (ty := .long) (by decide)
    have z5 : n0 ≤ _ := (Nat.le_trans Z0 E3.1)
    obtain ⟨_, _, ⟨T4, L4, k4, n4⟩, -, X4, ⟨Lc4, hQ4, l4, y4, z4⟩, st4⟩ := X3.specialBack hx (y := (⟨"java/lang/Long", "<init>", "(J)V"⟩ : MethodName)) rfl hown (mvT hZ (hw _ (List.mem_of_getElem? (i := 60) rfl))) (mvT hZ (hw _ (List.mem_of_getElem? (i := 61) rfl))) (mvT hZ (hw _ (List.mem_of_getElem? (i := 63) rfl))) (by decide) (backOf (W := 1) (rm4 l Z a0 hw [] b3 x (0 : Int64) h3 n0 z5 A3 F3_72 ge_b3) hZ (hw _ (List.mem_of_getElem? (i := 63) rfl)) (hw _ (List.mem_of_getElem? (i := 3) rfl)) (by decide) (by decide)) (g := (mkF m 36 #[.val (.long x), .second, .val (.int (128 : Int32))] [(.long x), (.ref b3), (.ref b3)])) rfl (by rw [hml]; rfl) (Steps.refl _) (a := b3) (argsL := [(.long x)]) (rest := [(.ref b3)]) (lenOf pd_2 rfl) rfl (by show 2 * 0 + _ ≤ _; exact Nat.le_of_eq rfl) (hb hby d5_36) (fun _ _ => ⟨rfl, e3, (by decide : 1 + 0 ≤ _), (by decide : 1 + 0 ≤ _)⟩)
    dsimp only [Pt.U, Pt.locs, Pt.cells, Pt.slots] at X4 l4 y4 z4 st4 hQ4
    subst l4 y4 z4
    obtain ⟨rfl, Nq4, K4, q4_0⟩ := hQ4
    have N4 := Fr.app N0 Nq4
    have P6 : ∀ t, Steps p.tables e below (T4.setTop (mkF m 39 #[.val (.long x), .second, .val (.int (128 : Int32))] [(.ref b3)])) t → Steps p.tables e below (s₁.setTop (entryFrame m #[(.long x)] 3)) t := by
      intro t kk
      refine P1 _ ?_
      show Steps p.tables e below (s₁.setTop (mkF m 9 #[.val (.long x), .second, .val (.int (128 : Int32))] [(.int (XT.cmpL x (-128 : Int64)))])) _
      refine XS.ifYes X0.here hx rfl (pc0 := 9) (pc' := 31) rfl (hb hby d5_9) rfl (XT.ll_lt_t c2) (by decide) (by decide) ?_
      show Steps p.tables e below (s₁.setTop (mkF m 31 #[.val (.long x), .second, .val (.int (128 : Int32))] [])) _
      refine st3 _ ?_
      show Steps p.tables e below (T3.setTop (mkF m 34 #[.val (.long x), .second, .val (.int (128 : Int32))] [(.ref b3)])) _
      refine XS.dup X3.here hx rfl (hb hby d5_34) rfl rfl ?_
      show Steps p.tables e below (T3.setTop (mkF m 35 #[.val (.long x), .second, .val (.int (128 : Int32))] [(.ref b3), (.ref b3)])) _
      refine XS.lloadN X3.here hx rfl (hb hby d5_35) rfl ?_
      show Steps p.tables e below (T3.setTop (mkF m 36 #[.val (.long x), .second, .val (.int (128 : Int32))] [(.long x), (.ref b3), (.ref b3)])) _
      refine st4.trans ?_
      show Steps p.tables e below (T4.setTop (mkF m 39 #[.val (.long x), .second, .val (.int (128 : Int32))] [(.ref b3)])) _
      exact kk
    have k7 : Keep h0 T4.heap [] := (Keep.trans (Keep.ext (Keep.refl h0 []) E3) K4 (allS (Or.inr sz_b3) all0))
    obtain ⟨fs, hr, hrun, hended, hW, hsame⟩ := X4.leave (v := some (.ref b3)) (fun h => by rw [Bd.returns] at h; cases h)
    refine ⟨_, _, P6 _ ?_, hrun, hended, _, _, rfl, ?_, ⟨_, rfl⟩, hW, hsame.mono (by decide) (by decide)⟩
    · exact X4.areturnOut hx rfl Bd.returns rfl (hb hby d5_39) hr
    · show Q5 Z x ca h0 n0 _ T4.heap _
      exact ⟨(.ref b3), rfl, N4, k7, rfl⟩
  · skip
    have P8 : ∀ t, Steps p.tables e below (s₁.setTop (mkF m 17 #[.val (.long x), .second, .val (.int (128 : Int32))] [(.int (XT.cmpL x (127 : Int64)))])) t → Steps p.tables e below (s₁.setTop (entryFrame m #[(.long x)] 3)) t := by
      intro t kk
      refine P1 _ ?_
      show Steps p.tables e below (s₁.setTop (mkF m 9 #[.val (.long x), .second, .val (.int (128 : Int32))] [(.int (XT.cmpL x (-128 : Int64)))])) _
      refine XS.ifNo X0.here hx rfl (hb hby d5_9) rfl (XT.ll_lt_f c2) ?_
      show Steps p.tables e below (s₁.setTop (mkF m 12 #[.val (.long x), .second, .val (.int (128 : Int32))] [])) _
      refine XS.lloadN X0.here hx rfl (hb hby d5_12) rfl ?_
      show Steps p.tables e below (s₁.setTop (mkF m 13 #[.val (.long x), .second, .val (.int (128 : Int32))] [(.long x)])) _
      refine X0.ldc2Long hx hown (mvT hZ (hw _ (List.mem_of_getElem? (i := 6) rfl))) (g := (mkF m 13 #[.val (.long x), .second, .val (.int (128 : Int32))] [(.long x)])) rfl (hb hby d5_13) _ ?_
      show Steps p.tables e below (s₁.setTop (mkF m 16 #[.val (.long x), .second, .val (.int (128 : Int32))] [(.long (127 : Int64)), (.long x)])) _
      refine XT.lcmp X0.here hx rfl (hb hby d5_16) rfl ?_
      show Steps p.tables e below (s₁.setTop (mkF m 17 #[.val (.long x), .second, .val (.int (128 : Int32))] [(.int (XT.cmpL x (127 : Int64)))])) _
      exact kk
    by_cases c9 : (127 : Int64) < x
    · skip
      obtain ⟨T10, h10, X10, e10, E10, A10, D10, -, st10⟩ := newO X0 hx hZ hown (hw _ (List.mem_of_getElem? (i := 58) rfl)) (hw _ (List.mem_of_getElem? (i := 59) rfl)) (hw _ (List.mem_of_getElem? (i := 3) rfl)) e0 (g := (mkF m 31 #[.val (.long x), .second, .val (.int (128 : Int32))] [])) rfl (hb hby d5_31) (by decide) (by decide)
      obtain ⟨b10, g_b10⟩ : ∃ z, z = h0.size := ⟨_, rfl⟩
      rw [← g_b10] at A10 D10 st10
      have ge_b10 : n0 ≤ b10 := Nat.le_trans Z0 (Nat.le_of_eq g_b10.symm)
      have sz_b10 : h0.size ≤ b10 := Nat.le_trans (Keep.refl h0 []).1 (Nat.le_of_eq g_b10.symm)
      have F10_72 : Fld Z h10 b10 "java/lang/Long" "value" "J" (.long (0 : Int64)) := D10 (Or.inr (hw _ (List.mem_of_getElem? (i := 72) rfl))) (ty := .long) (by decide)
      have z12 : n0 ≤ _ := (Nat.le_trans Z0 E10.1)
      obtain ⟨_, _, ⟨T11, L11, k11, n11⟩, -, X11, ⟨Lc11, hQ11, l11, y11, z11⟩, st11⟩ := X10.specialBack hx (y := (⟨"java/lang/Long", "<init>", "(J)V"⟩ : MethodName)) rfl hown (mvT hZ (hw _ (List.mem_of_getElem? (i := 60) rfl))) (mvT hZ (hw _ (List.mem_of_getElem? (i := 61) rfl))) (mvT hZ (hw _ (List.mem_of_getElem? (i := 63) rfl))) (by decide) (backOf (W := 1) (rm4 l Z a0 hw [] b10 x (0 : Int64) h10 n0 z12 A10 F10_72 ge_b10) hZ (hw _ (List.mem_of_getElem? (i := 63) rfl)) (hw _ (List.mem_of_getElem? (i := 3) rfl)) (by decide) (by decide)) (g := (mkF m 36 #[.val (.long x), .second, .val (.int (128 : Int32))] [(.long x), (.ref b10), (.ref b10)])) rfl (by rw [hml]; rfl) (Steps.refl _) (a := b10) (argsL := [(.long x)]) (rest := [(.ref b10)]) (lenOf pd_2 rfl) rfl (by show 2 * 0 + _ ≤ _; exact Nat.le_of_eq rfl) (hb hby d5_36) (fun _ _ => ⟨rfl, e10, (by decide : 1 + 0 ≤ _), (by decide : 1 + 0 ≤ _)⟩)
      dsimp only [Pt.U, Pt.locs, Pt.cells, Pt.slots] at X11 l11 y11 z11 st11 hQ11
      subst l11 y11 z11
      obtain ⟨rfl, Nq11, K11, q11_0⟩ := hQ11
      have N11 := Fr.app N0 Nq11
      have P13 : ∀ t, Steps p.tables e below (T11.setTop (mkF m 39 #[.val (.long x), .second, .val (.int (128 : Int32))] [(.ref b10)])) t → Steps p.tables e below (s₁.setTop (entryFrame m #[(.long x)] 3)) t := by
        intro t kk
        refine P8 _ ?_
        show Steps p.tables e below (s₁.setTop (mkF m 17 #[.val (.long x), .second, .val (.int (128 : Int32))] [(.int (XT.cmpL x (127 : Int64)))])) _
        refine XS.ifYes X0.here hx rfl (pc0 := 17) (pc' := 31) rfl (hb hby d5_17) rfl (XT.ll_gt_t c9) (by decide) (by decide) ?_
        show Steps p.tables e below (s₁.setTop (mkF m 31 #[.val (.long x), .second, .val (.int (128 : Int32))] [])) _
        refine st10 _ ?_
        show Steps p.tables e below (T10.setTop (mkF m 34 #[.val (.long x), .second, .val (.int (128 : Int32))] [(.ref b10)])) _
        refine XS.dup X10.here hx rfl (hb hby d5_34) rfl rfl ?_
        show Steps p.tables e below (T10.setTop (mkF m 35 #[.val (.long x), .second, .val (.int (128 : Int32))] [(.ref b10), (.ref b10)])) _
        refine XS.lloadN X10.here hx rfl (hb hby d5_35) rfl ?_
        show Steps p.tables e below (T10.setTop (mkF m 36 #[.val (.long x), .second, .val (.int (128 : Int32))] [(.long x), (.ref b10), (.ref b10)])) _
        refine st11.trans ?_
        show Steps p.tables e below (T11.setTop (mkF m 39 #[.val (.long x), .second, .val (.int (128 : Int32))] [(.ref b10)])) _
        exact kk
      have k14 : Keep h0 T11.heap [] := (Keep.trans (Keep.ext (Keep.refl h0 []) E10) K11 (allS (Or.inr sz_b10) all0))
      obtain ⟨fs, hr, hrun, hended, hW, hsame⟩ := X11.leave (v := some (.ref b10)) (fun h => by rw [Bd.returns] at h; cases h)
      refine ⟨_, _, P13 _ ?_, hrun, hended, _, _, rfl, ?_, ⟨_, rfl⟩, hW, hsame.mono (by decide) (by decide)⟩
      · exact X11.areturnOut hx rfl Bd.returns rfl (hb hby d5_39) hr
      · show Q5 Z x ca h0 n0 _ T11.heap _
        exact ⟨(.ref b10), rfl, N11, k14, rfl⟩
    · skip
      obtain ⟨T15, X15, e15, st15⟩ := getS2 X0 hx hZ hown (host := "") (Or.inl (hw _ (List.mem_of_getElem? (i := 7) rfl))) Via.refl e0 pr0 (g := (mkF m 20 #[.val (.long x), .second, .val (.int (128 : Int32))] [])) rfl (hb hby d5_20)
      obtain ⟨cl16, Ar16, S16, H16⟩ := pr1
      obtain ⟨v16, hv16, rv16⟩ := H16 _ (own_lx x c2 c9).2
      have P17 : ∀ t, Steps p.tables e below (T15.setTop (mkF m 30 #[.val (.long x), .second, .val (.int (128 : Int32))] [v16])) t → Steps p.tables e below (s₁.setTop (entryFrame m #[(.long x)] 3)) t := by
        intro t kk
        refine P8 _ ?_
        show Steps p.tables e below (s₁.setTop (mkF m 17 #[.val (.long x), .second, .val (.int (128 : Int32))] [(.int (XT.cmpL x (127 : Int64)))])) _
        refine XS.ifNo X0.here hx rfl (hb hby d5_17) rfl (XT.ll_gt_f c9) ?_
        show Steps p.tables e below (s₁.setTop (mkF m 20 #[.val (.long x), .second, .val (.int (128 : Int32))] [])) _
        refine st15 _ ?_
        show Steps p.tables e below (T15.setTop (mkF m 23 #[.val (.long x), .second, .val (.int (128 : Int32))] [(.ref ca)])) _
        refine XS.lloadN X15.here hx rfl (hb hby d5_23) rfl ?_
        show Steps p.tables e below (T15.setTop (mkF m 24 #[.val (.long x), .second, .val (.int (128 : Int32))] [(.long x), (.ref ca)])) _
        refine XS.l2i X15.here hx rfl (hb hby d5_24) rfl ?_
        show Steps p.tables e below (T15.setTop (mkF m 25 #[.val (.long x), .second, .val (.int (128 : Int32))] [(.int ((x).toInt32)), (.ref ca)])) _
        refine XS.sipush X15.here hx rfl (hb hby d5_25) ?_
        show Steps p.tables e below (T15.setTop (mkF m 28 #[.val (.long x), .second, .val (.int (128 : Int32))] [(.int (128 : Int32)), (.int ((x).toInt32)), (.ref ca)])) _
        refine XS.iadd X15.here hx rfl (hb hby d5_28) rfl ?_
        show Steps p.tables e below (T15.setTop (mkF m 29 #[.val (.long x), .second, .val (.int (128 : Int32))] [(.int (((x).toInt32) + (128 : Int32))), (.ref ca)])) _
        refine X15.aaload hx (j := (((x).toInt32) + (128 : Int32))) (v := v16) (by rw [e15]; exact Ar16.1) (State.isArrayOf_alike hZ.alike Ar16.2.1) rfl Ar16.2.2 (fun q => q.elim (own_lx x c2 c9).1 (fun r => absurd (own_lx x c2 c9).2 (by rw [S16] at r; omega))) hv16 (g := (mkF m 29 #[.val (.long x), .second, .val (.int (128 : Int32))] [(.int (((x).toInt32) + (128 : Int32))), (.ref ca)])) rfl rfl (hb hby d5_29) _ ?_
        show Steps p.tables e below (T15.setTop (mkF m 30 #[.val (.long x), .second, .val (.int (128 : Int32))] [v16])) _
        exact kk
      obtain ⟨fs, hr, hrun, hended, hW, hsame⟩ := X15.leave (v := some v16) (fun h => by rw [Bd.returns] at h; cases h)
      refine ⟨_, _, P17 _ ?_, hrun, hended, _, _, rfl, ?_, ⟨_, rfl⟩, hW, hsame.mono (by decide) (by decide)⟩
      · exact X15.areturnOut hx rv16 Bd.returns rfl (hb hby d5_30) hr
      · show Q5 Z x ca h0 n0 _ T15.heap _
        rw [e15]
        exact ⟨v16, rfl, N0, (Keep.refl h0 []), rv16⟩
theorem d6_0 : decode prog_16_method_1_code 0 = .ok (.aload_n 0, 1) := by decide +kernel
theorem d6_1 : decode prog_16_method_1_code 1 = .ok (.invokespecial 1, 3) := by decide +kernel
theorem d6_4 : decode prog_16_method_1_code 4 = .ok (.return_, 1) := by decide +kernel
theorem ef_6 (m : MethodId) (x0 : Addr) : entryFrame m #[(.ref x0)] 1 = (mkF m 0 #[.val (.ref x0)] []) := by first | (simp [entryFrame, mkF, argsToLocals, Value.category]; done) | rfl
def Q6 (Z : State) (a : Addr) (h0 : Heap) (n0 : Nat) (vX : Option Value) (hX : Heap) (lX : List Loc) : Prop := vX = none ∧ Fr n0 lX ∧ (hX = h0)
set_option maxRecDepth 65536 in
set_option maxHeartbeats 40000000 in
theorem rm6 (l : Launch) (Z : State) (a0 : Array Value) (hw : ∀ d ∈ tables_1, d.before a0 Z = true) (ws : List Jvm.Cond) (a : Addr) (h0 : Heap) (n0 : Nat) (Z0 : n0 ≤ h0.size)  :
    MetFree l (⟨"com/example/quernloop/quernloop/Message", "<init>", "()V"⟩ : MethodName) (head1 (Jvm.Cond.code (⟨"com/example/quernloop/quernloop/Message", "<init>", "()V"⟩ : MethodName) prog_16_method_1_code 1 none :: ws) ({ frames := 1, cells := 0, slots := 0, locals := 12 } : Room)) (fun aX uX => aX = #[(.ref a)] ∧ Z.Warmed39 uX.vm ∧ uX.heap = h0) (fun _ _ _ _ _ => True) (fun _ uX oX wX => ∃ vX lX, oX = .returned vX ∧ Q6 Z a h0 n0 vX wX.heap lX ∧ FrameEnd uX oX wX lX ({ frames := 1, cells := 0, slots := 0, locals := 12 } : Room).cells ({ frames := 1, cells := 0, slots := 0, locals := 12 } : Room).slots) := by
  refine MetFree.of_bodySF (plainFor_of_name pn_3) hisR ?_
  intro p e s m args below meth c s₁ Bd hml0 hP hK
  obtain ⟨rfl, hZ, hh⟩ := hP
  have hx := Bd.exec
  have hby := Bd.bytes
  have hml : c.maxLocals = 1 := hml0
  have hown : s.vm.findClass "com/example/quernloop/quernloop/Message" = some m.cls := findClass_of_methodNamed Bd.named
  have hnm := (name_of_methodNamed Bd.named Bd.method).1
  have X0 : Stand p l e ({ frames := 1, cells := 0, slots := 0, locals := 12 } : Room) s m #[(.ref a)] below meth c s₁ [] 0 0 := Stand.of_body Bd
  have e0 : s₁.heap = h0 := by rw [← hh, Bd.state]; rfl
  have N0 := Fr.nil n0
  have pre0 : ∀ t, Steps p.tables e below (s₁.setTop (mkF m 0 #[.val (.ref a)] [])) t → Steps p.tables e below (s₁.setTop (entryFrame m #[(.ref a)] 1)) t := fun t k => castTop (ef_6 m a) k
  obtain ⟨T1, X1, e1, st1⟩ := initO X0 hx hZ hown (hw _ (List.mem_of_getElem? (i := 15) rfl)) (hw _ (List.mem_of_getElem? (i := 16) rfl)) (hw _ (List.mem_of_getElem? (i := 17) rfl)) e0 (g := (mkF m 1 #[.val (.ref a)] [(.ref a)])) rfl (by rw [hml]; rfl) rfl (hb hby d6_1) (by decide) (W := 0) (by show 2 * 0 + _ ≤ _; exact Nat.le_of_eq rfl) (by decide)
  have P2 : ∀ t, Steps p.tables e below (T1.setTop (mkF m 4 #[.val (.ref a)] [])) t → Steps p.tables e below (s₁.setTop (entryFrame m #[(.ref a)] 1)) t := by
    intro t kk
    refine pre0 _ ?_
    show Steps p.tables e below (s₁.setTop (mkF m 0 #[.val (.ref a)] [])) _
    refine XS.aloadN X0.here hx rfl (hb hby d6_0) rfl rfl ?_
    show Steps p.tables e below (s₁.setTop (mkF m 1 #[.val (.ref a)] [(.ref a)])) _
    refine st1 _ ?_
    show Steps p.tables e below (T1.setTop (mkF m 4 #[.val (.ref a)] [])) _
    exact kk
  obtain ⟨fs, hr, hrun, hended, hW, hsame⟩ := X1.leave (v := none) (fun _ => rfl)
  refine ⟨_, _, P2 _ ?_, hrun, hended, _, _, rfl, ?_, ⟨_, rfl⟩, hW, hsame.mono (by decide) (by decide)⟩
  · exact X1.returnOut hx Bd.returns (hb hby d6_4) hr
  · show Q6 Z a h0 n0 _ T1.heap _
    rw [e1]
    exact ⟨rfl, N0, rfl⟩
theorem d7_0 : decode prog_24_method_1_code 0 = .ok (.aload_n 0, 1) := by decide +kernel
theorem d7_1 : decode prog_24_method_1_code 1 = .ok (.invokespecial 1, 3) := by decide +kernel
theorem d7_4 : decode prog_24_method_1_code 4 = .ok (.aload_n 0, 1) := by decide +kernel
theorem d7_5 : decode prog_24_method_1_code 5 = .ok (.iload_n 1, 1) := by decide +kernel
theorem d7_6 : decode prog_24_method_1_code 6 = .ok (.anewarray 2, 3) := by decide +kernel
theorem d7_9 : decode prog_24_method_1_code 9 = .ok (.putfield 7, 3) := by decide +kernel
theorem d7_12 : decode prog_24_method_1_code 12 = .ok (.aload_n 0, 1) := by decide +kernel
theorem d7_13 : decode prog_24_method_1_code 13 = .ok (.iload_n 1, 1) := by decide +kernel
theorem d7_14 : decode prog_24_method_1_code 14 = .ok (.anewarray 13, 3) := by decide +kernel
theorem d7_17 : decode prog_24_method_1_code 17 = .ok (.putfield 15, 3) := by decide +kernel
theorem d7_20 : decode prog_24_method_1_code 20 = .ok (.aload_n 0, 1) := by decide +kernel
theorem d7_21 : decode prog_24_method_1_code 21 = .ok (.iload_n 1, 1) := by decide +kernel
theorem d7_22 : decode prog_24_method_1_code 22 = .ok (.anewarray 2, 3) := by decide +kernel
theorem d7_25 : decode prog_24_method_1_code 25 = .ok (.putfield 19, 3) := by decide +kernel
theorem d7_28 : decode prog_24_method_1_code 28 = .ok (.return_, 1) := by decide +kernel
theorem ef_7 (m : MethodId) (x0 : Addr) (x1 : Int32) : entryFrame m #[(.ref x0), (.int x1)] 2 = (mkF m 0 #[.val (.ref x0), .val (.int x1)] []) := by first | (simp [entryFrame, mkF, argsToLocals, Value.category]; done) | rfl
def Q7 (Z : State) (a : Addr) (z : Int32) (h0 : Heap) (n0 : Nat) (vX : Option Value) (hX : Heap) (lX : List Loc) : Prop := ∃ (b1 : Addr) (b2 : Addr) (b3 : Addr) (k1 : ClassId) (k2 : ClassId) (k3 : ClassId), vX = none ∧ Fr n0 lX ∧ (Keep h0 hX [a]) ∧ (Fld Z hX a "com/example/quernloop/quernloop/WorkSlots" "work" "[Ljava/lang/Object;" (.ref b1)) ∧ (Fld Z hX a "com/example/quernloop/quernloop/WorkSlots" "handlers" "[Lcom/example/quernloop/quernloop/Handler;" (.ref b2)) ∧ (Fld Z hX a "com/example/quernloop/quernloop/WorkSlots" "tokens" "[Ljava/lang/Object;" (.ref b3)) ∧ (Rar Z hX b1 k1 (.object "java/lang/Object") z (fun _ => .null)) ∧ (Rar Z hX b2 k2 (.object "com/example/quernloop/quernloop/Handler") z (fun _ => .null)) ∧ (Rar Z hX b3 k3 (.object "java/lang/Object") z (fun _ => .null)) ∧ (Ovr Z k1 "java/lang/Object") ∧ (h0.size ≤ b1) ∧ (h0.size ≤ b2) ∧ (h0.size ≤ b3) ∧ (b1 ≠ b2) ∧ (b1 ≠ b3) ∧ (b2 ≠ b3) ∧ (a ≠ b1) ∧ (a ≠ b2) ∧ (a ≠ b3)
set_option maxRecDepth 65536 in
set_option maxHeartbeats 40000000 in
theorem rm7 (l : Launch) (Z : State) (a0 : Array Value) (hw : ∀ d ∈ tables_1, d.before a0 Z = true) (ws : List Jvm.Cond) (a : Addr) (z : Int32) (h0 : Heap) (n0 : Nat) (Z0 : n0 ≤ h0.size) (pr0 : Exa Z h0 a "com/example/quernloop/quernloop/WorkSlots") (pr1 : Fld Z h0 a "com/example/quernloop/quernloop/WorkSlots" "work" "[Ljava/lang/Object;" .null) (pr2 : Fld Z h0 a "com/example/quernloop/quernloop/WorkSlots" "handlers" "[Lcom/example/quernloop/quernloop/Handler;" .null) (pr3 : Fld Z h0 a "com/example/quernloop/quernloop/WorkSlots" "tokens" "[Ljava/lang/Object;" .null) (pr4 : n0 ≤ a) (pr5 : ¬ z < 0 ∧ z.toNatClampNeg ≤ 8) :
    MetFree l (⟨"com/example/quernloop/quernloop/WorkSlots", "<init>", "(I)V"⟩ : MethodName) (head1 (Jvm.Cond.code (⟨"com/example/quernloop/quernloop/WorkSlots", "<init>", "(I)V"⟩ : MethodName) prog_24_method_1_code 2 none :: ws) ({ frames := 1, cells := 3, slots := 24, locals := 12 } : Room)) (fun aX uX => aX = #[(.ref a), (.int z)] ∧ Z.Warmed39 uX.vm ∧ uX.heap = h0) (fun _ _ _ _ _ => True) (fun _ uX oX wX => ∃ vX lX, oX = .returned vX ∧ Q7 Z a z h0 n0 vX wX.heap lX ∧ FrameEnd uX oX wX lX ({ frames := 1, cells := 3, slots := 24, locals := 12 } : Room).cells ({ frames := 1, cells := 3, slots := 24, locals := 12 } : Room).slots) := by
  refine MetFree.of_bodySF (plainFor_of_name pn_4) hisR ?_
  intro p e s m args below meth c s₁ Bd hml0 hP hK
  obtain ⟨rfl, hZ, hh⟩ := hP
  have hx := Bd.exec
  have hby := Bd.bytes
  have hml : c.maxLocals = 2 := hml0
  have hown : s.vm.findClass "com/example/quernloop/quernloop/WorkSlots" = some m.cls := findClass_of_methodNamed Bd.named
  have hnm := (name_of_methodNamed Bd.named Bd.method).1
  have X0 : Stand p l e ({ frames := 1, cells := 3, slots := 24, locals := 12 } : Room) s m #[(.ref a), (.int z)] below meth c s₁ [] 0 0 := Stand.of_body Bd
  have e0 : s₁.heap = h0 := by rw [← hh, Bd.state]; rfl
  have N0 := Fr.nil n0
  have pre0 : ∀ t, Steps p.tables e below (s₁.setTop (mkF m 0 #[.val (.ref a), .val (.int z)] [])) t → Steps p.tables e below (s₁.setTop (entryFrame m #[(.ref a), (.int z)] 2)) t := fun t k => castTop (ef_7 m a z) k
  obtain ⟨T1, X1, e1, st1⟩ := initO X0 hx hZ hown (hw _ (List.mem_of_getElem? (i := 26) rfl)) (hw _ (List.mem_of_getElem? (i := 16) rfl)) (hw _ (List.mem_of_getElem? (i := 17) rfl)) e0 (g := (mkF m 1 #[.val (.ref a), .val (.int z)] [(.ref a)])) rfl (by rw [hml]; rfl) rfl (hb hby d7_1) (by decide) (W := 0) (by show 2 * 0 + _ ≤ _; exact Nat.le_of_eq rfl) (by decide)
  obtain ⟨T2, h2, k2, X2, e2, E2, A2, O2, st2⟩ := newR X1 hx hZ hown (hw _ (List.mem_of_getElem? (i := 27) rfl)) (hw _ (List.mem_of_getElem? (i := 28) rfl)) e1 (g := (mkF m 6 #[.val (.ref a), .val (.int z)] [(.int z), (.ref a)])) rfl (hb hby d7_6) rfl pr5.1 (cap := 8) pr5.2 (by decide) (by decide) (by decide)
  obtain ⟨b2, g_b2⟩ : ∃ z, z = h0.size := ⟨_, rfl⟩
  rw [← g_b2] at A2 st2
  have ne_a_b2 : a ≠ b2 := Nat.ne_of_lt (Nat.lt_of_lt_of_le pr0.lt (Nat.le_of_eq g_b2.symm))
  have ge_b2 : n0 ≤ b2 := Nat.le_trans Z0 (Nat.le_of_eq g_b2.symm)
  have sz_b2 : h0.size ≤ b2 := Nat.le_trans (Keep.refl h0 [a]).1 (Nat.le_of_eq g_b2.symm)
  have V2 := Rar.new A2 pr5.1
  have f3 := (Exa.ext E2 pr0)
  have f4 := (Fld.ext E2 pr1)
  obtain ⟨T5, h5, X5, e5, W5, st5⟩ := putF X2 hx hZ hown (host := "") (Or.inl (hw _ (List.mem_of_getElem? (i := 29) rfl))) Via.refl e2 f4 f3 (Or.inl (hw _ (List.mem_of_getElem? (i := 30) rfl))) (hw _ (List.mem_of_getElem? (i := 21) rfl)) (ty := (.array (.object "java/lang/Object"))) (by decide) rfl rfl (g := (mkF m 9 #[.val (.ref a), .val (.int z)] [(.ref b2), (.ref a)])) rfl rfl (hb hby d7_9)
  have N5 := Fr.snoc X5 N0 pr4
  have Fw5 := Fld.same W5 f4
  obtain ⟨T6, h6, k6, X6, e6, E6, A6, O6, st6⟩ := newR X5 hx hZ hown (hw _ (List.mem_of_getElem? (i := 31) rfl)) (hw _ (List.mem_of_getElem? (i := 32) rfl)) e5 (g := (mkF m 14 #[.val (.ref a), .val (.int z)] [(.int z), (.ref a)])) rfl (hb hby d7_14) rfl pr5.1 (cap := 8) pr5.2 (by decide) (by decide) (by decide)
  have f7 := (Exa.wr W5 f3)
  have f8 := (Rar.other V2 W5 (Ne.symm ne_a_b2))
  have z9 : n0 ≤ _ := (Nat.le_trans (Nat.le_trans Z0 E2.1) (Keep.of_wr W5).1)
  have k10 : Keep h0 h5 [a] := (Keep.wr (Keep.ext (Keep.refl h0 [a]) E2) W5 (Or.inl (List.mem_of_getElem? (i := 0) rfl)))
  obtain ⟨b6, g_b6⟩ : ∃ z, z = h5.size := ⟨_, rfl⟩
  rw [← g_b6] at A6 st6
  have ne_a_b6 : a ≠ b6 := Nat.ne_of_lt (Nat.lt_of_lt_of_le f7.lt (Nat.le_of_eq g_b6.symm))
  have ne_b2_b6 : b2 ≠ b6 := Nat.ne_of_lt (Nat.lt_of_lt_of_le f8.lt (Nat.le_of_eq g_b6.symm))
  have ge_b6 : n0 ≤ b6 := Nat.le_trans z9 (Nat.le_of_eq g_b6.symm)
  have sz_b6 : h0.size ≤ b6 := Nat.le_trans k10.1 (Nat.le_of_eq g_b6.symm)
  have V6 := Rar.new A6 pr5.1
  have f11 := (Exa.ext E6 f7)
  have f12 := (Fld.ext E6 (Fld.other W5 (Fld.ext E2 pr2) (Or.inr (slot_ne (Or.inl (hw _ (List.mem_of_getElem? (i := 34) rfl))) (Or.inl (hw _ (List.mem_of_getElem? (i := 30) rfl))) (by decide) (t := (.array (.object "com/example/quernloop/quernloop/Handler"))) (t' := (.array (.object "java/lang/Object"))) (by decide) (by decide)))))
  obtain ⟨T13, h13, X13, e13, W13, st13⟩ := putF X6 hx hZ hown (host := "") (Or.inl (hw _ (List.mem_of_getElem? (i := 33) rfl))) Via.refl e6 f12 f11 (Or.inl (hw _ (List.mem_of_getElem? (i := 34) rfl))) (hw _ (List.mem_of_getElem? (i := 21) rfl)) (ty := (.array (.object "com/example/quernloop/quernloop/Handler"))) (by decide) rfl rfl (g := (mkF m 17 #[.val (.ref a), .val (.int z)] [(.ref b6), (.ref a)])) rfl rfl (hb hby d7_17)
  have N13 := Fr.snoc X13 N5 pr4
  have Fw13 := Fld.same W13 f12
  obtain ⟨T14, h14, k14, X14, e14, E14, A14, O14, st14⟩ := newR X13 hx hZ hown (hw _ (List.mem_of_getElem? (i := 27) rfl)) (hw _ (List.mem_of_getElem? (i := 28) rfl)) e13 (g := (mkF m 22 #[.val (.ref a), .val (.int z)] [(.int z), (.ref a)])) rfl (hb hby d7_22) rfl pr5.1 (cap := 8) pr5.2 (by decide) (by decide) (by decide)
  have f15 := (Exa.wr W13 f11)
  have f16 := (Rar.other (Rar.ext f8 E6) W13 (Ne.symm ne_a_b2))
  have f17 := (Rar.other V6 W13 (Ne.symm ne_a_b6))
  have z18 : n0 ≤ _ := (Nat.le_trans (Nat.le_trans z9 E6.1) (Keep.of_wr W13).1)
  have k19 : Keep h0 h13 [a] := (Keep.wr (Keep.ext k10 E6) W13 (Or.inl (List.mem_of_getElem? (i := 0) rfl)))
  obtain ⟨b14, g_b14⟩ : ∃ z, z = h13.size := ⟨_, rfl⟩
  rw [← g_b14] at A14 st14
  have ne_a_b14 : a ≠ b14 := Nat.ne_of_lt (Nat.lt_of_lt_of_le f15.lt (Nat.le_of_eq g_b14.symm))
  have ne_b2_b14 : b2 ≠ b14 := Nat.ne_of_lt (Nat.lt_of_lt_of_le f16.lt (Nat.le_of_eq g_b14.symm))
  have ne_b6_b14 : b6 ≠ b14 := Nat.ne_of_lt (Nat.lt_of_lt_of_le f17.lt (Nat.le_of_eq g_b14.symm))
  have ge_b14 : n0 ≤ b14 := Nat.le_trans z18 (Nat.le_of_eq g_b14.symm)
  have sz_b14 : h0.size ≤ b14 := Nat.le_trans k19.1 (Nat.le_of_eq g_b14.symm)
  have V14 := Rar.new A14 pr5.1
  have f20 := (Exa.ext E14 f15)
  have f21 := (Fld.ext E14 (Fld.other W13 (Fld.ext E6 (Fld.other W5 (Fld.ext E2 pr3) (Or.inr (slot_ne (Or.inl (hw _ (List.mem_of_getElem? (i := 36) rfl))) (Or.inl (hw _ (List.mem_of_getElem? (i := 30) rfl))) (by decide) (t := (.array (.object "java/lang/Object"))) (t' := (.array (.object "java/lang/Object"))) (by decide) (by decide))))) (Or.inr (slot_ne (Or.inl (hw _ (List.mem_of_getElem? (i := 36) rfl))) (Or.inl (hw _ (List.mem_of_getElem? (i := 34) rfl))) (by decide) (t := (.array (.object "java/lang/Object"))) (t' := (.array (.object "com/example/quernloop/quernloop/Handler"))) (by decide) (by decide)))))
  obtain ⟨T22, h22, X22, e22, W22, st22⟩ := putF X14 hx hZ hown (host := "") (Or.inl (hw _ (List.mem_of_getElem? (i := 35) rfl))) Via.refl e14 f21 f20 (Or.inl (hw _ (List.mem_of_getElem? (i := 36) rfl))) (hw _ (List.mem_of_getElem? (i := 21) rfl)) (ty := (.array (.object "java/lang/Object"))) (by decide) rfl rfl (g := (mkF m 25 #[.val (.ref a), .val (.int z)] [(.ref b14), (.ref a)])) rfl rfl (hb hby d7_25)
  have N22 := Fr.snoc X22 N13 pr4
  have Fw22 := Fld.same W22 f21
  have P23 : ∀ t, Steps p.tables e below (T22.setTop (mkF m 28 #[.val (.ref a), .val (.int z)] [])) t → Steps p.tables e below (s₁.setTop (entryFrame m #[(.ref a), (.int z)] 2)) t := by
    intro t kk
    refine pre0 _ ?_
    show Steps p.tables e below (s₁.setTop (mkF m 0 #[.val (.ref a), .val (.int z)] [])) _
    refine XS.aloadN X0.here hx rfl (hb hby d7_0) rfl rfl ?_
    show Steps p.tables e below (s₁.setTop (mkF m 1 #[.val (.ref a), .val (.int z)] [(.ref a)])) _
    refine st1 _ ?_
    show Steps p.tables e below (T1.setTop (mkF m 4 #[.val (.ref a), .val (.int z)] [])) _
    refine XS.aloadN X1.here hx rfl (hb hby d7_4) rfl rfl ?_
    show Steps p.tables e below (T1.setTop (mkF m 5 #[.val (.ref a), .val (.int z)] [(.ref a)])) _
    refine XS.iloadN X1.here hx rfl (hb hby d7_5) rfl ?_
    show Steps p.tables e below (T1.setTop (mkF m 6 #[.val (.ref a), .val (.int z)] [(.int z), (.ref a)])) _
    refine st2 _ ?_
    show Steps p.tables e below (T2.setTop (mkF m 9 #[.val (.ref a), .val (.int z)] [(.ref b2), (.ref a)])) _
    refine st5 _ ?_
    show Steps p.tables e below (T5.setTop (mkF m 12 #[.val (.ref a), .val (.int z)] [])) _
    refine XS.aloadN X5.here hx rfl (hb hby d7_12) rfl rfl ?_
    show Steps p.tables e below (T5.setTop (mkF m 13 #[.val (.ref a), .val (.int z)] [(.ref a)])) _
    refine XS.iloadN X5.here hx rfl (hb hby d7_13) rfl ?_
    show Steps p.tables e below (T5.setTop (mkF m 14 #[.val (.ref a), .val (.int z)] [(.int z), (.ref a)])) _
    refine st6 _ ?_
    show Steps p.tables e below (T6.setTop (mkF m 17 #[.val (.ref a), .val (.int z)] [(.ref b6), (.ref a)])) _
    refine st13 _ ?_
    show Steps p.tables e below (T13.setTop (mkF m 20 #[.val (.ref a), .val (.int z)] [])) _
    refine XS.aloadN X13.here hx rfl (hb hby d7_20) rfl rfl ?_
    show Steps p.tables e below (T13.setTop (mkF m 21 #[.val (.ref a), .val (.int z)] [(.ref a)])) _
    refine XS.iloadN X13.here hx rfl (hb hby d7_21) rfl ?_
    show Steps p.tables e below (T13.setTop (mkF m 22 #[.val (.ref a), .val (.int z)] [(.int z), (.ref a)])) _
    refine st14 _ ?_
    show Steps p.tables e below (T14.setTop (mkF m 25 #[.val (.ref a), .val (.int z)] [(.ref b14), (.ref a)])) _
    refine st22 _ ?_
    show Steps p.tables e below (T22.setTop (mkF m 28 #[.val (.ref a), .val (.int z)] [])) _
    exact kk
  have k24 : Keep h0 h22 [a] := (Keep.wr (Keep.ext k19 E14) W22 (Or.inl (List.mem_of_getElem? (i := 0) rfl)))
  have f25 := (Fld.other W22 (Fld.ext E14 (Fld.other W13 (Fld.ext E6 Fw5) (Or.inr (slot_ne (Or.inl (hw _ (List.mem_of_getElem? (i := 30) rfl))) (Or.inl (hw _ (List.mem_of_getElem? (i := 34) rfl))) (by decide) (t := (.array (.object "java/lang/Object"))) (t' := (.array (.object "com/example/quernloop/quernloop/Handler"))) (by decide) (by decide))))) (Or.inr (slot_ne (Or.inl (hw _ (List.mem_of_getElem? (i := 30) rfl))) (Or.inl (hw _ (List.mem_of_getElem? (i := 36) rfl))) (by decide) (t := (.array (.object "java/lang/Object"))) (t' := (.array (.object "java/lang/Object"))) (by decide) (by decide))))
  have f26 := (Fld.other W22 (Fld.ext E14 Fw13) (Or.inr (slot_ne (Or.inl (hw _ (List.mem_of_getElem? (i := 34) rfl))) (Or.inl (hw _ (List.mem_of_getElem? (i := 36) rfl))) (by decide) (t := (.array (.object "com/example/quernloop/quernloop/Handler"))) (t' := (.array (.object "java/lang/Object"))) (by decide) (by decide))))
  have f27 := (Rar.other (Rar.ext f16 E14) W22 (Ne.symm ne_a_b2))
  have f28 := (Rar.other (Rar.ext f17 E14) W22 (Ne.symm ne_a_b6))
  have f29 := (Rar.other V14 W22 (Ne.symm ne_a_b14))
  obtain ⟨fs, hr, hrun, hended, hW, hsame⟩ := X22.leave (v := none) (fun _ => rfl)
  refine ⟨_, _, P23 _ ?_, hrun, hended, _, _, rfl, ?_, ⟨_, rfl⟩, hW, hsame.mono (by decide) (by decide)⟩
  · exact X22.returnOut hx Bd.returns (hb hby d7_28) hr
  · show Q7 Z a z h0 n0 _ T22.heap _
    rw [e22]
    exact ⟨b2, b6, b14, k2, k6, k14, rfl, N22, k24, f25, f26, Fw22, f27, f28, f29, O2, sz_b2, sz_b6, sz_b14, ne_b2_b6, ne_b2_b14, ne_b6_b14, ne_a_b2, ne_a_b6, ne_a_b14⟩
theorem d8_0 : decode prog_24_method_2_code 0 = .ok (.aload_n 0, 1) := by decide +kernel
theorem d8_1 : decode prog_24_method_2_code 1 = .ok (.getfield 7, 3) := by decide +kernel
theorem d8_4 : decode prog_24_method_2_code 4 = .ok (.iload_n 1, 1) := by decide +kernel
theorem d8_5 : decode prog_24_method_2_code 5 = .ok (.aload_n 2, 1) := by decide +kernel
theorem d8_6 : decode prog_24_method_2_code 6 = .ok (.aastore, 1) := by decide +kernel
theorem d8_7 : decode prog_24_method_2_code 7 = .ok (.aload_n 0, 1) := by decide +kernel
theorem d8_8 : decode prog_24_method_2_code 8 = .ok (.getfield 15, 3) := by decide +kernel
theorem d8_11 : decode prog_24_method_2_code 11 = .ok (.iload_n 1, 1) := by decide +kernel
theorem d8_12 : decode prog_24_method_2_code 12 = .ok (.aload_n 3, 1) := by decide +kernel
theorem d8_13 : decode prog_24_method_2_code 13 = .ok (.aastore, 1) := by decide +kernel
theorem d8_14 : decode prog_24_method_2_code 14 = .ok (.aload_n 0, 1) := by decide +kernel
theorem d8_15 : decode prog_24_method_2_code 15 = .ok (.getfield 19, 3) := by decide +kernel
theorem d8_18 : decode prog_24_method_2_code 18 = .ok (.iload_n 1, 1) := by decide +kernel
theorem d8_19 : decode prog_24_method_2_code 19 = .ok (.aload 4, 2) := by decide +kernel
theorem d8_21 : decode prog_24_method_2_code 21 = .ok (.aastore, 1) := by decide +kernel
theorem d8_22 : decode prog_24_method_2_code 22 = .ok (.return_, 1) := by decide +kernel
theorem ef_8 (m : MethodId) (x0 : Addr) (x1 : Int32) (x2 : Addr) : entryFrame m #[(.ref x0), (.int x1), (.ref x2), .null, .null] 5 = (mkF m 0 #[.val (.ref x0), .val (.int x1), .val (.ref x2), .val .null, .val .null] []) := by first | (simp [entryFrame, mkF, argsToLocals, Value.category]; done) | rfl
def Q8 (Z : State) (a : Addr) (j : Int32) (o : Addr) (b1 : Addr) (b2 : Addr) (b3 : Addr) (k1 : ClassId) (k2 : ClassId) (k3 : ClassId) (z : Int32) (f1 : Nat → Value) (f2 : Nat → Value) (f3 : Nat → Value) (h0 : Heap) (n0 : Nat) (vX : Option Value) (hX : Heap) (lX : List Loc) : Prop := vX = none ∧ Fr n0 lX ∧ (Keep h0 hX [b1, b2, b3]) ∧ (Rar Z hX b1 k1 (.object "java/lang/Object") z (fun i => if i = (j).toNatClampNeg then (.ref o) else f1 i)) ∧ (Rar Z hX b2 k2 (.object "com/example/quernloop/quernloop/Handler") z (fun i => if i = (j).toNatClampNeg then .null else f2 i)) ∧ (Rar Z hX b3 k3 (.object "java/lang/Object") z (fun i => if i = (j).toNatClampNeg then .null else f3 i))
set_option maxRecDepth 65536 in
set_option maxHeartbeats 40000000 in
theorem rm8 (l : Launch) (Z : State) (a0 : Array Value) (hw : ∀ d ∈ tables_1, d.before a0 Z = true) (ws : List Jvm.Cond) (a : Addr) (j : Int32) (o : Addr) (b1 : Addr) (b2 : Addr) (b3 : Addr) (k1 : ClassId) (k2 : ClassId) (k3 : ClassId) (z : Int32) (f1 : Nat → Value) (f2 : Nat → Value) (f3 : Nat → Value) (h0 : Heap) (n0 : Nat) (Z0 : n0 ≤ h0.size) (pr0 : Exa Z h0 a "com/example/quernloop/quernloop/WorkSlots") (pr1 : Fld Z h0 a "com/example/quernloop/quernloop/WorkSlots" "work" "[Ljava/lang/Object;" (.ref b1)) (pr2 : Fld Z h0 a "com/example/quernloop/quernloop/WorkSlots" "handlers" "[Lcom/example/quernloop/quernloop/Handler;" (.ref b2)) (pr3 : Fld Z h0 a "com/example/quernloop/quernloop/WorkSlots" "tokens" "[Ljava/lang/Object;" (.ref b3)) (pr4 : Rar Z h0 b1 k1 (.object "java/lang/Object") z f1) (pr5 : Rar Z h0 b2 k2 (.object "com/example/quernloop/quernloop/Handler") z f2) (pr6 : Rar Z h0 b3 k3 (.object "java/lang/Object") z f3) (pr7 : Ovr Z k1 "java/lang/Object") (pr8 : n0 ≤ b1) (pr9 : n0 ≤ b2) (pr10 : n0 ≤ b3) (pr11 : b1 ≠ b2) (pr12 : b1 ≠ b3) (pr13 : b2 ≠ b3) (pr14 : a ≠ b1) (pr15 : a ≠ b2) (pr16 : a ≠ b3) (pr17 : Exa Z h0 o "com/example/quernloop/quernloop/Message") (pr18 : ¬ j < 0 ∧ j < z) :
    MetFree l (⟨"com/example/quernloop/quernloop/WorkSlots", "set", "(ILjava/lang/Object;Lcom/example/quernloop/quernloop/Handler;Ljava/lang/Object;)V"⟩ : MethodName) (head1 (Jvm.Cond.code (⟨"com/example/quernloop/quernloop/WorkSlots", "set", "(ILjava/lang/Object;Lcom/example/quernloop/quernloop/Handler;Ljava/lang/Object;)V"⟩ : MethodName) prog_24_method_2_code 5 none :: ws) ({ frames := 0, cells := 0, slots := 0, locals := 0 } : Room)) (fun aX uX => aX = #[(.ref a), (.int j), (.ref o), .null, .null] ∧ Z.Warmed39 uX.vm ∧ uX.heap = h0) (fun _ _ _ _ _ => True) (fun _ uX oX wX => ∃ vX lX, oX = .returned vX ∧ Q8 Z a j o b1 b2 b3 k1 k2 k3 z f1 f2 f3 h0 n0 vX wX.heap lX ∧ FrameEnd uX oX wX lX ({ frames := 0, cells := 0, slots := 0, locals := 0 } : Room).cells ({ frames := 0, cells := 0, slots := 0, locals := 0 } : Room).slots) := by
  refine MetFree.of_bodySF (plainFor_of_name pn_4) hisR ?_
  intro p e s m args below meth c s₁ Bd hml0 hP hK
  obtain ⟨rfl, hZ, hh⟩ := hP
  have hx := Bd.exec
  have hby := Bd.bytes
  have hml : c.maxLocals = 5 := hml0
  have hown : s.vm.findClass "com/example/quernloop/quernloop/WorkSlots" = some m.cls := findClass_of_methodNamed Bd.named
  have hnm := (name_of_methodNamed Bd.named Bd.method).1
  have X0 : Stand p l e ({ frames := 0, cells := 0, slots := 0, locals := 0 } : Room) s m #[(.ref a), (.int j), (.ref o), .null, .null] below meth c s₁ [] 0 0 := Stand.of_body Bd
  have e0 : s₁.heap = h0 := by rw [← hh, Bd.state]; rfl
  have N0 := Fr.nil n0
  have pre0 : ∀ t, Steps p.tables e below (s₁.setTop (mkF m 0 #[.val (.ref a), .val (.int j), .val (.ref o), .val .null, .val .null] [])) t → Steps p.tables e below (s₁.setTop (entryFrame m #[(.ref a), (.int j), (.ref o), .null, .null] 5)) t := fun t k => castTop (ef_8 m a j o) k
  obtain ⟨T1, X1, e1, st1⟩ := getF X0 hx hZ hown (host := "") (Or.inl (hw _ (List.mem_of_getElem? (i := 29) rfl))) Via.refl e0 pr1 (g := (mkF m 1 #[.val (.ref a), .val (.int j), .val (.ref o), .val .null, .val .null] [(.ref a)])) rfl rfl (hb hby d8_1)
  obtain ⟨cl_a2, Ar_a2, q_a2, S_a2, N_a2, H_a2⟩ := id pr4
  have hin_a2 : ¬ (j < 0 ∨ cl_a2.slots.size ≤ (j).toNatClampNeg) := inb_of S_a2 pr18
  obtain ⟨T3, h3, X3, e3, W3, st3⟩ := stR X1 hx hZ e1 Ar_a2 (j := j) hin_a2 rfl (Sto.ofV Ar_a2 q_a2 pr7 (Ins.of_exa pr17 (hw _ (List.mem_of_getElem? (i := 42) rfl)))) (g := (mkF m 6 #[.val (.ref a), .val (.int j), .val (.ref o), .val .null, .val .null] [(.ref o), (.int j), (.ref b1)])) rfl rfl (hb hby d8_6)
  have V3 := Rar.set Ar_a2 q_a2 S_a2 N_a2 H_a2 W3
  have N3 := Fr.snoc X3 N0 pr8
  have f4 := (Fld.other W3 pr2 (Or.inl pr14))
  obtain ⟨T5, X5, e5, st5⟩ := getF X3 hx hZ hown (host := "") (Or.inl (hw _ (List.mem_of_getElem? (i := 33) rfl))) Via.refl e3 f4 (g := (mkF m 8 #[.val (.ref a), .val (.int j), .val (.ref o), .val .null, .val .null] [(.ref a)])) rfl rfl (hb hby d8_8)
  have f6 := (Rar.other pr5 W3 (Ne.symm pr11))
  obtain ⟨cl_a7, Ar_a7, q_a7, S_a7, N_a7, H_a7⟩ := id f6
  have hin_a7 : ¬ (j < 0 ∨ cl_a7.slots.size ≤ (j).toNatClampNeg) := inb_of S_a7 pr18
  obtain ⟨T8, h8, X8, e8, W8, st8⟩ := stR X5 hx hZ e5 Ar_a7 (j := j) hin_a7 rfl (Or.inl rfl) (g := (mkF m 13 #[.val (.ref a), .val (.int j), .val (.ref o), .val .null, .val .null] [.null, (.int j), (.ref b2)])) rfl rfl (hb hby d8_13)
  have V8 := Rar.set Ar_a7 q_a7 S_a7 N_a7 H_a7 W8
  have N8 := Fr.snoc X8 N3 pr9
  have f9 := (Fld.other W8 (Fld.other W3 pr3 (Or.inl pr14)) (Or.inl pr15))
  obtain ⟨T10, X10, e10, st10⟩ := getF X8 hx hZ hown (host := "") (Or.inl (hw _ (List.mem_of_getElem? (i := 35) rfl))) Via.refl e8 f9 (g := (mkF m 15 #[.val (.ref a), .val (.int j), .val (.ref o), .val .null, .val .null] [(.ref a)])) rfl rfl (hb hby d8_15)
  have f11 := (Rar.other (Rar.other pr6 W3 (Ne.symm pr12)) W8 (Ne.symm pr13))
  obtain ⟨cl_a12, Ar_a12, q_a12, S_a12, N_a12, H_a12⟩ := id f11
  have hin_a12 : ¬ (j < 0 ∨ cl_a12.slots.size ≤ (j).toNatClampNeg) := inb_of S_a12 pr18
  obtain ⟨T13, h13, X13, e13, W13, st13⟩ := stR X10 hx hZ e10 Ar_a12 (j := j) hin_a12 rfl (Or.inl rfl) (g := (mkF m 21 #[.val (.ref a), .val (.int j), .val (.ref o), .val .null, .val .null] [.null, (.int j), (.ref b3)])) rfl rfl (hb hby d8_21)
  have V13 := Rar.set Ar_a12 q_a12 S_a12 N_a12 H_a12 W13
  have N13 := Fr.snoc X13 N8 pr10
  have P14 : ∀ t, Steps p.tables e below (T13.setTop (mkF m 22 #[.val (.ref a), .val (.int j), .val (.ref o), .val .null, .val .null] [])) t → Steps p.tables e below (s₁.setTop (entryFrame m #[(.ref a), (.int j), (.ref o), .null, .null] 5)) t := by
    intro t kk
    refine pre0 _ ?_
    show Steps p.tables e below (s₁.setTop (mkF m 0 #[.val (.ref a), .val (.int j), .val (.ref o), .val .null, .val .null] [])) _
    refine XS.aloadN X0.here hx rfl (hb hby d8_0) rfl rfl ?_
    show Steps p.tables e below (s₁.setTop (mkF m 1 #[.val (.ref a), .val (.int j), .val (.ref o), .val .null, .val .null] [(.ref a)])) _
    refine st1 _ ?_
    show Steps p.tables e below (T1.setTop (mkF m 4 #[.val (.ref a), .val (.int j), .val (.ref o), .val .null, .val .null] [(.ref b1)])) _
    refine XS.iloadN X1.here hx rfl (hb hby d8_4) rfl ?_
    show Steps p.tables e below (T1.setTop (mkF m 5 #[.val (.ref a), .val (.int j), .val (.ref o), .val .null, .val .null] [(.int j), (.ref b1)])) _
    refine XS.aloadN X1.here hx rfl (hb hby d8_5) rfl rfl ?_
    show Steps p.tables e below (T1.setTop (mkF m 6 #[.val (.ref a), .val (.int j), .val (.ref o), .val .null, .val .null] [(.ref o), (.int j), (.ref b1)])) _
    refine st3 _ ?_
    show Steps p.tables e below (T3.setTop (mkF m 7 #[.val (.ref a), .val (.int j), .val (.ref o), .val .null, .val .null] [])) _
    refine XS.aloadN X3.here hx rfl (hb hby d8_7) rfl rfl ?_
    show Steps p.tables e below (T3.setTop (mkF m 8 #[.val (.ref a), .val (.int j), .val (.ref o), .val .null, .val .null] [(.ref a)])) _
    refine st5 _ ?_
    show Steps p.tables e below (T5.setTop (mkF m 11 #[.val (.ref a), .val (.int j), .val (.ref o), .val .null, .val .null] [(.ref b2)])) _
    refine XS.iloadN X5.here hx rfl (hb hby d8_11) rfl ?_
    show Steps p.tables e below (T5.setTop (mkF m 12 #[.val (.ref a), .val (.int j), .val (.ref o), .val .null, .val .null] [(.int j), (.ref b2)])) _
    refine XS.aloadN X5.here hx rfl (hb hby d8_12) rfl rfl ?_
    show Steps p.tables e below (T5.setTop (mkF m 13 #[.val (.ref a), .val (.int j), .val (.ref o), .val .null, .val .null] [.null, (.int j), (.ref b2)])) _
    refine st8 _ ?_
    show Steps p.tables e below (T8.setTop (mkF m 14 #[.val (.ref a), .val (.int j), .val (.ref o), .val .null, .val .null] [])) _
    refine XS.aloadN X8.here hx rfl (hb hby d8_14) rfl rfl ?_
    show Steps p.tables e below (T8.setTop (mkF m 15 #[.val (.ref a), .val (.int j), .val (.ref o), .val .null, .val .null] [(.ref a)])) _
    refine st10 _ ?_
    show Steps p.tables e below (T10.setTop (mkF m 18 #[.val (.ref a), .val (.int j), .val (.ref o), .val .null, .val .null] [(.ref b3)])) _
    refine XS.iloadN X10.here hx rfl (hb hby d8_18) rfl ?_
    show Steps p.tables e below (T10.setTop (mkF m 19 #[.val (.ref a), .val (.int j), .val (.ref o), .val .null, .val .null] [(.int j), (.ref b3)])) _
    refine XS.aload X10.here hx rfl (hb hby d8_19) rfl rfl ?_
    show Steps p.tables e below (T10.setTop (mkF m 21 #[.val (.ref a), .val (.int j), .val (.ref o), .val .null, .val .null] [.null, (.int j), (.ref b3)])) _
    refine st13 _ ?_
    show Steps p.tables e below (T13.setTop (mkF m 22 #[.val (.ref a), .val (.int j), .val (.ref o), .val .null, .val .null] [])) _
    exact kk
  have k15 : Keep h0 h13 [b1, b2, b3] := (Keep.wr (Keep.wr (Keep.wr (Keep.refl h0 [b1, b2, b3]) W3 (Or.inl (List.mem_of_getElem? (i := 0) rfl))) W8 (Or.inl (List.mem_of_getElem? (i := 1) rfl))) W13 (Or.inl (List.mem_of_getElem? (i := 2) rfl)))
  have f16 := (Rar.other (Rar.other V3 W8 pr11) W13 pr12)
  have f17 := (Rar.other V8 W13 pr13)
  obtain ⟨fs, hr, hrun, hended, hW, hsame⟩ := X13.leave (v := none) (fun _ => rfl)
  refine ⟨_, _, P14 _ ?_, hrun, hended, _, _, rfl, ?_, ⟨_, rfl⟩, hW, hsame.mono (by decide) (by decide)⟩
  · exact X13.returnOut hx Bd.returns (hb hby d8_22) hr
  · show Q8 Z a j o b1 b2 b3 k1 k2 k3 z f1 f2 f3 h0 n0 _ T13.heap _
    rw [e13]
    exact ⟨rfl, N13, k15, f16, f17, V13⟩
theorem d9_0 : decode prog_24_method_10_code 0 = .ok (.aload_n 0, 1) := by decide +kernel
theorem d9_1 : decode prog_24_method_10_code 1 = .ok (.getfield 15, 3) := by decide +kernel
theorem d9_4 : decode prog_24_method_10_code 4 = .ok (.iload_n 1, 1) := by decide +kernel
theorem d9_5 : decode prog_24_method_10_code 5 = .ok (.aaload, 1) := by decide +kernel
theorem d9_6 : decode prog_24_method_10_code 6 = .ok (.ifnull 12, 3) := by decide +kernel
theorem d9_18 : decode prog_24_method_10_code 18 = .ok (.aload_n 0, 1) := by decide +kernel
theorem d9_19 : decode prog_24_method_10_code 19 = .ok (.getfield 7, 3) := by decide +kernel
theorem d9_22 : decode prog_24_method_10_code 22 = .ok (.iload_n 1, 1) := by decide +kernel
theorem d9_23 : decode prog_24_method_10_code 23 = .ok (.aaload, 1) := by decide +kernel
theorem d9_24 : decode prog_24_method_10_code 24 = .ok (.checkcast 33, 3) := by decide +kernel
theorem d9_27 : decode prog_24_method_10_code 27 = .ok (.getfield 35, 3) := by decide +kernel
theorem d9_30 : decode prog_24_method_10_code 30 = .ok (.areturn, 1) := by decide +kernel
theorem ef_9 (m : MethodId) (x0 : Addr) (x1 : Int32) : entryFrame m #[(.ref x0), (.int x1)] 2 = (mkF m 0 #[.val (.ref x0), .val (.int x1)] []) := by first | (simp [entryFrame, mkF, argsToLocals, Value.category]; done) | rfl
def Q9 (Z : State) (a : Addr) (j : Int32) (b1 : Addr) (b2 : Addr) (k1 : ClassId) (k2 : ClassId) (z : Int32) (f1 : Nat → Value) (f2 : Nat → Value) (o : Addr) (v : Value) (h0 : Heap) (n0 : Nat) (vX : Option Value) (hX : Heap) (lX : List Loc) : Prop := vX = some v ∧ Fr n0 lX ∧ (hX = h0)
set_option maxRecDepth 65536 in
set_option maxHeartbeats 40000000 in
theorem rm9 (l : Launch) (Z : State) (a0 : Array Value) (hw : ∀ d ∈ tables_1, d.before a0 Z = true) (ws : List Jvm.Cond) (a : Addr) (j : Int32) (b1 : Addr) (b2 : Addr) (k1 : ClassId) (k2 : ClassId) (z : Int32) (f1 : Nat → Value) (f2 : Nat → Value) (o : Addr) (v : Value) (h0 : Heap) (n0 : Nat) (Z0 : n0 ≤ h0.size) (pr0 : Fld Z h0 a "com/example/quernloop/quernloop/WorkSlots" "work" "[Ljava/lang/Object;" (.ref b1)) (pr1 : Fld Z h0 a "com/example/quernloop/quernloop/WorkSlots" "handlers" "[Lcom/example/quernloop/quernloop/Handler;" (.ref b2)) (pr2 : Rar Z h0 b1 k1 (.object "java/lang/Object") z f1) (pr3 : Rar Z h0 b2 k2 (.object "com/example/quernloop/quernloop/Handler") z f2) (pr4 : Exa Z h0 o "com/example/quernloop/quernloop/Message") (pr5 : Fld Z h0 o "com/example/quernloop/quernloop/Message" "obj" "Ljava/lang/Object;" v) (pr6 : v.isRef = true) (pr7 : ¬ j < 0 ∧ j < z) (pr8 : f2 (j).toNatClampNeg = .null) (pr9 : f1 (j).toNatClampNeg = (.ref o)) :
    MetFree l (⟨"com/example/quernloop/quernloop/WorkSlots", "object", "(I)Ljava/lang/Object;"⟩ : MethodName) (head1 (Jvm.Cond.code (⟨"com/example/quernloop/quernloop/WorkSlots", "object", "(I)Ljava/lang/Object;"⟩ : MethodName) prog_24_method_10_code 2 (some (.object "java/lang/Object")) :: ws) ({ frames := 0, cells := 0, slots := 0, locals := 0 } : Room)) (fun aX uX => aX = #[(.ref a), (.int j)] ∧ Z.Warmed39 uX.vm ∧ uX.heap = h0) (fun _ _ _ _ _ => True) (fun _ uX oX wX => ∃ vX lX, oX = .returned vX ∧ Q9 Z a j b1 b2 k1 k2 z f1 f2 o v h0 n0 vX wX.heap lX ∧ FrameEnd uX oX wX lX ({ frames := 0, cells := 0, slots := 0, locals := 0 } : Room).cells ({ frames := 0, cells := 0, slots := 0, locals := 0 } : Room).slots) := by
  refine MetFree.of_bodySF (plainFor_of_name pn_4) hisR ?_
  intro p e s m args below meth c s₁ Bd hml0 hP hK
  obtain ⟨rfl, hZ, hh⟩ := hP
  have hx := Bd.exec
  have hby := Bd.bytes
  have hml : c.maxLocals = 2 := hml0
  have hown : s.vm.findClass "com/example/quernloop/quernloop/WorkSlots" = some m.cls := findClass_of_methodNamed Bd.named
  have hnm := (name_of_methodNamed Bd.named Bd.method).1
  have X0 : Stand p l e ({ frames := 0, cells := 0, slots := 0, locals := 0 } : Room) s m #[(.ref a), (.int j)] below meth c s₁ [] 0 0 := Stand.of_body Bd
  have e0 : s₁.heap = h0 := by rw [← hh, Bd.state]; rfl
  have N0 := Fr.nil n0
  have pre0 : ∀ t, Steps p.tables e below (s₁.setTop (mkF m 0 #[.val (.ref a), .val (.int j)] [])) t → Steps p.tables e below (s₁.setTop (entryFrame m #[(.ref a), (.int j)] 2)) t := fun t k => castTop (ef_9 m a j) k
  obtain ⟨T1, X1, e1, st1⟩ := getF X0 hx hZ hown (host := "") (Or.inl (hw _ (List.mem_of_getElem? (i := 33) rfl))) Via.refl e0 pr1 (g := (mkF m 1 #[.val (.ref a), .val (.int j)] [(.ref a)])) rfl rfl (hb hby d9_1)
  obtain ⟨cl_a2, Ar_a2, q_a2, S_a2, N_a2, H_a2⟩ := id pr3
  have hin_a2 : ¬ (j < 0 ∨ cl_a2.slots.size ≤ (j).toNatClampNeg) := inb_of S_a2 pr7
  have hat_a2 : cl_a2.slots[(j).toNatClampNeg]? = some .null := (H_a2 _ (Nat.lt_of_not_le fun q => hin_a2 (Or.inr q))).trans (congrArg some pr8)
  obtain ⟨T3, X3, e3, st3⟩ := getF X1 hx hZ hown (host := "") (Or.inl (hw _ (List.mem_of_getElem? (i := 29) rfl))) Via.refl e1 pr0 (g := (mkF m 19 #[.val (.ref a), .val (.int j)] [(.ref a)])) rfl rfl (hb hby d9_19)
  obtain ⟨cl_a4, Ar_a4, q_a4, S_a4, N_a4, H_a4⟩ := id pr2
  have hin_a4 : ¬ (j < 0 ∨ cl_a4.slots.size ≤ (j).toNatClampNeg) := inb_of S_a4 pr7
  have hat_a4 : cl_a4.slots[(j).toNatClampNeg]? = some (.ref o) := (H_a4 _ (Nat.lt_of_not_le fun q => hin_a4 (Or.inr q))).trans (congrArg some pr9)
  obtain ⟨T5, X5, e5, st5⟩ := castY X3 hx hZ hown (hw _ (List.mem_of_getElem? (i := 48) rfl)) e3 (Ins.self pr4) (g := (mkF m 24 #[.val (.ref a), .val (.int j)] [(.ref o)])) rfl rfl (hb hby d9_24)
  obtain ⟨T6, X6, e6, st6⟩ := getF X5 hx hZ hown (host := "") (Or.inl (hw _ (List.mem_of_getElem? (i := 50) rfl))) Via.refl e5 pr5 (g := (mkF m 27 #[.val (.ref a), .val (.int j)] [(.ref o)])) rfl rfl (hb hby d9_27)
  have P7 : ∀ t, Steps p.tables e below (T6.setTop (mkF m 30 #[.val (.ref a), .val (.int j)] [v])) t → Steps p.tables e below (s₁.setTop (entryFrame m #[(.ref a), (.int j)] 2)) t := by
    intro t kk
    refine pre0 _ ?_
    show Steps p.tables e below (s₁.setTop (mkF m 0 #[.val (.ref a), .val (.int j)] [])) _
    refine XS.aloadN X0.here hx rfl (hb hby d9_0) rfl rfl ?_
    show Steps p.tables e below (s₁.setTop (mkF m 1 #[.val (.ref a), .val (.int j)] [(.ref a)])) _
    refine st1 _ ?_
    show Steps p.tables e below (T1.setTop (mkF m 4 #[.val (.ref a), .val (.int j)] [(.ref b2)])) _
    refine XS.iloadN X1.here hx rfl (hb hby d9_4) rfl ?_
    show Steps p.tables e below (T1.setTop (mkF m 5 #[.val (.ref a), .val (.int j)] [(.int j), (.ref b2)])) _
    refine X1.aaload hx (j := j) (v := .null) (by rw [e1]; exact Ar_a2.1) (State.isArrayOf_alike hZ.alike Ar_a2.2.1) rfl Ar_a2.2.2 hin_a2 hat_a2 (g := (mkF m 5 #[.val (.ref a), .val (.int j)] [(.int j), (.ref b2)])) rfl rfl (hb hby d9_5) _ ?_
    show Steps p.tables e below (T1.setTop (mkF m 6 #[.val (.ref a), .val (.int j)] [.null])) _
    refine XS.ifnullYes X1.here hx rfl (pc0 := 6) (pc' := 18) rfl (hb hby d9_6) rfl (by decide) (by decide) ?_
    show Steps p.tables e below (T1.setTop (mkF m 18 #[.val (.ref a), .val (.int j)] [])) _
    refine XS.aloadN X1.here hx rfl (hb hby d9_18) rfl rfl ?_
    show Steps p.tables e below (T1.setTop (mkF m 19 #[.val (.ref a), .val (.int j)] [(.ref a)])) _
    refine st3 _ ?_
    show Steps p.tables e below (T3.setTop (mkF m 22 #[.val (.ref a), .val (.int j)] [(.ref b1)])) _
    refine XS.iloadN X3.here hx rfl (hb hby d9_22) rfl ?_
    show Steps p.tables e below (T3.setTop (mkF m 23 #[.val (.ref a), .val (.int j)] [(.int j), (.ref b1)])) _
    refine X3.aaload hx (j := j) (v := (.ref o)) (by rw [e3]; exact Ar_a4.1) (State.isArrayOf_alike hZ.alike Ar_a4.2.1) rfl Ar_a4.2.2 hin_a4 hat_a4 (g := (mkF m 23 #[.val (.ref a), .val (.int j)] [(.int j), (.ref b1)])) rfl rfl (hb hby d9_23) _ ?_
    show Steps p.tables e below (T3.setTop (mkF m 24 #[.val (.ref a), .val (.int j)] [(.ref o)])) _
    refine st5 _ ?_
    show Steps p.tables e below (T5.setTop (mkF m 27 #[.val (.ref a), .val (.int j)] [(.ref o)])) _
    refine st6 _ ?_
    show Steps p.tables e below (T6.setTop (mkF m 30 #[.val (.ref a), .val (.int j)] [v])) _
    exact kk
  obtain ⟨fs, hr, hrun, hended, hW, hsame⟩ := X6.leave (v := some v) (fun h => by rw [Bd.returns] at h; cases h)
  refine ⟨_, _, P7 _ ?_, hrun, hended, _, _, rfl, ?_, ⟨_, rfl⟩, hW, hsame.mono (by decide) (by decide)⟩
  · exact X6.areturnOut hx pr6 Bd.returns rfl (hb hby d9_30) hr
  · show Q9 Z a j b1 b2 k1 k2 z f1 f2 o v h0 n0 _ T6.heap _
    rw [e6]
    exact ⟨rfl, N0, rfl⟩
theorem ef_0 (m : MethodId) (x0 : Int32) (x1 : Int32) (x2 : Int32) (x3 : Int32) (x4 : Int32) (x5 : Int64) : entryFrame m #[(.int x0), (.int x1), (.int x2), (.int x3), (.int x4), (.long x5)] maxLocals = (mkF m 0 #[.val (.int x0), .val (.int x1), .val (.int x2), .val (.int x3), .val (.int x4), .val (.long x5), .second, .unset, .unset, .unset, .unset, .unset, .unset, .unset, .unset, .unset, .unset, .unset, .unset, .unset, .unset, .unset] []) := by first | (simp [entryFrame, mkF, argsToLocals, Value.category, maxLocals]; done) | rfl
def Q0 (Z : State) (h0 : Heap) (n0 : Nat) (v : Option Value) (h : Heap) (L : List Loc) : Prop := v = some (.int (1 : Int32)) ∧ Fr n0 L
set_option maxRecDepth 65536 in
set_option maxHeartbeats 400000000 in
theorem rm0 (l : Launch) (Z : State) (a0 : Array Value) (hw : ∀ d ∈ tables_1, d.before a0 Z = true) (ws : List Jvm.Cond) (p0 : Int32) (p1 : Int32) (p2 : Int32) (p3 : Int32) (p4 : Int32) (p5 : Int64) (ci : Addr) (cl : Addr) (h0 : Heap) (n0 : Nat) (Z0 : n0 ≤ h0.size) (pr0 : Sta Z h0 "java/lang/Integer$IntegerCache" "high" "I" (.int (127 : Int32))) (pr1 : Sta Z h0 "java/lang/Integer$IntegerCache" "cache" "[Ljava/lang/Integer;" (.ref ci)) (pr2 : Sta Z h0 "java/lang/Long$LongCache" "cache" "[Ljava/lang/Long;" (.ref cl)) (pr3 : Cac Z h0 ci "java/lang/Integer") (pr4 : Cac Z h0 cl "java/lang/Long") :
    MetFree l x (head1 (Jvm.Cond.code x code maxLocals ret :: ws) room_1) (fun a U => a = #[(.int p0), (.int p1), (.int p2), (.int p3), (.int p4), (.long p5)] ∧ Z.Warmed39 U.vm ∧ U.heap = h0) (fun _ _ _ _ _ => True) (fun _ U o U' => ∃ v L, o = .returned v ∧ Q0 Z h0 n0 v U'.heap L ∧ FrameEnd U o U' L room_1.cells room_1.slots) := by
  refine MetFree.of_bodySF (plainFor_of_name pn_5) hisR ?_
  intro p e s m args below meth c s₁ Bd hml0 hP hK
  obtain ⟨rfl, hZ, hh⟩ := hP
  have hx := Bd.exec
  have hby := Bd.bytes
  have hml : c.maxLocals = 22 := hml0
  have hown : s.vm.findClass "com/example/quernloop/quernloop/WorkSlotsObjectPinLaw" = some m.cls := findClass_of_methodNamed Bd.named
  have hnm := (name_of_methodNamed Bd.named Bd.method).1
  have X0 : Stand p l e room_1 s m #[(.int p0), (.int p1), (.int p2), (.int p3), (.int p4), (.long p5)] below meth c s₁ [] 0 0 := Stand.of_body Bd
  have e0 : s₁.heap = h0 := by rw [← hh, Bd.state]; rfl
  have N0 := Fr.nil n0
  have pre0 : ∀ t, Steps p.tables e below (s₁.setTop (mkF m 0 #[.val (.int p0), .val (.int p1), .val (.int p2), .val (.int p3), .val (.int p4), .val (.long p5), .second, .unset, .unset, .unset, .unset, .unset, .unset, .unset, .unset, .unset, .unset, .unset, .unset, .unset, .unset, .unset] [])) t → Steps p.tables e below (s₁.setTop (entryFrame m #[(.int p0), (.int p1), (.int p2), (.int p3), (.int p4), (.long p5)] maxLocals)) t := fun t k => castTop (ef_0 m p0 p1 p2 p3 p4 p5) k
  obtain ⟨i1, h_i1⟩ : ∃ z : Int32, z = ((1 : Int32) + (p0 &&& (7 : Int32))) := ⟨_, rfl⟩
  obtain ⟨i2, h_i2⟩ : ∃ z : Int32, z = ((p1 &&& (2147483647 : Int32)) % i1) := ⟨_, rfl⟩
  obtain ⟨i3, h_i3⟩ : ∃ z : Int32, z = ((p2 &&& (2147483647 : Int32)) % i1) := ⟨_, rfl⟩
  have P4 : ∀ t, Steps p.tables e below (s₁.setTop (mkF m 29 #[.val (.int p0), .val (.int p1), .val (.int p2), .val (.int p3), .val (.int p4), .val (.long p5), .second, .val (.int i1), .val (.int i2), .val (.int i3), .unset, .unset, .unset, .unset, .unset, .unset, .unset, .unset, .unset, .unset, .unset, .unset] [(.int (p3 &&& (1 : Int32)))])) t → Steps p.tables e below (s₁.setTop (entryFrame m #[(.int p0), (.int p1), (.int p2), (.int p3), (.int p4), (.long p5)] maxLocals)) t := by
    intro t kk
    refine pre0 _ ?_
    show Steps p.tables e below (s₁.setTop (mkF m 0 #[.val (.int p0), .val (.int p1), .val (.int p2), .val (.int p3), .val (.int p4), .val (.long p5), .second, .unset, .unset, .unset, .unset, .unset, .unset, .unset, .unset, .unset, .unset, .unset, .unset, .unset, .unset, .unset] [])) _
    refine XS.iconst X0.here hx rfl (hb hby at_0) ?_
    show Steps p.tables e below (s₁.setTop (mkF m 1 #[.val (.int p0), .val (.int p1), .val (.int p2), .val (.int p3), .val (.int p4), .val (.long p5), .second, .unset, .unset, .unset, .unset, .unset, .unset, .unset, .unset, .unset, .unset, .unset, .unset, .unset, .unset, .unset] [(.int (1 : Int32))])) _
    refine XS.iloadN X0.here hx rfl (hb hby at_1) rfl ?_
    show Steps p.tables e below (s₁.setTop (mkF m 2 #[.val (.int p0), .val (.int p1), .val (.int p2), .val (.int p3), .val (.int p4), .val (.long p5), .second, .unset, .unset, .unset, .unset, .unset, .unset, .unset, .unset, .unset, .unset, .unset, .unset, .unset, .unset, .unset] [(.int p0), (.int (1 : Int32))])) _
    refine XS.bipush X0.here hx rfl (hb hby at_2) ?_
    show Steps p.tables e below (s₁.setTop (mkF m 4 #[.val (.int p0), .val (.int p1), .val (.int p2), .val (.int p3), .val (.int p4), .val (.long p5), .second, .unset, .unset, .unset, .unset, .unset, .unset, .unset, .unset, .unset, .unset, .unset, .unset, .unset, .unset, .unset] [(.int (7 : Int32)), (.int p0), (.int (1 : Int32))])) _
    refine XS.iand X0.here hx rfl (hb hby at_4) rfl ?_
    show Steps p.tables e below (s₁.setTop (mkF m 5 #[.val (.int p0), .val (.int p1), .val (.int p2), .val (.int p3), .val (.int p4), .val (.long p5), .second, .unset, .unset, .unset, .unset, .unset, .unset, .unset, .unset, .unset, .unset, .unset, .unset, .unset, .unset, .unset] [(.int (p0 &&& (7 : Int32))), (.int (1 : Int32))])) _
    refine XS.iadd X0.here hx rfl (hb hby at_5) rfl ?_
    show Steps p.tables e below (s₁.setTop (mkF m 6 #[.val (.int p0), .val (.int p1), .val (.int p2), .val (.int p3), .val (.int p4), .val (.long p5), .second, .unset, .unset, .unset, .unset, .unset, .unset, .unset, .unset, .unset, .unset, .unset, .unset, .unset, .unset, .unset] [(.int ((1 : Int32) + (p0 &&& (7 : Int32))))])) _
    rw [← h_i1]
    show Steps p.tables e below (s₁.setTop (mkF m 6 #[.val (.int p0), .val (.int p1), .val (.int p2), .val (.int p3), .val (.int p4), .val (.long p5), .second, .unset, .unset, .unset, .unset, .unset, .unset, .unset, .unset, .unset, .unset, .unset, .unset, .unset, .unset, .unset] [(.int i1)])) _
    refine XS.istore X0.here hx rfl (hb hby at_6) rfl (l' := #[.val (.int p0), .val (.int p1), .val (.int p2), .val (.int p3), .val (.int p4), .val (.long p5), .second, .val (.int i1), .unset, .unset, .unset, .unset, .unset, .unset, .unset, .unset, .unset, .unset, .unset, .unset, .unset, .unset]) rfl ?_
    show Steps p.tables e below (s₁.setTop (mkF m 8 #[.val (.int p0), .val (.int p1), .val (.int p2), .val (.int p3), .val (.int p4), .val (.long p5), .second, .val (.int i1), .unset, .unset, .unset, .unset, .unset, .unset, .unset, .unset, .unset, .unset, .unset, .unset, .unset, .unset] [])) _
    refine XS.iloadN X0.here hx rfl (hb hby at_8) rfl ?_
    show Steps p.tables e below (s₁.setTop (mkF m 9 #[.val (.int p0), .val (.int p1), .val (.int p2), .val (.int p3), .val (.int p4), .val (.long p5), .second, .val (.int i1), .unset, .unset, .unset, .unset, .unset, .unset, .unset, .unset, .unset, .unset, .unset, .unset, .unset, .unset] [(.int p1)])) _
    refine X0.ldcInt hx hown (mvT hZ (hw _ (List.mem_of_getElem? (i := 0) rfl))) (g := (mkF m 9 #[.val (.int p0), .val (.int p1), .val (.int p2), .val (.int p3), .val (.int p4), .val (.long p5), .second, .val (.int i1), .unset, .unset, .unset, .unset, .unset, .unset, .unset, .unset, .unset, .unset, .unset, .unset, .unset, .unset] [(.int p1)])) rfl (hb hby at_9) _ ?_
    show Steps p.tables e below (s₁.setTop (mkF m 11 #[.val (.int p0), .val (.int p1), .val (.int p2), .val (.int p3), .val (.int p4), .val (.long p5), .second, .val (.int i1), .unset, .unset, .unset, .unset, .unset, .unset, .unset, .unset, .unset, .unset, .unset, .unset, .unset, .unset] [(.int (2147483647 : Int32)), (.int p1)])) _
    refine XS.iand X0.here hx rfl (hb hby at_11) rfl ?_
    show Steps p.tables e below (s₁.setTop (mkF m 12 #[.val (.int p0), .val (.int p1), .val (.int p2), .val (.int p3), .val (.int p4), .val (.long p5), .second, .val (.int i1), .unset, .unset, .unset, .unset, .unset, .unset, .unset, .unset, .unset, .unset, .unset, .unset, .unset, .unset] [(.int (p1 &&& (2147483647 : Int32)))])) _
    refine XS.iload X0.here hx rfl (hb hby at_12) rfl ?_
    show Steps p.tables e below (s₁.setTop (mkF m 14 #[.val (.int p0), .val (.int p1), .val (.int p2), .val (.int p3), .val (.int p4), .val (.long p5), .second, .val (.int i1), .unset, .unset, .unset, .unset, .unset, .unset, .unset, .unset, .unset, .unset, .unset, .unset, .unset, .unset] [(.int i1), (.int (p1 &&& (2147483647 : Int32)))])) _
    refine iremM (g := (mkF m 14 #[.val (.int p0), .val (.int p1), .val (.int p2), .val (.int p3), .val (.int p4), .val (.long p5), .second, .val (.int i1), .unset, .unset, .unset, .unset, .unset, .unset, .unset, .unset, .unset, .unset, .unset, .unset, .unset, .unset] [(.int i1), (.int (p1 &&& (2147483647 : Int32)))])) X0 hx rfl (hb hby at_14) rfl (own_cap p0 i1 h_i1).1 ?_
    show Steps p.tables e below (s₁.setTop (mkF m 15 #[.val (.int p0), .val (.int p1), .val (.int p2), .val (.int p3), .val (.int p4), .val (.long p5), .second, .val (.int i1), .unset, .unset, .unset, .unset, .unset, .unset, .unset, .unset, .unset, .unset, .unset, .unset, .unset, .unset] [(.int ((p1 &&& (2147483647 : Int32)) % i1))])) _
    rw [← h_i2]
    show Steps p.tables e below (s₁.setTop (mkF m 15 #[.val (.int p0), .val (.int p1), .val (.int p2), .val (.int p3), .val (.int p4), .val (.long p5), .second, .val (.int i1), .unset, .unset, .unset, .unset, .unset, .unset, .unset, .unset, .unset, .unset, .unset, .unset, .unset, .unset] [(.int i2)])) _
    refine XS.istore X0.here hx rfl (hb hby at_15) rfl (l' := #[.val (.int p0), .val (.int p1), .val (.int p2), .val (.int p3), .val (.int p4), .val (.long p5), .second, .val (.int i1), .val (.int i2), .unset, .unset, .unset, .unset, .unset, .unset, .unset, .unset, .unset, .unset, .unset, .unset, .unset]) rfl ?_
    show Steps p.tables e below (s₁.setTop (mkF m 17 #[.val (.int p0), .val (.int p1), .val (.int p2), .val (.int p3), .val (.int p4), .val (.long p5), .second, .val (.int i1), .val (.int i2), .unset, .unset, .unset, .unset, .unset, .unset, .unset, .unset, .unset, .unset, .unset, .unset, .unset] [])) _
    refine XS.iloadN X0.here hx rfl (hb hby at_17) rfl ?_
    show Steps p.tables e below (s₁.setTop (mkF m 18 #[.val (.int p0), .val (.int p1), .val (.int p2), .val (.int p3), .val (.int p4), .val (.long p5), .second, .val (.int i1), .val (.int i2), .unset, .unset, .unset, .unset, .unset, .unset, .unset, .unset, .unset, .unset, .unset, .unset, .unset] [(.int p2)])) _
    refine X0.ldcInt hx hown (mvT hZ (hw _ (List.mem_of_getElem? (i := 0) rfl))) (g := (mkF m 18 #[.val (.int p0), .val (.int p1), .val (.int p2), .val (.int p3), .val (.int p4), .val (.long p5), .second, .val (.int i1), .val (.int i2), .unset, .unset, .unset, .unset, .unset, .unset, .unset, .unset, .unset, .unset, .unset, .unset, .unset] [(.int p2)])) rfl (hb hby at_18) _ ?_
    show Steps p.tables e below (s₁.setTop (mkF m 20 #[.val (.int p0), .val (.int p1), .val (.int p2), .val (.int p3), .val (.int p4), .val (.long p5), .second, .val (.int i1), .val (.int i2), .unset, .unset, .unset, .unset, .unset, .unset, .unset, .unset, .unset, .unset, .unset, .unset, .unset] [(.int (2147483647 : Int32)), (.int p2)])) _
    refine XS.iand X0.here hx rfl (hb hby at_20) rfl ?_
    show Steps p.tables e below (s₁.setTop (mkF m 21 #[.val (.int p0), .val (.int p1), .val (.int p2), .val (.int p3), .val (.int p4), .val (.long p5), .second, .val (.int i1), .val (.int i2), .unset, .unset, .unset, .unset, .unset, .unset, .unset, .unset, .unset, .unset, .unset, .unset, .unset] [(.int (p2 &&& (2147483647 : Int32)))])) _
    refine XS.iload X0.here hx rfl (hb hby at_21) rfl ?_
    show Steps p.tables e below (s₁.setTop (mkF m 23 #[.val (.int p0), .val (.int p1), .val (.int p2), .val (.int p3), .val (.int p4), .val (.long p5), .second, .val (.int i1), .val (.int i2), .unset, .unset, .unset, .unset, .unset, .unset, .unset, .unset, .unset, .unset, .unset, .unset, .unset] [(.int i1), (.int (p2 &&& (2147483647 : Int32)))])) _
    refine iremM (g := (mkF m 23 #[.val (.int p0), .val (.int p1), .val (.int p2), .val (.int p3), .val (.int p4), .val (.long p5), .second, .val (.int i1), .val (.int i2), .unset, .unset, .unset, .unset, .unset, .unset, .unset, .unset, .unset, .unset, .unset, .unset, .unset] [(.int i1), (.int (p2 &&& (2147483647 : Int32)))])) X0 hx rfl (hb hby at_23) rfl (own_cap p0 i1 h_i1).1 ?_
    show Steps p.tables e below (s₁.setTop (mkF m 24 #[.val (.int p0), .val (.int p1), .val (.int p2), .val (.int p3), .val (.int p4), .val (.long p5), .second, .val (.int i1), .val (.int i2), .unset, .unset, .unset, .unset, .unset, .unset, .unset, .unset, .unset, .unset, .unset, .unset, .unset] [(.int ((p2 &&& (2147483647 : Int32)) % i1))])) _
    rw [← h_i3]
    show Steps p.tables e below (s₁.setTop (mkF m 24 #[.val (.int p0), .val (.int p1), .val (.int p2), .val (.int p3), .val (.int p4), .val (.long p5), .second, .val (.int i1), .val (.int i2), .unset, .unset, .unset, .unset, .unset, .unset, .unset, .unset, .unset, .unset, .unset, .unset, .unset] [(.int i3)])) _
    refine XS.istore X0.here hx rfl (hb hby at_24) rfl (l' := #[.val (.int p0), .val (.int p1), .val (.int p2), .val (.int p3), .val (.int p4), .val (.long p5), .second, .val (.int i1), .val (.int i2), .val (.int i3), .unset, .unset, .unset, .unset, .unset, .unset, .unset, .unset, .unset, .unset, .unset, .unset]) rfl ?_
    show Steps p.tables e below (s₁.setTop (mkF m 26 #[.val (.int p0), .val (.int p1), .val (.int p2), .val (.int p3), .val (.int p4), .val (.long p5), .second, .val (.int i1), .val (.int i2), .val (.int i3), .unset, .unset, .unset, .unset, .unset, .unset, .unset, .unset, .unset, .unset, .unset, .unset] [])) _
    refine XS.iloadN X0.here hx rfl (hb hby at_26) rfl ?_
    show Steps p.tables e below (s₁.setTop (mkF m 27 #[.val (.int p0), .val (.int p1), .val (.int p2), .val (.int p3), .val (.int p4), .val (.long p5), .second, .val (.int i1), .val (.int i2), .val (.int i3), .unset, .unset, .unset, .unset, .unset, .unset, .unset, .unset, .unset, .unset, .unset, .unset] [(.int p3)])) _
    refine XS.iconst X0.here hx rfl (hb hby at_27) ?_
    show Steps p.tables e below (s₁.setTop (mkF m 28 #[.val (.int p0), .val (.int p1), .val (.int p2), .val (.int p3), .val (.int p4), .val (.long p5), .second, .val (.int i1), .val (.int i2), .val (.int i3), .unset, .unset, .unset, .unset, .unset, .unset, .unset, .unset, .unset, .unset, .unset, .unset] [(.int (1 : Int32)), (.int p3)])) _
    refine XS.iand X0.here hx rfl (hb hby at_28) rfl ?_
    show Steps p.tables e below (s₁.setTop (mkF m 29 #[.val (.int p0), .val (.int p1), .val (.int p2), .val (.int p3), .val (.int p4), .val (.long p5), .second, .val (.int i1), .val (.int i2), .val (.int i3), .unset, .unset, .unset, .unset, .unset, .unset, .unset, .unset, .unset, .unset, .unset, .unset] [(.int (p3 &&& (1 : Int32)))])) _
    exact kk
  obtain ⟨T6, L6, X6, N6, K6, v5, r_v5, P6⟩ : ∃ (T6 : State) (L6 : List Loc), Stand p l e room_1 s m #[(.int p0), (.int p1), (.int p2), (.int p3), (.int p4), (.long p5)] below meth c T6 L6 1 1 ∧ Fr n0 L6 ∧ Keep h0 T6.heap [] ∧ ∃ (v5 : Value), v5.isRef = true ∧ ∀ t, Steps p.tables e below (T6.setTop (mkF m 41 #[.val (.int p0), .val (.int p1), .val (.int p2), .val (.int p3), .val (.int p4), .val (.long p5), .second, .val (.int i1), .val (.int i2), .val (.int i3), .unset, .unset, .unset, .unset, .unset, .unset, .unset, .unset, .unset, .unset, .unset, .unset] [v5])) t → Steps p.tables e below (s₁.setTop (entryFrame m #[(.int p0), (.int p1), (.int p2), (.int p3), (.int p4), (.long p5)] maxLocals)) t := by
    by_cases c7 : (p3 &&& (1 : Int32)) = (0 : Int32)
    · skip
      obtain ⟨_, _, ⟨T8, L8, k8, n8⟩, -, X8, ⟨Lc8, hQ8, l8, y8, z8⟩, st8⟩ := Jvm.LawKit.callS X0 hx (y := (⟨"java/lang/Integer", "valueOf", "(I)Ljava/lang/Integer;"⟩ : MethodName)) hown (mvT hZ (hw _ (List.mem_of_getElem? (i := 51) rfl))) (mvT hZ (hw _ (List.mem_of_getElem? (i := 52) rfl))) (mvT hZ (hw _ (List.mem_of_getElem? (i := 53) rfl))) (mvT hZ (hw _ (List.mem_of_getElem? (i := 54) rfl))) (by decide) (backOf (W := 0) (rm3 l Z a0 hw [] p4 ci h0 n0 Z0 pr0 pr1 pr3) hZ (hw _ (List.mem_of_getElem? (i := 54) rfl)) (hw _ (List.mem_of_getElem? (i := 53) rfl)) (by decide) (by decide)) (g := (mkF m 38 #[.val (.int p0), .val (.int p1), .val (.int p2), .val (.int p3), .val (.int p4), .val (.long p5), .second, .val (.int i1), .val (.int i2), .val (.int i3), .unset, .unset, .unset, .unset, .unset, .unset, .unset, .unset, .unset, .unset, .unset, .unset] [(.int p4)])) rfl (by rw [hml]; rfl) (argsL := [(.int p4)]) (rest := []) (lenOf pd_3 rfl) rfl (by show 2 * 0 + _ ≤ _; exact Nat.le_of_eq rfl) (hb hby at_38) (fun _ _ => ⟨rfl, e0, (by decide : 0 + 1 ≤ _), (by decide : 0 + 1 ≤ _)⟩)
      dsimp only [Pt.U, Pt.locs, Pt.cells, Pt.slots] at X8 l8 y8 z8 st8 hQ8
      subst l8 y8 z8
      obtain ⟨r_8, rfl, Nq8, K8, q8_0⟩ := hQ8
      have N8 := Fr.app N0 Nq8
      refine ⟨_, _, X8, N8, (Keep.trans (Keep.refl _ []) K8 all0), r_8, q8_0, fun t kk => P4 t ?_⟩
      show Steps p.tables e below (s₁.setTop (mkF m 29 #[.val (.int p0), .val (.int p1), .val (.int p2), .val (.int p3), .val (.int p4), .val (.long p5), .second, .val (.int i1), .val (.int i2), .val (.int i3), .unset, .unset, .unset, .unset, .unset, .unset, .unset, .unset, .unset, .unset, .unset, .unset] [(.int (p3 &&& (1 : Int32)))])) _
      refine XS.ifYes X0.here hx rfl (pc0 := 29) (pc' := 36) rfl (hb hby at_29) rfl (XT.i0_eq_t c7) (by decide) (by decide) ?_
      show Steps p.tables e below (s₁.setTop (mkF m 36 #[.val (.int p0), .val (.int p1), .val (.int p2), .val (.int p3), .val (.int p4), .val (.long p5), .second, .val (.int i1), .val (.int i2), .val (.int i3), .unset, .unset, .unset, .unset, .unset, .unset, .unset, .unset, .unset, .unset, .unset, .unset] [])) _
      refine XS.iload X0.here hx rfl (hb hby at_36) rfl ?_
      show Steps p.tables e below (s₁.setTop (mkF m 38 #[.val (.int p0), .val (.int p1), .val (.int p2), .val (.int p3), .val (.int p4), .val (.long p5), .second, .val (.int i1), .val (.int i2), .val (.int i3), .unset, .unset, .unset, .unset, .unset, .unset, .unset, .unset, .unset, .unset, .unset, .unset] [(.int p4)])) _
      refine st8 _ ?_
      show Steps p.tables e below (T8.setTop (mkF m 41 #[.val (.int p0), .val (.int p1), .val (.int p2), .val (.int p3), .val (.int p4), .val (.long p5), .second, .val (.int i1), .val (.int i2), .val (.int i3), .unset, .unset, .unset, .unset, .unset, .unset, .unset, .unset, .unset, .unset, .unset, .unset] [r_8])) _
      exact kk
    · skip
      refine ⟨_, _, X0.more (by decide) (by decide), N0, (by rw [e0]; exact (Keep.refl _ [])), .null, rfl, fun t kk => P4 t ?_⟩
      show Steps p.tables e below (s₁.setTop (mkF m 29 #[.val (.int p0), .val (.int p1), .val (.int p2), .val (.int p3), .val (.int p4), .val (.long p5), .second, .val (.int i1), .val (.int i2), .val (.int i3), .unset, .unset, .unset, .unset, .unset, .unset, .unset, .unset, .unset, .unset, .unset, .unset] [(.int (p3 &&& (1 : Int32)))])) _
      refine XS.ifNo X0.here hx rfl (hb hby at_29) rfl (XT.i0_eq_f c7) ?_
      show Steps p.tables e below (s₁.setTop (mkF m 32 #[.val (.int p0), .val (.int p1), .val (.int p2), .val (.int p3), .val (.int p4), .val (.long p5), .second, .val (.int i1), .val (.int i2), .val (.int i3), .unset, .unset, .unset, .unset, .unset, .unset, .unset, .unset, .unset, .unset, .unset, .unset] [])) _
      refine XS.aconstNull X0.here hx rfl (hb hby at_32) ?_
      show Steps p.tables e below (s₁.setTop (mkF m 33 #[.val (.int p0), .val (.int p1), .val (.int p2), .val (.int p3), .val (.int p4), .val (.long p5), .second, .val (.int i1), .val (.int i2), .val (.int i3), .unset, .unset, .unset, .unset, .unset, .unset, .unset, .unset, .unset, .unset, .unset, .unset] [.null])) _
      refine XS.goto X0.here hx rfl (pc0 := 33) (pc' := 41) rfl (hb hby at_33) (by decide) (by decide) ?_
      show Steps p.tables e below (s₁.setTop (mkF m 41 #[.val (.int p0), .val (.int p1), .val (.int p2), .val (.int p3), .val (.int p4), .val (.long p5), .second, .val (.int i1), .val (.int i2), .val (.int i3), .unset, .unset, .unset, .unset, .unset, .unset, .unset, .unset, .unset, .unset, .unset, .unset] [.null])) _
      exact kk
  have P9 : ∀ t, Steps p.tables e below (T6.setTop (mkF m 46 #[.val (.int p0), .val (.int p1), .val (.int p2), .val (.int p3), .val (.int p4), .val (.long p5), .second, .val (.int i1), .val (.int i2), .val (.int i3), .val v5, .unset, .unset, .unset, .unset, .unset, .unset, .unset, .unset, .unset, .unset, .unset] [(.int (p3 &&& (2 : Int32)))])) t → Steps p.tables e below (s₁.setTop (entryFrame m #[(.int p0), (.int p1), (.int p2), (.int p3), (.int p4), (.long p5)] maxLocals)) t := by
    intro t kk
    refine P6 _ ?_
    show Steps p.tables e below (T6.setTop (mkF m 41 #[.val (.int p0), .val (.int p1), .val (.int p2), .val (.int p3), .val (.int p4), .val (.long p5), .second, .val (.int i1), .val (.int i2), .val (.int i3), .unset, .unset, .unset, .unset, .unset, .unset, .unset, .unset, .unset, .unset, .unset, .unset] [v5])) _
    refine XS.astoreS X6.here hx rfl (hb hby at_41) rfl r_v5 (XT.cat1 r_v5) rfl (Or.inl rfl) ?_
    show Steps p.tables e below (T6.setTop (mkF m 43 #[.val (.int p0), .val (.int p1), .val (.int p2), .val (.int p3), .val (.int p4), .val (.long p5), .second, .val (.int i1), .val (.int i2), .val (.int i3), .val v5, .unset, .unset, .unset, .unset, .unset, .unset, .unset, .unset, .unset, .unset, .unset] [])) _
    refine XS.iloadN X6.here hx rfl (hb hby at_43) rfl ?_
    show Steps p.tables e below (T6.setTop (mkF m 44 #[.val (.int p0), .val (.int p1), .val (.int p2), .val (.int p3), .val (.int p4), .val (.long p5), .second, .val (.int i1), .val (.int i2), .val (.int i3), .val v5, .unset, .unset, .unset, .unset, .unset, .unset, .unset, .unset, .unset, .unset, .unset] [(.int p3)])) _
    refine XS.iconst X6.here hx rfl (hb hby at_44) ?_
    show Steps p.tables e below (T6.setTop (mkF m 45 #[.val (.int p0), .val (.int p1), .val (.int p2), .val (.int p3), .val (.int p4), .val (.long p5), .second, .val (.int i1), .val (.int i2), .val (.int i3), .val v5, .unset, .unset, .unset, .unset, .unset, .unset, .unset, .unset, .unset, .unset, .unset] [(.int (2 : Int32)), (.int p3)])) _
    refine XS.iand X6.here hx rfl (hb hby at_45) rfl ?_
    show Steps p.tables e below (T6.setTop (mkF m 46 #[.val (.int p0), .val (.int p1), .val (.int p2), .val (.int p3), .val (.int p4), .val (.long p5), .second, .val (.int i1), .val (.int i2), .val (.int i3), .val v5, .unset, .unset, .unset, .unset, .unset, .unset, .unset, .unset, .unset, .unset, .unset] [(.int (p3 &&& (2 : Int32)))])) _
    exact kk
  obtain ⟨T11, L11, X11, N11, K11, v10, r_v10, P11⟩ : ∃ (T11 : State) (L11 : List Loc), Stand p l e room_1 s m #[(.int p0), (.int p1), (.int p2), (.int p3), (.int p4), (.long p5)] below meth c T11 L11 2 2 ∧ Fr n0 L11 ∧ Keep T6.heap T11.heap [] ∧ ∃ (v10 : Value), v10.isRef = true ∧ ∀ t, Steps p.tables e below (T11.setTop (mkF m 58 #[.val (.int p0), .val (.int p1), .val (.int p2), .val (.int p3), .val (.int p4), .val (.long p5), .second, .val (.int i1), .val (.int i2), .val (.int i3), .val v5, .unset, .unset, .unset, .unset, .unset, .unset, .unset, .unset, .unset, .unset, .unset] [v10])) t → Steps p.tables e below (s₁.setTop (entryFrame m #[(.int p0), (.int p1), (.int p2), (.int p3), (.int p4), (.long p5)] maxLocals)) t := by
    by_cases c12 : (p3 &&& (2 : Int32)) = (0 : Int32)
    · skip
      have f14 := (own_sta_keep0 pr2 K6 )
      have z15 : n0 ≤ _ := (Nat.le_trans Z0 K6.1)
      obtain ⟨_, _, ⟨T13, L13, k13, n13⟩, -, X13, ⟨Lc13, hQ13, l13, y13, z13⟩, st13⟩ := Jvm.LawKit.callS X6 hx (y := (⟨"java/lang/Long", "valueOf", "(J)Ljava/lang/Long;"⟩ : MethodName)) hown (mvT hZ (hw _ (List.mem_of_getElem? (i := 1) rfl))) (mvT hZ (hw _ (List.mem_of_getElem? (i := 2) rfl))) (mvT hZ (hw _ (List.mem_of_getElem? (i := 3) rfl))) (mvT hZ (hw _ (List.mem_of_getElem? (i := 4) rfl))) (by decide) (backOf (W := 0) (rm5 l Z a0 hw [] p5 cl T6.heap n0 z15 f14 (Cac.keep0 pr4 K6)) hZ (hw _ (List.mem_of_getElem? (i := 4) rfl)) (hw _ (List.mem_of_getElem? (i := 3) rfl)) (by decide) (by decide)) (g := (mkF m 55 #[.val (.int p0), .val (.int p1), .val (.int p2), .val (.int p3), .val (.int p4), .val (.long p5), .second, .val (.int i1), .val (.int i2), .val (.int i3), .val v5, .unset, .unset, .unset, .unset, .unset, .unset, .unset, .unset, .unset, .unset, .unset] [(.long p5)])) rfl (by rw [hml]; rfl) (argsL := [(.long p5)]) (rest := []) (lenOf pd_4 rfl) rfl (by show 2 * 0 + _ ≤ _; exact Nat.le_of_eq rfl) (hb hby at_55) (fun _ _ => ⟨rfl, rfl, (by decide : 1 + 1 ≤ _), (by decide : 1 + 1 ≤ _)⟩)
      dsimp only [Pt.U, Pt.locs, Pt.cells, Pt.slots] at X13 l13 y13 z13 st13 hQ13
      subst l13 y13 z13
      obtain ⟨r_13, rfl, Nq13, K13, q13_0⟩ := hQ13
      have N13 := Fr.app N6 Nq13
      refine ⟨_, _, X13, N13, (Keep.trans (Keep.refl _ []) K13 all0), r_13, q13_0, fun t kk => P9 t ?_⟩
      show Steps p.tables e below (T6.setTop (mkF m 46 #[.val (.int p0), .val (.int p1), .val (.int p2), .val (.int p3), .val (.int p4), .val (.long p5), .second, .val (.int i1), .val (.int i2), .val (.int i3), .val v5, .unset, .unset, .unset, .unset, .unset, .unset, .unset, .unset, .unset, .unset, .unset] [(.int (p3 &&& (2 : Int32)))])) _
      refine XS.ifYes X6.here hx rfl (pc0 := 46) (pc' := 53) rfl (hb hby at_46) rfl (XT.i0_eq_t c12) (by decide) (by decide) ?_
      show Steps p.tables e below (T6.setTop (mkF m 53 #[.val (.int p0), .val (.int p1), .val (.int p2), .val (.int p3), .val (.int p4), .val (.long p5), .second, .val (.int i1), .val (.int i2), .val (.int i3), .val v5, .unset, .unset, .unset, .unset, .unset, .unset, .unset, .unset, .unset, .unset, .unset] [])) _
      refine XS.lload X6.here hx rfl (hb hby at_53) rfl ?_
      show Steps p.tables e below (T6.setTop (mkF m 55 #[.val (.int p0), .val (.int p1), .val (.int p2), .val (.int p3), .val (.int p4), .val (.long p5), .second, .val (.int i1), .val (.int i2), .val (.int i3), .val v5, .unset, .unset, .unset, .unset, .unset, .unset, .unset, .unset, .unset, .unset, .unset] [(.long p5)])) _
      refine st13 _ ?_
      show Steps p.tables e below (T13.setTop (mkF m 58 #[.val (.int p0), .val (.int p1), .val (.int p2), .val (.int p3), .val (.int p4), .val (.long p5), .second, .val (.int i1), .val (.int i2), .val (.int i3), .val v5, .unset, .unset, .unset, .unset, .unset, .unset, .unset, .unset, .unset, .unset, .unset] [r_13])) _
      exact kk
    · skip
      refine ⟨_, _, X6.more (by decide) (by decide), N6, (Keep.refl _ []), .null, rfl, fun t kk => P9 t ?_⟩
      show Steps p.tables e below (T6.setTop (mkF m 46 #[.val (.int p0), .val (.int p1), .val (.int p2), .val (.int p3), .val (.int p4), .val (.long p5), .second, .val (.int i1), .val (.int i2), .val (.int i3), .val v5, .unset, .unset, .unset, .unset, .unset, .unset, .unset, .unset, .unset, .unset, .unset] [(.int (p3 &&& (2 : Int32)))])) _
      refine XS.ifNo X6.here hx rfl (hb hby at_46) rfl (XT.i0_eq_f c12) ?_
      show Steps p.tables e below (T6.setTop (mkF m 49 #[.val (.int p0), .val (.int p1), .val (.int p2), .val (.int p3), .val (.int p4), .val (.long p5), .second, .val (.int i1), .val (.int i2), .val (.int i3), .val v5, .unset, .unset, .unset, .unset, .unset, .unset, .unset, .unset, .unset, .unset, .unset] [])) _
      refine XS.aconstNull X6.here hx rfl (hb hby at_49) ?_
      show Steps p.tables e below (T6.setTop (mkF m 50 #[.val (.int p0), .val (.int p1), .val (.int p2), .val (.int p3), .val (.int p4), .val (.long p5), .second, .val (.int i1), .val (.int i2), .val (.int i3), .val v5, .unset, .unset, .unset, .unset, .unset, .unset, .unset, .unset, .unset, .unset, .unset] [.null])) _
      refine XS.goto X6.here hx rfl (pc0 := 50) (pc' := 58) rfl (hb hby at_50) (by decide) (by decide) ?_
      show Steps p.tables e below (T6.setTop (mkF m 58 #[.val (.int p0), .val (.int p1), .val (.int p2), .val (.int p3), .val (.int p4), .val (.long p5), .second, .val (.int i1), .val (.int i2), .val (.int i3), .val v5, .unset, .unset, .unset, .unset, .unset, .unset, .unset, .unset, .unset, .unset, .unset] [.null])) _
      exact kk
  obtain ⟨T16, h16, X16, e16, E16, A16, D16, -, st16⟩ := newO X11 hx hZ hown (hw _ (List.mem_of_getElem? (i := 9) rfl)) (hw _ (List.mem_of_getElem? (i := 10) rfl)) (hw _ (List.mem_of_getElem? (i := 11) rfl)) rfl (g := (mkF m 60 #[.val (.int p0), .val (.int p1), .val (.int p2), .val (.int p3), .val (.int p4), .val (.long p5), .second, .val (.int i1), .val (.int i2), .val (.int i3), .val v5, .val v10, .unset, .unset, .unset, .unset, .unset, .unset, .unset, .unset, .unset, .unset] [])) rfl (hb hby at_60) (by decide) (by decide)
  have z17 : n0 ≤ _ := (Nat.le_trans (Nat.le_trans Z0 K6.1) K11.1)
  have k18 : Keep h0 T11.heap [] := (Keep.trans (Keep.trans (Keep.refl h0 []) K6 all0) K11 all0)
  obtain ⟨b16, g_b16⟩ : ∃ z, z = T11.heap.size := ⟨_, rfl⟩
  rw [← g_b16] at A16 D16 st16
  have ge_b16 : n0 ≤ b16 := Nat.le_trans z17 (Nat.le_of_eq g_b16.symm)
  have sz_b16 : h0.size ≤ b16 := Nat.le_trans k18.1 (Nat.le_of_eq g_b16.symm)
  have F16_19 : Fld Z h16 b16 "com/example/quernloop/quernloop/Message" "obj" "Ljava/lang/Object;" .null := D16 (Or.inl (hw _ (List.mem_of_getElem? (i := 19) rfl))) (ty := (.object "java/lang/Object")) (by decide)
  have z20 : n0 ≤ _ := (Nat.le_trans z17 E16.1)
  obtain ⟨_, _, ⟨T19, L19, k19, n19⟩, -, X19, ⟨Lc19, hQ19, l19, y19, z19⟩, st19⟩ := X16.specialBack hx (y := (⟨"com/example/quernloop/quernloop/Message", "<init>", "()V"⟩ : MethodName)) rfl hown (mvT hZ (hw _ (List.mem_of_getElem? (i := 12) rfl))) (mvT hZ (hw _ (List.mem_of_getElem? (i := 13) rfl))) (mvT hZ (hw _ (List.mem_of_getElem? (i := 14) rfl))) (by decide) (backOf (W := 1) (rm6 l Z a0 hw [] b16 h16 n0 z20 ) hZ (hw _ (List.mem_of_getElem? (i := 14) rfl)) (hw _ (List.mem_of_getElem? (i := 11) rfl)) (by decide) (by decide)) (g := (mkF m 64 #[.val (.int p0), .val (.int p1), .val (.int p2), .val (.int p3), .val (.int p4), .val (.long p5), .second, .val (.int i1), .val (.int i2), .val (.int i3), .val v5, .val v10, .unset, .unset, .unset, .unset, .unset, .unset, .unset, .unset, .unset, .unset] [(.ref b16), (.ref b16)])) rfl (by rw [hml]; rfl) (Steps.refl _) (a := b16) (argsL := []) (rest := [(.ref b16)]) (lenOf pd_0 rfl) rfl (by show 2 * 0 + _ ≤ _; exact Nat.le_of_eq rfl) (hb hby at_64) (fun _ _ => ⟨rfl, e16, (by decide : 3 + 0 ≤ _), (by decide : 10 + 0 ≤ _)⟩)
  dsimp only [Pt.U, Pt.locs, Pt.cells, Pt.slots] at X19 l19 y19 z19 st19 hQ19
  subst l19 y19 z19
  obtain ⟨rfl, Nq19, e19⟩ := hQ19
  have N19 := Fr.app N11 Nq19
  obtain ⟨T21, h21, X21, e21, W21, st21⟩ := putF X19 hx hZ hown (host := "") (Or.inl (hw _ (List.mem_of_getElem? (i := 18) rfl))) Via.refl e19 F16_19 A16 (Or.inl (hw _ (List.mem_of_getElem? (i := 19) rfl))) (hw _ (List.mem_of_getElem? (i := 10) rfl)) (ty := (.object "java/lang/Object")) (by decide) (own_narrow_ref r_v5) (own_fits_ref r_v5) (g := (mkF m 73 #[.val (.int p0), .val (.int p1), .val (.int p2), .val (.int p3), .val (.int p4), .val (.long p5), .second, .val (.int i1), .val (.int i2), .val (.int i3), .val v5, .val v10, .val (.ref b16), .unset, .unset, .unset, .unset, .unset, .unset, .unset, .unset, .unset] [v5, (.ref b16)])) rfl rfl (hb hby at_73)
  have N21 := Fr.snoc X21 N19 ge_b16
  have Fw21 := Fld.same W21 F16_19
  obtain ⟨T22, h22, X22, e22, E22, A22, D22, -, st22⟩ := newO X21 hx hZ hown (hw _ (List.mem_of_getElem? (i := 9) rfl)) (hw _ (List.mem_of_getElem? (i := 10) rfl)) (hw _ (List.mem_of_getElem? (i := 11) rfl)) e21 (g := (mkF m 76 #[.val (.int p0), .val (.int p1), .val (.int p2), .val (.int p3), .val (.int p4), .val (.long p5), .second, .val (.int i1), .val (.int i2), .val (.int i3), .val v5, .val v10, .val (.ref b16), .unset, .unset, .unset, .unset, .unset, .unset, .unset, .unset, .unset] [])) rfl (hb hby at_76) (by decide) (by decide)
  have f23 := (Exa.wr W21 A16)
  have z24 : n0 ≤ _ := (Nat.le_trans z20 (Keep.of_wr W21).1)
  have k25 : Keep h0 h21 [] := (Keep.wr (Keep.ext k18 E16) W21 (Or.inr sz_b16))
  obtain ⟨b22, g_b22⟩ : ∃ z, z = h21.size := ⟨_, rfl⟩
  rw [← g_b22] at A22 D22 st22
  have ne_b16_b22 : b16 ≠ b22 := Nat.ne_of_lt (Nat.lt_of_lt_of_le f23.lt (Nat.le_of_eq g_b22.symm))
  have ge_b22 : n0 ≤ b22 := Nat.le_trans z24 (Nat.le_of_eq g_b22.symm)
  have sz_b22 : h0.size ≤ b22 := Nat.le_trans k25.1 (Nat.le_of_eq g_b22.symm)
  have F22_19 : Fld Z h22 b22 "com/example/quernloop/quernloop/Message" "obj" "Ljava/lang/Object;" .null := D22 (Or.inl (hw _ (List.mem_of_getElem? (i := 19) rfl))) (ty := (.object "java/lang/Object")) (by decide)
  have z27 : n0 ≤ _ := (Nat.le_trans z24 E22.1)
  obtain ⟨_, _, ⟨T26, L26, k26, n26⟩, -, X26, ⟨Lc26, hQ26, l26, y26, z26⟩, st26⟩ := X22.specialBack hx (y := (⟨"com/example/quernloop/quernloop/Message", "<init>", "()V"⟩ : MethodName)) rfl hown (mvT hZ (hw _ (List.mem_of_getElem? (i := 12) rfl))) (mvT hZ (hw _ (List.mem_of_getElem? (i := 13) rfl))) (mvT hZ (hw _ (List.mem_of_getElem? (i := 14) rfl))) (by decide) (backOf (W := 1) (rm6 l Z a0 hw [] b22 h22 n0 z27 ) hZ (hw _ (List.mem_of_getElem? (i := 14) rfl)) (hw _ (List.mem_of_getElem? (i := 11) rfl)) (by decide) (by decide)) (g := (mkF m 80 #[.val (.int p0), .val (.int p1), .val (.int p2), .val (.int p3), .val (.int p4), .val (.long p5), .second, .val (.int i1), .val (.int i2), .val (.int i3), .val v5, .val v10, .val (.ref b16), .unset, .unset, .unset, .unset, .unset, .unset, .unset, .unset, .unset] [(.ref b22), (.ref b22)])) rfl (by rw [hml]; rfl) (Steps.refl _) (a := b22) (argsL := []) (rest := [(.ref b22)]) (lenOf pd_0 rfl) rfl (by show 2 * 0 + _ ≤ _; exact Nat.le_of_eq rfl) (hb hby at_80) (fun _ _ => ⟨rfl, e22, (by decide : 4 + 0 ≤ _), (by decide : 18 + 0 ≤ _)⟩)
  dsimp only [Pt.U, Pt.locs, Pt.cells, Pt.slots] at X26 l26 y26 z26 st26 hQ26
  subst l26 y26 z26
  obtain ⟨rfl, Nq26, e26⟩ := hQ26
  have N26 := Fr.app N21 Nq26
  obtain ⟨T28, h28, X28, e28, W28, st28⟩ := putF X26 hx hZ hown (host := "") (Or.inl (hw _ (List.mem_of_getElem? (i := 18) rfl))) Via.refl e26 F22_19 A22 (Or.inl (hw _ (List.mem_of_getElem? (i := 19) rfl))) (hw _ (List.mem_of_getElem? (i := 10) rfl)) (ty := (.object "java/lang/Object")) (by decide) (own_narrow_ref r_v10) (own_fits_ref r_v10) (g := (mkF m 89 #[.val (.int p0), .val (.int p1), .val (.int p2), .val (.int p3), .val (.int p4), .val (.long p5), .second, .val (.int i1), .val (.int i2), .val (.int i3), .val v5, .val v10, .val (.ref b16), .val (.ref b22), .unset, .unset, .unset, .unset, .unset, .unset, .unset, .unset] [v10, (.ref b22)])) rfl rfl (hb hby at_89)
  have N28 := Fr.snoc X28 N26 ge_b22
  have Fw28 := Fld.same W28 F22_19
  obtain ⟨T29, h29, X29, e29, E29, A29, D29, -, st29⟩ := newO X28 hx hZ hown (hw _ (List.mem_of_getElem? (i := 20) rfl)) (hw _ (List.mem_of_getElem? (i := 21) rfl)) (hw _ (List.mem_of_getElem? (i := 22) rfl)) e28 (g := (mkF m 92 #[.val (.int p0), .val (.int p1), .val (.int p2), .val (.int p3), .val (.int p4), .val (.long p5), .second, .val (.int i1), .val (.int i2), .val (.int i3), .val v5, .val v10, .val (.ref b16), .val (.ref b22), .unset, .unset, .unset, .unset, .unset, .unset, .unset, .unset] [])) rfl (hb hby at_92) (by decide) (by decide)
  have f30 := (Exa.wr W28 (Exa.ext E22 f23))
  have f31 := (Exa.wr W28 A22)
  have z32 : n0 ≤ _ := (Nat.le_trans z27 (Keep.of_wr W28).1)
  have k33 : Keep h0 h28 [] := (Keep.wr (Keep.ext k25 E22) W28 (Or.inr sz_b22))
  obtain ⟨b29, g_b29⟩ : ∃ z, z = h28.size := ⟨_, rfl⟩
  rw [← g_b29] at A29 D29 st29
  have ne_b16_b29 : b16 ≠ b29 := Nat.ne_of_lt (Nat.lt_of_lt_of_le f30.lt (Nat.le_of_eq g_b29.symm))
  have ne_b22_b29 : b22 ≠ b29 := Nat.ne_of_lt (Nat.lt_of_lt_of_le f31.lt (Nat.le_of_eq g_b29.symm))
  have ge_b29 : n0 ≤ b29 := Nat.le_trans z32 (Nat.le_of_eq g_b29.symm)
  have sz_b29 : h0.size ≤ b29 := Nat.le_trans k33.1 (Nat.le_of_eq g_b29.symm)
  have F29_30 : Fld Z h29 b29 "com/example/quernloop/quernloop/WorkSlots" "work" "[Ljava/lang/Object;" .null := D29 (Or.inl (hw _ (List.mem_of_getElem? (i := 30) rfl))) (ty := (.array (.object "java/lang/Object"))) (by decide)
  have F29_34 : Fld Z h29 b29 "com/example/quernloop/quernloop/WorkSlots" "handlers" "[Lcom/example/quernloop/quernloop/Handler;" .null := D29 (Or.inl (hw _ (List.mem_of_getElem? (i := 34) rfl))) (ty := (.array (.object "com/example/quernloop/quernloop/Handler"))) (by decide)
  have F29_36 : Fld Z h29 b29 "com/example/quernloop/quernloop/WorkSlots" "tokens" "[Ljava/lang/Object;" .null := D29 (Or.inl (hw _ (List.mem_of_getElem? (i := 36) rfl))) (ty := (.array (.object "java/lang/Object"))) (by decide)
  have z35 : n0 ≤ _ := (Nat.le_trans z32 E29.1)
  obtain ⟨_, _, ⟨T34, L34, k34, n34⟩, -, X34, ⟨Lc34, hQ34, l34, y34, z34⟩, st34⟩ := X29.specialBack hx (y := (⟨"com/example/quernloop/quernloop/WorkSlots", "<init>", "(I)V"⟩ : MethodName)) rfl hown (mvT hZ (hw _ (List.mem_of_getElem? (i := 23) rfl))) (mvT hZ (hw _ (List.mem_of_getElem? (i := 24) rfl))) (mvT hZ (hw _ (List.mem_of_getElem? (i := 25) rfl))) (by decide) (backOf (W := 1) (rm7 l Z a0 hw [] b29 i1 h29 n0 z35 A29 F29_30 F29_34 F29_36 ge_b29 (own_cap p0 i1 h_i1).2.1) hZ (hw _ (List.mem_of_getElem? (i := 25) rfl)) (hw _ (List.mem_of_getElem? (i := 22) rfl)) (by decide) (by decide)) (g := (mkF m 98 #[.val (.int p0), .val (.int p1), .val (.int p2), .val (.int p3), .val (.int p4), .val (.long p5), .second, .val (.int i1), .val (.int i2), .val (.int i3), .val v5, .val v10, .val (.ref b16), .val (.ref b22), .unset, .unset, .unset, .unset, .unset, .unset, .unset, .unset] [(.int i1), (.ref b29), (.ref b29)])) rfl (by rw [hml]; rfl) (Steps.refl _) (a := b29) (argsL := [(.int i1)]) (rest := [(.ref b29)]) (lenOf pd_1 rfl) rfl (by show 2 * 0 + _ ≤ _; exact Nat.le_of_eq rfl) (hb hby at_98) (fun _ _ => ⟨rfl, e29, (by decide : 5 + 3 ≤ _), (by decide : 21 + 24 ≤ _)⟩)
  dsimp only [Pt.U, Pt.locs, Pt.cells, Pt.slots] at X34 l34 y34 z34 st34 hQ34
  subst l34 y34 z34
  have f36 := (Exa.ext E29 f30)
  have f37 := (Exa.ext E29 f31)
  have k38 : Keep h0 h29 [] := (Keep.ext k33 E29)
  obtain ⟨b1_34, b2_34, b3_34, k1_34, k2_34, k3_34, rfl, Nq34, K34, q34_0, q34_1, q34_2, q34_3, q34_4, q34_5, q34_6, q34_7, q34_8, q34_9, q34_10, q34_11, q34_12, q34_13, q34_14, q34_15⟩ := hQ34
  have N34 := Fr.app N28 Nq34
  have ne_b16_b1_34 : b16 ≠ b1_34 := Nat.ne_of_lt (Nat.lt_of_lt_of_le f36.lt q34_7)
  have ne_b22_b1_34 : b22 ≠ b1_34 := Nat.ne_of_lt (Nat.lt_of_lt_of_le f37.lt q34_7)
  have ne_b29_b1_34 : b29 ≠ b1_34 := Nat.ne_of_lt (Nat.lt_of_lt_of_le A29.lt q34_7)
  have ge_b1_34 : n0 ≤ b1_34 := Nat.le_trans z35 q34_7
  have sz_b1_34 : h0.size ≤ b1_34 := Nat.le_trans k38.1 q34_7
  have ne_b16_b2_34 : b16 ≠ b2_34 := Nat.ne_of_lt (Nat.lt_of_lt_of_le f36.lt q34_8)
  have ne_b22_b2_34 : b22 ≠ b2_34 := Nat.ne_of_lt (Nat.lt_of_lt_of_le f37.lt q34_8)
  have ne_b29_b2_34 : b29 ≠ b2_34 := Nat.ne_of_lt (Nat.lt_of_lt_of_le A29.lt q34_8)
  have ge_b2_34 : n0 ≤ b2_34 := Nat.le_trans z35 q34_8
  have sz_b2_34 : h0.size ≤ b2_34 := Nat.le_trans k38.1 q34_8
  have ne_b16_b3_34 : b16 ≠ b3_34 := Nat.ne_of_lt (Nat.lt_of_lt_of_le f36.lt q34_9)
  have ne_b22_b3_34 : b22 ≠ b3_34 := Nat.ne_of_lt (Nat.lt_of_lt_of_le f37.lt q34_9)
  have ne_b29_b3_34 : b29 ≠ b3_34 := Nat.ne_of_lt (Nat.lt_of_lt_of_le A29.lt q34_9)
  have ge_b3_34 : n0 ≤ b3_34 := Nat.le_trans z35 q34_9
  have sz_b3_34 : h0.size ≤ b3_34 := Nat.le_trans k38.1 q34_9
  have f40 := (Exa.keep A29 K34)
  have f41 := (Exa.keep f36 K34)
  have z42 : n0 ≤ _ := (Nat.le_trans z35 K34.1)
  obtain ⟨cq39, kq39, q39a, q39b, q39c⟩ := isOf hZ rfl f40
  obtain ⟨_, _, ⟨T39, L39, k39, n39⟩, -, X39, ⟨Lc39, hQ39, l39, y39, z39⟩, st39⟩ := X34.virtualBack hx (y := (⟨"com/example/quernloop/quernloop/WorkSlots", "set", "(ILjava/lang/Object;Lcom/example/quernloop/quernloop/Handler;Ljava/lang/Object;)V"⟩ : MethodName)) (z := (⟨"com/example/quernloop/quernloop/WorkSlots", "set", "(ILjava/lang/Object;Lcom/example/quernloop/quernloop/Handler;Ljava/lang/Object;)V"⟩ : MethodName)) hown (mvT hZ (hw _ (List.mem_of_getElem? (i := 37) rfl))) (mvT hZ (hw _ (List.mem_of_getElem? (i := 38) rfl))) (notFace_of_selects (args := #[]) (mvT hZ (hw _ (List.mem_of_getElem? (i := 40) rfl)))) (mvT hZ (hw _ (List.mem_of_getElem? (i := 40) rfl))) (mvT hZ (hw _ (List.mem_of_getElem? (i := 39) rfl))) (by decide) (backOf (W := 0) (rm8 l Z a0 hw [] b29 i2 b16 b1_34 b2_34 b3_34 k1_34 k2_34 k3_34 i1 (fun _ => .null) (fun _ => .null) (fun _ => .null) T34.heap n0 z42 f40 q34_0 q34_1 q34_2 q34_3 q34_4 q34_5 q34_6 ge_b1_34 ge_b2_34 ge_b3_34 q34_10 q34_11 q34_12 q34_13 q34_14 q34_15 f41 (own_idx p1 i1 i2 (own_cap p0 i1 h_i1).2.2.1 h_i2)) hZ (hw _ (List.mem_of_getElem? (i := 41) rfl)) (hw _ (List.mem_of_getElem? (i := 22) rfl)) (by decide) (by decide)) q39a q39c (g := (mkF m 111 #[.val (.int p0), .val (.int p1), .val (.int p2), .val (.int p3), .val (.int p4), .val (.long p5), .second, .val (.int i1), .val (.int i2), .val (.int i3), .val v5, .val v10, .val (.ref b16), .val (.ref b22), .val (.ref b29), .unset, .unset, .unset, .unset, .unset, .unset, .unset] [.null, .null, (.ref b16), (.int i2), (.ref b29)])) rfl (by rw [hml]; rfl) (Steps.refl _) (argsL := [(.int i2), (.ref b16), .null, .null]) (rest := []) (lenOf pd_5 rfl) rfl (by show 2 * 0 + _ ≤ _; exact Nat.le_of_eq rfl) (hb hby at_111) (fun _ _ => ⟨rfl, rfl, (by decide : 8 + 0 ≤ _), (by decide : 45 + 0 ≤ _)⟩)
  dsimp only [Pt.U, Pt.locs, Pt.cells, Pt.slots] at X39 l39 y39 z39 st39 hQ39
  subst l39 y39 z39
  obtain ⟨rfl, Nq39, K39, q39_0, q39_1, q39_2⟩ := hQ39
  have N39 := Fr.app N34 Nq39
  have P43 : ∀ t, Steps p.tables e below (T39.setTop (mkF m 121 #[.val (.int p0), .val (.int p1), .val (.int p2), .val (.int p3), .val (.int p4), .val (.long p5), .second, .val (.int i1), .val (.int i2), .val (.int i3), .val v5, .val v10, .val (.ref b16), .val (.ref b22), .val (.ref b29), .unset, .unset, .unset, .unset, .unset, .unset, .unset] [.null, (.ref b22), (.int i3), (.ref b29)])) t → Steps p.tables e below (s₁.setTop (entryFrame m #[(.int p0), (.int p1), (.int p2), (.int p3), (.int p4), (.long p5)] maxLocals)) t := by
    intro t kk
    refine P11 _ ?_
    show Steps p.tables e below (T11.setTop (mkF m 58 #[.val (.int p0), .val (.int p1), .val (.int p2), .val (.int p3), .val (.int p4), .val (.long p5), .second, .val (.int i1), .val (.int i2), .val (.int i3), .val v5, .unset, .unset, .unset, .unset, .unset, .unset, .unset, .unset, .unset, .unset, .unset] [v10])) _
    refine XS.astoreS X11.here hx rfl (hb hby at_58) rfl r_v10 (XT.cat1 r_v10) rfl (Or.inl rfl) ?_
    show Steps p.tables e below (T11.setTop (mkF m 60 #[.val (.int p0), .val (.int p1), .val (.int p2), .val (.int p3), .val (.int p4), .val (.long p5), .second, .val (.int i1), .val (.int i2), .val (.int i3), .val v5, .val v10, .unset, .unset, .unset, .unset, .unset, .unset, .unset, .unset, .unset, .unset] [])) _
    refine st16 _ ?_
    show Steps p.tables e below (T16.setTop (mkF m 63 #[.val (.int p0), .val (.int p1), .val (.int p2), .val (.int p3), .val (.int p4), .val (.long p5), .second, .val (.int i1), .val (.int i2), .val (.int i3), .val v5, .val v10, .unset, .unset, .unset, .unset, .unset, .unset, .unset, .unset, .unset, .unset] [(.ref b16)])) _
    refine XS.dup X16.here hx rfl (hb hby at_63) rfl rfl ?_
    show Steps p.tables e below (T16.setTop (mkF m 64 #[.val (.int p0), .val (.int p1), .val (.int p2), .val (.int p3), .val (.int p4), .val (.long p5), .second, .val (.int i1), .val (.int i2), .val (.int i3), .val v5, .val v10, .unset, .unset, .unset, .unset, .unset, .unset, .unset, .unset, .unset, .unset] [(.ref b16), (.ref b16)])) _
    refine st19.trans ?_
    show Steps p.tables e below (T19.setTop (mkF m 67 #[.val (.int p0), .val (.int p1), .val (.int p2), .val (.int p3), .val (.int p4), .val (.long p5), .second, .val (.int i1), .val (.int i2), .val (.int i3), .val v5, .val v10, .unset, .unset, .unset, .unset, .unset, .unset, .unset, .unset, .unset, .unset] [(.ref b16)])) _
    refine XS.astore X19.here hx rfl (hb hby at_67) rfl rfl (l' := #[.val (.int p0), .val (.int p1), .val (.int p2), .val (.int p3), .val (.int p4), .val (.long p5), .second, .val (.int i1), .val (.int i2), .val (.int i3), .val v5, .val v10, .val (.ref b16), .unset, .unset, .unset, .unset, .unset, .unset, .unset, .unset, .unset]) rfl ?_
    show Steps p.tables e below (T19.setTop (mkF m 69 #[.val (.int p0), .val (.int p1), .val (.int p2), .val (.int p3), .val (.int p4), .val (.long p5), .second, .val (.int i1), .val (.int i2), .val (.int i3), .val v5, .val v10, .val (.ref b16), .unset, .unset, .unset, .unset, .unset, .unset, .unset, .unset, .unset] [])) _
    refine XS.aload X19.here hx rfl (hb hby at_69) rfl rfl ?_
    show Steps p.tables e below (T19.setTop (mkF m 71 #[.val (.int p0), .val (.int p1), .val (.int p2), .val (.int p3), .val (.int p4), .val (.long p5), .second, .val (.int i1), .val (.int i2), .val (.int i3), .val v5, .val v10, .val (.ref b16), .unset, .unset, .unset, .unset, .unset, .unset, .unset, .unset, .unset] [(.ref b16)])) _
    refine XS.aload X19.here hx rfl (hb hby at_71) rfl r_v5 ?_
    show Steps p.tables e below (T19.setTop (mkF m 73 #[.val (.int p0), .val (.int p1), .val (.int p2), .val (.int p3), .val (.int p4), .val (.long p5), .second, .val (.int i1), .val (.int i2), .val (.int i3), .val v5, .val v10, .val (.ref b16), .unset, .unset, .unset, .unset, .unset, .unset, .unset, .unset, .unset] [v5, (.ref b16)])) _
    refine st21 _ ?_
    show Steps p.tables e below (T21.setTop (mkF m 76 #[.val (.int p0), .val (.int p1), .val (.int p2), .val (.int p3), .val (.int p4), .val (.long p5), .second, .val (.int i1), .val (.int i2), .val (.int i3), .val v5, .val v10, .val (.ref b16), .unset, .unset, .unset, .unset, .unset, .unset, .unset, .unset, .unset] [])) _
    refine st22 _ ?_
    show Steps p.tables e below (T22.setTop (mkF m 79 #[.val (.int p0), .val (.int p1), .val (.int p2), .val (.int p3), .val (.int p4), .val (.long p5), .second, .val (.int i1), .val (.int i2), .val (.int i3), .val v5, .val v10, .val (.ref b16), .unset, .unset, .unset, .unset, .unset, .unset, .unset, .unset, .unset] [(.ref b22)])) _
    refine XS.dup X22.here hx rfl (hb hby at_79) rfl rfl ?_
    show Steps p.tables e below (T22.setTop (mkF m 80 #[.val (.int p0), .val (.int p1), .val (.int p2), .val (.int p3), .val (.int p4), .val (.long p5), .second, .val (.int i1), .val (.int i2), .val (.int i3), .val v5, .val v10, .val (.ref b16), .unset, .unset, .unset, .unset, .unset, .unset, .unset, .unset, .unset] [(.ref b22), (.ref b22)])) _
    refine st26.trans ?_
    show Steps p.tables e below (T26.setTop (mkF m 83 #[.val (.int p0), .val (.int p1), .val (.int p2), .val (.int p3), .val (.int p4), .val (.long p5), .second, .val (.int i1), .val (.int i2), .val (.int i3), .val v5, .val v10, .val (.ref b16), .unset, .unset, .unset, .unset, .unset, .unset, .unset, .unset, .unset] [(.ref b22)])) _
    refine XS.astore X26.here hx rfl (hb hby at_83) rfl rfl (l' := #[.val (.int p0), .val (.int p1), .val (.int p2), .val (.int p3), .val (.int p4), .val (.long p5), .second, .val (.int i1), .val (.int i2), .val (.int i3), .val v5, .val v10, .val (.ref b16), .val (.ref b22), .unset, .unset, .unset, .unset, .unset, .unset, .unset, .unset]) rfl ?_
    show Steps p.tables e below (T26.setTop (mkF m 85 #[.val (.int p0), .val (.int p1), .val (.int p2), .val (.int p3), .val (.int p4), .val (.long p5), .second, .val (.int i1), .val (.int i2), .val (.int i3), .val v5, .val v10, .val (.ref b16), .val (.ref b22), .unset, .unset, .unset, .unset, .unset, .unset, .unset, .unset] [])) _
    refine XS.aload X26.here hx rfl (hb hby at_85) rfl rfl ?_
    show Steps p.tables e below (T26.setTop (mkF m 87 #[.val (.int p0), .val (.int p1), .val (.int p2), .val (.int p3), .val (.int p4), .val (.long p5), .second, .val (.int i1), .val (.int i2), .val (.int i3), .val v5, .val v10, .val (.ref b16), .val (.ref b22), .unset, .unset, .unset, .unset, .unset, .unset, .unset, .unset] [(.ref b22)])) _
    refine XS.aload X26.here hx rfl (hb hby at_87) rfl r_v10 ?_
    show Steps p.tables e below (T26.setTop (mkF m 89 #[.val (.int p0), .val (.int p1), .val (.int p2), .val (.int p3), .val (.int p4), .val (.long p5), .second, .val (.int i1), .val (.int i2), .val (.int i3), .val v5, .val v10, .val (.ref b16), .val (.ref b22), .unset, .unset, .unset, .unset, .unset, .unset, .unset, .unset] [v10, (.ref b22)])) _
    refine st28 _ ?_
    show Steps p.tables e below (T28.setTop (mkF m 92 #[.val (.int p0), .val (.int p1), .val (.int p2), .val (.int p3), .val (.int p4), .val (.long p5), .second, .val (.int i1), .val (.int i2), .val (.int i3), .val v5, .val v10, .val (.ref b16), .val (.ref b22), .unset, .unset, .unset, .unset, .unset, .unset, .unset, .unset] [])) _
    refine st29 _ ?_
    show Steps p.tables e below (T29.setTop (mkF m 95 #[.val (.int p0), .val (.int p1), .val (.int p2), .val (.int p3), .val (.int p4), .val (.long p5), .second, .val (.int i1), .val (.int i2), .val (.int i3), .val v5, .val v10, .val (.ref b16), .val (.ref b22), .unset, .unset, .unset, .unset, .unset, .unset, .unset, .unset] [(.ref b29)])) _
    refine XS.dup X29.here hx rfl (hb hby at_95) rfl rfl ?_
    show Steps p.tables e below (T29.setTop (mkF m 96 #[.val (.int p0), .val (.int p1), .val (.int p2), .val (.int p3), .val (.int p4), .val (.long p5), .second, .val (.int i1), .val (.int i2), .val (.int i3), .val v5, .val v10, .val (.ref b16), .val (.ref b22), .unset, .unset, .unset, .unset, .unset, .unset, .unset, .unset] [(.ref b29), (.ref b29)])) _
    refine XS.iload X29.here hx rfl (hb hby at_96) rfl ?_
    show Steps p.tables e below (T29.setTop (mkF m 98 #[.val (.int p0), .val (.int p1), .val (.int p2), .val (.int p3), .val (.int p4), .val (.long p5), .second, .val (.int i1), .val (.int i2), .val (.int i3), .val v5, .val v10, .val (.ref b16), .val (.ref b22), .unset, .unset, .unset, .unset, .unset, .unset, .unset, .unset] [(.int i1), (.ref b29), (.ref b29)])) _
    refine st34.trans ?_
    show Steps p.tables e below (T34.setTop (mkF m 101 #[.val (.int p0), .val (.int p1), .val (.int p2), .val (.int p3), .val (.int p4), .val (.long p5), .second, .val (.int i1), .val (.int i2), .val (.int i3), .val v5, .val v10, .val (.ref b16), .val (.ref b22), .unset, .unset, .unset, .unset, .unset, .unset, .unset, .unset] [(.ref b29)])) _
    refine XS.astore X34.here hx rfl (hb hby at_101) rfl rfl (l' := #[.val (.int p0), .val (.int p1), .val (.int p2), .val (.int p3), .val (.int p4), .val (.long p5), .second, .val (.int i1), .val (.int i2), .val (.int i3), .val v5, .val v10, .val (.ref b16), .val (.ref b22), .val (.ref b29), .unset, .unset, .unset, .unset, .unset, .unset, .unset]) rfl ?_
    show Steps p.tables e below (T34.setTop (mkF m 103 #[.val (.int p0), .val (.int p1), .val (.int p2), .val (.int p3), .val (.int p4), .val (.long p5), .second, .val (.int i1), .val (.int i2), .val (.int i3), .val v5, .val v10, .val (.ref b16), .val (.ref b22), .val (.ref b29), .unset, .unset, .unset, .unset, .unset, .unset, .unset] [])) _
    refine XS.aload X34.here hx rfl (hb hby at_103) rfl rfl ?_
    show Steps p.tables e below (T34.setTop (mkF m 105 #[.val (.int p0), .val (.int p1), .val (.int p2), .val (.int p3), .val (.int p4), .val (.long p5), .second, .val (.int i1), .val (.int i2), .val (.int i3), .val v5, .val v10, .val (.ref b16), .val (.ref b22), .val (.ref b29), .unset, .unset, .unset, .unset, .unset, .unset, .unset] [(.ref b29)])) _
    refine XS.iload X34.here hx rfl (hb hby at_105) rfl ?_
    show Steps p.tables e below (T34.setTop (mkF m 107 #[.val (.int p0), .val (.int p1), .val (.int p2), .val (.int p3), .val (.int p4), .val (.long p5), .second, .val (.int i1), .val (.int i2), .val (.int i3), .val v5, .val v10, .val (.ref b16), .val (.ref b22), .val (.ref b29), .unset, .unset, .unset, .unset, .unset, .unset, .unset] [(.int i2), (.ref b29)])) _
    refine XS.aload X34.here hx rfl (hb hby at_107) rfl rfl ?_
    show Steps p.tables e below (T34.setTop (mkF m 109 #[.val (.int p0), .val (.int p1), .val (.int p2), .val (.int p3), .val (.int p4), .val (.long p5), .second, .val (.int i1), .val (.int i2), .val (.int i3), .val v5, .val v10, .val (.ref b16), .val (.ref b22), .val (.ref b29), .unset, .unset, .unset, .unset, .unset, .unset, .unset] [(.ref b16), (.int i2), (.ref b29)])) _
    refine XS.aconstNull X34.here hx rfl (hb hby at_109) ?_
    show Steps p.tables e below (T34.setTop (mkF m 110 #[.val (.int p0), .val (.int p1), .val (.int p2), .val (.int p3), .val (.int p4), .val (.long p5), .second, .val (.int i1), .val (.int i2), .val (.int i3), .val v5, .val v10, .val (.ref b16), .val (.ref b22), .val (.ref b29), .unset, .unset, .unset, .unset, .unset, .unset, .unset] [.null, (.ref b16), (.int i2), (.ref b29)])) _
    refine XS.aconstNull X34.here hx rfl (hb hby at_110) ?_
    show Steps p.tables e below (T34.setTop (mkF m 111 #[.val (.int p0), .val (.int p1), .val (.int p2), .val (.int p3), .val (.int p4), .val (.long p5), .second, .val (.int i1), .val (.int i2), .val (.int i3), .val v5, .val v10, .val (.ref b16), .val (.ref b22), .val (.ref b29), .unset, .unset, .unset, .unset, .unset, .unset, .unset] [.null, .null, (.ref b16), (.int i2), (.ref b29)])) _
    refine st39.trans ?_
    show Steps p.tables e below (T39.setTop (mkF m 114 #[.val (.int p0), .val (.int p1), .val (.int p2), .val (.int p3), .val (.int p4), .val (.long p5), .second, .val (.int i1), .val (.int i2), .val (.int i3), .val v5, .val v10, .val (.ref b16), .val (.ref b22), .val (.ref b29), .unset, .unset, .unset, .unset, .unset, .unset, .unset] [])) _
    refine XS.aload X39.here hx rfl (hb hby at_114) rfl rfl ?_
    show Steps p.tables e below (T39.setTop (mkF m 116 #[.val (.int p0), .val (.int p1), .val (.int p2), .val (.int p3), .val (.int p4), .val (.long p5), .second, .val (.int i1), .val (.int i2), .val (.int i3), .val v5, .val v10, .val (.ref b16), .val (.ref b22), .val (.ref b29), .unset, .unset, .unset, .unset, .unset, .unset, .unset] [(.ref b29)])) _
    refine XS.iload X39.here hx rfl (hb hby at_116) rfl ?_
    show Steps p.tables e below (T39.setTop (mkF m 118 #[.val (.int p0), .val (.int p1), .val (.int p2), .val (.int p3), .val (.int p4), .val (.long p5), .second, .val (.int i1), .val (.int i2), .val (.int i3), .val v5, .val v10, .val (.ref b16), .val (.ref b22), .val (.ref b29), .unset, .unset, .unset, .unset, .unset, .unset, .unset] [(.int i3), (.ref b29)])) _
    refine XS.aload X39.here hx rfl (hb hby at_118) rfl rfl ?_
    show Steps p.tables e below (T39.setTop (mkF m 120 #[.val (.int p0), .val (.int p1), .val (.int p2), .val (.int p3), .val (.int p4), .val (.long p5), .second, .val (.int i1), .val (.int i2), .val (.int i3), .val v5, .val v10, .val (.ref b16), .val (.ref b22), .val (.ref b29), .unset, .unset, .unset, .unset, .unset, .unset, .unset] [(.ref b22), (.int i3), (.ref b29)])) _
    refine XS.aconstNull X39.here hx rfl (hb hby at_120) ?_
    show Steps p.tables e below (T39.setTop (mkF m 121 #[.val (.int p0), .val (.int p1), .val (.int p2), .val (.int p3), .val (.int p4), .val (.long p5), .second, .val (.int i1), .val (.int i2), .val (.int i3), .val v5, .val v10, .val (.ref b16), .val (.ref b22), .val (.ref b29), .unset, .unset, .unset, .unset, .unset, .unset, .unset] [.null, (.ref b22), (.int i3), (.ref b29)])) _
    exact kk
  have f45 := (Exa.keep f40 K39)
  have f46 := (Fld.keep q34_0 K39 (ninS q34_13 (ninS q34_14 (ninS q34_15 nin0))))
  have f47 := (Fld.keep q34_1 K39 (ninS q34_13 (ninS q34_14 (ninS q34_15 nin0))))
  have f48 := (Fld.keep q34_2 K39 (ninS q34_13 (ninS q34_14 (ninS q34_15 nin0))))
  have f49 := (Exa.keep (Exa.keep f37 K34) K39)
  have z50 : n0 ≤ _ := (Nat.le_trans z42 K39.1)
  obtain ⟨cq44, kq44, q44a, q44b, q44c⟩ := isOf hZ rfl f45
  obtain ⟨_, _, ⟨T44, L44, k44, n44⟩, -, X44, ⟨Lc44, hQ44, l44, y44, z44⟩, st44⟩ := X39.virtualBack hx (y := (⟨"com/example/quernloop/quernloop/WorkSlots", "set", "(ILjava/lang/Object;Lcom/example/quernloop/quernloop/Handler;Ljava/lang/Object;)V"⟩ : MethodName)) (z := (⟨"com/example/quernloop/quernloop/WorkSlots", "set", "(ILjava/lang/Object;Lcom/example/quernloop/quernloop/Handler;Ljava/lang/Object;)V"⟩ : MethodName)) hown (mvT hZ (hw _ (List.mem_of_getElem? (i := 37) rfl))) (mvT hZ (hw _ (List.mem_of_getElem? (i := 38) rfl))) (notFace_of_selects (args := #[]) (mvT hZ (hw _ (List.mem_of_getElem? (i := 40) rfl)))) (mvT hZ (hw _ (List.mem_of_getElem? (i := 40) rfl))) (mvT hZ (hw _ (List.mem_of_getElem? (i := 39) rfl))) (by decide) (backOf (W := 0) (rm8 l Z a0 hw [] b29 i3 b22 b1_34 b2_34 b3_34 k1_34 k2_34 k3_34 i1 (fun i => if i = (i2).toNatClampNeg then (.ref b16) else (fun _ => .null) i) (fun i => if i = (i2).toNatClampNeg then .null else (fun _ => .null) i) (fun i => if i = (i2).toNatClampNeg then .null else (fun _ => .null) i) T39.heap n0 z50 f45 f46 f47 f48 q39_0 q39_1 q39_2 q34_6 ge_b1_34 ge_b2_34 ge_b3_34 q34_10 q34_11 q34_12 q34_13 q34_14 q34_15 f49 (own_idx p2 i1 i3 (own_cap p0 i1 h_i1).2.2.1 h_i3)) hZ (hw _ (List.mem_of_getElem? (i := 41) rfl)) (hw _ (List.mem_of_getElem? (i := 22) rfl)) (by decide) (by decide)) q44a q44c (g := (mkF m 122 #[.val (.int p0), .val (.int p1), .val (.int p2), .val (.int p3), .val (.int p4), .val (.long p5), .second, .val (.int i1), .val (.int i2), .val (.int i3), .val v5, .val v10, .val (.ref b16), .val (.ref b22), .val (.ref b29), .unset, .unset, .unset, .unset, .unset, .unset, .unset] [.null, .null, (.ref b22), (.int i3), (.ref b29)])) rfl (by rw [hml]; rfl) (Steps.refl _) (argsL := [(.int i3), (.ref b22), .null, .null]) (rest := []) (lenOf pd_5 rfl) rfl (by show 2 * 0 + _ ≤ _; exact Nat.le_of_eq rfl) (hb hby at_122) (fun _ _ => ⟨rfl, rfl, (by decide : 8 + 0 ≤ _), (by decide : 45 + 0 ≤ _)⟩)
  dsimp only [Pt.U, Pt.locs, Pt.cells, Pt.slots] at X44 l44 y44 z44 st44 hQ44
  subst l44 y44 z44
  obtain ⟨rfl, Nq44, K44, q44_0, q44_1, q44_2⟩ := hQ44
  have N44 := Fr.app N39 Nq44
  have P51 : ∀ t, Steps p.tables e below (T44.setTop (mkF m 129 #[.val (.int p0), .val (.int p1), .val (.int p2), .val (.int p3), .val (.int p4), .val (.long p5), .second, .val (.int i1), .val (.int i2), .val (.int i3), .val v5, .val v10, .val (.ref b16), .val (.ref b22), .val (.ref b29), .unset, .unset, .unset, .unset, .unset, .unset, .unset] [(.int i3), (.int i2)])) t → Steps p.tables e below (s₁.setTop (entryFrame m #[(.int p0), (.int p1), (.int p2), (.int p3), (.int p4), (.long p5)] maxLocals)) t := by
    intro t kk
    refine P43 _ ?_
    show Steps p.tables e below (T39.setTop (mkF m 121 #[.val (.int p0), .val (.int p1), .val (.int p2), .val (.int p3), .val (.int p4), .val (.long p5), .second, .val (.int i1), .val (.int i2), .val (.int i3), .val v5, .val v10, .val (.ref b16), .val (.ref b22), .val (.ref b29), .unset, .unset, .unset, .unset, .unset, .unset, .unset] [.null, (.ref b22), (.int i3), (.ref b29)])) _
    refine XS.aconstNull X39.here hx rfl (hb hby at_121) ?_
    show Steps p.tables e below (T39.setTop (mkF m 122 #[.val (.int p0), .val (.int p1), .val (.int p2), .val (.int p3), .val (.int p4), .val (.long p5), .second, .val (.int i1), .val (.int i2), .val (.int i3), .val v5, .val v10, .val (.ref b16), .val (.ref b22), .val (.ref b29), .unset, .unset, .unset, .unset, .unset, .unset, .unset] [.null, .null, (.ref b22), (.int i3), (.ref b29)])) _
    refine st44.trans ?_
    show Steps p.tables e below (T44.setTop (mkF m 125 #[.val (.int p0), .val (.int p1), .val (.int p2), .val (.int p3), .val (.int p4), .val (.long p5), .second, .val (.int i1), .val (.int i2), .val (.int i3), .val v5, .val v10, .val (.ref b16), .val (.ref b22), .val (.ref b29), .unset, .unset, .unset, .unset, .unset, .unset, .unset] [])) _
    refine XS.iload X44.here hx rfl (hb hby at_125) rfl ?_
    show Steps p.tables e below (T44.setTop (mkF m 127 #[.val (.int p0), .val (.int p1), .val (.int p2), .val (.int p3), .val (.int p4), .val (.long p5), .second, .val (.int i1), .val (.int i2), .val (.int i3), .val v5, .val v10, .val (.ref b16), .val (.ref b22), .val (.ref b29), .unset, .unset, .unset, .unset, .unset, .unset, .unset] [(.int i2)])) _
    refine XS.iload X44.here hx rfl (hb hby at_127) rfl ?_
    show Steps p.tables e below (T44.setTop (mkF m 129 #[.val (.int p0), .val (.int p1), .val (.int p2), .val (.int p3), .val (.int p4), .val (.long p5), .second, .val (.int i1), .val (.int i2), .val (.int i3), .val v5, .val v10, .val (.ref b16), .val (.ref b22), .val (.ref b29), .unset, .unset, .unset, .unset, .unset, .unset, .unset] [(.int i3), (.int i2)])) _
    exact kk
  by_cases c52 : i2 = i3
  · skip
    have f54 := (Fld.keep f46 K44 (ninS q34_13 (ninS q34_14 (ninS q34_15 nin0))))
    have f55 := (Fld.keep f47 K44 (ninS q34_13 (ninS q34_14 (ninS q34_15 nin0))))
    have f56 := (Exa.keep f49 K44)
    have f57 := (Fld.keep (Fld.keep (Fld.keep (Fld.ext E29 Fw28) K34 (ninS ne_b22_b29 nin0)) K39 (ninS ne_b22_b1_34 (ninS ne_b22_b2_34 (ninS ne_b22_b3_34 nin0)))) K44 (ninS ne_b22_b1_34 (ninS ne_b22_b2_34 (ninS ne_b22_b3_34 nin0))))
    have z58 : n0 ≤ _ := (Nat.le_trans z50 K44.1)
    have f59 := (Exa.keep f45 K44)
    obtain ⟨cq53, kq53, q53a, q53b, q53c⟩ := isOf hZ rfl f59
    obtain ⟨_, _, ⟨T53, L53, k53, n53⟩, -, X53, ⟨Lc53, hQ53, l53, y53, z53⟩, st53⟩ := X44.virtualBack hx (y := (⟨"com/example/quernloop/quernloop/WorkSlots", "object", "(I)Ljava/lang/Object;"⟩ : MethodName)) (z := (⟨"com/example/quernloop/quernloop/WorkSlots", "object", "(I)Ljava/lang/Object;"⟩ : MethodName)) hown (mvT hZ (hw _ (List.mem_of_getElem? (i := 43) rfl))) (mvT hZ (hw _ (List.mem_of_getElem? (i := 44) rfl))) (notFace_of_selects (args := #[]) (mvT hZ (hw _ (List.mem_of_getElem? (i := 46) rfl)))) (mvT hZ (hw _ (List.mem_of_getElem? (i := 46) rfl))) (mvT hZ (hw _ (List.mem_of_getElem? (i := 45) rfl))) (by decide) (backOf (W := 0) (rm9 l Z a0 hw [] b29 i2 b1_34 b2_34 k1_34 k2_34 i1 (fun i => if i = (i3).toNatClampNeg then (.ref b22) else (fun i => if i = (i2).toNatClampNeg then (.ref b16) else (fun _ => .null) i) i) (fun i => if i = (i3).toNatClampNeg then .null else (fun i => if i = (i2).toNatClampNeg then .null else (fun _ => .null) i) i) b22 v10 T44.heap n0 z58 f54 f55 q44_0 q44_1 f56 f57 r_v10 (own_idx p1 i1 i2 (own_cap p0 i1 h_i1).2.2.1 h_i2) (by simp) (if_pos (congrArg Int32.toNatClampNeg c52))) hZ (hw _ (List.mem_of_getElem? (i := 47) rfl)) (hw _ (List.mem_of_getElem? (i := 22) rfl)) (by decide) (by decide)) q53a q53c (g := (mkF m 145 #[.val (.int p0), .val (.int p1), .val (.int p2), .val (.int p3), .val (.int p4), .val (.long p5), .second, .val (.int i1), .val (.int i2), .val (.int i3), .val v5, .val v10, .val (.ref b16), .val (.ref b22), .val (.ref b29), .val v10, .unset, .unset, .unset, .unset, .unset, .unset] [(.int i2), (.ref b29)])) rfl (by rw [hml]; rfl) (Steps.refl _) (argsL := [(.int i2)]) (rest := []) (lenOf pd_6 rfl) rfl (by show 2 * 0 + _ ≤ _; exact Nat.le_of_eq rfl) (hb hby at_145) (fun _ _ => ⟨rfl, rfl, (by decide : 8 + 0 ≤ _), (by decide : 45 + 0 ≤ _)⟩)
    dsimp only [Pt.U, Pt.locs, Pt.cells, Pt.slots] at X53 l53 y53 z53 st53 hQ53
    subst l53 y53 z53
    obtain ⟨rfl, Nq53, e53⟩ := hQ53
    have N53 := Fr.app N44 Nq53
    obtain ⟨cq60, kq60, q60a, q60b, q60c⟩ := isOf hZ e53 f59
    obtain ⟨_, _, ⟨T60, L60, k60, n60⟩, -, X60, ⟨Lc60, hQ60, l60, y60, z60⟩, st60⟩ := X53.virtualBack hx (y := (⟨"com/example/quernloop/quernloop/WorkSlots", "object", "(I)Ljava/lang/Object;"⟩ : MethodName)) (z := (⟨"com/example/quernloop/quernloop/WorkSlots", "object", "(I)Ljava/lang/Object;"⟩ : MethodName)) hown (mvT hZ (hw _ (List.mem_of_getElem? (i := 43) rfl))) (mvT hZ (hw _ (List.mem_of_getElem? (i := 44) rfl))) (notFace_of_selects (args := #[]) (mvT hZ (hw _ (List.mem_of_getElem? (i := 46) rfl)))) (mvT hZ (hw _ (List.mem_of_getElem? (i := 46) rfl))) (mvT hZ (hw _ (List.mem_of_getElem? (i := 45) rfl))) (by decide) (backOf (W := 0) (rm9 l Z a0 hw [] b29 i3 b1_34 b2_34 k1_34 k2_34 i1 (fun i => if i = (i3).toNatClampNeg then (.ref b22) else (fun i => if i = (i2).toNatClampNeg then (.ref b16) else (fun _ => .null) i) i) (fun i => if i = (i3).toNatClampNeg then .null else (fun i => if i = (i2).toNatClampNeg then .null else (fun _ => .null) i) i) b22 v10 T44.heap n0 z58 f54 f55 q44_0 q44_1 f56 f57 r_v10 (own_idx p2 i1 i3 (own_cap p0 i1 h_i1).2.2.1 h_i3) (by simp) (if_pos rfl)) hZ (hw _ (List.mem_of_getElem? (i := 47) rfl)) (hw _ (List.mem_of_getElem? (i := 22) rfl)) (by decide) (by decide)) q60a q60c (g := (mkF m 154 #[.val (.int p0), .val (.int p1), .val (.int p2), .val (.int p3), .val (.int p4), .val (.long p5), .second, .val (.int i1), .val (.int i2), .val (.int i3), .val v5, .val v10, .val (.ref b16), .val (.ref b22), .val (.ref b29), .val v10, .val v10, .unset, .unset, .unset, .unset, .unset] [(.int i3), (.ref b29)])) rfl (by rw [hml]; rfl) (Steps.refl _) (argsL := [(.int i3)]) (rest := []) (lenOf pd_6 rfl) rfl (by show 2 * 0 + _ ≤ _; exact Nat.le_of_eq rfl) (hb hby at_154) (fun _ _ => ⟨rfl, e53, (by decide : 8 + 0 ≤ _), (by decide : 45 + 0 ≤ _)⟩)
    dsimp only [Pt.U, Pt.locs, Pt.cells, Pt.slots] at X60 l60 y60 z60 st60 hQ60
    subst l60 y60 z60
    obtain ⟨rfl, Nq60, e60⟩ := hQ60
    have N60 := Fr.app N53 Nq60
    have P61 : ∀ t, Steps p.tables e below (T60.setTop (mkF m 162 #[.val (.int p0), .val (.int p1), .val (.int p2), .val (.int p3), .val (.int p4), .val (.long p5), .second, .val (.int i1), .val (.int i2), .val (.int i3), .val v5, .val v10, .val (.ref b16), .val (.ref b22), .val (.ref b29), .val v10, .val v10, .val v10, .unset, .unset, .unset, .unset] [(.int (p3 &&& (4 : Int32)))])) t → Steps p.tables e below (s₁.setTop (entryFrame m #[(.int p0), (.int p1), (.int p2), (.int p3), (.int p4), (.long p5)] maxLocals)) t := by
      intro t kk
      refine P51 _ ?_
      show Steps p.tables e below (T44.setTop (mkF m 129 #[.val (.int p0), .val (.int p1), .val (.int p2), .val (.int p3), .val (.int p4), .val (.long p5), .second, .val (.int i1), .val (.int i2), .val (.int i3), .val v5, .val v10, .val (.ref b16), .val (.ref b22), .val (.ref b29), .unset, .unset, .unset, .unset, .unset, .unset, .unset] [(.int i3), (.int i2)])) _
      refine XS.icmpNo X44.here hx rfl (hb hby at_129) rfl (XT.ii_ne_f c52) ?_
      show Steps p.tables e below (T44.setTop (mkF m 132 #[.val (.int p0), .val (.int p1), .val (.int p2), .val (.int p3), .val (.int p4), .val (.long p5), .second, .val (.int i1), .val (.int i2), .val (.int i3), .val v5, .val v10, .val (.ref b16), .val (.ref b22), .val (.ref b29), .unset, .unset, .unset, .unset, .unset, .unset, .unset] [])) _
      refine XS.aload X44.here hx rfl (hb hby at_132) rfl r_v10 ?_
      show Steps p.tables e below (T44.setTop (mkF m 134 #[.val (.int p0), .val (.int p1), .val (.int p2), .val (.int p3), .val (.int p4), .val (.long p5), .second, .val (.int i1), .val (.int i2), .val (.int i3), .val v5, .val v10, .val (.ref b16), .val (.ref b22), .val (.ref b29), .unset, .unset, .unset, .unset, .unset, .unset, .unset] [v10])) _
      refine XS.goto X44.here hx rfl (pc0 := 134) (pc' := 139) rfl (hb hby at_134) (by decide) (by decide) ?_
      show Steps p.tables e below (T44.setTop (mkF m 139 #[.val (.int p0), .val (.int p1), .val (.int p2), .val (.int p3), .val (.int p4), .val (.long p5), .second, .val (.int i1), .val (.int i2), .val (.int i3), .val v5, .val v10, .val (.ref b16), .val (.ref b22), .val (.ref b29), .unset, .unset, .unset, .unset, .unset, .unset, .unset] [v10])) _
      refine XS.astoreS X44.here hx rfl (hb hby at_139) rfl r_v10 (XT.cat1 r_v10) rfl (Or.inl rfl) ?_
      show Steps p.tables e below (T44.setTop (mkF m 141 #[.val (.int p0), .val (.int p1), .val (.int p2), .val (.int p3), .val (.int p4), .val (.long p5), .second, .val (.int i1), .val (.int i2), .val (.int i3), .val v5, .val v10, .val (.ref b16), .val (.ref b22), .val (.ref b29), .val v10, .unset, .unset, .unset, .unset, .unset, .unset] [])) _
      refine XS.aload X44.here hx rfl (hb hby at_141) rfl rfl ?_
      show Steps p.tables e below (T44.setTop (mkF m 143 #[.val (.int p0), .val (.int p1), .val (.int p2), .val (.int p3), .val (.int p4), .val (.long p5), .second, .val (.int i1), .val (.int i2), .val (.int i3), .val v5, .val v10, .val (.ref b16), .val (.ref b22), .val (.ref b29), .val v10, .unset, .unset, .unset, .unset, .unset, .unset] [(.ref b29)])) _
      refine XS.iload X44.here hx rfl (hb hby at_143) rfl ?_
      show Steps p.tables e below (T44.setTop (mkF m 145 #[.val (.int p0), .val (.int p1), .val (.int p2), .val (.int p3), .val (.int p4), .val (.long p5), .second, .val (.int i1), .val (.int i2), .val (.int i3), .val v5, .val v10, .val (.ref b16), .val (.ref b22), .val (.ref b29), .val v10, .unset, .unset, .unset, .unset, .unset, .unset] [(.int i2), (.ref b29)])) _
      refine st53.trans ?_
      show Steps p.tables e below (T53.setTop (mkF m 148 #[.val (.int p0), .val (.int p1), .val (.int p2), .val (.int p3), .val (.int p4), .val (.long p5), .second, .val (.int i1), .val (.int i2), .val (.int i3), .val v5, .val v10, .val (.ref b16), .val (.ref b22), .val (.ref b29), .val v10, .unset, .unset, .unset, .unset, .unset, .unset] [v10])) _
      refine XS.astoreS X53.here hx rfl (hb hby at_148) rfl r_v10 (XT.cat1 r_v10) rfl (Or.inl rfl) ?_
      show Steps p.tables e below (T53.setTop (mkF m 150 #[.val (.int p0), .val (.int p1), .val (.int p2), .val (.int p3), .val (.int p4), .val (.long p5), .second, .val (.int i1), .val (.int i2), .val (.int i3), .val v5, .val v10, .val (.ref b16), .val (.ref b22), .val (.ref b29), .val v10, .val v10, .unset, .unset, .unset, .unset, .unset] [])) _
      refine XS.aload X53.here hx rfl (hb hby at_150) rfl rfl ?_
      show Steps p.tables e below (T53.setTop (mkF m 152 #[.val (.int p0), .val (.int p1), .val (.int p2), .val (.int p3), .val (.int p4), .val (.long p5), .second, .val (.int i1), .val (.int i2), .val (.int i3), .val v5, .val v10, .val (.ref b16), .val (.ref b22), .val (.ref b29), .val v10, .val v10, .unset, .unset, .unset, .unset, .unset] [(.ref b29)])) _
      refine XS.iload X53.here hx rfl (hb hby at_152) rfl ?_
      show Steps p.tables e below (T53.setTop (mkF m 154 #[.val (.int p0), .val (.int p1), .val (.int p2), .val (.int p3), .val (.int p4), .val (.long p5), .second, .val (.int i1), .val (.int i2), .val (.int i3), .val v5, .val v10, .val (.ref b16), .val (.ref b22), .val (.ref b29), .val v10, .val v10, .unset, .unset, .unset, .unset, .unset] [(.int i3), (.ref b29)])) _
      refine st60.trans ?_
      show Steps p.tables e below (T60.setTop (mkF m 157 #[.val (.int p0), .val (.int p1), .val (.int p2), .val (.int p3), .val (.int p4), .val (.long p5), .second, .val (.int i1), .val (.int i2), .val (.int i3), .val v5, .val v10, .val (.ref b16), .val (.ref b22), .val (.ref b29), .val v10, .val v10, .unset, .unset, .unset, .unset, .unset] [v10])) _
      refine XS.astoreS X60.here hx rfl (hb hby at_157) rfl r_v10 (XT.cat1 r_v10) rfl (Or.inl rfl) ?_
      show Steps p.tables e below (T60.setTop (mkF m 159 #[.val (.int p0), .val (.int p1), .val (.int p2), .val (.int p3), .val (.int p4), .val (.long p5), .second, .val (.int i1), .val (.int i2), .val (.int i3), .val v5, .val v10, .val (.ref b16), .val (.ref b22), .val (.ref b29), .val v10, .val v10, .val v10, .unset, .unset, .unset, .unset] [])) _
      refine XS.iloadN X60.here hx rfl (hb hby at_159) rfl ?_
      show Steps p.tables e below (T60.setTop (mkF m 160 #[.val (.int p0), .val (.int p1), .val (.int p2), .val (.int p3), .val (.int p4), .val (.long p5), .second, .val (.int i1), .val (.int i2), .val (.int i3), .val v5, .val v10, .val (.ref b16), .val (.ref b22), .val (.ref b29), .val v10, .val v10, .val v10, .unset, .unset, .unset, .unset] [(.int p3)])) _
      refine XS.iconst X60.here hx rfl (hb hby at_160) ?_
      show Steps p.tables e below (T60.setTop (mkF m 161 #[.val (.int p0), .val (.int p1), .val (.int p2), .val (.int p3), .val (.int p4), .val (.long p5), .second, .val (.int i1), .val (.int i2), .val (.int i3), .val v5, .val v10, .val (.ref b16), .val (.ref b22), .val (.ref b29), .val v10, .val v10, .val v10, .unset, .unset, .unset, .unset] [(.int (4 : Int32)), (.int p3)])) _
      refine XS.iand X60.here hx rfl (hb hby at_161) rfl ?_
      show Steps p.tables e below (T60.setTop (mkF m 162 #[.val (.int p0), .val (.int p1), .val (.int p2), .val (.int p3), .val (.int p4), .val (.long p5), .second, .val (.int i1), .val (.int i2), .val (.int i3), .val v5, .val v10, .val (.ref b16), .val (.ref b22), .val (.ref b29), .val v10, .val v10, .val v10, .unset, .unset, .unset, .unset] [(.int (p3 &&& (4 : Int32)))])) _
      exact kk
    obtain ⟨v62, h_v62, P63⟩ : ∃ (v62 : Value), v62 = (if (p3 &&& (4 : Int32)) = (0 : Int32) then .null else (.ref b16)) ∧ ∀ t, Steps p.tables e below (T60.setTop (mkF m 171 #[.val (.int p0), .val (.int p1), .val (.int p2), .val (.int p3), .val (.int p4), .val (.long p5), .second, .val (.int i1), .val (.int i2), .val (.int i3), .val v5, .val v10, .val (.ref b16), .val (.ref b22), .val (.ref b29), .val v10, .val v10, .val v10, .unset, .unset, .unset, .unset] [v62])) t → Steps p.tables e below (s₁.setTop (entryFrame m #[(.int p0), (.int p1), (.int p2), (.int p3), (.int p4), (.long p5)] maxLocals)) t := by
      by_cases c64 : (p3 &&& (4 : Int32)) = (0 : Int32)
      · skip
        refine ⟨.null, ((if_pos c64).trans rfl).symm, fun t kk => P61 t ?_⟩
        show Steps p.tables e below (T60.setTop (mkF m 162 #[.val (.int p0), .val (.int p1), .val (.int p2), .val (.int p3), .val (.int p4), .val (.long p5), .second, .val (.int i1), .val (.int i2), .val (.int i3), .val v5, .val v10, .val (.ref b16), .val (.ref b22), .val (.ref b29), .val v10, .val v10, .val v10, .unset, .unset, .unset, .unset] [(.int (p3 &&& (4 : Int32)))])) _
        refine XS.ifYes X60.here hx rfl (pc0 := 162) (pc' := 170) rfl (hb hby at_162) rfl (XT.i0_eq_t c64) (by decide) (by decide) ?_
        show Steps p.tables e below (T60.setTop (mkF m 170 #[.val (.int p0), .val (.int p1), .val (.int p2), .val (.int p3), .val (.int p4), .val (.long p5), .second, .val (.int i1), .val (.int i2), .val (.int i3), .val v5, .val v10, .val (.ref b16), .val (.ref b22), .val (.ref b29), .val v10, .val v10, .val v10, .unset, .unset, .unset, .unset] [])) _
        refine XS.aconstNull X60.here hx rfl (hb hby at_170) ?_
        show Steps p.tables e below (T60.setTop (mkF m 171 #[.val (.int p0), .val (.int p1), .val (.int p2), .val (.int p3), .val (.int p4), .val (.long p5), .second, .val (.int i1), .val (.int i2), .val (.int i3), .val v5, .val v10, .val (.ref b16), .val (.ref b22), .val (.ref b29), .val v10, .val v10, .val v10, .unset, .unset, .unset, .unset] [.null])) _
        exact kk
      · skip
        refine ⟨(.ref b16), ((if_neg c64).trans rfl).symm, fun t kk => P61 t ?_⟩
        show Steps p.tables e below (T60.setTop (mkF m 162 #[.val (.int p0), .val (.int p1), .val (.int p2), .val (.int p3), .val (.int p4), .val (.long p5), .second, .val (.int i1), .val (.int i2), .val (.int i3), .val v5, .val v10, .val (.ref b16), .val (.ref b22), .val (.ref b29), .val v10, .val v10, .val v10, .unset, .unset, .unset, .unset] [(.int (p3 &&& (4 : Int32)))])) _
        refine XS.ifNo X60.here hx rfl (hb hby at_162) rfl (XT.i0_eq_f c64) ?_
        show Steps p.tables e below (T60.setTop (mkF m 165 #[.val (.int p0), .val (.int p1), .val (.int p2), .val (.int p3), .val (.int p4), .val (.long p5), .second, .val (.int i1), .val (.int i2), .val (.int i3), .val v5, .val v10, .val (.ref b16), .val (.ref b22), .val (.ref b29), .val v10, .val v10, .val v10, .unset, .unset, .unset, .unset] [])) _
        refine XS.aload X60.here hx rfl (hb hby at_165) rfl rfl ?_
        show Steps p.tables e below (T60.setTop (mkF m 167 #[.val (.int p0), .val (.int p1), .val (.int p2), .val (.int p3), .val (.int p4), .val (.long p5), .second, .val (.int i1), .val (.int i2), .val (.int i3), .val v5, .val v10, .val (.ref b16), .val (.ref b22), .val (.ref b29), .val v10, .val v10, .val v10, .unset, .unset, .unset, .unset] [(.ref b16)])) _
        refine XS.goto X60.here hx rfl (pc0 := 167) (pc' := 171) rfl (hb hby at_167) (by decide) (by decide) ?_
        show Steps p.tables e below (T60.setTop (mkF m 171 #[.val (.int p0), .val (.int p1), .val (.int p2), .val (.int p3), .val (.int p4), .val (.long p5), .second, .val (.int i1), .val (.int i2), .val (.int i3), .val v5, .val v10, .val (.ref b16), .val (.ref b22), .val (.ref b29), .val v10, .val v10, .val v10, .unset, .unset, .unset, .unset] [(.ref b16)])) _
        exact kk
    have r_v62 : v62.isRef = true := by (rw [h_v62]; (repeat' split) <;> first | rfl | assumption)
    obtain ⟨T65, h65, X65, e65, W65, st65⟩ := putF X60 hx hZ hown (host := "") (Or.inl (hw _ (List.mem_of_getElem? (i := 18) rfl))) Via.refl e60 f57 f56 (Or.inl (hw _ (List.mem_of_getElem? (i := 19) rfl))) (hw _ (List.mem_of_getElem? (i := 10) rfl)) (ty := (.object "java/lang/Object")) (by decide) (own_narrow_ref r_v62) (own_fits_ref r_v62) (g := (mkF m 177 #[.val (.int p0), .val (.int p1), .val (.int p2), .val (.int p3), .val (.int p4), .val (.long p5), .second, .val (.int i1), .val (.int i2), .val (.int i3), .val v5, .val v10, .val (.ref b16), .val (.ref b22), .val (.ref b29), .val v10, .val v10, .val v10, .val v62, .unset, .unset, .unset] [v62, (.ref b22)])) rfl rfl (hb hby at_177)
    have N65 := Fr.snoc X65 N60 ge_b22
    have Fw65 := Fld.same W65 f57
    have f67 := (Fld.other W65 f54 (Or.inl (Ne.symm ne_b22_b29)))
    have f68 := (Fld.other W65 f55 (Or.inl (Ne.symm ne_b22_b29)))
    have f69 := (Rar.other q44_0 W65 (Ne.symm ne_b22_b1_34))
    have f70 := (Rar.other q44_1 W65 (Ne.symm ne_b22_b2_34))
    have f71 := (Exa.wr W65 f56)
    have z72 : n0 ≤ _ := (Nat.le_trans z58 (Keep.of_wr W65).1)
    have f73 := (Exa.wr W65 f59)
    obtain ⟨cq66, kq66, q66a, q66b, q66c⟩ := isOf hZ e65 f73
    obtain ⟨_, _, ⟨T66, L66, k66, n66⟩, -, X66, ⟨Lc66, hQ66, l66, y66, z66⟩, st66⟩ := X65.virtualBack hx (y := (⟨"com/example/quernloop/quernloop/WorkSlots", "object", "(I)Ljava/lang/Object;"⟩ : MethodName)) (z := (⟨"com/example/quernloop/quernloop/WorkSlots", "object", "(I)Ljava/lang/Object;"⟩ : MethodName)) hown (mvT hZ (hw _ (List.mem_of_getElem? (i := 43) rfl))) (mvT hZ (hw _ (List.mem_of_getElem? (i := 44) rfl))) (notFace_of_selects (args := #[]) (mvT hZ (hw _ (List.mem_of_getElem? (i := 46) rfl)))) (mvT hZ (hw _ (List.mem_of_getElem? (i := 46) rfl))) (mvT hZ (hw _ (List.mem_of_getElem? (i := 45) rfl))) (by decide) (backOf (W := 0) (rm9 l Z a0 hw [] b29 i3 b1_34 b2_34 k1_34 k2_34 i1 (fun i => if i = (i3).toNatClampNeg then (.ref b22) else (fun i => if i = (i2).toNatClampNeg then (.ref b16) else (fun _ => .null) i) i) (fun i => if i = (i3).toNatClampNeg then .null else (fun i => if i = (i2).toNatClampNeg then .null else (fun _ => .null) i) i) b22 v62 h65 n0 z72 f67 f68 f69 f70 f71 Fw65 r_v62 (own_idx p2 i1 i3 (own_cap p0 i1 h_i1).2.2.1 h_i3) (by simp) (if_pos rfl)) hZ (hw _ (List.mem_of_getElem? (i := 47) rfl)) (hw _ (List.mem_of_getElem? (i := 22) rfl)) (by decide) (by decide)) q66a q66c (g := (mkF m 184 #[.val (.int p0), .val (.int p1), .val (.int p2), .val (.int p3), .val (.int p4), .val (.long p5), .second, .val (.int i1), .val (.int i2), .val (.int i3), .val v5, .val v10, .val (.ref b16), .val (.ref b22), .val (.ref b29), .val v10, .val v10, .val v10, .val v62, .unset, .unset, .unset] [(.int i3), (.ref b29)])) rfl (by rw [hml]; rfl) (Steps.refl _) (argsL := [(.int i3)]) (rest := []) (lenOf pd_6 rfl) rfl (by show 2 * 0 + _ ≤ _; exact Nat.le_of_eq rfl) (hb hby at_184) (fun _ _ => ⟨rfl, e65, (by decide : 8 + 0 ≤ _), (by decide : 45 + 0 ≤ _)⟩)
    dsimp only [Pt.U, Pt.locs, Pt.cells, Pt.slots] at X66 l66 y66 z66 st66 hQ66
    subst l66 y66 z66
    obtain ⟨rfl, Nq66, e66⟩ := hQ66
    have N66 := Fr.app N65 Nq66
    obtain ⟨cq74, kq74, q74a, q74b, q74c⟩ := isOf hZ e66 f73
    obtain ⟨_, _, ⟨T74, L74, k74, n74⟩, -, X74, ⟨Lc74, hQ74, l74, y74, z74⟩, st74⟩ := X66.virtualBack hx (y := (⟨"com/example/quernloop/quernloop/WorkSlots", "object", "(I)Ljava/lang/Object;"⟩ : MethodName)) (z := (⟨"com/example/quernloop/quernloop/WorkSlots", "object", "(I)Ljava/lang/Object;"⟩ : MethodName)) hown (mvT hZ (hw _ (List.mem_of_getElem? (i := 43) rfl))) (mvT hZ (hw _ (List.mem_of_getElem? (i := 44) rfl))) (notFace_of_selects (args := #[]) (mvT hZ (hw _ (List.mem_of_getElem? (i := 46) rfl)))) (mvT hZ (hw _ (List.mem_of_getElem? (i := 46) rfl))) (mvT hZ (hw _ (List.mem_of_getElem? (i := 45) rfl))) (by decide) (backOf (W := 0) (rm9 l Z a0 hw [] b29 i2 b1_34 b2_34 k1_34 k2_34 i1 (fun i => if i = (i3).toNatClampNeg then (.ref b22) else (fun i => if i = (i2).toNatClampNeg then (.ref b16) else (fun _ => .null) i) i) (fun i => if i = (i3).toNatClampNeg then .null else (fun i => if i = (i2).toNatClampNeg then .null else (fun _ => .null) i) i) b22 v62 h65 n0 z72 f67 f68 f69 f70 f71 Fw65 r_v62 (own_idx p1 i1 i2 (own_cap p0 i1 h_i1).2.2.1 h_i2) (by simp) (if_pos (congrArg Int32.toNatClampNeg c52))) hZ (hw _ (List.mem_of_getElem? (i := 47) rfl)) (hw _ (List.mem_of_getElem? (i := 22) rfl)) (by decide) (by decide)) q74a q74c (g := (mkF m 209 #[.val (.int p0), .val (.int p1), .val (.int p2), .val (.int p3), .val (.int p4), .val (.long p5), .second, .val (.int i1), .val (.int i2), .val (.int i3), .val v5, .val v10, .val (.ref b16), .val (.ref b22), .val (.ref b29), .val v10, .val v10, .val v10, .val v62, .val v62, .val v62, .unset] [(.int i2), (.ref b29)])) rfl (by rw [hml]; rfl) (Steps.refl _) (argsL := [(.int i2)]) (rest := []) (lenOf pd_6 rfl) rfl (by show 2 * 0 + _ ≤ _; exact Nat.le_of_eq rfl) (hb hby at_209) (fun _ _ => ⟨rfl, e66, (by decide : 8 + 0 ≤ _), (by decide : 45 + 0 ≤ _)⟩)
    dsimp only [Pt.U, Pt.locs, Pt.cells, Pt.slots] at X74 l74 y74 z74 st74 hQ74
    subst l74 y74 z74
    obtain ⟨rfl, Nq74, e74⟩ := hQ74
    have N74 := Fr.app N66 Nq74
    have P75 : ∀ t, Steps p.tables e below (T74.setTop (mkF m 242 #[.val (.int p0), .val (.int p1), .val (.int p2), .val (.int p3), .val (.int p4), .val (.long p5), .second, .val (.int i1), .val (.int i2), .val (.int i3), .val v5, .val v10, .val (.ref b16), .val (.ref b22), .val (.ref b29), .val v10, .val v10, .val v10, .val v62, .val v62, .val v62, .val v62] [])) t → Steps p.tables e below (s₁.setTop (entryFrame m #[(.int p0), (.int p1), (.int p2), (.int p3), (.int p4), (.long p5)] maxLocals)) t := by
      intro t kk
      refine P63 _ ?_
      show Steps p.tables e below (T60.setTop (mkF m 171 #[.val (.int p0), .val (.int p1), .val (.int p2), .val (.int p3), .val (.int p4), .val (.long p5), .second, .val (.int i1), .val (.int i2), .val (.int i3), .val v5, .val v10, .val (.ref b16), .val (.ref b22), .val (.ref b29), .val v10, .val v10, .val v10, .unset, .unset, .unset, .unset] [v62])) _
      refine XS.astoreS X60.here hx rfl (hb hby at_171) rfl r_v62 (XT.cat1 r_v62) rfl (Or.inl rfl) ?_
      show Steps p.tables e below (T60.setTop (mkF m 173 #[.val (.int p0), .val (.int p1), .val (.int p2), .val (.int p3), .val (.int p4), .val (.long p5), .second, .val (.int i1), .val (.int i2), .val (.int i3), .val v5, .val v10, .val (.ref b16), .val (.ref b22), .val (.ref b29), .val v10, .val v10, .val v10, .val v62, .unset, .unset, .unset] [])) _
      refine XS.aload X60.here hx rfl (hb hby at_173) rfl rfl ?_
      show Steps p.tables e below (T60.setTop (mkF m 175 #[.val (.int p0), .val (.int p1), .val (.int p2), .val (.int p3), .val (.int p4), .val (.long p5), .second, .val (.int i1), .val (.int i2), .val (.int i3), .val v5, .val v10, .val (.ref b16), .val (.ref b22), .val (.ref b29), .val v10, .val v10, .val v10, .val v62, .unset, .unset, .unset] [(.ref b22)])) _
      refine XS.aload X60.here hx rfl (hb hby at_175) rfl r_v62 ?_
      show Steps p.tables e below (T60.setTop (mkF m 177 #[.val (.int p0), .val (.int p1), .val (.int p2), .val (.int p3), .val (.int p4), .val (.long p5), .second, .val (.int i1), .val (.int i2), .val (.int i3), .val v5, .val v10, .val (.ref b16), .val (.ref b22), .val (.ref b29), .val v10, .val v10, .val v10, .val v62, .unset, .unset, .unset] [v62, (.ref b22)])) _
      refine st65 _ ?_
      show Steps p.tables e below (T65.setTop (mkF m 180 #[.val (.int p0), .val (.int p1), .val (.int p2), .val (.int p3), .val (.int p4), .val (.long p5), .second, .val (.int i1), .val (.int i2), .val (.int i3), .val v5, .val v10, .val (.ref b16), .val (.ref b22), .val (.ref b29), .val v10, .val v10, .val v10, .val v62, .unset, .unset, .unset] [])) _
      refine XS.aload X65.here hx rfl (hb hby at_180) rfl rfl ?_
      show Steps p.tables e below (T65.setTop (mkF m 182 #[.val (.int p0), .val (.int p1), .val (.int p2), .val (.int p3), .val (.int p4), .val (.long p5), .second, .val (.int i1), .val (.int i2), .val (.int i3), .val v5, .val v10, .val (.ref b16), .val (.ref b22), .val (.ref b29), .val v10, .val v10, .val v10, .val v62, .unset, .unset, .unset] [(.ref b29)])) _
      refine XS.iload X65.here hx rfl (hb hby at_182) rfl ?_
      show Steps p.tables e below (T65.setTop (mkF m 184 #[.val (.int p0), .val (.int p1), .val (.int p2), .val (.int p3), .val (.int p4), .val (.long p5), .second, .val (.int i1), .val (.int i2), .val (.int i3), .val v5, .val v10, .val (.ref b16), .val (.ref b22), .val (.ref b29), .val v10, .val v10, .val v10, .val v62, .unset, .unset, .unset] [(.int i3), (.ref b29)])) _
      refine st66.trans ?_
      show Steps p.tables e below (T66.setTop (mkF m 187 #[.val (.int p0), .val (.int p1), .val (.int p2), .val (.int p3), .val (.int p4), .val (.long p5), .second, .val (.int i1), .val (.int i2), .val (.int i3), .val v5, .val v10, .val (.ref b16), .val (.ref b22), .val (.ref b29), .val v10, .val v10, .val v10, .val v62, .unset, .unset, .unset] [v62])) _
      refine XS.astoreS X66.here hx rfl (hb hby at_187) rfl r_v62 (XT.cat1 r_v62) rfl (Or.inl rfl) ?_
      show Steps p.tables e below (T66.setTop (mkF m 189 #[.val (.int p0), .val (.int p1), .val (.int p2), .val (.int p3), .val (.int p4), .val (.long p5), .second, .val (.int i1), .val (.int i2), .val (.int i3), .val v5, .val v10, .val (.ref b16), .val (.ref b22), .val (.ref b29), .val v10, .val v10, .val v10, .val v62, .val v62, .unset, .unset] [])) _
      refine XS.iload X66.here hx rfl (hb hby at_189) rfl ?_
      show Steps p.tables e below (T66.setTop (mkF m 191 #[.val (.int p0), .val (.int p1), .val (.int p2), .val (.int p3), .val (.int p4), .val (.long p5), .second, .val (.int i1), .val (.int i2), .val (.int i3), .val v5, .val v10, .val (.ref b16), .val (.ref b22), .val (.ref b29), .val v10, .val v10, .val v10, .val v62, .val v62, .unset, .unset] [(.int i2)])) _
      refine XS.iload X66.here hx rfl (hb hby at_191) rfl ?_
      show Steps p.tables e below (T66.setTop (mkF m 193 #[.val (.int p0), .val (.int p1), .val (.int p2), .val (.int p3), .val (.int p4), .val (.long p5), .second, .val (.int i1), .val (.int i2), .val (.int i3), .val v5, .val v10, .val (.ref b16), .val (.ref b22), .val (.ref b29), .val v10, .val v10, .val v10, .val v62, .val v62, .unset, .unset] [(.int i3), (.int i2)])) _
      refine XS.icmpNo X66.here hx rfl (hb hby at_193) rfl (XT.ii_ne_f c52) ?_
      show Steps p.tables e below (T66.setTop (mkF m 196 #[.val (.int p0), .val (.int p1), .val (.int p2), .val (.int p3), .val (.int p4), .val (.long p5), .second, .val (.int i1), .val (.int i2), .val (.int i3), .val v5, .val v10, .val (.ref b16), .val (.ref b22), .val (.ref b29), .val v10, .val v10, .val v10, .val v62, .val v62, .unset, .unset] [])) _
      refine XS.aload X66.here hx rfl (hb hby at_196) rfl r_v62 ?_
      show Steps p.tables e below (T66.setTop (mkF m 198 #[.val (.int p0), .val (.int p1), .val (.int p2), .val (.int p3), .val (.int p4), .val (.long p5), .second, .val (.int i1), .val (.int i2), .val (.int i3), .val v5, .val v10, .val (.ref b16), .val (.ref b22), .val (.ref b29), .val v10, .val v10, .val v10, .val v62, .val v62, .unset, .unset] [v62])) _
      refine XS.goto X66.here hx rfl (pc0 := 198) (pc' := 203) rfl (hb hby at_198) (by decide) (by decide) ?_
      show Steps p.tables e below (T66.setTop (mkF m 203 #[.val (.int p0), .val (.int p1), .val (.int p2), .val (.int p3), .val (.int p4), .val (.long p5), .second, .val (.int i1), .val (.int i2), .val (.int i3), .val v5, .val v10, .val (.ref b16), .val (.ref b22), .val (.ref b29), .val v10, .val v10, .val v10, .val v62, .val v62, .unset, .unset] [v62])) _
      refine XS.astoreS X66.here hx rfl (hb hby at_203) rfl r_v62 (XT.cat1 r_v62) rfl (Or.inl rfl) ?_
      show Steps p.tables e below (T66.setTop (mkF m 205 #[.val (.int p0), .val (.int p1), .val (.int p2), .val (.int p3), .val (.int p4), .val (.long p5), .second, .val (.int i1), .val (.int i2), .val (.int i3), .val v5, .val v10, .val (.ref b16), .val (.ref b22), .val (.ref b29), .val v10, .val v10, .val v10, .val v62, .val v62, .val v62, .unset] [])) _
      refine XS.aload X66.here hx rfl (hb hby at_205) rfl rfl ?_
      show Steps p.tables e below (T66.setTop (mkF m 207 #[.val (.int p0), .val (.int p1), .val (.int p2), .val (.int p3), .val (.int p4), .val (.long p5), .second, .val (.int i1), .val (.int i2), .val (.int i3), .val v5, .val v10, .val (.ref b16), .val (.ref b22), .val (.ref b29), .val v10, .val v10, .val v10, .val v62, .val v62, .val v62, .unset] [(.ref b29)])) _
      refine XS.iload X66.here hx rfl (hb hby at_207) rfl ?_
      show Steps p.tables e below (T66.setTop (mkF m 209 #[.val (.int p0), .val (.int p1), .val (.int p2), .val (.int p3), .val (.int p4), .val (.long p5), .second, .val (.int i1), .val (.int i2), .val (.int i3), .val v5, .val v10, .val (.ref b16), .val (.ref b22), .val (.ref b29), .val v10, .val v10, .val v10, .val v62, .val v62, .val v62, .unset] [(.int i2), (.ref b29)])) _
      refine st74.trans ?_
      show Steps p.tables e below (T74.setTop (mkF m 212 #[.val (.int p0), .val (.int p1), .val (.int p2), .val (.int p3), .val (.int p4), .val (.long p5), .second, .val (.int i1), .val (.int i2), .val (.int i3), .val v5, .val v10, .val (.ref b16), .val (.ref b22), .val (.ref b29), .val v10, .val v10, .val v10, .val v62, .val v62, .val v62, .unset] [v62])) _
      refine XS.astoreS X74.here hx rfl (hb hby at_212) rfl r_v62 (XT.cat1 r_v62) rfl (Or.inl rfl) ?_
      show Steps p.tables e below (T74.setTop (mkF m 214 #[.val (.int p0), .val (.int p1), .val (.int p2), .val (.int p3), .val (.int p4), .val (.long p5), .second, .val (.int i1), .val (.int i2), .val (.int i3), .val v5, .val v10, .val (.ref b16), .val (.ref b22), .val (.ref b29), .val v10, .val v10, .val v10, .val v62, .val v62, .val v62, .val v62] [])) _
      refine XS.aload X74.here hx rfl (hb hby at_214) rfl r_v10 ?_
      show Steps p.tables e below (T74.setTop (mkF m 216 #[.val (.int p0), .val (.int p1), .val (.int p2), .val (.int p3), .val (.int p4), .val (.long p5), .second, .val (.int i1), .val (.int i2), .val (.int i3), .val v5, .val v10, .val (.ref b16), .val (.ref b22), .val (.ref b29), .val v10, .val v10, .val v10, .val v62, .val v62, .val v62, .val v62] [v10])) _
      refine XS.aload X74.here hx rfl (hb hby at_216) rfl r_v10 ?_
      show Steps p.tables e below (T74.setTop (mkF m 218 #[.val (.int p0), .val (.int p1), .val (.int p2), .val (.int p3), .val (.int p4), .val (.long p5), .second, .val (.int i1), .val (.int i2), .val (.int i3), .val v5, .val v10, .val (.ref b16), .val (.ref b22), .val (.ref b29), .val v10, .val v10, .val v10, .val v62, .val v62, .val v62, .val v62] [v10, v10])) _
      refine Jvm.RoadKit.acmp (g := (mkF m 218 #[.val (.int p0), .val (.int p1), .val (.int p2), .val (.int p3), .val (.int p4), .val (.long p5), .second, .val (.int i1), .val (.int i2), .val (.int i3), .val v5, .val v10, .val (.ref b16), .val (.ref b22), .val (.ref b29), .val v10, .val v10, .val v10, .val v62, .val v62, .val v62, .val v62] [v10, v10])) X74 hx rfl r_v10 r_v10 (pc0 := 218) (pc' := 221) (same := true) rfl (hb hby at_218) rfl (decide_eq_true rfl) (by decide) (by decide) ?_
      show Steps p.tables e below (T74.setTop (mkF m 221 #[.val (.int p0), .val (.int p1), .val (.int p2), .val (.int p3), .val (.int p4), .val (.long p5), .second, .val (.int i1), .val (.int i2), .val (.int i3), .val v5, .val v10, .val (.ref b16), .val (.ref b22), .val (.ref b29), .val v10, .val v10, .val v10, .val v62, .val v62, .val v62, .val v62] [])) _
      refine XS.aload X74.here hx rfl (hb hby at_221) rfl r_v10 ?_
      show Steps p.tables e below (T74.setTop (mkF m 223 #[.val (.int p0), .val (.int p1), .val (.int p2), .val (.int p3), .val (.int p4), .val (.long p5), .second, .val (.int i1), .val (.int i2), .val (.int i3), .val v5, .val v10, .val (.ref b16), .val (.ref b22), .val (.ref b29), .val v10, .val v10, .val v10, .val v62, .val v62, .val v62, .val v62] [v10])) _
      refine XS.aload X74.here hx rfl (hb hby at_223) rfl r_v10 ?_
      show Steps p.tables e below (T74.setTop (mkF m 225 #[.val (.int p0), .val (.int p1), .val (.int p2), .val (.int p3), .val (.int p4), .val (.long p5), .second, .val (.int i1), .val (.int i2), .val (.int i3), .val v5, .val v10, .val (.ref b16), .val (.ref b22), .val (.ref b29), .val v10, .val v10, .val v10, .val v62, .val v62, .val v62, .val v62] [v10, v10])) _
      refine Jvm.RoadKit.acmp (g := (mkF m 225 #[.val (.int p0), .val (.int p1), .val (.int p2), .val (.int p3), .val (.int p4), .val (.long p5), .second, .val (.int i1), .val (.int i2), .val (.int i3), .val v5, .val v10, .val (.ref b16), .val (.ref b22), .val (.ref b29), .val v10, .val v10, .val v10, .val v62, .val v62, .val v62, .val v62] [v10, v10])) X74 hx rfl r_v10 r_v10 (pc0 := 225) (pc' := 228) (same := true) rfl (hb hby at_225) rfl (decide_eq_true rfl) (by decide) (by decide) ?_
      show Steps p.tables e below (T74.setTop (mkF m 228 #[.val (.int p0), .val (.int p1), .val (.int p2), .val (.int p3), .val (.int p4), .val (.long p5), .second, .val (.int i1), .val (.int i2), .val (.int i3), .val v5, .val v10, .val (.ref b16), .val (.ref b22), .val (.ref b29), .val v10, .val v10, .val v10, .val v62, .val v62, .val v62, .val v62] [])) _
      refine XS.aload X74.here hx rfl (hb hby at_228) rfl r_v62 ?_
      show Steps p.tables e below (T74.setTop (mkF m 230 #[.val (.int p0), .val (.int p1), .val (.int p2), .val (.int p3), .val (.int p4), .val (.long p5), .second, .val (.int i1), .val (.int i2), .val (.int i3), .val v5, .val v10, .val (.ref b16), .val (.ref b22), .val (.ref b29), .val v10, .val v10, .val v10, .val v62, .val v62, .val v62, .val v62] [v62])) _
      refine XS.aload X74.here hx rfl (hb hby at_230) rfl r_v62 ?_
      show Steps p.tables e below (T74.setTop (mkF m 232 #[.val (.int p0), .val (.int p1), .val (.int p2), .val (.int p3), .val (.int p4), .val (.long p5), .second, .val (.int i1), .val (.int i2), .val (.int i3), .val v5, .val v10, .val (.ref b16), .val (.ref b22), .val (.ref b29), .val v10, .val v10, .val v10, .val v62, .val v62, .val v62, .val v62] [v62, v62])) _
      refine Jvm.RoadKit.acmp (g := (mkF m 232 #[.val (.int p0), .val (.int p1), .val (.int p2), .val (.int p3), .val (.int p4), .val (.long p5), .second, .val (.int i1), .val (.int i2), .val (.int i3), .val v5, .val v10, .val (.ref b16), .val (.ref b22), .val (.ref b29), .val v10, .val v10, .val v10, .val v62, .val v62, .val v62, .val v62] [v62, v62])) X74 hx rfl r_v62 r_v62 (pc0 := 232) (pc' := 235) (same := true) rfl (hb hby at_232) rfl (decide_eq_true rfl) (by decide) (by decide) ?_
      show Steps p.tables e below (T74.setTop (mkF m 235 #[.val (.int p0), .val (.int p1), .val (.int p2), .val (.int p3), .val (.int p4), .val (.long p5), .second, .val (.int i1), .val (.int i2), .val (.int i3), .val v5, .val v10, .val (.ref b16), .val (.ref b22), .val (.ref b29), .val v10, .val v10, .val v10, .val v62, .val v62, .val v62, .val v62] [])) _
      refine XS.aload X74.here hx rfl (hb hby at_235) rfl r_v62 ?_
      show Steps p.tables e below (T74.setTop (mkF m 237 #[.val (.int p0), .val (.int p1), .val (.int p2), .val (.int p3), .val (.int p4), .val (.long p5), .second, .val (.int i1), .val (.int i2), .val (.int i3), .val v5, .val v10, .val (.ref b16), .val (.ref b22), .val (.ref b29), .val v10, .val v10, .val v10, .val v62, .val v62, .val v62, .val v62] [v62])) _
      refine XS.aload X74.here hx rfl (hb hby at_237) rfl r_v62 ?_
      show Steps p.tables e below (T74.setTop (mkF m 239 #[.val (.int p0), .val (.int p1), .val (.int p2), .val (.int p3), .val (.int p4), .val (.long p5), .second, .val (.int i1), .val (.int i2), .val (.int i3), .val v5, .val v10, .val (.ref b16), .val (.ref b22), .val (.ref b29), .val v10, .val v10, .val v10, .val v62, .val v62, .val v62, .val v62] [v62, v62])) _
      refine Jvm.RoadKit.acmp (g := (mkF m 239 #[.val (.int p0), .val (.int p1), .val (.int p2), .val (.int p3), .val (.int p4), .val (.long p5), .second, .val (.int i1), .val (.int i2), .val (.int i3), .val v5, .val v10, .val (.ref b16), .val (.ref b22), .val (.ref b29), .val v10, .val v10, .val v10, .val v62, .val v62, .val v62, .val v62] [v62, v62])) X74 hx rfl r_v62 r_v62 (pc0 := 239) (pc' := 242) (same := true) rfl (hb hby at_239) rfl (decide_eq_true rfl) (by decide) (by decide) ?_
      show Steps p.tables e below (T74.setTop (mkF m 242 #[.val (.int p0), .val (.int p1), .val (.int p2), .val (.int p3), .val (.int p4), .val (.long p5), .second, .val (.int i1), .val (.int i2), .val (.int i3), .val v5, .val v10, .val (.ref b16), .val (.ref b22), .val (.ref b29), .val v10, .val v10, .val v10, .val v62, .val v62, .val v62, .val v62] [])) _
      exact kk
    have P76 : ∀ t, Steps p.tables e below (T74.setTop (mkF m 247 #[.val (.int p0), .val (.int p1), .val (.int p2), .val (.int p3), .val (.int p4), .val (.long p5), .second, .val (.int i1), .val (.int i2), .val (.int i3), .val v5, .val v10, .val (.ref b16), .val (.ref b22), .val (.ref b29), .val v10, .val v10, .val v10, .val v62, .val v62, .val v62, .val v62] [(.int (1 : Int32))])) t → Steps p.tables e below (s₁.setTop (entryFrame m #[(.int p0), (.int p1), (.int p2), (.int p3), (.int p4), (.long p5)] maxLocals)) t := by
      intro t kk
      refine P75 _ ?_
      show Steps p.tables e below (T74.setTop (mkF m 242 #[.val (.int p0), .val (.int p1), .val (.int p2), .val (.int p3), .val (.int p4), .val (.long p5), .second, .val (.int i1), .val (.int i2), .val (.int i3), .val v5, .val v10, .val (.ref b16), .val (.ref b22), .val (.ref b29), .val v10, .val v10, .val v10, .val v62, .val v62, .val v62, .val v62] [])) _
      refine XS.iconst X74.here hx rfl (hb hby at_242) ?_
      show Steps p.tables e below (T74.setTop (mkF m 243 #[.val (.int p0), .val (.int p1), .val (.int p2), .val (.int p3), .val (.int p4), .val (.long p5), .second, .val (.int i1), .val (.int i2), .val (.int i3), .val v5, .val v10, .val (.ref b16), .val (.ref b22), .val (.ref b29), .val v10, .val v10, .val v10, .val v62, .val v62, .val v62, .val v62] [(.int (1 : Int32))])) _
      refine XS.goto X74.here hx rfl (pc0 := 243) (pc' := 247) rfl (hb hby at_243) (by decide) (by decide) ?_
      show Steps p.tables e below (T74.setTop (mkF m 247 #[.val (.int p0), .val (.int p1), .val (.int p2), .val (.int p3), .val (.int p4), .val (.long p5), .second, .val (.int i1), .val (.int i2), .val (.int i3), .val v5, .val v10, .val (.ref b16), .val (.ref b22), .val (.ref b29), .val v10, .val v10, .val v10, .val v62, .val v62, .val v62, .val v62] [(.int (1 : Int32))])) _
      exact kk
    obtain ⟨fs, hr, hrun, hended, hW, hsame⟩ := X74.leave (v := some (.int (1 : Int32))) (fun h => by rw [Bd.returns] at h; cases h)
    refine ⟨_, _, P76 _ ?_, hrun, hended, _, _, rfl, ?_, ⟨_, rfl⟩, hW, hsame.mono (by decide) (by decide)⟩
    · exact retN X74 hx (t := .boolean) Bd.returns (by simp) (hb hby at_247) hr
    · exact ⟨rfl, N74⟩
  · skip
    have f78 := (Fld.keep f46 K44 (ninS q34_13 (ninS q34_14 (ninS q34_15 nin0))))
    have f79 := (Fld.keep f47 K44 (ninS q34_13 (ninS q34_14 (ninS q34_15 nin0))))
    have f80 := (Exa.keep (Exa.keep f41 K39) K44)
    have f81 := (Fld.keep (Fld.keep (Fld.keep (Fld.ext E29 (Fld.other W28 (Fld.ext E22 Fw21) (Or.inl ne_b16_b22))) K34 (ninS ne_b16_b29 nin0)) K39 (ninS ne_b16_b1_34 (ninS ne_b16_b2_34 (ninS ne_b16_b3_34 nin0)))) K44 (ninS ne_b16_b1_34 (ninS ne_b16_b2_34 (ninS ne_b16_b3_34 nin0))))
    have z82 : n0 ≤ _ := (Nat.le_trans z50 K44.1)
    have f83 := (Exa.keep f45 K44)
    obtain ⟨cq77, kq77, q77a, q77b, q77c⟩ := isOf hZ rfl f83
    obtain ⟨_, _, ⟨T77, L77, k77, n77⟩, -, X77, ⟨Lc77, hQ77, l77, y77, z77⟩, st77⟩ := X44.virtualBack hx (y := (⟨"com/example/quernloop/quernloop/WorkSlots", "object", "(I)Ljava/lang/Object;"⟩ : MethodName)) (z := (⟨"com/example/quernloop/quernloop/WorkSlots", "object", "(I)Ljava/lang/Object;"⟩ : MethodName)) hown (mvT hZ (hw _ (List.mem_of_getElem? (i := 43) rfl))) (mvT hZ (hw _ (List.mem_of_getElem? (i := 44) rfl))) (notFace_of_selects (args := #[]) (mvT hZ (hw _ (List.mem_of_getElem? (i := 46) rfl)))) (mvT hZ (hw _ (List.mem_of_getElem? (i := 46) rfl))) (mvT hZ (hw _ (List.mem_of_getElem? (i := 45) rfl))) (by decide) (backOf (W := 0) (rm9 l Z a0 hw [] b29 i2 b1_34 b2_34 k1_34 k2_34 i1 (fun i => if i = (i3).toNatClampNeg then (.ref b22) else (fun i => if i = (i2).toNatClampNeg then (.ref b16) else (fun _ => .null) i) i) (fun i => if i = (i3).toNatClampNeg then .null else (fun i => if i = (i2).toNatClampNeg then .null else (fun _ => .null) i) i) b16 v5 T44.heap n0 z82 f78 f79 q44_0 q44_1 f80 f81 r_v5 (own_idx p1 i1 i2 (own_cap p0 i1 h_i1).2.2.1 h_i2) (by simp) ((if_neg (own_tn (own_idx p1 i1 i2 (own_cap p0 i1 h_i1).2.2.1 h_i2).1 (own_idx p2 i1 i3 (own_cap p0 i1 h_i1).2.2.1 h_i3).1 c52)).trans (if_pos rfl))) hZ (hw _ (List.mem_of_getElem? (i := 47) rfl)) (hw _ (List.mem_of_getElem? (i := 22) rfl)) (by decide) (by decide)) q77a q77c (g := (mkF m 145 #[.val (.int p0), .val (.int p1), .val (.int p2), .val (.int p3), .val (.int p4), .val (.long p5), .second, .val (.int i1), .val (.int i2), .val (.int i3), .val v5, .val v10, .val (.ref b16), .val (.ref b22), .val (.ref b29), .val v5, .unset, .unset, .unset, .unset, .unset, .unset] [(.int i2), (.ref b29)])) rfl (by rw [hml]; rfl) (Steps.refl _) (argsL := [(.int i2)]) (rest := []) (lenOf pd_6 rfl) rfl (by show 2 * 0 + _ ≤ _; exact Nat.le_of_eq rfl) (hb hby at_145) (fun _ _ => ⟨rfl, rfl, (by decide : 8 + 0 ≤ _), (by decide : 45 + 0 ≤ _)⟩)
    dsimp only [Pt.U, Pt.locs, Pt.cells, Pt.slots] at X77 l77 y77 z77 st77 hQ77
    subst l77 y77 z77
    obtain ⟨rfl, Nq77, e77⟩ := hQ77
    have N77 := Fr.app N44 Nq77
    have f85 := (Exa.keep f49 K44)
    have f86 := (Fld.keep (Fld.keep (Fld.keep (Fld.ext E29 Fw28) K34 (ninS ne_b22_b29 nin0)) K39 (ninS ne_b22_b1_34 (ninS ne_b22_b2_34 (ninS ne_b22_b3_34 nin0)))) K44 (ninS ne_b22_b1_34 (ninS ne_b22_b2_34 (ninS ne_b22_b3_34 nin0))))
    obtain ⟨cq84, kq84, q84a, q84b, q84c⟩ := isOf hZ e77 f83
    obtain ⟨_, _, ⟨T84, L84, k84, n84⟩, -, X84, ⟨Lc84, hQ84, l84, y84, z84⟩, st84⟩ := X77.virtualBack hx (y := (⟨"com/example/quernloop/quernloop/WorkSlots", "object", "(I)Ljava/lang/Object;"⟩ : MethodName)) (z := (⟨"com/example/quernloop/quernloop/WorkSlots", "object", "(I)Ljava/lang/Object;"⟩ : MethodName)) hown (mvT hZ (hw _ (List.mem_of_getElem? (i := 43) rfl))) (mvT hZ (hw _ (List.mem_of_getElem? (i := 44) rfl))) (notFace_of_selects (args := #[]) (mvT hZ (hw _ (List.mem_of_getElem? (i := 46) rfl)))) (mvT hZ (hw _ (List.mem_of_getElem? (i := 46) rfl))) (mvT hZ (hw _ (List.mem_of_getElem? (i := 45) rfl))) (by decide) (backOf (W := 0) (rm9 l Z a0 hw [] b29 i3 b1_34 b2_34 k1_34 k2_34 i1 (fun i => if i = (i3).toNatClampNeg then (.ref b22) else (fun i => if i = (i2).toNatClampNeg then (.ref b16) else (fun _ => .null) i) i) (fun i => if i = (i3).toNatClampNeg then .null else (fun i => if i = (i2).toNatClampNeg then .null else (fun _ => .null) i) i) b22 v10 T44.heap n0 z82 f78 f79 q44_0 q44_1 f85 f86 r_v10 (own_idx p2 i1 i3 (own_cap p0 i1 h_i1).2.2.1 h_i3) (by simp) (if_pos rfl)) hZ (hw _ (List.mem_of_getElem? (i := 47) rfl)) (hw _ (List.mem_of_getElem? (i := 22) rfl)) (by decide) (by decide)) q84a q84c (g := (mkF m 154 #[.val (.int p0), .val (.int p1), .val (.int p2), .val (.int p3), .val (.int p4), .val (.long p5), .second, .val (.int i1), .val (.int i2), .val (.int i3), .val v5, .val v10, .val (.ref b16), .val (.ref b22), .val (.ref b29), .val v5, .val v5, .unset, .unset, .unset, .unset, .unset] [(.int i3), (.ref b29)])) rfl (by rw [hml]; rfl) (Steps.refl _) (argsL := [(.int i3)]) (rest := []) (lenOf pd_6 rfl) rfl (by show 2 * 0 + _ ≤ _; exact Nat.le_of_eq rfl) (hb hby at_154) (fun _ _ => ⟨rfl, e77, (by decide : 8 + 0 ≤ _), (by decide : 45 + 0 ≤ _)⟩)
    dsimp only [Pt.U, Pt.locs, Pt.cells, Pt.slots] at X84 l84 y84 z84 st84 hQ84
    subst l84 y84 z84
    obtain ⟨rfl, Nq84, e84⟩ := hQ84
    have N84 := Fr.app N77 Nq84
    have P87 : ∀ t, Steps p.tables e below (T84.setTop (mkF m 162 #[.val (.int p0), .val (.int p1), .val (.int p2), .val (.int p3), .val (.int p4), .val (.long p5), .second, .val (.int i1), .val (.int i2), .val (.int i3), .val v5, .val v10, .val (.ref b16), .val (.ref b22), .val (.ref b29), .val v5, .val v5, .val v10, .unset, .unset, .unset, .unset] [(.int (p3 &&& (4 : Int32)))])) t → Steps p.tables e below (s₁.setTop (entryFrame m #[(.int p0), (.int p1), (.int p2), (.int p3), (.int p4), (.long p5)] maxLocals)) t := by
      intro t kk
      refine P51 _ ?_
      show Steps p.tables e below (T44.setTop (mkF m 129 #[.val (.int p0), .val (.int p1), .val (.int p2), .val (.int p3), .val (.int p4), .val (.long p5), .second, .val (.int i1), .val (.int i2), .val (.int i3), .val v5, .val v10, .val (.ref b16), .val (.ref b22), .val (.ref b29), .unset, .unset, .unset, .unset, .unset, .unset, .unset] [(.int i3), (.int i2)])) _
      refine XS.icmpYes X44.here hx rfl (pc0 := 129) (pc' := 137) rfl (hb hby at_129) rfl (XT.ii_ne_t c52) (by decide) (by decide) ?_
      show Steps p.tables e below (T44.setTop (mkF m 137 #[.val (.int p0), .val (.int p1), .val (.int p2), .val (.int p3), .val (.int p4), .val (.long p5), .second, .val (.int i1), .val (.int i2), .val (.int i3), .val v5, .val v10, .val (.ref b16), .val (.ref b22), .val (.ref b29), .unset, .unset, .unset, .unset, .unset, .unset, .unset] [])) _
      refine XS.aload X44.here hx rfl (hb hby at_137) rfl r_v5 ?_
      show Steps p.tables e below (T44.setTop (mkF m 139 #[.val (.int p0), .val (.int p1), .val (.int p2), .val (.int p3), .val (.int p4), .val (.long p5), .second, .val (.int i1), .val (.int i2), .val (.int i3), .val v5, .val v10, .val (.ref b16), .val (.ref b22), .val (.ref b29), .unset, .unset, .unset, .unset, .unset, .unset, .unset] [v5])) _
      refine XS.astoreS X44.here hx rfl (hb hby at_139) rfl r_v5 (XT.cat1 r_v5) rfl (Or.inl rfl) ?_
      show Steps p.tables e below (T44.setTop (mkF m 141 #[.val (.int p0), .val (.int p1), .val (.int p2), .val (.int p3), .val (.int p4), .val (.long p5), .second, .val (.int i1), .val (.int i2), .val (.int i3), .val v5, .val v10, .val (.ref b16), .val (.ref b22), .val (.ref b29), .val v5, .unset, .unset, .unset, .unset, .unset, .unset] [])) _
      refine XS.aload X44.here hx rfl (hb hby at_141) rfl rfl ?_
      show Steps p.tables e below (T44.setTop (mkF m 143 #[.val (.int p0), .val (.int p1), .val (.int p2), .val (.int p3), .val (.int p4), .val (.long p5), .second, .val (.int i1), .val (.int i2), .val (.int i3), .val v5, .val v10, .val (.ref b16), .val (.ref b22), .val (.ref b29), .val v5, .unset, .unset, .unset, .unset, .unset, .unset] [(.ref b29)])) _
      refine XS.iload X44.here hx rfl (hb hby at_143) rfl ?_
      show Steps p.tables e below (T44.setTop (mkF m 145 #[.val (.int p0), .val (.int p1), .val (.int p2), .val (.int p3), .val (.int p4), .val (.long p5), .second, .val (.int i1), .val (.int i2), .val (.int i3), .val v5, .val v10, .val (.ref b16), .val (.ref b22), .val (.ref b29), .val v5, .unset, .unset, .unset, .unset, .unset, .unset] [(.int i2), (.ref b29)])) _
      refine st77.trans ?_
      show Steps p.tables e below (T77.setTop (mkF m 148 #[.val (.int p0), .val (.int p1), .val (.int p2), .val (.int p3), .val (.int p4), .val (.long p5), .second, .val (.int i1), .val (.int i2), .val (.int i3), .val v5, .val v10, .val (.ref b16), .val (.ref b22), .val (.ref b29), .val v5, .unset, .unset, .unset, .unset, .unset, .unset] [v5])) _
      refine XS.astoreS X77.here hx rfl (hb hby at_148) rfl r_v5 (XT.cat1 r_v5) rfl (Or.inl rfl) ?_
      show Steps p.tables e below (T77.setTop (mkF m 150 #[.val (.int p0), .val (.int p1), .val (.int p2), .val (.int p3), .val (.int p4), .val (.long p5), .second, .val (.int i1), .val (.int i2), .val (.int i3), .val v5, .val v10, .val (.ref b16), .val (.ref b22), .val (.ref b29), .val v5, .val v5, .unset, .unset, .unset, .unset, .unset] [])) _
      refine XS.aload X77.here hx rfl (hb hby at_150) rfl rfl ?_
      show Steps p.tables e below (T77.setTop (mkF m 152 #[.val (.int p0), .val (.int p1), .val (.int p2), .val (.int p3), .val (.int p4), .val (.long p5), .second, .val (.int i1), .val (.int i2), .val (.int i3), .val v5, .val v10, .val (.ref b16), .val (.ref b22), .val (.ref b29), .val v5, .val v5, .unset, .unset, .unset, .unset, .unset] [(.ref b29)])) _
      refine XS.iload X77.here hx rfl (hb hby at_152) rfl ?_
      show Steps p.tables e below (T77.setTop (mkF m 154 #[.val (.int p0), .val (.int p1), .val (.int p2), .val (.int p3), .val (.int p4), .val (.long p5), .second, .val (.int i1), .val (.int i2), .val (.int i3), .val v5, .val v10, .val (.ref b16), .val (.ref b22), .val (.ref b29), .val v5, .val v5, .unset, .unset, .unset, .unset, .unset] [(.int i3), (.ref b29)])) _
      refine st84.trans ?_
      show Steps p.tables e below (T84.setTop (mkF m 157 #[.val (.int p0), .val (.int p1), .val (.int p2), .val (.int p3), .val (.int p4), .val (.long p5), .second, .val (.int i1), .val (.int i2), .val (.int i3), .val v5, .val v10, .val (.ref b16), .val (.ref b22), .val (.ref b29), .val v5, .val v5, .unset, .unset, .unset, .unset, .unset] [v10])) _
      refine XS.astoreS X84.here hx rfl (hb hby at_157) rfl r_v10 (XT.cat1 r_v10) rfl (Or.inl rfl) ?_
      show Steps p.tables e below (T84.setTop (mkF m 159 #[.val (.int p0), .val (.int p1), .val (.int p2), .val (.int p3), .val (.int p4), .val (.long p5), .second, .val (.int i1), .val (.int i2), .val (.int i3), .val v5, .val v10, .val (.ref b16), .val (.ref b22), .val (.ref b29), .val v5, .val v5, .val v10, .unset, .unset, .unset, .unset] [])) _
      refine XS.iloadN X84.here hx rfl (hb hby at_159) rfl ?_
      show Steps p.tables e below (T84.setTop (mkF m 160 #[.val (.int p0), .val (.int p1), .val (.int p2), .val (.int p3), .val (.int p4), .val (.long p5), .second, .val (.int i1), .val (.int i2), .val (.int i3), .val v5, .val v10, .val (.ref b16), .val (.ref b22), .val (.ref b29), .val v5, .val v5, .val v10, .unset, .unset, .unset, .unset] [(.int p3)])) _
      refine XS.iconst X84.here hx rfl (hb hby at_160) ?_
      show Steps p.tables e below (T84.setTop (mkF m 161 #[.val (.int p0), .val (.int p1), .val (.int p2), .val (.int p3), .val (.int p4), .val (.long p5), .second, .val (.int i1), .val (.int i2), .val (.int i3), .val v5, .val v10, .val (.ref b16), .val (.ref b22), .val (.ref b29), .val v5, .val v5, .val v10, .unset, .unset, .unset, .unset] [(.int (4 : Int32)), (.int p3)])) _
      refine XS.iand X84.here hx rfl (hb hby at_161) rfl ?_
      show Steps p.tables e below (T84.setTop (mkF m 162 #[.val (.int p0), .val (.int p1), .val (.int p2), .val (.int p3), .val (.int p4), .val (.long p5), .second, .val (.int i1), .val (.int i2), .val (.int i3), .val v5, .val v10, .val (.ref b16), .val (.ref b22), .val (.ref b29), .val v5, .val v5, .val v10, .unset, .unset, .unset, .unset] [(.int (p3 &&& (4 : Int32)))])) _
      exact kk
    obtain ⟨v88, h_v88, P89⟩ : ∃ (v88 : Value), v88 = (if (p3 &&& (4 : Int32)) = (0 : Int32) then .null else (.ref b16)) ∧ ∀ t, Steps p.tables e below (T84.setTop (mkF m 171 #[.val (.int p0), .val (.int p1), .val (.int p2), .val (.int p3), .val (.int p4), .val (.long p5), .second, .val (.int i1), .val (.int i2), .val (.int i3), .val v5, .val v10, .val (.ref b16), .val (.ref b22), .val (.ref b29), .val v5, .val v5, .val v10, .unset, .unset, .unset, .unset] [v88])) t → Steps p.tables e below (s₁.setTop (entryFrame m #[(.int p0), (.int p1), (.int p2), (.int p3), (.int p4), (.long p5)] maxLocals)) t := by
      by_cases c90 : (p3 &&& (4 : Int32)) = (0 : Int32)
      · skip
        refine ⟨.null, ((if_pos c90).trans rfl).symm, fun t kk => P87 t ?_⟩
        show Steps p.tables e below (T84.setTop (mkF m 162 #[.val (.int p0), .val (.int p1), .val (.int p2), .val (.int p3), .val (.int p4), .val (.long p5), .second, .val (.int i1), .val (.int i2), .val (.int i3), .val v5, .val v10, .val (.ref b16), .val (.ref b22), .val (.ref b29), .val v5, .val v5, .val v10, .unset, .unset, .unset, .unset] [(.int (p3 &&& (4 : Int32)))])) _
        refine XS.ifYes X84.here hx rfl (pc0 := 162) (pc' := 170) rfl (hb hby at_162) rfl (XT.i0_eq_t c90) (by decide) (by decide) ?_
        show Steps p.tables e below (T84.setTop (mkF m 170 #[.val (.int p0), .val (.int p1), .val (.int p2), .val (.int p3), .val (.int p4), .val (.long p5), .second, .val (.int i1), .val (.int i2), .val (.int i3), .val v5, .val v10, .val (.ref b16), .val (.ref b22), .val (.ref b29), .val v5, .val v5, .val v10, .unset, .unset, .unset, .unset] [])) _
        refine XS.aconstNull X84.here hx rfl (hb hby at_170) ?_
        show Steps p.tables e below (T84.setTop (mkF m 171 #[.val (.int p0), .val (.int p1), .val (.int p2), .val (.int p3), .val (.int p4), .val (.long p5), .second, .val (.int i1), .val (.int i2), .val (.int i3), .val v5, .val v10, .val (.ref b16), .val (.ref b22), .val (.ref b29), .val v5, .val v5, .val v10, .unset, .unset, .unset, .unset] [.null])) _
        exact kk
      · skip
        refine ⟨(.ref b16), ((if_neg c90).trans rfl).symm, fun t kk => P87 t ?_⟩
        show Steps p.tables e below (T84.setTop (mkF m 162 #[.val (.int p0), .val (.int p1), .val (.int p2), .val (.int p3), .val (.int p4), .val (.long p5), .second, .val (.int i1), .val (.int i2), .val (.int i3), .val v5, .val v10, .val (.ref b16), .val (.ref b22), .val (.ref b29), .val v5, .val v5, .val v10, .unset, .unset, .unset, .unset] [(.int (p3 &&& (4 : Int32)))])) _
        refine XS.ifNo X84.here hx rfl (hb hby at_162) rfl (XT.i0_eq_f c90) ?_
        show Steps p.tables e below (T84.setTop (mkF m 165 #[.val (.int p0), .val (.int p1), .val (.int p2), .val (.int p3), .val (.int p4), .val (.long p5), .second, .val (.int i1), .val (.int i2), .val (.int i3), .val v5, .val v10, .val (.ref b16), .val (.ref b22), .val (.ref b29), .val v5, .val v5, .val v10, .unset, .unset, .unset, .unset] [])) _
        refine XS.aload X84.here hx rfl (hb hby at_165) rfl rfl ?_
        show Steps p.tables e below (T84.setTop (mkF m 167 #[.val (.int p0), .val (.int p1), .val (.int p2), .val (.int p3), .val (.int p4), .val (.long p5), .second, .val (.int i1), .val (.int i2), .val (.int i3), .val v5, .val v10, .val (.ref b16), .val (.ref b22), .val (.ref b29), .val v5, .val v5, .val v10, .unset, .unset, .unset, .unset] [(.ref b16)])) _
        refine XS.goto X84.here hx rfl (pc0 := 167) (pc' := 171) rfl (hb hby at_167) (by decide) (by decide) ?_
        show Steps p.tables e below (T84.setTop (mkF m 171 #[.val (.int p0), .val (.int p1), .val (.int p2), .val (.int p3), .val (.int p4), .val (.long p5), .second, .val (.int i1), .val (.int i2), .val (.int i3), .val v5, .val v10, .val (.ref b16), .val (.ref b22), .val (.ref b29), .val v5, .val v5, .val v10, .unset, .unset, .unset, .unset] [(.ref b16)])) _
        exact kk
    have r_v88 : v88.isRef = true := by (rw [h_v88]; (repeat' split) <;> first | rfl | assumption)
    obtain ⟨T91, h91, X91, e91, W91, st91⟩ := putF X84 hx hZ hown (host := "") (Or.inl (hw _ (List.mem_of_getElem? (i := 18) rfl))) Via.refl e84 f86 f85 (Or.inl (hw _ (List.mem_of_getElem? (i := 19) rfl))) (hw _ (List.mem_of_getElem? (i := 10) rfl)) (ty := (.object "java/lang/Object")) (by decide) (own_narrow_ref r_v88) (own_fits_ref r_v88) (g := (mkF m 177 #[.val (.int p0), .val (.int p1), .val (.int p2), .val (.int p3), .val (.int p4), .val (.long p5), .second, .val (.int i1), .val (.int i2), .val (.int i3), .val v5, .val v10, .val (.ref b16), .val (.ref b22), .val (.ref b29), .val v5, .val v5, .val v10, .val v88, .unset, .unset, .unset] [v88, (.ref b22)])) rfl rfl (hb hby at_177)
    have N91 := Fr.snoc X91 N84 ge_b22
    have Fw91 := Fld.same W91 f86
    have f93 := (Fld.other W91 f78 (Or.inl (Ne.symm ne_b22_b29)))
    have f94 := (Fld.other W91 f79 (Or.inl (Ne.symm ne_b22_b29)))
    have f95 := (Rar.other q44_0 W91 (Ne.symm ne_b22_b1_34))
    have f96 := (Rar.other q44_1 W91 (Ne.symm ne_b22_b2_34))
    have f97 := (Exa.wr W91 f85)
    have z98 : n0 ≤ _ := (Nat.le_trans z82 (Keep.of_wr W91).1)
    have f99 := (Exa.wr W91 f83)
    obtain ⟨cq92, kq92, q92a, q92b, q92c⟩ := isOf hZ e91 f99
    obtain ⟨_, _, ⟨T92, L92, k92, n92⟩, -, X92, ⟨Lc92, hQ92, l92, y92, z92⟩, st92⟩ := X91.virtualBack hx (y := (⟨"com/example/quernloop/quernloop/WorkSlots", "object", "(I)Ljava/lang/Object;"⟩ : MethodName)) (z := (⟨"com/example/quernloop/quernloop/WorkSlots", "object", "(I)Ljava/lang/Object;"⟩ : MethodName)) hown (mvT hZ (hw _ (List.mem_of_getElem? (i := 43) rfl))) (mvT hZ (hw _ (List.mem_of_getElem? (i := 44) rfl))) (notFace_of_selects (args := #[]) (mvT hZ (hw _ (List.mem_of_getElem? (i := 46) rfl)))) (mvT hZ (hw _ (List.mem_of_getElem? (i := 46) rfl))) (mvT hZ (hw _ (List.mem_of_getElem? (i := 45) rfl))) (by decide) (backOf (W := 0) (rm9 l Z a0 hw [] b29 i3 b1_34 b2_34 k1_34 k2_34 i1 (fun i => if i = (i3).toNatClampNeg then (.ref b22) else (fun i => if i = (i2).toNatClampNeg then (.ref b16) else (fun _ => .null) i) i) (fun i => if i = (i3).toNatClampNeg then .null else (fun i => if i = (i2).toNatClampNeg then .null else (fun _ => .null) i) i) b22 v88 h91 n0 z98 f93 f94 f95 f96 f97 Fw91 r_v88 (own_idx p2 i1 i3 (own_cap p0 i1 h_i1).2.2.1 h_i3) (by simp) (if_pos rfl)) hZ (hw _ (List.mem_of_getElem? (i := 47) rfl)) (hw _ (List.mem_of_getElem? (i := 22) rfl)) (by decide) (by decide)) q92a q92c (g := (mkF m 184 #[.val (.int p0), .val (.int p1), .val (.int p2), .val (.int p3), .val (.int p4), .val (.long p5), .second, .val (.int i1), .val (.int i2), .val (.int i3), .val v5, .val v10, .val (.ref b16), .val (.ref b22), .val (.ref b29), .val v5, .val v5, .val v10, .val v88, .unset, .unset, .unset] [(.int i3), (.ref b29)])) rfl (by rw [hml]; rfl) (Steps.refl _) (argsL := [(.int i3)]) (rest := []) (lenOf pd_6 rfl) rfl (by show 2 * 0 + _ ≤ _; exact Nat.le_of_eq rfl) (hb hby at_184) (fun _ _ => ⟨rfl, e91, (by decide : 8 + 0 ≤ _), (by decide : 45 + 0 ≤ _)⟩)
    dsimp only [Pt.U, Pt.locs, Pt.cells, Pt.slots] at X92 l92 y92 z92 st92 hQ92
    subst l92 y92 z92
    obtain ⟨rfl, Nq92, e92⟩ := hQ92
    have N92 := Fr.app N91 Nq92
    have f101 := (Exa.wr W91 f80)
    have f102 := (Fld.other W91 f81 (Or.inl ne_b16_b22))
    obtain ⟨cq100, kq100, q100a, q100b, q100c⟩ := isOf hZ e92 f99
    obtain ⟨_, _, ⟨T100, L100, k100, n100⟩, -, X100, ⟨Lc100, hQ100, l100, y100, z100⟩, st100⟩ := X92.virtualBack hx (y := (⟨"com/example/quernloop/quernloop/WorkSlots", "object", "(I)Ljava/lang/Object;"⟩ : MethodName)) (z := (⟨"com/example/quernloop/quernloop/WorkSlots", "object", "(I)Ljava/lang/Object;"⟩ : MethodName)) hown (mvT hZ (hw _ (List.mem_of_getElem? (i := 43) rfl))) (mvT hZ (hw _ (List.mem_of_getElem? (i := 44) rfl))) (notFace_of_selects (args := #[]) (mvT hZ (hw _ (List.mem_of_getElem? (i := 46) rfl)))) (mvT hZ (hw _ (List.mem_of_getElem? (i := 46) rfl))) (mvT hZ (hw _ (List.mem_of_getElem? (i := 45) rfl))) (by decide) (backOf (W := 0) (rm9 l Z a0 hw [] b29 i2 b1_34 b2_34 k1_34 k2_34 i1 (fun i => if i = (i3).toNatClampNeg then (.ref b22) else (fun i => if i = (i2).toNatClampNeg then (.ref b16) else (fun _ => .null) i) i) (fun i => if i = (i3).toNatClampNeg then .null else (fun i => if i = (i2).toNatClampNeg then .null else (fun _ => .null) i) i) b16 v5 h91 n0 z98 f93 f94 f95 f96 f101 f102 r_v5 (own_idx p1 i1 i2 (own_cap p0 i1 h_i1).2.2.1 h_i2) (by simp) ((if_neg (own_tn (own_idx p1 i1 i2 (own_cap p0 i1 h_i1).2.2.1 h_i2).1 (own_idx p2 i1 i3 (own_cap p0 i1 h_i1).2.2.1 h_i3).1 c52)).trans (if_pos rfl))) hZ (hw _ (List.mem_of_getElem? (i := 47) rfl)) (hw _ (List.mem_of_getElem? (i := 22) rfl)) (by decide) (by decide)) q100a q100c (g := (mkF m 209 #[.val (.int p0), .val (.int p1), .val (.int p2), .val (.int p3), .val (.int p4), .val (.long p5), .second, .val (.int i1), .val (.int i2), .val (.int i3), .val v5, .val v10, .val (.ref b16), .val (.ref b22), .val (.ref b29), .val v5, .val v5, .val v10, .val v88, .val v88, .val v5, .unset] [(.int i2), (.ref b29)])) rfl (by rw [hml]; rfl) (Steps.refl _) (argsL := [(.int i2)]) (rest := []) (lenOf pd_6 rfl) rfl (by show 2 * 0 + _ ≤ _; exact Nat.le_of_eq rfl) (hb hby at_209) (fun _ _ => ⟨rfl, e92, (by decide : 8 + 0 ≤ _), (by decide : 45 + 0 ≤ _)⟩)
    dsimp only [Pt.U, Pt.locs, Pt.cells, Pt.slots] at X100 l100 y100 z100 st100 hQ100
    subst l100 y100 z100
    obtain ⟨rfl, Nq100, e100⟩ := hQ100
    have N100 := Fr.app N92 Nq100
    have P103 : ∀ t, Steps p.tables e below (T100.setTop (mkF m 243 #[.val (.int p0), .val (.int p1), .val (.int p2), .val (.int p3), .val (.int p4), .val (.long p5), .second, .val (.int i1), .val (.int i2), .val (.int i3), .val v5, .val v10, .val (.ref b16), .val (.ref b22), .val (.ref b29), .val v5, .val v5, .val v10, .val v88, .val v88, .val v5, .val v5] [(.int (1 : Int32))])) t → Steps p.tables e below (s₁.setTop (entryFrame m #[(.int p0), (.int p1), (.int p2), (.int p3), (.int p4), (.long p5)] maxLocals)) t := by
      intro t kk
      refine P89 _ ?_
      show Steps p.tables e below (T84.setTop (mkF m 171 #[.val (.int p0), .val (.int p1), .val (.int p2), .val (.int p3), .val (.int p4), .val (.long p5), .second, .val (.int i1), .val (.int i2), .val (.int i3), .val v5, .val v10, .val (.ref b16), .val (.ref b22), .val (.ref b29), .val v5, .val v5, .val v10, .unset, .unset, .unset, .unset] [v88])) _
      refine XS.astoreS X84.here hx rfl (hb hby at_171) rfl r_v88 (XT.cat1 r_v88) rfl (Or.inl rfl) ?_
      show Steps p.tables e below (T84.setTop (mkF m 173 #[.val (.int p0), .val (.int p1), .val (.int p2), .val (.int p3), .val (.int p4), .val (.long p5), .second, .val (.int i1), .val (.int i2), .val (.int i3), .val v5, .val v10, .val (.ref b16), .val (.ref b22), .val (.ref b29), .val v5, .val v5, .val v10, .val v88, .unset, .unset, .unset] [])) _
      refine XS.aload X84.here hx rfl (hb hby at_173) rfl rfl ?_
      show Steps p.tables e below (T84.setTop (mkF m 175 #[.val (.int p0), .val (.int p1), .val (.int p2), .val (.int p3), .val (.int p4), .val (.long p5), .second, .val (.int i1), .val (.int i2), .val (.int i3), .val v5, .val v10, .val (.ref b16), .val (.ref b22), .val (.ref b29), .val v5, .val v5, .val v10, .val v88, .unset, .unset, .unset] [(.ref b22)])) _
      refine XS.aload X84.here hx rfl (hb hby at_175) rfl r_v88 ?_
      show Steps p.tables e below (T84.setTop (mkF m 177 #[.val (.int p0), .val (.int p1), .val (.int p2), .val (.int p3), .val (.int p4), .val (.long p5), .second, .val (.int i1), .val (.int i2), .val (.int i3), .val v5, .val v10, .val (.ref b16), .val (.ref b22), .val (.ref b29), .val v5, .val v5, .val v10, .val v88, .unset, .unset, .unset] [v88, (.ref b22)])) _
      refine st91 _ ?_
      show Steps p.tables e below (T91.setTop (mkF m 180 #[.val (.int p0), .val (.int p1), .val (.int p2), .val (.int p3), .val (.int p4), .val (.long p5), .second, .val (.int i1), .val (.int i2), .val (.int i3), .val v5, .val v10, .val (.ref b16), .val (.ref b22), .val (.ref b29), .val v5, .val v5, .val v10, .val v88, .unset, .unset, .unset] [])) _
      refine XS.aload X91.here hx rfl (hb hby at_180) rfl rfl ?_
      show Steps p.tables e below (T91.setTop (mkF m 182 #[.val (.int p0), .val (.int p1), .val (.int p2), .val (.int p3), .val (.int p4), .val (.long p5), .second, .val (.int i1), .val (.int i2), .val (.int i3), .val v5, .val v10, .val (.ref b16), .val (.ref b22), .val (.ref b29), .val v5, .val v5, .val v10, .val v88, .unset, .unset, .unset] [(.ref b29)])) _
      refine XS.iload X91.here hx rfl (hb hby at_182) rfl ?_
      show Steps p.tables e below (T91.setTop (mkF m 184 #[.val (.int p0), .val (.int p1), .val (.int p2), .val (.int p3), .val (.int p4), .val (.long p5), .second, .val (.int i1), .val (.int i2), .val (.int i3), .val v5, .val v10, .val (.ref b16), .val (.ref b22), .val (.ref b29), .val v5, .val v5, .val v10, .val v88, .unset, .unset, .unset] [(.int i3), (.ref b29)])) _
      refine st92.trans ?_
      show Steps p.tables e below (T92.setTop (mkF m 187 #[.val (.int p0), .val (.int p1), .val (.int p2), .val (.int p3), .val (.int p4), .val (.long p5), .second, .val (.int i1), .val (.int i2), .val (.int i3), .val v5, .val v10, .val (.ref b16), .val (.ref b22), .val (.ref b29), .val v5, .val v5, .val v10, .val v88, .unset, .unset, .unset] [v88])) _
      refine XS.astoreS X92.here hx rfl (hb hby at_187) rfl r_v88 (XT.cat1 r_v88) rfl (Or.inl rfl) ?_
      show Steps p.tables e below (T92.setTop (mkF m 189 #[.val (.int p0), .val (.int p1), .val (.int p2), .val (.int p3), .val (.int p4), .val (.long p5), .second, .val (.int i1), .val (.int i2), .val (.int i3), .val v5, .val v10, .val (.ref b16), .val (.ref b22), .val (.ref b29), .val v5, .val v5, .val v10, .val v88, .val v88, .unset, .unset] [])) _
      refine XS.iload X92.here hx rfl (hb hby at_189) rfl ?_
      show Steps p.tables e below (T92.setTop (mkF m 191 #[.val (.int p0), .val (.int p1), .val (.int p2), .val (.int p3), .val (.int p4), .val (.long p5), .second, .val (.int i1), .val (.int i2), .val (.int i3), .val v5, .val v10, .val (.ref b16), .val (.ref b22), .val (.ref b29), .val v5, .val v5, .val v10, .val v88, .val v88, .unset, .unset] [(.int i2)])) _
      refine XS.iload X92.here hx rfl (hb hby at_191) rfl ?_
      show Steps p.tables e below (T92.setTop (mkF m 193 #[.val (.int p0), .val (.int p1), .val (.int p2), .val (.int p3), .val (.int p4), .val (.long p5), .second, .val (.int i1), .val (.int i2), .val (.int i3), .val v5, .val v10, .val (.ref b16), .val (.ref b22), .val (.ref b29), .val v5, .val v5, .val v10, .val v88, .val v88, .unset, .unset] [(.int i3), (.int i2)])) _
      refine XS.icmpYes X92.here hx rfl (pc0 := 193) (pc' := 201) rfl (hb hby at_193) rfl (XT.ii_ne_t c52) (by decide) (by decide) ?_
      show Steps p.tables e below (T92.setTop (mkF m 201 #[.val (.int p0), .val (.int p1), .val (.int p2), .val (.int p3), .val (.int p4), .val (.long p5), .second, .val (.int i1), .val (.int i2), .val (.int i3), .val v5, .val v10, .val (.ref b16), .val (.ref b22), .val (.ref b29), .val v5, .val v5, .val v10, .val v88, .val v88, .unset, .unset] [])) _
      refine XS.aload X92.here hx rfl (hb hby at_201) rfl r_v5 ?_
      show Steps p.tables e below (T92.setTop (mkF m 203 #[.val (.int p0), .val (.int p1), .val (.int p2), .val (.int p3), .val (.int p4), .val (.long p5), .second, .val (.int i1), .val (.int i2), .val (.int i3), .val v5, .val v10, .val (.ref b16), .val (.ref b22), .val (.ref b29), .val v5, .val v5, .val v10, .val v88, .val v88, .unset, .unset] [v5])) _
      refine XS.astoreS X92.here hx rfl (hb hby at_203) rfl r_v5 (XT.cat1 r_v5) rfl (Or.inl rfl) ?_
      show Steps p.tables e below (T92.setTop (mkF m 205 #[.val (.int p0), .val (.int p1), .val (.int p2), .val (.int p3), .val (.int p4), .val (.long p5), .second, .val (.int i1), .val (.int i2), .val (.int i3), .val v5, .val v10, .val (.ref b16), .val (.ref b22), .val (.ref b29), .val v5, .val v5, .val v10, .val v88, .val v88, .val v5, .unset] [])) _
      refine XS.aload X92.here hx rfl (hb hby at_205) rfl rfl ?_
      show Steps p.tables e below (T92.setTop (mkF m 207 #[.val (.int p0), .val (.int p1), .val (.int p2), .val (.int p3), .val (.int p4), .val (.long p5), .second, .val (.int i1), .val (.int i2), .val (.int i3), .val v5, .val v10, .val (.ref b16), .val (.ref b22), .val (.ref b29), .val v5, .val v5, .val v10, .val v88, .val v88, .val v5, .unset] [(.ref b29)])) _
      refine XS.iload X92.here hx rfl (hb hby at_207) rfl ?_
      show Steps p.tables e below (T92.setTop (mkF m 209 #[.val (.int p0), .val (.int p1), .val (.int p2), .val (.int p3), .val (.int p4), .val (.long p5), .second, .val (.int i1), .val (.int i2), .val (.int i3), .val v5, .val v10, .val (.ref b16), .val (.ref b22), .val (.ref b29), .val v5, .val v5, .val v10, .val v88, .val v88, .val v5, .unset] [(.int i2), (.ref b29)])) _
      refine st100.trans ?_
      show Steps p.tables e below (T100.setTop (mkF m 212 #[.val (.int p0), .val (.int p1), .val (.int p2), .val (.int p3), .val (.int p4), .val (.long p5), .second, .val (.int i1), .val (.int i2), .val (.int i3), .val v5, .val v10, .val (.ref b16), .val (.ref b22), .val (.ref b29), .val v5, .val v5, .val v10, .val v88, .val v88, .val v5, .unset] [v5])) _
      refine XS.astoreS X100.here hx rfl (hb hby at_212) rfl r_v5 (XT.cat1 r_v5) rfl (Or.inl rfl) ?_
      show Steps p.tables e below (T100.setTop (mkF m 214 #[.val (.int p0), .val (.int p1), .val (.int p2), .val (.int p3), .val (.int p4), .val (.long p5), .second, .val (.int i1), .val (.int i2), .val (.int i3), .val v5, .val v10, .val (.ref b16), .val (.ref b22), .val (.ref b29), .val v5, .val v5, .val v10, .val v88, .val v88, .val v5, .val v5] [])) _
      refine XS.aload X100.here hx rfl (hb hby at_214) rfl r_v5 ?_
      show Steps p.tables e below (T100.setTop (mkF m 216 #[.val (.int p0), .val (.int p1), .val (.int p2), .val (.int p3), .val (.int p4), .val (.long p5), .second, .val (.int i1), .val (.int i2), .val (.int i3), .val v5, .val v10, .val (.ref b16), .val (.ref b22), .val (.ref b29), .val v5, .val v5, .val v10, .val v88, .val v88, .val v5, .val v5] [v5])) _
      refine XS.aload X100.here hx rfl (hb hby at_216) rfl r_v5 ?_
      show Steps p.tables e below (T100.setTop (mkF m 218 #[.val (.int p0), .val (.int p1), .val (.int p2), .val (.int p3), .val (.int p4), .val (.long p5), .second, .val (.int i1), .val (.int i2), .val (.int i3), .val v5, .val v10, .val (.ref b16), .val (.ref b22), .val (.ref b29), .val v5, .val v5, .val v10, .val v88, .val v88, .val v5, .val v5] [v5, v5])) _
      refine Jvm.RoadKit.acmp (g := (mkF m 218 #[.val (.int p0), .val (.int p1), .val (.int p2), .val (.int p3), .val (.int p4), .val (.long p5), .second, .val (.int i1), .val (.int i2), .val (.int i3), .val v5, .val v10, .val (.ref b16), .val (.ref b22), .val (.ref b29), .val v5, .val v5, .val v10, .val v88, .val v88, .val v5, .val v5] [v5, v5])) X100 hx rfl r_v5 r_v5 (pc0 := 218) (pc' := 221) (same := true) rfl (hb hby at_218) rfl (decide_eq_true rfl) (by decide) (by decide) ?_
      show Steps p.tables e below (T100.setTop (mkF m 221 #[.val (.int p0), .val (.int p1), .val (.int p2), .val (.int p3), .val (.int p4), .val (.long p5), .second, .val (.int i1), .val (.int i2), .val (.int i3), .val v5, .val v10, .val (.ref b16), .val (.ref b22), .val (.ref b29), .val v5, .val v5, .val v10, .val v88, .val v88, .val v5, .val v5] [])) _
      refine XS.aload X100.here hx rfl (hb hby at_221) rfl r_v10 ?_
      show Steps p.tables e below (T100.setTop (mkF m 223 #[.val (.int p0), .val (.int p1), .val (.int p2), .val (.int p3), .val (.int p4), .val (.long p5), .second, .val (.int i1), .val (.int i2), .val (.int i3), .val v5, .val v10, .val (.ref b16), .val (.ref b22), .val (.ref b29), .val v5, .val v5, .val v10, .val v88, .val v88, .val v5, .val v5] [v10])) _
      refine XS.aload X100.here hx rfl (hb hby at_223) rfl r_v10 ?_
      show Steps p.tables e below (T100.setTop (mkF m 225 #[.val (.int p0), .val (.int p1), .val (.int p2), .val (.int p3), .val (.int p4), .val (.long p5), .second, .val (.int i1), .val (.int i2), .val (.int i3), .val v5, .val v10, .val (.ref b16), .val (.ref b22), .val (.ref b29), .val v5, .val v5, .val v10, .val v88, .val v88, .val v5, .val v5] [v10, v10])) _
      refine Jvm.RoadKit.acmp (g := (mkF m 225 #[.val (.int p0), .val (.int p1), .val (.int p2), .val (.int p3), .val (.int p4), .val (.long p5), .second, .val (.int i1), .val (.int i2), .val (.int i3), .val v5, .val v10, .val (.ref b16), .val (.ref b22), .val (.ref b29), .val v5, .val v5, .val v10, .val v88, .val v88, .val v5, .val v5] [v10, v10])) X100 hx rfl r_v10 r_v10 (pc0 := 225) (pc' := 228) (same := true) rfl (hb hby at_225) rfl (decide_eq_true rfl) (by decide) (by decide) ?_
      show Steps p.tables e below (T100.setTop (mkF m 228 #[.val (.int p0), .val (.int p1), .val (.int p2), .val (.int p3), .val (.int p4), .val (.long p5), .second, .val (.int i1), .val (.int i2), .val (.int i3), .val v5, .val v10, .val (.ref b16), .val (.ref b22), .val (.ref b29), .val v5, .val v5, .val v10, .val v88, .val v88, .val v5, .val v5] [])) _
      refine XS.aload X100.here hx rfl (hb hby at_228) rfl r_v88 ?_
      show Steps p.tables e below (T100.setTop (mkF m 230 #[.val (.int p0), .val (.int p1), .val (.int p2), .val (.int p3), .val (.int p4), .val (.long p5), .second, .val (.int i1), .val (.int i2), .val (.int i3), .val v5, .val v10, .val (.ref b16), .val (.ref b22), .val (.ref b29), .val v5, .val v5, .val v10, .val v88, .val v88, .val v5, .val v5] [v88])) _
      refine XS.aload X100.here hx rfl (hb hby at_230) rfl r_v88 ?_
      show Steps p.tables e below (T100.setTop (mkF m 232 #[.val (.int p0), .val (.int p1), .val (.int p2), .val (.int p3), .val (.int p4), .val (.long p5), .second, .val (.int i1), .val (.int i2), .val (.int i3), .val v5, .val v10, .val (.ref b16), .val (.ref b22), .val (.ref b29), .val v5, .val v5, .val v10, .val v88, .val v88, .val v5, .val v5] [v88, v88])) _
      refine Jvm.RoadKit.acmp (g := (mkF m 232 #[.val (.int p0), .val (.int p1), .val (.int p2), .val (.int p3), .val (.int p4), .val (.long p5), .second, .val (.int i1), .val (.int i2), .val (.int i3), .val v5, .val v10, .val (.ref b16), .val (.ref b22), .val (.ref b29), .val v5, .val v5, .val v10, .val v88, .val v88, .val v5, .val v5] [v88, v88])) X100 hx rfl r_v88 r_v88 (pc0 := 232) (pc' := 235) (same := true) rfl (hb hby at_232) rfl (decide_eq_true rfl) (by decide) (by decide) ?_
      show Steps p.tables e below (T100.setTop (mkF m 235 #[.val (.int p0), .val (.int p1), .val (.int p2), .val (.int p3), .val (.int p4), .val (.long p5), .second, .val (.int i1), .val (.int i2), .val (.int i3), .val v5, .val v10, .val (.ref b16), .val (.ref b22), .val (.ref b29), .val v5, .val v5, .val v10, .val v88, .val v88, .val v5, .val v5] [])) _
      refine XS.aload X100.here hx rfl (hb hby at_235) rfl r_v5 ?_
      show Steps p.tables e below (T100.setTop (mkF m 237 #[.val (.int p0), .val (.int p1), .val (.int p2), .val (.int p3), .val (.int p4), .val (.long p5), .second, .val (.int i1), .val (.int i2), .val (.int i3), .val v5, .val v10, .val (.ref b16), .val (.ref b22), .val (.ref b29), .val v5, .val v5, .val v10, .val v88, .val v88, .val v5, .val v5] [v5])) _
      refine XS.aload X100.here hx rfl (hb hby at_237) rfl r_v5 ?_
      show Steps p.tables e below (T100.setTop (mkF m 239 #[.val (.int p0), .val (.int p1), .val (.int p2), .val (.int p3), .val (.int p4), .val (.long p5), .second, .val (.int i1), .val (.int i2), .val (.int i3), .val v5, .val v10, .val (.ref b16), .val (.ref b22), .val (.ref b29), .val v5, .val v5, .val v10, .val v88, .val v88, .val v5, .val v5] [v5, v5])) _
      refine Jvm.RoadKit.acmp (g := (mkF m 239 #[.val (.int p0), .val (.int p1), .val (.int p2), .val (.int p3), .val (.int p4), .val (.long p5), .second, .val (.int i1), .val (.int i2), .val (.int i3), .val v5, .val v10, .val (.ref b16), .val (.ref b22), .val (.ref b29), .val v5, .val v5, .val v10, .val v88, .val v88, .val v5, .val v5] [v5, v5])) X100 hx rfl r_v5 r_v5 (pc0 := 239) (pc' := 242) (same := true) rfl (hb hby at_239) rfl (decide_eq_true rfl) (by decide) (by decide) ?_
      show Steps p.tables e below (T100.setTop (mkF m 242 #[.val (.int p0), .val (.int p1), .val (.int p2), .val (.int p3), .val (.int p4), .val (.long p5), .second, .val (.int i1), .val (.int i2), .val (.int i3), .val v5, .val v10, .val (.ref b16), .val (.ref b22), .val (.ref b29), .val v5, .val v5, .val v10, .val v88, .val v88, .val v5, .val v5] [])) _
      refine XS.iconst X100.here hx rfl (hb hby at_242) ?_
      show Steps p.tables e below (T100.setTop (mkF m 243 #[.val (.int p0), .val (.int p1), .val (.int p2), .val (.int p3), .val (.int p4), .val (.long p5), .second, .val (.int i1), .val (.int i2), .val (.int i3), .val v5, .val v10, .val (.ref b16), .val (.ref b22), .val (.ref b29), .val v5, .val v5, .val v10, .val v88, .val v88, .val v5, .val v5] [(.int (1 : Int32))])) _
      exact kk
    have P104 : ∀ t, Steps p.tables e below (T100.setTop (mkF m 247 #[.val (.int p0), .val (.int p1), .val (.int p2), .val (.int p3), .val (.int p4), .val (.long p5), .second, .val (.int i1), .val (.int i2), .val (.int i3), .val v5, .val v10, .val (.ref b16), .val (.ref b22), .val (.ref b29), .val v5, .val v5, .val v10, .val v88, .val v88, .val v5, .val v5] [(.int (1 : Int32))])) t → Steps p.tables e below (s₁.setTop (entryFrame m #[(.int p0), (.int p1), (.int p2), (.int p3), (.int p4), (.long p5)] maxLocals)) t := by
      intro t kk
      refine P103 _ ?_
      show Steps p.tables e below (T100.setTop (mkF m 243 #[.val (.int p0), .val (.int p1), .val (.int p2), .val (.int p3), .val (.int p4), .val (.long p5), .second, .val (.int i1), .val (.int i2), .val (.int i3), .val v5, .val v10, .val (.ref b16), .val (.ref b22), .val (.ref b29), .val v5, .val v5, .val v10, .val v88, .val v88, .val v5, .val v5] [(.int (1 : Int32))])) _
      refine XS.goto X100.here hx rfl (pc0 := 243) (pc' := 247) rfl (hb hby at_243) (by decide) (by decide) ?_
      show Steps p.tables e below (T100.setTop (mkF m 247 #[.val (.int p0), .val (.int p1), .val (.int p2), .val (.int p3), .val (.int p4), .val (.long p5), .second, .val (.int i1), .val (.int i2), .val (.int i3), .val v5, .val v10, .val (.ref b16), .val (.ref b22), .val (.ref b29), .val v5, .val v5, .val v10, .val v88, .val v88, .val v5, .val v5] [(.int (1 : Int32))])) _
      exact kk
    obtain ⟨fs, hr, hrun, hended, hW, hsame⟩ := X100.leave (v := some (.int (1 : Int32))) (fun h => by rw [Bd.returns] at h; cases h)
    refine ⟨_, _, P104 _ ?_, hrun, hended, _, _, rfl, ?_, ⟨_, rfl⟩, hW, hsame.mono (by decide) (by decide)⟩
    · exact retN X100 hx (t := .boolean) Bd.returns (by simp) (hb hby at_247) hr
    · exact ⟨rfl, N100⟩
set_option maxRecDepth 65536 in
set_option maxHeartbeats 40000000 in
theorem comes_1 {Post : Tables → Env → Array Value → State → Outcome → State → Prop} (hpost : ∀ tb e args s v u, (limb_1_1.after args s (.returned v) u = true ∧ limb_1_2.after args s (.returned v) u = true ∧ True) → FrameEnd s (.returned v) u (Jvm.fieldLocs frame_1_writes args s ++ Jvm.arrayLocs frame_1_arrays args s ++ Jvm.staticLocs frame_1_statics s) 24 192 → Post tb e args s (.returned v) u) :
    ArmFor flags0 classFile x code maxLocals ret World_1 tables_1 room_1 Calls_1 rest_1 Pre_1 Post := by
  intro l hfl _ _ p e ha hc hk s m args below hf hA hF happ hP
  obtain ⟨hcalls, hrest, hpre⟩ := hP
  obtain ⟨-, -, -, hnamed, -, -, -, hat⟩ := (Spec.applies_iff hf).mp happ
  obtain ⟨hg, hn⟩ := and_e (Cond.before_iff.mp (show (Jvm.Cond.and given_1 narrow_1).before args s = true from hpre))
  obtain ⟨g0, gr0⟩ := and_e hg
  obtain ⟨g1, gr1⟩ := and_e gr0
  obtain ⟨g2, gr2⟩ := and_e gr1
  obtain ⟨g3, gr3⟩ := and_e gr2
  obtain ⟨g4, gr4⟩ := and_e gr3
  obtain ⟨g5, gr5⟩ := and_e gr4
  obtain ⟨w0, w1, w2, w3, w4, w5, rfl⟩ : ∃ w0 w1 w2 w3 w4 w5 : Value, args = #[w0, w1, w2, w3, w4, w5] := by
    have hs : args.size = 6 := by simpa [Cond.value, given_1] using g0
    obtain ⟨L⟩ := args
    match L, hs with
    | [w0, w1, w2, w3, w4, w5], _ => exact ⟨w0, w1, w2, w3, w4, w5, rfl⟩
  have hw := fun d (hd : d ∈ tables_1) => atoms_spec (ws := Jvm.Cond.code x code maxLocals ret :: tables_1) hat d (List.mem_cons_of_mem _ hd)
  have hfit : Fit s := fun {y c} hc i hi => by
    obtain ⟨ha, rfl⟩ := Array.getElem?_eq_some_iff.mp hc
    have q := List.all_eq_true.mp ((Array.all_eq_true_iff_forall_mem.mp hF) _ (Array.getElem_mem ha)) i (List.mem_range.mpr hi)
    simpa [Array.getElem?_eq_getElem hi] using q
  obtain ⟨i0, ei0⟩ := is_v g1
  obtain rfl : w0 = (.int i0) := Option.some.inj ei0
  obtain ⟨i1, ei1⟩ := is_v g2
  obtain rfl : w1 = (.int i1) := Option.some.inj ei1
  obtain ⟨i2, ei2⟩ := is_v g3
  obtain rfl : w2 = (.int i2) := Option.some.inj ei2
  obtain ⟨i3, ei3⟩ := is_v g4
  obtain rfl : w3 = (.int i3) := Option.some.inj ei3
  obtain ⟨i4, ei4⟩ := is_v g5
  obtain rfl : w4 = (.int i4) := Option.some.inj ei4
  obtain ⟨i5, ei5⟩ := isL_v gr5
  obtain rfl : w5 = (.long i5) := Option.some.inj ei5
  obtain ⟨hsets, -⟩ := atoms_of _ (rest_1_c_eq ▸ (show rest_1_c.before _ s = true from hrest))
  have pr0 : Sta s s.heap "java/lang/Integer$IntegerCache" "high" "I" (.int (127 : Int32)) := Sta.start (Cond.eq_int (hsets _ (List.mem_of_getElem? (i := 9) rfl)) rfl) (Or.inl (hsets _ (List.mem_of_getElem? (i := 7) rfl)))
  obtain ⟨ci, eci⟩ := exa_v (Cond.before_iff.mp (hsets _ (List.mem_of_getElem? (i := 11) rfl)))
  have pr1 : Sta s s.heap "java/lang/Integer$IntegerCache" "cache" "[Ljava/lang/Integer;" (.ref ci) := Sta.start eci (Or.inr ⟨(hw _ (List.mem_of_getElem? (i := 56) rfl)), (hsets _ (List.mem_of_getElem? (i := 8) rfl))⟩)
  obtain ⟨cl, ecl⟩ := exa_v (Cond.before_iff.mp (hsets _ (List.mem_of_getElem? (i := 3) rfl)))
  have pr2 : Sta s s.heap "java/lang/Long$LongCache" "cache" "[Ljava/lang/Long;" (.ref cl) := Sta.start ecl (Or.inl (hsets _ (List.mem_of_getElem? (i := 1) rfl)))
  have pr3 := own_cac hfit eci (Cond.before_iff.mp (hsets _ (List.mem_of_getElem? (i := 10) rfl))) (hsets _ (List.mem_of_getElem? (i := 12) rfl))
  have pr4 := own_cac hfit ecl (Cond.before_iff.mp (hsets _ (List.mem_of_getElem? (i := 2) rfl))) (hsets _ (List.mem_of_getElem? (i := 4) rfl))
  obtain ⟨n, o, h1, h2, h3, _, L, rfl, ⟨rfl, N⟩, hq⟩ := rm0 l s _ hw tables_1 i0 i1 i2 i3 i4 i5 ci cl s.heap s.heap.size (Nat.le_refl _) pr0 pr1 pr2 pr3 pr4 p e ha hc hk s m _ below hf ((Spec.applies_iff_loose hf).mp happ).1 ⟨rfl, State.Warmed39.refl s, rfl⟩ trivial
  refine ⟨n, _, h1, h2, h3, hpost _ _ _ _ _ _ ⟨Cond.after_iff.mpr rfl, Cond.after_iff.mpr (eq_i res_at (Term.int_eval (1)) rfl), trivial⟩ ⟨hq.1, hq.2.1, (hq.2.2.sift fun y hy => Or.inr (N y hy)).mono (by decide) (by decide)⟩⟩
theorem main_1_1 : Claimed_1_1 := comes_1 fun _ _ _ _ _ _ h hF => ⟨h.1, hF⟩
theorem main_1_2 : Claimed_1_2 := comes_1 fun _ _ _ _ _ _ h hF => ⟨h.2.1, hF⟩
end Jvm.Pilot.@@N@@
namespace Jvm.Pilot.@@N@@
open Jvm Jvm.ClassFile Sem Op Lib Jvm.Free Jvm.Stand Jvm.Pilot.@@N@@.Jvm.D
/-! MADE BY PROGRAM (witnessworld.py) out of the Statement's table words and the real class files: 23 classes; the members and pool entries that the words name. The judged class is class 1, her method 1. -/
namespace start1
open Jvm.ClassFile
def u (s : String) : CpInfo := .utf8 (stringToUtf16 s)
/-- a pool by its gaps: so many unusable entries, then the entry; so many at the end -/
def gap : Nat → List CpInfo → List CpInfo
  | 0, r => r
  | n + 1, r => .unusable :: gap n r
def poolList (es : List (Nat × CpInfo)) (last : Nat) : List CpInfo := es.foldr (fun e r => gap e.1 (e.2 :: r)) (gap last [])
def pool (es : List (Nat × CpInfo)) (last : Nat) : Array CpInfo := ⟨poolList es last⟩
def fileOf (pool : Array CpInfo) (this : Nat) (attrs : Array Attribute := #[]) (ms : Array MethodInfo := #[]) (fl : Nat := 33) (sup : Nat := 0) (ifs : Array Nat := #[]) (fds : Array FieldInfo := #[]) : ClassFile where
  minorVersion := 0
  majorVersion := 65
  constantPool := pool
  accessFlags := fl
  thisClass := this
  superClass := sup
  interfaces := ifs
  fields := fds
  methods := ms
  attributes := attrs
def plain (name : String) (sup : Option ClassId) : Class where
  name := name
  kind := .ordinary
  loader := none
  accessFlags := 33
  super := sup
  interfaces := #[]
  cf := none
  fields := #[]
  methods := #[]
  instanceTypes := #[]
  staticTypes := #[]
  resolved := #[]
  callSites := []
  init := .initialized
  statics := none
  mirror := none

def pool0 : Array CpInfo := pool [(5, u "<init>"), (0, u "()V"), (1, .class_ 10), (1, u "java/lang/Object")] 113

def k0c0 : Code := { maxStack := 0, maxLocals := 1, code := object_method_1_code, exceptionTable := #[], attributes := #[] }
def k0m0 : Method := { name := "<init>", desc := "()V", sig := { parameters := [], returnType := none }, accessFlags := 1, code := some k0c0 }
/-- java/lang/Object -/
def k0 : Class := { plain "java/lang/Object" none with
  accessFlags := 33
  interfaces := #[]
  cf := some (fileOf pool0 8 #[] #[{ accessFlags := 1, nameIndex := 5, descriptorIndex := 6, attributes := #[] }] 33 0 #[] #[])
  fields := #[]
  methods := #[k0m0]
  instanceTypes := #[]
  staticTypes := #[]
  resolved := Array.replicate 124 none
  statics := none }

def pool1 : Array CpInfo := pool [(2, .class_ 4), (0, .nameAndType 5 6), (0, u "java/lang/Object"), (0, u "<init>"), (0, u "()V"), (0, .integer 2147483647), (0, .methodref 9 10), (0, .class_ 11), (0, .nameAndType 12 13), (0, u "java/lang/Integer"), (0, u "valueOf"), (0, u "(I)Ljava/lang/Integer;"), (0, .methodref 15 16), (0, .class_ 17), (0, .nameAndType 12 18), (0, u "java/lang/Long"), (0, u "(J)Ljava/lang/Long;"), (0, .class_ 20), (0, u "com/example/quernloop/quernloop/Message"), (0, .methodref 19 3), (0, .fieldref 19 23), (0, .nameAndType 24 25), (0, u "obj"), (0, u "Ljava/lang/Object;"), (0, .class_ 27), (0, u "com/example/quernloop/quernloop/WorkSlots"), (0, .methodref 26 29), (0, .nameAndType 5 30), (0, u "(I)V"), (0, .methodref 26 32), (0, .nameAndType 33 34), (0, u "set"), (0, u "(ILjava/lang/Object;Lcom/example/quernloop/quernloop/Handler;Ljava/lang/Object;)V"), (0, .methodref 26 36), (0, .nameAndType 37 38), (0, u "object"), (0, u "(I)Ljava/lang/Object;"), (0, .class_ 40), (0, u "com/example/quernloop/quernloop/WorkSlotsObjectPinLaw"), (2, u "law"), (0, u "(IIIIIJ)Z")] 3

def k1m0 : Method := { name := "<init>", desc := "()V", sig := { parameters := [], returnType := none }, accessFlags := 1, code := none }
def k1c1 : Code := { maxStack := 5, maxLocals := 22, code := code, exceptionTable := #[], attributes := #[] }
def k1m1 : Method := { name := "law", desc := "(IIIIIJ)Z", sig := { parameters := [.int, .int, .int, .int, .int, .long], returnType := some .boolean }, accessFlags := 9, code := some k1c1 }
/-- com/example/quernloop/quernloop/WorkSlotsObjectPinLaw -/
def k1 : Class := { plain "com/example/quernloop/quernloop/WorkSlotsObjectPinLaw" (some 0) with
  accessFlags := 49
  interfaces := #[]
  cf := some (fileOf pool1 39 #[] #[{ accessFlags := 1, nameIndex := 5, descriptorIndex := 6, attributes := #[] }, { accessFlags := 9, nameIndex := 43, descriptorIndex := 44, attributes := #[] }] 49 2 #[] #[])
  fields := #[]
  methods := #[k1m0, k1m1]
  instanceTypes := #[]
  staticTypes := #[]
  resolved := Array.replicate 48 none
  statics := none }

def pool2 : Array CpInfo := pool [(1, .class_ 2), (0, u "java/io/Serializable"), (0, .class_ 4), (0, u "java/lang/Object")] 2

/-- java/io/Serializable -/
def k2 : Class := { plain "java/io/Serializable" (some 0) with
  accessFlags := 1537
  interfaces := #[]
  cf := some (fileOf pool2 1 #[] #[] 1537 3 #[] #[])
  fields := #[]
  methods := #[]
  instanceTypes := #[]
  staticTypes := #[]
  resolved := Array.replicate 7 none
  statics := none }

def pool3 : Array CpInfo := pool [(1, .methodref 2 3), (0, .class_ 4), (0, .nameAndType 5 6), (0, u "java/lang/Object"), (0, u "<init>"), (0, u "()V"), (1, .class_ 10), (1, u "java/lang/Number"), (2, .class_ 14), (0, u "java/io/Serializable"), (0, u "serialVersionUID"), (0, u "J")] 20

def k3c0 : Code := { maxStack := 1, maxLocals := 1, code := jdk_18_method_1_code, exceptionTable := #[], attributes := #[] }
def k3m0 : Method := { name := "<init>", desc := "()V", sig := { parameters := [], returnType := none }, accessFlags := 1, code := some k3c0 }
/-- java/lang/Number -/
def k3 : Class := { plain "java/lang/Number" (some 0) with
  accessFlags := 1057
  interfaces := #[2]
  cf := some (fileOf pool3 8 #[] #[{ accessFlags := 1, nameIndex := 5, descriptorIndex := 6, attributes := #[] }] 1057 2 #[13] #[{ accessFlags := 26, nameIndex := 15, descriptorIndex := 16, attributes := #[] }])
  fields := #[{ name := "serialVersionUID", type := .long, accessFlags := 26, slot := 0, constantValue := 0 }]
  methods := #[k3m0]
  instanceTypes := #[]
  staticTypes := #[.long]
  resolved := Array.replicate 37 none
  statics := none }

def pool4 : Array CpInfo := pool [(1, .class_ 2), (0, u "java/lang/Comparable"), (0, .class_ 4), (0, u "java/lang/Object")] 7

/-- java/lang/Comparable -/
def k4 : Class := { plain "java/lang/Comparable" (some 0) with
  accessFlags := 1537
  interfaces := #[]
  cf := some (fileOf pool4 1 #[] #[] 1537 3 #[] #[])
  fields := #[]
  methods := #[]
  instanceTypes := #[]
  staticTypes := #[]
  resolved := Array.replicate 12 none
  statics := none }

def pool5 : Array CpInfo := pool [(1, .class_ 2), (0, u "java/lang/constant/Constable"), (0, .class_ 4), (0, u "java/lang/Object")] 6

/-- java/lang/constant/Constable -/
def k5 : Class := { plain "java/lang/constant/Constable" (some 0) with
  accessFlags := 1537
  interfaces := #[]
  cf := some (fileOf pool5 1 #[] #[] 1537 3 #[] #[])
  fields := #[]
  methods := #[]
  instanceTypes := #[]
  staticTypes := #[]
  resolved := Array.replicate 11 none
  statics := none }

def pool6 : Array CpInfo := pool [(1, .class_ 2), (0, u "java/lang/constant/ConstantDesc"), (0, .class_ 4), (0, u "java/lang/Object")] 32

/-- java/lang/constant/ConstantDesc -/
def k6 : Class := { plain "java/lang/constant/ConstantDesc" (some 0) with
  accessFlags := 1537
  interfaces := #[]
  cf := some (fileOf pool6 1 #[] #[] 1537 3 #[] #[])
  fields := #[]
  methods := #[]
  instanceTypes := #[]
  staticTypes := #[]
  resolved := Array.replicate 37 none
  statics := none }

def pool7 : Array CpInfo := pool [(1, .class_ 2), (0, u "java/lang/Long"), (55, .nameAndType 59 60), (0, u "<init>"), (0, u "()V"), (24, u "valueOf"), (143, u "(J)Ljava/lang/Long;"), (0, .long 18446744073709551488), (1, .long 127), (1, .fieldref 235 236), (0, .class_ 237), (0, .nameAndType 238 239), (0, u "java/lang/Long$LongCache"), (0, u "cache"), (0, u "[Ljava/lang/Long;"), (0, .methodref 1 241), (0, .nameAndType 59 242), (0, u "(J)V"), (27, .methodref 271 58), (0, .class_ 272), (0, u "java/lang/Number"), (0, .fieldref 1 274), (0, .nameAndType 275 276), (0, u "value"), (0, u "J"), (84, u "TYPE"), (0, u "Ljava/lang/Class;"), (0, .class_ 364), (0, u "java/lang/Comparable"), (0, .class_ 366), (0, u "java/lang/constant/Constable"), (0, .class_ 368), (0, u "java/lang/constant/ConstantDesc"), (0, u "MIN_VALUE"), (1, u "MAX_VALUE"), (4, u "SIZE"), (0, u "I"), (1, u "BYTES"), (1, u "serialVersionUID")] 142

def k7c0 : Code := { maxStack := 4, maxLocals := 3, code := jdk_35_method_24_code, exceptionTable := #[], attributes := #[] }
def k7m0 : Method := { name := "valueOf", desc := "(J)Ljava/lang/Long;", sig := { parameters := [.long], returnType := some (.object "java/lang/Long") }, accessFlags := 9, code := some k7c0 }
def k7c1 : Code := { maxStack := 3, maxLocals := 3, code := jdk_35_method_26_code, exceptionTable := #[], attributes := #[] }
def k7m1 : Method := { name := "<init>", desc := "(J)V", sig := { parameters := [.long], returnType := none }, accessFlags := 1, code := some k7c1 }
/-- java/lang/Long -/
def k7 : Class := { plain "java/lang/Long" (some 3) with
  accessFlags := 49
  interfaces := #[4, 5, 6]
  cf := some (fileOf pool7 1 #[.nestMembers #[235]] #[{ accessFlags := 9, nameIndex := 85, descriptorIndex := 229, attributes := #[] }, { accessFlags := 1, nameIndex := 59, descriptorIndex := 242, attributes := #[] }] 49 271 #[363, 365, 367] #[{ accessFlags := 25, nameIndex := 369, descriptorIndex := 276, attributes := #[] }, { accessFlags := 25, nameIndex := 371, descriptorIndex := 276, attributes := #[] }, { accessFlags := 25, nameIndex := 361, descriptorIndex := 362, attributes := #[] }, { accessFlags := 18, nameIndex := 275, descriptorIndex := 276, attributes := #[] }, { accessFlags := 25, nameIndex := 376, descriptorIndex := 377, attributes := #[] }, { accessFlags := 25, nameIndex := 379, descriptorIndex := 377, attributes := #[] }, { accessFlags := 26, nameIndex := 381, descriptorIndex := 276, attributes := #[] }])
  fields := #[{ name := "MIN_VALUE", type := .long, accessFlags := 25, slot := 0, constantValue := 0 }, { name := "MAX_VALUE", type := .long, accessFlags := 25, slot := 1, constantValue := 0 }, { name := "TYPE", type := (.object "java/lang/Class"), accessFlags := 25, slot := 2, constantValue := 0 }, { name := "value", type := .long, accessFlags := 18, slot := 0, constantValue := 0 }, { name := "SIZE", type := .int, accessFlags := 25, slot := 3, constantValue := 0 }, { name := "BYTES", type := .int, accessFlags := 25, slot := 4, constantValue := 0 }, { name := "serialVersionUID", type := .long, accessFlags := 26, slot := 5, constantValue := 0 }]
  methods := #[k7m0, k7m1]
  instanceTypes := #[.long]
  staticTypes := #[.long, .long, (.object "java/lang/Class"), .int, .int, .long]
  resolved := Array.replicate 524 none
  statics := none }

def pool8 : Array CpInfo := pool [(2, .class_ 4), (1, u "java/lang/Object"), (0, u "<init>"), (0, u "()V"), (0, .class_ 8), (0, u "java/lang/Long"), (7, .class_ 18), (1, u "java/lang/Long$LongCache"), (0, u "$assertionsDisabled"), (0, u "Z"), (8, u "archivedCache"), (0, u "[Ljava/lang/Long;"), (7, u "cache")] 24

def k8m0 : Method := { name := "<init>", desc := "()V", sig := { parameters := [], returnType := none }, accessFlags := 2, code := none }
/-- java/lang/Long$LongCache -/
def k8 : Class := { plain "java/lang/Long$LongCache" (some 0) with
  accessFlags := 48
  interfaces := #[]
  cf := some (fileOf pool8 16 #[.nestHost 7] #[{ accessFlags := 2, nameIndex := 5, descriptorIndex := 6, attributes := #[] }] 48 2 #[] #[{ accessFlags := 24, nameIndex := 38, descriptorIndex := 30, attributes := #[] }, { accessFlags := 8, nameIndex := 29, descriptorIndex := 30, attributes := #[] }, { accessFlags := 4120, nameIndex := 19, descriptorIndex := 20, attributes := #[] }])
  fields := #[{ name := "cache", type := (.array (.object "java/lang/Long")), accessFlags := 24, slot := 0, constantValue := 0 }, { name := "archivedCache", type := (.array (.object "java/lang/Long")), accessFlags := 8, slot := 1, constantValue := 0 }, { name := "$assertionsDisabled", type := .boolean, accessFlags := 4120, slot := 2, constantValue := 0 }]
  methods := #[k8m0]
  instanceTypes := #[]
  staticTypes := #[(.array (.object "java/lang/Long")), (.array (.object "java/lang/Long")), .boolean]
  resolved := Array.replicate 63 none
  statics := some 0 }

def pool9 : Array CpInfo := pool [(1, .methodref 2 3), (0, .class_ 4), (0, .nameAndType 5 6), (0, u "java/lang/Object"), (0, u "<init>"), (0, u "()V"), (0, .class_ 8), (0, u "com/example/quernloop/quernloop/Message"), (7, u "target"), (0, u "Lcom/example/quernloop/quernloop/Handler;"), (2, u "what"), (0, u "I"), (2, u "arg1"), (2, u "arg2"), (2, u "obj"), (0, u "Ljava/lang/Object;"), (2, u "when"), (0, u "J"), (2, u "asynchronous"), (0, u "Z"), (2, u "IN_USE"), (0, u "Ljava/lang/invoke/VarHandle;"), (32, u "inUse")] 40

def k9c0 : Code := { maxStack := 1, maxLocals := 1, code := prog_16_method_1_code, exceptionTable := #[], attributes := #[] }
def k9m0 : Method := { name := "<init>", desc := "()V", sig := { parameters := [], returnType := none }, accessFlags := 1, code := some k9c0 }
/-- com/example/quernloop/quernloop/Message -/
def k9 : Class := { plain "com/example/quernloop/quernloop/Message" (some 0) with
  accessFlags := 49
  interfaces := #[]
  cf := some (fileOf pool9 7 #[] #[{ accessFlags := 1, nameIndex := 5, descriptorIndex := 6, attributes := #[] }] 49 2 #[] #[{ accessFlags := 26, nameIndex := 42, descriptorIndex := 43, attributes := #[] }, { accessFlags := 1, nameIndex := 20, descriptorIndex := 21, attributes := #[] }, { accessFlags := 1, nameIndex := 24, descriptorIndex := 21, attributes := #[] }, { accessFlags := 1, nameIndex := 27, descriptorIndex := 21, attributes := #[] }, { accessFlags := 1, nameIndex := 30, descriptorIndex := 31, attributes := #[] }, { accessFlags := 0, nameIndex := 16, descriptorIndex := 17, attributes := #[] }, { accessFlags := 0, nameIndex := 34, descriptorIndex := 35, attributes := #[] }, { accessFlags := 2, nameIndex := 38, descriptorIndex := 39, attributes := #[] }, { accessFlags := 66, nameIndex := 76, descriptorIndex := 39, attributes := #[] }])
  fields := #[{ name := "IN_USE", type := (.object "java/lang/invoke/VarHandle"), accessFlags := 26, slot := 0, constantValue := 0 }, { name := "what", type := .int, accessFlags := 1, slot := 0, constantValue := 0 }, { name := "arg1", type := .int, accessFlags := 1, slot := 1, constantValue := 0 }, { name := "arg2", type := .int, accessFlags := 1, slot := 2, constantValue := 0 }, { name := "obj", type := (.object "java/lang/Object"), accessFlags := 1, slot := 3, constantValue := 0 }, { name := "target", type := (.object "com/example/quernloop/quernloop/Handler"), accessFlags := 0, slot := 4, constantValue := 0 }, { name := "when", type := .long, accessFlags := 0, slot := 5, constantValue := 0 }, { name := "asynchronous", type := .boolean, accessFlags := 2, slot := 6, constantValue := 0 }, { name := "inUse", type := .boolean, accessFlags := 66, slot := 7, constantValue := 0 }]
  methods := #[k9m0]
  instanceTypes := #[.int, .int, .int, (.object "java/lang/Object"), (.object "com/example/quernloop/quernloop/Handler"), .long, .boolean, .boolean]
  staticTypes := #[(.object "java/lang/invoke/VarHandle")]
  resolved := Array.replicate 117 none
  statics := none }

def pool10 : Array CpInfo := pool [(1, .methodref 2 3), (0, .class_ 4), (0, .nameAndType 5 6), (0, u "java/lang/Object"), (0, u "<init>"), (0, u "()V"), (0, .fieldref 8 9), (0, .class_ 10), (0, .nameAndType 11 12), (0, u "com/example/quernloop/quernloop/WorkSlots"), (0, u "work"), (0, u "[Ljava/lang/Object;"), (0, .class_ 14), (0, u "com/example/quernloop/quernloop/Handler"), (0, .fieldref 8 16), (0, .nameAndType 17 18), (0, u "handlers"), (0, u "[Lcom/example/quernloop/quernloop/Handler;"), (0, .fieldref 8 20), (0, .nameAndType 21 12), (0, u "tokens"), (2, u "set"), (0, u "(ILjava/lang/Object;Lcom/example/quernloop/quernloop/Handler;Ljava/lang/Object;)V"), (7, .class_ 34), (0, u "com/example/quernloop/quernloop/Message"), (0, .fieldref 33 36), (0, .nameAndType 37 38), (0, u "obj"), (0, u "Ljava/lang/Object;"), (10, u "(I)V"), (6, u "(I)Ljava/lang/Object;"), (5, u "object")] 3

def k10c0 : Code := { maxStack := 2, maxLocals := 2, code := prog_24_method_1_code, exceptionTable := #[], attributes := #[] }
def k10m0 : Method := { name := "<init>", desc := "(I)V", sig := { parameters := [.int], returnType := none }, accessFlags := 0, code := some k10c0 }
def k10c1 : Code := { maxStack := 3, maxLocals := 5, code := prog_24_method_2_code, exceptionTable := #[], attributes := #[] }
def k10m1 : Method := { name := "set", desc := "(ILjava/lang/Object;Lcom/example/quernloop/quernloop/Handler;Ljava/lang/Object;)V", sig := { parameters := [.int, (.object "java/lang/Object"), (.object "com/example/quernloop/quernloop/Handler"), (.object "java/lang/Object")], returnType := none }, accessFlags := 0, code := some k10c1 }
def k10c2 : Code := { maxStack := 2, maxLocals := 2, code := prog_24_method_10_code, exceptionTable := #[], attributes := #[] }
def k10m2 : Method := { name := "object", desc := "(I)Ljava/lang/Object;", sig := { parameters := [.int], returnType := some (.object "java/lang/Object") }, accessFlags := 0, code := some k10c2 }
/-- com/example/quernloop/quernloop/WorkSlots -/
def k10 : Class := { plain "com/example/quernloop/quernloop/WorkSlots" (some 0) with
  accessFlags := 48
  interfaces := #[]
  cf := some (fileOf pool10 8 #[] #[{ accessFlags := 0, nameIndex := 5, descriptorIndex := 49, attributes := #[] }, { accessFlags := 0, nameIndex := 24, descriptorIndex := 25, attributes := #[] }, { accessFlags := 0, nameIndex := 62, descriptorIndex := 56, attributes := #[] }] 48 2 #[] #[{ accessFlags := 2, nameIndex := 11, descriptorIndex := 12, attributes := #[] }, { accessFlags := 2, nameIndex := 17, descriptorIndex := 18, attributes := #[] }, { accessFlags := 2, nameIndex := 21, descriptorIndex := 12, attributes := #[] }])
  fields := #[{ name := "work", type := (.array (.object "java/lang/Object")), accessFlags := 2, slot := 0, constantValue := 0 }, { name := "handlers", type := (.array (.object "com/example/quernloop/quernloop/Handler")), accessFlags := 2, slot := 1, constantValue := 0 }, { name := "tokens", type := (.array (.object "java/lang/Object")), accessFlags := 2, slot := 2, constantValue := 0 }]
  methods := #[k10m0, k10m1, k10m2]
  instanceTypes := #[(.array (.object "java/lang/Object")), (.array (.object "com/example/quernloop/quernloop/Handler")), (.array (.object "java/lang/Object"))]
  staticTypes := #[]
  resolved := Array.replicate 66 none
  statics := none }

def pool11 : Array CpInfo := pool [(10, .class_ 12), (1, u "com/example/quernloop/quernloop/Handler"), (0, u "<init>"), (5, .class_ 21), (1, u "java/lang/Object"), (0, u "()V"), (2, u "looper"), (0, u "Lcom/example/quernloop/quernloop/Looper;"), (6, u "queue"), (0, u "Lcom/example/quernloop/quernloop/MessageQueue;"), (2, u "callback"), (0, u "Lcom/example/quernloop/quernloop/Handler$Callback;"), (2, u "asynchronous"), (0, u "Z"), (5, .class_ 50), (1, u "com/example/quernloop/quernloop/Handler$Callback")] 241

def k11m0 : Method := { name := "<init>", desc := "()V", sig := { parameters := [], returnType := none }, accessFlags := 1, code := none }
/-- com/example/quernloop/quernloop/Handler -/
def k11 : Class := { plain "com/example/quernloop/quernloop/Handler" (some 0) with
  accessFlags := 33
  interfaces := #[]
  cf := some (fileOf pool11 10 #[.nestMembers #[48]] #[{ accessFlags := 1, nameIndex := 13, descriptorIndex := 22, attributes := #[] }] 33 19 #[] #[{ accessFlags := 18, nameIndex := 25, descriptorIndex := 26, attributes := #[] }, { accessFlags := 18, nameIndex := 33, descriptorIndex := 34, attributes := #[] }, { accessFlags := 18, nameIndex := 37, descriptorIndex := 38, attributes := #[] }, { accessFlags := 16, nameIndex := 41, descriptorIndex := 42, attributes := #[] }])
  fields := #[{ name := "looper", type := (.object "com/example/quernloop/quernloop/Looper"), accessFlags := 18, slot := 0, constantValue := 0 }, { name := "queue", type := (.object "com/example/quernloop/quernloop/MessageQueue"), accessFlags := 18, slot := 1, constantValue := 0 }, { name := "callback", type := (.object "com/example/quernloop/quernloop/Handler$Callback"), accessFlags := 18, slot := 2, constantValue := 0 }, { name := "asynchronous", type := .boolean, accessFlags := 16, slot := 3, constantValue := 0 }]
  methods := #[k11m0]
  instanceTypes := #[(.object "com/example/quernloop/quernloop/Looper"), (.object "com/example/quernloop/quernloop/MessageQueue"), (.object "com/example/quernloop/quernloop/Handler$Callback"), .boolean]
  staticTypes := #[]
  resolved := Array.replicate 292 none
  statics := none }

def pool12 : Array CpInfo := pool [(1, .class_ 2), (0, u "java/lang/Integer"), (16, u "digits"), (0, u "[C"), (46, u "<init>"), (17, u "DigitOnes"), (0, u "[B"), (2, u "DigitTens"), (10, .nameAndType 67 101), (0, u "()V"), (85, u "valueOf"), (0, u "(I)Ljava/lang/Integer;"), (0, .class_ 190), (0, u "java/lang/Integer$IntegerCache"), (0, .fieldref 189 192), (0, .nameAndType 193 194), (0, u "high"), (0, u "I"), (0, .fieldref 189 196), (0, .nameAndType 197 198), (0, u "cache"), (0, u "[Ljava/lang/Integer;"), (0, .methodref 1 200), (0, .nameAndType 67 201), (0, u "(I)V"), (0, .methodref 203 100), (0, .class_ 204), (0, u "java/lang/Number"), (0, .fieldref 1 206), (0, .nameAndType 207 194), (0, u "value"), (94, u "TYPE"), (0, u "Ljava/lang/Class;"), (0, .class_ 305), (0, u "java/lang/Comparable"), (0, .class_ 307), (0, u "java/lang/constant/Constable"), (0, .class_ 309), (0, u "java/lang/constant/ConstantDesc"), (0, u "MIN_VALUE"), (1, u "MAX_VALUE"), (3, u "SIZE"), (1, u "BYTES"), (1, u "serialVersionUID"), (0, u "J")] 131

def k12c0 : Code := { maxStack := 3, maxLocals := 1, code := jdk_33_method_22_code, exceptionTable := #[], attributes := #[] }
def k12m0 : Method := { name := "valueOf", desc := "(I)Ljava/lang/Integer;", sig := { parameters := [.int], returnType := some (.object "java/lang/Integer") }, accessFlags := 9, code := some k12c0 }
def k12c1 : Code := { maxStack := 2, maxLocals := 2, code := jdk_33_method_23_code, exceptionTable := #[], attributes := #[] }
def k12m1 : Method := { name := "<init>", desc := "(I)V", sig := { parameters := [.int], returnType := none }, accessFlags := 1, code := some k12c1 }
/-- java/lang/Integer -/
def k12 : Class := { plain "java/lang/Integer" (some 3) with
  accessFlags := 49
  interfaces := #[4, 5, 6]
  cf := some (fileOf pool12 1 #[.nestMembers #[189]] #[{ accessFlags := 9, nameIndex := 187, descriptorIndex := 188, attributes := #[] }, { accessFlags := 1, nameIndex := 67, descriptorIndex := 201, attributes := #[] }] 49 203 #[304, 306, 308] #[{ accessFlags := 25, nameIndex := 310, descriptorIndex := 194, attributes := #[] }, { accessFlags := 25, nameIndex := 312, descriptorIndex := 194, attributes := #[] }, { accessFlags := 25, nameIndex := 302, descriptorIndex := 303, attributes := #[] }, { accessFlags := 24, nameIndex := 19, descriptorIndex := 20, attributes := #[] }, { accessFlags := 24, nameIndex := 89, descriptorIndex := 86, attributes := #[] }, { accessFlags := 24, nameIndex := 85, descriptorIndex := 86, attributes := #[] }, { accessFlags := 18, nameIndex := 207, descriptorIndex := 194, attributes := #[] }, { accessFlags := 25, nameIndex := 316, descriptorIndex := 194, attributes := #[] }, { accessFlags := 25, nameIndex := 318, descriptorIndex := 194, attributes := #[] }, { accessFlags := 26, nameIndex := 320, descriptorIndex := 321, attributes := #[] }])
  fields := #[{ name := "MIN_VALUE", type := .int, accessFlags := 25, slot := 0, constantValue := 0 }, { name := "MAX_VALUE", type := .int, accessFlags := 25, slot := 1, constantValue := 0 }, { name := "TYPE", type := (.object "java/lang/Class"), accessFlags := 25, slot := 2, constantValue := 0 }, { name := "digits", type := (.array .char), accessFlags := 24, slot := 3, constantValue := 0 }, { name := "DigitTens", type := (.array .byte), accessFlags := 24, slot := 4, constantValue := 0 }, { name := "DigitOnes", type := (.array .byte), accessFlags := 24, slot := 5, constantValue := 0 }, { name := "value", type := .int, accessFlags := 18, slot := 0, constantValue := 0 }, { name := "SIZE", type := .int, accessFlags := 25, slot := 6, constantValue := 0 }, { name := "BYTES", type := .int, accessFlags := 25, slot := 7, constantValue := 0 }, { name := "serialVersionUID", type := .long, accessFlags := 26, slot := 8, constantValue := 0 }]
  methods := #[k12m0, k12m1]
  instanceTypes := #[.int]
  staticTypes := #[.int, .int, (.object "java/lang/Class"), (.array .char), (.array .byte), (.array .byte), .int, .int, .long]
  resolved := Array.replicate 453 none
  statics := none }

def pool13 : Array CpInfo := pool [(2, .class_ 4), (1, u "java/lang/Object"), (0, u "<init>"), (0, u "()V"), (0, .class_ 8), (0, u "java/lang/Integer"), (7, .class_ 18), (1, u "java/lang/Integer$IntegerCache"), (0, u "$assertionsDisabled"), (0, u "Z"), (26, u "high"), (0, u "I"), (8, u "archivedCache"), (0, u "[Ljava/lang/Integer;"), (12, u "cache"), (0, u "low")] 27

def k13m0 : Method := { name := "<init>", desc := "()V", sig := { parameters := [], returnType := none }, accessFlags := 2, code := none }
/-- java/lang/Integer$IntegerCache -/
def k13 : Class := { plain "java/lang/Integer$IntegerCache" (some 0) with
  accessFlags := 48
  interfaces := #[]
  cf := some (fileOf pool13 16 #[.nestHost 7] #[{ accessFlags := 2, nameIndex := 5, descriptorIndex := 6, attributes := #[] }] 48 2 #[] #[{ accessFlags := 24, nameIndex := 72, descriptorIndex := 48, attributes := #[] }, { accessFlags := 24, nameIndex := 47, descriptorIndex := 48, attributes := #[] }, { accessFlags := 24, nameIndex := 71, descriptorIndex := 58, attributes := #[] }, { accessFlags := 8, nameIndex := 57, descriptorIndex := 58, attributes := #[] }, { accessFlags := 4120, nameIndex := 19, descriptorIndex := 20, attributes := #[] }])
  fields := #[{ name := "low", type := .int, accessFlags := 24, slot := 0, constantValue := 0 }, { name := "high", type := .int, accessFlags := 24, slot := 1, constantValue := 0 }, { name := "cache", type := (.array (.object "java/lang/Integer")), accessFlags := 24, slot := 2, constantValue := 0 }, { name := "archivedCache", type := (.array (.object "java/lang/Integer")), accessFlags := 8, slot := 3, constantValue := 0 }, { name := "$assertionsDisabled", type := .boolean, accessFlags := 4120, slot := 4, constantValue := 0 }]
  methods := #[k13m0]
  instanceTypes := #[]
  staticTypes := #[.int, .int, (.array (.object "java/lang/Integer")), (.array (.object "java/lang/Integer")), .boolean]
  resolved := Array.replicate 100 none
  statics := some 1 }

def pool14 : Array CpInfo := pool [(1, u "java/lang/Cloneable"), (0, .class_ 1), (0, u "java/lang/Object"), (0, .class_ 3)] 3

/-- java/lang/Cloneable -/
def k14 : Class := { plain "java/lang/Cloneable" (some 0) with
  accessFlags := 1537
  interfaces := #[]
  cf := some (fileOf pool14 2 #[] #[] 1537 4 #[] #[])
  fields := #[]
  methods := #[]
  instanceTypes := #[]
  staticTypes := #[]
  resolved := Array.replicate 8 none
  statics := none }

/-- the primitive byte -/
def k15 : Class := { plain "byte" none with kind := .primitive 'B', accessFlags := 0x411 }
/-- [B -/
def k16 : Class := { plain "[B" (some 0) with kind := .array 15 .byte, interfaces := #[14, 2], accessFlags := 1041 }

/-- the primitive int -/
def k17 : Class := { plain "int" none with kind := .primitive 'I', accessFlags := 0x411 }
/-- [I -/
def k18 : Class := { plain "[I" (some 0) with kind := .array 17 .int, interfaces := #[14, 2], accessFlags := 1041 }

/-- [Lcom/example/quernloop/quernloop/Handler; -/
def k19 : Class := { plain "[Lcom/example/quernloop/quernloop/Handler;" (some 0) with kind := .array 11 (.object "com/example/quernloop/quernloop/Handler"), interfaces := #[14, 2], accessFlags := 1041 }

/-- [Ljava/lang/Integer; -/
def k20 : Class := { plain "[Ljava/lang/Integer;" (some 0) with kind := .array 12 (.object "java/lang/Integer"), interfaces := #[14, 2], accessFlags := 1041 }

/-- [Ljava/lang/Long; -/
def k21 : Class := { plain "[Ljava/lang/Long;" (some 0) with kind := .array 7 (.object "java/lang/Long"), interfaces := #[14, 2], accessFlags := 1041 }

/-- [Ljava/lang/Object; -/
def k22 : Class := { plain "[Ljava/lang/Object;" (some 0) with kind := .array 0 (.object "java/lang/Object"), interfaces := #[14, 2], accessFlags := 1041 }

def heap : Heap := #[{ cls := 8, slots := #[.ref 3, .null, .int 0], vm := .statics 8 },
  { cls := 13, slots := #[.int 0, .int 127, .ref 2, .null, .int 0], vm := .statics 13 },
  { cls := 20, slots := #[.ref 4, .ref 5, .ref 6, .ref 7, .ref 8, .ref 9, .ref 10, .ref 11, .ref 12, .ref 13, .ref 14, .ref 15, .ref 16, .ref 17, .ref 18, .ref 19, .ref 20, .ref 21, .ref 22, .ref 23, .ref 24, .ref 25, .ref 26, .ref 27, .ref 28, .ref 29, .ref 30, .ref 31, .ref 32, .ref 33, .ref 34, .ref 35, .ref 36, .ref 37, .ref 38, .ref 39, .ref 40, .ref 41, .ref 42, .ref 43, .ref 44, .ref 45, .ref 46, .ref 47, .ref 48, .ref 49, .ref 50, .ref 51, .ref 52, .ref 53, .ref 54, .ref 55, .ref 56, .ref 57, .ref 58, .ref 59, .ref 60, .ref 61, .ref 62, .ref 63, .ref 64, .ref 65, .ref 66, .ref 67, .ref 68, .ref 69, .ref 70, .ref 71, .ref 72, .ref 73, .ref 74, .ref 75, .ref 76, .ref 77, .ref 78, .ref 79, .ref 80, .ref 81, .ref 82, .ref 83, .ref 84, .ref 85, .ref 86, .ref 87, .ref 88, .ref 89, .ref 90, .ref 91, .ref 92, .ref 93, .ref 94, .ref 95, .ref 96, .ref 97, .ref 98, .ref 99, .ref 100, .ref 101, .ref 102, .ref 103, .ref 104, .ref 105, .ref 106, .ref 107, .ref 108, .ref 109, .ref 110, .ref 111, .ref 112, .ref 113, .ref 114, .ref 115, .ref 116, .ref 117, .ref 118, .ref 119, .ref 120, .ref 121, .ref 122, .ref 123, .ref 124, .ref 125, .ref 126, .ref 127, .ref 128, .ref 129, .ref 130, .ref 131, .ref 132, .ref 133, .ref 134, .ref 135, .ref 136, .ref 137, .ref 138, .ref 139, .ref 140, .ref 141, .ref 142, .ref 143, .ref 144, .ref 145, .ref 146, .ref 147, .ref 148, .ref 149, .ref 150, .ref 151, .ref 152, .ref 153, .ref 154, .ref 155, .ref 156, .ref 157, .ref 158, .ref 159, .ref 160, .ref 161, .ref 162, .ref 163, .ref 164, .ref 165, .ref 166, .ref 167, .ref 168, .ref 169, .ref 170, .ref 171, .ref 172, .ref 173, .ref 174, .ref 175, .ref 176, .ref 177, .ref 178, .ref 179, .ref 180, .ref 181, .ref 182, .ref 183, .ref 184, .ref 185, .ref 186, .ref 187, .ref 188, .ref 189, .ref 190, .ref 191, .ref 192, .ref 193, .ref 194, .ref 195, .ref 196, .ref 197, .ref 198, .ref 199, .ref 200, .ref 201, .ref 202, .ref 203, .ref 204, .ref 205, .ref 206, .ref 207, .ref 208, .ref 209, .ref 210, .ref 211, .ref 212, .ref 213, .ref 214, .ref 215, .ref 216, .ref 217, .ref 218, .ref 219, .ref 220, .ref 221, .ref 222, .ref 223, .ref 224, .ref 225, .ref 226, .ref 227, .ref 228, .ref 229, .ref 230, .ref 231, .ref 232, .ref 233, .ref 234, .ref 235, .ref 236, .ref 237, .ref 238, .ref 239, .ref 240, .ref 241, .ref 242, .ref 243, .ref 244, .ref 245, .ref 246, .ref 247, .ref 248, .ref 249, .ref 250, .ref 251, .ref 252, .ref 253, .ref 254, .ref 255, .ref 256, .ref 257, .ref 258, .ref 259], vm := .none },
  { cls := 21, slots := #[.ref 260, .ref 261, .ref 262, .ref 263, .ref 264, .ref 265, .ref 266, .ref 267, .ref 268, .ref 269, .ref 270, .ref 271, .ref 272, .ref 273, .ref 274, .ref 275, .ref 276, .ref 277, .ref 278, .ref 279, .ref 280, .ref 281, .ref 282, .ref 283, .ref 284, .ref 285, .ref 286, .ref 287, .ref 288, .ref 289, .ref 290, .ref 291, .ref 292, .ref 293, .ref 294, .ref 295, .ref 296, .ref 297, .ref 298, .ref 299, .ref 300, .ref 301, .ref 302, .ref 303, .ref 304, .ref 305, .ref 306, .ref 307, .ref 308, .ref 309, .ref 310, .ref 311, .ref 312, .ref 313, .ref 314, .ref 315, .ref 316, .ref 317, .ref 318, .ref 319, .ref 320, .ref 321, .ref 322, .ref 323, .ref 324, .ref 325, .ref 326, .ref 327, .ref 328, .ref 329, .ref 330, .ref 331, .ref 332, .ref 333, .ref 334, .ref 335, .ref 336, .ref 337, .ref 338, .ref 339, .ref 340, .ref 341, .ref 342, .ref 343, .ref 344, .ref 345, .ref 346, .ref 347, .ref 348, .ref 349, .ref 350, .ref 351, .ref 352, .ref 353, .ref 354, .ref 355, .ref 356, .ref 357, .ref 358, .ref 359, .ref 360, .ref 361, .ref 362, .ref 363, .ref 364, .ref 365, .ref 366, .ref 367, .ref 368, .ref 369, .ref 370, .ref 371, .ref 372, .ref 373, .ref 374, .ref 375, .ref 376, .ref 377, .ref 378, .ref 379, .ref 380, .ref 381, .ref 382, .ref 383, .ref 384, .ref 385, .ref 386, .ref 387, .ref 388, .ref 389, .ref 390, .ref 391, .ref 392, .ref 393, .ref 394, .ref 395, .ref 396, .ref 397, .ref 398, .ref 399, .ref 400, .ref 401, .ref 402, .ref 403, .ref 404, .ref 405, .ref 406, .ref 407, .ref 408, .ref 409, .ref 410, .ref 411, .ref 412, .ref 413, .ref 414, .ref 415, .ref 416, .ref 417, .ref 418, .ref 419, .ref 420, .ref 421, .ref 422, .ref 423, .ref 424, .ref 425, .ref 426, .ref 427, .ref 428, .ref 429, .ref 430, .ref 431, .ref 432, .ref 433, .ref 434, .ref 435, .ref 436, .ref 437, .ref 438, .ref 439, .ref 440, .ref 441, .ref 442, .ref 443, .ref 444, .ref 445, .ref 446, .ref 447, .ref 448, .ref 449, .ref 450, .ref 451, .ref 452, .ref 453, .ref 454, .ref 455, .ref 456, .ref 457, .ref 458, .ref 459, .ref 460, .ref 461, .ref 462, .ref 463, .ref 464, .ref 465, .ref 466, .ref 467, .ref 468, .ref 469, .ref 470, .ref 471, .ref 472, .ref 473, .ref 474, .ref 475, .ref 476, .ref 477, .ref 478, .ref 479, .ref 480, .ref 481, .ref 482, .ref 483, .ref 484, .ref 485, .ref 486, .ref 487, .ref 488, .ref 489, .ref 490, .ref 491, .ref 492, .ref 493, .ref 494, .ref 495, .ref 496, .ref 497, .ref 498, .ref 499, .ref 500, .ref 501, .ref 502, .ref 503, .ref 504, .ref 505, .ref 506, .ref 507, .ref 508, .ref 509, .ref 510, .ref 511, .ref 512, .ref 513, .ref 514, .ref 515], vm := .none },
  { cls := 12, slots := #[.int (-128)], vm := .none },
  { cls := 12, slots := #[.int (-127)], vm := .none },
  { cls := 12, slots := #[.int (-126)], vm := .none },
  { cls := 12, slots := #[.int (-125)], vm := .none },
  { cls := 12, slots := #[.int (-124)], vm := .none },
  { cls := 12, slots := #[.int (-123)], vm := .none },
  { cls := 12, slots := #[.int (-122)], vm := .none },
  { cls := 12, slots := #[.int (-121)], vm := .none },
  { cls := 12, slots := #[.int (-120)], vm := .none },
  { cls := 12, slots := #[.int (-119)], vm := .none },
  { cls := 12, slots := #[.int (-118)], vm := .none },
  { cls := 12, slots := #[.int (-117)], vm := .none },
  { cls := 12, slots := #[.int (-116)], vm := .none },
  { cls := 12, slots := #[.int (-115)], vm := .none },
  { cls := 12, slots := #[.int (-114)], vm := .none },
  { cls := 12, slots := #[.int (-113)], vm := .none },
  { cls := 12, slots := #[.int (-112)], vm := .none },
  { cls := 12, slots := #[.int (-111)], vm := .none },
  { cls := 12, slots := #[.int (-110)], vm := .none },
  { cls := 12, slots := #[.int (-109)], vm := .none },
  { cls := 12, slots := #[.int (-108)], vm := .none },
  { cls := 12, slots := #[.int (-107)], vm := .none },
  { cls := 12, slots := #[.int (-106)], vm := .none },
  { cls := 12, slots := #[.int (-105)], vm := .none },
  { cls := 12, slots := #[.int (-104)], vm := .none },
  { cls := 12, slots := #[.int (-103)], vm := .none },
  { cls := 12, slots := #[.int (-102)], vm := .none },
  { cls := 12, slots := #[.int (-101)], vm := .none },
  { cls := 12, slots := #[.int (-100)], vm := .none },
  { cls := 12, slots := #[.int (-99)], vm := .none },
  { cls := 12, slots := #[.int (-98)], vm := .none },
  { cls := 12, slots := #[.int (-97)], vm := .none },
  { cls := 12, slots := #[.int (-96)], vm := .none },
  { cls := 12, slots := #[.int (-95)], vm := .none },
  { cls := 12, slots := #[.int (-94)], vm := .none },
  { cls := 12, slots := #[.int (-93)], vm := .none },
  { cls := 12, slots := #[.int (-92)], vm := .none },
  { cls := 12, slots := #[.int (-91)], vm := .none },
  { cls := 12, slots := #[.int (-90)], vm := .none },
  { cls := 12, slots := #[.int (-89)], vm := .none },
  { cls := 12, slots := #[.int (-88)], vm := .none },
  { cls := 12, slots := #[.int (-87)], vm := .none },
  { cls := 12, slots := #[.int (-86)], vm := .none },
  { cls := 12, slots := #[.int (-85)], vm := .none },
  { cls := 12, slots := #[.int (-84)], vm := .none },
  { cls := 12, slots := #[.int (-83)], vm := .none },
  { cls := 12, slots := #[.int (-82)], vm := .none },
  { cls := 12, slots := #[.int (-81)], vm := .none },
  { cls := 12, slots := #[.int (-80)], vm := .none },
  { cls := 12, slots := #[.int (-79)], vm := .none },
  { cls := 12, slots := #[.int (-78)], vm := .none },
  { cls := 12, slots := #[.int (-77)], vm := .none },
  { cls := 12, slots := #[.int (-76)], vm := .none },
  { cls := 12, slots := #[.int (-75)], vm := .none },
  { cls := 12, slots := #[.int (-74)], vm := .none },
  { cls := 12, slots := #[.int (-73)], vm := .none },
  { cls := 12, slots := #[.int (-72)], vm := .none },
  { cls := 12, slots := #[.int (-71)], vm := .none },
  { cls := 12, slots := #[.int (-70)], vm := .none },
  { cls := 12, slots := #[.int (-69)], vm := .none },
  { cls := 12, slots := #[.int (-68)], vm := .none },
  { cls := 12, slots := #[.int (-67)], vm := .none },
  { cls := 12, slots := #[.int (-66)], vm := .none },
  { cls := 12, slots := #[.int (-65)], vm := .none },
  { cls := 12, slots := #[.int (-64)], vm := .none },
  { cls := 12, slots := #[.int (-63)], vm := .none },
  { cls := 12, slots := #[.int (-62)], vm := .none },
  { cls := 12, slots := #[.int (-61)], vm := .none },
  { cls := 12, slots := #[.int (-60)], vm := .none },
  { cls := 12, slots := #[.int (-59)], vm := .none },
  { cls := 12, slots := #[.int (-58)], vm := .none },
  { cls := 12, slots := #[.int (-57)], vm := .none },
  { cls := 12, slots := #[.int (-56)], vm := .none },
  { cls := 12, slots := #[.int (-55)], vm := .none },
  { cls := 12, slots := #[.int (-54)], vm := .none },
  { cls := 12, slots := #[.int (-53)], vm := .none },
  { cls := 12, slots := #[.int (-52)], vm := .none },
  { cls := 12, slots := #[.int (-51)], vm := .none },
  { cls := 12, slots := #[.int (-50)], vm := .none },
  { cls := 12, slots := #[.int (-49)], vm := .none },
  { cls := 12, slots := #[.int (-48)], vm := .none },
  { cls := 12, slots := #[.int (-47)], vm := .none },
  { cls := 12, slots := #[.int (-46)], vm := .none },
  { cls := 12, slots := #[.int (-45)], vm := .none },
  { cls := 12, slots := #[.int (-44)], vm := .none },
  { cls := 12, slots := #[.int (-43)], vm := .none },
  { cls := 12, slots := #[.int (-42)], vm := .none },
  { cls := 12, slots := #[.int (-41)], vm := .none },
  { cls := 12, slots := #[.int (-40)], vm := .none },
  { cls := 12, slots := #[.int (-39)], vm := .none },
  { cls := 12, slots := #[.int (-38)], vm := .none },
  { cls := 12, slots := #[.int (-37)], vm := .none },
  { cls := 12, slots := #[.int (-36)], vm := .none },
  { cls := 12, slots := #[.int (-35)], vm := .none },
  { cls := 12, slots := #[.int (-34)], vm := .none },
  { cls := 12, slots := #[.int (-33)], vm := .none },
  { cls := 12, slots := #[.int (-32)], vm := .none },
  { cls := 12, slots := #[.int (-31)], vm := .none },
  { cls := 12, slots := #[.int (-30)], vm := .none },
  { cls := 12, slots := #[.int (-29)], vm := .none },
  { cls := 12, slots := #[.int (-28)], vm := .none },
  { cls := 12, slots := #[.int (-27)], vm := .none },
  { cls := 12, slots := #[.int (-26)], vm := .none },
  { cls := 12, slots := #[.int (-25)], vm := .none },
  { cls := 12, slots := #[.int (-24)], vm := .none },
  { cls := 12, slots := #[.int (-23)], vm := .none },
  { cls := 12, slots := #[.int (-22)], vm := .none },
  { cls := 12, slots := #[.int (-21)], vm := .none },
  { cls := 12, slots := #[.int (-20)], vm := .none },
  { cls := 12, slots := #[.int (-19)], vm := .none },
  { cls := 12, slots := #[.int (-18)], vm := .none },
  { cls := 12, slots := #[.int (-17)], vm := .none },
  { cls := 12, slots := #[.int (-16)], vm := .none },
  { cls := 12, slots := #[.int (-15)], vm := .none },
  { cls := 12, slots := #[.int (-14)], vm := .none },
  { cls := 12, slots := #[.int (-13)], vm := .none },
  { cls := 12, slots := #[.int (-12)], vm := .none },
  { cls := 12, slots := #[.int (-11)], vm := .none },
  { cls := 12, slots := #[.int (-10)], vm := .none },
  { cls := 12, slots := #[.int (-9)], vm := .none },
  { cls := 12, slots := #[.int (-8)], vm := .none },
  { cls := 12, slots := #[.int (-7)], vm := .none },
  { cls := 12, slots := #[.int (-6)], vm := .none },
  { cls := 12, slots := #[.int (-5)], vm := .none },
  { cls := 12, slots := #[.int (-4)], vm := .none },
  { cls := 12, slots := #[.int (-3)], vm := .none },
  { cls := 12, slots := #[.int (-2)], vm := .none },
  { cls := 12, slots := #[.int (-1)], vm := .none },
  { cls := 12, slots := #[.int (0)], vm := .none },
  { cls := 12, slots := #[.int (1)], vm := .none },
  { cls := 12, slots := #[.int (2)], vm := .none },
  { cls := 12, slots := #[.int (3)], vm := .none },
  { cls := 12, slots := #[.int (4)], vm := .none },
  { cls := 12, slots := #[.int (5)], vm := .none },
  { cls := 12, slots := #[.int (6)], vm := .none },
  { cls := 12, slots := #[.int (7)], vm := .none },
  { cls := 12, slots := #[.int (8)], vm := .none },
  { cls := 12, slots := #[.int (9)], vm := .none },
  { cls := 12, slots := #[.int (10)], vm := .none },
  { cls := 12, slots := #[.int (11)], vm := .none },
  { cls := 12, slots := #[.int (12)], vm := .none },
  { cls := 12, slots := #[.int (13)], vm := .none },
  { cls := 12, slots := #[.int (14)], vm := .none },
  { cls := 12, slots := #[.int (15)], vm := .none },
  { cls := 12, slots := #[.int (16)], vm := .none },
  { cls := 12, slots := #[.int (17)], vm := .none },
  { cls := 12, slots := #[.int (18)], vm := .none },
  { cls := 12, slots := #[.int (19)], vm := .none },
  { cls := 12, slots := #[.int (20)], vm := .none },
  { cls := 12, slots := #[.int (21)], vm := .none },
  { cls := 12, slots := #[.int (22)], vm := .none },
  { cls := 12, slots := #[.int (23)], vm := .none },
  { cls := 12, slots := #[.int (24)], vm := .none },
  { cls := 12, slots := #[.int (25)], vm := .none },
  { cls := 12, slots := #[.int (26)], vm := .none },
  { cls := 12, slots := #[.int (27)], vm := .none },
  { cls := 12, slots := #[.int (28)], vm := .none },
  { cls := 12, slots := #[.int (29)], vm := .none },
  { cls := 12, slots := #[.int (30)], vm := .none },
  { cls := 12, slots := #[.int (31)], vm := .none },
  { cls := 12, slots := #[.int (32)], vm := .none },
  { cls := 12, slots := #[.int (33)], vm := .none },
  { cls := 12, slots := #[.int (34)], vm := .none },
  { cls := 12, slots := #[.int (35)], vm := .none },
  { cls := 12, slots := #[.int (36)], vm := .none },
  { cls := 12, slots := #[.int (37)], vm := .none },
  { cls := 12, slots := #[.int (38)], vm := .none },
  { cls := 12, slots := #[.int (39)], vm := .none },
  { cls := 12, slots := #[.int (40)], vm := .none },
  { cls := 12, slots := #[.int (41)], vm := .none },
  { cls := 12, slots := #[.int (42)], vm := .none },
  { cls := 12, slots := #[.int (43)], vm := .none },
  { cls := 12, slots := #[.int (44)], vm := .none },
  { cls := 12, slots := #[.int (45)], vm := .none },
  { cls := 12, slots := #[.int (46)], vm := .none },
  { cls := 12, slots := #[.int (47)], vm := .none },
  { cls := 12, slots := #[.int (48)], vm := .none },
  { cls := 12, slots := #[.int (49)], vm := .none },
  { cls := 12, slots := #[.int (50)], vm := .none },
  { cls := 12, slots := #[.int (51)], vm := .none },
  { cls := 12, slots := #[.int (52)], vm := .none },
  { cls := 12, slots := #[.int (53)], vm := .none },
  { cls := 12, slots := #[.int (54)], vm := .none },
  { cls := 12, slots := #[.int (55)], vm := .none },
  { cls := 12, slots := #[.int (56)], vm := .none },
  { cls := 12, slots := #[.int (57)], vm := .none },
  { cls := 12, slots := #[.int (58)], vm := .none },
  { cls := 12, slots := #[.int (59)], vm := .none },
  { cls := 12, slots := #[.int (60)], vm := .none },
  { cls := 12, slots := #[.int (61)], vm := .none },
  { cls := 12, slots := #[.int (62)], vm := .none },
  { cls := 12, slots := #[.int (63)], vm := .none },
  { cls := 12, slots := #[.int (64)], vm := .none },
  { cls := 12, slots := #[.int (65)], vm := .none },
  { cls := 12, slots := #[.int (66)], vm := .none },
  { cls := 12, slots := #[.int (67)], vm := .none },
  { cls := 12, slots := #[.int (68)], vm := .none },
  { cls := 12, slots := #[.int (69)], vm := .none },
  { cls := 12, slots := #[.int (70)], vm := .none },
  { cls := 12, slots := #[.int (71)], vm := .none },
  { cls := 12, slots := #[.int (72)], vm := .none },
  { cls := 12, slots := #[.int (73)], vm := .none },
  { cls := 12, slots := #[.int (74)], vm := .none },
  { cls := 12, slots := #[.int (75)], vm := .none },
  { cls := 12, slots := #[.int (76)], vm := .none },
  { cls := 12, slots := #[.int (77)], vm := .none },
  { cls := 12, slots := #[.int (78)], vm := .none },
  { cls := 12, slots := #[.int (79)], vm := .none },
  { cls := 12, slots := #[.int (80)], vm := .none },
  { cls := 12, slots := #[.int (81)], vm := .none },
  { cls := 12, slots := #[.int (82)], vm := .none },
  { cls := 12, slots := #[.int (83)], vm := .none },
  { cls := 12, slots := #[.int (84)], vm := .none },
  { cls := 12, slots := #[.int (85)], vm := .none },
  { cls := 12, slots := #[.int (86)], vm := .none },
  { cls := 12, slots := #[.int (87)], vm := .none },
  { cls := 12, slots := #[.int (88)], vm := .none },
  { cls := 12, slots := #[.int (89)], vm := .none },
  { cls := 12, slots := #[.int (90)], vm := .none },
  { cls := 12, slots := #[.int (91)], vm := .none },
  { cls := 12, slots := #[.int (92)], vm := .none },
  { cls := 12, slots := #[.int (93)], vm := .none },
  { cls := 12, slots := #[.int (94)], vm := .none },
  { cls := 12, slots := #[.int (95)], vm := .none },
  { cls := 12, slots := #[.int (96)], vm := .none },
  { cls := 12, slots := #[.int (97)], vm := .none },
  { cls := 12, slots := #[.int (98)], vm := .none },
  { cls := 12, slots := #[.int (99)], vm := .none },
  { cls := 12, slots := #[.int (100)], vm := .none },
  { cls := 12, slots := #[.int (101)], vm := .none },
  { cls := 12, slots := #[.int (102)], vm := .none },
  { cls := 12, slots := #[.int (103)], vm := .none },
  { cls := 12, slots := #[.int (104)], vm := .none },
  { cls := 12, slots := #[.int (105)], vm := .none },
  { cls := 12, slots := #[.int (106)], vm := .none },
  { cls := 12, slots := #[.int (107)], vm := .none },
  { cls := 12, slots := #[.int (108)], vm := .none },
  { cls := 12, slots := #[.int (109)], vm := .none },
  { cls := 12, slots := #[.int (110)], vm := .none },
  { cls := 12, slots := #[.int (111)], vm := .none },
  { cls := 12, slots := #[.int (112)], vm := .none },
  { cls := 12, slots := #[.int (113)], vm := .none },
  { cls := 12, slots := #[.int (114)], vm := .none },
  { cls := 12, slots := #[.int (115)], vm := .none },
  { cls := 12, slots := #[.int (116)], vm := .none },
  { cls := 12, slots := #[.int (117)], vm := .none },
  { cls := 12, slots := #[.int (118)], vm := .none },
  { cls := 12, slots := #[.int (119)], vm := .none },
  { cls := 12, slots := #[.int (120)], vm := .none },
  { cls := 12, slots := #[.int (121)], vm := .none },
  { cls := 12, slots := #[.int (122)], vm := .none },
  { cls := 12, slots := #[.int (123)], vm := .none },
  { cls := 12, slots := #[.int (124)], vm := .none },
  { cls := 12, slots := #[.int (125)], vm := .none },
  { cls := 12, slots := #[.int (126)], vm := .none },
  { cls := 12, slots := #[.int (127)], vm := .none },
  { cls := 7, slots := #[.long (-128)], vm := .none },
  { cls := 7, slots := #[.long (-127)], vm := .none },
  { cls := 7, slots := #[.long (-126)], vm := .none },
  { cls := 7, slots := #[.long (-125)], vm := .none },
  { cls := 7, slots := #[.long (-124)], vm := .none },
  { cls := 7, slots := #[.long (-123)], vm := .none },
  { cls := 7, slots := #[.long (-122)], vm := .none },
  { cls := 7, slots := #[.long (-121)], vm := .none },
  { cls := 7, slots := #[.long (-120)], vm := .none },
  { cls := 7, slots := #[.long (-119)], vm := .none },
  { cls := 7, slots := #[.long (-118)], vm := .none },
  { cls := 7, slots := #[.long (-117)], vm := .none },
  { cls := 7, slots := #[.long (-116)], vm := .none },
  { cls := 7, slots := #[.long (-115)], vm := .none },
  { cls := 7, slots := #[.long (-114)], vm := .none },
  { cls := 7, slots := #[.long (-113)], vm := .none },
  { cls := 7, slots := #[.long (-112)], vm := .none },
  { cls := 7, slots := #[.long (-111)], vm := .none },
  { cls := 7, slots := #[.long (-110)], vm := .none },
  { cls := 7, slots := #[.long (-109)], vm := .none },
  { cls := 7, slots := #[.long (-108)], vm := .none },
  { cls := 7, slots := #[.long (-107)], vm := .none },
  { cls := 7, slots := #[.long (-106)], vm := .none },
  { cls := 7, slots := #[.long (-105)], vm := .none },
  { cls := 7, slots := #[.long (-104)], vm := .none },
  { cls := 7, slots := #[.long (-103)], vm := .none },
  { cls := 7, slots := #[.long (-102)], vm := .none },
  { cls := 7, slots := #[.long (-101)], vm := .none },
  { cls := 7, slots := #[.long (-100)], vm := .none },
  { cls := 7, slots := #[.long (-99)], vm := .none },
  { cls := 7, slots := #[.long (-98)], vm := .none },
  { cls := 7, slots := #[.long (-97)], vm := .none },
  { cls := 7, slots := #[.long (-96)], vm := .none },
  { cls := 7, slots := #[.long (-95)], vm := .none },
  { cls := 7, slots := #[.long (-94)], vm := .none },
  { cls := 7, slots := #[.long (-93)], vm := .none },
  { cls := 7, slots := #[.long (-92)], vm := .none },
  { cls := 7, slots := #[.long (-91)], vm := .none },
  { cls := 7, slots := #[.long (-90)], vm := .none },
  { cls := 7, slots := #[.long (-89)], vm := .none },
  { cls := 7, slots := #[.long (-88)], vm := .none },
  { cls := 7, slots := #[.long (-87)], vm := .none },
  { cls := 7, slots := #[.long (-86)], vm := .none },
  { cls := 7, slots := #[.long (-85)], vm := .none },
  { cls := 7, slots := #[.long (-84)], vm := .none },
  { cls := 7, slots := #[.long (-83)], vm := .none },
  { cls := 7, slots := #[.long (-82)], vm := .none },
  { cls := 7, slots := #[.long (-81)], vm := .none },
  { cls := 7, slots := #[.long (-80)], vm := .none },
  { cls := 7, slots := #[.long (-79)], vm := .none },
  { cls := 7, slots := #[.long (-78)], vm := .none },
  { cls := 7, slots := #[.long (-77)], vm := .none },
  { cls := 7, slots := #[.long (-76)], vm := .none },
  { cls := 7, slots := #[.long (-75)], vm := .none },
  { cls := 7, slots := #[.long (-74)], vm := .none },
  { cls := 7, slots := #[.long (-73)], vm := .none },
  { cls := 7, slots := #[.long (-72)], vm := .none },
  { cls := 7, slots := #[.long (-71)], vm := .none },
  { cls := 7, slots := #[.long (-70)], vm := .none },
  { cls := 7, slots := #[.long (-69)], vm := .none },
  { cls := 7, slots := #[.long (-68)], vm := .none },
  { cls := 7, slots := #[.long (-67)], vm := .none },
  { cls := 7, slots := #[.long (-66)], vm := .none },
  { cls := 7, slots := #[.long (-65)], vm := .none },
  { cls := 7, slots := #[.long (-64)], vm := .none },
  { cls := 7, slots := #[.long (-63)], vm := .none },
  { cls := 7, slots := #[.long (-62)], vm := .none },
  { cls := 7, slots := #[.long (-61)], vm := .none },
  { cls := 7, slots := #[.long (-60)], vm := .none },
  { cls := 7, slots := #[.long (-59)], vm := .none },
  { cls := 7, slots := #[.long (-58)], vm := .none },
  { cls := 7, slots := #[.long (-57)], vm := .none },
  { cls := 7, slots := #[.long (-56)], vm := .none },
  { cls := 7, slots := #[.long (-55)], vm := .none },
  { cls := 7, slots := #[.long (-54)], vm := .none },
  { cls := 7, slots := #[.long (-53)], vm := .none },
  { cls := 7, slots := #[.long (-52)], vm := .none },
  { cls := 7, slots := #[.long (-51)], vm := .none },
  { cls := 7, slots := #[.long (-50)], vm := .none },
  { cls := 7, slots := #[.long (-49)], vm := .none },
  { cls := 7, slots := #[.long (-48)], vm := .none },
  { cls := 7, slots := #[.long (-47)], vm := .none },
  { cls := 7, slots := #[.long (-46)], vm := .none },
  { cls := 7, slots := #[.long (-45)], vm := .none },
  { cls := 7, slots := #[.long (-44)], vm := .none },
  { cls := 7, slots := #[.long (-43)], vm := .none },
  { cls := 7, slots := #[.long (-42)], vm := .none },
  { cls := 7, slots := #[.long (-41)], vm := .none },
  { cls := 7, slots := #[.long (-40)], vm := .none },
  { cls := 7, slots := #[.long (-39)], vm := .none },
  { cls := 7, slots := #[.long (-38)], vm := .none },
  { cls := 7, slots := #[.long (-37)], vm := .none },
  { cls := 7, slots := #[.long (-36)], vm := .none },
  { cls := 7, slots := #[.long (-35)], vm := .none },
  { cls := 7, slots := #[.long (-34)], vm := .none },
  { cls := 7, slots := #[.long (-33)], vm := .none },
  { cls := 7, slots := #[.long (-32)], vm := .none },
  { cls := 7, slots := #[.long (-31)], vm := .none },
  { cls := 7, slots := #[.long (-30)], vm := .none },
  { cls := 7, slots := #[.long (-29)], vm := .none },
  { cls := 7, slots := #[.long (-28)], vm := .none },
  { cls := 7, slots := #[.long (-27)], vm := .none },
  { cls := 7, slots := #[.long (-26)], vm := .none },
  { cls := 7, slots := #[.long (-25)], vm := .none },
  { cls := 7, slots := #[.long (-24)], vm := .none },
  { cls := 7, slots := #[.long (-23)], vm := .none },
  { cls := 7, slots := #[.long (-22)], vm := .none },
  { cls := 7, slots := #[.long (-21)], vm := .none },
  { cls := 7, slots := #[.long (-20)], vm := .none },
  { cls := 7, slots := #[.long (-19)], vm := .none },
  { cls := 7, slots := #[.long (-18)], vm := .none },
  { cls := 7, slots := #[.long (-17)], vm := .none },
  { cls := 7, slots := #[.long (-16)], vm := .none },
  { cls := 7, slots := #[.long (-15)], vm := .none },
  { cls := 7, slots := #[.long (-14)], vm := .none },
  { cls := 7, slots := #[.long (-13)], vm := .none },
  { cls := 7, slots := #[.long (-12)], vm := .none },
  { cls := 7, slots := #[.long (-11)], vm := .none },
  { cls := 7, slots := #[.long (-10)], vm := .none },
  { cls := 7, slots := #[.long (-9)], vm := .none },
  { cls := 7, slots := #[.long (-8)], vm := .none },
  { cls := 7, slots := #[.long (-7)], vm := .none },
  { cls := 7, slots := #[.long (-6)], vm := .none },
  { cls := 7, slots := #[.long (-5)], vm := .none },
  { cls := 7, slots := #[.long (-4)], vm := .none },
  { cls := 7, slots := #[.long (-3)], vm := .none },
  { cls := 7, slots := #[.long (-2)], vm := .none },
  { cls := 7, slots := #[.long (-1)], vm := .none },
  { cls := 7, slots := #[.long (0)], vm := .none },
  { cls := 7, slots := #[.long (1)], vm := .none },
  { cls := 7, slots := #[.long (2)], vm := .none },
  { cls := 7, slots := #[.long (3)], vm := .none },
  { cls := 7, slots := #[.long (4)], vm := .none },
  { cls := 7, slots := #[.long (5)], vm := .none },
  { cls := 7, slots := #[.long (6)], vm := .none },
  { cls := 7, slots := #[.long (7)], vm := .none },
  { cls := 7, slots := #[.long (8)], vm := .none },
  { cls := 7, slots := #[.long (9)], vm := .none },
  { cls := 7, slots := #[.long (10)], vm := .none },
  { cls := 7, slots := #[.long (11)], vm := .none },
  { cls := 7, slots := #[.long (12)], vm := .none },
  { cls := 7, slots := #[.long (13)], vm := .none },
  { cls := 7, slots := #[.long (14)], vm := .none },
  { cls := 7, slots := #[.long (15)], vm := .none },
  { cls := 7, slots := #[.long (16)], vm := .none },
  { cls := 7, slots := #[.long (17)], vm := .none },
  { cls := 7, slots := #[.long (18)], vm := .none },
  { cls := 7, slots := #[.long (19)], vm := .none },
  { cls := 7, slots := #[.long (20)], vm := .none },
  { cls := 7, slots := #[.long (21)], vm := .none },
  { cls := 7, slots := #[.long (22)], vm := .none },
  { cls := 7, slots := #[.long (23)], vm := .none },
  { cls := 7, slots := #[.long (24)], vm := .none },
  { cls := 7, slots := #[.long (25)], vm := .none },
  { cls := 7, slots := #[.long (26)], vm := .none },
  { cls := 7, slots := #[.long (27)], vm := .none },
  { cls := 7, slots := #[.long (28)], vm := .none },
  { cls := 7, slots := #[.long (29)], vm := .none },
  { cls := 7, slots := #[.long (30)], vm := .none },
  { cls := 7, slots := #[.long (31)], vm := .none },
  { cls := 7, slots := #[.long (32)], vm := .none },
  { cls := 7, slots := #[.long (33)], vm := .none },
  { cls := 7, slots := #[.long (34)], vm := .none },
  { cls := 7, slots := #[.long (35)], vm := .none },
  { cls := 7, slots := #[.long (36)], vm := .none },
  { cls := 7, slots := #[.long (37)], vm := .none },
  { cls := 7, slots := #[.long (38)], vm := .none },
  { cls := 7, slots := #[.long (39)], vm := .none },
  { cls := 7, slots := #[.long (40)], vm := .none },
  { cls := 7, slots := #[.long (41)], vm := .none },
  { cls := 7, slots := #[.long (42)], vm := .none },
  { cls := 7, slots := #[.long (43)], vm := .none },
  { cls := 7, slots := #[.long (44)], vm := .none },
  { cls := 7, slots := #[.long (45)], vm := .none },
  { cls := 7, slots := #[.long (46)], vm := .none },
  { cls := 7, slots := #[.long (47)], vm := .none },
  { cls := 7, slots := #[.long (48)], vm := .none },
  { cls := 7, slots := #[.long (49)], vm := .none },
  { cls := 7, slots := #[.long (50)], vm := .none },
  { cls := 7, slots := #[.long (51)], vm := .none },
  { cls := 7, slots := #[.long (52)], vm := .none },
  { cls := 7, slots := #[.long (53)], vm := .none },
  { cls := 7, slots := #[.long (54)], vm := .none },
  { cls := 7, slots := #[.long (55)], vm := .none },
  { cls := 7, slots := #[.long (56)], vm := .none },
  { cls := 7, slots := #[.long (57)], vm := .none },
  { cls := 7, slots := #[.long (58)], vm := .none },
  { cls := 7, slots := #[.long (59)], vm := .none },
  { cls := 7, slots := #[.long (60)], vm := .none },
  { cls := 7, slots := #[.long (61)], vm := .none },
  { cls := 7, slots := #[.long (62)], vm := .none },
  { cls := 7, slots := #[.long (63)], vm := .none },
  { cls := 7, slots := #[.long (64)], vm := .none },
  { cls := 7, slots := #[.long (65)], vm := .none },
  { cls := 7, slots := #[.long (66)], vm := .none },
  { cls := 7, slots := #[.long (67)], vm := .none },
  { cls := 7, slots := #[.long (68)], vm := .none },
  { cls := 7, slots := #[.long (69)], vm := .none },
  { cls := 7, slots := #[.long (70)], vm := .none },
  { cls := 7, slots := #[.long (71)], vm := .none },
  { cls := 7, slots := #[.long (72)], vm := .none },
  { cls := 7, slots := #[.long (73)], vm := .none },
  { cls := 7, slots := #[.long (74)], vm := .none },
  { cls := 7, slots := #[.long (75)], vm := .none },
  { cls := 7, slots := #[.long (76)], vm := .none },
  { cls := 7, slots := #[.long (77)], vm := .none },
  { cls := 7, slots := #[.long (78)], vm := .none },
  { cls := 7, slots := #[.long (79)], vm := .none },
  { cls := 7, slots := #[.long (80)], vm := .none },
  { cls := 7, slots := #[.long (81)], vm := .none },
  { cls := 7, slots := #[.long (82)], vm := .none },
  { cls := 7, slots := #[.long (83)], vm := .none },
  { cls := 7, slots := #[.long (84)], vm := .none },
  { cls := 7, slots := #[.long (85)], vm := .none },
  { cls := 7, slots := #[.long (86)], vm := .none },
  { cls := 7, slots := #[.long (87)], vm := .none },
  { cls := 7, slots := #[.long (88)], vm := .none },
  { cls := 7, slots := #[.long (89)], vm := .none },
  { cls := 7, slots := #[.long (90)], vm := .none },
  { cls := 7, slots := #[.long (91)], vm := .none },
  { cls := 7, slots := #[.long (92)], vm := .none },
  { cls := 7, slots := #[.long (93)], vm := .none },
  { cls := 7, slots := #[.long (94)], vm := .none },
  { cls := 7, slots := #[.long (95)], vm := .none },
  { cls := 7, slots := #[.long (96)], vm := .none },
  { cls := 7, slots := #[.long (97)], vm := .none },
  { cls := 7, slots := #[.long (98)], vm := .none },
  { cls := 7, slots := #[.long (99)], vm := .none },
  { cls := 7, slots := #[.long (100)], vm := .none },
  { cls := 7, slots := #[.long (101)], vm := .none },
  { cls := 7, slots := #[.long (102)], vm := .none },
  { cls := 7, slots := #[.long (103)], vm := .none },
  { cls := 7, slots := #[.long (104)], vm := .none },
  { cls := 7, slots := #[.long (105)], vm := .none },
  { cls := 7, slots := #[.long (106)], vm := .none },
  { cls := 7, slots := #[.long (107)], vm := .none },
  { cls := 7, slots := #[.long (108)], vm := .none },
  { cls := 7, slots := #[.long (109)], vm := .none },
  { cls := 7, slots := #[.long (110)], vm := .none },
  { cls := 7, slots := #[.long (111)], vm := .none },
  { cls := 7, slots := #[.long (112)], vm := .none },
  { cls := 7, slots := #[.long (113)], vm := .none },
  { cls := 7, slots := #[.long (114)], vm := .none },
  { cls := 7, slots := #[.long (115)], vm := .none },
  { cls := 7, slots := #[.long (116)], vm := .none },
  { cls := 7, slots := #[.long (117)], vm := .none },
  { cls := 7, slots := #[.long (118)], vm := .none },
  { cls := 7, slots := #[.long (119)], vm := .none },
  { cls := 7, slots := #[.long (120)], vm := .none },
  { cls := 7, slots := #[.long (121)], vm := .none },
  { cls := 7, slots := #[.long (122)], vm := .none },
  { cls := 7, slots := #[.long (123)], vm := .none },
  { cls := 7, slots := #[.long (124)], vm := .none },
  { cls := 7, slots := #[.long (125)], vm := .none },
  { cls := 7, slots := #[.long (126)], vm := .none },
  { cls := 7, slots := #[.long (127)], vm := .none }]
def classes : Array Class := #[k0, k1, k2, k3, k4, k5, k6, k7, k8, k9, k10, k11, k12, k13, k14, k15, k16, k17, k18, k19, k20, k21, k22]
def interned : List (Array UInt16 × Addr) := []
def slotsUsed : Nat := 1032
def theMethod : MethodId := ⟨1, 1⟩
def args0 : Array Value := #[.int 5, .int 5, .int 5, .int 5, .int 5, .long 5]
def aboutOver (below : List Frame) : State where
  vm := { classes := classes, interned := interned.toArray }
  heap := heap
  slotsUsed := slotsUsed
  threads := #[{ frames := .invoking theMethod args0 :: below }]
def below0 : List Frame := [.native { method := ⟨0, 0⟩, args := #[] }]
def about1 : State := aboutOver below0
def p0 : Program := .bare "" "" ""
def e0 : Env := launch0.env 0 0 0
theorem w_frames : about1.frames = Frame.invoking theMethod args0 :: below0 := rfl
set_option maxRecDepth 65536 in
theorem w_args : argsFit about1.vm theMethod args0 = true := by decide +kernel
set_option maxRecDepth 65536 in
theorem w_heap : heapFits about1 = true := by decide +kernel
set_option maxRecDepth 65536 in
theorem w_runnable : about1.curStatus? = some .runnable := by decide +kernel
set_option maxRecDepth 65536 in
theorem w_alone : about1.alone = true := by decide +kernel
set_option maxRecDepth 65536 in
theorem w_named : about1.methodNamed? x = some theMethod := by decide +kernel
set_option maxRecDepth 65536 in
theorem w_hears : about1.hears theMethod below0 = true := by decide +kernel
set_option maxRecDepth 65536 in
theorem w_ripe : about1.ripe theMethod args0 below0 = true := by decide +kernel
theorem w_running : about1.status = .running := rfl
set_option maxRecDepth 65536 in
theorem w_room : about1.hasRoom e0.platform room_1 = true :=
  launch0.hasRoom_least _ room_1 (by decide +kernel) (by decide +kernel) (by decide +kernel) (by decide +kernel) (by decide +kernel) (by decide +kernel)
theorem allAtoms_all (ts : List Jvm.Cond) (a : Array Jvm.Value) (st : Jvm.State) : (allAtoms ts).before a st = ts.all (fun c => c.before a st) := by
  induction ts with
  | nil => rfl
  | cons c t ih =>
    show (Jvm.Cond.and c (allAtoms t)).before a st = _
    rw [Jvm.Cond.before_and, ih, List.all_cons]
def words1 : List Jvm.Cond := Jvm.Cond.code x code maxLocals ret :: tables_1
/-- a 'code' word, met by the world's own term for the bytes: nothing is compared byte by byte -/
theorem code_word {y : MethodName} {bytes : ByteArray} {mx : Nat} {rt : Option FieldType} {a : Array Value} {s : State} {m : MethodId} {meth : Method} {c : Code} (h1 : s.methodNamed? y = some m) (h2 : s.vm.method? m = some meth) (h3 : meth.code = some c) (h4 : c.code = bytes)
    (h5 : (c.maxLocals == mx && c.exceptionTable.isEmpty && decide (c.maxStack ≤ mostOperands) && decide (meth.sig.returnType = rt) && !meth.locks && decide (parseMethodDescriptor y.desc = some meth.sig)) = true) : (Jvm.Cond.code y bytes mx rt).before a s = true := by
  simp only [Bool.and_eq_true, beq_iff_eq, Bool.not_eq_true', decide_eq_true_eq] at h5
  obtain ⟨⟨⟨⟨⟨g1, g2⟩, g3⟩, g4⟩, g5⟩, g6⟩ := h5
  simp [Cond.before, Cond.holds, Cond.value, h1, h2, h3, h4, g1, g2, g3, g4, g5, g6]
def isCode : Jvm.Cond → Bool
  | .code _ _ _ _ => true
  | _ => false
theorem all_split {L : List Jvm.Cond} {P : Jvm.Cond → Bool} (h1 : L.all (fun c => isCode c || P c) = true) (h2 : ∀ c ∈ L.filter isCode, P c = true) : L.all P = true := by
  refine List.all_eq_true.mpr fun c hc => ?_
  have h := List.all_eq_true.mp h1 c hc
  rcases Bool.eq_false_or_eq_true (isCode c) with hi | hi
  · exact h2 c (List.mem_filter.mpr ⟨hc, hi⟩)
  · simpa [hi] using h
set_option maxRecDepth 65536 in
theorem w_c0 : (Jvm.Cond.code x code maxLocals ret).before args0 about1 = true := code_word (m := ⟨1, 1⟩) (meth := k1m1) (c := k1c1) (by decide +kernel) rfl rfl rfl (by decide +kernel)
set_option maxRecDepth 65536 in
theorem w_c1 : (Jvm.Cond.code ({ cls := "java/lang/Long", name := "valueOf", desc := "(J)Ljava/lang/Long;" } : Jvm.MethodName) jdk_35_method_24_code (3 : Nat) (Option.some (Jvm.ClassFile.FieldType.object "java/lang/Long"))).before args0 about1 = true := code_word (m := ⟨7, 0⟩) (meth := k7m0) (c := k7c0) (by decide +kernel) rfl rfl rfl (by decide +kernel)
set_option maxRecDepth 65536 in
theorem w_c2 : (Jvm.Cond.code ({ cls := "com/example/quernloop/quernloop/Message", name := "<init>", desc := "()V" } : Jvm.MethodName) prog_16_method_1_code (1 : Nat) (Option.none : Option Jvm.ClassFile.FieldType)).before args0 about1 = true := code_word (m := ⟨9, 0⟩) (meth := k9m0) (c := k9c0) (by decide +kernel) rfl rfl rfl (by decide +kernel)
set_option maxRecDepth 65536 in
theorem w_c3 : (Jvm.Cond.code ({ cls := "java/lang/Object", name := "<init>", desc := "()V" } : Jvm.MethodName) object_method_1_code (1 : Nat) (Option.none : Option Jvm.ClassFile.FieldType)).before args0 about1 = true := code_word (m := ⟨0, 0⟩) (meth := k0m0) (c := k0c0) (by decide +kernel) rfl rfl rfl (by decide +kernel)
set_option maxRecDepth 65536 in
theorem w_c4 : (Jvm.Cond.code ({ cls := "com/example/quernloop/quernloop/WorkSlots", name := "<init>", desc := "(I)V" } : Jvm.MethodName) prog_24_method_1_code (2 : Nat) (Option.none : Option Jvm.ClassFile.FieldType)).before args0 about1 = true := code_word (m := ⟨10, 0⟩) (meth := k10m0) (c := k10c0) (by decide +kernel) rfl rfl rfl (by decide +kernel)
set_option maxRecDepth 65536 in
theorem w_c5 : (Jvm.Cond.code ({ cls := "com/example/quernloop/quernloop/WorkSlots", name := "set", desc := "(ILjava/lang/Object;Lcom/example/quernloop/quernloop/Handler;Ljava/lang/Object;)V" } : Jvm.MethodName) prog_24_method_2_code (5 : Nat) (Option.none : Option Jvm.ClassFile.FieldType)).before args0 about1 = true := code_word (m := ⟨10, 1⟩) (meth := k10m1) (c := k10c1) (by decide +kernel) rfl rfl rfl (by decide +kernel)
set_option maxRecDepth 65536 in
theorem w_c6 : (Jvm.Cond.code ({ cls := "com/example/quernloop/quernloop/WorkSlots", name := "object", desc := "(I)Ljava/lang/Object;" } : Jvm.MethodName) prog_24_method_10_code (2 : Nat) (Option.some (Jvm.ClassFile.FieldType.object "java/lang/Object"))).before args0 about1 = true := code_word (m := ⟨10, 2⟩) (meth := k10m2) (c := k10c2) (by decide +kernel) rfl rfl rfl (by decide +kernel)
set_option maxRecDepth 65536 in
theorem w_c7 : (Jvm.Cond.code ({ cls := "java/lang/Integer", name := "valueOf", desc := "(I)Ljava/lang/Integer;" } : Jvm.MethodName) jdk_33_method_22_code (1 : Nat) (Option.some (Jvm.ClassFile.FieldType.object "java/lang/Integer"))).before args0 about1 = true := code_word (m := ⟨12, 0⟩) (meth := k12m0) (c := k12c0) (by decide +kernel) rfl rfl rfl (by decide +kernel)
set_option maxRecDepth 65536 in
theorem w_c8 : (Jvm.Cond.code ({ cls := "java/lang/Long", name := "<init>", desc := "(J)V" } : Jvm.MethodName) jdk_35_method_26_code (3 : Nat) (Option.none : Option Jvm.ClassFile.FieldType)).before args0 about1 = true := code_word (m := ⟨7, 1⟩) (meth := k7m1) (c := k7c1) (by decide +kernel) rfl rfl rfl (by decide +kernel)
set_option maxRecDepth 65536 in
theorem w_c9 : (Jvm.Cond.code ({ cls := "java/lang/Number", name := "<init>", desc := "()V" } : Jvm.MethodName) jdk_18_method_1_code (1 : Nat) (Option.none : Option Jvm.ClassFile.FieldType)).before args0 about1 = true := code_word (m := ⟨3, 0⟩) (meth := k3m0) (c := k3c0) (by decide +kernel) rfl rfl rfl (by decide +kernel)
set_option maxRecDepth 65536 in
theorem w_c10 : (Jvm.Cond.code ({ cls := "java/lang/Integer", name := "<init>", desc := "(I)V" } : Jvm.MethodName) jdk_33_method_23_code (2 : Nat) (Option.none : Option Jvm.ClassFile.FieldType)).before args0 about1 = true := code_word (m := ⟨12, 1⟩) (meth := k12m1) (c := k12c1) (by decide +kernel) rfl rfl rfl (by decide +kernel)
def codes1 : List Jvm.Cond := [Jvm.Cond.code x code maxLocals ret, Jvm.Cond.code ({ cls := "java/lang/Long", name := "valueOf", desc := "(J)Ljava/lang/Long;" } : Jvm.MethodName) jdk_35_method_24_code (3 : Nat) (Option.some (Jvm.ClassFile.FieldType.object "java/lang/Long")), Jvm.Cond.code ({ cls := "com/example/quernloop/quernloop/Message", name := "<init>", desc := "()V" } : Jvm.MethodName) prog_16_method_1_code (1 : Nat) (Option.none : Option Jvm.ClassFile.FieldType), Jvm.Cond.code ({ cls := "java/lang/Object", name := "<init>", desc := "()V" } : Jvm.MethodName) object_method_1_code (1 : Nat) (Option.none : Option Jvm.ClassFile.FieldType), Jvm.Cond.code ({ cls := "com/example/quernloop/quernloop/WorkSlots", name := "<init>", desc := "(I)V" } : Jvm.MethodName) prog_24_method_1_code (2 : Nat) (Option.none : Option Jvm.ClassFile.FieldType), Jvm.Cond.code ({ cls := "com/example/quernloop/quernloop/WorkSlots", name := "set", desc := "(ILjava/lang/Object;Lcom/example/quernloop/quernloop/Handler;Ljava/lang/Object;)V" } : Jvm.MethodName) prog_24_method_2_code (5 : Nat) (Option.none : Option Jvm.ClassFile.FieldType), Jvm.Cond.code ({ cls := "com/example/quernloop/quernloop/WorkSlots", name := "object", desc := "(I)Ljava/lang/Object;" } : Jvm.MethodName) prog_24_method_10_code (2 : Nat) (Option.some (Jvm.ClassFile.FieldType.object "java/lang/Object")), Jvm.Cond.code ({ cls := "java/lang/Integer", name := "valueOf", desc := "(I)Ljava/lang/Integer;" } : Jvm.MethodName) jdk_33_method_22_code (1 : Nat) (Option.some (Jvm.ClassFile.FieldType.object "java/lang/Integer")), Jvm.Cond.code ({ cls := "java/lang/Long", name := "<init>", desc := "(J)V" } : Jvm.MethodName) jdk_35_method_26_code (3 : Nat) (Option.none : Option Jvm.ClassFile.FieldType), Jvm.Cond.code ({ cls := "java/lang/Number", name := "<init>", desc := "()V" } : Jvm.MethodName) jdk_18_method_1_code (1 : Nat) (Option.none : Option Jvm.ClassFile.FieldType), Jvm.Cond.code ({ cls := "java/lang/Integer", name := "<init>", desc := "(I)V" } : Jvm.MethodName) jdk_33_method_23_code (2 : Nat) (Option.none : Option Jvm.ClassFile.FieldType)]
set_option maxRecDepth 65536 in
theorem codes_eq : words1.filter isCode = codes1 := rfl
theorem w_codes : ∀ c ∈ words1.filter isCode, c.before args0 about1 = true := by
  rw [codes_eq]
  intro c hc
  simp only [codes1, List.mem_cons, List.not_mem_nil, or_false] at hc
  rcases hc with rfl | rfl | rfl | rfl | rfl | rfl | rfl | rfl | rfl | rfl | rfl
  · exact w_c0
  · exact w_c1
  · exact w_c2
  · exact w_c3
  · exact w_c4
  · exact w_c5
  · exact w_c6
  · exact w_c7
  · exact w_c8
  · exact w_c9
  · exact w_c10
set_option maxRecDepth 65536 in
theorem w_t1 : (words1.take 24).all (fun c => isCode c || c.before args0 about1) = true := by decide +kernel
set_option maxRecDepth 65536 in
theorem w_t2 : ((words1.drop 24).take 24).all (fun c => isCode c || c.before args0 about1) = true := by decide +kernel
set_option maxRecDepth 65536 in
theorem w_t3 : (((words1.drop 24).drop 24).take 24).all (fun c => isCode c || c.before args0 about1) = true := by decide +kernel
set_option maxRecDepth 65536 in
theorem w_t4 : (((words1.drop 24).drop 24).drop 24).all (fun c => isCode c || c.before args0 about1) = true := by decide +kernel
theorem w_tables : (allAtoms (Jvm.Cond.code x code maxLocals ret :: tables_1)).before args0 about1 = true := by
  rw [allAtoms_all]
  show words1.all (fun c => c.before args0 about1) = true
  refine all_split ?_ w_codes
  rw [← List.take_append_drop 24 words1, List.all_append, w_t1, ← List.take_append_drop 24 (words1.drop 24), List.all_append, w_t2, ← List.take_append_drop 24 ((words1.drop 24).drop 24), List.all_append, w_t3, w_t4]
  rfl
set_option maxRecDepth 65536 in
theorem w_rest : rest_1_c.before args0 about1 = true := by decide +kernel
set_option maxRecDepth 65536 in
theorem w_case : (Jvm.Cond.and given_1 narrow_1).before args0 about1 = true := by decide +kernel
theorem w_applies : (headSpec (Jvm.Cond.code x code maxLocals ret :: tables_1) room_1).applies x e0.platform about1 = true :=
  (Spec.applies_iff w_frames).mpr ⟨w_running, w_runnable, w_alone, w_named, w_hears, w_ripe, w_room, w_tables⟩
theorem atStart : AtStart classFile x code maxLocals ret World_1 tables_1 room_1 Calls_1 rest_1 Pre_1 launch0 p0 e0 about1 theMethod args0 below0 :=
  ⟨lists_1, trivial, launch0.admits_env _ _ _, launch0.least_env, fairChoices_fair.cas, fairChoices_fair.clock, w_frames, w_args, w_heap, w_applies, trivial, w_rest, w_case⟩
end start1
theorem witness_1 : WitnessClaimed_1 := ⟨start1.p0, start1.e0, start1.about1, start1.theMethod, start1.args0, start1.below0, start1.atStart⟩
end Jvm.Pilot.@@N@@
