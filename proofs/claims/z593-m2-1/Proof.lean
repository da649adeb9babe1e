import JvmDerived
import JvmDerived.Pilot.@@N@@Statement
import JvmDerived.Pilot.@@N@@Code
set_option linter.unusedVariables false
set_option linter.unusedSimpArgs false
namespace Jvm.RoadKit
open Sem ClassFile Op Lib Jvm.Stand Jvm.Free Jvm.LawKit
section New
variable {p : Program} {l : Launch} {e : Env} {R : Room} {s : State} {m : MethodId} {args : Array Value} {below : List Frame} {meth : Method} {c : Code} {T : State} {locs : List Loc} {cells slots : Nat}
theorem retI (X : Stand p l e R s m args below meth c T locs cells slots) (hx : p.tables.exec = Jvm.exec) {pc : Nat} {Ls : Array Slot} {z : Int32} {rest : List Value} (hret : meth.sig.returnType = some .int) (hd : decode c.code pc = .ok (.ireturn, 1)) {fs : List Frame}
    (hl : ∀ (f : JFrame) (acts : List Action), f.method = m → f.locked = none → f.entered = [] → (doReturn e (T.setTop f) acts (some (.int z))).1 = T.setFrames fs) : Steps p.tables e below (T.setTop (mkF m pc Ls (.int z :: rest))) (T.setFrames fs) := by
  have hm' : T.vm.method? m = some meth := X.method'
  have hn : narrow .int (.int z) = .int z := rfl
  show Steps p.tables e below (T.setTop { method := m, pc := pc, locals := Ls, stack := _ :: rest, locked := none }) _
  jvm_step X.here [X.here.top, hx, hd, hm', hret, hn]
  first | (intro acts; rw [hl _ acts rfl rfl rfl]) | rw [hl _ _ rfl rfl rfl]
  exact Steps.refl _
end New
end Jvm.RoadKit
/- laws to paste: Road.backV (cut by pick.py; bodies as the Statement names them) -/
namespace Jvm.Pilot.@@N@@
namespace StrChars
open Jvm Sem ClassFile Op Lib Jvm.Stand Jvm.Free.XT Jvm.Free.ALB Jvm.Free.JM Jvm.Free
open Jvm.Lib.Cold (StaticIs)
/-- a char array whose places are chars -/
def Ch (a : Addr) (A : Cell) (U : State) : Prop := Arr .char a A U ∧ Typed .char A
theorem Ch.mv {a : Addr} {A : Cell} {U U' : State} (h : Ch a A U) (hal : U.vm.Alike U'.vm) (hh : U'.heap = U.heap) : Ch a A U' := ⟨h.1.mv hal hh, h.2⟩
theorem Ch.keep {a : Addr} {A : Cell} {U U' : State} (h : Ch a A U) (hal : U.vm.Alike U'.vm) (hk : U'.heap[a]? = some A) : Ch a A U' := ⟨h.1.keep hal hk, h.2⟩
/-- what place i of a char[]'s cell holds -/
def cv (A : Cell) (i : Nat) : Int32 := match A.slots[i]? with | some (.int x) => x | _ => 0
theorem Ch.get {a : Addr} {A : Cell} {U : State} (h : Ch a A U) {i : Nat} (hi : i < A.slots.size) : A.slots[i]? = some (.int (cv A i)) := by
  have e := Array.getElem?_eq_getElem hi
  have f := h.2 i _ e
  unfold cv; rw [e]
  generalize A.slots[i] = v at f
  cases v <;> simp [fits] at f ⊢
/-- the byte that i2b leaves of a char -/
def lo8 (x : Int32) : Int32 := x.toInt8.toInt32
theorem fits_lo8 (y : Int32) : fits .byte (.int (lo8 y)) = true := by
  have h1 := y.toInt8.le_toInt
  have h2 := y.toInt8.toInt_lt
  simp only [lo8, fits, Bool.and_eq_true, decide_eq_true_eq, Int32.le_iff_toInt_le, Int8.toInt_toInt32, show (-128 : Int32).toInt = -128 from by decide, show (127 : Int32).toInt = 127 from by decide]
  omega
/-- A' is A but that each place j of lo .. hi - 1 holds f j -/
def Laid (A A' : Cell) (lo hi : Nat) (f : Nat → Value) : Prop := A'.cls = A.cls ∧ A'.vm = A.vm ∧ A'.slots.size = A.slots.size ∧ ∀ i, A'.slots[i]? = if lo ≤ i ∧ i < hi then some (f i) else A.slots[i]?
theorem Laid.zero (A : Cell) (lo : Nat) (f : Nat → Value) : Laid A A lo (lo + 0) f := ⟨rfl, rfl, rfl, fun i => by rw [if_neg (by omega)]⟩
theorem Laid.step {A Ak : Cell} {lo k : Nat} {f : Nat → Value} {v : Value} (h : Laid A Ak lo k f) (hlo : lo ≤ k) (hk : k < Ak.slots.size) (hv : v = f k) : Laid A (Ak.setSlot k v) lo (k + 1) f := by
  refine ⟨h.1, h.2.1, by simpa [Cell.setSlot] using h.2.2.1, fun i => ?_⟩
  by_cases e : k = i
  · subst e; rw [Cell.slots_setSlot_self v hk, if_pos (by omega), hv]
  · rw [Cell.slots_setSlot_ne v e, h.2.2.2 i]
    by_cases q : lo ≤ i ∧ i < k
    · rw [if_pos q, if_pos (by omega)]
    · rw [if_neg q, if_neg (by omega)]
def U16 : String := "java/lang/StringUTF16"
namespace Cmp5
def yN : MethodName := ⟨"java/lang/StringUTF16", "compress", "([CI[BII)I"⟩
abbrev yB : ByteArray := jdk_52_method_21_code
theorem d0 : decode yB 0 = .ok (.iconst 0, 1) := by decide +kernel
theorem d1 : decode yB 1 = .ok (.istore 5, 2) := by decide +kernel
theorem d3 : decode yB 3 = .ok (.iload 5, 2) := by decide +kernel
theorem d5 : decode yB 5 = .ok (.iload 4, 2) := by decide +kernel
theorem d7 : decode yB 7 = .ok (.if_icmp (.ge) 37, 3) := by decide +kernel
theorem d10 : decode yB 10 = .ok (.aload_n 0, 1) := by decide +kernel
theorem d11 : decode yB 11 = .ok (.iload_n 1, 1) := by decide +kernel
theorem d12 : decode yB 12 = .ok (.caload, 1) := by decide +kernel
theorem d13 : decode yB 13 = .ok (.istore 6, 2) := by decide +kernel
theorem d15 : decode yB 15 = .ok (.iload 6, 2) := by decide +kernel
theorem d17 : decode yB 17 = .ok (.sipush 255, 3) := by decide +kernel
theorem d20 : decode yB 20 = .ok (.if_icmp (.le) 6, 3) := by decide +kernel
theorem d26 : decode yB 26 = .ok (.aload_n 2, 1) := by decide +kernel
theorem d27 : decode yB 27 = .ok (.iload_n 3, 1) := by decide +kernel
theorem d28 : decode yB 28 = .ok (.iload 6, 2) := by decide +kernel
theorem d30 : decode yB 30 = .ok (.i2b, 1) := by decide +kernel
theorem d31 : decode yB 31 = .ok (.bastore, 1) := by decide +kernel
theorem d32 : decode yB 32 = .ok (.iinc 1 1, 3) := by decide +kernel
theorem d35 : decode yB 35 = .ok (.iinc 3 1, 3) := by decide +kernel
theorem d38 : decode yB 38 = .ok (.iinc 5 1, 3) := by decide +kernel
theorem d41 : decode yB 41 = .ok (.goto (-38), 3) := by decide +kernel
theorem d44 : decode yB 44 = .ok (.iload 4, 2) := by decide +kernel
theorem d46 : decode yB 46 = .ok (.ireturn, 1) := by decide +kernel
def site : List Cond := []
def tab : Cond := tabOf yN yB 7 (some .int) site
def P (b : Addr) (A : Cell) (d : Addr) (B : Cell) (o q len : Nat) (args : Array Value) (s : State) : Prop := args = #[.ref b, .int (Int32.ofNat o), .ref d, .int (Int32.ofNat q), .int (Int32.ofNat len)] ∧ Ch b A s ∧ Arr .byte d B s ∧ b ≠ d ∧ o + len ≤ A.slots.size ∧ q + len ≤ B.slots.size ∧ ∀ i, i < len → ¬ 255 < cv A (o + i)
def E (b : Addr) (A : Cell) (d : Addr) (B : Cell) (o q len : Nat) (r : Option Value) (s u : State) : Prop := r = some (.int (Int32.ofNat len)) ∧ ∃ B', Put d B' s u ∧ Laid B B' q (q + len) (fun j => Value.int (lo8 (cv A (o + (j - q)))))
/-- no char of the range above 255: len; the places written hold each char's low byte -/
theorem law (l : Launch) (b : Addr) (A : Cell) (d : Addr) (B : Cell) (o q len : Nat) : Law l yN 5 5 0 0 yB 7 (some .int) site (P b A d B o q len) (E b A d B o q len) (copyLocs d q len) 0 0 := by
  refine Law.of_walk (plainFor_of_name (by decide +kernel)) (by decide +kernel) (by decide +kernel) (by decide) (fun _ _ h => by rw [h.1]; rfl) (fun _ U U' hal hh h => ⟨h.1, h.2.1.mv hal hh, h.2.2.1.mv hal hh, h.2.2.2⟩) (fun r U U' V V' h1 hal h2 h => ⟨h.1, h.2.elim fun B' q => ⟨B', q.1.mv h1 h2, q.2⟩⟩) ?_
  intro p e s m args below meth c s₁ X0 hexec hbytes hml hret hlk hnm hown hh0 W hP
  obtain ⟨rfl, hA, hB, hne, l1, l2, hp⟩ := hP
  have c1 : Steps p.tables e below (s₁.setTop (entryFrame m #[.ref b, .int (Int32.ofNat o), .ref d, .int (Int32.ofNat q), .int (Int32.ofNat len)] 7)) (s₁.setTop (mkF m 0 #[.val (.ref b), .val (.int (Int32.ofNat o)), .val (.ref d), .val (.int (Int32.ofNat q)), .val (.int (Int32.ofNat len)), .unset, .unset] [])) := entry rfl
  have hA0 := hA.1.mv X0.warmed.alike hh0
  have hB0 := hB.mv X0.warmed.alike hh0
  have a31 := hA.1.2.2.2
  have c2 : Steps p.tables e below (s₁.setTop (entryFrame m #[.ref b, .int (Int32.ofNat o), .ref d, .int (Int32.ofNat q), .int (Int32.ofNat len)] 7)) (s₁.setTop (mkF m 3 #[.val (.ref b), .val (.int (Int32.ofNat o)), .val (.ref d), .val (.int (Int32.ofNat q)), .val (.int (Int32.ofNat len)), .val (.int 0), .unset] [])) := c1.trans (by
    refine iconstV X0.here hexec rfl 0 (hb hbytes d0) (by decide) ?_
    refine XS.istore X0.here hexec rfl (hb hbytes d1) rfl rfl ?_
    exact Steps.refl _)
  have loop : ∀ (r i : Nat), i + r = len → ∀ (z : Slot), (z = .unset ∨ ∃ w, z = .val w ∧ w.category = 1) → ∀ (Tl : State) (Bk : Cell), Stand p l e { frames := 0, locals := 0, cells := 0, slots := 0 } s m #[.ref b, .int (Int32.ofNat o), .ref d, .int (Int32.ofNat q), .int (Int32.ofNat len)] below meth c Tl ([] ++ copyLocs d q i) 0 0 → Put d Bk s₁ Tl → Laid B Bk q (q + i) (fun j => Value.int (lo8 (cv A (o + (j - q))))) →
      Steps p.tables e below (s₁.setTop (entryFrame m #[.ref b, .int (Int32.ofNat o), .ref d, .int (Int32.ofNat q), .int (Int32.ofNat len)] 7)) (Tl.setTop (mkF m 3 #[.val (.ref b), .val (.int (Int32.ofNat (o + i))), .val (.ref d), .val (.int (Int32.ofNat (q + i))), .val (.int (Int32.ofNat len)), .val (.int (Int32.ofNat i)), z] [])) → ∃ (T' : State) (B' : Cell) (z' : Slot), Stand p l e { frames := 0, locals := 0, cells := 0, slots := 0 } s m #[.ref b, .int (Int32.ofNat o), .ref d, .int (Int32.ofNat q), .int (Int32.ofNat len)] below meth c T' ([] ++ copyLocs d q len) 0 0 ∧ Put d B' s₁ T' ∧ Laid B B' q (q + len) (fun j => Value.int (lo8 (cv A (o + (j - q))))) ∧
      Steps p.tables e below (s₁.setTop (entryFrame m #[.ref b, .int (Int32.ofNat o), .ref d, .int (Int32.ofNat q), .int (Int32.ofNat len)] 7)) (T'.setTop (mkF m 3 #[.val (.ref b), .val (.int (Int32.ofNat (o + len))), .val (.ref d), .val (.int (Int32.ofNat (q + len))), .val (.int (Int32.ofNat len)), .val (.int (Int32.ofNat len)), z'] [])) := by
    intro r
    induction r with
    | zero =>
      intro i hi z hz Tl Bk Xl pl fl cl
      have hil : i = len := by omega
      rw [hil] at Xl fl cl
      exact ⟨Tl, Bk, z, Xl, pl, fl, cl⟩
    | succ r ih =>
      intro i hi z hz Tl Bk Xl pl fl cl
      have all := X0.warmed.alike.symm.trans Xl.warmed.alike
      have hAl := hA0.keep all (pl.other hne hA0.1)
      have hBk := hB0.like all pl.1 fl.1 fl.2.1 fl.2.2.1
      have hlt : q + i < Bk.slots.size := by rw [fl.2.2.1]; omega
      have c3 : Steps p.tables e below (s₁.setTop (entryFrame m #[.ref b, .int (Int32.ofNat o), .ref d, .int (Int32.ofNat q), .int (Int32.ofNat len)] 7)) (Tl.setTop (mkF m 12 #[.val (.ref b), .val (.int (Int32.ofNat (o + i))), .val (.ref d), .val (.int (Int32.ofNat (q + i))), .val (.int (Int32.ofNat len)), .val (.int (Int32.ofNat i)), z] [.int (Int32.ofNat (o + i)), .ref b])) := cl.trans (by
        refine XS.iload Xl.here hexec rfl (hb hbytes d3) rfl ?_
        refine XS.iload Xl.here hexec rfl (hb hbytes d5) rfl ?_
        refine XS.icmpNo Xl.here hexec rfl (hb hbytes d7) rfl (ii_ge_f (lt32 (by omega) (by omega))) ?_
        refine XS.aloadN Xl.here hexec rfl (hb hbytes d10) rfl rfl ?_
        refine XS.iloadN Xl.here hexec rfl (hb hbytes d11) rfl ?_
        exact Steps.refl _)
      have c4 : Steps p.tables e below (s₁.setTop (entryFrame m #[.ref b, .int (Int32.ofNat o), .ref d, .int (Int32.ofNat q), .int (Int32.ofNat len)] 7)) (Tl.setTop (mkF m 13 #[.val (.ref b), .val (.int (Int32.ofNat (o + i))), .val (.ref d), .val (.int (Int32.ofNat (q + i))), .val (.int (Int32.ofNat len)), .val (.int (Int32.ofNat i)), z] [.int (cv A (o + i))])) := c3.trans (by
        refine Xl.aget hexec hAl rfl (hA.get (i := o + i) (by omega)) rfl rfl (hb hbytes d12) ?_
        exact Steps.refl _)
      have c5 : Steps p.tables e below (s₁.setTop (entryFrame m #[.ref b, .int (Int32.ofNat o), .ref d, .int (Int32.ofNat q), .int (Int32.ofNat len)] 7)) (Tl.setTop (mkF m 15 #[.val (.ref b), .val (.int (Int32.ofNat (o + i))), .val (.ref d), .val (.int (Int32.ofNat (q + i))), .val (.int (Int32.ofNat len)), .val (.int (Int32.ofNat i)), .val (.int (cv A (o + i)))] [])) := c4.trans (by
        refine XS.istoreS Xl.here hexec rfl (hb hbytes d13) rfl rfl hz ?_
        exact Steps.refl _)
      have c6 : Steps p.tables e below (s₁.setTop (entryFrame m #[.ref b, .int (Int32.ofNat o), .ref d, .int (Int32.ofNat q), .int (Int32.ofNat len)] 7)) (Tl.setTop (mkF m 31 #[.val (.ref b), .val (.int (Int32.ofNat (o + i))), .val (.ref d), .val (.int (Int32.ofNat (q + i))), .val (.int (Int32.ofNat len)), .val (.int (Int32.ofNat i)), .val (.int (cv A (o + i)))] [.int (lo8 (cv A (o + i))), .int (Int32.ofNat (q + i)), .ref d])) := c5.trans (by
        refine XS.iload Xl.here hexec rfl (hb hbytes d15) rfl ?_
        refine sipushV Xl.here hexec rfl 255 (hb hbytes d17) (by decide) ?_
        refine XS.icmpYes Xl.here hexec rfl (pc0 := 20) rfl (hb hbytes d20) rfl (ii_le_t (hp i (by omega))) (by decide) rfl ?_
        refine XS.aloadN Xl.here hexec rfl (hb hbytes d26) rfl rfl ?_
        refine XS.iloadN Xl.here hexec rfl (hb hbytes d27) rfl ?_
        refine XS.iload Xl.here hexec rfl (hb hbytes d28) rfl ?_
        refine i2b Xl.here hexec rfl (hb hbytes d30) rfl ?_
        exact Steps.refl _)
      obtain ⟨T7, X7, p7, st7⟩ := Xl.aput hexec hBk rfl hlt rfl (fits_lo8 (cv A (o + i))) (g := (mkF m 31 #[.val (.ref b), .val (.int (Int32.ofNat (o + i))), .val (.ref d), .val (.int (Int32.ofNat (q + i))), .val (.int (Int32.ofNat len)), .val (.int (Int32.ofNat i)), .val (.int (cv A (o + i)))] [.int (lo8 (cv A (o + i))), .int (Int32.ofNat (q + i)), .ref d])) rfl (rest := []) rfl (hb hbytes d31)
      have c8 : Steps p.tables e below (s₁.setTop (entryFrame m #[.ref b, .int (Int32.ofNat o), .ref d, .int (Int32.ofNat q), .int (Int32.ofNat len)] 7)) (T7.setTop (mkF m 32 #[.val (.ref b), .val (.int (Int32.ofNat (o + i))), .val (.ref d), .val (.int (Int32.ofNat (q + i))), .val (.int (Int32.ofNat len)), .val (.int (Int32.ofNat i)), .val (.int (cv A (o + i)))] [])) := c6.trans (st7 _ (Steps.refl _))
      have c9 : Steps p.tables e below (s₁.setTop (entryFrame m #[.ref b, .int (Int32.ofNat o), .ref d, .int (Int32.ofNat q), .int (Int32.ofNat len)] 7)) (T7.setTop (mkF m 3 #[.val (.ref b), .val (.int (Int32.ofNat (o + i) + 1)), .val (.ref d), .val (.int (Int32.ofNat (q + i) + 1)), .val (.int (Int32.ofNat len)), .val (.int (Int32.ofNat i + 1)), .val (.int (cv A (o + i)))] [])) := c8.trans (by
        refine iincV X7.here hexec rfl 1 (hb hbytes d32) (by decide) rfl rfl ?_
        refine iincV X7.here hexec rfl 1 (hb hbytes d35) (by decide) rfl rfl ?_
        refine iincV X7.here hexec rfl 1 (hb hbytes d38) (by decide) rfl rfl ?_
        refine XS.goto X7.here hexec rfl (pc0 := 41) rfl (hb hbytes d41) (by decide) rfl ?_
        exact Steps.refl _)
      have c10 : Steps p.tables e below (s₁.setTop (entryFrame m #[.ref b, .int (Int32.ofNat o), .ref d, .int (Int32.ofNat q), .int (Int32.ofNat len)] 7)) (T7.setTop (mkF m 3 #[.val (.ref b), .val (.int (Int32.ofNat (o + (i + 1)))), .val (.ref d), .val (.int (Int32.ofNat (q + (i + 1)))), .val (.int (Int32.ofNat len)), .val (.int (Int32.ofNat (i + 1))), .val (.int (cv A (o + i)))] [])) := by
        have := c9
        rw [succ32, succ32, succ32] at this
        exact this
      exact ih (i + 1) (by omega) _ (Or.inr ⟨_, rfl, rfl⟩) T7 _ (by rw [copyLocs_step, ← List.append_assoc]; exact X7) (pl.trans p7) (fl.step (by omega) hlt (by simp)) c10
  obtain ⟨T9, B9, z9, X9, p9, f9, g9⟩ := loop len 0 (by omega) .unset (Or.inl rfl) s₁ B (by simpa [copyLocs] using X0) ⟨hB0.1, fun _ _ => rfl, rfl⟩ (Laid.zero _ _ _) c2
  have c11 : Steps p.tables e below (s₁.setTop (entryFrame m #[.ref b, .int (Int32.ofNat o), .ref d, .int (Int32.ofNat q), .int (Int32.ofNat len)] 7)) (T9.setTop (mkF m 46 #[.val (.ref b), .val (.int (Int32.ofNat (o + len))), .val (.ref d), .val (.int (Int32.ofNat (q + len))), .val (.int (Int32.ofNat len)), .val (.int (Int32.ofNat len)), z9] [.int (Int32.ofNat len)])) := g9.trans (by
    refine XS.iload X9.here hexec rfl (hb hbytes d3) rfl ?_
    refine XS.iload X9.here hexec rfl (hb hbytes d5) rfl ?_
    refine XS.icmpYes X9.here hexec rfl (pc0 := 7) rfl (hb hbytes d7) rfl (ii_ge_t (nlt32 (by omega) (Nat.le_refl _))) (by decide) rfl ?_
    refine XS.iload X9.here hexec rfl (hb hbytes d44) rfl ?_
    exact Steps.refl _)
  exact ⟨T9, some (.int (Int32.ofNat len)), _, _, _, X9, by simp, rfl, rfl, (fun h => by cases h), ⟨rfl, B9, p9.from hh0, f9⟩, fun fs hl => c11.trans (X9.ireturnOut hexec hret rfl (Or.inl rfl) (hb hbytes d46) hl)⟩
end Cmp5
namespace Cmp3
def yN : MethodName := ⟨"java/lang/StringUTF16", "compress", "([CII)[B"⟩
abbrev yB : ByteArray := jdk_52_method_16_code
theorem d0 : decode yB 0 = .ok (.iload_n 2, 1) := by decide +kernel
theorem d1 : decode yB 1 = .ok (.newarray .byte, 2) := by decide +kernel
theorem d3 : decode yB 3 = .ok (.astore_n 3, 1) := by decide +kernel
theorem d4 : decode yB 4 = .ok (.aload_n 0, 1) := by decide +kernel
theorem d5 : decode yB 5 = .ok (.iload_n 1, 1) := by decide +kernel
theorem d6 : decode yB 6 = .ok (.aload_n 3, 1) := by decide +kernel
theorem d7 : decode yB 7 = .ok (.iconst 0, 1) := by decide +kernel
theorem d8 : decode yB 8 = .ok (.iload_n 2, 1) := by decide +kernel
theorem d9 : decode yB 9 = .ok (.invokestatic 115, 3) := by decide +kernel
theorem d12 : decode yB 12 = .ok (.istore 4, 2) := by decide +kernel
theorem d14 : decode yB 14 = .ok (.iload 4, 2) := by decide +kernel
theorem d16 : decode yB 16 = .ok (.iload_n 2, 1) := by decide +kernel
theorem d17 : decode yB 17 = .ok (.if_icmp (.eq) 40, 3) := by decide +kernel
theorem d57 : decode yB 57 = .ok (.aload_n 3, 1) := by decide +kernel
theorem d58 : decode yB 58 = .ok (.areturn, 1) := by decide +kernel
def site : List Cond := [.arrayClass .byte, Cmp5.tab] ++ staticW U16 115 Cmp5.yN
def tab : Cond := tabOf yN yB 6 (some (.array .byte)) site
def P (b : Addr) (A : Cell) (o len : Nat) (args : Array Value) (s : State) : Prop := args = #[.ref b, .int (Int32.ofNat o), .int (Int32.ofNat len)] ∧ Ch b A s ∧ o + len ≤ A.slots.size ∧ len ≤ 536870912 ∧ ∀ i, i < len → ¬ 255 < cv A (o + i)
def E (b : Addr) (A : Cell) (o len : Nat) (r : Option Value) (s u : State) : Prop := NewArr .byte "[B" len (fun j => .int (lo8 (cv A (o + j)))) r s u ∧ u.heap.size = s.heap.size + 1
/-- no char of the range above 255: a new byte[] of their low bytes -/
theorem law (l : Launch) (b : Addr) (A : Cell) (o len : Nat) : Law l yN 3 3 1 18 yB 6 (some (.array .byte)) site (P b A o len) (E b A o len) [] 1 len := by
  refine Law.of_walk (plainFor_of_name (by decide +kernel)) (by decide +kernel) (by decide +kernel) (by decide) (fun _ _ h => by rw [h.1]; rfl) (fun _ U U' hal hh h => ⟨h.1, h.2.1.mv hal hh, h.2.2⟩) (fun r U U' V V' h1 hal h2 h => ⟨NewArr.mv r U U' V V' h1 hal h2 h.1, by rw [h1, h2]; exact h.2⟩) ?_
  intro p e s m args below meth c s₁ X0 hexec hbytes hml hret hlk hnm hown hh0 W hP
  obtain ⟨rfl, hA, l1, l2, hp⟩ := hP
  have a31 := hA.1.2.2.2
  have c1 : Steps p.tables e below (s₁.setTop (entryFrame m #[.ref b, .int (Int32.ofNat o), .int (Int32.ofNat len)] 6)) (s₁.setTop (mkF m 0 #[.val (.ref b), .val (.int (Int32.ofNat o)), .val (.int (Int32.ofNat len)), .unset, .unset, .unset] [])) := entry rfl
  have c2 : Steps p.tables e below (s₁.setTop (entryFrame m #[.ref b, .int (Int32.ofNat o), .int (Int32.ofNat len)] 6)) (s₁.setTop (mkF m 1 #[.val (.ref b), .val (.int (Int32.ofNat o)), .val (.int (Int32.ofNat len)), .unset, .unset, .unset] [.int (Int32.ofNat len)])) := c1.trans (by
    refine XS.iloadN X0.here hexec rfl (hb hbytes d0) rfl ?_
    exact Steps.refl _)
  obtain ⟨T3, B3, X3, ba3, bs3, bv3, bh3, bf3, st3⟩ := X0.anew hexec (atype := .byte) (wk W (.arrayClass .byte)) rfl (by show len * 1 ≤ _; omega) (by omega) (g := (mkF m 1 #[.val (.ref b), .val (.int (Int32.ofNat o)), .val (.int (Int32.ofNat len)), .unset, .unset, .unset] [.int (Int32.ofNat len)])) rfl (hb hbytes d1) (rest := []) rfl (Nat.le_refl _) (by show 0 + len ≤ len; omega)
  rw [hh0] at ba3 st3
  have kp3 : XT.Kept s T3 := (XT.Kept.of_eq hh0).push bh3
  have hA3 := hA.keep X3.warmed.alike (kp3 _ _ hA.1.1)
  have hne : b ≠ s.heap.size := hA.1.ne
  have c4 : Steps p.tables e below (s₁.setTop (entryFrame m #[.ref b, .int (Int32.ofNat o), .int (Int32.ofNat len)] 6)) (T3.setTop (mkF m 3 #[.val (.ref b), .val (.int (Int32.ofNat o)), .val (.int (Int32.ofNat len)), .unset, .unset, .unset] [.ref s.heap.size])) := c2.trans (st3 _ (Steps.refl _))
  have c5 : Steps p.tables e below (s₁.setTop (entryFrame m #[.ref b, .int (Int32.ofNat o), .int (Int32.ofNat len)] 6)) (T3.setTop (mkF m 9 #[.val (.ref b), .val (.int (Int32.ofNat o)), .val (.int (Int32.ofNat len)), .val (.ref s.heap.size), .unset, .unset] [.int (Int32.ofNat len), .int 0, .ref s.heap.size, .int (Int32.ofNat o), .ref b])) := c4.trans (by
    refine XS.astoreN X3.here hexec rfl (hb hbytes d3) rfl rfl rfl ?_
    refine XS.aloadN X3.here hexec rfl (hb hbytes d4) rfl rfl ?_
    refine XS.iloadN X3.here hexec rfl (hb hbytes d5) rfl ?_
    refine XS.aloadN X3.here hexec rfl (hb hbytes d6) rfl rfl ?_
    refine iconstV X3.here hexec rfl 0 (hb hbytes d7) (by decide) ?_
    refine XS.iloadN X3.here hexec rfl (hb hbytes d8) rfl ?_
    exact Steps.refl _)
  obtain ⟨v6, T6, X6, E6, g6⟩ := X3.callS hexec (Cmp5.law l b A s.heap.size B3 o 0 len) hown (wks W (staticW U16 115 Cmp5.yN)) (wk W Cmp5.tab) (W := 0) (Nat.le_of_ble_eq_true rfl) (Nat.le_of_ble_eq_true rfl) (Nat.le_refl _) (by show 0 + len + 0 ≤ len; omega) (g := (mkF m 9 #[.val (.ref b), .val (.int (Int32.ofNat o)), .val (.int (Int32.ofNat len)), .val (.ref s.heap.size), .unset, .unset] [.int (Int32.ofNat len), .int (Int32.ofNat 0), .ref s.heap.size, .int (Int32.ofNat o), .ref b])) rfl (by rw [hml]; rfl) c5 (argsL := [.ref b, .int (Int32.ofNat o), .ref s.heap.size, .int (Int32.ofNat 0), .int (Int32.ofNat len)]) (rest := []) rfl rfl (by show 2 * 0 + 0 ≤ _; decide) (hb hbytes d9) (⟨rfl, hA3, ba3, hne, l1, by rw [bs3]; simp, hp⟩)
  obtain ⟨rfl, B6, p6, f6⟩ := E6
  have c7 : Steps p.tables e below (s₁.setTop (entryFrame m #[.ref b, .int (Int32.ofNat o), .int (Int32.ofNat len)] 6)) (T6.setTop (mkF m 12 #[.val (.ref b), .val (.int (Int32.ofNat o)), .val (.int (Int32.ofNat len)), .val (.ref s.heap.size), .unset, .unset] [.int (Int32.ofNat len)])) := g6
  have c8 : Steps p.tables e below (s₁.setTop (entryFrame m #[.ref b, .int (Int32.ofNat o), .int (Int32.ofNat len)] 6)) (T6.setTop (mkF m 58 #[.val (.ref b), .val (.int (Int32.ofNat o)), .val (.int (Int32.ofNat len)), .val (.ref s.heap.size), .val (.int (Int32.ofNat len)), .unset] [.ref s.heap.size])) := c7.trans (by
    refine XS.istore X6.here hexec rfl (hb hbytes d12) rfl rfl ?_
    refine XS.iload X6.here hexec rfl (hb hbytes d14) rfl ?_
    refine XS.iloadN X6.here hexec rfl (hb hbytes d16) rfl ?_
    refine XS.icmpYes X6.here hexec rfl (pc0 := 17) rfl (hb hbytes d17) rfl (ii_eq_t rfl) (by decide) rfl ?_
    refine XS.aloadN X6.here hexec rfl (hb hbytes d57) rfl rfl ?_
    exact Steps.refl _)
  have X8 := X6.wide (L' := []) (cells' := 1) (slots' := len) (fun x hx hlt => by
    simp only [List.nil_append, copyLocs, List.mem_map, List.mem_range] at hx
    obtain ⟨i, -, rfl⟩ := hx
    exact absurd hlt (Nat.lt_irrefl _)) (Nat.le_refl _) (by omega)
  exact ⟨T6, some (.ref s.heap.size), _, _, _, X8, rfl, rfl, rfl, (fun h => by cases h), ⟨⟨rfl, B6, ba3.like (X3.warmed.alike.symm.trans X6.warmed.alike) p6.1 f6.1 f6.2.1 f6.2.2.1, f6.2.1.trans bv3, by rw [X6.warmed.alike.findClass, f6.1]; exact bf3, by rw [f6.2.2.1, bs3]; simp, fun j hj => by rw [f6.2.2.2 j, if_pos (by omega)]; rfl, kp3.put p6 (Nat.le_refl _)⟩, by rw [p6.2.2, bh3, hh0]; simp⟩, fun fs hl => c8.trans (X8.areturnOut hexec rfl hret rfl (hb hbytes d58) hl)⟩
end Cmp3
namespace CodL
def yN : MethodName := ⟨"java/lang/StringUTF16", "coderFromArrayLen", "([BI)B"⟩
abbrev yB : ByteArray := jdk_52_method_15_code
theorem d0 : decode yB 0 = .ok (.iload_n 1, 1) := by decide +kernel
theorem d1 : decode yB 1 = .ok (.aload_n 0, 1) := by decide +kernel
theorem d2 : decode yB 2 = .ok (.arraylength, 1) := by decide +kernel
theorem d3 : decode yB 3 = .ok (.isub, 1) := by decide +kernel
theorem d4 : decode yB 4 = .ok (.bipush 31, 2) := by decide +kernel
theorem d6 : decode yB 6 = .ok (.iushr, 1) := by decide +kernel
theorem d7 : decode yB 7 = .ok (.i2b, 1) := by decide +kernel
theorem d8 : decode yB 8 = .ok (.ireturn, 1) := by decide +kernel
def site : List Cond := []
def tab : Cond := tabOf yN yB 2 (some .byte) site
def P (d : Addr) (B : Cell) (args : Array Value) (s : State) : Prop := args = #[.ref d, .int (Int32.ofNat B.slots.size)] ∧ Arr .byte d B s
def E (r : Option Value) (s u : State) : Prop := XT.PureE (some (.int 0)) r s u
/-- an array as long as the number of chars: LATIN1 -/
theorem law (l : Launch) (d : Addr) (B : Cell) : Law l yN 2 2 0 0 yB 2 (some .byte) site (P d B) E [] 0 0 := by
  refine Law.of_walk (plainFor_of_name (by decide +kernel)) (by decide +kernel) (by decide +kernel) (by decide) (fun _ _ h => by rw [h.1]; rfl) (fun _ U U' hal hh h => ⟨h.1, h.2.mv hal hh⟩) (fun r U U' V V' h1 hal h2 h => XT.PureE.mv r U U' V V' h1 hal h2 h) ?_
  intro p e s m args below meth c s₁ X0 hexec hbytes hml hret hlk hnm hown hh0 W hP
  obtain ⟨rfl, hB⟩ := hP
  have hB0 := hB.mv X0.warmed.alike hh0
  have c1 : Steps p.tables e below (s₁.setTop (entryFrame m #[.ref d, .int (Int32.ofNat B.slots.size)] 2)) (s₁.setTop (mkF m 0 #[.val (.ref d), .val (.int (Int32.ofNat B.slots.size))] [])) := entry rfl
  have c2 : Steps p.tables e below (s₁.setTop (entryFrame m #[.ref d, .int (Int32.ofNat B.slots.size)] 2)) (s₁.setTop (mkF m 2 #[.val (.ref d), .val (.int (Int32.ofNat B.slots.size))] [.ref d, .int (Int32.ofNat B.slots.size)])) := c1.trans (by
    refine XS.iloadN X0.here hexec rfl (hb hbytes d0) rfl ?_
    refine XS.aloadN X0.here hexec rfl (hb hbytes d1) rfl rfl ?_
    exact Steps.refl _)
  have c3 : Steps p.tables e below (s₁.setTop (entryFrame m #[.ref d, .int (Int32.ofNat B.slots.size)] 2)) (s₁.setTop (mkF m 8 #[.val (.ref d), .val (.int (Int32.ofNat B.slots.size))] [.int (lo8 (ushr (Int32.ofNat B.slots.size - Int32.ofNat B.slots.size) 31))])) := c2.trans (by
    refine X0.alen hexec hB0 rfl rfl (hb hbytes d2) ?_
    refine XS.isub X0.here hexec rfl (hb hbytes d3) rfl ?_
    refine bipushV X0.here hexec rfl 31 (hb hbytes d4) (by decide) ?_
    refine iushr X0.here hexec rfl (hb hbytes d6) rfl ?_
    refine i2b X0.here hexec rfl (hb hbytes d7) rfl ?_
    exact Steps.refl _)
  have e0 : lo8 (ushr (Int32.ofNat B.slots.size - Int32.ofNat B.slots.size) 31) = 0 := by rw [Int32.sub_self]; decide
  rw [e0] at c3
  exact ⟨s₁, some (.int 0), _, _, _, X0, rfl, rfl, rfl, (fun h => by cases h), ⟨rfl, hh0⟩, fun fs hl => c3.trans (X0.ireturnOut hexec hret rfl (Or.inr (Or.inr (Or.inl rfl))) (hb hbytes d8) hl)⟩
end CodL
/-- the String at a is Latin-1 over a new byte[] (the heap's one new cell): the low bytes of the len chars of A from o on; every cell but a is kept -/
def Got (a : Addr) (D : Cell) (fV fC : Field) (A : Cell) (o len : Nat) (r : Option Value) (s u : State) : Prop := r = none ∧ ∃ D' V : Cell, Blank "java/lang/String" a D' u ∧ Same D D' [fV.slot, fC.slot] ∧ D'.slots[fV.slot]? = some (.ref s.heap.size) ∧ D'.slots[fC.slot]? = some (.int 0) ∧ Arr .byte s.heap.size V u ∧ V.vm = .none ∧ u.vm.findClass "[B" = some V.cls ∧ V.slots.size = len ∧ (∀ j, j < len → V.slots[j]? = some (.int (lo8 (cv A (o + j))))) ∧ (∀ (y : Addr) (c : Cell), y ≠ a → s.heap[y]? = some c → u.heap[y]? = some c) ∧ u.heap.size = s.heap.size + 1
theorem Got.mv {a : Addr} {D A : Cell} {fV fC : Field} {o len : Nat} : ∀ r (U U' V V' : State), U'.heap = U.heap → V.vm.Alike V'.vm → V'.heap = V.heap → Got a D fV fC A o len r U V → Got a D fV fC A o len r U' V' :=
  fun r U U' V V' h1 hal h2 ⟨e0, D', X, a1, a2, a3, a4, a5, a6, a7, a8, a9, a10, a11⟩ => ⟨e0, D', X, a1.mv hal h2, a2, by rw [h1]; exact a3, a4, by rw [h1]; exact a5.mv hal h2, a6, by rw [hal.findClass]; exact a7, a8, a9, by rw [h1, h2]; exact a10, by rw [h1, h2]; exact a11⟩
namespace New4
def yN : MethodName := ⟨"java/lang/String", "<init>", "([CIILjava/lang/Void;)V"⟩
abbrev yB : ByteArray := jdk_42_method_149_code
theorem d0 : decode yB 0 = .ok (.aload_n 0, 1) := by decide +kernel
theorem d1 : decode yB 1 = .ok (.invokespecial 1, 3) := by decide +kernel
theorem d4 : decode yB 4 = .ok (.iload_n 3, 1) := by decide +kernel
theorem d5 : decode yB 5 = .ok (.ifCond (.ne) 22, 3) := by decide +kernel
theorem d27 : decode yB 27 = .ok (.getstatic 38, 3) := by decide +kernel
theorem d30 : decode yB 30 = .ok (.ifCond (.eq) 28, 3) := by decide +kernel
theorem d33 : decode yB 33 = .ok (.aload_n 1, 1) := by decide +kernel
theorem d34 : decode yB 34 = .ok (.iload_n 2, 1) := by decide +kernel
theorem d35 : decode yB 35 = .ok (.iload_n 3, 1) := by decide +kernel
theorem d36 : decode yB 36 = .ok (.invokestatic 177, 3) := by decide +kernel
theorem d39 : decode yB 39 = .ok (.astore 5, 2) := by decide +kernel
theorem d41 : decode yB 41 = .ok (.aload_n 0, 1) := by decide +kernel
theorem d42 : decode yB 42 = .ok (.aload 5, 2) := by decide +kernel
theorem d44 : decode yB 44 = .ok (.iload_n 3, 1) := by decide +kernel
theorem d45 : decode yB 45 = .ok (.invokestatic 47, 3) := by decide +kernel
theorem d48 : decode yB 48 = .ok (.putfield 15, 3) := by decide +kernel
theorem d51 : decode yB 51 = .ok (.aload_n 0, 1) := by decide +kernel
theorem d52 : decode yB 52 = .ok (.aload 5, 2) := by decide +kernel
theorem d54 : decode yB 54 = .ok (.putfield 9, 3) := by decide +kernel
theorem d57 : decode yB 57 = .ok (.return_, 1) := by decide +kernel
def site : List Cond := [.fieldLink "java/lang/String" 38 "java/lang/String" "COMPACT_STRINGS" "Z", Cmp3.tab, CodL.tab, .laysFinal "java/lang/String" "java/lang/String" "value" "[B", .fieldLink "java/lang/String" 9 "java/lang/String" "value" "[B", .laysFinal "java/lang/String" "java/lang/String" "coder" "B", .fieldLink "java/lang/String" 15 "java/lang/String" "coder" "B"] ++ objW "java/lang/String" 1 ++ staticW "java/lang/String" 177 Cmp3.yN ++ staticW "java/lang/String" 47 CodL.yN
def tab : Cond := tabOf yN yB 6 none site
def P (a : Addr) (D : Cell) (fV fC : Field) (b : Addr) (A : Cell) (z : Int32) (o len : Nat) (args : Array Value) (s : State) : Prop := args = #[.ref a, .ref b, .int (Int32.ofNat o), .int (Int32.ofNat len), .null] ∧ Blank "java/lang/String" a D s ∧ Found "java/lang/String" "value" "[B" fV s ∧ Found "java/lang/String" "coder" "B" fC s ∧ Ch b A s ∧ StaticIs s "java/lang/String" "COMPACT_STRINGS" "Z" (.int z) ∧ ¬ z = 0 ∧ 0 < len ∧ o + len ≤ A.slots.size ∧ len ≤ 536870912 ∧ ∀ i, i < len → ¬ 255 < cv A (o + i)
def E (a : Addr) (D : Cell) (fV fC : Field) (A : Cell) (o len : Nat) (r : Option Value) (s u : State) : Prop := Got a D fV fC A o len r s u
/-- len > 0, no char of the range above 255: a Latin-1 String of their low bytes -/
theorem law (l : Launch) (a : Addr) (D : Cell) (fV fC : Field) (b : Addr) (A : Cell) (z : Int32) (o len : Nat) : Law l yN 5 4 2 35 yB 6 none site (P a D fV fC b A z o len) (E a D fV fC A o len) [⟨a, fC.slot⟩, ⟨a, fV.slot⟩] 1 len := by
  refine Law.of_walk (plainFor_of_name (by decide +kernel)) (by decide +kernel) (by decide +kernel) (by decide) (fun _ _ h => by rw [h.1]; rfl) (fun _ U U' hal hh h => ⟨h.1, h.2.1.mv hal hh, h.2.2.1.al hal, h.2.2.2.1.al hal, h.2.2.2.2.1.mv hal hh, h.2.2.2.2.2.1.there hal hh, h.2.2.2.2.2.2⟩) (fun r U U' V V' h1 hal h2 h => Got.mv r U U' V V' h1 hal h2 h) ?_
  intro p e s m args below meth c s₁ X0 hexec hbytes hml hret hlk hnm hown hh0 W hP
  obtain ⟨rfl, hB, f1, f2, hA, s1, hz, l0, l1, l2, hp⟩ := hP
  have a31 := hA.1.2.2.2
  have c1 : Steps p.tables e below (s₁.setTop (entryFrame m #[.ref a, .ref b, .int (Int32.ofNat o), .int (Int32.ofNat len), .null] 6)) (s₁.setTop (mkF m 0 #[.val (.ref a), .val (.ref b), .val (.int (Int32.ofNat o)), .val (.int (Int32.ofNat len)), .val .null, .unset] [])) := entry rfl
  have c2 : Steps p.tables e below (s₁.setTop (entryFrame m #[.ref a, .ref b, .int (Int32.ofNat o), .int (Int32.ofNat len), .null] 6)) (s₁.setTop (mkF m 1 #[.val (.ref a), .val (.ref b), .val (.int (Int32.ofNat o)), .val (.int (Int32.ofNat len)), .val .null, .unset] [.ref a])) := c1.trans (by
    refine XS.aloadN X0.here hexec rfl (hb hbytes d0) rfl rfl ?_
    exact Steps.refl _)
  obtain ⟨T3, X3, q3, st3⟩ := X0.oinit hexec hown (wks W (objW "java/lang/String" 1)) (g := (mkF m 1 #[.val (.ref a), .val (.ref b), .val (.int (Int32.ofNat o)), .val (.int (Int32.ofNat len)), .val .null, .unset] [.ref a])) rfl (by rw [hml]; rfl) (rest := []) rfl (hb hbytes d1) (W := 0) (by show 2 * 0 + 0 ≤ _; decide) (Nat.le_of_ble_eq_true rfl) (Nat.le_of_ble_eq_true rfl)
  have hh3 := q3.trans hh0
  have c4 : Steps p.tables e below (s₁.setTop (entryFrame m #[.ref a, .ref b, .int (Int32.ofNat o), .int (Int32.ofNat len), .null] 6)) (T3.setTop (mkF m 27 #[.val (.ref a), .val (.ref b), .val (.int (Int32.ofNat o)), .val (.int (Int32.ofNat len)), .val .null, .unset] [])) := (c2.trans (st3 _ (Steps.refl _))).trans (by
    refine XS.iloadN X3.here hexec rfl (hb hbytes d4) rfl ?_
    refine XS.ifYes X3.here hexec rfl (pc0 := 5) rfl (hb hbytes d5) rfl (i0_ne_t (nz32 (by omega) l0)) (by decide) rfl ?_
    exact Steps.refl _)
  obtain ⟨T5, X5, q5, st5⟩ := X3.sget hexec hown (wk W (.fieldLink "java/lang/String" 38 "java/lang/String" "COMPACT_STRINGS" "Z")) s1 (fun _ _ h => by rw [hh3]; exact h) (g := (mkF m 27 #[.val (.ref a), .val (.ref b), .val (.int (Int32.ofNat o)), .val (.int (Int32.ofNat len)), .val .null, .unset] [])) rfl (hb hbytes d27)
  have hh5 := q5.trans hh3
  have c6 : Steps p.tables e below (s₁.setTop (entryFrame m #[.ref a, .ref b, .int (Int32.ofNat o), .int (Int32.ofNat len), .null] 6)) (T5.setTop (mkF m 30 #[.val (.ref a), .val (.ref b), .val (.int (Int32.ofNat o)), .val (.int (Int32.ofNat len)), .val .null, .unset] [.int z])) := c4.trans (st5 _ (Steps.refl _))
  have c7 : Steps p.tables e below (s₁.setTop (entryFrame m #[.ref a, .ref b, .int (Int32.ofNat o), .int (Int32.ofNat len), .null] 6)) (T5.setTop (mkF m 36 #[.val (.ref a), .val (.ref b), .val (.int (Int32.ofNat o)), .val (.int (Int32.ofNat len)), .val .null, .unset] [.int (Int32.ofNat len), .int (Int32.ofNat o), .ref b])) := c6.trans (by
    refine XS.ifNo X5.here hexec rfl (hb hbytes d30) rfl (i0_eq_f hz) ?_
    refine XS.aloadN X5.here hexec rfl (hb hbytes d33) rfl rfl ?_
    refine XS.iloadN X5.here hexec rfl (hb hbytes d34) rfl ?_
    refine XS.iloadN X5.here hexec rfl (hb hbytes d35) rfl ?_
    exact Steps.refl _)
  obtain ⟨v8, T8, X8, E8, g8⟩ := X5.callS hexec (Cmp3.law l b A o len) hown (wks W (staticW "java/lang/String" 177 Cmp3.yN)) (wk W Cmp3.tab) (W := 0) (Nat.le_of_ble_eq_true rfl) (Nat.le_of_ble_eq_true rfl) (Nat.le_refl _) (by show 0 + len ≤ len; omega) (g := (mkF m 36 #[.val (.ref a), .val (.ref b), .val (.int (Int32.ofNat o)), .val (.int (Int32.ofNat len)), .val .null, .unset] [.int (Int32.ofNat len), .int (Int32.ofNat o), .ref b])) rfl (by rw [hml]; rfl) c7 (argsL := [.ref b, .int (Int32.ofNat o), .int (Int32.ofNat len)]) (rest := []) rfl rfl (by show 2 * 0 + 0 ≤ _; decide) (hb hbytes d36) (⟨rfl, hA.mv X5.warmed.alike hh5, l1, l2, hp⟩)
  obtain ⟨e8, z8⟩ := E8
  obtain ⟨rfl, N, n1, n2, n3, n4, n5, n6⟩ := NewArr.mv _ T5 s _ _ hh5.symm (Vm.Alike.refl _) rfl e8
  rw [hh5] at z8
  have hB1 := hB.keep X8.warmed.alike (n6 _ _ hB.1)
  have hne : s.heap.size ≠ a := (Nat.ne_of_lt (Array.getElem?_eq_some_iff.mp hB.1).1).symm
  have c9 : Steps p.tables e below (s₁.setTop (entryFrame m #[.ref a, .ref b, .int (Int32.ofNat o), .int (Int32.ofNat len), .null] 6)) (T8.setTop (mkF m 39 #[.val (.ref a), .val (.ref b), .val (.int (Int32.ofNat o)), .val (.int (Int32.ofNat len)), .val .null, .unset] [.ref s.heap.size])) := g8
  have c10 : Steps p.tables e below (s₁.setTop (entryFrame m #[.ref a, .ref b, .int (Int32.ofNat o), .int (Int32.ofNat len), .null] 6)) (T8.setTop (mkF m 45 #[.val (.ref a), .val (.ref b), .val (.int (Int32.ofNat o)), .val (.int (Int32.ofNat len)), .val .null, .val (.ref s.heap.size)] [.int (Int32.ofNat N.slots.size), .ref s.heap.size, .ref a])) := by
    have hc : Steps p.tables e below (s₁.setTop (entryFrame m #[.ref a, .ref b, .int (Int32.ofNat o), .int (Int32.ofNat len), .null] 6)) (T8.setTop (mkF m 45 #[.val (.ref a), .val (.ref b), .val (.int (Int32.ofNat o)), .val (.int (Int32.ofNat len)), .val .null, .val (.ref s.heap.size)] [.int (Int32.ofNat len), .ref s.heap.size, .ref a])) := c9.trans (by
      refine XS.astore X8.here hexec rfl (hb hbytes d39) rfl rfl rfl ?_
      refine XS.aloadN X8.here hexec rfl (hb hbytes d41) rfl rfl ?_
      refine XS.aload X8.here hexec rfl (hb hbytes d42) rfl rfl ?_
      refine XS.iloadN X8.here hexec rfl (hb hbytes d44) rfl ?_
      exact Steps.refl _)
    rw [n4]; exact hc
  obtain ⟨v11, T11, X11, E11, g11⟩ := X8.callS hexec (CodL.law l s.heap.size N) hown (wks W (staticW "java/lang/String" 47 CodL.yN)) (wk W CodL.tab) (W := 1) (Nat.le_of_ble_eq_true rfl) (Nat.le_of_ble_eq_true rfl) (Nat.le_refl _) (by show 0 + len + 0 ≤ len; omega) (g := (mkF m 45 #[.val (.ref a), .val (.ref b), .val (.int (Int32.ofNat o)), .val (.int (Int32.ofNat len)), .val .null, .val (.ref s.heap.size)] [.int (Int32.ofNat N.slots.size), .ref s.heap.size, .ref a])) rfl (by rw [hml]; rfl) c10 (argsL := [.ref s.heap.size, .int (Int32.ofNat N.slots.size)]) (rest := [.ref a]) rfl rfl (by show 2 * 0 + (1 + 0) ≤ _; decide) (hb hbytes d45) (⟨rfl, n1⟩)
  obtain ⟨rfl, q11⟩ := E11
  have hB11 := hB1.mv (X8.warmed.alike.symm.trans X11.warmed.alike) q11
  have c12 : Steps p.tables e below (s₁.setTop (entryFrame m #[.ref a, .ref b, .int (Int32.ofNat o), .int (Int32.ofNat len), .null] 6)) (T11.setTop (mkF m 48 #[.val (.ref a), .val (.ref b), .val (.int (Int32.ofNat o)), .val (.int (Int32.ofNat len)), .val .null, .val (.ref s.heap.size)] [.int 0, .ref a])) := g11
  obtain ⟨T13, X13, p13, bl13, sl13, st13⟩ := X11.finit hexec hown (wk W (.fieldLink "java/lang/String" 15 "java/lang/String" "coder" "B")) (Or.inr ⟨_, (wk W (.laysFinal "java/lang/String" "java/lang/String" "coder" "B"))⟩) (Or.inl ⟨rfl, hnm⟩) f2 (Or.inl rfl) hB11 (t := .byte) (by decide +kernel) rfl (g := (mkF m 48 #[.val (.ref a), .val (.ref b), .val (.int (Int32.ofNat o)), .val (.int (Int32.ofNat len)), .val .null, .val (.ref s.heap.size)] [.int 0, .ref a])) rfl (rest := []) rfl (hb hbytes d48)
  have c14 : Steps p.tables e below (s₁.setTop (entryFrame m #[.ref a, .ref b, .int (Int32.ofNat o), .int (Int32.ofNat len), .null] 6)) (T13.setTop (mkF m 54 #[.val (.ref a), .val (.ref b), .val (.int (Int32.ofNat o)), .val (.int (Int32.ofNat len)), .val .null, .val (.ref s.heap.size)] [.ref s.heap.size, .ref a])) := (c12.trans (st13 _ (Steps.refl _))).trans (by
    refine XS.aloadN X13.here hexec rfl (hb hbytes d51) rfl rfl ?_
    refine XS.aload X13.here hexec rfl (hb hbytes d52) rfl rfl ?_
    exact Steps.refl _)
  obtain ⟨T15, X15, p15, bl15, sl15, st15⟩ := X13.finit hexec hown (wk W (.fieldLink "java/lang/String" 9 "java/lang/String" "value" "[B")) (Or.inr ⟨_, (wk W (.laysFinal "java/lang/String" "java/lang/String" "value" "[B"))⟩) (Or.inl ⟨rfl, hnm⟩) f1 (Or.inl rfl) bl13 (t := (.array .byte)) (by decide +kernel) rfl (g := (mkF m 54 #[.val (.ref a), .val (.ref b), .val (.int (Int32.ofNat o)), .val (.int (Int32.ofNat len)), .val .null, .val (.ref s.heap.size)] [.ref s.heap.size, .ref a])) rfl (rest := []) rfl (hb hbytes d54)
  have c16 : Steps p.tables e below (s₁.setTop (entryFrame m #[.ref a, .ref b, .int (Int32.ofNat o), .int (Int32.ofNat len), .null] 6)) (T15.setTop (mkF m 57 #[.val (.ref a), .val (.ref b), .val (.int (Int32.ofNat o)), .val (.int (Int32.ofNat len)), .val .null, .val (.ref s.heap.size)] [])) := c14.trans (st15 _ (Steps.refl _))
  have ap := apart (Or.inr ⟨_, (wk W (.laysFinal "java/lang/String" "java/lang/String" "value" "[B"))⟩) (Or.inr ⟨_, (wk W (.laysFinal "java/lang/String" "java/lang/String" "coder" "B"))⟩) f1 f2 (t₁ := .array .byte) (t₂ := .byte) (by decide +kernel) (by decide +kernel) (by decide)
  have al := X8.warmed.alike.symm.trans X15.warmed.alike
  have n7 : T11.heap[s.heap.size]? = some N := by rw [q11]; exact n1.1
  exact ⟨T15, none, _, _, _, X15, by simp, rfl, by omega, (fun _ => rfl), ⟨rfl, _, N, bl15, ((Same.refl D _).set _ (by simp)).set _ (by simp), sl15, (Cell.slots_setSlot_ne _ ap).trans sl13, n1.keep al (p15.other hne (p13.other hne n7)), n2, by rw [al.findClass]; exact n3, n4, n5, fun y c h1 h2 => p15.other h1 (p13.other h1 (by rw [q11]; exact n6 y c h2)), by rw [p15.2.2, p13.2.2, q11]; exact z8⟩, fun fs hl => c16.trans (X15.returnOut hexec hret (hb hbytes d57) hl)⟩
end New4
namespace New1
def yN : MethodName := ⟨"java/lang/String", "<init>", "([C)V"⟩
abbrev yB : ByteArray := jdk_42_method_3_code
theorem d0 : decode yB 0 = .ok (.aload_n 0, 1) := by decide +kernel
theorem d1 : decode yB 1 = .ok (.aload_n 1, 1) := by decide +kernel
theorem d2 : decode yB 2 = .ok (.iconst 0, 1) := by decide +kernel
theorem d3 : decode yB 3 = .ok (.aload_n 1, 1) := by decide +kernel
theorem d4 : decode yB 4 = .ok (.arraylength, 1) := by decide +kernel
theorem d5 : decode yB 5 = .ok (.aconst_null, 1) := by decide +kernel
theorem d6 : decode yB 6 = .ok (.invokespecial 27, 3) := by decide +kernel
theorem d9 : decode yB 9 = .ok (.return_, 1) := by decide +kernel
def site : List Cond := [New4.tab] ++ initW "java/lang/String" 27 New4.yN
def tab : Cond := tabOf yN yB 2 none site
def P (a : Addr) (D : Cell) (fV fC : Field) (b : Addr) (A : Cell) (z : Int32) (args : Array Value) (s : State) : Prop := args = #[.ref a, .ref b] ∧ Blank "java/lang/String" a D s ∧ Found "java/lang/String" "value" "[B" fV s ∧ Found "java/lang/String" "coder" "B" fC s ∧ Ch b A s ∧ StaticIs s "java/lang/String" "COMPACT_STRINGS" "Z" (.int z) ∧ ¬ z = 0 ∧ 0 < A.slots.size ∧ A.slots.size ≤ 536870912 ∧ ∀ i, i < A.slots.size → ¬ 255 < cv A i
def E (a : Addr) (D : Cell) (fV fC : Field) (A : Cell) (r : Option Value) (s u : State) : Prop := Got a D fV fC A 0 A.slots.size r s u
/-- new String(chars), not empty, no char above 255: a Latin-1 String of their low bytes -/
theorem law (l : Launch) (a : Addr) (D : Cell) (fV fC : Field) (b : Addr) (A : Cell) (z : Int32) : Law l yN 2 1 3 52 yB 2 none site (P a D fV fC b A z) (E a D fV fC A) [⟨a, fC.slot⟩, ⟨a, fV.slot⟩] 1 A.slots.size := by
  refine Law.of_walk (plainFor_of_name (by decide +kernel)) (by decide +kernel) (by decide +kernel) (by decide) (fun _ _ h => by rw [h.1]; rfl) (fun _ U U' hal hh h => ⟨h.1, h.2.1.mv hal hh, h.2.2.1.al hal, h.2.2.2.1.al hal, h.2.2.2.2.1.mv hal hh, h.2.2.2.2.2.1.there hal hh, h.2.2.2.2.2.2⟩) (fun r U U' V V' h1 hal h2 h => Got.mv r U U' V V' h1 hal h2 h) ?_
  intro p e s m args below meth c s₁ X0 hexec hbytes hml hret hlk hnm hown hh0 W hP
  obtain ⟨rfl, hB, f1, f2, hA, s1, hz, l0, l2, hp⟩ := hP
  have c1 : Steps p.tables e below (s₁.setTop (entryFrame m #[.ref a, .ref b] 2)) (s₁.setTop (mkF m 0 #[.val (.ref a), .val (.ref b)] [])) := entry rfl
  have c2 : Steps p.tables e below (s₁.setTop (entryFrame m #[.ref a, .ref b] 2)) (s₁.setTop (mkF m 6 #[.val (.ref a), .val (.ref b)] [.null, .int (Int32.ofNat A.slots.size), .int 0, .ref b, .ref a])) := c1.trans (by
    refine XS.aloadN X0.here hexec rfl (hb hbytes d0) rfl rfl ?_
    refine XS.aloadN X0.here hexec rfl (hb hbytes d1) rfl rfl ?_
    refine iconstV X0.here hexec rfl 0 (hb hbytes d2) (by decide) ?_
    refine XS.aloadN X0.here hexec rfl (hb hbytes d3) rfl rfl ?_
    refine X0.alen hexec (hA.1.mv X0.warmed.alike hh0) rfl rfl (hb hbytes d4) ?_
    refine XS.aconstNull X0.here hexec rfl (hb hbytes d5) ?_
    exact Steps.refl _)
  obtain ⟨v3, T3, X3, E3, g3⟩ := X0.callN hexec (New4.law l a D fV fC b A z 0 A.slots.size) rfl hown (wks W (initW "java/lang/String" 27 New4.yN)) (W New4.tab (by simp only [site, List.mem_cons, List.mem_append, true_or, or_true])) (W := 0) (Nat.le_of_ble_eq_true rfl) (Nat.le_of_ble_eq_true rfl) (Nat.le_refl _) (by show 0 + A.slots.size ≤ A.slots.size; omega) (g := (mkF m 6 #[.val (.ref a), .val (.ref b)] [.null, .int (Int32.ofNat A.slots.size), .int (Int32.ofNat 0), .ref b, .ref a])) rfl (by rw [hml]; rfl) c2 (argsL := [.ref b, .int (Int32.ofNat 0), .int (Int32.ofNat A.slots.size), .null]) (rest := []) rfl rfl (by show 2 * 0 + 0 ≤ _; decide) (hb hbytes d6) (⟨rfl, hB.mv X0.warmed.alike hh0, f1.al X0.warmed.alike, f2.al X0.warmed.alike, hA.mv X0.warmed.alike hh0, s1.there X0.warmed.alike hh0, hz, l0, by omega, l2, fun i hi => by rw [Nat.zero_add]; exact hp i hi⟩)
  have e0 := Got.mv _ s₁ s _ _ hh0.symm (Vm.Alike.refl _) rfl E3
  obtain rfl := e0.1
  have c4 : Steps p.tables e below (s₁.setTop (entryFrame m #[.ref a, .ref b] 2)) (T3.setTop (mkF m 9 #[.val (.ref a), .val (.ref b)] [])) := g3
  exact ⟨T3, none, _, _, _, X3, by simp, rfl, by omega, (fun _ => rfl), e0, fun fs hl => c4.trans (X3.returnOut hexec hret (hb hbytes d9) hl)⟩
theorem pays {l : Launch} {R : Room} {p : Program} {e : Env} {below : List Frame} {s : State} {sargs : Array Value} {len W : Nat} (a : Addr) (D : Cell) (fV fC : Field) (b : Addr) (A : Cell) (z : Int32) (htab : tab.before sargs s = true) (hfr : 4 ≤ R.frames) (hlo : W + 65 ≤ R.locals) :
    Back l R p e below s sargs yN len W (fun A₁ a₁ => A₁.cells + 1 ≤ R.cells ∧ A₁.slots + A.slots.size ≤ R.slots ∧ P a D fV fC b A z a₁ A₁.U) (fun A₁ _ v₁ B₁ => E a D fV fC A v₁ A₁.U B₁.U ∧ B₁.locs = A₁.locs ++ [⟨a, fC.slot⟩, ⟨a, fV.slot⟩] ∧ B₁.cells = A₁.cells + 1 ∧ B₁.slots = A₁.slots + A.slots.size) :=
  (law l a D fV fC b A z).pays htab hfr (by omega)
end New1
end StrChars
namespace StrChars.Road
open Jvm Sem ClassFile Op Lib Jvm.Stand Jvm.Free Jvm.Free.XT
open Jvm.Lib.Cold (StaticIs)
abbrev ST : String := "java/lang/String"
/-- every table word that New1's law asks, flat -/
abbrev words : List Jvm.Cond := [.code New1.yN New1.yB 2 none, .initialized ST, .methodLink ST 27 New4.yN, .instanceMethod New4.yN,
  .code New4.yN New4.yB 6 none, .fieldLink ST 38 ST "COMPACT_STRINGS" "Z", .laysFinal ST ST "value" "[B", .fieldLink ST 9 ST "value" "[B", .laysFinal ST ST "coder" "B", .fieldLink ST 15 ST "coder" "B",
  .methodLink ST 1 Lib.objectInit, .instanceMethod Lib.objectInit, .code Lib.objectInit ⟨#[0xb1]⟩ 1 none, .methodLink ST 177 Cmp3.yN, .static Cmp3.yN, .methodLink ST 47 CodL.yN, .static CodL.yN,
  .code Cmp3.yN Cmp3.yB 6 (some (.array .byte)), .initialized U16, .arrayClass .byte, .methodLink U16 115 Cmp5.yN, .static Cmp5.yN, .code Cmp5.yN Cmp5.yB 7 (some .int), .code CodL.yN CodL.yB 2 (some .byte)]
theorem tab_of {a : Array Value} {s : State} (h : ∀ w ∈ words, w.before a s = true) : New1.tab.before a s = true := by
  have h5 : Cmp5.tab.before a s = true := unparts (wk h (.code Cmp5.yN Cmp5.yB 7 (some .int))) (wks h (.initialized Cmp5.yN.cls :: Cmp5.site))
  have hc : CodL.tab.before a s = true := unparts (wk h (.code CodL.yN CodL.yB 2 (some .byte))) (wks h (.initialized CodL.yN.cls :: CodL.site))
  have q5 : ∀ w ∈ Cmp5.tab :: words, w.before a s = true := fun w hw => (List.mem_cons.mp hw).elim (fun e => e ▸ h5) (h w)
  have h3 : Cmp3.tab.before a s = true := unparts (wk q5 (.code Cmp3.yN Cmp3.yB 6 (some (.array .byte)))) (wks q5 (.initialized Cmp3.yN.cls :: Cmp3.site))
  have q3 : ∀ w ∈ Cmp3.tab :: CodL.tab :: words, w.before a s = true := fun w hw => (List.mem_cons.mp hw).elim (fun e => e ▸ h3) fun hw => (List.mem_cons.mp hw).elim (fun e => e ▸ hc) (h w)
  have h4 : New4.tab.before a s = true := unparts (wk q3 (.code New4.yN New4.yB 6 none)) (wks q3 (.initialized New4.yN.cls :: New4.site))
  have q4 : ∀ w ∈ New4.tab :: words, w.before a s = true := fun w hw => (List.mem_cons.mp hw).elim (fun e => e ▸ h4) (h w)
  exact unparts (wk q4 (.code New1.yN New1.yB 2 none)) (wks q4 (.initialized New1.yN.cls :: New1.site))
/-- the words ride from the start Z to the walk's own state -/
theorem moved {Z s : State} {a0 args : Array Value} (hZ : Z.Warmed39 s.vm) (hw : ∀ d ∈ words, d.before a0 Z = true) : ∀ d ∈ words, d.before args s = true := fun d hd => by
  have q := hw d hd
  have t : ∀ d ∈ words, d = .arrayClass .byte ∨ (d.onTables && d.keepsFace) = true := by decide +kernel
  rcases t d hd with rfl | t
  · exact RoadKit.mvA hZ q
  · exact RoadKit.mv hZ q t
/-- WHAT COMES BACK, over the tables of the start Z: h the heap at the call, h' behind it -/
def Q (Z : State) (x : Addr) (A : Cell) (h : Heap) (v : Option Value) (h' : Heap) (L : List Loc) : Prop := v = none ∧ (∀ y ∈ L, y.base = x) ∧ RoadKit.Keep h h' [x] ∧ h'.size = h.size + 1 ∧ RoadKit.Exa Z h' x ST ∧ RoadKit.Fld Z h' x ST "value" "[B" (.ref h.size) ∧ RoadKit.Fld Z h' x ST "coder" "B" (.int 0) ∧
  (∃ V : Cell, RoadKit.Arr Z h' h.size V .byte ∧ V.vm = .none ∧ Z.vm.findClass "[B" = some V.cls ∧ V.slots.size = A.slots.size ∧ ∀ j, j < A.slots.size → V.slots[j]? = some (.int (lo8 (cv A j)))) ∧
  ∀ (O n d : String) (w : Value), RoadKit.Fld Z h x O n d w → RoadKit.slotOf Z O n d ≠ RoadKit.slotOf Z ST "value" "[B" → RoadKit.slotOf Z O n d ≠ RoadKit.slotOf Z ST "coder" "B" → RoadKit.Fld Z h' x O n d w
/-- **new String(chars) AT A CALL, IN THE ROAD'S FORM**: for specialBack behind newO: x the fresh String, b the char[] with the cell A -/
theorem back {p : Program} {l : Launch} {e : Env} {R : Room} {s : State} {args : Array Value} {below : List Frame} {len W : Nat} {Z : State} {a0 : Array Value} {h : Heap} (hZ : Z.Warmed39 s.vm) (hw : ∀ d ∈ words, d.before a0 Z = true) {kI : Nat} (wi : (Jvm.Cond.instantiable ST kI).before a0 Z = true)
    {x b : Addr} {A : Cell} {z : Int32} {v0 c0 : Value} (E : RoadKit.Exa Z h x ST) (V : RoadKit.Fld Z h x ST "value" "[B" v0) (C : RoadKit.Fld Z h x ST "coder" "B" c0) (K : RoadKit.Arr Z h b A .char) (hty : Typed .char A) (S : RoadKit.Sta Z h ST "COMPACT_STRINGS" "Z" (.int z)) (hz : ¬ z = 0)
    (l0 : 0 < A.slots.size) (l2 : A.slots.size ≤ 536870912) (hp : ∀ i, i < A.slots.size → ¬ 255 < cv A i) (hfr : 4 ≤ R.frames) (hlo : W + 65 ≤ R.locals) :
    Back l R p e below s args New1.yN len W (fun P a => a = #[.ref x, .ref b] ∧ P.U.heap = h ∧ P.cells + 1 ≤ R.cells ∧ P.slots + A.slots.size ≤ R.slots)
      (fun P _ v B => ∃ L, Q Z x A h v B.U.heap L ∧ B.locs = P.locs ++ L ∧ B.cells = P.cells + 1 ∧ B.slots = P.slots + A.slots.size) := by
  intro m meth c P g ig mk a X hg hsize hdg hW hn hp'
  obtain ⟨rfl, rfl, r1, r2⟩ := hp'
  have al : Z.vm.Alike P.U.vm := hZ.alike.trans X.warmed.alike
  obtain ⟨D, cfV, kV, iV, fV, hD, gV, stV, knV, obV, asV, slV⟩ := id V
  obtain ⟨D', cfC, kC, iC, fC, hD', gC, stC, -, -, asC, slC⟩ := id C
  cases hD.symm.trans hD'
  obtain ⟨D2, kD, e1, e2, e3, e4, e5⟩ := id E
  cases hD.symm.trans e1
  obtain ⟨c2, k2, i1, i2, i3, -⟩ := Cond.instantiable_spec wi
  cases e2.symm.trans i1
  cases e3.symm.trans i2
  obtain ⟨kU, u1, u2⟩ := al.2.2 _ _ e3
  have hB : Blank ST x D P.U := ⟨hD, ⟨knV, fun q hq => by rw [hq] at obV; cases obV⟩, by rw [al.findClass]; exact e2, kU, u1, by rw [u2]; exact i3, by rw [u2]; exact e5 i3⟩
  have F1 : Found ST "value" "[B" fV P.U := ⟨SBG.found_only al ⟨cfV, kV, iV, gV⟩, stV⟩
  have F2 : Found ST "coder" "B" fC P.U := ⟨SBG.found_only al ⟨cfC, kC, iC, gC⟩, stC⟩
  have hA : Ch b A P.U := ⟨⟨K.1, State.isArrayOf_alike al K.2.1, K.2.2, by omega⟩, hty⟩
  have hS : StaticIs P.U ST "COMPACT_STRINGS" "Z" (.int z) := by
    obtain ⟨cfS, iS, kS, fS, st, cS, t1, t2, t3, t4, t5, t6, t7⟩ := S
    exact StaticIs.there (s := { Z with heap := P.U.heap }) ⟨cfS, iS, kS, fS, st, cS, t1, t2, t3, t4, t5, (fun q => by rw [q] at t6; cases t6), t7⟩ al rfl
  obtain ⟨v, B, X', ⟨⟨hv, E', V', q1, q2, q3, q4, q5, q6, q7, q8, q9, q10, q11⟩, hl, hc, hs⟩, st⟩ := New1.pays x D fV fC b A z (tab_of (moved hZ hw)) hfr hlo m meth c P g ig mk _ X hg hsize hdg hW hn ⟨r1, r2, rfl, hB, F1, F2, hA, hS, hz, l0, l2, hp⟩
  have al' : Z.vm.Alike B.U.vm := hZ.alike.trans X'.warmed.alike
  have hsz : E'.slots.size = D.slots.size := by
    obtain ⟨-, -, -, kB, w1, w2, w3⟩ := q1
    obtain ⟨kB', y1, y2⟩ := al'.2.2 _ _ e3
    rw [q2.2.1] at w1
    cases w1.symm.trans y1
    rw [w3, e5 i3, y2]
  refine ⟨v, B, X', ⟨_, ⟨hv, ?_, ⟨by omega, fun y cy hy hn' => q10 y cy (by simpa using hn') hy, fun y cy hy => ?_⟩, q11, ⟨E', _, q1.1, by rw [q2.2.1]; exact e2, by rw [q2.2.1]; exact e3, by rw [q2.1]; exact obV, fun _ => by rw [hsz]; exact e5 i3⟩,
    ⟨E', cfV, kV, iV, fV, q1.1, gV, stV, by rw [q2.1]; exact knV, by rw [q2.1]; exact obV, by rw [q2.2.1]; exact asV, q3⟩, ⟨E', cfC, kC, iC, fC, q1.1, gC, stC, by rw [q2.1]; exact knV, by rw [q2.1]; exact obV, by rw [q2.2.1]; exact asC, q4⟩,
    ⟨V', ⟨q5.1, State.isArrayOf_alike al'.symm q5.2.1, q5.2.2.1⟩, q6, by rw [← al'.findClass]; exact q7, q8, fun j hj => by have := q9 j hj; rwa [Nat.zero_add] at this⟩, fun O n d w F n1 n2 => ?_⟩, hl, hc, hs⟩, st⟩
  · intro y hy
    simp only [List.mem_cons, List.not_mem_nil, or_false] at hy
    rcases hy with rfl | rfl <;> rfl
  · by_cases q : y = x
    · subst q
      cases hD.symm.trans hy
      exact ⟨E', q1.1, q2.2.1, q2.1, hsz⟩
    · exact ⟨cy, q10 y cy q hy, rfl, rfl, rfl⟩
  · obtain ⟨D3, cf, k, i, f, g1, g2, g3, g4, g5, g6, g7⟩ := F
    cases hD.symm.trans g1
    simp only [RoadKit.slotOf, g2, gV, gC, Option.map_some, Option.getD_some] at n1 n2
    exact ⟨E', cf, k, i, f, q1.1, g2, g3, by rw [q2.1]; exact g4, by rw [q2.1]; exact g5, by rw [q2.2.1]; exact g6, by rw [q2.2.2 f.slot (by simp [n1, n2])]; exact g7⟩
end StrChars.Road
namespace StrChars.Road
open Jvm Sem ClassFile Op Lib Jvm.Stand Jvm.Free Jvm.Free.XT
/-- WHAT COMES BACK, the byte[] as a list of values -/
def QA (Z : State) (x : Addr) (zn : Int32) (cs : List Int32) (h : Heap) (v : Option Value) (h' : Heap) (L : List Loc) : Prop := v = none ∧ (∀ y ∈ L, y.base = x) ∧ RoadKit.Keep h h' [x] ∧ h'.size = h.size + 1 ∧ RoadKit.Exa Z h' x ST ∧ RoadKit.Fld Z h' x ST "value" "[B" (.ref h.size) ∧ RoadKit.Fld Z h' x ST "coder" "B" (.int 0) ∧
  (∃ kb, Z.vm.findClass "[B" = some kb ∧ RoadKit.Arv Z h' h.size kb .byte zn (cs.map fun c => .int (lo8 c)) (.int 0)) ∧
  ∀ (O n d : String) (w : Value), RoadKit.Fld Z h x O n d w → RoadKit.slotOf Z O n d ≠ RoadKit.slotOf Z ST "value" "[B" → RoadKit.slotOf Z O n d ≠ RoadKit.slotOf Z ST "coder" "B" → RoadKit.Fld Z h' x O n d w
/-- **new String(chars) AT A CALL, THE ARRAYS AS LISTS**: the char[] at b holds cs, not empty, no char above 255 -/
theorem backArv {p : Program} {l : Launch} {e : Env} {R : Room} {s : State} {args : Array Value} {below : List Frame} {len W : Nat} {Z : State} {a0 : Array Value} {h : Heap} (hZ : Z.Warmed39 s.vm) (hw : ∀ d ∈ words, d.before a0 Z = true) {kI : Nat} (wi : (Jvm.Cond.instantiable ST kI).before a0 Z = true)
    {x b : Addr} {k : ClassId} {zn z : Int32} {cs : List Int32} {dv v0 c0 : Value} (E : RoadKit.Exa Z h x ST) (V : RoadKit.Fld Z h x ST "value" "[B" v0) (C : RoadKit.Fld Z h x ST "coder" "B" c0) (K : RoadKit.Arv Z h b k .char zn (cs.map Value.int) dv) (S : RoadKit.Sta Z h ST "COMPACT_STRINGS" "Z" (.int z)) (hz : ¬ z = 0)
    (hlen : zn.toNatClampNeg = cs.length) (h0 : 0 < cs.length) (hbig : cs.length ≤ 536870912) (hall : ∀ c ∈ cs, ¬ 255 < c) (hfr : 4 ≤ R.frames) (hlo : W + 65 ≤ R.locals) :
    Back l R p e below s args New1.yN len W (fun P a => a = #[.ref x, .ref b] ∧ P.U.heap = h ∧ P.cells + 1 ≤ R.cells ∧ P.slots + cs.length ≤ R.slots)
      (fun P _ v B => ∃ L, QA Z x zn cs h v B.U.heap L ∧ B.locs = P.locs ++ L ∧ B.cells = P.cells + 1 ∧ B.slots = P.slots + cs.length) := by
  obtain ⟨A, K1, K2, K3, K4, K5, K6⟩ := K
  have e : A.slots.size = cs.length := K3.trans hlen
  have hat : ∀ (i : Nat) (hi : i < cs.length), A.slots[i]? = some (.int cs[i]) := fun i hi => by rw [K5 i (by omega)]; simp [List.getD_eq_getElem?_getD, hi]
  have hcv : ∀ (i : Nat) (hi : i < cs.length), cv A i = cs[i] := fun i hi => by unfold cv; rw [hat i hi]
  have hty : Typed .char A := fun i v hv => by
    have hi : i < A.slots.size := (Array.getElem?_eq_some_iff.mp hv).1
    have q := K5 i hi
    rw [hv] at q
    rw [Option.some.inj q]
    exact K6 i hi
  refine Back.mono (back hZ hw wi E V C K1 hty S hz (by omega) (by omega) (fun i hi => by rw [hcv i (by omega)]; exact hall _ (List.getElem_mem _)) hfr hlo) (fun P a hp => ⟨hp.1, hp.2.1, hp.2.2.1, by rw [e]; exact hp.2.2.2⟩) (fun P a v B hp hq => ?_)
  obtain ⟨L, ⟨q1, q2, q3, q4, q5, q6, q7, ⟨V', v1, v2, v3, v4, v5⟩, q9⟩, hl, hc, hs⟩ := hq
  refine ⟨L, ⟨q1, q2, q3, q4, q5, q6, q7, ⟨V'.cls, v3, V', v1, rfl, by rw [v4, e, hlen], K4, fun i hi => ?_, fun i hi => ?_⟩, q9⟩, hl, hc, by rw [hs, e]⟩
  · have hi' : i < cs.length := by omega
    rw [v5 i (by omega), hcv i hi']; simp [List.getD_eq_getElem?_getD, hi']
  · have hi' : i < cs.length := by omega
    simp only [List.getD_eq_getElem?_getD, List.getElem?_map, List.getElem?_eq_getElem hi', Option.map_some, Option.getD_some]
    exact fits_lo8 _
end StrChars.Road
namespace StrChars.Road
open Jvm Sem ClassFile Op Lib Jvm.Stand Jvm.Free Jvm.Free.XT
/-- WHAT COMES BACK, in the writer's own shape -/
def QV (Z : State) (x : Addr) (N : Int32) (bs : List Int32) (h : Heap) (n0 : Nat) (v : Option Value) (h' : Heap) (L : List Loc) : Prop := v = none ∧ RoadKit.Fr n0 L ∧ RoadKit.Keep h h' [x] ∧ RoadKit.Exa Z h' x ST ∧ RoadKit.Fld Z h' x ST "coder" "B" (.int 0) ∧
  ∃ (t : Addr) (kb : ClassId), n0 ≤ t ∧ h.size ≤ t ∧ ¬ t = x ∧ RoadKit.Fld Z h' x ST "value" "[B" (.ref t) ∧ RoadKit.Arv Z h' t kb .byte N (bs.map Value.int) (.int 0)
/-- **new String(chars) AT A CALL, FOR THE WRITER**: a char[] of n known ints, each 0 to 255 -/
theorem backV {p : Program} {l : Launch} {e : Env} {R : Room} {s : State} {args : Array Value} {below : List Frame} {len W : Nat} {Z : State} {a0 : Array Value} {h : Heap} (hZ : Z.Warmed39 s.vm) (hw : ∀ d ∈ words, d.before a0 Z = true) {kI : Nat} (wi : (Jvm.Cond.instantiable ST kI).before a0 Z = true)
    {x b : Addr} {kC : ClassId} {cs bs : List Int32} {d v0 c0 : Value} {z N : Int32} {n n0 : Nat} (hx0 : n0 ≤ x) (hh0 : n0 ≤ h.size) (E : RoadKit.Exa Z h x ST) (V : RoadKit.Fld Z h x ST "value" "[B" v0) (C : RoadKit.Fld Z h x ST "coder" "B" c0) (K : RoadKit.Arv Z h b kC .char N (cs.map Value.int) d) (S : RoadKit.Sta Z h ST "COMPACT_STRINGS" "Z" (.int z)) (hz : ¬ z = 0)
    (hn : cs.length = n) (hN : N = Int32.ofNat n) (l0 : 0 < n) (l2 : n ≤ 4000) (hp : ∀ c ∈ cs, ¬ c < 0 ∧ ¬ (255 : Int32) < c) (hb : bs = cs.map (fun c => c.toInt8.toInt32)) (hfr : 4 ≤ R.frames) (hlo : W + 65 ≤ R.locals) :
    Back l R p e below s args (⟨"java/lang/String", "<init>", "([C)V"⟩ : MethodName) len W (fun P a => a = #[.ref x, .ref b] ∧ P.U.heap = h ∧ P.cells + 1 ≤ R.cells ∧ P.slots + n ≤ R.slots)
      (fun P _ v B => ∃ L, QV Z x N bs h n0 v B.U.heap L ∧ B.locs = P.locs ++ L ∧ B.cells = P.cells + 1 ∧ B.slots = P.slots + n) := by
  subst hn hN hb
  refine Back.mono (backArv hZ hw wi E V C K S hz (n32 (by omega)) l0 (by omega) (fun c hc => (hp c hc).2) hfr hlo) (fun P a hp => hp) (fun P a v B hp hq => ?_)
  obtain ⟨L, ⟨q1, q2, q3, q4, q5, q6, q7, ⟨kb, v1, v2⟩, q9⟩, hl, hc, hs⟩ := hq
  exact ⟨L, ⟨q1, fun y hy => by rw [q2 y hy]; exact hx0, q3, q5, q7, h.size, kb, hh0, Nat.le_refl _, Nat.ne_of_gt E.lt, q6, by rw [List.map_map]; exact v2⟩, hl, hc, hs⟩
end StrChars.Road
end Jvm.Pilot.@@N@@

namespace Jvm.Pilot.@@N@@
open Jvm Jvm.ClassFile Sem Op Lib Jvm.Free Jvm.Stand Jvm.LawKit Jvm.RoadKit Bundle Jvm.Pilot.@@N@@.Jvm.D
theorem own_sta_keep0 {Z : State} {h h' : Heap} {C n d : String} {v : Value} (F : Sta Z h C n d v) (K : Keep h h' []) : Sta Z h' C n d v := by
  obtain ⟨cf, i, k, f, st, cell, h1, h2, h3, h4, h5, h6, h7⟩ := F
  exact ⟨cf, i, k, f, st, cell, h1, h2, h3, h4, K.2.1 _ _ h5 nin0, h6, h7⟩
theorem own_sta_keep1 {Z : State} {h h' : Heap} {C n d C' : String} {v : Value} {a : Addr} (F : Sta Z h C n d v) (K : Keep h h' [a]) (E : Exa Z h a C') : Sta Z h' C n d v := by
  obtain ⟨cf, i, k, f, st, cell, h1, h2, h3, h4, h5, h6, h7⟩ := F
  obtain ⟨ce, ke, g1, g2, g3, g4, g5⟩ := E
  refine ⟨cf, i, k, f, st, cell, h1, h2, h3, h4, K.2.1 _ _ h5 (ninS (fun q => ?_) nin0), h6, h7⟩
  subst q
  cases h5.symm.trans g1
  rw [h6] at g4; cases g4
def Rar (Z : State) (h : Heap) (a : Addr) (k : ClassId) (ty : FieldType) (z : Int32) (f : Nat → Value) : Prop := ∃ c : Cell, Arr Z h a c ty ∧ c.cls = k ∧ c.slots.size = z.toNatClampNeg ∧ ¬ z < 0 ∧ ∀ i, i < c.slots.size → c.slots[i]? = some (f i)
theorem Rar.lt {Z : State} {h : Heap} {a : Addr} {k : ClassId} {ty : FieldType} {z : Int32} {f : Nat → Value} (F : Rar Z h a k ty z f) : a < h.size := by
  obtain ⟨c, A, -⟩ := F; exact A.lt
theorem Rar.ext {Z : State} {h h' : Heap} {a : Addr} {k : ClassId} {ty : FieldType} {z : Int32} {f : Nat → Value} (F : Rar Z h a k ty z f) (E : Ext h h') : Rar Z h' a k ty z f := by
  obtain ⟨c, A, r⟩ := F; exact ⟨c, Arr.ext E A, r⟩
theorem Rar.other {Z : State} {h h' : Heap} {a b : Addr} {k : ClassId} {ty : FieldType} {z : Int32} {f : Nat → Value} {sl : Nat} {v : Value} (F : Rar Z h a k ty z f) (W : Wr h h' b sl v) (q : a ≠ b) : Rar Z h' a k ty z f := by
  obtain ⟨c, A, r⟩ := F; exact ⟨c, Arr.other W A q, r⟩
theorem Rar.keep {Z : State} {h h' : Heap} {a : Addr} {k : ClassId} {ty : FieldType} {z : Int32} {f : Nat → Value} {ws : List Addr} (F : Rar Z h a k ty z f) (K : Keep h h' ws) (q : a ∉ ws) : Rar Z h' a k ty z f := by
  obtain ⟨c, A, r⟩ := F; exact ⟨c, ⟨K.2.1 _ _ A.1 q, A.2⟩, r⟩
theorem Rar.new {Z : State} {h : Heap} {a : Addr} {k : ClassId} {C : String} {z : Int32} (A : Arr Z h a (newA k (.object C) z) (.object C)) (q : ¬ z < 0) : Rar Z h a k (.object C) z (fun _ => .null) := by
  obtain ⟨c, A', q1, q2, q3, H, -⟩ := Arv.new A q
  exact ⟨c, A', q1, q2, q3, fun i hi => H i hi⟩
theorem Rar.set {Z : State} {h h' : Heap} {a : Addr} {k : ClassId} {ty : FieldType} {z j : Int32} {f : Nat → Value} {c : Cell} {x : Value} (A : Arr Z h a c ty) (q1 : c.cls = k) (S : c.slots.size = z.toNatClampNeg) (q3 : ¬ z < 0) (H : ∀ i, i < c.slots.size → c.slots[i]? = some (f i)) (W : Wr h h' a j.toNatClampNeg x) : Rar Z h' a k ty z (fun i => if i = j.toNatClampNeg then x else f i) := by
  refine ⟨c.setSlot j.toNatClampNeg x, Arr.same W A, q1, (sz_set _ _ _).trans S, q3, fun i hi => ?_⟩
  rw [sz_set] at hi
  have hs : (c.setSlot j.toNatClampNeg x).slots = c.slots.setIfInBounds j.toNatClampNeg x := rfl
  rw [hs, Array.getElem?_setIfInBounds]
  by_cases e : j.toNatClampNeg = i
  · subst e; simp [hi]
  · rw [if_neg e]
    show c.slots[i]? = some (if i = j.toNatClampNeg then x else f i)
    rw [if_neg (fun q => e q.symm)]; exact H i hi
theorem own_narrow_ref {C : String} {v : Value} (h : v.isRef = true) : narrow (.object C) v = v := by cases v <;> first | rfl | cases h
theorem own_fits_ref {C : String} {v : Value} (h : v.isRef = true) : fits (.object C) v = true := by cases v <;> first | rfl | cases h
def Bar (Z : State) (h : Heap) (a : Addr) (k : ClassId) (z : Int32) (f : Nat → Int32) : Prop := ∃ c : Cell, Arr Z h a c .byte ∧ c.cls = k ∧ c.slots.size = z.toNatClampNeg ∧ ¬ z < 0 ∧ ∀ i, i < c.slots.size → c.slots[i]? = some (.int (f i)) ∧ fits .byte (.int (f i)) = true
theorem Bar.lt {Z : State} {h : Heap} {a : Addr} {k : ClassId} {z : Int32} {f : Nat → Int32} (F : Bar Z h a k z f) : a < h.size := by
  obtain ⟨c, A, -⟩ := F; exact A.lt
theorem Bar.ext {Z : State} {h h' : Heap} {a : Addr} {k : ClassId} {z : Int32} {f : Nat → Int32} (F : Bar Z h a k z f) (E : Ext h h') : Bar Z h' a k z f := by
  obtain ⟨c, A, r⟩ := F; exact ⟨c, Arr.ext E A, r⟩
theorem Bar.other {Z : State} {h h' : Heap} {a b : Addr} {k : ClassId} {z : Int32} {f : Nat → Int32} {sl : Nat} {v : Value} (F : Bar Z h a k z f) (W : Wr h h' b sl v) (q : a ≠ b) : Bar Z h' a k z f := by
  obtain ⟨c, A, r⟩ := F; exact ⟨c, Arr.other W A q, r⟩
theorem Bar.keep {Z : State} {h h' : Heap} {a : Addr} {k : ClassId} {z : Int32} {f : Nat → Int32} {ws : List Addr} (F : Bar Z h a k z f) (K : Keep h h' ws) (q : a ∉ ws) : Bar Z h' a k z f := by
  obtain ⟨c, A, r⟩ := F; exact ⟨c, ⟨K.2.1 _ _ A.1 q, A.2⟩, r⟩
theorem Bar.new {Z : State} {h : Heap} {a : Addr} {k : ClassId} {z : Int32} (A : Arr Z h a (newA k .byte z) .byte) (q : ¬ z < 0) : Bar Z h a k z (fun _ => (0 : Int32)) := by
  obtain ⟨c, A', q1, q2, q3, H, -⟩ := Arv.new A q
  exact ⟨c, A', q1, q2, q3, fun i hi => ⟨H i hi, (by decide : fits .byte (.int (0 : Int32)) = true)⟩⟩
theorem Bar.set {Z : State} {h h' : Heap} {a : Addr} {k : ClassId} {z j : Int32} {f : Nat → Int32} {c : Cell} {x : Int32} (A : Arr Z h a c .byte) (q1 : c.cls = k) (S : c.slots.size = z.toNatClampNeg) (q3 : ¬ z < 0) (H : ∀ i, i < c.slots.size → c.slots[i]? = some (.int (f i)) ∧ fits .byte (.int (f i)) = true) (W : Wr h h' a j.toNatClampNeg (.int (nar .byte x))) : Bar Z h' a k z (fun i => if i = j.toNatClampNeg then (nar .byte x) else f i) := by
  refine ⟨c.setSlot j.toNatClampNeg (.int (nar .byte x)), Arr.same W A, q1, (sz_set _ _ _).trans S, q3, fun i hi => ?_⟩
  rw [sz_set] at hi
  have hs : (c.setSlot j.toNatClampNeg (.int (nar .byte x))).slots = c.slots.setIfInBounds j.toNatClampNeg (.int (nar .byte x)) := rfl
  rw [hs, Array.getElem?_setIfInBounds]
  by_cases e : j.toNatClampNeg = i
  · subst e
    rw [if_pos rfl, if_pos hi]
    show some _ = some (Value.int (if j.toNatClampNeg = j.toNatClampNeg then nar .byte x else f j.toNatClampNeg)) ∧ fits .byte (.int (if j.toNatClampNeg = j.toNatClampNeg then nar .byte x else f j.toNatClampNeg)) = true
    rw [if_pos rfl]
    exact ⟨rfl, fits_nar_byte x⟩
  · rw [if_neg e]
    show c.slots[i]? = some (.int (if i = j.toNatClampNeg then nar .byte x else f i)) ∧ fits .byte (.int (if i = j.toNatClampNeg then nar .byte x else f i)) = true
    rw [if_neg (fun q => e q.symm)]
    exact H i hi
theorem Bar.cg {Z : State} {h : Heap} {a : Addr} {k : ClassId} {z : Int32} {f g : Nat → Int32} (F : Bar Z h a k z f) (e : ∀ i, i < z.toNatClampNeg → f i = g i) : Bar Z h a k z g := by
  obtain ⟨c, A, q1, q2, q3, H⟩ := F
  refine ⟨c, A, q1, q2, q3, fun i hi => ?_⟩
  rw [← e i (by rw [q2] at hi; exact hi)]
  exact H i hi
theorem Bar.arv {Z : State} {h : Heap} {a : Addr} {k : ClassId} {z : Int32} {f : Nat → Int32} (F : Bar Z h a k z f) : Arv Z h a k .byte z ((List.range z.toNatClampNeg).map fun i => Value.int (f i)) (.int (0 : Int32)) := by
  obtain ⟨c, A, q1, q2, q3, H⟩ := F
  have g : ∀ i, i < c.slots.size → ((List.range z.toNatClampNeg).map fun i => Value.int (f i)).getD i (.int (0 : Int32)) = .int (f i) := fun i hi => by
    rw [q2] at hi
    simp [List.getD_eq_getElem?_getD, hi]
  exact ⟨c, A, q1, q2, q3, fun i hi => by rw [g i hi]; exact (H i hi).1, fun i hi => by rw [g i hi]; exact (H i hi).2⟩
theorem Bar.of {Z : State} {h : Heap} {a : Addr} {k : ClassId} {z : Int32} {vs : List Value} {d : Value} {f : Nat → Int32} (F : Arv Z h a k .byte z vs d) (g : ∀ i, i < z.toNatClampNeg → vs.getD i d = .int (f i)) : Bar Z h a k z f := by
  obtain ⟨c, A, q1, q2, q3, H, G⟩ := F
  refine ⟨c, A, q1, q2, q3, fun i hi => ?_⟩
  have e := g i (by rw [q2] at hi; exact hi)
  exact ⟨by rw [← e]; exact H i hi, by rw [← e]; exact G i hi⟩
theorem own_selpriv {s : State} {args : Array Value} {y y' : MethodName} (hcls : y'.cls = y.cls) (h : (Cond.selects y'.cls y' y').before args s = true) (hpriv : s.PrivateAt y) (hinst : (Cond.instanceMethod y).before args s = true) (hy : y.cls ≠ "java/lang/invoke/MethodHandle" ∧ y.cls ≠ "java/lang/invoke/VarHandle") : (Cond.selects y.cls y y).before args s = true := by
  obtain ⟨c2, r2, m2, -, -, q3, -, kP, hkP, hkPi⟩ := Cond.selects_spec h
  have hc := findClass_of_methodNamed q3
  rw [hcls] at hc
  exact selects_self_of_private hc hkP hkPi hpriv hinst hy
theorem pf_0 : plainFor (⟨"java/lang/Math", "max", "(II)I"⟩ : MethodName) = true := Jvm.Free.JP.mathPlain rfl (by decide)
theorem pf_1 : plainFor (⟨"java/lang/Math", "min", "(II)I"⟩ : MethodName) = true := Jvm.Free.JP.mathPlain rfl (by decide)
theorem pn_0 : plainName "java/util/Arrays" = true := by first | (simp [plainName, overriddenIn]; done) | decide +kernel
theorem pn_1 : plainName "java/util/AbstractMap" = true := by first | (simp [plainName, overriddenIn]; done) | decide +kernel
theorem pn_2 : plainName "java/util/HashMap" = true := by first | (simp [plainName, overriddenIn]; done) | decide +kernel
theorem pn_3 : plainName "com/example/meterwright/meterwright/RecordBody$Writer" = true := by first | (simp [plainName, overriddenIn]; done) | decide +kernel
theorem pn_4 : plainName "com/example/meterwright/meterwright/WriterToByteArrayPinLaw" = true := by first | (simp [plainName, overriddenIn]; done) | decide +kernel
theorem pn_5 : plainName "jdk/internal/util/ArraysSupport" = true := by first | (simp [plainName, overriddenIn]; done) | decide +kernel
theorem pn_6 : plainName "java/lang/StringCoding" = true := by first | (simp [plainName, overriddenIn]; done) | decide +kernel
theorem pn_7 : plainName "java/lang/String" = true := by first | (simp [plainName, overriddenIn]; done) | decide +kernel
theorem pn_8 : plainName "java/lang/StringLatin1" = true := by first | (simp [plainName, overriddenIn]; done) | decide +kernel
theorem pn_9 : plainName "java/lang/Integer" = true := by first | (simp [plainName, overriddenIn]; done) | decide +kernel
theorem pn_10 : plainName "java/util/HashMap$Node" = true := by first | (simp [plainName, overriddenIn]; done) | decide +kernel
theorem pd_0 : parseMethodDescriptor "(II)I" = some ⟨[.int, .int], some .int⟩ := by decide +kernel
theorem pd_1 : parseMethodDescriptor "()V" = some ⟨[], none⟩ := by decide +kernel
theorem pd_2 : parseMethodDescriptor "(I)V" = some ⟨[.int], none⟩ := by decide +kernel
theorem pd_3 : parseMethodDescriptor "(J)V" = some ⟨[.long], none⟩ := by decide +kernel
theorem pd_4 : parseMethodDescriptor "([BI)[B" = some ⟨[(.array .byte), .int], some (.array .byte)⟩ := by decide +kernel
theorem pd_5 : parseMethodDescriptor "([BII)I" = some ⟨[(.array .byte), .int, .int], some .int⟩ := by decide +kernel
theorem pd_6 : parseMethodDescriptor "([BII)Z" = some ⟨[(.array .byte), .int, .int], some .boolean⟩ := by decide +kernel
theorem pd_7 : parseMethodDescriptor "(B[BZ)[B" = some ⟨[.byte, (.array .byte), .boolean], some (.array .byte)⟩ := by decide +kernel
theorem pd_8 : parseMethodDescriptor "()B" = some ⟨[], some .byte⟩ := by decide +kernel
theorem pd_9 : parseMethodDescriptor "(Ljava/nio/charset/Charset;B[B)[B" = some ⟨[(.object "java/nio/charset/Charset"), .byte, (.array .byte)], some (.array .byte)⟩ := by decide +kernel
theorem pd_10 : parseMethodDescriptor "(I[BII)I" = some ⟨[.int, (.array .byte), .int, .int], some .int⟩ := by decide +kernel
theorem pd_11 : parseMethodDescriptor "(Ljava/lang/Object;IIII)I" = some ⟨[(.object "java/lang/Object"), .int, .int, .int, .int], some .int⟩ := by decide +kernel
theorem pd_12 : parseMethodDescriptor "()Z" = some ⟨[], some .boolean⟩ := by decide +kernel
theorem pd_13 : parseMethodDescriptor "([B)I" = some ⟨[(.array .byte)], some .int⟩ := by decide +kernel
theorem pd_14 : parseMethodDescriptor "()I" = some ⟨[], some .int⟩ := by decide +kernel
theorem pd_15 : parseMethodDescriptor "(Ljava/lang/Object;)Ljava/util/HashMap$Node;" = some ⟨[(.object "java/lang/Object")], some (.object "java/util/HashMap$Node")⟩ := by decide +kernel
theorem pd_16 : parseMethodDescriptor "(ILjava/lang/Object;Ljava/lang/Object;Ljava/util/HashMap$Node;)V" = some ⟨[.int, (.object "java/lang/Object"), (.object "java/lang/Object"), (.object "java/util/HashMap$Node")], none⟩ := by decide +kernel
theorem pd_17 : parseMethodDescriptor "()[Ljava/util/HashMap$Node;" = some ⟨[], some (.array (.object "java/util/HashMap$Node"))⟩ := by decide +kernel
theorem pd_18 : parseMethodDescriptor "(ILjava/lang/Object;Ljava/lang/Object;Ljava/util/HashMap$Node;)Ljava/util/HashMap$Node;" = some ⟨[.int, (.object "java/lang/Object"), (.object "java/lang/Object"), (.object "java/util/HashMap$Node")], some (.object "java/util/HashMap$Node")⟩ := by decide +kernel
theorem pd_19 : parseMethodDescriptor "(Z)V" = some ⟨[.boolean], none⟩ := by decide +kernel
theorem pd_20 : parseMethodDescriptor "(Ljava/lang/Object;)I" = some ⟨[(.object "java/lang/Object")], some .int⟩ := by decide +kernel
theorem pd_21 : parseMethodDescriptor "(ILjava/lang/Object;Ljava/lang/Object;ZZ)Ljava/lang/Object;" = some ⟨[.int, (.object "java/lang/Object"), (.object "java/lang/Object"), .boolean, .boolean], some (.object "java/lang/Object")⟩ := by decide +kernel
theorem pd_22 : parseMethodDescriptor "(Ljava/lang/Object;)Ljava/lang/Object;" = some ⟨[(.object "java/lang/Object")], some (.object "java/lang/Object")⟩ := by decide +kernel
theorem pd_23 : parseMethodDescriptor "(Ljava/nio/charset/Charset;)[B" = some ⟨[(.object "java/nio/charset/Charset")], some (.array .byte)⟩ := by decide +kernel
theorem pd_24 : parseMethodDescriptor "(I)Ljava/lang/Integer;" = some ⟨[.int], some (.object "java/lang/Integer")⟩ := by decide +kernel
theorem pd_25 : parseMethodDescriptor "(Ljava/lang/Object;Ljava/lang/Object;)Ljava/lang/Object;" = some ⟨[(.object "java/lang/Object"), (.object "java/lang/Object")], some (.object "java/lang/Object")⟩ := by decide +kernel
theorem pd_26 : parseMethodDescriptor "([C)V" = some ⟨[(.array .char)], none⟩ := by decide +kernel
theorem pd_27 : parseMethodDescriptor "(B)V" = some ⟨[.byte], none⟩ := by decide +kernel
theorem pd_28 : parseMethodDescriptor "()[B" = some ⟨[], some (.array .byte)⟩ := by decide +kernel
theorem pd_29 : parseMethodDescriptor "([BIJ)I" = some ⟨[(.array .byte), .int, .long], some .int⟩ := by decide +kernel
theorem pd_30 : parseMethodDescriptor "(Ljava/lang/String;)V" = some ⟨[(.object "java/lang/String")], none⟩ := by decide +kernel
theorem own_cpl (z n nn sp dp : Nat) (f g : Nat → Int32) (h1 : sp + nn ≤ z) (h2 : dp + nn ≤ n) (i : Nat) (hi : i < n) :
    ((((List.range n).map fun i => Value.int (g i)).take dp ++ ((List.range nn).map fun i => ((List.range z).map fun i => Value.int (f i)).getD (sp + i) (.int (0 : Int32))) ++ ((List.range n).map fun i => Value.int (g i)).drop (dp + nn))).getD i (.int (0 : Int32)) = .int (if dp ≤ i ∧ i < dp + nn then f (sp + (i - dp)) else g i) := by
  simp only [List.getD_eq_getElem?_getD]
  have l1 : (((List.range n).map fun i => Value.int (g i)).take dp).length = dp := by
    rw [List.length_take, List.length_map, List.length_range]; omega
  have l2 : ((List.range nn).map fun i => (((List.range z).map fun i => Value.int (f i))[sp + i]?).getD (.int (0 : Int32))).length = nn := by
    rw [List.length_map, List.length_range]
  by_cases c1 : i < dp
  · rw [if_neg (by omega), List.append_assoc, List.getElem?_append_left (by omega), List.getElem?_take, if_pos c1, List.getElem?_map, List.getElem?_range hi]
    rfl
  · by_cases c2 : i < dp + nn
    · rw [if_pos ⟨by omega, c2⟩, List.append_assoc, List.getElem?_append_right (by omega), l1, List.getElem?_append_left (by omega), List.getElem?_map, List.getElem?_range (by omega)]
      show (((List.range z).map fun i => Value.int (f i))[sp + (i - dp)]?).getD (.int (0 : Int32)) = _
      rw [List.getElem?_map, List.getElem?_range (by omega)]
      rfl
    · rw [if_neg (by omega), List.append_assoc, List.getElem?_append_right (by omega), l1, List.getElem?_append_right (by omega), l2, List.getElem?_drop, List.getElem?_map, List.getElem?_range (by omega)]
      show Value.int (g _) = _
      congr 2
      omega
def own_cp (z n : Int32) (f : Nat → Int32) (i : Nat) : Int32 := if i < z.toNatClampNeg ∧ i < n.toNatClampNeg then f i else 0
theorem own_rm (z q : Int32) (h0 : ¬ q < 0) (h : q.toInt + 10 ≤ z.toInt) : ¬ (z - q) < (10 : Int32) ∧ (¬ q < 0 ∧ q < z) ∧ (¬ (q + (1 : Int32)) < 0 ∧ (q + (1 : Int32)) < z) := by
  have l0 : (0 : Int32).toInt = 0 := by decide
  have l1 : (1 : Int32).toInt = 1 := by decide
  have l10 : (10 : Int32).toInt = 10 := by decide
  have r1 := rng32 z
  have r2 := rng32 (z - q)
  have r3 := rng32 (q + (1 : Int32))
  have a := c_isub z q
  have b := c_iadd q 1
  rw [l1] at b
  rw [Int32.lt_iff_toInt_lt, l0] at h0
  simp only [Int32.lt_iff_toInt_lt, l0, l10]
  omega
theorem own_small (v : Int64) (h0 : 0 ≤ v.toInt) (h : v.toInt < 128) : (v &&& (-128 : Int64)) = (0 : Int64) := by
  have e : v.toBitVec.toNat < 128 := by
    have : v.toInt = v.toBitVec.toInt := rfl
    rw [this, BitVec.toInt_eq_toNat_cond] at h h0
    have := v.toBitVec.isLt
    split at h <;> omega
  apply Int64.toBitVec_inj.mp
  rw [Int64.toBitVec_and]
  apply BitVec.eq_of_getLsbD_eq
  intro i hi
  rw [BitVec.getLsbD_and]
  have z : (0 : Int64).toBitVec.getLsbD i = false := by show (0#64).getLsbD i = false; simp
  rw [z]
  by_cases c : i < 7
  · have : (-128 : Int64).toBitVec.getLsbD i = false := by
      have : i = 0 ∨ i = 1 ∨ i = 2 ∨ i = 3 ∨ i = 4 ∨ i = 5 ∨ i = 6 := by omega
      rcases this with rfl | rfl | rfl | rfl | rfl | rfl | rfl <;> decide
    rw [this, Bool.and_false]
  · have : v.toBitVec.getLsbD i = false := by
      rw [BitVec.getLsbD]
      exact Nat.testBit_lt_two_pow (Nat.lt_of_lt_of_le e (by exact Nat.pow_le_pow_right (n := 2) (by decide) (show 7 ≤ i by omega)))
    rw [this, Bool.false_and]
theorem own_big (v : Int64) (h : 128 ≤ v.toInt) : ¬ (v &&& (-128 : Int64)) = (0 : Int64) := by
  intro q
  have e : 128 ≤ v.toBitVec.toNat := by
    have : v.toInt = v.toBitVec.toInt := rfl
    rw [this, BitVec.toInt_eq_toNat_cond] at h
    split at h <;> omega
  have s : v.toInt = (v &&& (127 : Int64)).toInt := by
    have : v = (v &&& (127 : Int64)) ||| (v &&& (-128 : Int64)) := by
      apply Int64.toBitVec_inj.mp
      rw [Int64.toBitVec_or, Int64.toBitVec_and, Int64.toBitVec_and, ← BitVec.and_or_distrib_left, show (127 : Int64).toBitVec ||| (-128 : Int64).toBitVec = BitVec.allOnes 64 by decide, BitVec.and_allOnes]
    rw [q, Int64.or_zero] at this
    exact congrArg Int64.toInt this
  have m := c_maskL v 127 7 (by decide) (by decide)
  omega
theorem own_shr (v : Int64) (h0 : 0 ≤ v.toInt) (h : v.toInt < 16384) : ((((v).toUInt64 >>> ((7 : Int32) &&& 0x3f).toInt64.toUInt64).toInt64) &&& (-128 : Int64)) = (0 : Int64) := by
  have e := c_lushr v 7 7 (by decide) (by decide)
  have e2 : ((2 ^ 7 : Nat) : Int) = 128 := by decide
  rw [e2] at e
  exact own_small _ (by rw [e]; omega) (by rw [e]; omega)
def own_w0 (q : Int32) (v : Int64) (f : Nat → Int32) : Nat → Int32 := (fun jj => if jj = (q).toNatClampNeg then (nar .byte ((((v).toInt32)).toInt8.toInt32)) else f jj)
def own_w1 (q : Int32) (v : Int64) (f : Nat → Int32) : Nat → Int32 := (fun jj => if jj = ((q + (1 : Int32))).toNatClampNeg then (nar .byte ((((((v).toUInt64 >>> ((7 : Int32) &&& 0x3f).toInt64.toUInt64).toInt64)).toInt32).toInt8.toInt32)) else (fun jj => if jj = (q).toNatClampNeg then (nar .byte ((((v ||| (128 : Int64))).toInt32).toInt8.toInt32)) else f jj) jj)
def own_i (kd : Int32) : Nat → Int32 := (fun jj => if jj = ((0 : Int32)).toNatClampNeg then (nar .byte kd) else (fun _ => (0 : Int32)) jj)
theorem own_inc (i : Int32) (h0 : 0 ≤ i.toInt) (h : i.toInt < 2147483647) : (i + (1 : Int32)).toInt = i.toInt + 1 := by
  have b := c_iadd i 1
  have r := rng32 (i + (1 : Int32))
  have l1 : (1 : Int32).toInt = 1 := by decide
  rw [l1] at b
  omega
theorem own_ib (i n : Int32) (h0 : 0 ≤ i.toInt) (h : i.toInt < n.toInt) : ¬ i < 0 ∧ i < n := by
  have l0 : (0 : Int32).toInt = 0 := by decide
  rw [Int32.lt_iff_toInt_lt, Int32.lt_iff_toInt_lt, l0]
  omega
theorem own_nf {s : State} {args : Array Value} {C : String} {x y z : MethodName} (h : (Cond.selects C x z).before args s = true) (e : z.cls = y.cls) : NotFace s y := fun r0 h0 => by
  obtain ⟨c2, r2, m2, q1, q2, q3, q4, kP, hkP, hkPi⟩ := Cond.selects_spec h
  have a := findClass_of_methodNamed h0
  have b := findClass_of_methodNamed q3
  rw [e, a] at b
  rw [Option.some.inj b]
  exact ⟨kP, hkP, hkPi⟩
theorem Bar.nostat {Z : State} {h : Heap} {a : Addr} {k : ClassId} {z : Int32} {f : Nat → Int32} (F : Bar Z h a k z f) : ∀ cell : Cell, h[a]? = some cell → cell.vm.isStatics = false := by
  obtain ⟨c, A, -⟩ := F; exact Arr.nostat A
def Cac (Z : State) (h : Heap) (a : Addr) (C : String) : Prop := ∃ c : Cell, Arr Z h a c (.object C) ∧ c.slots.size = 256 ∧ ∀ i, i < 256 → ∃ v, c.slots[i]? = some v ∧ v.isRef = true
theorem Cac.lt {Z : State} {h : Heap} {a : Addr} {C : String} (F : Cac Z h a C) : a < h.size := by
  obtain ⟨c, A, -⟩ := F; exact A.lt
theorem Cac.ext {Z : State} {h h' : Heap} {a : Addr} {C : String} (F : Cac Z h a C) (E : Ext h h') : Cac Z h' a C := by
  obtain ⟨c, A, r⟩ := F; exact ⟨c, Arr.ext E A, r⟩
theorem Cac.other {Z : State} {h h' : Heap} {a b : Addr} {C : String} {sl : Nat} {v : Value} (F : Cac Z h a C) (W : Wr h h' b sl v) (q : a ≠ b) : Cac Z h' a C := by
  obtain ⟨c, A, r⟩ := F; exact ⟨c, Arr.other W A q, r⟩
theorem Cac.keep {Z : State} {h h' : Heap} {a : Addr} {C : String} {ws : List Addr} (F : Cac Z h a C) (K : Keep h h' ws) (q : a ∉ ws) : Cac Z h' a C := by
  obtain ⟨c, A, r⟩ := F; exact ⟨c, ⟨K.2.1 _ _ A.1 q, A.2⟩, r⟩
theorem own_sta_keepL {Z : State} {h h' : Heap} {C n d : String} {v : Value} {ws : List Addr} (F : Sta Z h C n d v) (K : Keep h h' ws) (N : ∀ x ∈ ws, ∀ cell : Cell, h[x]? = some cell → cell.vm.isStatics = false) : Sta Z h' C n d v := by
  obtain ⟨cf, i, k, f, st, cell, h1, h2, h3, h4, h5, h6, h7⟩ := F
  refine ⟨cf, i, k, f, st, cell, h1, h2, h3, h4, K.2.1 _ _ h5 (fun q => ?_), h6, h7⟩
  rw [N _ q _ h5] at h6; cases h6
theorem own_cac {args : Array Value} {s : State} {t : Term} {a : Addr} {C : String} (hf : Fit s) (ev : t.eval args s none [] s = some (.ref a)) (ha : (Cond.arrayOf t (.object C)).value args s none s [] = some true) (hl : (Cond.eq (Term.length t) (Term.int (256 : Int32))).before args s = true) : Cac s s.heap a C := by
  obtain ⟨c, A⟩ := Arr.start ev ha
  have hl' := Cond.eq_int hl rfl
  have hat : s.arrayAt? a = some c := Arr.fin (State.Warmed39.refl s).alike A
  have h31 := SBG.length_lt ev hat hl'
  have e := len_f ev hat h31
  have e2 : c.slots.size.toInt32 = (256 : Int32) := by simpa using Option.some.inj (e.symm.trans hl')
  have e3 : c.slots.size = 256 := by
    have q := congrArg Int32.toInt e2
    rw [len_toInt h31, show (256 : Int32).toInt = 256 by decide] at q
    omega
  refine ⟨c, A, e3, fun i hi => ?_⟩
  have hj := idx_in (i := i) (n := c.slots.size) (by omega) h31
  obtain ⟨v, hv, hf'⟩ := elem_fit hf A hj
  have e4 : (Nat.toInt32 i).toNatClampNeg = i := by
    show (Nat.toInt32 i).toInt.toNat = i
    rw [len_toInt (by omega)]
    omega
  rw [e4] at hv
  exact ⟨v, hv, fit_R hf' rfl⟩
def Car (Z : State) (h : Heap) (a : Addr) (k : ClassId) (z : Int32) (f : Nat → Int32) : Prop := ∃ c : Cell, Arr Z h a c .char ∧ c.cls = k ∧ c.slots.size = z.toNatClampNeg ∧ ¬ z < 0 ∧ ∀ i, i < c.slots.size → c.slots[i]? = some (.int (f i)) ∧ fits .char (.int (f i)) = true
theorem Car.lt {Z : State} {h : Heap} {a : Addr} {k : ClassId} {z : Int32} {f : Nat → Int32} (F : Car Z h a k z f) : a < h.size := by
  obtain ⟨c, A, -⟩ := F; exact A.lt
theorem Car.ext {Z : State} {h h' : Heap} {a : Addr} {k : ClassId} {z : Int32} {f : Nat → Int32} (F : Car Z h a k z f) (E : Ext h h') : Car Z h' a k z f := by
  obtain ⟨c, A, r⟩ := F; exact ⟨c, Arr.ext E A, r⟩
theorem Car.other {Z : State} {h h' : Heap} {a b : Addr} {k : ClassId} {z : Int32} {f : Nat → Int32} {sl : Nat} {v : Value} (F : Car Z h a k z f) (W : Wr h h' b sl v) (q : a ≠ b) : Car Z h' a k z f := by
  obtain ⟨c, A, r⟩ := F; exact ⟨c, Arr.other W A q, r⟩
theorem Car.keep {Z : State} {h h' : Heap} {a : Addr} {k : ClassId} {z : Int32} {f : Nat → Int32} {ws : List Addr} (F : Car Z h a k z f) (K : Keep h h' ws) (q : a ∉ ws) : Car Z h' a k z f := by
  obtain ⟨c, A, r⟩ := F; exact ⟨c, ⟨K.2.1 _ _ A.1 q, A.2⟩, r⟩
theorem Car.new {Z : State} {h : Heap} {a : Addr} {k : ClassId} {z : Int32} (A : Arr Z h a (newA k .char z) .char) (q : ¬ z < 0) : Car Z h a k z (fun _ => (0 : Int32)) := by
  obtain ⟨c, A', q1, q2, q3, H, -⟩ := Arv.new A q
  exact ⟨c, A', q1, q2, q3, fun i hi => ⟨H i hi, (by decide : fits .char (.int (0 : Int32)) = true)⟩⟩
theorem Car.set {Z : State} {h h' : Heap} {a : Addr} {k : ClassId} {z j : Int32} {f : Nat → Int32} {c : Cell} {x : Int32} (A : Arr Z h a c .char) (q1 : c.cls = k) (S : c.slots.size = z.toNatClampNeg) (q3 : ¬ z < 0) (H : ∀ i, i < c.slots.size → c.slots[i]? = some (.int (f i)) ∧ fits .char (.int (f i)) = true) (W : Wr h h' a j.toNatClampNeg (.int (nar .char x))) : Car Z h' a k z (fun i => if i = j.toNatClampNeg then (nar .char x) else f i) := by
  refine ⟨c.setSlot j.toNatClampNeg (.int (nar .char x)), Arr.same W A, q1, (sz_set _ _ _).trans S, q3, fun i hi => ?_⟩
  rw [sz_set] at hi
  have hs : (c.setSlot j.toNatClampNeg (.int (nar .char x))).slots = c.slots.setIfInBounds j.toNatClampNeg (.int (nar .char x)) := rfl
  rw [hs, Array.getElem?_setIfInBounds]
  by_cases e : j.toNatClampNeg = i
  · subst e
    rw [if_pos rfl, if_pos hi]
    show some _ = some (Value.int (if j.toNatClampNeg = j.toNatClampNeg then nar .char x else f j.toNatClampNeg)) ∧ fits .char (.int (if j.toNatClampNeg = j.toNatClampNeg then nar .char x else f j.toNatClampNeg)) = true
    rw [if_pos rfl]
    exact ⟨rfl, fits_nar_char x⟩
  · rw [if_neg e]
    show c.slots[i]? = some (.int (if i = j.toNatClampNeg then nar .char x else f i)) ∧ fits .char (.int (if i = j.toNatClampNeg then nar .char x else f i)) = true
    rw [if_neg (fun q => e q.symm)]
    exact H i hi
theorem Car.cg {Z : State} {h : Heap} {a : Addr} {k : ClassId} {z : Int32} {f g : Nat → Int32} (F : Car Z h a k z f) (e : ∀ i, i < z.toNatClampNeg → f i = g i) : Car Z h a k z g := by
  obtain ⟨c, A, q1, q2, q3, H⟩ := F
  refine ⟨c, A, q1, q2, q3, fun i hi => ?_⟩
  rw [← e i (by rw [q2] at hi; exact hi)]
  exact H i hi
theorem Car.arv {Z : State} {h : Heap} {a : Addr} {k : ClassId} {z : Int32} {f : Nat → Int32} (F : Car Z h a k z f) : Arv Z h a k .char z ((List.range z.toNatClampNeg).map fun i => Value.int (f i)) (.int (0 : Int32)) := by
  obtain ⟨c, A, q1, q2, q3, H⟩ := F
  have g : ∀ i, i < c.slots.size → ((List.range z.toNatClampNeg).map fun i => Value.int (f i)).getD i (.int (0 : Int32)) = .int (f i) := fun i hi => by
    rw [q2] at hi
    simp [List.getD_eq_getElem?_getD, hi]
  exact ⟨c, A, q1, q2, q3, fun i hi => by rw [g i hi]; exact (H i hi).1, fun i hi => by rw [g i hi]; exact (H i hi).2⟩
theorem Car.of {Z : State} {h : Heap} {a : Addr} {k : ClassId} {z : Int32} {vs : List Value} {d : Value} {f : Nat → Int32} (F : Arv Z h a k .char z vs d) (g : ∀ i, i < z.toNatClampNeg → vs.getD i d = .int (f i)) : Car Z h a k z f := by
  obtain ⟨c, A, q1, q2, q3, H, G⟩ := F
  refine ⟨c, A, q1, q2, q3, fun i hi => ?_⟩
  have e := g i (by rw [q2] at hi; exact hi)
  exact ⟨by rw [← e]; exact H i hi, by rw [← e]; exact G i hi⟩
theorem own_carv {Z : State} {h : Heap} {a : Addr} {k : ClassId} {f : Nat → Int32} (F : Car Z h a k (260 : Int32) f) : Arv Z h a k .char (260 : Int32) (((List.range 260).map f).map Value.int) (.int (0 : Int32)) := by
  have e : (260 : Int32).toNatClampNeg = 260 := by decide
  have g := Car.arv F
  rw [e] at g
  rw [List.map_map]
  exact g
theorem own_sbar {Z : State} {h : Heap} {a : Addr} {k : ClassId} {f : Nat → Int32} (F : Arv Z h a k .byte (260 : Int32) (((List.range 260).map f).map fun c => .int (StrChars.lo8 c)) (.int (0 : Int32))) : Bar Z h a k (260 : Int32) (fun i => (f i).toInt8.toInt32) := by
  refine Bar.of F (fun i hi => ?_)
  have e : (260 : Int32).toNatClampNeg = 260 := by decide
  rw [e] at hi
  rw [List.getD_eq_getElem?_getD, List.getElem?_map, List.getElem?_map, List.getElem?_range hi]
  rfl
theorem own_and15 (hk : Int32) : ¬ ((15 : Int32) &&& hk) < 0 ∧ ((15 : Int32) &&& hk) < (16 : Int32) := by
  have h := c_and' 15 hk (by decide)
  have l0 : (0 : Int32).toInt = 0 := by decide
  have l15 : (15 : Int32).toInt = 15 := by decide
  have l16 : (16 : Int32).toInt = 16 := by decide
  rw [l15] at h
  rw [Int32.lt_iff_toInt_lt, Int32.lt_iff_toInt_lt, l0, l16]
  omega
theorem own_ch (x : Int32) : 0 ≤ (nar .char ((x &&& (127 : Int32)).toUInt32.toUInt16.toUInt32.toInt32)).toInt ∧ (nar .char ((x &&& (127 : Int32)).toUInt32.toUInt16.toUInt32.toInt32)).toInt < 128 := by
  have h1 := c_mask x 127 7 (by decide) (by decide)
  have h2 := c_i2c (x &&& (127 : Int32))
  have h3 := c_i2c ((x &&& (127 : Int32)).toUInt32.toUInt16.toUInt32.toInt32)
  have e : ((2 ^ 7 : Nat) : Int) = 128 := by decide
  rw [e] at h1
  show 0 ≤ (((x &&& (127 : Int32)).toUInt32.toUInt16.toUInt32.toInt32).toUInt32.toUInt16.toUInt32.toInt32).toInt ∧ (((x &&& (127 : Int32)).toUInt32.toUInt16.toUInt32.toInt32).toUInt32.toUInt16.toUInt32.toInt32).toInt < 128
  omega
theorem own_fc (fc g : Nat → Int32) (X Y : Int32) (hf : fc = (fun jj => if jj = ((259 : Int32)).toNatClampNeg then (nar .char ((X &&& (127 : Int32)).toUInt32.toUInt16.toUInt32.toInt32)) else g jj)) (hg : g = (fun jj => if jj = ((0 : Int32)).toNatClampNeg then (nar .char ((Y &&& (127 : Int32)).toUInt32.toUInt16.toUInt32.toInt32)) else (fun _ => (0 : Int32)) jj)) (i : Nat) : 0 ≤ (fc i).toInt ∧ (fc i).toInt < 128 := by
  rw [hf]
  show 0 ≤ (if i = ((259 : Int32)).toNatClampNeg then (nar .char ((X &&& (127 : Int32)).toUInt32.toUInt16.toUInt32.toInt32)) else g i).toInt ∧ (if i = ((259 : Int32)).toNatClampNeg then (nar .char ((X &&& (127 : Int32)).toUInt32.toUInt16.toUInt32.toInt32)) else g i).toInt < 128
  by_cases c1 : i = ((259 : Int32)).toNatClampNeg
  · rw [if_pos c1]; exact own_ch X
  · rw [if_neg c1, hg]
    show 0 ≤ (if i = ((0 : Int32)).toNatClampNeg then (nar .char ((Y &&& (127 : Int32)).toUInt32.toUInt16.toUInt32.toInt32)) else (0 : Int32)).toInt ∧ (if i = ((0 : Int32)).toNatClampNeg then (nar .char ((Y &&& (127 : Int32)).toUInt32.toUInt16.toUInt32.toInt32)) else (0 : Int32)).toInt < 128
    by_cases c2 : i = ((0 : Int32)).toNatClampNeg
    · rw [if_pos c2]; exact own_ch Y
    · rw [if_neg c2]; decide
theorem own_fc0 (fc g : Nat → Int32) (X Y : Int32) (hf : fc = (fun jj => if jj = ((259 : Int32)).toNatClampNeg then X else g jj)) (hg : g = (fun jj => if jj = ((0 : Int32)).toNatClampNeg then Y else (fun _ => (0 : Int32)) jj)) (i : Nat) (h1 : i ≠ ((259 : Int32)).toNatClampNeg) (h2 : i ≠ ((0 : Int32)).toNatClampNeg) : fc i = (0 : Int32) := by
  rw [hf]
  show (if i = ((259 : Int32)).toNatClampNeg then X else g i) = 0
  rw [if_neg h1, hg]
  show (if i = ((0 : Int32)).toNatClampNeg then Y else (0 : Int32)) = 0
  rw [if_neg h2]
theorem own_hall (fc : Nat → Int32) (h : ∀ i, 0 ≤ (fc i).toInt ∧ (fc i).toInt < 128) : ∀ c ∈ (List.range 260).map fc, ¬ (255 : Int32) < c := by
  intro c hc
  obtain ⟨i, -, rfl⟩ := List.mem_map.mp hc
  have l : (255 : Int32).toInt = 255 := by decide
  have := h i
  rw [Int32.lt_iff_toInt_lt, l]
  omega
theorem own_pos (fs fc : Nat → Int32) (hs : fs = (fun i => (fc i).toInt8.toInt32)) (h : ∀ i, 0 ≤ (fc i).toInt ∧ (fc i).toInt < 128) : ∀ i, ¬ (fs i) < (0 : Int32) := by
  intro i
  rw [hs]
  show ¬ (fc i).toInt8.toInt32 < 0
  have l : (0 : Int32).toInt = 0 := by decide
  have h1 := h i
  have h2 := c_i2b (fc i)
  rw [Int32.lt_iff_toInt_lt, l]
  omega
theorem own_narb (x : Int32) : nar .byte (x.toInt8.toInt32) = x.toInt8.toInt32 := by
  show (x.toInt8.toInt32).toInt8.toInt32 = x.toInt8.toInt32
  rw [Int8.toInt8_toInt32]
theorem own_or (v : Int64) : (((v ||| (128 : Int64))).toInt32).toInt8.toInt32 = ((((v &&& (127 : Int64)) ||| (128 : Int64))).toInt32).toInt8.toInt32 := by
  congr 1
  apply Int8.toBitVec_inj.mp
  rw [Int32.toBitVec_toInt8, Int32.toBitVec_toInt8, Int64.toBitVec_toInt32, Int64.toBitVec_toInt32, Int64.toBitVec_or, Int64.toBitVec_or, Int64.toBitVec_and]
  apply BitVec.eq_of_getLsbD_eq
  intro i hi
  rw [BitVec.signExtend_eq_setWidth_of_le _ (by decide), BitVec.signExtend_eq_setWidth_of_le _ (by decide), BitVec.signExtend_eq_setWidth_of_le _ (by decide), BitVec.signExtend_eq_setWidth_of_le _ (by decide)]
  simp only [BitVec.getLsbD_setWidth, BitVec.getLsbD_or, BitVec.getLsbD_and]
  by_cases c : i = 7
  · subst c
    have : (128 : Int64).toBitVec.getLsbD 7 = true := by decide
    simp [this]
  · have : (127 : Int64).toBitVec.getLsbD i = true := by
      have : i = 0 ∨ i = 1 ∨ i = 2 ∨ i = 3 ∨ i = 4 ∨ i = 5 ∨ i = 6 := by omega
      rcases this with rfl | rfl | rfl | rfl | rfl | rfl | rfl <;> decide
    rw [this, Bool.and_true]
theorem own_ra (p : Int32) (v : Int64) (h : v = ((p &&& (16383 : Int32))).toInt64) : (0 ≤ v.toInt ∧ v.toInt < 128) ∨ (128 ≤ v.toInt ∧ v.toInt < 16384) := by
  have h1 := c_mask p 16383 14 (by decide) (by decide)
  have e : ((2 ^ 14 : Nat) : Int) = 16384 := by decide
  rw [e] at h1
  rw [h, c_i2l]
  omega
theorem own_lt (v : Int64) (h : 0 ≤ v.toInt ∧ v.toInt < 128) : v < (128 : Int64) := by
  have l : (128 : Int64).toInt = 128 := by decide
  rw [Int64.lt_iff_toInt_lt, l]; omega
theorem own_nlt (v : Int64) (h : 128 ≤ v.toInt ∧ v.toInt < 16384) : ¬ v < (128 : Int64) := by
  have l : (128 : Int64).toInt = 128 := by decide
  rw [Int64.lt_iff_toInt_lt, l]; omega
theorem own_xm (y : Int64) : y ^^^ (-1 : Int64) = (-1 : Int64) - y := by
  apply Int64.toBitVec_inj.mp
  rw [Int64.toBitVec_xor, Int64.toBitVec_sub, show (-1 : Int64).toBitVec = BitVec.allOnes 64 by decide, BitVec.xor_allOnes, BitVec.allOnes_sub_eq_not]
theorem own_z1 (x : Int64) (b : -8192 < x.toInt ∧ x.toInt < 8192) (c : x.toInt < 0) : (x >>> ((63 : Int32) &&& 0x3f).toInt64) = (-1 : Int64) := by
  have s2 := c_lshr x 63 63 (by decide)
  have e2 : ((2 ^ 63 : Nat) : Int) = 9223372036854775808 := rfl
  rw [e2] at s2
  apply Int64.toInt_inj.mp
  rw [s2, show (-1 : Int64).toInt = -1 by decide]
  omega
theorem own_z2 (x : Int64) (b : -8192 < x.toInt ∧ x.toInt < 8192) (c : ¬ x.toInt < 0) : (x >>> ((63 : Int32) &&& 0x3f).toInt64) = (0 : Int64) := by
  have s2 := c_lshr x 63 63 (by decide)
  have e2 : ((2 ^ 63 : Nat) : Int) = 9223372036854775808 := rfl
  rw [e2] at s2
  apply Int64.toInt_inj.mp
  rw [s2, show (0 : Int64).toInt = 0 by decide]
  omega
theorem own_z3 (x : Int64) (b : -8192 < x.toInt ∧ x.toInt < 8192) : (x <<< ((1 : Int32) &&& 0x3f).toInt64).toInt = 2 * x.toInt := by
  have s1 := c_lshl x 1 1 (by decide)
  have e1 : ((2 ^ 1 : Nat) : Int) = 2 := rfl
  rw [e1] at s1
  have r1 := rng64 (x <<< ((1 : Int32) &&& 0x3f).toInt64)
  generalize (x <<< ((1 : Int32) &&& 0x3f).toInt64).toInt = w at *
  omega
theorem own_z4 (x : Int64) (b : -8192 < x.toInt ∧ x.toInt < 8192) : (((-2 : Int64) * x) - (1 : Int64)).toInt = -2 * x.toInt - 1 := by
  have a2 := c_lmul (-2) x
  have a3 := c_lsub ((-2 : Int64) * x) 1
  rw [show (-2 : Int64).toInt = -2 by decide] at a2
  rw [show (1 : Int64).toInt = 1 by decide] at a3
  have r3 := rng64 ((-2 : Int64) * x)
  have r4 := rng64 (((-2 : Int64) * x) - 1)
  omega
theorem own_z5 (x : Int64) (b : -8192 < x.toInt ∧ x.toInt < 8192) : ((2 : Int64) * x).toInt = 2 * x.toInt := by
  have a2 := c_lmul 2 x
  rw [show (2 : Int64).toInt = 2 by decide] at a2
  have r3 := rng64 ((2 : Int64) * x)
  omega
theorem own_z6 (y : Int64) (b : -16384 ≤ y.toInt ∧ y.toInt ≤ 16384) : ((-1 : Int64) - y).toInt = -1 - y.toInt := by
  have a1 := c_lsub (-1) y
  rw [show (-1 : Int64).toInt = -1 by decide] at a1
  have r2 := rng64 ((-1 : Int64) - y)
  omega
theorem own_zb (p : Int32) (x : Int64) (hx : x = ((p % (8192 : Int32))).toInt64) : -8192 < x.toInt ∧ x.toInt < 8192 := by
  have h1 := c_irem p 8192 8192 (by decide)
  rw [hx, c_i2l]
  omega
theorem own_ze (x z : Int64) (b : -8192 < x.toInt ∧ x.toInt < 8192) (hz : z = (if x < (0 : Int64) then (((-2 : Int64) * x) - (1 : Int64)) else ((2 : Int64) * x))) : ((x <<< ((1 : Int32) &&& 0x3f).toInt64) ^^^ (x >>> ((63 : Int32) &&& 0x3f).toInt64)) = z := by
  have l0 : (0 : Int64).toInt = 0 := by decide
  have s := own_z3 x b
  by_cases c : x < (0 : Int64)
  · rw [if_pos c] at hz
    rw [Int64.lt_iff_toInt_lt, l0] at c
    rw [own_z1 x b c, hz, own_xm]
    apply Int64.toInt_inj.mp
    rw [own_z6 _ (by rw [s]; omega), own_z4 x b, s]
    omega
  · rw [if_neg c] at hz
    rw [Int64.lt_iff_toInt_lt, l0] at c
    rw [own_z2 x b c, hz, Int64.xor_zero]
    apply Int64.toInt_inj.mp
    rw [own_z5 x b, s]
theorem own_zz (p : Int32) (x z : Int64) (hx : x = ((p % (8192 : Int32))).toInt64) (hz : z = (if x < (0 : Int64) then (((-2 : Int64) * x) - (1 : Int64)) else ((2 : Int64) * x))) : ((x <<< ((1 : Int32) &&& 0x3f).toInt64) ^^^ (x >>> ((63 : Int32) &&& 0x3f).toInt64)) = z ∧ ((0 ≤ ((x <<< ((1 : Int32) &&& 0x3f).toInt64) ^^^ (x >>> ((63 : Int32) &&& 0x3f).toInt64)).toInt ∧ ((x <<< ((1 : Int32) &&& 0x3f).toInt64) ^^^ (x >>> ((63 : Int32) &&& 0x3f).toInt64)).toInt < 128) ∨ (128 ≤ ((x <<< ((1 : Int32) &&& 0x3f).toInt64) ^^^ (x >>> ((63 : Int32) &&& 0x3f).toInt64)).toInt ∧ ((x <<< ((1 : Int32) &&& 0x3f).toInt64) ^^^ (x >>> ((63 : Int32) &&& 0x3f).toInt64)).toInt < 16384)) := by
  have b := own_zb p x hx
  refine ⟨own_ze x z b hz, ?_⟩
  rw [own_ze x z b hz, hz]
  have l0 : (0 : Int64).toInt = 0 := by decide
  by_cases c : x < (0 : Int64)
  · rw [if_pos c, own_z4 x b]
    rw [Int64.lt_iff_toInt_lt, l0] at c
    omega
  · rw [if_neg c, own_z5 x b]
    rw [Int64.lt_iff_toInt_lt, l0] at c
    omega
theorem own_zr (p : Int32) (x z : Int64) (hx : x = ((p % (8192 : Int32))).toInt64) (hz : z = (if x < (0 : Int64) then (((-2 : Int64) * x) - (1 : Int64)) else ((2 : Int64) * x))) : 0 ≤ ((x <<< ((1 : Int32) &&& 0x3f).toInt64) ^^^ (x >>> ((63 : Int32) &&& 0x3f).toInt64)).toInt ∧ ((x <<< ((1 : Int32) &&& 0x3f).toInt64) ^^^ (x >>> ((63 : Int32) &&& 0x3f).toInt64)).toInt < 16384 := by
  have := (own_zz p x z hx hz).2
  omega
theorem own_cp_at (z n : Int32) (f : Nat → Int32) (i : Nat) (h1 : i < z.toNatClampNeg) (h2 : i < n.toNatClampNeg) : own_cp z n f i = f i := if_pos ⟨h1, h2⟩
theorem own_w0_ne (q : Int32) (v : Int64) (f : Nat → Int32) (i : Nat) (h : i ≠ q.toNatClampNeg) : own_w0 q v f i = f i := if_neg h
theorem own_w0_at (q : Int32) (v : Int64) (f : Nat → Int32) : own_w0 q v f q.toNatClampNeg = ((v).toInt32).toInt8.toInt32 := (if_pos rfl).trans (own_narb _)
theorem own_w1_ne (q : Int32) (v : Int64) (f : Nat → Int32) (i : Nat) (h1 : i ≠ (q + (1 : Int32)).toNatClampNeg) (h : i ≠ q.toNatClampNeg) : own_w1 q v f i = f i := (if_neg h1).trans (if_neg h)
theorem own_w1_at0 (q : Int32) (v : Int64) (f : Nat → Int32) (h1 : q.toNatClampNeg ≠ (q + (1 : Int32)).toNatClampNeg) : own_w1 q v f q.toNatClampNeg = ((((v &&& (127 : Int64)) ||| (128 : Int64))).toInt32).toInt8.toInt32 := (if_neg h1).trans ((if_pos rfl).trans ((own_narb _).trans (own_or v)))
theorem own_w1_at1 (q : Int32) (v : Int64) (f : Nat → Int32) : own_w1 q v f (q + (1 : Int32)).toNatClampNeg = ((((v).toUInt64 >>> ((7 : Int32) &&& 0x3f).toInt64.toUInt64).toInt64).toInt32).toInt8.toInt32 := (if_pos rfl).trans (own_narb _)
theorem own_i_at (k p : Int32) (h : k = (p).toInt8.toInt32) : own_i k ((0 : Int32)).toNatClampNeg = k := by
  subst h
  exact (if_pos rfl).trans (own_narb _)
def own_n (v : Int64) : Int32 := if v < (128 : Int64) then (1 : Int32) else (2 : Int32)
def own_w (q : Int32) (v : Int64) (f : Nat → Int32) : Nat → Int32 := if v < (128 : Int64) then own_w0 q v f else own_w1 q v f
theorem own_nS (v : Int64) (h : v < (128 : Int64)) : own_n v = (1 : Int32) := if_pos h
theorem own_nB (v : Int64) (h : ¬ v < (128 : Int64)) : own_n v = (2 : Int32) := if_neg h
theorem own_wS (q : Int32) (v : Int64) (f : Nat → Int32) (h : v < (128 : Int64)) : own_w q v f = own_w0 q v f := if_pos h
theorem own_wB (q : Int32) (v : Int64) (f : Nat → Int32) (h : ¬ v < (128 : Int64)) : own_w q v f = own_w1 q v f := if_neg h
theorem own_q2 (q : Int32) : (q + (1 : Int32)) + (1 : Int32) = q + (2 : Int32) := by rw [Int32.add_assoc]; rfl
theorem own_l1 (v : Int64) (h : v < (128 : Int64)) : v.toInt < 128 := by
  have l : (128 : Int64).toInt = 128 := by decide
  rw [Int64.lt_iff_toInt_lt, l] at h; exact h
theorem own_l2 (v : Int64) (h : ¬ v < (128 : Int64)) : 128 ≤ v.toInt := by
  have l : (128 : Int64).toInt = 128 := by decide
  rw [Int64.lt_iff_toInt_lt, l] at h; omega
theorem own_nr (v : Int64) : (own_n v).toInt = 1 ∨ (own_n v).toInt = 2 := by
  by_cases h : v < (128 : Int64)
  · rw [own_nS v h]; decide
  · rw [own_nB v h]; decide
def own_atp (q z : Int32) (v : Int64) (f : Nat → Int32) : Prop := (v < (128 : Int64) ∧ ¬ q < (0 : Int32) ∧ q < z ∧ (f (q).toNatClampNeg) = ((((v).toInt32)).toInt8.toInt32)) ∨ (¬ v < (128 : Int64) ∧ ¬ q < (0 : Int32) ∧ ¬ z < (q + (2 : Int32)) ∧ (¬ q < 0 ∧ q < z) ∧ (¬ (q + (1 : Int32)) < 0 ∧ (q + (1 : Int32)) < z) ∧ (f (q).toNatClampNeg) = ((((((v &&& (127 : Int64)) ||| (128 : Int64))).toInt32)).toInt8.toInt32) ∧ (f ((q + (1 : Int32))).toNatClampNeg) = (((((((v).toUInt64 >>> ((7 : Int32) &&& 0x3f).toInt64.toUInt64).toInt64)).toInt32)).toInt8.toInt32))
theorem own_ad (q : Int32) (u : Int64) (h : 0 ≤ q.toInt ∧ q.toInt ≤ 600) : (q + own_n u).toInt = q.toInt + (own_n u).toInt := by
  have a := c_iadd q (own_n u)
  have r := rng32 (q + own_n u)
  have n := own_nr u
  omega
theorem own_hq2 (q z : Int32) (u : Int64) (h : 1 ≤ q.toInt ∧ q.toInt + 20 ≤ z.toInt ∧ z.toInt ≤ 512) : ¬ (q + own_n u) < 0 ∧ (q + own_n u).toInt + 10 ≤ z.toInt := by
  have a := own_ad q u (by omega)
  have n := own_nr u
  have l0 : (0 : Int32).toInt = 0 := by decide
  rw [Int32.lt_iff_toInt_lt, l0]
  omega
theorem own_hq3 (q z : Int32) (u v : Int64) (h : 1 ≤ q.toInt ∧ q.toInt + 20 ≤ z.toInt ∧ z.toInt ≤ 512) : ¬ ((q + own_n u) + own_n v) < 0 ∧ ((q + own_n u) + own_n v).toInt + 10 ≤ z.toInt := by
  have n := own_nr u
  have n' := own_nr v
  have a := own_ad q u (by omega)
  have b := own_ad (q + own_n u) v (by omega)
  have l0 : (0 : Int32).toInt = 0 := by decide
  rw [Int32.lt_iff_toInt_lt, l0]
  omega
theorem own_hn (q z : Int32) (u v w : Int64) (h : 1 ≤ q.toInt ∧ q.toInt + 20 ≤ z.toInt ∧ z.toInt ≤ 512) : (¬ (((q + own_n u) + own_n v) + own_n w) < 0 ∧ (((q + own_n u) + own_n v) + own_n w).toNatClampNeg ≤ 600) ∧ ¬ (((q + own_n u) + own_n v) + own_n w) = z ∧ ¬ (((q + own_n u) + own_n v) + own_n w) < (1 : Int32) ∧ ¬ (((q + own_n u) + own_n v) + own_n w) < q ∧ (∀ j : Int32, ¬ j < 0 ∧ j < q → ¬ j < 0 ∧ j < (((q + own_n u) + own_n v) + own_n w)) := by
  have n := own_nr u
  have n' := own_nr v
  have n2 := own_nr w
  have a := own_ad q u (by omega)
  have b := own_ad (q + own_n u) v (by omega)
  have d := own_ad ((q + own_n u) + own_n v) w (by omega)
  have l0 : (0 : Int32).toInt = 0 := by decide
  have l1 : (1 : Int32).toInt = 1 := by decide
  refine ⟨⟨?_, ?_⟩, ?_, ?_, ?_, fun j hj => ?_⟩
  · rw [Int32.lt_iff_toInt_lt, l0]; omega
  · show (((q + own_n u) + own_n v) + own_n w).toInt.toNat ≤ 600
    omega
  · intro e
    have e' := congrArg Int32.toInt e
    omega
  · rw [Int32.lt_iff_toInt_lt, l1]; omega
  · rw [Int32.lt_iff_toInt_lt]; omega
  · rw [Int32.lt_iff_toInt_lt, Int32.lt_iff_toInt_lt, l0] at hj
    rw [Int32.lt_iff_toInt_lt, Int32.lt_iff_toInt_lt, l0]
    omega
theorem own_p1 (q : Int32) (h : 0 ≤ q.toInt ∧ q.toInt ≤ 600) : (q + (1 : Int32)).toInt = q.toInt + 1 ∧ (q + (2 : Int32)).toInt = q.toInt + 2 := by
  have a := c_iadd q 1
  have b := c_iadd q 2
  have r := rng32 (q + (1 : Int32))
  have r' := rng32 (q + (2 : Int32))
  have l1 : (1 : Int32).toInt = 1 := by decide
  have l2 : (2 : Int32).toInt = 2 := by decide
  rw [l1] at a
  rw [l2] at b
  omega
theorem own_wlt (q : Int32) (v : Int64) (f : Nat → Int32) (i : Nat) (h : 0 ≤ q.toInt ∧ q.toInt ≤ 600) (hi : i < q.toNatClampNeg) : own_w q v f i = f i := by
  have p := own_p1 q h
  have e1 : q.toNatClampNeg = q.toInt.toNat := rfl
  have e2 : (q + (1 : Int32)).toNatClampNeg = (q + (1 : Int32)).toInt.toNat := rfl
  by_cases c : v < (128 : Int64)
  · rw [own_wS q v f c]
    exact own_w0_ne q v f i (by omega)
  · rw [own_wB q v f c]
    exact own_w1_ne q v f i (by omega) (by omega)
theorem own_at (q n : Int32) (v : Int64) (f fr : Nat → Int32) (h : 0 ≤ q.toInt ∧ q.toInt ≤ 600) (hn : (q + own_n v).toInt ≤ n.toInt) (hA : ∀ i, i < (q + own_n v).toNatClampNeg → fr i = own_w q v f i) : own_atp q n v fr := by
  have p := own_p1 q h
  have a := own_ad q v h
  have l0 : (0 : Int32).toInt = 0 := by decide
  have l1 : (1 : Int32).toInt = 1 := by decide
  have l2 : (2 : Int32).toInt = 2 := by decide
  have e1 : q.toNatClampNeg = q.toInt.toNat := rfl
  have e2 : (q + (1 : Int32)).toNatClampNeg = (q + (1 : Int32)).toInt.toNat := rfl
  have e3 : (q + own_n v).toNatClampNeg = (q + own_n v).toInt.toNat := rfl
  by_cases c : v < (128 : Int64)
  · rw [own_nS v c, l1] at a
    refine Or.inl ⟨c, ?_, ?_, ?_⟩
    · rw [Int32.lt_iff_toInt_lt, l0]; omega
    · rw [Int32.lt_iff_toInt_lt]; rw [own_nS v c] at hn; omega
    · rw [hA _ (by rw [e1, e3, own_nS v c]; omega), own_wS q v f c]
      exact own_w0_at q v f
  · rw [own_nB v c, l2] at a
    rw [own_nB v c] at hn
    refine Or.inr ⟨c, ?_, ?_, ⟨?_, ?_⟩, ⟨?_, ?_⟩, ?_, ?_⟩
    · rw [Int32.lt_iff_toInt_lt, l0]; omega
    · rw [Int32.lt_iff_toInt_lt]; omega
    · rw [Int32.lt_iff_toInt_lt, l0]; omega
    · rw [Int32.lt_iff_toInt_lt]; omega
    · rw [Int32.lt_iff_toInt_lt, l0]; omega
    · rw [Int32.lt_iff_toInt_lt]; omega
    · rw [hA _ (by rw [e1, e3, own_nB v c]; omega), own_wB q v f c]
      exact own_w1_at0 q v f (by omega)
    · rw [hA _ (by rw [e2, e3, own_nB v c]; omega), own_wB q v f c]
      exact own_w1_at1 q v f
theorem own_rd (q z : Int32) (u v w : Int64) (f0 f1 f2 f3 fr : Nat → Int32) (h : 1 ≤ q.toInt ∧ q.toInt + 20 ≤ z.toInt ∧ z.toInt ≤ 512) (h1 : f1 = own_w q u f0) (h2 : f2 = own_w (q + own_n u) v f1) (h3 : f3 = own_w ((q + own_n u) + own_n v) w f2) (hr : fr = own_cp z (((q + own_n u) + own_n v) + own_n w) f3) :
    own_atp q (((q + own_n u) + own_n v) + own_n w) u fr ∧ own_atp (q + own_n u) (((q + own_n u) + own_n v) + own_n w) v fr ∧ own_atp ((q + own_n u) + own_n v) (((q + own_n u) + own_n v) + own_n w) w fr ∧ ∀ i, i < q.toNatClampNeg → fr i = f0 i := by
  have n := own_nr u
  have n' := own_nr v
  have n2 := own_nr w
  have a := own_ad q u (by omega)
  have b := own_ad (q + own_n u) v (by omega)
  have d := own_ad ((q + own_n u) + own_n v) w (by omega)
  have t1 : ∀ x : Int32, x.toNatClampNeg = x.toInt.toNat := fun _ => rfl
  have A3 : ∀ i, i < (((q + own_n u) + own_n v) + own_n w).toNatClampNeg → fr i = f3 i := fun i hi => by
    rw [hr]
    exact own_cp_at _ _ _ _ (by rw [t1] at hi ⊢; omega) hi
  have A2 : ∀ i, i < ((q + own_n u) + own_n v).toNatClampNeg → fr i = f2 i := fun i hi => by
    rw [A3 i (by rw [t1] at hi ⊢; omega), h3]
    exact own_wlt _ _ _ _ (by omega) hi
  have A1 : ∀ i, i < (q + own_n u).toNatClampNeg → fr i = f1 i := fun i hi => by
    rw [A2 i (by rw [t1] at hi ⊢; omega), h2]
    exact own_wlt _ _ _ _ (by omega) hi
  refine ⟨own_at q _ u f0 fr (by omega) (by omega) (fun i hi => by rw [A1 i hi, h1]), own_at _ _ v f1 fr (by omega) (by omega) (fun i hi => by rw [A2 i hi, h2]), own_at _ _ w f2 fr (by omega) (by omega) (fun i hi => by rw [A3 i hi, h3]), fun i hi => ?_⟩
  rw [A1 i (by rw [t1] at hi ⊢; omega), h1]
  exact own_wlt _ _ _ _ (by omega) hi
theorem own_rb (p : Int32) (v : Int64) (h : v = ((p &&& (16383 : Int32))).toInt64) : 0 ≤ v.toInt ∧ v.toInt < 16384 := by
  have := own_ra p v h
  omega
theorem d1_0 : decode jdk_29_method_65_code 0 = .ok (.iload_n 0, 1) := by decide +kernel
theorem d1_1 : decode jdk_29_method_65_code 1 = .ok (.iload_n 1, 1) := by decide +kernel
theorem d1_2 : decode jdk_29_method_65_code 2 = .ok (.if_icmp .lt 7, 3) := by decide +kernel
theorem d1_5 : decode jdk_29_method_65_code 5 = .ok (.iload_n 0, 1) := by decide +kernel
theorem d1_6 : decode jdk_29_method_65_code 6 = .ok (.goto 4, 3) := by decide +kernel
theorem d1_9 : decode jdk_29_method_65_code 9 = .ok (.iload_n 1, 1) := by decide +kernel
theorem d1_10 : decode jdk_29_method_65_code 10 = .ok (.ireturn, 1) := by decide +kernel
theorem ef_1 (m : MethodId) (x0 : Int32) (x1 : Int32) : entryFrame m #[(.int x0), (.int x1)] 2 = (mkF m 0 #[.val (.int x0), .val (.int x1)] []) := by first | (simp [entryFrame, mkF, argsToLocals, Value.category]; done) | rfl
def F1 (p1 : Int32) (p2 : Int32) : Int32 := (if p1 < p2 then p2 else p1)
def Q1 (Z : State) (p1 : Int32) (p2 : Int32) (h0 : Heap) (n0 : Nat) (vX : Option Value) (hX : Heap) (lX : List Loc) : Prop := vX = some (.int (F1 p1 p2)) ∧ Fr n0 lX ∧ (hX = h0)
set_option maxRecDepth 65536 in
set_option maxHeartbeats 40000000 in
theorem rm1 (l : Launch) (Z : State) (a0 : Array Value) (hw : ∀ d ∈ tables_1, d.before a0 Z = true) (ws : List Jvm.Cond) (p1 : Int32) (p2 : Int32) (h0 : Heap) (n0 : Nat) (Z0 : n0 ≤ h0.size)  :
    MetFree l (⟨"java/lang/Math", "max", "(II)I"⟩ : MethodName) (head1 (Jvm.Cond.code (⟨"java/lang/Math", "max", "(II)I"⟩ : MethodName) jdk_29_method_65_code 2 (some .int) :: ws) ({ frames := 0, cells := 0, slots := 0, locals := 0 } : Room)) (fun aX uX => aX = #[(.int p1), (.int p2)] ∧ Z.Warmed39 uX.vm ∧ uX.heap = h0) (fun _ _ _ _ _ => True) (fun _ uX oX wX => ∃ vX lX, oX = .returned vX ∧ Q1 Z p1 p2 h0 n0 vX wX.heap lX ∧ FrameEnd uX oX wX lX ({ frames := 0, cells := 0, slots := 0, locals := 0 } : Room).cells ({ frames := 0, cells := 0, slots := 0, locals := 0 } : Room).slots) := by
  refine MetFree.of_bodySF pf_0 hisR ?_
  intro p e s m args below meth c s₁ Bd hml0 hP hK
  obtain ⟨rfl, hZ, hh⟩ := hP
  have hx := Bd.exec
  have hby := Bd.bytes
  have hml : c.maxLocals = 2 := hml0
  have hown : s.vm.findClass "java/lang/Math" = some m.cls := findClass_of_methodNamed Bd.named
  have hnm := (name_of_methodNamed Bd.named Bd.method).1
  have X0 : Stand p l e ({ frames := 0, cells := 0, slots := 0, locals := 0 } : Room) s m #[(.int p1), (.int p2)] below meth c s₁ [] 0 0 := Stand.of_body Bd
  have e0 : s₁.heap = h0 := by rw [← hh, Bd.state]; rfl
  have N0 := Fr.nil n0
  let ST : State := (s₁.setTop (entryFrame m #[(.int p1), (.int p2)] 2))
  have pre0 : ∀ t, Steps p.tables e below (s₁.setTop (mkF m 0 #[.val (.int p1), .val (.int p2)] [])) t → Steps p.tables e below ST t := fun t k => castTop (ef_1 m p1 p2) k
  let LL1 : Array Slot := #[.val (.int p1), .val (.int p2)]
  have P2 : ∀ t, Steps p.tables e below (s₁.setTop (mkF m 2 LL1 [(.int p2), (.int p1)])) t → Steps p.tables e below ST t := by
    intro t kk
    refine pre0 _ ?_
    show Steps p.tables e below (s₁.setTop (mkF m 0 LL1 [])) _
    refine XS.iloadN X0.here hx rfl (hb hby d1_0) rfl ?_
    show Steps p.tables e below (s₁.setTop (mkF m 1 LL1 [(.int p1)])) _
    refine XS.iloadN X0.here hx rfl (hb hby d1_1) rfl ?_
    show Steps p.tables e below (s₁.setTop (mkF m 2 LL1 [(.int p2), (.int p1)])) _
    exact kk
  by_cases c3 : p1 < p2
  · skip
    have P4 : ∀ t, Steps p.tables e below (s₁.setTop (mkF m 10 LL1 [(.int p2)])) t → Steps p.tables e below ST t := by
      intro t kk
      refine P2 _ ?_
      show Steps p.tables e below (s₁.setTop (mkF m 2 LL1 [(.int p2), (.int p1)])) _
      refine XS.icmpYes X0.here hx rfl (pc0 := 2) (pc' := 9) rfl (hb hby d1_2) rfl (XT.ii_lt_t c3) (by decide) (by decide) ?_
      show Steps p.tables e below (s₁.setTop (mkF m 9 LL1 [])) _
      refine XS.iloadN X0.here hx rfl (hb hby d1_9) rfl ?_
      show Steps p.tables e below (s₁.setTop (mkF m 10 LL1 [(.int p2)])) _
      exact kk
    obtain ⟨fs, hr, hrun, hended, hW, hsame⟩ := X0.leave (v := some (.int p2)) (fun h => by rw [Bd.returns] at h; cases h)
    refine ⟨_, _, P4 _ ?_, hrun, hended, _, _, rfl, ?_, ⟨_, rfl⟩, hW, hsame.mono (by decide) (by decide)⟩
    · exact retI X0 hx Bd.returns (hb hby d1_10) hr
    · show Q1 Z p1 p2 h0 n0 _ s₁.heap _
      rw [e0]
      exact ⟨congrArg (fun z => some (Value.int z)) (show (F1 p1 p2) = _ from ((if_pos c3).trans rfl)).symm, N0, rfl⟩
  · skip
    have P5 : ∀ t, Steps p.tables e below (s₁.setTop (mkF m 10 LL1 [(.int p1)])) t → Steps p.tables e below ST t := by
      intro t kk
      refine P2 _ ?_
      show Steps p.tables e below (s₁.setTop (mkF m 2 LL1 [(.int p2), (.int p1)])) _
      refine XS.icmpNo X0.here hx rfl (hb hby d1_2) rfl (XT.ii_lt_f c3) ?_
      show Steps p.tables e below (s₁.setTop (mkF m 5 LL1 [])) _
      refine XS.iloadN X0.here hx rfl (hb hby d1_5) rfl ?_
      show Steps p.tables e below (s₁.setTop (mkF m 6 LL1 [(.int p1)])) _
      refine XS.goto X0.here hx rfl (pc0 := 6) (pc' := 10) rfl (hb hby d1_6) (by decide) (by decide) ?_
      show Steps p.tables e below (s₁.setTop (mkF m 10 LL1 [(.int p1)])) _
      exact kk
    obtain ⟨fs, hr, hrun, hended, hW, hsame⟩ := X0.leave (v := some (.int p1)) (fun h => by rw [Bd.returns] at h; cases h)
    refine ⟨_, _, P5 _ ?_, hrun, hended, _, _, rfl, ?_, ⟨_, rfl⟩, hW, hsame.mono (by decide) (by decide)⟩
    · exact retI X0 hx Bd.returns (hb hby d1_10) hr
    · show Q1 Z p1 p2 h0 n0 _ s₁.heap _
      rw [e0]
      exact ⟨congrArg (fun z => some (Value.int z)) (show (F1 p1 p2) = _ from ((if_neg c3).trans rfl)).symm, N0, rfl⟩
theorem d2_0 : decode jdk_29_method_69_code 0 = .ok (.iload_n 0, 1) := by decide +kernel
theorem d2_1 : decode jdk_29_method_69_code 1 = .ok (.iload_n 1, 1) := by decide +kernel
theorem d2_2 : decode jdk_29_method_69_code 2 = .ok (.if_icmp .gt 7, 3) := by decide +kernel
theorem d2_5 : decode jdk_29_method_69_code 5 = .ok (.iload_n 0, 1) := by decide +kernel
theorem d2_6 : decode jdk_29_method_69_code 6 = .ok (.goto 4, 3) := by decide +kernel
theorem d2_9 : decode jdk_29_method_69_code 9 = .ok (.iload_n 1, 1) := by decide +kernel
theorem d2_10 : decode jdk_29_method_69_code 10 = .ok (.ireturn, 1) := by decide +kernel
theorem ef_2 (m : MethodId) (x0 : Int32) (x1 : Int32) : entryFrame m #[(.int x0), (.int x1)] 2 = (mkF m 0 #[.val (.int x0), .val (.int x1)] []) := by first | (simp [entryFrame, mkF, argsToLocals, Value.category]; done) | rfl
def F2 (p1 : Int32) (p2 : Int32) : Int32 := (if p2 < p1 then p2 else p1)
def Q2 (Z : State) (p1 : Int32) (p2 : Int32) (h0 : Heap) (n0 : Nat) (vX : Option Value) (hX : Heap) (lX : List Loc) : Prop := vX = some (.int (F2 p1 p2)) ∧ Fr n0 lX ∧ (hX = h0)
set_option maxRecDepth 65536 in
set_option maxHeartbeats 40000000 in
theorem rm2 (l : Launch) (Z : State) (a0 : Array Value) (hw : ∀ d ∈ tables_1, d.before a0 Z = true) (ws : List Jvm.Cond) (p1 : Int32) (p2 : Int32) (h0 : Heap) (n0 : Nat) (Z0 : n0 ≤ h0.size)  :
    MetFree l (⟨"java/lang/Math", "min", "(II)I"⟩ : MethodName) (head1 (Jvm.Cond.code (⟨"java/lang/Math", "min", "(II)I"⟩ : MethodName) jdk_29_method_69_code 2 (some .int) :: ws) ({ frames := 0, cells := 0, slots := 0, locals := 0 } : Room)) (fun aX uX => aX = #[(.int p1), (.int p2)] ∧ Z.Warmed39 uX.vm ∧ uX.heap = h0) (fun _ _ _ _ _ => True) (fun _ uX oX wX => ∃ vX lX, oX = .returned vX ∧ Q2 Z p1 p2 h0 n0 vX wX.heap lX ∧ FrameEnd uX oX wX lX ({ frames := 0, cells := 0, slots := 0, locals := 0 } : Room).cells ({ frames := 0, cells := 0, slots := 0, locals := 0 } : Room).slots) := by
  refine MetFree.of_bodySF pf_1 hisR ?_
  intro p e s m args below meth c s₁ Bd hml0 hP hK
  obtain ⟨rfl, hZ, hh⟩ := hP
  have hx := Bd.exec
  have hby := Bd.bytes
  have hml : c.maxLocals = 2 := hml0
  have hown : s.vm.findClass "java/lang/Math" = some m.cls := findClass_of_methodNamed Bd.named
  have hnm := (name_of_methodNamed Bd.named Bd.method).1
  have X0 : Stand p l e ({ frames := 0, cells := 0, slots := 0, locals := 0 } : Room) s m #[(.int p1), (.int p2)] below meth c s₁ [] 0 0 := Stand.of_body Bd
  have e0 : s₁.heap = h0 := by rw [← hh, Bd.state]; rfl
  have N0 := Fr.nil n0
  let ST : State := (s₁.setTop (entryFrame m #[(.int p1), (.int p2)] 2))
  have pre0 : ∀ t, Steps p.tables e below (s₁.setTop (mkF m 0 #[.val (.int p1), .val (.int p2)] [])) t → Steps p.tables e below ST t := fun t k => castTop (ef_2 m p1 p2) k
  let LL1 : Array Slot := #[.val (.int p1), .val (.int p2)]
  have P2 : ∀ t, Steps p.tables e below (s₁.setTop (mkF m 2 LL1 [(.int p2), (.int p1)])) t → Steps p.tables e below ST t := by
    intro t kk
    refine pre0 _ ?_
    show Steps p.tables e below (s₁.setTop (mkF m 0 LL1 [])) _
    refine XS.iloadN X0.here hx rfl (hb hby d2_0) rfl ?_
    show Steps p.tables e below (s₁.setTop (mkF m 1 LL1 [(.int p1)])) _
    refine XS.iloadN X0.here hx rfl (hb hby d2_1) rfl ?_
    show Steps p.tables e below (s₁.setTop (mkF m 2 LL1 [(.int p2), (.int p1)])) _
    exact kk
  by_cases c3 : p2 < p1
  · skip
    have P4 : ∀ t, Steps p.tables e below (s₁.setTop (mkF m 10 LL1 [(.int p2)])) t → Steps p.tables e below ST t := by
      intro t kk
      refine P2 _ ?_
      show Steps p.tables e below (s₁.setTop (mkF m 2 LL1 [(.int p2), (.int p1)])) _
      refine XS.icmpYes X0.here hx rfl (pc0 := 2) (pc' := 9) rfl (hb hby d2_2) rfl (XT.ii_gt_t c3) (by decide) (by decide) ?_
      show Steps p.tables e below (s₁.setTop (mkF m 9 LL1 [])) _
      refine XS.iloadN X0.here hx rfl (hb hby d2_9) rfl ?_
      show Steps p.tables e below (s₁.setTop (mkF m 10 LL1 [(.int p2)])) _
      exact kk
    obtain ⟨fs, hr, hrun, hended, hW, hsame⟩ := X0.leave (v := some (.int p2)) (fun h => by rw [Bd.returns] at h; cases h)
    refine ⟨_, _, P4 _ ?_, hrun, hended, _, _, rfl, ?_, ⟨_, rfl⟩, hW, hsame.mono (by decide) (by decide)⟩
    · exact retI X0 hx Bd.returns (hb hby d2_10) hr
    · show Q2 Z p1 p2 h0 n0 _ s₁.heap _
      rw [e0]
      exact ⟨congrArg (fun z => some (Value.int z)) (show (F2 p1 p2) = _ from ((if_pos c3).trans rfl)).symm, N0, rfl⟩
  · skip
    have P5 : ∀ t, Steps p.tables e below (s₁.setTop (mkF m 10 LL1 [(.int p1)])) t → Steps p.tables e below ST t := by
      intro t kk
      refine P2 _ ?_
      show Steps p.tables e below (s₁.setTop (mkF m 2 LL1 [(.int p2), (.int p1)])) _
      refine XS.icmpNo X0.here hx rfl (hb hby d2_2) rfl (XT.ii_gt_f c3) ?_
      show Steps p.tables e below (s₁.setTop (mkF m 5 LL1 [])) _
      refine XS.iloadN X0.here hx rfl (hb hby d2_5) rfl ?_
      show Steps p.tables e below (s₁.setTop (mkF m 6 LL1 [(.int p1)])) _
      refine XS.goto X0.here hx rfl (pc0 := 6) (pc' := 10) rfl (hb hby d2_6) (by decide) (by decide) ?_
      show Steps p.tables e below (s₁.setTop (mkF m 10 LL1 [(.int p1)])) _
      exact kk
    obtain ⟨fs, hr, hrun, hended, hW, hsame⟩ := X0.leave (v := some (.int p1)) (fun h => by rw [Bd.returns] at h; cases h)
    refine ⟨_, _, P5 _ ?_, hrun, hended, _, _, rfl, ?_, ⟨_, rfl⟩, hW, hsame.mono (by decide) (by decide)⟩
    · exact retI X0 hx Bd.returns (hb hby d2_10) hr
    · show Q2 Z p1 p2 h0 n0 _ s₁.heap _
      rw [e0]
      exact ⟨congrArg (fun z => some (Value.int z)) (show (F2 p1 p2) = _ from ((if_neg c3).trans rfl)).symm, N0, rfl⟩
theorem own_mn (z n : Int32) (hz : ¬ z < 0) (hn : ¬ n < 0) : ¬ (F2 z n) < 0 ∧ (0 : Int32).toNatClampNeg + (F2 z n).toNatClampNeg ≤ z.toNatClampNeg ∧ (0 : Int32).toNatClampNeg + (F2 z n).toNatClampNeg ≤ n.toNatClampNeg := by
  have e0 : (0 : Int32).toNatClampNeg = 0 := by decide
  have l0 : (0 : Int32).toInt = 0 := by decide
  rw [Int32.lt_iff_toInt_lt, l0] at hz hn
  rw [e0]
  unfold F2
  split
  · rename_i h
    rw [Int32.lt_iff_toInt_lt] at h
    rw [Int32.lt_iff_toInt_lt, l0]
    simp only [Int32.toNatClampNeg]
    omega
  · rename_i h
    rw [Int32.lt_iff_toInt_lt] at h
    rw [Int32.lt_iff_toInt_lt, l0]
    simp only [Int32.toNatClampNeg]
    omega
theorem own_cpeq (z n : Int32) (hz : ¬ z < 0) (hn : ¬ n < 0) (f : Nat → Int32) (i : Nat) : (if (0 : Int32).toNatClampNeg ≤ i ∧ i < (0 : Int32).toNatClampNeg + (F2 z n).toNatClampNeg then f ((0 : Int32).toNatClampNeg + (i - (0 : Int32).toNatClampNeg)) else (0 : Int32)) = own_cp z n f i := by
  have e0 : (0 : Int32).toNatClampNeg = 0 := by decide
  have l0 : (0 : Int32).toInt = 0 := by decide
  rw [Int32.lt_iff_toInt_lt, l0] at hz hn
  have m : (i < (F2 z n).toNatClampNeg) ↔ (i < z.toNatClampNeg ∧ i < n.toNatClampNeg) := by
    unfold F2
    split
    · rename_i h
      rw [Int32.lt_iff_toInt_lt] at h
      simp only [Int32.toNatClampNeg]
      omega
    · rename_i h
      rw [Int32.lt_iff_toInt_lt] at h
      simp only [Int32.toNatClampNeg]
      omega
  rw [e0, Nat.zero_add, Nat.zero_add, Nat.sub_zero]
  unfold own_cp
  by_cases c : i < (F2 z n).toNatClampNeg
  · rw [if_pos ⟨Nat.zero_le _, c⟩, if_pos (m.mp c)]
  · rw [if_neg (fun q => c q.2), if_neg (fun q => c (m.mpr q))]
theorem own_exab {Z : State} {h : Heap} {a : Addr} {k : ClassId} {z : Int32} {f : Nat → Int32} (F : Bar Z h a k z f) (hC : Z.vm.findClass "[B" = some k) : Exa Z h a "[B" := by
  obtain ⟨c, A, q, -⟩ := F
  have ns := Arr.nostat A c A.1
  obtain ⟨h1, ⟨-, kk, h2, comp, h3⟩, -⟩ := A
  subst q
  exact ⟨c, kk, h1, hC, h2, ns, fun q => by rw [h3] at q; cases q⟩
theorem own_cloneB {p : Program} {l : Launch} {e : Env} {R : Room} {s : State} {m : MethodId} {args : Array Value} {below : List Frame} {meth : Method} {c : Code} {T Z : State} {locs : List Loc} {cells slots : Nat} {h : Heap} {a : Addr} (X : Stand p l e R s m args below meth c T locs cells slots) (hx : p.tables.exec = Jvm.exec) (hZ : Z.Warmed39 s.vm) {a0 : Array Value} {own ad : String} {index : Nat} (hown : s.vm.findClass own = some m.cls)
    (w1 : (Cond.methodLink own index ⟨ad, "clone", "()Ljava/lang/Object;"⟩).before a0 Z = true) (w2 : (Cond.sameMethod ad "java/lang/Object" "clone" "()Ljava/lang/Object;").before a0 Z = true) (w3 : (Cond.native ⟨"java/lang/Object", "clone", "()Ljava/lang/Object;"⟩).before a0 Z = true)
    (w4 : (Cond.instanceMethod ⟨"java/lang/Object", "clone", "()Ljava/lang/Object;"⟩).before a0 Z = true) (w5 : (Cond.selects ad ⟨ad, "clone", "()Ljava/lang/Object;"⟩ ⟨"java/lang/Object", "clone", "()Ljava/lang/Object;"⟩).before a0 Z = true) (w6 : (Cond.castable ad "java/lang/Cloneable").before a0 Z = true)
    (eT : T.heap = h) {k : ClassId} {z : Int32} {f : Nat → Int32} (F : Bar Z h a k z f) (E : Exa Z h a ad) {g : JFrame} (hg : g.method = m) (hsize : g.locals.size = c.maxLocals) {rest : List Value} (hst : g.stack = .ref a :: rest) (hd : decode c.code g.pc = .ok (.invokevirtual index, 3))
    (hf : 1 ≤ R.frames) {W cap : Nat} (hW : 2 * g.monitorRoom + (rest.map fun v => v.category).sum ≤ W) (hl : W + 14 ≤ R.locals) (hcap : z.toNatClampNeg ≤ cap) (hc : cells + 1 ≤ R.cells) (hsl : slots + cap ≤ R.slots) :
    ∃ T' h', Stand p l e R s m args below meth c T' locs (cells + 1) (slots + cap) ∧ T'.heap = h' ∧ Ext h h' ∧ Bar Z h' h.size k z f ∧ Exa Z h' h.size ad ∧
      ∀ target, Steps p.tables e below (T'.setTop { g with pc := g.pc + 3, stack := .ref h.size :: rest }) target → Steps p.tables e below (T.setTop g) target := by
  obtain ⟨cl, A, q1, S, q3, H⟩ := F
  have FC : FitC Z cl := fitC_of A fun i hi v hv => by rw [(H i hi).1] at hv; cases hv; exact (H i hi).2
  obtain ⟨T', h', X', e', E1, A', E2, st⟩ := cloneA X hx hZ hown w1 w2 w3 w4 w5 w6 eT A E FC hg hsize hst hd hf hW hl (by rw [S]; exact hcap) hc hsl
  exact ⟨T', h', X', e', E1, ⟨_, A', q1, S, q3, H⟩, E2, st⟩
theorem d3_0 : decode jdk_65_method_121_code 0 = .ok (.iload_n 1, 1) := by decide +kernel
theorem d3_1 : decode jdk_65_method_121_code 1 = .ok (.aload_n 0, 1) := by decide +kernel
theorem d3_2 : decode jdk_65_method_121_code 2 = .ok (.arraylength, 1) := by decide +kernel
theorem d3_3 : decode jdk_65_method_121_code 3 = .ok (.if_icmp .ne 11, 3) := by decide +kernel
theorem d3_14 : decode jdk_65_method_121_code 14 = .ok (.iload_n 1, 1) := by decide +kernel
theorem d3_15 : decode jdk_65_method_121_code 15 = .ok (.newarray .byte, 2) := by decide +kernel
theorem d3_17 : decode jdk_65_method_121_code 17 = .ok (.astore_n 2, 1) := by decide +kernel
theorem d3_18 : decode jdk_65_method_121_code 18 = .ok (.aload_n 0, 1) := by decide +kernel
theorem d3_19 : decode jdk_65_method_121_code 19 = .ok (.iconst 0, 1) := by decide +kernel
theorem d3_20 : decode jdk_65_method_121_code 20 = .ok (.aload_n 2, 1) := by decide +kernel
theorem d3_21 : decode jdk_65_method_121_code 21 = .ok (.iconst 0, 1) := by decide +kernel
theorem d3_22 : decode jdk_65_method_121_code 22 = .ok (.aload_n 0, 1) := by decide +kernel
theorem d3_23 : decode jdk_65_method_121_code 23 = .ok (.arraylength, 1) := by decide +kernel
theorem d3_24 : decode jdk_65_method_121_code 24 = .ok (.iload_n 1, 1) := by decide +kernel
theorem d3_25 : decode jdk_65_method_121_code 25 = .ok (.invokestatic 304, 3) := by decide +kernel
theorem d3_28 : decode jdk_65_method_121_code 28 = .ok (.invokestatic 150, 3) := by decide +kernel
theorem d3_31 : decode jdk_65_method_121_code 31 = .ok (.aload_n 2, 1) := by decide +kernel
theorem d3_32 : decode jdk_65_method_121_code 32 = .ok (.areturn, 1) := by decide +kernel
theorem ef_3 (m : MethodId) (x0 : Addr) (x1 : Int32) : entryFrame m #[(.ref x0), (.int x1)] 3 = (mkF m 0 #[.val (.ref x0), .val (.int x1), .unset] []) := by first | (simp [entryFrame, mkF, argsToLocals, Value.category]; done) | rfl
def Q3 (Z : State) (a : Addr) (n : Int32) (k : ClassId) (z : Int32) (f : Nat → Int32) (h0 : Heap) (n0 : Nat) (vX : Option Value) (hX : Heap) (lX : List Loc) : Prop := ∃ (r : Addr) (kr : ClassId), vX = some (.ref r) ∧ Fr n0 lX ∧ (Keep h0 hX []) ∧ (Bar Z hX r kr n (own_cp z n f)) ∧ (h0.size ≤ r)
set_option maxRecDepth 65536 in
set_option maxHeartbeats 40000000 in
theorem rm3 (l : Launch) (Z : State) (a0 : Array Value) (hw : ∀ d ∈ tables_1, d.before a0 Z = true) (ws : List Jvm.Cond) (a : Addr) (n : Int32) (k : ClassId) (z : Int32) (f : Nat → Int32) (h0 : Heap) (n0 : Nat) (Z0 : n0 ≤ h0.size) (pr0 : Bar Z h0 a k z f) (pr1 : ¬ n < 0 ∧ n.toNatClampNeg ≤ 600) (pr2 : ¬ n = z) (pr3 : ¬ z < 0) :
    MetFree l (⟨"java/util/Arrays", "copyOf", "([BI)[B"⟩ : MethodName) (head1 (Jvm.Cond.code (⟨"java/util/Arrays", "copyOf", "([BI)[B"⟩ : MethodName) jdk_65_method_121_code 3 (some (.array .byte)) :: ws) ({ frames := 1, cells := 1, slots := 600, locals := 18 } : Room)) (fun aX uX => aX = #[(.ref a), (.int n)] ∧ Z.Warmed39 uX.vm ∧ uX.heap = h0) (fun _ _ _ _ _ => True) (fun _ uX oX wX => ∃ vX lX, oX = .returned vX ∧ Q3 Z a n k z f h0 n0 vX wX.heap lX ∧ FrameEnd uX oX wX lX ({ frames := 1, cells := 1, slots := 600, locals := 18 } : Room).cells ({ frames := 1, cells := 1, slots := 600, locals := 18 } : Room).slots) := by
  refine MetFree.of_bodySF (plainFor_of_name pn_0) hisR ?_
  intro p e s m args below meth c s₁ Bd hml0 hP hK
  obtain ⟨rfl, hZ, hh⟩ := hP
  have hx := Bd.exec
  have hby := Bd.bytes
  have hml : c.maxLocals = 3 := hml0
  have hown : s.vm.findClass "java/util/Arrays" = some m.cls := findClass_of_methodNamed Bd.named
  have hnm := (name_of_methodNamed Bd.named Bd.method).1
  have X0 : Stand p l e ({ frames := 1, cells := 1, slots := 600, locals := 18 } : Room) s m #[(.ref a), (.int n)] below meth c s₁ [] 0 0 := Stand.of_body Bd
  have e0 : s₁.heap = h0 := by rw [← hh, Bd.state]; rfl
  have N0 := Fr.nil n0
  let ST : State := (s₁.setTop (entryFrame m #[(.ref a), (.int n)] 3))
  have pre0 : ∀ t, Steps p.tables e below (s₁.setTop (mkF m 0 #[.val (.ref a), .val (.int n), .unset] [])) t → Steps p.tables e below ST t := fun t k => castTop (ef_3 m a n) k
  let LL1 : Array Slot := #[.val (.ref a), .val (.int n), .unset]
  obtain ⟨cl_a2, Ar_a2, q_a2, S_a2, N_a2, H_a2⟩ := id pr0
  obtain ⟨T3, h3, k3, X3, e3, E3, A3, st3⟩ := newP X0 hx hZ (hw _ (List.mem_of_getElem? (i := 19) rfl)) e0 (g := (mkF m 15 LL1 [(.int n)])) rfl (hb hby d3_15) rfl pr1.1 (cap := 600) pr1.2 (by decide) (by decide) (by decide)
  obtain ⟨b3, g_b3⟩ : ∃ z, z = h0.size := ⟨_, rfl⟩
  rw [← g_b3] at A3 st3
  have ne_a_b3 : a ≠ b3 := Nat.ne_of_lt (Nat.lt_of_lt_of_le pr0.lt (Nat.le_of_eq g_b3.symm))
  have ge_b3 : n0 ≤ b3 := Nat.le_trans Z0 (Nat.le_of_eq g_b3.symm)
  have sz_b3 : h0.size ≤ b3 := Nat.le_trans (Keep.refl h0 []).1 (Nat.le_of_eq g_b3.symm)
  have V3 := Bar.new A3 pr1.1
  let LL4 : Array Slot := #[.val (.ref a), .val (.int n), .val (.ref b3)]
  have f5 := (Bar.ext pr0 E3)
  obtain ⟨cl_a6, Ar_a6, q_a6, S_a6, N_a6, H_a6⟩ := id f5
  have z8 : n0 ≤ _ := (Nat.le_trans Z0 E3.1)
  obtain ⟨_, _, ⟨T7, L7, k7, n7⟩, -, X7, ⟨Lc7, hQ7, l7, y7, z7⟩, st7⟩ := Jvm.LawKit.callS X3 hx (y := (⟨"java/lang/Math", "min", "(II)I"⟩ : MethodName)) hown (mvT hZ (hw _ (List.mem_of_getElem? (i := 73) rfl))) (mvT hZ (hw _ (List.mem_of_getElem? (i := 74) rfl))) (mvT hZ (hw _ (List.mem_of_getElem? (i := 75) rfl))) (mvT hZ (hw _ (List.mem_of_getElem? (i := 76) rfl))) (by decide) (backOf (W := 4) (rm2 l Z a0 hw [] z n h3 n0 z8 ) hZ (hw _ (List.mem_of_getElem? (i := 76) rfl)) (hw _ (List.mem_of_getElem? (i := 75) rfl)) (by decide) (by decide)) (g := (mkF m 25 LL4 [(.int n), (.int z), (.int (0 : Int32)), (.ref b3), (.int (0 : Int32)), (.ref a)])) rfl (by rw [hml]; rfl) (argsL := [(.int z), (.int n)]) (rest := [(.int (0 : Int32)), (.ref b3), (.int (0 : Int32)), (.ref a)]) (lenOf pd_0 rfl) rfl (by show 2 * 0 + _ ≤ _; exact Nat.le_of_eq rfl) (hb hby d3_25) (fun _ _ => ⟨rfl, e3, (by decide : 1 + 0 ≤ _), (by decide : 600 + 0 ≤ _)⟩)
  dsimp only [Pt.U, Pt.locs, Pt.cells, Pt.slots] at X7 l7 y7 z7 st7 hQ7
  subst l7 y7 z7
  obtain ⟨rfl, Nq7, e7⟩ := hQ7
  have N7 := Fr.app N0 Nq7
  obtain ⟨T9, h9, L9, X9, e9, N9, K9, V9, st9⟩ := cpA X7 hx hZ hown (hw _ (List.mem_of_getElem? (i := 77) rfl)) (hw _ (List.mem_of_getElem? (i := 80) rfl)) (hw _ (List.mem_of_getElem? (i := 78) rfl)) (hw _ (List.mem_of_getElem? (i := 79) rfl)) e7 (Bar.arv f5) (Bar.arv V3) (Or.inl ⟨rfl, rfl⟩) (by decide) (by decide) (own_mn z n pr3 pr1.1).1 (own_mn z n pr3 pr1.1).2.1 (own_mn z n pr3 pr1.1).2.2 rfl (by rw [List.length_map, List.length_range]; exact (own_mn z n pr3 pr1.1).2.2) N7 ge_b3 (g := (mkF m 28 LL4 [(.int (F2 z n)), (.int (0 : Int32)), (.ref b3), (.int (0 : Int32)), (.ref a)])) rfl (by rw [hml]; rfl) (rest := []) rfl (hb hby d3_28) (by decide) (W := 0) (by show 2 * 0 + _ ≤ _; exact Nat.le_of_eq rfl) (by decide)
  have B9 : Bar Z h9 b3 k3 n (fun jj => if ((0 : Int32)).toNatClampNeg ≤ jj ∧ jj < ((0 : Int32)).toNatClampNeg + ((F2 z n)).toNatClampNeg then f (((0 : Int32)).toNatClampNeg + (jj - ((0 : Int32)).toNatClampNeg)) else (fun _ => (0 : Int32)) jj) := Bar.of V9 (fun i hi => own_cpl _ _ _ _ _ _ _ (own_mn z n pr3 pr1.1).2.1 (own_mn z n pr3 pr1.1).2.2 i hi)
  have P10 : ∀ t, Steps p.tables e below (T9.setTop (mkF m 32 LL4 [(.ref b3)])) t → Steps p.tables e below ST t := by
    intro t kk
    refine pre0 _ ?_
    show Steps p.tables e below (s₁.setTop (mkF m 0 LL1 [])) _
    refine XS.iloadN X0.here hx rfl (hb hby d3_0) rfl ?_
    show Steps p.tables e below (s₁.setTop (mkF m 1 LL1 [(.int n)])) _
    refine XS.aloadN X0.here hx rfl (hb hby d3_1) rfl rfl ?_
    show Steps p.tables e below (s₁.setTop (mkF m 2 LL1 [(.ref a), (.int n)])) _
    refine X0.arraylength hx (by rw [e0]; exact Ar_a2.1) (State.isArrayOf_alike hZ.alike Ar_a2.2.1) (g := (mkF m 2 LL1 [(.ref a), (.int n)])) rfl rfl (hb hby d3_2) _ ?_
    rw [len_of S_a2 N_a2]
    show Steps p.tables e below (s₁.setTop (mkF m 3 LL1 [(.int z), (.int n)])) _
    refine XS.icmpYes X0.here hx rfl (pc0 := 3) (pc' := 14) rfl (hb hby d3_3) rfl (XT.ii_ne_t pr2) (by decide) (by decide) ?_
    show Steps p.tables e below (s₁.setTop (mkF m 14 LL1 [])) _
    refine XS.iloadN X0.here hx rfl (hb hby d3_14) rfl ?_
    show Steps p.tables e below (s₁.setTop (mkF m 15 LL1 [(.int n)])) _
    refine st3 _ ?_
    show Steps p.tables e below (T3.setTop (mkF m 17 LL1 [(.ref b3)])) _
    refine XS.astoreN X3.here hx rfl (hb hby d3_17) rfl rfl (l' := LL4) rfl ?_
    show Steps p.tables e below (T3.setTop (mkF m 18 LL4 [])) _
    refine XS.aloadN X3.here hx rfl (hb hby d3_18) rfl rfl ?_
    show Steps p.tables e below (T3.setTop (mkF m 19 LL4 [(.ref a)])) _
    refine XS.iconst X3.here hx rfl (hb hby d3_19) ?_
    show Steps p.tables e below (T3.setTop (mkF m 20 LL4 [(.int (0 : Int32)), (.ref a)])) _
    refine XS.aloadN X3.here hx rfl (hb hby d3_20) rfl rfl ?_
    show Steps p.tables e below (T3.setTop (mkF m 21 LL4 [(.ref b3), (.int (0 : Int32)), (.ref a)])) _
    refine XS.iconst X3.here hx rfl (hb hby d3_21) ?_
    show Steps p.tables e below (T3.setTop (mkF m 22 LL4 [(.int (0 : Int32)), (.ref b3), (.int (0 : Int32)), (.ref a)])) _
    refine XS.aloadN X3.here hx rfl (hb hby d3_22) rfl rfl ?_
    show Steps p.tables e below (T3.setTop (mkF m 23 LL4 [(.ref a), (.int (0 : Int32)), (.ref b3), (.int (0 : Int32)), (.ref a)])) _
    refine X3.arraylength hx (by rw [e3]; exact Ar_a6.1) (State.isArrayOf_alike hZ.alike Ar_a6.2.1) (g := (mkF m 23 LL4 [(.ref a), (.int (0 : Int32)), (.ref b3), (.int (0 : Int32)), (.ref a)])) rfl rfl (hb hby d3_23) _ ?_
    rw [len_of S_a6 N_a6]
    show Steps p.tables e below (T3.setTop (mkF m 24 LL4 [(.int z), (.int (0 : Int32)), (.ref b3), (.int (0 : Int32)), (.ref a)])) _
    refine XS.iloadN X3.here hx rfl (hb hby d3_24) rfl ?_
    show Steps p.tables e below (T3.setTop (mkF m 25 LL4 [(.int n), (.int z), (.int (0 : Int32)), (.ref b3), (.int (0 : Int32)), (.ref a)])) _
    refine st7 _ ?_
    show Steps p.tables e below (T7.setTop (mkF m 28 LL4 [(.int (F2 z n)), (.int (0 : Int32)), (.ref b3), (.int (0 : Int32)), (.ref a)])) _
    refine st9 _ ?_
    show Steps p.tables e below (T9.setTop (mkF m 31 LL4 [])) _
    refine XS.aloadN X9.here hx rfl (hb hby d3_31) rfl rfl ?_
    show Steps p.tables e below (T9.setTop (mkF m 32 LL4 [(.ref b3)])) _
    exact kk
  have k11 : Keep h0 h9 [] := (Keep.trans (Keep.ext (Keep.refl h0 []) E3) K9 (allS (Or.inr sz_b3) all0))
  obtain ⟨fs, hr, hrun, hended, hW, hsame⟩ := X9.leave (v := some (.ref b3)) (fun h => by rw [Bd.returns] at h; cases h)
  refine ⟨_, _, P10 _ ?_, hrun, hended, _, _, rfl, ?_, ⟨_, rfl⟩, hW, hsame.mono (by decide) (by decide)⟩
  · exact X9.areturnOut hx rfl Bd.returns rfl (hb hby d3_32) hr
  · show Q3 Z a n k z f h0 n0 _ T9.heap _
    rw [e9]
    exact ⟨b3, k3, rfl, N9, k11, (Bar.cg B9 (fun i _ => own_cpeq z n pr3 pr1.1 f i)), sz_b3⟩
theorem d4_0 : decode jdk_71_method_1_code 0 = .ok (.aload_n 0, 1) := by decide +kernel
theorem d4_1 : decode jdk_71_method_1_code 1 = .ok (.invokespecial 1, 3) := by decide +kernel
theorem d4_4 : decode jdk_71_method_1_code 4 = .ok (.return_, 1) := by decide +kernel
theorem ef_4 (m : MethodId) (x0 : Addr) : entryFrame m #[(.ref x0)] 1 = (mkF m 0 #[.val (.ref x0)] []) := by first | (simp [entryFrame, mkF, argsToLocals, Value.category]; done) | rfl
def Q4 (Z : State) (a : Addr) (h0 : Heap) (n0 : Nat) (vX : Option Value) (hX : Heap) (lX : List Loc) : Prop := vX = none ∧ Fr n0 lX ∧ (hX = h0)
set_option maxRecDepth 65536 in
set_option maxHeartbeats 40000000 in
theorem rm4 (l : Launch) (Z : State) (a0 : Array Value) (hw : ∀ d ∈ tables_1, d.before a0 Z = true) (ws : List Jvm.Cond) (a : Addr) (h0 : Heap) (n0 : Nat) (Z0 : n0 ≤ h0.size)  :
    MetFree l (⟨"java/util/AbstractMap", "<init>", "()V"⟩ : MethodName) (head1 (Jvm.Cond.code (⟨"java/util/AbstractMap", "<init>", "()V"⟩ : MethodName) jdk_71_method_1_code 1 none :: ws) ({ frames := 1, cells := 0, slots := 0, locals := 12 } : Room)) (fun aX uX => aX = #[(.ref a)] ∧ Z.Warmed39 uX.vm ∧ uX.heap = h0) (fun _ _ _ _ _ => True) (fun _ uX oX wX => ∃ vX lX, oX = .returned vX ∧ Q4 Z a h0 n0 vX wX.heap lX ∧ FrameEnd uX oX wX lX ({ frames := 1, cells := 0, slots := 0, locals := 12 } : Room).cells ({ frames := 1, cells := 0, slots := 0, locals := 12 } : Room).slots) := by
  refine MetFree.of_bodySF (plainFor_of_name pn_1) hisR ?_
  intro p e s m args below meth c s₁ Bd hml0 hP hK
  obtain ⟨rfl, hZ, hh⟩ := hP
  have hx := Bd.exec
  have hby := Bd.bytes
  have hml : c.maxLocals = 1 := hml0
  have hown : s.vm.findClass "java/util/AbstractMap" = some m.cls := findClass_of_methodNamed Bd.named
  have hnm := (name_of_methodNamed Bd.named Bd.method).1
  have X0 : Stand p l e ({ frames := 1, cells := 0, slots := 0, locals := 12 } : Room) s m #[(.ref a)] below meth c s₁ [] 0 0 := Stand.of_body Bd
  have e0 : s₁.heap = h0 := by rw [← hh, Bd.state]; rfl
  have N0 := Fr.nil n0
  let ST : State := (s₁.setTop (entryFrame m #[(.ref a)] 1))
  have pre0 : ∀ t, Steps p.tables e below (s₁.setTop (mkF m 0 #[.val (.ref a)] [])) t → Steps p.tables e below ST t := fun t k => castTop (ef_4 m a) k
  let LL1 : Array Slot := #[.val (.ref a)]
  obtain ⟨T2, X2, e2, st2⟩ := initO X0 hx hZ hown (hw _ (List.mem_of_getElem? (i := 52) rfl)) (hw _ (List.mem_of_getElem? (i := 12) rfl)) (hw _ (List.mem_of_getElem? (i := 13) rfl)) e0 (g := (mkF m 1 LL1 [(.ref a)])) rfl (by rw [hml]; rfl) rfl (hb hby d4_1) (by decide) (W := 0) (by show 2 * 0 + _ ≤ _; exact Nat.le_of_eq rfl) (by decide)
  have P3 : ∀ t, Steps p.tables e below (T2.setTop (mkF m 4 LL1 [])) t → Steps p.tables e below ST t := by
    intro t kk
    refine pre0 _ ?_
    show Steps p.tables e below (s₁.setTop (mkF m 0 LL1 [])) _
    refine XS.aloadN X0.here hx rfl (hb hby d4_0) rfl rfl ?_
    show Steps p.tables e below (s₁.setTop (mkF m 1 LL1 [(.ref a)])) _
    refine st2 _ ?_
    show Steps p.tables e below (T2.setTop (mkF m 4 LL1 [])) _
    exact kk
  obtain ⟨fs, hr, hrun, hended, hW, hsame⟩ := X2.leave (v := none) (fun _ => rfl)
  refine ⟨_, _, P3 _ ?_, hrun, hended, _, _, rfl, ?_, ⟨_, rfl⟩, hW, hsame.mono (by decide) (by decide)⟩
  · exact X2.returnOut hx Bd.returns (hb hby d4_4) hr
  · show Q4 Z a h0 n0 _ T2.heap _
    rw [e2]
    exact ⟨rfl, N0, rfl⟩
theorem d5_0 : decode jdk_69_method_7_code 0 = .ok (.aload_n 0, 1) := by decide +kernel
theorem d5_1 : decode jdk_69_method_7_code 1 = .ok (.invokespecial 43, 3) := by decide +kernel
theorem d5_4 : decode jdk_69_method_7_code 4 = .ok (.aload_n 0, 1) := by decide +kernel
theorem d5_5 : decode jdk_69_method_7_code 5 = .ok (.ldc 92, 2) := by decide +kernel
theorem d5_7 : decode jdk_69_method_7_code 7 = .ok (.putfield 81, 3) := by decide +kernel
theorem d5_10 : decode jdk_69_method_7_code 10 = .ok (.return_, 1) := by decide +kernel
theorem ef_5 (m : MethodId) (x0 : Addr) : entryFrame m #[(.ref x0)] 1 = (mkF m 0 #[.val (.ref x0)] []) := by first | (simp [entryFrame, mkF, argsToLocals, Value.category]; done) | rfl
def Q5 (Z : State) (a : Addr) (h0 : Heap) (n0 : Nat) (vX : Option Value) (hX : Heap) (lX : List Loc) : Prop := vX = none ∧ Fr n0 lX ∧ (Keep h0 hX [a]) ∧ (Fld Z hX a "java/util/HashMap" "loadFactor" "F" (.float (1061158912 : UInt32))) ∧ (Fld Z hX a "java/util/HashMap" "table" "[Ljava/util/HashMap$Node;" .null) ∧ (Fld Z hX a "java/util/HashMap" "size" "I" (.int (0 : Int32))) ∧ (Fld Z hX a "java/util/HashMap" "threshold" "I" (.int (0 : Int32))) ∧ (Fld Z hX a "java/util/HashMap" "modCount" "I" (.int (0 : Int32)))
set_option maxRecDepth 65536 in
set_option maxHeartbeats 40000000 in
theorem rm5 (l : Launch) (Z : State) (a0 : Array Value) (hw : ∀ d ∈ tables_1, d.before a0 Z = true) (ws : List Jvm.Cond) (a : Addr) (h0 : Heap) (n0 : Nat) (Z0 : n0 ≤ h0.size) (pr0 : Exa Z h0 a "java/util/HashMap") (pr1 : Fld Z h0 a "java/util/HashMap" "loadFactor" "F" (.float (0 : UInt32))) (pr2 : Fld Z h0 a "java/util/HashMap" "table" "[Ljava/util/HashMap$Node;" .null) (pr3 : Fld Z h0 a "java/util/HashMap" "size" "I" (.int (0 : Int32))) (pr4 : Fld Z h0 a "java/util/HashMap" "threshold" "I" (.int (0 : Int32))) (pr5 : Fld Z h0 a "java/util/HashMap" "modCount" "I" (.int (0 : Int32))) (pr6 : n0 ≤ a) :
    MetFree l (⟨"java/util/HashMap", "<init>", "()V"⟩ : MethodName) (head1 (Jvm.Cond.code (⟨"java/util/HashMap", "<init>", "()V"⟩ : MethodName) jdk_69_method_7_code 1 none :: ws) ({ frames := 2, cells := 0, slots := 0, locals := 24 } : Room)) (fun aX uX => aX = #[(.ref a)] ∧ Z.Warmed39 uX.vm ∧ uX.heap = h0) (fun _ _ _ _ _ => True) (fun _ uX oX wX => ∃ vX lX, oX = .returned vX ∧ Q5 Z a h0 n0 vX wX.heap lX ∧ FrameEnd uX oX wX lX ({ frames := 2, cells := 0, slots := 0, locals := 24 } : Room).cells ({ frames := 2, cells := 0, slots := 0, locals := 24 } : Room).slots) := by
  refine MetFree.of_bodySF (plainFor_of_name pn_2) hisR ?_
  intro p e s m args below meth c s₁ Bd hml0 hP hK
  obtain ⟨rfl, hZ, hh⟩ := hP
  have hx := Bd.exec
  have hby := Bd.bytes
  have hml : c.maxLocals = 1 := hml0
  have hown : s.vm.findClass "java/util/HashMap" = some m.cls := findClass_of_methodNamed Bd.named
  have hnm := (name_of_methodNamed Bd.named Bd.method).1
  have X0 : Stand p l e ({ frames := 2, cells := 0, slots := 0, locals := 24 } : Room) s m #[(.ref a)] below meth c s₁ [] 0 0 := Stand.of_body Bd
  have e0 : s₁.heap = h0 := by rw [← hh, Bd.state]; rfl
  have N0 := Fr.nil n0
  let ST : State := (s₁.setTop (entryFrame m #[(.ref a)] 1))
  have pre0 : ∀ t, Steps p.tables e below (s₁.setTop (mkF m 0 #[.val (.ref a)] [])) t → Steps p.tables e below ST t := fun t k => castTop (ef_5 m a) k
  let LL1 : Array Slot := #[.val (.ref a)]
  obtain ⟨_, _, ⟨T2, L2, k2, n2⟩, -, X2, ⟨Lc2, hQ2, l2, y2, z2⟩, st2⟩ := X0.specialBack hx (y := (⟨"java/util/AbstractMap", "<init>", "()V"⟩ : MethodName)) rfl hown (mvT hZ (hw _ (List.mem_of_getElem? (i := 46) rfl))) (mvT hZ (hw _ (List.mem_of_getElem? (i := 47) rfl))) (mvT hZ (hw _ (List.mem_of_getElem? (i := 51) rfl))) (by decide) (backOf (W := 0) (rm4 l Z a0 hw [] a h0 n0 Z0 ) hZ (hw _ (List.mem_of_getElem? (i := 51) rfl)) (hw _ (List.mem_of_getElem? (i := 50) rfl)) (by decide) (by decide)) (g := (mkF m 1 LL1 [(.ref a)])) rfl (by rw [hml]; rfl) (Steps.refl _) (a := a) (argsL := []) (rest := []) (lenOf pd_1 rfl) rfl (by show 2 * 0 + _ ≤ _; exact Nat.le_of_eq rfl) (hb hby d5_1) (fun _ _ => ⟨rfl, e0, (by decide : 0 + 0 ≤ _), (by decide : 0 + 0 ≤ _)⟩)
  dsimp only [Pt.U, Pt.locs, Pt.cells, Pt.slots] at X2 l2 y2 z2 st2 hQ2
  subst l2 y2 z2
  obtain ⟨rfl, Nq2, e2⟩ := hQ2
  have N2 := Fr.app N0 Nq2
  obtain ⟨T3, h3, X3, e3, W3, st3⟩ := putF X2 hx hZ hown (host := "") (Or.inl (hw _ (List.mem_of_getElem? (i := 54) rfl))) Via.refl e2 pr1 pr0 (Or.inr ⟨(hw _ (List.mem_of_getElem? (i := 55) rfl)), rfl, hnm⟩) (hw _ (List.mem_of_getElem? (i := 41) rfl)) (ty := .float) (by decide) rfl rfl (g := (mkF m 7 LL1 [(.float (1061158912 : UInt32)), (.ref a)])) rfl rfl (hb hby d5_7)
  have N3 := Fr.snoc X3 N2 pr6
  have Fw3 := Fld.same W3 pr1
  have P4 : ∀ t, Steps p.tables e below (T3.setTop (mkF m 10 LL1 [])) t → Steps p.tables e below ST t := by
    intro t kk
    refine pre0 _ ?_
    show Steps p.tables e below (s₁.setTop (mkF m 0 LL1 [])) _
    refine XS.aloadN X0.here hx rfl (hb hby d5_0) rfl rfl ?_
    show Steps p.tables e below (s₁.setTop (mkF m 1 LL1 [(.ref a)])) _
    refine st2.trans ?_
    show Steps p.tables e below (T2.setTop (mkF m 4 LL1 [])) _
    refine XS.aloadN X2.here hx rfl (hb hby d5_4) rfl rfl ?_
    show Steps p.tables e below (T2.setTop (mkF m 5 LL1 [(.ref a)])) _
    refine X2.ldcFloatC hx hown (mvT hZ (hw _ (List.mem_of_getElem? (i := 53) rfl))) (g := (mkF m 5 LL1 [(.ref a)])) rfl (hb hby d5_5) _ ?_
    show Steps p.tables e below (T2.setTop (mkF m 7 LL1 [(.float (1061158912 : UInt32)), (.ref a)])) _
    refine st3 _ ?_
    show Steps p.tables e below (T3.setTop (mkF m 10 LL1 [])) _
    exact kk
  have k5 : Keep h0 h3 [a] := (Keep.wr (Keep.refl h0 [a]) W3 (Or.inl (List.mem_of_getElem? (i := 0) rfl)))
  have f6 := (Fld.other W3 pr2 (Or.inr (slot_ne (Or.inl (hw _ (List.mem_of_getElem? (i := 118) rfl))) (Or.inr (hw _ (List.mem_of_getElem? (i := 55) rfl))) (by decide) (t := (.array (.object "java/util/HashMap$Node"))) (t' := .float) (by decide) (by decide))))
  have f7 := (Fld.other W3 pr3 (Or.inr (slot_ne (Or.inl (hw _ (List.mem_of_getElem? (i := 164) rfl))) (Or.inr (hw _ (List.mem_of_getElem? (i := 55) rfl))) (by decide) (t := .int) (t' := .float) (by decide) (by decide))))
  have f8 := (Fld.other W3 pr4 (Or.inr (slot_ne (Or.inl (hw _ (List.mem_of_getElem? (i := 222) rfl))) (Or.inr (hw _ (List.mem_of_getElem? (i := 55) rfl))) (by decide) (t := .int) (t' := .float) (by decide) (by decide))))
  have f9 := (Fld.other W3 pr5 (Or.inr (slot_ne (Or.inl (hw _ (List.mem_of_getElem? (i := 246) rfl))) (Or.inr (hw _ (List.mem_of_getElem? (i := 55) rfl))) (by decide) (t := .int) (t' := .float) (by decide) (by decide))))
  obtain ⟨fs, hr, hrun, hended, hW, hsame⟩ := X3.leave (v := none) (fun _ => rfl)
  refine ⟨_, _, P4 _ ?_, hrun, hended, _, _, rfl, ?_, ⟨_, rfl⟩, hW, hsame.mono (by decide) (by decide)⟩
  · exact X3.returnOut hx Bd.returns (hb hby d5_10) hr
  · show Q5 Z a h0 n0 _ T3.heap _
    rw [e3]
    exact ⟨rfl, N3, k5, Fw3, f6, f7, f8, f9⟩
theorem d6_0 : decode prog_25_method_9_code 0 = .ok (.aload_n 0, 1) := by decide +kernel
theorem d6_1 : decode prog_25_method_9_code 1 = .ok (.getfield 7, 3) := by decide +kernel
theorem d6_4 : decode prog_25_method_9_code 4 = .ok (.arraylength, 1) := by decide +kernel
theorem d6_5 : decode prog_25_method_9_code 5 = .ok (.aload_n 0, 1) := by decide +kernel
theorem d6_6 : decode prog_25_method_9_code 6 = .ok (.getfield 24, 3) := by decide +kernel
theorem d6_9 : decode prog_25_method_9_code 9 = .ok (.isub, 1) := by decide +kernel
theorem d6_10 : decode prog_25_method_9_code 10 = .ok (.iload_n 1, 1) := by decide +kernel
theorem d6_11 : decode prog_25_method_9_code 11 = .ok (.if_icmp .ge 30, 3) := by decide +kernel
theorem d6_41 : decode prog_25_method_9_code 41 = .ok (.return_, 1) := by decide +kernel
theorem ef_6 (m : MethodId) (x0 : Addr) (x1 : Int32) : entryFrame m #[(.ref x0), (.int x1)] 2 = (mkF m 0 #[.val (.ref x0), .val (.int x1)] []) := by first | (simp [entryFrame, mkF, argsToLocals, Value.category]; done) | rfl
def Q6 (Z : State) (a : Addr) (n : Int32) (b : Addr) (k : ClassId) (z : Int32) (f : Nat → Int32) (q : Int32) (h0 : Heap) (n0 : Nat) (vX : Option Value) (hX : Heap) (lX : List Loc) : Prop := vX = none ∧ Fr n0 lX ∧ (hX = h0)
set_option maxRecDepth 65536 in
set_option maxHeartbeats 40000000 in
theorem rm6 (l : Launch) (Z : State) (a0 : Array Value) (hw : ∀ d ∈ tables_1, d.before a0 Z = true) (ws : List Jvm.Cond) (a : Addr) (n : Int32) (b : Addr) (k : ClassId) (z : Int32) (f : Nat → Int32) (q : Int32) (h0 : Heap) (n0 : Nat) (Z0 : n0 ≤ h0.size) (pr0 : Exa Z h0 a "com/example/meterwright/meterwright/RecordBody$Writer") (pr1 : Fld Z h0 a "com/example/meterwright/meterwright/RecordBody$Writer" "bytes" "[B" (.ref b)) (pr2 : Fld Z h0 a "com/example/meterwright/meterwright/RecordBody$Writer" "size" "I" (.int q)) (pr3 : Bar Z h0 b k z f) (pr4 : ¬ (z - q) < n) :
    MetFree l (⟨"com/example/meterwright/meterwright/RecordBody$Writer", "room", "(I)V"⟩ : MethodName) (head1 (Jvm.Cond.code (⟨"com/example/meterwright/meterwright/RecordBody$Writer", "room", "(I)V"⟩ : MethodName) prog_25_method_9_code 2 none :: ws) ({ frames := 0, cells := 0, slots := 0, locals := 0 } : Room)) (fun aX uX => aX = #[(.ref a), (.int n)] ∧ Z.Warmed39 uX.vm ∧ uX.heap = h0) (fun _ _ _ _ _ => True) (fun _ uX oX wX => ∃ vX lX, oX = .returned vX ∧ Q6 Z a n b k z f q h0 n0 vX wX.heap lX ∧ FrameEnd uX oX wX lX ({ frames := 0, cells := 0, slots := 0, locals := 0 } : Room).cells ({ frames := 0, cells := 0, slots := 0, locals := 0 } : Room).slots) := by
  refine MetFree.of_bodySF (plainFor_of_name pn_3) hisR ?_
  intro p e s m args below meth c s₁ Bd hml0 hP hK
  obtain ⟨rfl, hZ, hh⟩ := hP
  have hx := Bd.exec
  have hby := Bd.bytes
  have hml : c.maxLocals = 2 := hml0
  have hown : s.vm.findClass "com/example/meterwright/meterwright/RecordBody$Writer" = some m.cls := findClass_of_methodNamed Bd.named
  have hnm := (name_of_methodNamed Bd.named Bd.method).1
  have X0 : Stand p l e ({ frames := 0, cells := 0, slots := 0, locals := 0 } : Room) s m #[(.ref a), (.int n)] below meth c s₁ [] 0 0 := Stand.of_body Bd
  have e0 : s₁.heap = h0 := by rw [← hh, Bd.state]; rfl
  have N0 := Fr.nil n0
  let ST : State := (s₁.setTop (entryFrame m #[(.ref a), (.int n)] 2))
  have pre0 : ∀ t, Steps p.tables e below (s₁.setTop (mkF m 0 #[.val (.ref a), .val (.int n)] [])) t → Steps p.tables e below ST t := fun t k => castTop (ef_6 m a n) k
  let LL1 : Array Slot := #[.val (.ref a), .val (.int n)]
  obtain ⟨T2, X2, e2, st2⟩ := getF X0 hx hZ hown (host := "") (Or.inl (hw _ (List.mem_of_getElem? (i := 38) rfl))) Via.refl e0 pr1 (g := (mkF m 1 LL1 [(.ref a)])) rfl rfl (hb hby d6_1)
  obtain ⟨cl_a3, Ar_a3, q_a3, S_a3, N_a3, H_a3⟩ := id pr3
  obtain ⟨T4, X4, e4, st4⟩ := getF X2 hx hZ hown (host := "") (Or.inl (hw _ (List.mem_of_getElem? (i := 62) rfl))) Via.refl e2 pr2 (g := (mkF m 6 LL1 [(.ref a), (.int z)])) rfl rfl (hb hby d6_6)
  have P5 : ∀ t, Steps p.tables e below (T4.setTop (mkF m 41 LL1 [])) t → Steps p.tables e below ST t := by
    intro t kk
    refine pre0 _ ?_
    show Steps p.tables e below (s₁.setTop (mkF m 0 LL1 [])) _
    refine XS.aloadN X0.here hx rfl (hb hby d6_0) rfl rfl ?_
    show Steps p.tables e below (s₁.setTop (mkF m 1 LL1 [(.ref a)])) _
    refine st2 _ ?_
    show Steps p.tables e below (T2.setTop (mkF m 4 LL1 [(.ref b)])) _
    refine X2.arraylength hx (by rw [e2]; exact Ar_a3.1) (State.isArrayOf_alike hZ.alike Ar_a3.2.1) (g := (mkF m 4 LL1 [(.ref b)])) rfl rfl (hb hby d6_4) _ ?_
    rw [len_of S_a3 N_a3]
    show Steps p.tables e below (T2.setTop (mkF m 5 LL1 [(.int z)])) _
    refine XS.aloadN X2.here hx rfl (hb hby d6_5) rfl rfl ?_
    show Steps p.tables e below (T2.setTop (mkF m 6 LL1 [(.ref a), (.int z)])) _
    refine st4 _ ?_
    show Steps p.tables e below (T4.setTop (mkF m 9 LL1 [(.int q), (.int z)])) _
    refine XS.isub X4.here hx rfl (hb hby d6_9) rfl ?_
    show Steps p.tables e below (T4.setTop (mkF m 10 LL1 [(.int (z - q))])) _
    refine XS.iloadN X4.here hx rfl (hb hby d6_10) rfl ?_
    show Steps p.tables e below (T4.setTop (mkF m 11 LL1 [(.int n), (.int (z - q))])) _
    refine XS.icmpYes X4.here hx rfl (pc0 := 11) (pc' := 41) rfl (hb hby d6_11) rfl (XT.ii_ge_t pr4) (by decide) (by decide) ?_
    show Steps p.tables e below (T4.setTop (mkF m 41 LL1 [])) _
    exact kk
  obtain ⟨fs, hr, hrun, hended, hW, hsame⟩ := X4.leave (v := none) (fun _ => rfl)
  refine ⟨_, _, P5 _ ?_, hrun, hended, _, _, rfl, ?_, ⟨_, rfl⟩, hW, hsame.mono (by decide) (by decide)⟩
  · exact X4.returnOut hx Bd.returns (hb hby d6_41) hr
  · show Q6 Z a n b k z f q h0 n0 _ T4.heap _
    rw [e4]
    exact ⟨rfl, N0, rfl⟩
theorem d7_0 : decode prog_25_method_3_code 0 = .ok (.aload_n 0, 1) := by decide +kernel
theorem d7_1 : decode prog_25_method_3_code 1 = .ok (.bipush 10, 2) := by decide +kernel
theorem d7_3 : decode prog_25_method_3_code 3 = .ok (.invokevirtual 20, 3) := by decide +kernel
theorem d7_6 : decode prog_25_method_3_code 6 = .ok (.lload_n 1, 1) := by decide +kernel
theorem d7_7 : decode prog_25_method_3_code 7 = .ok (.ldc2_w 32, 3) := by decide +kernel
theorem d7_10 : decode prog_25_method_3_code 10 = .ok (.land, 1) := by decide +kernel
theorem d7_11 : decode prog_25_method_3_code 11 = .ok (.lconst 0, 1) := by decide +kernel
theorem d7_12 : decode prog_25_method_3_code 12 = .ok (.lcmp, 1) := by decide +kernel
theorem d7_13 : decode prog_25_method_3_code 13 = .ok (.ifCond .eq 34, 3) := by decide +kernel
theorem d7_47 : decode prog_25_method_3_code 47 = .ok (.aload_n 0, 1) := by decide +kernel
theorem d7_48 : decode prog_25_method_3_code 48 = .ok (.getfield 7, 3) := by decide +kernel
theorem d7_51 : decode prog_25_method_3_code 51 = .ok (.aload_n 0, 1) := by decide +kernel
theorem d7_52 : decode prog_25_method_3_code 52 = .ok (.dup, 1) := by decide +kernel
theorem d7_53 : decode prog_25_method_3_code 53 = .ok (.getfield 24, 3) := by decide +kernel
theorem d7_56 : decode prog_25_method_3_code 56 = .ok (.dup_x1, 1) := by decide +kernel
theorem d7_57 : decode prog_25_method_3_code 57 = .ok (.iconst 1, 1) := by decide +kernel
theorem d7_58 : decode prog_25_method_3_code 58 = .ok (.iadd, 1) := by decide +kernel
theorem d7_59 : decode prog_25_method_3_code 59 = .ok (.putfield 24, 3) := by decide +kernel
theorem d7_62 : decode prog_25_method_3_code 62 = .ok (.lload_n 1, 1) := by decide +kernel
theorem d7_63 : decode prog_25_method_3_code 63 = .ok (.l2i, 1) := by decide +kernel
theorem d7_64 : decode prog_25_method_3_code 64 = .ok (.i2b, 1) := by decide +kernel
theorem d7_65 : decode prog_25_method_3_code 65 = .ok (.bastore, 1) := by decide +kernel
theorem d7_66 : decode prog_25_method_3_code 66 = .ok (.return_, 1) := by decide +kernel
theorem ef_7 (m : MethodId) (x0 : Addr) (x1 : Int64) : entryFrame m #[(.ref x0), (.long x1)] 3 = (mkF m 0 #[.val (.ref x0), .val (.long x1), .second] []) := by first | (simp [entryFrame, mkF, argsToLocals, Value.category]; done) | rfl
def Q7 (Z : State) (a : Addr) (v : Int64) (b : Addr) (k : ClassId) (z : Int32) (f : Nat → Int32) (q : Int32) (tm : Addr) (h0 : Heap) (n0 : Nat) (vX : Option Value) (hX : Heap) (lX : List Loc) : Prop := vX = none ∧ Fr n0 lX ∧ (Keep h0 hX [a, b]) ∧ (Bar Z hX b k z (own_w0 q v f)) ∧ (Fld Z hX a "com/example/meterwright/meterwright/RecordBody$Writer" "size" "I" (.int (q + (1 : Int32)))) ∧ (Fld Z hX a "com/example/meterwright/meterwright/RecordBody$Writer" "bytes" "[B" (.ref b)) ∧ (Fld Z hX a "com/example/meterwright/meterwright/RecordBody$Writer" "texts" "Ljava/util/Map;" (.ref tm))
set_option maxRecDepth 65536 in
set_option maxHeartbeats 40000000 in
theorem rm7 (l : Launch) (Z : State) (a0 : Array Value) (hw : ∀ d ∈ tables_1, d.before a0 Z = true) (ws : List Jvm.Cond) (a : Addr) (v : Int64) (b : Addr) (k : ClassId) (z : Int32) (f : Nat → Int32) (q : Int32) (tm : Addr) (h0 : Heap) (n0 : Nat) (Z0 : n0 ≤ h0.size) (pr0 : Exa Z h0 a "com/example/meterwright/meterwright/RecordBody$Writer") (pr1 : Fld Z h0 a "com/example/meterwright/meterwright/RecordBody$Writer" "bytes" "[B" (.ref b)) (pr2 : Fld Z h0 a "com/example/meterwright/meterwright/RecordBody$Writer" "size" "I" (.int q)) (pr3 : Bar Z h0 b k z f) (pr4 : ¬ q < 0 ∧ q.toInt + 10 ≤ z.toInt) (pr5 : n0 ≤ a) (pr6 : n0 ≤ b) (pr7 : a ≠ b) (pr8 : 0 ≤ v.toInt ∧ v.toInt < 128) (pr9 : Fld Z h0 a "com/example/meterwright/meterwright/RecordBody$Writer" "texts" "Ljava/util/Map;" (.ref tm)) :
    MetFree l (⟨"com/example/meterwright/meterwright/RecordBody$Writer", "whole", "(J)V"⟩ : MethodName) (head1 (Jvm.Cond.code (⟨"com/example/meterwright/meterwright/RecordBody$Writer", "whole", "(J)V"⟩ : MethodName) prog_25_method_3_code 3 none :: ws) ({ frames := 1, cells := 0, slots := 0, locals := 13 } : Room)) (fun aX uX => aX = #[(.ref a), (.long v)] ∧ Z.Warmed39 uX.vm ∧ uX.heap = h0) (fun _ _ _ _ _ => True) (fun _ uX oX wX => ∃ vX lX, oX = .returned vX ∧ Q7 Z a v b k z f q tm h0 n0 vX wX.heap lX ∧ FrameEnd uX oX wX lX ({ frames := 1, cells := 0, slots := 0, locals := 13 } : Room).cells ({ frames := 1, cells := 0, slots := 0, locals := 13 } : Room).slots) := by
  refine MetFree.of_bodySF (plainFor_of_name pn_3) hisR ?_
  intro p e s m args below meth c s₁ Bd hml0 hP hK
  obtain ⟨rfl, hZ, hh⟩ := hP
  have hx := Bd.exec
  have hby := Bd.bytes
  have hml : c.maxLocals = 3 := hml0
  have hown : s.vm.findClass "com/example/meterwright/meterwright/RecordBody$Writer" = some m.cls := findClass_of_methodNamed Bd.named
  have hnm := (name_of_methodNamed Bd.named Bd.method).1
  have X0 : Stand p l e ({ frames := 1, cells := 0, slots := 0, locals := 13 } : Room) s m #[(.ref a), (.long v)] below meth c s₁ [] 0 0 := Stand.of_body Bd
  have e0 : s₁.heap = h0 := by rw [← hh, Bd.state]; rfl
  have N0 := Fr.nil n0
  let ST : State := (s₁.setTop (entryFrame m #[(.ref a), (.long v)] 3))
  have pre0 : ∀ t, Steps p.tables e below (s₁.setTop (mkF m 0 #[.val (.ref a), .val (.long v), .second] [])) t → Steps p.tables e below ST t := fun t k => castTop (ef_7 m a v) k
  let LL1 : Array Slot := #[.val (.ref a), .val (.long v), .second]
  obtain ⟨cq2, q2, q2'⟩ := pr0.cell
  obtain ⟨_, _, ⟨T2, L2, k2, n2⟩, -, X2, ⟨Lc2, hQ2, l2, y2, z2⟩, st2⟩ := X0.privateBack hx (y := (⟨"com/example/meterwright/meterwright/RecordBody$Writer", "room", "(I)V"⟩ : MethodName)) hown (mvT hZ (hw _ (List.mem_of_getElem? (i := 58) rfl))) (mvT hZ (hw _ (List.mem_of_getElem? (i := 59) rfl))) (own_selpriv (y := (⟨"com/example/meterwright/meterwright/RecordBody$Writer", "room", "(I)V"⟩ : MethodName)) (y' := (⟨"com/example/meterwright/meterwright/RecordBody$Writer", "toByteArray", "()[B"⟩ : MethodName)) rfl (mvT hZ (hw _ (List.mem_of_getElem? (i := 67) rfl))) (Cond.privateMethod_at (mvP hZ (hw _ (List.mem_of_getElem? (i := 60) rfl)) (args := #[]))) (mvT hZ (hw _ (List.mem_of_getElem? (i := 59) rfl))) (by decide)) (Cond.privateMethod_at (mvP hZ (hw _ (List.mem_of_getElem? (i := 60) rfl)) (args := #[]))) (mvT hZ (hw _ (List.mem_of_getElem? (i := 61) rfl))) (by decide) (backOf (W := 0) (rm6 l Z a0 hw [] a (10 : Int32) b k z f q h0 n0 Z0 pr0 pr1 pr2 pr3 (own_rm z q pr4.1 pr4.2).1) hZ (hw _ (List.mem_of_getElem? (i := 61) rfl)) (hw _ (List.mem_of_getElem? (i := 33) rfl)) (by decide) (by decide)) (g := (mkF m 3 LL1 [(.int (10 : Int32)), (.ref a)])) rfl (by rw [hml]; rfl) (Steps.refl _) (a := a) (by rw [e0]; exact q2) q2' (argsL := [(.int (10 : Int32))]) (rest := []) (lenOf pd_2 rfl) rfl (by show 2 * 0 + _ ≤ _; exact Nat.le_of_eq rfl) (hb hby d7_3) (fun _ _ => ⟨rfl, e0, (by decide : 0 + 0 ≤ _), (by decide : 0 + 0 ≤ _)⟩)
  dsimp only [Pt.U, Pt.locs, Pt.cells, Pt.slots] at X2 l2 y2 z2 st2 hQ2
  subst l2 y2 z2
  obtain ⟨rfl, Nq2, e2⟩ := hQ2
  have N2 := Fr.app N0 Nq2
  obtain ⟨T3, X3, e3, st3⟩ := getF X2 hx hZ hown (host := "") (Or.inl (hw _ (List.mem_of_getElem? (i := 38) rfl))) Via.refl e2 pr1 (g := (mkF m 48 LL1 [(.ref a)])) rfl rfl (hb hby d7_48)
  obtain ⟨T4, X4, e4, st4⟩ := getF X3 hx hZ hown (host := "") (Or.inl (hw _ (List.mem_of_getElem? (i := 62) rfl))) Via.refl e3 pr2 (g := (mkF m 53 LL1 [(.ref a), (.ref a), (.ref b)])) rfl rfl (hb hby d7_53)
  obtain ⟨T5, h5, X5, e5, W5, st5⟩ := putF X4 hx hZ hown (host := "") (Or.inl (hw _ (List.mem_of_getElem? (i := 62) rfl))) Via.refl e4 pr2 pr0 (Or.inl (hw _ (List.mem_of_getElem? (i := 63) rfl))) (hw _ (List.mem_of_getElem? (i := 32) rfl)) (ty := .int) (by decide) rfl rfl (g := (mkF m 59 LL1 [(.int (q + (1 : Int32))), (.ref a), (.int q), (.ref b)])) rfl rfl (hb hby d7_59)
  have N5 := Fr.snoc X5 N2 pr5
  have Fw5 := Fld.same W5 pr2
  have f6 := (Bar.other pr3 W5 (Ne.symm pr7))
  obtain ⟨cl_a7, Ar_a7, q_a7, S_a7, N_a7, H_a7⟩ := id f6
  have hin_a7 : ¬ (q < 0 ∨ cl_a7.slots.size ≤ (q).toNatClampNeg) := inb_of S_a7 (own_rm z q pr4.1 pr4.2).2.1
  obtain ⟨T8, h8, X8, e8, W8, st8⟩ := stB X5 hx hZ e5 Ar_a7 (j := q) hin_a7 (g := (mkF m 65 LL1 [(.int ((((v).toInt32)).toInt8.toInt32)), (.int q), (.ref b)])) rfl rfl (hb hby d7_65)
  have V8 := Bar.set Ar_a7 q_a7 S_a7 N_a7 H_a7 W8
  have N8 := Fr.snoc X8 N5 pr6
  have P9 : ∀ t, Steps p.tables e below (T8.setTop (mkF m 66 LL1 [])) t → Steps p.tables e below ST t := by
    intro t kk
    refine pre0 _ ?_
    show Steps p.tables e below (s₁.setTop (mkF m 0 LL1 [])) _
    refine XS.aloadN X0.here hx rfl (hb hby d7_0) rfl rfl ?_
    show Steps p.tables e below (s₁.setTop (mkF m 1 LL1 [(.ref a)])) _
    refine XS.bipush X0.here hx rfl (hb hby d7_1) ?_
    show Steps p.tables e below (s₁.setTop (mkF m 3 LL1 [(.int (10 : Int32)), (.ref a)])) _
    refine st2.trans ?_
    show Steps p.tables e below (T2.setTop (mkF m 6 LL1 [])) _
    refine XS.lloadN X2.here hx rfl (hb hby d7_6) rfl ?_
    show Steps p.tables e below (T2.setTop (mkF m 7 LL1 [(.long v)])) _
    refine X2.ldc2Long hx hown (mvT hZ (hw _ (List.mem_of_getElem? (i := 86) rfl))) (g := (mkF m 7 LL1 [(.long v)])) rfl (hb hby d7_7) _ ?_
    show Steps p.tables e below (T2.setTop (mkF m 10 LL1 [(.long (-128 : Int64)), (.long v)])) _
    refine XS.land X2.here hx rfl (hb hby d7_10) rfl ?_
    show Steps p.tables e below (T2.setTop (mkF m 11 LL1 [(.long (v &&& (-128 : Int64)))])) _
    refine XS.lconst X2.here hx rfl (hb hby d7_11) ?_
    show Steps p.tables e below (T2.setTop (mkF m 12 LL1 [(.long (0 : Int64)), (.long (v &&& (-128 : Int64)))])) _
    refine XT.lcmp X2.here hx rfl (hb hby d7_12) rfl ?_
    show Steps p.tables e below (T2.setTop (mkF m 13 LL1 [(.int (XT.cmpL (v &&& (-128 : Int64)) (0 : Int64)))])) _
    refine XS.ifYes X2.here hx rfl (pc0 := 13) (pc' := 47) rfl (hb hby d7_13) rfl (XT.ll_eq_t (own_small v pr8.1 pr8.2)) (by decide) (by decide) ?_
    show Steps p.tables e below (T2.setTop (mkF m 47 LL1 [])) _
    refine XS.aloadN X2.here hx rfl (hb hby d7_47) rfl rfl ?_
    show Steps p.tables e below (T2.setTop (mkF m 48 LL1 [(.ref a)])) _
    refine st3 _ ?_
    show Steps p.tables e below (T3.setTop (mkF m 51 LL1 [(.ref b)])) _
    refine XS.aloadN X3.here hx rfl (hb hby d7_51) rfl rfl ?_
    show Steps p.tables e below (T3.setTop (mkF m 52 LL1 [(.ref a), (.ref b)])) _
    refine XS.dup X3.here hx rfl (hb hby d7_52) rfl rfl ?_
    show Steps p.tables e below (T3.setTop (mkF m 53 LL1 [(.ref a), (.ref a), (.ref b)])) _
    refine st4 _ ?_
    show Steps p.tables e below (T4.setTop (mkF m 56 LL1 [(.int q), (.ref a), (.ref b)])) _
    refine XS.dupX1 X4.here hx rfl (hb hby d7_56) rfl rfl rfl ?_
    show Steps p.tables e below (T4.setTop (mkF m 57 LL1 [(.int q), (.ref a), (.int q), (.ref b)])) _
    refine XS.iconst X4.here hx rfl (hb hby d7_57) ?_
    show Steps p.tables e below (T4.setTop (mkF m 58 LL1 [(.int (1 : Int32)), (.int q), (.ref a), (.int q), (.ref b)])) _
    refine XS.iadd X4.here hx rfl (hb hby d7_58) rfl ?_
    show Steps p.tables e below (T4.setTop (mkF m 59 LL1 [(.int (q + (1 : Int32))), (.ref a), (.int q), (.ref b)])) _
    refine st5 _ ?_
    show Steps p.tables e below (T5.setTop (mkF m 62 LL1 [(.int q), (.ref b)])) _
    refine XS.lloadN X5.here hx rfl (hb hby d7_62) rfl ?_
    show Steps p.tables e below (T5.setTop (mkF m 63 LL1 [(.long v), (.int q), (.ref b)])) _
    refine XS.l2i X5.here hx rfl (hb hby d7_63) rfl ?_
    show Steps p.tables e below (T5.setTop (mkF m 64 LL1 [(.int ((v).toInt32)), (.int q), (.ref b)])) _
    refine XS.i2b X5.here hx rfl (hb hby d7_64) rfl ?_
    show Steps p.tables e below (T5.setTop (mkF m 65 LL1 [(.int ((((v).toInt32)).toInt8.toInt32)), (.int q), (.ref b)])) _
    refine st8 _ ?_
    show Steps p.tables e below (T8.setTop (mkF m 66 LL1 [])) _
    exact kk
  have k10 : Keep h0 h8 [a, b] := (Keep.wr (Keep.wr (Keep.refl h0 [a, b]) W5 (Or.inl (List.mem_of_getElem? (i := 0) rfl))) W8 (Or.inl (List.mem_of_getElem? (i := 1) rfl)))
  have f11 := (Fld.other W8 Fw5 (Or.inl pr7))
  have f12 := (Fld.other W8 (Fld.other W5 pr1 (Or.inr (slot_ne (Or.inl (hw _ (List.mem_of_getElem? (i := 39) rfl))) (Or.inl (hw _ (List.mem_of_getElem? (i := 63) rfl))) (by decide) (t := (.array .byte)) (t' := .int) (by decide) (by decide)))) (Or.inl pr7))
  have f13 := (Fld.other W8 (Fld.other W5 pr9 (Or.inr (slot_ne (Or.inr (hw _ (List.mem_of_getElem? (i := 57) rfl))) (Or.inl (hw _ (List.mem_of_getElem? (i := 63) rfl))) (by decide) (t := (.object "java/util/Map")) (t' := .int) (by decide) (by decide)))) (Or.inl pr7))
  obtain ⟨fs, hr, hrun, hended, hW, hsame⟩ := X8.leave (v := none) (fun _ => rfl)
  refine ⟨_, _, P9 _ ?_, hrun, hended, _, _, rfl, ?_, ⟨_, rfl⟩, hW, hsame.mono (by decide) (by decide)⟩
  · exact X8.returnOut hx Bd.returns (hb hby d7_66) hr
  · show Q7 Z a v b k z f q tm h0 n0 _ T8.heap _
    rw [e8]
    exact ⟨rfl, N8, k10, V8, f11, f12, f13⟩
theorem d8_0 : decode prog_25_method_3_code 0 = .ok (.aload_n 0, 1) := by decide +kernel
theorem d8_1 : decode prog_25_method_3_code 1 = .ok (.bipush 10, 2) := by decide +kernel
theorem d8_3 : decode prog_25_method_3_code 3 = .ok (.invokevirtual 20, 3) := by decide +kernel
theorem d8_6 : decode prog_25_method_3_code 6 = .ok (.lload_n 1, 1) := by decide +kernel
theorem d8_7 : decode prog_25_method_3_code 7 = .ok (.ldc2_w 32, 3) := by decide +kernel
theorem d8_10 : decode prog_25_method_3_code 10 = .ok (.land, 1) := by decide +kernel
theorem d8_11 : decode prog_25_method_3_code 11 = .ok (.lconst 0, 1) := by decide +kernel
theorem d8_12 : decode prog_25_method_3_code 12 = .ok (.lcmp, 1) := by decide +kernel
theorem d8_13 : decode prog_25_method_3_code 13 = .ok (.ifCond .eq 34, 3) := by decide +kernel
theorem d8_16 : decode prog_25_method_3_code 16 = .ok (.aload_n 0, 1) := by decide +kernel
theorem d8_17 : decode prog_25_method_3_code 17 = .ok (.getfield 7, 3) := by decide +kernel
theorem d8_20 : decode prog_25_method_3_code 20 = .ok (.aload_n 0, 1) := by decide +kernel
theorem d8_21 : decode prog_25_method_3_code 21 = .ok (.dup, 1) := by decide +kernel
theorem d8_22 : decode prog_25_method_3_code 22 = .ok (.getfield 24, 3) := by decide +kernel
theorem d8_25 : decode prog_25_method_3_code 25 = .ok (.dup_x1, 1) := by decide +kernel
theorem d8_26 : decode prog_25_method_3_code 26 = .ok (.iconst 1, 1) := by decide +kernel
theorem d8_27 : decode prog_25_method_3_code 27 = .ok (.iadd, 1) := by decide +kernel
theorem d8_28 : decode prog_25_method_3_code 28 = .ok (.putfield 24, 3) := by decide +kernel
theorem d8_31 : decode prog_25_method_3_code 31 = .ok (.lload_n 1, 1) := by decide +kernel
theorem d8_32 : decode prog_25_method_3_code 32 = .ok (.ldc2_w 34, 3) := by decide +kernel
theorem d8_35 : decode prog_25_method_3_code 35 = .ok (.lor, 1) := by decide +kernel
theorem d8_36 : decode prog_25_method_3_code 36 = .ok (.l2i, 1) := by decide +kernel
theorem d8_37 : decode prog_25_method_3_code 37 = .ok (.i2b, 1) := by decide +kernel
theorem d8_38 : decode prog_25_method_3_code 38 = .ok (.bastore, 1) := by decide +kernel
theorem d8_39 : decode prog_25_method_3_code 39 = .ok (.lload_n 1, 1) := by decide +kernel
theorem d8_40 : decode prog_25_method_3_code 40 = .ok (.bipush 7, 2) := by decide +kernel
theorem d8_42 : decode prog_25_method_3_code 42 = .ok (.lushr, 1) := by decide +kernel
theorem d8_43 : decode prog_25_method_3_code 43 = .ok (.lstore_n 1, 1) := by decide +kernel
theorem d8_44 : decode prog_25_method_3_code 44 = .ok (.goto (-38), 3) := by decide +kernel
theorem d8_47 : decode prog_25_method_3_code 47 = .ok (.aload_n 0, 1) := by decide +kernel
theorem d8_48 : decode prog_25_method_3_code 48 = .ok (.getfield 7, 3) := by decide +kernel
theorem d8_51 : decode prog_25_method_3_code 51 = .ok (.aload_n 0, 1) := by decide +kernel
theorem d8_52 : decode prog_25_method_3_code 52 = .ok (.dup, 1) := by decide +kernel
theorem d8_53 : decode prog_25_method_3_code 53 = .ok (.getfield 24, 3) := by decide +kernel
theorem d8_56 : decode prog_25_method_3_code 56 = .ok (.dup_x1, 1) := by decide +kernel
theorem d8_57 : decode prog_25_method_3_code 57 = .ok (.iconst 1, 1) := by decide +kernel
theorem d8_58 : decode prog_25_method_3_code 58 = .ok (.iadd, 1) := by decide +kernel
theorem d8_59 : decode prog_25_method_3_code 59 = .ok (.putfield 24, 3) := by decide +kernel
theorem d8_62 : decode prog_25_method_3_code 62 = .ok (.lload_n 1, 1) := by decide +kernel
theorem d8_63 : decode prog_25_method_3_code 63 = .ok (.l2i, 1) := by decide +kernel
theorem d8_64 : decode prog_25_method_3_code 64 = .ok (.i2b, 1) := by decide +kernel
theorem d8_65 : decode prog_25_method_3_code 65 = .ok (.bastore, 1) := by decide +kernel
theorem d8_66 : decode prog_25_method_3_code 66 = .ok (.return_, 1) := by decide +kernel
theorem ef_8 (m : MethodId) (x0 : Addr) (x1 : Int64) : entryFrame m #[(.ref x0), (.long x1)] 3 = (mkF m 0 #[.val (.ref x0), .val (.long x1), .second] []) := by first | (simp [entryFrame, mkF, argsToLocals, Value.category]; done) | rfl
def Q8 (Z : State) (a : Addr) (v : Int64) (b : Addr) (k : ClassId) (z : Int32) (f : Nat → Int32) (q : Int32) (tm : Addr) (h0 : Heap) (n0 : Nat) (vX : Option Value) (hX : Heap) (lX : List Loc) : Prop := vX = none ∧ Fr n0 lX ∧ (Keep h0 hX [a, b]) ∧ (Bar Z hX b k z (own_w1 q v f)) ∧ (Fld Z hX a "com/example/meterwright/meterwright/RecordBody$Writer" "size" "I" (.int ((q + (1 : Int32)) + (1 : Int32)))) ∧ (Fld Z hX a "com/example/meterwright/meterwright/RecordBody$Writer" "bytes" "[B" (.ref b)) ∧ (Fld Z hX a "com/example/meterwright/meterwright/RecordBody$Writer" "texts" "Ljava/util/Map;" (.ref tm))
set_option maxRecDepth 65536 in
set_option maxHeartbeats 40000000 in
theorem rm8 (l : Launch) (Z : State) (a0 : Array Value) (hw : ∀ d ∈ tables_1, d.before a0 Z = true) (ws : List Jvm.Cond) (a : Addr) (v : Int64) (b : Addr) (k : ClassId) (z : Int32) (f : Nat → Int32) (q : Int32) (tm : Addr) (h0 : Heap) (n0 : Nat) (Z0 : n0 ≤ h0.size) (pr0 : Exa Z h0 a "com/example/meterwright/meterwright/RecordBody$Writer") (pr1 : Fld Z h0 a "com/example/meterwright/meterwright/RecordBody$Writer" "bytes" "[B" (.ref b)) (pr2 : Fld Z h0 a "com/example/meterwright/meterwright/RecordBody$Writer" "size" "I" (.int q)) (pr3 : Bar Z h0 b k z f) (pr4 : ¬ q < 0 ∧ q.toInt + 10 ≤ z.toInt) (pr5 : n0 ≤ a) (pr6 : n0 ≤ b) (pr7 : a ≠ b) (pr8 : 128 ≤ v.toInt ∧ v.toInt < 16384) (pr9 : Fld Z h0 a "com/example/meterwright/meterwright/RecordBody$Writer" "texts" "Ljava/util/Map;" (.ref tm)) :
    MetFree l (⟨"com/example/meterwright/meterwright/RecordBody$Writer", "whole", "(J)V"⟩ : MethodName) (head1 (Jvm.Cond.code (⟨"com/example/meterwright/meterwright/RecordBody$Writer", "whole", "(J)V"⟩ : MethodName) prog_25_method_3_code 3 none :: ws) ({ frames := 1, cells := 0, slots := 0, locals := 13 } : Room)) (fun aX uX => aX = #[(.ref a), (.long v)] ∧ Z.Warmed39 uX.vm ∧ uX.heap = h0) (fun _ _ _ _ _ => True) (fun _ uX oX wX => ∃ vX lX, oX = .returned vX ∧ Q8 Z a v b k z f q tm h0 n0 vX wX.heap lX ∧ FrameEnd uX oX wX lX ({ frames := 1, cells := 0, slots := 0, locals := 13 } : Room).cells ({ frames := 1, cells := 0, slots := 0, locals := 13 } : Room).slots) := by
  refine MetFree.of_bodySF (plainFor_of_name pn_3) hisR ?_
  intro p e s m args below meth c s₁ Bd hml0 hP hK
  obtain ⟨rfl, hZ, hh⟩ := hP
  have hx := Bd.exec
  have hby := Bd.bytes
  have hml : c.maxLocals = 3 := hml0
  have hown : s.vm.findClass "com/example/meterwright/meterwright/RecordBody$Writer" = some m.cls := findClass_of_methodNamed Bd.named
  have hnm := (name_of_methodNamed Bd.named Bd.method).1
  have X0 : Stand p l e ({ frames := 1, cells := 0, slots := 0, locals := 13 } : Room) s m #[(.ref a), (.long v)] below meth c s₁ [] 0 0 := Stand.of_body Bd
  have e0 : s₁.heap = h0 := by rw [← hh, Bd.state]; rfl
  have N0 := Fr.nil n0
  let ST : State := (s₁.setTop (entryFrame m #[(.ref a), (.long v)] 3))
  have pre0 : ∀ t, Steps p.tables e below (s₁.setTop (mkF m 0 #[.val (.ref a), .val (.long v), .second] [])) t → Steps p.tables e below ST t := fun t k => castTop (ef_8 m a v) k
  let LL1 : Array Slot := #[.val (.ref a), .val (.long v), .second]
  obtain ⟨cq2, q2, q2'⟩ := pr0.cell
  obtain ⟨_, _, ⟨T2, L2, k2, n2⟩, -, X2, ⟨Lc2, hQ2, l2, y2, z2⟩, st2⟩ := X0.privateBack hx (y := (⟨"com/example/meterwright/meterwright/RecordBody$Writer", "room", "(I)V"⟩ : MethodName)) hown (mvT hZ (hw _ (List.mem_of_getElem? (i := 58) rfl))) (mvT hZ (hw _ (List.mem_of_getElem? (i := 59) rfl))) (own_selpriv (y := (⟨"com/example/meterwright/meterwright/RecordBody$Writer", "room", "(I)V"⟩ : MethodName)) (y' := (⟨"com/example/meterwright/meterwright/RecordBody$Writer", "toByteArray", "()[B"⟩ : MethodName)) rfl (mvT hZ (hw _ (List.mem_of_getElem? (i := 67) rfl))) (Cond.privateMethod_at (mvP hZ (hw _ (List.mem_of_getElem? (i := 60) rfl)) (args := #[]))) (mvT hZ (hw _ (List.mem_of_getElem? (i := 59) rfl))) (by decide)) (Cond.privateMethod_at (mvP hZ (hw _ (List.mem_of_getElem? (i := 60) rfl)) (args := #[]))) (mvT hZ (hw _ (List.mem_of_getElem? (i := 61) rfl))) (by decide) (backOf (W := 0) (rm6 l Z a0 hw [] a (10 : Int32) b k z f q h0 n0 Z0 pr0 pr1 pr2 pr3 (own_rm z q pr4.1 pr4.2).1) hZ (hw _ (List.mem_of_getElem? (i := 61) rfl)) (hw _ (List.mem_of_getElem? (i := 33) rfl)) (by decide) (by decide)) (g := (mkF m 3 LL1 [(.int (10 : Int32)), (.ref a)])) rfl (by rw [hml]; rfl) (Steps.refl _) (a := a) (by rw [e0]; exact q2) q2' (argsL := [(.int (10 : Int32))]) (rest := []) (lenOf pd_2 rfl) rfl (by show 2 * 0 + _ ≤ _; exact Nat.le_of_eq rfl) (hb hby d8_3) (fun _ _ => ⟨rfl, e0, (by decide : 0 + 0 ≤ _), (by decide : 0 + 0 ≤ _)⟩)
  dsimp only [Pt.U, Pt.locs, Pt.cells, Pt.slots] at X2 l2 y2 z2 st2 hQ2
  subst l2 y2 z2
  obtain ⟨rfl, Nq2, e2⟩ := hQ2
  have N2 := Fr.app N0 Nq2
  obtain ⟨T3, X3, e3, st3⟩ := getF X2 hx hZ hown (host := "") (Or.inl (hw _ (List.mem_of_getElem? (i := 38) rfl))) Via.refl e2 pr1 (g := (mkF m 17 LL1 [(.ref a)])) rfl rfl (hb hby d8_17)
  obtain ⟨T4, X4, e4, st4⟩ := getF X3 hx hZ hown (host := "") (Or.inl (hw _ (List.mem_of_getElem? (i := 62) rfl))) Via.refl e3 pr2 (g := (mkF m 22 LL1 [(.ref a), (.ref a), (.ref b)])) rfl rfl (hb hby d8_22)
  obtain ⟨T5, h5, X5, e5, W5, st5⟩ := putF X4 hx hZ hown (host := "") (Or.inl (hw _ (List.mem_of_getElem? (i := 62) rfl))) Via.refl e4 pr2 pr0 (Or.inl (hw _ (List.mem_of_getElem? (i := 63) rfl))) (hw _ (List.mem_of_getElem? (i := 32) rfl)) (ty := .int) (by decide) rfl rfl (g := (mkF m 28 LL1 [(.int (q + (1 : Int32))), (.ref a), (.int q), (.ref b)])) rfl rfl (hb hby d8_28)
  have N5 := Fr.snoc X5 N2 pr5
  have Fw5 := Fld.same W5 pr2
  have f6 := (Bar.other pr3 W5 (Ne.symm pr7))
  obtain ⟨cl_a7, Ar_a7, q_a7, S_a7, N_a7, H_a7⟩ := id f6
  have hin_a7 : ¬ (q < 0 ∨ cl_a7.slots.size ≤ (q).toNatClampNeg) := inb_of S_a7 (own_rm z q pr4.1 pr4.2).2.1
  obtain ⟨T8, h8, X8, e8, W8, st8⟩ := stB X5 hx hZ e5 Ar_a7 (j := q) hin_a7 (g := (mkF m 38 LL1 [(.int (((((v ||| (128 : Int64))).toInt32)).toInt8.toInt32)), (.int q), (.ref b)])) rfl rfl (hb hby d8_38)
  have V8 := Bar.set Ar_a7 q_a7 S_a7 N_a7 H_a7 W8
  have N8 := Fr.snoc X8 N5 pr6
  let LL9 : Array Slot := #[.val (.ref a), .val (.long (((v).toUInt64 >>> ((7 : Int32) &&& 0x3f).toInt64.toUInt64).toInt64)), .second]
  have P10 : ∀ t, Steps p.tables e below (T8.setTop (mkF m 7 LL9 [(.long (((v).toUInt64 >>> ((7 : Int32) &&& 0x3f).toInt64.toUInt64).toInt64))])) t → Steps p.tables e below ST t := by
    intro t kk
    refine pre0 _ ?_
    show Steps p.tables e below (s₁.setTop (mkF m 0 LL1 [])) _
    refine XS.aloadN X0.here hx rfl (hb hby d8_0) rfl rfl ?_
    show Steps p.tables e below (s₁.setTop (mkF m 1 LL1 [(.ref a)])) _
    refine XS.bipush X0.here hx rfl (hb hby d8_1) ?_
    show Steps p.tables e below (s₁.setTop (mkF m 3 LL1 [(.int (10 : Int32)), (.ref a)])) _
    refine st2.trans ?_
    show Steps p.tables e below (T2.setTop (mkF m 6 LL1 [])) _
    refine XS.lloadN X2.here hx rfl (hb hby d8_6) rfl ?_
    show Steps p.tables e below (T2.setTop (mkF m 7 LL1 [(.long v)])) _
    refine X2.ldc2Long hx hown (mvT hZ (hw _ (List.mem_of_getElem? (i := 86) rfl))) (g := (mkF m 7 LL1 [(.long v)])) rfl (hb hby d8_7) _ ?_
    show Steps p.tables e below (T2.setTop (mkF m 10 LL1 [(.long (-128 : Int64)), (.long v)])) _
    refine XS.land X2.here hx rfl (hb hby d8_10) rfl ?_
    show Steps p.tables e below (T2.setTop (mkF m 11 LL1 [(.long (v &&& (-128 : Int64)))])) _
    refine XS.lconst X2.here hx rfl (hb hby d8_11) ?_
    show Steps p.tables e below (T2.setTop (mkF m 12 LL1 [(.long (0 : Int64)), (.long (v &&& (-128 : Int64)))])) _
    refine XT.lcmp X2.here hx rfl (hb hby d8_12) rfl ?_
    show Steps p.tables e below (T2.setTop (mkF m 13 LL1 [(.int (XT.cmpL (v &&& (-128 : Int64)) (0 : Int64)))])) _
    refine XS.ifNo X2.here hx rfl (hb hby d8_13) rfl (XT.ll_eq_f (own_big v pr8.1)) ?_
    show Steps p.tables e below (T2.setTop (mkF m 16 LL1 [])) _
    refine XS.aloadN X2.here hx rfl (hb hby d8_16) rfl rfl ?_
    show Steps p.tables e below (T2.setTop (mkF m 17 LL1 [(.ref a)])) _
    refine st3 _ ?_
    show Steps p.tables e below (T3.setTop (mkF m 20 LL1 [(.ref b)])) _
    refine XS.aloadN X3.here hx rfl (hb hby d8_20) rfl rfl ?_
    show Steps p.tables e below (T3.setTop (mkF m 21 LL1 [(.ref a), (.ref b)])) _
    refine XS.dup X3.here hx rfl (hb hby d8_21) rfl rfl ?_
    show Steps p.tables e below (T3.setTop (mkF m 22 LL1 [(.ref a), (.ref a), (.ref b)])) _
    refine st4 _ ?_
    show Steps p.tables e below (T4.setTop (mkF m 25 LL1 [(.int q), (.ref a), (.ref b)])) _
    refine XS.dupX1 X4.here hx rfl (hb hby d8_25) rfl rfl rfl ?_
    show Steps p.tables e below (T4.setTop (mkF m 26 LL1 [(.int q), (.ref a), (.int q), (.ref b)])) _
    refine XS.iconst X4.here hx rfl (hb hby d8_26) ?_
    show Steps p.tables e below (T4.setTop (mkF m 27 LL1 [(.int (1 : Int32)), (.int q), (.ref a), (.int q), (.ref b)])) _
    refine XS.iadd X4.here hx rfl (hb hby d8_27) rfl ?_
    show Steps p.tables e below (T4.setTop (mkF m 28 LL1 [(.int (q + (1 : Int32))), (.ref a), (.int q), (.ref b)])) _
    refine st5 _ ?_
    show Steps p.tables e below (T5.setTop (mkF m 31 LL1 [(.int q), (.ref b)])) _
    refine XS.lloadN X5.here hx rfl (hb hby d8_31) rfl ?_
    show Steps p.tables e below (T5.setTop (mkF m 32 LL1 [(.long v), (.int q), (.ref b)])) _
    refine X5.ldc2Long hx hown (mvT hZ (hw _ (List.mem_of_getElem? (i := 165) rfl))) (g := (mkF m 32 LL1 [(.long v), (.int q), (.ref b)])) rfl (hb hby d8_32) _ ?_
    show Steps p.tables e below (T5.setTop (mkF m 35 LL1 [(.long (128 : Int64)), (.long v), (.int q), (.ref b)])) _
    refine XS.lor X5.here hx rfl (hb hby d8_35) rfl ?_
    show Steps p.tables e below (T5.setTop (mkF m 36 LL1 [(.long (v ||| (128 : Int64))), (.int q), (.ref b)])) _
    refine XS.l2i X5.here hx rfl (hb hby d8_36) rfl ?_
    show Steps p.tables e below (T5.setTop (mkF m 37 LL1 [(.int (((v ||| (128 : Int64))).toInt32)), (.int q), (.ref b)])) _
    refine XS.i2b X5.here hx rfl (hb hby d8_37) rfl ?_
    show Steps p.tables e below (T5.setTop (mkF m 38 LL1 [(.int (((((v ||| (128 : Int64))).toInt32)).toInt8.toInt32)), (.int q), (.ref b)])) _
    refine st8 _ ?_
    show Steps p.tables e below (T8.setTop (mkF m 39 LL1 [])) _
    refine XS.lloadN X8.here hx rfl (hb hby d8_39) rfl ?_
    show Steps p.tables e below (T8.setTop (mkF m 40 LL1 [(.long v)])) _
    refine XS.bipush X8.here hx rfl (hb hby d8_40) ?_
    show Steps p.tables e below (T8.setTop (mkF m 42 LL1 [(.int (7 : Int32)), (.long v)])) _
    refine XS.lushr X8.here hx rfl (hb hby d8_42) rfl ?_
    show Steps p.tables e below (T8.setTop (mkF m 43 LL1 [(.long (((v).toUInt64 >>> ((7 : Int32) &&& 0x3f).toInt64.toUInt64).toInt64))])) _
    refine XS.lstoreN X8.here hx rfl (hb hby d8_43) rfl (l' := LL9) rfl ?_
    show Steps p.tables e below (T8.setTop (mkF m 44 LL9 [])) _
    refine XS.goto X8.here hx rfl (pc0 := 44) (pc' := 6) rfl (hb hby d8_44) (by decide) (by decide) ?_
    show Steps p.tables e below (T8.setTop (mkF m 6 LL9 [])) _
    refine XS.lloadN X8.here hx rfl (hb hby d8_6) rfl ?_
    show Steps p.tables e below (T8.setTop (mkF m 7 LL9 [(.long (((v).toUInt64 >>> ((7 : Int32) &&& 0x3f).toInt64.toUInt64).toInt64))])) _
    exact kk
  have f11 := (Fld.other W8 (Fld.other W5 pr1 (Or.inr (slot_ne (Or.inl (hw _ (List.mem_of_getElem? (i := 39) rfl))) (Or.inl (hw _ (List.mem_of_getElem? (i := 63) rfl))) (by decide) (t := (.array .byte)) (t' := .int) (by decide) (by decide)))) (Or.inl pr7))
  obtain ⟨T12, X12, e12, st12⟩ := getF X8 hx hZ hown (host := "") (Or.inl (hw _ (List.mem_of_getElem? (i := 38) rfl))) Via.refl e8 f11 (g := (mkF m 48 LL9 [(.ref a)])) rfl rfl (hb hby d8_48)
  have f13 := (Fld.other W8 Fw5 (Or.inl pr7))
  obtain ⟨T14, X14, e14, st14⟩ := getF X12 hx hZ hown (host := "") (Or.inl (hw _ (List.mem_of_getElem? (i := 62) rfl))) Via.refl e12 f13 (g := (mkF m 53 LL9 [(.ref a), (.ref a), (.ref b)])) rfl rfl (hb hby d8_53)
  have f15 := (Exa.wr W8 (Exa.wr W5 pr0))
  obtain ⟨T16, h16, X16, e16, W16, st16⟩ := putF X14 hx hZ hown (host := "") (Or.inl (hw _ (List.mem_of_getElem? (i := 62) rfl))) Via.refl e14 f13 f15 (Or.inl (hw _ (List.mem_of_getElem? (i := 63) rfl))) (hw _ (List.mem_of_getElem? (i := 32) rfl)) (ty := .int) (by decide) rfl rfl (g := (mkF m 59 LL9 [(.int ((q + (1 : Int32)) + (1 : Int32))), (.ref a), (.int (q + (1 : Int32))), (.ref b)])) rfl rfl (hb hby d8_59)
  have N16 := Fr.snoc X16 N8 pr5
  have Fw16 := Fld.same W16 f13
  have f17 := (Bar.other V8 W16 (Ne.symm pr7))
  obtain ⟨cl_a18, Ar_a18, q_a18, S_a18, N_a18, H_a18⟩ := id f17
  have hin_a18 : ¬ ((q + (1 : Int32)) < 0 ∨ cl_a18.slots.size ≤ ((q + (1 : Int32))).toNatClampNeg) := inb_of S_a18 (own_rm z q pr4.1 pr4.2).2.2
  obtain ⟨T19, h19, X19, e19, W19, st19⟩ := stB X16 hx hZ e16 Ar_a18 (j := (q + (1 : Int32))) hin_a18 (g := (mkF m 65 LL9 [(.int (((((((v).toUInt64 >>> ((7 : Int32) &&& 0x3f).toInt64.toUInt64).toInt64)).toInt32)).toInt8.toInt32)), (.int (q + (1 : Int32))), (.ref b)])) rfl rfl (hb hby d8_65)
  have V19 := Bar.set Ar_a18 q_a18 S_a18 N_a18 H_a18 W19
  have N19 := Fr.snoc X19 N16 pr6
  have P20 : ∀ t, Steps p.tables e below (T19.setTop (mkF m 66 LL9 [])) t → Steps p.tables e below ST t := by
    intro t kk
    refine P10 _ ?_
    show Steps p.tables e below (T8.setTop (mkF m 7 LL9 [(.long (((v).toUInt64 >>> ((7 : Int32) &&& 0x3f).toInt64.toUInt64).toInt64))])) _
    refine X8.ldc2Long hx hown (mvT hZ (hw _ (List.mem_of_getElem? (i := 86) rfl))) (g := (mkF m 7 LL9 [(.long (((v).toUInt64 >>> ((7 : Int32) &&& 0x3f).toInt64.toUInt64).toInt64))])) rfl (hb hby d8_7) _ ?_
    show Steps p.tables e below (T8.setTop (mkF m 10 LL9 [(.long (-128 : Int64)), (.long (((v).toUInt64 >>> ((7 : Int32) &&& 0x3f).toInt64.toUInt64).toInt64))])) _
    refine XS.land X8.here hx rfl (hb hby d8_10) rfl ?_
    show Steps p.tables e below (T8.setTop (mkF m 11 LL9 [(.long ((((v).toUInt64 >>> ((7 : Int32) &&& 0x3f).toInt64.toUInt64).toInt64) &&& (-128 : Int64)))])) _
    refine XS.lconst X8.here hx rfl (hb hby d8_11) ?_
    show Steps p.tables e below (T8.setTop (mkF m 12 LL9 [(.long (0 : Int64)), (.long ((((v).toUInt64 >>> ((7 : Int32) &&& 0x3f).toInt64.toUInt64).toInt64) &&& (-128 : Int64)))])) _
    refine XT.lcmp X8.here hx rfl (hb hby d8_12) rfl ?_
    show Steps p.tables e below (T8.setTop (mkF m 13 LL9 [(.int (XT.cmpL ((((v).toUInt64 >>> ((7 : Int32) &&& 0x3f).toInt64.toUInt64).toInt64) &&& (-128 : Int64)) (0 : Int64)))])) _
    refine XS.ifYes X8.here hx rfl (pc0 := 13) (pc' := 47) rfl (hb hby d8_13) rfl (XT.ll_eq_t (own_shr v (Int.le_trans (by decide) pr8.1) pr8.2)) (by decide) (by decide) ?_
    show Steps p.tables e below (T8.setTop (mkF m 47 LL9 [])) _
    refine XS.aloadN X8.here hx rfl (hb hby d8_47) rfl rfl ?_
    show Steps p.tables e below (T8.setTop (mkF m 48 LL9 [(.ref a)])) _
    refine st12 _ ?_
    show Steps p.tables e below (T12.setTop (mkF m 51 LL9 [(.ref b)])) _
    refine XS.aloadN X12.here hx rfl (hb hby d8_51) rfl rfl ?_
    show Steps p.tables e below (T12.setTop (mkF m 52 LL9 [(.ref a), (.ref b)])) _
    refine XS.dup X12.here hx rfl (hb hby d8_52) rfl rfl ?_
    show Steps p.tables e below (T12.setTop (mkF m 53 LL9 [(.ref a), (.ref a), (.ref b)])) _
    refine st14 _ ?_
    show Steps p.tables e below (T14.setTop (mkF m 56 LL9 [(.int (q + (1 : Int32))), (.ref a), (.ref b)])) _
    refine XS.dupX1 X14.here hx rfl (hb hby d8_56) rfl rfl rfl ?_
    show Steps p.tables e below (T14.setTop (mkF m 57 LL9 [(.int (q + (1 : Int32))), (.ref a), (.int (q + (1 : Int32))), (.ref b)])) _
    refine XS.iconst X14.here hx rfl (hb hby d8_57) ?_
    show Steps p.tables e below (T14.setTop (mkF m 58 LL9 [(.int (1 : Int32)), (.int (q + (1 : Int32))), (.ref a), (.int (q + (1 : Int32))), (.ref b)])) _
    refine XS.iadd X14.here hx rfl (hb hby d8_58) rfl ?_
    show Steps p.tables e below (T14.setTop (mkF m 59 LL9 [(.int ((q + (1 : Int32)) + (1 : Int32))), (.ref a), (.int (q + (1 : Int32))), (.ref b)])) _
    refine st16 _ ?_
    show Steps p.tables e below (T16.setTop (mkF m 62 LL9 [(.int (q + (1 : Int32))), (.ref b)])) _
    refine XS.lloadN X16.here hx rfl (hb hby d8_62) rfl ?_
    show Steps p.tables e below (T16.setTop (mkF m 63 LL9 [(.long (((v).toUInt64 >>> ((7 : Int32) &&& 0x3f).toInt64.toUInt64).toInt64)), (.int (q + (1 : Int32))), (.ref b)])) _
    refine XS.l2i X16.here hx rfl (hb hby d8_63) rfl ?_
    show Steps p.tables e below (T16.setTop (mkF m 64 LL9 [(.int (((((v).toUInt64 >>> ((7 : Int32) &&& 0x3f).toInt64.toUInt64).toInt64)).toInt32)), (.int (q + (1 : Int32))), (.ref b)])) _
    refine XS.i2b X16.here hx rfl (hb hby d8_64) rfl ?_
    show Steps p.tables e below (T16.setTop (mkF m 65 LL9 [(.int (((((((v).toUInt64 >>> ((7 : Int32) &&& 0x3f).toInt64.toUInt64).toInt64)).toInt32)).toInt8.toInt32)), (.int (q + (1 : Int32))), (.ref b)])) _
    refine st19 _ ?_
    show Steps p.tables e below (T19.setTop (mkF m 66 LL9 [])) _
    exact kk
  have k21 : Keep h0 h19 [a, b] := (Keep.wr (Keep.wr (Keep.wr (Keep.wr (Keep.refl h0 [a, b]) W5 (Or.inl (List.mem_of_getElem? (i := 0) rfl))) W8 (Or.inl (List.mem_of_getElem? (i := 1) rfl))) W16 (Or.inl (List.mem_of_getElem? (i := 0) rfl))) W19 (Or.inl (List.mem_of_getElem? (i := 1) rfl)))
  have f22 := (Fld.other W19 Fw16 (Or.inl pr7))
  have f23 := (Fld.other W19 (Fld.other W16 f11 (Or.inr (slot_ne (Or.inl (hw _ (List.mem_of_getElem? (i := 39) rfl))) (Or.inl (hw _ (List.mem_of_getElem? (i := 63) rfl))) (by decide) (t := (.array .byte)) (t' := .int) (by decide) (by decide)))) (Or.inl pr7))
  have f24 := (Fld.other W19 (Fld.other W16 (Fld.other W8 (Fld.other W5 pr9 (Or.inr (slot_ne (Or.inr (hw _ (List.mem_of_getElem? (i := 57) rfl))) (Or.inl (hw _ (List.mem_of_getElem? (i := 63) rfl))) (by decide) (t := (.object "java/util/Map")) (t' := .int) (by decide) (by decide)))) (Or.inl pr7)) (Or.inr (slot_ne (Or.inr (hw _ (List.mem_of_getElem? (i := 57) rfl))) (Or.inl (hw _ (List.mem_of_getElem? (i := 63) rfl))) (by decide) (t := (.object "java/util/Map")) (t' := .int) (by decide) (by decide)))) (Or.inl pr7))
  obtain ⟨fs, hr, hrun, hended, hW, hsame⟩ := X19.leave (v := none) (fun _ => rfl)
  refine ⟨_, _, P20 _ ?_, hrun, hended, _, _, rfl, ?_, ⟨_, rfl⟩, hW, hsame.mono (by decide) (by decide)⟩
  · exact X19.returnOut hx Bd.returns (hb hby d8_66) hr
  · show Q8 Z a v b k z f q tm h0 n0 _ T19.heap _
    rw [e19]
    exact ⟨rfl, N19, k21, V19, f22, f23, f24⟩
def Q9 (Z : State) (a : Addr) (v : Int64) (b : Addr) (k : ClassId) (z : Int32) (f : Nat → Int32) (q : Int32) (tm : Addr) (h0 : Heap) (n0 : Nat) (vX : Option Value) (hX : Heap) (lX : List Loc) : Prop := vX = none ∧ Fr n0 lX ∧ (Keep h0 hX [a, b]) ∧ (Bar Z hX b k z (own_w q v f)) ∧ (Fld Z hX a "com/example/meterwright/meterwright/RecordBody$Writer" "size" "I" (.int (q + (own_n v)))) ∧ (Fld Z hX a "com/example/meterwright/meterwright/RecordBody$Writer" "bytes" "[B" (.ref b)) ∧ (Fld Z hX a "com/example/meterwright/meterwright/RecordBody$Writer" "texts" "Ljava/util/Map;" (.ref tm))
theorem rm9 (l : Launch) (Z : State) (a0 : Array Value) (hw : ∀ d ∈ tables_1, d.before a0 Z = true) (ws : List Jvm.Cond) (a : Addr) (v : Int64) (b : Addr) (k : ClassId) (z : Int32) (f : Nat → Int32) (q : Int32) (tm : Addr) (h0 : Heap) (n0 : Nat) (Z0 : n0 ≤ h0.size) (pr0 : Exa Z h0 a "com/example/meterwright/meterwright/RecordBody$Writer") (pr1 : Fld Z h0 a "com/example/meterwright/meterwright/RecordBody$Writer" "bytes" "[B" (.ref b)) (pr2 : Fld Z h0 a "com/example/meterwright/meterwright/RecordBody$Writer" "size" "I" (.int q)) (pr3 : Bar Z h0 b k z f) (pr4 : ¬ q < 0 ∧ q.toInt + 10 ≤ z.toInt) (pr5 : n0 ≤ a) (pr6 : n0 ≤ b) (pr7 : a ≠ b) (pr8 : 0 ≤ v.toInt ∧ v.toInt < 16384) (pr9 : Fld Z h0 a "com/example/meterwright/meterwright/RecordBody$Writer" "texts" "Ljava/util/Map;" (.ref tm)) :
    MetFree l (⟨"com/example/meterwright/meterwright/RecordBody$Writer", "whole", "(J)V"⟩ : MethodName) (head1 (Jvm.Cond.code (⟨"com/example/meterwright/meterwright/RecordBody$Writer", "whole", "(J)V"⟩ : MethodName) prog_25_method_3_code 3 none :: ws) ({ frames := 1, cells := 0, slots := 0, locals := 13 } : Room)) (fun aX uX => aX = #[(.ref a), (.long v)] ∧ Z.Warmed39 uX.vm ∧ uX.heap = h0) (fun _ _ _ _ _ => True) (fun _ uX oX wX => ∃ vX lX, oX = .returned vX ∧ Q9 Z a v b k z f q tm h0 n0 vX wX.heap lX ∧ FrameEnd uX oX wX lX ({ frames := 1, cells := 0, slots := 0, locals := 13 } : Room).cells ({ frames := 1, cells := 0, slots := 0, locals := 13 } : Room).slots) := by
  by_cases hk : v < (128 : Int64)
  · refine (rm7 l Z a0 hw ws a v b k z f q tm h0 n0 Z0 pr0 pr1 pr2 pr3 pr4 pr5 pr6 pr7 ⟨pr8.1, own_l1 v hk⟩ pr9).mono (fun _ _ h => h) (fun _ _ _ _ _ h => h) (fun _ _ _ _ _ h => ?_)
    obtain ⟨vX, lX, e1, ⟨q1, q2, q3, q4, q5, q6⟩, fe⟩ := h
    exact ⟨vX, lX, e1, ⟨q1, q2, q3, by rw [own_wS q v f hk]; exact q4, by rw [own_nS v hk]; exact q5, q6⟩, fe⟩
  · refine (rm8 l Z a0 hw ws a v b k z f q tm h0 n0 Z0 pr0 pr1 pr2 pr3 pr4 pr5 pr6 pr7 ⟨own_l2 v hk, pr8.2⟩ pr9).mono (fun _ _ h => h) (fun _ _ _ _ _ h => h) (fun _ _ _ _ _ h => ?_)
    obtain ⟨vX, lX, e1, ⟨q1, q2, q3, q4, q5, q6⟩, fe⟩ := h
    exact ⟨vX, lX, e1, ⟨q1, q2, q3, by rw [own_wB q v f hk]; exact q4, by rw [own_nB v hk, ← own_q2 q]; exact q5, q6⟩, fe⟩
theorem d10_0 : decode prog_25_method_4_code 0 = .ok (.aload_n 0, 1) := by decide +kernel
theorem d10_1 : decode prog_25_method_4_code 1 = .ok (.lload_n 1, 1) := by decide +kernel
theorem d10_2 : decode prog_25_method_4_code 2 = .ok (.iconst 1, 1) := by decide +kernel
theorem d10_3 : decode prog_25_method_4_code 3 = .ok (.lshl, 1) := by decide +kernel
theorem d10_4 : decode prog_25_method_4_code 4 = .ok (.lload_n 1, 1) := by decide +kernel
theorem d10_5 : decode prog_25_method_4_code 5 = .ok (.bipush 63, 2) := by decide +kernel
theorem d10_7 : decode prog_25_method_4_code 7 = .ok (.lshr, 1) := by decide +kernel
theorem d10_8 : decode prog_25_method_4_code 8 = .ok (.lxor, 1) := by decide +kernel
theorem d10_9 : decode prog_25_method_4_code 9 = .ok (.invokevirtual 28, 3) := by decide +kernel
theorem d10_12 : decode prog_25_method_4_code 12 = .ok (.return_, 1) := by decide +kernel
theorem ef_10 (m : MethodId) (x0 : Addr) (x1 : Int64) : entryFrame m #[(.ref x0), (.long x1)] 3 = (mkF m 0 #[.val (.ref x0), .val (.long x1), .second] []) := by first | (simp [entryFrame, mkF, argsToLocals, Value.category]; done) | rfl
def Q10 (Z : State) (a : Addr) (v : Int64) (b : Addr) (k : ClassId) (z : Int32) (f : Nat → Int32) (q : Int32) (tm : Addr) (h0 : Heap) (n0 : Nat) (vX : Option Value) (hX : Heap) (lX : List Loc) : Prop := vX = none ∧ Fr n0 lX ∧ (Keep h0 hX [a, b]) ∧ (Bar Z hX b k z (own_w q ((v <<< ((1 : Int32) &&& 0x3f).toInt64) ^^^ (v >>> ((63 : Int32) &&& 0x3f).toInt64)) f)) ∧ (Fld Z hX a "com/example/meterwright/meterwright/RecordBody$Writer" "size" "I" (.int (q + (own_n ((v <<< ((1 : Int32) &&& 0x3f).toInt64) ^^^ (v >>> ((63 : Int32) &&& 0x3f).toInt64)))))) ∧ (Fld Z hX a "com/example/meterwright/meterwright/RecordBody$Writer" "bytes" "[B" (.ref b)) ∧ (Fld Z hX a "com/example/meterwright/meterwright/RecordBody$Writer" "texts" "Ljava/util/Map;" (.ref tm))
set_option maxRecDepth 65536 in
set_option maxHeartbeats 40000000 in
theorem rm10 (l : Launch) (Z : State) (a0 : Array Value) (hw : ∀ d ∈ tables_1, d.before a0 Z = true) (ws : List Jvm.Cond) (a : Addr) (v : Int64) (b : Addr) (k : ClassId) (z : Int32) (f : Nat → Int32) (q : Int32) (tm : Addr) (h0 : Heap) (n0 : Nat) (Z0 : n0 ≤ h0.size) (pr0 : Exa Z h0 a "com/example/meterwright/meterwright/RecordBody$Writer") (pr1 : Fld Z h0 a "com/example/meterwright/meterwright/RecordBody$Writer" "bytes" "[B" (.ref b)) (pr2 : Fld Z h0 a "com/example/meterwright/meterwright/RecordBody$Writer" "size" "I" (.int q)) (pr3 : Bar Z h0 b k z f) (pr4 : ¬ q < 0 ∧ q.toInt + 10 ≤ z.toInt) (pr5 : n0 ≤ a) (pr6 : n0 ≤ b) (pr7 : a ≠ b) (pr8 : 0 ≤ (((v <<< ((1 : Int32) &&& 0x3f).toInt64) ^^^ (v >>> ((63 : Int32) &&& 0x3f).toInt64))).toInt ∧ (((v <<< ((1 : Int32) &&& 0x3f).toInt64) ^^^ (v >>> ((63 : Int32) &&& 0x3f).toInt64))).toInt < 16384) (pr9 : Fld Z h0 a "com/example/meterwright/meterwright/RecordBody$Writer" "texts" "Ljava/util/Map;" (.ref tm)) :
    MetFree l (⟨"com/example/meterwright/meterwright/RecordBody$Writer", "number", "(J)V"⟩ : MethodName) (head1 (Jvm.Cond.code (⟨"com/example/meterwright/meterwright/RecordBody$Writer", "number", "(J)V"⟩ : MethodName) prog_25_method_4_code 3 none :: ws) ({ frames := 2, cells := 0, slots := 0, locals := 27 } : Room)) (fun aX uX => aX = #[(.ref a), (.long v)] ∧ Z.Warmed39 uX.vm ∧ uX.heap = h0) (fun _ _ _ _ _ => True) (fun _ uX oX wX => ∃ vX lX, oX = .returned vX ∧ Q10 Z a v b k z f q tm h0 n0 vX wX.heap lX ∧ FrameEnd uX oX wX lX ({ frames := 2, cells := 0, slots := 0, locals := 27 } : Room).cells ({ frames := 2, cells := 0, slots := 0, locals := 27 } : Room).slots) := by
  refine MetFree.of_bodySF (plainFor_of_name pn_3) hisR ?_
  intro p e s m args below meth c s₁ Bd hml0 hP hK
  obtain ⟨rfl, hZ, hh⟩ := hP
  have hx := Bd.exec
  have hby := Bd.bytes
  have hml : c.maxLocals = 3 := hml0
  have hown : s.vm.findClass "com/example/meterwright/meterwright/RecordBody$Writer" = some m.cls := findClass_of_methodNamed Bd.named
  have hnm := (name_of_methodNamed Bd.named Bd.method).1
  have X0 : Stand p l e ({ frames := 2, cells := 0, slots := 0, locals := 27 } : Room) s m #[(.ref a), (.long v)] below meth c s₁ [] 0 0 := Stand.of_body Bd
  have e0 : s₁.heap = h0 := by rw [← hh, Bd.state]; rfl
  have N0 := Fr.nil n0
  let ST : State := (s₁.setTop (entryFrame m #[(.ref a), (.long v)] 3))
  have pre0 : ∀ t, Steps p.tables e below (s₁.setTop (mkF m 0 #[.val (.ref a), .val (.long v), .second] [])) t → Steps p.tables e below ST t := fun t k => castTop (ef_10 m a v) k
  let LL1 : Array Slot := #[.val (.ref a), .val (.long v), .second]
  obtain ⟨cq2, kq2, q2a, q2b, q2c⟩ := isOf hZ e0 pr0
  obtain ⟨_, _, ⟨T2, L2, k2, n2⟩, -, X2, ⟨Lc2, hQ2, l2, y2, z2⟩, st2⟩ := X0.virtualBack hx (y := (⟨"com/example/meterwright/meterwright/RecordBody$Writer", "whole", "(J)V"⟩ : MethodName)) (z := (⟨"com/example/meterwright/meterwright/RecordBody$Writer", "whole", "(J)V"⟩ : MethodName)) hown (mvT hZ (hw _ (List.mem_of_getElem? (i := 92) rfl))) (mvT hZ (hw _ (List.mem_of_getElem? (i := 82) rfl))) (notFace_of_selects (args := #[]) (mvT hZ (hw _ (List.mem_of_getElem? (i := 84) rfl)))) (mvT hZ (hw _ (List.mem_of_getElem? (i := 84) rfl))) (mvT hZ (hw _ (List.mem_of_getElem? (i := 83) rfl))) (by decide) (backOf (W := 0) (rm9 l Z a0 hw [] a (((v <<< ((1 : Int32) &&& 0x3f).toInt64)) ^^^ ((v >>> ((63 : Int32) &&& 0x3f).toInt64))) b k z f q tm h0 n0 Z0 pr0 pr1 pr2 pr3 pr4 pr5 pr6 pr7 pr8 pr9) hZ (hw _ (List.mem_of_getElem? (i := 85) rfl)) (hw _ (List.mem_of_getElem? (i := 33) rfl)) (by decide) (by decide)) q2a q2c (g := (mkF m 9 LL1 [(.long (((v <<< ((1 : Int32) &&& 0x3f).toInt64)) ^^^ ((v >>> ((63 : Int32) &&& 0x3f).toInt64)))), (.ref a)])) rfl (by rw [hml]; rfl) (Steps.refl _) (argsL := [(.long (((v <<< ((1 : Int32) &&& 0x3f).toInt64)) ^^^ ((v >>> ((63 : Int32) &&& 0x3f).toInt64))))]) (rest := []) (lenOf pd_3 rfl) rfl (by show 2 * 0 + _ ≤ _; exact Nat.le_of_eq rfl) (hb hby d10_9) (fun _ _ => ⟨rfl, e0, (by decide : 0 + 0 ≤ _), (by decide : 0 + 0 ≤ _)⟩)
  dsimp only [Pt.U, Pt.locs, Pt.cells, Pt.slots] at X2 l2 y2 z2 st2 hQ2
  subst l2 y2 z2
  obtain ⟨rfl, Nq2, K2, q2_0, q2_1, q2_2, q2_3⟩ := hQ2
  have N2 := Fr.app N0 Nq2
  have P3 : ∀ t, Steps p.tables e below (T2.setTop (mkF m 12 LL1 [])) t → Steps p.tables e below ST t := by
    intro t kk
    refine pre0 _ ?_
    show Steps p.tables e below (s₁.setTop (mkF m 0 LL1 [])) _
    refine XS.aloadN X0.here hx rfl (hb hby d10_0) rfl rfl ?_
    show Steps p.tables e below (s₁.setTop (mkF m 1 LL1 [(.ref a)])) _
    refine XS.lloadN X0.here hx rfl (hb hby d10_1) rfl ?_
    show Steps p.tables e below (s₁.setTop (mkF m 2 LL1 [(.long v), (.ref a)])) _
    refine XS.iconst X0.here hx rfl (hb hby d10_2) ?_
    show Steps p.tables e below (s₁.setTop (mkF m 3 LL1 [(.int (1 : Int32)), (.long v), (.ref a)])) _
    refine XS.lshl X0.here hx rfl (hb hby d10_3) rfl ?_
    show Steps p.tables e below (s₁.setTop (mkF m 4 LL1 [(.long ((v <<< ((1 : Int32) &&& 0x3f).toInt64))), (.ref a)])) _
    refine XS.lloadN X0.here hx rfl (hb hby d10_4) rfl ?_
    show Steps p.tables e below (s₁.setTop (mkF m 5 LL1 [(.long v), (.long ((v <<< ((1 : Int32) &&& 0x3f).toInt64))), (.ref a)])) _
    refine XS.bipush X0.here hx rfl (hb hby d10_5) ?_
    show Steps p.tables e below (s₁.setTop (mkF m 7 LL1 [(.int (63 : Int32)), (.long v), (.long ((v <<< ((1 : Int32) &&& 0x3f).toInt64))), (.ref a)])) _
    refine XS.lshr X0.here hx rfl (hb hby d10_7) rfl ?_
    show Steps p.tables e below (s₁.setTop (mkF m 8 LL1 [(.long ((v >>> ((63 : Int32) &&& 0x3f).toInt64))), (.long ((v <<< ((1 : Int32) &&& 0x3f).toInt64))), (.ref a)])) _
    refine XS.lxor X0.here hx rfl (hb hby d10_8) rfl ?_
    show Steps p.tables e below (s₁.setTop (mkF m 9 LL1 [(.long (((v <<< ((1 : Int32) &&& 0x3f).toInt64)) ^^^ ((v >>> ((63 : Int32) &&& 0x3f).toInt64)))), (.ref a)])) _
    refine st2.trans ?_
    show Steps p.tables e below (T2.setTop (mkF m 12 LL1 [])) _
    exact kk
  have k4 : Keep h0 T2.heap [a, b] := (Keep.trans (Keep.refl h0 [a, b]) K2 (allS (Or.inl (List.mem_of_getElem? (i := 0) rfl)) (allS (Or.inl (List.mem_of_getElem? (i := 1) rfl)) all0)))
  obtain ⟨fs, hr, hrun, hended, hW, hsame⟩ := X2.leave (v := none) (fun _ => rfl)
  refine ⟨_, _, P3 _ ?_, hrun, hended, _, _, rfl, ?_, ⟨_, rfl⟩, hW, hsame.mono (by decide) (by decide)⟩
  · exact X2.returnOut hx Bd.returns (hb hby d10_12) hr
  · show Q10 Z a v b k z f q tm h0 n0 _ T2.heap _
    exact ⟨rfl, N2, k4, q2_0, q2_1, q2_2, q2_3⟩
theorem d11_0 : decode prog_25_method_8_code 0 = .ok (.aload_n 0, 1) := by decide +kernel
theorem d11_1 : decode prog_25_method_8_code 1 = .ok (.getfield 7, 3) := by decide +kernel
theorem d11_4 : decode prog_25_method_8_code 4 = .ok (.aload_n 0, 1) := by decide +kernel
theorem d11_5 : decode prog_25_method_8_code 5 = .ok (.getfield 24, 3) := by decide +kernel
theorem d11_8 : decode prog_25_method_8_code 8 = .ok (.invokestatic 98, 3) := by decide +kernel
theorem d11_11 : decode prog_25_method_8_code 11 = .ok (.areturn, 1) := by decide +kernel
theorem ef_11 (m : MethodId) (x0 : Addr) : entryFrame m #[(.ref x0)] 1 = (mkF m 0 #[.val (.ref x0)] []) := by first | (simp [entryFrame, mkF, argsToLocals, Value.category]; done) | rfl
def Q11 (Z : State) (a : Addr) (b : Addr) (k : ClassId) (z : Int32) (f : Nat → Int32) (q : Int32) (h0 : Heap) (n0 : Nat) (vX : Option Value) (hX : Heap) (lX : List Loc) : Prop := ∃ (r : Addr) (kr : ClassId), vX = some (.ref r) ∧ Fr n0 lX ∧ (Keep h0 hX []) ∧ (Bar Z hX r kr q (own_cp z q f)) ∧ (h0.size ≤ r)
set_option maxRecDepth 65536 in
set_option maxHeartbeats 40000000 in
theorem rm11 (l : Launch) (Z : State) (a0 : Array Value) (hw : ∀ d ∈ tables_1, d.before a0 Z = true) (ws : List Jvm.Cond) (a : Addr) (b : Addr) (k : ClassId) (z : Int32) (f : Nat → Int32) (q : Int32) (h0 : Heap) (n0 : Nat) (Z0 : n0 ≤ h0.size) (pr0 : Exa Z h0 a "com/example/meterwright/meterwright/RecordBody$Writer") (pr1 : Fld Z h0 a "com/example/meterwright/meterwright/RecordBody$Writer" "bytes" "[B" (.ref b)) (pr2 : Fld Z h0 a "com/example/meterwright/meterwright/RecordBody$Writer" "size" "I" (.int q)) (pr3 : Bar Z h0 b k z f) (pr4 : ¬ q < 0 ∧ q.toNatClampNeg ≤ 600) (pr5 : ¬ q = z) (pr6 : ¬ z < 0) :
    MetFree l (⟨"com/example/meterwright/meterwright/RecordBody$Writer", "toByteArray", "()[B"⟩ : MethodName) (head1 (Jvm.Cond.code (⟨"com/example/meterwright/meterwright/RecordBody$Writer", "toByteArray", "()[B"⟩ : MethodName) prog_25_method_8_code 1 (some (.array .byte)) :: ws) ({ frames := 2, cells := 1, slots := 600, locals := 32 } : Room)) (fun aX uX => aX = #[(.ref a)] ∧ Z.Warmed39 uX.vm ∧ uX.heap = h0) (fun _ _ _ _ _ => True) (fun _ uX oX wX => ∃ vX lX, oX = .returned vX ∧ Q11 Z a b k z f q h0 n0 vX wX.heap lX ∧ FrameEnd uX oX wX lX ({ frames := 2, cells := 1, slots := 600, locals := 32 } : Room).cells ({ frames := 2, cells := 1, slots := 600, locals := 32 } : Room).slots) := by
  refine MetFree.of_bodySF (plainFor_of_name pn_3) hisR ?_
  intro p e s m args below meth c s₁ Bd hml0 hP hK
  obtain ⟨rfl, hZ, hh⟩ := hP
  have hx := Bd.exec
  have hby := Bd.bytes
  have hml : c.maxLocals = 1 := hml0
  have hown : s.vm.findClass "com/example/meterwright/meterwright/RecordBody$Writer" = some m.cls := findClass_of_methodNamed Bd.named
  have hnm := (name_of_methodNamed Bd.named Bd.method).1
  have X0 : Stand p l e ({ frames := 2, cells := 1, slots := 600, locals := 32 } : Room) s m #[(.ref a)] below meth c s₁ [] 0 0 := Stand.of_body Bd
  have e0 : s₁.heap = h0 := by rw [← hh, Bd.state]; rfl
  have N0 := Fr.nil n0
  let ST : State := (s₁.setTop (entryFrame m #[(.ref a)] 1))
  have pre0 : ∀ t, Steps p.tables e below (s₁.setTop (mkF m 0 #[.val (.ref a)] [])) t → Steps p.tables e below ST t := fun t k => castTop (ef_11 m a) k
  let LL1 : Array Slot := #[.val (.ref a)]
  obtain ⟨T2, X2, e2, st2⟩ := getF X0 hx hZ hown (host := "") (Or.inl (hw _ (List.mem_of_getElem? (i := 38) rfl))) Via.refl e0 pr1 (g := (mkF m 1 LL1 [(.ref a)])) rfl rfl (hb hby d11_1)
  obtain ⟨T3, X3, e3, st3⟩ := getF X2 hx hZ hown (host := "") (Or.inl (hw _ (List.mem_of_getElem? (i := 62) rfl))) Via.refl e2 pr2 (g := (mkF m 5 LL1 [(.ref a), (.ref b)])) rfl rfl (hb hby d11_5)
  obtain ⟨_, _, ⟨T4, L4, k4, n4⟩, -, X4, ⟨Lc4, hQ4, l4, y4, z4⟩, st4⟩ := Jvm.LawKit.callS X3 hx (y := (⟨"java/util/Arrays", "copyOf", "([BI)[B"⟩ : MethodName)) hown (mvT hZ (hw _ (List.mem_of_getElem? (i := 69) rfl))) (mvT hZ (hw _ (List.mem_of_getElem? (i := 70) rfl))) (mvT hZ (hw _ (List.mem_of_getElem? (i := 71) rfl))) (mvT hZ (hw _ (List.mem_of_getElem? (i := 72) rfl))) (by decide) (backOf (W := 0) (rm3 l Z a0 hw [] b q k z f h0 n0 Z0 pr3 pr4 pr5 pr6) hZ (hw _ (List.mem_of_getElem? (i := 72) rfl)) (hw _ (List.mem_of_getElem? (i := 71) rfl)) (by decide) (by decide)) (g := (mkF m 8 LL1 [(.int q), (.ref b)])) rfl (by rw [hml]; rfl) (argsL := [(.ref b), (.int q)]) (rest := []) (lenOf pd_4 rfl) rfl (by show 2 * 0 + _ ≤ _; exact Nat.le_of_eq rfl) (hb hby d11_8) (fun _ _ => ⟨rfl, e3, (by decide : 0 + 1 ≤ _), (by decide : 0 + 600 ≤ _)⟩)
  dsimp only [Pt.U, Pt.locs, Pt.cells, Pt.slots] at X4 l4 y4 z4 st4 hQ4
  subst l4 y4 z4
  obtain ⟨r_4, kr_4, rfl, Nq4, K4, q4_0, q4_1⟩ := hQ4
  have N4 := Fr.app N0 Nq4
  have ne_a_r_4 : a ≠ r_4 := Nat.ne_of_lt (Nat.lt_of_lt_of_le pr0.lt q4_1)
  have ne_b_r_4 : b ≠ r_4 := Nat.ne_of_lt (Nat.lt_of_lt_of_le pr3.lt q4_1)
  have ge_r_4 : n0 ≤ r_4 := Nat.le_trans Z0 q4_1
  have sz_r_4 : h0.size ≤ r_4 := Nat.le_trans (Keep.refl h0 []).1 q4_1
  have P5 : ∀ t, Steps p.tables e below (T4.setTop (mkF m 11 LL1 [(.ref r_4)])) t → Steps p.tables e below ST t := by
    intro t kk
    refine pre0 _ ?_
    show Steps p.tables e below (s₁.setTop (mkF m 0 LL1 [])) _
    refine XS.aloadN X0.here hx rfl (hb hby d11_0) rfl rfl ?_
    show Steps p.tables e below (s₁.setTop (mkF m 1 LL1 [(.ref a)])) _
    refine st2 _ ?_
    show Steps p.tables e below (T2.setTop (mkF m 4 LL1 [(.ref b)])) _
    refine XS.aloadN X2.here hx rfl (hb hby d11_4) rfl rfl ?_
    show Steps p.tables e below (T2.setTop (mkF m 5 LL1 [(.ref a), (.ref b)])) _
    refine st3 _ ?_
    show Steps p.tables e below (T3.setTop (mkF m 8 LL1 [(.int q), (.ref b)])) _
    refine st4 _ ?_
    show Steps p.tables e below (T4.setTop (mkF m 11 LL1 [(.ref r_4)])) _
    exact kk
  have k6 : Keep h0 T4.heap [] := (Keep.trans (Keep.refl h0 []) K4 all0)
  obtain ⟨fs, hr, hrun, hended, hW, hsame⟩ := X4.leave (v := some (.ref r_4)) (fun h => by rw [Bd.returns] at h; cases h)
  refine ⟨_, _, P5 _ ?_, hrun, hended, _, _, rfl, ?_, ⟨_, rfl⟩, hW, hsame.mono (by decide) (by decide)⟩
  · exact X4.areturnOut hx rfl Bd.returns rfl (hb hby d11_11) hr
  · show Q11 Z a b k z f q h0 n0 _ T4.heap _
    exact ⟨r_4, kr_4, rfl, N4, k6, q4_0, sz_r_4⟩
theorem d12_0 : decode prog_25_method_1_code 0 = .ok (.aload_n 0, 1) := by decide +kernel
theorem d12_1 : decode prog_25_method_1_code 1 = .ok (.invokespecial 1, 3) := by decide +kernel
theorem d12_4 : decode prog_25_method_1_code 4 = .ok (.aload_n 0, 1) := by decide +kernel
theorem d12_5 : decode prog_25_method_1_code 5 = .ok (.sipush 256, 3) := by decide +kernel
theorem d12_8 : decode prog_25_method_1_code 8 = .ok (.newarray .byte, 2) := by decide +kernel
theorem d12_10 : decode prog_25_method_1_code 10 = .ok (.putfield 7, 3) := by decide +kernel
theorem d12_13 : decode prog_25_method_1_code 13 = .ok (.aload_n 0, 1) := by decide +kernel
theorem d12_14 : decode prog_25_method_1_code 14 = .ok (.new 13, 3) := by decide +kernel
theorem d12_17 : decode prog_25_method_1_code 17 = .ok (.dup, 1) := by decide +kernel
theorem d12_18 : decode prog_25_method_1_code 18 = .ok (.invokespecial 15, 3) := by decide +kernel
theorem d12_21 : decode prog_25_method_1_code 21 = .ok (.putfield 16, 3) := by decide +kernel
theorem d12_24 : decode prog_25_method_1_code 24 = .ok (.aload_n 0, 1) := by decide +kernel
theorem d12_25 : decode prog_25_method_1_code 25 = .ok (.iconst 1, 1) := by decide +kernel
theorem d12_26 : decode prog_25_method_1_code 26 = .ok (.invokevirtual 20, 3) := by decide +kernel
theorem d12_29 : decode prog_25_method_1_code 29 = .ok (.aload_n 0, 1) := by decide +kernel
theorem d12_30 : decode prog_25_method_1_code 30 = .ok (.getfield 7, 3) := by decide +kernel
theorem d12_33 : decode prog_25_method_1_code 33 = .ok (.aload_n 0, 1) := by decide +kernel
theorem d12_34 : decode prog_25_method_1_code 34 = .ok (.dup, 1) := by decide +kernel
theorem d12_35 : decode prog_25_method_1_code 35 = .ok (.getfield 24, 3) := by decide +kernel
theorem d12_38 : decode prog_25_method_1_code 38 = .ok (.dup_x1, 1) := by decide +kernel
theorem d12_39 : decode prog_25_method_1_code 39 = .ok (.iconst 1, 1) := by decide +kernel
theorem d12_40 : decode prog_25_method_1_code 40 = .ok (.iadd, 1) := by decide +kernel
theorem d12_41 : decode prog_25_method_1_code 41 = .ok (.putfield 24, 3) := by decide +kernel
theorem d12_44 : decode prog_25_method_1_code 44 = .ok (.iload_n 1, 1) := by decide +kernel
theorem d12_45 : decode prog_25_method_1_code 45 = .ok (.bastore, 1) := by decide +kernel
theorem d12_46 : decode prog_25_method_1_code 46 = .ok (.return_, 1) := by decide +kernel
theorem ef_12 (m : MethodId) (x0 : Addr) (x1 : Int32) : entryFrame m #[(.ref x0), (.int x1)] 2 = (mkF m 0 #[.val (.ref x0), .val (.int x1)] []) := by first | (simp [entryFrame, mkF, argsToLocals, Value.category]; done) | rfl
def Q12 (Z : State) (a : Addr) (kd : Int32) (h0 : Heap) (n0 : Nat) (vX : Option Value) (hX : Heap) (lX : List Loc) : Prop := ∃ (b : Addr) (tm : Addr) (k : ClassId), vX = none ∧ Fr n0 lX ∧ (Keep h0 hX [a]) ∧ (Fld Z hX a "com/example/meterwright/meterwright/RecordBody$Writer" "bytes" "[B" (.ref b)) ∧ (Fld Z hX a "com/example/meterwright/meterwright/RecordBody$Writer" "size" "I" (.int (1 : Int32))) ∧ (Fld Z hX a "com/example/meterwright/meterwright/RecordBody$Writer" "texts" "Ljava/util/Map;" (.ref tm)) ∧ (Bar Z hX b k (256 : Int32) (own_i kd)) ∧ (Exa Z hX tm "java/util/HashMap") ∧ (Fld Z hX tm "java/util/HashMap" "loadFactor" "F" (.float (1061158912 : UInt32))) ∧ (Fld Z hX tm "java/util/HashMap" "table" "[Ljava/util/HashMap$Node;" .null) ∧ (Fld Z hX tm "java/util/HashMap" "size" "I" (.int (0 : Int32))) ∧ (Fld Z hX tm "java/util/HashMap" "threshold" "I" (.int (0 : Int32))) ∧ (Fld Z hX tm "java/util/HashMap" "modCount" "I" (.int (0 : Int32))) ∧ (h0.size ≤ b) ∧ (h0.size ≤ tm) ∧ (b ≠ tm)
set_option maxRecDepth 65536 in
set_option maxHeartbeats 40000000 in
theorem rm12 (l : Launch) (Z : State) (a0 : Array Value) (hw : ∀ d ∈ tables_1, d.before a0 Z = true) (ws : List Jvm.Cond) (a : Addr) (kd : Int32) (h0 : Heap) (n0 : Nat) (Z0 : n0 ≤ h0.size) (pr0 : Exa Z h0 a "com/example/meterwright/meterwright/RecordBody$Writer") (pr1 : Fld Z h0 a "com/example/meterwright/meterwright/RecordBody$Writer" "bytes" "[B" .null) (pr2 : Fld Z h0 a "com/example/meterwright/meterwright/RecordBody$Writer" "size" "I" (.int (0 : Int32))) (pr3 : Fld Z h0 a "com/example/meterwright/meterwright/RecordBody$Writer" "texts" "Ljava/util/Map;" .null) (pr4 : n0 ≤ a) :
    MetFree l (⟨"com/example/meterwright/meterwright/RecordBody$Writer", "<init>", "(B)V"⟩ : MethodName) (head1 (Jvm.Cond.code (⟨"com/example/meterwright/meterwright/RecordBody$Writer", "<init>", "(B)V"⟩ : MethodName) prog_25_method_1_code 2 none :: ws) ({ frames := 3, cells := 2, slots := 264, locals := 38 } : Room)) (fun aX uX => aX = #[(.ref a), (.int kd)] ∧ Z.Warmed39 uX.vm ∧ uX.heap = h0) (fun _ _ _ _ _ => True) (fun _ uX oX wX => ∃ vX lX, oX = .returned vX ∧ Q12 Z a kd h0 n0 vX wX.heap lX ∧ FrameEnd uX oX wX lX ({ frames := 3, cells := 2, slots := 264, locals := 38 } : Room).cells ({ frames := 3, cells := 2, slots := 264, locals := 38 } : Room).slots) := by
  refine MetFree.of_bodySF (plainFor_of_name pn_3) hisR ?_
  intro p e s m args below meth c s₁ Bd hml0 hP hK
  obtain ⟨rfl, hZ, hh⟩ := hP
  have hx := Bd.exec
  have hby := Bd.bytes
  have hml : c.maxLocals = 2 := hml0
  have hown : s.vm.findClass "com/example/meterwright/meterwright/RecordBody$Writer" = some m.cls := findClass_of_methodNamed Bd.named
  have hnm := (name_of_methodNamed Bd.named Bd.method).1
  have X0 : Stand p l e ({ frames := 3, cells := 2, slots := 264, locals := 38 } : Room) s m #[(.ref a), (.int kd)] below meth c s₁ [] 0 0 := Stand.of_body Bd
  have e0 : s₁.heap = h0 := by rw [← hh, Bd.state]; rfl
  have N0 := Fr.nil n0
  let ST : State := (s₁.setTop (entryFrame m #[(.ref a), (.int kd)] 2))
  have pre0 : ∀ t, Steps p.tables e below (s₁.setTop (mkF m 0 #[.val (.ref a), .val (.int kd)] [])) t → Steps p.tables e below ST t := fun t k => castTop (ef_12 m a kd) k
  let LL1 : Array Slot := #[.val (.ref a), .val (.int kd)]
  obtain ⟨T2, X2, e2, st2⟩ := initO X0 hx hZ hown (hw _ (List.mem_of_getElem? (i := 37) rfl)) (hw _ (List.mem_of_getElem? (i := 12) rfl)) (hw _ (List.mem_of_getElem? (i := 13) rfl)) e0 (g := (mkF m 1 LL1 [(.ref a)])) rfl (by rw [hml]; rfl) rfl (hb hby d12_1) (by decide) (W := 0) (by show 2 * 0 + _ ≤ _; exact Nat.le_of_eq rfl) (by decide)
  obtain ⟨T3, h3, k3, X3, e3, E3, A3, st3⟩ := newP X2 hx hZ (hw _ (List.mem_of_getElem? (i := 19) rfl)) e2 (g := (mkF m 8 LL1 [(.int (256 : Int32)), (.ref a)])) rfl (hb hby d12_8) rfl (by decide) (cap := 256) (by decide) (by decide) (by decide) (by decide)
  obtain ⟨b3, g_b3⟩ : ∃ z, z = h0.size := ⟨_, rfl⟩
  rw [← g_b3] at A3 st3
  have ne_a_b3 : a ≠ b3 := Nat.ne_of_lt (Nat.lt_of_lt_of_le pr0.lt (Nat.le_of_eq g_b3.symm))
  have ge_b3 : n0 ≤ b3 := Nat.le_trans Z0 (Nat.le_of_eq g_b3.symm)
  have sz_b3 : h0.size ≤ b3 := Nat.le_trans (Keep.refl h0 [a]).1 (Nat.le_of_eq g_b3.symm)
  have V3 := Bar.new A3 (by decide)
  have f4 := (Exa.ext E3 pr0)
  have f5 := (Fld.ext E3 pr1)
  obtain ⟨T6, h6, X6, e6, W6, st6⟩ := putF X3 hx hZ hown (host := "") (Or.inl (hw _ (List.mem_of_getElem? (i := 38) rfl))) Via.refl e3 f5 f4 (Or.inl (hw _ (List.mem_of_getElem? (i := 39) rfl))) (hw _ (List.mem_of_getElem? (i := 32) rfl)) (ty := (.array .byte)) (by decide) rfl rfl (g := (mkF m 10 LL1 [(.ref b3), (.ref a)])) rfl rfl (hb hby d12_10)
  have N6 := Fr.snoc X6 N0 pr4
  have Fw6 := Fld.same W6 f5
  obtain ⟨T7, h7, X7, e7, E7, A7, D7, -, st7⟩ := newO X6 hx hZ hown (hw _ (List.mem_of_getElem? (i := 40) rfl)) (hw _ (List.mem_of_getElem? (i := 41) rfl)) (hw _ (List.mem_of_getElem? (i := 42) rfl)) e6 (g := (mkF m 14 LL1 [(.ref a)])) rfl (hb hby d12_14) (by decide) (by decide)
  have f8 := (Exa.wr W6 f4)
  have f9 := (Bar.other V3 W6 (Ne.symm ne_a_b3))
  have z10 : n0 ≤ _ := (Nat.le_trans (Nat.le_trans Z0 E3.1) (Keep.of_wr W6).1)
  have k11 : Keep h0 h6 [a] := (Keep.wr (Keep.ext (Keep.refl h0 [a]) E3) W6 (Or.inl (List.mem_of_getElem? (i := 0) rfl)))
  obtain ⟨b7, g_b7⟩ : ∃ z, z = h6.size := ⟨_, rfl⟩
  rw [← g_b7] at A7 D7 st7
  have ne_a_b7 : a ≠ b7 := Nat.ne_of_lt (Nat.lt_of_lt_of_le f8.lt (Nat.le_of_eq g_b7.symm))
  have ne_b3_b7 : b3 ≠ b7 := Nat.ne_of_lt (Nat.lt_of_lt_of_le f9.lt (Nat.le_of_eq g_b7.symm))
  have ge_b7 : n0 ≤ b7 := Nat.le_trans z10 (Nat.le_of_eq g_b7.symm)
  have sz_b7 : h0.size ≤ b7 := Nat.le_trans k11.1 (Nat.le_of_eq g_b7.symm)
  have F7_55 : Fld Z h7 b7 "java/util/HashMap" "loadFactor" "F" (.float (0 : UInt32)) := D7 (Or.inr (hw _ (List.mem_of_getElem? (i := 55) rfl))) (ty := .float) (by decide)
  have F7_118 : Fld Z h7 b7 "java/util/HashMap" "table" "[Ljava/util/HashMap$Node;" .null := D7 (Or.inl (hw _ (List.mem_of_getElem? (i := 118) rfl))) (ty := (.array (.object "java/util/HashMap$Node"))) (by decide)
  have F7_164 : Fld Z h7 b7 "java/util/HashMap" "size" "I" (.int (0 : Int32)) := D7 (Or.inl (hw _ (List.mem_of_getElem? (i := 164) rfl))) (ty := .int) (by decide)
  have F7_222 : Fld Z h7 b7 "java/util/HashMap" "threshold" "I" (.int (0 : Int32)) := D7 (Or.inl (hw _ (List.mem_of_getElem? (i := 222) rfl))) (ty := .int) (by decide)
  have F7_246 : Fld Z h7 b7 "java/util/HashMap" "modCount" "I" (.int (0 : Int32)) := D7 (Or.inl (hw _ (List.mem_of_getElem? (i := 246) rfl))) (ty := .int) (by decide)
  have z13 : n0 ≤ _ := (Nat.le_trans z10 E7.1)
  obtain ⟨_, _, ⟨T12, L12, k12, n12⟩, -, X12, ⟨Lc12, hQ12, l12, y12, z12⟩, st12⟩ := X7.specialBack hx (y := (⟨"java/util/HashMap", "<init>", "()V"⟩ : MethodName)) rfl hown (mvT hZ (hw _ (List.mem_of_getElem? (i := 43) rfl))) (mvT hZ (hw _ (List.mem_of_getElem? (i := 44) rfl))) (mvT hZ (hw _ (List.mem_of_getElem? (i := 45) rfl))) (by decide) (backOf (W := 2) (rm5 l Z a0 hw [] b7 h7 n0 z13 A7 F7_55 F7_118 F7_164 F7_222 F7_246 ge_b7) hZ (hw _ (List.mem_of_getElem? (i := 45) rfl)) (hw _ (List.mem_of_getElem? (i := 42) rfl)) (by decide) (by decide)) (g := (mkF m 18 LL1 [(.ref b7), (.ref b7), (.ref a)])) rfl (by rw [hml]; rfl) (Steps.refl _) (a := b7) (argsL := []) (rest := [(.ref b7), (.ref a)]) (lenOf pd_1 rfl) rfl (by show 2 * 0 + _ ≤ _; exact Nat.le_of_eq rfl) (hb hby d12_18) (fun _ _ => ⟨rfl, e7, (by decide : 2 + 0 ≤ _), (by decide : 264 + 0 ≤ _)⟩)
  dsimp only [Pt.U, Pt.locs, Pt.cells, Pt.slots] at X12 l12 y12 z12 st12 hQ12
  subst l12 y12 z12
  obtain ⟨rfl, Nq12, K12, q12_0, q12_1, q12_2, q12_3, q12_4⟩ := hQ12
  have N12 := Fr.app N6 Nq12
  have f14 := (Exa.keep (Exa.ext E7 f8) K12)
  have f15 := (Fld.keep (Fld.ext E7 (Fld.other W6 (Fld.ext E3 pr3) (Or.inr (slot_ne (Or.inr (hw _ (List.mem_of_getElem? (i := 57) rfl))) (Or.inl (hw _ (List.mem_of_getElem? (i := 39) rfl))) (by decide) (t := (.object "java/util/Map")) (t' := (.array .byte)) (by decide) (by decide))))) K12 (ninS ne_a_b7 nin0))
  obtain ⟨T16, h16, X16, e16, W16, st16⟩ := putF X12 hx hZ hown (host := "") (Or.inl (hw _ (List.mem_of_getElem? (i := 56) rfl))) Via.refl rfl f15 f14 (Or.inr ⟨(hw _ (List.mem_of_getElem? (i := 57) rfl)), rfl, hnm⟩) (hw _ (List.mem_of_getElem? (i := 32) rfl)) (ty := (.object "java/util/Map")) (by decide) rfl rfl (g := (mkF m 21 LL1 [(.ref b7), (.ref a)])) rfl rfl (hb hby d12_21)
  have N16 := Fr.snoc X16 N12 pr4
  have Fw16 := Fld.same W16 f15
  have f18 := (Exa.wr W16 f14)
  have f19 := (Fld.other W16 (Fld.keep (Fld.ext E7 Fw6) K12 (ninS ne_a_b7 nin0)) (Or.inr (slot_ne (Or.inl (hw _ (List.mem_of_getElem? (i := 39) rfl))) (Or.inr (hw _ (List.mem_of_getElem? (i := 57) rfl))) (by decide) (t := (.array .byte)) (t' := (.object "java/util/Map")) (by decide) (by decide))))
  have f20 := (Fld.other W16 (Fld.keep (Fld.ext E7 (Fld.other W6 (Fld.ext E3 pr2) (Or.inr (slot_ne (Or.inl (hw _ (List.mem_of_getElem? (i := 63) rfl))) (Or.inl (hw _ (List.mem_of_getElem? (i := 39) rfl))) (by decide) (t := .int) (t' := (.array .byte)) (by decide) (by decide))))) K12 (ninS ne_a_b7 nin0)) (Or.inr (slot_ne (Or.inl (hw _ (List.mem_of_getElem? (i := 63) rfl))) (Or.inr (hw _ (List.mem_of_getElem? (i := 57) rfl))) (by decide) (t := .int) (t' := (.object "java/util/Map")) (by decide) (by decide))))
  have f21 := (Bar.other (Bar.keep (Bar.ext f9 E7) K12 (ninS ne_b3_b7 nin0)) W16 (Ne.symm ne_a_b3))
  have z22 : n0 ≤ _ := (Nat.le_trans (Nat.le_trans z13 K12.1) (Keep.of_wr W16).1)
  obtain ⟨cq17, q17, q17'⟩ := f18.cell
  obtain ⟨_, _, ⟨T17, L17, k17, n17⟩, -, X17, ⟨Lc17, hQ17, l17, y17, z17⟩, st17⟩ := X16.privateBack hx (y := (⟨"com/example/meterwright/meterwright/RecordBody$Writer", "room", "(I)V"⟩ : MethodName)) hown (mvT hZ (hw _ (List.mem_of_getElem? (i := 58) rfl))) (mvT hZ (hw _ (List.mem_of_getElem? (i := 59) rfl))) (own_selpriv (y := (⟨"com/example/meterwright/meterwright/RecordBody$Writer", "room", "(I)V"⟩ : MethodName)) (y' := (⟨"com/example/meterwright/meterwright/RecordBody$Writer", "toByteArray", "()[B"⟩ : MethodName)) rfl (mvT hZ (hw _ (List.mem_of_getElem? (i := 67) rfl))) (Cond.privateMethod_at (mvP hZ (hw _ (List.mem_of_getElem? (i := 60) rfl)) (args := #[]))) (mvT hZ (hw _ (List.mem_of_getElem? (i := 59) rfl))) (by decide)) (Cond.privateMethod_at (mvP hZ (hw _ (List.mem_of_getElem? (i := 60) rfl)) (args := #[]))) (mvT hZ (hw _ (List.mem_of_getElem? (i := 61) rfl))) (by decide) (backOf (W := 0) (rm6 l Z a0 hw [] a (1 : Int32) b3 k3 (256 : Int32) (fun _ => (0 : Int32)) (0 : Int32) h16 n0 z22 f18 f19 f20 f21 (by decide)) hZ (hw _ (List.mem_of_getElem? (i := 61) rfl)) (hw _ (List.mem_of_getElem? (i := 33) rfl)) (by decide) (by decide)) (g := (mkF m 26 LL1 [(.int (1 : Int32)), (.ref a)])) rfl (by rw [hml]; rfl) (Steps.refl _) (a := a) (by rw [e16]; exact q17) q17' (argsL := [(.int (1 : Int32))]) (rest := []) (lenOf pd_2 rfl) rfl (by show 2 * 0 + _ ≤ _; exact Nat.le_of_eq rfl) (hb hby d12_26) (fun _ _ => ⟨rfl, e16, (by decide : 2 + 0 ≤ _), (by decide : 264 + 0 ≤ _)⟩)
  dsimp only [Pt.U, Pt.locs, Pt.cells, Pt.slots] at X17 l17 y17 z17 st17 hQ17
  subst l17 y17 z17
  obtain ⟨rfl, Nq17, e17⟩ := hQ17
  have N17 := Fr.app N16 Nq17
  obtain ⟨T23, X23, e23, st23⟩ := getF X17 hx hZ hown (host := "") (Or.inl (hw _ (List.mem_of_getElem? (i := 38) rfl))) Via.refl e17 f19 (g := (mkF m 30 LL1 [(.ref a)])) rfl rfl (hb hby d12_30)
  obtain ⟨T24, X24, e24, st24⟩ := getF X23 hx hZ hown (host := "") (Or.inl (hw _ (List.mem_of_getElem? (i := 62) rfl))) Via.refl e23 f20 (g := (mkF m 35 LL1 [(.ref a), (.ref a), (.ref b3)])) rfl rfl (hb hby d12_35)
  obtain ⟨T25, h25, X25, e25, W25, st25⟩ := putF X24 hx hZ hown (host := "") (Or.inl (hw _ (List.mem_of_getElem? (i := 62) rfl))) Via.refl e24 f20 f18 (Or.inl (hw _ (List.mem_of_getElem? (i := 63) rfl))) (hw _ (List.mem_of_getElem? (i := 32) rfl)) (ty := .int) (by decide) rfl rfl (g := (mkF m 41 LL1 [(.int (1 : Int32)), (.ref a), (.int (0 : Int32)), (.ref b3)])) rfl rfl (hb hby d12_41)
  have N25 := Fr.snoc X25 N17 pr4
  have Fw25 := Fld.same W25 f20
  have f26 := (Bar.other f21 W25 (Ne.symm ne_a_b3))
  obtain ⟨cl_a27, Ar_a27, q_a27, S_a27, N_a27, H_a27⟩ := id f26
  have hin_a27 : ¬ ((0 : Int32) < 0 ∨ cl_a27.slots.size ≤ ((0 : Int32)).toNatClampNeg) := inb_of S_a27 ⟨by decide, by decide⟩
  obtain ⟨T28, h28, X28, e28, W28, st28⟩ := stB X25 hx hZ e25 Ar_a27 (j := (0 : Int32)) hin_a27 (g := (mkF m 45 LL1 [(.int kd), (.int (0 : Int32)), (.ref b3)])) rfl rfl (hb hby d12_45)
  have V28 := Bar.set Ar_a27 q_a27 S_a27 N_a27 H_a27 W28
  have N28 := Fr.snoc X28 N25 ge_b3
  have P29 : ∀ t, Steps p.tables e below (T28.setTop (mkF m 46 LL1 [])) t → Steps p.tables e below ST t := by
    intro t kk
    refine pre0 _ ?_
    show Steps p.tables e below (s₁.setTop (mkF m 0 LL1 [])) _
    refine XS.aloadN X0.here hx rfl (hb hby d12_0) rfl rfl ?_
    show Steps p.tables e below (s₁.setTop (mkF m 1 LL1 [(.ref a)])) _
    refine st2 _ ?_
    show Steps p.tables e below (T2.setTop (mkF m 4 LL1 [])) _
    refine XS.aloadN X2.here hx rfl (hb hby d12_4) rfl rfl ?_
    show Steps p.tables e below (T2.setTop (mkF m 5 LL1 [(.ref a)])) _
    refine XS.sipush X2.here hx rfl (hb hby d12_5) ?_
    show Steps p.tables e below (T2.setTop (mkF m 8 LL1 [(.int (256 : Int32)), (.ref a)])) _
    refine st3 _ ?_
    show Steps p.tables e below (T3.setTop (mkF m 10 LL1 [(.ref b3), (.ref a)])) _
    refine st6 _ ?_
    show Steps p.tables e below (T6.setTop (mkF m 13 LL1 [])) _
    refine XS.aloadN X6.here hx rfl (hb hby d12_13) rfl rfl ?_
    show Steps p.tables e below (T6.setTop (mkF m 14 LL1 [(.ref a)])) _
    refine st7 _ ?_
    show Steps p.tables e below (T7.setTop (mkF m 17 LL1 [(.ref b7), (.ref a)])) _
    refine XS.dup X7.here hx rfl (hb hby d12_17) rfl rfl ?_
    show Steps p.tables e below (T7.setTop (mkF m 18 LL1 [(.ref b7), (.ref b7), (.ref a)])) _
    refine st12.trans ?_
    show Steps p.tables e below (T12.setTop (mkF m 21 LL1 [(.ref b7), (.ref a)])) _
    refine st16 _ ?_
    show Steps p.tables e below (T16.setTop (mkF m 24 LL1 [])) _
    refine XS.aloadN X16.here hx rfl (hb hby d12_24) rfl rfl ?_
    show Steps p.tables e below (T16.setTop (mkF m 25 LL1 [(.ref a)])) _
    refine XS.iconst X16.here hx rfl (hb hby d12_25) ?_
    show Steps p.tables e below (T16.setTop (mkF m 26 LL1 [(.int (1 : Int32)), (.ref a)])) _
    refine st17.trans ?_
    show Steps p.tables e below (T17.setTop (mkF m 29 LL1 [])) _
    refine XS.aloadN X17.here hx rfl (hb hby d12_29) rfl rfl ?_
    show Steps p.tables e below (T17.setTop (mkF m 30 LL1 [(.ref a)])) _
    refine st23 _ ?_
    show Steps p.tables e below (T23.setTop (mkF m 33 LL1 [(.ref b3)])) _
    refine XS.aloadN X23.here hx rfl (hb hby d12_33) rfl rfl ?_
    show Steps p.tables e below (T23.setTop (mkF m 34 LL1 [(.ref a), (.ref b3)])) _
    refine XS.dup X23.here hx rfl (hb hby d12_34) rfl rfl ?_
    show Steps p.tables e below (T23.setTop (mkF m 35 LL1 [(.ref a), (.ref a), (.ref b3)])) _
    refine st24 _ ?_
    show Steps p.tables e below (T24.setTop (mkF m 38 LL1 [(.int (0 : Int32)), (.ref a), (.ref b3)])) _
    refine XS.dupX1 X24.here hx rfl (hb hby d12_38) rfl rfl rfl ?_
    show Steps p.tables e below (T24.setTop (mkF m 39 LL1 [(.int (0 : Int32)), (.ref a), (.int (0 : Int32)), (.ref b3)])) _
    refine XS.iconst X24.here hx rfl (hb hby d12_39) ?_
    show Steps p.tables e below (T24.setTop (mkF m 40 LL1 [(.int (1 : Int32)), (.int (0 : Int32)), (.ref a), (.int (0 : Int32)), (.ref b3)])) _
    refine XS.iadd X24.here hx rfl (hb hby d12_40) rfl ?_
    show Steps p.tables e below (T24.setTop (mkF m 41 LL1 [(.int (1 : Int32)), (.ref a), (.int (0 : Int32)), (.ref b3)])) _
    refine st25 _ ?_
    show Steps p.tables e below (T25.setTop (mkF m 44 LL1 [(.int (0 : Int32)), (.ref b3)])) _
    refine XS.iloadN X25.here hx rfl (hb hby d12_44) rfl ?_
    show Steps p.tables e below (T25.setTop (mkF m 45 LL1 [(.int kd), (.int (0 : Int32)), (.ref b3)])) _
    refine st28 _ ?_
    show Steps p.tables e below (T28.setTop (mkF m 46 LL1 [])) _
    exact kk
  have k30 : Keep h0 h28 [a] := (Keep.wr (Keep.wr (Keep.wr (Keep.trans (Keep.ext k11 E7) K12 (allS (Or.inr sz_b7) all0)) W16 (Or.inl (List.mem_of_getElem? (i := 0) rfl))) W25 (Or.inl (List.mem_of_getElem? (i := 0) rfl))) W28 (Or.inr sz_b3))
  have f31 := (Fld.other W28 (Fld.other W25 f19 (Or.inr (slot_ne (Or.inl (hw _ (List.mem_of_getElem? (i := 39) rfl))) (Or.inl (hw _ (List.mem_of_getElem? (i := 63) rfl))) (by decide) (t := (.array .byte)) (t' := .int) (by decide) (by decide)))) (Or.inl ne_a_b3))
  have f32 := (Fld.other W28 Fw25 (Or.inl ne_a_b3))
  have f33 := (Fld.other W28 (Fld.other W25 Fw16 (Or.inr (slot_ne (Or.inr (hw _ (List.mem_of_getElem? (i := 57) rfl))) (Or.inl (hw _ (List.mem_of_getElem? (i := 63) rfl))) (by decide) (t := (.object "java/util/Map")) (t' := .int) (by decide) (by decide)))) (Or.inl ne_a_b3))
  have f34 := (Exa.wr W28 (Exa.wr W25 (Exa.wr W16 (Exa.keep A7 K12))))
  have f35 := (Fld.other W28 (Fld.other W25 (Fld.other W16 q12_0 (Or.inl (Ne.symm ne_a_b7))) (Or.inl (Ne.symm ne_a_b7))) (Or.inl (Ne.symm ne_b3_b7)))
  have f36 := (Fld.other W28 (Fld.other W25 (Fld.other W16 q12_1 (Or.inl (Ne.symm ne_a_b7))) (Or.inl (Ne.symm ne_a_b7))) (Or.inl (Ne.symm ne_b3_b7)))
  have f37 := (Fld.other W28 (Fld.other W25 (Fld.other W16 q12_2 (Or.inl (Ne.symm ne_a_b7))) (Or.inl (Ne.symm ne_a_b7))) (Or.inl (Ne.symm ne_b3_b7)))
  have f38 := (Fld.other W28 (Fld.other W25 (Fld.other W16 q12_3 (Or.inl (Ne.symm ne_a_b7))) (Or.inl (Ne.symm ne_a_b7))) (Or.inl (Ne.symm ne_b3_b7)))
  have f39 := (Fld.other W28 (Fld.other W25 (Fld.other W16 q12_4 (Or.inl (Ne.symm ne_a_b7))) (Or.inl (Ne.symm ne_a_b7))) (Or.inl (Ne.symm ne_b3_b7)))
  obtain ⟨fs, hr, hrun, hended, hW, hsame⟩ := X28.leave (v := none) (fun _ => rfl)
  refine ⟨_, _, P29 _ ?_, hrun, hended, _, _, rfl, ?_, ⟨_, rfl⟩, hW, hsame.mono (by decide) (by decide)⟩
  · exact X28.returnOut hx Bd.returns (hb hby d12_46) hr
  · show Q12 Z a kd h0 n0 _ T28.heap _
    rw [e28]
    exact ⟨b3, b7, k3, rfl, N28, k30, f31, f32, f33, V28, f34, f35, f36, f37, f38, f39, sz_b3, sz_b7, ne_b3_b7⟩
theorem d13_0 : decode method_2_code 0 = .ok (.iload_n 1, 1) := by decide +kernel
theorem d13_1 : decode method_2_code 1 = .ok (.ifCond .ge 5, 3) := by decide +kernel
theorem d13_6 : decode method_2_code 6 = .ok (.lload_n 2, 1) := by decide +kernel
theorem d13_7 : decode method_2_code 7 = .ok (.ldc2_w 7, 3) := by decide +kernel
theorem d13_10 : decode method_2_code 10 = .ok (.lcmp, 1) := by decide +kernel
theorem d13_11 : decode method_2_code 11 = .ok (.ifCond .ge 28, 3) := by decide +kernel
theorem d13_14 : decode method_2_code 14 = .ok (.aload_n 0, 1) := by decide +kernel
theorem d13_15 : decode method_2_code 15 = .ok (.arraylength, 1) := by decide +kernel
theorem d13_16 : decode method_2_code 16 = .ok (.iload_n 1, 1) := by decide +kernel
theorem d13_17 : decode method_2_code 17 = .ok (.if_icmp .gt 5, 3) := by decide +kernel
theorem d13_22 : decode method_2_code 22 = .ok (.aload_n 0, 1) := by decide +kernel
theorem d13_23 : decode method_2_code 23 = .ok (.iload_n 1, 1) := by decide +kernel
theorem d13_24 : decode method_2_code 24 = .ok (.baload, 1) := by decide +kernel
theorem d13_25 : decode method_2_code 25 = .ok (.lload_n 2, 1) := by decide +kernel
theorem d13_26 : decode method_2_code 26 = .ok (.l2i, 1) := by decide +kernel
theorem d13_27 : decode method_2_code 27 = .ok (.i2b, 1) := by decide +kernel
theorem d13_28 : decode method_2_code 28 = .ok (.if_icmp .ne 9, 3) := by decide +kernel
theorem d13_31 : decode method_2_code 31 = .ok (.iload_n 1, 1) := by decide +kernel
theorem d13_32 : decode method_2_code 32 = .ok (.iconst 1, 1) := by decide +kernel
theorem d13_33 : decode method_2_code 33 = .ok (.iadd, 1) := by decide +kernel
theorem d13_34 : decode method_2_code 34 = .ok (.goto 4, 3) := by decide +kernel
theorem d13_38 : decode method_2_code 38 = .ok (.ireturn, 1) := by decide +kernel
theorem ef_13 (m : MethodId) (x0 : Addr) (x1 : Int32) (x2 : Int64) : entryFrame m #[(.ref x0), (.int x1), (.long x2)] 4 = (mkF m 0 #[.val (.ref x0), .val (.int x1), .val (.long x2), .second] []) := by first | (simp [entryFrame, mkF, argsToLocals, Value.category]; done) | rfl
def Q13 (Z : State) (a : Addr) (q : Int32) (v : Int64) (k : ClassId) (z : Int32) (f : Nat → Int32) (h0 : Heap) (n0 : Nat) (vX : Option Value) (hX : Heap) (lX : List Loc) : Prop := vX = some (.int (q + (1 : Int32))) ∧ Fr n0 lX ∧ (hX = h0)
set_option maxRecDepth 65536 in
set_option maxHeartbeats 40000000 in
theorem rm13 (l : Launch) (Z : State) (a0 : Array Value) (hw : ∀ d ∈ tables_1, d.before a0 Z = true) (ws : List Jvm.Cond) (a : Addr) (q : Int32) (v : Int64) (k : ClassId) (z : Int32) (f : Nat → Int32) (h0 : Heap) (n0 : Nat) (Z0 : n0 ≤ h0.size) (pr0 : Bar Z h0 a k z f) (pr1 : ¬ q < (0 : Int32)) (pr2 : q < z) (pr3 : v < (128 : Int64)) (pr4 : (f (q).toNatClampNeg) = ((((v).toInt32)).toInt8.toInt32)) :
    MetFree l (⟨"com/example/meterwright/meterwright/WriterToByteArrayPinLaw", "at", "([BIJ)I"⟩ : MethodName) (head1 (Jvm.Cond.code (⟨"com/example/meterwright/meterwright/WriterToByteArrayPinLaw", "at", "([BIJ)I"⟩ : MethodName) method_2_code 4 (some .int) :: ws) ({ frames := 0, cells := 0, slots := 0, locals := 0 } : Room)) (fun aX uX => aX = #[(.ref a), (.int q), (.long v)] ∧ Z.Warmed39 uX.vm ∧ uX.heap = h0) (fun _ _ _ _ _ => True) (fun _ uX oX wX => ∃ vX lX, oX = .returned vX ∧ Q13 Z a q v k z f h0 n0 vX wX.heap lX ∧ FrameEnd uX oX wX lX ({ frames := 0, cells := 0, slots := 0, locals := 0 } : Room).cells ({ frames := 0, cells := 0, slots := 0, locals := 0 } : Room).slots) := by
  refine MetFree.of_bodySF (plainFor_of_name pn_4) hisR ?_
  intro p e s m args below meth c s₁ Bd hml0 hP hK
  obtain ⟨rfl, hZ, hh⟩ := hP
  have hx := Bd.exec
  have hby := Bd.bytes
  have hml : c.maxLocals = 4 := hml0
  have hown : s.vm.findClass "com/example/meterwright/meterwright/WriterToByteArrayPinLaw" = some m.cls := findClass_of_methodNamed Bd.named
  have hnm := (name_of_methodNamed Bd.named Bd.method).1
  have X0 : Stand p l e ({ frames := 0, cells := 0, slots := 0, locals := 0 } : Room) s m #[(.ref a), (.int q), (.long v)] below meth c s₁ [] 0 0 := Stand.of_body Bd
  have e0 : s₁.heap = h0 := by rw [← hh, Bd.state]; rfl
  have N0 := Fr.nil n0
  let ST : State := (s₁.setTop (entryFrame m #[(.ref a), (.int q), (.long v)] 4))
  have pre0 : ∀ t, Steps p.tables e below (s₁.setTop (mkF m 0 #[.val (.ref a), .val (.int q), .val (.long v), .second] [])) t → Steps p.tables e below ST t := fun t k => castTop (ef_13 m a q v) k
  let LL1 : Array Slot := #[.val (.ref a), .val (.int q), .val (.long v), .second]
  obtain ⟨cl_a2, Ar_a2, q_a2, S_a2, N_a2, H_a2⟩ := id pr0
  obtain ⟨cl_a3, Ar_a3, q_a3, S_a3, N_a3, H_a3⟩ := id pr0
  have hin_a3 : ¬ (q < 0 ∨ cl_a3.slots.size ≤ (q).toNatClampNeg) := inb_of S_a3 ⟨pr1, pr2⟩
  have hat_a3 : cl_a3.slots[(q).toNatClampNeg]? = some (.int (f (q).toNatClampNeg)) := (H_a3 _ (Nat.lt_of_not_le fun q => hin_a3 (Or.inr q))).1
  have P4 : ∀ t, Steps p.tables e below (s₁.setTop (mkF m 38 LL1 [(.int (q + (1 : Int32)))])) t → Steps p.tables e below ST t := by
    intro t kk
    refine pre0 _ ?_
    show Steps p.tables e below (s₁.setTop (mkF m 0 LL1 [])) _
    refine XS.iloadN X0.here hx rfl (hb hby d13_0) rfl ?_
    show Steps p.tables e below (s₁.setTop (mkF m 1 LL1 [(.int q)])) _
    refine XS.ifYes X0.here hx rfl (pc0 := 1) (pc' := 6) rfl (hb hby d13_1) rfl (XT.i0_ge_t pr1) (by decide) (by decide) ?_
    show Steps p.tables e below (s₁.setTop (mkF m 6 LL1 [])) _
    refine XS.lloadN X0.here hx rfl (hb hby d13_6) rfl ?_
    show Steps p.tables e below (s₁.setTop (mkF m 7 LL1 [(.long v)])) _
    refine X0.ldc2Long hx hown (mvT hZ (hw _ (List.mem_of_getElem? (i := 97) rfl))) (g := (mkF m 7 LL1 [(.long v)])) rfl (hb hby d13_7) _ ?_
    show Steps p.tables e below (s₁.setTop (mkF m 10 LL1 [(.long (128 : Int64)), (.long v)])) _
    refine XT.lcmp X0.here hx rfl (hb hby d13_10) rfl ?_
    show Steps p.tables e below (s₁.setTop (mkF m 11 LL1 [(.int (XT.cmpL v (128 : Int64)))])) _
    refine XS.ifNo X0.here hx rfl (hb hby d13_11) rfl (XT.ll_ge_f pr3) ?_
    show Steps p.tables e below (s₁.setTop (mkF m 14 LL1 [])) _
    refine XS.aloadN X0.here hx rfl (hb hby d13_14) rfl rfl ?_
    show Steps p.tables e below (s₁.setTop (mkF m 15 LL1 [(.ref a)])) _
    refine X0.arraylength hx (by rw [e0]; exact Ar_a2.1) (State.isArrayOf_alike hZ.alike Ar_a2.2.1) (g := (mkF m 15 LL1 [(.ref a)])) rfl rfl (hb hby d13_15) _ ?_
    rw [len_of S_a2 N_a2]
    show Steps p.tables e below (s₁.setTop (mkF m 16 LL1 [(.int z)])) _
    refine XS.iloadN X0.here hx rfl (hb hby d13_16) rfl ?_
    show Steps p.tables e below (s₁.setTop (mkF m 17 LL1 [(.int q), (.int z)])) _
    refine XS.icmpYes X0.here hx rfl (pc0 := 17) (pc' := 22) rfl (hb hby d13_17) rfl (XT.ii_gt_t pr2) (by decide) (by decide) ?_
    show Steps p.tables e below (s₁.setTop (mkF m 22 LL1 [])) _
    refine XS.aloadN X0.here hx rfl (hb hby d13_22) rfl rfl ?_
    show Steps p.tables e below (s₁.setTop (mkF m 23 LL1 [(.ref a)])) _
    refine XS.iloadN X0.here hx rfl (hb hby d13_23) rfl ?_
    show Steps p.tables e below (s₁.setTop (mkF m 24 LL1 [(.int q), (.ref a)])) _
    refine X0.baloadBytes hx (j := q) (v := (.int (f (q).toNatClampNeg))) (by rw [e0]; exact Ar_a3.1) (State.isArrayOf_alike hZ.alike Ar_a3.2.1) Ar_a3.2.2 hin_a3 hat_a3 (g := (mkF m 24 LL1 [(.int q), (.ref a)])) rfl rfl (hb hby d13_24) _ ?_
    show Steps p.tables e below (s₁.setTop (mkF m 25 LL1 [(.int (f (q).toNatClampNeg))])) _
    refine XS.lloadN X0.here hx rfl (hb hby d13_25) rfl ?_
    show Steps p.tables e below (s₁.setTop (mkF m 26 LL1 [(.long v), (.int (f (q).toNatClampNeg))])) _
    refine XS.l2i X0.here hx rfl (hb hby d13_26) rfl ?_
    show Steps p.tables e below (s₁.setTop (mkF m 27 LL1 [(.int ((v).toInt32)), (.int (f (q).toNatClampNeg))])) _
    refine XS.i2b X0.here hx rfl (hb hby d13_27) rfl ?_
    show Steps p.tables e below (s₁.setTop (mkF m 28 LL1 [(.int ((((v).toInt32)).toInt8.toInt32)), (.int (f (q).toNatClampNeg))])) _
    refine XS.icmpNo X0.here hx rfl (hb hby d13_28) rfl (XT.ii_ne_f pr4) ?_
    show Steps p.tables e below (s₁.setTop (mkF m 31 LL1 [])) _
    refine XS.iloadN X0.here hx rfl (hb hby d13_31) rfl ?_
    show Steps p.tables e below (s₁.setTop (mkF m 32 LL1 [(.int q)])) _
    refine XS.iconst X0.here hx rfl (hb hby d13_32) ?_
    show Steps p.tables e below (s₁.setTop (mkF m 33 LL1 [(.int (1 : Int32)), (.int q)])) _
    refine XS.iadd X0.here hx rfl (hb hby d13_33) rfl ?_
    show Steps p.tables e below (s₁.setTop (mkF m 34 LL1 [(.int (q + (1 : Int32)))])) _
    refine XS.goto X0.here hx rfl (pc0 := 34) (pc' := 38) rfl (hb hby d13_34) (by decide) (by decide) ?_
    show Steps p.tables e below (s₁.setTop (mkF m 38 LL1 [(.int (q + (1 : Int32)))])) _
    exact kk
  obtain ⟨fs, hr, hrun, hended, hW, hsame⟩ := X0.leave (v := some (.int (q + (1 : Int32)))) (fun h => by rw [Bd.returns] at h; cases h)
  refine ⟨_, _, P4 _ ?_, hrun, hended, _, _, rfl, ?_, ⟨_, rfl⟩, hW, hsame.mono (by decide) (by decide)⟩
  · exact retI X0 hx Bd.returns (hb hby d13_38) hr
  · show Q13 Z a q v k z f h0 n0 _ s₁.heap _
    rw [e0]
    exact ⟨rfl, N0, rfl⟩
theorem d14_0 : decode method_2_code 0 = .ok (.iload_n 1, 1) := by decide +kernel
theorem d14_1 : decode method_2_code 1 = .ok (.ifCond .ge 5, 3) := by decide +kernel
theorem d14_6 : decode method_2_code 6 = .ok (.lload_n 2, 1) := by decide +kernel
theorem d14_7 : decode method_2_code 7 = .ok (.ldc2_w 7, 3) := by decide +kernel
theorem d14_10 : decode method_2_code 10 = .ok (.lcmp, 1) := by decide +kernel
theorem d14_11 : decode method_2_code 11 = .ok (.ifCond .ge 28, 3) := by decide +kernel
theorem d14_39 : decode method_2_code 39 = .ok (.aload_n 0, 1) := by decide +kernel
theorem d14_40 : decode method_2_code 40 = .ok (.arraylength, 1) := by decide +kernel
theorem d14_41 : decode method_2_code 41 = .ok (.iload_n 1, 1) := by decide +kernel
theorem d14_42 : decode method_2_code 42 = .ok (.iconst 2, 1) := by decide +kernel
theorem d14_43 : decode method_2_code 43 = .ok (.iadd, 1) := by decide +kernel
theorem d14_44 : decode method_2_code 44 = .ok (.if_icmp .ge 5, 3) := by decide +kernel
theorem d14_49 : decode method_2_code 49 = .ok (.aload_n 0, 1) := by decide +kernel
theorem d14_50 : decode method_2_code 50 = .ok (.iload_n 1, 1) := by decide +kernel
theorem d14_51 : decode method_2_code 51 = .ok (.baload, 1) := by decide +kernel
theorem d14_52 : decode method_2_code 52 = .ok (.lload_n 2, 1) := by decide +kernel
theorem d14_53 : decode method_2_code 53 = .ok (.ldc2_w 9, 3) := by decide +kernel
theorem d14_56 : decode method_2_code 56 = .ok (.land, 1) := by decide +kernel
theorem d14_57 : decode method_2_code 57 = .ok (.ldc2_w 7, 3) := by decide +kernel
theorem d14_60 : decode method_2_code 60 = .ok (.lor, 1) := by decide +kernel
theorem d14_61 : decode method_2_code 61 = .ok (.l2i, 1) := by decide +kernel
theorem d14_62 : decode method_2_code 62 = .ok (.i2b, 1) := by decide +kernel
theorem d14_63 : decode method_2_code 63 = .ok (.if_icmp .ne 21, 3) := by decide +kernel
theorem d14_66 : decode method_2_code 66 = .ok (.aload_n 0, 1) := by decide +kernel
theorem d14_67 : decode method_2_code 67 = .ok (.iload_n 1, 1) := by decide +kernel
theorem d14_68 : decode method_2_code 68 = .ok (.iconst 1, 1) := by decide +kernel
theorem d14_69 : decode method_2_code 69 = .ok (.iadd, 1) := by decide +kernel
theorem d14_70 : decode method_2_code 70 = .ok (.baload, 1) := by decide +kernel
theorem d14_71 : decode method_2_code 71 = .ok (.lload_n 2, 1) := by decide +kernel
theorem d14_72 : decode method_2_code 72 = .ok (.bipush 7, 2) := by decide +kernel
theorem d14_74 : decode method_2_code 74 = .ok (.lushr, 1) := by decide +kernel
theorem d14_75 : decode method_2_code 75 = .ok (.l2i, 1) := by decide +kernel
theorem d14_76 : decode method_2_code 76 = .ok (.i2b, 1) := by decide +kernel
theorem d14_77 : decode method_2_code 77 = .ok (.if_icmp .ne 7, 3) := by decide +kernel
theorem d14_80 : decode method_2_code 80 = .ok (.iload_n 1, 1) := by decide +kernel
theorem d14_81 : decode method_2_code 81 = .ok (.iconst 2, 1) := by decide +kernel
theorem d14_82 : decode method_2_code 82 = .ok (.iadd, 1) := by decide +kernel
theorem d14_83 : decode method_2_code 83 = .ok (.ireturn, 1) := by decide +kernel
theorem ef_14 (m : MethodId) (x0 : Addr) (x1 : Int32) (x2 : Int64) : entryFrame m #[(.ref x0), (.int x1), (.long x2)] 4 = (mkF m 0 #[.val (.ref x0), .val (.int x1), .val (.long x2), .second] []) := by first | (simp [entryFrame, mkF, argsToLocals, Value.category]; done) | rfl
def Q14 (Z : State) (a : Addr) (q : Int32) (v : Int64) (k : ClassId) (z : Int32) (f : Nat → Int32) (h0 : Heap) (n0 : Nat) (vX : Option Value) (hX : Heap) (lX : List Loc) : Prop := vX = some (.int (q + (2 : Int32))) ∧ Fr n0 lX ∧ (hX = h0)
set_option maxRecDepth 65536 in
set_option maxHeartbeats 40000000 in
theorem rm14 (l : Launch) (Z : State) (a0 : Array Value) (hw : ∀ d ∈ tables_1, d.before a0 Z = true) (ws : List Jvm.Cond) (a : Addr) (q : Int32) (v : Int64) (k : ClassId) (z : Int32) (f : Nat → Int32) (h0 : Heap) (n0 : Nat) (Z0 : n0 ≤ h0.size) (pr0 : Bar Z h0 a k z f) (pr1 : ¬ q < (0 : Int32)) (pr2 : ¬ z < (q + (2 : Int32))) (pr3 : ¬ v < (128 : Int64)) (pr4 : ¬ q < 0 ∧ q < z) (pr5 : ¬ (q + (1 : Int32)) < 0 ∧ (q + (1 : Int32)) < z) (pr6 : (f (q).toNatClampNeg) = ((((((v &&& (127 : Int64)) ||| (128 : Int64))).toInt32)).toInt8.toInt32)) (pr7 : (f ((q + (1 : Int32))).toNatClampNeg) = (((((((v).toUInt64 >>> ((7 : Int32) &&& 0x3f).toInt64.toUInt64).toInt64)).toInt32)).toInt8.toInt32)) :
    MetFree l (⟨"com/example/meterwright/meterwright/WriterToByteArrayPinLaw", "at", "([BIJ)I"⟩ : MethodName) (head1 (Jvm.Cond.code (⟨"com/example/meterwright/meterwright/WriterToByteArrayPinLaw", "at", "([BIJ)I"⟩ : MethodName) method_2_code 4 (some .int) :: ws) ({ frames := 0, cells := 0, slots := 0, locals := 0 } : Room)) (fun aX uX => aX = #[(.ref a), (.int q), (.long v)] ∧ Z.Warmed39 uX.vm ∧ uX.heap = h0) (fun _ _ _ _ _ => True) (fun _ uX oX wX => ∃ vX lX, oX = .returned vX ∧ Q14 Z a q v k z f h0 n0 vX wX.heap lX ∧ FrameEnd uX oX wX lX ({ frames := 0, cells := 0, slots := 0, locals := 0 } : Room).cells ({ frames := 0, cells := 0, slots := 0, locals := 0 } : Room).slots) := by
  refine MetFree.of_bodySF (plainFor_of_name pn_4) hisR ?_
  intro p e s m args below meth c s₁ Bd hml0 hP hK
  obtain ⟨rfl, hZ, hh⟩ := hP
  have hx := Bd.exec
  have hby := Bd.bytes
  have hml : c.maxLocals = 4 := hml0
  have hown : s.vm.findClass "com/example/meterwright/meterwright/WriterToByteArrayPinLaw" = some m.cls := findClass_of_methodNamed Bd.named
  have hnm := (name_of_methodNamed Bd.named Bd.method).1
  have X0 : Stand p l e ({ frames := 0, cells := 0, slots := 0, locals := 0 } : Room) s m #[(.ref a), (.int q), (.long v)] below meth c s₁ [] 0 0 := Stand.of_body Bd
  have e0 : s₁.heap = h0 := by rw [← hh, Bd.state]; rfl
  have N0 := Fr.nil n0
  let ST : State := (s₁.setTop (entryFrame m #[(.ref a), (.int q), (.long v)] 4))
  have pre0 : ∀ t, Steps p.tables e below (s₁.setTop (mkF m 0 #[.val (.ref a), .val (.int q), .val (.long v), .second] [])) t → Steps p.tables e below ST t := fun t k => castTop (ef_14 m a q v) k
  let LL1 : Array Slot := #[.val (.ref a), .val (.int q), .val (.long v), .second]
  obtain ⟨cl_a2, Ar_a2, q_a2, S_a2, N_a2, H_a2⟩ := id pr0
  obtain ⟨cl_a3, Ar_a3, q_a3, S_a3, N_a3, H_a3⟩ := id pr0
  have hin_a3 : ¬ (q < 0 ∨ cl_a3.slots.size ≤ (q).toNatClampNeg) := inb_of S_a3 pr4
  have hat_a3 : cl_a3.slots[(q).toNatClampNeg]? = some (.int (f (q).toNatClampNeg)) := (H_a3 _ (Nat.lt_of_not_le fun q => hin_a3 (Or.inr q))).1
  obtain ⟨cl_a4, Ar_a4, q_a4, S_a4, N_a4, H_a4⟩ := id pr0
  have hin_a4 : ¬ ((q + (1 : Int32)) < 0 ∨ cl_a4.slots.size ≤ ((q + (1 : Int32))).toNatClampNeg) := inb_of S_a4 pr5
  have hat_a4 : cl_a4.slots[((q + (1 : Int32))).toNatClampNeg]? = some (.int (f ((q + (1 : Int32))).toNatClampNeg)) := (H_a4 _ (Nat.lt_of_not_le fun q => hin_a4 (Or.inr q))).1
  have P5 : ∀ t, Steps p.tables e below (s₁.setTop (mkF m 74 LL1 [(.int (7 : Int32)), (.long v), (.int (f ((q + (1 : Int32))).toNatClampNeg))])) t → Steps p.tables e below ST t := by
    intro t kk
    refine pre0 _ ?_
    show Steps p.tables e below (s₁.setTop (mkF m 0 LL1 [])) _
    refine XS.iloadN X0.here hx rfl (hb hby d14_0) rfl ?_
    show Steps p.tables e below (s₁.setTop (mkF m 1 LL1 [(.int q)])) _
    refine XS.ifYes X0.here hx rfl (pc0 := 1) (pc' := 6) rfl (hb hby d14_1) rfl (XT.i0_ge_t pr1) (by decide) (by decide) ?_
    show Steps p.tables e below (s₁.setTop (mkF m 6 LL1 [])) _
    refine XS.lloadN X0.here hx rfl (hb hby d14_6) rfl ?_
    show Steps p.tables e below (s₁.setTop (mkF m 7 LL1 [(.long v)])) _
    refine X0.ldc2Long hx hown (mvT hZ (hw _ (List.mem_of_getElem? (i := 97) rfl))) (g := (mkF m 7 LL1 [(.long v)])) rfl (hb hby d14_7) _ ?_
    show Steps p.tables e below (s₁.setTop (mkF m 10 LL1 [(.long (128 : Int64)), (.long v)])) _
    refine XT.lcmp X0.here hx rfl (hb hby d14_10) rfl ?_
    show Steps p.tables e below (s₁.setTop (mkF m 11 LL1 [(.int (XT.cmpL v (128 : Int64)))])) _
    refine XS.ifYes X0.here hx rfl (pc0 := 11) (pc' := 39) rfl (hb hby d14_11) rfl (XT.ll_ge_t pr3) (by decide) (by decide) ?_
    show Steps p.tables e below (s₁.setTop (mkF m 39 LL1 [])) _
    refine XS.aloadN X0.here hx rfl (hb hby d14_39) rfl rfl ?_
    show Steps p.tables e below (s₁.setTop (mkF m 40 LL1 [(.ref a)])) _
    refine X0.arraylength hx (by rw [e0]; exact Ar_a2.1) (State.isArrayOf_alike hZ.alike Ar_a2.2.1) (g := (mkF m 40 LL1 [(.ref a)])) rfl rfl (hb hby d14_40) _ ?_
    rw [len_of S_a2 N_a2]
    show Steps p.tables e below (s₁.setTop (mkF m 41 LL1 [(.int z)])) _
    refine XS.iloadN X0.here hx rfl (hb hby d14_41) rfl ?_
    show Steps p.tables e below (s₁.setTop (mkF m 42 LL1 [(.int q), (.int z)])) _
    refine XS.iconst X0.here hx rfl (hb hby d14_42) ?_
    show Steps p.tables e below (s₁.setTop (mkF m 43 LL1 [(.int (2 : Int32)), (.int q), (.int z)])) _
    refine XS.iadd X0.here hx rfl (hb hby d14_43) rfl ?_
    show Steps p.tables e below (s₁.setTop (mkF m 44 LL1 [(.int (q + (2 : Int32))), (.int z)])) _
    refine XS.icmpYes X0.here hx rfl (pc0 := 44) (pc' := 49) rfl (hb hby d14_44) rfl (XT.ii_ge_t pr2) (by decide) (by decide) ?_
    show Steps p.tables e below (s₁.setTop (mkF m 49 LL1 [])) _
    refine XS.aloadN X0.here hx rfl (hb hby d14_49) rfl rfl ?_
    show Steps p.tables e below (s₁.setTop (mkF m 50 LL1 [(.ref a)])) _
    refine XS.iloadN X0.here hx rfl (hb hby d14_50) rfl ?_
    show Steps p.tables e below (s₁.setTop (mkF m 51 LL1 [(.int q), (.ref a)])) _
    refine X0.baloadBytes hx (j := q) (v := (.int (f (q).toNatClampNeg))) (by rw [e0]; exact Ar_a3.1) (State.isArrayOf_alike hZ.alike Ar_a3.2.1) Ar_a3.2.2 hin_a3 hat_a3 (g := (mkF m 51 LL1 [(.int q), (.ref a)])) rfl rfl (hb hby d14_51) _ ?_
    show Steps p.tables e below (s₁.setTop (mkF m 52 LL1 [(.int (f (q).toNatClampNeg))])) _
    refine XS.lloadN X0.here hx rfl (hb hby d14_52) rfl ?_
    show Steps p.tables e below (s₁.setTop (mkF m 53 LL1 [(.long v), (.int (f (q).toNatClampNeg))])) _
    refine X0.ldc2Long hx hown (mvT hZ (hw _ (List.mem_of_getElem? (i := 256) rfl))) (g := (mkF m 53 LL1 [(.long v), (.int (f (q).toNatClampNeg))])) rfl (hb hby d14_53) _ ?_
    show Steps p.tables e below (s₁.setTop (mkF m 56 LL1 [(.long (127 : Int64)), (.long v), (.int (f (q).toNatClampNeg))])) _
    refine XS.land X0.here hx rfl (hb hby d14_56) rfl ?_
    show Steps p.tables e below (s₁.setTop (mkF m 57 LL1 [(.long (v &&& (127 : Int64))), (.int (f (q).toNatClampNeg))])) _
    refine X0.ldc2Long hx hown (mvT hZ (hw _ (List.mem_of_getElem? (i := 97) rfl))) (g := (mkF m 57 LL1 [(.long (v &&& (127 : Int64))), (.int (f (q).toNatClampNeg))])) rfl (hb hby d14_57) _ ?_
    show Steps p.tables e below (s₁.setTop (mkF m 60 LL1 [(.long (128 : Int64)), (.long (v &&& (127 : Int64))), (.int (f (q).toNatClampNeg))])) _
    refine XS.lor X0.here hx rfl (hb hby d14_60) rfl ?_
    show Steps p.tables e below (s₁.setTop (mkF m 61 LL1 [(.long ((v &&& (127 : Int64)) ||| (128 : Int64))), (.int (f (q).toNatClampNeg))])) _
    refine XS.l2i X0.here hx rfl (hb hby d14_61) rfl ?_
    show Steps p.tables e below (s₁.setTop (mkF m 62 LL1 [(.int ((((v &&& (127 : Int64)) ||| (128 : Int64))).toInt32)), (.int (f (q).toNatClampNeg))])) _
    refine XS.i2b X0.here hx rfl (hb hby d14_62) rfl ?_
    show Steps p.tables e below (s₁.setTop (mkF m 63 LL1 [(.int ((((((v &&& (127 : Int64)) ||| (128 : Int64))).toInt32)).toInt8.toInt32)), (.int (f (q).toNatClampNeg))])) _
    refine XS.icmpNo X0.here hx rfl (hb hby d14_63) rfl (XT.ii_ne_f pr6) ?_
    show Steps p.tables e below (s₁.setTop (mkF m 66 LL1 [])) _
    refine XS.aloadN X0.here hx rfl (hb hby d14_66) rfl rfl ?_
    show Steps p.tables e below (s₁.setTop (mkF m 67 LL1 [(.ref a)])) _
    refine XS.iloadN X0.here hx rfl (hb hby d14_67) rfl ?_
    show Steps p.tables e below (s₁.setTop (mkF m 68 LL1 [(.int q), (.ref a)])) _
    refine XS.iconst X0.here hx rfl (hb hby d14_68) ?_
    show Steps p.tables e below (s₁.setTop (mkF m 69 LL1 [(.int (1 : Int32)), (.int q), (.ref a)])) _
    refine XS.iadd X0.here hx rfl (hb hby d14_69) rfl ?_
    show Steps p.tables e below (s₁.setTop (mkF m 70 LL1 [(.int (q + (1 : Int32))), (.ref a)])) _
    refine X0.baloadBytes hx (j := (q + (1 : Int32))) (v := (.int (f ((q + (1 : Int32))).toNatClampNeg))) (by rw [e0]; exact Ar_a4.1) (State.isArrayOf_alike hZ.alike Ar_a4.2.1) Ar_a4.2.2 hin_a4 hat_a4 (g := (mkF m 70 LL1 [(.int (q + (1 : Int32))), (.ref a)])) rfl rfl (hb hby d14_70) _ ?_
    show Steps p.tables e below (s₁.setTop (mkF m 71 LL1 [(.int (f ((q + (1 : Int32))).toNatClampNeg))])) _
    refine XS.lloadN X0.here hx rfl (hb hby d14_71) rfl ?_
    show Steps p.tables e below (s₁.setTop (mkF m 72 LL1 [(.long v), (.int (f ((q + (1 : Int32))).toNatClampNeg))])) _
    refine XS.bipush X0.here hx rfl (hb hby d14_72) ?_
    show Steps p.tables e below (s₁.setTop (mkF m 74 LL1 [(.int (7 : Int32)), (.long v), (.int (f ((q + (1 : Int32))).toNatClampNeg))])) _
    exact kk
  have P6 : ∀ t, Steps p.tables e below (s₁.setTop (mkF m 83 LL1 [(.int (q + (2 : Int32)))])) t → Steps p.tables e below ST t := by
    intro t kk
    refine P5 _ ?_
    show Steps p.tables e below (s₁.setTop (mkF m 74 LL1 [(.int (7 : Int32)), (.long v), (.int (f ((q + (1 : Int32))).toNatClampNeg))])) _
    refine XS.lushr X0.here hx rfl (hb hby d14_74) rfl ?_
    show Steps p.tables e below (s₁.setTop (mkF m 75 LL1 [(.long (((v).toUInt64 >>> ((7 : Int32) &&& 0x3f).toInt64.toUInt64).toInt64)), (.int (f ((q + (1 : Int32))).toNatClampNeg))])) _
    refine XS.l2i X0.here hx rfl (hb hby d14_75) rfl ?_
    show Steps p.tables e below (s₁.setTop (mkF m 76 LL1 [(.int (((((v).toUInt64 >>> ((7 : Int32) &&& 0x3f).toInt64.toUInt64).toInt64)).toInt32)), (.int (f ((q + (1 : Int32))).toNatClampNeg))])) _
    refine XS.i2b X0.here hx rfl (hb hby d14_76) rfl ?_
    show Steps p.tables e below (s₁.setTop (mkF m 77 LL1 [(.int (((((((v).toUInt64 >>> ((7 : Int32) &&& 0x3f).toInt64.toUInt64).toInt64)).toInt32)).toInt8.toInt32)), (.int (f ((q + (1 : Int32))).toNatClampNeg))])) _
    refine XS.icmpNo X0.here hx rfl (hb hby d14_77) rfl (XT.ii_ne_f pr7) ?_
    show Steps p.tables e below (s₁.setTop (mkF m 80 LL1 [])) _
    refine XS.iloadN X0.here hx rfl (hb hby d14_80) rfl ?_
    show Steps p.tables e below (s₁.setTop (mkF m 81 LL1 [(.int q)])) _
    refine XS.iconst X0.here hx rfl (hb hby d14_81) ?_
    show Steps p.tables e below (s₁.setTop (mkF m 82 LL1 [(.int (2 : Int32)), (.int q)])) _
    refine XS.iadd X0.here hx rfl (hb hby d14_82) rfl ?_
    show Steps p.tables e below (s₁.setTop (mkF m 83 LL1 [(.int (q + (2 : Int32)))])) _
    exact kk
  obtain ⟨fs, hr, hrun, hended, hW, hsame⟩ := X0.leave (v := some (.int (q + (2 : Int32)))) (fun h => by rw [Bd.returns] at h; cases h)
  refine ⟨_, _, P6 _ ?_, hrun, hended, _, _, rfl, ?_, ⟨_, rfl⟩, hW, hsame.mono (by decide) (by decide)⟩
  · exact retI X0 hx Bd.returns (hb hby d14_83) hr
  · show Q14 Z a q v k z f h0 n0 _ s₁.heap _
    rw [e0]
    exact ⟨rfl, N0, rfl⟩
def Q15 (Z : State) (a : Addr) (q : Int32) (v : Int64) (k : ClassId) (z : Int32) (f : Nat → Int32) (h0 : Heap) (n0 : Nat) (vX : Option Value) (hX : Heap) (lX : List Loc) : Prop := vX = some (.int (q + (own_n v))) ∧ Fr n0 lX ∧ (hX = h0)
theorem rm15 (l : Launch) (Z : State) (a0 : Array Value) (hw : ∀ d ∈ tables_1, d.before a0 Z = true) (ws : List Jvm.Cond) (a : Addr) (q : Int32) (v : Int64) (k : ClassId) (z : Int32) (f : Nat → Int32) (h0 : Heap) (n0 : Nat) (Z0 : n0 ≤ h0.size) (pr0 : Bar Z h0 a k z f) (pr1 : own_atp q z v f) :
    MetFree l (⟨"com/example/meterwright/meterwright/WriterToByteArrayPinLaw", "at", "([BIJ)I"⟩ : MethodName) (head1 (Jvm.Cond.code (⟨"com/example/meterwright/meterwright/WriterToByteArrayPinLaw", "at", "([BIJ)I"⟩ : MethodName) method_2_code 4 (some .int) :: ws) ({ frames := 0, cells := 0, slots := 0, locals := 0 } : Room)) (fun aX uX => aX = #[(.ref a), (.int q), (.long v)] ∧ Z.Warmed39 uX.vm ∧ uX.heap = h0) (fun _ _ _ _ _ => True) (fun _ uX oX wX => ∃ vX lX, oX = .returned vX ∧ Q15 Z a q v k z f h0 n0 vX wX.heap lX ∧ FrameEnd uX oX wX lX ({ frames := 0, cells := 0, slots := 0, locals := 0 } : Room).cells ({ frames := 0, cells := 0, slots := 0, locals := 0 } : Room).slots) := by
  rcases pr1 with ⟨h1, h2, h3, h4⟩ | ⟨h1, h2, h3, h4, h5, h6, h7⟩
  · refine (rm13 l Z a0 hw ws a q v k z f h0 n0 Z0 pr0 h2 h3 h1 h4).mono (fun _ _ h => h) (fun _ _ _ _ _ h => h) (fun _ _ _ _ _ h => ?_)
    obtain ⟨vX, lX, e1, ⟨q1, q2, q3⟩, fe⟩ := h
    exact ⟨vX, lX, e1, ⟨by rw [own_nS v h1]; exact q1, q2, q3⟩, fe⟩
  · refine (rm14 l Z a0 hw ws a q v k z f h0 n0 Z0 pr0 h2 h3 h1 h4 h5 h6 h7).mono (fun _ _ h => h) (fun _ _ _ _ _ h => h) (fun _ _ _ _ _ h => ?_)
    obtain ⟨vX, lX, e1, ⟨q1, q2, q3⟩, fe⟩ := h
    exact ⟨vX, lX, e1, ⟨by rw [own_nB v h1]; exact q1, q2, q3⟩, fe⟩
theorem d16_0 : decode jdk_48_method_5_code 0 = .ok (.iload_n 2, 1) := by decide +kernel
theorem d16_1 : decode jdk_48_method_5_code 1 = .ok (.iload_n 3, 1) := by decide +kernel
theorem d16_2 : decode jdk_48_method_5_code 2 = .ok (.iadd, 1) := by decide +kernel
theorem d16_3 : decode jdk_48_method_5_code 3 = .ok (.istore 4, 2) := by decide +kernel
theorem d16_5 : decode jdk_48_method_5_code 5 = .ok (.iload_n 2, 1) := by decide +kernel
theorem d16_6 : decode jdk_48_method_5_code 6 = .ok (.istore 5, 2) := by decide +kernel
theorem d16_8 : decode jdk_48_method_5_code 8 = .ok (.iload 5, 2) := by decide +kernel
theorem d16_10 : decode jdk_48_method_5_code 10 = .ok (.iload 4, 2) := by decide +kernel
theorem d16_12 : decode jdk_48_method_5_code 12 = .ok (.if_icmp .ge 23, 3) := by decide +kernel
theorem d16_15 : decode jdk_48_method_5_code 15 = .ok (.bipush 31, 2) := by decide +kernel
theorem d16_17 : decode jdk_48_method_5_code 17 = .ok (.iload_n 0, 1) := by decide +kernel
theorem d16_18 : decode jdk_48_method_5_code 18 = .ok (.imul, 1) := by decide +kernel
theorem d16_19 : decode jdk_48_method_5_code 19 = .ok (.aload_n 1, 1) := by decide +kernel
theorem d16_20 : decode jdk_48_method_5_code 20 = .ok (.iload 5, 2) := by decide +kernel
theorem d16_22 : decode jdk_48_method_5_code 22 = .ok (.baload, 1) := by decide +kernel
theorem d16_23 : decode jdk_48_method_5_code 23 = .ok (.sipush 255, 3) := by decide +kernel
theorem d16_26 : decode jdk_48_method_5_code 26 = .ok (.iand, 1) := by decide +kernel
theorem d16_27 : decode jdk_48_method_5_code 27 = .ok (.iadd, 1) := by decide +kernel
theorem d16_28 : decode jdk_48_method_5_code 28 = .ok (.istore_n 0, 1) := by decide +kernel
theorem d16_29 : decode jdk_48_method_5_code 29 = .ok (.iinc 5 1, 3) := by decide +kernel
theorem d16_32 : decode jdk_48_method_5_code 32 = .ok (.goto (-24), 3) := by decide +kernel
theorem d16_35 : decode jdk_48_method_5_code 35 = .ok (.iload_n 0, 1) := by decide +kernel
theorem d16_36 : decode jdk_48_method_5_code 36 = .ok (.ireturn, 1) := by decide +kernel
theorem ef_16 (m : MethodId) (x0 : Int32) (x1 : Addr) (x2 : Int32) (x3 : Int32) : entryFrame m #[(.int x0), (.ref x1), (.int x2), (.int x3)] 6 = (mkF m 0 #[.val (.int x0), .val (.ref x1), .val (.int x2), .val (.int x3), .unset, .unset] []) := by first | (simp [entryFrame, mkF, argsToLocals, Value.category]; done) | rfl
def Q16 (Z : State) (a : Addr) (k : ClassId) (f : Nat → Int32) (h0 : Heap) (n0 : Nat) (vX : Option Value) (hX : Heap) (lX : List Loc) : Prop := ∃ (hv : Int32), vX = some (.int hv) ∧ Fr n0 lX ∧ (hX = h0)
set_option maxRecDepth 65536 in
set_option maxHeartbeats 40000000 in
theorem rm16 (l : Launch) (Z : State) (a0 : Array Value) (hw : ∀ d ∈ tables_1, d.before a0 Z = true) (ws : List Jvm.Cond) (a : Addr) (k : ClassId) (f : Nat → Int32) (h0 : Heap) (n0 : Nat) (Z0 : n0 ≤ h0.size) (pr0 : Bar Z h0 a k (260 : Int32) f) :
    MetFree l (⟨"jdk/internal/util/ArraysSupport", "signedHashCode", "(I[BII)I"⟩ : MethodName) (head1 (Jvm.Cond.code (⟨"jdk/internal/util/ArraysSupport", "signedHashCode", "(I[BII)I"⟩ : MethodName) jdk_48_method_5_code 6 (some .int) :: ws) ({ frames := 0, cells := 0, slots := 0, locals := 0 } : Room)) (fun aX uX => aX = #[(.int (0 : Int32)), (.ref a), (.int (0 : Int32)), (.int (260 : Int32))] ∧ Z.Warmed39 uX.vm ∧ uX.heap = h0) (fun _ _ _ _ _ => True) (fun _ uX oX wX => ∃ vX lX, oX = .returned vX ∧ Q16 Z a k f h0 n0 vX wX.heap lX ∧ FrameEnd uX oX wX lX ({ frames := 0, cells := 0, slots := 0, locals := 0 } : Room).cells ({ frames := 0, cells := 0, slots := 0, locals := 0 } : Room).slots) := by
  refine MetFree.of_bodySF (plainFor_of_name pn_5) hisR ?_
  intro p e s m args below meth c s₁ Bd hml0 hP hK
  obtain ⟨rfl, hZ, hh⟩ := hP
  have hx := Bd.exec
  have hby := Bd.bytes
  have hml : c.maxLocals = 6 := hml0
  have hown : s.vm.findClass "jdk/internal/util/ArraysSupport" = some m.cls := findClass_of_methodNamed Bd.named
  have hnm := (name_of_methodNamed Bd.named Bd.method).1
  have X0 : Stand p l e ({ frames := 0, cells := 0, slots := 0, locals := 0 } : Room) s m #[(.int (0 : Int32)), (.ref a), (.int (0 : Int32)), (.int (260 : Int32))] below meth c s₁ [] 0 0 := Stand.of_body Bd
  have e0 : s₁.heap = h0 := by rw [← hh, Bd.state]; rfl
  have N0 := Fr.nil n0
  let ST : State := (s₁.setTop (entryFrame m #[(.int (0 : Int32)), (.ref a), (.int (0 : Int32)), (.int (260 : Int32))] 6))
  have pre0 : ∀ t, Steps p.tables e below (s₁.setTop (mkF m 0 #[.val (.int (0 : Int32)), .val (.ref a), .val (.int (0 : Int32)), .val (.int (260 : Int32)), .unset, .unset] [])) t → Steps p.tables e below ST t := fun t k => castTop (ef_16 m (0 : Int32) a (0 : Int32) (260 : Int32)) k
  let LL1 : Array Slot := #[.val (.int (0 : Int32)), .val (.ref a), .val (.int (0 : Int32)), .val (.int (260 : Int32)), .unset, .unset]
  let LL2 : Array Slot := #[.val (.int (0 : Int32)), .val (.ref a), .val (.int (0 : Int32)), .val (.int (260 : Int32)), .val (.int (260 : Int32)), .unset]
  let LL3 : Array Slot := #[.val (.int (0 : Int32)), .val (.ref a), .val (.int (0 : Int32)), .val (.int (260 : Int32)), .val (.int (260 : Int32)), .val (.int (0 : Int32))]
  have P4 : ∀ t, Steps p.tables e below (s₁.setTop (mkF m 8 LL3 [])) t → Steps p.tables e below ST t := by
    intro t kk
    refine pre0 _ ?_
    show Steps p.tables e below (s₁.setTop (mkF m 0 LL1 [])) _
    refine XS.iloadN X0.here hx rfl (hb hby d16_0) rfl ?_
    show Steps p.tables e below (s₁.setTop (mkF m 1 LL1 [(.int (0 : Int32))])) _
    refine XS.iloadN X0.here hx rfl (hb hby d16_1) rfl ?_
    show Steps p.tables e below (s₁.setTop (mkF m 2 LL1 [(.int (260 : Int32)), (.int (0 : Int32))])) _
    refine XS.iadd X0.here hx rfl (hb hby d16_2) rfl ?_
    show Steps p.tables e below (s₁.setTop (mkF m 3 LL1 [(.int (260 : Int32))])) _
    refine XS.istore X0.here hx rfl (hb hby d16_3) rfl (l' := LL2) rfl ?_
    show Steps p.tables e below (s₁.setTop (mkF m 5 LL2 [])) _
    refine XS.iloadN X0.here hx rfl (hb hby d16_5) rfl ?_
    show Steps p.tables e below (s₁.setTop (mkF m 6 LL2 [(.int (0 : Int32))])) _
    refine XS.istore X0.here hx rfl (hb hby d16_6) rfl (l' := LL3) rfl ?_
    show Steps p.tables e below (s₁.setTop (mkF m 8 LL3 [])) _
    exact kk
  have it5 : ∀ (il : Int32) (al : Int32), (¬ il < 0 ∧ il < (260 : Int32)) → ∀ t, Steps p.tables e below (s₁.setTop (mkF m 8 #[.val (.int (((31 : Int32) * al) + ((f (il).toNatClampNeg) &&& (255 : Int32)))), .val (.ref a), .val (.int (0 : Int32)), .val (.int (260 : Int32)), .val (.int (260 : Int32)), .val (.int (il + (1 : Int32)))] [])) t → Steps p.tables e below (s₁.setTop (mkF m 8 #[.val (.int al), .val (.ref a), .val (.int (0 : Int32)), .val (.int (260 : Int32)), .val (.int (260 : Int32)), .val (.int il)] [])) t := by
    intro il al hil t kk
    let LL6 : Array Slot := #[.val (.int al), .val (.ref a), .val (.int (0 : Int32)), .val (.int (260 : Int32)), .val (.int (260 : Int32)), .val (.int il)]
    obtain ⟨cl_a7, Ar_a7, q_a7, S_a7, N_a7, H_a7⟩ := id pr0
    have hin_a7 : ¬ (il < 0 ∨ cl_a7.slots.size ≤ (il).toNatClampNeg) := inb_of S_a7 hil
    have hat_a7 : cl_a7.slots[(il).toNatClampNeg]? = some (.int (f (il).toNatClampNeg)) := (H_a7 _ (Nat.lt_of_not_le fun q => hin_a7 (Or.inr q))).1
    let LL8 : Array Slot := #[.val (.int (((31 : Int32) * al) + ((f (il).toNatClampNeg) &&& (255 : Int32)))), .val (.ref a), .val (.int (0 : Int32)), .val (.int (260 : Int32)), .val (.int (260 : Int32)), .val (.int il)]
    let LL9 : Array Slot := #[.val (.int (((31 : Int32) * al) + ((f (il).toNatClampNeg) &&& (255 : Int32)))), .val (.ref a), .val (.int (0 : Int32)), .val (.int (260 : Int32)), .val (.int (260 : Int32)), .val (.int (il + (1 : Int32)))]
    show Steps p.tables e below (s₁.setTop (mkF m 8 LL6 [])) _
    refine XS.iload X0.here hx rfl (hb hby d16_8) rfl ?_
    show Steps p.tables e below (s₁.setTop (mkF m 10 LL6 [(.int il)])) _
    refine XS.iload X0.here hx rfl (hb hby d16_10) rfl ?_
    show Steps p.tables e below (s₁.setTop (mkF m 12 LL6 [(.int (260 : Int32)), (.int il)])) _
    refine XS.icmpNo X0.here hx rfl (hb hby d16_12) rfl (XT.ii_ge_f hil.2) ?_
    show Steps p.tables e below (s₁.setTop (mkF m 15 LL6 [])) _
    refine XS.bipush X0.here hx rfl (hb hby d16_15) ?_
    show Steps p.tables e below (s₁.setTop (mkF m 17 LL6 [(.int (31 : Int32))])) _
    refine XS.iloadN X0.here hx rfl (hb hby d16_17) rfl ?_
    show Steps p.tables e below (s₁.setTop (mkF m 18 LL6 [(.int al), (.int (31 : Int32))])) _
    refine XS.imul X0.here hx rfl (hb hby d16_18) rfl ?_
    show Steps p.tables e below (s₁.setTop (mkF m 19 LL6 [(.int ((31 : Int32) * al))])) _
    refine XS.aloadN X0.here hx rfl (hb hby d16_19) rfl rfl ?_
    show Steps p.tables e below (s₁.setTop (mkF m 20 LL6 [(.ref a), (.int ((31 : Int32) * al))])) _
    refine XS.iload X0.here hx rfl (hb hby d16_20) rfl ?_
    show Steps p.tables e below (s₁.setTop (mkF m 22 LL6 [(.int il), (.ref a), (.int ((31 : Int32) * al))])) _
    refine X0.baloadBytes hx (j := il) (v := (.int (f (il).toNatClampNeg))) (by rw [e0]; exact Ar_a7.1) (State.isArrayOf_alike hZ.alike Ar_a7.2.1) Ar_a7.2.2 hin_a7 hat_a7 (g := (mkF m 22 LL6 [(.int il), (.ref a), (.int ((31 : Int32) * al))])) rfl rfl (hb hby d16_22) _ ?_
    show Steps p.tables e below (s₁.setTop (mkF m 23 LL6 [(.int (f (il).toNatClampNeg)), (.int ((31 : Int32) * al))])) _
    refine XS.sipush X0.here hx rfl (hb hby d16_23) ?_
    show Steps p.tables e below (s₁.setTop (mkF m 26 LL6 [(.int (255 : Int32)), (.int (f (il).toNatClampNeg)), (.int ((31 : Int32) * al))])) _
    refine XS.iand X0.here hx rfl (hb hby d16_26) rfl ?_
    show Steps p.tables e below (s₁.setTop (mkF m 27 LL6 [(.int ((f (il).toNatClampNeg) &&& (255 : Int32))), (.int ((31 : Int32) * al))])) _
    refine XS.iadd X0.here hx rfl (hb hby d16_27) rfl ?_
    show Steps p.tables e below (s₁.setTop (mkF m 28 LL6 [(.int (((31 : Int32) * al) + ((f (il).toNatClampNeg) &&& (255 : Int32))))])) _
    refine XS.istoreN X0.here hx rfl (hb hby d16_28) rfl (l' := LL8) rfl ?_
    show Steps p.tables e below (s₁.setTop (mkF m 29 LL8 [])) _
    refine XS.iinc X0.here hx rfl (hb hby d16_29) rfl (l' := LL9) rfl ?_
    show Steps p.tables e below (s₁.setTop (mkF m 32 LL9 [])) _
    refine XS.goto X0.here hx rfl (pc0 := 32) (pc' := 8) rfl (hb hby d16_32) (by decide) (by decide) ?_
    show Steps p.tables e below (s₁.setTop (mkF m 8 LL9 [])) _
    exact kk
  have lp5 : ∀ (dl : Nat) (il al : Int32), 0 ≤ il.toInt → il.toInt + dl = 260 → ∃ al2 : Int32, ∀ t, Steps p.tables e below (s₁.setTop (mkF m 8 #[.val (.int al2), .val (.ref a), .val (.int (0 : Int32)), .val (.int (260 : Int32)), .val (.int (260 : Int32)), .val (.int (260 : Int32))] [])) t → Steps p.tables e below (s₁.setTop (mkF m 8 #[.val (.int al), .val (.ref a), .val (.int (0 : Int32)), .val (.int (260 : Int32)), .val (.int (260 : Int32)), .val (.int il)] [])) t := by
    have ll : (260 : Int32).toInt = 260 := by decide
    intro dl
    induction dl with
    | zero =>
      intro il al g0 g1
      obtain rfl : il = (260 : Int32) := Int32.toInt_inj.mp (by rw [ll]; omega)
      exact ⟨al, fun t k => k⟩
    | succ dl ih =>
      intro il al g0 g1
      have gi := own_inc il g0 (by omega)
      have gb := own_ib il (260 : Int32) g0 (by rw [ll]; omega)
      obtain ⟨al2, ql⟩ := ih (il + (1 : Int32)) (((31 : Int32) * al) + ((f (il).toNatClampNeg) &&& (255 : Int32))) (by rw [gi]; omega) (by rw [gi]; omega)
      exact ⟨al2, fun t k => it5 il al gb t (ql t k)⟩
  obtain ⟨al5, ql5⟩ := lp5 260 (0 : Int32) (0 : Int32) (by decide) (by decide)
  have P5 : ∀ t, Steps p.tables e below (s₁.setTop (mkF m 8 #[.val (.int al5), .val (.ref a), .val (.int (0 : Int32)), .val (.int (260 : Int32)), .val (.int (260 : Int32)), .val (.int (260 : Int32))] [])) t → Steps p.tables e below ST t := fun t k => P4 t (ql5 t k)
  let LL10 : Array Slot := #[.val (.int al5), .val (.ref a), .val (.int (0 : Int32)), .val (.int (260 : Int32)), .val (.int (260 : Int32)), .val (.int (260 : Int32))]
  have P11 : ∀ t, Steps p.tables e below (s₁.setTop (mkF m 36 LL10 [(.int al5)])) t → Steps p.tables e below ST t := by
    intro t kk
    refine P5 _ ?_
    show Steps p.tables e below (s₁.setTop (mkF m 8 LL10 [])) _
    refine XS.iload X0.here hx rfl (hb hby d16_8) rfl ?_
    show Steps p.tables e below (s₁.setTop (mkF m 10 LL10 [(.int (260 : Int32))])) _
    refine XS.iload X0.here hx rfl (hb hby d16_10) rfl ?_
    show Steps p.tables e below (s₁.setTop (mkF m 12 LL10 [(.int (260 : Int32)), (.int (260 : Int32))])) _
    refine XS.icmpYes X0.here hx rfl (pc0 := 12) (pc' := 35) rfl (hb hby d16_12) rfl (XT.ii_ge_t (by decide)) (by decide) (by decide) ?_
    show Steps p.tables e below (s₁.setTop (mkF m 35 LL10 [])) _
    refine XS.iloadN X0.here hx rfl (hb hby d16_35) rfl ?_
    show Steps p.tables e below (s₁.setTop (mkF m 36 LL10 [(.int al5)])) _
    exact kk
  obtain ⟨fs, hr, hrun, hended, hW, hsame⟩ := X0.leave (v := some (.int al5)) (fun h => by rw [Bd.returns] at h; cases h)
  refine ⟨_, _, P11 _ ?_, hrun, hended, _, _, rfl, ?_, ⟨_, rfl⟩, hW, hsame.mono (by decide) (by decide)⟩
  · exact retI X0 hx Bd.returns (hb hby d16_36) hr
  · show Q16 Z a k f h0 n0 _ s₁.heap _
    rw [e0]
    exact ⟨al5, rfl, N0, rfl⟩
theorem d17_0 : decode jdk_123_method_3_code 0 = .ok (.iload_n 1, 1) := by decide +kernel
theorem d17_1 : decode jdk_123_method_3_code 1 = .ok (.iload_n 2, 1) := by decide +kernel
theorem d17_2 : decode jdk_123_method_3_code 2 = .ok (.iadd, 1) := by decide +kernel
theorem d17_3 : decode jdk_123_method_3_code 3 = .ok (.istore_n 3, 1) := by decide +kernel
theorem d17_4 : decode jdk_123_method_3_code 4 = .ok (.iload_n 1, 1) := by decide +kernel
theorem d17_5 : decode jdk_123_method_3_code 5 = .ok (.istore 4, 2) := by decide +kernel
theorem d17_7 : decode jdk_123_method_3_code 7 = .ok (.iload 4, 2) := by decide +kernel
theorem d17_9 : decode jdk_123_method_3_code 9 = .ok (.iload_n 3, 1) := by decide +kernel
theorem d17_10 : decode jdk_123_method_3_code 10 = .ok (.if_icmp .ge 21, 3) := by decide +kernel
theorem d17_13 : decode jdk_123_method_3_code 13 = .ok (.aload_n 0, 1) := by decide +kernel
theorem d17_14 : decode jdk_123_method_3_code 14 = .ok (.iload 4, 2) := by decide +kernel
theorem d17_16 : decode jdk_123_method_3_code 16 = .ok (.baload, 1) := by decide +kernel
theorem d17_17 : decode jdk_123_method_3_code 17 = .ok (.ifCond .ge 8, 3) := by decide +kernel
theorem d17_25 : decode jdk_123_method_3_code 25 = .ok (.iinc 4 1, 3) := by decide +kernel
theorem d17_28 : decode jdk_123_method_3_code 28 = .ok (.goto (-21), 3) := by decide +kernel
theorem d17_31 : decode jdk_123_method_3_code 31 = .ok (.iload_n 2, 1) := by decide +kernel
theorem d17_32 : decode jdk_123_method_3_code 32 = .ok (.ireturn, 1) := by decide +kernel
theorem ef_17 (m : MethodId) (x0 : Addr) (x1 : Int32) (x2 : Int32) : entryFrame m #[(.ref x0), (.int x1), (.int x2)] 5 = (mkF m 0 #[.val (.ref x0), .val (.int x1), .val (.int x2), .unset, .unset] []) := by first | (simp [entryFrame, mkF, argsToLocals, Value.category]; done) | rfl
def Q17 (Z : State) (a : Addr) (k : ClassId) (f : Nat → Int32) (h0 : Heap) (n0 : Nat) (vX : Option Value) (hX : Heap) (lX : List Loc) : Prop := vX = some (.int (260 : Int32)) ∧ Fr n0 lX ∧ (hX = h0)
set_option maxRecDepth 65536 in
set_option maxHeartbeats 40000000 in
theorem rm17 (l : Launch) (Z : State) (a0 : Array Value) (hw : ∀ d ∈ tables_1, d.before a0 Z = true) (ws : List Jvm.Cond) (a : Addr) (k : ClassId) (f : Nat → Int32) (h0 : Heap) (n0 : Nat) (Z0 : n0 ≤ h0.size) (pr0 : Bar Z h0 a k (260 : Int32) f) (pr1 : ∀ i, ¬ (f i) < (0 : Int32)) :
    MetFree l (⟨"java/lang/StringCoding", "countPositives", "([BII)I"⟩ : MethodName) (head1 (Jvm.Cond.code (⟨"java/lang/StringCoding", "countPositives", "([BII)I"⟩ : MethodName) jdk_123_method_3_code 5 (some .int) :: ws) ({ frames := 0, cells := 0, slots := 0, locals := 0 } : Room)) (fun aX uX => aX = #[(.ref a), (.int (0 : Int32)), (.int (260 : Int32))] ∧ Z.Warmed39 uX.vm ∧ uX.heap = h0) (fun _ _ _ _ _ => True) (fun _ uX oX wX => ∃ vX lX, oX = .returned vX ∧ Q17 Z a k f h0 n0 vX wX.heap lX ∧ FrameEnd uX oX wX lX ({ frames := 0, cells := 0, slots := 0, locals := 0 } : Room).cells ({ frames := 0, cells := 0, slots := 0, locals := 0 } : Room).slots) := by
  refine MetFree.of_bodySF (plainFor_of_name pn_6) hisR ?_
  intro p e s m args below meth c s₁ Bd hml0 hP hK
  obtain ⟨rfl, hZ, hh⟩ := hP
  have hx := Bd.exec
  have hby := Bd.bytes
  have hml : c.maxLocals = 5 := hml0
  have hown : s.vm.findClass "java/lang/StringCoding" = some m.cls := findClass_of_methodNamed Bd.named
  have hnm := (name_of_methodNamed Bd.named Bd.method).1
  have X0 : Stand p l e ({ frames := 0, cells := 0, slots := 0, locals := 0 } : Room) s m #[(.ref a), (.int (0 : Int32)), (.int (260 : Int32))] below meth c s₁ [] 0 0 := Stand.of_body Bd
  have e0 : s₁.heap = h0 := by rw [← hh, Bd.state]; rfl
  have N0 := Fr.nil n0
  let ST : State := (s₁.setTop (entryFrame m #[(.ref a), (.int (0 : Int32)), (.int (260 : Int32))] 5))
  have pre0 : ∀ t, Steps p.tables e below (s₁.setTop (mkF m 0 #[.val (.ref a), .val (.int (0 : Int32)), .val (.int (260 : Int32)), .unset, .unset] [])) t → Steps p.tables e below ST t := fun t k => castTop (ef_17 m a (0 : Int32) (260 : Int32)) k
  let LL1 : Array Slot := #[.val (.ref a), .val (.int (0 : Int32)), .val (.int (260 : Int32)), .unset, .unset]
  let LL2 : Array Slot := #[.val (.ref a), .val (.int (0 : Int32)), .val (.int (260 : Int32)), .val (.int (260 : Int32)), .unset]
  let LL3 : Array Slot := #[.val (.ref a), .val (.int (0 : Int32)), .val (.int (260 : Int32)), .val (.int (260 : Int32)), .val (.int (0 : Int32))]
  have P4 : ∀ t, Steps p.tables e below (s₁.setTop (mkF m 7 LL3 [])) t → Steps p.tables e below ST t := by
    intro t kk
    refine pre0 _ ?_
    show Steps p.tables e below (s₁.setTop (mkF m 0 LL1 [])) _
    refine XS.iloadN X0.here hx rfl (hb hby d17_0) rfl ?_
    show Steps p.tables e below (s₁.setTop (mkF m 1 LL1 [(.int (0 : Int32))])) _
    refine XS.iloadN X0.here hx rfl (hb hby d17_1) rfl ?_
    show Steps p.tables e below (s₁.setTop (mkF m 2 LL1 [(.int (260 : Int32)), (.int (0 : Int32))])) _
    refine XS.iadd X0.here hx rfl (hb hby d17_2) rfl ?_
    show Steps p.tables e below (s₁.setTop (mkF m 3 LL1 [(.int (260 : Int32))])) _
    refine XS.istoreN X0.here hx rfl (hb hby d17_3) rfl (l' := LL2) rfl ?_
    show Steps p.tables e below (s₁.setTop (mkF m 4 LL2 [])) _
    refine XS.iloadN X0.here hx rfl (hb hby d17_4) rfl ?_
    show Steps p.tables e below (s₁.setTop (mkF m 5 LL2 [(.int (0 : Int32))])) _
    refine XS.istore X0.here hx rfl (hb hby d17_5) rfl (l' := LL3) rfl ?_
    show Steps p.tables e below (s₁.setTop (mkF m 7 LL3 [])) _
    exact kk
  have it5 : ∀ (il : Int32), (¬ il < 0 ∧ il < (260 : Int32)) → ∀ t, Steps p.tables e below (s₁.setTop (mkF m 7 #[.val (.ref a), .val (.int (0 : Int32)), .val (.int (260 : Int32)), .val (.int (260 : Int32)), .val (.int (il + (1 : Int32)))] [])) t → Steps p.tables e below (s₁.setTop (mkF m 7 #[.val (.ref a), .val (.int (0 : Int32)), .val (.int (260 : Int32)), .val (.int (260 : Int32)), .val (.int il)] [])) t := by
    intro il hil t kk
    let LL6 : Array Slot := #[.val (.ref a), .val (.int (0 : Int32)), .val (.int (260 : Int32)), .val (.int (260 : Int32)), .val (.int il)]
    obtain ⟨cl_a7, Ar_a7, q_a7, S_a7, N_a7, H_a7⟩ := id pr0
    have hin_a7 : ¬ (il < 0 ∨ cl_a7.slots.size ≤ (il).toNatClampNeg) := inb_of S_a7 hil
    have hat_a7 : cl_a7.slots[(il).toNatClampNeg]? = some (.int (f (il).toNatClampNeg)) := (H_a7 _ (Nat.lt_of_not_le fun q => hin_a7 (Or.inr q))).1
    let LL8 : Array Slot := #[.val (.ref a), .val (.int (0 : Int32)), .val (.int (260 : Int32)), .val (.int (260 : Int32)), .val (.int (il + (1 : Int32)))]
    show Steps p.tables e below (s₁.setTop (mkF m 7 LL6 [])) _
    refine XS.iload X0.here hx rfl (hb hby d17_7) rfl ?_
    show Steps p.tables e below (s₁.setTop (mkF m 9 LL6 [(.int il)])) _
    refine XS.iloadN X0.here hx rfl (hb hby d17_9) rfl ?_
    show Steps p.tables e below (s₁.setTop (mkF m 10 LL6 [(.int (260 : Int32)), (.int il)])) _
    refine XS.icmpNo X0.here hx rfl (hb hby d17_10) rfl (XT.ii_ge_f hil.2) ?_
    show Steps p.tables e below (s₁.setTop (mkF m 13 LL6 [])) _
    refine XS.aloadN X0.here hx rfl (hb hby d17_13) rfl rfl ?_
    show Steps p.tables e below (s₁.setTop (mkF m 14 LL6 [(.ref a)])) _
    refine XS.iload X0.here hx rfl (hb hby d17_14) rfl ?_
    show Steps p.tables e below (s₁.setTop (mkF m 16 LL6 [(.int il), (.ref a)])) _
    refine X0.baloadBytes hx (j := il) (v := (.int (f (il).toNatClampNeg))) (by rw [e0]; exact Ar_a7.1) (State.isArrayOf_alike hZ.alike Ar_a7.2.1) Ar_a7.2.2 hin_a7 hat_a7 (g := (mkF m 16 LL6 [(.int il), (.ref a)])) rfl rfl (hb hby d17_16) _ ?_
    show Steps p.tables e below (s₁.setTop (mkF m 17 LL6 [(.int (f (il).toNatClampNeg))])) _
    refine XS.ifYes X0.here hx rfl (pc0 := 17) (pc' := 25) rfl (hb hby d17_17) rfl (XT.i0_ge_t (pr1 _)) (by decide) (by decide) ?_
    show Steps p.tables e below (s₁.setTop (mkF m 25 LL6 [])) _
    refine XS.iinc X0.here hx rfl (hb hby d17_25) rfl (l' := LL8) rfl ?_
    show Steps p.tables e below (s₁.setTop (mkF m 28 LL8 [])) _
    refine XS.goto X0.here hx rfl (pc0 := 28) (pc' := 7) rfl (hb hby d17_28) (by decide) (by decide) ?_
    show Steps p.tables e below (s₁.setTop (mkF m 7 LL8 [])) _
    exact kk
  have lp5 : ∀ (dl : Nat) (il : Int32), 0 ≤ il.toInt → il.toInt + dl = 260 → ∀ t, Steps p.tables e below (s₁.setTop (mkF m 7 #[.val (.ref a), .val (.int (0 : Int32)), .val (.int (260 : Int32)), .val (.int (260 : Int32)), .val (.int (260 : Int32))] [])) t → Steps p.tables e below (s₁.setTop (mkF m 7 #[.val (.ref a), .val (.int (0 : Int32)), .val (.int (260 : Int32)), .val (.int (260 : Int32)), .val (.int il)] [])) t := by
    have ll : (260 : Int32).toInt = 260 := by decide
    intro dl
    induction dl with
    | zero =>
      intro il g0 g1
      obtain rfl : il = (260 : Int32) := Int32.toInt_inj.mp (by rw [ll]; omega)
      exact fun t k => k
    | succ dl ih =>
      intro il g0 g1
      have gi := own_inc il g0 (by omega)
      have gb := own_ib il (260 : Int32) g0 (by rw [ll]; omega)
      exact fun t k => it5 il gb t (ih (il + (1 : Int32)) (by rw [gi]; omega) (by rw [gi]; omega) t k)
  have ql5 := lp5 260 (0 : Int32) (by decide) (by decide)
  have P5 : ∀ t, Steps p.tables e below (s₁.setTop (mkF m 7 #[.val (.ref a), .val (.int (0 : Int32)), .val (.int (260 : Int32)), .val (.int (260 : Int32)), .val (.int (260 : Int32))] [])) t → Steps p.tables e below ST t := fun t k => P4 t (ql5 t k)
  let LL9 : Array Slot := #[.val (.ref a), .val (.int (0 : Int32)), .val (.int (260 : Int32)), .val (.int (260 : Int32)), .val (.int (260 : Int32))]
  have P10 : ∀ t, Steps p.tables e below (s₁.setTop (mkF m 32 LL9 [(.int (260 : Int32))])) t → Steps p.tables e below ST t := by
    intro t kk
    refine P5 _ ?_
    show Steps p.tables e below (s₁.setTop (mkF m 7 LL9 [])) _
    refine XS.iload X0.here hx rfl (hb hby d17_7) rfl ?_
    show Steps p.tables e below (s₁.setTop (mkF m 9 LL9 [(.int (260 : Int32))])) _
    refine XS.iloadN X0.here hx rfl (hb hby d17_9) rfl ?_
    show Steps p.tables e below (s₁.setTop (mkF m 10 LL9 [(.int (260 : Int32)), (.int (260 : Int32))])) _
    refine XS.icmpYes X0.here hx rfl (pc0 := 10) (pc' := 31) rfl (hb hby d17_10) rfl (XT.ii_ge_t (by decide)) (by decide) (by decide) ?_
    show Steps p.tables e below (s₁.setTop (mkF m 31 LL9 [])) _
    refine XS.iloadN X0.here hx rfl (hb hby d17_31) rfl ?_
    show Steps p.tables e below (s₁.setTop (mkF m 32 LL9 [(.int (260 : Int32))])) _
    exact kk
  obtain ⟨fs, hr, hrun, hended, hW, hsame⟩ := X0.leave (v := some (.int (260 : Int32))) (fun h => by rw [Bd.returns] at h; cases h)
  refine ⟨_, _, P10 _ ?_, hrun, hended, _, _, rfl, ?_, ⟨_, rfl⟩, hW, hsame.mono (by decide) (by decide)⟩
  · exact retI X0 hx Bd.returns (hb hby d17_32) hr
  · show Q17 Z a k f h0 n0 _ s₁.heap _
    rw [e0]
    exact ⟨rfl, N0, rfl⟩
theorem d18_0 : decode jdk_123_method_2_code 0 = .ok (.aload_n 0, 1) := by decide +kernel
theorem d18_1 : decode jdk_123_method_2_code 1 = .ok (.iload_n 1, 1) := by decide +kernel
theorem d18_2 : decode jdk_123_method_2_code 2 = .ok (.iload_n 2, 1) := by decide +kernel
theorem d18_3 : decode jdk_123_method_2_code 3 = .ok (.invokestatic 7, 3) := by decide +kernel
theorem d18_6 : decode jdk_123_method_2_code 6 = .ok (.iload_n 2, 1) := by decide +kernel
theorem d18_7 : decode jdk_123_method_2_code 7 = .ok (.if_icmp .eq 7, 3) := by decide +kernel
theorem d18_14 : decode jdk_123_method_2_code 14 = .ok (.iconst 0, 1) := by decide +kernel
theorem d18_15 : decode jdk_123_method_2_code 15 = .ok (.ireturn, 1) := by decide +kernel
theorem ef_18 (m : MethodId) (x0 : Addr) (x1 : Int32) (x2 : Int32) : entryFrame m #[(.ref x0), (.int x1), (.int x2)] 3 = (mkF m 0 #[.val (.ref x0), .val (.int x1), .val (.int x2)] []) := by first | (simp [entryFrame, mkF, argsToLocals, Value.category]; done) | rfl
def Q18 (Z : State) (a : Addr) (k : ClassId) (f : Nat → Int32) (h0 : Heap) (n0 : Nat) (vX : Option Value) (hX : Heap) (lX : List Loc) : Prop := vX = some (.int (0 : Int32)) ∧ Fr n0 lX ∧ (hX = h0)
set_option maxRecDepth 65536 in
set_option maxHeartbeats 40000000 in
theorem rm18 (l : Launch) (Z : State) (a0 : Array Value) (hw : ∀ d ∈ tables_1, d.before a0 Z = true) (ws : List Jvm.Cond) (a : Addr) (k : ClassId) (f : Nat → Int32) (h0 : Heap) (n0 : Nat) (Z0 : n0 ≤ h0.size) (pr0 : Bar Z h0 a k (260 : Int32) f) (pr1 : ∀ i, ¬ (f i) < (0 : Int32)) :
    MetFree l (⟨"java/lang/StringCoding", "hasNegatives", "([BII)Z"⟩ : MethodName) (head1 (Jvm.Cond.code (⟨"java/lang/StringCoding", "hasNegatives", "([BII)Z"⟩ : MethodName) jdk_123_method_2_code 3 (some .boolean) :: ws) ({ frames := 1, cells := 0, slots := 0, locals := 16 } : Room)) (fun aX uX => aX = #[(.ref a), (.int (0 : Int32)), (.int (260 : Int32))] ∧ Z.Warmed39 uX.vm ∧ uX.heap = h0) (fun _ _ _ _ _ => True) (fun _ uX oX wX => ∃ vX lX, oX = .returned vX ∧ Q18 Z a k f h0 n0 vX wX.heap lX ∧ FrameEnd uX oX wX lX ({ frames := 1, cells := 0, slots := 0, locals := 16 } : Room).cells ({ frames := 1, cells := 0, slots := 0, locals := 16 } : Room).slots) := by
  refine MetFree.of_bodySF (plainFor_of_name pn_6) hisR ?_
  intro p e s m args below meth c s₁ Bd hml0 hP hK
  obtain ⟨rfl, hZ, hh⟩ := hP
  have hx := Bd.exec
  have hby := Bd.bytes
  have hml : c.maxLocals = 3 := hml0
  have hown : s.vm.findClass "java/lang/StringCoding" = some m.cls := findClass_of_methodNamed Bd.named
  have hnm := (name_of_methodNamed Bd.named Bd.method).1
  have X0 : Stand p l e ({ frames := 1, cells := 0, slots := 0, locals := 16 } : Room) s m #[(.ref a), (.int (0 : Int32)), (.int (260 : Int32))] below meth c s₁ [] 0 0 := Stand.of_body Bd
  have e0 : s₁.heap = h0 := by rw [← hh, Bd.state]; rfl
  have N0 := Fr.nil n0
  let ST : State := (s₁.setTop (entryFrame m #[(.ref a), (.int (0 : Int32)), (.int (260 : Int32))] 3))
  have pre0 : ∀ t, Steps p.tables e below (s₁.setTop (mkF m 0 #[.val (.ref a), .val (.int (0 : Int32)), .val (.int (260 : Int32))] [])) t → Steps p.tables e below ST t := fun t k => castTop (ef_18 m a (0 : Int32) (260 : Int32)) k
  let LL1 : Array Slot := #[.val (.ref a), .val (.int (0 : Int32)), .val (.int (260 : Int32))]
  obtain ⟨_, _, ⟨T2, L2, k2, n2⟩, -, X2, ⟨Lc2, hQ2, l2, y2, z2⟩, st2⟩ := Jvm.LawKit.callS X0 hx (y := (⟨"java/lang/StringCoding", "countPositives", "([BII)I"⟩ : MethodName)) hown (mvT hZ (hw _ (List.mem_of_getElem? (i := 143) rfl))) (mvT hZ (hw _ (List.mem_of_getElem? (i := 144) rfl))) (mvT hZ (hw _ (List.mem_of_getElem? (i := 141) rfl))) (mvT hZ (hw _ (List.mem_of_getElem? (i := 145) rfl))) (by decide) (backOf (W := 0) (rm17 l Z a0 hw [] a k f h0 n0 Z0 pr0 pr1) hZ (hw _ (List.mem_of_getElem? (i := 145) rfl)) (hw _ (List.mem_of_getElem? (i := 141) rfl)) (by decide) (by decide)) (g := (mkF m 3 LL1 [(.int (260 : Int32)), (.int (0 : Int32)), (.ref a)])) rfl (by rw [hml]; rfl) (argsL := [(.ref a), (.int (0 : Int32)), (.int (260 : Int32))]) (rest := []) (lenOf pd_5 rfl) rfl (by show 2 * 0 + _ ≤ _; exact Nat.le_of_eq rfl) (hb hby d18_3) (fun _ _ => ⟨rfl, e0, (by decide : 0 + 0 ≤ _), (by decide : 0 + 0 ≤ _)⟩)
  dsimp only [Pt.U, Pt.locs, Pt.cells, Pt.slots] at X2 l2 y2 z2 st2 hQ2
  subst l2 y2 z2
  obtain ⟨rfl, Nq2, e2⟩ := hQ2
  have N2 := Fr.app N0 Nq2
  have P3 : ∀ t, Steps p.tables e below (T2.setTop (mkF m 15 LL1 [(.int (0 : Int32))])) t → Steps p.tables e below ST t := by
    intro t kk
    refine pre0 _ ?_
    show Steps p.tables e below (s₁.setTop (mkF m 0 LL1 [])) _
    refine XS.aloadN X0.here hx rfl (hb hby d18_0) rfl rfl ?_
    show Steps p.tables e below (s₁.setTop (mkF m 1 LL1 [(.ref a)])) _
    refine XS.iloadN X0.here hx rfl (hb hby d18_1) rfl ?_
    show Steps p.tables e below (s₁.setTop (mkF m 2 LL1 [(.int (0 : Int32)), (.ref a)])) _
    refine XS.iloadN X0.here hx rfl (hb hby d18_2) rfl ?_
    show Steps p.tables e below (s₁.setTop (mkF m 3 LL1 [(.int (260 : Int32)), (.int (0 : Int32)), (.ref a)])) _
    refine st2 _ ?_
    show Steps p.tables e below (T2.setTop (mkF m 6 LL1 [(.int (260 : Int32))])) _
    refine XS.iloadN X2.here hx rfl (hb hby d18_6) rfl ?_
    show Steps p.tables e below (T2.setTop (mkF m 7 LL1 [(.int (260 : Int32)), (.int (260 : Int32))])) _
    refine XS.icmpYes X2.here hx rfl (pc0 := 7) (pc' := 14) rfl (hb hby d18_7) rfl (XT.ii_eq_t rfl) (by decide) (by decide) ?_
    show Steps p.tables e below (T2.setTop (mkF m 14 LL1 [])) _
    refine XS.iconst X2.here hx rfl (hb hby d18_14) ?_
    show Steps p.tables e below (T2.setTop (mkF m 15 LL1 [(.int (0 : Int32))])) _
    exact kk
  obtain ⟨fs, hr, hrun, hended, hW, hsame⟩ := X2.leave (v := some (.int (0 : Int32))) (fun h => by rw [Bd.returns] at h; cases h)
  refine ⟨_, _, P3 _ ?_, hrun, hended, _, _, rfl, ?_, ⟨_, rfl⟩, hW, hsame.mono (by decide) (by decide)⟩
  · exact retN X2 hx (t := .boolean) Bd.returns (by simp) (hb hby d18_15) hr
  · show Q18 Z a k f h0 n0 _ T2.heap _
    rw [e2]
    exact ⟨rfl, N2, rfl⟩
theorem d19_0 : decode jdk_42_method_152_code 0 = .ok (.getstatic 38, 3) := by decide +kernel
theorem d19_3 : decode jdk_42_method_152_code 3 = .ok (.ifCond .eq 10, 3) := by decide +kernel
theorem d19_6 : decode jdk_42_method_152_code 6 = .ok (.aload_n 0, 1) := by decide +kernel
theorem d19_7 : decode jdk_42_method_152_code 7 = .ok (.getfield 15, 3) := by decide +kernel
theorem d19_10 : decode jdk_42_method_152_code 10 = .ok (.goto 4, 3) := by decide +kernel
theorem d19_14 : decode jdk_42_method_152_code 14 = .ok (.ireturn, 1) := by decide +kernel
theorem ef_19 (m : MethodId) (x0 : Addr) : entryFrame m #[(.ref x0)] 1 = (mkF m 0 #[.val (.ref x0)] []) := by first | (simp [entryFrame, mkF, argsToLocals, Value.category]; done) | rfl
def Q19 (Z : State) (a : Addr) (cs : Int32) (h0 : Heap) (n0 : Nat) (vX : Option Value) (hX : Heap) (lX : List Loc) : Prop := vX = some (.int (nar .byte (0 : Int32))) ∧ Fr n0 lX ∧ (hX = h0)
set_option maxRecDepth 65536 in
set_option maxHeartbeats 40000000 in
theorem rm19 (l : Launch) (Z : State) (a0 : Array Value) (hw : ∀ d ∈ tables_1, d.before a0 Z = true) (ws : List Jvm.Cond) (a : Addr) (cs : Int32) (h0 : Heap) (n0 : Nat) (Z0 : n0 ≤ h0.size) (pr0 : Sta Z h0 "java/lang/String" "COMPACT_STRINGS" "Z" (.int cs)) (pr1 : ¬ cs = (0 : Int32)) (pr2 : Fld Z h0 a "java/lang/String" "coder" "B" (.int (0 : Int32))) :
    MetFree l (⟨"java/lang/String", "coder", "()B"⟩ : MethodName) (head1 (Jvm.Cond.code (⟨"java/lang/String", "coder", "()B"⟩ : MethodName) jdk_42_method_152_code 1 (some .byte) :: ws) ({ frames := 0, cells := 0, slots := 0, locals := 0 } : Room)) (fun aX uX => aX = #[(.ref a)] ∧ Z.Warmed39 uX.vm ∧ uX.heap = h0) (fun _ _ _ _ _ => True) (fun _ uX oX wX => ∃ vX lX, oX = .returned vX ∧ Q19 Z a cs h0 n0 vX wX.heap lX ∧ FrameEnd uX oX wX lX ({ frames := 0, cells := 0, slots := 0, locals := 0 } : Room).cells ({ frames := 0, cells := 0, slots := 0, locals := 0 } : Room).slots) := by
  refine MetFree.of_bodySF (plainFor_of_name pn_7) hisR ?_
  intro p e s m args below meth c s₁ Bd hml0 hP hK
  obtain ⟨rfl, hZ, hh⟩ := hP
  have hx := Bd.exec
  have hby := Bd.bytes
  have hml : c.maxLocals = 1 := hml0
  have hown : s.vm.findClass "java/lang/String" = some m.cls := findClass_of_methodNamed Bd.named
  have hnm := (name_of_methodNamed Bd.named Bd.method).1
  have X0 : Stand p l e ({ frames := 0, cells := 0, slots := 0, locals := 0 } : Room) s m #[(.ref a)] below meth c s₁ [] 0 0 := Stand.of_body Bd
  have e0 : s₁.heap = h0 := by rw [← hh, Bd.state]; rfl
  have N0 := Fr.nil n0
  let ST : State := (s₁.setTop (entryFrame m #[(.ref a)] 1))
  have pre0 : ∀ t, Steps p.tables e below (s₁.setTop (mkF m 0 #[.val (.ref a)] [])) t → Steps p.tables e below ST t := fun t k => castTop (ef_19 m a) k
  let LL1 : Array Slot := #[.val (.ref a)]
  obtain ⟨T2, X2, e2, st2⟩ := getS2 X0 hx hZ hown (host := "") (Or.inl (hw _ (List.mem_of_getElem? (i := 14) rfl))) Via.refl e0 pr0 (g := (mkF m 0 LL1 [])) rfl (hb hby d19_0)
  obtain ⟨T3, X3, e3, st3⟩ := getF X2 hx hZ hown (host := "") (Or.inl (hw _ (List.mem_of_getElem? (i := 26) rfl))) Via.refl e2 pr2 (g := (mkF m 7 LL1 [(.ref a)])) rfl rfl (hb hby d19_7)
  have P4 : ∀ t, Steps p.tables e below (T3.setTop (mkF m 14 LL1 [(.int (0 : Int32))])) t → Steps p.tables e below ST t := by
    intro t kk
    refine pre0 _ ?_
    show Steps p.tables e below (s₁.setTop (mkF m 0 LL1 [])) _
    refine st2 _ ?_
    show Steps p.tables e below (T2.setTop (mkF m 3 LL1 [(.int cs)])) _
    refine XS.ifNo X2.here hx rfl (hb hby d19_3) rfl (XT.i0_eq_f pr1) ?_
    show Steps p.tables e below (T2.setTop (mkF m 6 LL1 [])) _
    refine XS.aloadN X2.here hx rfl (hb hby d19_6) rfl rfl ?_
    show Steps p.tables e below (T2.setTop (mkF m 7 LL1 [(.ref a)])) _
    refine st3 _ ?_
    show Steps p.tables e below (T3.setTop (mkF m 10 LL1 [(.int (0 : Int32))])) _
    refine XS.goto X3.here hx rfl (pc0 := 10) (pc' := 14) rfl (hb hby d19_10) (by decide) (by decide) ?_
    show Steps p.tables e below (T3.setTop (mkF m 14 LL1 [(.int (0 : Int32))])) _
    exact kk
  obtain ⟨fs, hr, hrun, hended, hW, hsame⟩ := X3.leave (v := some (.int (0 : Int32))) (fun h => by rw [Bd.returns] at h; cases h)
  refine ⟨_, _, P4 _ ?_, hrun, hended, _, _, rfl, ?_, ⟨_, rfl⟩, hW, hsame.mono (by decide) (by decide)⟩
  · exact retN X3 hx (t := .byte) Bd.returns (by simp) (hb hby d19_14) hr
  · show Q19 Z a cs h0 n0 _ T3.heap _
    rw [e3]
    exact ⟨rfl, N0, rfl⟩
theorem d20_0 : decode jdk_42_method_154_code 0 = .ok (.getstatic 38, 3) := by decide +kernel
theorem d20_3 : decode jdk_42_method_154_code 3 = .ok (.ifCond .eq 14, 3) := by decide +kernel
theorem d20_6 : decode jdk_42_method_154_code 6 = .ok (.aload_n 0, 1) := by decide +kernel
theorem d20_7 : decode jdk_42_method_154_code 7 = .ok (.getfield 15, 3) := by decide +kernel
theorem d20_10 : decode jdk_42_method_154_code 10 = .ok (.ifCond .ne 7, 3) := by decide +kernel
theorem d20_13 : decode jdk_42_method_154_code 13 = .ok (.iconst 1, 1) := by decide +kernel
theorem d20_14 : decode jdk_42_method_154_code 14 = .ok (.goto 4, 3) := by decide +kernel
theorem d20_18 : decode jdk_42_method_154_code 18 = .ok (.ireturn, 1) := by decide +kernel
theorem ef_20 (m : MethodId) (x0 : Addr) : entryFrame m #[(.ref x0)] 1 = (mkF m 0 #[.val (.ref x0)] []) := by first | (simp [entryFrame, mkF, argsToLocals, Value.category]; done) | rfl
def Q20 (Z : State) (a : Addr) (cs : Int32) (h0 : Heap) (n0 : Nat) (vX : Option Value) (hX : Heap) (lX : List Loc) : Prop := vX = some (.int (1 : Int32)) ∧ Fr n0 lX ∧ (hX = h0)
set_option maxRecDepth 65536 in
set_option maxHeartbeats 40000000 in
theorem rm20 (l : Launch) (Z : State) (a0 : Array Value) (hw : ∀ d ∈ tables_1, d.before a0 Z = true) (ws : List Jvm.Cond) (a : Addr) (cs : Int32) (h0 : Heap) (n0 : Nat) (Z0 : n0 ≤ h0.size) (pr0 : Sta Z h0 "java/lang/String" "COMPACT_STRINGS" "Z" (.int cs)) (pr1 : ¬ cs = (0 : Int32)) (pr2 : Fld Z h0 a "java/lang/String" "coder" "B" (.int (0 : Int32))) :
    MetFree l (⟨"java/lang/String", "isLatin1", "()Z"⟩ : MethodName) (head1 (Jvm.Cond.code (⟨"java/lang/String", "isLatin1", "()Z"⟩ : MethodName) jdk_42_method_154_code 1 (some .boolean) :: ws) ({ frames := 0, cells := 0, slots := 0, locals := 0 } : Room)) (fun aX uX => aX = #[(.ref a)] ∧ Z.Warmed39 uX.vm ∧ uX.heap = h0) (fun _ _ _ _ _ => True) (fun _ uX oX wX => ∃ vX lX, oX = .returned vX ∧ Q20 Z a cs h0 n0 vX wX.heap lX ∧ FrameEnd uX oX wX lX ({ frames := 0, cells := 0, slots := 0, locals := 0 } : Room).cells ({ frames := 0, cells := 0, slots := 0, locals := 0 } : Room).slots) := by
  refine MetFree.of_bodySF (plainFor_of_name pn_7) hisR ?_
  intro p e s m args below meth c s₁ Bd hml0 hP hK
  obtain ⟨rfl, hZ, hh⟩ := hP
  have hx := Bd.exec
  have hby := Bd.bytes
  have hml : c.maxLocals = 1 := hml0
  have hown : s.vm.findClass "java/lang/String" = some m.cls := findClass_of_methodNamed Bd.named
  have hnm := (name_of_methodNamed Bd.named Bd.method).1
  have X0 : Stand p l e ({ frames := 0, cells := 0, slots := 0, locals := 0 } : Room) s m #[(.ref a)] below meth c s₁ [] 0 0 := Stand.of_body Bd
  have e0 : s₁.heap = h0 := by rw [← hh, Bd.state]; rfl
  have N0 := Fr.nil n0
  let ST : State := (s₁.setTop (entryFrame m #[(.ref a)] 1))
  have pre0 : ∀ t, Steps p.tables e below (s₁.setTop (mkF m 0 #[.val (.ref a)] [])) t → Steps p.tables e below ST t := fun t k => castTop (ef_20 m a) k
  let LL1 : Array Slot := #[.val (.ref a)]
  obtain ⟨T2, X2, e2, st2⟩ := getS2 X0 hx hZ hown (host := "") (Or.inl (hw _ (List.mem_of_getElem? (i := 14) rfl))) Via.refl e0 pr0 (g := (mkF m 0 LL1 [])) rfl (hb hby d20_0)
  obtain ⟨T3, X3, e3, st3⟩ := getF X2 hx hZ hown (host := "") (Or.inl (hw _ (List.mem_of_getElem? (i := 26) rfl))) Via.refl e2 pr2 (g := (mkF m 7 LL1 [(.ref a)])) rfl rfl (hb hby d20_7)
  have P4 : ∀ t, Steps p.tables e below (T3.setTop (mkF m 18 LL1 [(.int (1 : Int32))])) t → Steps p.tables e below ST t := by
    intro t kk
    refine pre0 _ ?_
    show Steps p.tables e below (s₁.setTop (mkF m 0 LL1 [])) _
    refine st2 _ ?_
    show Steps p.tables e below (T2.setTop (mkF m 3 LL1 [(.int cs)])) _
    refine XS.ifNo X2.here hx rfl (hb hby d20_3) rfl (XT.i0_eq_f pr1) ?_
    show Steps p.tables e below (T2.setTop (mkF m 6 LL1 [])) _
    refine XS.aloadN X2.here hx rfl (hb hby d20_6) rfl rfl ?_
    show Steps p.tables e below (T2.setTop (mkF m 7 LL1 [(.ref a)])) _
    refine st3 _ ?_
    show Steps p.tables e below (T3.setTop (mkF m 10 LL1 [(.int (0 : Int32))])) _
    refine XS.ifNo X3.here hx rfl (hb hby d20_10) rfl (XT.i0_ne_f rfl) ?_
    show Steps p.tables e below (T3.setTop (mkF m 13 LL1 [])) _
    refine XS.iconst X3.here hx rfl (hb hby d20_13) ?_
    show Steps p.tables e below (T3.setTop (mkF m 14 LL1 [(.int (1 : Int32))])) _
    refine XS.goto X3.here hx rfl (pc0 := 14) (pc' := 18) rfl (hb hby d20_14) (by decide) (by decide) ?_
    show Steps p.tables e below (T3.setTop (mkF m 18 LL1 [(.int (1 : Int32))])) _
    exact kk
  obtain ⟨fs, hr, hrun, hended, hW, hsame⟩ := X3.leave (v := some (.int (1 : Int32))) (fun h => by rw [Bd.returns] at h; cases h)
  refine ⟨_, _, P4 _ ?_, hrun, hended, _, _, rfl, ?_, ⟨_, rfl⟩, hW, hsame.mono (by decide) (by decide)⟩
  · exact retN X3 hx (t := .boolean) Bd.returns (by simp) (hb hby d20_18) hr
  · show Q20 Z a cs h0 n0 _ T3.heap _
    rw [e3]
    exact ⟨rfl, N0, rfl⟩
theorem d21_0 : decode jdk_42_method_46_code 0 = .ok (.iload_n 0, 1) := by decide +kernel
theorem d21_1 : decode jdk_42_method_46_code 1 = .ok (.iconst 1, 1) := by decide +kernel
theorem d21_2 : decode jdk_42_method_46_code 2 = .ok (.if_icmp .ne 9, 3) := by decide +kernel
theorem d21_11 : decode jdk_42_method_46_code 11 = .ok (.aload_n 1, 1) := by decide +kernel
theorem d21_12 : decode jdk_42_method_46_code 12 = .ok (.iconst 0, 1) := by decide +kernel
theorem d21_13 : decode jdk_42_method_46_code 13 = .ok (.aload_n 1, 1) := by decide +kernel
theorem d21_14 : decode jdk_42_method_46_code 14 = .ok (.arraylength, 1) := by decide +kernel
theorem d21_15 : decode jdk_42_method_46_code 15 = .ok (.invokestatic 128, 3) := by decide +kernel
theorem d21_18 : decode jdk_42_method_46_code 18 = .ok (.ifCond .ne 11, 3) := by decide +kernel
theorem d21_21 : decode jdk_42_method_46_code 21 = .ok (.aload_n 1, 1) := by decide +kernel
theorem d21_22 : decode jdk_42_method_46_code 22 = .ok (.invokevirtual 279, 3) := by decide +kernel
theorem d21_25 : decode jdk_42_method_46_code 25 = .ok (.checkcast 280, 3) := by decide +kernel
theorem d21_28 : decode jdk_42_method_46_code 28 = .ok (.areturn, 1) := by decide +kernel
theorem ef_21 (m : MethodId) (x0 : Int32) (x1 : Addr) (x2 : Int32) : entryFrame m #[(.int x0), (.ref x1), (.int x2)] 9 = (mkF m 0 #[.val (.int x0), .val (.ref x1), .val (.int x2), .unset, .unset, .unset, .unset, .unset, .unset] []) := by first | (simp [entryFrame, mkF, argsToLocals, Value.category]; done) | rfl
def Q21 (Z : State) (a : Addr) (k : ClassId) (f : Nat → Int32) (h0 : Heap) (n0 : Nat) (vX : Option Value) (hX : Heap) (lX : List Loc) : Prop := ∃ (r : Addr), vX = some (.ref r) ∧ Fr n0 lX ∧ (Keep h0 hX []) ∧ (Bar Z hX r k (260 : Int32) f) ∧ (Exa Z hX r "[B") ∧ (h0.size ≤ r)
set_option maxRecDepth 65536 in
set_option maxHeartbeats 40000000 in
theorem rm21 (l : Launch) (Z : State) (a0 : Array Value) (hw : ∀ d ∈ tables_1, d.before a0 Z = true) (ws : List Jvm.Cond) (a : Addr) (k : ClassId) (f : Nat → Int32) (h0 : Heap) (n0 : Nat) (Z0 : n0 ≤ h0.size) (pr0 : Bar Z h0 a k (260 : Int32) f) (pr1 : Exa Z h0 a "[B") (pr2 : ∀ i, ¬ (f i) < (0 : Int32)) :
    MetFree l (⟨"java/lang/String", "encodeUTF8", "(B[BZ)[B"⟩ : MethodName) (head1 (Jvm.Cond.code (⟨"java/lang/String", "encodeUTF8", "(B[BZ)[B"⟩ : MethodName) jdk_42_method_46_code 9 (some (.array .byte)) :: ws) ({ frames := 2, cells := 1, slots := 260, locals := 30 } : Room)) (fun aX uX => aX = #[(.int (0 : Int32)), (.ref a), (.int (1 : Int32))] ∧ Z.Warmed39 uX.vm ∧ uX.heap = h0) (fun _ _ _ _ _ => True) (fun _ uX oX wX => ∃ vX lX, oX = .returned vX ∧ Q21 Z a k f h0 n0 vX wX.heap lX ∧ FrameEnd uX oX wX lX ({ frames := 2, cells := 1, slots := 260, locals := 30 } : Room).cells ({ frames := 2, cells := 1, slots := 260, locals := 30 } : Room).slots) := by
  refine MetFree.of_bodySF (plainFor_of_name pn_7) hisR ?_
  intro p e s m args below meth c s₁ Bd hml0 hP hK
  obtain ⟨rfl, hZ, hh⟩ := hP
  have hx := Bd.exec
  have hby := Bd.bytes
  have hml : c.maxLocals = 9 := hml0
  have hown : s.vm.findClass "java/lang/String" = some m.cls := findClass_of_methodNamed Bd.named
  have hnm := (name_of_methodNamed Bd.named Bd.method).1
  have X0 : Stand p l e ({ frames := 2, cells := 1, slots := 260, locals := 30 } : Room) s m #[(.int (0 : Int32)), (.ref a), (.int (1 : Int32))] below meth c s₁ [] 0 0 := Stand.of_body Bd
  have e0 : s₁.heap = h0 := by rw [← hh, Bd.state]; rfl
  have N0 := Fr.nil n0
  let ST : State := (s₁.setTop (entryFrame m #[(.int (0 : Int32)), (.ref a), (.int (1 : Int32))] 9))
  have pre0 : ∀ t, Steps p.tables e below (s₁.setTop (mkF m 0 #[.val (.int (0 : Int32)), .val (.ref a), .val (.int (1 : Int32)), .unset, .unset, .unset, .unset, .unset, .unset] [])) t → Steps p.tables e below ST t := fun t k => castTop (ef_21 m (0 : Int32) a (1 : Int32)) k
  let LL1 : Array Slot := #[.val (.int (0 : Int32)), .val (.ref a), .val (.int (1 : Int32)), .unset, .unset, .unset, .unset, .unset, .unset]
  obtain ⟨cl_a2, Ar_a2, q_a2, S_a2, N_a2, H_a2⟩ := id pr0
  obtain ⟨_, _, ⟨T3, L3, k3, n3⟩, -, X3, ⟨Lc3, hQ3, l3, y3, z3⟩, st3⟩ := Jvm.LawKit.callS X0 hx (y := (⟨"java/lang/StringCoding", "hasNegatives", "([BII)Z"⟩ : MethodName)) hown (mvT hZ (hw _ (List.mem_of_getElem? (i := 139) rfl))) (mvT hZ (hw _ (List.mem_of_getElem? (i := 140) rfl))) (mvT hZ (hw _ (List.mem_of_getElem? (i := 141) rfl))) (mvT hZ (hw _ (List.mem_of_getElem? (i := 142) rfl))) (by decide) (backOf (W := 0) (rm18 l Z a0 hw [] a k f h0 n0 Z0 pr0 pr2) hZ (hw _ (List.mem_of_getElem? (i := 142) rfl)) (hw _ (List.mem_of_getElem? (i := 141) rfl)) (by decide) (by decide)) (g := (mkF m 15 LL1 [(.int (260 : Int32)), (.int (0 : Int32)), (.ref a)])) rfl (by rw [hml]; rfl) (argsL := [(.ref a), (.int (0 : Int32)), (.int (260 : Int32))]) (rest := []) (lenOf pd_6 rfl) rfl (by show 2 * 0 + _ ≤ _; exact Nat.le_of_eq rfl) (hb hby d21_15) (fun _ _ => ⟨rfl, e0, (by decide : 0 + 0 ≤ _), (by decide : 0 + 0 ≤ _)⟩)
  dsimp only [Pt.U, Pt.locs, Pt.cells, Pt.slots] at X3 l3 y3 z3 st3 hQ3
  subst l3 y3 z3
  obtain ⟨rfl, Nq3, e3⟩ := hQ3
  have N3 := Fr.app N0 Nq3
  obtain ⟨T4, h4, X4, e4, E4, V4, Y4, st4⟩ := own_cloneB X3 hx hZ hown (hw _ (List.mem_of_getElem? (i := 146) rfl)) (hw _ (List.mem_of_getElem? (i := 147) rfl)) (hw _ (List.mem_of_getElem? (i := 151) rfl)) (hw _ (List.mem_of_getElem? (i := 149) rfl)) (hw _ (List.mem_of_getElem? (i := 150) rfl)) (hw _ (List.mem_of_getElem? (i := 152) rfl)) e3 pr0 pr1 (g := (mkF m 22 LL1 [(.ref a)])) rfl (by rw [hml]; rfl) (rest := []) rfl (hb hby d21_22) (by decide) (W := 0) (cap := 260) (by show 2 * 0 + _ ≤ _; exact Nat.le_of_eq rfl) (by decide) (by decide) (by decide) (by decide)
  obtain ⟨b4, g_b4⟩ : ∃ z, z = h0.size := ⟨_, rfl⟩
  rw [← g_b4] at V4 Y4 st4
  have ne_a_b4 : a ≠ b4 := Nat.ne_of_lt (Nat.lt_of_lt_of_le pr0.lt (Nat.le_of_eq g_b4.symm))
  have ge_b4 : n0 ≤ b4 := Nat.le_trans Z0 (Nat.le_of_eq g_b4.symm)
  have sz_b4 : h0.size ≤ b4 := Nat.le_trans (Keep.refl h0 []).1 (Nat.le_of_eq g_b4.symm)
  obtain ⟨T5, X5, e5, st5⟩ := castY X4 hx hZ hown (hw _ (List.mem_of_getElem? (i := 153) rfl)) e4 (Ins.self Y4) (g := (mkF m 25 LL1 [(.ref b4)])) rfl rfl (hb hby d21_25)
  have P6 : ∀ t, Steps p.tables e below (T5.setTop (mkF m 28 LL1 [(.ref b4)])) t → Steps p.tables e below ST t := by
    intro t kk
    refine pre0 _ ?_
    show Steps p.tables e below (s₁.setTop (mkF m 0 LL1 [])) _
    refine XS.iloadN X0.here hx rfl (hb hby d21_0) rfl ?_
    show Steps p.tables e below (s₁.setTop (mkF m 1 LL1 [(.int (0 : Int32))])) _
    refine XS.iconst X0.here hx rfl (hb hby d21_1) ?_
    show Steps p.tables e below (s₁.setTop (mkF m 2 LL1 [(.int (1 : Int32)), (.int (0 : Int32))])) _
    refine XS.icmpYes X0.here hx rfl (pc0 := 2) (pc' := 11) rfl (hb hby d21_2) rfl (XT.ii_ne_t (by decide)) (by decide) (by decide) ?_
    show Steps p.tables e below (s₁.setTop (mkF m 11 LL1 [])) _
    refine XS.aloadN X0.here hx rfl (hb hby d21_11) rfl rfl ?_
    show Steps p.tables e below (s₁.setTop (mkF m 12 LL1 [(.ref a)])) _
    refine XS.iconst X0.here hx rfl (hb hby d21_12) ?_
    show Steps p.tables e below (s₁.setTop (mkF m 13 LL1 [(.int (0 : Int32)), (.ref a)])) _
    refine XS.aloadN X0.here hx rfl (hb hby d21_13) rfl rfl ?_
    show Steps p.tables e below (s₁.setTop (mkF m 14 LL1 [(.ref a), (.int (0 : Int32)), (.ref a)])) _
    refine X0.arraylength hx (by rw [e0]; exact Ar_a2.1) (State.isArrayOf_alike hZ.alike Ar_a2.2.1) (g := (mkF m 14 LL1 [(.ref a), (.int (0 : Int32)), (.ref a)])) rfl rfl (hb hby d21_14) _ ?_
    rw [len_of S_a2 N_a2]
    show Steps p.tables e below (s₁.setTop (mkF m 15 LL1 [(.int (260 : Int32)), (.int (0 : Int32)), (.ref a)])) _
    refine st3 _ ?_
    show Steps p.tables e below (T3.setTop (mkF m 18 LL1 [(.int (0 : Int32))])) _
    refine XS.ifNo X3.here hx rfl (hb hby d21_18) rfl (XT.i0_ne_f rfl) ?_
    show Steps p.tables e below (T3.setTop (mkF m 21 LL1 [])) _
    refine XS.aloadN X3.here hx rfl (hb hby d21_21) rfl rfl ?_
    show Steps p.tables e below (T3.setTop (mkF m 22 LL1 [(.ref a)])) _
    refine st4 _ ?_
    show Steps p.tables e below (T4.setTop (mkF m 25 LL1 [(.ref b4)])) _
    refine st5 _ ?_
    show Steps p.tables e below (T5.setTop (mkF m 28 LL1 [(.ref b4)])) _
    exact kk
  have k7 : Keep h0 h4 [] := (Keep.ext (Keep.refl h0 []) E4)
  obtain ⟨fs, hr, hrun, hended, hW, hsame⟩ := X5.leave (v := some (.ref b4)) (fun h => by rw [Bd.returns] at h; cases h)
  refine ⟨_, _, P6 _ ?_, hrun, hended, _, _, rfl, ?_, ⟨_, rfl⟩, hW, hsame.mono (by decide) (by decide)⟩
  · exact X5.areturnOut hx rfl Bd.returns rfl (hb hby d21_28) hr
  · show Q21 Z a k f h0 n0 _ T5.heap _
    rw [e5]
    exact ⟨b4, rfl, N3, k7, V4, Y4, sz_b4⟩
theorem d22_0 : decode jdk_42_method_18_code 0 = .ok (.aload_n 0, 1) := by decide +kernel
theorem d22_1 : decode jdk_42_method_18_code 1 = .ok (.getstatic 86, 3) := by decide +kernel
theorem d22_4 : decode jdk_42_method_18_code 4 = .ok (.if_acmp .ne 10, 3) := by decide +kernel
theorem d22_7 : decode jdk_42_method_18_code 7 = .ok (.iload_n 1, 1) := by decide +kernel
theorem d22_8 : decode jdk_42_method_18_code 8 = .ok (.aload_n 2, 1) := by decide +kernel
theorem d22_9 : decode jdk_42_method_18_code 9 = .ok (.iconst 1, 1) := by decide +kernel
theorem d22_10 : decode jdk_42_method_18_code 10 = .ok (.invokestatic 252, 3) := by decide +kernel
theorem d22_13 : decode jdk_42_method_18_code 13 = .ok (.areturn, 1) := by decide +kernel
theorem ef_22 (m : MethodId) (x0 : Addr) (x1 : Int32) (x2 : Addr) : entryFrame m #[(.ref x0), (.int x1), (.ref x2)] 3 = (mkF m 0 #[.val (.ref x0), .val (.int x1), .val (.ref x2)] []) := by first | (simp [entryFrame, mkF, argsToLocals, Value.category]; done) | rfl
def Q22 (Z : State) (u : Addr) (a : Addr) (k : ClassId) (f : Nat → Int32) (h0 : Heap) (n0 : Nat) (vX : Option Value) (hX : Heap) (lX : List Loc) : Prop := ∃ (r : Addr), vX = some (.ref r) ∧ Fr n0 lX ∧ (Keep h0 hX []) ∧ (Bar Z hX r k (260 : Int32) f) ∧ (Exa Z hX r "[B") ∧ (h0.size ≤ r)
set_option maxRecDepth 65536 in
set_option maxHeartbeats 40000000 in
theorem rm22 (l : Launch) (Z : State) (a0 : Array Value) (hw : ∀ d ∈ tables_1, d.before a0 Z = true) (ws : List Jvm.Cond) (u : Addr) (a : Addr) (k : ClassId) (f : Nat → Int32) (h0 : Heap) (n0 : Nat) (Z0 : n0 ≤ h0.size) (pr0 : Bar Z h0 a k (260 : Int32) f) (pr1 : Exa Z h0 a "[B") (pr2 : ∀ i, ¬ (f i) < (0 : Int32)) (pr3 : Sta Z h0 "sun/nio/cs/UTF_8" "INSTANCE" "Lsun/nio/cs/UTF_8;" (.ref u)) :
    MetFree l (⟨"java/lang/String", "encode", "(Ljava/nio/charset/Charset;B[B)[B"⟩ : MethodName) (head1 (Jvm.Cond.code (⟨"java/lang/String", "encode", "(Ljava/nio/charset/Charset;B[B)[B"⟩ : MethodName) jdk_42_method_18_code 3 (some (.array .byte)) :: ws) ({ frames := 3, cells := 1, slots := 260, locals := 50 } : Room)) (fun aX uX => aX = #[(.ref u), (.int (0 : Int32)), (.ref a)] ∧ Z.Warmed39 uX.vm ∧ uX.heap = h0) (fun _ _ _ _ _ => True) (fun _ uX oX wX => ∃ vX lX, oX = .returned vX ∧ Q22 Z u a k f h0 n0 vX wX.heap lX ∧ FrameEnd uX oX wX lX ({ frames := 3, cells := 1, slots := 260, locals := 50 } : Room).cells ({ frames := 3, cells := 1, slots := 260, locals := 50 } : Room).slots) := by
  refine MetFree.of_bodySF (plainFor_of_name pn_7) hisR ?_
  intro p e s m args below meth c s₁ Bd hml0 hP hK
  obtain ⟨rfl, hZ, hh⟩ := hP
  have hx := Bd.exec
  have hby := Bd.bytes
  have hml : c.maxLocals = 3 := hml0
  have hown : s.vm.findClass "java/lang/String" = some m.cls := findClass_of_methodNamed Bd.named
  have hnm := (name_of_methodNamed Bd.named Bd.method).1
  have X0 : Stand p l e ({ frames := 3, cells := 1, slots := 260, locals := 50 } : Room) s m #[(.ref u), (.int (0 : Int32)), (.ref a)] below meth c s₁ [] 0 0 := Stand.of_body Bd
  have e0 : s₁.heap = h0 := by rw [← hh, Bd.state]; rfl
  have N0 := Fr.nil n0
  let ST : State := (s₁.setTop (entryFrame m #[(.ref u), (.int (0 : Int32)), (.ref a)] 3))
  have pre0 : ∀ t, Steps p.tables e below (s₁.setTop (mkF m 0 #[.val (.ref u), .val (.int (0 : Int32)), .val (.ref a)] [])) t → Steps p.tables e below ST t := fun t k => castTop (ef_22 m u (0 : Int32) a) k
  let LL1 : Array Slot := #[.val (.ref u), .val (.int (0 : Int32)), .val (.ref a)]
  obtain ⟨T2, X2, e2, st2⟩ := getS2 X0 hx hZ hown (host := "") (Or.inl (hw _ (List.mem_of_getElem? (i := 134) rfl))) Via.refl e0 pr3 (g := (mkF m 1 LL1 [(.ref u)])) rfl (hb hby d22_1)
  obtain ⟨_, _, ⟨T3, L3, k3, n3⟩, -, X3, ⟨Lc3, hQ3, l3, y3, z3⟩, st3⟩ := Jvm.LawKit.callS X2 hx (y := (⟨"java/lang/String", "encodeUTF8", "(B[BZ)[B"⟩ : MethodName)) hown (mvT hZ (hw _ (List.mem_of_getElem? (i := 136) rfl))) (mvT hZ (hw _ (List.mem_of_getElem? (i := 137) rfl))) (mvT hZ (hw _ (List.mem_of_getElem? (i := 3) rfl))) (mvT hZ (hw _ (List.mem_of_getElem? (i := 138) rfl))) (by decide) (backOf (W := 0) (rm21 l Z a0 hw [] a k f h0 n0 Z0 pr0 pr1 pr2) hZ (hw _ (List.mem_of_getElem? (i := 138) rfl)) (hw _ (List.mem_of_getElem? (i := 3) rfl)) (by decide) (by decide)) (g := (mkF m 10 LL1 [(.int (1 : Int32)), (.ref a), (.int (0 : Int32))])) rfl (by rw [hml]; rfl) (argsL := [(.int (0 : Int32)), (.ref a), (.int (1 : Int32))]) (rest := []) (lenOf pd_7 rfl) rfl (by show 2 * 0 + _ ≤ _; exact Nat.le_of_eq rfl) (hb hby d22_10) (fun _ _ => ⟨rfl, e2, (by decide : 0 + 1 ≤ _), (by decide : 0 + 260 ≤ _)⟩)
  dsimp only [Pt.U, Pt.locs, Pt.cells, Pt.slots] at X3 l3 y3 z3 st3 hQ3
  subst l3 y3 z3
  obtain ⟨r_3, rfl, Nq3, K3, q3_0, q3_1, q3_2⟩ := hQ3
  have N3 := Fr.app N0 Nq3
  have ne_a_r_3 : a ≠ r_3 := Nat.ne_of_lt (Nat.lt_of_lt_of_le pr0.lt q3_2)
  have ge_r_3 : n0 ≤ r_3 := Nat.le_trans Z0 q3_2
  have sz_r_3 : h0.size ≤ r_3 := Nat.le_trans (Keep.refl h0 []).1 q3_2
  have P4 : ∀ t, Steps p.tables e below (T3.setTop (mkF m 13 LL1 [(.ref r_3)])) t → Steps p.tables e below ST t := by
    intro t kk
    refine pre0 _ ?_
    show Steps p.tables e below (s₁.setTop (mkF m 0 LL1 [])) _
    refine XS.aloadN X0.here hx rfl (hb hby d22_0) rfl rfl ?_
    show Steps p.tables e below (s₁.setTop (mkF m 1 LL1 [(.ref u)])) _
    refine st2 _ ?_
    show Steps p.tables e below (T2.setTop (mkF m 4 LL1 [(.ref u), (.ref u)])) _
    refine Jvm.RoadKit.acmp (g := (mkF m 4 LL1 [(.ref u), (.ref u)])) X2 hx rfl rfl rfl (pc0 := 4) (pc' := 7) (same := true) rfl (hb hby d22_4) rfl (decide_eq_true (congrArg Value.ref rfl)) (by decide) (by decide) ?_
    show Steps p.tables e below (T2.setTop (mkF m 7 LL1 [])) _
    refine XS.iloadN X2.here hx rfl (hb hby d22_7) rfl ?_
    show Steps p.tables e below (T2.setTop (mkF m 8 LL1 [(.int (0 : Int32))])) _
    refine XS.aloadN X2.here hx rfl (hb hby d22_8) rfl rfl ?_
    show Steps p.tables e below (T2.setTop (mkF m 9 LL1 [(.ref a), (.int (0 : Int32))])) _
    refine XS.iconst X2.here hx rfl (hb hby d22_9) ?_
    show Steps p.tables e below (T2.setTop (mkF m 10 LL1 [(.int (1 : Int32)), (.ref a), (.int (0 : Int32))])) _
    refine st3 _ ?_
    show Steps p.tables e below (T3.setTop (mkF m 13 LL1 [(.ref r_3)])) _
    exact kk
  have k5 : Keep h0 T3.heap [] := (Keep.trans (Keep.refl h0 []) K3 all0)
  obtain ⟨fs, hr, hrun, hended, hW, hsame⟩ := X3.leave (v := some (.ref r_3)) (fun h => by rw [Bd.returns] at h; cases h)
  refine ⟨_, _, P4 _ ?_, hrun, hended, _, _, rfl, ?_, ⟨_, rfl⟩, hW, hsame.mono (by decide) (by decide)⟩
  · exact X3.areturnOut hx rfl Bd.returns rfl (hb hby d22_13) hr
  · show Q22 Z u a k f h0 n0 _ T3.heap _
    exact ⟨r_3, rfl, N3, k5, q3_0, q3_1, sz_r_3⟩
theorem d23_0 : decode jdk_42_method_64_code 0 = .ok (.aload_n 1, 1) := by decide +kernel
theorem d23_1 : decode jdk_42_method_64_code 1 = .ok (.ifnonnull 11, 3) := by decide +kernel
theorem d23_12 : decode jdk_42_method_64_code 12 = .ok (.aload_n 1, 1) := by decide +kernel
theorem d23_13 : decode jdk_42_method_64_code 13 = .ok (.aload_n 0, 1) := by decide +kernel
theorem d23_14 : decode jdk_42_method_64_code 14 = .ok (.invokevirtual 335, 3) := by decide +kernel
theorem d23_17 : decode jdk_42_method_64_code 17 = .ok (.aload_n 0, 1) := by decide +kernel
theorem d23_18 : decode jdk_42_method_64_code 18 = .ok (.getfield 9, 3) := by decide +kernel
theorem d23_21 : decode jdk_42_method_64_code 21 = .ok (.invokestatic 535, 3) := by decide +kernel
theorem d23_24 : decode jdk_42_method_64_code 24 = .ok (.areturn, 1) := by decide +kernel
theorem ef_23 (m : MethodId) (x0 : Addr) (x1 : Addr) : entryFrame m #[(.ref x0), (.ref x1)] 2 = (mkF m 0 #[.val (.ref x0), .val (.ref x1)] []) := by first | (simp [entryFrame, mkF, argsToLocals, Value.category]; done) | rfl
def Q23 (Z : State) (a : Addr) (u : Addr) (b : Addr) (k : ClassId) (f : Nat → Int32) (cs : Int32) (h0 : Heap) (n0 : Nat) (vX : Option Value) (hX : Heap) (lX : List Loc) : Prop := ∃ (r : Addr), vX = some (.ref r) ∧ Fr n0 lX ∧ (Keep h0 hX []) ∧ (Bar Z hX r k (260 : Int32) f) ∧ (Exa Z hX r "[B") ∧ (h0.size ≤ r)
set_option maxRecDepth 65536 in
set_option maxHeartbeats 40000000 in
theorem rm23 (l : Launch) (Z : State) (a0 : Array Value) (hw : ∀ d ∈ tables_1, d.before a0 Z = true) (ws : List Jvm.Cond) (a : Addr) (u : Addr) (b : Addr) (k : ClassId) (f : Nat → Int32) (cs : Int32) (h0 : Heap) (n0 : Nat) (Z0 : n0 ≤ h0.size) (pr0 : Exa Z h0 a "java/lang/String") (pr1 : Sta Z h0 "java/lang/String" "COMPACT_STRINGS" "Z" (.int cs)) (pr2 : ¬ cs = (0 : Int32)) (pr3 : Fld Z h0 a "java/lang/String" "coder" "B" (.int (0 : Int32))) (pr4 : Fld Z h0 a "java/lang/String" "value" "[B" (.ref b)) (pr5 : Bar Z h0 b k (260 : Int32) f) (pr6 : Exa Z h0 b "[B") (pr7 : ∀ i, ¬ (f i) < (0 : Int32)) (pr8 : Sta Z h0 "sun/nio/cs/UTF_8" "INSTANCE" "Lsun/nio/cs/UTF_8;" (.ref u)) :
    MetFree l (⟨"java/lang/String", "getBytes", "(Ljava/nio/charset/Charset;)[B"⟩ : MethodName) (head1 (Jvm.Cond.code (⟨"java/lang/String", "getBytes", "(Ljava/nio/charset/Charset;)[B"⟩ : MethodName) jdk_42_method_64_code 2 (some (.array .byte)) :: ws) ({ frames := 4, cells := 1, slots := 260, locals := 64 } : Room)) (fun aX uX => aX = #[(.ref a), (.ref u)] ∧ Z.Warmed39 uX.vm ∧ uX.heap = h0) (fun _ _ _ _ _ => True) (fun _ uX oX wX => ∃ vX lX, oX = .returned vX ∧ Q23 Z a u b k f cs h0 n0 vX wX.heap lX ∧ FrameEnd uX oX wX lX ({ frames := 4, cells := 1, slots := 260, locals := 64 } : Room).cells ({ frames := 4, cells := 1, slots := 260, locals := 64 } : Room).slots) := by
  refine MetFree.of_bodySF (plainFor_of_name pn_7) hisR ?_
  intro p e s m args below meth c s₁ Bd hml0 hP hK
  obtain ⟨rfl, hZ, hh⟩ := hP
  have hx := Bd.exec
  have hby := Bd.bytes
  have hml : c.maxLocals = 2 := hml0
  have hown : s.vm.findClass "java/lang/String" = some m.cls := findClass_of_methodNamed Bd.named
  have hnm := (name_of_methodNamed Bd.named Bd.method).1
  have X0 : Stand p l e ({ frames := 4, cells := 1, slots := 260, locals := 64 } : Room) s m #[(.ref a), (.ref u)] below meth c s₁ [] 0 0 := Stand.of_body Bd
  have e0 : s₁.heap = h0 := by rw [← hh, Bd.state]; rfl
  have N0 := Fr.nil n0
  let ST : State := (s₁.setTop (entryFrame m #[(.ref a), (.ref u)] 2))
  have pre0 : ∀ t, Steps p.tables e below (s₁.setTop (mkF m 0 #[.val (.ref a), .val (.ref u)] [])) t → Steps p.tables e below ST t := fun t k => castTop (ef_23 m a u) k
  let LL1 : Array Slot := #[.val (.ref a), .val (.ref u)]
  obtain ⟨cq2, kq2, q2a, q2b, q2c⟩ := isOf hZ e0 pr0
  obtain ⟨_, _, ⟨T2, L2, k2, n2⟩, -, X2, ⟨Lc2, hQ2, l2, y2, z2⟩, st2⟩ := X0.virtualBack hx (y := (⟨"java/lang/String", "coder", "()B"⟩ : MethodName)) (z := (⟨"java/lang/String", "coder", "()B"⟩ : MethodName)) hown (mvT hZ (hw _ (List.mem_of_getElem? (i := 126) rfl))) (mvT hZ (hw _ (List.mem_of_getElem? (i := 127) rfl))) (notFace_of_selects (args := #[]) (mvT hZ (hw _ (List.mem_of_getElem? (i := 129) rfl)))) (mvT hZ (hw _ (List.mem_of_getElem? (i := 129) rfl))) (mvT hZ (hw _ (List.mem_of_getElem? (i := 128) rfl))) (by decide) (backOf (W := 1) (rm19 l Z a0 hw [] a cs h0 n0 Z0 pr1 pr2 pr3) hZ (hw _ (List.mem_of_getElem? (i := 130) rfl)) (hw _ (List.mem_of_getElem? (i := 3) rfl)) (by decide) (by decide)) q2a q2c (g := (mkF m 14 LL1 [(.ref a), (.ref u)])) rfl (by rw [hml]; rfl) (Steps.refl _) (argsL := []) (rest := [(.ref u)]) (lenOf pd_8 rfl) rfl (by show 2 * 0 + _ ≤ _; exact Nat.le_of_eq rfl) (hb hby d23_14) (fun _ _ => ⟨rfl, e0, (by decide : 0 + 0 ≤ _), (by decide : 0 + 0 ≤ _)⟩)
  dsimp only [Pt.U, Pt.locs, Pt.cells, Pt.slots] at X2 l2 y2 z2 st2 hQ2
  subst l2 y2 z2
  obtain ⟨rfl, Nq2, e2⟩ := hQ2
  have N2 := Fr.app N0 Nq2
  obtain ⟨T3, X3, e3, st3⟩ := getF X2 hx hZ hown (host := "") (Or.inl (hw _ (List.mem_of_getElem? (i := 28) rfl))) Via.refl e2 pr4 (g := (mkF m 18 LL1 [(.ref a), (.int (0 : Int32)), (.ref u)])) rfl rfl (hb hby d23_18)
  obtain ⟨_, _, ⟨T4, L4, k4, n4⟩, -, X4, ⟨Lc4, hQ4, l4, y4, z4⟩, st4⟩ := Jvm.LawKit.callS X3 hx (y := (⟨"java/lang/String", "encode", "(Ljava/nio/charset/Charset;B[B)[B"⟩ : MethodName)) hown (mvT hZ (hw _ (List.mem_of_getElem? (i := 131) rfl))) (mvT hZ (hw _ (List.mem_of_getElem? (i := 132) rfl))) (mvT hZ (hw _ (List.mem_of_getElem? (i := 3) rfl))) (mvT hZ (hw _ (List.mem_of_getElem? (i := 133) rfl))) (by decide) (backOf (W := 0) (rm22 l Z a0 hw [] u b k f h0 n0 Z0 pr5 pr6 pr7 pr8) hZ (hw _ (List.mem_of_getElem? (i := 133) rfl)) (hw _ (List.mem_of_getElem? (i := 3) rfl)) (by decide) (by decide)) (g := (mkF m 21 LL1 [(.ref b), (.int (0 : Int32)), (.ref u)])) rfl (by rw [hml]; rfl) (argsL := [(.ref u), (.int (0 : Int32)), (.ref b)]) (rest := []) (lenOf pd_9 rfl) rfl (by show 2 * 0 + _ ≤ _; exact Nat.le_of_eq rfl) (hb hby d23_21) (fun _ _ => ⟨rfl, e3, (by decide : 0 + 1 ≤ _), (by decide : 0 + 260 ≤ _)⟩)
  dsimp only [Pt.U, Pt.locs, Pt.cells, Pt.slots] at X4 l4 y4 z4 st4 hQ4
  subst l4 y4 z4
  obtain ⟨r_4, rfl, Nq4, K4, q4_0, q4_1, q4_2⟩ := hQ4
  have N4 := Fr.app N2 Nq4
  have ne_a_r_4 : a ≠ r_4 := Nat.ne_of_lt (Nat.lt_of_lt_of_le pr0.lt q4_2)
  have ne_b_r_4 : b ≠ r_4 := Nat.ne_of_lt (Nat.lt_of_lt_of_le pr5.lt q4_2)
  have ge_r_4 : n0 ≤ r_4 := Nat.le_trans Z0 q4_2
  have sz_r_4 : h0.size ≤ r_4 := Nat.le_trans (Keep.refl h0 []).1 q4_2
  have P5 : ∀ t, Steps p.tables e below (T4.setTop (mkF m 24 LL1 [(.ref r_4)])) t → Steps p.tables e below ST t := by
    intro t kk
    refine pre0 _ ?_
    show Steps p.tables e below (s₁.setTop (mkF m 0 LL1 [])) _
    refine XS.aloadN X0.here hx rfl (hb hby d23_0) rfl rfl ?_
    show Steps p.tables e below (s₁.setTop (mkF m 1 LL1 [(.ref u)])) _
    refine XS.ifnonnullYes X0.here hx rfl (pc0 := 1) (pc' := 12) rfl (hb hby d23_1) rfl (by decide) (by decide) ?_
    show Steps p.tables e below (s₁.setTop (mkF m 12 LL1 [])) _
    refine XS.aloadN X0.here hx rfl (hb hby d23_12) rfl rfl ?_
    show Steps p.tables e below (s₁.setTop (mkF m 13 LL1 [(.ref u)])) _
    refine XS.aloadN X0.here hx rfl (hb hby d23_13) rfl rfl ?_
    show Steps p.tables e below (s₁.setTop (mkF m 14 LL1 [(.ref a), (.ref u)])) _
    refine st2.trans ?_
    show Steps p.tables e below (T2.setTop (mkF m 17 LL1 [(.int (nar .byte (0 : Int32))), (.ref u)])) _
    rw [show (nar .byte (0 : Int32)) = (0 : Int32) from by decide]
    show Steps p.tables e below (T2.setTop (mkF m 17 LL1 [(.int (0 : Int32)), (.ref u)])) _
    refine XS.aloadN X2.here hx rfl (hb hby d23_17) rfl rfl ?_
    show Steps p.tables e below (T2.setTop (mkF m 18 LL1 [(.ref a), (.int (0 : Int32)), (.ref u)])) _
    refine st3 _ ?_
    show Steps p.tables e below (T3.setTop (mkF m 21 LL1 [(.ref b), (.int (0 : Int32)), (.ref u)])) _
    refine st4 _ ?_
    show Steps p.tables e below (T4.setTop (mkF m 24 LL1 [(.ref r_4)])) _
    exact kk
  have k6 : Keep h0 T4.heap [] := (Keep.trans (Keep.refl h0 []) K4 all0)
  obtain ⟨fs, hr, hrun, hended, hW, hsame⟩ := X4.leave (v := some (.ref r_4)) (fun h => by rw [Bd.returns] at h; cases h)
  refine ⟨_, _, P5 _ ?_, hrun, hended, _, _, rfl, ?_, ⟨_, rfl⟩, hW, hsame.mono (by decide) (by decide)⟩
  · exact X4.areturnOut hx rfl Bd.returns rfl (hb hby d23_24) hr
  · show Q23 Z a u b k f cs h0 n0 _ T4.heap _
    exact ⟨r_4, rfl, N4, k6, q4_0, q4_1, sz_r_4⟩
theorem own_512 {Z : State} {h : Heap} {a : Addr} {k : ClassId} {f : Nat → Int32} (F : Bar Z h a k (F1 (512 : Int32) (263 : Int32)) (own_cp (256 : Int32) (F1 (512 : Int32) (263 : Int32)) f)) : Bar Z h a k (512 : Int32) (own_cp (256 : Int32) (512 : Int32) f) := by
  have e : F1 (512 : Int32) (263 : Int32) = (512 : Int32) := by decide
  rw [e] at F
  exact F
theorem d24_0 : decode prog_25_method_9_code 0 = .ok (.aload_n 0, 1) := by decide +kernel
theorem d24_1 : decode prog_25_method_9_code 1 = .ok (.getfield 7, 3) := by decide +kernel
theorem d24_4 : decode prog_25_method_9_code 4 = .ok (.arraylength, 1) := by decide +kernel
theorem d24_5 : decode prog_25_method_9_code 5 = .ok (.aload_n 0, 1) := by decide +kernel
theorem d24_6 : decode prog_25_method_9_code 6 = .ok (.getfield 24, 3) := by decide +kernel
theorem d24_9 : decode prog_25_method_9_code 9 = .ok (.isub, 1) := by decide +kernel
theorem d24_10 : decode prog_25_method_9_code 10 = .ok (.iload_n 1, 1) := by decide +kernel
theorem d24_11 : decode prog_25_method_9_code 11 = .ok (.if_icmp .ge 30, 3) := by decide +kernel
theorem d24_14 : decode prog_25_method_9_code 14 = .ok (.aload_n 0, 1) := by decide +kernel
theorem d24_15 : decode prog_25_method_9_code 15 = .ok (.aload_n 0, 1) := by decide +kernel
theorem d24_16 : decode prog_25_method_9_code 16 = .ok (.getfield 7, 3) := by decide +kernel
theorem d24_19 : decode prog_25_method_9_code 19 = .ok (.iconst 2, 1) := by decide +kernel
theorem d24_20 : decode prog_25_method_9_code 20 = .ok (.aload_n 0, 1) := by decide +kernel
theorem d24_21 : decode prog_25_method_9_code 21 = .ok (.getfield 7, 3) := by decide +kernel
theorem d24_24 : decode prog_25_method_9_code 24 = .ok (.arraylength, 1) := by decide +kernel
theorem d24_25 : decode prog_25_method_9_code 25 = .ok (.imul, 1) := by decide +kernel
theorem d24_26 : decode prog_25_method_9_code 26 = .ok (.aload_n 0, 1) := by decide +kernel
theorem d24_27 : decode prog_25_method_9_code 27 = .ok (.getfield 24, 3) := by decide +kernel
theorem d24_30 : decode prog_25_method_9_code 30 = .ok (.iload_n 1, 1) := by decide +kernel
theorem d24_31 : decode prog_25_method_9_code 31 = .ok (.iadd, 1) := by decide +kernel
theorem d24_32 : decode prog_25_method_9_code 32 = .ok (.invokestatic 104, 3) := by decide +kernel
theorem d24_35 : decode prog_25_method_9_code 35 = .ok (.invokestatic 98, 3) := by decide +kernel
theorem d24_38 : decode prog_25_method_9_code 38 = .ok (.putfield 7, 3) := by decide +kernel
theorem d24_41 : decode prog_25_method_9_code 41 = .ok (.return_, 1) := by decide +kernel
theorem ef_24 (m : MethodId) (x0 : Addr) (x1 : Int32) : entryFrame m #[(.ref x0), (.int x1)] 2 = (mkF m 0 #[.val (.ref x0), .val (.int x1)] []) := by first | (simp [entryFrame, mkF, argsToLocals, Value.category]; done) | rfl
def Q24 (Z : State) (a : Addr) (b : Addr) (k : ClassId) (f : Nat → Int32) (tm : Addr) (h0 : Heap) (n0 : Nat) (vX : Option Value) (hX : Heap) (lX : List Loc) : Prop := ∃ (r : Addr) (kr : ClassId), vX = none ∧ Fr n0 lX ∧ (Keep h0 hX [a]) ∧ (Fld Z hX a "com/example/meterwright/meterwright/RecordBody$Writer" "bytes" "[B" (.ref r)) ∧ (Fld Z hX a "com/example/meterwright/meterwright/RecordBody$Writer" "size" "I" (.int (3 : Int32))) ∧ (Bar Z hX r kr (512 : Int32) (own_cp (256 : Int32) (512 : Int32) f)) ∧ (h0.size ≤ r) ∧ (Fld Z hX a "com/example/meterwright/meterwright/RecordBody$Writer" "texts" "Ljava/util/Map;" (.ref tm))
set_option maxRecDepth 65536 in
set_option maxHeartbeats 40000000 in
theorem rm24 (l : Launch) (Z : State) (a0 : Array Value) (hw : ∀ d ∈ tables_1, d.before a0 Z = true) (ws : List Jvm.Cond) (a : Addr) (b : Addr) (k : ClassId) (f : Nat → Int32) (tm : Addr) (h0 : Heap) (n0 : Nat) (Z0 : n0 ≤ h0.size) (pr0 : Exa Z h0 a "com/example/meterwright/meterwright/RecordBody$Writer") (pr1 : Fld Z h0 a "com/example/meterwright/meterwright/RecordBody$Writer" "bytes" "[B" (.ref b)) (pr2 : Fld Z h0 a "com/example/meterwright/meterwright/RecordBody$Writer" "size" "I" (.int (3 : Int32))) (pr3 : Bar Z h0 b k (256 : Int32) f) (pr4 : n0 ≤ a) (pr5 : Fld Z h0 a "com/example/meterwright/meterwright/RecordBody$Writer" "texts" "Ljava/util/Map;" (.ref tm)) :
    MetFree l (⟨"com/example/meterwright/meterwright/RecordBody$Writer", "room", "(I)V"⟩ : MethodName) (head1 (Jvm.Cond.code (⟨"com/example/meterwright/meterwright/RecordBody$Writer", "room", "(I)V"⟩ : MethodName) prog_25_method_9_code 2 none :: ws) ({ frames := 2, cells := 1, slots := 600, locals := 33 } : Room)) (fun aX uX => aX = #[(.ref a), (.int (260 : Int32))] ∧ Z.Warmed39 uX.vm ∧ uX.heap = h0) (fun _ _ _ _ _ => True) (fun _ uX oX wX => ∃ vX lX, oX = .returned vX ∧ Q24 Z a b k f tm h0 n0 vX wX.heap lX ∧ FrameEnd uX oX wX lX ({ frames := 2, cells := 1, slots := 600, locals := 33 } : Room).cells ({ frames := 2, cells := 1, slots := 600, locals := 33 } : Room).slots) := by
  refine MetFree.of_bodySF (plainFor_of_name pn_3) hisR ?_
  intro p e s m args below meth c s₁ Bd hml0 hP hK
  obtain ⟨rfl, hZ, hh⟩ := hP
  have hx := Bd.exec
  have hby := Bd.bytes
  have hml : c.maxLocals = 2 := hml0
  have hown : s.vm.findClass "com/example/meterwright/meterwright/RecordBody$Writer" = some m.cls := findClass_of_methodNamed Bd.named
  have hnm := (name_of_methodNamed Bd.named Bd.method).1
  have X0 : Stand p l e ({ frames := 2, cells := 1, slots := 600, locals := 33 } : Room) s m #[(.ref a), (.int (260 : Int32))] below meth c s₁ [] 0 0 := Stand.of_body Bd
  have e0 : s₁.heap = h0 := by rw [← hh, Bd.state]; rfl
  have N0 := Fr.nil n0
  let ST : State := (s₁.setTop (entryFrame m #[(.ref a), (.int (260 : Int32))] 2))
  have pre0 : ∀ t, Steps p.tables e below (s₁.setTop (mkF m 0 #[.val (.ref a), .val (.int (260 : Int32))] [])) t → Steps p.tables e below ST t := fun t k => castTop (ef_24 m a (260 : Int32)) k
  let LL1 : Array Slot := #[.val (.ref a), .val (.int (260 : Int32))]
  obtain ⟨T2, X2, e2, st2⟩ := getF X0 hx hZ hown (host := "") (Or.inl (hw _ (List.mem_of_getElem? (i := 38) rfl))) Via.refl e0 pr1 (g := (mkF m 1 LL1 [(.ref a)])) rfl rfl (hb hby d24_1)
  obtain ⟨cl_a3, Ar_a3, q_a3, S_a3, N_a3, H_a3⟩ := id pr3
  obtain ⟨T4, X4, e4, st4⟩ := getF X2 hx hZ hown (host := "") (Or.inl (hw _ (List.mem_of_getElem? (i := 62) rfl))) Via.refl e2 pr2 (g := (mkF m 6 LL1 [(.ref a), (.int (256 : Int32))])) rfl rfl (hb hby d24_6)
  obtain ⟨T5, X5, e5, st5⟩ := getF X4 hx hZ hown (host := "") (Or.inl (hw _ (List.mem_of_getElem? (i := 38) rfl))) Via.refl e4 pr1 (g := (mkF m 16 LL1 [(.ref a), (.ref a)])) rfl rfl (hb hby d24_16)
  obtain ⟨T6, X6, e6, st6⟩ := getF X5 hx hZ hown (host := "") (Or.inl (hw _ (List.mem_of_getElem? (i := 38) rfl))) Via.refl e5 pr1 (g := (mkF m 21 LL1 [(.ref a), (.int (2 : Int32)), (.ref b), (.ref a)])) rfl rfl (hb hby d24_21)
  obtain ⟨cl_a7, Ar_a7, q_a7, S_a7, N_a7, H_a7⟩ := id pr3
  obtain ⟨T8, X8, e8, st8⟩ := getF X6 hx hZ hown (host := "") (Or.inl (hw _ (List.mem_of_getElem? (i := 62) rfl))) Via.refl e6 pr2 (g := (mkF m 27 LL1 [(.ref a), (.int (512 : Int32)), (.ref b), (.ref a)])) rfl rfl (hb hby d24_27)
  obtain ⟨_, _, ⟨T9, L9, k9, n9⟩, -, X9, ⟨Lc9, hQ9, l9, y9, z9⟩, st9⟩ := Jvm.LawKit.callS X8 hx (y := (⟨"java/lang/Math", "max", "(II)I"⟩ : MethodName)) hown (mvT hZ (hw _ (List.mem_of_getElem? (i := 252) rfl))) (mvT hZ (hw _ (List.mem_of_getElem? (i := 253) rfl))) (mvT hZ (hw _ (List.mem_of_getElem? (i := 75) rfl))) (mvT hZ (hw _ (List.mem_of_getElem? (i := 254) rfl))) (by decide) (backOf (W := 2) (rm1 l Z a0 hw [] (512 : Int32) (263 : Int32) h0 n0 Z0 ) hZ (hw _ (List.mem_of_getElem? (i := 254) rfl)) (hw _ (List.mem_of_getElem? (i := 75) rfl)) (by decide) (by decide)) (g := (mkF m 32 LL1 [(.int (263 : Int32)), (.int (512 : Int32)), (.ref b), (.ref a)])) rfl (by rw [hml]; rfl) (argsL := [(.int (512 : Int32)), (.int (263 : Int32))]) (rest := [(.ref b), (.ref a)]) (lenOf pd_0 rfl) rfl (by show 2 * 0 + _ ≤ _; exact Nat.le_of_eq rfl) (hb hby d24_32) (fun _ _ => ⟨rfl, e8, (by decide : 0 + 0 ≤ _), (by decide : 0 + 0 ≤ _)⟩)
  dsimp only [Pt.U, Pt.locs, Pt.cells, Pt.slots] at X9 l9 y9 z9 st9 hQ9
  subst l9 y9 z9
  obtain ⟨rfl, Nq9, e9⟩ := hQ9
  have N9 := Fr.app N0 Nq9
  obtain ⟨_, _, ⟨T10, L10, k10, n10⟩, -, X10, ⟨Lc10, hQ10, l10, y10, z10⟩, st10⟩ := Jvm.LawKit.callS X9 hx (y := (⟨"java/util/Arrays", "copyOf", "([BI)[B"⟩ : MethodName)) hown (mvT hZ (hw _ (List.mem_of_getElem? (i := 69) rfl))) (mvT hZ (hw _ (List.mem_of_getElem? (i := 70) rfl))) (mvT hZ (hw _ (List.mem_of_getElem? (i := 71) rfl))) (mvT hZ (hw _ (List.mem_of_getElem? (i := 72) rfl))) (by decide) (backOf (W := 1) (rm3 l Z a0 hw [] b (F1 (512 : Int32) (263 : Int32)) k (256 : Int32) f h0 n0 Z0 pr3 (by decide) (by decide) (by decide)) hZ (hw _ (List.mem_of_getElem? (i := 72) rfl)) (hw _ (List.mem_of_getElem? (i := 71) rfl)) (by decide) (by decide)) (g := (mkF m 35 LL1 [(.int (F1 (512 : Int32) (263 : Int32))), (.ref b), (.ref a)])) rfl (by rw [hml]; rfl) (argsL := [(.ref b), (.int (F1 (512 : Int32) (263 : Int32)))]) (rest := [(.ref a)]) (lenOf pd_4 rfl) rfl (by show 2 * 0 + _ ≤ _; exact Nat.le_of_eq rfl) (hb hby d24_35) (fun _ _ => ⟨rfl, e9, (by decide : 0 + 1 ≤ _), (by decide : 0 + 600 ≤ _)⟩)
  dsimp only [Pt.U, Pt.locs, Pt.cells, Pt.slots] at X10 l10 y10 z10 st10 hQ10
  subst l10 y10 z10
  obtain ⟨r_10, kr_10, rfl, Nq10, K10, q10_0, q10_1⟩ := hQ10
  have N10 := Fr.app N9 Nq10
  have ne_a_r_10 : a ≠ r_10 := Nat.ne_of_lt (Nat.lt_of_lt_of_le pr0.lt q10_1)
  have ne_b_r_10 : b ≠ r_10 := Nat.ne_of_lt (Nat.lt_of_lt_of_le pr3.lt q10_1)
  have ge_r_10 : n0 ≤ r_10 := Nat.le_trans Z0 q10_1
  have sz_r_10 : h0.size ≤ r_10 := Nat.le_trans (Keep.refl h0 [a]).1 q10_1
  have f11 := (Exa.keep pr0 K10)
  have f12 := (Fld.keep pr1 K10 nin0)
  obtain ⟨T13, h13, X13, e13, W13, st13⟩ := putF X10 hx hZ hown (host := "") (Or.inl (hw _ (List.mem_of_getElem? (i := 38) rfl))) Via.refl rfl f12 f11 (Or.inl (hw _ (List.mem_of_getElem? (i := 39) rfl))) (hw _ (List.mem_of_getElem? (i := 32) rfl)) (ty := (.array .byte)) (by decide) rfl rfl (g := (mkF m 38 LL1 [(.ref r_10), (.ref a)])) rfl rfl (hb hby d24_38)
  have N13 := Fr.snoc X13 N10 pr4
  have Fw13 := Fld.same W13 f12
  have P14 : ∀ t, Steps p.tables e below (T13.setTop (mkF m 41 LL1 [])) t → Steps p.tables e below ST t := by
    intro t kk
    refine pre0 _ ?_
    show Steps p.tables e below (s₁.setTop (mkF m 0 LL1 [])) _
    refine XS.aloadN X0.here hx rfl (hb hby d24_0) rfl rfl ?_
    show Steps p.tables e below (s₁.setTop (mkF m 1 LL1 [(.ref a)])) _
    refine st2 _ ?_
    show Steps p.tables e below (T2.setTop (mkF m 4 LL1 [(.ref b)])) _
    refine X2.arraylength hx (by rw [e2]; exact Ar_a3.1) (State.isArrayOf_alike hZ.alike Ar_a3.2.1) (g := (mkF m 4 LL1 [(.ref b)])) rfl rfl (hb hby d24_4) _ ?_
    rw [len_of S_a3 N_a3]
    show Steps p.tables e below (T2.setTop (mkF m 5 LL1 [(.int (256 : Int32))])) _
    refine XS.aloadN X2.here hx rfl (hb hby d24_5) rfl rfl ?_
    show Steps p.tables e below (T2.setTop (mkF m 6 LL1 [(.ref a), (.int (256 : Int32))])) _
    refine st4 _ ?_
    show Steps p.tables e below (T4.setTop (mkF m 9 LL1 [(.int (3 : Int32)), (.int (256 : Int32))])) _
    refine XS.isub X4.here hx rfl (hb hby d24_9) rfl ?_
    show Steps p.tables e below (T4.setTop (mkF m 10 LL1 [(.int (253 : Int32))])) _
    refine XS.iloadN X4.here hx rfl (hb hby d24_10) rfl ?_
    show Steps p.tables e below (T4.setTop (mkF m 11 LL1 [(.int (260 : Int32)), (.int (253 : Int32))])) _
    refine XS.icmpNo X4.here hx rfl (hb hby d24_11) rfl (XT.ii_ge_f (by decide)) ?_
    show Steps p.tables e below (T4.setTop (mkF m 14 LL1 [])) _
    refine XS.aloadN X4.here hx rfl (hb hby d24_14) rfl rfl ?_
    show Steps p.tables e below (T4.setTop (mkF m 15 LL1 [(.ref a)])) _
    refine XS.aloadN X4.here hx rfl (hb hby d24_15) rfl rfl ?_
    show Steps p.tables e below (T4.setTop (mkF m 16 LL1 [(.ref a), (.ref a)])) _
    refine st5 _ ?_
    show Steps p.tables e below (T5.setTop (mkF m 19 LL1 [(.ref b), (.ref a)])) _
    refine XS.iconst X5.here hx rfl (hb hby d24_19) ?_
    show Steps p.tables e below (T5.setTop (mkF m 20 LL1 [(.int (2 : Int32)), (.ref b), (.ref a)])) _
    refine XS.aloadN X5.here hx rfl (hb hby d24_20) rfl rfl ?_
    show Steps p.tables e below (T5.setTop (mkF m 21 LL1 [(.ref a), (.int (2 : Int32)), (.ref b), (.ref a)])) _
    refine st6 _ ?_
    show Steps p.tables e below (T6.setTop (mkF m 24 LL1 [(.ref b), (.int (2 : Int32)), (.ref b), (.ref a)])) _
    refine X6.arraylength hx (by rw [e6]; exact Ar_a7.1) (State.isArrayOf_alike hZ.alike Ar_a7.2.1) (g := (mkF m 24 LL1 [(.ref b), (.int (2 : Int32)), (.ref b), (.ref a)])) rfl rfl (hb hby d24_24) _ ?_
    rw [len_of S_a7 N_a7]
    show Steps p.tables e below (T6.setTop (mkF m 25 LL1 [(.int (256 : Int32)), (.int (2 : Int32)), (.ref b), (.ref a)])) _
    refine XS.imul X6.here hx rfl (hb hby d24_25) rfl ?_
    show Steps p.tables e below (T6.setTop (mkF m 26 LL1 [(.int (512 : Int32)), (.ref b), (.ref a)])) _
    refine XS.aloadN X6.here hx rfl (hb hby d24_26) rfl rfl ?_
    show Steps p.tables e below (T6.setTop (mkF m 27 LL1 [(.ref a), (.int (512 : Int32)), (.ref b), (.ref a)])) _
    refine st8 _ ?_
    show Steps p.tables e below (T8.setTop (mkF m 30 LL1 [(.int (3 : Int32)), (.int (512 : Int32)), (.ref b), (.ref a)])) _
    refine XS.iloadN X8.here hx rfl (hb hby d24_30) rfl ?_
    show Steps p.tables e below (T8.setTop (mkF m 31 LL1 [(.int (260 : Int32)), (.int (3 : Int32)), (.int (512 : Int32)), (.ref b), (.ref a)])) _
    refine XS.iadd X8.here hx rfl (hb hby d24_31) rfl ?_
    show Steps p.tables e below (T8.setTop (mkF m 32 LL1 [(.int (263 : Int32)), (.int (512 : Int32)), (.ref b), (.ref a)])) _
    refine st9 _ ?_
    show Steps p.tables e below (T9.setTop (mkF m 35 LL1 [(.int (F1 (512 : Int32) (263 : Int32))), (.ref b), (.ref a)])) _
    refine st10 _ ?_
    show Steps p.tables e below (T10.setTop (mkF m 38 LL1 [(.ref r_10), (.ref a)])) _
    refine st13 _ ?_
    show Steps p.tables e below (T13.setTop (mkF m 41 LL1 [])) _
    exact kk
  have k15 : Keep h0 h13 [a] := (Keep.wr (Keep.trans (Keep.refl h0 [a]) K10 all0) W13 (Or.inl (List.mem_of_getElem? (i := 0) rfl)))
  have f16 := (Fld.other W13 (Fld.keep pr2 K10 nin0) (Or.inr (slot_ne (Or.inl (hw _ (List.mem_of_getElem? (i := 63) rfl))) (Or.inl (hw _ (List.mem_of_getElem? (i := 39) rfl))) (by decide) (t := .int) (t' := (.array .byte)) (by decide) (by decide))))
  have f17 := (Bar.other q10_0 W13 (Ne.symm ne_a_r_10))
  have f18 := (Fld.other W13 (Fld.keep pr5 K10 nin0) (Or.inr (slot_ne (Or.inr (hw _ (List.mem_of_getElem? (i := 57) rfl))) (Or.inl (hw _ (List.mem_of_getElem? (i := 39) rfl))) (by decide) (t := (.object "java/util/Map")) (t' := (.array .byte)) (by decide) (by decide))))
  obtain ⟨fs, hr, hrun, hended, hW, hsame⟩ := X13.leave (v := none) (fun _ => rfl)
  refine ⟨_, _, P14 _ ?_, hrun, hended, _, _, rfl, ?_, ⟨_, rfl⟩, hW, hsame.mono (by decide) (by decide)⟩
  · exact X13.returnOut hx Bd.returns (hb hby d24_41) hr
  · show Q24 Z a b k f tm h0 n0 _ T13.heap _
    rw [e13]
    exact ⟨r_10, kr_10, rfl, N13, k15, Fw13, f16, (own_512 f17), sz_r_10, f18⟩
theorem d25_0 : decode jdk_48_method_4_code 0 = .ok (.iload 4, 2) := by decide +kernel
theorem d25_2 : decode jdk_48_method_4_code 2 = .ok (.tableswitch 127 4 10 #[42, 55, 127, 127, 88, 101, 114], 42) := by decide +kernel
theorem d25_44 : decode jdk_48_method_4_code 44 = .ok (.iload_n 3, 1) := by decide +kernel
theorem d25_45 : decode jdk_48_method_4_code 45 = .ok (.aload_n 0, 1) := by decide +kernel
theorem d25_46 : decode jdk_48_method_4_code 46 = .ok (.checkcast 60, 3) := by decide +kernel
theorem d25_49 : decode jdk_48_method_4_code 49 = .ok (.iload_n 1, 1) := by decide +kernel
theorem d25_50 : decode jdk_48_method_4_code 50 = .ok (.iload_n 2, 1) := by decide +kernel
theorem d25_51 : decode jdk_48_method_4_code 51 = .ok (.invokestatic 62, 3) := by decide +kernel
theorem d25_54 : decode jdk_48_method_4_code 54 = .ok (.goto 103, 3) := by decide +kernel
theorem d25_157 : decode jdk_48_method_4_code 157 = .ok (.ireturn, 1) := by decide +kernel
theorem ef_25 (m : MethodId) (x0 : Addr) (x1 : Int32) (x2 : Int32) (x3 : Int32) (x4 : Int32) : entryFrame m #[(.ref x0), (.int x1), (.int x2), (.int x3), (.int x4)] 5 = (mkF m 0 #[.val (.ref x0), .val (.int x1), .val (.int x2), .val (.int x3), .val (.int x4)] []) := by first | (simp [entryFrame, mkF, argsToLocals, Value.category]; done) | rfl
def Q25 (Z : State) (a : Addr) (k : ClassId) (f : Nat → Int32) (h0 : Heap) (n0 : Nat) (vX : Option Value) (hX : Heap) (lX : List Loc) : Prop := ∃ (hv : Int32), vX = some (.int hv) ∧ Fr n0 lX ∧ (hX = h0)
set_option maxRecDepth 65536 in
set_option maxHeartbeats 40000000 in
theorem rm25 (l : Launch) (Z : State) (a0 : Array Value) (hw : ∀ d ∈ tables_1, d.before a0 Z = true) (ws : List Jvm.Cond) (a : Addr) (k : ClassId) (f : Nat → Int32) (h0 : Heap) (n0 : Nat) (Z0 : n0 ≤ h0.size) (pr0 : Bar Z h0 a k (260 : Int32) f) (pr1 : Exa Z h0 a "[B") :
    MetFree l (⟨"jdk/internal/util/ArraysSupport", "vectorizedHashCode", "(Ljava/lang/Object;IIII)I"⟩ : MethodName) (head1 (Jvm.Cond.code (⟨"jdk/internal/util/ArraysSupport", "vectorizedHashCode", "(Ljava/lang/Object;IIII)I"⟩ : MethodName) jdk_48_method_4_code 5 (some .int) :: ws) ({ frames := 1, cells := 0, slots := 0, locals := 17 } : Room)) (fun aX uX => aX = #[(.ref a), (.int (0 : Int32)), (.int (260 : Int32)), (.int (0 : Int32)), (.int (4 : Int32))] ∧ Z.Warmed39 uX.vm ∧ uX.heap = h0) (fun _ _ _ _ _ => True) (fun _ uX oX wX => ∃ vX lX, oX = .returned vX ∧ Q25 Z a k f h0 n0 vX wX.heap lX ∧ FrameEnd uX oX wX lX ({ frames := 1, cells := 0, slots := 0, locals := 17 } : Room).cells ({ frames := 1, cells := 0, slots := 0, locals := 17 } : Room).slots) := by
  refine MetFree.of_bodySF (plainFor_of_name pn_5) hisR ?_
  intro p e s m args below meth c s₁ Bd hml0 hP hK
  obtain ⟨rfl, hZ, hh⟩ := hP
  have hx := Bd.exec
  have hby := Bd.bytes
  have hml : c.maxLocals = 5 := hml0
  have hown : s.vm.findClass "jdk/internal/util/ArraysSupport" = some m.cls := findClass_of_methodNamed Bd.named
  have hnm := (name_of_methodNamed Bd.named Bd.method).1
  have X0 : Stand p l e ({ frames := 1, cells := 0, slots := 0, locals := 17 } : Room) s m #[(.ref a), (.int (0 : Int32)), (.int (260 : Int32)), (.int (0 : Int32)), (.int (4 : Int32))] below meth c s₁ [] 0 0 := Stand.of_body Bd
  have e0 : s₁.heap = h0 := by rw [← hh, Bd.state]; rfl
  have N0 := Fr.nil n0
  let ST : State := (s₁.setTop (entryFrame m #[(.ref a), (.int (0 : Int32)), (.int (260 : Int32)), (.int (0 : Int32)), (.int (4 : Int32))] 5))
  have pre0 : ∀ t, Steps p.tables e below (s₁.setTop (mkF m 0 #[.val (.ref a), .val (.int (0 : Int32)), .val (.int (260 : Int32)), .val (.int (0 : Int32)), .val (.int (4 : Int32))] [])) t → Steps p.tables e below ST t := fun t k => castTop (ef_25 m a (0 : Int32) (260 : Int32) (0 : Int32) (4 : Int32)) k
  let LL1 : Array Slot := #[.val (.ref a), .val (.int (0 : Int32)), .val (.int (260 : Int32)), .val (.int (0 : Int32)), .val (.int (4 : Int32))]
  obtain ⟨T2, X2, e2, st2⟩ := castY X0 hx hZ hown (hw _ (List.mem_of_getElem? (i := 207) rfl)) e0 (Ins.self pr1) (g := (mkF m 46 LL1 [(.ref a), (.int (0 : Int32))])) rfl rfl (hb hby d25_46)
  obtain ⟨_, _, ⟨T3, L3, k3, n3⟩, -, X3, ⟨Lc3, hQ3, l3, y3, z3⟩, st3⟩ := Jvm.LawKit.callS X2 hx (y := (⟨"jdk/internal/util/ArraysSupport", "signedHashCode", "(I[BII)I"⟩ : MethodName)) hown (mvT hZ (hw _ (List.mem_of_getElem? (i := 208) rfl))) (mvT hZ (hw _ (List.mem_of_getElem? (i := 209) rfl))) (mvT hZ (hw _ (List.mem_of_getElem? (i := 205) rfl))) (mvT hZ (hw _ (List.mem_of_getElem? (i := 210) rfl))) (by decide) (backOf (W := 0) (rm16 l Z a0 hw [] a k f h0 n0 Z0 pr0) hZ (hw _ (List.mem_of_getElem? (i := 210) rfl)) (hw _ (List.mem_of_getElem? (i := 205) rfl)) (by decide) (by decide)) (g := (mkF m 51 LL1 [(.int (260 : Int32)), (.int (0 : Int32)), (.ref a), (.int (0 : Int32))])) rfl (by rw [hml]; rfl) (argsL := [(.int (0 : Int32)), (.ref a), (.int (0 : Int32)), (.int (260 : Int32))]) (rest := []) (lenOf pd_10 rfl) rfl (by show 2 * 0 + _ ≤ _; exact Nat.le_of_eq rfl) (hb hby d25_51) (fun _ _ => ⟨rfl, e2, (by decide : 0 + 0 ≤ _), (by decide : 0 + 0 ≤ _)⟩)
  dsimp only [Pt.U, Pt.locs, Pt.cells, Pt.slots] at X3 l3 y3 z3 st3 hQ3
  subst l3 y3 z3
  obtain ⟨hv_3, rfl, Nq3, e3⟩ := hQ3
  have N3 := Fr.app N0 Nq3
  have P4 : ∀ t, Steps p.tables e below (T3.setTop (mkF m 157 LL1 [(.int hv_3)])) t → Steps p.tables e below ST t := by
    intro t kk
    refine pre0 _ ?_
    show Steps p.tables e below (s₁.setTop (mkF m 0 LL1 [])) _
    refine XS.iload X0.here hx rfl (hb hby d25_0) rfl ?_
    show Steps p.tables e below (s₁.setTop (mkF m 2 LL1 [(.int (4 : Int32))])) _
    refine X0.tableswitchIn hx (g := (mkF m 2 LL1 [(.int (4 : Int32))])) rfl (k := (4 : Int32)) (rest := []) rfl (hb hby d25_2) (by decide) (off := 42) (by decide) (by show (0 : Int) ≤ (2 : Nat) + (42); decide) _ ?_
    show Steps p.tables e below (s₁.setTop (mkF m 44 LL1 [])) _
    refine XS.iloadN X0.here hx rfl (hb hby d25_44) rfl ?_
    show Steps p.tables e below (s₁.setTop (mkF m 45 LL1 [(.int (0 : Int32))])) _
    refine XS.aloadN X0.here hx rfl (hb hby d25_45) rfl rfl ?_
    show Steps p.tables e below (s₁.setTop (mkF m 46 LL1 [(.ref a), (.int (0 : Int32))])) _
    refine st2 _ ?_
    show Steps p.tables e below (T2.setTop (mkF m 49 LL1 [(.ref a), (.int (0 : Int32))])) _
    refine XS.iloadN X2.here hx rfl (hb hby d25_49) rfl ?_
    show Steps p.tables e below (T2.setTop (mkF m 50 LL1 [(.int (0 : Int32)), (.ref a), (.int (0 : Int32))])) _
    refine XS.iloadN X2.here hx rfl (hb hby d25_50) rfl ?_
    show Steps p.tables e below (T2.setTop (mkF m 51 LL1 [(.int (260 : Int32)), (.int (0 : Int32)), (.ref a), (.int (0 : Int32))])) _
    refine st3 _ ?_
    show Steps p.tables e below (T3.setTop (mkF m 54 LL1 [(.int hv_3)])) _
    refine XS.goto X3.here hx rfl (pc0 := 54) (pc' := 157) rfl (hb hby d25_54) (by decide) (by decide) ?_
    show Steps p.tables e below (T3.setTop (mkF m 157 LL1 [(.int hv_3)])) _
    exact kk
  obtain ⟨fs, hr, hrun, hended, hW, hsame⟩ := X3.leave (v := some (.int hv_3)) (fun h => by rw [Bd.returns] at h; cases h)
  refine ⟨_, _, P4 _ ?_, hrun, hended, _, _, rfl, ?_, ⟨_, rfl⟩, hW, hsame.mono (by decide) (by decide)⟩
  · exact retI X3 hx Bd.returns (hb hby d25_157) hr
  · show Q25 Z a k f h0 n0 _ T3.heap _
    rw [e3]
    exact ⟨hv_3, rfl, N3, rfl⟩
theorem d26_0 : decode jdk_43_method_21_code 0 = .ok (.aload_n 0, 1) := by decide +kernel
theorem d26_1 : decode jdk_43_method_21_code 1 = .ok (.arraylength, 1) := by decide +kernel
theorem d26_2 : decode jdk_43_method_21_code 2 = .ok (.lookupswitch 40 #[(0, 26), (1, 30)], 26) := by decide +kernel
theorem d26_42 : decode jdk_43_method_21_code 42 = .ok (.aload_n 0, 1) := by decide +kernel
theorem d26_43 : decode jdk_43_method_21_code 43 = .ok (.iconst 0, 1) := by decide +kernel
theorem d26_44 : decode jdk_43_method_21_code 44 = .ok (.aload_n 0, 1) := by decide +kernel
theorem d26_45 : decode jdk_43_method_21_code 45 = .ok (.arraylength, 1) := by decide +kernel
theorem d26_46 : decode jdk_43_method_21_code 46 = .ok (.iconst 0, 1) := by decide +kernel
theorem d26_47 : decode jdk_43_method_21_code 47 = .ok (.iconst 4, 1) := by decide +kernel
theorem d26_48 : decode jdk_43_method_21_code 48 = .ok (.invokestatic 84, 3) := by decide +kernel
theorem d26_51 : decode jdk_43_method_21_code 51 = .ok (.ireturn, 1) := by decide +kernel
theorem ef_26 (m : MethodId) (x0 : Addr) : entryFrame m #[(.ref x0)] 1 = (mkF m 0 #[.val (.ref x0)] []) := by first | (simp [entryFrame, mkF, argsToLocals, Value.category]; done) | rfl
def Q26 (Z : State) (a : Addr) (k : ClassId) (f : Nat → Int32) (h0 : Heap) (n0 : Nat) (vX : Option Value) (hX : Heap) (lX : List Loc) : Prop := ∃ (hv : Int32), vX = some (.int hv) ∧ Fr n0 lX ∧ (hX = h0)
set_option maxRecDepth 65536 in
set_option maxHeartbeats 40000000 in
theorem rm26 (l : Launch) (Z : State) (a0 : Array Value) (hw : ∀ d ∈ tables_1, d.before a0 Z = true) (ws : List Jvm.Cond) (a : Addr) (k : ClassId) (f : Nat → Int32) (h0 : Heap) (n0 : Nat) (Z0 : n0 ≤ h0.size) (pr0 : Bar Z h0 a k (260 : Int32) f) (pr1 : Exa Z h0 a "[B") :
    MetFree l (⟨"java/lang/StringLatin1", "hashCode", "([B)I"⟩ : MethodName) (head1 (Jvm.Cond.code (⟨"java/lang/StringLatin1", "hashCode", "([B)I"⟩ : MethodName) jdk_43_method_21_code 1 (some .int) :: ws) ({ frames := 2, cells := 0, slots := 0, locals := 33 } : Room)) (fun aX uX => aX = #[(.ref a)] ∧ Z.Warmed39 uX.vm ∧ uX.heap = h0) (fun _ _ _ _ _ => True) (fun _ uX oX wX => ∃ vX lX, oX = .returned vX ∧ Q26 Z a k f h0 n0 vX wX.heap lX ∧ FrameEnd uX oX wX lX ({ frames := 2, cells := 0, slots := 0, locals := 33 } : Room).cells ({ frames := 2, cells := 0, slots := 0, locals := 33 } : Room).slots) := by
  refine MetFree.of_bodySF (plainFor_of_name pn_8) hisR ?_
  intro p e s m args below meth c s₁ Bd hml0 hP hK
  obtain ⟨rfl, hZ, hh⟩ := hP
  have hx := Bd.exec
  have hby := Bd.bytes
  have hml : c.maxLocals = 1 := hml0
  have hown : s.vm.findClass "java/lang/StringLatin1" = some m.cls := findClass_of_methodNamed Bd.named
  have hnm := (name_of_methodNamed Bd.named Bd.method).1
  have X0 : Stand p l e ({ frames := 2, cells := 0, slots := 0, locals := 33 } : Room) s m #[(.ref a)] below meth c s₁ [] 0 0 := Stand.of_body Bd
  have e0 : s₁.heap = h0 := by rw [← hh, Bd.state]; rfl
  have N0 := Fr.nil n0
  let ST : State := (s₁.setTop (entryFrame m #[(.ref a)] 1))
  have pre0 : ∀ t, Steps p.tables e below (s₁.setTop (mkF m 0 #[.val (.ref a)] [])) t → Steps p.tables e below ST t := fun t k => castTop (ef_26 m a) k
  let LL1 : Array Slot := #[.val (.ref a)]
  obtain ⟨cl_a2, Ar_a2, q_a2, S_a2, N_a2, H_a2⟩ := id pr0
  obtain ⟨cl_a3, Ar_a3, q_a3, S_a3, N_a3, H_a3⟩ := id pr0
  obtain ⟨_, _, ⟨T4, L4, k4, n4⟩, -, X4, ⟨Lc4, hQ4, l4, y4, z4⟩, st4⟩ := Jvm.LawKit.callS X0 hx (y := (⟨"jdk/internal/util/ArraysSupport", "vectorizedHashCode", "(Ljava/lang/Object;IIII)I"⟩ : MethodName)) hown (mvT hZ (hw _ (List.mem_of_getElem? (i := 203) rfl))) (mvT hZ (hw _ (List.mem_of_getElem? (i := 204) rfl))) (mvT hZ (hw _ (List.mem_of_getElem? (i := 205) rfl))) (mvT hZ (hw _ (List.mem_of_getElem? (i := 206) rfl))) (by decide) (backOf (W := 0) (rm25 l Z a0 hw [] a k f h0 n0 Z0 pr0 pr1) hZ (hw _ (List.mem_of_getElem? (i := 206) rfl)) (hw _ (List.mem_of_getElem? (i := 205) rfl)) (by decide) (by decide)) (g := (mkF m 48 LL1 [(.int (4 : Int32)), (.int (0 : Int32)), (.int (260 : Int32)), (.int (0 : Int32)), (.ref a)])) rfl (by rw [hml]; rfl) (argsL := [(.ref a), (.int (0 : Int32)), (.int (260 : Int32)), (.int (0 : Int32)), (.int (4 : Int32))]) (rest := []) (lenOf pd_11 rfl) rfl (by show 2 * 0 + _ ≤ _; exact Nat.le_of_eq rfl) (hb hby d26_48) (fun _ _ => ⟨rfl, e0, (by decide : 0 + 0 ≤ _), (by decide : 0 + 0 ≤ _)⟩)
  dsimp only [Pt.U, Pt.locs, Pt.cells, Pt.slots] at X4 l4 y4 z4 st4 hQ4
  subst l4 y4 z4
  obtain ⟨hv_4, rfl, Nq4, e4⟩ := hQ4
  have N4 := Fr.app N0 Nq4
  have P5 : ∀ t, Steps p.tables e below (T4.setTop (mkF m 51 LL1 [(.int hv_4)])) t → Steps p.tables e below ST t := by
    intro t kk
    refine pre0 _ ?_
    show Steps p.tables e below (s₁.setTop (mkF m 0 LL1 [])) _
    refine XS.aloadN X0.here hx rfl (hb hby d26_0) rfl rfl ?_
    show Steps p.tables e below (s₁.setTop (mkF m 1 LL1 [(.ref a)])) _
    refine X0.arraylength hx (by rw [e0]; exact Ar_a2.1) (State.isArrayOf_alike hZ.alike Ar_a2.2.1) (g := (mkF m 1 LL1 [(.ref a)])) rfl rfl (hb hby d26_1) _ ?_
    rw [len_of S_a2 N_a2]
    show Steps p.tables e below (s₁.setTop (mkF m 2 LL1 [(.int (260 : Int32))])) _
    refine X0.lookupswitchMiss hx (g := (mkF m 2 LL1 [(.int (260 : Int32))])) rfl (k := (260 : Int32)) (rest := []) rfl (hb hby d26_2) (by decide) (by decide) (by show (0 : Int) ≤ (2 : Nat) + (40); decide) _ ?_
    show Steps p.tables e below (s₁.setTop (mkF m 42 LL1 [])) _
    refine XS.aloadN X0.here hx rfl (hb hby d26_42) rfl rfl ?_
    show Steps p.tables e below (s₁.setTop (mkF m 43 LL1 [(.ref a)])) _
    refine XS.iconst X0.here hx rfl (hb hby d26_43) ?_
    show Steps p.tables e below (s₁.setTop (mkF m 44 LL1 [(.int (0 : Int32)), (.ref a)])) _
    refine XS.aloadN X0.here hx rfl (hb hby d26_44) rfl rfl ?_
    show Steps p.tables e below (s₁.setTop (mkF m 45 LL1 [(.ref a), (.int (0 : Int32)), (.ref a)])) _
    refine X0.arraylength hx (by rw [e0]; exact Ar_a3.1) (State.isArrayOf_alike hZ.alike Ar_a3.2.1) (g := (mkF m 45 LL1 [(.ref a), (.int (0 : Int32)), (.ref a)])) rfl rfl (hb hby d26_45) _ ?_
    rw [len_of S_a3 N_a3]
    show Steps p.tables e below (s₁.setTop (mkF m 46 LL1 [(.int (260 : Int32)), (.int (0 : Int32)), (.ref a)])) _
    refine XS.iconst X0.here hx rfl (hb hby d26_46) ?_
    show Steps p.tables e below (s₁.setTop (mkF m 47 LL1 [(.int (0 : Int32)), (.int (260 : Int32)), (.int (0 : Int32)), (.ref a)])) _
    refine XS.iconst X0.here hx rfl (hb hby d26_47) ?_
    show Steps p.tables e below (s₁.setTop (mkF m 48 LL1 [(.int (4 : Int32)), (.int (0 : Int32)), (.int (260 : Int32)), (.int (0 : Int32)), (.ref a)])) _
    refine st4 _ ?_
    show Steps p.tables e below (T4.setTop (mkF m 51 LL1 [(.int hv_4)])) _
    exact kk
  obtain ⟨fs, hr, hrun, hended, hW, hsame⟩ := X4.leave (v := some (.int hv_4)) (fun h => by rw [Bd.returns] at h; cases h)
  refine ⟨_, _, P5 _ ?_, hrun, hended, _, _, rfl, ?_, ⟨_, rfl⟩, hW, hsame.mono (by decide) (by decide)⟩
  · exact retI X4 hx Bd.returns (hb hby d26_51) hr
  · show Q26 Z a k f h0 n0 _ T4.heap _
    rw [e4]
    exact ⟨hv_4, rfl, N4, rfl⟩
theorem d27_0 : decode jdk_42_method_78_code 0 = .ok (.aload_n 0, 1) := by decide +kernel
theorem d27_1 : decode jdk_42_method_78_code 1 = .ok (.getfield 19, 3) := by decide +kernel
theorem d27_4 : decode jdk_42_method_78_code 4 = .ok (.istore_n 1, 1) := by decide +kernel
theorem d27_5 : decode jdk_42_method_78_code 5 = .ok (.iload_n 1, 1) := by decide +kernel
theorem d27_6 : decode jdk_42_method_78_code 6 = .ok (.ifCond .ne 52, 3) := by decide +kernel
theorem d27_9 : decode jdk_42_method_78_code 9 = .ok (.aload_n 0, 1) := by decide +kernel
theorem d27_10 : decode jdk_42_method_78_code 10 = .ok (.getfield 23, 3) := by decide +kernel
theorem d27_13 : decode jdk_42_method_78_code 13 = .ok (.ifCond .ne 45, 3) := by decide +kernel
theorem d27_16 : decode jdk_42_method_78_code 16 = .ok (.aload_n 0, 1) := by decide +kernel
theorem d27_17 : decode jdk_42_method_78_code 17 = .ok (.invokevirtual 492, 3) := by decide +kernel
theorem d27_20 : decode jdk_42_method_78_code 20 = .ok (.ifCond .eq 13, 3) := by decide +kernel
theorem d27_23 : decode jdk_42_method_78_code 23 = .ok (.aload_n 0, 1) := by decide +kernel
theorem d27_24 : decode jdk_42_method_78_code 24 = .ok (.getfield 9, 3) := by decide +kernel
theorem d27_27 : decode jdk_42_method_78_code 27 = .ok (.invokestatic 628, 3) := by decide +kernel
theorem d27_30 : decode jdk_42_method_78_code 30 = .ok (.goto 10, 3) := by decide +kernel
theorem d27_40 : decode jdk_42_method_78_code 40 = .ok (.istore_n 1, 1) := by decide +kernel
theorem d27_41 : decode jdk_42_method_78_code 41 = .ok (.iload_n 1, 1) := by decide +kernel
theorem d27_42 : decode jdk_42_method_78_code 42 = .ok (.ifCond .ne 11, 3) := by decide +kernel
theorem d27_45 : decode jdk_42_method_78_code 45 = .ok (.aload_n 0, 1) := by decide +kernel
theorem d27_46 : decode jdk_42_method_78_code 46 = .ok (.iconst 1, 1) := by decide +kernel
theorem d27_47 : decode jdk_42_method_78_code 47 = .ok (.putfield 23, 3) := by decide +kernel
theorem d27_50 : decode jdk_42_method_78_code 50 = .ok (.goto 8, 3) := by decide +kernel
theorem d27_53 : decode jdk_42_method_78_code 53 = .ok (.aload_n 0, 1) := by decide +kernel
theorem d27_54 : decode jdk_42_method_78_code 54 = .ok (.iload_n 1, 1) := by decide +kernel
theorem d27_55 : decode jdk_42_method_78_code 55 = .ok (.putfield 19, 3) := by decide +kernel
theorem d27_58 : decode jdk_42_method_78_code 58 = .ok (.iload_n 1, 1) := by decide +kernel
theorem d27_59 : decode jdk_42_method_78_code 59 = .ok (.ireturn, 1) := by decide +kernel
theorem ef_27 (m : MethodId) (x0 : Addr) : entryFrame m #[(.ref x0)] 2 = (mkF m 0 #[.val (.ref x0), .unset] []) := by first | (simp [entryFrame, mkF, argsToLocals, Value.category]; done) | rfl
def Q27 (Z : State) (a : Addr) (b : Addr) (k : ClassId) (f : Nat → Int32) (cs : Int32) (h0 : Heap) (n0 : Nat) (vX : Option Value) (hX : Heap) (lX : List Loc) : Prop := ∃ (hv : Int32), vX = some (.int hv) ∧ Fr n0 lX ∧ (Keep h0 hX [a])
set_option maxRecDepth 65536 in
set_option maxHeartbeats 40000000 in
theorem rm27 (l : Launch) (Z : State) (a0 : Array Value) (hw : ∀ d ∈ tables_1, d.before a0 Z = true) (ws : List Jvm.Cond) (a : Addr) (b : Addr) (k : ClassId) (f : Nat → Int32) (cs : Int32) (h0 : Heap) (n0 : Nat) (Z0 : n0 ≤ h0.size) (pr0 : Exa Z h0 a "java/lang/String") (pr1 : Fld Z h0 a "java/lang/String" "coder" "B" (.int (0 : Int32))) (pr2 : Fld Z h0 a "java/lang/String" "value" "[B" (.ref b)) (pr3 : Fld Z h0 a "java/lang/String" "hash" "I" (.int (0 : Int32))) (pr4 : Fld Z h0 a "java/lang/String" "hashIsZero" "Z" (.int (0 : Int32))) (pr5 : Sta Z h0 "java/lang/String" "COMPACT_STRINGS" "Z" (.int cs)) (pr6 : ¬ cs = (0 : Int32)) (pr7 : Bar Z h0 b k (260 : Int32) f) (pr8 : Exa Z h0 b "[B") (pr9 : n0 ≤ a) :
    MetFree l (⟨"java/lang/String", "hashCode", "()I"⟩ : MethodName) (head1 (Jvm.Cond.code (⟨"java/lang/String", "hashCode", "()I"⟩ : MethodName) jdk_42_method_78_code 2 (some .int) :: ws) ({ frames := 3, cells := 0, slots := 0, locals := 45 } : Room)) (fun aX uX => aX = #[(.ref a)] ∧ Z.Warmed39 uX.vm ∧ uX.heap = h0) (fun _ _ _ _ _ => True) (fun _ uX oX wX => ∃ vX lX, oX = .returned vX ∧ Q27 Z a b k f cs h0 n0 vX wX.heap lX ∧ FrameEnd uX oX wX lX ({ frames := 3, cells := 0, slots := 0, locals := 45 } : Room).cells ({ frames := 3, cells := 0, slots := 0, locals := 45 } : Room).slots) := by
  refine MetFree.of_bodySF (plainFor_of_name pn_7) hisR ?_
  intro p e s m args below meth c s₁ Bd hml0 hP hK
  obtain ⟨rfl, hZ, hh⟩ := hP
  have hx := Bd.exec
  have hby := Bd.bytes
  have hml : c.maxLocals = 2 := hml0
  have hown : s.vm.findClass "java/lang/String" = some m.cls := findClass_of_methodNamed Bd.named
  have hnm := (name_of_methodNamed Bd.named Bd.method).1
  have X0 : Stand p l e ({ frames := 3, cells := 0, slots := 0, locals := 45 } : Room) s m #[(.ref a)] below meth c s₁ [] 0 0 := Stand.of_body Bd
  have e0 : s₁.heap = h0 := by rw [← hh, Bd.state]; rfl
  have N0 := Fr.nil n0
  let ST : State := (s₁.setTop (entryFrame m #[(.ref a)] 2))
  have pre0 : ∀ t, Steps p.tables e below (s₁.setTop (mkF m 0 #[.val (.ref a), .unset] [])) t → Steps p.tables e below ST t := fun t k => castTop (ef_27 m a) k
  let LL1 : Array Slot := #[.val (.ref a), .unset]
  obtain ⟨T2, X2, e2, st2⟩ := getF X0 hx hZ hown (host := "") (Or.inl (hw _ (List.mem_of_getElem? (i := 190) rfl))) Via.refl e0 pr3 (g := (mkF m 1 LL1 [(.ref a)])) rfl rfl (hb hby d27_1)
  let LL3 : Array Slot := #[.val (.ref a), .val (.int (0 : Int32))]
  obtain ⟨T4, X4, e4, st4⟩ := getF X2 hx hZ hown (host := "") (Or.inl (hw _ (List.mem_of_getElem? (i := 192) rfl))) Via.refl e2 pr4 (g := (mkF m 10 LL3 [(.ref a)])) rfl rfl (hb hby d27_10)
  obtain ⟨cq5, kq5, q5a, q5b, q5c⟩ := isOf hZ e4 pr0
  obtain ⟨_, _, ⟨T5, L5, k5, n5⟩, -, X5, ⟨Lc5, hQ5, l5, y5, z5⟩, st5⟩ := X4.virtualBack hx (y := (⟨"java/lang/String", "isLatin1", "()Z"⟩ : MethodName)) (z := (⟨"java/lang/String", "isLatin1", "()Z"⟩ : MethodName)) hown (mvT hZ (hw _ (List.mem_of_getElem? (i := 194) rfl))) (mvT hZ (hw _ (List.mem_of_getElem? (i := 195) rfl))) (notFace_of_selects (args := #[]) (mvT hZ (hw _ (List.mem_of_getElem? (i := 197) rfl)))) (mvT hZ (hw _ (List.mem_of_getElem? (i := 197) rfl))) (mvT hZ (hw _ (List.mem_of_getElem? (i := 196) rfl))) (by decide) (backOf (W := 0) (rm20 l Z a0 hw [] a cs h0 n0 Z0 pr5 pr6 pr1) hZ (hw _ (List.mem_of_getElem? (i := 198) rfl)) (hw _ (List.mem_of_getElem? (i := 3) rfl)) (by decide) (by decide)) q5a q5c (g := (mkF m 17 LL3 [(.ref a)])) rfl (by rw [hml]; rfl) (Steps.refl _) (argsL := []) (rest := []) (lenOf pd_12 rfl) rfl (by show 2 * 0 + _ ≤ _; exact Nat.le_of_eq rfl) (hb hby d27_17) (fun _ _ => ⟨rfl, e4, (by decide : 0 + 0 ≤ _), (by decide : 0 + 0 ≤ _)⟩)
  dsimp only [Pt.U, Pt.locs, Pt.cells, Pt.slots] at X5 l5 y5 z5 st5 hQ5
  subst l5 y5 z5
  obtain ⟨rfl, Nq5, e5⟩ := hQ5
  have N5 := Fr.app N0 Nq5
  obtain ⟨T6, X6, e6, st6⟩ := getF X5 hx hZ hown (host := "") (Or.inl (hw _ (List.mem_of_getElem? (i := 28) rfl))) Via.refl e5 pr2 (g := (mkF m 24 LL3 [(.ref a)])) rfl rfl (hb hby d27_24)
  obtain ⟨_, _, ⟨T7, L7, k7, n7⟩, -, X7, ⟨Lc7, hQ7, l7, y7, z7⟩, st7⟩ := Jvm.LawKit.callS X6 hx (y := (⟨"java/lang/StringLatin1", "hashCode", "([B)I"⟩ : MethodName)) hown (mvT hZ (hw _ (List.mem_of_getElem? (i := 199) rfl))) (mvT hZ (hw _ (List.mem_of_getElem? (i := 200) rfl))) (mvT hZ (hw _ (List.mem_of_getElem? (i := 201) rfl))) (mvT hZ (hw _ (List.mem_of_getElem? (i := 202) rfl))) (by decide) (backOf (W := 0) (rm26 l Z a0 hw [] b k f h0 n0 Z0 pr7 pr8) hZ (hw _ (List.mem_of_getElem? (i := 202) rfl)) (hw _ (List.mem_of_getElem? (i := 201) rfl)) (by decide) (by decide)) (g := (mkF m 27 LL3 [(.ref b)])) rfl (by rw [hml]; rfl) (argsL := [(.ref b)]) (rest := []) (lenOf pd_13 rfl) rfl (by show 2 * 0 + _ ≤ _; exact Nat.le_of_eq rfl) (hb hby d27_27) (fun _ _ => ⟨rfl, e6, (by decide : 0 + 0 ≤ _), (by decide : 0 + 0 ≤ _)⟩)
  dsimp only [Pt.U, Pt.locs, Pt.cells, Pt.slots] at X7 l7 y7 z7 st7 hQ7
  subst l7 y7 z7
  obtain ⟨hv_7, rfl, Nq7, e7⟩ := hQ7
  have N7 := Fr.app N5 Nq7
  let LL8 : Array Slot := #[.val (.ref a), .val (.int hv_7)]
  have P9 : ∀ t, Steps p.tables e below (T7.setTop (mkF m 42 LL8 [(.int hv_7)])) t → Steps p.tables e below ST t := by
    intro t kk
    refine pre0 _ ?_
    show Steps p.tables e below (s₁.setTop (mkF m 0 LL1 [])) _
    refine XS.aloadN X0.here hx rfl (hb hby d27_0) rfl rfl ?_
    show Steps p.tables e below (s₁.setTop (mkF m 1 LL1 [(.ref a)])) _
    refine st2 _ ?_
    show Steps p.tables e below (T2.setTop (mkF m 4 LL1 [(.int (0 : Int32))])) _
    refine XS.istoreN X2.here hx rfl (hb hby d27_4) rfl (l' := LL3) rfl ?_
    show Steps p.tables e below (T2.setTop (mkF m 5 LL3 [])) _
    refine XS.iloadN X2.here hx rfl (hb hby d27_5) rfl ?_
    show Steps p.tables e below (T2.setTop (mkF m 6 LL3 [(.int (0 : Int32))])) _
    refine XS.ifNo X2.here hx rfl (hb hby d27_6) rfl (XT.i0_ne_f rfl) ?_
    show Steps p.tables e below (T2.setTop (mkF m 9 LL3 [])) _
    refine XS.aloadN X2.here hx rfl (hb hby d27_9) rfl rfl ?_
    show Steps p.tables e below (T2.setTop (mkF m 10 LL3 [(.ref a)])) _
    refine st4 _ ?_
    show Steps p.tables e below (T4.setTop (mkF m 13 LL3 [(.int (0 : Int32))])) _
    refine XS.ifNo X4.here hx rfl (hb hby d27_13) rfl (XT.i0_ne_f rfl) ?_
    show Steps p.tables e below (T4.setTop (mkF m 16 LL3 [])) _
    refine XS.aloadN X4.here hx rfl (hb hby d27_16) rfl rfl ?_
    show Steps p.tables e below (T4.setTop (mkF m 17 LL3 [(.ref a)])) _
    refine st5.trans ?_
    show Steps p.tables e below (T5.setTop (mkF m 20 LL3 [(.int (1 : Int32))])) _
    refine XS.ifNo X5.here hx rfl (hb hby d27_20) rfl (XT.i0_eq_f (by decide)) ?_
    show Steps p.tables e below (T5.setTop (mkF m 23 LL3 [])) _
    refine XS.aloadN X5.here hx rfl (hb hby d27_23) rfl rfl ?_
    show Steps p.tables e below (T5.setTop (mkF m 24 LL3 [(.ref a)])) _
    refine st6 _ ?_
    show Steps p.tables e below (T6.setTop (mkF m 27 LL3 [(.ref b)])) _
    refine st7 _ ?_
    show Steps p.tables e below (T7.setTop (mkF m 30 LL3 [(.int hv_7)])) _
    refine XS.goto X7.here hx rfl (pc0 := 30) (pc' := 40) rfl (hb hby d27_30) (by decide) (by decide) ?_
    show Steps p.tables e below (T7.setTop (mkF m 40 LL3 [(.int hv_7)])) _
    refine XS.istoreN X7.here hx rfl (hb hby d27_40) rfl (l' := LL8) rfl ?_
    show Steps p.tables e below (T7.setTop (mkF m 41 LL8 [])) _
    refine XS.iloadN X7.here hx rfl (hb hby d27_41) rfl ?_
    show Steps p.tables e below (T7.setTop (mkF m 42 LL8 [(.int hv_7)])) _
    exact kk
  by_cases c10 : hv_7 = (0 : Int32)
  · skip
    obtain ⟨T11, h11, X11, e11, W11, st11⟩ := putFN X7 hx hZ hown (hw _ (List.mem_of_getElem? (i := 192) rfl)) Via.refl e7 pr4 pr0 (Or.inl (hw _ (List.mem_of_getElem? (i := 193) rfl))) (hw _ (List.mem_of_getElem? (i := 2) rfl)) (ty := .boolean) (v' := (.int (nar .boolean (1 : Int32)))) (by decide) rfl (fits_nar_bool _) (g := (mkF m 47 LL8 [(.int (1 : Int32)), (.ref a)])) rfl rfl (hb hby d27_47)
    have N11 := Fr.snoc X11 N7 pr9
    have Fw11 := Fld.same W11 pr4
    have P12 : ∀ t, Steps p.tables e below (T11.setTop (mkF m 59 LL8 [(.int hv_7)])) t → Steps p.tables e below ST t := by
      intro t kk
      refine P9 _ ?_
      show Steps p.tables e below (T7.setTop (mkF m 42 LL8 [(.int hv_7)])) _
      refine XS.ifNo X7.here hx rfl (hb hby d27_42) rfl (XT.i0_ne_f c10) ?_
      show Steps p.tables e below (T7.setTop (mkF m 45 LL8 [])) _
      refine XS.aloadN X7.here hx rfl (hb hby d27_45) rfl rfl ?_
      show Steps p.tables e below (T7.setTop (mkF m 46 LL8 [(.ref a)])) _
      refine XS.iconst X7.here hx rfl (hb hby d27_46) ?_
      show Steps p.tables e below (T7.setTop (mkF m 47 LL8 [(.int (1 : Int32)), (.ref a)])) _
      refine st11 _ ?_
      show Steps p.tables e below (T11.setTop (mkF m 50 LL8 [])) _
      refine XS.goto X11.here hx rfl (pc0 := 50) (pc' := 58) rfl (hb hby d27_50) (by decide) (by decide) ?_
      show Steps p.tables e below (T11.setTop (mkF m 58 LL8 [])) _
      refine XS.iloadN X11.here hx rfl (hb hby d27_58) rfl ?_
      show Steps p.tables e below (T11.setTop (mkF m 59 LL8 [(.int hv_7)])) _
      exact kk
    have k13 : Keep h0 h11 [a] := (Keep.wr (Keep.refl h0 [a]) W11 (Or.inl (List.mem_of_getElem? (i := 0) rfl)))
    obtain ⟨fs, hr, hrun, hended, hW, hsame⟩ := X11.leave (v := some (.int hv_7)) (fun h => by rw [Bd.returns] at h; cases h)
    refine ⟨_, _, P12 _ ?_, hrun, hended, _, _, rfl, ?_, ⟨_, rfl⟩, hW, hsame.mono (by decide) (by decide)⟩
    · exact retI X11 hx Bd.returns (hb hby d27_59) hr
    · show Q27 Z a b k f cs h0 n0 _ T11.heap _
      rw [e11]
      exact ⟨hv_7, rfl, N11, k13⟩
  · skip
    obtain ⟨T14, h14, X14, e14, W14, st14⟩ := putF X7 hx hZ hown (host := "") (Or.inl (hw _ (List.mem_of_getElem? (i := 190) rfl))) Via.refl e7 pr3 pr0 (Or.inl (hw _ (List.mem_of_getElem? (i := 191) rfl))) (hw _ (List.mem_of_getElem? (i := 2) rfl)) (ty := .int) (by decide) rfl rfl (g := (mkF m 55 LL8 [(.int hv_7), (.ref a)])) rfl rfl (hb hby d27_55)
    have N14 := Fr.snoc X14 N7 pr9
    have Fw14 := Fld.same W14 pr3
    have P15 : ∀ t, Steps p.tables e below (T14.setTop (mkF m 59 LL8 [(.int hv_7)])) t → Steps p.tables e below ST t := by
      intro t kk
      refine P9 _ ?_
      show Steps p.tables e below (T7.setTop (mkF m 42 LL8 [(.int hv_7)])) _
      refine XS.ifYes X7.here hx rfl (pc0 := 42) (pc' := 53) rfl (hb hby d27_42) rfl (XT.i0_ne_t c10) (by decide) (by decide) ?_
      show Steps p.tables e below (T7.setTop (mkF m 53 LL8 [])) _
      refine XS.aloadN X7.here hx rfl (hb hby d27_53) rfl rfl ?_
      show Steps p.tables e below (T7.setTop (mkF m 54 LL8 [(.ref a)])) _
      refine XS.iloadN X7.here hx rfl (hb hby d27_54) rfl ?_
      show Steps p.tables e below (T7.setTop (mkF m 55 LL8 [(.int hv_7), (.ref a)])) _
      refine st14 _ ?_
      show Steps p.tables e below (T14.setTop (mkF m 58 LL8 [])) _
      refine XS.iloadN X14.here hx rfl (hb hby d27_58) rfl ?_
      show Steps p.tables e below (T14.setTop (mkF m 59 LL8 [(.int hv_7)])) _
      exact kk
    have k16 : Keep h0 h14 [a] := (Keep.wr (Keep.refl h0 [a]) W14 (Or.inl (List.mem_of_getElem? (i := 0) rfl)))
    obtain ⟨fs, hr, hrun, hended, hW, hsame⟩ := X14.leave (v := some (.int hv_7)) (fun h => by rw [Bd.returns] at h; cases h)
    refine ⟨_, _, P15 _ ?_, hrun, hended, _, _, rfl, ?_, ⟨_, rfl⟩, hW, hsame.mono (by decide) (by decide)⟩
    · exact retI X14 hx Bd.returns (hb hby d27_59) hr
    · show Q27 Z a b k f cs h0 n0 _ T14.heap _
      rw [e14]
      exact ⟨hv_7, rfl, N14, k16⟩
theorem d28_0 : decode jdk_69_method_1_code 0 = .ok (.aload_n 0, 1) := by decide +kernel
theorem d28_1 : decode jdk_69_method_1_code 1 = .ok (.ifnonnull 7, 3) := by decide +kernel
theorem d28_8 : decode jdk_69_method_1_code 8 = .ok (.aload_n 0, 1) := by decide +kernel
theorem d28_9 : decode jdk_69_method_1_code 9 = .ok (.invokevirtual 1, 3) := by decide +kernel
theorem d28_12 : decode jdk_69_method_1_code 12 = .ok (.dup, 1) := by decide +kernel
theorem d28_13 : decode jdk_69_method_1_code 13 = .ok (.istore_n 1, 1) := by decide +kernel
theorem d28_14 : decode jdk_69_method_1_code 14 = .ok (.iload_n 1, 1) := by decide +kernel
theorem d28_15 : decode jdk_69_method_1_code 15 = .ok (.bipush 16, 2) := by decide +kernel
theorem d28_17 : decode jdk_69_method_1_code 17 = .ok (.iushr, 1) := by decide +kernel
theorem d28_18 : decode jdk_69_method_1_code 18 = .ok (.ixor, 1) := by decide +kernel
theorem d28_19 : decode jdk_69_method_1_code 19 = .ok (.ireturn, 1) := by decide +kernel
theorem ef_28 (m : MethodId) (x0 : Addr) : entryFrame m #[(.ref x0)] 2 = (mkF m 0 #[.val (.ref x0), .unset] []) := by first | (simp [entryFrame, mkF, argsToLocals, Value.category]; done) | rfl
def Q28 (Z : State) (a : Addr) (b : Addr) (k : ClassId) (f : Nat → Int32) (cs : Int32) (h0 : Heap) (n0 : Nat) (vX : Option Value) (hX : Heap) (lX : List Loc) : Prop := ∃ (hv : Int32), vX = some (.int hv) ∧ Fr n0 lX ∧ (Keep h0 hX [a])
set_option maxRecDepth 65536 in
set_option maxHeartbeats 40000000 in
theorem rm28 (l : Launch) (Z : State) (a0 : Array Value) (hw : ∀ d ∈ tables_1, d.before a0 Z = true) (ws : List Jvm.Cond) (a : Addr) (b : Addr) (k : ClassId) (f : Nat → Int32) (cs : Int32) (h0 : Heap) (n0 : Nat) (Z0 : n0 ≤ h0.size) (pr0 : Exa Z h0 a "java/lang/String") (pr1 : Fld Z h0 a "java/lang/String" "coder" "B" (.int (0 : Int32))) (pr2 : Fld Z h0 a "java/lang/String" "value" "[B" (.ref b)) (pr3 : Fld Z h0 a "java/lang/String" "hash" "I" (.int (0 : Int32))) (pr4 : Fld Z h0 a "java/lang/String" "hashIsZero" "Z" (.int (0 : Int32))) (pr5 : Sta Z h0 "java/lang/String" "COMPACT_STRINGS" "Z" (.int cs)) (pr6 : ¬ cs = (0 : Int32)) (pr7 : Bar Z h0 b k (260 : Int32) f) (pr8 : Exa Z h0 b "[B") (pr9 : n0 ≤ a) :
    MetFree l (⟨"java/util/HashMap", "hash", "(Ljava/lang/Object;)I"⟩ : MethodName) (head1 (Jvm.Cond.code (⟨"java/util/HashMap", "hash", "(Ljava/lang/Object;)I"⟩ : MethodName) jdk_69_method_1_code 2 (some .int) :: ws) ({ frames := 4, cells := 0, slots := 0, locals := 58 } : Room)) (fun aX uX => aX = #[(.ref a)] ∧ Z.Warmed39 uX.vm ∧ uX.heap = h0) (fun _ _ _ _ _ => True) (fun _ uX oX wX => ∃ vX lX, oX = .returned vX ∧ Q28 Z a b k f cs h0 n0 vX wX.heap lX ∧ FrameEnd uX oX wX lX ({ frames := 4, cells := 0, slots := 0, locals := 58 } : Room).cells ({ frames := 4, cells := 0, slots := 0, locals := 58 } : Room).slots) := by
  refine MetFree.of_bodySF (plainFor_of_name pn_2) hisR ?_
  intro p e s m args below meth c s₁ Bd hml0 hP hK
  obtain ⟨rfl, hZ, hh⟩ := hP
  have hx := Bd.exec
  have hby := Bd.bytes
  have hml : c.maxLocals = 2 := hml0
  have hown : s.vm.findClass "java/util/HashMap" = some m.cls := findClass_of_methodNamed Bd.named
  have hnm := (name_of_methodNamed Bd.named Bd.method).1
  have X0 : Stand p l e ({ frames := 4, cells := 0, slots := 0, locals := 58 } : Room) s m #[(.ref a)] below meth c s₁ [] 0 0 := Stand.of_body Bd
  have e0 : s₁.heap = h0 := by rw [← hh, Bd.state]; rfl
  have N0 := Fr.nil n0
  let ST : State := (s₁.setTop (entryFrame m #[(.ref a)] 2))
  have pre0 : ∀ t, Steps p.tables e below (s₁.setTop (mkF m 0 #[.val (.ref a), .unset] [])) t → Steps p.tables e below ST t := fun t k => castTop (ef_28 m a) k
  let LL1 : Array Slot := #[.val (.ref a), .unset]
  obtain ⟨cq2, kq2, q2a, q2b, q2c⟩ := isOf hZ e0 pr0
  obtain ⟨_, _, ⟨T2, L2, k2, n2⟩, -, X2, ⟨Lc2, hQ2, l2, y2, z2⟩, st2⟩ := X0.virtualBack hx (y := (⟨"java/lang/Object", "hashCode", "()I"⟩ : MethodName)) (z := (⟨"java/lang/String", "hashCode", "()I"⟩ : MethodName)) hown (mvT hZ (hw _ (List.mem_of_getElem? (i := 184) rfl))) (mvT hZ (hw _ (List.mem_of_getElem? (i := 185) rfl))) (own_nf (args := #[]) (y := (⟨"java/lang/Object", "hashCode", "()I"⟩ : MethodName)) (z := (⟨"java/lang/Object", "clone", "()Ljava/lang/Object;"⟩ : MethodName)) (mvT hZ (hw _ (List.mem_of_getElem? (i := 150) rfl))) rfl) (mvT hZ (hw _ (List.mem_of_getElem? (i := 187) rfl))) (mvT hZ (hw _ (List.mem_of_getElem? (i := 188) rfl))) (by decide) (backOf (W := 0) (rm27 l Z a0 hw [] a b k f cs h0 n0 Z0 pr0 pr1 pr2 pr3 pr4 pr5 pr6 pr7 pr8 pr9) hZ (hw _ (List.mem_of_getElem? (i := 189) rfl)) (hw _ (List.mem_of_getElem? (i := 3) rfl)) (by decide) (by decide)) q2a q2c (g := (mkF m 9 LL1 [(.ref a)])) rfl (by rw [hml]; rfl) (Steps.refl _) (argsL := []) (rest := []) (lenOf pd_14 rfl) rfl (by show 2 * 0 + _ ≤ _; exact Nat.le_of_eq rfl) (hb hby d28_9) (fun _ _ => ⟨rfl, e0, (by decide : 0 + 0 ≤ _), (by decide : 0 + 0 ≤ _)⟩)
  dsimp only [Pt.U, Pt.locs, Pt.cells, Pt.slots] at X2 l2 y2 z2 st2 hQ2
  subst l2 y2 z2
  obtain ⟨hv_2, rfl, Nq2, K2⟩ := hQ2
  have N2 := Fr.app N0 Nq2
  let LL3 : Array Slot := #[.val (.ref a), .val (.int hv_2)]
  have P4 : ∀ t, Steps p.tables e below (T2.setTop (mkF m 19 LL3 [(.int (hv_2 ^^^ (((hv_2).toUInt32 >>> ((16 : Int32) &&& 31).toUInt32).toInt32)))])) t → Steps p.tables e below ST t := by
    intro t kk
    refine pre0 _ ?_
    show Steps p.tables e below (s₁.setTop (mkF m 0 LL1 [])) _
    refine XS.aloadN X0.here hx rfl (hb hby d28_0) rfl rfl ?_
    show Steps p.tables e below (s₁.setTop (mkF m 1 LL1 [(.ref a)])) _
    refine XS.ifnonnullYes X0.here hx rfl (pc0 := 1) (pc' := 8) rfl (hb hby d28_1) rfl (by decide) (by decide) ?_
    show Steps p.tables e below (s₁.setTop (mkF m 8 LL1 [])) _
    refine XS.aloadN X0.here hx rfl (hb hby d28_8) rfl rfl ?_
    show Steps p.tables e below (s₁.setTop (mkF m 9 LL1 [(.ref a)])) _
    refine st2.trans ?_
    show Steps p.tables e below (T2.setTop (mkF m 12 LL1 [(.int hv_2)])) _
    refine XS.dup X2.here hx rfl (hb hby d28_12) rfl rfl ?_
    show Steps p.tables e below (T2.setTop (mkF m 13 LL1 [(.int hv_2), (.int hv_2)])) _
    refine XS.istoreN X2.here hx rfl (hb hby d28_13) rfl (l' := LL3) rfl ?_
    show Steps p.tables e below (T2.setTop (mkF m 14 LL3 [(.int hv_2)])) _
    refine XS.iloadN X2.here hx rfl (hb hby d28_14) rfl ?_
    show Steps p.tables e below (T2.setTop (mkF m 15 LL3 [(.int hv_2), (.int hv_2)])) _
    refine XS.bipush X2.here hx rfl (hb hby d28_15) ?_
    show Steps p.tables e below (T2.setTop (mkF m 17 LL3 [(.int (16 : Int32)), (.int hv_2), (.int hv_2)])) _
    refine XS.iushr X2.here hx rfl (hb hby d28_17) rfl ?_
    show Steps p.tables e below (T2.setTop (mkF m 18 LL3 [(.int (((hv_2).toUInt32 >>> ((16 : Int32) &&& 31).toUInt32).toInt32)), (.int hv_2)])) _
    refine XS.ixor X2.here hx rfl (hb hby d28_18) rfl ?_
    show Steps p.tables e below (T2.setTop (mkF m 19 LL3 [(.int (hv_2 ^^^ (((hv_2).toUInt32 >>> ((16 : Int32) &&& 31).toUInt32).toInt32)))])) _
    exact kk
  have k5 : Keep h0 T2.heap [a] := (Keep.trans (Keep.refl h0 [a]) K2 (allS (Or.inl (List.mem_of_getElem? (i := 0) rfl)) all0))
  obtain ⟨fs, hr, hrun, hended, hW, hsame⟩ := X2.leave (v := some (.int (hv_2 ^^^ (((hv_2).toUInt32 >>> ((16 : Int32) &&& 31).toUInt32).toInt32)))) (fun h => by rw [Bd.returns] at h; cases h)
  refine ⟨_, _, P4 _ ?_, hrun, hended, _, _, rfl, ?_, ⟨_, rfl⟩, hW, hsame.mono (by decide) (by decide)⟩
  · exact retI X2 hx Bd.returns (hb hby d28_19) hr
  · show Q28 Z a b k f cs h0 n0 _ T2.heap _
    exact ⟨(hv_2 ^^^ (((hv_2).toUInt32 >>> ((16 : Int32) &&& 31).toUInt32).toInt32)), rfl, N2, k5⟩
theorem d29_0 : decode jdk_69_method_13_code 0 = .ok (.aload_n 0, 1) := by decide +kernel
theorem d29_1 : decode jdk_69_method_13_code 1 = .ok (.getfield 105, 3) := by decide +kernel
theorem d29_4 : decode jdk_69_method_13_code 4 = .ok (.dup, 1) := by decide +kernel
theorem d29_5 : decode jdk_69_method_13_code 5 = .ok (.astore_n 2, 1) := by decide +kernel
theorem d29_6 : decode jdk_69_method_13_code 6 = .ok (.ifnull 142, 3) := by decide +kernel
theorem d29_148 : decode jdk_69_method_13_code 148 = .ok (.aconst_null, 1) := by decide +kernel
theorem d29_149 : decode jdk_69_method_13_code 149 = .ok (.areturn, 1) := by decide +kernel
theorem ef_29 (m : MethodId) (x0 : Addr) (x1 : Addr) : entryFrame m #[(.ref x0), (.ref x1)] 8 = (mkF m 0 #[.val (.ref x0), .val (.ref x1), .unset, .unset, .unset, .unset, .unset, .unset] []) := by first | (simp [entryFrame, mkF, argsToLocals, Value.category]; done) | rfl
def Q29 (Z : State) (a : Addr) (g : Addr) (h0 : Heap) (n0 : Nat) (vX : Option Value) (hX : Heap) (lX : List Loc) : Prop := vX = some .null ∧ Fr n0 lX ∧ (hX = h0)
set_option maxRecDepth 65536 in
set_option maxHeartbeats 40000000 in
theorem rm29 (l : Launch) (Z : State) (a0 : Array Value) (hw : ∀ d ∈ tables_1, d.before a0 Z = true) (ws : List Jvm.Cond) (a : Addr) (g : Addr) (h0 : Heap) (n0 : Nat) (Z0 : n0 ≤ h0.size) (pr0 : Fld Z h0 a "java/util/HashMap" "table" "[Ljava/util/HashMap$Node;" .null) :
    MetFree l (⟨"java/util/HashMap", "getNode", "(Ljava/lang/Object;)Ljava/util/HashMap$Node;"⟩ : MethodName) (head1 (Jvm.Cond.code (⟨"java/util/HashMap", "getNode", "(Ljava/lang/Object;)Ljava/util/HashMap$Node;"⟩ : MethodName) jdk_69_method_13_code 8 (some (.object "java/util/HashMap$Node")) :: ws) ({ frames := 0, cells := 0, slots := 0, locals := 0 } : Room)) (fun aX uX => aX = #[(.ref a), (.ref g)] ∧ Z.Warmed39 uX.vm ∧ uX.heap = h0) (fun _ _ _ _ _ => True) (fun _ uX oX wX => ∃ vX lX, oX = .returned vX ∧ Q29 Z a g h0 n0 vX wX.heap lX ∧ FrameEnd uX oX wX lX ({ frames := 0, cells := 0, slots := 0, locals := 0 } : Room).cells ({ frames := 0, cells := 0, slots := 0, locals := 0 } : Room).slots) := by
  refine MetFree.of_bodySF (plainFor_of_name pn_2) hisR ?_
  intro p e s m args below meth c s₁ Bd hml0 hP hK
  obtain ⟨rfl, hZ, hh⟩ := hP
  have hx := Bd.exec
  have hby := Bd.bytes
  have hml : c.maxLocals = 8 := hml0
  have hown : s.vm.findClass "java/util/HashMap" = some m.cls := findClass_of_methodNamed Bd.named
  have hnm := (name_of_methodNamed Bd.named Bd.method).1
  have X0 : Stand p l e ({ frames := 0, cells := 0, slots := 0, locals := 0 } : Room) s m #[(.ref a), (.ref g)] below meth c s₁ [] 0 0 := Stand.of_body Bd
  have e0 : s₁.heap = h0 := by rw [← hh, Bd.state]; rfl
  have N0 := Fr.nil n0
  let ST : State := (s₁.setTop (entryFrame m #[(.ref a), (.ref g)] 8))
  have pre0 : ∀ t, Steps p.tables e below (s₁.setTop (mkF m 0 #[.val (.ref a), .val (.ref g), .unset, .unset, .unset, .unset, .unset, .unset] [])) t → Steps p.tables e below ST t := fun t k => castTop (ef_29 m a g) k
  let LL1 : Array Slot := #[.val (.ref a), .val (.ref g), .unset, .unset, .unset, .unset, .unset, .unset]
  obtain ⟨T2, X2, e2, st2⟩ := getF X0 hx hZ hown (host := "") (Or.inl (hw _ (List.mem_of_getElem? (i := 117) rfl))) Via.refl e0 pr0 (g := (mkF m 1 LL1 [(.ref a)])) rfl rfl (hb hby d29_1)
  let LL3 : Array Slot := #[.val (.ref a), .val (.ref g), .val .null, .unset, .unset, .unset, .unset, .unset]
  have P4 : ∀ t, Steps p.tables e below (T2.setTop (mkF m 149 LL3 [.null])) t → Steps p.tables e below ST t := by
    intro t kk
    refine pre0 _ ?_
    show Steps p.tables e below (s₁.setTop (mkF m 0 LL1 [])) _
    refine XS.aloadN X0.here hx rfl (hb hby d29_0) rfl rfl ?_
    show Steps p.tables e below (s₁.setTop (mkF m 1 LL1 [(.ref a)])) _
    refine st2 _ ?_
    show Steps p.tables e below (T2.setTop (mkF m 4 LL1 [.null])) _
    refine XS.dup X2.here hx rfl (hb hby d29_4) rfl rfl ?_
    show Steps p.tables e below (T2.setTop (mkF m 5 LL1 [.null, .null])) _
    refine XS.astoreN X2.here hx rfl (hb hby d29_5) rfl rfl (l' := LL3) rfl ?_
    show Steps p.tables e below (T2.setTop (mkF m 6 LL3 [.null])) _
    refine XS.ifnullYes X2.here hx rfl (pc0 := 6) (pc' := 148) rfl (hb hby d29_6) rfl (by decide) (by decide) ?_
    show Steps p.tables e below (T2.setTop (mkF m 148 LL3 [])) _
    refine XS.aconstNull X2.here hx rfl (hb hby d29_148) ?_
    show Steps p.tables e below (T2.setTop (mkF m 149 LL3 [.null])) _
    exact kk
  obtain ⟨fs, hr, hrun, hended, hW, hsame⟩ := X2.leave (v := some .null) (fun h => by rw [Bd.returns] at h; cases h)
  refine ⟨_, _, P4 _ ?_, hrun, hended, _, _, rfl, ?_, ⟨_, rfl⟩, hW, hsame.mono (by decide) (by decide)⟩
  · exact X2.areturnOut hx rfl Bd.returns rfl (hb hby d29_149) hr
  · show Q29 Z a g h0 n0 _ T2.heap _
    rw [e2]
    exact ⟨rfl, N0, rfl⟩
theorem d30_0 : decode jdk_69_method_12_code 0 = .ok (.aload_n 0, 1) := by decide +kernel
theorem d30_1 : decode jdk_69_method_12_code 1 = .ok (.aload_n 1, 1) := by decide +kernel
theorem d30_2 : decode jdk_69_method_12_code 2 = .ok (.invokevirtual 158, 3) := by decide +kernel
theorem d30_5 : decode jdk_69_method_12_code 5 = .ok (.dup, 1) := by decide +kernel
theorem d30_6 : decode jdk_69_method_12_code 6 = .ok (.astore_n 2, 1) := by decide +kernel
theorem d30_7 : decode jdk_69_method_12_code 7 = .ok (.ifnonnull 7, 3) := by decide +kernel
theorem d30_10 : decode jdk_69_method_12_code 10 = .ok (.aconst_null, 1) := by decide +kernel
theorem d30_11 : decode jdk_69_method_12_code 11 = .ok (.goto 7, 3) := by decide +kernel
theorem d30_18 : decode jdk_69_method_12_code 18 = .ok (.areturn, 1) := by decide +kernel
theorem ef_30 (m : MethodId) (x0 : Addr) (x1 : Addr) : entryFrame m #[(.ref x0), (.ref x1)] 3 = (mkF m 0 #[.val (.ref x0), .val (.ref x1), .unset] []) := by first | (simp [entryFrame, mkF, argsToLocals, Value.category]; done) | rfl
def Q30 (Z : State) (a : Addr) (g : Addr) (h0 : Heap) (n0 : Nat) (vX : Option Value) (hX : Heap) (lX : List Loc) : Prop := vX = some .null ∧ Fr n0 lX ∧ (hX = h0)
set_option maxRecDepth 65536 in
set_option maxHeartbeats 40000000 in
theorem rm30 (l : Launch) (Z : State) (a0 : Array Value) (hw : ∀ d ∈ tables_1, d.before a0 Z = true) (ws : List Jvm.Cond) (a : Addr) (g : Addr) (h0 : Heap) (n0 : Nat) (Z0 : n0 ≤ h0.size) (pr0 : Exa Z h0 a "java/util/HashMap") (pr1 : Fld Z h0 a "java/util/HashMap" "table" "[Ljava/util/HashMap$Node;" .null) :
    MetFree l (⟨"java/util/HashMap", "get", "(Ljava/lang/Object;)Ljava/lang/Object;"⟩ : MethodName) (head1 (Jvm.Cond.code (⟨"java/util/HashMap", "get", "(Ljava/lang/Object;)Ljava/lang/Object;"⟩ : MethodName) jdk_69_method_12_code 3 (some (.object "java/lang/Object")) :: ws) ({ frames := 1, cells := 0, slots := 0, locals := 19 } : Room)) (fun aX uX => aX = #[(.ref a), (.ref g)] ∧ Z.Warmed39 uX.vm ∧ uX.heap = h0) (fun _ _ _ _ _ => True) (fun _ uX oX wX => ∃ vX lX, oX = .returned vX ∧ Q30 Z a g h0 n0 vX wX.heap lX ∧ FrameEnd uX oX wX lX ({ frames := 1, cells := 0, slots := 0, locals := 19 } : Room).cells ({ frames := 1, cells := 0, slots := 0, locals := 19 } : Room).slots) := by
  refine MetFree.of_bodySF (plainFor_of_name pn_2) hisR ?_
  intro p e s m args below meth c s₁ Bd hml0 hP hK
  obtain ⟨rfl, hZ, hh⟩ := hP
  have hx := Bd.exec
  have hby := Bd.bytes
  have hml : c.maxLocals = 3 := hml0
  have hown : s.vm.findClass "java/util/HashMap" = some m.cls := findClass_of_methodNamed Bd.named
  have hnm := (name_of_methodNamed Bd.named Bd.method).1
  have X0 : Stand p l e ({ frames := 1, cells := 0, slots := 0, locals := 19 } : Room) s m #[(.ref a), (.ref g)] below meth c s₁ [] 0 0 := Stand.of_body Bd
  have e0 : s₁.heap = h0 := by rw [← hh, Bd.state]; rfl
  have N0 := Fr.nil n0
  let ST : State := (s₁.setTop (entryFrame m #[(.ref a), (.ref g)] 3))
  have pre0 : ∀ t, Steps p.tables e below (s₁.setTop (mkF m 0 #[.val (.ref a), .val (.ref g), .unset] [])) t → Steps p.tables e below ST t := fun t k => castTop (ef_30 m a g) k
  let LL1 : Array Slot := #[.val (.ref a), .val (.ref g), .unset]
  obtain ⟨cq2, kq2, q2a, q2b, q2c⟩ := isOf hZ e0 pr0
  obtain ⟨_, _, ⟨T2, L2, k2, n2⟩, -, X2, ⟨Lc2, hQ2, l2, y2, z2⟩, st2⟩ := X0.virtualBack hx (y := (⟨"java/util/HashMap", "getNode", "(Ljava/lang/Object;)Ljava/util/HashMap$Node;"⟩ : MethodName)) (z := (⟨"java/util/HashMap", "getNode", "(Ljava/lang/Object;)Ljava/util/HashMap$Node;"⟩ : MethodName)) hown (mvT hZ (hw _ (List.mem_of_getElem? (i := 112) rfl))) (mvT hZ (hw _ (List.mem_of_getElem? (i := 113) rfl))) (notFace_of_selects (args := #[]) (mvT hZ (hw _ (List.mem_of_getElem? (i := 115) rfl)))) (mvT hZ (hw _ (List.mem_of_getElem? (i := 115) rfl))) (mvT hZ (hw _ (List.mem_of_getElem? (i := 114) rfl))) (by decide) (backOf (W := 0) (rm29 l Z a0 hw [] a g h0 n0 Z0 pr1) hZ (hw _ (List.mem_of_getElem? (i := 116) rfl)) (hw _ (List.mem_of_getElem? (i := 42) rfl)) (by decide) (by decide)) q2a q2c (g := (mkF m 2 LL1 [(.ref g), (.ref a)])) rfl (by rw [hml]; rfl) (Steps.refl _) (argsL := [(.ref g)]) (rest := []) (lenOf pd_15 rfl) rfl (by show 2 * 0 + _ ≤ _; exact Nat.le_of_eq rfl) (hb hby d30_2) (fun _ _ => ⟨rfl, e0, (by decide : 0 + 0 ≤ _), (by decide : 0 + 0 ≤ _)⟩)
  dsimp only [Pt.U, Pt.locs, Pt.cells, Pt.slots] at X2 l2 y2 z2 st2 hQ2
  subst l2 y2 z2
  obtain ⟨rfl, Nq2, e2⟩ := hQ2
  have N2 := Fr.app N0 Nq2
  let LL3 : Array Slot := #[.val (.ref a), .val (.ref g), .val .null]
  have P4 : ∀ t, Steps p.tables e below (T2.setTop (mkF m 18 LL3 [.null])) t → Steps p.tables e below ST t := by
    intro t kk
    refine pre0 _ ?_
    show Steps p.tables e below (s₁.setTop (mkF m 0 LL1 [])) _
    refine XS.aloadN X0.here hx rfl (hb hby d30_0) rfl rfl ?_
    show Steps p.tables e below (s₁.setTop (mkF m 1 LL1 [(.ref a)])) _
    refine XS.aloadN X0.here hx rfl (hb hby d30_1) rfl rfl ?_
    show Steps p.tables e below (s₁.setTop (mkF m 2 LL1 [(.ref g), (.ref a)])) _
    refine st2.trans ?_
    show Steps p.tables e below (T2.setTop (mkF m 5 LL1 [.null])) _
    refine XS.dup X2.here hx rfl (hb hby d30_5) rfl rfl ?_
    show Steps p.tables e below (T2.setTop (mkF m 6 LL1 [.null, .null])) _
    refine XS.astoreN X2.here hx rfl (hb hby d30_6) rfl rfl (l' := LL3) rfl ?_
    show Steps p.tables e below (T2.setTop (mkF m 7 LL3 [.null])) _
    refine XS.ifnonnullNo X2.here hx rfl (hb hby d30_7) rfl ?_
    show Steps p.tables e below (T2.setTop (mkF m 10 LL3 [])) _
    refine XS.aconstNull X2.here hx rfl (hb hby d30_10) ?_
    show Steps p.tables e below (T2.setTop (mkF m 11 LL3 [.null])) _
    refine XS.goto X2.here hx rfl (pc0 := 11) (pc' := 18) rfl (hb hby d30_11) (by decide) (by decide) ?_
    show Steps p.tables e below (T2.setTop (mkF m 18 LL3 [.null])) _
    exact kk
  obtain ⟨fs, hr, hrun, hended, hW, hsame⟩ := X2.leave (v := some .null) (fun h => by rw [Bd.returns] at h; cases h)
  refine ⟨_, _, P4 _ ?_, hrun, hended, _, _, rfl, ?_, ⟨_, rfl⟩, hW, hsame.mono (by decide) (by decide)⟩
  · exact X2.areturnOut hx rfl Bd.returns rfl (hb hby d30_18) hr
  · show Q30 Z a g h0 n0 _ T2.heap _
    rw [e2]
    exact ⟨rfl, N2, rfl⟩
theorem d31_0 : decode jdk_69_method_10_code 0 = .ok (.aload_n 0, 1) := by decide +kernel
theorem d31_1 : decode jdk_69_method_10_code 1 = .ok (.getfield 156, 3) := by decide +kernel
theorem d31_4 : decode jdk_69_method_10_code 4 = .ok (.ireturn, 1) := by decide +kernel
theorem ef_31 (m : MethodId) (x0 : Addr) : entryFrame m #[(.ref x0)] 1 = (mkF m 0 #[.val (.ref x0)] []) := by first | (simp [entryFrame, mkF, argsToLocals, Value.category]; done) | rfl
def Q31 (Z : State) (a : Addr) (sz : Int32) (h0 : Heap) (n0 : Nat) (vX : Option Value) (hX : Heap) (lX : List Loc) : Prop := vX = some (.int sz) ∧ Fr n0 lX ∧ (hX = h0)
set_option maxRecDepth 65536 in
set_option maxHeartbeats 40000000 in
theorem rm31 (l : Launch) (Z : State) (a0 : Array Value) (hw : ∀ d ∈ tables_1, d.before a0 Z = true) (ws : List Jvm.Cond) (a : Addr) (sz : Int32) (h0 : Heap) (n0 : Nat) (Z0 : n0 ≤ h0.size) (pr0 : Fld Z h0 a "java/util/HashMap" "size" "I" (.int sz)) :
    MetFree l (⟨"java/util/HashMap", "size", "()I"⟩ : MethodName) (head1 (Jvm.Cond.code (⟨"java/util/HashMap", "size", "()I"⟩ : MethodName) jdk_69_method_10_code 1 (some .int) :: ws) ({ frames := 0, cells := 0, slots := 0, locals := 0 } : Room)) (fun aX uX => aX = #[(.ref a)] ∧ Z.Warmed39 uX.vm ∧ uX.heap = h0) (fun _ _ _ _ _ => True) (fun _ uX oX wX => ∃ vX lX, oX = .returned vX ∧ Q31 Z a sz h0 n0 vX wX.heap lX ∧ FrameEnd uX oX wX lX ({ frames := 0, cells := 0, slots := 0, locals := 0 } : Room).cells ({ frames := 0, cells := 0, slots := 0, locals := 0 } : Room).slots) := by
  refine MetFree.of_bodySF (plainFor_of_name pn_2) hisR ?_
  intro p e s m args below meth c s₁ Bd hml0 hP hK
  obtain ⟨rfl, hZ, hh⟩ := hP
  have hx := Bd.exec
  have hby := Bd.bytes
  have hml : c.maxLocals = 1 := hml0
  have hown : s.vm.findClass "java/util/HashMap" = some m.cls := findClass_of_methodNamed Bd.named
  have hnm := (name_of_methodNamed Bd.named Bd.method).1
  have X0 : Stand p l e ({ frames := 0, cells := 0, slots := 0, locals := 0 } : Room) s m #[(.ref a)] below meth c s₁ [] 0 0 := Stand.of_body Bd
  have e0 : s₁.heap = h0 := by rw [← hh, Bd.state]; rfl
  have N0 := Fr.nil n0
  let ST : State := (s₁.setTop (entryFrame m #[(.ref a)] 1))
  have pre0 : ∀ t, Steps p.tables e below (s₁.setTop (mkF m 0 #[.val (.ref a)] [])) t → Steps p.tables e below ST t := fun t k => castTop (ef_31 m a) k
  let LL1 : Array Slot := #[.val (.ref a)]
  obtain ⟨T2, X2, e2, st2⟩ := getF X0 hx hZ hown (host := "") (Or.inl (hw _ (List.mem_of_getElem? (i := 163) rfl))) Via.refl e0 pr0 (g := (mkF m 1 LL1 [(.ref a)])) rfl rfl (hb hby d31_1)
  have P3 : ∀ t, Steps p.tables e below (T2.setTop (mkF m 4 LL1 [(.int sz)])) t → Steps p.tables e below ST t := by
    intro t kk
    refine pre0 _ ?_
    show Steps p.tables e below (s₁.setTop (mkF m 0 LL1 [])) _
    refine XS.aloadN X0.here hx rfl (hb hby d31_0) rfl rfl ?_
    show Steps p.tables e below (s₁.setTop (mkF m 1 LL1 [(.ref a)])) _
    refine st2 _ ?_
    show Steps p.tables e below (T2.setTop (mkF m 4 LL1 [(.int sz)])) _
    exact kk
  obtain ⟨fs, hr, hrun, hended, hW, hsame⟩ := X2.leave (v := some (.int sz)) (fun h => by rw [Bd.returns] at h; cases h)
  refine ⟨_, _, P3 _ ?_, hrun, hended, _, _, rfl, ?_, ⟨_, rfl⟩, hW, hsame.mono (by decide) (by decide)⟩
  · exact retI X2 hx Bd.returns (hb hby d31_4) hr
  · show Q31 Z a sz h0 n0 _ T2.heap _
    rw [e2]
    exact ⟨rfl, N0, rfl⟩
theorem d32_0 : decode jdk_33_method_22_code 0 = .ok (.iload_n 0, 1) := by decide +kernel
theorem d32_1 : decode jdk_33_method_22_code 1 = .ok (.bipush (-128), 2) := by decide +kernel
theorem d32_3 : decode jdk_33_method_22_code 3 = .ok (.if_icmp .lt 20, 3) := by decide +kernel
theorem d32_6 : decode jdk_33_method_22_code 6 = .ok (.iload_n 0, 1) := by decide +kernel
theorem d32_7 : decode jdk_33_method_22_code 7 = .ok (.getstatic 191, 3) := by decide +kernel
theorem d32_10 : decode jdk_33_method_22_code 10 = .ok (.if_icmp .gt 13, 3) := by decide +kernel
theorem d32_13 : decode jdk_33_method_22_code 13 = .ok (.getstatic 195, 3) := by decide +kernel
theorem d32_16 : decode jdk_33_method_22_code 16 = .ok (.iload_n 0, 1) := by decide +kernel
theorem d32_17 : decode jdk_33_method_22_code 17 = .ok (.sipush 128, 3) := by decide +kernel
theorem d32_20 : decode jdk_33_method_22_code 20 = .ok (.iadd, 1) := by decide +kernel
theorem d32_21 : decode jdk_33_method_22_code 21 = .ok (.aaload, 1) := by decide +kernel
theorem d32_22 : decode jdk_33_method_22_code 22 = .ok (.areturn, 1) := by decide +kernel
theorem ef_32 (m : MethodId) (x0 : Int32) : entryFrame m #[(.int x0)] 1 = (mkF m 0 #[.val (.int x0)] []) := by first | (simp [entryFrame, mkF, argsToLocals, Value.category]; done) | rfl
def Q32 (Z : State) (ca : Addr) (h0 : Heap) (n0 : Nat) (vX : Option Value) (hX : Heap) (lX : List Loc) : Prop := ∃ (r : Value), vX = some r ∧ Fr n0 lX ∧ (hX = h0) ∧ (r.isRef = true)
set_option maxRecDepth 65536 in
set_option maxHeartbeats 40000000 in
theorem rm32 (l : Launch) (Z : State) (a0 : Array Value) (hw : ∀ d ∈ tables_1, d.before a0 Z = true) (ws : List Jvm.Cond) (ca : Addr) (h0 : Heap) (n0 : Nat) (Z0 : n0 ≤ h0.size) (pr0 : Sta Z h0 "java/lang/Integer$IntegerCache" "high" "I" (.int (127 : Int32))) (pr1 : Sta Z h0 "java/lang/Integer$IntegerCache" "cache" "[Ljava/lang/Integer;" (.ref ca)) (pr2 : Cac Z h0 ca "java/lang/Integer") :
    MetFree l (⟨"java/lang/Integer", "valueOf", "(I)Ljava/lang/Integer;"⟩ : MethodName) (head1 (Jvm.Cond.code (⟨"java/lang/Integer", "valueOf", "(I)Ljava/lang/Integer;"⟩ : MethodName) jdk_33_method_22_code 1 (some (.object "java/lang/Integer")) :: ws) ({ frames := 0, cells := 0, slots := 0, locals := 0 } : Room)) (fun aX uX => aX = #[(.int (0 : Int32))] ∧ Z.Warmed39 uX.vm ∧ uX.heap = h0) (fun _ _ _ _ _ => True) (fun _ uX oX wX => ∃ vX lX, oX = .returned vX ∧ Q32 Z ca h0 n0 vX wX.heap lX ∧ FrameEnd uX oX wX lX ({ frames := 0, cells := 0, slots := 0, locals := 0 } : Room).cells ({ frames := 0, cells := 0, slots := 0, locals := 0 } : Room).slots) := by
  refine MetFree.of_bodySF (plainFor_of_name pn_9) hisR ?_
  intro p e s m args below meth c s₁ Bd hml0 hP hK
  obtain ⟨rfl, hZ, hh⟩ := hP
  have hx := Bd.exec
  have hby := Bd.bytes
  have hml : c.maxLocals = 1 := hml0
  have hown : s.vm.findClass "java/lang/Integer" = some m.cls := findClass_of_methodNamed Bd.named
  have hnm := (name_of_methodNamed Bd.named Bd.method).1
  have X0 : Stand p l e ({ frames := 0, cells := 0, slots := 0, locals := 0 } : Room) s m #[(.int (0 : Int32))] below meth c s₁ [] 0 0 := Stand.of_body Bd
  have e0 : s₁.heap = h0 := by rw [← hh, Bd.state]; rfl
  have N0 := Fr.nil n0
  let ST : State := (s₁.setTop (entryFrame m #[(.int (0 : Int32))] 1))
  have pre0 : ∀ t, Steps p.tables e below (s₁.setTop (mkF m 0 #[.val (.int (0 : Int32))] [])) t → Steps p.tables e below ST t := fun t k => castTop (ef_32 m (0 : Int32)) k
  let LL1 : Array Slot := #[.val (.int (0 : Int32))]
  obtain ⟨T2, X2, e2, st2⟩ := getS2 X0 hx hZ hown (host := "") (Or.inl (hw _ (List.mem_of_getElem? (i := 170) rfl))) Via.refl e0 pr0 (g := (mkF m 7 LL1 [(.int (0 : Int32))])) rfl (hb hby d32_7)
  obtain ⟨T3, X3, e3, st3⟩ := getS2 X2 hx hZ hown (host := "") (Or.inl (hw _ (List.mem_of_getElem? (i := 172) rfl))) Via.refl e2 pr1 (g := (mkF m 13 LL1 [])) rfl (hb hby d32_13)
  obtain ⟨cl4, Ar4, S4, H4⟩ := id pr2
  obtain ⟨v4, hv4, rv4⟩ := H4 _ (by decide : ((128 : Int32)).toNatClampNeg < 256)
  have P5 : ∀ t, Steps p.tables e below (T3.setTop (mkF m 22 LL1 [v4])) t → Steps p.tables e below ST t := by
    intro t kk
    refine pre0 _ ?_
    show Steps p.tables e below (s₁.setTop (mkF m 0 LL1 [])) _
    refine XS.iloadN X0.here hx rfl (hb hby d32_0) rfl ?_
    show Steps p.tables e below (s₁.setTop (mkF m 1 LL1 [(.int (0 : Int32))])) _
    refine XT.bipushV X0.here hx rfl (-128 : Int32) (hb hby d32_1) (by decide) ?_
    show Steps p.tables e below (s₁.setTop (mkF m 3 LL1 [(.int (-128 : Int32)), (.int (0 : Int32))])) _
    refine XS.icmpNo X0.here hx rfl (hb hby d32_3) rfl (XT.ii_lt_f (by decide)) ?_
    show Steps p.tables e below (s₁.setTop (mkF m 6 LL1 [])) _
    refine XS.iloadN X0.here hx rfl (hb hby d32_6) rfl ?_
    show Steps p.tables e below (s₁.setTop (mkF m 7 LL1 [(.int (0 : Int32))])) _
    refine st2 _ ?_
    show Steps p.tables e below (T2.setTop (mkF m 10 LL1 [(.int (127 : Int32)), (.int (0 : Int32))])) _
    refine XS.icmpNo X2.here hx rfl (hb hby d32_10) rfl (XT.ii_gt_f (by decide)) ?_
    show Steps p.tables e below (T2.setTop (mkF m 13 LL1 [])) _
    refine st3 _ ?_
    show Steps p.tables e below (T3.setTop (mkF m 16 LL1 [(.ref ca)])) _
    refine XS.iloadN X3.here hx rfl (hb hby d32_16) rfl ?_
    show Steps p.tables e below (T3.setTop (mkF m 17 LL1 [(.int (0 : Int32)), (.ref ca)])) _
    refine XS.sipush X3.here hx rfl (hb hby d32_17) ?_
    show Steps p.tables e below (T3.setTop (mkF m 20 LL1 [(.int (128 : Int32)), (.int (0 : Int32)), (.ref ca)])) _
    refine XS.iadd X3.here hx rfl (hb hby d32_20) rfl ?_
    show Steps p.tables e below (T3.setTop (mkF m 21 LL1 [(.int (128 : Int32)), (.ref ca)])) _
    refine X3.aaload hx (j := (128 : Int32)) (v := v4) (by rw [e3]; exact Ar4.1) (State.isArrayOf_alike hZ.alike Ar4.2.1) rfl Ar4.2.2 (fun q => q.elim (by decide) (fun r => absurd (by decide : ((128 : Int32)).toNatClampNeg < 256) (by rw [S4] at r; omega))) hv4 (g := (mkF m 21 LL1 [(.int (128 : Int32)), (.ref ca)])) rfl rfl (hb hby d32_21) _ ?_
    show Steps p.tables e below (T3.setTop (mkF m 22 LL1 [v4])) _
    exact kk
  obtain ⟨fs, hr, hrun, hended, hW, hsame⟩ := X3.leave (v := some v4) (fun h => by rw [Bd.returns] at h; cases h)
  refine ⟨_, _, P5 _ ?_, hrun, hended, _, _, rfl, ?_, ⟨_, rfl⟩, hW, hsame.mono (by decide) (by decide)⟩
  · exact X3.areturnOut hx rv4 Bd.returns rfl (hb hby d32_22) hr
  · show Q32 Z ca h0 n0 _ T3.heap _
    rw [e3]
    exact ⟨v4, rfl, N0, rfl, rv4⟩
theorem d33_0 : decode jdk_70_method_1_code 0 = .ok (.aload_n 0, 1) := by decide +kernel
theorem d33_1 : decode jdk_70_method_1_code 1 = .ok (.invokespecial 1, 3) := by decide +kernel
theorem d33_4 : decode jdk_70_method_1_code 4 = .ok (.aload_n 0, 1) := by decide +kernel
theorem d33_5 : decode jdk_70_method_1_code 5 = .ok (.iload_n 1, 1) := by decide +kernel
theorem d33_6 : decode jdk_70_method_1_code 6 = .ok (.putfield 7, 3) := by decide +kernel
theorem d33_9 : decode jdk_70_method_1_code 9 = .ok (.aload_n 0, 1) := by decide +kernel
theorem d33_10 : decode jdk_70_method_1_code 10 = .ok (.aload_n 2, 1) := by decide +kernel
theorem d33_11 : decode jdk_70_method_1_code 11 = .ok (.putfield 13, 3) := by decide +kernel
theorem d33_14 : decode jdk_70_method_1_code 14 = .ok (.aload_n 0, 1) := by decide +kernel
theorem d33_15 : decode jdk_70_method_1_code 15 = .ok (.aload_n 3, 1) := by decide +kernel
theorem d33_16 : decode jdk_70_method_1_code 16 = .ok (.putfield 17, 3) := by decide +kernel
theorem d33_19 : decode jdk_70_method_1_code 19 = .ok (.aload_n 0, 1) := by decide +kernel
theorem d33_20 : decode jdk_70_method_1_code 20 = .ok (.aload 4, 2) := by decide +kernel
theorem d33_22 : decode jdk_70_method_1_code 22 = .ok (.putfield 20, 3) := by decide +kernel
theorem d33_25 : decode jdk_70_method_1_code 25 = .ok (.return_, 1) := by decide +kernel
theorem ef_33 (m : MethodId) (x0 : Addr) (x1 : Int32) (x2 : Addr) (x3 : Value) (r_x3 : x3.isRef = true) : entryFrame m #[(.ref x0), (.int x1), (.ref x2), x3, .null] 5 = (mkF m 0 #[.val (.ref x0), .val (.int x1), .val (.ref x2), .val x3, .val .null] []) := by cases x3 <;> first | (cases r_x3; done) | (simp [entryFrame, mkF, argsToLocals, Value.category]; done) | rfl
def Q33 (Z : State) (a : Addr) (hk : Int32) (g : Addr) (v : Value) (h0 : Heap) (n0 : Nat) (vX : Option Value) (hX : Heap) (lX : List Loc) : Prop := vX = none ∧ Fr n0 lX ∧ (Keep h0 hX [a])
set_option maxRecDepth 65536 in
set_option maxHeartbeats 40000000 in
theorem rm33 (l : Launch) (Z : State) (a0 : Array Value) (hw : ∀ d ∈ tables_1, d.before a0 Z = true) (ws : List Jvm.Cond) (a : Addr) (hk : Int32) (g : Addr) (v : Value) (h0 : Heap) (n0 : Nat) (Z0 : n0 ≤ h0.size) (pr0 : Exa Z h0 a "java/util/HashMap$Node") (pr1 : Fld Z h0 a "java/util/HashMap$Node" "hash" "I" (.int (0 : Int32))) (pr2 : Fld Z h0 a "java/util/HashMap$Node" "key" "Ljava/lang/Object;" .null) (pr3 : Fld Z h0 a "java/util/HashMap$Node" "value" "Ljava/lang/Object;" .null) (pr4 : Fld Z h0 a "java/util/HashMap$Node" "next" "Ljava/util/HashMap$Node;" .null) (pr5 : n0 ≤ a) (pr6 : v.isRef = true) :
    MetFree l (⟨"java/util/HashMap$Node", "<init>", "(ILjava/lang/Object;Ljava/lang/Object;Ljava/util/HashMap$Node;)V"⟩ : MethodName) (head1 (Jvm.Cond.code (⟨"java/util/HashMap$Node", "<init>", "(ILjava/lang/Object;Ljava/lang/Object;Ljava/util/HashMap$Node;)V"⟩ : MethodName) jdk_70_method_1_code 5 none :: ws) ({ frames := 1, cells := 0, slots := 0, locals := 12 } : Room)) (fun aX uX => aX = #[(.ref a), (.int hk), (.ref g), v, .null] ∧ Z.Warmed39 uX.vm ∧ uX.heap = h0) (fun _ _ _ _ _ => True) (fun _ uX oX wX => ∃ vX lX, oX = .returned vX ∧ Q33 Z a hk g v h0 n0 vX wX.heap lX ∧ FrameEnd uX oX wX lX ({ frames := 1, cells := 0, slots := 0, locals := 12 } : Room).cells ({ frames := 1, cells := 0, slots := 0, locals := 12 } : Room).slots) := by
  refine MetFree.of_bodySF (plainFor_of_name pn_10) hisR ?_
  intro p e s m args below meth c s₁ Bd hml0 hP hK
  obtain ⟨rfl, hZ, hh⟩ := hP
  have hx := Bd.exec
  have hby := Bd.bytes
  have hml : c.maxLocals = 5 := hml0
  have hown : s.vm.findClass "java/util/HashMap$Node" = some m.cls := findClass_of_methodNamed Bd.named
  have hnm := (name_of_methodNamed Bd.named Bd.method).1
  have X0 : Stand p l e ({ frames := 1, cells := 0, slots := 0, locals := 12 } : Room) s m #[(.ref a), (.int hk), (.ref g), v, .null] below meth c s₁ [] 0 0 := Stand.of_body Bd
  have e0 : s₁.heap = h0 := by rw [← hh, Bd.state]; rfl
  have N0 := Fr.nil n0
  let ST : State := (s₁.setTop (entryFrame m #[(.ref a), (.int hk), (.ref g), v, .null] 5))
  have pre0 : ∀ t, Steps p.tables e below (s₁.setTop (mkF m 0 #[.val (.ref a), .val (.int hk), .val (.ref g), .val v, .val .null] [])) t → Steps p.tables e below ST t := fun t k => castTop (ef_33 m a hk g v pr6) k
  let LL1 : Array Slot := #[.val (.ref a), .val (.int hk), .val (.ref g), .val v, .val .null]
  obtain ⟨T2, X2, e2, st2⟩ := initO X0 hx hZ hown (hw _ (List.mem_of_getElem? (i := 236) rfl)) (hw _ (List.mem_of_getElem? (i := 12) rfl)) (hw _ (List.mem_of_getElem? (i := 13) rfl)) e0 (g := (mkF m 1 LL1 [(.ref a)])) rfl (by rw [hml]; rfl) rfl (hb hby d33_1) (by decide) (W := 0) (by show 2 * 0 + _ ≤ _; exact Nat.le_of_eq rfl) (by decide)
  obtain ⟨T3, h3, X3, e3, W3, st3⟩ := putF X2 hx hZ hown (host := "") (Or.inl (hw _ (List.mem_of_getElem? (i := 237) rfl))) Via.refl e2 pr1 pr0 (Or.inr ⟨(hw _ (List.mem_of_getElem? (i := 238) rfl)), rfl, hnm⟩) (hw _ (List.mem_of_getElem? (i := 230) rfl)) (ty := .int) (by decide) rfl rfl (g := (mkF m 6 LL1 [(.int hk), (.ref a)])) rfl rfl (hb hby d33_6)
  have N3 := Fr.snoc X3 N0 pr5
  have Fw3 := Fld.same W3 pr1
  have f4 := (Exa.wr W3 pr0)
  have f5 := (Fld.other W3 pr2 (Or.inr (slot_ne (Or.inr (hw _ (List.mem_of_getElem? (i := 240) rfl))) (Or.inr (hw _ (List.mem_of_getElem? (i := 238) rfl))) (by decide) (t := (.object "java/lang/Object")) (t' := .int) (by decide) (by decide))))
  obtain ⟨T6, h6, X6, e6, W6, st6⟩ := putF X3 hx hZ hown (host := "") (Or.inl (hw _ (List.mem_of_getElem? (i := 239) rfl))) Via.refl e3 f5 f4 (Or.inr ⟨(hw _ (List.mem_of_getElem? (i := 240) rfl)), rfl, hnm⟩) (hw _ (List.mem_of_getElem? (i := 230) rfl)) (ty := (.object "java/lang/Object")) (by decide) rfl rfl (g := (mkF m 11 LL1 [(.ref g), (.ref a)])) rfl rfl (hb hby d33_11)
  have N6 := Fr.snoc X6 N3 pr5
  have Fw6 := Fld.same W6 f5
  have f7 := (Exa.wr W6 f4)
  have f8 := (Fld.other W6 (Fld.other W3 pr3 (Or.inr (slot_ne (Or.inl (hw _ (List.mem_of_getElem? (i := 242) rfl))) (Or.inr (hw _ (List.mem_of_getElem? (i := 238) rfl))) (by decide) (t := (.object "java/lang/Object")) (t' := .int) (by decide) (by decide)))) (Or.inr (slot_ne (Or.inl (hw _ (List.mem_of_getElem? (i := 242) rfl))) (Or.inr (hw _ (List.mem_of_getElem? (i := 240) rfl))) (by decide) (t := (.object "java/lang/Object")) (t' := (.object "java/lang/Object")) (by decide) (by decide))))
  obtain ⟨T9, h9, X9, e9, W9, st9⟩ := putF X6 hx hZ hown (host := "") (Or.inl (hw _ (List.mem_of_getElem? (i := 241) rfl))) Via.refl e6 f8 f7 (Or.inl (hw _ (List.mem_of_getElem? (i := 242) rfl))) (hw _ (List.mem_of_getElem? (i := 230) rfl)) (ty := (.object "java/lang/Object")) (by decide) (own_narrow_ref pr6) (own_fits_ref pr6) (g := (mkF m 16 LL1 [v, (.ref a)])) rfl rfl (hb hby d33_16)
  have N9 := Fr.snoc X9 N6 pr5
  have Fw9 := Fld.same W9 f8
  have f10 := (Exa.wr W9 f7)
  have f11 := (Fld.other W9 (Fld.other W6 (Fld.other W3 pr4 (Or.inr (slot_ne (Or.inl (hw _ (List.mem_of_getElem? (i := 244) rfl))) (Or.inr (hw _ (List.mem_of_getElem? (i := 238) rfl))) (by decide) (t := (.object "java/util/HashMap$Node")) (t' := .int) (by decide) (by decide)))) (Or.inr (slot_ne (Or.inl (hw _ (List.mem_of_getElem? (i := 244) rfl))) (Or.inr (hw _ (List.mem_of_getElem? (i := 240) rfl))) (by decide) (t := (.object "java/util/HashMap$Node")) (t' := (.object "java/lang/Object")) (by decide) (by decide)))) (Or.inr (slot_ne (Or.inl (hw _ (List.mem_of_getElem? (i := 244) rfl))) (Or.inl (hw _ (List.mem_of_getElem? (i := 242) rfl))) (by decide) (t := (.object "java/util/HashMap$Node")) (t' := (.object "java/lang/Object")) (by decide) (by decide))))
  obtain ⟨T12, h12, X12, e12, W12, st12⟩ := putF X9 hx hZ hown (host := "") (Or.inl (hw _ (List.mem_of_getElem? (i := 243) rfl))) Via.refl e9 f11 f10 (Or.inl (hw _ (List.mem_of_getElem? (i := 244) rfl))) (hw _ (List.mem_of_getElem? (i := 230) rfl)) (ty := (.object "java/util/HashMap$Node")) (by decide) rfl rfl (g := (mkF m 22 LL1 [.null, (.ref a)])) rfl rfl (hb hby d33_22)
  have N12 := Fr.snoc X12 N9 pr5
  have Fw12 := Fld.same W12 f11
  have P13 : ∀ t, Steps p.tables e below (T12.setTop (mkF m 25 LL1 [])) t → Steps p.tables e below ST t := by
    intro t kk
    refine pre0 _ ?_
    show Steps p.tables e below (s₁.setTop (mkF m 0 LL1 [])) _
    refine XS.aloadN X0.here hx rfl (hb hby d33_0) rfl rfl ?_
    show Steps p.tables e below (s₁.setTop (mkF m 1 LL1 [(.ref a)])) _
    refine st2 _ ?_
    show Steps p.tables e below (T2.setTop (mkF m 4 LL1 [])) _
    refine XS.aloadN X2.here hx rfl (hb hby d33_4) rfl rfl ?_
    show Steps p.tables e below (T2.setTop (mkF m 5 LL1 [(.ref a)])) _
    refine XS.iloadN X2.here hx rfl (hb hby d33_5) rfl ?_
    show Steps p.tables e below (T2.setTop (mkF m 6 LL1 [(.int hk), (.ref a)])) _
    refine st3 _ ?_
    show Steps p.tables e below (T3.setTop (mkF m 9 LL1 [])) _
    refine XS.aloadN X3.here hx rfl (hb hby d33_9) rfl rfl ?_
    show Steps p.tables e below (T3.setTop (mkF m 10 LL1 [(.ref a)])) _
    refine XS.aloadN X3.here hx rfl (hb hby d33_10) rfl rfl ?_
    show Steps p.tables e below (T3.setTop (mkF m 11 LL1 [(.ref g), (.ref a)])) _
    refine st6 _ ?_
    show Steps p.tables e below (T6.setTop (mkF m 14 LL1 [])) _
    refine XS.aloadN X6.here hx rfl (hb hby d33_14) rfl rfl ?_
    show Steps p.tables e below (T6.setTop (mkF m 15 LL1 [(.ref a)])) _
    refine XS.aloadN X6.here hx rfl (hb hby d33_15) rfl pr6 ?_
    show Steps p.tables e below (T6.setTop (mkF m 16 LL1 [v, (.ref a)])) _
    refine st9 _ ?_
    show Steps p.tables e below (T9.setTop (mkF m 19 LL1 [])) _
    refine XS.aloadN X9.here hx rfl (hb hby d33_19) rfl rfl ?_
    show Steps p.tables e below (T9.setTop (mkF m 20 LL1 [(.ref a)])) _
    refine XS.aload X9.here hx rfl (hb hby d33_20) rfl rfl ?_
    show Steps p.tables e below (T9.setTop (mkF m 22 LL1 [.null, (.ref a)])) _
    refine st12 _ ?_
    show Steps p.tables e below (T12.setTop (mkF m 25 LL1 [])) _
    exact kk
  have k14 : Keep h0 h12 [a] := (Keep.wr (Keep.wr (Keep.wr (Keep.wr (Keep.refl h0 [a]) W3 (Or.inl (List.mem_of_getElem? (i := 0) rfl))) W6 (Or.inl (List.mem_of_getElem? (i := 0) rfl))) W9 (Or.inl (List.mem_of_getElem? (i := 0) rfl))) W12 (Or.inl (List.mem_of_getElem? (i := 0) rfl)))
  obtain ⟨fs, hr, hrun, hended, hW, hsame⟩ := X12.leave (v := none) (fun _ => rfl)
  refine ⟨_, _, P13 _ ?_, hrun, hended, _, _, rfl, ?_, ⟨_, rfl⟩, hW, hsame.mono (by decide) (by decide)⟩
  · exact X12.returnOut hx Bd.returns (hb hby d33_25) hr
  · show Q33 Z a hk g v h0 n0 _ T12.heap _
    rw [e12]
    exact ⟨rfl, N12, k14⟩
theorem d34_0 : decode jdk_69_method_46_code 0 = .ok (.new 163, 3) := by decide +kernel
theorem d34_3 : decode jdk_69_method_46_code 3 = .ok (.dup, 1) := by decide +kernel
theorem d34_4 : decode jdk_69_method_46_code 4 = .ok (.iload_n 1, 1) := by decide +kernel
theorem d34_5 : decode jdk_69_method_46_code 5 = .ok (.aload_n 2, 1) := by decide +kernel
theorem d34_6 : decode jdk_69_method_46_code 6 = .ok (.aload_n 3, 1) := by decide +kernel
theorem d34_7 : decode jdk_69_method_46_code 7 = .ok (.aload 4, 2) := by decide +kernel
theorem d34_9 : decode jdk_69_method_46_code 9 = .ok (.invokespecial 375, 3) := by decide +kernel
theorem d34_12 : decode jdk_69_method_46_code 12 = .ok (.areturn, 1) := by decide +kernel
theorem ef_34 (m : MethodId) (x0 : Addr) (x1 : Int32) (x2 : Addr) (x3 : Value) (r_x3 : x3.isRef = true) : entryFrame m #[(.ref x0), (.int x1), (.ref x2), x3, .null] 5 = (mkF m 0 #[.val (.ref x0), .val (.int x1), .val (.ref x2), .val x3, .val .null] []) := by cases x3 <;> first | (cases r_x3; done) | (simp [entryFrame, mkF, argsToLocals, Value.category]; done) | rfl
def Q34 (Z : State) (a : Addr) (hk : Int32) (g : Addr) (v : Value) (h0 : Heap) (n0 : Nat) (vX : Option Value) (hX : Heap) (lX : List Loc) : Prop := ∃ (r : Addr), vX = some (.ref r) ∧ Fr n0 lX ∧ (Keep h0 hX []) ∧ (Exa Z hX r "java/util/HashMap$Node") ∧ (h0.size ≤ r)
set_option maxRecDepth 65536 in
set_option maxHeartbeats 40000000 in
theorem rm34 (l : Launch) (Z : State) (a0 : Array Value) (hw : ∀ d ∈ tables_1, d.before a0 Z = true) (ws : List Jvm.Cond) (a : Addr) (hk : Int32) (g : Addr) (v : Value) (h0 : Heap) (n0 : Nat) (Z0 : n0 ≤ h0.size) (pr0 : v.isRef = true) :
    MetFree l (⟨"java/util/HashMap", "newNode", "(ILjava/lang/Object;Ljava/lang/Object;Ljava/util/HashMap$Node;)Ljava/util/HashMap$Node;"⟩ : MethodName) (head1 (Jvm.Cond.code (⟨"java/util/HashMap", "newNode", "(ILjava/lang/Object;Ljava/lang/Object;Ljava/util/HashMap$Node;)Ljava/util/HashMap$Node;"⟩ : MethodName) jdk_69_method_46_code 5 (some (.object "java/util/HashMap$Node")) :: ws) ({ frames := 2, cells := 1, slots := 4, locals := 29 } : Room)) (fun aX uX => aX = #[(.ref a), (.int hk), (.ref g), v, .null] ∧ Z.Warmed39 uX.vm ∧ uX.heap = h0) (fun _ _ _ _ _ => True) (fun _ uX oX wX => ∃ vX lX, oX = .returned vX ∧ Q34 Z a hk g v h0 n0 vX wX.heap lX ∧ FrameEnd uX oX wX lX ({ frames := 2, cells := 1, slots := 4, locals := 29 } : Room).cells ({ frames := 2, cells := 1, slots := 4, locals := 29 } : Room).slots) := by
  refine MetFree.of_bodySF (plainFor_of_name pn_2) hisR ?_
  intro p e s m args below meth c s₁ Bd hml0 hP hK
  obtain ⟨rfl, hZ, hh⟩ := hP
  have hx := Bd.exec
  have hby := Bd.bytes
  have hml : c.maxLocals = 5 := hml0
  have hown : s.vm.findClass "java/util/HashMap" = some m.cls := findClass_of_methodNamed Bd.named
  have hnm := (name_of_methodNamed Bd.named Bd.method).1
  have X0 : Stand p l e ({ frames := 2, cells := 1, slots := 4, locals := 29 } : Room) s m #[(.ref a), (.int hk), (.ref g), v, .null] below meth c s₁ [] 0 0 := Stand.of_body Bd
  have e0 : s₁.heap = h0 := by rw [← hh, Bd.state]; rfl
  have N0 := Fr.nil n0
  let ST : State := (s₁.setTop (entryFrame m #[(.ref a), (.int hk), (.ref g), v, .null] 5))
  have pre0 : ∀ t, Steps p.tables e below (s₁.setTop (mkF m 0 #[.val (.ref a), .val (.int hk), .val (.ref g), .val v, .val .null] [])) t → Steps p.tables e below ST t := fun t k => castTop (ef_34 m a hk g v pr0) k
  let LL1 : Array Slot := #[.val (.ref a), .val (.int hk), .val (.ref g), .val v, .val .null]
  obtain ⟨T2, h2, X2, e2, E2, A2, D2, -, st2⟩ := newO X0 hx hZ hown (hw _ (List.mem_of_getElem? (i := 223) rfl)) (hw _ (List.mem_of_getElem? (i := 230) rfl)) (hw _ (List.mem_of_getElem? (i := 231) rfl)) e0 (g := (mkF m 0 LL1 [])) rfl (hb hby d34_0) (by decide) (by decide)
  obtain ⟨b2, g_b2⟩ : ∃ z, z = h0.size := ⟨_, rfl⟩
  rw [← g_b2] at A2 D2 st2
  have ge_b2 : n0 ≤ b2 := Nat.le_trans Z0 (Nat.le_of_eq g_b2.symm)
  have sz_b2 : h0.size ≤ b2 := Nat.le_trans (Keep.refl h0 []).1 (Nat.le_of_eq g_b2.symm)
  have F2_238 : Fld Z h2 b2 "java/util/HashMap$Node" "hash" "I" (.int (0 : Int32)) := D2 (Or.inr (hw _ (List.mem_of_getElem? (i := 238) rfl))) (ty := .int) (by decide)
  have F2_240 : Fld Z h2 b2 "java/util/HashMap$Node" "key" "Ljava/lang/Object;" .null := D2 (Or.inr (hw _ (List.mem_of_getElem? (i := 240) rfl))) (ty := (.object "java/lang/Object")) (by decide)
  have F2_242 : Fld Z h2 b2 "java/util/HashMap$Node" "value" "Ljava/lang/Object;" .null := D2 (Or.inl (hw _ (List.mem_of_getElem? (i := 242) rfl))) (ty := (.object "java/lang/Object")) (by decide)
  have F2_244 : Fld Z h2 b2 "java/util/HashMap$Node" "next" "Ljava/util/HashMap$Node;" .null := D2 (Or.inl (hw _ (List.mem_of_getElem? (i := 244) rfl))) (ty := (.object "java/util/HashMap$Node")) (by decide)
  have z4 : n0 ≤ _ := (Nat.le_trans Z0 E2.1)
  obtain ⟨_, _, ⟨T3, L3, k3, n3⟩, -, X3, ⟨Lc3, hQ3, l3, y3, z3⟩, st3⟩ := X2.specialBack hx (y := (⟨"java/util/HashMap$Node", "<init>", "(ILjava/lang/Object;Ljava/lang/Object;Ljava/util/HashMap$Node;)V"⟩ : MethodName)) rfl hown (mvT hZ (hw _ (List.mem_of_getElem? (i := 232) rfl))) (mvT hZ (hw _ (List.mem_of_getElem? (i := 233) rfl))) (mvT hZ (hw _ (List.mem_of_getElem? (i := 235) rfl))) (by decide) (backOf (W := 1) (rm33 l Z a0 hw [] b2 hk g v h2 n0 z4 A2 F2_238 F2_240 F2_242 F2_244 ge_b2 pr0) hZ (hw _ (List.mem_of_getElem? (i := 235) rfl)) (hw _ (List.mem_of_getElem? (i := 231) rfl)) (by decide) (by decide)) (g := (mkF m 9 LL1 [.null, v, (.ref g), (.int hk), (.ref b2), (.ref b2)])) rfl (by rw [hml]; rfl) (Steps.refl _) (a := b2) (argsL := [(.int hk), (.ref g), v, .null]) (rest := [(.ref b2)]) (lenOf pd_16 rfl) rfl (by show 2 * 0 + _ ≤ _; exact Nat.le_of_eq rfl) (hb hby d34_9) (fun _ _ => ⟨rfl, e2, (by decide : 1 + 0 ≤ _), (by decide : 4 + 0 ≤ _)⟩)
  dsimp only [Pt.U, Pt.locs, Pt.cells, Pt.slots] at X3 l3 y3 z3 st3 hQ3
  subst l3 y3 z3
  obtain ⟨rfl, Nq3, K3⟩ := hQ3
  have N3 := Fr.app N0 Nq3
  have P5 : ∀ t, Steps p.tables e below (T3.setTop (mkF m 12 LL1 [(.ref b2)])) t → Steps p.tables e below ST t := by
    intro t kk
    refine pre0 _ ?_
    show Steps p.tables e below (s₁.setTop (mkF m 0 LL1 [])) _
    refine st2 _ ?_
    show Steps p.tables e below (T2.setTop (mkF m 3 LL1 [(.ref b2)])) _
    refine XS.dup X2.here hx rfl (hb hby d34_3) rfl rfl ?_
    show Steps p.tables e below (T2.setTop (mkF m 4 LL1 [(.ref b2), (.ref b2)])) _
    refine XS.iloadN X2.here hx rfl (hb hby d34_4) rfl ?_
    show Steps p.tables e below (T2.setTop (mkF m 5 LL1 [(.int hk), (.ref b2), (.ref b2)])) _
    refine XS.aloadN X2.here hx rfl (hb hby d34_5) rfl rfl ?_
    show Steps p.tables e below (T2.setTop (mkF m 6 LL1 [(.ref g), (.int hk), (.ref b2), (.ref b2)])) _
    refine XS.aloadN X2.here hx rfl (hb hby d34_6) rfl pr0 ?_
    show Steps p.tables e below (T2.setTop (mkF m 7 LL1 [v, (.ref g), (.int hk), (.ref b2), (.ref b2)])) _
    refine XS.aload X2.here hx rfl (hb hby d34_7) rfl rfl ?_
    show Steps p.tables e below (T2.setTop (mkF m 9 LL1 [.null, v, (.ref g), (.int hk), (.ref b2), (.ref b2)])) _
    refine st3.trans ?_
    show Steps p.tables e below (T3.setTop (mkF m 12 LL1 [(.ref b2)])) _
    exact kk
  have k6 : Keep h0 T3.heap [] := (Keep.trans (Keep.ext (Keep.refl h0 []) E2) K3 (allS (Or.inr sz_b2) all0))
  have f7 := (Exa.keep A2 K3)
  obtain ⟨fs, hr, hrun, hended, hW, hsame⟩ := X3.leave (v := some (.ref b2)) (fun h => by rw [Bd.returns] at h; cases h)
  refine ⟨_, _, P5 _ ?_, hrun, hended, _, _, rfl, ?_, ⟨_, rfl⟩, hW, hsame.mono (by decide) (by decide)⟩
  · exact X3.areturnOut hx rfl Bd.returns rfl (hb hby d34_12) hr
  · show Q34 Z a hk g v h0 n0 _ T3.heap _
    exact ⟨b2, rfl, N3, k6, f7, sz_b2⟩
theorem d35_0 : decode jdk_69_method_52_code 0 = .ok (.return_, 1) := by decide +kernel
theorem ef_35 (m : MethodId) (x0 : Addr) (x1 : Int32) : entryFrame m #[(.ref x0), (.int x1)] 2 = (mkF m 0 #[.val (.ref x0), .val (.int x1)] []) := by first | (simp [entryFrame, mkF, argsToLocals, Value.category]; done) | rfl
def Q35 (Z : State) (a : Addr) (h0 : Heap) (n0 : Nat) (vX : Option Value) (hX : Heap) (lX : List Loc) : Prop := vX = none ∧ Fr n0 lX ∧ (hX = h0)
set_option maxRecDepth 65536 in
set_option maxHeartbeats 40000000 in
theorem rm35 (l : Launch) (Z : State) (a0 : Array Value) (hw : ∀ d ∈ tables_1, d.before a0 Z = true) (ws : List Jvm.Cond) (a : Addr) (h0 : Heap) (n0 : Nat) (Z0 : n0 ≤ h0.size)  :
    MetFree l (⟨"java/util/HashMap", "afterNodeInsertion", "(Z)V"⟩ : MethodName) (head1 (Jvm.Cond.code (⟨"java/util/HashMap", "afterNodeInsertion", "(Z)V"⟩ : MethodName) jdk_69_method_52_code 2 none :: ws) ({ frames := 0, cells := 0, slots := 0, locals := 0 } : Room)) (fun aX uX => aX = #[(.ref a), (.int (1 : Int32))] ∧ Z.Warmed39 uX.vm ∧ uX.heap = h0) (fun _ _ _ _ _ => True) (fun _ uX oX wX => ∃ vX lX, oX = .returned vX ∧ Q35 Z a h0 n0 vX wX.heap lX ∧ FrameEnd uX oX wX lX ({ frames := 0, cells := 0, slots := 0, locals := 0 } : Room).cells ({ frames := 0, cells := 0, slots := 0, locals := 0 } : Room).slots) := by
  refine MetFree.of_bodySF (plainFor_of_name pn_2) hisR ?_
  intro p e s m args below meth c s₁ Bd hml0 hP hK
  obtain ⟨rfl, hZ, hh⟩ := hP
  have hx := Bd.exec
  have hby := Bd.bytes
  have hml : c.maxLocals = 2 := hml0
  have hown : s.vm.findClass "java/util/HashMap" = some m.cls := findClass_of_methodNamed Bd.named
  have hnm := (name_of_methodNamed Bd.named Bd.method).1
  have X0 : Stand p l e ({ frames := 0, cells := 0, slots := 0, locals := 0 } : Room) s m #[(.ref a), (.int (1 : Int32))] below meth c s₁ [] 0 0 := Stand.of_body Bd
  have e0 : s₁.heap = h0 := by rw [← hh, Bd.state]; rfl
  have N0 := Fr.nil n0
  let ST : State := (s₁.setTop (entryFrame m #[(.ref a), (.int (1 : Int32))] 2))
  have pre0 : ∀ t, Steps p.tables e below (s₁.setTop (mkF m 0 #[.val (.ref a), .val (.int (1 : Int32))] [])) t → Steps p.tables e below ST t := fun t k => castTop (ef_35 m a (1 : Int32)) k
  let LL1 : Array Slot := #[.val (.ref a), .val (.int (1 : Int32))]
  have P2 : ∀ t, Steps p.tables e below (s₁.setTop (mkF m 0 LL1 [])) t → Steps p.tables e below ST t := by
    intro t kk
    refine pre0 _ ?_
    show Steps p.tables e below (s₁.setTop (mkF m 0 LL1 [])) _
    exact kk
  obtain ⟨fs, hr, hrun, hended, hW, hsame⟩ := X0.leave (v := none) (fun _ => rfl)
  refine ⟨_, _, P2 _ ?_, hrun, hended, _, _, rfl, ?_, ⟨_, rfl⟩, hW, hsame.mono (by decide) (by decide)⟩
  · exact X0.returnOut hx Bd.returns (hb hby d35_0) hr
  · show Q35 Z a h0 n0 _ s₁.heap _
    rw [e0]
    exact ⟨rfl, N0, rfl⟩
theorem d36_0 : decode jdk_69_method_17_code 0 = .ok (.aload_n 0, 1) := by decide +kernel
theorem d36_1 : decode jdk_69_method_17_code 1 = .ok (.getfield 105, 3) := by decide +kernel
theorem d36_4 : decode jdk_69_method_17_code 4 = .ok (.astore_n 1, 1) := by decide +kernel
theorem d36_5 : decode jdk_69_method_17_code 5 = .ok (.aload_n 1, 1) := by decide +kernel
theorem d36_6 : decode jdk_69_method_17_code 6 = .ok (.ifnonnull 7, 3) := by decide +kernel
theorem d36_9 : decode jdk_69_method_17_code 9 = .ok (.iconst 0, 1) := by decide +kernel
theorem d36_10 : decode jdk_69_method_17_code 10 = .ok (.goto 5, 3) := by decide +kernel
theorem d36_15 : decode jdk_69_method_17_code 15 = .ok (.istore_n 2, 1) := by decide +kernel
theorem d36_16 : decode jdk_69_method_17_code 16 = .ok (.aload_n 0, 1) := by decide +kernel
theorem d36_17 : decode jdk_69_method_17_code 17 = .ok (.getfield 88, 3) := by decide +kernel
theorem d36_20 : decode jdk_69_method_17_code 20 = .ok (.istore_n 3, 1) := by decide +kernel
theorem d36_21 : decode jdk_69_method_17_code 21 = .ok (.iconst 0, 1) := by decide +kernel
theorem d36_22 : decode jdk_69_method_17_code 22 = .ok (.istore 5, 2) := by decide +kernel
theorem d36_24 : decode jdk_69_method_17_code 24 = .ok (.iload_n 2, 1) := by decide +kernel
theorem d36_25 : decode jdk_69_method_17_code 25 = .ok (.ifCond .le 42, 3) := by decide +kernel
theorem d36_67 : decode jdk_69_method_17_code 67 = .ok (.iload_n 3, 1) := by decide +kernel
theorem d36_68 : decode jdk_69_method_17_code 68 = .ok (.ifCond .le 9, 3) := by decide +kernel
theorem d36_77 : decode jdk_69_method_17_code 77 = .ok (.bipush 16, 2) := by decide +kernel
theorem d36_79 : decode jdk_69_method_17_code 79 = .ok (.istore 4, 2) := by decide +kernel
theorem d36_81 : decode jdk_69_method_17_code 81 = .ok (.bipush 12, 2) := by decide +kernel
theorem d36_83 : decode jdk_69_method_17_code 83 = .ok (.istore 5, 2) := by decide +kernel
theorem d36_85 : decode jdk_69_method_17_code 85 = .ok (.iload 5, 2) := by decide +kernel
theorem d36_87 : decode jdk_69_method_17_code 87 = .ok (.ifCond .ne 38, 3) := by decide +kernel
theorem d36_125 : decode jdk_69_method_17_code 125 = .ok (.aload_n 0, 1) := by decide +kernel
theorem d36_126 : decode jdk_69_method_17_code 126 = .ok (.iload 5, 2) := by decide +kernel
theorem d36_128 : decode jdk_69_method_17_code 128 = .ok (.putfield 88, 3) := by decide +kernel
theorem d36_131 : decode jdk_69_method_17_code 131 = .ok (.iload 4, 2) := by decide +kernel
theorem d36_133 : decode jdk_69_method_17_code 133 = .ok (.anewarray 163, 3) := by decide +kernel
theorem d36_136 : decode jdk_69_method_17_code 136 = .ok (.astore 6, 2) := by decide +kernel
theorem d36_138 : decode jdk_69_method_17_code 138 = .ok (.aload_n 0, 1) := by decide +kernel
theorem d36_139 : decode jdk_69_method_17_code 139 = .ok (.aload 6, 2) := by decide +kernel
theorem d36_141 : decode jdk_69_method_17_code 141 = .ok (.putfield 105, 3) := by decide +kernel
theorem d36_144 : decode jdk_69_method_17_code 144 = .ok (.aload_n 1, 1) := by decide +kernel
theorem d36_145 : decode jdk_69_method_17_code 145 = .ok (.ifnull 208, 3) := by decide +kernel
theorem d36_353 : decode jdk_69_method_17_code 353 = .ok (.aload 6, 2) := by decide +kernel
theorem d36_355 : decode jdk_69_method_17_code 355 = .ok (.areturn, 1) := by decide +kernel
theorem ef_36 (m : MethodId) (x0 : Addr) : entryFrame m #[(.ref x0)] 14 = (mkF m 0 #[.val (.ref x0), .unset, .unset, .unset, .unset, .unset, .unset, .unset, .unset, .unset, .unset, .unset, .unset, .unset] []) := by first | (simp [entryFrame, mkF, argsToLocals, Value.category]; done) | rfl
def Q36 (Z : State) (a : Addr) (h0 : Heap) (n0 : Nat) (vX : Option Value) (hX : Heap) (lX : List Loc) : Prop := ∃ (r : Addr) (kr : ClassId), vX = some (.ref r) ∧ Fr n0 lX ∧ (Keep h0 hX [a]) ∧ (Fld Z hX a "java/util/HashMap" "loadFactor" "F" (.float (1061158912 : UInt32))) ∧ (Fld Z hX a "java/util/HashMap" "table" "[Ljava/util/HashMap$Node;" (.ref r)) ∧ (Fld Z hX a "java/util/HashMap" "size" "I" (.int (0 : Int32))) ∧ (Fld Z hX a "java/util/HashMap" "threshold" "I" (.int (12 : Int32))) ∧ (Fld Z hX a "java/util/HashMap" "modCount" "I" (.int (0 : Int32))) ∧ (Rar Z hX r kr (.object "java/util/HashMap$Node") (16 : Int32) (fun _ => .null)) ∧ (Ovr Z kr "java/util/HashMap$Node") ∧ (h0.size ≤ r)
set_option maxRecDepth 65536 in
set_option maxHeartbeats 40000000 in
theorem rm36 (l : Launch) (Z : State) (a0 : Array Value) (hw : ∀ d ∈ tables_1, d.before a0 Z = true) (ws : List Jvm.Cond) (a : Addr) (h0 : Heap) (n0 : Nat) (Z0 : n0 ≤ h0.size) (pr0 : Exa Z h0 a "java/util/HashMap") (pr1 : Fld Z h0 a "java/util/HashMap" "loadFactor" "F" (.float (1061158912 : UInt32))) (pr2 : Fld Z h0 a "java/util/HashMap" "table" "[Ljava/util/HashMap$Node;" .null) (pr3 : Fld Z h0 a "java/util/HashMap" "size" "I" (.int (0 : Int32))) (pr4 : Fld Z h0 a "java/util/HashMap" "threshold" "I" (.int (0 : Int32))) (pr5 : Fld Z h0 a "java/util/HashMap" "modCount" "I" (.int (0 : Int32))) (pr6 : n0 ≤ a) :
    MetFree l (⟨"java/util/HashMap", "resize", "()[Ljava/util/HashMap$Node;"⟩ : MethodName) (head1 (Jvm.Cond.code (⟨"java/util/HashMap", "resize", "()[Ljava/util/HashMap$Node;"⟩ : MethodName) jdk_69_method_17_code 14 (some (.array (.object "java/util/HashMap$Node"))) :: ws) ({ frames := 0, cells := 1, slots := 16, locals := 0 } : Room)) (fun aX uX => aX = #[(.ref a)] ∧ Z.Warmed39 uX.vm ∧ uX.heap = h0) (fun _ _ _ _ _ => True) (fun _ uX oX wX => ∃ vX lX, oX = .returned vX ∧ Q36 Z a h0 n0 vX wX.heap lX ∧ FrameEnd uX oX wX lX ({ frames := 0, cells := 1, slots := 16, locals := 0 } : Room).cells ({ frames := 0, cells := 1, slots := 16, locals := 0 } : Room).slots) := by
  refine MetFree.of_bodySF (plainFor_of_name pn_2) hisR ?_
  intro p e s m args below meth c s₁ Bd hml0 hP hK
  obtain ⟨rfl, hZ, hh⟩ := hP
  have hx := Bd.exec
  have hby := Bd.bytes
  have hml : c.maxLocals = 14 := hml0
  have hown : s.vm.findClass "java/util/HashMap" = some m.cls := findClass_of_methodNamed Bd.named
  have hnm := (name_of_methodNamed Bd.named Bd.method).1
  have X0 : Stand p l e ({ frames := 0, cells := 1, slots := 16, locals := 0 } : Room) s m #[(.ref a)] below meth c s₁ [] 0 0 := Stand.of_body Bd
  have e0 : s₁.heap = h0 := by rw [← hh, Bd.state]; rfl
  have N0 := Fr.nil n0
  let ST : State := (s₁.setTop (entryFrame m #[(.ref a)] 14))
  have pre0 : ∀ t, Steps p.tables e below (s₁.setTop (mkF m 0 #[.val (.ref a), .unset, .unset, .unset, .unset, .unset, .unset, .unset, .unset, .unset, .unset, .unset, .unset, .unset] [])) t → Steps p.tables e below ST t := fun t k => castTop (ef_36 m a) k
  let LL1 : Array Slot := #[.val (.ref a), .unset, .unset, .unset, .unset, .unset, .unset, .unset, .unset, .unset, .unset, .unset, .unset, .unset]
  obtain ⟨T2, X2, e2, st2⟩ := getF X0 hx hZ hown (host := "") (Or.inl (hw _ (List.mem_of_getElem? (i := 117) rfl))) Via.refl e0 pr2 (g := (mkF m 1 LL1 [(.ref a)])) rfl rfl (hb hby d36_1)
  let LL3 : Array Slot := #[.val (.ref a), .val .null, .unset, .unset, .unset, .unset, .unset, .unset, .unset, .unset, .unset, .unset, .unset, .unset]
  let LL4 : Array Slot := #[.val (.ref a), .val .null, .val (.int (0 : Int32)), .unset, .unset, .unset, .unset, .unset, .unset, .unset, .unset, .unset, .unset, .unset]
  obtain ⟨T5, X5, e5, st5⟩ := getF X2 hx hZ hown (host := "") (Or.inl (hw _ (List.mem_of_getElem? (i := 221) rfl))) Via.refl e2 pr4 (g := (mkF m 17 LL4 [(.ref a)])) rfl rfl (hb hby d36_17)
  let LL6 : Array Slot := #[.val (.ref a), .val .null, .val (.int (0 : Int32)), .val (.int (0 : Int32)), .unset, .unset, .unset, .unset, .unset, .unset, .unset, .unset, .unset, .unset]
  let LL7 : Array Slot := #[.val (.ref a), .val .null, .val (.int (0 : Int32)), .val (.int (0 : Int32)), .unset, .val (.int (0 : Int32)), .unset, .unset, .unset, .unset, .unset, .unset, .unset, .unset]
  let LL8 : Array Slot := #[.val (.ref a), .val .null, .val (.int (0 : Int32)), .val (.int (0 : Int32)), .val (.int (16 : Int32)), .val (.int (0 : Int32)), .unset, .unset, .unset, .unset, .unset, .unset, .unset, .unset]
  let LL9 : Array Slot := #[.val (.ref a), .val .null, .val (.int (0 : Int32)), .val (.int (0 : Int32)), .val (.int (16 : Int32)), .val (.int (12 : Int32)), .unset, .unset, .unset, .unset, .unset, .unset, .unset, .unset]
  obtain ⟨T10, h10, X10, e10, W10, st10⟩ := putF X5 hx hZ hown (host := "") (Or.inl (hw _ (List.mem_of_getElem? (i := 221) rfl))) Via.refl e5 pr4 pr0 (Or.inl (hw _ (List.mem_of_getElem? (i := 222) rfl))) (hw _ (List.mem_of_getElem? (i := 41) rfl)) (ty := .int) (by decide) rfl rfl (g := (mkF m 128 LL9 [(.int (12 : Int32)), (.ref a)])) rfl rfl (hb hby d36_128)
  have N10 := Fr.snoc X10 N0 pr6
  have Fw10 := Fld.same W10 pr4
  obtain ⟨T11, h11, k11, X11, e11, E11, A11, O11, st11⟩ := newR X10 hx hZ hown (hw _ (List.mem_of_getElem? (i := 223) rfl)) (hw _ (List.mem_of_getElem? (i := 224) rfl)) e10 (g := (mkF m 133 LL9 [(.int (16 : Int32))])) rfl (hb hby d36_133) rfl (by decide) (cap := 16) (by decide) (by decide) (by decide) (by decide)
  have f12 := (Exa.wr W10 pr0)
  have z13 : n0 ≤ _ := (Nat.le_trans Z0 (Keep.of_wr W10).1)
  have k14 : Keep h0 h10 [a] := (Keep.wr (Keep.refl h0 [a]) W10 (Or.inl (List.mem_of_getElem? (i := 0) rfl)))
  obtain ⟨b11, g_b11⟩ : ∃ z, z = h10.size := ⟨_, rfl⟩
  rw [← g_b11] at A11 st11
  have ne_a_b11 : a ≠ b11 := Nat.ne_of_lt (Nat.lt_of_lt_of_le f12.lt (Nat.le_of_eq g_b11.symm))
  have ge_b11 : n0 ≤ b11 := Nat.le_trans z13 (Nat.le_of_eq g_b11.symm)
  have sz_b11 : h0.size ≤ b11 := Nat.le_trans k14.1 (Nat.le_of_eq g_b11.symm)
  have V11 := Rar.new A11 (by decide)
  let LL15 : Array Slot := #[.val (.ref a), .val .null, .val (.int (0 : Int32)), .val (.int (0 : Int32)), .val (.int (16 : Int32)), .val (.int (12 : Int32)), .val (.ref b11), .unset, .unset, .unset, .unset, .unset, .unset, .unset]
  have P16 : ∀ t, Steps p.tables e below (T11.setTop (mkF m 139 LL15 [(.ref a)])) t → Steps p.tables e below ST t := by
    intro t kk
    refine pre0 _ ?_
    show Steps p.tables e below (s₁.setTop (mkF m 0 LL1 [])) _
    refine XS.aloadN X0.here hx rfl (hb hby d36_0) rfl rfl ?_
    show Steps p.tables e below (s₁.setTop (mkF m 1 LL1 [(.ref a)])) _
    refine st2 _ ?_
    show Steps p.tables e below (T2.setTop (mkF m 4 LL1 [.null])) _
    refine XS.astoreN X2.here hx rfl (hb hby d36_4) rfl rfl (l' := LL3) rfl ?_
    show Steps p.tables e below (T2.setTop (mkF m 5 LL3 [])) _
    refine XS.aloadN X2.here hx rfl (hb hby d36_5) rfl rfl ?_
    show Steps p.tables e below (T2.setTop (mkF m 6 LL3 [.null])) _
    refine XS.ifnonnullNo X2.here hx rfl (hb hby d36_6) rfl ?_
    show Steps p.tables e below (T2.setTop (mkF m 9 LL3 [])) _
    refine XS.iconst X2.here hx rfl (hb hby d36_9) ?_
    show Steps p.tables e below (T2.setTop (mkF m 10 LL3 [(.int (0 : Int32))])) _
    refine XS.goto X2.here hx rfl (pc0 := 10) (pc' := 15) rfl (hb hby d36_10) (by decide) (by decide) ?_
    show Steps p.tables e below (T2.setTop (mkF m 15 LL3 [(.int (0 : Int32))])) _
    refine XS.istoreN X2.here hx rfl (hb hby d36_15) rfl (l' := LL4) rfl ?_
    show Steps p.tables e below (T2.setTop (mkF m 16 LL4 [])) _
    refine XS.aloadN X2.here hx rfl (hb hby d36_16) rfl rfl ?_
    show Steps p.tables e below (T2.setTop (mkF m 17 LL4 [(.ref a)])) _
    refine st5 _ ?_
    show Steps p.tables e below (T5.setTop (mkF m 20 LL4 [(.int (0 : Int32))])) _
    refine XS.istoreN X5.here hx rfl (hb hby d36_20) rfl (l' := LL6) rfl ?_
    show Steps p.tables e below (T5.setTop (mkF m 21 LL6 [])) _
    refine XS.iconst X5.here hx rfl (hb hby d36_21) ?_
    show Steps p.tables e below (T5.setTop (mkF m 22 LL6 [(.int (0 : Int32))])) _
    refine XS.istore X5.here hx rfl (hb hby d36_22) rfl (l' := LL7) rfl ?_
    show Steps p.tables e below (T5.setTop (mkF m 24 LL7 [])) _
    refine XS.iloadN X5.here hx rfl (hb hby d36_24) rfl ?_
    show Steps p.tables e below (T5.setTop (mkF m 25 LL7 [(.int (0 : Int32))])) _
    refine XS.ifYes X5.here hx rfl (pc0 := 25) (pc' := 67) rfl (hb hby d36_25) rfl (XT.i0_le_t (by decide)) (by decide) (by decide) ?_
    show Steps p.tables e below (T5.setTop (mkF m 67 LL7 [])) _
    refine XS.iloadN X5.here hx rfl (hb hby d36_67) rfl ?_
    show Steps p.tables e below (T5.setTop (mkF m 68 LL7 [(.int (0 : Int32))])) _
    refine XS.ifYes X5.here hx rfl (pc0 := 68) (pc' := 77) rfl (hb hby d36_68) rfl (XT.i0_le_t (by decide)) (by decide) (by decide) ?_
    show Steps p.tables e below (T5.setTop (mkF m 77 LL7 [])) _
    refine XS.bipush X5.here hx rfl (hb hby d36_77) ?_
    show Steps p.tables e below (T5.setTop (mkF m 79 LL7 [(.int (16 : Int32))])) _
    refine XS.istore X5.here hx rfl (hb hby d36_79) rfl (l' := LL8) rfl ?_
    show Steps p.tables e below (T5.setTop (mkF m 81 LL8 [])) _
    refine XS.bipush X5.here hx rfl (hb hby d36_81) ?_
    show Steps p.tables e below (T5.setTop (mkF m 83 LL8 [(.int (12 : Int32))])) _
    refine XS.istore X5.here hx rfl (hb hby d36_83) rfl (l' := LL9) rfl ?_
    show Steps p.tables e below (T5.setTop (mkF m 85 LL9 [])) _
    refine XS.iload X5.here hx rfl (hb hby d36_85) rfl ?_
    show Steps p.tables e below (T5.setTop (mkF m 87 LL9 [(.int (12 : Int32))])) _
    refine XS.ifYes X5.here hx rfl (pc0 := 87) (pc' := 125) rfl (hb hby d36_87) rfl (XT.i0_ne_t (by decide)) (by decide) (by decide) ?_
    show Steps p.tables e below (T5.setTop (mkF m 125 LL9 [])) _
    refine XS.aloadN X5.here hx rfl (hb hby d36_125) rfl rfl ?_
    show Steps p.tables e below (T5.setTop (mkF m 126 LL9 [(.ref a)])) _
    refine XS.iload X5.here hx rfl (hb hby d36_126) rfl ?_
    show Steps p.tables e below (T5.setTop (mkF m 128 LL9 [(.int (12 : Int32)), (.ref a)])) _
    refine st10 _ ?_
    show Steps p.tables e below (T10.setTop (mkF m 131 LL9 [])) _
    refine XS.iload X10.here hx rfl (hb hby d36_131) rfl ?_
    show Steps p.tables e below (T10.setTop (mkF m 133 LL9 [(.int (16 : Int32))])) _
    refine st11 _ ?_
    show Steps p.tables e below (T11.setTop (mkF m 136 LL9 [(.ref b11)])) _
    refine XS.astore X11.here hx rfl (hb hby d36_136) rfl rfl (l' := LL15) rfl ?_
    show Steps p.tables e below (T11.setTop (mkF m 138 LL15 [])) _
    refine XS.aloadN X11.here hx rfl (hb hby d36_138) rfl rfl ?_
    show Steps p.tables e below (T11.setTop (mkF m 139 LL15 [(.ref a)])) _
    exact kk
  have f17 := (Exa.ext E11 f12)
  have f18 := (Fld.ext E11 (Fld.other W10 pr2 (Or.inr (slot_ne (Or.inl (hw _ (List.mem_of_getElem? (i := 118) rfl))) (Or.inl (hw _ (List.mem_of_getElem? (i := 222) rfl))) (by decide) (t := (.array (.object "java/util/HashMap$Node"))) (t' := .int) (by decide) (by decide)))))
  obtain ⟨T19, h19, X19, e19, W19, st19⟩ := putF X11 hx hZ hown (host := "") (Or.inl (hw _ (List.mem_of_getElem? (i := 117) rfl))) Via.refl e11 f18 f17 (Or.inl (hw _ (List.mem_of_getElem? (i := 118) rfl))) (hw _ (List.mem_of_getElem? (i := 41) rfl)) (ty := (.array (.object "java/util/HashMap$Node"))) (by decide) rfl rfl (g := (mkF m 141 LL15 [(.ref b11), (.ref a)])) rfl rfl (hb hby d36_141)
  have N19 := Fr.snoc X19 N10 pr6
  have Fw19 := Fld.same W19 f18
  have P20 : ∀ t, Steps p.tables e below (T19.setTop (mkF m 355 LL15 [(.ref b11)])) t → Steps p.tables e below ST t := by
    intro t kk
    refine P16 _ ?_
    show Steps p.tables e below (T11.setTop (mkF m 139 LL15 [(.ref a)])) _
    refine XS.aload X11.here hx rfl (hb hby d36_139) rfl rfl ?_
    show Steps p.tables e below (T11.setTop (mkF m 141 LL15 [(.ref b11), (.ref a)])) _
    refine st19 _ ?_
    show Steps p.tables e below (T19.setTop (mkF m 144 LL15 [])) _
    refine XS.aloadN X19.here hx rfl (hb hby d36_144) rfl rfl ?_
    show Steps p.tables e below (T19.setTop (mkF m 145 LL15 [.null])) _
    refine XS.ifnullYes X19.here hx rfl (pc0 := 145) (pc' := 353) rfl (hb hby d36_145) rfl (by decide) (by decide) ?_
    show Steps p.tables e below (T19.setTop (mkF m 353 LL15 [])) _
    refine XS.aload X19.here hx rfl (hb hby d36_353) rfl rfl ?_
    show Steps p.tables e below (T19.setTop (mkF m 355 LL15 [(.ref b11)])) _
    exact kk
  have k21 : Keep h0 h19 [a] := (Keep.wr (Keep.ext k14 E11) W19 (Or.inl (List.mem_of_getElem? (i := 0) rfl)))
  have f22 := (Fld.other W19 (Fld.ext E11 (Fld.other W10 pr1 (Or.inr (slot_ne (Or.inr (hw _ (List.mem_of_getElem? (i := 55) rfl))) (Or.inl (hw _ (List.mem_of_getElem? (i := 222) rfl))) (by decide) (t := .float) (t' := .int) (by decide) (by decide))))) (Or.inr (slot_ne (Or.inr (hw _ (List.mem_of_getElem? (i := 55) rfl))) (Or.inl (hw _ (List.mem_of_getElem? (i := 118) rfl))) (by decide) (t := .float) (t' := (.array (.object "java/util/HashMap$Node"))) (by decide) (by decide))))
  have f23 := (Fld.other W19 (Fld.ext E11 (Fld.other W10 pr3 (Or.inr (slot_ne (Or.inl (hw _ (List.mem_of_getElem? (i := 164) rfl))) (Or.inl (hw _ (List.mem_of_getElem? (i := 222) rfl))) (by decide) (t := .int) (t' := .int) (by decide) (by decide))))) (Or.inr (slot_ne (Or.inl (hw _ (List.mem_of_getElem? (i := 164) rfl))) (Or.inl (hw _ (List.mem_of_getElem? (i := 118) rfl))) (by decide) (t := .int) (t' := (.array (.object "java/util/HashMap$Node"))) (by decide) (by decide))))
  have f24 := (Fld.other W19 (Fld.ext E11 Fw10) (Or.inr (slot_ne (Or.inl (hw _ (List.mem_of_getElem? (i := 222) rfl))) (Or.inl (hw _ (List.mem_of_getElem? (i := 118) rfl))) (by decide) (t := .int) (t' := (.array (.object "java/util/HashMap$Node"))) (by decide) (by decide))))
  have f25 := (Fld.other W19 (Fld.ext E11 (Fld.other W10 pr5 (Or.inr (slot_ne (Or.inl (hw _ (List.mem_of_getElem? (i := 246) rfl))) (Or.inl (hw _ (List.mem_of_getElem? (i := 222) rfl))) (by decide) (t := .int) (t' := .int) (by decide) (by decide))))) (Or.inr (slot_ne (Or.inl (hw _ (List.mem_of_getElem? (i := 246) rfl))) (Or.inl (hw _ (List.mem_of_getElem? (i := 118) rfl))) (by decide) (t := .int) (t' := (.array (.object "java/util/HashMap$Node"))) (by decide) (by decide))))
  have f26 := (Rar.other V11 W19 (Ne.symm ne_a_b11))
  obtain ⟨fs, hr, hrun, hended, hW, hsame⟩ := X19.leave (v := some (.ref b11)) (fun h => by rw [Bd.returns] at h; cases h)
  refine ⟨_, _, P20 _ ?_, hrun, hended, _, _, rfl, ?_, ⟨_, rfl⟩, hW, hsame.mono (by decide) (by decide)⟩
  · exact X19.areturnOut hx rfl Bd.returns rfl (hb hby d36_355) hr
  · show Q36 Z a h0 n0 _ T19.heap _
    rw [e19]
    exact ⟨b11, k11, rfl, N19, k21, f22, Fw19, f23, f24, f25, f26, O11, sz_b11⟩
theorem d37_0 : decode jdk_69_method_16_code 0 = .ok (.aload_n 0, 1) := by decide +kernel
theorem d37_1 : decode jdk_69_method_16_code 1 = .ok (.getfield 105, 3) := by decide +kernel
theorem d37_4 : decode jdk_69_method_16_code 4 = .ok (.dup, 1) := by decide +kernel
theorem d37_5 : decode jdk_69_method_16_code 5 = .ok (.astore 6, 2) := by decide +kernel
theorem d37_7 : decode jdk_69_method_16_code 7 = .ok (.ifnull 12, 3) := by decide +kernel
theorem d37_19 : decode jdk_69_method_16_code 19 = .ok (.aload_n 0, 1) := by decide +kernel
theorem d37_20 : decode jdk_69_method_16_code 20 = .ok (.invokevirtual 117, 3) := by decide +kernel
theorem d37_23 : decode jdk_69_method_16_code 23 = .ok (.dup, 1) := by decide +kernel
theorem d37_24 : decode jdk_69_method_16_code 24 = .ok (.astore 6, 2) := by decide +kernel
theorem d37_26 : decode jdk_69_method_16_code 26 = .ok (.arraylength, 1) := by decide +kernel
theorem d37_27 : decode jdk_69_method_16_code 27 = .ok (.istore 8, 2) := by decide +kernel
theorem d37_29 : decode jdk_69_method_16_code 29 = .ok (.aload 6, 2) := by decide +kernel
theorem d37_31 : decode jdk_69_method_16_code 31 = .ok (.iload 8, 2) := by decide +kernel
theorem d37_33 : decode jdk_69_method_16_code 33 = .ok (.iconst 1, 1) := by decide +kernel
theorem d37_34 : decode jdk_69_method_16_code 34 = .ok (.isub, 1) := by decide +kernel
theorem d37_35 : decode jdk_69_method_16_code 35 = .ok (.iload_n 1, 1) := by decide +kernel
theorem d37_36 : decode jdk_69_method_16_code 36 = .ok (.iand, 1) := by decide +kernel
theorem d37_37 : decode jdk_69_method_16_code 37 = .ok (.dup, 1) := by decide +kernel
theorem d37_38 : decode jdk_69_method_16_code 38 = .ok (.istore 9, 2) := by decide +kernel
theorem d37_40 : decode jdk_69_method_16_code 40 = .ok (.aaload, 1) := by decide +kernel
theorem d37_41 : decode jdk_69_method_16_code 41 = .ok (.dup, 1) := by decide +kernel
theorem d37_42 : decode jdk_69_method_16_code 42 = .ok (.astore 7, 2) := by decide +kernel
theorem d37_44 : decode jdk_69_method_16_code 44 = .ok (.ifnonnull 19, 3) := by decide +kernel
theorem d37_47 : decode jdk_69_method_16_code 47 = .ok (.aload 6, 2) := by decide +kernel
theorem d37_49 : decode jdk_69_method_16_code 49 = .ok (.iload 9, 2) := by decide +kernel
theorem d37_51 : decode jdk_69_method_16_code 51 = .ok (.aload_n 0, 1) := by decide +kernel
theorem d37_52 : decode jdk_69_method_16_code 52 = .ok (.iload_n 1, 1) := by decide +kernel
theorem d37_53 : decode jdk_69_method_16_code 53 = .ok (.aload_n 2, 1) := by decide +kernel
theorem d37_54 : decode jdk_69_method_16_code 54 = .ok (.aload_n 3, 1) := by decide +kernel
theorem d37_55 : decode jdk_69_method_16_code 55 = .ok (.aconst_null, 1) := by decide +kernel
theorem d37_56 : decode jdk_69_method_16_code 56 = .ok (.invokevirtual 186, 3) := by decide +kernel
theorem d37_59 : decode jdk_69_method_16_code 59 = .ok (.aastore, 1) := by decide +kernel
theorem d37_60 : decode jdk_69_method_16_code 60 = .ok (.goto 199, 3) := by decide +kernel
theorem d37_259 : decode jdk_69_method_16_code 259 = .ok (.aload_n 0, 1) := by decide +kernel
theorem d37_260 : decode jdk_69_method_16_code 260 = .ok (.dup, 1) := by decide +kernel
theorem d37_261 : decode jdk_69_method_16_code 261 = .ok (.getfield 202, 3) := by decide +kernel
theorem d37_264 : decode jdk_69_method_16_code 264 = .ok (.iconst 1, 1) := by decide +kernel
theorem d37_265 : decode jdk_69_method_16_code 265 = .ok (.iadd, 1) := by decide +kernel
theorem d37_266 : decode jdk_69_method_16_code 266 = .ok (.putfield 202, 3) := by decide +kernel
theorem d37_269 : decode jdk_69_method_16_code 269 = .ok (.aload_n 0, 1) := by decide +kernel
theorem d37_270 : decode jdk_69_method_16_code 270 = .ok (.dup, 1) := by decide +kernel
theorem d37_271 : decode jdk_69_method_16_code 271 = .ok (.getfield 156, 3) := by decide +kernel
theorem d37_274 : decode jdk_69_method_16_code 274 = .ok (.iconst 1, 1) := by decide +kernel
theorem d37_275 : decode jdk_69_method_16_code 275 = .ok (.iadd, 1) := by decide +kernel
theorem d37_276 : decode jdk_69_method_16_code 276 = .ok (.dup_x1, 1) := by decide +kernel
theorem d37_277 : decode jdk_69_method_16_code 277 = .ok (.putfield 156, 3) := by decide +kernel
theorem d37_280 : decode jdk_69_method_16_code 280 = .ok (.aload_n 0, 1) := by decide +kernel
theorem d37_281 : decode jdk_69_method_16_code 281 = .ok (.getfield 88, 3) := by decide +kernel
theorem d37_284 : decode jdk_69_method_16_code 284 = .ok (.if_icmp .le 8, 3) := by decide +kernel
theorem d37_292 : decode jdk_69_method_16_code 292 = .ok (.aload_n 0, 1) := by decide +kernel
theorem d37_293 : decode jdk_69_method_16_code 293 = .ok (.iload 5, 2) := by decide +kernel
theorem d37_295 : decode jdk_69_method_16_code 295 = .ok (.invokevirtual 205, 3) := by decide +kernel
theorem d37_298 : decode jdk_69_method_16_code 298 = .ok (.aconst_null, 1) := by decide +kernel
theorem d37_299 : decode jdk_69_method_16_code 299 = .ok (.areturn, 1) := by decide +kernel
theorem ef_37 (m : MethodId) (x0 : Addr) (x1 : Int32) (x2 : Addr) (x3 : Value) (x4 : Int32) (x5 : Int32) (r_x3 : x3.isRef = true) : entryFrame m #[(.ref x0), (.int x1), (.ref x2), x3, (.int x4), (.int x5)] 13 = (mkF m 0 #[.val (.ref x0), .val (.int x1), .val (.ref x2), .val x3, .val (.int x4), .val (.int x5), .unset, .unset, .unset, .unset, .unset, .unset, .unset] []) := by cases x3 <;> first | (cases r_x3; done) | (simp [entryFrame, mkF, argsToLocals, Value.category]; done) | rfl
def Q37 (Z : State) (a : Addr) (hk : Int32) (g : Addr) (v : Value) (h0 : Heap) (n0 : Nat) (vX : Option Value) (hX : Heap) (lX : List Loc) : Prop := vX = some .null ∧ Fr n0 lX ∧ (Keep h0 hX [a])
set_option maxRecDepth 65536 in
set_option maxHeartbeats 40000000 in
theorem rm37 (l : Launch) (Z : State) (a0 : Array Value) (hw : ∀ d ∈ tables_1, d.before a0 Z = true) (ws : List Jvm.Cond) (a : Addr) (hk : Int32) (g : Addr) (v : Value) (h0 : Heap) (n0 : Nat) (Z0 : n0 ≤ h0.size) (pr0 : Exa Z h0 a "java/util/HashMap") (pr1 : Fld Z h0 a "java/util/HashMap" "loadFactor" "F" (.float (1061158912 : UInt32))) (pr2 : Fld Z h0 a "java/util/HashMap" "table" "[Ljava/util/HashMap$Node;" .null) (pr3 : Fld Z h0 a "java/util/HashMap" "size" "I" (.int (0 : Int32))) (pr4 : Fld Z h0 a "java/util/HashMap" "threshold" "I" (.int (0 : Int32))) (pr5 : Fld Z h0 a "java/util/HashMap" "modCount" "I" (.int (0 : Int32))) (pr6 : n0 ≤ a) (pr7 : v.isRef = true) :
    MetFree l (⟨"java/util/HashMap", "putVal", "(ILjava/lang/Object;Ljava/lang/Object;ZZ)Ljava/lang/Object;"⟩ : MethodName) (head1 (Jvm.Cond.code (⟨"java/util/HashMap", "putVal", "(ILjava/lang/Object;Ljava/lang/Object;ZZ)Ljava/lang/Object;"⟩ : MethodName) jdk_69_method_16_code 13 (some (.object "java/lang/Object")) :: ws) ({ frames := 3, cells := 2, slots := 20, locals := 47 } : Room)) (fun aX uX => aX = #[(.ref a), (.int hk), (.ref g), v, (.int (0 : Int32)), (.int (1 : Int32))] ∧ Z.Warmed39 uX.vm ∧ uX.heap = h0) (fun _ _ _ _ _ => True) (fun _ uX oX wX => ∃ vX lX, oX = .returned vX ∧ Q37 Z a hk g v h0 n0 vX wX.heap lX ∧ FrameEnd uX oX wX lX ({ frames := 3, cells := 2, slots := 20, locals := 47 } : Room).cells ({ frames := 3, cells := 2, slots := 20, locals := 47 } : Room).slots) := by
  refine MetFree.of_bodySF (plainFor_of_name pn_2) hisR ?_
  intro p e s m args below meth c s₁ Bd hml0 hP hK
  obtain ⟨rfl, hZ, hh⟩ := hP
  have hx := Bd.exec
  have hby := Bd.bytes
  have hml : c.maxLocals = 13 := hml0
  have hown : s.vm.findClass "java/util/HashMap" = some m.cls := findClass_of_methodNamed Bd.named
  have hnm := (name_of_methodNamed Bd.named Bd.method).1
  have X0 : Stand p l e ({ frames := 3, cells := 2, slots := 20, locals := 47 } : Room) s m #[(.ref a), (.int hk), (.ref g), v, (.int (0 : Int32)), (.int (1 : Int32))] below meth c s₁ [] 0 0 := Stand.of_body Bd
  have e0 : s₁.heap = h0 := by rw [← hh, Bd.state]; rfl
  have N0 := Fr.nil n0
  let ST : State := (s₁.setTop (entryFrame m #[(.ref a), (.int hk), (.ref g), v, (.int (0 : Int32)), (.int (1 : Int32))] 13))
  have pre0 : ∀ t, Steps p.tables e below (s₁.setTop (mkF m 0 #[.val (.ref a), .val (.int hk), .val (.ref g), .val v, .val (.int (0 : Int32)), .val (.int (1 : Int32)), .unset, .unset, .unset, .unset, .unset, .unset, .unset] [])) t → Steps p.tables e below ST t := fun t k => castTop (ef_37 m a hk g v (0 : Int32) (1 : Int32) pr7) k
  let LL1 : Array Slot := #[.val (.ref a), .val (.int hk), .val (.ref g), .val v, .val (.int (0 : Int32)), .val (.int (1 : Int32)), .unset, .unset, .unset, .unset, .unset, .unset, .unset]
  obtain ⟨T2, X2, e2, st2⟩ := getF X0 hx hZ hown (host := "") (Or.inl (hw _ (List.mem_of_getElem? (i := 117) rfl))) Via.refl e0 pr2 (g := (mkF m 1 LL1 [(.ref a)])) rfl rfl (hb hby d37_1)
  let LL3 : Array Slot := #[.val (.ref a), .val (.int hk), .val (.ref g), .val v, .val (.int (0 : Int32)), .val (.int (1 : Int32)), .val .null, .unset, .unset, .unset, .unset, .unset, .unset]
  obtain ⟨cq4, kq4, q4a, q4b, q4c⟩ := isOf hZ e2 pr0
  obtain ⟨_, _, ⟨T4, L4, k4, n4⟩, -, X4, ⟨Lc4, hQ4, l4, y4, z4⟩, st4⟩ := X2.virtualBack hx (y := (⟨"java/util/HashMap", "resize", "()[Ljava/util/HashMap$Node;"⟩ : MethodName)) (z := (⟨"java/util/HashMap", "resize", "()[Ljava/util/HashMap$Node;"⟩ : MethodName)) hown (mvT hZ (hw _ (List.mem_of_getElem? (i := 216) rfl))) (mvT hZ (hw _ (List.mem_of_getElem? (i := 217) rfl))) (notFace_of_selects (args := #[]) (mvT hZ (hw _ (List.mem_of_getElem? (i := 219) rfl)))) (mvT hZ (hw _ (List.mem_of_getElem? (i := 219) rfl))) (mvT hZ (hw _ (List.mem_of_getElem? (i := 218) rfl))) (by decide) (backOf (W := 0) (rm36 l Z a0 hw [] a h0 n0 Z0 pr0 pr1 pr2 pr3 pr4 pr5 pr6) hZ (hw _ (List.mem_of_getElem? (i := 220) rfl)) (hw _ (List.mem_of_getElem? (i := 42) rfl)) (by decide) (by decide)) q4a q4c (g := (mkF m 20 LL3 [(.ref a)])) rfl (by rw [hml]; rfl) (Steps.refl _) (argsL := []) (rest := []) (lenOf pd_17 rfl) rfl (by show 2 * 0 + _ ≤ _; exact Nat.le_of_eq rfl) (hb hby d37_20) (fun _ _ => ⟨rfl, e2, (by decide : 0 + 1 ≤ _), (by decide : 0 + 16 ≤ _)⟩)
  dsimp only [Pt.U, Pt.locs, Pt.cells, Pt.slots] at X4 l4 y4 z4 st4 hQ4
  subst l4 y4 z4
  obtain ⟨r_4, kr_4, rfl, Nq4, K4, q4_0, q4_1, q4_2, q4_3, q4_4, q4_5, q4_6, q4_7⟩ := hQ4
  have N4 := Fr.app N0 Nq4
  have ne_a_r_4 : a ≠ r_4 := Nat.ne_of_lt (Nat.lt_of_lt_of_le pr0.lt q4_7)
  have ge_r_4 : n0 ≤ r_4 := Nat.le_trans Z0 q4_7
  have sz_r_4 : h0.size ≤ r_4 := Nat.le_trans (Keep.refl h0 [a]).1 q4_7
  let LL5 : Array Slot := #[.val (.ref a), .val (.int hk), .val (.ref g), .val v, .val (.int (0 : Int32)), .val (.int (1 : Int32)), .val (.ref r_4), .unset, .unset, .unset, .unset, .unset, .unset]
  obtain ⟨cl_a6, Ar_a6, q_a6, S_a6, N_a6, H_a6⟩ := id q4_5
  let LL7 : Array Slot := #[.val (.ref a), .val (.int hk), .val (.ref g), .val v, .val (.int (0 : Int32)), .val (.int (1 : Int32)), .val (.ref r_4), .unset, .val (.int (16 : Int32)), .unset, .unset, .unset, .unset]
  let LL8 : Array Slot := #[.val (.ref a), .val (.int hk), .val (.ref g), .val v, .val (.int (0 : Int32)), .val (.int (1 : Int32)), .val (.ref r_4), .unset, .val (.int (16 : Int32)), .val (.int ((15 : Int32) &&& hk)), .unset, .unset, .unset]
  obtain ⟨cl_a9, Ar_a9, q_a9, S_a9, N_a9, H_a9⟩ := id q4_5
  have hin_a9 : ¬ (((15 : Int32) &&& hk) < 0 ∨ cl_a9.slots.size ≤ (((15 : Int32) &&& hk)).toNatClampNeg) := inb_of S_a9 (own_and15 hk)
  have hat_a9 : cl_a9.slots[(((15 : Int32) &&& hk)).toNatClampNeg]? = some .null := (H_a9 _ (Nat.lt_of_not_le fun q => hin_a9 (Or.inr q))).trans (congrArg some rfl)
  let LL10 : Array Slot := #[.val (.ref a), .val (.int hk), .val (.ref g), .val v, .val (.int (0 : Int32)), .val (.int (1 : Int32)), .val (.ref r_4), .val .null, .val (.int (16 : Int32)), .val (.int ((15 : Int32) &&& hk)), .unset, .unset, .unset]
  have P11 : ∀ t, Steps p.tables e below (T4.setTop (mkF m 56 LL10 [.null, v, (.ref g), (.int hk), (.ref a), (.int ((15 : Int32) &&& hk)), (.ref r_4)])) t → Steps p.tables e below ST t := by
    intro t kk
    refine pre0 _ ?_
    show Steps p.tables e below (s₁.setTop (mkF m 0 LL1 [])) _
    refine XS.aloadN X0.here hx rfl (hb hby d37_0) rfl rfl ?_
    show Steps p.tables e below (s₁.setTop (mkF m 1 LL1 [(.ref a)])) _
    refine st2 _ ?_
    show Steps p.tables e below (T2.setTop (mkF m 4 LL1 [.null])) _
    refine XS.dup X2.here hx rfl (hb hby d37_4) rfl rfl ?_
    show Steps p.tables e below (T2.setTop (mkF m 5 LL1 [.null, .null])) _
    refine XS.astore X2.here hx rfl (hb hby d37_5) rfl rfl (l' := LL3) rfl ?_
    show Steps p.tables e below (T2.setTop (mkF m 7 LL3 [.null])) _
    refine XS.ifnullYes X2.here hx rfl (pc0 := 7) (pc' := 19) rfl (hb hby d37_7) rfl (by decide) (by decide) ?_
    show Steps p.tables e below (T2.setTop (mkF m 19 LL3 [])) _
    refine XS.aloadN X2.here hx rfl (hb hby d37_19) rfl rfl ?_
    show Steps p.tables e below (T2.setTop (mkF m 20 LL3 [(.ref a)])) _
    refine st4.trans ?_
    show Steps p.tables e below (T4.setTop (mkF m 23 LL3 [(.ref r_4)])) _
    refine XS.dup X4.here hx rfl (hb hby d37_23) rfl rfl ?_
    show Steps p.tables e below (T4.setTop (mkF m 24 LL3 [(.ref r_4), (.ref r_4)])) _
    refine XS.astore X4.here hx rfl (hb hby d37_24) rfl rfl (l' := LL5) rfl ?_
    show Steps p.tables e below (T4.setTop (mkF m 26 LL5 [(.ref r_4)])) _
    refine X4.arraylength hx (Ar_a6.1) (State.isArrayOf_alike hZ.alike Ar_a6.2.1) (g := (mkF m 26 LL5 [(.ref r_4)])) rfl rfl (hb hby d37_26) _ ?_
    rw [len_of S_a6 N_a6]
    show Steps p.tables e below (T4.setTop (mkF m 27 LL5 [(.int (16 : Int32))])) _
    refine XS.istore X4.here hx rfl (hb hby d37_27) rfl (l' := LL7) rfl ?_
    show Steps p.tables e below (T4.setTop (mkF m 29 LL7 [])) _
    refine XS.aload X4.here hx rfl (hb hby d37_29) rfl rfl ?_
    show Steps p.tables e below (T4.setTop (mkF m 31 LL7 [(.ref r_4)])) _
    refine XS.iload X4.here hx rfl (hb hby d37_31) rfl ?_
    show Steps p.tables e below (T4.setTop (mkF m 33 LL7 [(.int (16 : Int32)), (.ref r_4)])) _
    refine XS.iconst X4.here hx rfl (hb hby d37_33) ?_
    show Steps p.tables e below (T4.setTop (mkF m 34 LL7 [(.int (1 : Int32)), (.int (16 : Int32)), (.ref r_4)])) _
    refine XS.isub X4.here hx rfl (hb hby d37_34) rfl ?_
    show Steps p.tables e below (T4.setTop (mkF m 35 LL7 [(.int (15 : Int32)), (.ref r_4)])) _
    refine XS.iloadN X4.here hx rfl (hb hby d37_35) rfl ?_
    show Steps p.tables e below (T4.setTop (mkF m 36 LL7 [(.int hk), (.int (15 : Int32)), (.ref r_4)])) _
    refine XS.iand X4.here hx rfl (hb hby d37_36) rfl ?_
    show Steps p.tables e below (T4.setTop (mkF m 37 LL7 [(.int ((15 : Int32) &&& hk)), (.ref r_4)])) _
    refine XS.dup X4.here hx rfl (hb hby d37_37) rfl rfl ?_
    show Steps p.tables e below (T4.setTop (mkF m 38 LL7 [(.int ((15 : Int32) &&& hk)), (.int ((15 : Int32) &&& hk)), (.ref r_4)])) _
    refine XS.istore X4.here hx rfl (hb hby d37_38) rfl (l' := LL8) rfl ?_
    show Steps p.tables e below (T4.setTop (mkF m 40 LL8 [(.int ((15 : Int32) &&& hk)), (.ref r_4)])) _
    refine X4.aaload hx (j := ((15 : Int32) &&& hk)) (v := .null) (Ar_a9.1) (State.isArrayOf_alike hZ.alike Ar_a9.2.1) rfl Ar_a9.2.2 hin_a9 hat_a9 (g := (mkF m 40 LL8 [(.int ((15 : Int32) &&& hk)), (.ref r_4)])) rfl rfl (hb hby d37_40) _ ?_
    show Steps p.tables e below (T4.setTop (mkF m 41 LL8 [.null])) _
    refine XS.dup X4.here hx rfl (hb hby d37_41) rfl rfl ?_
    show Steps p.tables e below (T4.setTop (mkF m 42 LL8 [.null, .null])) _
    refine XS.astore X4.here hx rfl (hb hby d37_42) rfl rfl (l' := LL10) rfl ?_
    show Steps p.tables e below (T4.setTop (mkF m 44 LL10 [.null])) _
    refine XS.ifnonnullNo X4.here hx rfl (hb hby d37_44) rfl ?_
    show Steps p.tables e below (T4.setTop (mkF m 47 LL10 [])) _
    refine XS.aload X4.here hx rfl (hb hby d37_47) rfl rfl ?_
    show Steps p.tables e below (T4.setTop (mkF m 49 LL10 [(.ref r_4)])) _
    refine XS.iload X4.here hx rfl (hb hby d37_49) rfl ?_
    show Steps p.tables e below (T4.setTop (mkF m 51 LL10 [(.int ((15 : Int32) &&& hk)), (.ref r_4)])) _
    refine XS.aloadN X4.here hx rfl (hb hby d37_51) rfl rfl ?_
    show Steps p.tables e below (T4.setTop (mkF m 52 LL10 [(.ref a), (.int ((15 : Int32) &&& hk)), (.ref r_4)])) _
    refine XS.iloadN X4.here hx rfl (hb hby d37_52) rfl ?_
    show Steps p.tables e below (T4.setTop (mkF m 53 LL10 [(.int hk), (.ref a), (.int ((15 : Int32) &&& hk)), (.ref r_4)])) _
    refine XS.aloadN X4.here hx rfl (hb hby d37_53) rfl rfl ?_
    show Steps p.tables e below (T4.setTop (mkF m 54 LL10 [(.ref g), (.int hk), (.ref a), (.int ((15 : Int32) &&& hk)), (.ref r_4)])) _
    refine XS.aloadN X4.here hx rfl (hb hby d37_54) rfl pr7 ?_
    show Steps p.tables e below (T4.setTop (mkF m 55 LL10 [v, (.ref g), (.int hk), (.ref a), (.int ((15 : Int32) &&& hk)), (.ref r_4)])) _
    refine XS.aconstNull X4.here hx rfl (hb hby d37_55) ?_
    show Steps p.tables e below (T4.setTop (mkF m 56 LL10 [.null, v, (.ref g), (.int hk), (.ref a), (.int ((15 : Int32) &&& hk)), (.ref r_4)])) _
    exact kk
  have z13 : n0 ≤ _ := (Nat.le_trans Z0 K4.1)
  have f14 := (Exa.keep pr0 K4)
  obtain ⟨cq12, kq12, q12a, q12b, q12c⟩ := isOf hZ rfl f14
  obtain ⟨_, _, ⟨T12, L12, k12, n12⟩, -, X12, ⟨Lc12, hQ12, l12, y12, z12⟩, st12⟩ := X4.virtualBack hx (y := (⟨"java/util/HashMap", "newNode", "(ILjava/lang/Object;Ljava/lang/Object;Ljava/util/HashMap$Node;)Ljava/util/HashMap$Node;"⟩ : MethodName)) (z := (⟨"java/util/HashMap", "newNode", "(ILjava/lang/Object;Ljava/lang/Object;Ljava/util/HashMap$Node;)Ljava/util/HashMap$Node;"⟩ : MethodName)) hown (mvT hZ (hw _ (List.mem_of_getElem? (i := 225) rfl))) (mvT hZ (hw _ (List.mem_of_getElem? (i := 226) rfl))) (notFace_of_selects (args := #[]) (mvT hZ (hw _ (List.mem_of_getElem? (i := 228) rfl)))) (mvT hZ (hw _ (List.mem_of_getElem? (i := 228) rfl))) (mvT hZ (hw _ (List.mem_of_getElem? (i := 227) rfl))) (by decide) (backOf (W := 2) (rm34 l Z a0 hw [] a hk g v T4.heap n0 z13 pr7) hZ (hw _ (List.mem_of_getElem? (i := 229) rfl)) (hw _ (List.mem_of_getElem? (i := 42) rfl)) (by decide) (by decide)) q12a q12c (g := (mkF m 56 LL10 [.null, v, (.ref g), (.int hk), (.ref a), (.int ((15 : Int32) &&& hk)), (.ref r_4)])) rfl (by rw [hml]; rfl) (Steps.refl _) (argsL := [(.int hk), (.ref g), v, .null]) (rest := [(.int ((15 : Int32) &&& hk)), (.ref r_4)]) (lenOf pd_18 rfl) rfl (by show 2 * 0 + _ ≤ _; exact Nat.le_of_eq rfl) (hb hby d37_56) (fun _ _ => ⟨rfl, rfl, (by decide : 1 + 1 ≤ _), (by decide : 16 + 4 ≤ _)⟩)
  dsimp only [Pt.U, Pt.locs, Pt.cells, Pt.slots] at X12 l12 y12 z12 st12 hQ12
  subst l12 y12 z12
  have k15 : Keep h0 T4.heap [a] := (Keep.trans (Keep.refl h0 [a]) K4 (allS (Or.inl (List.mem_of_getElem? (i := 0) rfl)) all0))
  obtain ⟨r_12, rfl, Nq12, K12, q12_0, q12_1⟩ := hQ12
  have N12 := Fr.app N4 Nq12
  have ne_a_r_12 : a ≠ r_12 := Nat.ne_of_lt (Nat.lt_of_lt_of_le f14.lt q12_1)
  have ne_r_4_r_12 : r_4 ≠ r_12 := Nat.ne_of_lt (Nat.lt_of_lt_of_le q4_5.lt q12_1)
  have ge_r_12 : n0 ≤ r_12 := Nat.le_trans z13 q12_1
  have sz_r_12 : h0.size ≤ r_12 := Nat.le_trans k15.1 q12_1
  have f16 := (Rar.keep q4_5 K12 nin0)
  obtain ⟨cl_a17, Ar_a17, q_a17, S_a17, N_a17, H_a17⟩ := id f16
  have hin_a17 : ¬ (((15 : Int32) &&& hk) < 0 ∨ cl_a17.slots.size ≤ (((15 : Int32) &&& hk)).toNatClampNeg) := inb_of S_a17 (own_and15 hk)
  obtain ⟨T18, h18, X18, e18, W18, st18⟩ := stR X12 hx hZ rfl Ar_a17 (j := ((15 : Int32) &&& hk)) hin_a17 rfl (Sto.ofV Ar_a17 q_a17 q4_6 (Ins.self q12_0)) (g := (mkF m 59 LL10 [(.ref r_12), (.int ((15 : Int32) &&& hk)), (.ref r_4)])) rfl rfl (hb hby d37_59)
  have V18 := Rar.set Ar_a17 q_a17 S_a17 N_a17 H_a17 W18
  have N18 := Fr.snoc X18 N12 ge_r_4
  have f19 := (Fld.other W18 (Fld.keep q4_4 K12 nin0) (Or.inl ne_a_r_4))
  obtain ⟨T20, X20, e20, st20⟩ := getF X18 hx hZ hown (host := "") (Or.inl (hw _ (List.mem_of_getElem? (i := 245) rfl))) Via.refl e18 f19 (g := (mkF m 261 LL10 [(.ref a), (.ref a)])) rfl rfl (hb hby d37_261)
  have f21 := (Exa.wr W18 (Exa.keep f14 K12))
  obtain ⟨T22, h22, X22, e22, W22, st22⟩ := putF X20 hx hZ hown (host := "") (Or.inl (hw _ (List.mem_of_getElem? (i := 245) rfl))) Via.refl e20 f19 f21 (Or.inl (hw _ (List.mem_of_getElem? (i := 246) rfl))) (hw _ (List.mem_of_getElem? (i := 41) rfl)) (ty := .int) (by decide) rfl rfl (g := (mkF m 266 LL10 [(.int (1 : Int32)), (.ref a)])) rfl rfl (hb hby d37_266)
  have N22 := Fr.snoc X22 N18 pr6
  have Fw22 := Fld.same W22 f19
  have f23 := (Fld.other W22 (Fld.other W18 (Fld.keep q4_2 K12 nin0) (Or.inl ne_a_r_4)) (Or.inr (slot_ne (Or.inl (hw _ (List.mem_of_getElem? (i := 164) rfl))) (Or.inl (hw _ (List.mem_of_getElem? (i := 246) rfl))) (by decide) (t := .int) (t' := .int) (by decide) (by decide))))
  obtain ⟨T24, X24, e24, st24⟩ := getF X22 hx hZ hown (host := "") (Or.inl (hw _ (List.mem_of_getElem? (i := 163) rfl))) Via.refl e22 f23 (g := (mkF m 271 LL10 [(.ref a), (.ref a)])) rfl rfl (hb hby d37_271)
  have f25 := (Exa.wr W22 f21)
  obtain ⟨T26, h26, X26, e26, W26, st26⟩ := putF X24 hx hZ hown (host := "") (Or.inl (hw _ (List.mem_of_getElem? (i := 163) rfl))) Via.refl e24 f23 f25 (Or.inl (hw _ (List.mem_of_getElem? (i := 164) rfl))) (hw _ (List.mem_of_getElem? (i := 41) rfl)) (ty := .int) (by decide) rfl rfl (g := (mkF m 277 LL10 [(.int (1 : Int32)), (.ref a), (.int (1 : Int32))])) rfl rfl (hb hby d37_277)
  have N26 := Fr.snoc X26 N22 pr6
  have Fw26 := Fld.same W26 f23
  have f27 := (Fld.other W26 (Fld.other W22 (Fld.other W18 (Fld.keep q4_3 K12 nin0) (Or.inl ne_a_r_4)) (Or.inr (slot_ne (Or.inl (hw _ (List.mem_of_getElem? (i := 222) rfl))) (Or.inl (hw _ (List.mem_of_getElem? (i := 246) rfl))) (by decide) (t := .int) (t' := .int) (by decide) (by decide)))) (Or.inr (slot_ne (Or.inl (hw _ (List.mem_of_getElem? (i := 222) rfl))) (Or.inl (hw _ (List.mem_of_getElem? (i := 164) rfl))) (by decide) (t := .int) (t' := .int) (by decide) (by decide))))
  obtain ⟨T28, X28, e28, st28⟩ := getF X26 hx hZ hown (host := "") (Or.inl (hw _ (List.mem_of_getElem? (i := 221) rfl))) Via.refl e26 f27 (g := (mkF m 281 LL10 [(.ref a), (.int (1 : Int32))])) rfl rfl (hb hby d37_281)
  have z30 : n0 ≤ _ := (Nat.le_trans (Nat.le_trans (Nat.le_trans (Nat.le_trans z13 K12.1) (Keep.of_wr W18).1) (Keep.of_wr W22).1) (Keep.of_wr W26).1)
  have f31 := (Exa.wr W26 f25)
  obtain ⟨cq29, kq29, q29a, q29b, q29c⟩ := isOf hZ e28 f31
  obtain ⟨_, _, ⟨T29, L29, k29, n29⟩, -, X29, ⟨Lc29, hQ29, l29, y29, z29⟩, st29⟩ := X28.virtualBack hx (y := (⟨"java/util/HashMap", "afterNodeInsertion", "(Z)V"⟩ : MethodName)) (z := (⟨"java/util/HashMap", "afterNodeInsertion", "(Z)V"⟩ : MethodName)) hown (mvT hZ (hw _ (List.mem_of_getElem? (i := 247) rfl))) (mvT hZ (hw _ (List.mem_of_getElem? (i := 248) rfl))) (notFace_of_selects (args := #[]) (mvT hZ (hw _ (List.mem_of_getElem? (i := 250) rfl)))) (mvT hZ (hw _ (List.mem_of_getElem? (i := 250) rfl))) (mvT hZ (hw _ (List.mem_of_getElem? (i := 249) rfl))) (by decide) (backOf (W := 0) (rm35 l Z a0 hw [] a h26 n0 z30 ) hZ (hw _ (List.mem_of_getElem? (i := 251) rfl)) (hw _ (List.mem_of_getElem? (i := 42) rfl)) (by decide) (by decide)) q29a q29c (g := (mkF m 295 LL10 [(.int (1 : Int32)), (.ref a)])) rfl (by rw [hml]; rfl) (Steps.refl _) (argsL := [(.int (1 : Int32))]) (rest := []) (lenOf pd_19 rfl) rfl (by show 2 * 0 + _ ≤ _; exact Nat.le_of_eq rfl) (hb hby d37_295) (fun _ _ => ⟨rfl, e28, (by decide : 2 + 0 ≤ _), (by decide : 20 + 0 ≤ _)⟩)
  dsimp only [Pt.U, Pt.locs, Pt.cells, Pt.slots] at X29 l29 y29 z29 st29 hQ29
  subst l29 y29 z29
  obtain ⟨rfl, Nq29, e29⟩ := hQ29
  have N29 := Fr.app N26 Nq29
  have P32 : ∀ t, Steps p.tables e below (T29.setTop (mkF m 299 LL10 [.null])) t → Steps p.tables e below ST t := by
    intro t kk
    refine P11 _ ?_
    show Steps p.tables e below (T4.setTop (mkF m 56 LL10 [.null, v, (.ref g), (.int hk), (.ref a), (.int ((15 : Int32) &&& hk)), (.ref r_4)])) _
    refine st12.trans ?_
    show Steps p.tables e below (T12.setTop (mkF m 59 LL10 [(.ref r_12), (.int ((15 : Int32) &&& hk)), (.ref r_4)])) _
    refine st18 _ ?_
    show Steps p.tables e below (T18.setTop (mkF m 60 LL10 [])) _
    refine XS.goto X18.here hx rfl (pc0 := 60) (pc' := 259) rfl (hb hby d37_60) (by decide) (by decide) ?_
    show Steps p.tables e below (T18.setTop (mkF m 259 LL10 [])) _
    refine XS.aloadN X18.here hx rfl (hb hby d37_259) rfl rfl ?_
    show Steps p.tables e below (T18.setTop (mkF m 260 LL10 [(.ref a)])) _
    refine XS.dup X18.here hx rfl (hb hby d37_260) rfl rfl ?_
    show Steps p.tables e below (T18.setTop (mkF m 261 LL10 [(.ref a), (.ref a)])) _
    refine st20 _ ?_
    show Steps p.tables e below (T20.setTop (mkF m 264 LL10 [(.int (0 : Int32)), (.ref a)])) _
    refine XS.iconst X20.here hx rfl (hb hby d37_264) ?_
    show Steps p.tables e below (T20.setTop (mkF m 265 LL10 [(.int (1 : Int32)), (.int (0 : Int32)), (.ref a)])) _
    refine XS.iadd X20.here hx rfl (hb hby d37_265) rfl ?_
    show Steps p.tables e below (T20.setTop (mkF m 266 LL10 [(.int (1 : Int32)), (.ref a)])) _
    refine st22 _ ?_
    show Steps p.tables e below (T22.setTop (mkF m 269 LL10 [])) _
    refine XS.aloadN X22.here hx rfl (hb hby d37_269) rfl rfl ?_
    show Steps p.tables e below (T22.setTop (mkF m 270 LL10 [(.ref a)])) _
    refine XS.dup X22.here hx rfl (hb hby d37_270) rfl rfl ?_
    show Steps p.tables e below (T22.setTop (mkF m 271 LL10 [(.ref a), (.ref a)])) _
    refine st24 _ ?_
    show Steps p.tables e below (T24.setTop (mkF m 274 LL10 [(.int (0 : Int32)), (.ref a)])) _
    refine XS.iconst X24.here hx rfl (hb hby d37_274) ?_
    show Steps p.tables e below (T24.setTop (mkF m 275 LL10 [(.int (1 : Int32)), (.int (0 : Int32)), (.ref a)])) _
    refine XS.iadd X24.here hx rfl (hb hby d37_275) rfl ?_
    show Steps p.tables e below (T24.setTop (mkF m 276 LL10 [(.int (1 : Int32)), (.ref a)])) _
    refine XS.dupX1 X24.here hx rfl (hb hby d37_276) rfl rfl rfl ?_
    show Steps p.tables e below (T24.setTop (mkF m 277 LL10 [(.int (1 : Int32)), (.ref a), (.int (1 : Int32))])) _
    refine st26 _ ?_
    show Steps p.tables e below (T26.setTop (mkF m 280 LL10 [(.int (1 : Int32))])) _
    refine XS.aloadN X26.here hx rfl (hb hby d37_280) rfl rfl ?_
    show Steps p.tables e below (T26.setTop (mkF m 281 LL10 [(.ref a), (.int (1 : Int32))])) _
    refine st28 _ ?_
    show Steps p.tables e below (T28.setTop (mkF m 284 LL10 [(.int (12 : Int32)), (.int (1 : Int32))])) _
    refine XS.icmpYes X28.here hx rfl (pc0 := 284) (pc' := 292) rfl (hb hby d37_284) rfl (XT.ii_le_t (by decide)) (by decide) (by decide) ?_
    show Steps p.tables e below (T28.setTop (mkF m 292 LL10 [])) _
    refine XS.aloadN X28.here hx rfl (hb hby d37_292) rfl rfl ?_
    show Steps p.tables e below (T28.setTop (mkF m 293 LL10 [(.ref a)])) _
    refine XS.iload X28.here hx rfl (hb hby d37_293) rfl ?_
    show Steps p.tables e below (T28.setTop (mkF m 295 LL10 [(.int (1 : Int32)), (.ref a)])) _
    refine st29.trans ?_
    show Steps p.tables e below (T29.setTop (mkF m 298 LL10 [])) _
    refine XS.aconstNull X29.here hx rfl (hb hby d37_298) ?_
    show Steps p.tables e below (T29.setTop (mkF m 299 LL10 [.null])) _
    exact kk
  have k33 : Keep h0 h26 [a] := (Keep.wr (Keep.wr (Keep.wr (Keep.trans k15 K12 all0) W18 (Or.inr sz_r_4)) W22 (Or.inl (List.mem_of_getElem? (i := 0) rfl))) W26 (Or.inl (List.mem_of_getElem? (i := 0) rfl)))
  obtain ⟨fs, hr, hrun, hended, hW, hsame⟩ := X29.leave (v := some .null) (fun h => by rw [Bd.returns] at h; cases h)
  refine ⟨_, _, P32 _ ?_, hrun, hended, _, _, rfl, ?_, ⟨_, rfl⟩, hW, hsame.mono (by decide) (by decide)⟩
  · exact X29.areturnOut hx rfl Bd.returns rfl (hb hby d37_299) hr
  · show Q37 Z a hk g v h0 n0 _ T29.heap _
    rw [e29]
    exact ⟨rfl, N29, k33⟩
theorem d38_0 : decode jdk_69_method_15_code 0 = .ok (.aload_n 0, 1) := by decide +kernel
theorem d38_1 : decode jdk_69_method_15_code 1 = .ok (.aload_n 1, 1) := by decide +kernel
theorem d38_2 : decode jdk_69_method_15_code 2 = .ok (.invokestatic 149, 3) := by decide +kernel
theorem d38_5 : decode jdk_69_method_15_code 5 = .ok (.aload_n 1, 1) := by decide +kernel
theorem d38_6 : decode jdk_69_method_15_code 6 = .ok (.aload_n 2, 1) := by decide +kernel
theorem d38_7 : decode jdk_69_method_15_code 7 = .ok (.iconst 0, 1) := by decide +kernel
theorem d38_8 : decode jdk_69_method_15_code 8 = .ok (.iconst 1, 1) := by decide +kernel
theorem d38_9 : decode jdk_69_method_15_code 9 = .ok (.invokevirtual 152, 3) := by decide +kernel
theorem d38_12 : decode jdk_69_method_15_code 12 = .ok (.areturn, 1) := by decide +kernel
theorem ef_38 (m : MethodId) (x0 : Addr) (x1 : Addr) (x2 : Value) (r_x2 : x2.isRef = true) : entryFrame m #[(.ref x0), (.ref x1), x2] 3 = (mkF m 0 #[.val (.ref x0), .val (.ref x1), .val x2] []) := by cases x2 <;> first | (cases r_x2; done) | (simp [entryFrame, mkF, argsToLocals, Value.category]; done) | rfl
def Q38 (Z : State) (a : Addr) (g : Addr) (v : Value) (b : Addr) (k : ClassId) (f : Nat → Int32) (cs : Int32) (h0 : Heap) (n0 : Nat) (vX : Option Value) (hX : Heap) (lX : List Loc) : Prop := vX = some .null ∧ Fr n0 lX ∧ (Keep h0 hX [a, g])
set_option maxRecDepth 65536 in
set_option maxHeartbeats 40000000 in
theorem rm38 (l : Launch) (Z : State) (a0 : Array Value) (hw : ∀ d ∈ tables_1, d.before a0 Z = true) (ws : List Jvm.Cond) (a : Addr) (g : Addr) (v : Value) (b : Addr) (k : ClassId) (f : Nat → Int32) (cs : Int32) (h0 : Heap) (n0 : Nat) (Z0 : n0 ≤ h0.size) (pr0 : Exa Z h0 a "java/util/HashMap") (pr1 : Fld Z h0 a "java/util/HashMap" "loadFactor" "F" (.float (1061158912 : UInt32))) (pr2 : Fld Z h0 a "java/util/HashMap" "table" "[Ljava/util/HashMap$Node;" .null) (pr3 : Fld Z h0 a "java/util/HashMap" "size" "I" (.int (0 : Int32))) (pr4 : Fld Z h0 a "java/util/HashMap" "threshold" "I" (.int (0 : Int32))) (pr5 : Fld Z h0 a "java/util/HashMap" "modCount" "I" (.int (0 : Int32))) (pr6 : n0 ≤ a) (pr7 : v.isRef = true) (pr8 : Exa Z h0 g "java/lang/String") (pr9 : Fld Z h0 g "java/lang/String" "coder" "B" (.int (0 : Int32))) (pr10 : Fld Z h0 g "java/lang/String" "value" "[B" (.ref b)) (pr11 : Fld Z h0 g "java/lang/String" "hash" "I" (.int (0 : Int32))) (pr12 : Fld Z h0 g "java/lang/String" "hashIsZero" "Z" (.int (0 : Int32))) (pr13 : Sta Z h0 "java/lang/String" "COMPACT_STRINGS" "Z" (.int cs)) (pr14 : ¬ cs = (0 : Int32)) (pr15 : Bar Z h0 b k (260 : Int32) f) (pr16 : Exa Z h0 b "[B") (pr17 : n0 ≤ g) (pr18 : a ≠ g) (pr19 : a ≠ b) :
    MetFree l (⟨"java/util/HashMap", "put", "(Ljava/lang/Object;Ljava/lang/Object;)Ljava/lang/Object;"⟩ : MethodName) (head1 (Jvm.Cond.code (⟨"java/util/HashMap", "put", "(Ljava/lang/Object;Ljava/lang/Object;)Ljava/lang/Object;"⟩ : MethodName) jdk_69_method_15_code 3 (some (.object "java/lang/Object")) :: ws) ({ frames := 5, cells := 2, slots := 20, locals := 72 } : Room)) (fun aX uX => aX = #[(.ref a), (.ref g), v] ∧ Z.Warmed39 uX.vm ∧ uX.heap = h0) (fun _ _ _ _ _ => True) (fun _ uX oX wX => ∃ vX lX, oX = .returned vX ∧ Q38 Z a g v b k f cs h0 n0 vX wX.heap lX ∧ FrameEnd uX oX wX lX ({ frames := 5, cells := 2, slots := 20, locals := 72 } : Room).cells ({ frames := 5, cells := 2, slots := 20, locals := 72 } : Room).slots) := by
  refine MetFree.of_bodySF (plainFor_of_name pn_2) hisR ?_
  intro p e s m args below meth c s₁ Bd hml0 hP hK
  obtain ⟨rfl, hZ, hh⟩ := hP
  have hx := Bd.exec
  have hby := Bd.bytes
  have hml : c.maxLocals = 3 := hml0
  have hown : s.vm.findClass "java/util/HashMap" = some m.cls := findClass_of_methodNamed Bd.named
  have hnm := (name_of_methodNamed Bd.named Bd.method).1
  have X0 : Stand p l e ({ frames := 5, cells := 2, slots := 20, locals := 72 } : Room) s m #[(.ref a), (.ref g), v] below meth c s₁ [] 0 0 := Stand.of_body Bd
  have e0 : s₁.heap = h0 := by rw [← hh, Bd.state]; rfl
  have N0 := Fr.nil n0
  let ST : State := (s₁.setTop (entryFrame m #[(.ref a), (.ref g), v] 3))
  have pre0 : ∀ t, Steps p.tables e below (s₁.setTop (mkF m 0 #[.val (.ref a), .val (.ref g), .val v] [])) t → Steps p.tables e below ST t := fun t k => castTop (ef_38 m a g v pr7) k
  let LL1 : Array Slot := #[.val (.ref a), .val (.ref g), .val v]
  obtain ⟨_, _, ⟨T2, L2, k2, n2⟩, -, X2, ⟨Lc2, hQ2, l2, y2, z2⟩, st2⟩ := Jvm.LawKit.callS X0 hx (y := (⟨"java/util/HashMap", "hash", "(Ljava/lang/Object;)I"⟩ : MethodName)) hown (mvT hZ (hw _ (List.mem_of_getElem? (i := 181) rfl))) (mvT hZ (hw _ (List.mem_of_getElem? (i := 182) rfl))) (mvT hZ (hw _ (List.mem_of_getElem? (i := 42) rfl))) (mvT hZ (hw _ (List.mem_of_getElem? (i := 183) rfl))) (by decide) (backOf (W := 1) (rm28 l Z a0 hw [] g b k f cs h0 n0 Z0 pr8 pr9 pr10 pr11 pr12 pr13 pr14 pr15 pr16 pr17) hZ (hw _ (List.mem_of_getElem? (i := 183) rfl)) (hw _ (List.mem_of_getElem? (i := 42) rfl)) (by decide) (by decide)) (g := (mkF m 2 LL1 [(.ref g), (.ref a)])) rfl (by rw [hml]; rfl) (argsL := [(.ref g)]) (rest := [(.ref a)]) (lenOf pd_20 rfl) rfl (by show 2 * 0 + _ ≤ _; exact Nat.le_of_eq rfl) (hb hby d38_2) (fun _ _ => ⟨rfl, e0, (by decide : 0 + 0 ≤ _), (by decide : 0 + 0 ≤ _)⟩)
  dsimp only [Pt.U, Pt.locs, Pt.cells, Pt.slots] at X2 l2 y2 z2 st2 hQ2
  subst l2 y2 z2
  obtain ⟨hv_2, rfl, Nq2, K2⟩ := hQ2
  have N2 := Fr.app N0 Nq2
  have f4 := (Exa.keep pr0 K2)
  have f5 := (Fld.keep pr1 K2 (ninS pr18 nin0))
  have f6 := (Fld.keep pr2 K2 (ninS pr18 nin0))
  have f7 := (Fld.keep pr3 K2 (ninS pr18 nin0))
  have f8 := (Fld.keep pr4 K2 (ninS pr18 nin0))
  have f9 := (Fld.keep pr5 K2 (ninS pr18 nin0))
  have z10 : n0 ≤ _ := (Nat.le_trans Z0 K2.1)
  obtain ⟨cq3, kq3, q3a, q3b, q3c⟩ := isOf hZ rfl f4
  obtain ⟨_, _, ⟨T3, L3, k3, n3⟩, -, X3, ⟨Lc3, hQ3, l3, y3, z3⟩, st3⟩ := X2.virtualBack hx (y := (⟨"java/util/HashMap", "putVal", "(ILjava/lang/Object;Ljava/lang/Object;ZZ)Ljava/lang/Object;"⟩ : MethodName)) (z := (⟨"java/util/HashMap", "putVal", "(ILjava/lang/Object;Ljava/lang/Object;ZZ)Ljava/lang/Object;"⟩ : MethodName)) hown (mvT hZ (hw _ (List.mem_of_getElem? (i := 211) rfl))) (mvT hZ (hw _ (List.mem_of_getElem? (i := 212) rfl))) (notFace_of_selects (args := #[]) (mvT hZ (hw _ (List.mem_of_getElem? (i := 214) rfl)))) (mvT hZ (hw _ (List.mem_of_getElem? (i := 214) rfl))) (mvT hZ (hw _ (List.mem_of_getElem? (i := 213) rfl))) (by decide) (backOf (W := 0) (rm37 l Z a0 hw [] a hv_2 g v T2.heap n0 z10 f4 f5 f6 f7 f8 f9 pr6 pr7) hZ (hw _ (List.mem_of_getElem? (i := 215) rfl)) (hw _ (List.mem_of_getElem? (i := 42) rfl)) (by decide) (by decide)) q3a q3c (g := (mkF m 9 LL1 [(.int (1 : Int32)), (.int (0 : Int32)), v, (.ref g), (.int hv_2), (.ref a)])) rfl (by rw [hml]; rfl) (Steps.refl _) (argsL := [(.int hv_2), (.ref g), v, (.int (0 : Int32)), (.int (1 : Int32))]) (rest := []) (lenOf pd_21 rfl) rfl (by show 2 * 0 + _ ≤ _; exact Nat.le_of_eq rfl) (hb hby d38_9) (fun _ _ => ⟨rfl, rfl, (by decide : 0 + 2 ≤ _), (by decide : 0 + 20 ≤ _)⟩)
  dsimp only [Pt.U, Pt.locs, Pt.cells, Pt.slots] at X3 l3 y3 z3 st3 hQ3
  subst l3 y3 z3
  obtain ⟨rfl, Nq3, K3⟩ := hQ3
  have N3 := Fr.app N2 Nq3
  have P11 : ∀ t, Steps p.tables e below (T3.setTop (mkF m 12 LL1 [.null])) t → Steps p.tables e below ST t := by
    intro t kk
    refine pre0 _ ?_
    show Steps p.tables e below (s₁.setTop (mkF m 0 LL1 [])) _
    refine XS.aloadN X0.here hx rfl (hb hby d38_0) rfl rfl ?_
    show Steps p.tables e below (s₁.setTop (mkF m 1 LL1 [(.ref a)])) _
    refine XS.aloadN X0.here hx rfl (hb hby d38_1) rfl rfl ?_
    show Steps p.tables e below (s₁.setTop (mkF m 2 LL1 [(.ref g), (.ref a)])) _
    refine st2 _ ?_
    show Steps p.tables e below (T2.setTop (mkF m 5 LL1 [(.int hv_2), (.ref a)])) _
    refine XS.aloadN X2.here hx rfl (hb hby d38_5) rfl rfl ?_
    show Steps p.tables e below (T2.setTop (mkF m 6 LL1 [(.ref g), (.int hv_2), (.ref a)])) _
    refine XS.aloadN X2.here hx rfl (hb hby d38_6) rfl pr7 ?_
    show Steps p.tables e below (T2.setTop (mkF m 7 LL1 [v, (.ref g), (.int hv_2), (.ref a)])) _
    refine XS.iconst X2.here hx rfl (hb hby d38_7) ?_
    show Steps p.tables e below (T2.setTop (mkF m 8 LL1 [(.int (0 : Int32)), v, (.ref g), (.int hv_2), (.ref a)])) _
    refine XS.iconst X2.here hx rfl (hb hby d38_8) ?_
    show Steps p.tables e below (T2.setTop (mkF m 9 LL1 [(.int (1 : Int32)), (.int (0 : Int32)), v, (.ref g), (.int hv_2), (.ref a)])) _
    refine st3.trans ?_
    show Steps p.tables e below (T3.setTop (mkF m 12 LL1 [.null])) _
    exact kk
  have k12 : Keep h0 T3.heap [a, g] := (Keep.trans (Keep.trans (Keep.refl h0 [a, g]) K2 (allS (Or.inl (List.mem_of_getElem? (i := 1) rfl)) all0)) K3 (allS (Or.inl (List.mem_of_getElem? (i := 0) rfl)) all0))
  obtain ⟨fs, hr, hrun, hended, hW, hsame⟩ := X3.leave (v := some .null) (fun h => by rw [Bd.returns] at h; cases h)
  refine ⟨_, _, P11 _ ?_, hrun, hended, _, _, rfl, ?_, ⟨_, rfl⟩, hW, hsame.mono (by decide) (by decide)⟩
  · exact X3.areturnOut hx rfl Bd.returns rfl (hb hby d38_12) hr
  · show Q38 Z a g v b k f cs h0 n0 _ T3.heap _
    exact ⟨rfl, N3, k12⟩
def own_tx (f fv : Nat → Int32) : Nat → Int32 := (fun jj => if ((3 : Int32)).toNatClampNeg ≤ jj ∧ jj < ((3 : Int32)).toNatClampNeg + ((260 : Int32)).toNatClampNeg then fv (((0 : Int32)).toNatClampNeg + (jj - ((3 : Int32)).toNatClampNeg)) else (own_cp (256 : Int32) (512 : Int32) (own_w1 (1 : Int32) ((((0 : Int32)).toInt64) + (((260 : Int32)).toInt64)) f)) jj)
theorem own_tx_at (f fv : Nat → Int32) (i j : Nat) (h : i = j + 3) (hj : j < 260) : own_tx f fv i = fv j := by
  have e0 : ((0 : Int32)).toNatClampNeg = 0 := by decide
  have e3 : ((3 : Int32)).toNatClampNeg = 3 := by decide
  have e4 : ((260 : Int32)).toNatClampNeg = 260 := by decide
  unfold own_tx
  rw [e0, e3, e4, if_pos (by omega)]
  congr 1
  omega
theorem own_tx_lo (f fv : Nat → Int32) (i : Nat) (h : i < 3) : own_tx f fv i = own_w1 (1 : Int32) ((((0 : Int32)).toInt64) + (((260 : Int32)).toInt64)) f i := by
  have e3 : ((3 : Int32)).toNatClampNeg = 3 := by decide
  have e5 : ((256 : Int32)).toNatClampNeg = 256 := by decide
  have e6 : ((512 : Int32)).toNatClampNeg = 512 := by decide
  unfold own_tx
  rw [e3, if_neg (by omega)]
  exact own_cp_at _ _ _ _ (by rw [e5]; omega) (by rw [e6]; omega)
theorem own_tx_1 (f fv : Nat → Int32) : own_tx f fv ((1 : Int32)).toNatClampNeg = (-124 : Int32) := (own_tx_lo f fv _ (by decide)).trans ((own_w1_at0 _ _ _ (by decide)).trans (by decide))
theorem own_tx_2 (f fv : Nat → Int32) : own_tx f fv ((2 : Int32)).toNatClampNeg = (2 : Int32) := (own_tx_lo f fv _ (by decide)).trans ((own_w1_at1 (1 : Int32) _ _).trans (by decide))
theorem own_tx_0 (f fv : Nat → Int32) : own_tx f fv ((0 : Int32)).toNatClampNeg = f ((0 : Int32)).toNatClampNeg := (own_tx_lo f fv _ (by decide)).trans (own_w1_ne _ _ _ _ (by decide) (by decide))
theorem d39_0 : decode prog_25_method_5_code 0 = .ok (.aload_n 0, 1) := by decide +kernel
theorem d39_1 : decode prog_25_method_5_code 1 = .ok (.getfield 16, 3) := by decide +kernel
theorem d39_4 : decode prog_25_method_5_code 4 = .ok (.aload_n 1, 1) := by decide +kernel
theorem d39_5 : decode prog_25_method_5_code 5 = .ok (.invokeinterface 36 2, 5) := by decide +kernel
theorem d39_10 : decode prog_25_method_5_code 10 = .ok (.checkcast 42, 3) := by decide +kernel
theorem d39_13 : decode prog_25_method_5_code 13 = .ok (.astore_n 2, 1) := by decide +kernel
theorem d39_14 : decode prog_25_method_5_code 14 = .ok (.aload_n 2, 1) := by decide +kernel
theorem d39_15 : decode prog_25_method_5_code 15 = .ok (.ifnull 13, 3) := by decide +kernel
theorem d39_28 : decode prog_25_method_5_code 28 = .ok (.aload_n 1, 1) := by decide +kernel
theorem d39_29 : decode prog_25_method_5_code 29 = .ok (.getstatic 48, 3) := by decide +kernel
theorem d39_32 : decode prog_25_method_5_code 32 = .ok (.invokevirtual 54, 3) := by decide +kernel
theorem d39_35 : decode prog_25_method_5_code 35 = .ok (.astore_n 3, 1) := by decide +kernel
theorem d39_36 : decode prog_25_method_5_code 36 = .ok (.aload_n 0, 1) := by decide +kernel
theorem d39_37 : decode prog_25_method_5_code 37 = .ok (.aload_n 0, 1) := by decide +kernel
theorem d39_38 : decode prog_25_method_5_code 38 = .ok (.getfield 16, 3) := by decide +kernel
theorem d39_41 : decode prog_25_method_5_code 41 = .ok (.invokeinterface 60 1, 5) := by decide +kernel
theorem d39_46 : decode prog_25_method_5_code 46 = .ok (.i2l, 1) := by decide +kernel
theorem d39_47 : decode prog_25_method_5_code 47 = .ok (.aload_n 3, 1) := by decide +kernel
theorem d39_48 : decode prog_25_method_5_code 48 = .ok (.arraylength, 1) := by decide +kernel
theorem d39_49 : decode prog_25_method_5_code 49 = .ok (.i2l, 1) := by decide +kernel
theorem d39_50 : decode prog_25_method_5_code 50 = .ok (.ladd, 1) := by decide +kernel
theorem d39_51 : decode prog_25_method_5_code 51 = .ok (.invokevirtual 28, 3) := by decide +kernel
theorem d39_54 : decode prog_25_method_5_code 54 = .ok (.aload_n 0, 1) := by decide +kernel
theorem d39_55 : decode prog_25_method_5_code 55 = .ok (.getfield 16, 3) := by decide +kernel
theorem d39_58 : decode prog_25_method_5_code 58 = .ok (.aload_n 1, 1) := by decide +kernel
theorem d39_59 : decode prog_25_method_5_code 59 = .ok (.aload_n 0, 1) := by decide +kernel
theorem d39_60 : decode prog_25_method_5_code 60 = .ok (.getfield 16, 3) := by decide +kernel
theorem d39_63 : decode prog_25_method_5_code 63 = .ok (.invokeinterface 60 1, 5) := by decide +kernel
theorem d39_68 : decode prog_25_method_5_code 68 = .ok (.invokestatic 62, 3) := by decide +kernel
theorem d39_71 : decode prog_25_method_5_code 71 = .ok (.invokeinterface 66 3, 5) := by decide +kernel
theorem d39_76 : decode prog_25_method_5_code 76 = .ok (.pop, 1) := by decide +kernel
theorem d39_77 : decode prog_25_method_5_code 77 = .ok (.aload_n 0, 1) := by decide +kernel
theorem d39_78 : decode prog_25_method_5_code 78 = .ok (.aload_n 3, 1) := by decide +kernel
theorem d39_79 : decode prog_25_method_5_code 79 = .ok (.arraylength, 1) := by decide +kernel
theorem d39_80 : decode prog_25_method_5_code 80 = .ok (.invokevirtual 20, 3) := by decide +kernel
theorem d39_83 : decode prog_25_method_5_code 83 = .ok (.aload_n 3, 1) := by decide +kernel
theorem d39_84 : decode prog_25_method_5_code 84 = .ok (.iconst 0, 1) := by decide +kernel
theorem d39_85 : decode prog_25_method_5_code 85 = .ok (.aload_n 0, 1) := by decide +kernel
theorem d39_86 : decode prog_25_method_5_code 86 = .ok (.getfield 7, 3) := by decide +kernel
theorem d39_89 : decode prog_25_method_5_code 89 = .ok (.aload_n 0, 1) := by decide +kernel
theorem d39_90 : decode prog_25_method_5_code 90 = .ok (.getfield 24, 3) := by decide +kernel
theorem d39_93 : decode prog_25_method_5_code 93 = .ok (.aload_n 3, 1) := by decide +kernel
theorem d39_94 : decode prog_25_method_5_code 94 = .ok (.arraylength, 1) := by decide +kernel
theorem d39_95 : decode prog_25_method_5_code 95 = .ok (.invokestatic 70, 3) := by decide +kernel
theorem d39_98 : decode prog_25_method_5_code 98 = .ok (.aload_n 0, 1) := by decide +kernel
theorem d39_99 : decode prog_25_method_5_code 99 = .ok (.dup, 1) := by decide +kernel
theorem d39_100 : decode prog_25_method_5_code 100 = .ok (.getfield 24, 3) := by decide +kernel
theorem d39_103 : decode prog_25_method_5_code 103 = .ok (.aload_n 3, 1) := by decide +kernel
theorem d39_104 : decode prog_25_method_5_code 104 = .ok (.arraylength, 1) := by decide +kernel
theorem d39_105 : decode prog_25_method_5_code 105 = .ok (.iadd, 1) := by decide +kernel
theorem d39_106 : decode prog_25_method_5_code 106 = .ok (.putfield 24, 3) := by decide +kernel
theorem d39_109 : decode prog_25_method_5_code 109 = .ok (.return_, 1) := by decide +kernel
theorem ef_39 (m : MethodId) (x0 : Addr) (x1 : Addr) : entryFrame m #[(.ref x0), (.ref x1)] 4 = (mkF m 0 #[.val (.ref x0), .val (.ref x1), .unset, .unset] []) := by first | (simp [entryFrame, mkF, argsToLocals, Value.category]; done) | rfl
def Q39 (Z : State) (a : Addr) (g : Addr) (b : Addr) (k : ClassId) (f : Nat → Int32) (tm : Addr) (sv : Addr) (kv : ClassId) (fv : Nat → Int32) (cs : Int32) (u : Addr) (ca : Addr) (h0 : Heap) (n0 : Nat) (vX : Option Value) (hX : Heap) (lX : List Loc) : Prop := ∃ (r : Addr) (kr : ClassId), vX = none ∧ Fr n0 lX ∧ (Keep h0 hX [a, b, tm, g]) ∧ (Fld Z hX a "com/example/meterwright/meterwright/RecordBody$Writer" "bytes" "[B" (.ref r)) ∧ (Fld Z hX a "com/example/meterwright/meterwright/RecordBody$Writer" "size" "I" (.int (263 : Int32))) ∧ (Fld Z hX a "com/example/meterwright/meterwright/RecordBody$Writer" "texts" "Ljava/util/Map;" (.ref tm)) ∧ (Bar Z hX r kr (512 : Int32) (own_tx f fv)) ∧ (h0.size ≤ r)
set_option maxRecDepth 65536 in
set_option maxHeartbeats 40000000 in
theorem rm39 (l : Launch) (Z : State) (a0 : Array Value) (hw : ∀ d ∈ tables_1, d.before a0 Z = true) (ws : List Jvm.Cond) (a : Addr) (g : Addr) (b : Addr) (k : ClassId) (f : Nat → Int32) (tm : Addr) (sv : Addr) (kv : ClassId) (fv : Nat → Int32) (cs : Int32) (u : Addr) (ca : Addr) (h0 : Heap) (n0 : Nat) (Z0 : n0 ≤ h0.size) (pr0 : Exa Z h0 a "com/example/meterwright/meterwright/RecordBody$Writer") (pr1 : Fld Z h0 a "com/example/meterwright/meterwright/RecordBody$Writer" "bytes" "[B" (.ref b)) (pr2 : Fld Z h0 a "com/example/meterwright/meterwright/RecordBody$Writer" "size" "I" (.int (1 : Int32))) (pr3 : Fld Z h0 a "com/example/meterwright/meterwright/RecordBody$Writer" "texts" "Ljava/util/Map;" (.ref tm)) (pr4 : Bar Z h0 b k (256 : Int32) f) (pr5 : Exa Z h0 tm "java/util/HashMap") (pr6 : Fld Z h0 tm "java/util/HashMap" "loadFactor" "F" (.float (1061158912 : UInt32))) (pr7 : Fld Z h0 tm "java/util/HashMap" "table" "[Ljava/util/HashMap$Node;" .null) (pr8 : Fld Z h0 tm "java/util/HashMap" "size" "I" (.int (0 : Int32))) (pr9 : Fld Z h0 tm "java/util/HashMap" "threshold" "I" (.int (0 : Int32))) (pr10 : Fld Z h0 tm "java/util/HashMap" "modCount" "I" (.int (0 : Int32))) (pr11 : Exa Z h0 g "java/lang/String") (pr12 : Fld Z h0 g "java/lang/String" "coder" "B" (.int (0 : Int32))) (pr13 : Fld Z h0 g "java/lang/String" "value" "[B" (.ref sv)) (pr14 : Fld Z h0 g "java/lang/String" "hash" "I" (.int (0 : Int32))) (pr15 : Fld Z h0 g "java/lang/String" "hashIsZero" "Z" (.int (0 : Int32))) (pr16 : Bar Z h0 sv kv (260 : Int32) fv) (pr17 : Exa Z h0 sv "[B") (pr18 : ∀ i, ¬ (fv i) < (0 : Int32)) (pr19 : Sta Z h0 "java/lang/String" "COMPACT_STRINGS" "Z" (.int cs)) (pr20 : ¬ cs = (0 : Int32)) (pr21 : Sta Z h0 "java/nio/charset/StandardCharsets" "UTF_8" "Ljava/nio/charset/Charset;" (.ref u)) (pr22 : Sta Z h0 "sun/nio/cs/UTF_8" "INSTANCE" "Lsun/nio/cs/UTF_8;" (.ref u)) (pr23 : Sta Z h0 "java/lang/Integer$IntegerCache" "high" "I" (.int (127 : Int32))) (pr24 : Sta Z h0 "java/lang/Integer$IntegerCache" "cache" "[Ljava/lang/Integer;" (.ref ca)) (pr25 : Cac Z h0 ca "java/lang/Integer") (pr26 : n0 ≤ a) (pr27 : n0 ≤ b) (pr28 : n0 ≤ tm) (pr29 : n0 ≤ g) (pr30 : a ≠ b) (pr31 : a ≠ tm) (pr32 : a ≠ g) (pr33 : a ≠ sv) (pr34 : a ≠ ca) (pr35 : b ≠ tm) (pr36 : b ≠ g) (pr37 : b ≠ sv) (pr38 : b ≠ ca) (pr39 : tm ≠ g) (pr40 : tm ≠ sv) (pr41 : tm ≠ ca) (pr42 : g ≠ sv) (pr43 : g ≠ ca) (pr44 : sv ≠ ca) :
    MetFree l (⟨"com/example/meterwright/meterwright/RecordBody$Writer", "text", "(Ljava/lang/String;)V"⟩ : MethodName) (head1 (Jvm.Cond.code (⟨"com/example/meterwright/meterwright/RecordBody$Writer", "text", "(Ljava/lang/String;)V"⟩ : MethodName) prog_25_method_5_code 4 none :: ws) ({ frames := 6, cells := 4, slots := 880, locals := 86 } : Room)) (fun aX uX => aX = #[(.ref a), (.ref g)] ∧ Z.Warmed39 uX.vm ∧ uX.heap = h0) (fun _ _ _ _ _ => True) (fun _ uX oX wX => ∃ vX lX, oX = .returned vX ∧ Q39 Z a g b k f tm sv kv fv cs u ca h0 n0 vX wX.heap lX ∧ FrameEnd uX oX wX lX ({ frames := 6, cells := 4, slots := 880, locals := 86 } : Room).cells ({ frames := 6, cells := 4, slots := 880, locals := 86 } : Room).slots) := by
  refine MetFree.of_bodySF (plainFor_of_name pn_3) hisR ?_
  intro p e s m args below meth c s₁ Bd hml0 hP hK
  obtain ⟨rfl, hZ, hh⟩ := hP
  have hx := Bd.exec
  have hby := Bd.bytes
  have hml : c.maxLocals = 4 := hml0
  have hown : s.vm.findClass "com/example/meterwright/meterwright/RecordBody$Writer" = some m.cls := findClass_of_methodNamed Bd.named
  have hnm := (name_of_methodNamed Bd.named Bd.method).1
  have X0 : Stand p l e ({ frames := 6, cells := 4, slots := 880, locals := 86 } : Room) s m #[(.ref a), (.ref g)] below meth c s₁ [] 0 0 := Stand.of_body Bd
  have e0 : s₁.heap = h0 := by rw [← hh, Bd.state]; rfl
  have N0 := Fr.nil n0
  let ST : State := (s₁.setTop (entryFrame m #[(.ref a), (.ref g)] 4))
  have pre0 : ∀ t, Steps p.tables e below (s₁.setTop (mkF m 0 #[.val (.ref a), .val (.ref g), .unset, .unset] [])) t → Steps p.tables e below ST t := fun t k => castTop (ef_39 m a g) k
  let LL1 : Array Slot := #[.val (.ref a), .val (.ref g), .unset, .unset]
  obtain ⟨T2, X2, e2, st2⟩ := getF X0 hx hZ hown (host := "") (Or.inl (hw _ (List.mem_of_getElem? (i := 56) rfl))) Via.refl e0 pr3 (g := (mkF m 1 LL1 [(.ref a)])) rfl rfl (hb hby d39_1)
  obtain ⟨cq3, kq3, q3a, q3b, q3c⟩ := isOf hZ e2 pr5
  obtain ⟨_, _, ⟨T3, L3, k3, n3⟩, -, X3, ⟨Lc3, hQ3, l3, y3, z3⟩, st3⟩ := X2.interfaceBack hx (xi := (⟨"java/util/Map", "get", "(Ljava/lang/Object;)Ljava/lang/Object;"⟩ : MethodName)) (y := (⟨"java/util/HashMap", "get", "(Ljava/lang/Object;)Ljava/lang/Object;"⟩ : MethodName)) hown (mvT hZ (hw _ (List.mem_of_getElem? (i := 103) rfl))) (mvT hZ (hw _ (List.mem_of_getElem? (i := 104) rfl))) (mvT hZ (hw _ (List.mem_of_getElem? (i := 105) rfl))) (mvT hZ (hw _ (List.mem_of_getElem? (i := 106) rfl))) (mvT hZ (hw _ (List.mem_of_getElem? (i := 107) rfl))) (mvT hZ (hw _ (List.mem_of_getElem? (i := 108) rfl))) (mvT hZ (hw _ (List.mem_of_getElem? (i := 109) rfl))) (mvT hZ (hw _ (List.mem_of_getElem? (i := 110) rfl))) (by decide) (backOf (W := 0) (rm30 l Z a0 hw [] tm g h0 n0 Z0 pr5 pr7) hZ (hw _ (List.mem_of_getElem? (i := 111) rfl)) (hw _ (List.mem_of_getElem? (i := 42) rfl)) (by decide) (by decide)) q3a q3b q3c (g := (mkF m 5 LL1 [(.ref g), (.ref tm)])) rfl (by rw [hml]; rfl) (Steps.refl _) (argsL := [(.ref g)]) (rest := []) (lenOf pd_22 rfl) rfl (by show 2 * 0 + _ ≤ _; exact Nat.le_of_eq rfl) (hb hby d39_5) (fun _ _ => ⟨rfl, e2, (by decide : 0 + 0 ≤ _), (by decide : 0 + 0 ≤ _)⟩)
  dsimp only [Pt.U, Pt.locs, Pt.cells, Pt.slots] at X3 l3 y3 z3 st3 hQ3
  subst l3 y3 z3
  obtain ⟨rfl, Nq3, e3⟩ := hQ3
  have N3 := Fr.app N0 Nq3
  let LL4 : Array Slot := #[.val (.ref a), .val (.ref g), .val .null, .unset]
  obtain ⟨T5, X5, e5, st5⟩ := getS2 X3 hx hZ hown (host := "") (Or.inl (hw _ (List.mem_of_getElem? (i := 119) rfl))) Via.refl e3 pr21 (g := (mkF m 29 LL4 [(.ref g)])) rfl (hb hby d39_29)
  obtain ⟨cq6, kq6, q6a, q6b, q6c⟩ := isOf hZ e5 pr11
  obtain ⟨_, _, ⟨T6, L6, k6, n6⟩, -, X6, ⟨Lc6, hQ6, l6, y6, z6⟩, st6⟩ := X5.virtualBack hx (y := (⟨"java/lang/String", "getBytes", "(Ljava/nio/charset/Charset;)[B"⟩ : MethodName)) (z := (⟨"java/lang/String", "getBytes", "(Ljava/nio/charset/Charset;)[B"⟩ : MethodName)) hown (mvT hZ (hw _ (List.mem_of_getElem? (i := 121) rfl))) (mvT hZ (hw _ (List.mem_of_getElem? (i := 122) rfl))) (notFace_of_selects (args := #[]) (mvT hZ (hw _ (List.mem_of_getElem? (i := 124) rfl)))) (mvT hZ (hw _ (List.mem_of_getElem? (i := 124) rfl))) (mvT hZ (hw _ (List.mem_of_getElem? (i := 123) rfl))) (by decide) (backOf (W := 0) (rm23 l Z a0 hw [] g u sv kv fv cs h0 n0 Z0 pr11 pr19 pr20 pr12 pr13 pr16 pr17 pr18 pr22) hZ (hw _ (List.mem_of_getElem? (i := 125) rfl)) (hw _ (List.mem_of_getElem? (i := 3) rfl)) (by decide) (by decide)) q6a q6c (g := (mkF m 32 LL4 [(.ref u), (.ref g)])) rfl (by rw [hml]; rfl) (Steps.refl _) (argsL := [(.ref u)]) (rest := []) (lenOf pd_23 rfl) rfl (by show 2 * 0 + _ ≤ _; exact Nat.le_of_eq rfl) (hb hby d39_32) (fun _ _ => ⟨rfl, e5, (by decide : 0 + 1 ≤ _), (by decide : 0 + 260 ≤ _)⟩)
  dsimp only [Pt.U, Pt.locs, Pt.cells, Pt.slots] at X6 l6 y6 z6 st6 hQ6
  subst l6 y6 z6
  obtain ⟨r_6, rfl, Nq6, K6, q6_0, q6_1, q6_2⟩ := hQ6
  have N6 := Fr.app N3 Nq6
  have ne_a_r_6 : a ≠ r_6 := Nat.ne_of_lt (Nat.lt_of_lt_of_le pr0.lt q6_2)
  have ne_b_r_6 : b ≠ r_6 := Nat.ne_of_lt (Nat.lt_of_lt_of_le pr4.lt q6_2)
  have ne_tm_r_6 : tm ≠ r_6 := Nat.ne_of_lt (Nat.lt_of_lt_of_le pr5.lt q6_2)
  have ne_g_r_6 : g ≠ r_6 := Nat.ne_of_lt (Nat.lt_of_lt_of_le pr11.lt q6_2)
  have ne_sv_r_6 : sv ≠ r_6 := Nat.ne_of_lt (Nat.lt_of_lt_of_le pr16.lt q6_2)
  have ne_ca_r_6 : ca ≠ r_6 := Nat.ne_of_lt (Nat.lt_of_lt_of_le pr25.lt q6_2)
  have ge_r_6 : n0 ≤ r_6 := Nat.le_trans Z0 q6_2
  have sz_r_6 : h0.size ≤ r_6 := Nat.le_trans (Keep.refl h0 [a, b, tm, g]).1 q6_2
  let LL7 : Array Slot := #[.val (.ref a), .val (.ref g), .val .null, .val (.ref r_6)]
  have f8 := (Fld.keep pr3 K6 nin0)
  obtain ⟨T9, X9, e9, st9⟩ := getF X6 hx hZ hown (host := "") (Or.inl (hw _ (List.mem_of_getElem? (i := 56) rfl))) Via.refl rfl f8 (g := (mkF m 38 LL7 [(.ref a), (.ref a)])) rfl rfl (hb hby d39_38)
  have f11 := (Fld.keep pr8 K6 nin0)
  have z12 : n0 ≤ _ := (Nat.le_trans Z0 K6.1)
  have f13 := (Exa.keep pr5 K6)
  obtain ⟨cq10, kq10, q10a, q10b, q10c⟩ := isOf hZ e9 f13
  obtain ⟨_, _, ⟨T10, L10, k10, n10⟩, -, X10, ⟨Lc10, hQ10, l10, y10, z10⟩, st10⟩ := X9.interfaceBack hx (xi := (⟨"java/util/Map", "size", "()I"⟩ : MethodName)) (y := (⟨"java/util/HashMap", "size", "()I"⟩ : MethodName)) hown (mvT hZ (hw _ (List.mem_of_getElem? (i := 155) rfl))) (mvT hZ (hw _ (List.mem_of_getElem? (i := 156) rfl))) (mvT hZ (hw _ (List.mem_of_getElem? (i := 157) rfl))) (mvT hZ (hw _ (List.mem_of_getElem? (i := 158) rfl))) (mvT hZ (hw _ (List.mem_of_getElem? (i := 159) rfl))) (mvT hZ (hw _ (List.mem_of_getElem? (i := 160) rfl))) (mvT hZ (hw _ (List.mem_of_getElem? (i := 161) rfl))) (mvT hZ (hw _ (List.mem_of_getElem? (i := 110) rfl))) (by decide) (backOf (W := 1) (rm31 l Z a0 hw [] tm (0 : Int32) T6.heap n0 z12 f11) hZ (hw _ (List.mem_of_getElem? (i := 162) rfl)) (hw _ (List.mem_of_getElem? (i := 42) rfl)) (by decide) (by decide)) q10a q10b q10c (g := (mkF m 41 LL7 [(.ref tm), (.ref a)])) rfl (by rw [hml]; rfl) (Steps.refl _) (argsL := []) (rest := [(.ref a)]) (lenOf pd_14 rfl) rfl (by show 2 * 0 + _ ≤ _; exact Nat.le_of_eq rfl) (hb hby d39_41) (fun _ _ => ⟨rfl, e9, (by decide : 1 + 0 ≤ _), (by decide : 260 + 0 ≤ _)⟩)
  dsimp only [Pt.U, Pt.locs, Pt.cells, Pt.slots] at X10 l10 y10 z10 st10 hQ10
  subst l10 y10 z10
  obtain ⟨rfl, Nq10, e10⟩ := hQ10
  have N10 := Fr.app N6 Nq10
  obtain ⟨cl_a14, Ar_a14, q_a14, S_a14, N_a14, H_a14⟩ := id q6_0
  have f16 := (Exa.keep pr0 K6)
  have f17 := (Fld.keep pr1 K6 nin0)
  have f18 := (Fld.keep pr2 K6 nin0)
  have f19 := (Bar.keep pr4 K6 nin0)
  obtain ⟨cq15, kq15, q15a, q15b, q15c⟩ := isOf hZ e10 f16
  obtain ⟨_, _, ⟨T15, L15, k15, n15⟩, -, X15, ⟨Lc15, hQ15, l15, y15, z15⟩, st15⟩ := X10.virtualBack hx (y := (⟨"com/example/meterwright/meterwright/RecordBody$Writer", "whole", "(J)V"⟩ : MethodName)) (z := (⟨"com/example/meterwright/meterwright/RecordBody$Writer", "whole", "(J)V"⟩ : MethodName)) hown (mvT hZ (hw _ (List.mem_of_getElem? (i := 92) rfl))) (mvT hZ (hw _ (List.mem_of_getElem? (i := 82) rfl))) (notFace_of_selects (args := #[]) (mvT hZ (hw _ (List.mem_of_getElem? (i := 84) rfl)))) (mvT hZ (hw _ (List.mem_of_getElem? (i := 84) rfl))) (mvT hZ (hw _ (List.mem_of_getElem? (i := 83) rfl))) (by decide) (backOf (W := 0) (rm8 l Z a0 hw [] a ((((0 : Int32)).toInt64) + (((260 : Int32)).toInt64)) b k (256 : Int32) f (1 : Int32) tm T6.heap n0 z12 f16 f17 f18 f19 (by decide) pr26 pr27 pr30 (by decide) f8) hZ (hw _ (List.mem_of_getElem? (i := 85) rfl)) (hw _ (List.mem_of_getElem? (i := 33) rfl)) (by decide) (by decide)) q15a q15c (g := (mkF m 51 LL7 [(.long ((((0 : Int32)).toInt64) + (((260 : Int32)).toInt64))), (.ref a)])) rfl (by rw [hml]; rfl) (Steps.refl _) (argsL := [(.long ((((0 : Int32)).toInt64) + (((260 : Int32)).toInt64)))]) (rest := []) (lenOf pd_3 rfl) rfl (by show 2 * 0 + _ ≤ _; exact Nat.le_of_eq rfl) (hb hby d39_51) (fun _ _ => ⟨rfl, e10, (by decide : 1 + 0 ≤ _), (by decide : 260 + 0 ≤ _)⟩)
  dsimp only [Pt.U, Pt.locs, Pt.cells, Pt.slots] at X15 l15 y15 z15 st15 hQ15
  subst l15 y15 z15
  obtain ⟨rfl, Nq15, K15, q15_0, q15_1, q15_2, q15_3⟩ := hQ15
  have N15 := Fr.app N10 Nq15
  have q15_1' : Fld Z T15.heap a "com/example/meterwright/meterwright/RecordBody$Writer" "size" "I" (.int (3 : Int32)) := q15_1
  obtain ⟨T20, X20, e20, st20⟩ := getF X15 hx hZ hown (host := "") (Or.inl (hw _ (List.mem_of_getElem? (i := 56) rfl))) Via.refl rfl q15_3 (g := (mkF m 55 LL7 [(.ref a)])) rfl rfl (hb hby d39_55)
  obtain ⟨T21, X21, e21, st21⟩ := getF X20 hx hZ hown (host := "") (Or.inl (hw _ (List.mem_of_getElem? (i := 56) rfl))) Via.refl e20 q15_3 (g := (mkF m 60 LL7 [(.ref a), (.ref g), (.ref tm)])) rfl rfl (hb hby d39_60)
  have f23 := (Fld.keep f11 K15 (ninS (Ne.symm pr31) (ninS (Ne.symm pr35) nin0)))
  have z24 : n0 ≤ _ := (Nat.le_trans z12 K15.1)
  have f25 := (Exa.keep f13 K15)
  obtain ⟨cq22, kq22, q22a, q22b, q22c⟩ := isOf hZ e21 f25
  obtain ⟨_, _, ⟨T22, L22, k22, n22⟩, -, X22, ⟨Lc22, hQ22, l22, y22, z22⟩, st22⟩ := X21.interfaceBack hx (xi := (⟨"java/util/Map", "size", "()I"⟩ : MethodName)) (y := (⟨"java/util/HashMap", "size", "()I"⟩ : MethodName)) hown (mvT hZ (hw _ (List.mem_of_getElem? (i := 155) rfl))) (mvT hZ (hw _ (List.mem_of_getElem? (i := 156) rfl))) (mvT hZ (hw _ (List.mem_of_getElem? (i := 157) rfl))) (mvT hZ (hw _ (List.mem_of_getElem? (i := 158) rfl))) (mvT hZ (hw _ (List.mem_of_getElem? (i := 159) rfl))) (mvT hZ (hw _ (List.mem_of_getElem? (i := 160) rfl))) (mvT hZ (hw _ (List.mem_of_getElem? (i := 161) rfl))) (mvT hZ (hw _ (List.mem_of_getElem? (i := 110) rfl))) (by decide) (backOf (W := 2) (rm31 l Z a0 hw [] tm (0 : Int32) T15.heap n0 z24 f23) hZ (hw _ (List.mem_of_getElem? (i := 162) rfl)) (hw _ (List.mem_of_getElem? (i := 42) rfl)) (by decide) (by decide)) q22a q22b q22c (g := (mkF m 63 LL7 [(.ref tm), (.ref g), (.ref tm)])) rfl (by rw [hml]; rfl) (Steps.refl _) (argsL := []) (rest := [(.ref g), (.ref tm)]) (lenOf pd_14 rfl) rfl (by show 2 * 0 + _ ≤ _; exact Nat.le_of_eq rfl) (hb hby d39_63) (fun _ _ => ⟨rfl, e21, (by decide : 1 + 0 ≤ _), (by decide : 260 + 0 ≤ _)⟩)
  dsimp only [Pt.U, Pt.locs, Pt.cells, Pt.slots] at X22 l22 y22 z22 st22 hQ22
  subst l22 y22 z22
  obtain ⟨rfl, Nq22, e22⟩ := hQ22
  have N22 := Fr.app N15 Nq22
  have f27 := (own_sta_keepL (own_sta_keep0 pr23 K6 ) K15 (allS f16.nostat (allS f19.nostat all0)))
  have f28 := (own_sta_keepL (own_sta_keep0 pr24 K6 ) K15 (allS f16.nostat (allS f19.nostat all0)))
  have f29 := (Cac.keep (Cac.keep pr25 K6 nin0) K15 (ninS (Ne.symm pr34) (ninS (Ne.symm pr38) nin0)))
  obtain ⟨_, _, ⟨T26, L26, k26, n26⟩, -, X26, ⟨Lc26, hQ26, l26, y26, z26⟩, st26⟩ := Jvm.LawKit.callS X22 hx (y := (⟨"java/lang/Integer", "valueOf", "(I)Ljava/lang/Integer;"⟩ : MethodName)) hown (mvT hZ (hw _ (List.mem_of_getElem? (i := 166) rfl))) (mvT hZ (hw _ (List.mem_of_getElem? (i := 167) rfl))) (mvT hZ (hw _ (List.mem_of_getElem? (i := 168) rfl))) (mvT hZ (hw _ (List.mem_of_getElem? (i := 169) rfl))) (by decide) (backOf (W := 2) (rm32 l Z a0 hw [] ca T15.heap n0 z24 f27 f28 f29) hZ (hw _ (List.mem_of_getElem? (i := 169) rfl)) (hw _ (List.mem_of_getElem? (i := 168) rfl)) (by decide) (by decide)) (g := (mkF m 68 LL7 [(.int (0 : Int32)), (.ref g), (.ref tm)])) rfl (by rw [hml]; rfl) (argsL := [(.int (0 : Int32))]) (rest := [(.ref g), (.ref tm)]) (lenOf pd_24 rfl) rfl (by show 2 * 0 + _ ≤ _; exact Nat.le_of_eq rfl) (hb hby d39_68) (fun _ _ => ⟨rfl, e22, (by decide : 1 + 0 ≤ _), (by decide : 260 + 0 ≤ _)⟩)
  dsimp only [Pt.U, Pt.locs, Pt.cells, Pt.slots] at X26 l26 y26 z26 st26 hQ26
  subst l26 y26 z26
  obtain ⟨r_26, rfl, Nq26, e26, q26_0⟩ := hQ26
  have N26 := Fr.app N22 Nq26
  have f31 := (Fld.keep (Fld.keep pr6 K6 nin0) K15 (ninS (Ne.symm pr31) (ninS (Ne.symm pr35) nin0)))
  have f32 := (Fld.keep (Fld.keep pr7 K6 nin0) K15 (ninS (Ne.symm pr31) (ninS (Ne.symm pr35) nin0)))
  have f33 := (Fld.keep (Fld.keep pr9 K6 nin0) K15 (ninS (Ne.symm pr31) (ninS (Ne.symm pr35) nin0)))
  have f34 := (Fld.keep (Fld.keep pr10 K6 nin0) K15 (ninS (Ne.symm pr31) (ninS (Ne.symm pr35) nin0)))
  have f35 := (Exa.keep (Exa.keep pr11 K6) K15)
  have f36 := (Fld.keep (Fld.keep pr12 K6 nin0) K15 (ninS (Ne.symm pr32) (ninS (Ne.symm pr36) nin0)))
  have f37 := (Fld.keep (Fld.keep pr13 K6 nin0) K15 (ninS (Ne.symm pr32) (ninS (Ne.symm pr36) nin0)))
  have f38 := (Fld.keep (Fld.keep pr14 K6 nin0) K15 (ninS (Ne.symm pr32) (ninS (Ne.symm pr36) nin0)))
  have f39 := (Fld.keep (Fld.keep pr15 K6 nin0) K15 (ninS (Ne.symm pr32) (ninS (Ne.symm pr36) nin0)))
  have f40 := (own_sta_keepL (own_sta_keep0 pr19 K6 ) K15 (allS f16.nostat (allS f19.nostat all0)))
  have f41 := (Bar.keep (Bar.keep pr16 K6 nin0) K15 (ninS (Ne.symm pr33) (ninS (Ne.symm pr37) nin0)))
  have f42 := (Exa.keep (Exa.keep pr17 K6) K15)
  obtain ⟨cq30, kq30, q30a, q30b, q30c⟩ := isOf hZ e26 f25
  obtain ⟨_, _, ⟨T30, L30, k30, n30⟩, -, X30, ⟨Lc30, hQ30, l30, y30, z30⟩, st30⟩ := X26.interfaceBack hx (xi := (⟨"java/util/Map", "put", "(Ljava/lang/Object;Ljava/lang/Object;)Ljava/lang/Object;"⟩ : MethodName)) (y := (⟨"java/util/HashMap", "put", "(Ljava/lang/Object;Ljava/lang/Object;)Ljava/lang/Object;"⟩ : MethodName)) hown (mvT hZ (hw _ (List.mem_of_getElem? (i := 173) rfl))) (mvT hZ (hw _ (List.mem_of_getElem? (i := 174) rfl))) (mvT hZ (hw _ (List.mem_of_getElem? (i := 175) rfl))) (mvT hZ (hw _ (List.mem_of_getElem? (i := 176) rfl))) (mvT hZ (hw _ (List.mem_of_getElem? (i := 177) rfl))) (mvT hZ (hw _ (List.mem_of_getElem? (i := 178) rfl))) (mvT hZ (hw _ (List.mem_of_getElem? (i := 179) rfl))) (mvT hZ (hw _ (List.mem_of_getElem? (i := 110) rfl))) (by decide) (backOf (W := 0) (rm38 l Z a0 hw [] tm g r_26 sv kv fv cs T15.heap n0 z24 f25 f31 f32 f23 f33 f34 pr28 q26_0 f35 f36 f37 f38 f39 f40 pr20 f41 f42 pr29 pr39 pr40) hZ (hw _ (List.mem_of_getElem? (i := 180) rfl)) (hw _ (List.mem_of_getElem? (i := 42) rfl)) (by decide) (by decide)) q30a q30b q30c (g := (mkF m 71 LL7 [r_26, (.ref g), (.ref tm)])) rfl (by rw [hml]; rfl) (Steps.refl _) (argsL := [(.ref g), r_26]) (rest := []) (lenOf pd_25 rfl) rfl (by show 2 * 0 + _ ≤ _; exact Nat.le_of_eq rfl) (hb hby d39_71) (fun _ _ => ⟨rfl, e26, (by decide : 1 + 2 ≤ _), (by decide : 260 + 20 ≤ _)⟩)
  dsimp only [Pt.U, Pt.locs, Pt.cells, Pt.slots] at X30 l30 y30 z30 st30 hQ30
  subst l30 y30 z30
  obtain ⟨rfl, Nq30, K30⟩ := hQ30
  have N30 := Fr.app N26 Nq30
  have P43 : ∀ t, Steps p.tables e below (T30.setTop (mkF m 76 LL7 [.null])) t → Steps p.tables e below ST t := by
    intro t kk
    refine pre0 _ ?_
    show Steps p.tables e below (s₁.setTop (mkF m 0 LL1 [])) _
    refine XS.aloadN X0.here hx rfl (hb hby d39_0) rfl rfl ?_
    show Steps p.tables e below (s₁.setTop (mkF m 1 LL1 [(.ref a)])) _
    refine st2 _ ?_
    show Steps p.tables e below (T2.setTop (mkF m 4 LL1 [(.ref tm)])) _
    refine XS.aloadN X2.here hx rfl (hb hby d39_4) rfl rfl ?_
    show Steps p.tables e below (T2.setTop (mkF m 5 LL1 [(.ref g), (.ref tm)])) _
    refine st3.trans ?_
    show Steps p.tables e below (T3.setTop (mkF m 10 LL1 [.null])) _
    refine X3.checkcastNull hx (g := (mkF m 10 LL1 [.null])) rfl rfl (hb hby d39_10) _ ?_
    show Steps p.tables e below (T3.setTop (mkF m 13 LL1 [.null])) _
    refine XS.astoreN X3.here hx rfl (hb hby d39_13) rfl rfl (l' := LL4) rfl ?_
    show Steps p.tables e below (T3.setTop (mkF m 14 LL4 [])) _
    refine XS.aloadN X3.here hx rfl (hb hby d39_14) rfl rfl ?_
    show Steps p.tables e below (T3.setTop (mkF m 15 LL4 [.null])) _
    refine XS.ifnullYes X3.here hx rfl (pc0 := 15) (pc' := 28) rfl (hb hby d39_15) rfl (by decide) (by decide) ?_
    show Steps p.tables e below (T3.setTop (mkF m 28 LL4 [])) _
    refine XS.aloadN X3.here hx rfl (hb hby d39_28) rfl rfl ?_
    show Steps p.tables e below (T3.setTop (mkF m 29 LL4 [(.ref g)])) _
    refine st5 _ ?_
    show Steps p.tables e below (T5.setTop (mkF m 32 LL4 [(.ref u), (.ref g)])) _
    refine st6.trans ?_
    show Steps p.tables e below (T6.setTop (mkF m 35 LL4 [(.ref r_6)])) _
    refine XS.astoreN X6.here hx rfl (hb hby d39_35) rfl rfl (l' := LL7) rfl ?_
    show Steps p.tables e below (T6.setTop (mkF m 36 LL7 [])) _
    refine XS.aloadN X6.here hx rfl (hb hby d39_36) rfl rfl ?_
    show Steps p.tables e below (T6.setTop (mkF m 37 LL7 [(.ref a)])) _
    refine XS.aloadN X6.here hx rfl (hb hby d39_37) rfl rfl ?_
    show Steps p.tables e below (T6.setTop (mkF m 38 LL7 [(.ref a), (.ref a)])) _
    refine st9 _ ?_
    show Steps p.tables e below (T9.setTop (mkF m 41 LL7 [(.ref tm), (.ref a)])) _
    refine st10.trans ?_
    show Steps p.tables e below (T10.setTop (mkF m 46 LL7 [(.int (0 : Int32)), (.ref a)])) _
    refine XS.i2l X10.here hx rfl (hb hby d39_46) rfl ?_
    show Steps p.tables e below (T10.setTop (mkF m 47 LL7 [(.long (((0 : Int32)).toInt64)), (.ref a)])) _
    refine XS.aloadN X10.here hx rfl (hb hby d39_47) rfl rfl ?_
    show Steps p.tables e below (T10.setTop (mkF m 48 LL7 [(.ref r_6), (.long (((0 : Int32)).toInt64)), (.ref a)])) _
    refine X10.arraylength hx (by rw [e10]; exact Ar_a14.1) (State.isArrayOf_alike hZ.alike Ar_a14.2.1) (g := (mkF m 48 LL7 [(.ref r_6), (.long (((0 : Int32)).toInt64)), (.ref a)])) rfl rfl (hb hby d39_48) _ ?_
    rw [len_of S_a14 N_a14]
    show Steps p.tables e below (T10.setTop (mkF m 49 LL7 [(.int (260 : Int32)), (.long (((0 : Int32)).toInt64)), (.ref a)])) _
    refine XS.i2l X10.here hx rfl (hb hby d39_49) rfl ?_
    show Steps p.tables e below (T10.setTop (mkF m 50 LL7 [(.long (((260 : Int32)).toInt64)), (.long (((0 : Int32)).toInt64)), (.ref a)])) _
    refine XS.ladd X10.here hx rfl (hb hby d39_50) rfl ?_
    show Steps p.tables e below (T10.setTop (mkF m 51 LL7 [(.long ((((0 : Int32)).toInt64) + (((260 : Int32)).toInt64))), (.ref a)])) _
    refine st15.trans ?_
    show Steps p.tables e below (T15.setTop (mkF m 54 LL7 [])) _
    refine XS.aloadN X15.here hx rfl (hb hby d39_54) rfl rfl ?_
    show Steps p.tables e below (T15.setTop (mkF m 55 LL7 [(.ref a)])) _
    refine st20 _ ?_
    show Steps p.tables e below (T20.setTop (mkF m 58 LL7 [(.ref tm)])) _
    refine XS.aloadN X20.here hx rfl (hb hby d39_58) rfl rfl ?_
    show Steps p.tables e below (T20.setTop (mkF m 59 LL7 [(.ref g), (.ref tm)])) _
    refine XS.aloadN X20.here hx rfl (hb hby d39_59) rfl rfl ?_
    show Steps p.tables e below (T20.setTop (mkF m 60 LL7 [(.ref a), (.ref g), (.ref tm)])) _
    refine st21 _ ?_
    show Steps p.tables e below (T21.setTop (mkF m 63 LL7 [(.ref tm), (.ref g), (.ref tm)])) _
    refine st22.trans ?_
    show Steps p.tables e below (T22.setTop (mkF m 68 LL7 [(.int (0 : Int32)), (.ref g), (.ref tm)])) _
    refine st26 _ ?_
    show Steps p.tables e below (T26.setTop (mkF m 71 LL7 [r_26, (.ref g), (.ref tm)])) _
    refine st30.trans ?_
    show Steps p.tables e below (T30.setTop (mkF m 76 LL7 [.null])) _
    exact kk
  have f44 := (Bar.keep (Bar.keep q6_0 K15 (ninS (Ne.symm ne_a_r_6) (ninS (Ne.symm ne_b_r_6) nin0))) K30 (ninS (Ne.symm ne_tm_r_6) (ninS (Ne.symm ne_g_r_6) nin0)))
  obtain ⟨cl_a45, Ar_a45, q_a45, S_a45, N_a45, H_a45⟩ := id f44
  have f47 := (Exa.keep (Exa.keep f16 K15) K30)
  have f48 := (Fld.keep q15_2 K30 (ninS pr31 (ninS pr32 nin0)))
  have f49 := (Fld.keep q15_1' K30 (ninS pr31 (ninS pr32 nin0)))
  have f50 := (Bar.keep q15_0 K30 (ninS pr35 (ninS pr36 nin0)))
  have f51 := (Fld.keep q15_3 K30 (ninS pr31 (ninS pr32 nin0)))
  have z52 : n0 ≤ _ := (Nat.le_trans z24 K30.1)
  obtain ⟨cq46, q46, q46'⟩ := f47.cell
  obtain ⟨_, _, ⟨T46, L46, k46, n46⟩, -, X46, ⟨Lc46, hQ46, l46, y46, z46⟩, st46⟩ := X30.privateBack hx (y := (⟨"com/example/meterwright/meterwright/RecordBody$Writer", "room", "(I)V"⟩ : MethodName)) hown (mvT hZ (hw _ (List.mem_of_getElem? (i := 58) rfl))) (mvT hZ (hw _ (List.mem_of_getElem? (i := 59) rfl))) (own_selpriv (y := (⟨"com/example/meterwright/meterwright/RecordBody$Writer", "room", "(I)V"⟩ : MethodName)) (y' := (⟨"com/example/meterwright/meterwright/RecordBody$Writer", "toByteArray", "()[B"⟩ : MethodName)) rfl (mvT hZ (hw _ (List.mem_of_getElem? (i := 67) rfl))) (Cond.privateMethod_at (mvP hZ (hw _ (List.mem_of_getElem? (i := 60) rfl)) (args := #[]))) (mvT hZ (hw _ (List.mem_of_getElem? (i := 59) rfl))) (by decide)) (Cond.privateMethod_at (mvP hZ (hw _ (List.mem_of_getElem? (i := 60) rfl)) (args := #[]))) (mvT hZ (hw _ (List.mem_of_getElem? (i := 61) rfl))) (by decide) (backOf (W := 0) (rm24 l Z a0 hw [] a b k (own_w1 (1 : Int32) ((((0 : Int32)).toInt64) + (((260 : Int32)).toInt64)) f) tm T30.heap n0 z52 f47 f48 f49 f50 pr26 f51) hZ (hw _ (List.mem_of_getElem? (i := 61) rfl)) (hw _ (List.mem_of_getElem? (i := 33) rfl)) (by decide) (by decide)) (g := (mkF m 80 LL7 [(.int (260 : Int32)), (.ref a)])) rfl (by rw [hml]; rfl) (Steps.refl _) (a := a) (q46) q46' (argsL := [(.int (260 : Int32))]) (rest := []) (lenOf pd_2 rfl) rfl (by show 2 * 0 + _ ≤ _; exact Nat.le_of_eq rfl) (hb hby d39_80) (fun _ _ => ⟨rfl, rfl, (by decide : 3 + 1 ≤ _), (by decide : 280 + 600 ≤ _)⟩)
  dsimp only [Pt.U, Pt.locs, Pt.cells, Pt.slots] at X46 l46 y46 z46 st46 hQ46
  subst l46 y46 z46
  have f53 := (Exa.keep f25 K30)
  have f54 := (Exa.keep f35 K30)
  have f55 := (Bar.keep f41 K30 (ninS (Ne.symm pr40) (ninS (Ne.symm pr42) nin0)))
  have f56 := (Cac.keep f29 K30 (ninS (Ne.symm pr41) (ninS (Ne.symm pr43) nin0)))
  have k57 : Keep h0 T30.heap [a, b, tm, g] := (Keep.trans (Keep.trans (Keep.trans (Keep.refl h0 [a, b, tm, g]) K6 all0) K15 (allS (Or.inl (List.mem_of_getElem? (i := 0) rfl)) (allS (Or.inl (List.mem_of_getElem? (i := 1) rfl)) all0))) K30 (allS (Or.inl (List.mem_of_getElem? (i := 2) rfl)) (allS (Or.inl (List.mem_of_getElem? (i := 3) rfl)) all0)))
  obtain ⟨r_46, kr_46, rfl, Nq46, K46, q46_0, q46_1, q46_2, q46_3, q46_4⟩ := hQ46
  have N46 := Fr.app N30 Nq46
  have ne_a_r_46 : a ≠ r_46 := Nat.ne_of_lt (Nat.lt_of_lt_of_le f47.lt q46_3)
  have ne_tm_r_46 : tm ≠ r_46 := Nat.ne_of_lt (Nat.lt_of_lt_of_le f53.lt q46_3)
  have ne_g_r_46 : g ≠ r_46 := Nat.ne_of_lt (Nat.lt_of_lt_of_le f54.lt q46_3)
  have ne_sv_r_46 : sv ≠ r_46 := Nat.ne_of_lt (Nat.lt_of_lt_of_le f55.lt q46_3)
  have ne_ca_r_46 : ca ≠ r_46 := Nat.ne_of_lt (Nat.lt_of_lt_of_le f56.lt q46_3)
  have ne_r_6_r_46 : r_6 ≠ r_46 := Nat.ne_of_lt (Nat.lt_of_lt_of_le f44.lt q46_3)
  have ne_b_r_46 : b ≠ r_46 := Nat.ne_of_lt (Nat.lt_of_lt_of_le f50.lt q46_3)
  have ge_r_46 : n0 ≤ r_46 := Nat.le_trans z52 q46_3
  have sz_r_46 : h0.size ≤ r_46 := Nat.le_trans k57.1 q46_3
  obtain ⟨T58, X58, e58, st58⟩ := getF X46 hx hZ hown (host := "") (Or.inl (hw _ (List.mem_of_getElem? (i := 38) rfl))) Via.refl rfl q46_0 (g := (mkF m 86 LL7 [(.ref a), (.int (0 : Int32)), (.ref r_6)])) rfl rfl (hb hby d39_86)
  obtain ⟨T59, X59, e59, st59⟩ := getF X58 hx hZ hown (host := "") (Or.inl (hw _ (List.mem_of_getElem? (i := 62) rfl))) Via.refl e58 q46_1 (g := (mkF m 90 LL7 [(.ref a), (.ref r_46), (.int (0 : Int32)), (.ref r_6)])) rfl rfl (hb hby d39_90)
  have f60 := (Bar.keep f44 K46 (ninS (Ne.symm ne_a_r_6) nin0))
  obtain ⟨cl_a61, Ar_a61, q_a61, S_a61, N_a61, H_a61⟩ := id f60
  obtain ⟨T62, h62, L62, X62, e62, N62, K62, V62, st62⟩ := cpA X59 hx hZ hown (hw _ (List.mem_of_getElem? (i := 255) rfl)) (hw _ (List.mem_of_getElem? (i := 80) rfl)) (hw _ (List.mem_of_getElem? (i := 78) rfl)) (hw _ (List.mem_of_getElem? (i := 79) rfl)) e59 (Bar.arv f60) (Bar.arv q46_2) (Or.inl ⟨rfl, rfl⟩) (by decide) (by decide) (by decide) (by decide) (by decide) rfl (by rw [List.length_map, List.length_range]; exact (by decide)) N46 ge_r_46 (g := (mkF m 95 LL7 [(.int (260 : Int32)), (.int (3 : Int32)), (.ref r_46), (.int (0 : Int32)), (.ref r_6)])) rfl (by rw [hml]; rfl) (rest := []) rfl (hb hby d39_95) (by decide) (W := 0) (by show 2 * 0 + _ ≤ _; exact Nat.le_of_eq rfl) (by decide)
  have B62 : Bar Z h62 r_46 kr_46 (512 : Int32) (fun jj => if ((3 : Int32)).toNatClampNeg ≤ jj ∧ jj < ((3 : Int32)).toNatClampNeg + ((260 : Int32)).toNatClampNeg then fv (((0 : Int32)).toNatClampNeg + (jj - ((3 : Int32)).toNatClampNeg)) else (own_cp (256 : Int32) (512 : Int32) (own_w1 (1 : Int32) ((((0 : Int32)).toInt64) + (((260 : Int32)).toInt64)) f)) jj) := Bar.of V62 (fun i hi => own_cpl _ _ _ _ _ _ _ (by decide) (by decide) i hi)
  have f63 := (Fld.keep q46_1 K62 (ninS ne_a_r_46 nin0))
  obtain ⟨T64, X64, e64, st64⟩ := getF X62 hx hZ hown (host := "") (Or.inl (hw _ (List.mem_of_getElem? (i := 62) rfl))) Via.refl e62 f63 (g := (mkF m 100 LL7 [(.ref a), (.ref a)])) rfl rfl (hb hby d39_100)
  have f65 := (Bar.keep f60 K62 (ninS ne_r_6_r_46 nin0))
  obtain ⟨cl_a66, Ar_a66, q_a66, S_a66, N_a66, H_a66⟩ := id f65
  have f67 := (Exa.keep (Exa.keep f47 K46) K62)
  obtain ⟨T68, h68, X68, e68, W68, st68⟩ := putF X64 hx hZ hown (host := "") (Or.inl (hw _ (List.mem_of_getElem? (i := 62) rfl))) Via.refl e64 f63 f67 (Or.inl (hw _ (List.mem_of_getElem? (i := 63) rfl))) (hw _ (List.mem_of_getElem? (i := 32) rfl)) (ty := .int) (by decide) rfl rfl (g := (mkF m 106 LL7 [(.int (263 : Int32)), (.ref a)])) rfl rfl (hb hby d39_106)
  have N68 := Fr.snoc X68 N62 pr26
  have Fw68 := Fld.same W68 f63
  have P69 : ∀ t, Steps p.tables e below (T68.setTop (mkF m 109 LL7 [])) t → Steps p.tables e below ST t := by
    intro t kk
    refine P43 _ ?_
    show Steps p.tables e below (T30.setTop (mkF m 76 LL7 [.null])) _
    refine XS.pop X30.here hx rfl (hb hby d39_76) rfl rfl ?_
    show Steps p.tables e below (T30.setTop (mkF m 77 LL7 [])) _
    refine XS.aloadN X30.here hx rfl (hb hby d39_77) rfl rfl ?_
    show Steps p.tables e below (T30.setTop (mkF m 78 LL7 [(.ref a)])) _
    refine XS.aloadN X30.here hx rfl (hb hby d39_78) rfl rfl ?_
    show Steps p.tables e below (T30.setTop (mkF m 79 LL7 [(.ref r_6), (.ref a)])) _
    refine X30.arraylength hx (Ar_a45.1) (State.isArrayOf_alike hZ.alike Ar_a45.2.1) (g := (mkF m 79 LL7 [(.ref r_6), (.ref a)])) rfl rfl (hb hby d39_79) _ ?_
    rw [len_of S_a45 N_a45]
    show Steps p.tables e below (T30.setTop (mkF m 80 LL7 [(.int (260 : Int32)), (.ref a)])) _
    refine st46.trans ?_
    show Steps p.tables e below (T46.setTop (mkF m 83 LL7 [])) _
    refine XS.aloadN X46.here hx rfl (hb hby d39_83) rfl rfl ?_
    show Steps p.tables e below (T46.setTop (mkF m 84 LL7 [(.ref r_6)])) _
    refine XS.iconst X46.here hx rfl (hb hby d39_84) ?_
    show Steps p.tables e below (T46.setTop (mkF m 85 LL7 [(.int (0 : Int32)), (.ref r_6)])) _
    refine XS.aloadN X46.here hx rfl (hb hby d39_85) rfl rfl ?_
    show Steps p.tables e below (T46.setTop (mkF m 86 LL7 [(.ref a), (.int (0 : Int32)), (.ref r_6)])) _
    refine st58 _ ?_
    show Steps p.tables e below (T58.setTop (mkF m 89 LL7 [(.ref r_46), (.int (0 : Int32)), (.ref r_6)])) _
    refine XS.aloadN X58.here hx rfl (hb hby d39_89) rfl rfl ?_
    show Steps p.tables e below (T58.setTop (mkF m 90 LL7 [(.ref a), (.ref r_46), (.int (0 : Int32)), (.ref r_6)])) _
    refine st59 _ ?_
    show Steps p.tables e below (T59.setTop (mkF m 93 LL7 [(.int (3 : Int32)), (.ref r_46), (.int (0 : Int32)), (.ref r_6)])) _
    refine XS.aloadN X59.here hx rfl (hb hby d39_93) rfl rfl ?_
    show Steps p.tables e below (T59.setTop (mkF m 94 LL7 [(.ref r_6), (.int (3 : Int32)), (.ref r_46), (.int (0 : Int32)), (.ref r_6)])) _
    refine X59.arraylength hx (by rw [e59]; exact Ar_a61.1) (State.isArrayOf_alike hZ.alike Ar_a61.2.1) (g := (mkF m 94 LL7 [(.ref r_6), (.int (3 : Int32)), (.ref r_46), (.int (0 : Int32)), (.ref r_6)])) rfl rfl (hb hby d39_94) _ ?_
    rw [len_of S_a61 N_a61]
    show Steps p.tables e below (T59.setTop (mkF m 95 LL7 [(.int (260 : Int32)), (.int (3 : Int32)), (.ref r_46), (.int (0 : Int32)), (.ref r_6)])) _
    refine st62 _ ?_
    show Steps p.tables e below (T62.setTop (mkF m 98 LL7 [])) _
    refine XS.aloadN X62.here hx rfl (hb hby d39_98) rfl rfl ?_
    show Steps p.tables e below (T62.setTop (mkF m 99 LL7 [(.ref a)])) _
    refine XS.dup X62.here hx rfl (hb hby d39_99) rfl rfl ?_
    show Steps p.tables e below (T62.setTop (mkF m 100 LL7 [(.ref a), (.ref a)])) _
    refine st64 _ ?_
    show Steps p.tables e below (T64.setTop (mkF m 103 LL7 [(.int (3 : Int32)), (.ref a)])) _
    refine XS.aloadN X64.here hx rfl (hb hby d39_103) rfl rfl ?_
    show Steps p.tables e below (T64.setTop (mkF m 104 LL7 [(.ref r_6), (.int (3 : Int32)), (.ref a)])) _
    refine X64.arraylength hx (by rw [e64]; exact Ar_a66.1) (State.isArrayOf_alike hZ.alike Ar_a66.2.1) (g := (mkF m 104 LL7 [(.ref r_6), (.int (3 : Int32)), (.ref a)])) rfl rfl (hb hby d39_104) _ ?_
    rw [len_of S_a66 N_a66]
    show Steps p.tables e below (T64.setTop (mkF m 105 LL7 [(.int (260 : Int32)), (.int (3 : Int32)), (.ref a)])) _
    refine XS.iadd X64.here hx rfl (hb hby d39_105) rfl ?_
    show Steps p.tables e below (T64.setTop (mkF m 106 LL7 [(.int (263 : Int32)), (.ref a)])) _
    refine st68 _ ?_
    show Steps p.tables e below (T68.setTop (mkF m 109 LL7 [])) _
    exact kk
  have k70 : Keep h0 h68 [a, b, tm, g] := (Keep.wr (Keep.trans (Keep.trans k57 K46 (allS (Or.inl (List.mem_of_getElem? (i := 0) rfl)) all0)) K62 (allS (Or.inr sz_r_46) all0)) W68 (Or.inl (List.mem_of_getElem? (i := 0) rfl)))
  have f71 := (Fld.other W68 (Fld.keep q46_0 K62 (ninS ne_a_r_46 nin0)) (Or.inr (slot_ne (Or.inl (hw _ (List.mem_of_getElem? (i := 39) rfl))) (Or.inl (hw _ (List.mem_of_getElem? (i := 63) rfl))) (by decide) (t := (.array .byte)) (t' := .int) (by decide) (by decide))))
  have f72 := (Fld.other W68 (Fld.keep q46_4 K62 (ninS ne_a_r_46 nin0)) (Or.inr (slot_ne (Or.inr (hw _ (List.mem_of_getElem? (i := 57) rfl))) (Or.inl (hw _ (List.mem_of_getElem? (i := 63) rfl))) (by decide) (t := (.object "java/util/Map")) (t' := .int) (by decide) (by decide))))
  have f73 := (Bar.other B62 W68 (Ne.symm ne_a_r_46))
  obtain ⟨fs, hr, hrun, hended, hW, hsame⟩ := X68.leave (v := none) (fun _ => rfl)
  refine ⟨_, _, P69 _ ?_, hrun, hended, _, _, rfl, ?_, ⟨_, rfl⟩, hW, hsame.mono (by decide) (by decide)⟩
  · exact X68.returnOut hx Bd.returns (hb hby d39_109) hr
  · show Q39 Z a g b k f tm sv kv fv cs u ca h0 n0 _ T68.heap _
    rw [e68]
    exact ⟨r_46, kr_46, rfl, N68, k70, f71, Fw68, f72, f73, sz_r_46⟩
theorem ef_0 (m : MethodId) (x0 : Int32) (x1 : Int32) (x2 : Int32) (x3 : Int32) (x4 : Int32) : entryFrame m #[(.int x0), (.int x1), (.int x2), (.int x3), (.int x4)] maxLocals = (mkF m 0 #[.val (.int x0), .val (.int x1), .val (.int x2), .val (.int x3), .val (.int x4), .unset, .unset, .unset, .unset, .unset, .unset, .unset, .unset, .unset, .unset, .unset, .unset, .unset, .unset, .unset, .unset] []) := by first | (simp [entryFrame, mkF, argsToLocals, Value.category, maxLocals]; done) | rfl
def Q0 (Z : State) (h0 : Heap) (n0 : Nat) (v : Option Value) (h : Heap) (L : List Loc) : Prop := v = some (.int (1 : Int32)) ∧ Fr n0 L
set_option maxRecDepth 65536 in
set_option maxHeartbeats 400000000 in
theorem rm0 (l : Launch) (Z : State) (a0 : Array Value) (hw : ∀ d ∈ tables_1, d.before a0 Z = true) (ws : List Jvm.Cond) (p0 : Int32) (p1 : Int32) (p2 : Int32) (p3 : Int32) (p4 : Int32) (cs : Int32) (u : Addr) (ca : Addr) (h0 : Heap) (n0 : Nat) (Z0 : n0 ≤ h0.size) (pr0 : Sta Z h0 "java/lang/String" "COMPACT_STRINGS" "Z" (.int cs)) (pr1 : ¬ cs = (0 : Int32)) (pr2 : Sta Z h0 "java/nio/charset/StandardCharsets" "UTF_8" "Ljava/nio/charset/Charset;" (.ref u)) (pr3 : Sta Z h0 "sun/nio/cs/UTF_8" "INSTANCE" "Lsun/nio/cs/UTF_8;" (.ref u)) (pr4 : Sta Z h0 "java/lang/Integer$IntegerCache" "high" "I" (.int (127 : Int32))) (pr5 : Sta Z h0 "java/lang/Integer$IntegerCache" "cache" "[Ljava/lang/Integer;" (.ref ca)) (pr6 : Cac Z h0 ca "java/lang/Integer") :
    MetFree l x (head1 (Jvm.Cond.code x code maxLocals ret :: ws) room_1) (fun a U => a = #[(.int p0), (.int p1), (.int p2), (.int p3), (.int p4)] ∧ Z.Warmed39 U.vm ∧ U.heap = h0) (fun _ _ _ _ _ => True) (fun _ U o U' => ∃ v L, o = .returned v ∧ Q0 Z h0 n0 v U'.heap L ∧ FrameEnd U o U' L room_1.cells room_1.slots) := by
  refine MetFree.of_bodySF (plainFor_of_name pn_4) hisR ?_
  intro p e s m args below meth c s₁ Bd hml0 hP hK
  obtain ⟨rfl, hZ, hh⟩ := hP
  have hx := Bd.exec
  have hby := Bd.bytes
  have hml : c.maxLocals = 21 := hml0
  have hown : s.vm.findClass "com/example/meterwright/meterwright/WriterToByteArrayPinLaw" = some m.cls := findClass_of_methodNamed Bd.named
  have hnm := (name_of_methodNamed Bd.named Bd.method).1
  have X0 : Stand p l e room_1 s m #[(.int p0), (.int p1), (.int p2), (.int p3), (.int p4)] below meth c s₁ [] 0 0 := Stand.of_body Bd
  have e0 : s₁.heap = h0 := by rw [← hh, Bd.state]; rfl
  have N0 := Fr.nil n0
  let ST : State := (s₁.setTop (entryFrame m #[(.int p0), (.int p1), (.int p2), (.int p3), (.int p4)] maxLocals))
  have pre0 : ∀ t, Steps p.tables e below (s₁.setTop (mkF m 0 #[.val (.int p0), .val (.int p1), .val (.int p2), .val (.int p3), .val (.int p4), .unset, .unset, .unset, .unset, .unset, .unset, .unset, .unset, .unset, .unset, .unset, .unset, .unset, .unset, .unset, .unset] [])) t → Steps p.tables e below ST t := fun t k => castTop (ef_0 m p0 p1 p2 p3 p4) k
  let LL1 : Array Slot := #[.val (.int p0), .val (.int p1), .val (.int p2), .val (.int p3), .val (.int p4), .unset, .unset, .unset, .unset, .unset, .unset, .unset, .unset, .unset, .unset, .unset, .unset, .unset, .unset, .unset, .unset]
  obtain ⟨i2, h_i2⟩ : ∃ z : Int32, z = ((p0).toInt8.toInt32) := ⟨_, rfl⟩
  let LL3 : Array Slot := #[.val (.int p0), .val (.int p1), .val (.int p2), .val (.int p3), .val (.int p4), .val (.int i2), .unset, .unset, .unset, .unset, .unset, .unset, .unset, .unset, .unset, .unset, .unset, .unset, .unset, .unset, .unset]
  have P4 : ∀ t, Steps p.tables e below (s₁.setTop (mkF m 8 LL3 [(.int (p4 &&& (1 : Int32)))])) t → Steps p.tables e below ST t := by
    intro t kk
    refine pre0 _ ?_
    show Steps p.tables e below (s₁.setTop (mkF m 0 LL1 [])) _
    refine XS.iloadN X0.here hx rfl (hb hby at_0) rfl ?_
    show Steps p.tables e below (s₁.setTop (mkF m 1 LL1 [(.int p0)])) _
    refine XS.i2b X0.here hx rfl (hb hby at_1) rfl ?_
    show Steps p.tables e below (s₁.setTop (mkF m 2 LL1 [(.int ((p0).toInt8.toInt32))])) _
    rw [← h_i2]
    show Steps p.tables e below (s₁.setTop (mkF m 2 LL1 [(.int i2)])) _
    refine XS.istore X0.here hx rfl (hb hby at_2) rfl (l' := LL3) rfl ?_
    show Steps p.tables e below (s₁.setTop (mkF m 4 LL3 [])) _
    refine XS.iload X0.here hx rfl (hb hby at_4) rfl ?_
    show Steps p.tables e below (s₁.setTop (mkF m 6 LL3 [(.int p4)])) _
    refine XS.iconst X0.here hx rfl (hb hby at_6) ?_
    show Steps p.tables e below (s₁.setTop (mkF m 7 LL3 [(.int (1 : Int32)), (.int p4)])) _
    refine XS.iand X0.here hx rfl (hb hby at_7) rfl ?_
    show Steps p.tables e below (s₁.setTop (mkF m 8 LL3 [(.int (p4 &&& (1 : Int32)))])) _
    exact kk
  by_cases c5 : (p4 &&& (1 : Int32)) = (0 : Int32)
  · skip
    let LL6 : Array Slot := #[.val (.int p0), .val (.int p1), .val (.int p2), .val (.int p3), .val (.int p4), .val (.int i2), .val (.int (0 : Int32)), .unset, .unset, .unset, .unset, .unset, .unset, .unset, .unset, .unset, .unset, .unset, .unset, .unset, .unset]
    obtain ⟨T7, h7, k7, X7, e7, E7, A7, st7⟩ := newP X0 hx hZ (hw _ (List.mem_of_getElem? (i := 0) rfl)) e0 (g := (mkF m 21 LL6 [(.int (260 : Int32))])) rfl (hb hby at_21) rfl (by decide) (cap := 260) (by decide) (by decide) (by decide) (by decide)
    obtain ⟨b7, g_b7⟩ : ∃ z, z = h0.size := ⟨_, rfl⟩
    rw [← g_b7] at A7 st7
    have ne_ca_b7 : ca ≠ b7 := Nat.ne_of_lt (Nat.lt_of_lt_of_le pr6.lt (Nat.le_of_eq g_b7.symm))
    have ge_b7 : n0 ≤ b7 := Nat.le_trans Z0 (Nat.le_of_eq g_b7.symm)
    have sz_b7 : h0.size ≤ b7 := Nat.le_trans (Keep.refl h0 []).1 (Nat.le_of_eq g_b7.symm)
    have V7 := Car.new A7 (by decide)
    let LL8 : Array Slot := #[.val (.int p0), .val (.int p1), .val (.int p2), .val (.int p3), .val (.int p4), .val (.int i2), .val (.int (0 : Int32)), .val (.ref b7), .unset, .unset, .unset, .unset, .unset, .unset, .unset, .unset, .unset, .unset, .unset, .unset, .unset]
    obtain ⟨cl_a9, Ar_a9, q_a9, S_a9, N_a9, H_a9⟩ := id V7
    have hin_a9 : ¬ ((0 : Int32) < 0 ∨ cl_a9.slots.size ≤ ((0 : Int32)).toNatClampNeg) := inb_of S_a9 ⟨by decide, by decide⟩
    obtain ⟨T10, h10, X10, e10, W10, st10⟩ := stC X7 hx hZ e7 Ar_a9 (j := (0 : Int32)) hin_a9 (g := (mkF m 36 LL8 [(.int ((((((p4).toUInt32 >>> ((1 : Int32) &&& 31).toUInt32).toInt32) &&& (127 : Int32))).toUInt32.toUInt16.toUInt32.toInt32)), (.int (0 : Int32)), (.ref b7)])) rfl rfl (hb hby at_36)
    obtain ⟨f11, h_f11⟩ : ∃ z : Nat → Int32, z = (fun jj => if jj = ((0 : Int32)).toNatClampNeg then (nar .char ((((((p4).toUInt32 >>> ((1 : Int32) &&& 31).toUInt32).toInt32) &&& (127 : Int32))).toUInt32.toUInt16.toUInt32.toInt32)) else (fun _ => (0 : Int32)) jj) := ⟨_, rfl⟩
    have V10 : Car Z h10 b7 k7 (260 : Int32) f11 := by
      rw [h_f11]
      exact Car.set Ar_a9 q_a9 S_a9 N_a9 H_a9 W10
    have N10 := Fr.snoc X10 N0 ge_b7
    obtain ⟨cl_a12, Ar_a12, q_a12, S_a12, N_a12, H_a12⟩ := id V10
    have hin_a12 : ¬ ((259 : Int32) < 0 ∨ cl_a12.slots.size ≤ ((259 : Int32)).toNatClampNeg) := inb_of S_a12 ⟨by decide, by decide⟩
    obtain ⟨T13, h13, X13, e13, W13, st13⟩ := stC X10 hx hZ e10 Ar_a12 (j := (259 : Int32)) hin_a12 (g := (mkF m 51 LL8 [(.int ((((((p4).toUInt32 >>> ((8 : Int32) &&& 31).toUInt32).toInt32) &&& (127 : Int32))).toUInt32.toUInt16.toUInt32.toInt32)), (.int (259 : Int32)), (.ref b7)])) rfl rfl (hb hby at_51)
    obtain ⟨f14, h_f14⟩ : ∃ z : Nat → Int32, z = (fun jj => if jj = ((259 : Int32)).toNatClampNeg then (nar .char ((((((p4).toUInt32 >>> ((8 : Int32) &&& 31).toUInt32).toInt32) &&& (127 : Int32))).toUInt32.toUInt16.toUInt32.toInt32)) else f11 jj) := ⟨_, rfl⟩
    have V13 : Car Z h13 b7 k7 (260 : Int32) f14 := by
      rw [h_f14]
      exact Car.set Ar_a12 q_a12 S_a12 N_a12 H_a12 W13
    have N13 := Fr.snoc X13 N10 ge_b7
    obtain ⟨T15, h15, X15, e15, E15, A15, D15, -, st15⟩ := newO X13 hx hZ hown (hw _ (List.mem_of_getElem? (i := 1) rfl)) (hw _ (List.mem_of_getElem? (i := 2) rfl)) (hw _ (List.mem_of_getElem? (i := 3) rfl)) e13 (g := (mkF m 52 LL8 [])) rfl (hb hby at_52) (by decide) (by decide)
    have f16 := (Cac.other (Cac.other (Cac.ext pr6 E7) W10 ne_ca_b7) W13 ne_ca_b7)
    have z17 : n0 ≤ _ := (Nat.le_trans (Nat.le_trans (Nat.le_trans Z0 E7.1) (Keep.of_wr W10).1) (Keep.of_wr W13).1)
    have k18 : Keep h0 h13 [] := (Keep.wr (Keep.wr (Keep.ext (Keep.refl h0 []) E7) W10 (Or.inr sz_b7)) W13 (Or.inr sz_b7))
    obtain ⟨b15, g_b15⟩ : ∃ z, z = h13.size := ⟨_, rfl⟩
    rw [← g_b15] at A15 D15 st15
    have ne_ca_b15 : ca ≠ b15 := Nat.ne_of_lt (Nat.lt_of_lt_of_le f16.lt (Nat.le_of_eq g_b15.symm))
    have ne_b7_b15 : b7 ≠ b15 := Nat.ne_of_lt (Nat.lt_of_lt_of_le V13.lt (Nat.le_of_eq g_b15.symm))
    have ge_b15 : n0 ≤ b15 := Nat.le_trans z17 (Nat.le_of_eq g_b15.symm)
    have sz_b15 : h0.size ≤ b15 := Nat.le_trans k18.1 (Nat.le_of_eq g_b15.symm)
    have F15_27 : Fld Z h15 b15 "java/lang/String" "coder" "B" (.int (0 : Int32)) := D15 (Or.inr (hw _ (List.mem_of_getElem? (i := 27) rfl))) (ty := .byte) (by decide)
    have F15_29 : Fld Z h15 b15 "java/lang/String" "value" "[B" .null := D15 (Or.inr (hw _ (List.mem_of_getElem? (i := 29) rfl))) (ty := (.array .byte)) (by decide)
    have F15_191 : Fld Z h15 b15 "java/lang/String" "hash" "I" (.int (0 : Int32)) := D15 (Or.inl (hw _ (List.mem_of_getElem? (i := 191) rfl))) (ty := .int) (by decide)
    have F15_193 : Fld Z h15 b15 "java/lang/String" "hashIsZero" "Z" (.int (0 : Int32)) := D15 (Or.inl (hw _ (List.mem_of_getElem? (i := 193) rfl))) (ty := .boolean) (by decide)
    have f20 := (Car.ext V13 E15)
    have f21 := (Sta.ext E15 (Sta.wr W13 (Sta.wr W10 (Sta.ext E7 pr0))))
    have hB19 : ∀ i, 0 ≤ (f14 i).toInt ∧ (f14 i).toInt < 128 := own_fc f14 f11 _ _ h_f14 h_f11
    have hws19 : ∀ d ∈ StrChars.Road.words, d.before a0 Z = true := fun d hd => hw d ((by decide +kernel : ∀ d ∈ StrChars.Road.words, d ∈ tables_1) d hd)
    obtain ⟨cs19, hc19⟩ : ∃ z : List Int32, z = (List.range 260).map f14 := ⟨_, rfl⟩
    have lc19 : cs19.length = 260 := by rw [hc19, List.length_map, List.length_range]
    have Ac19 : Arv Z h15 b7 k7 .char (260 : Int32) (cs19.map Value.int) (.int (0 : Int32)) := by
      rw [hc19]
      exact own_carv f20
    have hl19 : ∀ c ∈ cs19, ¬ (255 : Int32) < c := by
      rw [hc19]
      exact own_hall f14 hB19
    obtain ⟨_, _, ⟨T19, L19, k19, n19⟩, -, X19, ⟨Lc19, hQ19, l19, y19, z19⟩, st19⟩ := X15.specialBack hx (y := (⟨"java/lang/String", "<init>", "([C)V"⟩ : MethodName)) rfl hown (mvT hZ (hw _ (List.mem_of_getElem? (i := 4) rfl))) (mvT hZ (hw _ (List.mem_of_getElem? (i := 5) rfl))) (mvT hZ (hw _ (List.mem_of_getElem? (i := 6) rfl))) (by decide) (StrChars.Road.backArv (W := 1) hZ hws19 (kI := 4) (hw _ (List.mem_of_getElem? (i := 2) rfl)) A15 F15_29 F15_27 Ac19 f21 pr1 (by rw [lc19]; decide) (by rw [lc19]; decide) (by rw [lc19]; decide) hl19 (by decide) (by decide)) (g := (mkF m 58 LL8 [(.ref b7), (.ref b15), (.ref b15)])) rfl (by rw [hml]; rfl) (Steps.refl _) (a := b15) (argsL := [(.ref b7)]) (rest := [(.ref b15)]) (lenOf pd_26 rfl) rfl (by show 2 * 0 + _ ≤ _; exact Nat.le_of_eq rfl) (hb hby at_58) (fun _ _ => ⟨rfl, e15, (by decide : 2 + 1 ≤ _), (by show 264 + cs19.length ≤ _; rw [lc19]; decide)⟩)
    dsimp only [Pt.U, Pt.locs, Pt.cells, Pt.slots] at X19 l19 y19 z19 st19 hQ19
    subst l19 y19 z19
    rw [lc19] at X19
    rw [hc19] at hQ19
    obtain ⟨rfl, Nq19, K19, -, E19, V19, C19, ⟨kb19, fq19, A19⟩, O19⟩ := hQ19
    have Nf19 : Fr n0 Lc19 := fun y hy => by rw [Nq19 y hy]; exact ge_b15
    have N19 := Fr.app N13 Nf19
    replace E19 : Exa Z T19.heap b15 "java/lang/String" := E19
    replace V19 : Fld Z T19.heap b15 "java/lang/String" "value" "[B" (.ref h15.size) := V19
    replace C19 : Fld Z T19.heap b15 "java/lang/String" "coder" "B" (.int (0 : Int32)) := C19
    have f22 := (Cac.ext f16 E15)
    have z23 : n0 ≤ _ := (Nat.le_trans z17 E15.1)
    have k24 : Keep h0 h15 [] := (Keep.ext k18 E15)
    obtain ⟨b19, g_b19⟩ : ∃ z, z = h15.size := ⟨_, rfl⟩
    rw [← g_b19] at V19 A19
    have ne_ca_b19 : ca ≠ b19 := Nat.ne_of_lt (Nat.lt_of_lt_of_le f22.lt (Nat.le_of_eq g_b19.symm))
    have ne_b7_b19 : b7 ≠ b19 := Nat.ne_of_lt (Nat.lt_of_lt_of_le f20.lt (Nat.le_of_eq g_b19.symm))
    have ne_b15_b19 : b15 ≠ b19 := Nat.ne_of_lt (Nat.lt_of_lt_of_le A15.lt (Nat.le_of_eq g_b19.symm))
    have ge_b19 : n0 ≤ b19 := Nat.le_trans z23 (Nat.le_of_eq g_b19.symm)
    have sz_b19 : h0.size ≤ b19 := Nat.le_trans k24.1 (Nat.le_of_eq g_b19.symm)
    have F19_hash : Fld Z T19.heap b15 "java/lang/String" "hash" "I" (.int (0 : Int32)) := O19 "java/lang/String" "hash" "I" _ F15_191 (slot_ne (Or.inl (hw _ (List.mem_of_getElem? (i := 191) rfl))) (Or.inr (hw _ (List.mem_of_getElem? (i := 29) rfl))) (by decide) (t := .int) (t' := (.array .byte)) (by decide) (by decide)) (slot_ne (Or.inl (hw _ (List.mem_of_getElem? (i := 191) rfl))) (Or.inr (hw _ (List.mem_of_getElem? (i := 27) rfl))) (by decide) (t := .int) (t' := .byte) (by decide) (by decide))
    have F19_hashIsZero : Fld Z T19.heap b15 "java/lang/String" "hashIsZero" "Z" (.int (0 : Int32)) := O19 "java/lang/String" "hashIsZero" "Z" _ F15_193 (slot_ne (Or.inl (hw _ (List.mem_of_getElem? (i := 193) rfl))) (Or.inr (hw _ (List.mem_of_getElem? (i := 29) rfl))) (by decide) (t := .boolean) (t' := (.array .byte)) (by decide) (by decide)) (slot_ne (Or.inl (hw _ (List.mem_of_getElem? (i := 193) rfl))) (Or.inr (hw _ (List.mem_of_getElem? (i := 27) rfl))) (by decide) (t := .boolean) (t' := .byte) (by decide) (by decide))
    obtain ⟨f25, h_f25⟩ : ∃ z : Nat → Int32, z = (fun i => (f14 i).toInt8.toInt32) := ⟨_, rfl⟩
    have B19 : Bar Z T19.heap b19 kb19 (260 : Int32) f25 := by
      rw [h_f25]
      exact own_sbar A19
    have Y19 := own_exab B19 fq19
    let LL26 : Array Slot := #[.val (.int p0), .val (.int p1), .val (.int p2), .val (.int p3), .val (.int p4), .val (.int i2), .val (.int (0 : Int32)), .val (.ref b7), .val (.ref b15), .unset, .unset, .unset, .unset, .unset, .unset, .unset, .unset, .unset, .unset, .unset, .unset]
    have P27 : ∀ t, Steps p.tables e below (T19.setTop (mkF m 64 LL26 [(.int p1)])) t → Steps p.tables e below ST t := by
      intro t kk
      refine P4 _ ?_
      show Steps p.tables e below (s₁.setTop (mkF m 8 LL3 [(.int (p4 &&& (1 : Int32)))])) _
      refine XS.ifYes X0.here hx rfl (pc0 := 8) (pc' := 15) rfl (hb hby at_8) rfl (XT.i0_eq_t c5) (by decide) (by decide) ?_
      show Steps p.tables e below (s₁.setTop (mkF m 15 LL3 [])) _
      refine XS.iconst X0.here hx rfl (hb hby at_15) ?_
      show Steps p.tables e below (s₁.setTop (mkF m 16 LL3 [(.int (0 : Int32))])) _
      refine XS.istore X0.here hx rfl (hb hby at_16) rfl (l' := LL6) rfl ?_
      show Steps p.tables e below (s₁.setTop (mkF m 18 LL6 [])) _
      refine XS.sipush X0.here hx rfl (hb hby at_18) ?_
      show Steps p.tables e below (s₁.setTop (mkF m 21 LL6 [(.int (260 : Int32))])) _
      refine st7 _ ?_
      show Steps p.tables e below (T7.setTop (mkF m 23 LL6 [(.ref b7)])) _
      refine XS.astore X7.here hx rfl (hb hby at_23) rfl rfl (l' := LL8) rfl ?_
      show Steps p.tables e below (T7.setTop (mkF m 25 LL8 [])) _
      refine XS.aload X7.here hx rfl (hb hby at_25) rfl rfl ?_
      show Steps p.tables e below (T7.setTop (mkF m 27 LL8 [(.ref b7)])) _
      refine XS.iconst X7.here hx rfl (hb hby at_27) ?_
      show Steps p.tables e below (T7.setTop (mkF m 28 LL8 [(.int (0 : Int32)), (.ref b7)])) _
      refine XS.iload X7.here hx rfl (hb hby at_28) rfl ?_
      show Steps p.tables e below (T7.setTop (mkF m 30 LL8 [(.int p4), (.int (0 : Int32)), (.ref b7)])) _
      refine XS.iconst X7.here hx rfl (hb hby at_30) ?_
      show Steps p.tables e below (T7.setTop (mkF m 31 LL8 [(.int (1 : Int32)), (.int p4), (.int (0 : Int32)), (.ref b7)])) _
      refine XS.iushr X7.here hx rfl (hb hby at_31) rfl ?_
      show Steps p.tables e below (T7.setTop (mkF m 32 LL8 [(.int (((p4).toUInt32 >>> ((1 : Int32) &&& 31).toUInt32).toInt32)), (.int (0 : Int32)), (.ref b7)])) _
      refine XS.bipush X7.here hx rfl (hb hby at_32) ?_
      show Steps p.tables e below (T7.setTop (mkF m 34 LL8 [(.int (127 : Int32)), (.int (((p4).toUInt32 >>> ((1 : Int32) &&& 31).toUInt32).toInt32)), (.int (0 : Int32)), (.ref b7)])) _
      refine XS.iand X7.here hx rfl (hb hby at_34) rfl ?_
      show Steps p.tables e below (T7.setTop (mkF m 35 LL8 [(.int ((((p4).toUInt32 >>> ((1 : Int32) &&& 31).toUInt32).toInt32) &&& (127 : Int32))), (.int (0 : Int32)), (.ref b7)])) _
      refine XS.i2c X7.here hx rfl (hb hby at_35) rfl ?_
      show Steps p.tables e below (T7.setTop (mkF m 36 LL8 [(.int ((((((p4).toUInt32 >>> ((1 : Int32) &&& 31).toUInt32).toInt32) &&& (127 : Int32))).toUInt32.toUInt16.toUInt32.toInt32)), (.int (0 : Int32)), (.ref b7)])) _
      refine st10 _ ?_
      show Steps p.tables e below (T10.setTop (mkF m 37 LL8 [])) _
      refine XS.aload X10.here hx rfl (hb hby at_37) rfl rfl ?_
      show Steps p.tables e below (T10.setTop (mkF m 39 LL8 [(.ref b7)])) _
      refine XS.sipush X10.here hx rfl (hb hby at_39) ?_
      show Steps p.tables e below (T10.setTop (mkF m 42 LL8 [(.int (259 : Int32)), (.ref b7)])) _
      refine XS.iload X10.here hx rfl (hb hby at_42) rfl ?_
      show Steps p.tables e below (T10.setTop (mkF m 44 LL8 [(.int p4), (.int (259 : Int32)), (.ref b7)])) _
      refine XS.bipush X10.here hx rfl (hb hby at_44) ?_
      show Steps p.tables e below (T10.setTop (mkF m 46 LL8 [(.int (8 : Int32)), (.int p4), (.int (259 : Int32)), (.ref b7)])) _
      refine XS.iushr X10.here hx rfl (hb hby at_46) rfl ?_
      show Steps p.tables e below (T10.setTop (mkF m 47 LL8 [(.int (((p4).toUInt32 >>> ((8 : Int32) &&& 31).toUInt32).toInt32)), (.int (259 : Int32)), (.ref b7)])) _
      refine XS.bipush X10.here hx rfl (hb hby at_47) ?_
      show Steps p.tables e below (T10.setTop (mkF m 49 LL8 [(.int (127 : Int32)), (.int (((p4).toUInt32 >>> ((8 : Int32) &&& 31).toUInt32).toInt32)), (.int (259 : Int32)), (.ref b7)])) _
      refine XS.iand X10.here hx rfl (hb hby at_49) rfl ?_
      show Steps p.tables e below (T10.setTop (mkF m 50 LL8 [(.int ((((p4).toUInt32 >>> ((8 : Int32) &&& 31).toUInt32).toInt32) &&& (127 : Int32))), (.int (259 : Int32)), (.ref b7)])) _
      refine XS.i2c X10.here hx rfl (hb hby at_50) rfl ?_
      show Steps p.tables e below (T10.setTop (mkF m 51 LL8 [(.int ((((((p4).toUInt32 >>> ((8 : Int32) &&& 31).toUInt32).toInt32) &&& (127 : Int32))).toUInt32.toUInt16.toUInt32.toInt32)), (.int (259 : Int32)), (.ref b7)])) _
      refine st13 _ ?_
      show Steps p.tables e below (T13.setTop (mkF m 52 LL8 [])) _
      refine st15 _ ?_
      show Steps p.tables e below (T15.setTop (mkF m 55 LL8 [(.ref b15)])) _
      refine XS.dup X15.here hx rfl (hb hby at_55) rfl rfl ?_
      show Steps p.tables e below (T15.setTop (mkF m 56 LL8 [(.ref b15), (.ref b15)])) _
      refine XS.aload X15.here hx rfl (hb hby at_56) rfl rfl ?_
      show Steps p.tables e below (T15.setTop (mkF m 58 LL8 [(.ref b7), (.ref b15), (.ref b15)])) _
      refine st19.trans ?_
      show Steps p.tables e below (T19.setTop (mkF m 61 LL8 [(.ref b15)])) _
      refine XS.astore X19.here hx rfl (hb hby at_61) rfl rfl (l' := LL26) rfl ?_
      show Steps p.tables e below (T19.setTop (mkF m 63 LL26 [])) _
      refine XS.iloadN X19.here hx rfl (hb hby at_63) rfl ?_
      show Steps p.tables e below (T19.setTop (mkF m 64 LL26 [(.int p1)])) _
      exact kk
    obtain ⟨j28, h_j28⟩ : ∃ z : Int64, z = (((p1 &&& (16383 : Int32))).toInt64) := ⟨_, rfl⟩
    let LL29 : Array Slot := #[.val (.int p0), .val (.int p1), .val (.int p2), .val (.int p3), .val (.int p4), .val (.int i2), .val (.int (0 : Int32)), .val (.ref b7), .val (.ref b15), .val (.long j28), .second, .unset, .unset, .unset, .unset, .unset, .unset, .unset, .unset, .unset, .unset]
    obtain ⟨j30, h_j30⟩ : ∃ z : Int64, z = (((p2 &&& (16383 : Int32))).toInt64) := ⟨_, rfl⟩
    let LL31 : Array Slot := #[.val (.int p0), .val (.int p1), .val (.int p2), .val (.int p3), .val (.int p4), .val (.int i2), .val (.int (0 : Int32)), .val (.ref b7), .val (.ref b15), .val (.long j28), .second, .val (.long j30), .second, .unset, .unset, .unset, .unset, .unset, .unset, .unset, .unset]
    obtain ⟨j32, h_j32⟩ : ∃ z : Int64, z = (((p3 % (8192 : Int32))).toInt64) := ⟨_, rfl⟩
    let LL33 : Array Slot := #[.val (.int p0), .val (.int p1), .val (.int p2), .val (.int p3), .val (.int p4), .val (.int i2), .val (.int (0 : Int32)), .val (.ref b7), .val (.ref b15), .val (.long j28), .second, .val (.long j30), .second, .val (.long j32), .second, .unset, .unset, .unset, .unset, .unset, .unset]
    have P34 : ∀ t, Steps p.tables e below (T19.setTop (mkF m 91 LL33 [(.int (XT.cmpL j32 (0 : Int64)))])) t → Steps p.tables e below ST t := by
      intro t kk
      refine P27 _ ?_
      show Steps p.tables e below (T19.setTop (mkF m 64 LL26 [(.int p1)])) _
      refine XS.sipush X19.here hx rfl (hb hby at_64) ?_
      show Steps p.tables e below (T19.setTop (mkF m 67 LL26 [(.int (16383 : Int32)), (.int p1)])) _
      refine XS.iand X19.here hx rfl (hb hby at_67) rfl ?_
      show Steps p.tables e below (T19.setTop (mkF m 68 LL26 [(.int (p1 &&& (16383 : Int32)))])) _
      refine XS.i2l X19.here hx rfl (hb hby at_68) rfl ?_
      show Steps p.tables e below (T19.setTop (mkF m 69 LL26 [(.long (((p1 &&& (16383 : Int32))).toInt64))])) _
      rw [← h_j28]
      show Steps p.tables e below (T19.setTop (mkF m 69 LL26 [(.long j28)])) _
      refine XS.lstore X19.here hx rfl (hb hby at_69) rfl (l' := LL29) rfl ?_
      show Steps p.tables e below (T19.setTop (mkF m 71 LL29 [])) _
      refine XS.iloadN X19.here hx rfl (hb hby at_71) rfl ?_
      show Steps p.tables e below (T19.setTop (mkF m 72 LL29 [(.int p2)])) _
      refine XS.sipush X19.here hx rfl (hb hby at_72) ?_
      show Steps p.tables e below (T19.setTop (mkF m 75 LL29 [(.int (16383 : Int32)), (.int p2)])) _
      refine XS.iand X19.here hx rfl (hb hby at_75) rfl ?_
      show Steps p.tables e below (T19.setTop (mkF m 76 LL29 [(.int (p2 &&& (16383 : Int32)))])) _
      refine XS.i2l X19.here hx rfl (hb hby at_76) rfl ?_
      show Steps p.tables e below (T19.setTop (mkF m 77 LL29 [(.long (((p2 &&& (16383 : Int32))).toInt64))])) _
      rw [← h_j30]
      show Steps p.tables e below (T19.setTop (mkF m 77 LL29 [(.long j30)])) _
      refine XS.lstore X19.here hx rfl (hb hby at_77) rfl (l' := LL31) rfl ?_
      show Steps p.tables e below (T19.setTop (mkF m 79 LL31 [])) _
      refine XS.iloadN X19.here hx rfl (hb hby at_79) rfl ?_
      show Steps p.tables e below (T19.setTop (mkF m 80 LL31 [(.int p3)])) _
      refine XS.sipush X19.here hx rfl (hb hby at_80) ?_
      show Steps p.tables e below (T19.setTop (mkF m 83 LL31 [(.int (8192 : Int32)), (.int p3)])) _
      refine iremM (g := (mkF m 83 #[.val (.int p0), .val (.int p1), .val (.int p2), .val (.int p3), .val (.int p4), .val (.int i2), .val (.int (0 : Int32)), .val (.ref b7), .val (.ref b15), .val (.long j28), .second, .val (.long j30), .second, .unset, .unset, .unset, .unset, .unset, .unset, .unset, .unset] [(.int (8192 : Int32)), (.int p3)])) X19 hx rfl (hb hby at_83) rfl (by decide) ?_
      show Steps p.tables e below (T19.setTop (mkF m 84 LL31 [(.int (p3 % (8192 : Int32)))])) _
      refine XS.i2l X19.here hx rfl (hb hby at_84) rfl ?_
      show Steps p.tables e below (T19.setTop (mkF m 85 LL31 [(.long (((p3 % (8192 : Int32))).toInt64))])) _
      rw [← h_j32]
      show Steps p.tables e below (T19.setTop (mkF m 85 LL31 [(.long j32)])) _
      refine XS.lstore X19.here hx rfl (hb hby at_85) rfl (l' := LL33) rfl ?_
      show Steps p.tables e below (T19.setTop (mkF m 87 LL33 [])) _
      refine XS.lload X19.here hx rfl (hb hby at_87) rfl ?_
      show Steps p.tables e below (T19.setTop (mkF m 89 LL33 [(.long j32)])) _
      refine XS.lconst X19.here hx rfl (hb hby at_89) ?_
      show Steps p.tables e below (T19.setTop (mkF m 90 LL33 [(.long (0 : Int64)), (.long j32)])) _
      refine XT.lcmp X19.here hx rfl (hb hby at_90) rfl ?_
      show Steps p.tables e below (T19.setTop (mkF m 91 LL33 [(.int (XT.cmpL j32 (0 : Int64)))])) _
      exact kk
    obtain ⟨j35, h_j35, P36⟩ : ∃ (j35 : Int64), j35 = (if j32 < (0 : Int64) then (((-2 : Int64) * j32) - (1 : Int64)) else ((2 : Int64) * j32)) ∧ ∀ t, Steps p.tables e below (T19.setTop (mkF m 111 #[.val (.int p0), .val (.int p1), .val (.int p2), .val (.int p3), .val (.int p4), .val (.int i2), .val (.int (0 : Int32)), .val (.ref b7), .val (.ref b15), .val (.long j28), .second, .val (.long j30), .second, .val (.long j32), .second, .unset, .unset, .unset, .unset, .unset, .unset] [(.long j35)])) t → Steps p.tables e below ST t := by
      by_cases c37 : j32 < (0 : Int64)
      · skip
        refine ⟨(((-2 : Int64) * j32) - (1 : Int64)), ((if_pos c37).trans rfl).symm, fun t kk => P34 t ?_⟩
        show Steps p.tables e below (T19.setTop (mkF m 91 LL33 [(.int (XT.cmpL j32 (0 : Int64)))])) _
        refine XS.ifYes X19.here hx rfl (pc0 := 91) (pc' := 103) rfl (hb hby at_91) rfl (XT.ll_lt_t c37) (by decide) (by decide) ?_
        show Steps p.tables e below (T19.setTop (mkF m 103 LL33 [])) _
        refine X19.ldc2Long hx hown (mvT hZ (hw _ (List.mem_of_getElem? (i := 257) rfl))) (g := (mkF m 103 LL33 [])) rfl (hb hby at_103) _ ?_
        show Steps p.tables e below (T19.setTop (mkF m 106 LL33 [(.long (-2 : Int64))])) _
        refine XS.lload X19.here hx rfl (hb hby at_106) rfl ?_
        show Steps p.tables e below (T19.setTop (mkF m 108 LL33 [(.long j32), (.long (-2 : Int64))])) _
        refine XS.lmul X19.here hx rfl (hb hby at_108) rfl ?_
        show Steps p.tables e below (T19.setTop (mkF m 109 LL33 [(.long ((-2 : Int64) * j32))])) _
        refine XS.lconst X19.here hx rfl (hb hby at_109) ?_
        show Steps p.tables e below (T19.setTop (mkF m 110 LL33 [(.long (1 : Int64)), (.long ((-2 : Int64) * j32))])) _
        refine XS.lsub X19.here hx rfl (hb hby at_110) rfl ?_
        show Steps p.tables e below (T19.setTop (mkF m 111 LL33 [(.long (((-2 : Int64) * j32) - (1 : Int64)))])) _
        exact kk
      · skip
        refine ⟨((2 : Int64) * j32), ((if_neg c37).trans rfl).symm, fun t kk => P34 t ?_⟩
        show Steps p.tables e below (T19.setTop (mkF m 91 LL33 [(.int (XT.cmpL j32 (0 : Int64)))])) _
        refine XS.ifNo X19.here hx rfl (hb hby at_91) rfl (XT.ll_lt_f c37) ?_
        show Steps p.tables e below (T19.setTop (mkF m 94 LL33 [])) _
        refine X19.ldc2Long hx hown (mvT hZ (hw _ (List.mem_of_getElem? (i := 30) rfl))) (g := (mkF m 94 LL33 [])) rfl (hb hby at_94) _ ?_
        show Steps p.tables e below (T19.setTop (mkF m 97 LL33 [(.long (2 : Int64))])) _
        refine XS.lload X19.here hx rfl (hb hby at_97) rfl ?_
        show Steps p.tables e below (T19.setTop (mkF m 99 LL33 [(.long j32), (.long (2 : Int64))])) _
        refine XS.lmul X19.here hx rfl (hb hby at_99) rfl ?_
        show Steps p.tables e below (T19.setTop (mkF m 100 LL33 [(.long ((2 : Int64) * j32))])) _
        refine XS.goto X19.here hx rfl (pc0 := 100) (pc' := 111) rfl (hb hby at_100) (by decide) (by decide) ?_
        show Steps p.tables e below (T19.setTop (mkF m 111 LL33 [(.long ((2 : Int64) * j32))])) _
        exact kk
    let LL38 : Array Slot := #[.val (.int p0), .val (.int p1), .val (.int p2), .val (.int p3), .val (.int p4), .val (.int i2), .val (.int (0 : Int32)), .val (.ref b7), .val (.ref b15), .val (.long j28), .second, .val (.long j30), .second, .val (.long j32), .second, .val (.long j35), .second, .unset, .unset, .unset, .unset]
    obtain ⟨T39, h39, X39, e39, E39, A39, D39, -, st39⟩ := newO X19 hx hZ hown (hw _ (List.mem_of_getElem? (i := 31) rfl)) (hw _ (List.mem_of_getElem? (i := 32) rfl)) (hw _ (List.mem_of_getElem? (i := 33) rfl)) rfl (g := (mkF m 113 LL38 [])) rfl (hb hby at_113) (by decide) (by decide)
    have f40 := (Cac.keep f22 K19 (ninS ne_ca_b15 nin0))
    have f41 := (Car.keep f20 K19 (ninS ne_b7_b15 nin0))
    have z42 : n0 ≤ _ := (Nat.le_trans z23 K19.1)
    have k43 : Keep h0 T19.heap [] := (Keep.trans k24 K19 (allS (Or.inr sz_b15) all0))
    obtain ⟨b39, g_b39⟩ : ∃ z, z = T19.heap.size := ⟨_, rfl⟩
    rw [← g_b39] at A39 D39 st39
    have ne_ca_b39 : ca ≠ b39 := Nat.ne_of_lt (Nat.lt_of_lt_of_le f40.lt (Nat.le_of_eq g_b39.symm))
    have ne_b7_b39 : b7 ≠ b39 := Nat.ne_of_lt (Nat.lt_of_lt_of_le f41.lt (Nat.le_of_eq g_b39.symm))
    have ne_b15_b39 : b15 ≠ b39 := Nat.ne_of_lt (Nat.lt_of_lt_of_le E19.lt (Nat.le_of_eq g_b39.symm))
    have ne_b19_b39 : b19 ≠ b39 := Nat.ne_of_lt (Nat.lt_of_lt_of_le B19.lt (Nat.le_of_eq g_b39.symm))
    have ge_b39 : n0 ≤ b39 := Nat.le_trans z42 (Nat.le_of_eq g_b39.symm)
    have sz_b39 : h0.size ≤ b39 := Nat.le_trans k43.1 (Nat.le_of_eq g_b39.symm)
    have F39_39 : Fld Z h39 b39 "com/example/meterwright/meterwright/RecordBody$Writer" "bytes" "[B" .null := D39 (Or.inl (hw _ (List.mem_of_getElem? (i := 39) rfl))) (ty := (.array .byte)) (by decide)
    have F39_57 : Fld Z h39 b39 "com/example/meterwright/meterwright/RecordBody$Writer" "texts" "Ljava/util/Map;" .null := D39 (Or.inr (hw _ (List.mem_of_getElem? (i := 57) rfl))) (ty := (.object "java/util/Map")) (by decide)
    have F39_63 : Fld Z h39 b39 "com/example/meterwright/meterwright/RecordBody$Writer" "size" "I" (.int (0 : Int32)) := D39 (Or.inl (hw _ (List.mem_of_getElem? (i := 63) rfl))) (ty := .int) (by decide)
    have z45 : n0 ≤ _ := (Nat.le_trans z42 E39.1)
    obtain ⟨_, _, ⟨T44, L44, k44, n44⟩, -, X44, ⟨Lc44, hQ44, l44, y44, z44⟩, st44⟩ := X39.specialBack hx (y := (⟨"com/example/meterwright/meterwright/RecordBody$Writer", "<init>", "(B)V"⟩ : MethodName)) rfl hown (mvT hZ (hw _ (List.mem_of_getElem? (i := 34) rfl))) (mvT hZ (hw _ (List.mem_of_getElem? (i := 35) rfl))) (mvT hZ (hw _ (List.mem_of_getElem? (i := 36) rfl))) (by decide) (backOf (W := 1) (rm12 l Z a0 hw [] b39 i2 h39 n0 z45 A39 F39_39 F39_63 F39_57 ge_b39) hZ (hw _ (List.mem_of_getElem? (i := 36) rfl)) (hw _ (List.mem_of_getElem? (i := 33) rfl)) (by decide) (by decide)) (g := (mkF m 119 LL38 [(.int i2), (.ref b39), (.ref b39)])) rfl (by rw [hml]; rfl) (Steps.refl _) (a := b39) (argsL := [(.int i2)]) (rest := [(.ref b39)]) (lenOf pd_27 rfl) rfl (by show 2 * 0 + _ ≤ _; exact Nat.le_of_eq rfl) (hb hby at_119) (fun _ _ => ⟨rfl, e39, (by decide : 4 + 2 ≤ _), (by decide : 528 + 264 ≤ _)⟩)
    dsimp only [Pt.U, Pt.locs, Pt.cells, Pt.slots] at X44 l44 y44 z44 st44 hQ44
    subst l44 y44 z44
    have f46 := (Cac.ext f40 E39)
    have f47 := (Car.ext f41 E39)
    have f48 := (Exa.ext E39 E19)
    have f49 := (Bar.ext B19 E39)
    have k50 : Keep h0 h39 [] := (Keep.ext k43 E39)
    obtain ⟨b_44, tm_44, k_44, rfl, Nq44, K44, q44_0, q44_1, q44_2, q44_3, q44_4, q44_5, q44_6, q44_7, q44_8, q44_9, q44_10, q44_11, q44_12⟩ := hQ44
    have N44 := Fr.app N19 Nq44
    obtain ⟨f51, h_f51⟩ : ∃ z : Nat → Int32, z = (own_i i2) := ⟨_, rfl⟩
    rw [← h_f51] at q44_3
    have ne_ca_b_44 : ca ≠ b_44 := Nat.ne_of_lt (Nat.lt_of_lt_of_le f46.lt q44_10)
    have ne_b7_b_44 : b7 ≠ b_44 := Nat.ne_of_lt (Nat.lt_of_lt_of_le f47.lt q44_10)
    have ne_b15_b_44 : b15 ≠ b_44 := Nat.ne_of_lt (Nat.lt_of_lt_of_le f48.lt q44_10)
    have ne_b19_b_44 : b19 ≠ b_44 := Nat.ne_of_lt (Nat.lt_of_lt_of_le f49.lt q44_10)
    have ne_b39_b_44 : b39 ≠ b_44 := Nat.ne_of_lt (Nat.lt_of_lt_of_le A39.lt q44_10)
    have ge_b_44 : n0 ≤ b_44 := Nat.le_trans z45 q44_10
    have sz_b_44 : h0.size ≤ b_44 := Nat.le_trans k50.1 q44_10
    have ne_ca_tm_44 : ca ≠ tm_44 := Nat.ne_of_lt (Nat.lt_of_lt_of_le f46.lt q44_11)
    have ne_b7_tm_44 : b7 ≠ tm_44 := Nat.ne_of_lt (Nat.lt_of_lt_of_le f47.lt q44_11)
    have ne_b15_tm_44 : b15 ≠ tm_44 := Nat.ne_of_lt (Nat.lt_of_lt_of_le f48.lt q44_11)
    have ne_b19_tm_44 : b19 ≠ tm_44 := Nat.ne_of_lt (Nat.lt_of_lt_of_le f49.lt q44_11)
    have ne_b39_tm_44 : b39 ≠ tm_44 := Nat.ne_of_lt (Nat.lt_of_lt_of_le A39.lt q44_11)
    have ge_tm_44 : n0 ≤ tm_44 := Nat.le_trans z45 q44_11
    have sz_tm_44 : h0.size ≤ tm_44 := Nat.le_trans k50.1 q44_11
    let LL52 : Array Slot := #[.val (.int p0), .val (.int p1), .val (.int p2), .val (.int p3), .val (.int p4), .val (.int i2), .val (.int (0 : Int32)), .val (.ref b7), .val (.ref b15), .val (.long j28), .second, .val (.long j30), .second, .val (.long j32), .second, .val (.long j35), .second, .val (.ref b39), .unset, .unset, .unset]
    have f54 := (Exa.keep A39 K44)
    have z55 : n0 ≤ _ := (Nat.le_trans z45 K44.1)
    obtain ⟨cq53, kq53, q53a, q53b, q53c⟩ := isOf hZ rfl f54
    obtain ⟨_, _, ⟨T53, L53, k53, n53⟩, -, X53, ⟨Lc53, hQ53, l53, y53, z53⟩, st53⟩ := X44.virtualBack hx (y := (⟨"com/example/meterwright/meterwright/RecordBody$Writer", "toByteArray", "()[B"⟩ : MethodName)) (z := (⟨"com/example/meterwright/meterwright/RecordBody$Writer", "toByteArray", "()[B"⟩ : MethodName)) hown (mvT hZ (hw _ (List.mem_of_getElem? (i := 64) rfl))) (mvT hZ (hw _ (List.mem_of_getElem? (i := 65) rfl))) (notFace_of_selects (args := #[]) (mvT hZ (hw _ (List.mem_of_getElem? (i := 67) rfl)))) (mvT hZ (hw _ (List.mem_of_getElem? (i := 67) rfl))) (mvT hZ (hw _ (List.mem_of_getElem? (i := 66) rfl))) (by decide) (backOf (W := 0) (rm11 l Z a0 hw [] b39 b_44 k_44 (256 : Int32) f51 (1 : Int32) T44.heap n0 z55 f54 q44_0 q44_1 q44_3 (by decide) (by decide) (by decide)) hZ (hw _ (List.mem_of_getElem? (i := 68) rfl)) (hw _ (List.mem_of_getElem? (i := 33) rfl)) (by decide) (by decide)) q53a q53c (g := (mkF m 126 LL52 [(.ref b39)])) rfl (by rw [hml]; rfl) (Steps.refl _) (argsL := []) (rest := []) (lenOf pd_28 rfl) rfl (by show 2 * 0 + _ ≤ _; exact Nat.le_of_eq rfl) (hb hby at_126) (fun _ _ => ⟨rfl, rfl, (by decide : 6 + 1 ≤ _), (by decide : 792 + 600 ≤ _)⟩)
    dsimp only [Pt.U, Pt.locs, Pt.cells, Pt.slots] at X53 l53 y53 z53 st53 hQ53
    subst l53 y53 z53
    have f56 := (Cac.keep f46 K44 (ninS ne_ca_b39 nin0))
    have f57 := (Car.keep f47 K44 (ninS ne_b7_b39 nin0))
    have f58 := (Exa.keep f48 K44)
    have f59 := (Bar.keep f49 K44 (ninS ne_b19_b39 nin0))
    have k60 : Keep h0 T44.heap [] := (Keep.trans k50 K44 (allS (Or.inr sz_b39) all0))
    obtain ⟨r_53, kr_53, rfl, Nq53, K53, q53_0, q53_1⟩ := hQ53
    have N53 := Fr.app N44 Nq53
    obtain ⟨f61, h_f61⟩ : ∃ z : Nat → Int32, z = (own_cp (256 : Int32) (1 : Int32) f51) := ⟨_, rfl⟩
    rw [← h_f61] at q53_0
    have ne_ca_r_53 : ca ≠ r_53 := Nat.ne_of_lt (Nat.lt_of_lt_of_le f56.lt q53_1)
    have ne_b7_r_53 : b7 ≠ r_53 := Nat.ne_of_lt (Nat.lt_of_lt_of_le f57.lt q53_1)
    have ne_b15_r_53 : b15 ≠ r_53 := Nat.ne_of_lt (Nat.lt_of_lt_of_le f58.lt q53_1)
    have ne_b19_r_53 : b19 ≠ r_53 := Nat.ne_of_lt (Nat.lt_of_lt_of_le f59.lt q53_1)
    have ne_b39_r_53 : b39 ≠ r_53 := Nat.ne_of_lt (Nat.lt_of_lt_of_le f54.lt q53_1)
    have ne_b_44_r_53 : b_44 ≠ r_53 := Nat.ne_of_lt (Nat.lt_of_lt_of_le q44_3.lt q53_1)
    have ne_tm_44_r_53 : tm_44 ≠ r_53 := Nat.ne_of_lt (Nat.lt_of_lt_of_le q44_4.lt q53_1)
    have ge_r_53 : n0 ≤ r_53 := Nat.le_trans z55 q53_1
    have sz_r_53 : h0.size ≤ r_53 := Nat.le_trans k60.1 q53_1
    let LL62 : Array Slot := #[.val (.int p0), .val (.int p1), .val (.int p2), .val (.int p3), .val (.int p4), .val (.int i2), .val (.int (0 : Int32)), .val (.ref b7), .val (.ref b15), .val (.long j28), .second, .val (.long j30), .second, .val (.long j32), .second, .val (.long j35), .second, .val (.ref b39), .val (.ref r_53), .unset, .unset]
    obtain ⟨cl_a63, Ar_a63, q_a63, S_a63, N_a63, H_a63⟩ := id q53_0
    obtain ⟨cl_a64, Ar_a64, q_a64, S_a64, N_a64, H_a64⟩ := id q53_0
    have hin_a64 : ¬ ((0 : Int32) < 0 ∨ cl_a64.slots.size ≤ ((0 : Int32)).toNatClampNeg) := inb_of S_a64 ⟨by decide, by decide⟩
    have hat_a64 : cl_a64.slots[((0 : Int32)).toNatClampNeg]? = some (.int (f61 ((0 : Int32)).toNatClampNeg)) := (H_a64 _ (Nat.lt_of_not_le fun q => hin_a64 (Or.inr q))).1
    obtain ⟨cl_a65, Ar_a65, q_a65, S_a65, N_a65, H_a65⟩ := id q53_0
    have hin_a65 : ¬ ((0 : Int32) < 0 ∨ cl_a65.slots.size ≤ ((0 : Int32)).toNatClampNeg) := inb_of S_a65 ⟨by decide, by decide⟩
    obtain ⟨T66, h66, X66, e66, W66, st66⟩ := stB X53 hx hZ rfl Ar_a65 (j := (0 : Int32)) hin_a65 (g := (mkF m 157 LL62 [(.int (((i2 ^^^ (1 : Int32))).toInt8.toInt32)), (.int (0 : Int32)), (.ref r_53)])) rfl rfl (hb hby at_157)
    have V66 := Bar.set Ar_a65 q_a65 S_a65 N_a65 H_a65 W66
    have N66 := Fr.snoc X66 N53 ge_r_53
    let LL67 : Array Slot := #[.val (.int p0), .val (.int p1), .val (.int p2), .val (.int p3), .val (.int p4), .val (.int i2), .val (.int (0 : Int32)), .val (.ref b7), .val (.ref b15), .val (.long j28), .second, .val (.long j30), .second, .val (.long j32), .second, .val (.long j35), .second, .val (.ref b39), .val (.ref r_53), .val (.int (1 : Int32)), .unset]
    have P68 : ∀ t, Steps p.tables e below (T66.setTop (mkF m 175 LL67 [(.ref b39)])) t → Steps p.tables e below ST t := by
      intro t kk
      refine P36 _ ?_
      show Steps p.tables e below (T19.setTop (mkF m 111 LL33 [(.long j35)])) _
      refine XS.lstore X19.here hx rfl (hb hby at_111) rfl (l' := LL38) rfl ?_
      show Steps p.tables e below (T19.setTop (mkF m 113 LL38 [])) _
      refine st39 _ ?_
      show Steps p.tables e below (T39.setTop (mkF m 116 LL38 [(.ref b39)])) _
      refine XS.dup X39.here hx rfl (hb hby at_116) rfl rfl ?_
      show Steps p.tables e below (T39.setTop (mkF m 117 LL38 [(.ref b39), (.ref b39)])) _
      refine XS.iload X39.here hx rfl (hb hby at_117) rfl ?_
      show Steps p.tables e below (T39.setTop (mkF m 119 LL38 [(.int i2), (.ref b39), (.ref b39)])) _
      refine st44.trans ?_
      show Steps p.tables e below (T44.setTop (mkF m 122 LL38 [(.ref b39)])) _
      refine XS.astore X44.here hx rfl (hb hby at_122) rfl rfl (l' := LL52) rfl ?_
      show Steps p.tables e below (T44.setTop (mkF m 124 LL52 [])) _
      refine XS.aload X44.here hx rfl (hb hby at_124) rfl rfl ?_
      show Steps p.tables e below (T44.setTop (mkF m 126 LL52 [(.ref b39)])) _
      refine st53.trans ?_
      show Steps p.tables e below (T53.setTop (mkF m 129 LL52 [(.ref r_53)])) _
      refine XS.astore X53.here hx rfl (hb hby at_129) rfl rfl (l' := LL62) rfl ?_
      show Steps p.tables e below (T53.setTop (mkF m 131 LL62 [])) _
      refine XS.aload X53.here hx rfl (hb hby at_131) rfl rfl ?_
      show Steps p.tables e below (T53.setTop (mkF m 133 LL62 [(.ref r_53)])) _
      refine X53.arraylength hx (Ar_a63.1) (State.isArrayOf_alike hZ.alike Ar_a63.2.1) (g := (mkF m 133 LL62 [(.ref r_53)])) rfl rfl (hb hby at_133) _ ?_
      rw [len_of S_a63 N_a63]
      show Steps p.tables e below (T53.setTop (mkF m 134 LL62 [(.int (1 : Int32))])) _
      refine XS.iconst X53.here hx rfl (hb hby at_134) ?_
      show Steps p.tables e below (T53.setTop (mkF m 135 LL62 [(.int (1 : Int32)), (.int (1 : Int32))])) _
      refine XS.icmpNo X53.here hx rfl (hb hby at_135) rfl (XT.ii_ne_f rfl) ?_
      show Steps p.tables e below (T53.setTop (mkF m 138 LL62 [])) _
      refine XS.aload X53.here hx rfl (hb hby at_138) rfl rfl ?_
      show Steps p.tables e below (T53.setTop (mkF m 140 LL62 [(.ref r_53)])) _
      refine XS.iconst X53.here hx rfl (hb hby at_140) ?_
      show Steps p.tables e below (T53.setTop (mkF m 141 LL62 [(.int (0 : Int32)), (.ref r_53)])) _
      refine X53.baloadBytes hx (j := (0 : Int32)) (v := (.int (f61 ((0 : Int32)).toNatClampNeg))) (Ar_a64.1) (State.isArrayOf_alike hZ.alike Ar_a64.2.1) Ar_a64.2.2 hin_a64 hat_a64 (g := (mkF m 141 LL62 [(.int (0 : Int32)), (.ref r_53)])) rfl rfl (hb hby at_141) _ ?_
      show Steps p.tables e below (T53.setTop (mkF m 142 LL62 [(.int (f61 ((0 : Int32)).toNatClampNeg))])) _
      refine XS.iload X53.here hx rfl (hb hby at_142) rfl ?_
      show Steps p.tables e below (T53.setTop (mkF m 144 LL62 [(.int i2), (.int (f61 ((0 : Int32)).toNatClampNeg))])) _
      refine XS.icmpYes X53.here hx rfl (pc0 := 144) (pc' := 149) rfl (hb hby at_144) rfl (XT.ii_eq_t ((congrFun h_f61 (((0 : Int32)).toNatClampNeg)).trans ((own_cp_at _ _ _ _ (by decide) (by decide)).trans ((congrFun h_f51 (((0 : Int32)).toNatClampNeg)).trans (own_i_at i2 p0 h_i2))))) (by decide) (by decide) ?_
      show Steps p.tables e below (T53.setTop (mkF m 149 LL62 [])) _
      refine XS.aload X53.here hx rfl (hb hby at_149) rfl rfl ?_
      show Steps p.tables e below (T53.setTop (mkF m 151 LL62 [(.ref r_53)])) _
      refine XS.iconst X53.here hx rfl (hb hby at_151) ?_
      show Steps p.tables e below (T53.setTop (mkF m 152 LL62 [(.int (0 : Int32)), (.ref r_53)])) _
      refine XS.iload X53.here hx rfl (hb hby at_152) rfl ?_
      show Steps p.tables e below (T53.setTop (mkF m 154 LL62 [(.int i2), (.int (0 : Int32)), (.ref r_53)])) _
      refine XS.iconst X53.here hx rfl (hb hby at_154) ?_
      show Steps p.tables e below (T53.setTop (mkF m 155 LL62 [(.int (1 : Int32)), (.int i2), (.int (0 : Int32)), (.ref r_53)])) _
      refine XS.ixor X53.here hx rfl (hb hby at_155) rfl ?_
      show Steps p.tables e below (T53.setTop (mkF m 156 LL62 [(.int (i2 ^^^ (1 : Int32))), (.int (0 : Int32)), (.ref r_53)])) _
      refine XS.i2b X53.here hx rfl (hb hby at_156) rfl ?_
      show Steps p.tables e below (T53.setTop (mkF m 157 LL62 [(.int (((i2 ^^^ (1 : Int32))).toInt8.toInt32)), (.int (0 : Int32)), (.ref r_53)])) _
      refine st66 _ ?_
      show Steps p.tables e below (T66.setTop (mkF m 158 LL62 [])) _
      refine XS.iconst X66.here hx rfl (hb hby at_158) ?_
      show Steps p.tables e below (T66.setTop (mkF m 159 LL62 [(.int (1 : Int32))])) _
      refine XS.istore X66.here hx rfl (hb hby at_159) rfl (l' := LL67) rfl ?_
      show Steps p.tables e below (T66.setTop (mkF m 161 LL67 [])) _
      refine XS.iload X66.here hx rfl (hb hby at_161) rfl ?_
      show Steps p.tables e below (T66.setTop (mkF m 163 LL67 [(.int (0 : Int32))])) _
      refine XS.ifYes X66.here hx rfl (pc0 := 163) (pc' := 173) rfl (hb hby at_163) rfl (XT.i0_eq_t rfl) (by decide) (by decide) ?_
      show Steps p.tables e below (T66.setTop (mkF m 173 LL67 [])) _
      refine XS.aload X66.here hx rfl (hb hby at_173) rfl rfl ?_
      show Steps p.tables e below (T66.setTop (mkF m 175 LL67 [(.ref b39)])) _
      exact kk
    have f70 := (Exa.wr W66 (Exa.keep f54 K53))
    have f71 := (Fld.other W66 (Fld.keep q44_0 K53 nin0) (Or.inl ne_b39_r_53))
    have f72 := (Fld.other W66 (Fld.keep q44_1 K53 nin0) (Or.inl ne_b39_r_53))
    have f73 := (Bar.other (Bar.keep q44_3 K53 nin0) W66 ne_b_44_r_53)
    have f74 := (Fld.other W66 (Fld.keep q44_2 K53 nin0) (Or.inl ne_b39_r_53))
    have z75 : n0 ≤ _ := (Nat.le_trans (Nat.le_trans z55 K53.1) (Keep.of_wr W66).1)
    obtain ⟨cq69, kq69, q69a, q69b, q69c⟩ := isOf hZ e66 f70
    obtain ⟨_, _, ⟨T69, L69, k69, n69⟩, -, X69, ⟨Lc69, hQ69, l69, y69, z69⟩, st69⟩ := X66.virtualBack hx (y := (⟨"com/example/meterwright/meterwright/RecordBody$Writer", "whole", "(J)V"⟩ : MethodName)) (z := (⟨"com/example/meterwright/meterwright/RecordBody$Writer", "whole", "(J)V"⟩ : MethodName)) hown (mvT hZ (hw _ (List.mem_of_getElem? (i := 81) rfl))) (mvT hZ (hw _ (List.mem_of_getElem? (i := 82) rfl))) (notFace_of_selects (args := #[]) (mvT hZ (hw _ (List.mem_of_getElem? (i := 84) rfl)))) (mvT hZ (hw _ (List.mem_of_getElem? (i := 84) rfl))) (mvT hZ (hw _ (List.mem_of_getElem? (i := 83) rfl))) (by decide) (backOf (W := 0) (rm9 l Z a0 hw [] b39 j28 b_44 k_44 (256 : Int32) f51 (1 : Int32) tm_44 h66 n0 z75 f70 f71 f72 f73 (by decide) ge_b39 ge_b_44 ne_b39_b_44 (own_rb p1 j28 h_j28) f74) hZ (hw _ (List.mem_of_getElem? (i := 85) rfl)) (hw _ (List.mem_of_getElem? (i := 33) rfl)) (by decide) (by decide)) q69a q69c (g := (mkF m 177 LL67 [(.long j28), (.ref b39)])) rfl (by rw [hml]; rfl) (Steps.refl _) (argsL := [(.long j28)]) (rest := []) (lenOf pd_3 rfl) rfl (by show 2 * 0 + _ ≤ _; exact Nat.le_of_eq rfl) (hb hby at_177) (fun _ _ => ⟨rfl, e66, (by decide : 7 + 0 ≤ _), (by decide : 1392 + 0 ≤ _)⟩)
    dsimp only [Pt.U, Pt.locs, Pt.cells, Pt.slots] at X69 l69 y69 z69 st69 hQ69
    subst l69 y69 z69
    obtain ⟨rfl, Nq69, K69, q69_0, q69_1, q69_2, q69_3⟩ := hQ69
    have N69 := Fr.app N66 Nq69
    obtain ⟨f76, h_f76⟩ : ∃ z : Nat → Int32, z = (own_w (1 : Int32) j28 f51) := ⟨_, rfl⟩
    rw [← h_f76] at q69_0
    have f78 := (Exa.keep f70 K69)
    have z79 : n0 ≤ _ := (Nat.le_trans z75 K69.1)
    obtain ⟨cq77, kq77, q77a, q77b, q77c⟩ := isOf hZ rfl f78
    obtain ⟨_, _, ⟨T77, L77, k77, n77⟩, -, X77, ⟨Lc77, hQ77, l77, y77, z77⟩, st77⟩ := X69.virtualBack hx (y := (⟨"com/example/meterwright/meterwright/RecordBody$Writer", "whole", "(J)V"⟩ : MethodName)) (z := (⟨"com/example/meterwright/meterwright/RecordBody$Writer", "whole", "(J)V"⟩ : MethodName)) hown (mvT hZ (hw _ (List.mem_of_getElem? (i := 81) rfl))) (mvT hZ (hw _ (List.mem_of_getElem? (i := 82) rfl))) (notFace_of_selects (args := #[]) (mvT hZ (hw _ (List.mem_of_getElem? (i := 84) rfl)))) (mvT hZ (hw _ (List.mem_of_getElem? (i := 84) rfl))) (mvT hZ (hw _ (List.mem_of_getElem? (i := 83) rfl))) (by decide) (backOf (W := 0) (rm9 l Z a0 hw [] b39 j30 b_44 k_44 (256 : Int32) f76 ((1 : Int32) + (own_n j28)) tm_44 T69.heap n0 z79 f78 q69_2 q69_1 q69_0 (own_hq2 (1 : Int32) (256 : Int32) j28 (by decide)) ge_b39 ge_b_44 ne_b39_b_44 (own_rb p2 j30 h_j30) q69_3) hZ (hw _ (List.mem_of_getElem? (i := 85) rfl)) (hw _ (List.mem_of_getElem? (i := 33) rfl)) (by decide) (by decide)) q77a q77c (g := (mkF m 184 LL67 [(.long j30), (.ref b39)])) rfl (by rw [hml]; rfl) (Steps.refl _) (argsL := [(.long j30)]) (rest := []) (lenOf pd_3 rfl) rfl (by show 2 * 0 + _ ≤ _; exact Nat.le_of_eq rfl) (hb hby at_184) (fun _ _ => ⟨rfl, rfl, (by decide : 7 + 0 ≤ _), (by decide : 1392 + 0 ≤ _)⟩)
    dsimp only [Pt.U, Pt.locs, Pt.cells, Pt.slots] at X77 l77 y77 z77 st77 hQ77
    subst l77 y77 z77
    obtain ⟨rfl, Nq77, K77, q77_0, q77_1, q77_2, q77_3⟩ := hQ77
    have N77 := Fr.app N69 Nq77
    obtain ⟨f80, h_f80⟩ : ∃ z : Nat → Int32, z = (own_w ((1 : Int32) + (own_n j28)) j30 f76) := ⟨_, rfl⟩
    rw [← h_f80] at q77_0
    have f82 := (Exa.keep f78 K77)
    have z83 : n0 ≤ _ := (Nat.le_trans z79 K77.1)
    obtain ⟨cq81, kq81, q81a, q81b, q81c⟩ := isOf hZ rfl f82
    obtain ⟨_, _, ⟨T81, L81, k81, n81⟩, -, X81, ⟨Lc81, hQ81, l81, y81, z81⟩, st81⟩ := X77.virtualBack hx (y := (⟨"com/example/meterwright/meterwright/RecordBody$Writer", "number", "(J)V"⟩ : MethodName)) (z := (⟨"com/example/meterwright/meterwright/RecordBody$Writer", "number", "(J)V"⟩ : MethodName)) hown (mvT hZ (hw _ (List.mem_of_getElem? (i := 87) rfl))) (mvT hZ (hw _ (List.mem_of_getElem? (i := 88) rfl))) (notFace_of_selects (args := #[]) (mvT hZ (hw _ (List.mem_of_getElem? (i := 90) rfl)))) (mvT hZ (hw _ (List.mem_of_getElem? (i := 90) rfl))) (mvT hZ (hw _ (List.mem_of_getElem? (i := 89) rfl))) (by decide) (backOf (W := 0) (rm10 l Z a0 hw [] b39 j32 b_44 k_44 (256 : Int32) f80 (((1 : Int32) + (own_n j28)) + (own_n j30)) tm_44 T77.heap n0 z83 f82 q77_2 q77_1 q77_0 (own_hq3 (1 : Int32) (256 : Int32) j28 j30 (by decide)) ge_b39 ge_b_44 ne_b39_b_44 (own_zr p3 j32 j35 h_j32 h_j35) q77_3) hZ (hw _ (List.mem_of_getElem? (i := 91) rfl)) (hw _ (List.mem_of_getElem? (i := 33) rfl)) (by decide) (by decide)) q81a q81c (g := (mkF m 191 LL67 [(.long j32), (.ref b39)])) rfl (by rw [hml]; rfl) (Steps.refl _) (argsL := [(.long j32)]) (rest := []) (lenOf pd_3 rfl) rfl (by show 2 * 0 + _ ≤ _; exact Nat.le_of_eq rfl) (hb hby at_191) (fun _ _ => ⟨rfl, rfl, (by decide : 7 + 0 ≤ _), (by decide : 1392 + 0 ≤ _)⟩)
    dsimp only [Pt.U, Pt.locs, Pt.cells, Pt.slots] at X81 l81 y81 z81 st81 hQ81
    subst l81 y81 z81
    obtain ⟨rfl, Nq81, K81, q81_0, q81_1, q81_2, q81_3⟩ := hQ81
    have N81 := Fr.app N77 Nq81
    obtain ⟨f84, h_f84⟩ : ∃ z : Nat → Int32, z = (own_w (((1 : Int32) + (own_n j28)) + (own_n j30)) ((j32 <<< ((1 : Int32) &&& 0x3f).toInt64) ^^^ (j32 >>> ((63 : Int32) &&& 0x3f).toInt64)) f80) := ⟨_, rfl⟩
    rw [← h_f84] at q81_0
    have SZ := own_hn (1 : Int32) (256 : Int32) j28 j30 ((j32 <<< ((1 : Int32) &&& 0x3f).toInt64) ^^^ (j32 >>> ((63 : Int32) &&& 0x3f).toInt64)) (by decide)
    have f86 := (Exa.keep f82 K81)
    have z87 : n0 ≤ _ := (Nat.le_trans z83 K81.1)
    obtain ⟨cq85, kq85, q85a, q85b, q85c⟩ := isOf hZ rfl f86
    obtain ⟨_, _, ⟨T85, L85, k85, n85⟩, -, X85, ⟨Lc85, hQ85, l85, y85, z85⟩, st85⟩ := X81.virtualBack hx (y := (⟨"com/example/meterwright/meterwright/RecordBody$Writer", "toByteArray", "()[B"⟩ : MethodName)) (z := (⟨"com/example/meterwright/meterwright/RecordBody$Writer", "toByteArray", "()[B"⟩ : MethodName)) hown (mvT hZ (hw _ (List.mem_of_getElem? (i := 64) rfl))) (mvT hZ (hw _ (List.mem_of_getElem? (i := 65) rfl))) (notFace_of_selects (args := #[]) (mvT hZ (hw _ (List.mem_of_getElem? (i := 67) rfl)))) (mvT hZ (hw _ (List.mem_of_getElem? (i := 67) rfl))) (mvT hZ (hw _ (List.mem_of_getElem? (i := 66) rfl))) (by decide) (backOf (W := 0) (rm11 l Z a0 hw [] b39 b_44 k_44 (256 : Int32) f84 ((((1 : Int32) + (own_n j28)) + (own_n j30)) + (own_n ((j32 <<< ((1 : Int32) &&& 0x3f).toInt64) ^^^ (j32 >>> ((63 : Int32) &&& 0x3f).toInt64)))) T81.heap n0 z87 f86 q81_2 q81_1 q81_0 SZ.1 SZ.2.1 (by decide)) hZ (hw _ (List.mem_of_getElem? (i := 68) rfl)) (hw _ (List.mem_of_getElem? (i := 33) rfl)) (by decide) (by decide)) q85a q85c (g := (mkF m 196 LL67 [(.ref b39)])) rfl (by rw [hml]; rfl) (Steps.refl _) (argsL := []) (rest := []) (lenOf pd_28 rfl) rfl (by show 2 * 0 + _ ≤ _; exact Nat.le_of_eq rfl) (hb hby at_196) (fun _ _ => ⟨rfl, rfl, (by decide : 7 + 1 ≤ _), (by decide : 1392 + 600 ≤ _)⟩)
    dsimp only [Pt.U, Pt.locs, Pt.cells, Pt.slots] at X85 l85 y85 z85 st85 hQ85
    subst l85 y85 z85
    have f88 := (Cac.keep (Cac.keep (Cac.keep (Cac.other (Cac.keep f56 K53 nin0) W66 ne_ca_r_53) K69 (ninS ne_ca_b39 (ninS ne_ca_b_44 nin0))) K77 (ninS ne_ca_b39 (ninS ne_ca_b_44 nin0))) K81 (ninS ne_ca_b39 (ninS ne_ca_b_44 nin0)))
    have f89 := (Car.keep (Car.keep (Car.keep (Car.other (Car.keep f57 K53 nin0) W66 ne_b7_r_53) K69 (ninS ne_b7_b39 (ninS ne_b7_b_44 nin0))) K77 (ninS ne_b7_b39 (ninS ne_b7_b_44 nin0))) K81 (ninS ne_b7_b39 (ninS ne_b7_b_44 nin0)))
    have f90 := (Exa.keep (Exa.keep (Exa.keep (Exa.wr W66 (Exa.keep f58 K53)) K69) K77) K81)
    have f91 := (Bar.keep (Bar.keep (Bar.keep (Bar.other (Bar.keep f59 K53 nin0) W66 ne_b19_r_53) K69 (ninS ne_b19_b39 (ninS ne_b19_b_44 nin0))) K77 (ninS ne_b19_b39 (ninS ne_b19_b_44 nin0))) K81 (ninS ne_b19_b39 (ninS ne_b19_b_44 nin0)))
    have f92 := (Exa.keep (Exa.keep (Exa.keep (Exa.wr W66 (Exa.keep q44_4 K53)) K69) K77) K81)
    have f93 := (Bar.keep (Bar.keep (Bar.keep V66 K69 (ninS (Ne.symm ne_b39_r_53) (ninS (Ne.symm ne_b_44_r_53) nin0))) K77 (ninS (Ne.symm ne_b39_r_53) (ninS (Ne.symm ne_b_44_r_53) nin0))) K81 (ninS (Ne.symm ne_b39_r_53) (ninS (Ne.symm ne_b_44_r_53) nin0)))
    have k94 : Keep h0 T81.heap [] := (Keep.trans (Keep.trans (Keep.trans (Keep.wr (Keep.trans k60 K53 all0) W66 (Or.inr sz_r_53)) K69 (allS (Or.inr sz_b39) (allS (Or.inr sz_b_44) all0))) K77 (allS (Or.inr sz_b39) (allS (Or.inr sz_b_44) all0))) K81 (allS (Or.inr sz_b39) (allS (Or.inr sz_b_44) all0)))
    obtain ⟨r_85, kr_85, rfl, Nq85, K85, q85_0, q85_1⟩ := hQ85
    have N85 := Fr.app N81 Nq85
    obtain ⟨f95, h_f95⟩ : ∃ z : Nat → Int32, z = (own_cp (256 : Int32) ((((1 : Int32) + (own_n j28)) + (own_n j30)) + (own_n ((j32 <<< ((1 : Int32) &&& 0x3f).toInt64) ^^^ (j32 >>> ((63 : Int32) &&& 0x3f).toInt64)))) f84) := ⟨_, rfl⟩
    rw [← h_f95] at q85_0
    have ne_ca_r_85 : ca ≠ r_85 := Nat.ne_of_lt (Nat.lt_of_lt_of_le f88.lt q85_1)
    have ne_b7_r_85 : b7 ≠ r_85 := Nat.ne_of_lt (Nat.lt_of_lt_of_le f89.lt q85_1)
    have ne_b15_r_85 : b15 ≠ r_85 := Nat.ne_of_lt (Nat.lt_of_lt_of_le f90.lt q85_1)
    have ne_b19_r_85 : b19 ≠ r_85 := Nat.ne_of_lt (Nat.lt_of_lt_of_le f91.lt q85_1)
    have ne_b39_r_85 : b39 ≠ r_85 := Nat.ne_of_lt (Nat.lt_of_lt_of_le f86.lt q85_1)
    have ne_tm_44_r_85 : tm_44 ≠ r_85 := Nat.ne_of_lt (Nat.lt_of_lt_of_le f92.lt q85_1)
    have ne_r_53_r_85 : r_53 ≠ r_85 := Nat.ne_of_lt (Nat.lt_of_lt_of_le f93.lt q85_1)
    have ne_b_44_r_85 : b_44 ≠ r_85 := Nat.ne_of_lt (Nat.lt_of_lt_of_le q81_0.lt q85_1)
    have ge_r_85 : n0 ≤ r_85 := Nat.le_trans z87 q85_1
    have sz_r_85 : h0.size ≤ r_85 := Nat.le_trans k94.1 q85_1
    let LL96 : Array Slot := #[.val (.int p0), .val (.int p1), .val (.int p2), .val (.int p3), .val (.int p4), .val (.int i2), .val (.int (0 : Int32)), .val (.ref b7), .val (.ref b15), .val (.long j28), .second, .val (.long j30), .second, .val (.long j32), .second, .val (.long j35), .second, .val (.ref b39), .val (.ref r_53), .val (.int (1 : Int32)), .val (.ref r_85)]
    have RD := own_rd (1 : Int32) (256 : Int32) j28 j30 ((j32 <<< ((1 : Int32) &&& 0x3f).toInt64) ^^^ (j32 >>> ((63 : Int32) &&& 0x3f).toInt64)) f51 f76 f80 f84 f95 (by decide) h_f76 h_f80 h_f84 h_f95
    obtain ⟨cl_a97, Ar_a97, q_a97, S_a97, N_a97, H_a97⟩ := id q85_0
    obtain ⟨cl_a98, Ar_a98, q_a98, S_a98, N_a98, H_a98⟩ := id q85_0
    have hin_a98 : ¬ ((0 : Int32) < 0 ∨ cl_a98.slots.size ≤ ((0 : Int32)).toNatClampNeg) := inb_of S_a98 (SZ.2.2.2.2 (0 : Int32) ⟨by decide, by decide⟩)
    have hat_a98 : cl_a98.slots[((0 : Int32)).toNatClampNeg]? = some (.int (f95 ((0 : Int32)).toNatClampNeg)) := (H_a98 _ (Nat.lt_of_not_le fun q => hin_a98 (Or.inr q))).1
    have z100 : n0 ≤ _ := (Nat.le_trans z87 K85.1)
    obtain ⟨_, _, ⟨T99, L99, k99, n99⟩, -, X99, ⟨Lc99, hQ99, l99, y99, z99⟩, st99⟩ := Jvm.LawKit.callS X85 hx (y := (⟨"com/example/meterwright/meterwright/WriterToByteArrayPinLaw", "at", "([BIJ)I"⟩ : MethodName)) hown (mvT hZ (hw _ (List.mem_of_getElem? (i := 93) rfl))) (mvT hZ (hw _ (List.mem_of_getElem? (i := 94) rfl))) (mvT hZ (hw _ (List.mem_of_getElem? (i := 95) rfl))) (mvT hZ (hw _ (List.mem_of_getElem? (i := 96) rfl))) (by decide) (backOf (W := 0) (rm15 l Z a0 hw [] r_85 (1 : Int32) j28 kr_85 ((((1 : Int32) + (own_n j28)) + (own_n j30)) + (own_n ((j32 <<< ((1 : Int32) &&& 0x3f).toInt64) ^^^ (j32 >>> ((63 : Int32) &&& 0x3f).toInt64)))) f95 T85.heap n0 z100 q85_0 RD.1) hZ (hw _ (List.mem_of_getElem? (i := 96) rfl)) (hw _ (List.mem_of_getElem? (i := 95) rfl)) (by decide) (by decide)) (g := (mkF m 302 LL96 [(.long j28), (.int (1 : Int32)), (.ref r_85)])) rfl (by rw [hml]; rfl) (argsL := [(.ref r_85), (.int (1 : Int32)), (.long j28)]) (rest := []) (lenOf pd_29 rfl) rfl (by show 2 * 0 + _ ≤ _; exact Nat.le_of_eq rfl) (hb hby at_302) (fun _ _ => ⟨rfl, rfl, (by decide : 8 + 0 ≤ _), (by decide : 1992 + 0 ≤ _)⟩)
    dsimp only [Pt.U, Pt.locs, Pt.cells, Pt.slots] at X99 l99 y99 z99 st99 hQ99
    subst l99 y99 z99
    obtain ⟨rfl, Nq99, e99⟩ := hQ99
    have N99 := Fr.app N85 Nq99
    let LL101 : Array Slot := #[.val (.int p0), .val (.int p1), .val (.int p2), .val (.int p3), .val (.int p4), .val (.int i2), .val (.int (0 : Int32)), .val (.ref b7), .val (.ref b15), .val (.long j28), .second, .val (.long j30), .second, .val (.long j32), .second, .val (.long j35), .second, .val (.ref b39), .val (.ref r_53), .val (.int ((1 : Int32) + (own_n j28))), .val (.ref r_85)]
    have P102 : ∀ t, Steps p.tables e below (T99.setTop (mkF m 313 LL101 [(.long j30), (.int ((1 : Int32) + (own_n j28))), (.ref r_85)])) t → Steps p.tables e below ST t := by
      intro t kk
      refine P68 _ ?_
      show Steps p.tables e below (T66.setTop (mkF m 175 LL67 [(.ref b39)])) _
      refine XS.lload X66.here hx rfl (hb hby at_175) rfl ?_
      show Steps p.tables e below (T66.setTop (mkF m 177 LL67 [(.long j28), (.ref b39)])) _
      refine st69.trans ?_
      show Steps p.tables e below (T69.setTop (mkF m 180 LL67 [])) _
      refine XS.aload X69.here hx rfl (hb hby at_180) rfl rfl ?_
      show Steps p.tables e below (T69.setTop (mkF m 182 LL67 [(.ref b39)])) _
      refine XS.lload X69.here hx rfl (hb hby at_182) rfl ?_
      show Steps p.tables e below (T69.setTop (mkF m 184 LL67 [(.long j30), (.ref b39)])) _
      refine st77.trans ?_
      show Steps p.tables e below (T77.setTop (mkF m 187 LL67 [])) _
      refine XS.aload X77.here hx rfl (hb hby at_187) rfl rfl ?_
      show Steps p.tables e below (T77.setTop (mkF m 189 LL67 [(.ref b39)])) _
      refine XS.lload X77.here hx rfl (hb hby at_189) rfl ?_
      show Steps p.tables e below (T77.setTop (mkF m 191 LL67 [(.long j32), (.ref b39)])) _
      refine st81.trans ?_
      show Steps p.tables e below (T81.setTop (mkF m 194 LL67 [])) _
      refine XS.aload X81.here hx rfl (hb hby at_194) rfl rfl ?_
      show Steps p.tables e below (T81.setTop (mkF m 196 LL67 [(.ref b39)])) _
      refine st85.trans ?_
      show Steps p.tables e below (T85.setTop (mkF m 199 LL67 [(.ref r_85)])) _
      refine XS.astore X85.here hx rfl (hb hby at_199) rfl rfl (l' := LL96) rfl ?_
      show Steps p.tables e below (T85.setTop (mkF m 201 LL96 [])) _
      refine XS.aload X85.here hx rfl (hb hby at_201) rfl rfl ?_
      show Steps p.tables e below (T85.setTop (mkF m 203 LL96 [(.ref r_85)])) _
      refine X85.arraylength hx (Ar_a97.1) (State.isArrayOf_alike hZ.alike Ar_a97.2.1) (g := (mkF m 203 LL96 [(.ref r_85)])) rfl rfl (hb hby at_203) _ ?_
      rw [len_of S_a97 N_a97]
      show Steps p.tables e below (T85.setTop (mkF m 204 LL96 [(.int ((((1 : Int32) + (own_n j28)) + (own_n j30)) + (own_n ((j32 <<< ((1 : Int32) &&& 0x3f).toInt64) ^^^ (j32 >>> ((63 : Int32) &&& 0x3f).toInt64)))))])) _
      refine XS.iconst X85.here hx rfl (hb hby at_204) ?_
      show Steps p.tables e below (T85.setTop (mkF m 205 LL96 [(.int (1 : Int32)), (.int ((((1 : Int32) + (own_n j28)) + (own_n j30)) + (own_n ((j32 <<< ((1 : Int32) &&& 0x3f).toInt64) ^^^ (j32 >>> ((63 : Int32) &&& 0x3f).toInt64)))))])) _
      refine XS.icmpNo X85.here hx rfl (hb hby at_205) rfl (XT.ii_lt_f SZ.2.2.1) ?_
      show Steps p.tables e below (T85.setTop (mkF m 208 LL96 [])) _
      refine XS.aload X85.here hx rfl (hb hby at_208) rfl rfl ?_
      show Steps p.tables e below (T85.setTop (mkF m 210 LL96 [(.ref r_85)])) _
      refine XS.iconst X85.here hx rfl (hb hby at_210) ?_
      show Steps p.tables e below (T85.setTop (mkF m 211 LL96 [(.int (0 : Int32)), (.ref r_85)])) _
      refine X85.baloadBytes hx (j := (0 : Int32)) (v := (.int (f95 ((0 : Int32)).toNatClampNeg))) (Ar_a98.1) (State.isArrayOf_alike hZ.alike Ar_a98.2.1) Ar_a98.2.2 hin_a98 hat_a98 (g := (mkF m 211 LL96 [(.int (0 : Int32)), (.ref r_85)])) rfl rfl (hb hby at_211) _ ?_
      show Steps p.tables e below (T85.setTop (mkF m 212 LL96 [(.int (f95 ((0 : Int32)).toNatClampNeg))])) _
      refine XS.iload X85.here hx rfl (hb hby at_212) rfl ?_
      show Steps p.tables e below (T85.setTop (mkF m 214 LL96 [(.int i2), (.int (f95 ((0 : Int32)).toNatClampNeg))])) _
      refine XS.icmpYes X85.here hx rfl (pc0 := 214) (pc' := 219) rfl (hb hby at_214) rfl (XT.ii_eq_t ((RD.2.2.2 (((0 : Int32)).toNatClampNeg) (by decide)).trans ((congrFun h_f51 (((0 : Int32)).toNatClampNeg)).trans (own_i_at i2 p0 h_i2)))) (by decide) (by decide) ?_
      show Steps p.tables e below (T85.setTop (mkF m 219 LL96 [])) _
      refine XS.iload X85.here hx rfl (hb hby at_219) rfl ?_
      show Steps p.tables e below (T85.setTop (mkF m 221 LL96 [(.int (0 : Int32))])) _
      refine XS.ifYes X85.here hx rfl (pc0 := 221) (pc' := 296) rfl (hb hby at_221) rfl (XT.i0_eq_t rfl) (by decide) (by decide) ?_
      show Steps p.tables e below (T85.setTop (mkF m 296 LL96 [])) _
      refine XS.aload X85.here hx rfl (hb hby at_296) rfl rfl ?_
      show Steps p.tables e below (T85.setTop (mkF m 298 LL96 [(.ref r_85)])) _
      refine XS.iload X85.here hx rfl (hb hby at_298) rfl ?_
      show Steps p.tables e below (T85.setTop (mkF m 300 LL96 [(.int (1 : Int32)), (.ref r_85)])) _
      refine XS.lload X85.here hx rfl (hb hby at_300) rfl ?_
      show Steps p.tables e below (T85.setTop (mkF m 302 LL96 [(.long j28), (.int (1 : Int32)), (.ref r_85)])) _
      refine st99 _ ?_
      show Steps p.tables e below (T99.setTop (mkF m 305 LL96 [(.int ((1 : Int32) + (own_n j28)))])) _
      refine XS.istore X99.here hx rfl (hb hby at_305) rfl (l' := LL101) rfl ?_
      show Steps p.tables e below (T99.setTop (mkF m 307 LL101 [])) _
      refine XS.aload X99.here hx rfl (hb hby at_307) rfl rfl ?_
      show Steps p.tables e below (T99.setTop (mkF m 309 LL101 [(.ref r_85)])) _
      refine XS.iload X99.here hx rfl (hb hby at_309) rfl ?_
      show Steps p.tables e below (T99.setTop (mkF m 311 LL101 [(.int ((1 : Int32) + (own_n j28))), (.ref r_85)])) _
      refine XS.lload X99.here hx rfl (hb hby at_311) rfl ?_
      show Steps p.tables e below (T99.setTop (mkF m 313 LL101 [(.long j30), (.int ((1 : Int32) + (own_n j28))), (.ref r_85)])) _
      exact kk
    obtain ⟨_, _, ⟨T103, L103, k103, n103⟩, -, X103, ⟨Lc103, hQ103, l103, y103, z103⟩, st103⟩ := Jvm.LawKit.callS X99 hx (y := (⟨"com/example/meterwright/meterwright/WriterToByteArrayPinLaw", "at", "([BIJ)I"⟩ : MethodName)) hown (mvT hZ (hw _ (List.mem_of_getElem? (i := 93) rfl))) (mvT hZ (hw _ (List.mem_of_getElem? (i := 94) rfl))) (mvT hZ (hw _ (List.mem_of_getElem? (i := 95) rfl))) (mvT hZ (hw _ (List.mem_of_getElem? (i := 96) rfl))) (by decide) (backOf (W := 0) (rm15 l Z a0 hw [] r_85 ((1 : Int32) + (own_n j28)) j30 kr_85 ((((1 : Int32) + (own_n j28)) + (own_n j30)) + (own_n ((j32 <<< ((1 : Int32) &&& 0x3f).toInt64) ^^^ (j32 >>> ((63 : Int32) &&& 0x3f).toInt64)))) f95 T85.heap n0 z100 q85_0 RD.2.1) hZ (hw _ (List.mem_of_getElem? (i := 96) rfl)) (hw _ (List.mem_of_getElem? (i := 95) rfl)) (by decide) (by decide)) (g := (mkF m 313 LL101 [(.long j30), (.int ((1 : Int32) + (own_n j28))), (.ref r_85)])) rfl (by rw [hml]; rfl) (argsL := [(.ref r_85), (.int ((1 : Int32) + (own_n j28))), (.long j30)]) (rest := []) (lenOf pd_29 rfl) rfl (by show 2 * 0 + _ ≤ _; exact Nat.le_of_eq rfl) (hb hby at_313) (fun _ _ => ⟨rfl, e99, (by decide : 8 + 0 ≤ _), (by decide : 1992 + 0 ≤ _)⟩)
    dsimp only [Pt.U, Pt.locs, Pt.cells, Pt.slots] at X103 l103 y103 z103 st103 hQ103
    subst l103 y103 z103
    obtain ⟨rfl, Nq103, e103⟩ := hQ103
    have N103 := Fr.app N99 Nq103
    let LL104 : Array Slot := #[.val (.int p0), .val (.int p1), .val (.int p2), .val (.int p3), .val (.int p4), .val (.int i2), .val (.int (0 : Int32)), .val (.ref b7), .val (.ref b15), .val (.long j28), .second, .val (.long j30), .second, .val (.long j32), .second, .val (.long j35), .second, .val (.ref b39), .val (.ref r_53), .val (.int (((1 : Int32) + (own_n j28)) + (own_n j30))), .val (.ref r_85)]
    obtain ⟨_, _, ⟨T105, L105, k105, n105⟩, -, X105, ⟨Lc105, hQ105, l105, y105, z105⟩, st105⟩ := Jvm.LawKit.callS X103 hx (y := (⟨"com/example/meterwright/meterwright/WriterToByteArrayPinLaw", "at", "([BIJ)I"⟩ : MethodName)) hown (mvT hZ (hw _ (List.mem_of_getElem? (i := 93) rfl))) (mvT hZ (hw _ (List.mem_of_getElem? (i := 94) rfl))) (mvT hZ (hw _ (List.mem_of_getElem? (i := 95) rfl))) (mvT hZ (hw _ (List.mem_of_getElem? (i := 96) rfl))) (by decide) (backOf (W := 0) (rm15 l Z a0 hw [] r_85 (((1 : Int32) + (own_n j28)) + (own_n j30)) j35 kr_85 ((((1 : Int32) + (own_n j28)) + (own_n j30)) + (own_n ((j32 <<< ((1 : Int32) &&& 0x3f).toInt64) ^^^ (j32 >>> ((63 : Int32) &&& 0x3f).toInt64)))) f95 T85.heap n0 z100 q85_0 (by rw [← (own_zz p3 j32 j35 h_j32 h_j35).1]; exact RD.2.2.1)) hZ (hw _ (List.mem_of_getElem? (i := 96) rfl)) (hw _ (List.mem_of_getElem? (i := 95) rfl)) (by decide) (by decide)) (g := (mkF m 324 LL104 [(.long j35), (.int (((1 : Int32) + (own_n j28)) + (own_n j30))), (.ref r_85)])) rfl (by rw [hml]; rfl) (argsL := [(.ref r_85), (.int (((1 : Int32) + (own_n j28)) + (own_n j30))), (.long j35)]) (rest := []) (lenOf pd_29 rfl) rfl (by show 2 * 0 + _ ≤ _; exact Nat.le_of_eq rfl) (hb hby at_324) (fun _ _ => ⟨rfl, e103, (by decide : 8 + 0 ≤ _), (by decide : 1992 + 0 ≤ _)⟩)
    dsimp only [Pt.U, Pt.locs, Pt.cells, Pt.slots] at X105 l105 y105 z105 st105 hQ105
    subst l105 y105 z105
    obtain ⟨rfl, Nq105, e105⟩ := hQ105
    have N105 := Fr.app N103 Nq105
    let LL106 : Array Slot := #[.val (.int p0), .val (.int p1), .val (.int p2), .val (.int p3), .val (.int p4), .val (.int i2), .val (.int (0 : Int32)), .val (.ref b7), .val (.ref b15), .val (.long j28), .second, .val (.long j30), .second, .val (.long j32), .second, .val (.long j35), .second, .val (.ref b39), .val (.ref r_53), .val (.int ((((1 : Int32) + (own_n j28)) + (own_n j30)) + (own_n j35))), .val (.ref r_85)]
    obtain ⟨cl_a107, Ar_a107, q_a107, S_a107, N_a107, H_a107⟩ := id q85_0
    have P108 : ∀ t, Steps p.tables e below (T105.setTop (mkF m 342 LL106 [(.int (1 : Int32))])) t → Steps p.tables e below ST t := by
      intro t kk
      refine P102 _ ?_
      show Steps p.tables e below (T99.setTop (mkF m 313 LL101 [(.long j30), (.int ((1 : Int32) + (own_n j28))), (.ref r_85)])) _
      refine st103 _ ?_
      show Steps p.tables e below (T103.setTop (mkF m 316 LL101 [(.int (((1 : Int32) + (own_n j28)) + (own_n j30)))])) _
      refine XS.istore X103.here hx rfl (hb hby at_316) rfl (l' := LL104) rfl ?_
      show Steps p.tables e below (T103.setTop (mkF m 318 LL104 [])) _
      refine XS.aload X103.here hx rfl (hb hby at_318) rfl rfl ?_
      show Steps p.tables e below (T103.setTop (mkF m 320 LL104 [(.ref r_85)])) _
      refine XS.iload X103.here hx rfl (hb hby at_320) rfl ?_
      show Steps p.tables e below (T103.setTop (mkF m 322 LL104 [(.int (((1 : Int32) + (own_n j28)) + (own_n j30))), (.ref r_85)])) _
      refine XS.lload X103.here hx rfl (hb hby at_322) rfl ?_
      show Steps p.tables e below (T103.setTop (mkF m 324 LL104 [(.long j35), (.int (((1 : Int32) + (own_n j28)) + (own_n j30))), (.ref r_85)])) _
      refine st105 _ ?_
      show Steps p.tables e below (T105.setTop (mkF m 327 LL104 [(.int ((((1 : Int32) + (own_n j28)) + (own_n j30)) + (own_n j35)))])) _
      refine XS.istore X105.here hx rfl (hb hby at_327) rfl (l' := LL106) rfl ?_
      show Steps p.tables e below (T105.setTop (mkF m 329 LL106 [])) _
      refine XS.iload X105.here hx rfl (hb hby at_329) rfl ?_
      show Steps p.tables e below (T105.setTop (mkF m 331 LL106 [(.int ((((1 : Int32) + (own_n j28)) + (own_n j30)) + (own_n j35)))])) _
      refine XS.aload X105.here hx rfl (hb hby at_331) rfl rfl ?_
      show Steps p.tables e below (T105.setTop (mkF m 333 LL106 [(.ref r_85), (.int ((((1 : Int32) + (own_n j28)) + (own_n j30)) + (own_n j35)))])) _
      refine X105.arraylength hx (by rw [e105]; exact Ar_a107.1) (State.isArrayOf_alike hZ.alike Ar_a107.2.1) (g := (mkF m 333 LL106 [(.ref r_85), (.int ((((1 : Int32) + (own_n j28)) + (own_n j30)) + (own_n j35)))])) rfl rfl (hb hby at_333) _ ?_
      rw [len_of S_a107 N_a107]
      show Steps p.tables e below (T105.setTop (mkF m 334 LL106 [(.int ((((1 : Int32) + (own_n j28)) + (own_n j30)) + (own_n ((j32 <<< ((1 : Int32) &&& 0x3f).toInt64) ^^^ (j32 >>> ((63 : Int32) &&& 0x3f).toInt64))))), (.int ((((1 : Int32) + (own_n j28)) + (own_n j30)) + (own_n j35)))])) _
      refine XS.icmpNo X105.here hx rfl (hb hby at_334) rfl (XT.ii_ne_f (by rw [(own_zz p3 j32 j35 h_j32 h_j35).1])) ?_
      show Steps p.tables e below (T105.setTop (mkF m 337 LL106 [])) _
      refine XS.iconst X105.here hx rfl (hb hby at_337) ?_
      show Steps p.tables e below (T105.setTop (mkF m 338 LL106 [(.int (1 : Int32))])) _
      refine XS.goto X105.here hx rfl (pc0 := 338) (pc' := 342) rfl (hb hby at_338) (by decide) (by decide) ?_
      show Steps p.tables e below (T105.setTop (mkF m 342 LL106 [(.int (1 : Int32))])) _
      exact kk
    obtain ⟨fs, hr, hrun, hended, hW, hsame⟩ := X105.leave (v := some (.int (1 : Int32))) (fun h => by rw [Bd.returns] at h; cases h)
    refine ⟨_, _, P108 _ ?_, hrun, hended, _, _, rfl, ?_, ⟨_, rfl⟩, hW, hsame.mono (by decide) (by decide)⟩
    · exact retN X105 hx (t := .boolean) Bd.returns (by simp) (hb hby at_342) hr
    · exact ⟨rfl, N105⟩
  · skip
    let LL109 : Array Slot := #[.val (.int p0), .val (.int p1), .val (.int p2), .val (.int p3), .val (.int p4), .val (.int i2), .val (.int (1 : Int32)), .unset, .unset, .unset, .unset, .unset, .unset, .unset, .unset, .unset, .unset, .unset, .unset, .unset, .unset]
    obtain ⟨T110, h110, k110, X110, e110, E110, A110, st110⟩ := newP X0 hx hZ (hw _ (List.mem_of_getElem? (i := 0) rfl)) e0 (g := (mkF m 21 LL109 [(.int (260 : Int32))])) rfl (hb hby at_21) rfl (by decide) (cap := 260) (by decide) (by decide) (by decide) (by decide)
    obtain ⟨b110, g_b110⟩ : ∃ z, z = h0.size := ⟨_, rfl⟩
    rw [← g_b110] at A110 st110
    have ne_ca_b110 : ca ≠ b110 := Nat.ne_of_lt (Nat.lt_of_lt_of_le pr6.lt (Nat.le_of_eq g_b110.symm))
    have ge_b110 : n0 ≤ b110 := Nat.le_trans Z0 (Nat.le_of_eq g_b110.symm)
    have sz_b110 : h0.size ≤ b110 := Nat.le_trans (Keep.refl h0 []).1 (Nat.le_of_eq g_b110.symm)
    have V110 := Car.new A110 (by decide)
    let LL111 : Array Slot := #[.val (.int p0), .val (.int p1), .val (.int p2), .val (.int p3), .val (.int p4), .val (.int i2), .val (.int (1 : Int32)), .val (.ref b110), .unset, .unset, .unset, .unset, .unset, .unset, .unset, .unset, .unset, .unset, .unset, .unset, .unset]
    obtain ⟨cl_a112, Ar_a112, q_a112, S_a112, N_a112, H_a112⟩ := id V110
    have hin_a112 : ¬ ((0 : Int32) < 0 ∨ cl_a112.slots.size ≤ ((0 : Int32)).toNatClampNeg) := inb_of S_a112 ⟨by decide, by decide⟩
    obtain ⟨T113, h113, X113, e113, W113, st113⟩ := stC X110 hx hZ e110 Ar_a112 (j := (0 : Int32)) hin_a112 (g := (mkF m 36 LL111 [(.int ((((((p4).toUInt32 >>> ((1 : Int32) &&& 31).toUInt32).toInt32) &&& (127 : Int32))).toUInt32.toUInt16.toUInt32.toInt32)), (.int (0 : Int32)), (.ref b110)])) rfl rfl (hb hby at_36)
    obtain ⟨f114, h_f114⟩ : ∃ z : Nat → Int32, z = (fun jj => if jj = ((0 : Int32)).toNatClampNeg then (nar .char ((((((p4).toUInt32 >>> ((1 : Int32) &&& 31).toUInt32).toInt32) &&& (127 : Int32))).toUInt32.toUInt16.toUInt32.toInt32)) else (fun _ => (0 : Int32)) jj) := ⟨_, rfl⟩
    have V113 : Car Z h113 b110 k110 (260 : Int32) f114 := by
      rw [h_f114]
      exact Car.set Ar_a112 q_a112 S_a112 N_a112 H_a112 W113
    have N113 := Fr.snoc X113 N0 ge_b110
    obtain ⟨cl_a115, Ar_a115, q_a115, S_a115, N_a115, H_a115⟩ := id V113
    have hin_a115 : ¬ ((259 : Int32) < 0 ∨ cl_a115.slots.size ≤ ((259 : Int32)).toNatClampNeg) := inb_of S_a115 ⟨by decide, by decide⟩
    obtain ⟨T116, h116, X116, e116, W116, st116⟩ := stC X113 hx hZ e113 Ar_a115 (j := (259 : Int32)) hin_a115 (g := (mkF m 51 LL111 [(.int ((((((p4).toUInt32 >>> ((8 : Int32) &&& 31).toUInt32).toInt32) &&& (127 : Int32))).toUInt32.toUInt16.toUInt32.toInt32)), (.int (259 : Int32)), (.ref b110)])) rfl rfl (hb hby at_51)
    obtain ⟨f117, h_f117⟩ : ∃ z : Nat → Int32, z = (fun jj => if jj = ((259 : Int32)).toNatClampNeg then (nar .char ((((((p4).toUInt32 >>> ((8 : Int32) &&& 31).toUInt32).toInt32) &&& (127 : Int32))).toUInt32.toUInt16.toUInt32.toInt32)) else f114 jj) := ⟨_, rfl⟩
    have V116 : Car Z h116 b110 k110 (260 : Int32) f117 := by
      rw [h_f117]
      exact Car.set Ar_a115 q_a115 S_a115 N_a115 H_a115 W116
    have N116 := Fr.snoc X116 N113 ge_b110
    obtain ⟨T118, h118, X118, e118, E118, A118, D118, -, st118⟩ := newO X116 hx hZ hown (hw _ (List.mem_of_getElem? (i := 1) rfl)) (hw _ (List.mem_of_getElem? (i := 2) rfl)) (hw _ (List.mem_of_getElem? (i := 3) rfl)) e116 (g := (mkF m 52 LL111 [])) rfl (hb hby at_52) (by decide) (by decide)
    have f119 := (Cac.other (Cac.other (Cac.ext pr6 E110) W113 ne_ca_b110) W116 ne_ca_b110)
    have z120 : n0 ≤ _ := (Nat.le_trans (Nat.le_trans (Nat.le_trans Z0 E110.1) (Keep.of_wr W113).1) (Keep.of_wr W116).1)
    have k121 : Keep h0 h116 [] := (Keep.wr (Keep.wr (Keep.ext (Keep.refl h0 []) E110) W113 (Or.inr sz_b110)) W116 (Or.inr sz_b110))
    obtain ⟨b118, g_b118⟩ : ∃ z, z = h116.size := ⟨_, rfl⟩
    rw [← g_b118] at A118 D118 st118
    have ne_ca_b118 : ca ≠ b118 := Nat.ne_of_lt (Nat.lt_of_lt_of_le f119.lt (Nat.le_of_eq g_b118.symm))
    have ne_b110_b118 : b110 ≠ b118 := Nat.ne_of_lt (Nat.lt_of_lt_of_le V116.lt (Nat.le_of_eq g_b118.symm))
    have ge_b118 : n0 ≤ b118 := Nat.le_trans z120 (Nat.le_of_eq g_b118.symm)
    have sz_b118 : h0.size ≤ b118 := Nat.le_trans k121.1 (Nat.le_of_eq g_b118.symm)
    have F118_27 : Fld Z h118 b118 "java/lang/String" "coder" "B" (.int (0 : Int32)) := D118 (Or.inr (hw _ (List.mem_of_getElem? (i := 27) rfl))) (ty := .byte) (by decide)
    have F118_29 : Fld Z h118 b118 "java/lang/String" "value" "[B" .null := D118 (Or.inr (hw _ (List.mem_of_getElem? (i := 29) rfl))) (ty := (.array .byte)) (by decide)
    have F118_191 : Fld Z h118 b118 "java/lang/String" "hash" "I" (.int (0 : Int32)) := D118 (Or.inl (hw _ (List.mem_of_getElem? (i := 191) rfl))) (ty := .int) (by decide)
    have F118_193 : Fld Z h118 b118 "java/lang/String" "hashIsZero" "Z" (.int (0 : Int32)) := D118 (Or.inl (hw _ (List.mem_of_getElem? (i := 193) rfl))) (ty := .boolean) (by decide)
    have f123 := (Car.ext V116 E118)
    have f124 := (Sta.ext E118 (Sta.wr W116 (Sta.wr W113 (Sta.ext E110 pr0))))
    have hB122 : ∀ i, 0 ≤ (f117 i).toInt ∧ (f117 i).toInt < 128 := own_fc f117 f114 _ _ h_f117 h_f114
    have hws122 : ∀ d ∈ StrChars.Road.words, d.before a0 Z = true := fun d hd => hw d ((by decide +kernel : ∀ d ∈ StrChars.Road.words, d ∈ tables_1) d hd)
    obtain ⟨cs122, hc122⟩ : ∃ z : List Int32, z = (List.range 260).map f117 := ⟨_, rfl⟩
    have lc122 : cs122.length = 260 := by rw [hc122, List.length_map, List.length_range]
    have Ac122 : Arv Z h118 b110 k110 .char (260 : Int32) (cs122.map Value.int) (.int (0 : Int32)) := by
      rw [hc122]
      exact own_carv f123
    have hl122 : ∀ c ∈ cs122, ¬ (255 : Int32) < c := by
      rw [hc122]
      exact own_hall f117 hB122
    obtain ⟨_, _, ⟨T122, L122, k122, n122⟩, -, X122, ⟨Lc122, hQ122, l122, y122, z122⟩, st122⟩ := X118.specialBack hx (y := (⟨"java/lang/String", "<init>", "([C)V"⟩ : MethodName)) rfl hown (mvT hZ (hw _ (List.mem_of_getElem? (i := 4) rfl))) (mvT hZ (hw _ (List.mem_of_getElem? (i := 5) rfl))) (mvT hZ (hw _ (List.mem_of_getElem? (i := 6) rfl))) (by decide) (StrChars.Road.backArv (W := 1) hZ hws122 (kI := 4) (hw _ (List.mem_of_getElem? (i := 2) rfl)) A118 F118_29 F118_27 Ac122 f124 pr1 (by rw [lc122]; decide) (by rw [lc122]; decide) (by rw [lc122]; decide) hl122 (by decide) (by decide)) (g := (mkF m 58 LL111 [(.ref b110), (.ref b118), (.ref b118)])) rfl (by rw [hml]; rfl) (Steps.refl _) (a := b118) (argsL := [(.ref b110)]) (rest := [(.ref b118)]) (lenOf pd_26 rfl) rfl (by show 2 * 0 + _ ≤ _; exact Nat.le_of_eq rfl) (hb hby at_58) (fun _ _ => ⟨rfl, e118, (by decide : 2 + 1 ≤ _), (by show 264 + cs122.length ≤ _; rw [lc122]; decide)⟩)
    dsimp only [Pt.U, Pt.locs, Pt.cells, Pt.slots] at X122 l122 y122 z122 st122 hQ122
    subst l122 y122 z122
    rw [lc122] at X122
    rw [hc122] at hQ122
    obtain ⟨rfl, Nq122, K122, -, E122, V122, C122, ⟨kb122, fq122, A122⟩, O122⟩ := hQ122
    have Nf122 : Fr n0 Lc122 := fun y hy => by rw [Nq122 y hy]; exact ge_b118
    have N122 := Fr.app N116 Nf122
    replace E122 : Exa Z T122.heap b118 "java/lang/String" := E122
    replace V122 : Fld Z T122.heap b118 "java/lang/String" "value" "[B" (.ref h118.size) := V122
    replace C122 : Fld Z T122.heap b118 "java/lang/String" "coder" "B" (.int (0 : Int32)) := C122
    have f125 := (Cac.ext f119 E118)
    have z126 : n0 ≤ _ := (Nat.le_trans z120 E118.1)
    have k127 : Keep h0 h118 [] := (Keep.ext k121 E118)
    obtain ⟨b122, g_b122⟩ : ∃ z, z = h118.size := ⟨_, rfl⟩
    rw [← g_b122] at V122 A122
    have ne_ca_b122 : ca ≠ b122 := Nat.ne_of_lt (Nat.lt_of_lt_of_le f125.lt (Nat.le_of_eq g_b122.symm))
    have ne_b110_b122 : b110 ≠ b122 := Nat.ne_of_lt (Nat.lt_of_lt_of_le f123.lt (Nat.le_of_eq g_b122.symm))
    have ne_b118_b122 : b118 ≠ b122 := Nat.ne_of_lt (Nat.lt_of_lt_of_le A118.lt (Nat.le_of_eq g_b122.symm))
    have ge_b122 : n0 ≤ b122 := Nat.le_trans z126 (Nat.le_of_eq g_b122.symm)
    have sz_b122 : h0.size ≤ b122 := Nat.le_trans k127.1 (Nat.le_of_eq g_b122.symm)
    have F122_hash : Fld Z T122.heap b118 "java/lang/String" "hash" "I" (.int (0 : Int32)) := O122 "java/lang/String" "hash" "I" _ F118_191 (slot_ne (Or.inl (hw _ (List.mem_of_getElem? (i := 191) rfl))) (Or.inr (hw _ (List.mem_of_getElem? (i := 29) rfl))) (by decide) (t := .int) (t' := (.array .byte)) (by decide) (by decide)) (slot_ne (Or.inl (hw _ (List.mem_of_getElem? (i := 191) rfl))) (Or.inr (hw _ (List.mem_of_getElem? (i := 27) rfl))) (by decide) (t := .int) (t' := .byte) (by decide) (by decide))
    have F122_hashIsZero : Fld Z T122.heap b118 "java/lang/String" "hashIsZero" "Z" (.int (0 : Int32)) := O122 "java/lang/String" "hashIsZero" "Z" _ F118_193 (slot_ne (Or.inl (hw _ (List.mem_of_getElem? (i := 193) rfl))) (Or.inr (hw _ (List.mem_of_getElem? (i := 29) rfl))) (by decide) (t := .boolean) (t' := (.array .byte)) (by decide) (by decide)) (slot_ne (Or.inl (hw _ (List.mem_of_getElem? (i := 193) rfl))) (Or.inr (hw _ (List.mem_of_getElem? (i := 27) rfl))) (by decide) (t := .boolean) (t' := .byte) (by decide) (by decide))
    obtain ⟨f128, h_f128⟩ : ∃ z : Nat → Int32, z = (fun i => (f117 i).toInt8.toInt32) := ⟨_, rfl⟩
    have B122 : Bar Z T122.heap b122 kb122 (260 : Int32) f128 := by
      rw [h_f128]
      exact own_sbar A122
    have Y122 := own_exab B122 fq122
    let LL129 : Array Slot := #[.val (.int p0), .val (.int p1), .val (.int p2), .val (.int p3), .val (.int p4), .val (.int i2), .val (.int (1 : Int32)), .val (.ref b110), .val (.ref b118), .unset, .unset, .unset, .unset, .unset, .unset, .unset, .unset, .unset, .unset, .unset, .unset]
    have P130 : ∀ t, Steps p.tables e below (T122.setTop (mkF m 63 LL129 [])) t → Steps p.tables e below ST t := by
      intro t kk
      refine P4 _ ?_
      show Steps p.tables e below (s₁.setTop (mkF m 8 LL3 [(.int (p4 &&& (1 : Int32)))])) _
      refine XS.ifNo X0.here hx rfl (hb hby at_8) rfl (XT.i0_eq_f c5) ?_
      show Steps p.tables e below (s₁.setTop (mkF m 11 LL3 [])) _
      refine XS.iconst X0.here hx rfl (hb hby at_11) ?_
      show Steps p.tables e below (s₁.setTop (mkF m 12 LL3 [(.int (1 : Int32))])) _
      refine XS.goto X0.here hx rfl (pc0 := 12) (pc' := 16) rfl (hb hby at_12) (by decide) (by decide) ?_
      show Steps p.tables e below (s₁.setTop (mkF m 16 LL3 [(.int (1 : Int32))])) _
      refine XS.istore X0.here hx rfl (hb hby at_16) rfl (l' := LL109) rfl ?_
      show Steps p.tables e below (s₁.setTop (mkF m 18 LL109 [])) _
      refine XS.sipush X0.here hx rfl (hb hby at_18) ?_
      show Steps p.tables e below (s₁.setTop (mkF m 21 LL109 [(.int (260 : Int32))])) _
      refine st110 _ ?_
      show Steps p.tables e below (T110.setTop (mkF m 23 LL109 [(.ref b110)])) _
      refine XS.astore X110.here hx rfl (hb hby at_23) rfl rfl (l' := LL111) rfl ?_
      show Steps p.tables e below (T110.setTop (mkF m 25 LL111 [])) _
      refine XS.aload X110.here hx rfl (hb hby at_25) rfl rfl ?_
      show Steps p.tables e below (T110.setTop (mkF m 27 LL111 [(.ref b110)])) _
      refine XS.iconst X110.here hx rfl (hb hby at_27) ?_
      show Steps p.tables e below (T110.setTop (mkF m 28 LL111 [(.int (0 : Int32)), (.ref b110)])) _
      refine XS.iload X110.here hx rfl (hb hby at_28) rfl ?_
      show Steps p.tables e below (T110.setTop (mkF m 30 LL111 [(.int p4), (.int (0 : Int32)), (.ref b110)])) _
      refine XS.iconst X110.here hx rfl (hb hby at_30) ?_
      show Steps p.tables e below (T110.setTop (mkF m 31 LL111 [(.int (1 : Int32)), (.int p4), (.int (0 : Int32)), (.ref b110)])) _
      refine XS.iushr X110.here hx rfl (hb hby at_31) rfl ?_
      show Steps p.tables e below (T110.setTop (mkF m 32 LL111 [(.int (((p4).toUInt32 >>> ((1 : Int32) &&& 31).toUInt32).toInt32)), (.int (0 : Int32)), (.ref b110)])) _
      refine XS.bipush X110.here hx rfl (hb hby at_32) ?_
      show Steps p.tables e below (T110.setTop (mkF m 34 LL111 [(.int (127 : Int32)), (.int (((p4).toUInt32 >>> ((1 : Int32) &&& 31).toUInt32).toInt32)), (.int (0 : Int32)), (.ref b110)])) _
      refine XS.iand X110.here hx rfl (hb hby at_34) rfl ?_
      show Steps p.tables e below (T110.setTop (mkF m 35 LL111 [(.int ((((p4).toUInt32 >>> ((1 : Int32) &&& 31).toUInt32).toInt32) &&& (127 : Int32))), (.int (0 : Int32)), (.ref b110)])) _
      refine XS.i2c X110.here hx rfl (hb hby at_35) rfl ?_
      show Steps p.tables e below (T110.setTop (mkF m 36 LL111 [(.int ((((((p4).toUInt32 >>> ((1 : Int32) &&& 31).toUInt32).toInt32) &&& (127 : Int32))).toUInt32.toUInt16.toUInt32.toInt32)), (.int (0 : Int32)), (.ref b110)])) _
      refine st113 _ ?_
      show Steps p.tables e below (T113.setTop (mkF m 37 LL111 [])) _
      refine XS.aload X113.here hx rfl (hb hby at_37) rfl rfl ?_
      show Steps p.tables e below (T113.setTop (mkF m 39 LL111 [(.ref b110)])) _
      refine XS.sipush X113.here hx rfl (hb hby at_39) ?_
      show Steps p.tables e below (T113.setTop (mkF m 42 LL111 [(.int (259 : Int32)), (.ref b110)])) _
      refine XS.iload X113.here hx rfl (hb hby at_42) rfl ?_
      show Steps p.tables e below (T113.setTop (mkF m 44 LL111 [(.int p4), (.int (259 : Int32)), (.ref b110)])) _
      refine XS.bipush X113.here hx rfl (hb hby at_44) ?_
      show Steps p.tables e below (T113.setTop (mkF m 46 LL111 [(.int (8 : Int32)), (.int p4), (.int (259 : Int32)), (.ref b110)])) _
      refine XS.iushr X113.here hx rfl (hb hby at_46) rfl ?_
      show Steps p.tables e below (T113.setTop (mkF m 47 LL111 [(.int (((p4).toUInt32 >>> ((8 : Int32) &&& 31).toUInt32).toInt32)), (.int (259 : Int32)), (.ref b110)])) _
      refine XS.bipush X113.here hx rfl (hb hby at_47) ?_
      show Steps p.tables e below (T113.setTop (mkF m 49 LL111 [(.int (127 : Int32)), (.int (((p4).toUInt32 >>> ((8 : Int32) &&& 31).toUInt32).toInt32)), (.int (259 : Int32)), (.ref b110)])) _
      refine XS.iand X113.here hx rfl (hb hby at_49) rfl ?_
      show Steps p.tables e below (T113.setTop (mkF m 50 LL111 [(.int ((((p4).toUInt32 >>> ((8 : Int32) &&& 31).toUInt32).toInt32) &&& (127 : Int32))), (.int (259 : Int32)), (.ref b110)])) _
      refine XS.i2c X113.here hx rfl (hb hby at_50) rfl ?_
      show Steps p.tables e below (T113.setTop (mkF m 51 LL111 [(.int ((((((p4).toUInt32 >>> ((8 : Int32) &&& 31).toUInt32).toInt32) &&& (127 : Int32))).toUInt32.toUInt16.toUInt32.toInt32)), (.int (259 : Int32)), (.ref b110)])) _
      refine st116 _ ?_
      show Steps p.tables e below (T116.setTop (mkF m 52 LL111 [])) _
      refine st118 _ ?_
      show Steps p.tables e below (T118.setTop (mkF m 55 LL111 [(.ref b118)])) _
      refine XS.dup X118.here hx rfl (hb hby at_55) rfl rfl ?_
      show Steps p.tables e below (T118.setTop (mkF m 56 LL111 [(.ref b118), (.ref b118)])) _
      refine XS.aload X118.here hx rfl (hb hby at_56) rfl rfl ?_
      show Steps p.tables e below (T118.setTop (mkF m 58 LL111 [(.ref b110), (.ref b118), (.ref b118)])) _
      refine st122.trans ?_
      show Steps p.tables e below (T122.setTop (mkF m 61 LL111 [(.ref b118)])) _
      refine XS.astore X122.here hx rfl (hb hby at_61) rfl rfl (l' := LL129) rfl ?_
      show Steps p.tables e below (T122.setTop (mkF m 63 LL129 [])) _
      exact kk
    obtain ⟨j131, h_j131⟩ : ∃ z : Int64, z = (((p1 &&& (16383 : Int32))).toInt64) := ⟨_, rfl⟩
    let LL132 : Array Slot := #[.val (.int p0), .val (.int p1), .val (.int p2), .val (.int p3), .val (.int p4), .val (.int i2), .val (.int (1 : Int32)), .val (.ref b110), .val (.ref b118), .val (.long j131), .second, .unset, .unset, .unset, .unset, .unset, .unset, .unset, .unset, .unset, .unset]
    obtain ⟨j133, h_j133⟩ : ∃ z : Int64, z = (((p2 &&& (16383 : Int32))).toInt64) := ⟨_, rfl⟩
    let LL134 : Array Slot := #[.val (.int p0), .val (.int p1), .val (.int p2), .val (.int p3), .val (.int p4), .val (.int i2), .val (.int (1 : Int32)), .val (.ref b110), .val (.ref b118), .val (.long j131), .second, .val (.long j133), .second, .unset, .unset, .unset, .unset, .unset, .unset, .unset, .unset]
    obtain ⟨j135, h_j135⟩ : ∃ z : Int64, z = (((p3 % (8192 : Int32))).toInt64) := ⟨_, rfl⟩
    let LL136 : Array Slot := #[.val (.int p0), .val (.int p1), .val (.int p2), .val (.int p3), .val (.int p4), .val (.int i2), .val (.int (1 : Int32)), .val (.ref b110), .val (.ref b118), .val (.long j131), .second, .val (.long j133), .second, .val (.long j135), .second, .unset, .unset, .unset, .unset, .unset, .unset]
    have P137 : ∀ t, Steps p.tables e below (T122.setTop (mkF m 91 LL136 [(.int (XT.cmpL j135 (0 : Int64)))])) t → Steps p.tables e below ST t := by
      intro t kk
      refine P130 _ ?_
      show Steps p.tables e below (T122.setTop (mkF m 63 LL129 [])) _
      refine XS.iloadN X122.here hx rfl (hb hby at_63) rfl ?_
      show Steps p.tables e below (T122.setTop (mkF m 64 LL129 [(.int p1)])) _
      refine XS.sipush X122.here hx rfl (hb hby at_64) ?_
      show Steps p.tables e below (T122.setTop (mkF m 67 LL129 [(.int (16383 : Int32)), (.int p1)])) _
      refine XS.iand X122.here hx rfl (hb hby at_67) rfl ?_
      show Steps p.tables e below (T122.setTop (mkF m 68 LL129 [(.int (p1 &&& (16383 : Int32)))])) _
      refine XS.i2l X122.here hx rfl (hb hby at_68) rfl ?_
      show Steps p.tables e below (T122.setTop (mkF m 69 LL129 [(.long (((p1 &&& (16383 : Int32))).toInt64))])) _
      rw [← h_j131]
      show Steps p.tables e below (T122.setTop (mkF m 69 LL129 [(.long j131)])) _
      refine XS.lstore X122.here hx rfl (hb hby at_69) rfl (l' := LL132) rfl ?_
      show Steps p.tables e below (T122.setTop (mkF m 71 LL132 [])) _
      refine XS.iloadN X122.here hx rfl (hb hby at_71) rfl ?_
      show Steps p.tables e below (T122.setTop (mkF m 72 LL132 [(.int p2)])) _
      refine XS.sipush X122.here hx rfl (hb hby at_72) ?_
      show Steps p.tables e below (T122.setTop (mkF m 75 LL132 [(.int (16383 : Int32)), (.int p2)])) _
      refine XS.iand X122.here hx rfl (hb hby at_75) rfl ?_
      show Steps p.tables e below (T122.setTop (mkF m 76 LL132 [(.int (p2 &&& (16383 : Int32)))])) _
      refine XS.i2l X122.here hx rfl (hb hby at_76) rfl ?_
      show Steps p.tables e below (T122.setTop (mkF m 77 LL132 [(.long (((p2 &&& (16383 : Int32))).toInt64))])) _
      rw [← h_j133]
      show Steps p.tables e below (T122.setTop (mkF m 77 LL132 [(.long j133)])) _
      refine XS.lstore X122.here hx rfl (hb hby at_77) rfl (l' := LL134) rfl ?_
      show Steps p.tables e below (T122.setTop (mkF m 79 LL134 [])) _
      refine XS.iloadN X122.here hx rfl (hb hby at_79) rfl ?_
      show Steps p.tables e below (T122.setTop (mkF m 80 LL134 [(.int p3)])) _
      refine XS.sipush X122.here hx rfl (hb hby at_80) ?_
      show Steps p.tables e below (T122.setTop (mkF m 83 LL134 [(.int (8192 : Int32)), (.int p3)])) _
      refine iremM (g := (mkF m 83 #[.val (.int p0), .val (.int p1), .val (.int p2), .val (.int p3), .val (.int p4), .val (.int i2), .val (.int (1 : Int32)), .val (.ref b110), .val (.ref b118), .val (.long j131), .second, .val (.long j133), .second, .unset, .unset, .unset, .unset, .unset, .unset, .unset, .unset] [(.int (8192 : Int32)), (.int p3)])) X122 hx rfl (hb hby at_83) rfl (by decide) ?_
      show Steps p.tables e below (T122.setTop (mkF m 84 LL134 [(.int (p3 % (8192 : Int32)))])) _
      refine XS.i2l X122.here hx rfl (hb hby at_84) rfl ?_
      show Steps p.tables e below (T122.setTop (mkF m 85 LL134 [(.long (((p3 % (8192 : Int32))).toInt64))])) _
      rw [← h_j135]
      show Steps p.tables e below (T122.setTop (mkF m 85 LL134 [(.long j135)])) _
      refine XS.lstore X122.here hx rfl (hb hby at_85) rfl (l' := LL136) rfl ?_
      show Steps p.tables e below (T122.setTop (mkF m 87 LL136 [])) _
      refine XS.lload X122.here hx rfl (hb hby at_87) rfl ?_
      show Steps p.tables e below (T122.setTop (mkF m 89 LL136 [(.long j135)])) _
      refine XS.lconst X122.here hx rfl (hb hby at_89) ?_
      show Steps p.tables e below (T122.setTop (mkF m 90 LL136 [(.long (0 : Int64)), (.long j135)])) _
      refine XT.lcmp X122.here hx rfl (hb hby at_90) rfl ?_
      show Steps p.tables e below (T122.setTop (mkF m 91 LL136 [(.int (XT.cmpL j135 (0 : Int64)))])) _
      exact kk
    obtain ⟨j138, h_j138, P139⟩ : ∃ (j138 : Int64), j138 = (if j135 < (0 : Int64) then (((-2 : Int64) * j135) - (1 : Int64)) else ((2 : Int64) * j135)) ∧ ∀ t, Steps p.tables e below (T122.setTop (mkF m 111 #[.val (.int p0), .val (.int p1), .val (.int p2), .val (.int p3), .val (.int p4), .val (.int i2), .val (.int (1 : Int32)), .val (.ref b110), .val (.ref b118), .val (.long j131), .second, .val (.long j133), .second, .val (.long j135), .second, .unset, .unset, .unset, .unset, .unset, .unset] [(.long j138)])) t → Steps p.tables e below ST t := by
      by_cases c140 : j135 < (0 : Int64)
      · skip
        refine ⟨(((-2 : Int64) * j135) - (1 : Int64)), ((if_pos c140).trans rfl).symm, fun t kk => P137 t ?_⟩
        show Steps p.tables e below (T122.setTop (mkF m 91 LL136 [(.int (XT.cmpL j135 (0 : Int64)))])) _
        refine XS.ifYes X122.here hx rfl (pc0 := 91) (pc' := 103) rfl (hb hby at_91) rfl (XT.ll_lt_t c140) (by decide) (by decide) ?_
        show Steps p.tables e below (T122.setTop (mkF m 103 LL136 [])) _
        refine X122.ldc2Long hx hown (mvT hZ (hw _ (List.mem_of_getElem? (i := 257) rfl))) (g := (mkF m 103 LL136 [])) rfl (hb hby at_103) _ ?_
        show Steps p.tables e below (T122.setTop (mkF m 106 LL136 [(.long (-2 : Int64))])) _
        refine XS.lload X122.here hx rfl (hb hby at_106) rfl ?_
        show Steps p.tables e below (T122.setTop (mkF m 108 LL136 [(.long j135), (.long (-2 : Int64))])) _
        refine XS.lmul X122.here hx rfl (hb hby at_108) rfl ?_
        show Steps p.tables e below (T122.setTop (mkF m 109 LL136 [(.long ((-2 : Int64) * j135))])) _
        refine XS.lconst X122.here hx rfl (hb hby at_109) ?_
        show Steps p.tables e below (T122.setTop (mkF m 110 LL136 [(.long (1 : Int64)), (.long ((-2 : Int64) * j135))])) _
        refine XS.lsub X122.here hx rfl (hb hby at_110) rfl ?_
        show Steps p.tables e below (T122.setTop (mkF m 111 LL136 [(.long (((-2 : Int64) * j135) - (1 : Int64)))])) _
        exact kk
      · skip
        refine ⟨((2 : Int64) * j135), ((if_neg c140).trans rfl).symm, fun t kk => P137 t ?_⟩
        show Steps p.tables e below (T122.setTop (mkF m 91 LL136 [(.int (XT.cmpL j135 (0 : Int64)))])) _
        refine XS.ifNo X122.here hx rfl (hb hby at_91) rfl (XT.ll_lt_f c140) ?_
        show Steps p.tables e below (T122.setTop (mkF m 94 LL136 [])) _
        refine X122.ldc2Long hx hown (mvT hZ (hw _ (List.mem_of_getElem? (i := 30) rfl))) (g := (mkF m 94 LL136 [])) rfl (hb hby at_94) _ ?_
        show Steps p.tables e below (T122.setTop (mkF m 97 LL136 [(.long (2 : Int64))])) _
        refine XS.lload X122.here hx rfl (hb hby at_97) rfl ?_
        show Steps p.tables e below (T122.setTop (mkF m 99 LL136 [(.long j135), (.long (2 : Int64))])) _
        refine XS.lmul X122.here hx rfl (hb hby at_99) rfl ?_
        show Steps p.tables e below (T122.setTop (mkF m 100 LL136 [(.long ((2 : Int64) * j135))])) _
        refine XS.goto X122.here hx rfl (pc0 := 100) (pc' := 111) rfl (hb hby at_100) (by decide) (by decide) ?_
        show Steps p.tables e below (T122.setTop (mkF m 111 LL136 [(.long ((2 : Int64) * j135))])) _
        exact kk
    let LL141 : Array Slot := #[.val (.int p0), .val (.int p1), .val (.int p2), .val (.int p3), .val (.int p4), .val (.int i2), .val (.int (1 : Int32)), .val (.ref b110), .val (.ref b118), .val (.long j131), .second, .val (.long j133), .second, .val (.long j135), .second, .val (.long j138), .second, .unset, .unset, .unset, .unset]
    obtain ⟨T142, h142, X142, e142, E142, A142, D142, -, st142⟩ := newO X122 hx hZ hown (hw _ (List.mem_of_getElem? (i := 31) rfl)) (hw _ (List.mem_of_getElem? (i := 32) rfl)) (hw _ (List.mem_of_getElem? (i := 33) rfl)) rfl (g := (mkF m 113 LL141 [])) rfl (hb hby at_113) (by decide) (by decide)
    have f143 := (Cac.keep f125 K122 (ninS ne_ca_b118 nin0))
    have f144 := (Car.keep f123 K122 (ninS ne_b110_b118 nin0))
    have z145 : n0 ≤ _ := (Nat.le_trans z126 K122.1)
    have k146 : Keep h0 T122.heap [] := (Keep.trans k127 K122 (allS (Or.inr sz_b118) all0))
    obtain ⟨b142, g_b142⟩ : ∃ z, z = T122.heap.size := ⟨_, rfl⟩
    rw [← g_b142] at A142 D142 st142
    have ne_ca_b142 : ca ≠ b142 := Nat.ne_of_lt (Nat.lt_of_lt_of_le f143.lt (Nat.le_of_eq g_b142.symm))
    have ne_b110_b142 : b110 ≠ b142 := Nat.ne_of_lt (Nat.lt_of_lt_of_le f144.lt (Nat.le_of_eq g_b142.symm))
    have ne_b118_b142 : b118 ≠ b142 := Nat.ne_of_lt (Nat.lt_of_lt_of_le E122.lt (Nat.le_of_eq g_b142.symm))
    have ne_b122_b142 : b122 ≠ b142 := Nat.ne_of_lt (Nat.lt_of_lt_of_le B122.lt (Nat.le_of_eq g_b142.symm))
    have ge_b142 : n0 ≤ b142 := Nat.le_trans z145 (Nat.le_of_eq g_b142.symm)
    have sz_b142 : h0.size ≤ b142 := Nat.le_trans k146.1 (Nat.le_of_eq g_b142.symm)
    have F142_39 : Fld Z h142 b142 "com/example/meterwright/meterwright/RecordBody$Writer" "bytes" "[B" .null := D142 (Or.inl (hw _ (List.mem_of_getElem? (i := 39) rfl))) (ty := (.array .byte)) (by decide)
    have F142_57 : Fld Z h142 b142 "com/example/meterwright/meterwright/RecordBody$Writer" "texts" "Ljava/util/Map;" .null := D142 (Or.inr (hw _ (List.mem_of_getElem? (i := 57) rfl))) (ty := (.object "java/util/Map")) (by decide)
    have F142_63 : Fld Z h142 b142 "com/example/meterwright/meterwright/RecordBody$Writer" "size" "I" (.int (0 : Int32)) := D142 (Or.inl (hw _ (List.mem_of_getElem? (i := 63) rfl))) (ty := .int) (by decide)
    have z148 : n0 ≤ _ := (Nat.le_trans z145 E142.1)
    obtain ⟨_, _, ⟨T147, L147, k147, n147⟩, -, X147, ⟨Lc147, hQ147, l147, y147, z147⟩, st147⟩ := X142.specialBack hx (y := (⟨"com/example/meterwright/meterwright/RecordBody$Writer", "<init>", "(B)V"⟩ : MethodName)) rfl hown (mvT hZ (hw _ (List.mem_of_getElem? (i := 34) rfl))) (mvT hZ (hw _ (List.mem_of_getElem? (i := 35) rfl))) (mvT hZ (hw _ (List.mem_of_getElem? (i := 36) rfl))) (by decide) (backOf (W := 1) (rm12 l Z a0 hw [] b142 i2 h142 n0 z148 A142 F142_39 F142_63 F142_57 ge_b142) hZ (hw _ (List.mem_of_getElem? (i := 36) rfl)) (hw _ (List.mem_of_getElem? (i := 33) rfl)) (by decide) (by decide)) (g := (mkF m 119 LL141 [(.int i2), (.ref b142), (.ref b142)])) rfl (by rw [hml]; rfl) (Steps.refl _) (a := b142) (argsL := [(.int i2)]) (rest := [(.ref b142)]) (lenOf pd_27 rfl) rfl (by show 2 * 0 + _ ≤ _; exact Nat.le_of_eq rfl) (hb hby at_119) (fun _ _ => ⟨rfl, e142, (by decide : 4 + 2 ≤ _), (by decide : 528 + 264 ≤ _)⟩)
    dsimp only [Pt.U, Pt.locs, Pt.cells, Pt.slots] at X147 l147 y147 z147 st147 hQ147
    subst l147 y147 z147
    have f149 := (Cac.ext f143 E142)
    have f150 := (Car.ext f144 E142)
    have f151 := (Exa.ext E142 E122)
    have f152 := (Bar.ext B122 E142)
    have k153 : Keep h0 h142 [] := (Keep.ext k146 E142)
    obtain ⟨b_147, tm_147, k_147, rfl, Nq147, K147, q147_0, q147_1, q147_2, q147_3, q147_4, q147_5, q147_6, q147_7, q147_8, q147_9, q147_10, q147_11, q147_12⟩ := hQ147
    have N147 := Fr.app N122 Nq147
    obtain ⟨f154, h_f154⟩ : ∃ z : Nat → Int32, z = (own_i i2) := ⟨_, rfl⟩
    rw [← h_f154] at q147_3
    have ne_ca_b_147 : ca ≠ b_147 := Nat.ne_of_lt (Nat.lt_of_lt_of_le f149.lt q147_10)
    have ne_b110_b_147 : b110 ≠ b_147 := Nat.ne_of_lt (Nat.lt_of_lt_of_le f150.lt q147_10)
    have ne_b118_b_147 : b118 ≠ b_147 := Nat.ne_of_lt (Nat.lt_of_lt_of_le f151.lt q147_10)
    have ne_b122_b_147 : b122 ≠ b_147 := Nat.ne_of_lt (Nat.lt_of_lt_of_le f152.lt q147_10)
    have ne_b142_b_147 : b142 ≠ b_147 := Nat.ne_of_lt (Nat.lt_of_lt_of_le A142.lt q147_10)
    have ge_b_147 : n0 ≤ b_147 := Nat.le_trans z148 q147_10
    have sz_b_147 : h0.size ≤ b_147 := Nat.le_trans k153.1 q147_10
    have ne_ca_tm_147 : ca ≠ tm_147 := Nat.ne_of_lt (Nat.lt_of_lt_of_le f149.lt q147_11)
    have ne_b110_tm_147 : b110 ≠ tm_147 := Nat.ne_of_lt (Nat.lt_of_lt_of_le f150.lt q147_11)
    have ne_b118_tm_147 : b118 ≠ tm_147 := Nat.ne_of_lt (Nat.lt_of_lt_of_le f151.lt q147_11)
    have ne_b122_tm_147 : b122 ≠ tm_147 := Nat.ne_of_lt (Nat.lt_of_lt_of_le f152.lt q147_11)
    have ne_b142_tm_147 : b142 ≠ tm_147 := Nat.ne_of_lt (Nat.lt_of_lt_of_le A142.lt q147_11)
    have ge_tm_147 : n0 ≤ tm_147 := Nat.le_trans z148 q147_11
    have sz_tm_147 : h0.size ≤ tm_147 := Nat.le_trans k153.1 q147_11
    let LL155 : Array Slot := #[.val (.int p0), .val (.int p1), .val (.int p2), .val (.int p3), .val (.int p4), .val (.int i2), .val (.int (1 : Int32)), .val (.ref b110), .val (.ref b118), .val (.long j131), .second, .val (.long j133), .second, .val (.long j135), .second, .val (.long j138), .second, .val (.ref b142), .unset, .unset, .unset]
    have f157 := (Exa.keep A142 K147)
    have z158 : n0 ≤ _ := (Nat.le_trans z148 K147.1)
    obtain ⟨cq156, kq156, q156a, q156b, q156c⟩ := isOf hZ rfl f157
    obtain ⟨_, _, ⟨T156, L156, k156, n156⟩, -, X156, ⟨Lc156, hQ156, l156, y156, z156⟩, st156⟩ := X147.virtualBack hx (y := (⟨"com/example/meterwright/meterwright/RecordBody$Writer", "toByteArray", "()[B"⟩ : MethodName)) (z := (⟨"com/example/meterwright/meterwright/RecordBody$Writer", "toByteArray", "()[B"⟩ : MethodName)) hown (mvT hZ (hw _ (List.mem_of_getElem? (i := 64) rfl))) (mvT hZ (hw _ (List.mem_of_getElem? (i := 65) rfl))) (notFace_of_selects (args := #[]) (mvT hZ (hw _ (List.mem_of_getElem? (i := 67) rfl)))) (mvT hZ (hw _ (List.mem_of_getElem? (i := 67) rfl))) (mvT hZ (hw _ (List.mem_of_getElem? (i := 66) rfl))) (by decide) (backOf (W := 0) (rm11 l Z a0 hw [] b142 b_147 k_147 (256 : Int32) f154 (1 : Int32) T147.heap n0 z158 f157 q147_0 q147_1 q147_3 (by decide) (by decide) (by decide)) hZ (hw _ (List.mem_of_getElem? (i := 68) rfl)) (hw _ (List.mem_of_getElem? (i := 33) rfl)) (by decide) (by decide)) q156a q156c (g := (mkF m 126 LL155 [(.ref b142)])) rfl (by rw [hml]; rfl) (Steps.refl _) (argsL := []) (rest := []) (lenOf pd_28 rfl) rfl (by show 2 * 0 + _ ≤ _; exact Nat.le_of_eq rfl) (hb hby at_126) (fun _ _ => ⟨rfl, rfl, (by decide : 6 + 1 ≤ _), (by decide : 792 + 600 ≤ _)⟩)
    dsimp only [Pt.U, Pt.locs, Pt.cells, Pt.slots] at X156 l156 y156 z156 st156 hQ156
    subst l156 y156 z156
    have f159 := (Cac.keep f149 K147 (ninS ne_ca_b142 nin0))
    have f160 := (Car.keep f150 K147 (ninS ne_b110_b142 nin0))
    have f161 := (Exa.keep f151 K147)
    have f162 := (Bar.keep f152 K147 (ninS ne_b122_b142 nin0))
    have k163 : Keep h0 T147.heap [] := (Keep.trans k153 K147 (allS (Or.inr sz_b142) all0))
    obtain ⟨r_156, kr_156, rfl, Nq156, K156, q156_0, q156_1⟩ := hQ156
    have N156 := Fr.app N147 Nq156
    obtain ⟨f164, h_f164⟩ : ∃ z : Nat → Int32, z = (own_cp (256 : Int32) (1 : Int32) f154) := ⟨_, rfl⟩
    rw [← h_f164] at q156_0
    have ne_ca_r_156 : ca ≠ r_156 := Nat.ne_of_lt (Nat.lt_of_lt_of_le f159.lt q156_1)
    have ne_b110_r_156 : b110 ≠ r_156 := Nat.ne_of_lt (Nat.lt_of_lt_of_le f160.lt q156_1)
    have ne_b118_r_156 : b118 ≠ r_156 := Nat.ne_of_lt (Nat.lt_of_lt_of_le f161.lt q156_1)
    have ne_b122_r_156 : b122 ≠ r_156 := Nat.ne_of_lt (Nat.lt_of_lt_of_le f162.lt q156_1)
    have ne_b142_r_156 : b142 ≠ r_156 := Nat.ne_of_lt (Nat.lt_of_lt_of_le f157.lt q156_1)
    have ne_b_147_r_156 : b_147 ≠ r_156 := Nat.ne_of_lt (Nat.lt_of_lt_of_le q147_3.lt q156_1)
    have ne_tm_147_r_156 : tm_147 ≠ r_156 := Nat.ne_of_lt (Nat.lt_of_lt_of_le q147_4.lt q156_1)
    have ge_r_156 : n0 ≤ r_156 := Nat.le_trans z158 q156_1
    have sz_r_156 : h0.size ≤ r_156 := Nat.le_trans k163.1 q156_1
    let LL165 : Array Slot := #[.val (.int p0), .val (.int p1), .val (.int p2), .val (.int p3), .val (.int p4), .val (.int i2), .val (.int (1 : Int32)), .val (.ref b110), .val (.ref b118), .val (.long j131), .second, .val (.long j133), .second, .val (.long j135), .second, .val (.long j138), .second, .val (.ref b142), .val (.ref r_156), .unset, .unset]
    obtain ⟨cl_a166, Ar_a166, q_a166, S_a166, N_a166, H_a166⟩ := id q156_0
    obtain ⟨cl_a167, Ar_a167, q_a167, S_a167, N_a167, H_a167⟩ := id q156_0
    have hin_a167 : ¬ ((0 : Int32) < 0 ∨ cl_a167.slots.size ≤ ((0 : Int32)).toNatClampNeg) := inb_of S_a167 ⟨by decide, by decide⟩
    have hat_a167 : cl_a167.slots[((0 : Int32)).toNatClampNeg]? = some (.int (f164 ((0 : Int32)).toNatClampNeg)) := (H_a167 _ (Nat.lt_of_not_le fun q => hin_a167 (Or.inr q))).1
    obtain ⟨cl_a168, Ar_a168, q_a168, S_a168, N_a168, H_a168⟩ := id q156_0
    have hin_a168 : ¬ ((0 : Int32) < 0 ∨ cl_a168.slots.size ≤ ((0 : Int32)).toNatClampNeg) := inb_of S_a168 ⟨by decide, by decide⟩
    obtain ⟨T169, h169, X169, e169, W169, st169⟩ := stB X156 hx hZ rfl Ar_a168 (j := (0 : Int32)) hin_a168 (g := (mkF m 157 LL165 [(.int (((i2 ^^^ (1 : Int32))).toInt8.toInt32)), (.int (0 : Int32)), (.ref r_156)])) rfl rfl (hb hby at_157)
    have V169 := Bar.set Ar_a168 q_a168 S_a168 N_a168 H_a168 W169
    have N169 := Fr.snoc X169 N156 ge_r_156
    let LL170 : Array Slot := #[.val (.int p0), .val (.int p1), .val (.int p2), .val (.int p3), .val (.int p4), .val (.int i2), .val (.int (1 : Int32)), .val (.ref b110), .val (.ref b118), .val (.long j131), .second, .val (.long j133), .second, .val (.long j135), .second, .val (.long j138), .second, .val (.ref b142), .val (.ref r_156), .val (.int (1 : Int32)), .unset]
    have P171 : ∀ t, Steps p.tables e below (T169.setTop (mkF m 168 LL170 [(.ref b142)])) t → Steps p.tables e below ST t := by
      intro t kk
      refine P139 _ ?_
      show Steps p.tables e below (T122.setTop (mkF m 111 LL136 [(.long j138)])) _
      refine XS.lstore X122.here hx rfl (hb hby at_111) rfl (l' := LL141) rfl ?_
      show Steps p.tables e below (T122.setTop (mkF m 113 LL141 [])) _
      refine st142 _ ?_
      show Steps p.tables e below (T142.setTop (mkF m 116 LL141 [(.ref b142)])) _
      refine XS.dup X142.here hx rfl (hb hby at_116) rfl rfl ?_
      show Steps p.tables e below (T142.setTop (mkF m 117 LL141 [(.ref b142), (.ref b142)])) _
      refine XS.iload X142.here hx rfl (hb hby at_117) rfl ?_
      show Steps p.tables e below (T142.setTop (mkF m 119 LL141 [(.int i2), (.ref b142), (.ref b142)])) _
      refine st147.trans ?_
      show Steps p.tables e below (T147.setTop (mkF m 122 LL141 [(.ref b142)])) _
      refine XS.astore X147.here hx rfl (hb hby at_122) rfl rfl (l' := LL155) rfl ?_
      show Steps p.tables e below (T147.setTop (mkF m 124 LL155 [])) _
      refine XS.aload X147.here hx rfl (hb hby at_124) rfl rfl ?_
      show Steps p.tables e below (T147.setTop (mkF m 126 LL155 [(.ref b142)])) _
      refine st156.trans ?_
      show Steps p.tables e below (T156.setTop (mkF m 129 LL155 [(.ref r_156)])) _
      refine XS.astore X156.here hx rfl (hb hby at_129) rfl rfl (l' := LL165) rfl ?_
      show Steps p.tables e below (T156.setTop (mkF m 131 LL165 [])) _
      refine XS.aload X156.here hx rfl (hb hby at_131) rfl rfl ?_
      show Steps p.tables e below (T156.setTop (mkF m 133 LL165 [(.ref r_156)])) _
      refine X156.arraylength hx (Ar_a166.1) (State.isArrayOf_alike hZ.alike Ar_a166.2.1) (g := (mkF m 133 LL165 [(.ref r_156)])) rfl rfl (hb hby at_133) _ ?_
      rw [len_of S_a166 N_a166]
      show Steps p.tables e below (T156.setTop (mkF m 134 LL165 [(.int (1 : Int32))])) _
      refine XS.iconst X156.here hx rfl (hb hby at_134) ?_
      show Steps p.tables e below (T156.setTop (mkF m 135 LL165 [(.int (1 : Int32)), (.int (1 : Int32))])) _
      refine XS.icmpNo X156.here hx rfl (hb hby at_135) rfl (XT.ii_ne_f rfl) ?_
      show Steps p.tables e below (T156.setTop (mkF m 138 LL165 [])) _
      refine XS.aload X156.here hx rfl (hb hby at_138) rfl rfl ?_
      show Steps p.tables e below (T156.setTop (mkF m 140 LL165 [(.ref r_156)])) _
      refine XS.iconst X156.here hx rfl (hb hby at_140) ?_
      show Steps p.tables e below (T156.setTop (mkF m 141 LL165 [(.int (0 : Int32)), (.ref r_156)])) _
      refine X156.baloadBytes hx (j := (0 : Int32)) (v := (.int (f164 ((0 : Int32)).toNatClampNeg))) (Ar_a167.1) (State.isArrayOf_alike hZ.alike Ar_a167.2.1) Ar_a167.2.2 hin_a167 hat_a167 (g := (mkF m 141 LL165 [(.int (0 : Int32)), (.ref r_156)])) rfl rfl (hb hby at_141) _ ?_
      show Steps p.tables e below (T156.setTop (mkF m 142 LL165 [(.int (f164 ((0 : Int32)).toNatClampNeg))])) _
      refine XS.iload X156.here hx rfl (hb hby at_142) rfl ?_
      show Steps p.tables e below (T156.setTop (mkF m 144 LL165 [(.int i2), (.int (f164 ((0 : Int32)).toNatClampNeg))])) _
      refine XS.icmpYes X156.here hx rfl (pc0 := 144) (pc' := 149) rfl (hb hby at_144) rfl (XT.ii_eq_t ((congrFun h_f164 (((0 : Int32)).toNatClampNeg)).trans ((own_cp_at _ _ _ _ (by decide) (by decide)).trans ((congrFun h_f154 (((0 : Int32)).toNatClampNeg)).trans (own_i_at i2 p0 h_i2))))) (by decide) (by decide) ?_
      show Steps p.tables e below (T156.setTop (mkF m 149 LL165 [])) _
      refine XS.aload X156.here hx rfl (hb hby at_149) rfl rfl ?_
      show Steps p.tables e below (T156.setTop (mkF m 151 LL165 [(.ref r_156)])) _
      refine XS.iconst X156.here hx rfl (hb hby at_151) ?_
      show Steps p.tables e below (T156.setTop (mkF m 152 LL165 [(.int (0 : Int32)), (.ref r_156)])) _
      refine XS.iload X156.here hx rfl (hb hby at_152) rfl ?_
      show Steps p.tables e below (T156.setTop (mkF m 154 LL165 [(.int i2), (.int (0 : Int32)), (.ref r_156)])) _
      refine XS.iconst X156.here hx rfl (hb hby at_154) ?_
      show Steps p.tables e below (T156.setTop (mkF m 155 LL165 [(.int (1 : Int32)), (.int i2), (.int (0 : Int32)), (.ref r_156)])) _
      refine XS.ixor X156.here hx rfl (hb hby at_155) rfl ?_
      show Steps p.tables e below (T156.setTop (mkF m 156 LL165 [(.int (i2 ^^^ (1 : Int32))), (.int (0 : Int32)), (.ref r_156)])) _
      refine XS.i2b X156.here hx rfl (hb hby at_156) rfl ?_
      show Steps p.tables e below (T156.setTop (mkF m 157 LL165 [(.int (((i2 ^^^ (1 : Int32))).toInt8.toInt32)), (.int (0 : Int32)), (.ref r_156)])) _
      refine st169 _ ?_
      show Steps p.tables e below (T169.setTop (mkF m 158 LL165 [])) _
      refine XS.iconst X169.here hx rfl (hb hby at_158) ?_
      show Steps p.tables e below (T169.setTop (mkF m 159 LL165 [(.int (1 : Int32))])) _
      refine XS.istore X169.here hx rfl (hb hby at_159) rfl (l' := LL170) rfl ?_
      show Steps p.tables e below (T169.setTop (mkF m 161 LL170 [])) _
      refine XS.iload X169.here hx rfl (hb hby at_161) rfl ?_
      show Steps p.tables e below (T169.setTop (mkF m 163 LL170 [(.int (1 : Int32))])) _
      refine XS.ifNo X169.here hx rfl (hb hby at_163) rfl (XT.i0_eq_f (by decide)) ?_
      show Steps p.tables e below (T169.setTop (mkF m 166 LL170 [])) _
      refine XS.aload X169.here hx rfl (hb hby at_166) rfl rfl ?_
      show Steps p.tables e below (T169.setTop (mkF m 168 LL170 [(.ref b142)])) _
      exact kk
    have f173 := (Exa.wr W169 (Exa.keep f157 K156))
    have f174 := (Fld.other W169 (Fld.keep q147_0 K156 nin0) (Or.inl ne_b142_r_156))
    have f175 := (Fld.other W169 (Fld.keep q147_1 K156 nin0) (Or.inl ne_b142_r_156))
    have f176 := (Fld.other W169 (Fld.keep q147_2 K156 nin0) (Or.inl ne_b142_r_156))
    have f177 := (Bar.other (Bar.keep q147_3 K156 nin0) W169 ne_b_147_r_156)
    have f178 := (Exa.wr W169 (Exa.keep q147_4 K156))
    have f179 := (Fld.other W169 (Fld.keep q147_5 K156 nin0) (Or.inl ne_tm_147_r_156))
    have f180 := (Fld.other W169 (Fld.keep q147_6 K156 nin0) (Or.inl ne_tm_147_r_156))
    have f181 := (Fld.other W169 (Fld.keep q147_7 K156 nin0) (Or.inl ne_tm_147_r_156))
    have f182 := (Fld.other W169 (Fld.keep q147_8 K156 nin0) (Or.inl ne_tm_147_r_156))
    have f183 := (Fld.other W169 (Fld.keep q147_9 K156 nin0) (Or.inl ne_tm_147_r_156))
    have f184 := (Exa.wr W169 (Exa.keep f161 K156))
    have f185 := (Fld.other W169 (Fld.keep (Fld.keep (Fld.ext E142 C122) K147 (ninS ne_b118_b142 nin0)) K156 nin0) (Or.inl ne_b118_r_156))
    have f186 := (Fld.other W169 (Fld.keep (Fld.keep (Fld.ext E142 V122) K147 (ninS ne_b118_b142 nin0)) K156 nin0) (Or.inl ne_b118_r_156))
    have f187 := (Fld.other W169 (Fld.keep (Fld.keep (Fld.ext E142 F122_hash) K147 (ninS ne_b118_b142 nin0)) K156 nin0) (Or.inl ne_b118_r_156))
    have f188 := (Fld.other W169 (Fld.keep (Fld.keep (Fld.ext E142 F122_hashIsZero) K147 (ninS ne_b118_b142 nin0)) K156 nin0) (Or.inl ne_b118_r_156))
    have f189 := (Bar.other (Bar.keep f162 K156 nin0) W169 ne_b122_r_156)
    have f190 := (Exa.wr W169 (Exa.keep (Exa.keep (Exa.ext E142 Y122) K147) K156))
    have f191 := (Sta.wr W169 (own_sta_keep0 (own_sta_keep1 (Sta.ext E142 (own_sta_keep1 f124 K122 A118)) K147 A142) K156 ))
    have f192 := (Sta.wr W169 (own_sta_keep0 (own_sta_keep1 (Sta.ext E142 (own_sta_keep1 (Sta.ext E118 (Sta.wr W116 (Sta.wr W113 (Sta.ext E110 pr2)))) K122 A118)) K147 A142) K156 ))
    have f193 := (Sta.wr W169 (own_sta_keep0 (own_sta_keep1 (Sta.ext E142 (own_sta_keep1 (Sta.ext E118 (Sta.wr W116 (Sta.wr W113 (Sta.ext E110 pr3)))) K122 A118)) K147 A142) K156 ))
    have f194 := (Sta.wr W169 (own_sta_keep0 (own_sta_keep1 (Sta.ext E142 (own_sta_keep1 (Sta.ext E118 (Sta.wr W116 (Sta.wr W113 (Sta.ext E110 pr4)))) K122 A118)) K147 A142) K156 ))
    have f195 := (Sta.wr W169 (own_sta_keep0 (own_sta_keep1 (Sta.ext E142 (own_sta_keep1 (Sta.ext E118 (Sta.wr W116 (Sta.wr W113 (Sta.ext E110 pr5)))) K122 A118)) K147 A142) K156 ))
    have f196 := (Cac.other (Cac.keep f159 K156 nin0) W169 ne_ca_r_156)
    have z197 : n0 ≤ _ := (Nat.le_trans (Nat.le_trans z158 K156.1) (Keep.of_wr W169).1)
    obtain ⟨cq172, kq172, q172a, q172b, q172c⟩ := isOf hZ e169 f173
    obtain ⟨_, _, ⟨T172, L172, k172, n172⟩, -, X172, ⟨Lc172, hQ172, l172, y172, z172⟩, st172⟩ := X169.virtualBack hx (y := (⟨"com/example/meterwright/meterwright/RecordBody$Writer", "text", "(Ljava/lang/String;)V"⟩ : MethodName)) (z := (⟨"com/example/meterwright/meterwright/RecordBody$Writer", "text", "(Ljava/lang/String;)V"⟩ : MethodName)) hown (mvT hZ (hw _ (List.mem_of_getElem? (i := 98) rfl))) (mvT hZ (hw _ (List.mem_of_getElem? (i := 99) rfl))) (notFace_of_selects (args := #[]) (mvT hZ (hw _ (List.mem_of_getElem? (i := 101) rfl)))) (mvT hZ (hw _ (List.mem_of_getElem? (i := 101) rfl))) (mvT hZ (hw _ (List.mem_of_getElem? (i := 100) rfl))) (by decide) (backOf (W := 0) (rm39 l Z a0 hw [] b142 b118 b_147 k_147 f154 tm_147 b122 kb122 f128 cs u ca h169 n0 z197 f173 f174 f175 f176 f177 f178 f179 f180 f181 f182 f183 f184 f185 f186 f187 f188 f189 f190 (own_pos f128 f117 h_f128 (own_fc f117 f114 _ _ h_f117 h_f114)) f191 pr1 f192 f193 f194 f195 f196 ge_b142 ge_b_147 ge_tm_147 ge_b118 ne_b142_b_147 ne_b142_tm_147 (Ne.symm ne_b118_b142) (Ne.symm ne_b122_b142) (Ne.symm ne_ca_b142) q147_12 (Ne.symm ne_b118_b_147) (Ne.symm ne_b122_b_147) (Ne.symm ne_ca_b_147) (Ne.symm ne_b118_tm_147) (Ne.symm ne_b122_tm_147) (Ne.symm ne_ca_tm_147) ne_b118_b122 (Ne.symm ne_ca_b118) (Ne.symm ne_ca_b122)) hZ (hw _ (List.mem_of_getElem? (i := 102) rfl)) (hw _ (List.mem_of_getElem? (i := 33) rfl)) (by decide) (by decide)) q172a q172c (g := (mkF m 170 LL170 [(.ref b118), (.ref b142)])) rfl (by rw [hml]; rfl) (Steps.refl _) (argsL := [(.ref b118)]) (rest := []) (lenOf pd_30 rfl) rfl (by show 2 * 0 + _ ≤ _; exact Nat.le_of_eq rfl) (hb hby at_170) (fun _ _ => ⟨rfl, e169, (by decide : 7 + 4 ≤ _), (by decide : 1392 + 880 ≤ _)⟩)
    dsimp only [Pt.U, Pt.locs, Pt.cells, Pt.slots] at X172 l172 y172 z172 st172 hQ172
    subst l172 y172 z172
    have f198 := (Car.other (Car.keep f160 K156 nin0) W169 ne_b110_r_156)
    have k199 : Keep h0 h169 [] := (Keep.wr (Keep.trans k163 K156 all0) W169 (Or.inr sz_r_156))
    obtain ⟨r_172, kr_172, rfl, Nq172, K172, q172_0, q172_1, q172_2, q172_3, q172_4⟩ := hQ172
    have N172 := Fr.app N169 Nq172
    obtain ⟨f200, h_f200⟩ : ∃ z : Nat → Int32, z = (own_tx f154 f128) := ⟨_, rfl⟩
    rw [← h_f200] at q172_3
    have ne_ca_r_172 : ca ≠ r_172 := Nat.ne_of_lt (Nat.lt_of_lt_of_le f196.lt q172_4)
    have ne_b110_r_172 : b110 ≠ r_172 := Nat.ne_of_lt (Nat.lt_of_lt_of_le f198.lt q172_4)
    have ne_b118_r_172 : b118 ≠ r_172 := Nat.ne_of_lt (Nat.lt_of_lt_of_le f184.lt q172_4)
    have ne_b122_r_172 : b122 ≠ r_172 := Nat.ne_of_lt (Nat.lt_of_lt_of_le f189.lt q172_4)
    have ne_b142_r_172 : b142 ≠ r_172 := Nat.ne_of_lt (Nat.lt_of_lt_of_le f173.lt q172_4)
    have ne_b_147_r_172 : b_147 ≠ r_172 := Nat.ne_of_lt (Nat.lt_of_lt_of_le f177.lt q172_4)
    have ne_tm_147_r_172 : tm_147 ≠ r_172 := Nat.ne_of_lt (Nat.lt_of_lt_of_le f178.lt q172_4)
    have ne_r_156_r_172 : r_156 ≠ r_172 := Nat.ne_of_lt (Nat.lt_of_lt_of_le V169.lt q172_4)
    have ge_r_172 : n0 ≤ r_172 := Nat.le_trans z197 q172_4
    have sz_r_172 : h0.size ≤ r_172 := Nat.le_trans k199.1 q172_4
    have f202 := (Exa.keep f173 K172)
    have z203 : n0 ≤ _ := (Nat.le_trans z197 K172.1)
    obtain ⟨cq201, kq201, q201a, q201b, q201c⟩ := isOf hZ rfl f202
    obtain ⟨_, _, ⟨T201, L201, k201, n201⟩, -, X201, ⟨Lc201, hQ201, l201, y201, z201⟩, st201⟩ := X172.virtualBack hx (y := (⟨"com/example/meterwright/meterwright/RecordBody$Writer", "whole", "(J)V"⟩ : MethodName)) (z := (⟨"com/example/meterwright/meterwright/RecordBody$Writer", "whole", "(J)V"⟩ : MethodName)) hown (mvT hZ (hw _ (List.mem_of_getElem? (i := 81) rfl))) (mvT hZ (hw _ (List.mem_of_getElem? (i := 82) rfl))) (notFace_of_selects (args := #[]) (mvT hZ (hw _ (List.mem_of_getElem? (i := 84) rfl)))) (mvT hZ (hw _ (List.mem_of_getElem? (i := 84) rfl))) (mvT hZ (hw _ (List.mem_of_getElem? (i := 83) rfl))) (by decide) (backOf (W := 0) (rm9 l Z a0 hw [] b142 j131 r_172 kr_172 (512 : Int32) f200 (263 : Int32) tm_147 T172.heap n0 z203 f202 q172_0 q172_1 q172_3 (by decide) ge_b142 ge_r_172 ne_b142_r_172 (own_rb p1 j131 h_j131) q172_2) hZ (hw _ (List.mem_of_getElem? (i := 85) rfl)) (hw _ (List.mem_of_getElem? (i := 33) rfl)) (by decide) (by decide)) q201a q201c (g := (mkF m 177 LL170 [(.long j131), (.ref b142)])) rfl (by rw [hml]; rfl) (Steps.refl _) (argsL := [(.long j131)]) (rest := []) (lenOf pd_3 rfl) rfl (by show 2 * 0 + _ ≤ _; exact Nat.le_of_eq rfl) (hb hby at_177) (fun _ _ => ⟨rfl, rfl, (by decide : 11 + 0 ≤ _), (by decide : 2272 + 0 ≤ _)⟩)
    dsimp only [Pt.U, Pt.locs, Pt.cells, Pt.slots] at X201 l201 y201 z201 st201 hQ201
    subst l201 y201 z201
    obtain ⟨rfl, Nq201, K201, q201_0, q201_1, q201_2, q201_3⟩ := hQ201
    have N201 := Fr.app N172 Nq201
    obtain ⟨f204, h_f204⟩ : ∃ z : Nat → Int32, z = (own_w (263 : Int32) j131 f200) := ⟨_, rfl⟩
    rw [← h_f204] at q201_0
    have f206 := (Exa.keep f202 K201)
    have z207 : n0 ≤ _ := (Nat.le_trans z203 K201.1)
    obtain ⟨cq205, kq205, q205a, q205b, q205c⟩ := isOf hZ rfl f206
    obtain ⟨_, _, ⟨T205, L205, k205, n205⟩, -, X205, ⟨Lc205, hQ205, l205, y205, z205⟩, st205⟩ := X201.virtualBack hx (y := (⟨"com/example/meterwright/meterwright/RecordBody$Writer", "whole", "(J)V"⟩ : MethodName)) (z := (⟨"com/example/meterwright/meterwright/RecordBody$Writer", "whole", "(J)V"⟩ : MethodName)) hown (mvT hZ (hw _ (List.mem_of_getElem? (i := 81) rfl))) (mvT hZ (hw _ (List.mem_of_getElem? (i := 82) rfl))) (notFace_of_selects (args := #[]) (mvT hZ (hw _ (List.mem_of_getElem? (i := 84) rfl)))) (mvT hZ (hw _ (List.mem_of_getElem? (i := 84) rfl))) (mvT hZ (hw _ (List.mem_of_getElem? (i := 83) rfl))) (by decide) (backOf (W := 0) (rm9 l Z a0 hw [] b142 j133 r_172 kr_172 (512 : Int32) f204 ((263 : Int32) + (own_n j131)) tm_147 T201.heap n0 z207 f206 q201_2 q201_1 q201_0 (own_hq2 (263 : Int32) (512 : Int32) j131 (by decide)) ge_b142 ge_r_172 ne_b142_r_172 (own_rb p2 j133 h_j133) q201_3) hZ (hw _ (List.mem_of_getElem? (i := 85) rfl)) (hw _ (List.mem_of_getElem? (i := 33) rfl)) (by decide) (by decide)) q205a q205c (g := (mkF m 184 LL170 [(.long j133), (.ref b142)])) rfl (by rw [hml]; rfl) (Steps.refl _) (argsL := [(.long j133)]) (rest := []) (lenOf pd_3 rfl) rfl (by show 2 * 0 + _ ≤ _; exact Nat.le_of_eq rfl) (hb hby at_184) (fun _ _ => ⟨rfl, rfl, (by decide : 11 + 0 ≤ _), (by decide : 2272 + 0 ≤ _)⟩)
    dsimp only [Pt.U, Pt.locs, Pt.cells, Pt.slots] at X205 l205 y205 z205 st205 hQ205
    subst l205 y205 z205
    obtain ⟨rfl, Nq205, K205, q205_0, q205_1, q205_2, q205_3⟩ := hQ205
    have N205 := Fr.app N201 Nq205
    obtain ⟨f208, h_f208⟩ : ∃ z : Nat → Int32, z = (own_w ((263 : Int32) + (own_n j131)) j133 f204) := ⟨_, rfl⟩
    rw [← h_f208] at q205_0
    have f210 := (Exa.keep f206 K205)
    have z211 : n0 ≤ _ := (Nat.le_trans z207 K205.1)
    obtain ⟨cq209, kq209, q209a, q209b, q209c⟩ := isOf hZ rfl f210
    obtain ⟨_, _, ⟨T209, L209, k209, n209⟩, -, X209, ⟨Lc209, hQ209, l209, y209, z209⟩, st209⟩ := X205.virtualBack hx (y := (⟨"com/example/meterwright/meterwright/RecordBody$Writer", "number", "(J)V"⟩ : MethodName)) (z := (⟨"com/example/meterwright/meterwright/RecordBody$Writer", "number", "(J)V"⟩ : MethodName)) hown (mvT hZ (hw _ (List.mem_of_getElem? (i := 87) rfl))) (mvT hZ (hw _ (List.mem_of_getElem? (i := 88) rfl))) (notFace_of_selects (args := #[]) (mvT hZ (hw _ (List.mem_of_getElem? (i := 90) rfl)))) (mvT hZ (hw _ (List.mem_of_getElem? (i := 90) rfl))) (mvT hZ (hw _ (List.mem_of_getElem? (i := 89) rfl))) (by decide) (backOf (W := 0) (rm10 l Z a0 hw [] b142 j135 r_172 kr_172 (512 : Int32) f208 (((263 : Int32) + (own_n j131)) + (own_n j133)) tm_147 T205.heap n0 z211 f210 q205_2 q205_1 q205_0 (own_hq3 (263 : Int32) (512 : Int32) j131 j133 (by decide)) ge_b142 ge_r_172 ne_b142_r_172 (own_zr p3 j135 j138 h_j135 h_j138) q205_3) hZ (hw _ (List.mem_of_getElem? (i := 91) rfl)) (hw _ (List.mem_of_getElem? (i := 33) rfl)) (by decide) (by decide)) q209a q209c (g := (mkF m 191 LL170 [(.long j135), (.ref b142)])) rfl (by rw [hml]; rfl) (Steps.refl _) (argsL := [(.long j135)]) (rest := []) (lenOf pd_3 rfl) rfl (by show 2 * 0 + _ ≤ _; exact Nat.le_of_eq rfl) (hb hby at_191) (fun _ _ => ⟨rfl, rfl, (by decide : 11 + 0 ≤ _), (by decide : 2272 + 0 ≤ _)⟩)
    dsimp only [Pt.U, Pt.locs, Pt.cells, Pt.slots] at X209 l209 y209 z209 st209 hQ209
    subst l209 y209 z209
    obtain ⟨rfl, Nq209, K209, q209_0, q209_1, q209_2, q209_3⟩ := hQ209
    have N209 := Fr.app N205 Nq209
    obtain ⟨f212, h_f212⟩ : ∃ z : Nat → Int32, z = (own_w (((263 : Int32) + (own_n j131)) + (own_n j133)) ((j135 <<< ((1 : Int32) &&& 0x3f).toInt64) ^^^ (j135 >>> ((63 : Int32) &&& 0x3f).toInt64)) f208) := ⟨_, rfl⟩
    rw [← h_f212] at q209_0
    have SZ := own_hn (263 : Int32) (512 : Int32) j131 j133 ((j135 <<< ((1 : Int32) &&& 0x3f).toInt64) ^^^ (j135 >>> ((63 : Int32) &&& 0x3f).toInt64)) (by decide)
    have f214 := (Exa.keep f210 K209)
    have z215 : n0 ≤ _ := (Nat.le_trans z211 K209.1)
    obtain ⟨cq213, kq213, q213a, q213b, q213c⟩ := isOf hZ rfl f214
    obtain ⟨_, _, ⟨T213, L213, k213, n213⟩, -, X213, ⟨Lc213, hQ213, l213, y213, z213⟩, st213⟩ := X209.virtualBack hx (y := (⟨"com/example/meterwright/meterwright/RecordBody$Writer", "toByteArray", "()[B"⟩ : MethodName)) (z := (⟨"com/example/meterwright/meterwright/RecordBody$Writer", "toByteArray", "()[B"⟩ : MethodName)) hown (mvT hZ (hw _ (List.mem_of_getElem? (i := 64) rfl))) (mvT hZ (hw _ (List.mem_of_getElem? (i := 65) rfl))) (notFace_of_selects (args := #[]) (mvT hZ (hw _ (List.mem_of_getElem? (i := 67) rfl)))) (mvT hZ (hw _ (List.mem_of_getElem? (i := 67) rfl))) (mvT hZ (hw _ (List.mem_of_getElem? (i := 66) rfl))) (by decide) (backOf (W := 0) (rm11 l Z a0 hw [] b142 r_172 kr_172 (512 : Int32) f212 ((((263 : Int32) + (own_n j131)) + (own_n j133)) + (own_n ((j135 <<< ((1 : Int32) &&& 0x3f).toInt64) ^^^ (j135 >>> ((63 : Int32) &&& 0x3f).toInt64)))) T209.heap n0 z215 f214 q209_2 q209_1 q209_0 SZ.1 SZ.2.1 (by decide)) hZ (hw _ (List.mem_of_getElem? (i := 68) rfl)) (hw _ (List.mem_of_getElem? (i := 33) rfl)) (by decide) (by decide)) q213a q213c (g := (mkF m 196 LL170 [(.ref b142)])) rfl (by rw [hml]; rfl) (Steps.refl _) (argsL := []) (rest := []) (lenOf pd_28 rfl) rfl (by show 2 * 0 + _ ≤ _; exact Nat.le_of_eq rfl) (hb hby at_196) (fun _ _ => ⟨rfl, rfl, (by decide : 11 + 1 ≤ _), (by decide : 2272 + 600 ≤ _)⟩)
    dsimp only [Pt.U, Pt.locs, Pt.cells, Pt.slots] at X213 l213 y213 z213 st213 hQ213
    subst l213 y213 z213
    have f216 := (Cac.keep (Cac.keep (Cac.keep (Cac.keep f196 K172 (ninS ne_ca_b142 (ninS ne_ca_b_147 (ninS ne_ca_tm_147 (ninS ne_ca_b118 nin0))))) K201 (ninS ne_ca_b142 (ninS ne_ca_r_172 nin0))) K205 (ninS ne_ca_b142 (ninS ne_ca_r_172 nin0))) K209 (ninS ne_ca_b142 (ninS ne_ca_r_172 nin0)))
    have f217 := (Car.keep (Car.keep (Car.keep (Car.keep f198 K172 (ninS ne_b110_b142 (ninS ne_b110_b_147 (ninS ne_b110_tm_147 (ninS ne_b110_b118 nin0))))) K201 (ninS ne_b110_b142 (ninS ne_b110_r_172 nin0))) K205 (ninS ne_b110_b142 (ninS ne_b110_r_172 nin0))) K209 (ninS ne_b110_b142 (ninS ne_b110_r_172 nin0)))
    have f218 := (Exa.keep (Exa.keep (Exa.keep (Exa.keep f184 K172) K201) K205) K209)
    have f219 := (Bar.keep (Bar.keep (Bar.keep (Bar.keep f189 K172 (ninS ne_b122_b142 (ninS ne_b122_b_147 (ninS ne_b122_tm_147 (ninS (Ne.symm ne_b118_b122) nin0))))) K201 (ninS ne_b122_b142 (ninS ne_b122_r_172 nin0))) K205 (ninS ne_b122_b142 (ninS ne_b122_r_172 nin0))) K209 (ninS ne_b122_b142 (ninS ne_b122_r_172 nin0)))
    have f220 := (Exa.keep (Exa.keep (Exa.keep (Exa.keep f178 K172) K201) K205) K209)
    have f221 := (Bar.keep (Bar.keep (Bar.keep (Bar.keep V169 K172 (ninS (Ne.symm ne_b142_r_156) (ninS (Ne.symm ne_b_147_r_156) (ninS (Ne.symm ne_tm_147_r_156) (ninS (Ne.symm ne_b118_r_156) nin0))))) K201 (ninS (Ne.symm ne_b142_r_156) (ninS ne_r_156_r_172 nin0))) K205 (ninS (Ne.symm ne_b142_r_156) (ninS ne_r_156_r_172 nin0))) K209 (ninS (Ne.symm ne_b142_r_156) (ninS ne_r_156_r_172 nin0)))
    have k222 : Keep h0 T209.heap [] := (Keep.trans (Keep.trans (Keep.trans (Keep.trans k199 K172 (allS (Or.inr sz_b142) (allS (Or.inr sz_b_147) (allS (Or.inr sz_tm_147) (allS (Or.inr sz_b118) all0))))) K201 (allS (Or.inr sz_b142) (allS (Or.inr sz_r_172) all0))) K205 (allS (Or.inr sz_b142) (allS (Or.inr sz_r_172) all0))) K209 (allS (Or.inr sz_b142) (allS (Or.inr sz_r_172) all0)))
    obtain ⟨r_213, kr_213, rfl, Nq213, K213, q213_0, q213_1⟩ := hQ213
    have N213 := Fr.app N209 Nq213
    obtain ⟨f223, h_f223⟩ : ∃ z : Nat → Int32, z = (own_cp (512 : Int32) ((((263 : Int32) + (own_n j131)) + (own_n j133)) + (own_n ((j135 <<< ((1 : Int32) &&& 0x3f).toInt64) ^^^ (j135 >>> ((63 : Int32) &&& 0x3f).toInt64)))) f212) := ⟨_, rfl⟩
    rw [← h_f223] at q213_0
    have ne_ca_r_213 : ca ≠ r_213 := Nat.ne_of_lt (Nat.lt_of_lt_of_le f216.lt q213_1)
    have ne_b110_r_213 : b110 ≠ r_213 := Nat.ne_of_lt (Nat.lt_of_lt_of_le f217.lt q213_1)
    have ne_b118_r_213 : b118 ≠ r_213 := Nat.ne_of_lt (Nat.lt_of_lt_of_le f218.lt q213_1)
    have ne_b122_r_213 : b122 ≠ r_213 := Nat.ne_of_lt (Nat.lt_of_lt_of_le f219.lt q213_1)
    have ne_b142_r_213 : b142 ≠ r_213 := Nat.ne_of_lt (Nat.lt_of_lt_of_le f214.lt q213_1)
    have ne_tm_147_r_213 : tm_147 ≠ r_213 := Nat.ne_of_lt (Nat.lt_of_lt_of_le f220.lt q213_1)
    have ne_r_156_r_213 : r_156 ≠ r_213 := Nat.ne_of_lt (Nat.lt_of_lt_of_le f221.lt q213_1)
    have ne_r_172_r_213 : r_172 ≠ r_213 := Nat.ne_of_lt (Nat.lt_of_lt_of_le q209_0.lt q213_1)
    have ge_r_213 : n0 ≤ r_213 := Nat.le_trans z215 q213_1
    have sz_r_213 : h0.size ≤ r_213 := Nat.le_trans k222.1 q213_1
    let LL224 : Array Slot := #[.val (.int p0), .val (.int p1), .val (.int p2), .val (.int p3), .val (.int p4), .val (.int i2), .val (.int (1 : Int32)), .val (.ref b110), .val (.ref b118), .val (.long j131), .second, .val (.long j133), .second, .val (.long j135), .second, .val (.long j138), .second, .val (.ref b142), .val (.ref r_156), .val (.int (1 : Int32)), .val (.ref r_213)]
    have RD := own_rd (263 : Int32) (512 : Int32) j131 j133 ((j135 <<< ((1 : Int32) &&& 0x3f).toInt64) ^^^ (j135 >>> ((63 : Int32) &&& 0x3f).toInt64)) f200 f204 f208 f212 f223 (by decide) h_f204 h_f208 h_f212 h_f223
    obtain ⟨cl_a225, Ar_a225, q_a225, S_a225, N_a225, H_a225⟩ := id q213_0
    obtain ⟨cl_a226, Ar_a226, q_a226, S_a226, N_a226, H_a226⟩ := id q213_0
    have hin_a226 : ¬ ((0 : Int32) < 0 ∨ cl_a226.slots.size ≤ ((0 : Int32)).toNatClampNeg) := inb_of S_a226 (SZ.2.2.2.2 (0 : Int32) ⟨by decide, by decide⟩)
    have hat_a226 : cl_a226.slots[((0 : Int32)).toNatClampNeg]? = some (.int (f223 ((0 : Int32)).toNatClampNeg)) := (H_a226 _ (Nat.lt_of_not_le fun q => hin_a226 (Or.inr q))).1
    obtain ⟨cl_a227, Ar_a227, q_a227, S_a227, N_a227, H_a227⟩ := id q213_0
    have P228 : ∀ t, Steps p.tables e below (T213.setTop (mkF m 235 LL224 [])) t → Steps p.tables e below ST t := by
      intro t kk
      refine P171 _ ?_
      show Steps p.tables e below (T169.setTop (mkF m 168 LL170 [(.ref b142)])) _
      refine XS.aload X169.here hx rfl (hb hby at_168) rfl rfl ?_
      show Steps p.tables e below (T169.setTop (mkF m 170 LL170 [(.ref b118), (.ref b142)])) _
      refine st172.trans ?_
      show Steps p.tables e below (T172.setTop (mkF m 173 LL170 [])) _
      refine XS.aload X172.here hx rfl (hb hby at_173) rfl rfl ?_
      show Steps p.tables e below (T172.setTop (mkF m 175 LL170 [(.ref b142)])) _
      refine XS.lload X172.here hx rfl (hb hby at_175) rfl ?_
      show Steps p.tables e below (T172.setTop (mkF m 177 LL170 [(.long j131), (.ref b142)])) _
      refine st201.trans ?_
      show Steps p.tables e below (T201.setTop (mkF m 180 LL170 [])) _
      refine XS.aload X201.here hx rfl (hb hby at_180) rfl rfl ?_
      show Steps p.tables e below (T201.setTop (mkF m 182 LL170 [(.ref b142)])) _
      refine XS.lload X201.here hx rfl (hb hby at_182) rfl ?_
      show Steps p.tables e below (T201.setTop (mkF m 184 LL170 [(.long j133), (.ref b142)])) _
      refine st205.trans ?_
      show Steps p.tables e below (T205.setTop (mkF m 187 LL170 [])) _
      refine XS.aload X205.here hx rfl (hb hby at_187) rfl rfl ?_
      show Steps p.tables e below (T205.setTop (mkF m 189 LL170 [(.ref b142)])) _
      refine XS.lload X205.here hx rfl (hb hby at_189) rfl ?_
      show Steps p.tables e below (T205.setTop (mkF m 191 LL170 [(.long j135), (.ref b142)])) _
      refine st209.trans ?_
      show Steps p.tables e below (T209.setTop (mkF m 194 LL170 [])) _
      refine XS.aload X209.here hx rfl (hb hby at_194) rfl rfl ?_
      show Steps p.tables e below (T209.setTop (mkF m 196 LL170 [(.ref b142)])) _
      refine st213.trans ?_
      show Steps p.tables e below (T213.setTop (mkF m 199 LL170 [(.ref r_213)])) _
      refine XS.astore X213.here hx rfl (hb hby at_199) rfl rfl (l' := LL224) rfl ?_
      show Steps p.tables e below (T213.setTop (mkF m 201 LL224 [])) _
      refine XS.aload X213.here hx rfl (hb hby at_201) rfl rfl ?_
      show Steps p.tables e below (T213.setTop (mkF m 203 LL224 [(.ref r_213)])) _
      refine X213.arraylength hx (Ar_a225.1) (State.isArrayOf_alike hZ.alike Ar_a225.2.1) (g := (mkF m 203 LL224 [(.ref r_213)])) rfl rfl (hb hby at_203) _ ?_
      rw [len_of S_a225 N_a225]
      show Steps p.tables e below (T213.setTop (mkF m 204 LL224 [(.int ((((263 : Int32) + (own_n j131)) + (own_n j133)) + (own_n ((j135 <<< ((1 : Int32) &&& 0x3f).toInt64) ^^^ (j135 >>> ((63 : Int32) &&& 0x3f).toInt64)))))])) _
      refine XS.iconst X213.here hx rfl (hb hby at_204) ?_
      show Steps p.tables e below (T213.setTop (mkF m 205 LL224 [(.int (1 : Int32)), (.int ((((263 : Int32) + (own_n j131)) + (own_n j133)) + (own_n ((j135 <<< ((1 : Int32) &&& 0x3f).toInt64) ^^^ (j135 >>> ((63 : Int32) &&& 0x3f).toInt64)))))])) _
      refine XS.icmpNo X213.here hx rfl (hb hby at_205) rfl (XT.ii_lt_f SZ.2.2.1) ?_
      show Steps p.tables e below (T213.setTop (mkF m 208 LL224 [])) _
      refine XS.aload X213.here hx rfl (hb hby at_208) rfl rfl ?_
      show Steps p.tables e below (T213.setTop (mkF m 210 LL224 [(.ref r_213)])) _
      refine XS.iconst X213.here hx rfl (hb hby at_210) ?_
      show Steps p.tables e below (T213.setTop (mkF m 211 LL224 [(.int (0 : Int32)), (.ref r_213)])) _
      refine X213.baloadBytes hx (j := (0 : Int32)) (v := (.int (f223 ((0 : Int32)).toNatClampNeg))) (Ar_a226.1) (State.isArrayOf_alike hZ.alike Ar_a226.2.1) Ar_a226.2.2 hin_a226 hat_a226 (g := (mkF m 211 LL224 [(.int (0 : Int32)), (.ref r_213)])) rfl rfl (hb hby at_211) _ ?_
      show Steps p.tables e below (T213.setTop (mkF m 212 LL224 [(.int (f223 ((0 : Int32)).toNatClampNeg))])) _
      refine XS.iload X213.here hx rfl (hb hby at_212) rfl ?_
      show Steps p.tables e below (T213.setTop (mkF m 214 LL224 [(.int i2), (.int (f223 ((0 : Int32)).toNatClampNeg))])) _
      refine XS.icmpYes X213.here hx rfl (pc0 := 214) (pc' := 219) rfl (hb hby at_214) rfl (XT.ii_eq_t ((RD.2.2.2 (((0 : Int32)).toNatClampNeg) (by decide)).trans ((congrFun h_f200 (((0 : Int32)).toNatClampNeg)).trans ((own_tx_0 _ _).trans ((congrFun h_f154 (((0 : Int32)).toNatClampNeg)).trans (own_i_at i2 p0 h_i2)))))) (by decide) (by decide) ?_
      show Steps p.tables e below (T213.setTop (mkF m 219 LL224 [])) _
      refine XS.iload X213.here hx rfl (hb hby at_219) rfl ?_
      show Steps p.tables e below (T213.setTop (mkF m 221 LL224 [(.int (1 : Int32))])) _
      refine XS.ifNo X213.here hx rfl (hb hby at_221) rfl (XT.i0_eq_f (by decide)) ?_
      show Steps p.tables e below (T213.setTop (mkF m 224 LL224 [])) _
      refine XS.aload X213.here hx rfl (hb hby at_224) rfl rfl ?_
      show Steps p.tables e below (T213.setTop (mkF m 226 LL224 [(.ref r_213)])) _
      refine X213.arraylength hx (Ar_a227.1) (State.isArrayOf_alike hZ.alike Ar_a227.2.1) (g := (mkF m 226 LL224 [(.ref r_213)])) rfl rfl (hb hby at_226) _ ?_
      rw [len_of S_a227 N_a227]
      show Steps p.tables e below (T213.setTop (mkF m 227 LL224 [(.int ((((263 : Int32) + (own_n j131)) + (own_n j133)) + (own_n ((j135 <<< ((1 : Int32) &&& 0x3f).toInt64) ^^^ (j135 >>> ((63 : Int32) &&& 0x3f).toInt64)))))])) _
      refine XS.sipush X213.here hx rfl (hb hby at_227) ?_
      show Steps p.tables e below (T213.setTop (mkF m 230 LL224 [(.int (263 : Int32)), (.int ((((263 : Int32) + (own_n j131)) + (own_n j133)) + (own_n ((j135 <<< ((1 : Int32) &&& 0x3f).toInt64) ^^^ (j135 >>> ((63 : Int32) &&& 0x3f).toInt64)))))])) _
      refine XS.icmpYes X213.here hx rfl (pc0 := 230) (pc' := 235) rfl (hb hby at_230) rfl (XT.ii_ge_t SZ.2.2.2.1) (by decide) (by decide) ?_
      show Steps p.tables e below (T213.setTop (mkF m 235 LL224 [])) _
      exact kk
    obtain ⟨cl_a229, Ar_a229, q_a229, S_a229, N_a229, H_a229⟩ := id q213_0
    have hin_a229 : ¬ ((1 : Int32) < 0 ∨ cl_a229.slots.size ≤ ((1 : Int32)).toNatClampNeg) := inb_of S_a229 (SZ.2.2.2.2 (1 : Int32) ⟨by decide, by decide⟩)
    have hat_a229 : cl_a229.slots[((1 : Int32)).toNatClampNeg]? = some (.int (f223 ((1 : Int32)).toNatClampNeg)) := (H_a229 _ (Nat.lt_of_not_le fun q => hin_a229 (Or.inr q))).1
    obtain ⟨cl_a230, Ar_a230, q_a230, S_a230, N_a230, H_a230⟩ := id q213_0
    have hin_a230 : ¬ ((2 : Int32) < 0 ∨ cl_a230.slots.size ≤ ((2 : Int32)).toNatClampNeg) := inb_of S_a230 (SZ.2.2.2.2 (2 : Int32) ⟨by decide, by decide⟩)
    have hat_a230 : cl_a230.slots[((2 : Int32)).toNatClampNeg]? = some (.int (f223 ((2 : Int32)).toNatClampNeg)) := (H_a230 _ (Nat.lt_of_not_le fun q => hin_a230 (Or.inr q))).1
    obtain ⟨cl_a231, Ar_a231, q_a231, S_a231, N_a231, H_a231⟩ := id q213_0
    have hin_a231 : ¬ ((3 : Int32) < 0 ∨ cl_a231.slots.size ≤ ((3 : Int32)).toNatClampNeg) := inb_of S_a231 (SZ.2.2.2.2 (3 : Int32) ⟨by decide, by decide⟩)
    have hat_a231 : cl_a231.slots[((3 : Int32)).toNatClampNeg]? = some (.int (f223 ((3 : Int32)).toNatClampNeg)) := (H_a231 _ (Nat.lt_of_not_le fun q => hin_a231 (Or.inr q))).1
    have f232 := (Car.keep f217 K213 nin0)
    obtain ⟨cl_a233, Ar_a233, q_a233, S_a233, N_a233, H_a233⟩ := id f232
    have hin_a233 : ¬ ((0 : Int32) < 0 ∨ cl_a233.slots.size ≤ ((0 : Int32)).toNatClampNeg) := inb_of S_a233 ⟨by decide, by decide⟩
    have hat_a233 : cl_a233.slots[((0 : Int32)).toNatClampNeg]? = some (.int (f117 ((0 : Int32)).toNatClampNeg)) := (H_a233 _ (Nat.lt_of_not_le fun q => hin_a233 (Or.inr q))).1
    obtain ⟨cl_a234, Ar_a234, q_a234, S_a234, N_a234, H_a234⟩ := id q213_0
    have hin_a234 : ¬ ((130 : Int32) < 0 ∨ cl_a234.slots.size ≤ ((130 : Int32)).toNatClampNeg) := inb_of S_a234 (SZ.2.2.2.2 (130 : Int32) ⟨by decide, by decide⟩)
    have hat_a234 : cl_a234.slots[((130 : Int32)).toNatClampNeg]? = some (.int (f223 ((130 : Int32)).toNatClampNeg)) := (H_a234 _ (Nat.lt_of_not_le fun q => hin_a234 (Or.inr q))).1
    obtain ⟨cl_a235, Ar_a235, q_a235, S_a235, N_a235, H_a235⟩ := id q213_0
    have hin_a235 : ¬ ((262 : Int32) < 0 ∨ cl_a235.slots.size ≤ ((262 : Int32)).toNatClampNeg) := inb_of S_a235 (SZ.2.2.2.2 (262 : Int32) ⟨by decide, by decide⟩)
    have hat_a235 : cl_a235.slots[((262 : Int32)).toNatClampNeg]? = some (.int (f223 ((262 : Int32)).toNatClampNeg)) := (H_a235 _ (Nat.lt_of_not_le fun q => hin_a235 (Or.inr q))).1
    obtain ⟨cl_a236, Ar_a236, q_a236, S_a236, N_a236, H_a236⟩ := id f232
    have hin_a236 : ¬ ((259 : Int32) < 0 ∨ cl_a236.slots.size ≤ ((259 : Int32)).toNatClampNeg) := inb_of S_a236 ⟨by decide, by decide⟩
    have hat_a236 : cl_a236.slots[((259 : Int32)).toNatClampNeg]? = some (.int (f117 ((259 : Int32)).toNatClampNeg)) := (H_a236 _ (Nat.lt_of_not_le fun q => hin_a236 (Or.inr q))).1
    have P237 : ∀ t, Steps p.tables e below (T213.setTop (mkF m 291 LL224 [])) t → Steps p.tables e below ST t := by
      intro t kk
      refine P228 _ ?_
      show Steps p.tables e below (T213.setTop (mkF m 235 LL224 [])) _
      refine XS.aload X213.here hx rfl (hb hby at_235) rfl rfl ?_
      show Steps p.tables e below (T213.setTop (mkF m 237 LL224 [(.ref r_213)])) _
      refine XS.iconst X213.here hx rfl (hb hby at_237) ?_
      show Steps p.tables e below (T213.setTop (mkF m 238 LL224 [(.int (1 : Int32)), (.ref r_213)])) _
      refine X213.baloadBytes hx (j := (1 : Int32)) (v := (.int (f223 ((1 : Int32)).toNatClampNeg))) (Ar_a229.1) (State.isArrayOf_alike hZ.alike Ar_a229.2.1) Ar_a229.2.2 hin_a229 hat_a229 (g := (mkF m 238 LL224 [(.int (1 : Int32)), (.ref r_213)])) rfl rfl (hb hby at_238) _ ?_
      show Steps p.tables e below (T213.setTop (mkF m 239 LL224 [(.int (f223 ((1 : Int32)).toNatClampNeg))])) _
      refine XT.bipushV X213.here hx rfl (-124 : Int32) (hb hby at_239) (by decide) ?_
      show Steps p.tables e below (T213.setTop (mkF m 241 LL224 [(.int (-124 : Int32)), (.int (f223 ((1 : Int32)).toNatClampNeg))])) _
      refine XS.icmpNo X213.here hx rfl (hb hby at_241) rfl (XT.ii_ne_f ((RD.2.2.2 (((1 : Int32)).toNatClampNeg) (by decide)).trans ((congrFun h_f200 (((1 : Int32)).toNatClampNeg)).trans (own_tx_1 _ _)))) ?_
      show Steps p.tables e below (T213.setTop (mkF m 244 LL224 [])) _
      refine XS.aload X213.here hx rfl (hb hby at_244) rfl rfl ?_
      show Steps p.tables e below (T213.setTop (mkF m 246 LL224 [(.ref r_213)])) _
      refine XS.iconst X213.here hx rfl (hb hby at_246) ?_
      show Steps p.tables e below (T213.setTop (mkF m 247 LL224 [(.int (2 : Int32)), (.ref r_213)])) _
      refine X213.baloadBytes hx (j := (2 : Int32)) (v := (.int (f223 ((2 : Int32)).toNatClampNeg))) (Ar_a230.1) (State.isArrayOf_alike hZ.alike Ar_a230.2.1) Ar_a230.2.2 hin_a230 hat_a230 (g := (mkF m 247 LL224 [(.int (2 : Int32)), (.ref r_213)])) rfl rfl (hb hby at_247) _ ?_
      show Steps p.tables e below (T213.setTop (mkF m 248 LL224 [(.int (f223 ((2 : Int32)).toNatClampNeg))])) _
      refine XS.iconst X213.here hx rfl (hb hby at_248) ?_
      show Steps p.tables e below (T213.setTop (mkF m 249 LL224 [(.int (2 : Int32)), (.int (f223 ((2 : Int32)).toNatClampNeg))])) _
      refine XS.icmpNo X213.here hx rfl (hb hby at_249) rfl (XT.ii_ne_f ((RD.2.2.2 (((2 : Int32)).toNatClampNeg) (by decide)).trans ((congrFun h_f200 (((2 : Int32)).toNatClampNeg)).trans (own_tx_2 _ _)))) ?_
      show Steps p.tables e below (T213.setTop (mkF m 252 LL224 [])) _
      refine XS.aload X213.here hx rfl (hb hby at_252) rfl rfl ?_
      show Steps p.tables e below (T213.setTop (mkF m 254 LL224 [(.ref r_213)])) _
      refine XS.iconst X213.here hx rfl (hb hby at_254) ?_
      show Steps p.tables e below (T213.setTop (mkF m 255 LL224 [(.int (3 : Int32)), (.ref r_213)])) _
      refine X213.baloadBytes hx (j := (3 : Int32)) (v := (.int (f223 ((3 : Int32)).toNatClampNeg))) (Ar_a231.1) (State.isArrayOf_alike hZ.alike Ar_a231.2.1) Ar_a231.2.2 hin_a231 hat_a231 (g := (mkF m 255 LL224 [(.int (3 : Int32)), (.ref r_213)])) rfl rfl (hb hby at_255) _ ?_
      show Steps p.tables e below (T213.setTop (mkF m 256 LL224 [(.int (f223 ((3 : Int32)).toNatClampNeg))])) _
      refine XS.aload X213.here hx rfl (hb hby at_256) rfl rfl ?_
      show Steps p.tables e below (T213.setTop (mkF m 258 LL224 [(.ref b110), (.int (f223 ((3 : Int32)).toNatClampNeg))])) _
      refine XS.iconst X213.here hx rfl (hb hby at_258) ?_
      show Steps p.tables e below (T213.setTop (mkF m 259 LL224 [(.int (0 : Int32)), (.ref b110), (.int (f223 ((3 : Int32)).toNatClampNeg))])) _
      refine X213.caload hx (j := (0 : Int32)) (v := (.int (f117 ((0 : Int32)).toNatClampNeg))) (Ar_a233.1) (State.isArrayOf_alike hZ.alike Ar_a233.2.1) Ar_a233.2.2 hin_a233 hat_a233 (g := (mkF m 259 LL224 [(.int (0 : Int32)), (.ref b110), (.int (f223 ((3 : Int32)).toNatClampNeg))])) rfl rfl (hb hby at_259) _ ?_
      show Steps p.tables e below (T213.setTop (mkF m 260 LL224 [(.int (f117 ((0 : Int32)).toNatClampNeg)), (.int (f223 ((3 : Int32)).toNatClampNeg))])) _
      refine XS.i2b X213.here hx rfl (hb hby at_260) rfl ?_
      show Steps p.tables e below (T213.setTop (mkF m 261 LL224 [(.int (((f117 ((0 : Int32)).toNatClampNeg)).toInt8.toInt32)), (.int (f223 ((3 : Int32)).toNatClampNeg))])) _
      refine XS.icmpNo X213.here hx rfl (hb hby at_261) rfl (XT.ii_ne_f ((RD.2.2.2 (((3 : Int32)).toNatClampNeg) (by decide)).trans ((congrFun h_f200 (((3 : Int32)).toNatClampNeg)).trans ((own_tx_at _ _ _ (((0 : Int32)).toNatClampNeg) (by decide) (by decide)).trans (congrFun h_f128 (((0 : Int32)).toNatClampNeg)))))) ?_
      show Steps p.tables e below (T213.setTop (mkF m 264 LL224 [])) _
      refine XS.aload X213.here hx rfl (hb hby at_264) rfl rfl ?_
      show Steps p.tables e below (T213.setTop (mkF m 266 LL224 [(.ref r_213)])) _
      refine XS.sipush X213.here hx rfl (hb hby at_266) ?_
      show Steps p.tables e below (T213.setTop (mkF m 269 LL224 [(.int (130 : Int32)), (.ref r_213)])) _
      refine X213.baloadBytes hx (j := (130 : Int32)) (v := (.int (f223 ((130 : Int32)).toNatClampNeg))) (Ar_a234.1) (State.isArrayOf_alike hZ.alike Ar_a234.2.1) Ar_a234.2.2 hin_a234 hat_a234 (g := (mkF m 269 LL224 [(.int (130 : Int32)), (.ref r_213)])) rfl rfl (hb hby at_269) _ ?_
      show Steps p.tables e below (T213.setTop (mkF m 270 LL224 [(.int (f223 ((130 : Int32)).toNatClampNeg))])) _
      refine XS.ifNo X213.here hx rfl (hb hby at_270) rfl (XT.i0_ne_f ((RD.2.2.2 (((130 : Int32)).toNatClampNeg) (by decide)).trans ((congrFun h_f200 (((130 : Int32)).toNatClampNeg)).trans ((own_tx_at _ _ _ (127) (by decide) (by decide)).trans ((congrFun h_f128 (127)).trans (by show (f117 (127)).toInt8.toInt32 = _; rw [own_fc0 f117 f114 _ _ h_f117 h_f114 (127) (by decide) (by decide)]; decide)))))) ?_
      show Steps p.tables e below (T213.setTop (mkF m 273 LL224 [])) _
      refine XS.aload X213.here hx rfl (hb hby at_273) rfl rfl ?_
      show Steps p.tables e below (T213.setTop (mkF m 275 LL224 [(.ref r_213)])) _
      refine XS.sipush X213.here hx rfl (hb hby at_275) ?_
      show Steps p.tables e below (T213.setTop (mkF m 278 LL224 [(.int (262 : Int32)), (.ref r_213)])) _
      refine X213.baloadBytes hx (j := (262 : Int32)) (v := (.int (f223 ((262 : Int32)).toNatClampNeg))) (Ar_a235.1) (State.isArrayOf_alike hZ.alike Ar_a235.2.1) Ar_a235.2.2 hin_a235 hat_a235 (g := (mkF m 278 LL224 [(.int (262 : Int32)), (.ref r_213)])) rfl rfl (hb hby at_278) _ ?_
      show Steps p.tables e below (T213.setTop (mkF m 279 LL224 [(.int (f223 ((262 : Int32)).toNatClampNeg))])) _
      refine XS.aload X213.here hx rfl (hb hby at_279) rfl rfl ?_
      show Steps p.tables e below (T213.setTop (mkF m 281 LL224 [(.ref b110), (.int (f223 ((262 : Int32)).toNatClampNeg))])) _
      refine XS.sipush X213.here hx rfl (hb hby at_281) ?_
      show Steps p.tables e below (T213.setTop (mkF m 284 LL224 [(.int (259 : Int32)), (.ref b110), (.int (f223 ((262 : Int32)).toNatClampNeg))])) _
      refine X213.caload hx (j := (259 : Int32)) (v := (.int (f117 ((259 : Int32)).toNatClampNeg))) (Ar_a236.1) (State.isArrayOf_alike hZ.alike Ar_a236.2.1) Ar_a236.2.2 hin_a236 hat_a236 (g := (mkF m 284 LL224 [(.int (259 : Int32)), (.ref b110), (.int (f223 ((262 : Int32)).toNatClampNeg))])) rfl rfl (hb hby at_284) _ ?_
      show Steps p.tables e below (T213.setTop (mkF m 285 LL224 [(.int (f117 ((259 : Int32)).toNatClampNeg)), (.int (f223 ((262 : Int32)).toNatClampNeg))])) _
      refine XS.i2b X213.here hx rfl (hb hby at_285) rfl ?_
      show Steps p.tables e below (T213.setTop (mkF m 286 LL224 [(.int (((f117 ((259 : Int32)).toNatClampNeg)).toInt8.toInt32)), (.int (f223 ((262 : Int32)).toNatClampNeg))])) _
      refine XS.icmpYes X213.here hx rfl (pc0 := 286) (pc' := 291) rfl (hb hby at_286) rfl (XT.ii_eq_t ((RD.2.2.2 (((262 : Int32)).toNatClampNeg) (by decide)).trans ((congrFun h_f200 (((262 : Int32)).toNatClampNeg)).trans ((own_tx_at _ _ _ (((259 : Int32)).toNatClampNeg) (by decide) (by decide)).trans (congrFun h_f128 (((259 : Int32)).toNatClampNeg)))))) (by decide) (by decide) ?_
      show Steps p.tables e below (T213.setTop (mkF m 291 LL224 [])) _
      exact kk
    let LL238 : Array Slot := #[.val (.int p0), .val (.int p1), .val (.int p2), .val (.int p3), .val (.int p4), .val (.int i2), .val (.int (1 : Int32)), .val (.ref b110), .val (.ref b118), .val (.long j131), .second, .val (.long j133), .second, .val (.long j135), .second, .val (.long j138), .second, .val (.ref b142), .val (.ref r_156), .val (.int (263 : Int32)), .val (.ref r_213)]
    have z240 : n0 ≤ _ := (Nat.le_trans z215 K213.1)
    obtain ⟨_, _, ⟨T239, L239, k239, n239⟩, -, X239, ⟨Lc239, hQ239, l239, y239, z239⟩, st239⟩ := Jvm.LawKit.callS X213 hx (y := (⟨"com/example/meterwright/meterwright/WriterToByteArrayPinLaw", "at", "([BIJ)I"⟩ : MethodName)) hown (mvT hZ (hw _ (List.mem_of_getElem? (i := 93) rfl))) (mvT hZ (hw _ (List.mem_of_getElem? (i := 94) rfl))) (mvT hZ (hw _ (List.mem_of_getElem? (i := 95) rfl))) (mvT hZ (hw _ (List.mem_of_getElem? (i := 96) rfl))) (by decide) (backOf (W := 0) (rm15 l Z a0 hw [] r_213 (263 : Int32) j131 kr_213 ((((263 : Int32) + (own_n j131)) + (own_n j133)) + (own_n ((j135 <<< ((1 : Int32) &&& 0x3f).toInt64) ^^^ (j135 >>> ((63 : Int32) &&& 0x3f).toInt64)))) f223 T213.heap n0 z240 q213_0 RD.1) hZ (hw _ (List.mem_of_getElem? (i := 96) rfl)) (hw _ (List.mem_of_getElem? (i := 95) rfl)) (by decide) (by decide)) (g := (mkF m 302 LL238 [(.long j131), (.int (263 : Int32)), (.ref r_213)])) rfl (by rw [hml]; rfl) (argsL := [(.ref r_213), (.int (263 : Int32)), (.long j131)]) (rest := []) (lenOf pd_29 rfl) rfl (by show 2 * 0 + _ ≤ _; exact Nat.le_of_eq rfl) (hb hby at_302) (fun _ _ => ⟨rfl, rfl, (by decide : 12 + 0 ≤ _), (by decide : 2872 + 0 ≤ _)⟩)
    dsimp only [Pt.U, Pt.locs, Pt.cells, Pt.slots] at X239 l239 y239 z239 st239 hQ239
    subst l239 y239 z239
    obtain ⟨rfl, Nq239, e239⟩ := hQ239
    have N239 := Fr.app N213 Nq239
    let LL241 : Array Slot := #[.val (.int p0), .val (.int p1), .val (.int p2), .val (.int p3), .val (.int p4), .val (.int i2), .val (.int (1 : Int32)), .val (.ref b110), .val (.ref b118), .val (.long j131), .second, .val (.long j133), .second, .val (.long j135), .second, .val (.long j138), .second, .val (.ref b142), .val (.ref r_156), .val (.int ((263 : Int32) + (own_n j131))), .val (.ref r_213)]
    obtain ⟨_, _, ⟨T242, L242, k242, n242⟩, -, X242, ⟨Lc242, hQ242, l242, y242, z242⟩, st242⟩ := Jvm.LawKit.callS X239 hx (y := (⟨"com/example/meterwright/meterwright/WriterToByteArrayPinLaw", "at", "([BIJ)I"⟩ : MethodName)) hown (mvT hZ (hw _ (List.mem_of_getElem? (i := 93) rfl))) (mvT hZ (hw _ (List.mem_of_getElem? (i := 94) rfl))) (mvT hZ (hw _ (List.mem_of_getElem? (i := 95) rfl))) (mvT hZ (hw _ (List.mem_of_getElem? (i := 96) rfl))) (by decide) (backOf (W := 0) (rm15 l Z a0 hw [] r_213 ((263 : Int32) + (own_n j131)) j133 kr_213 ((((263 : Int32) + (own_n j131)) + (own_n j133)) + (own_n ((j135 <<< ((1 : Int32) &&& 0x3f).toInt64) ^^^ (j135 >>> ((63 : Int32) &&& 0x3f).toInt64)))) f223 T213.heap n0 z240 q213_0 RD.2.1) hZ (hw _ (List.mem_of_getElem? (i := 96) rfl)) (hw _ (List.mem_of_getElem? (i := 95) rfl)) (by decide) (by decide)) (g := (mkF m 313 LL241 [(.long j133), (.int ((263 : Int32) + (own_n j131))), (.ref r_213)])) rfl (by rw [hml]; rfl) (argsL := [(.ref r_213), (.int ((263 : Int32) + (own_n j131))), (.long j133)]) (rest := []) (lenOf pd_29 rfl) rfl (by show 2 * 0 + _ ≤ _; exact Nat.le_of_eq rfl) (hb hby at_313) (fun _ _ => ⟨rfl, e239, (by decide : 12 + 0 ≤ _), (by decide : 2872 + 0 ≤ _)⟩)
    dsimp only [Pt.U, Pt.locs, Pt.cells, Pt.slots] at X242 l242 y242 z242 st242 hQ242
    subst l242 y242 z242
    obtain ⟨rfl, Nq242, e242⟩ := hQ242
    have N242 := Fr.app N239 Nq242
    let LL243 : Array Slot := #[.val (.int p0), .val (.int p1), .val (.int p2), .val (.int p3), .val (.int p4), .val (.int i2), .val (.int (1 : Int32)), .val (.ref b110), .val (.ref b118), .val (.long j131), .second, .val (.long j133), .second, .val (.long j135), .second, .val (.long j138), .second, .val (.ref b142), .val (.ref r_156), .val (.int (((263 : Int32) + (own_n j131)) + (own_n j133))), .val (.ref r_213)]
    obtain ⟨_, _, ⟨T244, L244, k244, n244⟩, -, X244, ⟨Lc244, hQ244, l244, y244, z244⟩, st244⟩ := Jvm.LawKit.callS X242 hx (y := (⟨"com/example/meterwright/meterwright/WriterToByteArrayPinLaw", "at", "([BIJ)I"⟩ : MethodName)) hown (mvT hZ (hw _ (List.mem_of_getElem? (i := 93) rfl))) (mvT hZ (hw _ (List.mem_of_getElem? (i := 94) rfl))) (mvT hZ (hw _ (List.mem_of_getElem? (i := 95) rfl))) (mvT hZ (hw _ (List.mem_of_getElem? (i := 96) rfl))) (by decide) (backOf (W := 0) (rm15 l Z a0 hw [] r_213 (((263 : Int32) + (own_n j131)) + (own_n j133)) j138 kr_213 ((((263 : Int32) + (own_n j131)) + (own_n j133)) + (own_n ((j135 <<< ((1 : Int32) &&& 0x3f).toInt64) ^^^ (j135 >>> ((63 : Int32) &&& 0x3f).toInt64)))) f223 T213.heap n0 z240 q213_0 (by rw [← (own_zz p3 j135 j138 h_j135 h_j138).1]; exact RD.2.2.1)) hZ (hw _ (List.mem_of_getElem? (i := 96) rfl)) (hw _ (List.mem_of_getElem? (i := 95) rfl)) (by decide) (by decide)) (g := (mkF m 324 LL243 [(.long j138), (.int (((263 : Int32) + (own_n j131)) + (own_n j133))), (.ref r_213)])) rfl (by rw [hml]; rfl) (argsL := [(.ref r_213), (.int (((263 : Int32) + (own_n j131)) + (own_n j133))), (.long j138)]) (rest := []) (lenOf pd_29 rfl) rfl (by show 2 * 0 + _ ≤ _; exact Nat.le_of_eq rfl) (hb hby at_324) (fun _ _ => ⟨rfl, e242, (by decide : 12 + 0 ≤ _), (by decide : 2872 + 0 ≤ _)⟩)
    dsimp only [Pt.U, Pt.locs, Pt.cells, Pt.slots] at X244 l244 y244 z244 st244 hQ244
    subst l244 y244 z244
    obtain ⟨rfl, Nq244, e244⟩ := hQ244
    have N244 := Fr.app N242 Nq244
    let LL245 : Array Slot := #[.val (.int p0), .val (.int p1), .val (.int p2), .val (.int p3), .val (.int p4), .val (.int i2), .val (.int (1 : Int32)), .val (.ref b110), .val (.ref b118), .val (.long j131), .second, .val (.long j133), .second, .val (.long j135), .second, .val (.long j138), .second, .val (.ref b142), .val (.ref r_156), .val (.int ((((263 : Int32) + (own_n j131)) + (own_n j133)) + (own_n j138))), .val (.ref r_213)]
    obtain ⟨cl_a246, Ar_a246, q_a246, S_a246, N_a246, H_a246⟩ := id q213_0
    have P247 : ∀ t, Steps p.tables e below (T244.setTop (mkF m 342 LL245 [(.int (1 : Int32))])) t → Steps p.tables e below ST t := by
      intro t kk
      refine P237 _ ?_
      show Steps p.tables e below (T213.setTop (mkF m 291 LL224 [])) _
      refine XS.sipush X213.here hx rfl (hb hby at_291) ?_
      show Steps p.tables e below (T213.setTop (mkF m 294 LL224 [(.int (263 : Int32))])) _
      refine XS.istore X213.here hx rfl (hb hby at_294) rfl (l' := LL238) rfl ?_
      show Steps p.tables e below (T213.setTop (mkF m 296 LL238 [])) _
      refine XS.aload X213.here hx rfl (hb hby at_296) rfl rfl ?_
      show Steps p.tables e below (T213.setTop (mkF m 298 LL238 [(.ref r_213)])) _
      refine XS.iload X213.here hx rfl (hb hby at_298) rfl ?_
      show Steps p.tables e below (T213.setTop (mkF m 300 LL238 [(.int (263 : Int32)), (.ref r_213)])) _
      refine XS.lload X213.here hx rfl (hb hby at_300) rfl ?_
      show Steps p.tables e below (T213.setTop (mkF m 302 LL238 [(.long j131), (.int (263 : Int32)), (.ref r_213)])) _
      refine st239 _ ?_
      show Steps p.tables e below (T239.setTop (mkF m 305 LL238 [(.int ((263 : Int32) + (own_n j131)))])) _
      refine XS.istore X239.here hx rfl (hb hby at_305) rfl (l' := LL241) rfl ?_
      show Steps p.tables e below (T239.setTop (mkF m 307 LL241 [])) _
      refine XS.aload X239.here hx rfl (hb hby at_307) rfl rfl ?_
      show Steps p.tables e below (T239.setTop (mkF m 309 LL241 [(.ref r_213)])) _
      refine XS.iload X239.here hx rfl (hb hby at_309) rfl ?_
      show Steps p.tables e below (T239.setTop (mkF m 311 LL241 [(.int ((263 : Int32) + (own_n j131))), (.ref r_213)])) _
      refine XS.lload X239.here hx rfl (hb hby at_311) rfl ?_
      show Steps p.tables e below (T239.setTop (mkF m 313 LL241 [(.long j133), (.int ((263 : Int32) + (own_n j131))), (.ref r_213)])) _
      refine st242 _ ?_
      show Steps p.tables e below (T242.setTop (mkF m 316 LL241 [(.int (((263 : Int32) + (own_n j131)) + (own_n j133)))])) _
      refine XS.istore X242.here hx rfl (hb hby at_316) rfl (l' := LL243) rfl ?_
      show Steps p.tables e below (T242.setTop (mkF m 318 LL243 [])) _
      refine XS.aload X242.here hx rfl (hb hby at_318) rfl rfl ?_
      show Steps p.tables e below (T242.setTop (mkF m 320 LL243 [(.ref r_213)])) _
      refine XS.iload X242.here hx rfl (hb hby at_320) rfl ?_
      show Steps p.tables e below (T242.setTop (mkF m 322 LL243 [(.int (((263 : Int32) + (own_n j131)) + (own_n j133))), (.ref r_213)])) _
      refine XS.lload X242.here hx rfl (hb hby at_322) rfl ?_
      show Steps p.tables e below (T242.setTop (mkF m 324 LL243 [(.long j138), (.int (((263 : Int32) + (own_n j131)) + (own_n j133))), (.ref r_213)])) _
      refine st244 _ ?_
      show Steps p.tables e below (T244.setTop (mkF m 327 LL243 [(.int ((((263 : Int32) + (own_n j131)) + (own_n j133)) + (own_n j138)))])) _
      refine XS.istore X244.here hx rfl (hb hby at_327) rfl (l' := LL245) rfl ?_
      show Steps p.tables e below (T244.setTop (mkF m 329 LL245 [])) _
      refine XS.iload X244.here hx rfl (hb hby at_329) rfl ?_
      show Steps p.tables e below (T244.setTop (mkF m 331 LL245 [(.int ((((263 : Int32) + (own_n j131)) + (own_n j133)) + (own_n j138)))])) _
      refine XS.aload X244.here hx rfl (hb hby at_331) rfl rfl ?_
      show Steps p.tables e below (T244.setTop (mkF m 333 LL245 [(.ref r_213), (.int ((((263 : Int32) + (own_n j131)) + (own_n j133)) + (own_n j138)))])) _
      refine X244.arraylength hx (by rw [e244]; exact Ar_a246.1) (State.isArrayOf_alike hZ.alike Ar_a246.2.1) (g := (mkF m 333 LL245 [(.ref r_213), (.int ((((263 : Int32) + (own_n j131)) + (own_n j133)) + (own_n j138)))])) rfl rfl (hb hby at_333) _ ?_
      rw [len_of S_a246 N_a246]
      show Steps p.tables e below (T244.setTop (mkF m 334 LL245 [(.int ((((263 : Int32) + (own_n j131)) + (own_n j133)) + (own_n ((j135 <<< ((1 : Int32) &&& 0x3f).toInt64) ^^^ (j135 >>> ((63 : Int32) &&& 0x3f).toInt64))))), (.int ((((263 : Int32) + (own_n j131)) + (own_n j133)) + (own_n j138)))])) _
      refine XS.icmpNo X244.here hx rfl (hb hby at_334) rfl (XT.ii_ne_f (by rw [(own_zz p3 j135 j138 h_j135 h_j138).1])) ?_
      show Steps p.tables e below (T244.setTop (mkF m 337 LL245 [])) _
      refine XS.iconst X244.here hx rfl (hb hby at_337) ?_
      show Steps p.tables e below (T244.setTop (mkF m 338 LL245 [(.int (1 : Int32))])) _
      refine XS.goto X244.here hx rfl (pc0 := 338) (pc' := 342) rfl (hb hby at_338) (by decide) (by decide) ?_
      show Steps p.tables e below (T244.setTop (mkF m 342 LL245 [(.int (1 : Int32))])) _
      exact kk
    obtain ⟨fs, hr, hrun, hended, hW, hsame⟩ := X244.leave (v := some (.int (1 : Int32))) (fun h => by rw [Bd.returns] at h; cases h)
    refine ⟨_, _, P247 _ ?_, hrun, hended, _, _, rfl, ?_, ⟨_, rfl⟩, hW, hsame.mono (by decide) (by decide)⟩
    · exact retN X244 hx (t := .boolean) Bd.returns (by simp) (hb hby at_342) hr
    · exact ⟨rfl, N244⟩
set_option maxRecDepth 65536 in
set_option maxHeartbeats 40000000 in
theorem comes_1 {Post : Tables → Env → Array Value → State → Outcome → State → Prop} (hpost : ∀ tb e args s v u, (limb_1_1.after args s (.returned v) u = true ∧ limb_1_2.after args s (.returned v) u = true ∧ True) → FrameEnd s (.returned v) u (Jvm.fieldLocs frame_1_writes args s ++ Jvm.arrayLocs frame_1_arrays args s ++ Jvm.staticLocs frame_1_statics s) 32 3776 → Post tb e args s (.returned v) u) :
    ArmFor flags0 classFile x code maxLocals ret World_1 tables_1 room_1 Calls_1 rest_1 Pre_1 Post := by
  intro l hfl _ _ p e ha hc hk s m args below hf hA hF happ hP
  obtain ⟨hcalls, hrest, hpre⟩ := hP
  obtain ⟨-, -, -, hnamed, -, -, -, hat⟩ := (Spec.applies_iff hf).mp happ
  obtain ⟨hg, hn⟩ := and_e (Cond.before_iff.mp (show (Jvm.Cond.and given_1 narrow_1).before args s = true from hpre))
  obtain ⟨g0, gr0⟩ := and_e hg
  obtain ⟨g1, gr1⟩ := and_e gr0
  obtain ⟨g2, gr2⟩ := and_e gr1
  obtain ⟨g3, gr3⟩ := and_e gr2
  obtain ⟨g4, gr4⟩ := and_e gr3
  obtain ⟨w0, w1, w2, w3, w4, rfl⟩ : ∃ w0 w1 w2 w3 w4 : Value, args = #[w0, w1, w2, w3, w4] := by
    have hs : args.size = 5 := by simpa [Cond.value, given_1] using g0
    obtain ⟨L⟩ := args
    match L, hs with
    | [w0, w1, w2, w3, w4], _ => exact ⟨w0, w1, w2, w3, w4, rfl⟩
  have hw := fun d (hd : d ∈ tables_1) => atoms_spec (ws := Jvm.Cond.code x code maxLocals ret :: tables_1) hat d (List.mem_cons_of_mem _ hd)
  have hfit : Fit s := fun {y c} hc i hi => by
    obtain ⟨ha, rfl⟩ := Array.getElem?_eq_some_iff.mp hc
    have q := List.all_eq_true.mp ((Array.all_eq_true_iff_forall_mem.mp hF) _ (Array.getElem_mem ha)) i (List.mem_range.mpr hi)
    simpa [Array.getElem?_eq_getElem hi] using q
  obtain ⟨i0, ei0⟩ := is_v g1
  obtain rfl : w0 = (.int i0) := Option.some.inj ei0
  obtain ⟨i1, ei1⟩ := is_v g2
  obtain rfl : w1 = (.int i1) := Option.some.inj ei1
  obtain ⟨i2, ei2⟩ := is_v g3
  obtain rfl : w2 = (.int i2) := Option.some.inj ei2
  obtain ⟨i3, ei3⟩ := is_v g4
  obtain rfl : w3 = (.int i3) := Option.some.inj ei3
  obtain ⟨i4, ei4⟩ := is_v gr4
  obtain rfl : w4 = (.int i4) := Option.some.inj ei4
  obtain ⟨hsets, -⟩ := atoms_of _ (rest_1_c_eq ▸ (show rest_1_c.before _ s = true from hrest))
  have n2 := not_v (Cond.before_iff.mp (hsets _ (List.mem_of_getElem? (i := 2) rfl)))
  obtain ⟨cs, ecs⟩ := is_v (Cond.before_iff.mp (hsets _ (List.mem_of_getElem? (i := 1) rfl)))
  have pr0 : Sta s s.heap "java/lang/String" "COMPACT_STRINGS" "Z" (.int cs) := Sta.start ecs (Or.inl (hsets _ (List.mem_of_getElem? (i := 0) rfl)))
  have pr1 : ¬ (cs = (0 : Int32)) := gotF (Cond.eq_ints ecs (Term.int_eval (0))) n2
  obtain ⟨u, eu⟩ := exa_v (Cond.before_iff.mp (hsets _ (List.mem_of_getElem? (i := 17) rfl)))
  have pr2 : Sta s s.heap "java/nio/charset/StandardCharsets" "UTF_8" "Ljava/nio/charset/Charset;" (.ref u) := Sta.start (Cond.eq_refs (hsets _ (List.mem_of_getElem? (i := 13) rfl)) eu rfl) (Or.inl (hsets _ (List.mem_of_getElem? (i := 10) rfl)))
  have pr3 : Sta s s.heap "sun/nio/cs/UTF_8" "INSTANCE" "Lsun/nio/cs/UTF_8;" (.ref u) := Sta.start eu (Or.inl (hsets _ (List.mem_of_getElem? (i := 12) rfl)))
  have pr4 : Sta s s.heap "java/lang/Integer$IntegerCache" "high" "I" (.int (127 : Int32)) := Sta.start (Cond.eq_int (hsets _ (List.mem_of_getElem? (i := 21) rfl)) rfl) (Or.inl (hsets _ (List.mem_of_getElem? (i := 19) rfl)))
  obtain ⟨ca, eca⟩ := exa_v (Cond.before_iff.mp (hsets _ (List.mem_of_getElem? (i := 23) rfl)))
  have pr5 : Sta s s.heap "java/lang/Integer$IntegerCache" "cache" "[Ljava/lang/Integer;" (.ref ca) := Sta.start eca (Or.inr ⟨(hw _ (List.mem_of_getElem? (i := 171) rfl)), (hsets _ (List.mem_of_getElem? (i := 20) rfl))⟩)
  have pr6 := own_cac hfit eca (Cond.before_iff.mp (hsets _ (List.mem_of_getElem? (i := 22) rfl))) (hsets _ (List.mem_of_getElem? (i := 24) rfl))
  obtain ⟨n, o, h1, h2, h3, _, L, rfl, ⟨rfl, N⟩, hq⟩ := rm0 l s _ hw tables_1 i0 i1 i2 i3 i4 cs u ca s.heap s.heap.size (Nat.le_refl _) pr0 pr1 pr2 pr3 pr4 pr5 pr6 p e ha hc hk s m _ below hf ((Spec.applies_iff_loose hf).mp happ).1 ⟨rfl, State.Warmed39.refl s, rfl⟩ trivial
  refine ⟨n, _, h1, h2, h3, hpost _ _ _ _ _ _ ⟨Cond.after_iff.mpr rfl, Cond.after_iff.mpr (eq_i res_at (Term.int_eval (1)) rfl), trivial⟩ ⟨hq.1, hq.2.1, (hq.2.2.sift fun y hy => Or.inr (N y hy)).mono (by decide) (by decide)⟩⟩
theorem main_1_1 : Claimed_1_1 := comes_1 fun _ _ _ _ _ _ h hF => ⟨h.1, hF⟩
theorem main_1_2 : Claimed_1_2 := comes_1 fun _ _ _ _ _ _ h hF => ⟨h.2.1, hF⟩
end Jvm.Pilot.@@N@@
namespace Jvm.Pilot.@@N@@
open Jvm Jvm.ClassFile Sem Op Lib Jvm.Free Jvm.Stand Jvm.Pilot.@@N@@.Jvm.D
/-! MADE BY PROGRAM (witnessworld.py) out of the Statement's table words and the real class files: 39 classes; the members and pool entries that the words name. The judged class is class 1, her method 2. -/
namespace start1
open Jvm.ClassFile
def u (s : String) : CpInfo := .utf8 (stringToUtf16 s)
/-- a pool by its gaps: so many unusable entries, then the entry; so many at the end -/
def gap : Nat → List CpInfo → List CpInfo
  | 0, r => r
  | n + 1, r => .unusable :: gap n r
def poolList (es : List (Nat × CpInfo)) (last : Nat) : List CpInfo := es.foldr (fun e r => gap e.1 (e.2 :: r)) (gap last [])
def pool (es : List (Nat × CpInfo)) (last : Nat) : Array CpInfo := ⟨poolList es last⟩
def fileOf (pool : Array CpInfo) (this : Nat) (attrs : Array Attribute := #[]) (ms : Array MethodInfo := #[]) (fl : Nat := 33) (sup : Nat := 0) (ifs : Array Nat := #[]) (fds : Array FieldInfo := #[]) : ClassFile where
  minorVersion := 0
  majorVersion := 65
  constantPool := pool
  accessFlags := fl
  thisClass := this
  superClass := sup
  interfaces := ifs
  fields := fds
  methods := ms
  attributes := attrs
def plain (name : String) (sup : Option ClassId) : Class where
  name := name
  kind := .ordinary
  loader := none
  accessFlags := 33
  super := sup
  interfaces := #[]
  cf := none
  fields := #[]
  methods := #[]
  instanceTypes := #[]
  staticTypes := #[]
  resolved := #[]
  callSites := []
  init := .initialized
  statics := none
  mirror := none

def pool0 : Array CpInfo := pool [(5, u "<init>"), (0, u "()V"), (1, .class_ 10), (1, u "java/lang/Object"), (16, u "hashCode"), (0, u "()I"), (67, u "clone"), (0, u "()Ljava/lang/Object;")] 26

def k0c0 : Code := { maxStack := 0, maxLocals := 1, code := object_method_1_code, exceptionTable := #[], attributes := #[] }
def k0m0 : Method := { name := "<init>", desc := "()V", sig := { parameters := [], returnType := none }, accessFlags := 1, code := some k0c0 }
def k0m1 : Method := { name := "hashCode", desc := "()I", sig := { parameters := [], returnType := some .int }, accessFlags := 257, code := none }
def k0m2 : Method := { name := "clone", desc := "()Ljava/lang/Object;", sig := { parameters := [], returnType := some (.object "java/lang/Object") }, accessFlags := 260, code := none }
/-- java/lang/Object -/
def k0 : Class := { plain "java/lang/Object" none with
  accessFlags := 33
  interfaces := #[]
  cf := some (fileOf pool0 8 #[] #[{ accessFlags := 1, nameIndex := 5, descriptorIndex := 6, attributes := #[] }, { accessFlags := 257, nameIndex := 27, descriptorIndex := 28, attributes := #[] }, { accessFlags := 260, nameIndex := 96, descriptorIndex := 97, attributes := #[] }] 33 0 #[] #[])
  fields := #[]
  methods := #[k0m0, k0m1, k0m2]
  instanceTypes := #[]
  staticTypes := #[]
  resolved := Array.replicate 124 none
  statics := none }

def pool1 : Array CpInfo := pool [(2, .class_ 4), (1, u "java/lang/Object"), (0, u "<init>"), (0, u "()V"), (0, .long 128), (1, .long 127), (1, .class_ 12), (0, u "java/lang/String"), (0, .methodref 11 14), (0, .nameAndType 5 15), (0, u "([C)V"), (0, .long 2), (1, .long 18446744073709551614), (1, .class_ 21), (0, u "com/example/meterwright/meterwright/RecordBody$Writer"), (0, .methodref 20 23), (0, .nameAndType 5 24), (0, u "(B)V"), (0, .methodref 20 26), (0, .nameAndType 27 28), (0, u "toByteArray"), (0, u "()[B"), (0, .methodref 20 30), (0, .nameAndType 31 32), (0, u "text"), (0, u "(Ljava/lang/String;)V"), (0, .methodref 20 34), (0, .nameAndType 35 36), (0, u "whole"), (0, u "(J)V"), (0, .methodref 20 38), (0, .nameAndType 39 36), (0, u "number"), (0, .methodref 41 42), (0, .class_ 43), (0, .nameAndType 44 45), (0, u "com/example/meterwright/meterwright/WriterToByteArrayPinLaw"), (0, u "at"), (0, u "([BIJ)I"), (3, u "law"), (0, u "(IIIII)Z")] 10

def k1m0 : Method := { name := "<init>", desc := "()V", sig := { parameters := [], returnType := none }, accessFlags := 1, code := none }
def k1c1 : Code := { maxStack := 5, maxLocals := 4, code := method_2_code, exceptionTable := #[], attributes := #[] }
def k1m1 : Method := { name := "at", desc := "([BIJ)I", sig := { parameters := [(.array .byte), .int, .long], returnType := some .int }, accessFlags := 10, code := some k1c1 }
def k1c2 : Code := { maxStack := 4, maxLocals := 21, code := code, exceptionTable := #[], attributes := #[] }
def k1m2 : Method := { name := "law", desc := "(IIIII)Z", sig := { parameters := [.int, .int, .int, .int, .int], returnType := some .boolean }, accessFlags := 9, code := some k1c2 }
/-- com/example/meterwright/meterwright/WriterToByteArrayPinLaw -/
def k1 : Class := { plain "com/example/meterwright/meterwright/WriterToByteArrayPinLaw" (some 0) with
  accessFlags := 49
  interfaces := #[]
  cf := some (fileOf pool1 41 #[] #[{ accessFlags := 1, nameIndex := 5, descriptorIndex := 6, attributes := #[] }, { accessFlags := 10, nameIndex := 44, descriptorIndex := 45, attributes := #[] }, { accessFlags := 9, nameIndex := 49, descriptorIndex := 50, attributes := #[] }] 49 2 #[] #[])
  fields := #[]
  methods := #[k1m0, k1m1, k1m2]
  instanceTypes := #[]
  staticTypes := #[]
  resolved := Array.replicate 61 none
  statics := none }

def pool2 : Array CpInfo := pool [(1, .class_ 2), (0, u "java/io/Serializable"), (0, .class_ 4), (0, u "java/lang/Object")] 2

/-- java/io/Serializable -/
def k2 : Class := { plain "java/io/Serializable" (some 0) with
  accessFlags := 1537
  interfaces := #[]
  cf := some (fileOf pool2 1 #[] #[] 1537 3 #[] #[])
  fields := #[]
  methods := #[]
  instanceTypes := #[]
  staticTypes := #[]
  resolved := Array.replicate 7 none
  statics := none }

def pool3 : Array CpInfo := pool [(1, .class_ 2), (0, u "java/lang/Comparable"), (0, .class_ 4), (0, u "java/lang/Object")] 7

/-- java/lang/Comparable -/
def k3 : Class := { plain "java/lang/Comparable" (some 0) with
  accessFlags := 1537
  interfaces := #[]
  cf := some (fileOf pool3 1 #[] #[] 1537 3 #[] #[])
  fields := #[]
  methods := #[]
  instanceTypes := #[]
  staticTypes := #[]
  resolved := Array.replicate 12 none
  statics := none }

def pool4 : Array CpInfo := pool [(2, .class_ 4), (1, u "java/lang/CharSequence"), (42, .class_ 48), (0, u "java/lang/CharSequence$1CodePointIterator"), (10, .class_ 60), (0, u "java/lang/CharSequence$1CharIterator"), (5, .class_ 67), (0, u "java/lang/Object")] 63

/-- java/lang/CharSequence -/
def k4 : Class := { plain "java/lang/CharSequence" (some 0) with
  accessFlags := 1537
  interfaces := #[]
  cf := some (fileOf pool4 2 #[.nestMembers #[47, 59]] #[] 1537 66 #[] #[])
  fields := #[]
  methods := #[]
  instanceTypes := #[]
  staticTypes := #[]
  resolved := Array.replicate 131 none
  statics := none }

def pool5 : Array CpInfo := pool [(1, .class_ 2), (0, u "java/lang/constant/Constable"), (0, .class_ 4), (0, u "java/lang/Object")] 6

/-- java/lang/constant/Constable -/
def k5 : Class := { plain "java/lang/constant/Constable" (some 0) with
  accessFlags := 1537
  interfaces := #[]
  cf := some (fileOf pool5 1 #[] #[] 1537 3 #[] #[])
  fields := #[]
  methods := #[]
  instanceTypes := #[]
  staticTypes := #[]
  resolved := Array.replicate 11 none
  statics := none }

def pool6 : Array CpInfo := pool [(1, .class_ 2), (0, u "java/lang/constant/ConstantDesc"), (0, .class_ 4), (0, u "java/lang/Object")] 32

/-- java/lang/constant/ConstantDesc -/
def k6 : Class := { plain "java/lang/constant/ConstantDesc" (some 0) with
  accessFlags := 1537
  interfaces := #[]
  cf := some (fileOf pool6 1 #[] #[] 1537 3 #[] #[])
  fields := #[]
  methods := #[]
  instanceTypes := #[]
  staticTypes := #[]
  resolved := Array.replicate 37 none
  statics := none }

def pool7 : Array CpInfo := pool [(1, .methodref 2 3), (0, .class_ 4), (0, .nameAndType 5 6), (0, u "java/lang/Object"), (0, u "<init>"), (0, u "()V"), (2, .fieldref 10 11), (0, .class_ 12), (0, .nameAndType 13 14), (0, u "java/lang/String"), (0, u "value"), (0, u "[B"), (0, .fieldref 10 16), (0, .nameAndType 17 18), (0, u "coder"), (0, u "B"), (0, .fieldref 10 20), (0, .nameAndType 21 22), (0, u "hash"), (0, u "I"), (0, .fieldref 10 24), (0, .nameAndType 25 26), (0, u "hashIsZero"), (0, u "Z"), (0, .methodref 10 28), (0, .nameAndType 5 29), (0, u "([CIILjava/lang/Void;)V"), (8, .fieldref 10 39), (0, .nameAndType 40 26), (0, u "COMPACT_STRINGS"), (1, .class_ 44), (1, u "java/lang/StringUTF16"), (0, u "compress"), (1, .methodref 42 48), (0, .nameAndType 49 50), (0, u "coderFromArrayLen"), (0, u "([BI)B"), (35, .fieldref 87 88), (0, .class_ 89), (0, .nameAndType 90 91), (0, u "sun/nio/cs/UTF_8"), (0, u "INSTANCE"), (0, u "Lsun/nio/cs/UTF_8;"), (1, .class_ 95), (1, u "java/lang/StringCoding"), (11, .class_ 109), (1, u "java/lang/StringLatin1"), (18, .methodref 93 129), (0, .nameAndType 130 131), (0, u "hasNegatives"), (0, u "([BII)Z"), (10, u "()Z"), (34, .methodref 42 178), (0, .nameAndType 45 179), (0, u "([CII)[B"), (72, .methodref 10 253), (0, .nameAndType 254 255), (0, u "encodeUTF8"), (0, u "(B[BZ)[B"), (23, .methodref 280 281), (0, .class_ 14), (0, .nameAndType 282 283), (0, u "clone"), (0, u "()Ljava/lang/Object;"), (33, u "encode"), (16, u "()I"), (0, .methodref 10 336), (0, .nameAndType 17 337), (0, u "()B"), (154, .methodref 10 493), (0, .nameAndType 494 142), (0, u "isLatin1"), (37, u "getBytes"), (2, .methodref 10 536), (0, .nameAndType 317 537), (0, u "(Ljava/nio/charset/Charset;B[B)[B"), (37, .class_ 576), (0, u "java/lang/CharSequence"), (22, u "CASE_INSENSITIVE_ORDER"), (0, u "Ljava/util/Comparator;"), (27, .methodref 107 629), (0, .nameAndType 630 631), (0, u "hashCode"), (0, u "([B)I"), (378, u "([C)V"), (90, u "serialPersistentFields"), (0, u "[Ljava/io/ObjectStreamField;"), (0, .class_ 1104), (0, u "java/lang/String$CaseInsensitiveComparator"), (1, .class_ 1107), (0, u "java/io/Serializable"), (0, .class_ 1109), (0, u "java/lang/Comparable"), (0, .class_ 1111), (0, u "java/lang/constant/Constable"), (0, .class_ 1113), (0, u "java/lang/constant/ConstantDesc"), (2, u "serialVersionUID"), (0, u "J"), (3, u "REPL"), (0, u "C"), (2, u "LATIN1"), (1, u "UTF16"), (117, u "(Ljava/nio/charset/Charset;)[B")] 205

def k7m0 : Method := { name := "<init>", desc := "()V", sig := { parameters := [], returnType := none }, accessFlags := 1, code := none }
def k7c1 : Code := { maxStack := 5, maxLocals := 2, code := jdk_42_method_3_code, exceptionTable := #[], attributes := #[] }
def k7m1 : Method := { name := "<init>", desc := "([C)V", sig := { parameters := [(.array .char)], returnType := none }, accessFlags := 1, code := some k7c1 }
def k7c2 : Code := { maxStack := 4, maxLocals := 3, code := jdk_42_method_18_code, exceptionTable := #[], attributes := #[] }
def k7m2 : Method := { name := "encode", desc := "(Ljava/nio/charset/Charset;B[B)[B", sig := { parameters := [(.object "java/nio/charset/Charset"), .byte, (.array .byte)], returnType := some (.array .byte) }, accessFlags := 10, code := some k7c2 }
def k7c3 : Code := { maxStack := 5, maxLocals := 9, code := jdk_42_method_46_code, exceptionTable := #[], attributes := #[] }
def k7m3 : Method := { name := "encodeUTF8", desc := "(B[BZ)[B", sig := { parameters := [.byte, (.array .byte), .boolean], returnType := some (.array .byte) }, accessFlags := 10, code := some k7c3 }
def k7c4 : Code := { maxStack := 3, maxLocals := 2, code := jdk_42_method_64_code, exceptionTable := #[], attributes := #[] }
def k7m4 : Method := { name := "getBytes", desc := "(Ljava/nio/charset/Charset;)[B", sig := { parameters := [(.object "java/nio/charset/Charset")], returnType := some (.array .byte) }, accessFlags := 1, code := some k7c4 }
def k7c5 : Code := { maxStack := 2, maxLocals := 2, code := jdk_42_method_78_code, exceptionTable := #[], attributes := #[] }
def k7m5 : Method := { name := "hashCode", desc := "()I", sig := { parameters := [], returnType := some .int }, accessFlags := 1, code := some k7c5 }
def k7c6 : Code := { maxStack := 4, maxLocals := 6, code := jdk_42_method_149_code, exceptionTable := #[], attributes := #[] }
def k7m6 : Method := { name := "<init>", desc := "([CIILjava/lang/Void;)V", sig := { parameters := [(.array .char), .int, .int, (.object "java/lang/Void")], returnType := none }, accessFlags := 2, code := some k7c6 }
def k7c7 : Code := { maxStack := 1, maxLocals := 1, code := jdk_42_method_152_code, exceptionTable := #[], attributes := #[] }
def k7m7 : Method := { name := "coder", desc := "()B", sig := { parameters := [], returnType := some .byte }, accessFlags := 0, code := some k7c7 }
def k7c8 : Code := { maxStack := 1, maxLocals := 1, code := jdk_42_method_154_code, exceptionTable := #[], attributes := #[] }
def k7m8 : Method := { name := "isLatin1", desc := "()Z", sig := { parameters := [], returnType := some .boolean }, accessFlags := 0, code := some k7c8 }
/-- java/lang/String -/
def k7 : Class := { plain "java/lang/String" (some 0) with
  accessFlags := 49
  interfaces := #[2, 3, 4, 5, 6]
  cf := some (fileOf pool7 10 #[.nestMembers #[1103]] #[{ accessFlags := 1, nameIndex := 5, descriptorIndex := 6, attributes := #[] }, { accessFlags := 1, nameIndex := 5, descriptorIndex := 1010, attributes := #[] }, { accessFlags := 10, nameIndex := 317, descriptorIndex := 537, attributes := #[] }, { accessFlags := 10, nameIndex := 254, descriptorIndex := 255, attributes := #[] }, { accessFlags := 1, nameIndex := 532, descriptorIndex := 1245, attributes := #[] }, { accessFlags := 1, nameIndex := 630, descriptorIndex := 334, attributes := #[] }, { accessFlags := 2, nameIndex := 5, descriptorIndex := 29, attributes := #[] }, { accessFlags := 0, nameIndex := 17, descriptorIndex := 337, attributes := #[] }, { accessFlags := 0, nameIndex := 494, descriptorIndex := 142, attributes := #[] }] 49 2 #[1106, 1108, 575, 1110, 1112] #[{ accessFlags := 18, nameIndex := 13, descriptorIndex := 14, attributes := #[] }, { accessFlags := 18, nameIndex := 17, descriptorIndex := 18, attributes := #[] }, { accessFlags := 2, nameIndex := 21, descriptorIndex := 22, attributes := #[] }, { accessFlags := 2, nameIndex := 25, descriptorIndex := 26, attributes := #[] }, { accessFlags := 26, nameIndex := 1116, descriptorIndex := 1117, attributes := #[] }, { accessFlags := 24, nameIndex := 40, descriptorIndex := 26, attributes := #[] }, { accessFlags := 26, nameIndex := 1101, descriptorIndex := 1102, attributes := #[] }, { accessFlags := 26, nameIndex := 1121, descriptorIndex := 1122, attributes := #[] }, { accessFlags := 25, nameIndex := 599, descriptorIndex := 600, attributes := #[] }, { accessFlags := 24, nameIndex := 1125, descriptorIndex := 18, attributes := #[] }, { accessFlags := 24, nameIndex := 1127, descriptorIndex := 18, attributes := #[] }])
  fields := #[{ name := "value", type := (.array .byte), accessFlags := 18, slot := 0, constantValue := 0 }, { name := "coder", type := .byte, accessFlags := 18, slot := 1, constantValue := 0 }, { name := "hash", type := .int, accessFlags := 2, slot := 2, constantValue := 0 }, { name := "hashIsZero", type := .boolean, accessFlags := 2, slot := 3, constantValue := 0 }, { name := "serialVersionUID", type := .long, accessFlags := 26, slot := 0, constantValue := 0 }, { name := "COMPACT_STRINGS", type := .boolean, accessFlags := 24, slot := 1, constantValue := 0 }, { name := "serialPersistentFields", type := (.array (.object "java/io/ObjectStreamField")), accessFlags := 26, slot := 2, constantValue := 0 }, { name := "REPL", type := .char, accessFlags := 26, slot := 3, constantValue := 0 }, { name := "CASE_INSENSITIVE_ORDER", type := (.object "java/util/Comparator"), accessFlags := 25, slot := 4, constantValue := 0 }, { name := "LATIN1", type := .byte, accessFlags := 24, slot := 5, constantValue := 0 }, { name := "UTF16", type := .byte, accessFlags := 24, slot := 6, constantValue := 0 }]
  methods := #[k7m0, k7m1, k7m2, k7m3, k7m4, k7m5, k7m6, k7m7, k7m8]
  instanceTypes := #[(.array .byte), .byte, .int, .boolean]
  staticTypes := #[.long, .boolean, (.array (.object "java/io/ObjectStreamField")), .char, (.object "java/util/Comparator"), .byte, .byte]
  resolved := Array.replicate 1451 none
  statics := some 0 }

def pool8 : Array CpInfo := pool [(6, .class_ 8), (1, u "java/lang/Object"), (0, u "<init>"), (0, u "()V"), (1, .class_ 14), (1, u "java/lang/StringUTF16"), (31, u "$assertionsDisabled"), (0, u "Z"), (13, u "HI_BYTE_SHIFT"), (0, u "I"), (2, u "LO_BYTE_SHIFT"), (49, .methodref 12 116), (0, .nameAndType 117 118), (0, u "compress"), (0, u "([CI[BII)I"), (3, u "([CII)[B"), (138, u "coderFromArrayLen"), (0, u "([BI)B"), (106, .class_ 371), (1, u "java/lang/StringUTF16$LinesSpliterator"), (58, u "MAX_LENGTH"), (196, .class_ 628), (0, u "java/lang/StringUTF16$CodePointsSpliterator"), (0, .class_ 630), (0, u "java/lang/StringUTF16$CharsSpliterator")] 4

def k8m0 : Method := { name := "<init>", desc := "()V", sig := { parameters := [], returnType := none }, accessFlags := 0, code := none }
def k8c1 : Code := { maxStack := 2, maxLocals := 2, code := jdk_52_method_15_code, exceptionTable := #[], attributes := #[] }
def k8m1 : Method := { name := "coderFromArrayLen", desc := "([BI)B", sig := { parameters := [(.array .byte), .int], returnType := some .byte }, accessFlags := 8, code := some k8c1 }
def k8c2 : Code := { maxStack := 5, maxLocals := 6, code := jdk_52_method_16_code, exceptionTable := #[], attributes := #[] }
def k8m2 : Method := { name := "compress", desc := "([CII)[B", sig := { parameters := [(.array .char), .int, .int], returnType := some (.array .byte) }, accessFlags := 9, code := some k8c2 }
def k8c3 : Code := { maxStack := 3, maxLocals := 7, code := jdk_52_method_21_code, exceptionTable := #[], attributes := #[] }
def k8m3 : Method := { name := "compress", desc := "([CI[BII)I", sig := { parameters := [(.array .char), .int, (.array .byte), .int, .int], returnType := some .int }, accessFlags := 9, code := some k8c3 }
/-- java/lang/StringUTF16 -/
def k8 : Class := { plain "java/lang/StringUTF16" (some 0) with
  accessFlags := 48
  interfaces := #[]
  cf := some (fileOf pool8 12 #[.nestMembers #[627, 629, 369]] #[{ accessFlags := 0, nameIndex := 9, descriptorIndex := 10, attributes := #[] }, { accessFlags := 8, nameIndex := 261, descriptorIndex := 262, attributes := #[] }, { accessFlags := 9, nameIndex := 117, descriptorIndex := 122, attributes := #[] }, { accessFlags := 9, nameIndex := 117, descriptorIndex := 118, attributes := #[] }] 48 6 #[] #[{ accessFlags := 26, nameIndex := 61, descriptorIndex := 62, attributes := #[] }, { accessFlags := 26, nameIndex := 65, descriptorIndex := 62, attributes := #[] }, { accessFlags := 24, nameIndex := 430, descriptorIndex := 62, attributes := #[] }, { accessFlags := 4120, nameIndex := 46, descriptorIndex := 47, attributes := #[] }])
  fields := #[{ name := "HI_BYTE_SHIFT", type := .int, accessFlags := 26, slot := 0, constantValue := 0 }, { name := "LO_BYTE_SHIFT", type := .int, accessFlags := 26, slot := 1, constantValue := 0 }, { name := "MAX_LENGTH", type := .int, accessFlags := 24, slot := 2, constantValue := 0 }, { name := "$assertionsDisabled", type := .boolean, accessFlags := 4120, slot := 3, constantValue := 0 }]
  methods := #[k8m0, k8m1, k8m2, k8m3]
  instanceTypes := #[]
  staticTypes := #[.int, .int, .int, .boolean]
  resolved := Array.replicate 635 none
  statics := none }

def pool9 : Array CpInfo := pool [(1, .methodref 2 3), (0, .class_ 4), (0, .nameAndType 5 6), (0, u "java/lang/Object"), (0, u "<init>"), (0, u "()V"), (0, .fieldref 8 9), (0, .class_ 10), (0, .nameAndType 11 12), (0, u "com/example/meterwright/meterwright/RecordBody$Writer"), (0, u "bytes"), (0, u "[B"), (0, .class_ 14), (0, u "java/util/HashMap"), (0, .methodref 13 3), (0, .fieldref 8 17), (0, .nameAndType 18 19), (0, u "texts"), (0, u "Ljava/util/Map;"), (0, .methodref 8 21), (0, .nameAndType 22 23), (0, u "room"), (0, u "(I)V"), (0, .fieldref 8 25), (0, .nameAndType 26 27), (0, u "size"), (0, u "I"), (0, .methodref 8 29), (0, .nameAndType 30 31), (0, u "whole"), (0, u "(J)V"), (0, .long 18446744073709551488), (1, .long 128), (1, .interfaceMethodref 37 38), (0, .class_ 39), (0, .nameAndType 40 41), (0, u "java/util/Map"), (0, u "get"), (0, u "(Ljava/lang/Object;)Ljava/lang/Object;"), (0, .class_ 43), (0, u "java/lang/Integer"), (3, u "()I"), (0, .fieldref 49 50), (0, .class_ 51), (0, .nameAndType 52 53), (0, u "java/nio/charset/StandardCharsets"), (0, u "UTF_8"), (0, u "Ljava/nio/charset/Charset;"), (0, .methodref 55 56), (0, .class_ 57), (0, .nameAndType 58 59), (0, u "java/lang/String"), (0, u "getBytes"), (0, u "(Ljava/nio/charset/Charset;)[B"), (0, .interfaceMethodref 37 61), (0, .nameAndType 26 47), (0, .methodref 42 63), (0, .nameAndType 64 65), (0, u "valueOf"), (0, u "(I)Ljava/lang/Integer;"), (0, .interfaceMethodref 37 67), (0, .nameAndType 68 69), (0, u "put"), (0, u "(Ljava/lang/Object;Ljava/lang/Object;)Ljava/lang/Object;"), (0, .methodref 71 72), (0, .class_ 73), (0, .nameAndType 74 75), (0, u "java/lang/System"), (0, u "arraycopy"), (0, u "(Ljava/lang/Object;ILjava/lang/Object;II)V"), (8, u "seconds"), (0, u "J"), (2, u "number"), (9, .methodref 99 100), (0, .class_ 101), (0, .nameAndType 102 103), (0, u "java/util/Arrays"), (0, u "copyOf"), (0, u "([BI)[B"), (0, .methodref 105 106), (0, .class_ 107), (0, .nameAndType 108 109), (0, u "java/lang/Math"), (0, u "max"), (0, u "(II)I"), (2, u "(B)V"), (4, u "text"), (0, u "(Ljava/lang/String;)V"), (4, u "toByteArray"), (0, u "()[B"), (3, .class_ 129), (0, u "com/example/meterwright/meterwright/RecordBody")] 2

def k9c0 : Code := { maxStack := 5, maxLocals := 2, code := prog_25_method_1_code, exceptionTable := #[], attributes := #[] }
def k9m0 : Method := { name := "<init>", desc := "(B)V", sig := { parameters := [.byte], returnType := none }, accessFlags := 0, code := some k9c0 }
def k9c1 : Code := { maxStack := 6, maxLocals := 3, code := prog_25_method_3_code, exceptionTable := #[], attributes := #[] }
def k9m1 : Method := { name := "whole", desc := "(J)V", sig := { parameters := [.long], returnType := none }, accessFlags := 0, code := some k9c1 }
def k9c2 : Code := { maxStack := 6, maxLocals := 3, code := prog_25_method_4_code, exceptionTable := #[], attributes := #[] }
def k9m2 : Method := { name := "number", desc := "(J)V", sig := { parameters := [.long], returnType := none }, accessFlags := 0, code := some k9c2 }
def k9c3 : Code := { maxStack := 5, maxLocals := 4, code := prog_25_method_5_code, exceptionTable := #[], attributes := #[] }
def k9m3 : Method := { name := "text", desc := "(Ljava/lang/String;)V", sig := { parameters := [(.object "java/lang/String")], returnType := none }, accessFlags := 0, code := some k9c3 }
def k9c4 : Code := { maxStack := 2, maxLocals := 1, code := prog_25_method_8_code, exceptionTable := #[], attributes := #[] }
def k9m4 : Method := { name := "toByteArray", desc := "()[B", sig := { parameters := [], returnType := some (.array .byte) }, accessFlags := 0, code := some k9c4 }
def k9c5 : Code := { maxStack := 5, maxLocals := 2, code := prog_25_method_9_code, exceptionTable := #[], attributes := #[] }
def k9m5 : Method := { name := "room", desc := "(I)V", sig := { parameters := [.int], returnType := none }, accessFlags := 2, code := some k9c5 }
/-- com/example/meterwright/meterwright/RecordBody$Writer -/
def k9 : Class := { plain "com/example/meterwright/meterwright/RecordBody$Writer" (some 0) with
  accessFlags := 48
  interfaces := #[]
  cf := some (fileOf pool9 8 #[.nestHost 128] #[{ accessFlags := 0, nameIndex := 5, descriptorIndex := 112, attributes := #[] }, { accessFlags := 0, nameIndex := 30, descriptorIndex := 31, attributes := #[] }, { accessFlags := 0, nameIndex := 88, descriptorIndex := 31, attributes := #[] }, { accessFlags := 0, nameIndex := 117, descriptorIndex := 118, attributes := #[] }, { accessFlags := 0, nameIndex := 123, descriptorIndex := 124, attributes := #[] }, { accessFlags := 2, nameIndex := 22, descriptorIndex := 23, attributes := #[] }] 48 2 #[] #[{ accessFlags := 2, nameIndex := 11, descriptorIndex := 12, attributes := #[] }, { accessFlags := 2, nameIndex := 26, descriptorIndex := 27, attributes := #[] }, { accessFlags := 18, nameIndex := 18, descriptorIndex := 19, attributes := #[] }, { accessFlags := 2, nameIndex := 84, descriptorIndex := 85, attributes := #[] }])
  fields := #[{ name := "bytes", type := (.array .byte), accessFlags := 2, slot := 0, constantValue := 0 }, { name := "size", type := .int, accessFlags := 2, slot := 1, constantValue := 0 }, { name := "texts", type := (.object "java/util/Map"), accessFlags := 18, slot := 2, constantValue := 0 }, { name := "seconds", type := .long, accessFlags := 2, slot := 3, constantValue := 0 }]
  methods := #[k9m0, k9m1, k9m2, k9m3, k9m4, k9m5]
  instanceTypes := #[(.array .byte), .int, (.object "java/util/Map"), .long]
  staticTypes := #[]
  resolved := Array.replicate 132 none
  statics := none }

def pool10 : Array CpInfo := pool [(2, .class_ 4), (1, u "java/util/Map"), (0, u "get"), (0, u "(Ljava/lang/Object;)Ljava/lang/Object;"), (29, .class_ 37), (0, u "java/util/Map$Entry"), (25, u "(Ljava/lang/Object;Ljava/lang/Object;)Ljava/lang/Object;"), (5, u "put"), (23, .class_ 94), (0, u "java/lang/Object"), (25, u "size"), (0, u "()I")] 141

def k10m0 : Method := { name := "size", desc := "()I", sig := { parameters := [], returnType := some .int }, accessFlags := 1025, code := none }
def k10m1 : Method := { name := "get", desc := "(Ljava/lang/Object;)Ljava/lang/Object;", sig := { parameters := [(.object "java/lang/Object")], returnType := some (.object "java/lang/Object") }, accessFlags := 1025, code := none }
def k10m2 : Method := { name := "put", desc := "(Ljava/lang/Object;Ljava/lang/Object;)Ljava/lang/Object;", sig := { parameters := [(.object "java/lang/Object"), (.object "java/lang/Object")], returnType := some (.object "java/lang/Object") }, accessFlags := 1025, code := none }
/-- java/util/Map -/
def k10 : Class := { plain "java/util/Map" (some 0) with
  accessFlags := 1537
  interfaces := #[]
  cf := some (fileOf pool10 2 #[.nestMembers #[36]] #[{ accessFlags := 1025, nameIndex := 120, descriptorIndex := 121, attributes := #[] }, { accessFlags := 1025, nameIndex := 5, descriptorIndex := 6, attributes := #[] }, { accessFlags := 1025, nameIndex := 69, descriptorIndex := 63, attributes := #[] }] 1537 93 #[] #[])
  fields := #[]
  methods := #[k10m0, k10m1, k10m2]
  instanceTypes := #[]
  staticTypes := #[]
  resolved := Array.replicate 263 none
  statics := none }

def pool11 : Array CpInfo := pool [(1, .methodref 2 3), (0, .class_ 4), (0, .nameAndType 5 6), (0, u "java/lang/Object"), (0, u "<init>"), (0, u "()V"), (1, .class_ 10), (1, u "java/util/AbstractMap"), (42, .class_ 54), (0, u "java/util/Map"), (9, u "keySet"), (0, u "Ljava/util/Set;"), (0, .class_ 67), (0, u "java/util/AbstractMap$1"), (5, u "values"), (0, u "Ljava/util/Collection;"), (0, .class_ 76), (0, u "java/util/AbstractMap$2"), (104, .class_ 182), (0, u "java/util/AbstractMap$ViewCollection"), (0, .class_ 184), (0, u "java/util/AbstractMap$SimpleImmutableEntry"), (0, .class_ 186), (0, u "java/util/AbstractMap$SimpleEntry"), (0, .class_ 188), (0, u "java/util/AbstractMap$2$1"), (0, .class_ 190), (0, u "java/util/AbstractMap$1$1")] 5

def k11c0 : Code := { maxStack := 1, maxLocals := 1, code := jdk_71_method_1_code, exceptionTable := #[], attributes := #[] }
def k11m0 : Method := { name := "<init>", desc := "()V", sig := { parameters := [], returnType := none }, accessFlags := 4, code := some k11c0 }
/-- java/util/AbstractMap -/
def k11 : Class := { plain "java/util/AbstractMap" (some 0) with
  accessFlags := 1057
  interfaces := #[10]
  cf := some (fileOf pool11 8 #[.nestMembers #[181, 183, 185, 75, 187, 66, 189]] #[{ accessFlags := 4, nameIndex := 5, descriptorIndex := 6, attributes := #[] }] 1057 2 #[53] #[{ accessFlags := 128, nameIndex := 64, descriptorIndex := 65, attributes := #[] }, { accessFlags := 128, nameIndex := 73, descriptorIndex := 74, attributes := #[] }])
  fields := #[{ name := "keySet", type := (.object "java/util/Set"), accessFlags := 128, slot := 0, constantValue := 0 }, { name := "values", type := (.object "java/util/Collection"), accessFlags := 128, slot := 1, constantValue := 0 }]
  methods := #[k11m0]
  instanceTypes := #[(.object "java/util/Set"), (.object "java/util/Collection")]
  staticTypes := #[]
  resolved := Array.replicate 196 none
  statics := none }

def pool12 : Array CpInfo := pool [(1, .class_ 2), (0, u "java/lang/Cloneable"), (0, .class_ 4), (0, u "java/lang/Object")] 2

/-- java/lang/Cloneable -/
def k12 : Class := { plain "java/lang/Cloneable" (some 0) with
  accessFlags := 1537
  interfaces := #[]
  cf := some (fileOf pool12 1 #[] #[] 1537 3 #[] #[])
  fields := #[]
  methods := #[]
  instanceTypes := #[]
  staticTypes := #[]
  resolved := Array.replicate 7 none
  statics := none }

def pool13 : Array CpInfo := pool [(1, .methodref 2 3), (0, .class_ 4), (0, .nameAndType 5 6), (0, u "java/lang/Object"), (0, u "hashCode"), (0, u "()I"), (26, u "(Ljava/lang/Object;)I"), (6, .class_ 41), (0, u "java/util/HashMap"), (1, .methodref 44 45), (0, .class_ 46), (0, .nameAndType 47 48), (0, u "java/util/AbstractMap"), (0, u "<init>"), (0, u "()V"), (32, .fieldref 40 82), (0, .nameAndType 83 84), (0, u "loadFactor"), (0, u "F"), (3, .fieldref 40 89), (0, .nameAndType 90 91), (0, u "threshold"), (0, u "I"), (0, .float 1061158912), (8, .class_ 103), (1, u "java/util/Map"), (0, u "size"), (0, .fieldref 40 106), (0, .nameAndType 107 108), (0, u "table"), (0, u "[Ljava/util/HashMap$Node;"), (8, .methodref 40 118), (0, .nameAndType 119 120), (0, u "resize"), (0, u "()[Ljava/util/HashMap$Node;"), (2, u "entrySet"), (25, .methodref 40 150), (0, .nameAndType 151 33), (0, u "hash"), (0, .methodref 40 153), (0, .nameAndType 154 155), (0, u "putVal"), (0, u "(ILjava/lang/Object;Ljava/lang/Object;ZZ)Ljava/lang/Object;"), (0, .fieldref 40 157), (0, .nameAndType 104 91), (0, .methodref 40 159), (0, .nameAndType 160 161), (0, u "getNode"), (0, u "(Ljava/lang/Object;)Ljava/util/HashMap$Node;"), (1, .class_ 165), (1, u "java/util/HashMap$Node"), (14, .class_ 181), (0, u "java/util/HashMap$TreeNode"), (4, .methodref 40 187), (0, .nameAndType 188 189), (0, u "newNode"), (0, u "(ILjava/lang/Object;Ljava/lang/Object;Ljava/util/HashMap$Node;)Ljava/util/HashMap$Node;"), (12, .fieldref 40 203), (0, .nameAndType 204 91), (0, u "modCount"), (0, .methodref 40 206), (0, .nameAndType 207 208), (0, u "afterNodeInsertion"), (0, u "(Z)V"), (33, u "Ljava/util/Set;"), (0, .class_ 244), (0, u "java/util/HashMap$KeySet"), (18, .class_ 264), (0, u "java/util/HashMap$Values"), (3, .class_ 269), (0, u "java/util/HashMap$EntrySet"), (9, u "(Ljava/lang/Object;)Ljava/lang/Object;"), (7, u "(Ljava/lang/Object;Ljava/lang/Object;)Ljava/lang/Object;"), (46, u "get"), (11, .class_ 348), (1, u "java/util/HashMap$UnsafeHolder"), (26, .methodref 163 376), (0, .nameAndType 47 377), (0, u "(ILjava/lang/Object;Ljava/lang/Object;Ljava/util/HashMap$Node;)V"), (14, .class_ 393), (0, u "java/lang/Cloneable"), (0, .class_ 395), (0, u "java/io/Serializable"), (0, u "serialVersionUID"), (0, u "J"), (3, u "DEFAULT_INITIAL_CAPACITY"), (1, u "MAXIMUM_CAPACITY"), (0, u "DEFAULT_LOAD_FACTOR"), (0, u "TREEIFY_THRESHOLD"), (1, u "UNTREEIFY_THRESHOLD"), (1, u "MIN_TREEIFY_CAPACITY"), (60, u "put"), (125, .class_ 597), (0, u "java/util/HashMap$EntrySpliterator"), (0, .class_ 599), (0, u "java/util/HashMap$ValueSpliterator"), (0, .class_ 601), (0, u "java/util/HashMap$KeySpliterator"), (0, .class_ 603), (0, u "java/util/HashMap$HashMapSpliterator"), (0, .class_ 605), (0, u "java/util/HashMap$EntryIterator"), (0, .class_ 607), (0, u "java/util/HashMap$ValueIterator"), (0, .class_ 609), (0, u "java/util/HashMap$KeyIterator"), (0, .class_ 611), (0, u "java/util/HashMap$HashIterator")] 17

def k13c0 : Code := { maxStack := 3, maxLocals := 2, code := jdk_69_method_1_code, exceptionTable := #[], attributes := #[] }
def k13m0 : Method := { name := "hash", desc := "(Ljava/lang/Object;)I", sig := { parameters := [(.object "java/lang/Object")], returnType := some .int }, accessFlags := 24, code := some k13c0 }
def k13c1 : Code := { maxStack := 2, maxLocals := 1, code := jdk_69_method_7_code, exceptionTable := #[], attributes := #[] }
def k13m1 : Method := { name := "<init>", desc := "()V", sig := { parameters := [], returnType := none }, accessFlags := 1, code := some k13c1 }
def k13c2 : Code := { maxStack := 1, maxLocals := 1, code := jdk_69_method_10_code, exceptionTable := #[], attributes := #[] }
def k13m2 : Method := { name := "size", desc := "()I", sig := { parameters := [], returnType := some .int }, accessFlags := 1, code := some k13c2 }
def k13c3 : Code := { maxStack := 2, maxLocals := 3, code := jdk_69_method_12_code, exceptionTable := #[], attributes := #[] }
def k13m3 : Method := { name := "get", desc := "(Ljava/lang/Object;)Ljava/lang/Object;", sig := { parameters := [(.object "java/lang/Object")], returnType := some (.object "java/lang/Object") }, accessFlags := 1, code := some k13c3 }
def k13c4 : Code := { maxStack := 4, maxLocals := 8, code := jdk_69_method_13_code, exceptionTable := #[], attributes := #[] }
def k13m4 : Method := { name := "getNode", desc := "(Ljava/lang/Object;)Ljava/util/HashMap$Node;", sig := { parameters := [(.object "java/lang/Object")], returnType := some (.object "java/util/HashMap$Node") }, accessFlags := 16, code := some k13c4 }
def k13c5 : Code := { maxStack := 6, maxLocals := 3, code := jdk_69_method_15_code, exceptionTable := #[], attributes := #[] }
def k13m5 : Method := { name := "put", desc := "(Ljava/lang/Object;Ljava/lang/Object;)Ljava/lang/Object;", sig := { parameters := [(.object "java/lang/Object"), (.object "java/lang/Object")], returnType := some (.object "java/lang/Object") }, accessFlags := 1, code := some k13c5 }
def k13c6 : Code := { maxStack := 7, maxLocals := 13, code := jdk_69_method_16_code, exceptionTable := #[], attributes := #[] }
def k13m6 : Method := { name := "putVal", desc := "(ILjava/lang/Object;Ljava/lang/Object;ZZ)Ljava/lang/Object;", sig := { parameters := [.int, (.object "java/lang/Object"), (.object "java/lang/Object"), .boolean, .boolean], returnType := some (.object "java/lang/Object") }, accessFlags := 16, code := some k13c6 }
def k13c7 : Code := { maxStack := 5, maxLocals := 14, code := jdk_69_method_17_code, exceptionTable := #[], attributes := #[] }
def k13m7 : Method := { name := "resize", desc := "()[Ljava/util/HashMap$Node;", sig := { parameters := [], returnType := some (.array (.object "java/util/HashMap$Node")) }, accessFlags := 16, code := some k13c7 }
def k13c8 : Code := { maxStack := 6, maxLocals := 5, code := jdk_69_method_46_code, exceptionTable := #[], attributes := #[] }
def k13m8 : Method := { name := "newNode", desc := "(ILjava/lang/Object;Ljava/lang/Object;Ljava/util/HashMap$Node;)Ljava/util/HashMap$Node;", sig := { parameters := [.int, (.object "java/lang/Object"), (.object "java/lang/Object"), (.object "java/util/HashMap$Node")], returnType := some (.object "java/util/HashMap$Node") }, accessFlags := 0, code := some k13c8 }
def k13c9 : Code := { maxStack := 0, maxLocals := 2, code := jdk_69_method_52_code, exceptionTable := #[], attributes := #[] }
def k13m9 : Method := { name := "afterNodeInsertion", desc := "(Z)V", sig := { parameters := [.boolean], returnType := none }, accessFlags := 0, code := some k13c9 }
/-- java/util/HashMap -/
def k13 : Class := { plain "java/util/HashMap" (some 11) with
  accessFlags := 33
  interfaces := #[10, 12, 2]
  cf := some (fileOf pool13 40 #[.nestMembers #[180, 596, 598, 600, 602, 604, 606, 608, 610, 346, 268, 263, 243, 163]] #[{ accessFlags := 24, nameIndex := 151, descriptorIndex := 33, attributes := #[] }, { accessFlags := 1, nameIndex := 47, descriptorIndex := 48, attributes := #[] }, { accessFlags := 1, nameIndex := 104, descriptorIndex := 6, attributes := #[] }, { accessFlags := 1, nameIndex := 334, descriptorIndex := 279, attributes := #[] }, { accessFlags := 16, nameIndex := 160, descriptorIndex := 161, attributes := #[] }, { accessFlags := 1, nameIndex := 470, descriptorIndex := 287, attributes := #[] }, { accessFlags := 16, nameIndex := 154, descriptorIndex := 155, attributes := #[] }, { accessFlags := 16, nameIndex := 119, descriptorIndex := 120, attributes := #[] }, { accessFlags := 0, nameIndex := 188, descriptorIndex := 189, attributes := #[] }, { accessFlags := 0, nameIndex := 207, descriptorIndex := 208, attributes := #[] }] 33 44 #[101, 392, 394] #[{ accessFlags := 26, nameIndex := 396, descriptorIndex := 397, attributes := #[] }, { accessFlags := 24, nameIndex := 401, descriptorIndex := 91, attributes := #[] }, { accessFlags := 24, nameIndex := 403, descriptorIndex := 91, attributes := #[] }, { accessFlags := 24, nameIndex := 404, descriptorIndex := 84, attributes := #[] }, { accessFlags := 24, nameIndex := 405, descriptorIndex := 91, attributes := #[] }, { accessFlags := 24, nameIndex := 407, descriptorIndex := 91, attributes := #[] }, { accessFlags := 24, nameIndex := 409, descriptorIndex := 91, attributes := #[] }, { accessFlags := 128, nameIndex := 107, descriptorIndex := 108, attributes := #[] }, { accessFlags := 128, nameIndex := 123, descriptorIndex := 242, attributes := #[] }, { accessFlags := 128, nameIndex := 104, descriptorIndex := 91, attributes := #[] }, { accessFlags := 128, nameIndex := 204, descriptorIndex := 91, attributes := #[] }, { accessFlags := 0, nameIndex := 90, descriptorIndex := 91, attributes := #[] }, { accessFlags := 16, nameIndex := 83, descriptorIndex := 84, attributes := #[] }])
  fields := #[{ name := "serialVersionUID", type := .long, accessFlags := 26, slot := 0, constantValue := 0 }, { name := "DEFAULT_INITIAL_CAPACITY", type := .int, accessFlags := 24, slot := 1, constantValue := 0 }, { name := "MAXIMUM_CAPACITY", type := .int, accessFlags := 24, slot := 2, constantValue := 0 }, { name := "DEFAULT_LOAD_FACTOR", type := .float, accessFlags := 24, slot := 3, constantValue := 0 }, { name := "TREEIFY_THRESHOLD", type := .int, accessFlags := 24, slot := 4, constantValue := 0 }, { name := "UNTREEIFY_THRESHOLD", type := .int, accessFlags := 24, slot := 5, constantValue := 0 }, { name := "MIN_TREEIFY_CAPACITY", type := .int, accessFlags := 24, slot := 6, constantValue := 0 }, { name := "table", type := (.array (.object "java/util/HashMap$Node")), accessFlags := 128, slot := 2, constantValue := 0 }, { name := "entrySet", type := (.object "java/util/Set"), accessFlags := 128, slot := 3, constantValue := 0 }, { name := "size", type := .int, accessFlags := 128, slot := 4, constantValue := 0 }, { name := "modCount", type := .int, accessFlags := 128, slot := 5, constantValue := 0 }, { name := "threshold", type := .int, accessFlags := 0, slot := 6, constantValue := 0 }, { name := "loadFactor", type := .float, accessFlags := 16, slot := 7, constantValue := 0 }]
  methods := #[k13m0, k13m1, k13m2, k13m3, k13m4, k13m5, k13m6, k13m7, k13m8, k13m9]
  instanceTypes := #[(.object "java/util/Set"), (.object "java/util/Collection"), (.array (.object "java/util/HashMap$Node")), (.object "java/util/Set"), .int, .int, .int, .float]
  staticTypes := #[.long, .int, .int, .float, .int, .int, .int]
  resolved := Array.replicate 629 none
  statics := none }

def pool14 : Array CpInfo := pool [(2, .class_ 4), (1, u "java/lang/Object"), (0, u "<init>"), (0, u "()V"), (7, .class_ 16), (1, u "java/util/Arrays"), (57, .class_ 76), (1, u "java/util/Arrays$NaturalOrder"), (36, .class_ 115), (1, u "java/util/Arrays$LegacyMergeSort"), (1, u "Z"), (32, .methodref 151 152), (0, .class_ 153), (0, .nameAndType 154 155), (0, u "java/lang/System"), (0, u "arraycopy"), (0, u "(Ljava/lang/Object;ILjava/lang/Object;II)V"), (146, u "copyOf"), (1, .methodref 305 306), (0, .class_ 307), (0, .nameAndType 308 309), (0, u "java/lang/Math"), (0, u "min"), (0, u "(II)I"), (65, .class_ 376), (0, u "java/util/Arrays$ArrayList"), (68, u "$assertionsDisabled"), (269, u "MIN_ARRAY_SORT_GRAN"), (0, u "I"), (2, u "INSERTIONSORT_THRESHOLD"), (149, u "([BI)[B"), (105, .class_ 976), (0, u "java/util/Arrays$ArrayItr")] 52

def k14m0 : Method := { name := "<init>", desc := "()V", sig := { parameters := [], returnType := none }, accessFlags := 2, code := none }
def k14c1 : Code := { maxStack := 6, maxLocals := 3, code := jdk_65_method_121_code, exceptionTable := #[], attributes := #[] }
def k14m1 : Method := { name := "copyOf", desc := "([BI)[B", sig := { parameters := [(.array .byte), .int], returnType := some (.array .byte) }, accessFlags := 9, code := some k14c1 }
/-- java/util/Arrays -/
def k14 : Class := { plain "java/util/Arrays" (some 0) with
  accessFlags := 49
  interfaces := #[]
  cf := some (fileOf pool14 14 #[.nestMembers #[975, 375, 113, 74]] #[{ accessFlags := 2, nameIndex := 5, descriptorIndex := 6, attributes := #[] }, { accessFlags := 9, nameIndex := 302, descriptorIndex := 869, attributes := #[] }] 49 2 #[] #[{ accessFlags := 26, nameIndex := 715, descriptorIndex := 716, attributes := #[] }, { accessFlags := 26, nameIndex := 719, descriptorIndex := 716, attributes := #[] }, { accessFlags := 4120, nameIndex := 445, descriptorIndex := 117, attributes := #[] }])
  fields := #[{ name := "MIN_ARRAY_SORT_GRAN", type := .int, accessFlags := 26, slot := 0, constantValue := 0 }, { name := "INSERTIONSORT_THRESHOLD", type := .int, accessFlags := 26, slot := 1, constantValue := 0 }, { name := "$assertionsDisabled", type := .boolean, accessFlags := 4120, slot := 2, constantValue := 0 }]
  methods := #[k14m0, k14m1]
  instanceTypes := #[]
  staticTypes := #[.int, .int, .boolean]
  resolved := Array.replicate 1029 none
  statics := none }

def pool15 : Array CpInfo := pool [(1, .class_ 2), (0, u "java/lang/Math"), (1, .class_ 6), (1, u "java/lang/Object"), (0, u "<init>"), (0, u "()V"), (89, .class_ 100), (1, u "java/lang/Math$RandomNumberGeneratorHolder"), (71, u "negativeZeroFloatBits"), (0, u "J"), (2, u "negativeZeroDoubleBits"), (21, u "max"), (2, u "min"), (43, u "$assertionsDisabled"), (0, u "Z"), (88, u "(II)I"), (2, u "twoToTheDoubleScaleDown"), (0, u "D"), (4, u "twoToTheDoubleScaleUp"), (9, u "E"), (3, u "PI"), (2, u "TAU"), (2, u "DEGREES_TO_RADIANS"), (0, u "RADIANS_TO_DEGREES")] 94

def k15m0 : Method := { name := "<init>", desc := "()V", sig := { parameters := [], returnType := none }, accessFlags := 2, code := none }
def k15c1 : Code := { maxStack := 2, maxLocals := 2, code := jdk_29_method_65_code, exceptionTable := #[], attributes := #[] }
def k15m1 : Method := { name := "max", desc := "(II)I", sig := { parameters := [.int, .int], returnType := some .int }, accessFlags := 9, code := some k15c1 }
def k15c2 : Code := { maxStack := 2, maxLocals := 2, code := jdk_29_method_69_code, exceptionTable := #[], attributes := #[] }
def k15m2 : Method := { name := "min", desc := "(II)I", sig := { parameters := [.int, .int], returnType := some .int }, accessFlags := 9, code := some k15c2 }
/-- java/lang/Math -/
def k15 : Class := { plain "java/lang/Math" (some 0) with
  accessFlags := 49
  interfaces := #[]
  cf := some (fileOf pool15 1 #[.nestMembers #[98]] #[{ accessFlags := 2, nameIndex := 7, descriptorIndex := 8, attributes := #[] }, { accessFlags := 9, nameIndex := 198, descriptorIndex := 335, attributes := #[] }, { accessFlags := 9, nameIndex := 201, descriptorIndex := 335, attributes := #[] }] 49 4 #[] #[{ accessFlags := 25, nameIndex := 354, descriptorIndex := 339, attributes := #[] }, { accessFlags := 25, nameIndex := 358, descriptorIndex := 339, attributes := #[] }, { accessFlags := 25, nameIndex := 361, descriptorIndex := 339, attributes := #[] }, { accessFlags := 26, nameIndex := 364, descriptorIndex := 339, attributes := #[] }, { accessFlags := 26, nameIndex := 365, descriptorIndex := 339, attributes := #[] }, { accessFlags := 26, nameIndex := 172, descriptorIndex := 173, attributes := #[] }, { accessFlags := 26, nameIndex := 176, descriptorIndex := 173, attributes := #[] }, { accessFlags := 8, nameIndex := 344, descriptorIndex := 339, attributes := #[] }, { accessFlags := 8, nameIndex := 338, descriptorIndex := 339, attributes := #[] }, { accessFlags := 4120, nameIndex := 245, descriptorIndex := 246, attributes := #[] }])
  fields := #[{ name := "E", type := .double, accessFlags := 25, slot := 0, constantValue := 0 }, { name := "PI", type := .double, accessFlags := 25, slot := 1, constantValue := 0 }, { name := "TAU", type := .double, accessFlags := 25, slot := 2, constantValue := 0 }, { name := "DEGREES_TO_RADIANS", type := .double, accessFlags := 26, slot := 3, constantValue := 0 }, { name := "RADIANS_TO_DEGREES", type := .double, accessFlags := 26, slot := 4, constantValue := 0 }, { name := "negativeZeroFloatBits", type := .long, accessFlags := 26, slot := 5, constantValue := 0 }, { name := "negativeZeroDoubleBits", type := .long, accessFlags := 26, slot := 6, constantValue := 0 }, { name := "twoToTheDoubleScaleUp", type := .double, accessFlags := 8, slot := 7, constantValue := 0 }, { name := "twoToTheDoubleScaleDown", type := .double, accessFlags := 8, slot := 8, constantValue := 0 }, { name := "$assertionsDisabled", type := .boolean, accessFlags := 4120, slot := 9, constantValue := 0 }]
  methods := #[k15m0, k15m1, k15m2]
  instanceTypes := #[]
  staticTypes := #[.double, .double, .double, .double, .double, .long, .long, .double, .double, .boolean]
  resolved := Array.replicate 460 none
  statics := none }

def pool16 : Array CpInfo := pool [(2, .class_ 4), (1, u "java/lang/Object"), (0, u "<init>"), (0, u "()V"), (1, .class_ 10), (1, u "java/lang/System"), (0, u "allowSecurityManager"), (0, u "I"), (16, u "cons"), (0, u "Ljava/io/Console;"), (77, .class_ 110), (1, u "java/lang/System$CallersHolder"), (43, u "initialErrStream"), (0, u "Ljava/io/PrintStream;"), (19, u "security"), (0, u "Ljava/lang/SecurityManager;"), (31, .class_ 209), (0, u "java/lang/System$1"), (7, u "props"), (0, u "Ljava/util/Properties;"), (2, u "lineSeparator"), (0, u "Ljava/lang/String;"), (96, .class_ 321), (1, u "java/lang/System$LoggerFinder"), (5, .class_ 328), (0, u "java/lang/System$Logger"), (67, u "err"), (2, u "out"), (91, u "notSupportedJnuEncoding"), (15, u "in"), (17, u "initialIn"), (0, u "Ljava/io/InputStream;"), (35, u "bootLayer"), (0, u "Ljava/lang/ModuleLayer;"), (99, .class_ 664), (0, u "java/lang/System$2"), (9, u "NEVER"), (2, u "MAYBE"), (49, u "arraycopy"), (0, u "(Ljava/lang/Object;ILjava/lang/Object;II)V"), (72, .class_ 802), (0, u "java/lang/System$Logger$Level")] 31

def k16m0 : Method := { name := "<init>", desc := "()V", sig := { parameters := [], returnType := none }, accessFlags := 2, code := none }
def k16m1 : Method := { name := "arraycopy", desc := "(Ljava/lang/Object;ILjava/lang/Object;II)V", sig := { parameters := [(.object "java/lang/Object"), .int, (.object "java/lang/Object"), .int, .int], returnType := none }, accessFlags := 265, code := none }
/-- java/lang/System -/
def k16 : Class := { plain "java/lang/System" (some 0) with
  accessFlags := 49
  interfaces := #[]
  cf := some (fileOf pool16 8 #[.nestMembers #[319, 327, 801, 108, 663, 208]] #[{ accessFlags := 2, nameIndex := 5, descriptorIndex := 6, attributes := #[] }, { accessFlags := 265, nameIndex := 727, descriptorIndex := 728, attributes := #[] }] 49 2 #[] #[{ accessFlags := 25, nameIndex := 507, descriptorIndex := 526, attributes := #[] }, { accessFlags := 25, nameIndex := 399, descriptorIndex := 155, attributes := #[] }, { accessFlags := 25, nameIndex := 396, descriptorIndex := 155, attributes := #[] }, { accessFlags := 10, nameIndex := 525, descriptorIndex := 526, attributes := #[] }, { accessFlags := 26, nameIndex := 674, descriptorIndex := 12, attributes := #[] }, { accessFlags := 26, nameIndex := 677, descriptorIndex := 12, attributes := #[] }, { accessFlags := 10, nameIndex := 11, descriptorIndex := 12, attributes := #[] }, { accessFlags := 74, nameIndex := 175, descriptorIndex := 176, attributes := #[] }, { accessFlags := 10, nameIndex := 491, descriptorIndex := 222, attributes := #[] }, { accessFlags := 74, nameIndex := 29, descriptorIndex := 30, attributes := #[] }, { accessFlags := 74, nameIndex := 154, descriptorIndex := 155, attributes := #[] }, { accessFlags := 10, nameIndex := 217, descriptorIndex := 218, attributes := #[] }, { accessFlags := 10, nameIndex := 221, descriptorIndex := 222, attributes := #[] }, { accessFlags := 8, nameIndex := 562, descriptorIndex := 563, attributes := #[] }])
  fields := #[{ name := "in", type := (.object "java/io/InputStream"), accessFlags := 25, slot := 0, constantValue := 0 }, { name := "out", type := (.object "java/io/PrintStream"), accessFlags := 25, slot := 1, constantValue := 0 }, { name := "err", type := (.object "java/io/PrintStream"), accessFlags := 25, slot := 2, constantValue := 0 }, { name := "initialIn", type := (.object "java/io/InputStream"), accessFlags := 10, slot := 3, constantValue := 0 }, { name := "NEVER", type := .int, accessFlags := 26, slot := 4, constantValue := 0 }, { name := "MAYBE", type := .int, accessFlags := 26, slot := 5, constantValue := 0 }, { name := "allowSecurityManager", type := .int, accessFlags := 10, slot := 6, constantValue := 0 }, { name := "security", type := (.object "java/lang/SecurityManager"), accessFlags := 74, slot := 7, constantValue := 0 }, { name := "notSupportedJnuEncoding", type := (.object "java/lang/String"), accessFlags := 10, slot := 8, constantValue := 0 }, { name := "cons", type := (.object "java/io/Console"), accessFlags := 74, slot := 9, constantValue := 0 }, { name := "initialErrStream", type := (.object "java/io/PrintStream"), accessFlags := 74, slot := 10, constantValue := 0 }, { name := "props", type := (.object "java/util/Properties"), accessFlags := 10, slot := 11, constantValue := 0 }, { name := "lineSeparator", type := (.object "java/lang/String"), accessFlags := 10, slot := 12, constantValue := 0 }, { name := "bootLayer", type := (.object "java/lang/ModuleLayer"), accessFlags := 8, slot := 13, constantValue := 0 }]
  methods := #[k16m0, k16m1]
  instanceTypes := #[]
  staticTypes := #[(.object "java/io/InputStream"), (.object "java/io/PrintStream"), (.object "java/io/PrintStream"), (.object "java/io/InputStream"), .int, .int, .int, (.object "java/lang/SecurityManager"), (.object "java/lang/String"), (.object "java/io/Console"), (.object "java/io/PrintStream"), (.object "java/util/Properties"), (.object "java/lang/String"), (.object "java/lang/ModuleLayer")]
  resolved := Array.replicate 834 none
  statics := none }

def pool17 : Array CpInfo := pool [(2, .class_ 4), (1, u "java/lang/Object"), (0, u "<init>"), (0, u "()V"), (14, .class_ 23), (1, u "java/nio/charset/StandardCharsets"), (0, u "US_ASCII"), (0, u "Ljava/nio/charset/Charset;"), (7, u "ISO_8859_1"), (7, u "UTF_8"), (5, u "UTF_16BE"), (5, u "UTF_16LE"), (5, u "UTF_16")] 8

def k17m0 : Method := { name := "<init>", desc := "()V", sig := { parameters := [], returnType := none }, accessFlags := 2, code := none }
/-- java/nio/charset/StandardCharsets -/
def k17 : Class := { plain "java/nio/charset/StandardCharsets" (some 0) with
  accessFlags := 49
  interfaces := #[]
  cf := some (fileOf pool17 21 #[] #[{ accessFlags := 2, nameIndex := 5, descriptorIndex := 6, attributes := #[] }] 49 2 #[] #[{ accessFlags := 25, nameIndex := 24, descriptorIndex := 25, attributes := #[] }, { accessFlags := 25, nameIndex := 33, descriptorIndex := 25, attributes := #[] }, { accessFlags := 25, nameIndex := 41, descriptorIndex := 25, attributes := #[] }, { accessFlags := 25, nameIndex := 47, descriptorIndex := 25, attributes := #[] }, { accessFlags := 25, nameIndex := 53, descriptorIndex := 25, attributes := #[] }, { accessFlags := 25, nameIndex := 59, descriptorIndex := 25, attributes := #[] }])
  fields := #[{ name := "US_ASCII", type := (.object "java/nio/charset/Charset"), accessFlags := 25, slot := 0, constantValue := 0 }, { name := "ISO_8859_1", type := (.object "java/nio/charset/Charset"), accessFlags := 25, slot := 1, constantValue := 0 }, { name := "UTF_8", type := (.object "java/nio/charset/Charset"), accessFlags := 25, slot := 2, constantValue := 0 }, { name := "UTF_16BE", type := (.object "java/nio/charset/Charset"), accessFlags := 25, slot := 3, constantValue := 0 }, { name := "UTF_16LE", type := (.object "java/nio/charset/Charset"), accessFlags := 25, slot := 4, constantValue := 0 }, { name := "UTF_16", type := (.object "java/nio/charset/Charset"), accessFlags := 25, slot := 5, constantValue := 0 }]
  methods := #[k17m0]
  instanceTypes := #[]
  staticTypes := #[(.object "java/nio/charset/Charset"), (.object "java/nio/charset/Charset"), (.object "java/nio/charset/Charset"), (.object "java/nio/charset/Charset"), (.object "java/nio/charset/Charset"), (.object "java/nio/charset/Charset")]
  resolved := Array.replicate 68 none
  statics := some 1 }

def pool18 : Array CpInfo := pool [(18, .class_ 20), (1, u "java/nio/charset/Charset"), (0, u "cache1"), (0, u "[Ljava/lang/Object;"), (2, u "cache2"), (0, .class_ 27), (0, u "java/lang/Object"), (0, .class_ 29), (0, u "java/nio/charset/Charset$1"), (4, .class_ 36), (1, u "java/nio/charset/Charset$ThreadTrackHolder"), (21, .class_ 59), (0, u "java/nio/charset/Charset$2"), (11, .class_ 73), (1, u "java/nio/charset/Charset$ExtendedProviderHolder"), (22, u "standardProvider"), (0, u "Ljava/nio/charset/spi/CharsetProvider;"), (29, u "name"), (7, .class_ 136), (0, u "java/nio/charset/Charset$3"), (5, u "defaultCharset"), (0, u "Ljava/nio/charset/Charset;"), (14, u "zeroAliases"), (0, u "[Ljava/lang/String;"), (29, u "Ljava/lang/String;"), (2, u "aliases"), (2, u "aliasSet"), (0, u "Ljava/util/Set;"), (82, .class_ 280), (0, u "java/lang/Comparable"), (84, .class_ 366), (0, u "java/nio/charset/Charset$ExtendedProviderHolder$1")] 3

/-- java/nio/charset/Charset -/
def k18 : Class := { plain "java/nio/charset/Charset" (some 0) with
  accessFlags := 1057
  interfaces := #[3]
  cf := some (fileOf pool18 18 #[.nestMembers #[71, 365, 34, 135, 58, 28]] #[] 1057 26 #[279] #[{ accessFlags := 26, nameIndex := 96, descriptorIndex := 97, attributes := #[] }, { accessFlags := 26, nameIndex := 158, descriptorIndex := 159, attributes := #[] }, { accessFlags := 74, nameIndex := 21, descriptorIndex := 22, attributes := #[] }, { accessFlags := 74, nameIndex := 25, descriptorIndex := 22, attributes := #[] }, { accessFlags := 10, nameIndex := 142, descriptorIndex := 143, attributes := #[] }, { accessFlags := 18, nameIndex := 127, descriptorIndex := 189, attributes := #[] }, { accessFlags := 18, nameIndex := 192, descriptorIndex := 159, attributes := #[] }, { accessFlags := 2, nameIndex := 195, descriptorIndex := 196, attributes := #[] }])
  fields := #[{ name := "standardProvider", type := (.object "java/nio/charset/spi/CharsetProvider"), accessFlags := 26, slot := 0, constantValue := 0 }, { name := "zeroAliases", type := (.array (.object "java/lang/String")), accessFlags := 26, slot := 1, constantValue := 0 }, { name := "cache1", type := (.array (.object "java/lang/Object")), accessFlags := 74, slot := 2, constantValue := 0 }, { name := "cache2", type := (.array (.object "java/lang/Object")), accessFlags := 74, slot := 3, constantValue := 0 }, { name := "defaultCharset", type := (.object "java/nio/charset/Charset"), accessFlags := 10, slot := 4, constantValue := 0 }, { name := "name", type := (.object "java/lang/String"), accessFlags := 18, slot := 0, constantValue := 0 }, { name := "aliases", type := (.array (.object "java/lang/String")), accessFlags := 18, slot := 1, constantValue := 0 }, { name := "aliasSet", type := (.object "java/util/Set"), accessFlags := 2, slot := 2, constantValue := 0 }]
  methods := #[]
  instanceTypes := #[(.object "java/lang/String"), (.array (.object "java/lang/String")), (.object "java/util/Set")]
  staticTypes := #[(.object "java/nio/charset/spi/CharsetProvider"), (.array (.object "java/lang/String")), (.array (.object "java/lang/Object")), (.array (.object "java/lang/Object")), (.object "java/nio/charset/Charset")]
  resolved := Array.replicate 370 none
  statics := none }

def pool19 : Array CpInfo := pool [(1, .class_ 2), (0, u "sun/nio/cs/HistoricallyNamedCharset"), (0, .class_ 4), (0, u "java/lang/Object")] 4

/-- sun/nio/cs/HistoricallyNamedCharset -/
def k19 : Class := { plain "sun/nio/cs/HistoricallyNamedCharset" (some 0) with
  accessFlags := 1537
  interfaces := #[]
  cf := some (fileOf pool19 1 #[] #[] 1537 3 #[] #[])
  fields := #[]
  methods := #[]
  instanceTypes := #[]
  staticTypes := #[]
  resolved := Array.replicate 9 none
  statics := none }

def pool20 : Array CpInfo := pool [(2, .class_ 4), (1, u "java/nio/charset/Charset"), (130, .class_ 136), (0, u "sun/nio/cs/Unicode"), (0, .class_ 138), (0, u "sun/nio/cs/HistoricallyNamedCharset")] 15

/-- sun/nio/cs/Unicode -/
def k20 : Class := { plain "sun/nio/cs/Unicode" (some 18) with
  accessFlags := 1056
  interfaces := #[19]
  cf := some (fileOf pool20 135 #[] #[] 1056 2 #[137] #[])
  fields := #[]
  methods := #[]
  instanceTypes := #[(.object "java/lang/String"), (.array (.object "java/lang/String")), (.object "java/util/Set")]
  staticTypes := #[]
  resolved := Array.replicate 154 none
  statics := none }

def pool21 : Array CpInfo := pool [(10, .class_ 12), (1, u "sun/nio/cs/Unicode"), (0, u "<init>"), (3, .class_ 18), (0, u "sun/nio/cs/UTF_8$Decoder"), (3, .class_ 23), (0, u "sun/nio/cs/UTF_8$Encoder"), (15, .class_ 40), (0, u "sun/nio/cs/UTF_8"), (2, u "()V"), (2, u "INSTANCE"), (0, u "Lsun/nio/cs/UTF_8;"), (8, u "JLA"), (0, u "Ljdk/internal/access/JavaLangAccess;")] 26

def k21m0 : Method := { name := "<init>", desc := "()V", sig := { parameters := [], returnType := none }, accessFlags := 1, code := none }
/-- sun/nio/cs/UTF_8 -/
def k21 : Class := { plain "sun/nio/cs/UTF_8" (some 20) with
  accessFlags := 49
  interfaces := #[]
  cf := some (fileOf pool21 39 #[.nestMembers #[22, 17]] #[{ accessFlags := 1, nameIndex := 13, descriptorIndex := 43, attributes := #[] }] 49 10 #[] #[{ accessFlags := 25, nameIndex := 46, descriptorIndex := 47, attributes := #[] }, { accessFlags := 26, nameIndex := 56, descriptorIndex := 57, attributes := #[] }])
  fields := #[{ name := "INSTANCE", type := (.object "sun/nio/cs/UTF_8"), accessFlags := 25, slot := 0, constantValue := 0 }, { name := "JLA", type := (.object "jdk/internal/access/JavaLangAccess"), accessFlags := 26, slot := 1, constantValue := 0 }]
  methods := #[k21m0]
  instanceTypes := #[(.object "java/lang/String"), (.array (.object "java/lang/String")), (.object "java/util/Set")]
  staticTypes := #[(.object "sun/nio/cs/UTF_8"), (.object "jdk/internal/access/JavaLangAccess")]
  resolved := Array.replicate 84 none
  statics := some 2 }

def pool22 : Array CpInfo := pool [(2, .class_ 4), (1, u "java/lang/Object"), (0, u "<init>"), (0, u "()V"), (0, .methodref 8 9), (0, .class_ 10), (0, .nameAndType 11 12), (0, u "java/lang/StringCoding"), (0, u "countPositives"), (0, u "([BII)I"), (11, u "hasNegatives"), (0, u "([BII)Z")] 23

def k22m0 : Method := { name := "<init>", desc := "()V", sig := { parameters := [], returnType := none }, accessFlags := 2, code := none }
def k22c1 : Code := { maxStack := 3, maxLocals := 3, code := jdk_123_method_2_code, exceptionTable := #[], attributes := #[] }
def k22m1 : Method := { name := "hasNegatives", desc := "([BII)Z", sig := { parameters := [(.array .byte), .int, .int], returnType := some .boolean }, accessFlags := 9, code := some k22c1 }
def k22c2 : Code := { maxStack := 2, maxLocals := 5, code := jdk_123_method_3_code, exceptionTable := #[], attributes := #[] }
def k22m2 : Method := { name := "countPositives", desc := "([BII)I", sig := { parameters := [(.array .byte), .int, .int], returnType := some .int }, accessFlags := 9, code := some k22c2 }
/-- java/lang/StringCoding -/
def k22 : Class := { plain "java/lang/StringCoding" (some 0) with
  accessFlags := 32
  interfaces := #[]
  cf := some (fileOf pool22 8 #[] #[{ accessFlags := 2, nameIndex := 5, descriptorIndex := 6, attributes := #[] }, { accessFlags := 9, nameIndex := 24, descriptorIndex := 25, attributes := #[] }, { accessFlags := 9, nameIndex := 11, descriptorIndex := 12, attributes := #[] }] 32 2 #[] #[])
  fields := #[]
  methods := #[k22m0, k22m1, k22m2]
  instanceTypes := #[]
  staticTypes := #[]
  resolved := Array.replicate 49 none
  statics := none }

def pool23 : Array CpInfo := pool [(2, .class_ 4), (1, u "java/lang/Object"), (0, u "<init>"), (0, u "()V"), (1, .class_ 10), (1, u "java/lang/Number"), (2, .class_ 14), (0, u "java/io/Serializable"), (0, u "serialVersionUID"), (0, u "J")] 20

def k23m0 : Method := { name := "<init>", desc := "()V", sig := { parameters := [], returnType := none }, accessFlags := 1, code := none }
/-- java/lang/Number -/
def k23 : Class := { plain "java/lang/Number" (some 0) with
  accessFlags := 1057
  interfaces := #[2]
  cf := some (fileOf pool23 8 #[] #[{ accessFlags := 1, nameIndex := 5, descriptorIndex := 6, attributes := #[] }] 1057 2 #[13] #[{ accessFlags := 26, nameIndex := 15, descriptorIndex := 16, attributes := #[] }])
  fields := #[{ name := "serialVersionUID", type := .long, accessFlags := 26, slot := 0, constantValue := 0 }]
  methods := #[k23m0]
  instanceTypes := #[]
  staticTypes := #[.long]
  resolved := Array.replicate 37 none
  statics := none }

def pool24 : Array CpInfo := pool [(1, .class_ 2), (0, u "java/lang/Integer"), (16, u "digits"), (0, u "[C"), (64, u "DigitOnes"), (0, u "[B"), (2, u "DigitTens"), (97, u "valueOf"), (0, u "(I)Ljava/lang/Integer;"), (0, .class_ 190), (0, u "java/lang/Integer$IntegerCache"), (0, .fieldref 189 192), (0, .nameAndType 193 194), (0, u "high"), (0, u "I"), (0, .fieldref 189 196), (0, .nameAndType 197 198), (0, u "cache"), (0, u "[Ljava/lang/Integer;"), (4, .class_ 204), (0, u "java/lang/Number"), (2, u "value"), (94, u "TYPE"), (0, u "Ljava/lang/Class;"), (0, .class_ 305), (0, u "java/lang/Comparable"), (0, .class_ 307), (0, u "java/lang/constant/Constable"), (0, .class_ 309), (0, u "java/lang/constant/ConstantDesc"), (0, u "MIN_VALUE"), (1, u "MAX_VALUE"), (3, u "SIZE"), (1, u "BYTES"), (1, u "serialVersionUID"), (0, u "J")] 131

def k24c0 : Code := { maxStack := 3, maxLocals := 1, code := jdk_33_method_22_code, exceptionTable := #[], attributes := #[] }
def k24m0 : Method := { name := "valueOf", desc := "(I)Ljava/lang/Integer;", sig := { parameters := [.int], returnType := some (.object "java/lang/Integer") }, accessFlags := 9, code := some k24c0 }
/-- java/lang/Integer -/
def k24 : Class := { plain "java/lang/Integer" (some 23) with
  accessFlags := 49
  interfaces := #[3, 5, 6]
  cf := some (fileOf pool24 1 #[.nestMembers #[189]] #[{ accessFlags := 9, nameIndex := 187, descriptorIndex := 188, attributes := #[] }] 49 203 #[304, 306, 308] #[{ accessFlags := 25, nameIndex := 310, descriptorIndex := 194, attributes := #[] }, { accessFlags := 25, nameIndex := 312, descriptorIndex := 194, attributes := #[] }, { accessFlags := 25, nameIndex := 302, descriptorIndex := 303, attributes := #[] }, { accessFlags := 24, nameIndex := 19, descriptorIndex := 20, attributes := #[] }, { accessFlags := 24, nameIndex := 89, descriptorIndex := 86, attributes := #[] }, { accessFlags := 24, nameIndex := 85, descriptorIndex := 86, attributes := #[] }, { accessFlags := 18, nameIndex := 207, descriptorIndex := 194, attributes := #[] }, { accessFlags := 25, nameIndex := 316, descriptorIndex := 194, attributes := #[] }, { accessFlags := 25, nameIndex := 318, descriptorIndex := 194, attributes := #[] }, { accessFlags := 26, nameIndex := 320, descriptorIndex := 321, attributes := #[] }])
  fields := #[{ name := "MIN_VALUE", type := .int, accessFlags := 25, slot := 0, constantValue := 0 }, { name := "MAX_VALUE", type := .int, accessFlags := 25, slot := 1, constantValue := 0 }, { name := "TYPE", type := (.object "java/lang/Class"), accessFlags := 25, slot := 2, constantValue := 0 }, { name := "digits", type := (.array .char), accessFlags := 24, slot := 3, constantValue := 0 }, { name := "DigitTens", type := (.array .byte), accessFlags := 24, slot := 4, constantValue := 0 }, { name := "DigitOnes", type := (.array .byte), accessFlags := 24, slot := 5, constantValue := 0 }, { name := "value", type := .int, accessFlags := 18, slot := 0, constantValue := 0 }, { name := "SIZE", type := .int, accessFlags := 25, slot := 6, constantValue := 0 }, { name := "BYTES", type := .int, accessFlags := 25, slot := 7, constantValue := 0 }, { name := "serialVersionUID", type := .long, accessFlags := 26, slot := 8, constantValue := 0 }]
  methods := #[k24m0]
  instanceTypes := #[.int]
  staticTypes := #[.int, .int, (.object "java/lang/Class"), (.array .char), (.array .byte), (.array .byte), .int, .int, .long]
  resolved := Array.replicate 453 none
  statics := none }

def pool25 : Array CpInfo := pool [(2, .class_ 4), (1, u "java/lang/Object"), (0, u "<init>"), (0, u "()V"), (0, .class_ 8), (0, u "java/lang/Integer"), (7, .class_ 18), (1, u "java/lang/Integer$IntegerCache"), (0, u "$assertionsDisabled"), (0, u "Z"), (26, u "high"), (0, u "I"), (8, u "archivedCache"), (0, u "[Ljava/lang/Integer;"), (12, u "cache"), (0, u "low")] 27

def k25m0 : Method := { name := "<init>", desc := "()V", sig := { parameters := [], returnType := none }, accessFlags := 2, code := none }
/-- java/lang/Integer$IntegerCache -/
def k25 : Class := { plain "java/lang/Integer$IntegerCache" (some 0) with
  accessFlags := 48
  interfaces := #[]
  cf := some (fileOf pool25 16 #[.nestHost 7] #[{ accessFlags := 2, nameIndex := 5, descriptorIndex := 6, attributes := #[] }] 48 2 #[] #[{ accessFlags := 24, nameIndex := 72, descriptorIndex := 48, attributes := #[] }, { accessFlags := 24, nameIndex := 47, descriptorIndex := 48, attributes := #[] }, { accessFlags := 24, nameIndex := 71, descriptorIndex := 58, attributes := #[] }, { accessFlags := 8, nameIndex := 57, descriptorIndex := 58, attributes := #[] }, { accessFlags := 4120, nameIndex := 19, descriptorIndex := 20, attributes := #[] }])
  fields := #[{ name := "low", type := .int, accessFlags := 24, slot := 0, constantValue := 0 }, { name := "high", type := .int, accessFlags := 24, slot := 1, constantValue := 0 }, { name := "cache", type := (.array (.object "java/lang/Integer")), accessFlags := 24, slot := 2, constantValue := 0 }, { name := "archivedCache", type := (.array (.object "java/lang/Integer")), accessFlags := 8, slot := 3, constantValue := 0 }, { name := "$assertionsDisabled", type := .boolean, accessFlags := 4120, slot := 4, constantValue := 0 }]
  methods := #[k25m0]
  instanceTypes := #[]
  staticTypes := #[.int, .int, (.array (.object "java/lang/Integer")), (.array (.object "java/lang/Integer")), .boolean]
  resolved := Array.replicate 100 none
  statics := some 3 }

def pool26 : Array CpInfo := pool [(4, .class_ 6), (1, u "java/lang/Object"), (0, u "<init>"), (0, u "()V"), (5, .class_ 16), (1, u "java/lang/StringLatin1"), (28, .class_ 47), (1, u "jdk/internal/util/ArraysSupport"), (9, u "([B)I"), (26, .methodref 45 85), (0, .nameAndType 86 87), (0, u "vectorizedHashCode"), (0, u "(Ljava/lang/Object;IIII)I"), (33, u "$assertionsDisabled"), (0, u "Z"), (98, .class_ 223), (1, u "java/lang/StringLatin1$LinesSpliterator"), (74, u "hashCode"), (91, .class_ 391), (0, u "java/lang/StringLatin1$CharsSpliterator")] 3

def k26m0 : Method := { name := "<init>", desc := "()V", sig := { parameters := [], returnType := none }, accessFlags := 0, code := none }
def k26c1 : Code := { maxStack := 5, maxLocals := 1, code := jdk_43_method_21_code, exceptionTable := #[], attributes := #[] }
def k26m1 : Method := { name := "hashCode", desc := "([B)I", sig := { parameters := [(.array .byte)], returnType := some .int }, accessFlags := 9, code := some k26c1 }
/-- java/lang/StringLatin1 -/
def k26 : Class := { plain "java/lang/StringLatin1" (some 0) with
  accessFlags := 48
  interfaces := #[]
  cf := some (fileOf pool26 14 #[.nestMembers #[390, 221]] #[{ accessFlags := 0, nameIndex := 7, descriptorIndex := 8, attributes := #[] }, { accessFlags := 9, nameIndex := 298, descriptorIndex := 57, attributes := #[] }] 48 4 #[] #[{ accessFlags := 4120, nameIndex := 121, descriptorIndex := 122, attributes := #[] }])
  fields := #[{ name := "$assertionsDisabled", type := .boolean, accessFlags := 4120, slot := 0, constantValue := 0 }]
  methods := #[k26m0, k26m1]
  instanceTypes := #[]
  staticTypes := #[.boolean]
  resolved := Array.replicate 395 none
  statics := none }

def pool27 : Array CpInfo := pool [(9, u "<init>"), (6, .class_ 18), (1, u "java/lang/Object"), (0, u "()V"), (1, .class_ 23), (1, u "jdk/internal/util/ArraysSupport"), (0, u "LOG2_ARRAY_LONG_INDEX_SCALE"), (0, u "I"), (2, u "U"), (0, u "Ljdk/internal/misc/Unsafe;"), (8, u "BIG_ENDIAN"), (0, u "Z"), (8, u "LOG2_BYTE_BIT_SIZE"), (4, u "LOG2_ARRAY_INT_INDEX_SCALE"), (6, .class_ 61), (0, u "[B"), (0, .methodref 21 63), (0, .nameAndType 64 65), (0, u "signedHashCode"), (0, u "(I[BII)I"), (42, u "JLA"), (0, u "Ljdk/internal/access/JavaLangAccess;"), (11, u "LOG2_ARRAY_BOOLEAN_INDEX_SCALE"), (9, u "LOG2_ARRAY_BYTE_INDEX_SCALE"), (5, u "LOG2_ARRAY_CHAR_INDEX_SCALE"), (5, u "LOG2_ARRAY_SHORT_INDEX_SCALE"), (18, u "LOG2_ARRAY_FLOAT_INDEX_SCALE"), (24, u "LOG2_ARRAY_DOUBLE_INDEX_SCALE"), (89, u "T_BOOLEAN"), (2, u "T_CHAR"), (1, u "T_FLOAT"), (1, u "T_DOUBLE"), (1, u "T_BYTE"), (1, u "T_SHORT"), (1, u "T_INT"), (1, u "T_LONG"), (1, u "SOFT_MAX_ARRAY_LENGTH"), (26, u "vectorizedHashCode"), (0, u "(Ljava/lang/Object;IIII)I")] 55

def k27m0 : Method := { name := "<init>", desc := "()V", sig := { parameters := [], returnType := none }, accessFlags := 2, code := none }
def k27c1 : Code := { maxStack := 4, maxLocals := 5, code := jdk_48_method_4_code, exceptionTable := #[], attributes := #[] }
def k27m1 : Method := { name := "vectorizedHashCode", desc := "(Ljava/lang/Object;IIII)I", sig := { parameters := [(.object "java/lang/Object"), .int, .int, .int, .int], returnType := some .int }, accessFlags := 9, code := some k27c1 }
def k27c2 : Code := { maxStack := 3, maxLocals := 6, code := jdk_48_method_5_code, exceptionTable := #[], attributes := #[] }
def k27m2 : Method := { name := "signedHashCode", desc := "(I[BII)I", sig := { parameters := [.int, (.array .byte), .int, .int], returnType := some .int }, accessFlags := 10, code := some k27c2 }
/-- jdk/internal/util/ArraysSupport -/
def k27 : Class := { plain "jdk/internal/util/ArraysSupport" (some 0) with
  accessFlags := 33
  interfaces := #[]
  cf := some (fileOf pool27 21 #[] #[{ accessFlags := 2, nameIndex := 9, descriptorIndex := 19, attributes := #[] }, { accessFlags := 9, nameIndex := 321, descriptorIndex := 322, attributes := #[] }, { accessFlags := 10, nameIndex := 64, descriptorIndex := 65, attributes := #[] }] 33 16 #[] #[{ accessFlags := 24, nameIndex := 28, descriptorIndex := 29, attributes := #[] }, { accessFlags := 26, nameIndex := 38, descriptorIndex := 39, attributes := #[] }, { accessFlags := 25, nameIndex := 121, descriptorIndex := 25, attributes := #[] }, { accessFlags := 25, nameIndex := 131, descriptorIndex := 25, attributes := #[] }, { accessFlags := 25, nameIndex := 137, descriptorIndex := 25, attributes := #[] }, { accessFlags := 25, nameIndex := 143, descriptorIndex := 25, attributes := #[] }, { accessFlags := 25, nameIndex := 53, descriptorIndex := 25, attributes := #[] }, { accessFlags := 25, nameIndex := 24, descriptorIndex := 25, attributes := #[] }, { accessFlags := 25, nameIndex := 162, descriptorIndex := 25, attributes := #[] }, { accessFlags := 25, nameIndex := 187, descriptorIndex := 25, attributes := #[] }, { accessFlags := 26, nameIndex := 48, descriptorIndex := 25, attributes := #[] }, { accessFlags := 25, nameIndex := 277, descriptorIndex := 25, attributes := #[] }, { accessFlags := 25, nameIndex := 280, descriptorIndex := 25, attributes := #[] }, { accessFlags := 25, nameIndex := 282, descriptorIndex := 25, attributes := #[] }, { accessFlags := 25, nameIndex := 284, descriptorIndex := 25, attributes := #[] }, { accessFlags := 25, nameIndex := 286, descriptorIndex := 25, attributes := #[] }, { accessFlags := 25, nameIndex := 288, descriptorIndex := 25, attributes := #[] }, { accessFlags := 25, nameIndex := 290, descriptorIndex := 25, attributes := #[] }, { accessFlags := 25, nameIndex := 292, descriptorIndex := 25, attributes := #[] }, { accessFlags := 26, nameIndex := 108, descriptorIndex := 109, attributes := #[] }, { accessFlags := 25, nameIndex := 294, descriptorIndex := 25, attributes := #[] }])
  fields := #[{ name := "U", type := (.object "jdk/internal/misc/Unsafe"), accessFlags := 24, slot := 0, constantValue := 0 }, { name := "BIG_ENDIAN", type := .boolean, accessFlags := 26, slot := 1, constantValue := 0 }, { name := "LOG2_ARRAY_BOOLEAN_INDEX_SCALE", type := .int, accessFlags := 25, slot := 2, constantValue := 0 }, { name := "LOG2_ARRAY_BYTE_INDEX_SCALE", type := .int, accessFlags := 25, slot := 3, constantValue := 0 }, { name := "LOG2_ARRAY_CHAR_INDEX_SCALE", type := .int, accessFlags := 25, slot := 4, constantValue := 0 }, { name := "LOG2_ARRAY_SHORT_INDEX_SCALE", type := .int, accessFlags := 25, slot := 5, constantValue := 0 }, { name := "LOG2_ARRAY_INT_INDEX_SCALE", type := .int, accessFlags := 25, slot := 6, constantValue := 0 }, { name := "LOG2_ARRAY_LONG_INDEX_SCALE", type := .int, accessFlags := 25, slot := 7, constantValue := 0 }, { name := "LOG2_ARRAY_FLOAT_INDEX_SCALE", type := .int, accessFlags := 25, slot := 8, constantValue := 0 }, { name := "LOG2_ARRAY_DOUBLE_INDEX_SCALE", type := .int, accessFlags := 25, slot := 9, constantValue := 0 }, { name := "LOG2_BYTE_BIT_SIZE", type := .int, accessFlags := 26, slot := 10, constantValue := 0 }, { name := "T_BOOLEAN", type := .int, accessFlags := 25, slot := 11, constantValue := 0 }, { name := "T_CHAR", type := .int, accessFlags := 25, slot := 12, constantValue := 0 }, { name := "T_FLOAT", type := .int, accessFlags := 25, slot := 13, constantValue := 0 }, { name := "T_DOUBLE", type := .int, accessFlags := 25, slot := 14, constantValue := 0 }, { name := "T_BYTE", type := .int, accessFlags := 25, slot := 15, constantValue := 0 }, { name := "T_SHORT", type := .int, accessFlags := 25, slot := 16, constantValue := 0 }, { name := "T_INT", type := .int, accessFlags := 25, slot := 17, constantValue := 0 }, { name := "T_LONG", type := .int, accessFlags := 25, slot := 18, constantValue := 0 }, { name := "JLA", type := (.object "jdk/internal/access/JavaLangAccess"), accessFlags := 26, slot := 19, constantValue := 0 }, { name := "SOFT_MAX_ARRAY_LENGTH", type := .int, accessFlags := 25, slot := 20, constantValue := 0 }]
  methods := #[k27m0, k27m1, k27m2]
  instanceTypes := #[]
  staticTypes := #[(.object "jdk/internal/misc/Unsafe"), .boolean, .int, .int, .int, .int, .int, .int, .int, .int, .int, .int, .int, .int, .int, .int, .int, .int, .int, (.object "jdk/internal/access/JavaLangAccess"), .int]
  resolved := Array.replicate 378 none
  statics := none }

def pool28 : Array CpInfo := pool [(23, .class_ 25), (1, u "java/util/Map$Entry"), (6, .class_ 34), (1, u "java/util/Map"), (34, .class_ 70), (0, u "java/lang/Object")] 107

/-- java/util/Map$Entry -/
def k28 : Class := { plain "java/util/Map$Entry" (some 0) with
  accessFlags := 1537
  interfaces := #[]
  cf := some (fileOf pool28 23 #[.nestHost 32] #[] 1537 69 #[] #[])
  fields := #[]
  methods := #[]
  instanceTypes := #[]
  staticTypes := #[]
  resolved := Array.replicate 178 none
  statics := none }

def pool29 : Array CpInfo := pool [(1, .methodref 2 3), (0, .class_ 4), (0, .nameAndType 5 6), (0, u "java/lang/Object"), (0, u "<init>"), (0, u "()V"), (0, .fieldref 8 9), (0, .class_ 10), (0, .nameAndType 11 12), (0, u "java/util/HashMap$Node"), (0, u "hash"), (0, u "I"), (0, .fieldref 8 14), (0, .nameAndType 15 16), (0, u "key"), (0, u "Ljava/lang/Object;"), (0, .fieldref 8 18), (0, .nameAndType 19 16), (0, u "value"), (0, .fieldref 8 21), (0, .nameAndType 22 23), (0, u "next"), (0, u "Ljava/util/HashMap$Node;"), (22, .class_ 47), (0, u "java/util/Map$Entry"), (15, u "(ILjava/lang/Object;Ljava/lang/Object;Ljava/util/HashMap$Node;)V"), (24, .class_ 89), (0, u "java/util/HashMap")] 5

def k29c0 : Code := { maxStack := 2, maxLocals := 5, code := jdk_70_method_1_code, exceptionTable := #[], attributes := #[] }
def k29m0 : Method := { name := "<init>", desc := "(ILjava/lang/Object;Ljava/lang/Object;Ljava/util/HashMap$Node;)V", sig := { parameters := [.int, (.object "java/lang/Object"), (.object "java/lang/Object"), (.object "java/util/HashMap$Node")], returnType := none }, accessFlags := 0, code := some k29c0 }
/-- java/util/HashMap$Node -/
def k29 : Class := { plain "java/util/HashMap$Node" (some 0) with
  accessFlags := 32
  interfaces := #[28]
  cf := some (fileOf pool29 8 #[.nestHost 88] #[{ accessFlags := 0, nameIndex := 5, descriptorIndex := 63, attributes := #[] }] 32 2 #[46] #[{ accessFlags := 16, nameIndex := 11, descriptorIndex := 12, attributes := #[] }, { accessFlags := 16, nameIndex := 15, descriptorIndex := 16, attributes := #[] }, { accessFlags := 0, nameIndex := 19, descriptorIndex := 16, attributes := #[] }, { accessFlags := 0, nameIndex := 22, descriptorIndex := 23, attributes := #[] }])
  fields := #[{ name := "hash", type := .int, accessFlags := 16, slot := 0, constantValue := 0 }, { name := "key", type := (.object "java/lang/Object"), accessFlags := 16, slot := 1, constantValue := 0 }, { name := "value", type := (.object "java/lang/Object"), accessFlags := 0, slot := 2, constantValue := 0 }, { name := "next", type := (.object "java/util/HashMap$Node"), accessFlags := 0, slot := 3, constantValue := 0 }]
  methods := #[k29m0]
  instanceTypes := #[.int, (.object "java/lang/Object"), (.object "java/lang/Object"), (.object "java/util/HashMap$Node")]
  staticTypes := #[]
  resolved := Array.replicate 95 none
  statics := none }

def pool30 : Array CpInfo := pool [(2, .class_ 4), (1, u "java/lang/Object"), (0, u "<init>"), (0, u "()V"), (17, .class_ 26), (1, u "jdk/internal/util/Preconditions"), (28, .class_ 56), (0, u "jdk/internal/util/Preconditions$4"), (57, .class_ 115), (0, u "jdk/internal/util/Preconditions$1"), (7, u "SIOOBE_FORMATTER"), (0, u "Ljava/util/function/BiFunction;"), (0, .class_ 126), (0, u "jdk/internal/util/Preconditions$2"), (3, u "AIOOBE_FORMATTER"), (0, .class_ 132), (0, u "jdk/internal/util/Preconditions$3"), (3, u "IOOBE_FORMATTER")] 57

def k30m0 : Method := { name := "<init>", desc := "()V", sig := { parameters := [], returnType := none }, accessFlags := 1, code := none }
/-- jdk/internal/util/Preconditions -/
def k30 : Class := { plain "jdk/internal/util/Preconditions" (some 0) with
  accessFlags := 33
  interfaces := #[]
  cf := some (fileOf pool30 24 #[.nestMembers #[55, 131, 125, 114]] #[{ accessFlags := 1, nameIndex := 5, descriptorIndex := 6, attributes := #[] }] 33 2 #[] #[{ accessFlags := 25, nameIndex := 123, descriptorIndex := 124, attributes := #[] }, { accessFlags := 25, nameIndex := 130, descriptorIndex := 124, attributes := #[] }, { accessFlags := 25, nameIndex := 136, descriptorIndex := 124, attributes := #[] }])
  fields := #[{ name := "SIOOBE_FORMATTER", type := (.object "java/util/function/BiFunction"), accessFlags := 25, slot := 0, constantValue := 0 }, { name := "AIOOBE_FORMATTER", type := (.object "java/util/function/BiFunction"), accessFlags := 25, slot := 1, constantValue := 0 }, { name := "IOOBE_FORMATTER", type := (.object "java/util/function/BiFunction"), accessFlags := 25, slot := 2, constantValue := 0 }]
  methods := #[k30m0]
  instanceTypes := #[]
  staticTypes := #[(.object "java/util/function/BiFunction"), (.object "java/util/function/BiFunction"), (.object "java/util/function/BiFunction")]
  resolved := Array.replicate 194 none
  statics := some 4 }

/-- the primitive byte -/
def k31 : Class := { plain "byte" none with kind := .primitive 'B', accessFlags := 0x411 }
/-- [B -/
def k32 : Class := { plain "[B" (some 0) with kind := .array 31 .byte, interfaces := #[12, 2], accessFlags := 1041 }

/-- the primitive char -/
def k33 : Class := { plain "char" none with kind := .primitive 'C', accessFlags := 0x411 }
/-- [C -/
def k34 : Class := { plain "[C" (some 0) with kind := .array 33 .char, interfaces := #[12, 2], accessFlags := 1041 }

/-- the primitive int -/
def k35 : Class := { plain "int" none with kind := .primitive 'I', accessFlags := 0x411 }
/-- [I -/
def k36 : Class := { plain "[I" (some 0) with kind := .array 35 .int, interfaces := #[12, 2], accessFlags := 1041 }

/-- [Ljava/lang/Integer; -/
def k37 : Class := { plain "[Ljava/lang/Integer;" (some 0) with kind := .array 24 (.object "java/lang/Integer"), interfaces := #[12, 2], accessFlags := 1041 }

/-- [Ljava/util/HashMap$Node; -/
def k38 : Class := { plain "[Ljava/util/HashMap$Node;" (some 0) with kind := .array 29 (.object "java/util/HashMap$Node"), interfaces := #[12, 2], accessFlags := 1041 }

def heap : Heap := #[{ cls := 7, slots := #[.long 0, .int 1, .null, .int 0, .null, .int 0, .int 0], vm := .statics 7 },
  { cls := 17, slots := #[.null, .null, .ref 262, .null, .null, .null], vm := .statics 17 },
  { cls := 21, slots := #[.ref 262, .null], vm := .statics 21 },
  { cls := 25, slots := #[.int 0, .int 127, .ref 5, .null, .int 0], vm := .statics 25 },
  { cls := 30, slots := #[.null, .null, .null], vm := .statics 30 },
  { cls := 37, slots := #[.ref 6, .ref 7, .ref 8, .ref 9, .ref 10, .ref 11, .ref 12, .ref 13, .ref 14, .ref 15, .ref 16, .ref 17, .ref 18, .ref 19, .ref 20, .ref 21, .ref 22, .ref 23, .ref 24, .ref 25, .ref 26, .ref 27, .ref 28, .ref 29, .ref 30, .ref 31, .ref 32, .ref 33, .ref 34, .ref 35, .ref 36, .ref 37, .ref 38, .ref 39, .ref 40, .ref 41, .ref 42, .ref 43, .ref 44, .ref 45, .ref 46, .ref 47, .ref 48, .ref 49, .ref 50, .ref 51, .ref 52, .ref 53, .ref 54, .ref 55, .ref 56, .ref 57, .ref 58, .ref 59, .ref 60, .ref 61, .ref 62, .ref 63, .ref 64, .ref 65, .ref 66, .ref 67, .ref 68, .ref 69, .ref 70, .ref 71, .ref 72, .ref 73, .ref 74, .ref 75, .ref 76, .ref 77, .ref 78, .ref 79, .ref 80, .ref 81, .ref 82, .ref 83, .ref 84, .ref 85, .ref 86, .ref 87, .ref 88, .ref 89, .ref 90, .ref 91, .ref 92, .ref 93, .ref 94, .ref 95, .ref 96, .ref 97, .ref 98, .ref 99, .ref 100, .ref 101, .ref 102, .ref 103, .ref 104, .ref 105, .ref 106, .ref 107, .ref 108, .ref 109, .ref 110, .ref 111, .ref 112, .ref 113, .ref 114, .ref 115, .ref 116, .ref 117, .ref 118, .ref 119, .ref 120, .ref 121, .ref 122, .ref 123, .ref 124, .ref 125, .ref 126, .ref 127, .ref 128, .ref 129, .ref 130, .ref 131, .ref 132, .ref 133, .ref 134, .ref 135, .ref 136, .ref 137, .ref 138, .ref 139, .ref 140, .ref 141, .ref 142, .ref 143, .ref 144, .ref 145, .ref 146, .ref 147, .ref 148, .ref 149, .ref 150, .ref 151, .ref 152, .ref 153, .ref 154, .ref 155, .ref 156, .ref 157, .ref 158, .ref 159, .ref 160, .ref 161, .ref 162, .ref 163, .ref 164, .ref 165, .ref 166, .ref 167, .ref 168, .ref 169, .ref 170, .ref 171, .ref 172, .ref 173, .ref 174, .ref 175, .ref 176, .ref 177, .ref 178, .ref 179, .ref 180, .ref 181, .ref 182, .ref 183, .ref 184, .ref 185, .ref 186, .ref 187, .ref 188, .ref 189, .ref 190, .ref 191, .ref 192, .ref 193, .ref 194, .ref 195, .ref 196, .ref 197, .ref 198, .ref 199, .ref 200, .ref 201, .ref 202, .ref 203, .ref 204, .ref 205, .ref 206, .ref 207, .ref 208, .ref 209, .ref 210, .ref 211, .ref 212, .ref 213, .ref 214, .ref 215, .ref 216, .ref 217, .ref 218, .ref 219, .ref 220, .ref 221, .ref 222, .ref 223, .ref 224, .ref 225, .ref 226, .ref 227, .ref 228, .ref 229, .ref 230, .ref 231, .ref 232, .ref 233, .ref 234, .ref 235, .ref 236, .ref 237, .ref 238, .ref 239, .ref 240, .ref 241, .ref 242, .ref 243, .ref 244, .ref 245, .ref 246, .ref 247, .ref 248, .ref 249, .ref 250, .ref 251, .ref 252, .ref 253, .ref 254, .ref 255, .ref 256, .ref 257, .ref 258, .ref 259, .ref 260, .ref 261], vm := .none },
  { cls := 24, slots := #[.int (-128)], vm := .none },
  { cls := 24, slots := #[.int (-127)], vm := .none },
  { cls := 24, slots := #[.int (-126)], vm := .none },
  { cls := 24, slots := #[.int (-125)], vm := .none },
  { cls := 24, slots := #[.int (-124)], vm := .none },
  { cls := 24, slots := #[.int (-123)], vm := .none },
  { cls := 24, slots := #[.int (-122)], vm := .none },
  { cls := 24, slots := #[.int (-121)], vm := .none },
  { cls := 24, slots := #[.int (-120)], vm := .none },
  { cls := 24, slots := #[.int (-119)], vm := .none },
  { cls := 24, slots := #[.int (-118)], vm := .none },
  { cls := 24, slots := #[.int (-117)], vm := .none },
  { cls := 24, slots := #[.int (-116)], vm := .none },
  { cls := 24, slots := #[.int (-115)], vm := .none },
  { cls := 24, slots := #[.int (-114)], vm := .none },
  { cls := 24, slots := #[.int (-113)], vm := .none },
  { cls := 24, slots := #[.int (-112)], vm := .none },
  { cls := 24, slots := #[.int (-111)], vm := .none },
  { cls := 24, slots := #[.int (-110)], vm := .none },
  { cls := 24, slots := #[.int (-109)], vm := .none },
  { cls := 24, slots := #[.int (-108)], vm := .none },
  { cls := 24, slots := #[.int (-107)], vm := .none },
  { cls := 24, slots := #[.int (-106)], vm := .none },
  { cls := 24, slots := #[.int (-105)], vm := .none },
  { cls := 24, slots := #[.int (-104)], vm := .none },
  { cls := 24, slots := #[.int (-103)], vm := .none },
  { cls := 24, slots := #[.int (-102)], vm := .none },
  { cls := 24, slots := #[.int (-101)], vm := .none },
  { cls := 24, slots := #[.int (-100)], vm := .none },
  { cls := 24, slots := #[.int (-99)], vm := .none },
  { cls := 24, slots := #[.int (-98)], vm := .none },
  { cls := 24, slots := #[.int (-97)], vm := .none },
  { cls := 24, slots := #[.int (-96)], vm := .none },
  { cls := 24, slots := #[.int (-95)], vm := .none },
  { cls := 24, slots := #[.int (-94)], vm := .none },
  { cls := 24, slots := #[.int (-93)], vm := .none },
  { cls := 24, slots := #[.int (-92)], vm := .none },
  { cls := 24, slots := #[.int (-91)], vm := .none },
  { cls := 24, slots := #[.int (-90)], vm := .none },
  { cls := 24, slots := #[.int (-89)], vm := .none },
  { cls := 24, slots := #[.int (-88)], vm := .none },
  { cls := 24, slots := #[.int (-87)], vm := .none },
  { cls := 24, slots := #[.int (-86)], vm := .none },
  { cls := 24, slots := #[.int (-85)], vm := .none },
  { cls := 24, slots := #[.int (-84)], vm := .none },
  { cls := 24, slots := #[.int (-83)], vm := .none },
  { cls := 24, slots := #[.int (-82)], vm := .none },
  { cls := 24, slots := #[.int (-81)], vm := .none },
  { cls := 24, slots := #[.int (-80)], vm := .none },
  { cls := 24, slots := #[.int (-79)], vm := .none },
  { cls := 24, slots := #[.int (-78)], vm := .none },
  { cls := 24, slots := #[.int (-77)], vm := .none },
  { cls := 24, slots := #[.int (-76)], vm := .none },
  { cls := 24, slots := #[.int (-75)], vm := .none },
  { cls := 24, slots := #[.int (-74)], vm := .none },
  { cls := 24, slots := #[.int (-73)], vm := .none },
  { cls := 24, slots := #[.int (-72)], vm := .none },
  { cls := 24, slots := #[.int (-71)], vm := .none },
  { cls := 24, slots := #[.int (-70)], vm := .none },
  { cls := 24, slots := #[.int (-69)], vm := .none },
  { cls := 24, slots := #[.int (-68)], vm := .none },
  { cls := 24, slots := #[.int (-67)], vm := .none },
  { cls := 24, slots := #[.int (-66)], vm := .none },
  { cls := 24, slots := #[.int (-65)], vm := .none },
  { cls := 24, slots := #[.int (-64)], vm := .none },
  { cls := 24, slots := #[.int (-63)], vm := .none },
  { cls := 24, slots := #[.int (-62)], vm := .none },
  { cls := 24, slots := #[.int (-61)], vm := .none },
  { cls := 24, slots := #[.int (-60)], vm := .none },
  { cls := 24, slots := #[.int (-59)], vm := .none },
  { cls := 24, slots := #[.int (-58)], vm := .none },
  { cls := 24, slots := #[.int (-57)], vm := .none },
  { cls := 24, slots := #[.int (-56)], vm := .none },
  { cls := 24, slots := #[.int (-55)], vm := .none },
  { cls := 24, slots := #[.int (-54)], vm := .none },
  { cls := 24, slots := #[.int (-53)], vm := .none },
  { cls := 24, slots := #[.int (-52)], vm := .none },
  { cls := 24, slots := #[.int (-51)], vm := .none },
  { cls := 24, slots := #[.int (-50)], vm := .none },
  { cls := 24, slots := #[.int (-49)], vm := .none },
  { cls := 24, slots := #[.int (-48)], vm := .none },
  { cls := 24, slots := #[.int (-47)], vm := .none },
  { cls := 24, slots := #[.int (-46)], vm := .none },
  { cls := 24, slots := #[.int (-45)], vm := .none },
  { cls := 24, slots := #[.int (-44)], vm := .none },
  { cls := 24, slots := #[.int (-43)], vm := .none },
  { cls := 24, slots := #[.int (-42)], vm := .none },
  { cls := 24, slots := #[.int (-41)], vm := .none },
  { cls := 24, slots := #[.int (-40)], vm := .none },
  { cls := 24, slots := #[.int (-39)], vm := .none },
  { cls := 24, slots := #[.int (-38)], vm := .none },
  { cls := 24, slots := #[.int (-37)], vm := .none },
  { cls := 24, slots := #[.int (-36)], vm := .none },
  { cls := 24, slots := #[.int (-35)], vm := .none },
  { cls := 24, slots := #[.int (-34)], vm := .none },
  { cls := 24, slots := #[.int (-33)], vm := .none },
  { cls := 24, slots := #[.int (-32)], vm := .none },
  { cls := 24, slots := #[.int (-31)], vm := .none },
  { cls := 24, slots := #[.int (-30)], vm := .none },
  { cls := 24, slots := #[.int (-29)], vm := .none },
  { cls := 24, slots := #[.int (-28)], vm := .none },
  { cls := 24, slots := #[.int (-27)], vm := .none },
  { cls := 24, slots := #[.int (-26)], vm := .none },
  { cls := 24, slots := #[.int (-25)], vm := .none },
  { cls := 24, slots := #[.int (-24)], vm := .none },
  { cls := 24, slots := #[.int (-23)], vm := .none },
  { cls := 24, slots := #[.int (-22)], vm := .none },
  { cls := 24, slots := #[.int (-21)], vm := .none },
  { cls := 24, slots := #[.int (-20)], vm := .none },
  { cls := 24, slots := #[.int (-19)], vm := .none },
  { cls := 24, slots := #[.int (-18)], vm := .none },
  { cls := 24, slots := #[.int (-17)], vm := .none },
  { cls := 24, slots := #[.int (-16)], vm := .none },
  { cls := 24, slots := #[.int (-15)], vm := .none },
  { cls := 24, slots := #[.int (-14)], vm := .none },
  { cls := 24, slots := #[.int (-13)], vm := .none },
  { cls := 24, slots := #[.int (-12)], vm := .none },
  { cls := 24, slots := #[.int (-11)], vm := .none },
  { cls := 24, slots := #[.int (-10)], vm := .none },
  { cls := 24, slots := #[.int (-9)], vm := .none },
  { cls := 24, slots := #[.int (-8)], vm := .none },
  { cls := 24, slots := #[.int (-7)], vm := .none },
  { cls := 24, slots := #[.int (-6)], vm := .none },
  { cls := 24, slots := #[.int (-5)], vm := .none },
  { cls := 24, slots := #[.int (-4)], vm := .none },
  { cls := 24, slots := #[.int (-3)], vm := .none },
  { cls := 24, slots := #[.int (-2)], vm := .none },
  { cls := 24, slots := #[.int (-1)], vm := .none },
  { cls := 24, slots := #[.int (0)], vm := .none },
  { cls := 24, slots := #[.int (1)], vm := .none },
  { cls := 24, slots := #[.int (2)], vm := .none },
  { cls := 24, slots := #[.int (3)], vm := .none },
  { cls := 24, slots := #[.int (4)], vm := .none },
  { cls := 24, slots := #[.int (5)], vm := .none },
  { cls := 24, slots := #[.int (6)], vm := .none },
  { cls := 24, slots := #[.int (7)], vm := .none },
  { cls := 24, slots := #[.int (8)], vm := .none },
  { cls := 24, slots := #[.int (9)], vm := .none },
  { cls := 24, slots := #[.int (10)], vm := .none },
  { cls := 24, slots := #[.int (11)], vm := .none },
  { cls := 24, slots := #[.int (12)], vm := .none },
  { cls := 24, slots := #[.int (13)], vm := .none },
  { cls := 24, slots := #[.int (14)], vm := .none },
  { cls := 24, slots := #[.int (15)], vm := .none },
  { cls := 24, slots := #[.int (16)], vm := .none },
  { cls := 24, slots := #[.int (17)], vm := .none },
  { cls := 24, slots := #[.int (18)], vm := .none },
  { cls := 24, slots := #[.int (19)], vm := .none },
  { cls := 24, slots := #[.int (20)], vm := .none },
  { cls := 24, slots := #[.int (21)], vm := .none },
  { cls := 24, slots := #[.int (22)], vm := .none },
  { cls := 24, slots := #[.int (23)], vm := .none },
  { cls := 24, slots := #[.int (24)], vm := .none },
  { cls := 24, slots := #[.int (25)], vm := .none },
  { cls := 24, slots := #[.int (26)], vm := .none },
  { cls := 24, slots := #[.int (27)], vm := .none },
  { cls := 24, slots := #[.int (28)], vm := .none },
  { cls := 24, slots := #[.int (29)], vm := .none },
  { cls := 24, slots := #[.int (30)], vm := .none },
  { cls := 24, slots := #[.int (31)], vm := .none },
  { cls := 24, slots := #[.int (32)], vm := .none },
  { cls := 24, slots := #[.int (33)], vm := .none },
  { cls := 24, slots := #[.int (34)], vm := .none },
  { cls := 24, slots := #[.int (35)], vm := .none },
  { cls := 24, slots := #[.int (36)], vm := .none },
  { cls := 24, slots := #[.int (37)], vm := .none },
  { cls := 24, slots := #[.int (38)], vm := .none },
  { cls := 24, slots := #[.int (39)], vm := .none },
  { cls := 24, slots := #[.int (40)], vm := .none },
  { cls := 24, slots := #[.int (41)], vm := .none },
  { cls := 24, slots := #[.int (42)], vm := .none },
  { cls := 24, slots := #[.int (43)], vm := .none },
  { cls := 24, slots := #[.int (44)], vm := .none },
  { cls := 24, slots := #[.int (45)], vm := .none },
  { cls := 24, slots := #[.int (46)], vm := .none },
  { cls := 24, slots := #[.int (47)], vm := .none },
  { cls := 24, slots := #[.int (48)], vm := .none },
  { cls := 24, slots := #[.int (49)], vm := .none },
  { cls := 24, slots := #[.int (50)], vm := .none },
  { cls := 24, slots := #[.int (51)], vm := .none },
  { cls := 24, slots := #[.int (52)], vm := .none },
  { cls := 24, slots := #[.int (53)], vm := .none },
  { cls := 24, slots := #[.int (54)], vm := .none },
  { cls := 24, slots := #[.int (55)], vm := .none },
  { cls := 24, slots := #[.int (56)], vm := .none },
  { cls := 24, slots := #[.int (57)], vm := .none },
  { cls := 24, slots := #[.int (58)], vm := .none },
  { cls := 24, slots := #[.int (59)], vm := .none },
  { cls := 24, slots := #[.int (60)], vm := .none },
  { cls := 24, slots := #[.int (61)], vm := .none },
  { cls := 24, slots := #[.int (62)], vm := .none },
  { cls := 24, slots := #[.int (63)], vm := .none },
  { cls := 24, slots := #[.int (64)], vm := .none },
  { cls := 24, slots := #[.int (65)], vm := .none },
  { cls := 24, slots := #[.int (66)], vm := .none },
  { cls := 24, slots := #[.int (67)], vm := .none },
  { cls := 24, slots := #[.int (68)], vm := .none },
  { cls := 24, slots := #[.int (69)], vm := .none },
  { cls := 24, slots := #[.int (70)], vm := .none },
  { cls := 24, slots := #[.int (71)], vm := .none },
  { cls := 24, slots := #[.int (72)], vm := .none },
  { cls := 24, slots := #[.int (73)], vm := .none },
  { cls := 24, slots := #[.int (74)], vm := .none },
  { cls := 24, slots := #[.int (75)], vm := .none },
  { cls := 24, slots := #[.int (76)], vm := .none },
  { cls := 24, slots := #[.int (77)], vm := .none },
  { cls := 24, slots := #[.int (78)], vm := .none },
  { cls := 24, slots := #[.int (79)], vm := .none },
  { cls := 24, slots := #[.int (80)], vm := .none },
  { cls := 24, slots := #[.int (81)], vm := .none },
  { cls := 24, slots := #[.int (82)], vm := .none },
  { cls := 24, slots := #[.int (83)], vm := .none },
  { cls := 24, slots := #[.int (84)], vm := .none },
  { cls := 24, slots := #[.int (85)], vm := .none },
  { cls := 24, slots := #[.int (86)], vm := .none },
  { cls := 24, slots := #[.int (87)], vm := .none },
  { cls := 24, slots := #[.int (88)], vm := .none },
  { cls := 24, slots := #[.int (89)], vm := .none },
  { cls := 24, slots := #[.int (90)], vm := .none },
  { cls := 24, slots := #[.int (91)], vm := .none },
  { cls := 24, slots := #[.int (92)], vm := .none },
  { cls := 24, slots := #[.int (93)], vm := .none },
  { cls := 24, slots := #[.int (94)], vm := .none },
  { cls := 24, slots := #[.int (95)], vm := .none },
  { cls := 24, slots := #[.int (96)], vm := .none },
  { cls := 24, slots := #[.int (97)], vm := .none },
  { cls := 24, slots := #[.int (98)], vm := .none },
  { cls := 24, slots := #[.int (99)], vm := .none },
  { cls := 24, slots := #[.int (100)], vm := .none },
  { cls := 24, slots := #[.int (101)], vm := .none },
  { cls := 24, slots := #[.int (102)], vm := .none },
  { cls := 24, slots := #[.int (103)], vm := .none },
  { cls := 24, slots := #[.int (104)], vm := .none },
  { cls := 24, slots := #[.int (105)], vm := .none },
  { cls := 24, slots := #[.int (106)], vm := .none },
  { cls := 24, slots := #[.int (107)], vm := .none },
  { cls := 24, slots := #[.int (108)], vm := .none },
  { cls := 24, slots := #[.int (109)], vm := .none },
  { cls := 24, slots := #[.int (110)], vm := .none },
  { cls := 24, slots := #[.int (111)], vm := .none },
  { cls := 24, slots := #[.int (112)], vm := .none },
  { cls := 24, slots := #[.int (113)], vm := .none },
  { cls := 24, slots := #[.int (114)], vm := .none },
  { cls := 24, slots := #[.int (115)], vm := .none },
  { cls := 24, slots := #[.int (116)], vm := .none },
  { cls := 24, slots := #[.int (117)], vm := .none },
  { cls := 24, slots := #[.int (118)], vm := .none },
  { cls := 24, slots := #[.int (119)], vm := .none },
  { cls := 24, slots := #[.int (120)], vm := .none },
  { cls := 24, slots := #[.int (121)], vm := .none },
  { cls := 24, slots := #[.int (122)], vm := .none },
  { cls := 24, slots := #[.int (123)], vm := .none },
  { cls := 24, slots := #[.int (124)], vm := .none },
  { cls := 24, slots := #[.int (125)], vm := .none },
  { cls := 24, slots := #[.int (126)], vm := .none },
  { cls := 24, slots := #[.int (127)], vm := .none },
  { cls := 21, slots := #[.null, .null, .null], vm := .none }]
def classes : Array Class := #[k0, k1, k2, k3, k4, k5, k6, k7, k8, k9, k10, k11, k12, k13, k14, k15, k16, k17, k18, k19, k20, k21, k22, k23, k24, k25, k26, k27, k28, k29, k30, k31, k32, k33, k34, k35, k36, k37, k38]
def interned : List (Array UInt16 × Addr) := []
def slotsUsed : Nat := 538
def theMethod : MethodId := ⟨1, 2⟩
def args0 : Array Value := #[.int 5, .int 5, .int 5, .int 5, .int 5]
def aboutOver (below : List Frame) : State where
  vm := { classes := classes, interned := interned.toArray }
  heap := heap
  slotsUsed := slotsUsed
  threads := #[{ frames := .invoking theMethod args0 :: below }]
def below0 : List Frame := [.native { method := ⟨0, 0⟩, args := #[] }]
def about1 : State := aboutOver below0
def p0 : Program := .bare "" "" ""
def e0 : Env := launch0.env 0 0 0
theorem w_frames : about1.frames = Frame.invoking theMethod args0 :: below0 := rfl
set_option maxRecDepth 65536 in
theorem w_args : argsFit about1.vm theMethod args0 = true := by decide +kernel
set_option maxRecDepth 65536 in
theorem w_heap : heapFits about1 = true := by decide +kernel
set_option maxRecDepth 65536 in
theorem w_runnable : about1.curStatus? = some .runnable := by decide +kernel
set_option maxRecDepth 65536 in
theorem w_alone : about1.alone = true := by decide +kernel
set_option maxRecDepth 65536 in
theorem w_named : about1.methodNamed? x = some theMethod := by decide +kernel
set_option maxRecDepth 65536 in
theorem w_hears : about1.hears theMethod below0 = true := by decide +kernel
set_option maxRecDepth 65536 in
theorem w_ripe : about1.ripe theMethod args0 below0 = true := by decide +kernel
theorem w_running : about1.status = .running := rfl
set_option maxRecDepth 65536 in
theorem w_room : about1.hasRoom e0.platform room_1 = true :=
  launch0.hasRoom_least _ room_1 (by decide +kernel) (by decide +kernel) (by decide +kernel) (by decide +kernel) (by decide +kernel) (by decide +kernel)
theorem allAtoms_all (ts : List Jvm.Cond) (a : Array Jvm.Value) (st : Jvm.State) : (allAtoms ts).before a st = ts.all (fun c => c.before a st) := by
  induction ts with
  | nil => rfl
  | cons c t ih =>
    show (Jvm.Cond.and c (allAtoms t)).before a st = _
    rw [Jvm.Cond.before_and, ih, List.all_cons]
def words1 : List Jvm.Cond := Jvm.Cond.code x code maxLocals ret :: tables_1
/-- a 'code' word, met by the world's own term for the bytes: nothing is compared byte by byte -/
theorem code_word {y : MethodName} {bytes : ByteArray} {mx : Nat} {rt : Option FieldType} {a : Array Value} {s : State} {m : MethodId} {meth : Method} {c : Code} (h1 : s.methodNamed? y = some m) (h2 : s.vm.method? m = some meth) (h3 : meth.code = some c) (h4 : c.code = bytes)
    (h5 : (c.maxLocals == mx && c.exceptionTable.isEmpty && decide (c.maxStack ≤ mostOperands) && decide (meth.sig.returnType = rt) && !meth.locks && decide (parseMethodDescriptor y.desc = some meth.sig)) = true) : (Jvm.Cond.code y bytes mx rt).before a s = true := by
  simp only [Bool.and_eq_true, beq_iff_eq, Bool.not_eq_true', decide_eq_true_eq] at h5
  obtain ⟨⟨⟨⟨⟨g1, g2⟩, g3⟩, g4⟩, g5⟩, g6⟩ := h5
  simp [Cond.before, Cond.holds, Cond.value, h1, h2, h3, h4, g1, g2, g3, g4, g5, g6]
def isCode : Jvm.Cond → Bool
  | .code _ _ _ _ => true
  | _ => false
theorem all_split {L : List Jvm.Cond} {P : Jvm.Cond → Bool} (h1 : L.all (fun c => isCode c || P c) = true) (h2 : ∀ c ∈ L.filter isCode, P c = true) : L.all P = true := by
  refine List.all_eq_true.mpr fun c hc => ?_
  have h := List.all_eq_true.mp h1 c hc
  rcases Bool.eq_false_or_eq_true (isCode c) with hi | hi
  · exact h2 c (List.mem_filter.mpr ⟨hc, hi⟩)
  · simpa [hi] using h
set_option maxRecDepth 65536 in
theorem w_c0 : (Jvm.Cond.code x code maxLocals ret).before args0 about1 = true := code_word (m := ⟨1, 2⟩) (meth := k1m2) (c := k1c2) (by decide +kernel) rfl rfl rfl (by decide +kernel)
set_option maxRecDepth 65536 in
theorem w_c1 : (Jvm.Cond.code ({ cls := "java/lang/String", name := "<init>", desc := "([C)V" } : Jvm.MethodName) jdk_42_method_3_code (2 : Nat) (Option.none : Option Jvm.ClassFile.FieldType)).before args0 about1 = true := code_word (m := ⟨7, 1⟩) (meth := k7m1) (c := k7c1) (by decide +kernel) rfl rfl rfl (by decide +kernel)
set_option maxRecDepth 65536 in
theorem w_c2 : (Jvm.Cond.code ({ cls := "java/lang/String", name := "<init>", desc := "([CIILjava/lang/Void;)V" } : Jvm.MethodName) jdk_42_method_149_code (6 : Nat) (Option.none : Option Jvm.ClassFile.FieldType)).before args0 about1 = true := code_word (m := ⟨7, 6⟩) (meth := k7m6) (c := k7c6) (by decide +kernel) rfl rfl rfl (by decide +kernel)
set_option maxRecDepth 65536 in
theorem w_c3 : (Jvm.Cond.code ({ cls := "java/lang/Object", name := "<init>", desc := "()V" } : Jvm.MethodName) object_method_1_code (1 : Nat) (Option.none : Option Jvm.ClassFile.FieldType)).before args0 about1 = true := code_word (m := ⟨0, 0⟩) (meth := k0m0) (c := k0c0) (by decide +kernel) rfl rfl rfl (by decide +kernel)
set_option maxRecDepth 65536 in
theorem w_c4 : (Jvm.Cond.code ({ cls := "java/lang/StringUTF16", name := "compress", desc := "([CII)[B" } : Jvm.MethodName) jdk_52_method_16_code (6 : Nat) (Option.some (Jvm.ClassFile.FieldType.array Jvm.ClassFile.FieldType.byte))).before args0 about1 = true := code_word (m := ⟨8, 2⟩) (meth := k8m2) (c := k8c2) (by decide +kernel) rfl rfl rfl (by decide +kernel)
set_option maxRecDepth 65536 in
theorem w_c5 : (Jvm.Cond.code ({ cls := "java/lang/StringUTF16", name := "compress", desc := "([CI[BII)I" } : Jvm.MethodName) jdk_52_method_21_code (7 : Nat) (Option.some Jvm.ClassFile.FieldType.int)).before args0 about1 = true := code_word (m := ⟨8, 3⟩) (meth := k8m3) (c := k8c3) (by decide +kernel) rfl rfl rfl (by decide +kernel)
set_option maxRecDepth 65536 in
theorem w_c6 : (Jvm.Cond.code ({ cls := "java/lang/StringUTF16", name := "coderFromArrayLen", desc := "([BI)B" } : Jvm.MethodName) jdk_52_method_15_code (2 : Nat) (Option.some Jvm.ClassFile.FieldType.byte)).before args0 about1 = true := code_word (m := ⟨8, 1⟩) (meth := k8m1) (c := k8c1) (by decide +kernel) rfl rfl rfl (by decide +kernel)
set_option maxRecDepth 65536 in
theorem w_c7 : (Jvm.Cond.code ({ cls := "com/example/meterwright/meterwright/RecordBody$Writer", name := "<init>", desc := "(B)V" } : Jvm.MethodName) prog_25_method_1_code (2 : Nat) (Option.none : Option Jvm.ClassFile.FieldType)).before args0 about1 = true := code_word (m := ⟨9, 0⟩) (meth := k9m0) (c := k9c0) (by decide +kernel) rfl rfl rfl (by decide +kernel)
set_option maxRecDepth 65536 in
theorem w_c8 : (Jvm.Cond.code ({ cls := "java/util/HashMap", name := "<init>", desc := "()V" } : Jvm.MethodName) jdk_69_method_7_code (1 : Nat) (Option.none : Option Jvm.ClassFile.FieldType)).before args0 about1 = true := code_word (m := ⟨13, 1⟩) (meth := k13m1) (c := k13c1) (by decide +kernel) rfl rfl rfl (by decide +kernel)
set_option maxRecDepth 65536 in
theorem w_c9 : (Jvm.Cond.code ({ cls := "java/util/AbstractMap", name := "<init>", desc := "()V" } : Jvm.MethodName) jdk_71_method_1_code (1 : Nat) (Option.none : Option Jvm.ClassFile.FieldType)).before args0 about1 = true := code_word (m := ⟨11, 0⟩) (meth := k11m0) (c := k11c0) (by decide +kernel) rfl rfl rfl (by decide +kernel)
set_option maxRecDepth 65536 in
theorem w_c10 : (Jvm.Cond.code ({ cls := "com/example/meterwright/meterwright/RecordBody$Writer", name := "room", desc := "(I)V" } : Jvm.MethodName) prog_25_method_9_code (2 : Nat) (Option.none : Option Jvm.ClassFile.FieldType)).before args0 about1 = true := code_word (m := ⟨9, 5⟩) (meth := k9m5) (c := k9c5) (by decide +kernel) rfl rfl rfl (by decide +kernel)
set_option maxRecDepth 65536 in
theorem w_c11 : (Jvm.Cond.code ({ cls := "com/example/meterwright/meterwright/RecordBody$Writer", name := "toByteArray", desc := "()[B" } : Jvm.MethodName) prog_25_method_8_code (1 : Nat) (Option.some (Jvm.ClassFile.FieldType.array Jvm.ClassFile.FieldType.byte))).before args0 about1 = true := code_word (m := ⟨9, 4⟩) (meth := k9m4) (c := k9c4) (by decide +kernel) rfl rfl rfl (by decide +kernel)
set_option maxRecDepth 65536 in
theorem w_c12 : (Jvm.Cond.code ({ cls := "java/util/Arrays", name := "copyOf", desc := "([BI)[B" } : Jvm.MethodName) jdk_65_method_121_code (3 : Nat) (Option.some (Jvm.ClassFile.FieldType.array Jvm.ClassFile.FieldType.byte))).before args0 about1 = true := code_word (m := ⟨14, 1⟩) (meth := k14m1) (c := k14c1) (by decide +kernel) rfl rfl rfl (by decide +kernel)
set_option maxRecDepth 65536 in
theorem w_c13 : (Jvm.Cond.code ({ cls := "java/lang/Math", name := "min", desc := "(II)I" } : Jvm.MethodName) jdk_29_method_69_code (2 : Nat) (Option.some Jvm.ClassFile.FieldType.int)).before args0 about1 = true := code_word (m := ⟨15, 2⟩) (meth := k15m2) (c := k15c2) (by decide +kernel) rfl rfl rfl (by decide +kernel)
set_option maxRecDepth 65536 in
theorem w_c14 : (Jvm.Cond.code ({ cls := "com/example/meterwright/meterwright/RecordBody$Writer", name := "whole", desc := "(J)V" } : Jvm.MethodName) prog_25_method_3_code (3 : Nat) (Option.none : Option Jvm.ClassFile.FieldType)).before args0 about1 = true := code_word (m := ⟨9, 1⟩) (meth := k9m1) (c := k9c1) (by decide +kernel) rfl rfl rfl (by decide +kernel)
set_option maxRecDepth 65536 in
theorem w_c15 : (Jvm.Cond.code ({ cls := "com/example/meterwright/meterwright/RecordBody$Writer", name := "number", desc := "(J)V" } : Jvm.MethodName) prog_25_method_4_code (3 : Nat) (Option.none : Option Jvm.ClassFile.FieldType)).before args0 about1 = true := code_word (m := ⟨9, 2⟩) (meth := k9m2) (c := k9c2) (by decide +kernel) rfl rfl rfl (by decide +kernel)
set_option maxRecDepth 65536 in
theorem w_c16 : (Jvm.Cond.code ({ cls := "com/example/meterwright/meterwright/WriterToByteArrayPinLaw", name := "at", desc := "([BIJ)I" } : Jvm.MethodName) method_2_code (4 : Nat) (Option.some Jvm.ClassFile.FieldType.int)).before args0 about1 = true := code_word (m := ⟨1, 1⟩) (meth := k1m1) (c := k1c1) (by decide +kernel) rfl rfl rfl (by decide +kernel)
set_option maxRecDepth 65536 in
theorem w_c17 : (Jvm.Cond.code ({ cls := "com/example/meterwright/meterwright/RecordBody$Writer", name := "text", desc := "(Ljava/lang/String;)V" } : Jvm.MethodName) prog_25_method_5_code (4 : Nat) (Option.none : Option Jvm.ClassFile.FieldType)).before args0 about1 = true := code_word (m := ⟨9, 3⟩) (meth := k9m3) (c := k9c3) (by decide +kernel) rfl rfl rfl (by decide +kernel)
set_option maxRecDepth 65536 in
theorem w_c18 : (Jvm.Cond.code ({ cls := "java/util/HashMap", name := "get", desc := "(Ljava/lang/Object;)Ljava/lang/Object;" } : Jvm.MethodName) jdk_69_method_12_code (3 : Nat) (Option.some (Jvm.ClassFile.FieldType.object "java/lang/Object"))).before args0 about1 = true := code_word (m := ⟨13, 3⟩) (meth := k13m3) (c := k13c3) (by decide +kernel) rfl rfl rfl (by decide +kernel)
set_option maxRecDepth 65536 in
theorem w_c19 : (Jvm.Cond.code ({ cls := "java/util/HashMap", name := "getNode", desc := "(Ljava/lang/Object;)Ljava/util/HashMap$Node;" } : Jvm.MethodName) jdk_69_method_13_code (8 : Nat) (Option.some (Jvm.ClassFile.FieldType.object "java/util/HashMap$Node"))).before args0 about1 = true := code_word (m := ⟨13, 4⟩) (meth := k13m4) (c := k13c4) (by decide +kernel) rfl rfl rfl (by decide +kernel)
set_option maxRecDepth 65536 in
theorem w_c20 : (Jvm.Cond.code ({ cls := "java/lang/String", name := "getBytes", desc := "(Ljava/nio/charset/Charset;)[B" } : Jvm.MethodName) jdk_42_method_64_code (2 : Nat) (Option.some (Jvm.ClassFile.FieldType.array Jvm.ClassFile.FieldType.byte))).before args0 about1 = true := code_word (m := ⟨7, 4⟩) (meth := k7m4) (c := k7c4) (by decide +kernel) rfl rfl rfl (by decide +kernel)
set_option maxRecDepth 65536 in
theorem w_c21 : (Jvm.Cond.code ({ cls := "java/lang/String", name := "coder", desc := "()B" } : Jvm.MethodName) jdk_42_method_152_code (1 : Nat) (Option.some Jvm.ClassFile.FieldType.byte)).before args0 about1 = true := code_word (m := ⟨7, 7⟩) (meth := k7m7) (c := k7c7) (by decide +kernel) rfl rfl rfl (by decide +kernel)
set_option maxRecDepth 65536 in
theorem w_c22 : (Jvm.Cond.code ({ cls := "java/lang/String", name := "encode", desc := "(Ljava/nio/charset/Charset;B[B)[B" } : Jvm.MethodName) jdk_42_method_18_code (3 : Nat) (Option.some (Jvm.ClassFile.FieldType.array Jvm.ClassFile.FieldType.byte))).before args0 about1 = true := code_word (m := ⟨7, 2⟩) (meth := k7m2) (c := k7c2) (by decide +kernel) rfl rfl rfl (by decide +kernel)
set_option maxRecDepth 65536 in
theorem w_c23 : (Jvm.Cond.code ({ cls := "java/lang/String", name := "encodeUTF8", desc := "(B[BZ)[B" } : Jvm.MethodName) jdk_42_method_46_code (9 : Nat) (Option.some (Jvm.ClassFile.FieldType.array Jvm.ClassFile.FieldType.byte))).before args0 about1 = true := code_word (m := ⟨7, 3⟩) (meth := k7m3) (c := k7c3) (by decide +kernel) rfl rfl rfl (by decide +kernel)
set_option maxRecDepth 65536 in
theorem w_c24 : (Jvm.Cond.code ({ cls := "java/lang/StringCoding", name := "hasNegatives", desc := "([BII)Z" } : Jvm.MethodName) jdk_123_method_2_code (3 : Nat) (Option.some Jvm.ClassFile.FieldType.boolean)).before args0 about1 = true := code_word (m := ⟨22, 1⟩) (meth := k22m1) (c := k22c1) (by decide +kernel) rfl rfl rfl (by decide +kernel)
set_option maxRecDepth 65536 in
theorem w_c25 : (Jvm.Cond.code ({ cls := "java/lang/StringCoding", name := "countPositives", desc := "([BII)I" } : Jvm.MethodName) jdk_123_method_3_code (5 : Nat) (Option.some Jvm.ClassFile.FieldType.int)).before args0 about1 = true := code_word (m := ⟨22, 2⟩) (meth := k22m2) (c := k22c2) (by decide +kernel) rfl rfl rfl (by decide +kernel)
set_option maxRecDepth 65536 in
theorem w_c26 : (Jvm.Cond.code ({ cls := "java/util/HashMap", name := "size", desc := "()I" } : Jvm.MethodName) jdk_69_method_10_code (1 : Nat) (Option.some Jvm.ClassFile.FieldType.int)).before args0 about1 = true := code_word (m := ⟨13, 2⟩) (meth := k13m2) (c := k13c2) (by decide +kernel) rfl rfl rfl (by decide +kernel)
set_option maxRecDepth 65536 in
theorem w_c27 : (Jvm.Cond.code ({ cls := "java/lang/Integer", name := "valueOf", desc := "(I)Ljava/lang/Integer;" } : Jvm.MethodName) jdk_33_method_22_code (1 : Nat) (Option.some (Jvm.ClassFile.FieldType.object "java/lang/Integer"))).before args0 about1 = true := code_word (m := ⟨24, 0⟩) (meth := k24m0) (c := k24c0) (by decide +kernel) rfl rfl rfl (by decide +kernel)
set_option maxRecDepth 65536 in
theorem w_c28 : (Jvm.Cond.code ({ cls := "java/util/HashMap", name := "put", desc := "(Ljava/lang/Object;Ljava/lang/Object;)Ljava/lang/Object;" } : Jvm.MethodName) jdk_69_method_15_code (3 : Nat) (Option.some (Jvm.ClassFile.FieldType.object "java/lang/Object"))).before args0 about1 = true := code_word (m := ⟨13, 5⟩) (meth := k13m5) (c := k13c5) (by decide +kernel) rfl rfl rfl (by decide +kernel)
set_option maxRecDepth 65536 in
theorem w_c29 : (Jvm.Cond.code ({ cls := "java/util/HashMap", name := "hash", desc := "(Ljava/lang/Object;)I" } : Jvm.MethodName) jdk_69_method_1_code (2 : Nat) (Option.some Jvm.ClassFile.FieldType.int)).before args0 about1 = true := code_word (m := ⟨13, 0⟩) (meth := k13m0) (c := k13c0) (by decide +kernel) rfl rfl rfl (by decide +kernel)
set_option maxRecDepth 65536 in
theorem w_c30 : (Jvm.Cond.code ({ cls := "java/lang/String", name := "hashCode", desc := "()I" } : Jvm.MethodName) jdk_42_method_78_code (2 : Nat) (Option.some Jvm.ClassFile.FieldType.int)).before args0 about1 = true := code_word (m := ⟨7, 5⟩) (meth := k7m5) (c := k7c5) (by decide +kernel) rfl rfl rfl (by decide +kernel)
set_option maxRecDepth 65536 in
theorem w_c31 : (Jvm.Cond.code ({ cls := "java/lang/String", name := "isLatin1", desc := "()Z" } : Jvm.MethodName) jdk_42_method_154_code (1 : Nat) (Option.some Jvm.ClassFile.FieldType.boolean)).before args0 about1 = true := code_word (m := ⟨7, 8⟩) (meth := k7m8) (c := k7c8) (by decide +kernel) rfl rfl rfl (by decide +kernel)
set_option maxRecDepth 65536 in
theorem w_c32 : (Jvm.Cond.code ({ cls := "java/lang/StringLatin1", name := "hashCode", desc := "([B)I" } : Jvm.MethodName) jdk_43_method_21_code (1 : Nat) (Option.some Jvm.ClassFile.FieldType.int)).before args0 about1 = true := code_word (m := ⟨26, 1⟩) (meth := k26m1) (c := k26c1) (by decide +kernel) rfl rfl rfl (by decide +kernel)
set_option maxRecDepth 65536 in
theorem w_c33 : (Jvm.Cond.code ({ cls := "jdk/internal/util/ArraysSupport", name := "vectorizedHashCode", desc := "(Ljava/lang/Object;IIII)I" } : Jvm.MethodName) jdk_48_method_4_code (5 : Nat) (Option.some Jvm.ClassFile.FieldType.int)).before args0 about1 = true := code_word (m := ⟨27, 1⟩) (meth := k27m1) (c := k27c1) (by decide +kernel) rfl rfl rfl (by decide +kernel)
set_option maxRecDepth 65536 in
theorem w_c34 : (Jvm.Cond.code ({ cls := "jdk/internal/util/ArraysSupport", name := "signedHashCode", desc := "(I[BII)I" } : Jvm.MethodName) jdk_48_method_5_code (6 : Nat) (Option.some Jvm.ClassFile.FieldType.int)).before args0 about1 = true := code_word (m := ⟨27, 2⟩) (meth := k27m2) (c := k27c2) (by decide +kernel) rfl rfl rfl (by decide +kernel)
set_option maxRecDepth 65536 in
theorem w_c35 : (Jvm.Cond.code ({ cls := "java/util/HashMap", name := "putVal", desc := "(ILjava/lang/Object;Ljava/lang/Object;ZZ)Ljava/lang/Object;" } : Jvm.MethodName) jdk_69_method_16_code (13 : Nat) (Option.some (Jvm.ClassFile.FieldType.object "java/lang/Object"))).before args0 about1 = true := code_word (m := ⟨13, 6⟩) (meth := k13m6) (c := k13c6) (by decide +kernel) rfl rfl rfl (by decide +kernel)
set_option maxRecDepth 65536 in
theorem w_c36 : (Jvm.Cond.code ({ cls := "java/util/HashMap", name := "resize", desc := "()[Ljava/util/HashMap$Node;" } : Jvm.MethodName) jdk_69_method_17_code (14 : Nat) (Option.some (Jvm.ClassFile.FieldType.array (Jvm.ClassFile.FieldType.object "java/util/HashMap$Node")))).before args0 about1 = true := code_word (m := ⟨13, 7⟩) (meth := k13m7) (c := k13c7) (by decide +kernel) rfl rfl rfl (by decide +kernel)
set_option maxRecDepth 65536 in
theorem w_c37 : (Jvm.Cond.code ({ cls := "java/util/HashMap", name := "newNode", desc := "(ILjava/lang/Object;Ljava/lang/Object;Ljava/util/HashMap$Node;)Ljava/util/HashMap$Node;" } : Jvm.MethodName) jdk_69_method_46_code (5 : Nat) (Option.some (Jvm.ClassFile.FieldType.object "java/util/HashMap$Node"))).before args0 about1 = true := code_word (m := ⟨13, 8⟩) (meth := k13m8) (c := k13c8) (by decide +kernel) rfl rfl rfl (by decide +kernel)
set_option maxRecDepth 65536 in
theorem w_c38 : (Jvm.Cond.code ({ cls := "java/util/HashMap$Node", name := "<init>", desc := "(ILjava/lang/Object;Ljava/lang/Object;Ljava/util/HashMap$Node;)V" } : Jvm.MethodName) jdk_70_method_1_code (5 : Nat) (Option.none : Option Jvm.ClassFile.FieldType)).before args0 about1 = true := code_word (m := ⟨29, 0⟩) (meth := k29m0) (c := k29c0) (by decide +kernel) rfl rfl rfl (by decide +kernel)
set_option maxRecDepth 65536 in
theorem w_c39 : (Jvm.Cond.code ({ cls := "java/util/HashMap", name := "afterNodeInsertion", desc := "(Z)V" } : Jvm.MethodName) jdk_69_method_52_code (2 : Nat) (Option.none : Option Jvm.ClassFile.FieldType)).before args0 about1 = true := code_word (m := ⟨13, 9⟩) (meth := k13m9) (c := k13c9) (by decide +kernel) rfl rfl rfl (by decide +kernel)
set_option maxRecDepth 65536 in
theorem w_c40 : (Jvm.Cond.code ({ cls := "java/lang/Math", name := "max", desc := "(II)I" } : Jvm.MethodName) jdk_29_method_65_code (2 : Nat) (Option.some Jvm.ClassFile.FieldType.int)).before args0 about1 = true := code_word (m := ⟨15, 1⟩) (meth := k15m1) (c := k15c1) (by decide +kernel) rfl rfl rfl (by decide +kernel)
def codes1 : List Jvm.Cond := [Jvm.Cond.code x code maxLocals ret, Jvm.Cond.code ({ cls := "java/lang/String", name := "<init>", desc := "([C)V" } : Jvm.MethodName) jdk_42_method_3_code (2 : Nat) (Option.none : Option Jvm.ClassFile.FieldType), Jvm.Cond.code ({ cls := "java/lang/String", name := "<init>", desc := "([CIILjava/lang/Void;)V" } : Jvm.MethodName) jdk_42_method_149_code (6 : Nat) (Option.none : Option Jvm.ClassFile.FieldType), Jvm.Cond.code ({ cls := "java/lang/Object", name := "<init>", desc := "()V" } : Jvm.MethodName) object_method_1_code (1 : Nat) (Option.none : Option Jvm.ClassFile.FieldType), Jvm.Cond.code ({ cls := "java/lang/StringUTF16", name := "compress", desc := "([CII)[B" } : Jvm.MethodName) jdk_52_method_16_code (6 : Nat) (Option.some (Jvm.ClassFile.FieldType.array Jvm.ClassFile.FieldType.byte)), Jvm.Cond.code ({ cls := "java/lang/StringUTF16", name := "compress", desc := "([CI[BII)I" } : Jvm.MethodName) jdk_52_method_21_code (7 : Nat) (Option.some Jvm.ClassFile.FieldType.int), Jvm.Cond.code ({ cls := "java/lang/StringUTF16", name := "coderFromArrayLen", desc := "([BI)B" } : Jvm.MethodName) jdk_52_method_15_code (2 : Nat) (Option.some Jvm.ClassFile.FieldType.byte), Jvm.Cond.code ({ cls := "com/example/meterwright/meterwright/RecordBody$Writer", name := "<init>", desc := "(B)V" } : Jvm.MethodName) prog_25_method_1_code (2 : Nat) (Option.none : Option Jvm.ClassFile.FieldType), Jvm.Cond.code ({ cls := "java/util/HashMap", name := "<init>", desc := "()V" } : Jvm.MethodName) jdk_69_method_7_code (1 : Nat) (Option.none : Option Jvm.ClassFile.FieldType), Jvm.Cond.code ({ cls := "java/util/AbstractMap", name := "<init>", desc := "()V" } : Jvm.MethodName) jdk_71_method_1_code (1 : Nat) (Option.none : Option Jvm.ClassFile.FieldType), Jvm.Cond.code ({ cls := "com/example/meterwright/meterwright/RecordBody$Writer", name := "room", desc := "(I)V" } : Jvm.MethodName) prog_25_method_9_code (2 : Nat) (Option.none : Option Jvm.ClassFile.FieldType), Jvm.Cond.code ({ cls := "com/example/meterwright/meterwright/RecordBody$Writer", name := "toByteArray", desc := "()[B" } : Jvm.MethodName) prog_25_method_8_code (1 : Nat) (Option.some (Jvm.ClassFile.FieldType.array Jvm.ClassFile.FieldType.byte)), Jvm.Cond.code ({ cls := "java/util/Arrays", name := "copyOf", desc := "([BI)[B" } : Jvm.MethodName) jdk_65_method_121_code (3 : Nat) (Option.some (Jvm.ClassFile.FieldType.array Jvm.ClassFile.FieldType.byte)), Jvm.Cond.code ({ cls := "java/lang/Math", name := "min", desc := "(II)I" } : Jvm.MethodName) jdk_29_method_69_code (2 : Nat) (Option.some Jvm.ClassFile.FieldType.int), Jvm.Cond.code ({ cls := "com/example/meterwright/meterwright/RecordBody$Writer", name := "whole", desc := "(J)V" } : Jvm.MethodName) prog_25_method_3_code (3 : Nat) (Option.none : Option Jvm.ClassFile.FieldType), Jvm.Cond.code ({ cls := "com/example/meterwright/meterwright/RecordBody$Writer", name := "number", desc := "(J)V" } : Jvm.MethodName) prog_25_method_4_code (3 : Nat) (Option.none : Option Jvm.ClassFile.FieldType), Jvm.Cond.code ({ cls := "com/example/meterwright/meterwright/WriterToByteArrayPinLaw", name := "at", desc := "([BIJ)I" } : Jvm.MethodName) method_2_code (4 : Nat) (Option.some Jvm.ClassFile.FieldType.int), Jvm.Cond.code ({ cls := "com/example/meterwright/meterwright/RecordBody$Writer", name := "text", desc := "(Ljava/lang/String;)V" } : Jvm.MethodName) prog_25_method_5_code (4 : Nat) (Option.none : Option Jvm.ClassFile.FieldType), Jvm.Cond.code ({ cls := "java/util/HashMap", name := "get", desc := "(Ljava/lang/Object;)Ljava/lang/Object;" } : Jvm.MethodName) jdk_69_method_12_code (3 : Nat) (Option.some (Jvm.ClassFile.FieldType.object "java/lang/Object")), Jvm.Cond.code ({ cls := "java/util/HashMap", name := "getNode", desc := "(Ljava/lang/Object;)Ljava/util/HashMap$Node;" } : Jvm.MethodName) jdk_69_method_13_code (8 : Nat) (Option.some (Jvm.ClassFile.FieldType.object "java/util/HashMap$Node")), Jvm.Cond.code ({ cls := "java/lang/String", name := "getBytes", desc := "(Ljava/nio/charset/Charset;)[B" } : Jvm.MethodName) jdk_42_method_64_code (2 : Nat) (Option.some (Jvm.ClassFile.FieldType.array Jvm.ClassFile.FieldType.byte)), Jvm.Cond.code ({ cls := "java/lang/String", name := "coder", desc := "()B" } : Jvm.MethodName) jdk_42_method_152_code (1 : Nat) (Option.some Jvm.ClassFile.FieldType.byte), Jvm.Cond.code ({ cls := "java/lang/String", name := "encode", desc := "(Ljava/nio/charset/Charset;B[B)[B" } : Jvm.MethodName) jdk_42_method_18_code (3 : Nat) (Option.some (Jvm.ClassFile.FieldType.array Jvm.ClassFile.FieldType.byte)), Jvm.Cond.code ({ cls := "java/lang/String", name := "encodeUTF8", desc := "(B[BZ)[B" } : Jvm.MethodName) jdk_42_method_46_code (9 : Nat) (Option.some (Jvm.ClassFile.FieldType.array Jvm.ClassFile.FieldType.byte)), Jvm.Cond.code ({ cls := "java/lang/StringCoding", name := "hasNegatives", desc := "([BII)Z" } : Jvm.MethodName) jdk_123_method_2_code (3 : Nat) (Option.some Jvm.ClassFile.FieldType.boolean), Jvm.Cond.code ({ cls := "java/lang/StringCoding", name := "countPositives", desc := "([BII)I" } : Jvm.MethodName) jdk_123_method_3_code (5 : Nat) (Option.some Jvm.ClassFile.FieldType.int), Jvm.Cond.code ({ cls := "java/util/HashMap", name := "size", desc := "()I" } : Jvm.MethodName) jdk_69_method_10_code (1 : Nat) (Option.some Jvm.ClassFile.FieldType.int), Jvm.Cond.code ({ cls := "java/lang/Integer", name := "valueOf", desc := "(I)Ljava/lang/Integer;" } : Jvm.MethodName) jdk_33_method_22_code (1 : Nat) (Option.some (Jvm.ClassFile.FieldType.object "java/lang/Integer")), Jvm.Cond.code ({ cls := "java/util/HashMap", name := "put", desc := "(Ljava/lang/Object;Ljava/lang/Object;)Ljava/lang/Object;" } : Jvm.MethodName) jdk_69_method_15_code (3 : Nat) (Option.some (Jvm.ClassFile.FieldType.object "java/lang/Object")), Jvm.Cond.code ({ cls := "java/util/HashMap", name := "hash", desc := "(Ljava/lang/Object;)I" } : Jvm.MethodName) jdk_69_method_1_code (2 : Nat) (Option.some Jvm.ClassFile.FieldType.int), Jvm.Cond.code ({ cls := "java/lang/String", name := "hashCode", desc := "()I" } : Jvm.MethodName) jdk_42_method_78_code (2 : Nat) (Option.some Jvm.ClassFile.FieldType.int), Jvm.Cond.code ({ cls := "java/lang/String", name := "isLatin1", desc := "()Z" } : Jvm.MethodName) jdk_42_method_154_code (1 : Nat) (Option.some Jvm.ClassFile.FieldType.boolean), Jvm.Cond.code ({ cls := "java/lang/StringLatin1", name := "hashCode", desc := "([B)I" } : Jvm.MethodName) jdk_43_method_21_code (1 : Nat) (Option.some Jvm.ClassFile.FieldType.int), Jvm.Cond.code ({ cls := "jdk/internal/util/ArraysSupport", name := "vectorizedHashCode", desc := "(Ljava/lang/Object;IIII)I" } : Jvm.MethodName) jdk_48_method_4_code (5 : Nat) (Option.some Jvm.ClassFile.FieldType.int), Jvm.Cond.code ({ cls := "jdk/internal/util/ArraysSupport", name := "signedHashCode", desc := "(I[BII)I" } : Jvm.MethodName) jdk_48_method_5_code (6 : Nat) (Option.some Jvm.ClassFile.FieldType.int), Jvm.Cond.code ({ cls := "java/util/HashMap", name := "putVal", desc := "(ILjava/lang/Object;Ljava/lang/Object;ZZ)Ljava/lang/Object;" } : Jvm.MethodName) jdk_69_method_16_code (13 : Nat) (Option.some (Jvm.ClassFile.FieldType.object "java/lang/Object")), Jvm.Cond.code ({ cls := "java/util/HashMap", name := "resize", desc := "()[Ljava/util/HashMap$Node;" } : Jvm.MethodName) jdk_69_method_17_code (14 : Nat) (Option.some (Jvm.ClassFile.FieldType.array (Jvm.ClassFile.FieldType.object "java/util/HashMap$Node"))), Jvm.Cond.code ({ cls := "java/util/HashMap", name := "newNode", desc := "(ILjava/lang/Object;Ljava/lang/Object;Ljava/util/HashMap$Node;)Ljava/util/HashMap$Node;" } : Jvm.MethodName) jdk_69_method_46_code (5 : Nat) (Option.some (Jvm.ClassFile.FieldType.object "java/util/HashMap$Node")), Jvm.Cond.code ({ cls := "java/util/HashMap$Node", name := "<init>", desc := "(ILjava/lang/Object;Ljava/lang/Object;Ljava/util/HashMap$Node;)V" } : Jvm.MethodName) jdk_70_method_1_code (5 : Nat) (Option.none : Option Jvm.ClassFile.FieldType), Jvm.Cond.code ({ cls := "java/util/HashMap", name := "afterNodeInsertion", desc := "(Z)V" } : Jvm.MethodName) jdk_69_method_52_code (2 : Nat) (Option.none : Option Jvm.ClassFile.FieldType), Jvm.Cond.code ({ cls := "java/lang/Math", name := "max", desc := "(II)I" } : Jvm.MethodName) jdk_29_method_65_code (2 : Nat) (Option.some Jvm.ClassFile.FieldType.int)]
set_option maxRecDepth 65536 in
theorem codes_eq : words1.filter isCode = codes1 := rfl
theorem w_codes : ∀ c ∈ words1.filter isCode, c.before args0 about1 = true := by
  rw [codes_eq]
  intro c hc
  simp only [codes1, List.mem_cons, List.not_mem_nil, or_false] at hc
  rcases hc with rfl | rfl | rfl | rfl | rfl | rfl | rfl | rfl | rfl | rfl | rfl | rfl | rfl | rfl | rfl | rfl | rfl | rfl | rfl | rfl | rfl | rfl | rfl | rfl | rfl | rfl | rfl | rfl | rfl | rfl | rfl | rfl | rfl | rfl | rfl | rfl | rfl | rfl | rfl | rfl | rfl
  · exact w_c0
  · exact w_c1
  · exact w_c2
  · exact w_c3
  · exact w_c4
  · exact w_c5
  · exact w_c6
  · exact w_c7
  · exact w_c8
  · exact w_c9
  · exact w_c10
  · exact w_c11
  · exact w_c12
  · exact w_c13
  · exact w_c14
  · exact w_c15
  · exact w_c16
  · exact w_c17
  · exact w_c18
  · exact w_c19
  · exact w_c20
  · exact w_c21
  · exact w_c22
  · exact w_c23
  · exact w_c24
  · exact w_c25
  · exact w_c26
  · exact w_c27
  · exact w_c28
  · exact w_c29
  · exact w_c30
  · exact w_c31
  · exact w_c32
  · exact w_c33
  · exact w_c34
  · exact w_c35
  · exact w_c36
  · exact w_c37
  · exact w_c38
  · exact w_c39
  · exact w_c40
set_option maxRecDepth 65536 in
theorem w_t1 : (words1.take 24).all (fun c => isCode c || c.before args0 about1) = true := by decide +kernel
set_option maxRecDepth 65536 in
theorem w_t2 : ((words1.drop 24).take 24).all (fun c => isCode c || c.before args0 about1) = true := by decide +kernel
set_option maxRecDepth 65536 in
theorem w_t3 : (((words1.drop 24).drop 24).take 24).all (fun c => isCode c || c.before args0 about1) = true := by decide +kernel
set_option maxRecDepth 65536 in
theorem w_t4 : ((((words1.drop 24).drop 24).drop 24).take 24).all (fun c => isCode c || c.before args0 about1) = true := by decide +kernel
set_option maxRecDepth 65536 in
theorem w_t5 : (((((words1.drop 24).drop 24).drop 24).drop 24).take 24).all (fun c => isCode c || c.before args0 about1) = true := by decide +kernel
set_option maxRecDepth 65536 in
theorem w_t6 : ((((((words1.drop 24).drop 24).drop 24).drop 24).drop 24).take 24).all (fun c => isCode c || c.before args0 about1) = true := by decide +kernel
set_option maxRecDepth 65536 in
theorem w_t7 : (((((((words1.drop 24).drop 24).drop 24).drop 24).drop 24).drop 24).take 24).all (fun c => isCode c || c.before args0 about1) = true := by decide +kernel
set_option maxRecDepth 65536 in
theorem w_t8 : ((((((((words1.drop 24).drop 24).drop 24).drop 24).drop 24).drop 24).drop 24).take 24).all (fun c => isCode c || c.before args0 about1) = true := by decide +kernel
set_option maxRecDepth 65536 in
theorem w_t9 : (((((((((words1.drop 24).drop 24).drop 24).drop 24).drop 24).drop 24).drop 24).drop 24).take 24).all (fun c => isCode c || c.before args0 about1) = true := by decide +kernel
set_option maxRecDepth 65536 in
theorem w_t10 : ((((((((((words1.drop 24).drop 24).drop 24).drop 24).drop 24).drop 24).drop 24).drop 24).drop 24).take 24).all (fun c => isCode c || c.before args0 about1) = true := by decide +kernel
set_option maxRecDepth 65536 in
theorem w_t11 : ((((((((((words1.drop 24).drop 24).drop 24).drop 24).drop 24).drop 24).drop 24).drop 24).drop 24).drop 24).all (fun c => isCode c || c.before args0 about1) = true := by decide +kernel
theorem w_tables : (allAtoms (Jvm.Cond.code x code maxLocals ret :: tables_1)).before args0 about1 = true := by
  rw [allAtoms_all]
  show words1.all (fun c => c.before args0 about1) = true
  refine all_split ?_ w_codes
  rw [← List.take_append_drop 24 words1, List.all_append, w_t1, ← List.take_append_drop 24 (words1.drop 24), List.all_append, w_t2, ← List.take_append_drop 24 ((words1.drop 24).drop 24), List.all_append, w_t3, ← List.take_append_drop 24 (((words1.drop 24).drop 24).drop 24), List.all_append, w_t4, ← List.take_append_drop 24 ((((words1.drop 24).drop 24).drop 24).drop 24), List.all_append, w_t5, ← List.take_append_drop 24 (((((words1.drop 24).drop 24).drop 24).drop 24).drop 24), List.all_append, w_t6, ← List.take_append_drop 24 ((((((words1.drop 24).drop 24).drop 24).drop 24).drop 24).drop 24), List.all_append, w_t7, ← List.take_append_drop 24 (((((((words1.drop 24).drop 24).drop 24).drop 24).drop 24).drop 24).drop 24), List.all_append, w_t8, ← List.take_append_drop 24 ((((((((words1.drop 24).drop 24).drop 24).drop 24).drop 24).drop 24).drop 24).drop 24), List.all_append, w_t9, ← List.take_append_drop 24 (((((((((words1.drop 24).drop 24).drop 24).drop 24).drop 24).drop 24).drop 24).drop 24).drop 24), List.all_append, w_t10, w_t11]
  rfl
set_option maxRecDepth 65536 in
theorem w_rest : rest_1_c.before args0 about1 = true := by decide +kernel
set_option maxRecDepth 65536 in
theorem w_case : (Jvm.Cond.and given_1 narrow_1).before args0 about1 = true := by decide +kernel
theorem w_applies : (headSpec (Jvm.Cond.code x code maxLocals ret :: tables_1) room_1).applies x e0.platform about1 = true :=
  (Spec.applies_iff w_frames).mpr ⟨w_running, w_runnable, w_alone, w_named, w_hears, w_ripe, w_room, w_tables⟩
theorem atStart : AtStart classFile x code maxLocals ret World_1 tables_1 room_1 Calls_1 rest_1 Pre_1 launch0 p0 e0 about1 theMethod args0 below0 :=
  ⟨lists_1, trivial, launch0.admits_env _ _ _, launch0.least_env, fairChoices_fair.cas, fairChoices_fair.clock, w_frames, w_args, w_heap, w_applies, trivial, w_rest, w_case⟩
end start1
theorem witness_1 : WitnessClaimed_1 := ⟨start1.p0, start1.e0, start1.about1, start1.theMethod, start1.args0, start1.below0, start1.atStart⟩
end Jvm.Pilot.@@N@@
