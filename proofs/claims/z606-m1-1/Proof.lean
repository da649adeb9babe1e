import JvmDerived
import JvmDerived.Pilot.@@N@@Statement
import JvmDerived.Pilot.@@N@@Code
set_option linter.unusedVariables false
set_option linter.unusedSimpArgs false
namespace Jvm.RoadKit
open Sem ClassFile Op Lib Jvm.Stand Jvm.Free Jvm.LawKit
section New
variable {p : Program} {l : Launch} {e : Env} {R : Room} {s : State} {m : MethodId} {args : Array Value} {below : List Frame} {meth : Method} {c : Code} {T : State} {locs : List Loc} {cells slots : Nat}
theorem retI (X : Stand p l e R s m args below meth c T locs cells slots) (hx : p.tables.exec = Jvm.exec) {pc : Nat} {Ls : Array Slot} {z : Int32} {rest : List Value} (hret : meth.sig.returnType = some .int) (hd : decode c.code pc = .ok (.ireturn, 1)) {fs : List Frame}
    (hl : ∀ (f : JFrame) (acts : List Action), f.method = m → f.locked = none → f.entered = [] → (doReturn e (T.setTop f) acts (some (.int z))).1 = T.setFrames fs) : Steps p.tables e below (T.setTop (mkF m pc Ls (.int z :: rest))) (T.setFrames fs) := by
  have hm' : T.vm.method? m = some meth := X.method'
  have hn : narrow .int (.int z) = .int z := rfl
  show Steps _ _ _ (T.setTop { method := m, pc := pc, locals := Ls, stack := _ :: rest, locked := none }) _
  jvm_step X.here [X.here.top, hx, hd, hm', hret, hn]
  first | (intro acts; rw [hl _ acts rfl rfl rfl]) | rw [hl _ _ rfl rfl rfl]
  exact Steps.refl _
end New
end Jvm.RoadKit
namespace Jvm.Pilot.@@N@@
open Jvm Jvm.ClassFile Sem Op Lib Jvm.Free Jvm.Stand Jvm.LawKit Jvm.RoadKit Bundle Jvm.Pilot.@@N@@.Jvm.D
theorem pn_0 : plainName "com/example/circlerank/circlerank/generate/AliasTable" = true := by first | (simp [plainName, overriddenIn]; done) | decide +kernel
theorem pn_1 : plainName "com/example/circlerank/circlerank/generate/AliasTableBuildPinLaw" = true := by first | (simp [plainName, overriddenIn]; done) | decide +kernel
theorem pd_0 : parseMethodDescriptor "(I)V" = some ⟨[.int], none⟩ := by decide +kernel
theorem pd_1 : parseMethodDescriptor "([DII[I)V" = some ⟨[(.array .double), .int, .int, (.array .int)], none⟩ := by decide +kernel
theorem pd_2 : parseMethodDescriptor "(IIJ)I" = some ⟨[.int, .int, .long], some .int⟩ := by decide +kernel
end Jvm.Pilot.@@N@@
namespace Jvm.OwnFP
open Jvm.FP.Core
theorem own_qmin : b64.qmin = -1074 := by decide
theorem own_shape (n : Int64) (h0 : 0 < n.toInt) (h1 : n.toInt ≤ 4503599627370496) : ∃ (c : Nat) (q : Int), val64 (l2d n) = .fin false c q ∧ Jvm.FP.Core.fits b64 (.fin false c q) ∧ (c * 2 ^ (q - b64.qmin).toNat : Nat) = n.toInt.toNat * one64 := by
  obtain ⟨c, q, h⟩ := l2d_shape n
  have hs : decide (n.toInt < 0) = false := decide_eq_false (by omega)
  rw [hs] at h
  have hw : Whole n.toInt (val64 (l2d n)) := l2d_whole (a := n) ⟨by omega, by omega⟩
  have hf := val64_fits (l2d n)
  have hz := whole_zval good_b64 hf hw
  rw [h] at hf hz
  refine ⟨c, q, h, hf, ?_⟩
  rw [pow_qmin64] at hz
  have hz2 : ((c * 2 ^ (q - b64.qmin).toNat : Nat) : Int) = n.toInt * (one64 : Int) := hz
  have e : ((n.toInt.toNat * one64 : Nat) : Int) = n.toInt * (one64 : Int) := by
    rw [Int.natCast_mul, Int.toNat_of_nonneg (by omega)]
  exact Int.ofNat.inj (hz2.trans e.symm)
/-- the quotient of two whole numbers: how it stands to a number of the format -/
theorem own_div (m n : Int64) (m0 : 0 < m.toInt) (m1 : m.toInt ≤ 4503599627370496) (n0 : 0 < n.toInt) (n1 : n.toInt ≤ 4503599627370496) :
    val64 (ddiv (l2d m) (l2d n)) ≠ .nan ∧ sgn (val64 (ddiv (l2d m) (l2d n))) = false ∧
    (∀ V : Datum, Jvm.FP.Core.fits b64 V → zmag b64 V * n.toInt.toNat ≤ m.toInt.toNat * one64 → zmag b64 V ≤ zmag b64 (val64 (ddiv (l2d m) (l2d n)))) ∧
    (∀ V : Datum, Jvm.FP.Core.fits b64 V → V ≠ .nan → m.toInt.toNat * one64 ≤ zmag b64 V * n.toInt.toNat → zmag b64 (val64 (ddiv (l2d m) (l2d n))) ≤ zmag b64 V) := by
  obtain ⟨c, q, hc, fc, uc⟩ := own_shape m m0 m1
  obtain ⟨d, r, hd, fd, ud⟩ := own_shape n n0 n1
  have hq := own_qmin
  have d0 : d ≠ 0 := by
    intro h; subst h
    have := one64_pos
    rw [Nat.zero_mul] at ud
    have : 0 < n.toInt.toNat * one64 := Nat.mul_pos (by omega) this
    omega
  have e : val64 (ddiv (l2d m) (l2d n)) = roundRatio b64 false c d (q - r) := by
    rw [val64_ddiv, hc, hd]
    show (if d = 0 then _ else _) = _
    rw [if_neg d0]; rfl
  rw [e]
  have fq := fc.2.1
  have fr := fd.2.2.1
  have hqm : b64.qmax = 971 := by decide
  have pe : (q - r - (b64.qmin + b64.qmin)).toNat = (q - b64.qmin).toNat + (-b64.qmin - r).toNat := by omega
  have pv : (b64.qmin - (b64.qmin + b64.qmin)).toNat = (-b64.qmin).toNat := by omega
  have pr : (-b64.qmin - r).toNat + (r - b64.qmin).toNat = (-b64.qmin).toNat + (-b64.qmin).toNat := by
    have := fd.2.1
    omega
  have iu : inUnits c (q - r) (b64.qmin + b64.qmin) = m.toInt.toNat * one64 * 2 ^ (-b64.qmin - r).toNat := by
    unfold inUnits
    rw [pe, Nat.pow_add, ← Nat.mul_assoc, uc]
  have k0 : 0 < 2 ^ (r - b64.qmin).toNat := Nat.two_pow_pos _
  have key : ∀ z : Nat, (z * n.toInt.toNat) * (one64 * one64) = (z * one64 * d) * 2 ^ (r - b64.qmin).toNat := by
    intro z
    have : (z * one64 * d) * 2 ^ (r - b64.qmin).toNat = (z * one64) * (d * 2 ^ (r - b64.qmin).toNat) := by rw [Nat.mul_assoc]
    rw [this, ud]
    generalize one64 = o
    generalize n.toInt.toNat = w
    ac_rfl
  have key2 : (m.toInt.toNat * one64) * (one64 * one64) = (m.toInt.toNat * one64 * 2 ^ (-b64.qmin - r).toNat) * 2 ^ (r - b64.qmin).toNat := by
    rw [Nat.mul_assoc (m.toInt.toNat * one64), ← Nat.pow_add, pr, Nat.pow_add, pow_qmin64]
  refine ⟨roundRatio_ne_nan _ _ _ _ _, sgn_roundRatio _ _ _ _ _, fun V hV h => ?_, fun V hV hn h => ?_⟩
  · refine zmag_roundRatio_ge good_b64 (e0 := b64.qmin + b64.qmin) (Nat.pos_of_ne_zero d0) hV (by omega) (by omega) ?_
    rw [pv, pow_qmin64, iu]
    refine Nat.le_of_mul_le_mul_right ?_ k0
    rw [← key, ← key2]
    exact Nat.mul_le_mul_right _ h
  · refine zmag_roundRatio_le good_b64 (e0 := b64.qmin + b64.qmin) (Nat.pos_of_ne_zero d0) hV hn (by omega) (by omega) ?_
    rw [pv, pow_qmin64, iu]
    refine Nat.le_of_mul_le_mul_right ?_ k0
    rw [← key, ← key2]
    exact Nat.mul_le_mul_right _ h
/-- a number of the format, by its significand -/
theorem own_rep (c : Nat) (q : Int) (hc : c < 2 ^ 53) (h1 : -1074 ≤ q) (h2 : q ≤ 0) : ∃ V : Datum, Jvm.FP.Core.fits b64 V ∧ V ≠ .nan ∧ sgn V = false ∧ zmag b64 V = c * 2 ^ (q + 1074).toNat ∧ V = round b64 (.fin false c q) := by
  have hq := own_qmin
  have hqm : b64.qmax = 971 := by decide
  obtain ⟨c', q', e, u⟩ := round_exact good_b64 false (c := c) (q := q) hc (by omega) (by omega)
  have hf := round_fits good_b64 (.fin false c q)
  refine ⟨_, hf, ?_, ?_, ?_, rfl⟩
  · rw [e]; exact Datum.noConfusion
  · rw [e]; rfl
  · rw [e]
    show inUnits c' q' b64.qmin = _
    rw [u]
    unfold inUnits
    congr 2
theorem own_one : val64 dconst1 = .fin false (2 ^ 52) (-52) := val64_dconst1
theorem own_zone : zmag b64 (val64 dconst1) = one64 := by
  rw [own_one]
  show 2 ^ 52 * 2 ^ (-52 - b64.qmin).toNat = one64
  rw [← Nat.pow_add]
  rfl
theorem own_zv {x : Datum} (h : sgn x = false) : zval b64 x = (zmag b64 x : Int) := by
  unfold zval; rw [h]; rfl
theorem own_sub {x y : UInt64} (hx : val64 x ≠ .nan) (hy : val64 y ≠ .nan) (sx : sgn (val64 x) = false) (sy : sgn (val64 y) = false) : dcmp x y = some .lt ↔ zmag b64 (val64 x) < zmag b64 (val64 y) := by
  rw [dcmp_lt, own_zv sx, own_zv sy]
  constructor
  · intro h; exact Int.ofNat_lt.mp h.2.2
  · intro h; exact ⟨hx, hy, Int.ofNat_lt.mpr h⟩
theorem own_lt1 (m n : Int64) (m0 : 0 < m.toInt) (m1 : m.toInt ≤ 4503599627370496) (n0 : 0 < n.toInt) (n1 : n.toInt ≤ 4503599627370496) : dcmp (ddiv (l2d m) (l2d n)) dconst1 = some .lt ↔ m.toInt < n.toInt := by
  obtain ⟨h1, h2, h3, h4⟩ := own_div m n m0 m1 n0 n1
  have o1 : val64 dconst1 ≠ .nan := by rw [own_one]; exact Datum.noConfusion
  have o2 : sgn (val64 dconst1) = false := by rw [own_one]; rfl
  rw [own_sub h1 o1 h2 o2, own_zone]
  constructor
  · intro h
    apply Classical.byContradiction
    intro q
    have := h3 (val64 dconst1) (val64_fits _) (by
      rw [own_zone, Nat.mul_comm]
      exact Nat.mul_le_mul_right _ (by omega))
    rw [own_zone] at this
    omega
  · intro h
    obtain ⟨V, v1, v2, v3, v4, -⟩ := own_rep (2 ^ 53 - 1) (-53) (by decide) (by decide) (by decide)
    have e1 : one64 = 2 ^ 53 * 2 ^ 1021 := by rw [← Nat.pow_add]; rfl
    have e2 : (-53 + 1074 : Int).toNat = 1021 := by decide
    rw [e2] at v4
    have := h4 V v1 v2 (by
      rw [v4, e1, ← Nat.mul_assoc, Nat.mul_right_comm (2 ^ 53 - 1)]
      refine Nat.mul_le_mul_right _ ?_
      have : (2 : Nat) ^ 53 = 9007199254740992 := by decide
      rw [this]
      omega)
    rw [v4] at this
    refine Nat.lt_of_le_of_lt this ?_
    rw [e1]
    exact Nat.mul_lt_mul_of_pos_right (by decide) (Nat.two_pow_pos _)
theorem own_dfin (m n : Int64) (m0 : 0 < m.toInt) (m1 : m.toInt ≤ 4503599627370496) (n0 : 0 < n.toInt) (n1 : n.toInt ≤ 4503599627370496) : DFin (ddiv (l2d m) (l2d n)) := by
  obtain ⟨h1, h2, h3, h4⟩ := own_div m n m0 m1 n0 n1
  obtain ⟨c, q, hc, fc, uc⟩ := own_shape m m0 m1
  have hz : zmag b64 (val64 (l2d m)) = m.toInt.toNat * one64 := by rw [hc]; exact uc
  have hf := val64_fits (l2d m)
  have := h4 (val64 (l2d m)) hf (by rw [hc]; exact Datum.noConfusion) (by
    rw [hz]
    generalize m.toInt.toNat * one64 = o
    exact Nat.le_mul_of_pos_right _ (by omega))
  have lt : zmag b64 (val64 (l2d m)) < b64.tails * 2 ^ (b64.exps - 2) := by
    rw [hc]; exact zmag_lt_top good_b64 fc
  generalize hv : val64 (ddiv (l2d m) (l2d n)) = V at *
  cases V with
  | nan => exact absurd rfl h1
  | inf s => exact absurd (Nat.lt_of_le_of_lt this lt) (Nat.lt_irrefl _)
  | fin s c q => exact ⟨s, c, q, hv⟩
/-- the fraction that a draw reads -/
theorem own_half (n : Int64) (h0 : 0 ≤ n.toInt) (h1 : n.toInt < 4294967296) : val64 (dmul (l2d n) 4463067230724161536) ≠ .nan ∧ sgn (val64 (dmul (l2d n) 4463067230724161536)) = false ∧ zmag b64 (val64 (dmul (l2d n) 4463067230724161536)) = n.toInt.toNat * 2 ^ 1042 := by
  have hk : val64 4463067230724161536 = .fin false (2 ^ 52) (-84) := by decide
  obtain ⟨c, q, h⟩ := l2d_shape n
  have hs : decide (n.toInt < 0) = false := decide_eq_false (by omega)
  rw [hs] at h
  have hw : Whole n.toInt (val64 (l2d n)) := l2d_whole (a := n) ⟨by omega, by omega⟩
  have hf := val64_fits (l2d n)
  have hz := whole_zval good_b64 hf hw
  rw [h] at hf hz
  rw [pow_qmin64] at hz
  have hz2 : ((c * 2 ^ (q - b64.qmin).toNat : Nat) : Int) = n.toInt * (one64 : Int) := hz
  have e : ((n.toInt.toNat * one64 : Nat) : Int) = n.toInt * (one64 : Int) := by
    rw [Int.natCast_mul, Int.toNat_of_nonneg (by omega)]
  have uc : c * 2 ^ (q - b64.qmin).toNat = n.toInt.toNat * one64 := Int.ofNat.inj (hz2.trans e.symm)
  have hq := own_qmin
  have fq := hf.2.1
  have e1 : val64 (dmul (l2d n) 4463067230724161536) = round b64 (.fin false n.toInt.toNat (-32)) := by
    rw [val64_dmul, h, hk]
    show roundRatio b64 false (c * 2 ^ 52) 1 (q + -84) = roundRatio b64 false n.toInt.toNat 1 (-32)
    refine roundRatio_congr (by decide) (by decide) ?_
    have k0 : 0 < 2 ^ (-b64.qmin).toNat := Nat.two_pow_pos _
    refine Nat.eq_of_mul_eq_mul_right k0 ?_
    have p1 : 52 + (q + -84 - -32).toNat + (-b64.qmin).toNat = (q - b64.qmin).toNat + (-32 - (q + -84)).toNat := by omega
    have l : c * 2 ^ 52 * 1 * 2 ^ (q + -84 - -32).toNat * 2 ^ (-b64.qmin).toNat = c * 2 ^ (52 + (q + -84 - -32).toNat + (-b64.qmin).toNat) := by
      rw [Nat.mul_one, Nat.pow_add, Nat.pow_add, ← Nat.mul_assoc, ← Nat.mul_assoc]
    rw [l, p1, Nat.pow_add, ← Nat.mul_assoc, uc, Nat.mul_one, Nat.mul_right_comm]
    have : one64 = 2 ^ (-b64.qmin).toNat := by rw [hq]; rfl
    rw [this]
  obtain ⟨V, v1, v2, v3, v4, v5⟩ := own_rep n.toInt.toNat (-32) (Nat.lt_of_lt_of_le (by omega) (show 4294967296 ≤ 2 ^ 53 by decide)) (by decide) (by decide)
  rw [e1, ← v5]
  exact ⟨v2, v3, v4⟩
theorem own_lt_one (n : Int64) (h0 : 0 ≤ n.toInt) (h1 : n.toInt < 4294967296) : dcmp (dmul (l2d n) 4463067230724161536) dconst1 = some .lt := by
  obtain ⟨a1, a2, a3⟩ := own_half n h0 h1
  have o1 : val64 dconst1 ≠ .nan := by rw [own_one]; exact Datum.noConfusion
  have o2 : sgn (val64 dconst1) = false := by rw [own_one]; rfl
  rw [own_sub a1 o1 a2 o2, own_zone, a3]
  have e1 : one64 = 4294967296 * 2 ^ 1042 := by
    rw [show (4294967296 : Nat) = 2 ^ 32 by decide, ← Nat.pow_add]; rfl
  rw [e1]
  exact Nat.mul_lt_mul_of_pos_right (by omega) (Nat.two_pow_pos _)
theorem own_cmp (k m n : Int64) (h0 : 0 ≤ k.toInt) (h1 : k.toInt < 4294967296) (m0 : 0 < m.toInt) (m1 : m.toInt ≤ 4503599627370496) (n0 : 0 < n.toInt) (n1 : n.toInt ≤ 131072) : dcmp (dmul (l2d k) 4463067230724161536) (ddiv (l2d m) (l2d n)) = some .lt ↔ k.toInt * n.toInt < m.toInt * 4294967296 := by
  obtain ⟨a1, a2, a3⟩ := own_half k h0 h1
  obtain ⟨b1, b2, b3, b4⟩ := own_div m n m0 m1 n0 (by omega)
  rw [own_sub a1 b1 a2 b2]
  have e1 : one64 = 4294967296 * 2 ^ 1042 := by
    rw [show (4294967296 : Nat) = 2 ^ 32 by decide, ← Nat.pow_add]; rfl
  have cast : k.toInt * n.toInt < m.toInt * 4294967296 ↔ k.toInt.toNat * n.toInt.toNat < m.toInt.toNat * 4294967296 := by
    rw [← Int.ofNat_lt, Int.natCast_mul, Int.natCast_mul, Int.toNat_of_nonneg h0, Int.toNat_of_nonneg (by omega), Int.toNat_of_nonneg (by omega)]
    exact Iff.rfl
  rw [cast]
  generalize hK : k.toInt.toNat = K at *
  generalize hN : n.toInt.toNat = N at *
  generalize hM : m.toInt.toNat = M at *
  constructor
  · intro h
    apply Classical.byContradiction
    intro q
    have := b4 (val64 (dmul (l2d k) 4463067230724161536)) (val64_fits _) a1 (by
      rw [a3, e1, ← Nat.mul_assoc, Nat.mul_right_comm K]
      exact Nat.mul_le_mul_right _ (by omega))
    exact absurd (Nat.lt_of_lt_of_le h this) (Nat.lt_irrefl _)
  · intro h
    have kb : K * 131072 + 1 < 2 ^ 53 := Nat.lt_of_le_of_lt (show K * 131072 + 1 ≤ 562949953421313 by omega) (by decide)
    obtain ⟨V, v1, v2, v3, v4, -⟩ := own_rep (K * 131072 + 1) (-49) kb (by decide) (by decide)
    have e2 : (-49 + 1074 : Int).toNat = 1025 := by decide
    have e3 : (2 : Nat) ^ 1042 = 131072 * 2 ^ 1025 := by
      rw [show (131072 : Nat) = 2 ^ 17 by decide, ← Nat.pow_add]
    rw [e2] at v4
    have := b3 V v1 (by
      rw [v4, e1, e3, ← Nat.mul_assoc, ← Nat.mul_assoc, Nat.mul_right_comm (K * 131072 + 1)]
      refine Nat.mul_le_mul_right _ ?_
      have t1 : (K * 131072 + 1) * N = K * N * 131072 + N := by rw [Nat.add_mul, Nat.one_mul, Nat.mul_right_comm]
      rw [t1]
      generalize K * N = Y at *
      omega)
    refine Nat.lt_of_lt_of_le ?_ this
    rw [a3, v4, e3, ← Nat.mul_assoc]
    exact Nat.mul_lt_mul_of_pos_right (Nat.lt_succ_self _) (Nat.two_pow_pos _)
end Jvm.OwnFP
namespace Jvm.Pilot.@@N@@
open Jvm Jvm.ClassFile Sem Op Lib Jvm.Free Jvm.Stand Jvm.LawKit Jvm.RoadKit Bundle Jvm.Pilot.@@N@@.Jvm.D
def own_q (m n : Int64) : UInt64 := FP.ddiv (FP.l2d m) (FP.l2d n)
def own_u (k : Int64) : UInt64 := FP.dmul (FP.l2d k) 4463067230724161536
def own_b (A : Int64) : Prop := 1 ≤ A.toInt ∧ A.toInt ≤ 65536
theorem own_lt0 (o : Option Ordering) : cmpValue o .g < (0 : Int32) ↔ o = some .lt := by
  cases o with
  | none => exact ⟨fun h => absurd h (by decide), fun h => by cases h⟩
  | some x => cases x <;> first | exact ⟨fun _ => rfl, fun _ => by decide⟩ | exact ⟨fun h => absurd h (by decide), fun h => by cases h⟩
theorem own_b53 {A : Int64} (h : own_b A) : B53 A := ⟨by have := h.1; omega, by have := h.2; omega⟩
theorem own_two : (2 : Int64).toInt = 2 := by decide
theorem own_sum {A B : Int64} (hA : own_b A) (hB : own_b B) : (A + B).toInt = A.toInt + B.toInt := by
  obtain ⟨a1, a2⟩ := hA
  obtain ⟨b1, b2⟩ := hB
  exact XT.add64 ⟨by omega, by omega⟩
theorem own_dbl {A : Int64} (hA : own_b A) : (A * (2 : Int64)).toInt = A.toInt * 2 := by
  obtain ⟨a1, a2⟩ := hA
  rw [XT.mul64 (by rw [own_two]; exact ⟨by omega, by omega⟩), own_two]
theorem own_dbl' {A : Int64} (hA : own_b A) : ((2 : Int64) * A).toInt = 2 * A.toInt := by
  obtain ⟨a1, a2⟩ := hA
  rw [XT.mul64 (by rw [own_two]; exact ⟨by omega, by omega⟩), own_two]
theorem own_d0 {A : Int64} (h : own_b A) : FP.dadd FP.dconst0 (FP.l2d A) = FP.l2d A := by
  have e : FP.dconst0 = FP.l2d 0 := by decide
  rw [e, dadd_w ⟨by decide, by decide⟩ (own_b53 h), Int64.zero_add]
theorem own_dab {A B : Int64} (hA : own_b A) (hB : own_b B) : FP.dadd (FP.l2d A) (FP.l2d B) = FP.l2d (A + B) := dadd_w (own_b53 hA) (own_b53 hB)
theorem own_ne0 {A : Int64} (h : own_b A) : ¬ A = 0 := by
  intro q; subst q; exact absurd h.1 (by decide)
theorem own_m2 {A : Int64} (h : own_b A) : FP.dmul (FP.l2d A) (FP.i2d (2 : Int32)) = FP.l2d (A * (2 : Int64)) := by
  have e : FP.i2d (2 : Int32) = FP.l2d (2 : Int64) := i2d_w 2
  obtain ⟨a1, a2⟩ := id h
  rw [e, dmul_w (own_b53 h) ⟨by decide, by decide⟩ (own_ne0 h) (by decide) (by rw [own_two]; omega) (by rw [own_two]; omega)]
theorem own_m1 {A : Int64} (h : own_b A) : FP.dmul (FP.l2d A) (FP.i2d (1 : Int32)) = FP.l2d A := by
  have e : FP.i2d (1 : Int32) = FP.l2d (1 : Int64) := i2d_w 1
  have o : (1 : Int64).toInt = 1 := by decide
  obtain ⟨a1, a2⟩ := id h
  rw [e, dmul_w (own_b53 h) ⟨by decide, by decide⟩ (own_ne0 h) (by decide) (by rw [o]; omega) (by rw [o]; omega), Int64.mul_one]
theorem own_qf {m n : Int64} (m0 : 0 < m.toInt) (m1 : m.toInt ≤ 4503599627370496) (n0 : 0 < n.toInt) (n1 : n.toInt ≤ 4503599627370496) : Jvm.Free.Fl.Fin64 (own_q m n) := Jvm.Free.Fl.fin64_core.mpr (Jvm.OwnFP.own_dfin m n m0 m1 n0 n1)
theorem own_onef : Jvm.Free.Fl.Fin64 FP.dconst1 := by unfold Jvm.Free.Fl.Fin64; decide
theorem own_qA {A B : Int64} (hA : own_b A) (hB : own_b B) : Jvm.Free.Fl.Fin64 (own_q (A * (2 : Int64)) (A + B)) := by
  have e1 := own_sum hA hB
  have e2 := own_dbl hA
  obtain ⟨a1, a2⟩ := hA
  obtain ⟨b1, b2⟩ := hB
  exact own_qf (by omega) (by omega) (by omega) (by omega)
theorem own_qB {A B : Int64} (hA : own_b A) (hB : own_b B) : Jvm.Free.Fl.Fin64 (own_q (B * (2 : Int64)) (A + B)) := by
  have e1 := own_sum hA hB
  have e2 := own_dbl hB
  obtain ⟨a1, a2⟩ := hA
  obtain ⟨b1, b2⟩ := hB
  exact own_qf (by omega) (by omega) (by omega) (by omega)
theorem own_qC {A : Int64} (hA : own_b A) : Jvm.Free.Fl.Fin64 (own_q A A) := by
  obtain ⟨a1, a2⟩ := hA
  exact own_qf (by omega) (by omega) (by omega) (by omega)
theorem own_loop {x y : UInt64} (hx : Jvm.Free.Fl.Fin64 x) (hy : Jvm.Free.Fl.Fin64 y) : Jvm.Free.Fl.NoNaN64 (FP.dsub x FP.dconst1) ∧ Jvm.Free.Fl.NoNaN64 (FP.dadd y (FP.dsub x FP.dconst1)) := by
  have h := Jvm.Free.Fl.dsub_out hx.noNaN own_onef
  exact ⟨h, Jvm.Free.Fl.dadd_out' hy h⟩
theorem own_cmpA {A B : Int64} (hA : own_b A) (hB : own_b B) : (cmpValue (FP.dcmp (own_q (A * (2 : Int64)) (A + B)) FP.dconst1) .g) < (0 : Int32) ↔ A.toInt < B.toInt := by
  have e1 := own_sum hA hB
  have e2 := own_dbl hA
  obtain ⟨a1, a2⟩ := hA
  obtain ⟨b1, b2⟩ := hB
  rw [own_lt0]
  refine (Jvm.OwnFP.own_lt1 (A * (2 : Int64)) (A + B) (by omega) (by omega) (by omega) (by omega)).trans ?_
  omega
theorem own_cmpB {A B : Int64} (hA : own_b A) (hB : own_b B) : (cmpValue (FP.dcmp (own_q (B * (2 : Int64)) (A + B)) FP.dconst1) .g) < (0 : Int32) ↔ B.toInt < A.toInt := by
  have e1 := own_sum hA hB
  have e2 := own_dbl hB
  obtain ⟨a1, a2⟩ := hA
  obtain ⟨b1, b2⟩ := hB
  rw [own_lt0]
  refine (Jvm.OwnFP.own_lt1 (B * (2 : Int64)) (A + B) (by omega) (by omega) (by omega) (by omega)).trans ?_
  omega
theorem own_cmpC {A : Int64} (hA : own_b A) : ¬ (cmpValue (FP.dcmp (own_q A A) FP.dconst1) .g) < (0 : Int32) := by
  obtain ⟨a1, a2⟩ := hA
  rw [own_lt0]
  exact fun h => absurd ((Jvm.OwnFP.own_lt1 A A (by omega) (by omega) (by omega) (by omega)).mp h) (by omega)
def own_alt (f k : Int32) (A B : Int64) (ta tb : UInt64) (la lb : Int32) : Prop := (A.toInt < B.toInt ∧ ta = own_q (A * (2 : Int64)) (A + B) ∧ tb = FP.dconst1 ∧ la = k) ∨ (B.toInt < A.toInt ∧ ta = FP.dconst1 ∧ tb = own_q (B * (2 : Int64)) (A + B) ∧ lb = f) ∨ (A.toInt = B.toInt ∧ ta = FP.dconst1 ∧ tb = FP.dconst1)
theorem own_altL {f k lb : Int32} {A B : Int64} (hA : own_b A) (hB : own_b B) (h : (cmpValue (FP.dcmp (own_q (A * (2 : Int64)) (A + B)) FP.dconst1) .g) < (0 : Int32)) : own_alt f k A B (own_q (A * (2 : Int64)) (A + B)) FP.dconst1 k lb := Or.inl ⟨(own_cmpA hA hB).mp h, rfl, rfl, rfl⟩
theorem own_altG {f k la : Int32} {A B : Int64} (hA : own_b A) (hB : own_b B) (h : (cmpValue (FP.dcmp (own_q (B * (2 : Int64)) (A + B)) FP.dconst1) .g) < (0 : Int32)) : own_alt f k A B FP.dconst1 (own_q (B * (2 : Int64)) (A + B)) la f := Or.inr (Or.inl ⟨(own_cmpB hA hB).mp h, rfl, rfl, rfl⟩)
theorem own_altE {f k la lb : Int32} {A B : Int64} (hA : own_b A) (hB : own_b B) (h1 : ¬ (cmpValue (FP.dcmp (own_q (A * (2 : Int64)) (A + B)) FP.dconst1) .g) < (0 : Int32)) (h2 : ¬ (cmpValue (FP.dcmp (own_q (B * (2 : Int64)) (A + B)) FP.dconst1) .g) < (0 : Int32)) : own_alt f k A B FP.dconst1 FP.dconst1 la lb := by
  rw [own_cmpA hA hB] at h1
  rw [own_cmpB hA hB] at h2
  exact Or.inr (Or.inr ⟨by omega, rfl, rfl⟩)
theorem own_nb {A B : Int64} (hA : own_b A) (hB : own_b B) (h : (cmpValue (FP.dcmp (own_q (A * (2 : Int64)) (A + B)) FP.dconst1) .g) < (0 : Int32)) : ¬ (cmpValue (FP.dcmp (own_q (B * (2 : Int64)) (A + B)) FP.dconst1) .g) < (0 : Int32) := by
  rw [own_cmpA hA hB] at h
  rw [own_cmpB hA hB]
  omega
theorem own_lo (r : Int64) : 0 ≤ (r &&& (4294967295 : Int64)).toInt ∧ (r &&& (4294967295 : Int64)).toInt < 4294967296 := by
  have h := c_maskL r 4294967295 32 (by decide) (by decide)
  omega
theorem own_unn (r : Int64) : Jvm.Free.Fl.NoNaN64 (FP.dmul (FP.l2d (r &&& (4294967295 : Int64))) (4463067230724161536 : UInt64)) := by
  refine Jvm.Free.Fl.noNaN64_no.mpr ?_
  have := (Jvm.OwnFP.own_half _ (own_lo r).1 (own_lo r).2).1
  cases q : Jvm.FP.Core.dIsNaN (Jvm.FP.Core.dmul (Jvm.FP.Core.l2d (r &&& (4294967295 : Int64))) 4463067230724161536) with
  | false => rfl
  | true => exact absurd ((Jvm.FP.Core.dIsNaN_iff _).mp q) this
theorem own_u1 (r : Int64) : (cmpValue (FP.dcmp (own_u (r &&& (4294967295 : Int64))) FP.dconst1) .g) < (0 : Int32) := (own_lt0 _).mpr (Jvm.OwnFP.own_lt_one _ (own_lo r).1 (own_lo r).2)
theorem own_pick (r : Int64) {A B m : Int64} (hA : own_b A) (hB : own_b B) (hm : own_b m) : (cmpValue (FP.dcmp (own_u (r &&& (4294967295 : Int64))) (own_q (m * (2 : Int64)) (A + B))) .g) < (0 : Int32) ↔ ((r &&& (4294967295 : Int64)) * (A + B)) < (((2 : Int64) * m) <<< ((32 : Int32) &&& 0x3f).toInt64) := by
  have e1 := own_sum hA hB
  have e2 := own_dbl hm
  have e3 := own_dbl' hm
  have l := own_lo r
  have e4 := c_lshl ((2 : Int64) * m) 32 32 (by decide)
  obtain ⟨a1, a2⟩ := hA
  obtain ⟨b1, b2⟩ := hB
  obtain ⟨m1, m2⟩ := hm
  have r4 := (((2 : Int64) * m) <<< ((32 : Int32) &&& 0x3f).toInt64).toInt_lt
  have r5 := (((2 : Int64) * m) <<< ((32 : Int32) &&& 0x3f).toInt64).le_toInt
  rw [own_lt0]
  refine (Jvm.OwnFP.own_cmp (r &&& (4294967295 : Int64)) (m * (2 : Int64)) (A + B) l.1 l.2 (by omega) (by omega) (by omega) (by omega)).trans ?_
  have p0 : 0 ≤ (r &&& (4294967295 : Int64)).toInt * (A + B).toInt := Int.mul_nonneg l.1 (by omega)
  have p1 : (r &&& (4294967295 : Int64)).toInt * (A + B).toInt ≤ 4294967296 * 131072 := Int.mul_le_mul (by omega) (by omega) (by omega) (by decide)
  rw [Int64.lt_iff_toInt_lt, XT.mul64 (x := (r &&& (4294967295 : Int64))) (y := A + B) ⟨by omega, by omega⟩]
  generalize (r &&& (4294967295 : Int64)).toInt * (A + B).toInt = Y at *
  omega
theorem own_e0 (r : Int64) {A B : Int64} {f k la lb : Int32} {ta tb : UInt64} (hA : own_b A) (hB : own_b B) (h : own_alt f k A B ta tb la lb) : (if (cmpValue (FP.dcmp (own_u (r &&& (4294967295 : Int64))) ta) .g) < (0 : Int32) then f else la) = (if A < B then (if ((r &&& (4294967295 : Int64)) * (A + B)) < (((2 : Int64) * A) <<< ((32 : Int32) &&& 0x3f).toInt64) then f else k) else f) := by
  rcases h with ⟨c, rfl, rfl, rfl⟩ | ⟨c, rfl, rfl, rfl⟩ | ⟨c, rfl, rfl⟩
  · rw [if_pos (Int64.lt_iff_toInt_lt.mpr c)]
    simp only [own_pick r hA hB hA]
  · rw [if_pos (own_u1 r), if_neg (fun q => absurd (Int64.lt_iff_toInt_lt.mp q) (by omega))]
  · rw [if_pos (own_u1 r), if_neg (fun q => absurd (Int64.lt_iff_toInt_lt.mp q) (by omega))]
theorem own_e1 (r : Int64) {A B : Int64} {f k la lb : Int32} {ta tb : UInt64} (hA : own_b A) (hB : own_b B) (h : own_alt f k A B ta tb la lb) : (if (cmpValue (FP.dcmp (own_u (r &&& (4294967295 : Int64))) tb) .g) < (0 : Int32) then k else lb) = (if B < A then (if ((r &&& (4294967295 : Int64)) * (A + B)) < (((2 : Int64) * B) <<< ((32 : Int32) &&& 0x3f).toInt64) then k else f) else k) := by
  rcases h with ⟨c, rfl, rfl, rfl⟩ | ⟨c, rfl, rfl, rfl⟩ | ⟨c, rfl, rfl⟩
  · rw [if_pos (own_u1 r), if_neg (fun q => absurd (Int64.lt_iff_toInt_lt.mp q) (by omega))]
  · rw [if_pos (Int64.lt_iff_toInt_lt.mpr c)]
    simp only [own_pick r hA hB hB]
  · rw [if_pos (own_u1 r), if_neg (fun q => absurd (Int64.lt_iff_toInt_lt.mp q) (by omega))]
theorem own_ab (p : Int32) (j : Int64) (h : j = ((((p &&& (65535 : Int32)) + (1 : Int32))).toInt64)) : own_b j := by
  have h1 := c_mask p 65535 16 (by decide) (by decide)
  have h2 := c_iadd (p &&& (65535 : Int32)) 1
  have r := rng32 ((p &&& (65535 : Int32)) + (1 : Int32))
  have l1 : (1 : Int32).toInt = 1 := by decide
  rw [l1] at h2
  subst h
  unfold own_b
  rw [c_i2l]
  omega
theorem own_s (r : Int64) : ((((r).toUInt64 >>> ((63 : Int32) &&& 0x3f).toInt64.toUInt64).toInt64).toInt32) = (0 : Int32) ∧ 0 ≤ r.toInt ∨ ((((r).toUInt64 >>> ((63 : Int32) &&& 0x3f).toInt64.toUInt64).toInt64).toInt32) = (1 : Int32) ∧ r.toInt < 0 := by
  have h := c_lushr r 63 63 (by decide) (by decide)
  have r1 := r.toInt_lt
  have r2 := r.le_toInt
  have n := XT.narrowInt (x := (((r).toUInt64 >>> ((63 : Int32) &&& 0x3f).toInt64.toUInt64).toInt64)) (by rw [h]; exact ⟨by omega, by omega⟩)
  rw [h] at n
  by_cases c : 0 ≤ r.toInt
  · refine Or.inl ⟨?_, c⟩
    rw [← Int32.toInt_inj, n]
    show _ = (0 : Int)
    omega
  · refine Or.inr ⟨?_, by omega⟩
    rw [← Int32.toInt_inj, n]
    show _ = (1 : Int)
    omega
theorem own_s0 (r : Int64) (i : Int32) (h : i = ((((r).toUInt64 >>> ((63 : Int32) &&& 0x3f).toInt64.toUInt64).toInt64).toInt32)) : i = (0 : Int32) ∨ i = (1 : Int32) := by
  rcases own_s r with q | q
  · exact Or.inl (h.trans q.1)
  · exact Or.inr (h.trans q.1)
theorem own_sgn0 (r : Int64) (h : ((((r).toUInt64 >>> ((63 : Int32) &&& 0x3f).toInt64.toUInt64).toInt64).toInt32) = (0 : Int32)) : 0 ≤ r.toInt := by
  rcases own_s r with q | q
  · exact q.2
  · exact absurd (q.1.symm.trans h) (by decide)
theorem own_sgn1 (r : Int64) (h : ((((r).toUInt64 >>> ((63 : Int32) &&& 0x3f).toInt64.toUInt64).toInt64).toInt32) = (1 : Int32)) : r.toInt < 0 := by
  rcases own_s r with q | q
  · exact absurd (q.1.symm.trans h) (by decide)
  · exact q.2
theorem own_slot (r n : Int64) (N : Int) (hn : n.toInt = N) (h0 : 0 ≤ N) (h2 : N ≤ 2) : (((((((((r).toUInt64 >>> ((32 : Int32) &&& 0x3f).toInt64.toUInt64).toInt64) * n)).toUInt64 >>> ((32 : Int32) &&& 0x3f).toInt64.toUInt64).toInt64)).toInt32).toInt = ((r.toInt % 18446744073709551616) / 4294967296 * N) / 4294967296 := by
  have h := c_lushr r 32 32 (by decide) (by decide)
  have r1 := r.toInt_lt
  have r2 := r.le_toInt
  have e : ((2 ^ 32 : Nat) : Int) = 4294967296 := by decide
  rw [e] at h
  have g0 : 0 ≤ (r.toInt % 18446744073709551616) / 4294967296 := by omega
  have g1 : (r.toInt % 18446744073709551616) / 4294967296 < 4294967296 := by omega
  generalize (r.toInt % 18446744073709551616) / 4294967296 = Y at *
  have y0 : 0 ≤ Y * N := Int.mul_nonneg g0 h0
  have y1 : Y * N ≤ 4294967296 * 2 := Int.mul_le_mul (by omega) h2 h0 (by decide)
  have k := XT.mul64 (x := (((r).toUInt64 >>> ((32 : Int32) &&& 0x3f).toInt64.toUInt64).toInt64)) (y := n) (by rw [h, hn]; exact ⟨by omega, by omega⟩)
  rw [h, hn] at k
  have j := c_lushr ((((r).toUInt64 >>> ((32 : Int32) &&& 0x3f).toInt64.toUInt64).toInt64) * n) 32 32 (by decide) (by decide)
  rw [e, k] at j
  generalize Y * N = W at *
  have j2 : (W % 18446744073709551616) / 4294967296 = W / 4294967296 := by omega
  rw [j2] at j
  rw [XT.narrowInt (by rw [j]; exact ⟨by omega, by omega⟩), j]
theorem own_sl1 (r : Int64) : (((((((((r).toUInt64 >>> ((32 : Int32) &&& 0x3f).toInt64.toUInt64).toInt64) * (((1 : Int32)).toInt64))).toUInt64 >>> ((32 : Int32) &&& 0x3f).toInt64.toUInt64).toInt64)).toInt32) = (0 : Int32) := by
  rw [← Int32.toInt_inj, own_slot r _ 1 (by decide) (by decide) (by decide)]
  show _ = (0 : Int)
  omega
theorem own_sl2_0 (r : Int64) (h : ((((r).toUInt64 >>> ((63 : Int32) &&& 0x3f).toInt64.toUInt64).toInt64).toInt32) = (0 : Int32)) : (((((((((r).toUInt64 >>> ((32 : Int32) &&& 0x3f).toInt64.toUInt64).toInt64) * (((2 : Int32)).toInt64))).toUInt64 >>> ((32 : Int32) &&& 0x3f).toInt64.toUInt64).toInt64)).toInt32) = (0 : Int32) := by
  have s := own_sgn0 r h
  have r1 := r.toInt_lt
  rw [← Int32.toInt_inj, own_slot r _ 2 (by decide) (by decide) (by decide)]
  show _ = (0 : Int)
  omega
theorem own_sl2_1 (r : Int64) (h : ((((r).toUInt64 >>> ((63 : Int32) &&& 0x3f).toInt64.toUInt64).toInt64).toInt32) = (1 : Int32)) : (((((((((r).toUInt64 >>> ((32 : Int32) &&& 0x3f).toInt64.toUInt64).toInt64) * (((2 : Int32)).toInt64))).toUInt64 >>> ((32 : Int32) &&& 0x3f).toInt64.toUInt64).toInt64)).toInt32) = (1 : Int32) := by
  have s := own_sgn1 r h
  have r2 := r.le_toInt
  rw [← Int32.toInt_inj, own_slot r _ 2 (by decide) (by decide) (by decide)]
  show _ = (1 : Int)
  omega
theorem d1_0 : decode prog_27_method_1_code 0 = .ok (.aload_n 0, 1) := by decide +kernel
theorem d1_1 : decode prog_27_method_1_code 1 = .ok (.invokespecial 1, 3) := by decide +kernel
theorem d1_4 : decode prog_27_method_1_code 4 = .ok (.aload_n 0, 1) := by decide +kernel
theorem d1_5 : decode prog_27_method_1_code 5 = .ok (.iload_n 1, 1) := by decide +kernel
theorem d1_6 : decode prog_27_method_1_code 6 = .ok (.newarray .double, 2) := by decide +kernel
theorem d1_8 : decode prog_27_method_1_code 8 = .ok (.putfield 7, 3) := by decide +kernel
theorem d1_11 : decode prog_27_method_1_code 11 = .ok (.aload_n 0, 1) := by decide +kernel
theorem d1_12 : decode prog_27_method_1_code 12 = .ok (.iload_n 1, 1) := by decide +kernel
theorem d1_13 : decode prog_27_method_1_code 13 = .ok (.newarray .int, 2) := by decide +kernel
theorem d1_15 : decode prog_27_method_1_code 15 = .ok (.putfield 13, 3) := by decide +kernel
theorem d1_18 : decode prog_27_method_1_code 18 = .ok (.return_, 1) := by decide +kernel
theorem ef_1 (m : MethodId) (x0 : Addr) (x1 : Int32) : entryFrame m #[(.ref x0), (.int x1)] 2 = (mkF m 0 #[.val (.ref x0), .val (.int x1)] []) := by first | (simp [entryFrame, mkF, argsToLocals, Value.category]; done) | rfl
def Q1 (Z : State) (a : Addr) (h0 : Heap) (n0 : Nat) (vX : Option Value) (hX : Heap) (lX : List Loc) : Prop := ∃ (th : Addr) (al : Addr) (kt : ClassId) (ka : ClassId), vX = none ∧ Fr n0 lX ∧ (Keep h0 hX [a]) ∧ (Fld Z hX a "com/example/circlerank/circlerank/generate/AliasTable" "threshold" "[D" (.ref th)) ∧ (Fld Z hX a "com/example/circlerank/circlerank/generate/AliasTable" "alias" "[I" (.ref al)) ∧ (Arv Z hX th kt .double (3 : Int32) [(.double (0 : UInt64)), (.double (0 : UInt64)), (.double (0 : UInt64))] (.double (0 : UInt64))) ∧ (Arv Z hX al ka .int (3 : Int32) [(.int 0), (.int 0), (.int 0)] (.int 0)) ∧ (h0.size ≤ th) ∧ (h0.size ≤ al) ∧ (th ≠ al)
set_option maxRecDepth 65536 in
set_option maxHeartbeats 40000000 in
theorem rm1 (l : Launch) (Z : State) (a0 : Array Value) (hw : ∀ d ∈ tables_1, d.before a0 Z = true) (ws : List Jvm.Cond) (a : Addr) (h0 : Heap) (n0 : Nat) (Z0 : n0 ≤ h0.size) (pr0 : Exa Z h0 a "com/example/circlerank/circlerank/generate/AliasTable") (pr1 : Fld Z h0 a "com/example/circlerank/circlerank/generate/AliasTable" "threshold" "[D" .null) (pr2 : Fld Z h0 a "com/example/circlerank/circlerank/generate/AliasTable" "alias" "[I" .null) (pr3 : n0 ≤ a) :
    MetFree l (⟨"com/example/circlerank/circlerank/generate/AliasTable", "<init>", "(I)V"⟩ : MethodName) (head1 (Jvm.Cond.code (⟨"com/example/circlerank/circlerank/generate/AliasTable", "<init>", "(I)V"⟩ : MethodName) prog_27_method_1_code 2 none :: ws) ({ frames := 1, cells := 2, slots := 6, locals := 12 } : Room)) (fun aX uX => aX = #[(.ref a), (.int 3)] ∧ Z.Warmed39 uX.vm ∧ uX.heap = h0) (fun _ _ _ _ _ => True) (fun _ uX oX wX => ∃ vX lX, oX = .returned vX ∧ Q1 Z a h0 n0 vX wX.heap lX ∧ FrameEnd uX oX wX lX ({ frames := 1, cells := 2, slots := 6, locals := 12 } : Room).cells ({ frames := 1, cells := 2, slots := 6, locals := 12 } : Room).slots) := by
  refine MetFree.of_bodySF (plainFor_of_name pn_0) hisR ?_
  intro p e s m args below meth c s₁ Bd hml0 hP hK
  obtain ⟨rfl, hZ, hh⟩ := hP
  have hx := Bd.exec
  have hby := Bd.bytes
  have hml : c.maxLocals = 2 := hml0
  have hown : s.vm.findClass "com/example/circlerank/circlerank/generate/AliasTable" = some m.cls := findClass_of_methodNamed Bd.named
  have hnm := (name_of_methodNamed Bd.named Bd.method).1
  have X0 : Stand p l e ({ frames := 1, cells := 2, slots := 6, locals := 12 } : Room) s m #[(.ref a), (.int 3)] below meth c s₁ [] 0 0 := Stand.of_body Bd
  have e0 : s₁.heap = h0 := by rw [← hh, Bd.state]; rfl
  have N0 := Fr.nil n0
  let ST : State := (s₁.setTop (entryFrame m #[(.ref a), (.int 3)] 2))
  have pre0 : ∀ t, Steps p.tables e below (s₁.setTop (mkF m 0 #[.val (.ref a), .val (.int 3)] [])) t → Steps p.tables e below ST t := fun t k => castTop (ef_1 m a (3 : Int32)) k
  let LL1 : Array Slot := #[.val (.ref a), .val (.int 3)]
  obtain ⟨T2, X2, e2, st2⟩ := initO X0 hx hZ hown (hw _ (List.mem_of_getElem? (i := 9) rfl)) (hw _ (List.mem_of_getElem? (i := 10) rfl)) (hw _ (List.mem_of_getElem? (i := 11) rfl)) e0 (g := (mkF m 1 LL1 [(.ref a)])) rfl (by rw [hml]; rfl) rfl (hb hby d1_1) (by decide) (W := 0) (by show 2 * 0 + _ ≤ _; exact Nat.le_of_eq rfl) (by decide)
  obtain ⟨T3, h3, k3, X3, e3, E3, A3, st3⟩ := newP X2 hx hZ (hw _ (List.mem_of_getElem? (i := 1) rfl)) e2 (g := (mkF m 6 LL1 [(.int 3), (.ref a)])) rfl (hb hby d1_6) rfl (by decide) (cap := 3) (by decide) (by decide) (by decide) (by decide)
  obtain ⟨b3, g_b3⟩ : ∃ z, z = h0.size := ⟨_, rfl⟩
  rw [← g_b3] at A3 st3
  have ne_a_b3 : a ≠ b3 := Nat.ne_of_lt (Nat.lt_of_lt_of_le pr0.lt (Nat.le_of_eq g_b3.symm))
  have ge_b3 : n0 ≤ b3 := Nat.le_trans Z0 (Nat.le_of_eq g_b3.symm)
  have sz_b3 : h0.size ≤ b3 := Nat.le_trans (Keep.refl h0 [a]).1 (Nat.le_of_eq g_b3.symm)
  have V3 : Arv Z h3 b3 k3 .double (3 : Int32) [(.double (0 : UInt64)), (.double (0 : UInt64)), (.double (0 : UInt64))] (.double (0 : UInt64)) := (Arv.new A3 (by decide)).pad (pad_rep [] (.double (0 : UInt64)) 3)
  have f4 := (Exa.ext E3 pr0)
  have f5 := (Fld.ext E3 pr1)
  obtain ⟨T6, h6, X6, e6, W6, st6⟩ := putF X3 hx hZ hown (host := "") (Or.inl (hw _ (List.mem_of_getElem? (i := 12) rfl))) Via.refl e3 f5 f4 (Or.inr ⟨(hw _ (List.mem_of_getElem? (i := 13) rfl)), rfl, hnm⟩) (hw _ (List.mem_of_getElem? (i := 4) rfl)) (ty := (.array .double)) (by decide) rfl rfl (g := (mkF m 8 LL1 [(.ref b3), (.ref a)])) rfl rfl (hb hby d1_8)
  have N6 := Fr.snoc X6 N0 pr3
  have Fw6 := Fld.same W6 f5
  obtain ⟨T7, h7, k7, X7, e7, E7, A7, st7⟩ := newP X6 hx hZ (hw _ (List.mem_of_getElem? (i := 2) rfl)) e6 (g := (mkF m 13 LL1 [(.int 3), (.ref a)])) rfl (hb hby d1_13) rfl (by decide) (cap := 3) (by decide) (by decide) (by decide) (by decide)
  have f8 := (Exa.wr W6 f4)
  have f9 := (V3.other W6 (Ne.symm ne_a_b3))
  have z10 : n0 ≤ _ := (Nat.le_trans (Nat.le_trans Z0 E3.1) (Keep.of_wr W6).1)
  have k11 : Keep h0 h6 [a] := (Keep.wr (Keep.ext (Keep.refl h0 [a]) E3) W6 (Or.inl (List.mem_of_getElem? (i := 0) rfl)))
  obtain ⟨b7, g_b7⟩ : ∃ z, z = h6.size := ⟨_, rfl⟩
  rw [← g_b7] at A7 st7
  have ne_a_b7 : a ≠ b7 := Nat.ne_of_lt (Nat.lt_of_lt_of_le f8.lt (Nat.le_of_eq g_b7.symm))
  have ne_b3_b7 : b3 ≠ b7 := Nat.ne_of_lt (Nat.lt_of_lt_of_le f9.lt (Nat.le_of_eq g_b7.symm))
  have ge_b7 : n0 ≤ b7 := Nat.le_trans z10 (Nat.le_of_eq g_b7.symm)
  have sz_b7 : h0.size ≤ b7 := Nat.le_trans k11.1 (Nat.le_of_eq g_b7.symm)
  have V7 : Arv Z h7 b7 k7 .int (3 : Int32) [(.int 0), (.int 0), (.int 0)] (.int 0) := (Arv.new A7 (by decide)).pad (pad_rep [] (.int 0) 3)
  have f12 := (Exa.ext E7 f8)
  have f13 := (Fld.ext E7 (Fld.other W6 (Fld.ext E3 pr2) (Or.inr (slot_ne (Or.inr (hw _ (List.mem_of_getElem? (i := 15) rfl))) (Or.inr (hw _ (List.mem_of_getElem? (i := 13) rfl))) (by decide) (t := (.array .int)) (t' := (.array .double)) (by decide) (by decide)))))
  obtain ⟨T14, h14, X14, e14, W14, st14⟩ := putF X7 hx hZ hown (host := "") (Or.inl (hw _ (List.mem_of_getElem? (i := 14) rfl))) Via.refl e7 f13 f12 (Or.inr ⟨(hw _ (List.mem_of_getElem? (i := 15) rfl)), rfl, hnm⟩) (hw _ (List.mem_of_getElem? (i := 4) rfl)) (ty := (.array .int)) (by decide) rfl rfl (g := (mkF m 15 LL1 [(.ref b7), (.ref a)])) rfl rfl (hb hby d1_15)
  have N14 := Fr.snoc X14 N6 pr3
  have Fw14 := Fld.same W14 f13
  have P15 : ∀ t, Steps p.tables e below (T14.setTop (mkF m 18 LL1 [])) t → Steps p.tables e below ST t := by
    intro t kk
    refine pre0 _ ?_
    show Steps _ _ _ (s₁.setTop (mkF m 0 LL1 [])) _
    refine XS.aloadN X0.here hx rfl (hb hby d1_0) rfl rfl ?_
    show Steps _ _ _ (s₁.setTop (mkF m 1 LL1 [(.ref a)])) _
    refine st2 _ ?_
    show Steps _ _ _ (T2.setTop (mkF m 4 LL1 [])) _
    refine XS.aloadN X2.here hx rfl (hb hby d1_4) rfl rfl ?_
    show Steps _ _ _ (T2.setTop (mkF m 5 LL1 [(.ref a)])) _
    refine XS.iloadN X2.here hx rfl (hb hby d1_5) rfl ?_
    show Steps _ _ _ (T2.setTop (mkF m 6 LL1 [(.int 3), (.ref a)])) _
    refine st3 _ ?_
    show Steps _ _ _ (T3.setTop (mkF m 8 LL1 [(.ref b3), (.ref a)])) _
    refine st6 _ ?_
    show Steps _ _ _ (T6.setTop (mkF m 11 LL1 [])) _
    refine XS.aloadN X6.here hx rfl (hb hby d1_11) rfl rfl ?_
    show Steps _ _ _ (T6.setTop (mkF m 12 LL1 [(.ref a)])) _
    refine XS.iloadN X6.here hx rfl (hb hby d1_12) rfl ?_
    show Steps _ _ _ (T6.setTop (mkF m 13 LL1 [(.int 3), (.ref a)])) _
    refine st7 _ ?_
    show Steps _ _ _ (T7.setTop (mkF m 15 LL1 [(.ref b7), (.ref a)])) _
    refine st14 _ ?_
    show Steps _ _ _ (T14.setTop (mkF m 18 LL1 [])) _
    exact kk
  have k16 : Keep h0 h14 [a] := (Keep.wr (Keep.ext k11 E7) W14 (Or.inl (List.mem_of_getElem? (i := 0) rfl)))
  have f17 := (Fld.other W14 (Fld.ext E7 Fw6) (Or.inr (slot_ne (Or.inr (hw _ (List.mem_of_getElem? (i := 13) rfl))) (Or.inr (hw _ (List.mem_of_getElem? (i := 15) rfl))) (by decide) (t := (.array .double)) (t' := (.array .int)) (by decide) (by decide))))
  have f18 := ((f9.ext E7).other W14 (Ne.symm ne_a_b3))
  have f19 := (V7.other W14 (Ne.symm ne_a_b7))
  obtain ⟨fs, hr, hrun, hended, hW, hsame⟩ := X14.leave (v := none) (fun _ => rfl)
  refine ⟨_, _, P15 _ ?_, hrun, hended, _, _, rfl, ?_, ⟨_, rfl⟩, hW, hsame.mono (by decide) (by decide)⟩
  · exact X14.returnOut hx Bd.returns (hb hby d1_18) hr
  · show Q1 Z a h0 n0 _ T14.heap _
    rw [e14]
    exact ⟨b3, b7, k3, k7, rfl, N14, k16, f17, Fw14, f18, f19, sz_b3, sz_b7, ne_b3_b7⟩
theorem d2_0 : decode prog_27_method_2_code 0 = .ok (.iload_n 3, 1) := by decide +kernel
theorem d2_1 : decode prog_27_method_2_code 1 = .ok (.iload_n 2, 1) := by decide +kernel
theorem d2_2 : decode prog_27_method_2_code 2 = .ok (.isub, 1) := by decide +kernel
theorem d2_3 : decode prog_27_method_2_code 3 = .ok (.istore 5, 2) := by decide +kernel
theorem d2_5 : decode prog_27_method_2_code 5 = .ok (.dconst 0, 1) := by decide +kernel
theorem d2_6 : decode prog_27_method_2_code 6 = .ok (.dstore 6, 2) := by decide +kernel
theorem d2_8 : decode prog_27_method_2_code 8 = .ok (.iload_n 2, 1) := by decide +kernel
theorem d2_9 : decode prog_27_method_2_code 9 = .ok (.istore 8, 2) := by decide +kernel
theorem d2_11 : decode prog_27_method_2_code 11 = .ok (.iload 8, 2) := by decide +kernel
theorem d2_13 : decode prog_27_method_2_code 13 = .ok (.iload_n 3, 1) := by decide +kernel
theorem d2_14 : decode prog_27_method_2_code 14 = .ok (.if_icmp .ge 18, 3) := by decide +kernel
theorem d2_17 : decode prog_27_method_2_code 17 = .ok (.dload 6, 2) := by decide +kernel
theorem d2_19 : decode prog_27_method_2_code 19 = .ok (.aload_n 1, 1) := by decide +kernel
theorem d2_20 : decode prog_27_method_2_code 20 = .ok (.iload 8, 2) := by decide +kernel
theorem d2_22 : decode prog_27_method_2_code 22 = .ok (.daload, 1) := by decide +kernel
theorem d2_23 : decode prog_27_method_2_code 23 = .ok (.dadd, 1) := by decide +kernel
theorem d2_24 : decode prog_27_method_2_code 24 = .ok (.dstore 6, 2) := by decide +kernel
theorem d2_26 : decode prog_27_method_2_code 26 = .ok (.iinc 8 1, 3) := by decide +kernel
theorem d2_29 : decode prog_27_method_2_code 29 = .ok (.goto (-18), 3) := by decide +kernel
theorem d2_32 : decode prog_27_method_2_code 32 = .ok (.iconst 0, 1) := by decide +kernel
theorem d2_33 : decode prog_27_method_2_code 33 = .ok (.istore 8, 2) := by decide +kernel
theorem d2_35 : decode prog_27_method_2_code 35 = .ok (.iload 5, 2) := by decide +kernel
theorem d2_37 : decode prog_27_method_2_code 37 = .ok (.istore 9, 2) := by decide +kernel
theorem d2_39 : decode prog_27_method_2_code 39 = .ok (.iload_n 2, 1) := by decide +kernel
theorem d2_40 : decode prog_27_method_2_code 40 = .ok (.istore 10, 2) := by decide +kernel
theorem d2_42 : decode prog_27_method_2_code 42 = .ok (.iload 10, 2) := by decide +kernel
theorem d2_44 : decode prog_27_method_2_code 44 = .ok (.iload_n 3, 1) := by decide +kernel
theorem d2_45 : decode prog_27_method_2_code 45 = .ok (.if_icmp .ge 71, 3) := by decide +kernel
theorem d2_48 : decode prog_27_method_2_code 48 = .ok (.aload_n 0, 1) := by decide +kernel
theorem d2_49 : decode prog_27_method_2_code 49 = .ok (.getfield 7, 3) := by decide +kernel
theorem d2_52 : decode prog_27_method_2_code 52 = .ok (.iload 10, 2) := by decide +kernel
theorem d2_54 : decode prog_27_method_2_code 54 = .ok (.aload_n 1, 1) := by decide +kernel
theorem d2_55 : decode prog_27_method_2_code 55 = .ok (.iload 10, 2) := by decide +kernel
theorem d2_57 : decode prog_27_method_2_code 57 = .ok (.daload, 1) := by decide +kernel
theorem d2_58 : decode prog_27_method_2_code 58 = .ok (.iload 5, 2) := by decide +kernel
theorem d2_60 : decode prog_27_method_2_code 60 = .ok (.i2d, 1) := by decide +kernel
theorem d2_61 : decode prog_27_method_2_code 61 = .ok (.dmul, 1) := by decide +kernel
theorem d2_62 : decode prog_27_method_2_code 62 = .ok (.dload 6, 2) := by decide +kernel
theorem d2_64 : decode prog_27_method_2_code 64 = .ok (.ddiv, 1) := by decide +kernel
theorem d2_65 : decode prog_27_method_2_code 65 = .ok (.dastore, 1) := by decide +kernel
theorem d2_66 : decode prog_27_method_2_code 66 = .ok (.aload_n 0, 1) := by decide +kernel
theorem d2_67 : decode prog_27_method_2_code 67 = .ok (.getfield 13, 3) := by decide +kernel
theorem d2_70 : decode prog_27_method_2_code 70 = .ok (.iload 10, 2) := by decide +kernel
theorem d2_72 : decode prog_27_method_2_code 72 = .ok (.iload 10, 2) := by decide +kernel
theorem d2_74 : decode prog_27_method_2_code 74 = .ok (.iastore, 1) := by decide +kernel
theorem d2_75 : decode prog_27_method_2_code 75 = .ok (.aload_n 0, 1) := by decide +kernel
theorem d2_76 : decode prog_27_method_2_code 76 = .ok (.getfield 7, 3) := by decide +kernel
theorem d2_79 : decode prog_27_method_2_code 79 = .ok (.iload 10, 2) := by decide +kernel
theorem d2_81 : decode prog_27_method_2_code 81 = .ok (.daload, 1) := by decide +kernel
theorem d2_82 : decode prog_27_method_2_code 82 = .ok (.dconst 1, 1) := by decide +kernel
theorem d2_83 : decode prog_27_method_2_code 83 = .ok (.dcmp .g, 1) := by decide +kernel
theorem d2_84 : decode prog_27_method_2_code 84 = .ok (.ifCond .ge 16, 3) := by decide +kernel
theorem d2_87 : decode prog_27_method_2_code 87 = .ok (.aload 4, 2) := by decide +kernel
theorem d2_89 : decode prog_27_method_2_code 89 = .ok (.iload 8, 2) := by decide +kernel
theorem d2_91 : decode prog_27_method_2_code 91 = .ok (.iinc 8 1, 3) := by decide +kernel
theorem d2_94 : decode prog_27_method_2_code 94 = .ok (.iload 10, 2) := by decide +kernel
theorem d2_96 : decode prog_27_method_2_code 96 = .ok (.iastore, 1) := by decide +kernel
theorem d2_97 : decode prog_27_method_2_code 97 = .ok (.goto 13, 3) := by decide +kernel
theorem d2_100 : decode prog_27_method_2_code 100 = .ok (.aload 4, 2) := by decide +kernel
theorem d2_102 : decode prog_27_method_2_code 102 = .ok (.iinc 9 (-1), 3) := by decide +kernel
theorem d2_105 : decode prog_27_method_2_code 105 = .ok (.iload 9, 2) := by decide +kernel
theorem d2_107 : decode prog_27_method_2_code 107 = .ok (.iload 10, 2) := by decide +kernel
theorem d2_109 : decode prog_27_method_2_code 109 = .ok (.iastore, 1) := by decide +kernel
theorem d2_110 : decode prog_27_method_2_code 110 = .ok (.iinc 10 1, 3) := by decide +kernel
theorem d2_113 : decode prog_27_method_2_code 113 = .ok (.goto (-71), 3) := by decide +kernel
theorem d2_116 : decode prog_27_method_2_code 116 = .ok (.iload 8, 2) := by decide +kernel
theorem d2_118 : decode prog_27_method_2_code 118 = .ok (.ifCond .le 83, 3) := by decide +kernel
theorem d2_121 : decode prog_27_method_2_code 121 = .ok (.iload 9, 2) := by decide +kernel
theorem d2_123 : decode prog_27_method_2_code 123 = .ok (.iload 5, 2) := by decide +kernel
theorem d2_125 : decode prog_27_method_2_code 125 = .ok (.if_icmp .ge 76, 3) := by decide +kernel
theorem d2_128 : decode prog_27_method_2_code 128 = .ok (.aload 4, 2) := by decide +kernel
theorem d2_130 : decode prog_27_method_2_code 130 = .ok (.iinc 8 (-1), 3) := by decide +kernel
theorem d2_133 : decode prog_27_method_2_code 133 = .ok (.iload 8, 2) := by decide +kernel
theorem d2_135 : decode prog_27_method_2_code 135 = .ok (.iaload, 1) := by decide +kernel
theorem d2_136 : decode prog_27_method_2_code 136 = .ok (.istore 10, 2) := by decide +kernel
theorem d2_138 : decode prog_27_method_2_code 138 = .ok (.aload 4, 2) := by decide +kernel
theorem d2_140 : decode prog_27_method_2_code 140 = .ok (.iload 9, 2) := by decide +kernel
theorem d2_142 : decode prog_27_method_2_code 142 = .ok (.iaload, 1) := by decide +kernel
theorem d2_143 : decode prog_27_method_2_code 143 = .ok (.istore 11, 2) := by decide +kernel
theorem d2_145 : decode prog_27_method_2_code 145 = .ok (.aload_n 0, 1) := by decide +kernel
theorem d2_146 : decode prog_27_method_2_code 146 = .ok (.getfield 13, 3) := by decide +kernel
theorem d2_149 : decode prog_27_method_2_code 149 = .ok (.iload 10, 2) := by decide +kernel
theorem d2_151 : decode prog_27_method_2_code 151 = .ok (.iload 11, 2) := by decide +kernel
theorem d2_153 : decode prog_27_method_2_code 153 = .ok (.iastore, 1) := by decide +kernel
theorem d2_154 : decode prog_27_method_2_code 154 = .ok (.aload_n 0, 1) := by decide +kernel
theorem d2_155 : decode prog_27_method_2_code 155 = .ok (.getfield 7, 3) := by decide +kernel
theorem d2_158 : decode prog_27_method_2_code 158 = .ok (.iload 11, 2) := by decide +kernel
theorem d2_160 : decode prog_27_method_2_code 160 = .ok (.dup2, 1) := by decide +kernel
theorem d2_161 : decode prog_27_method_2_code 161 = .ok (.daload, 1) := by decide +kernel
theorem d2_162 : decode prog_27_method_2_code 162 = .ok (.aload_n 0, 1) := by decide +kernel
theorem d2_163 : decode prog_27_method_2_code 163 = .ok (.getfield 7, 3) := by decide +kernel
theorem d2_166 : decode prog_27_method_2_code 166 = .ok (.iload 10, 2) := by decide +kernel
theorem d2_168 : decode prog_27_method_2_code 168 = .ok (.daload, 1) := by decide +kernel
theorem d2_169 : decode prog_27_method_2_code 169 = .ok (.dconst 1, 1) := by decide +kernel
theorem d2_170 : decode prog_27_method_2_code 170 = .ok (.dsub, 1) := by decide +kernel
theorem d2_171 : decode prog_27_method_2_code 171 = .ok (.dadd, 1) := by decide +kernel
theorem d2_172 : decode prog_27_method_2_code 172 = .ok (.dastore, 1) := by decide +kernel
theorem d2_173 : decode prog_27_method_2_code 173 = .ok (.aload_n 0, 1) := by decide +kernel
theorem d2_174 : decode prog_27_method_2_code 174 = .ok (.getfield 7, 3) := by decide +kernel
theorem d2_177 : decode prog_27_method_2_code 177 = .ok (.iload 11, 2) := by decide +kernel
theorem d2_179 : decode prog_27_method_2_code 179 = .ok (.daload, 1) := by decide +kernel
theorem d2_180 : decode prog_27_method_2_code 180 = .ok (.dconst 1, 1) := by decide +kernel
theorem d2_181 : decode prog_27_method_2_code 181 = .ok (.dcmp .g, 1) := by decide +kernel
theorem d2_182 : decode prog_27_method_2_code 182 = .ok (.ifCond .ge 16, 3) := by decide +kernel
theorem d2_185 : decode prog_27_method_2_code 185 = .ok (.iinc 9 1, 3) := by decide +kernel
theorem d2_188 : decode prog_27_method_2_code 188 = .ok (.aload 4, 2) := by decide +kernel
theorem d2_190 : decode prog_27_method_2_code 190 = .ok (.iload 8, 2) := by decide +kernel
theorem d2_192 : decode prog_27_method_2_code 192 = .ok (.iinc 8 1, 3) := by decide +kernel
theorem d2_195 : decode prog_27_method_2_code 195 = .ok (.iload 11, 2) := by decide +kernel
theorem d2_197 : decode prog_27_method_2_code 197 = .ok (.iastore, 1) := by decide +kernel
theorem d2_198 : decode prog_27_method_2_code 198 = .ok (.goto (-82), 3) := by decide +kernel
theorem d2_201 : decode prog_27_method_2_code 201 = .ok (.iconst 0, 1) := by decide +kernel
theorem d2_202 : decode prog_27_method_2_code 202 = .ok (.istore 10, 2) := by decide +kernel
theorem d2_204 : decode prog_27_method_2_code 204 = .ok (.iload 10, 2) := by decide +kernel
theorem d2_206 : decode prog_27_method_2_code 206 = .ok (.iload 8, 2) := by decide +kernel
theorem d2_208 : decode prog_27_method_2_code 208 = .ok (.if_icmp .ge 20, 3) := by decide +kernel
theorem d2_211 : decode prog_27_method_2_code 211 = .ok (.aload_n 0, 1) := by decide +kernel
theorem d2_212 : decode prog_27_method_2_code 212 = .ok (.getfield 7, 3) := by decide +kernel
theorem d2_215 : decode prog_27_method_2_code 215 = .ok (.aload 4, 2) := by decide +kernel
theorem d2_217 : decode prog_27_method_2_code 217 = .ok (.iload 10, 2) := by decide +kernel
theorem d2_219 : decode prog_27_method_2_code 219 = .ok (.iaload, 1) := by decide +kernel
theorem d2_220 : decode prog_27_method_2_code 220 = .ok (.dconst 1, 1) := by decide +kernel
theorem d2_221 : decode prog_27_method_2_code 221 = .ok (.dastore, 1) := by decide +kernel
theorem d2_222 : decode prog_27_method_2_code 222 = .ok (.iinc 10 1, 3) := by decide +kernel
theorem d2_225 : decode prog_27_method_2_code 225 = .ok (.goto (-21), 3) := by decide +kernel
theorem d2_228 : decode prog_27_method_2_code 228 = .ok (.iload 9, 2) := by decide +kernel
theorem d2_230 : decode prog_27_method_2_code 230 = .ok (.istore 10, 2) := by decide +kernel
theorem d2_232 : decode prog_27_method_2_code 232 = .ok (.iload 10, 2) := by decide +kernel
theorem d2_234 : decode prog_27_method_2_code 234 = .ok (.iload 5, 2) := by decide +kernel
theorem d2_236 : decode prog_27_method_2_code 236 = .ok (.if_icmp .ge 20, 3) := by decide +kernel
theorem d2_239 : decode prog_27_method_2_code 239 = .ok (.aload_n 0, 1) := by decide +kernel
theorem d2_240 : decode prog_27_method_2_code 240 = .ok (.getfield 7, 3) := by decide +kernel
theorem d2_243 : decode prog_27_method_2_code 243 = .ok (.aload 4, 2) := by decide +kernel
theorem d2_245 : decode prog_27_method_2_code 245 = .ok (.iload 10, 2) := by decide +kernel
theorem d2_247 : decode prog_27_method_2_code 247 = .ok (.iaload, 1) := by decide +kernel
theorem d2_248 : decode prog_27_method_2_code 248 = .ok (.dconst 1, 1) := by decide +kernel
theorem d2_249 : decode prog_27_method_2_code 249 = .ok (.dastore, 1) := by decide +kernel
theorem d2_250 : decode prog_27_method_2_code 250 = .ok (.iinc 10 1, 3) := by decide +kernel
theorem d2_253 : decode prog_27_method_2_code 253 = .ok (.goto (-21), 3) := by decide +kernel
theorem d2_256 : decode prog_27_method_2_code 256 = .ok (.return_, 1) := by decide +kernel
theorem ef_2 (m : MethodId) (x0 : Addr) (x1 : Addr) (x2 : Int32) (x3 : Int32) (x4 : Addr) : entryFrame m #[(.ref x0), (.ref x1), (.int x2), (.int x3), (.ref x4)] 12 = (mkF m 0 #[.val (.ref x0), .val (.ref x1), .val (.int x2), .val (.int x3), .val (.ref x4), .unset, .unset, .unset, .unset, .unset, .unset, .unset] []) := by first | (simp [entryFrame, mkF, argsToLocals, Value.category]; done) | rfl
def Q2 (Z : State) (a : Addr) (wt : Addr) (wk : Addr) (A : Int64) (B : Int64) (wx : UInt64) (th : Addr) (al : Addr) (kw : ClassId) (kt : ClassId) (ka : ClassId) (kk : ClassId) (y0 : UInt64) (y1 : UInt64) (y2 : UInt64) (z0 : Int32) (z1 : Int32) (z2 : Int32) (u0 : Int32) (u1 : Int32) (h0 : Heap) (n0 : Nat) (vX : Option Value) (hX : Heap) (lX : List Loc) : Prop := ∃ (ta : UInt64) (tb : UInt64) (la : Int32) (lb : Int32) (v0 : Int32) (v1 : Int32), vX = none ∧ Fr n0 lX ∧ (Keep h0 hX [th, al, wk]) ∧ (Arv Z hX th kt .double (3 : Int32) [(.double ta), (.double tb), (.double y2)] (.double (0 : UInt64))) ∧ (Arv Z hX al ka .int (3 : Int32) [(.int la), (.int lb), (.int z2)] (.int 0)) ∧ (Arv Z hX wk kk .int (2 : Int32) [(.int v0), (.int v1)] (.int 0)) ∧ (own_alt (0 : Int32) (1 : Int32) A B ta tb la lb)
set_option maxRecDepth 65536 in
set_option maxHeartbeats 40000000 in
theorem rm2 (l : Launch) (Z : State) (a0 : Array Value) (hw : ∀ d ∈ tables_1, d.before a0 Z = true) (ws : List Jvm.Cond) (a : Addr) (wt : Addr) (wk : Addr) (A : Int64) (B : Int64) (wx : UInt64) (th : Addr) (al : Addr) (kw : ClassId) (kt : ClassId) (ka : ClassId) (kk : ClassId) (y0 : UInt64) (y1 : UInt64) (y2 : UInt64) (z0 : Int32) (z1 : Int32) (z2 : Int32) (u0 : Int32) (u1 : Int32) (h0 : Heap) (n0 : Nat) (Z0 : n0 ≤ h0.size) (pr0 : Exa Z h0 a "com/example/circlerank/circlerank/generate/AliasTable") (pr1 : Fld Z h0 a "com/example/circlerank/circlerank/generate/AliasTable" "threshold" "[D" (.ref th)) (pr2 : Fld Z h0 a "com/example/circlerank/circlerank/generate/AliasTable" "alias" "[I" (.ref al)) (pr3 : Arv Z h0 wt kw .double (3 : Int32) [(.double (FP.l2d A)), (.double (FP.l2d B)), (.double wx)] (.double (0 : UInt64))) (pr4 : Arv Z h0 th kt .double (3 : Int32) [(.double y0), (.double y1), (.double y2)] (.double (0 : UInt64))) (pr5 : Arv Z h0 al ka .int (3 : Int32) [(.int z0), (.int z1), (.int z2)] (.int 0)) (pr6 : Arv Z h0 wk kk .int (2 : Int32) [(.int u0), (.int u1)] (.int 0)) (pr7 : own_b A) (pr8 : own_b B) (pr9 : n0 ≤ wk) (pr10 : n0 ≤ th) (pr11 : n0 ≤ al) (pr12 : a ≠ wt) (pr13 : a ≠ wk) (pr14 : a ≠ th) (pr15 : a ≠ al) (pr16 : wt ≠ wk) (pr17 : wt ≠ th) (pr18 : wt ≠ al) (pr19 : wk ≠ th) (pr20 : wk ≠ al) (pr21 : th ≠ al) :
    MetFree l (⟨"com/example/circlerank/circlerank/generate/AliasTable", "build", "([DII[I)V"⟩ : MethodName) (head1 (Jvm.Cond.code (⟨"com/example/circlerank/circlerank/generate/AliasTable", "build", "([DII[I)V"⟩ : MethodName) prog_27_method_2_code 12 none :: ws) ({ frames := 0, cells := 0, slots := 0, locals := 0 } : Room)) (fun aX uX => aX = #[(.ref a), (.ref wt), (.int 0), (.int 2), (.ref wk)] ∧ Z.Warmed39 uX.vm ∧ uX.heap = h0) (fun _ _ _ _ _ => True) (fun _ uX oX wX => ∃ vX lX, oX = .returned vX ∧ Q2 Z a wt wk A B wx th al kw kt ka kk y0 y1 y2 z0 z1 z2 u0 u1 h0 n0 vX wX.heap lX ∧ FrameEnd uX oX wX lX ({ frames := 0, cells := 0, slots := 0, locals := 0 } : Room).cells ({ frames := 0, cells := 0, slots := 0, locals := 0 } : Room).slots) := by
  refine MetFree.of_bodySF (plainFor_of_name pn_0) hisR ?_
  intro p e s m args below meth c s₁ Bd hml0 hP hK
  obtain ⟨rfl, hZ, hh⟩ := hP
  have hx := Bd.exec
  have hby := Bd.bytes
  have hml : c.maxLocals = 12 := hml0
  have hown : s.vm.findClass "com/example/circlerank/circlerank/generate/AliasTable" = some m.cls := findClass_of_methodNamed Bd.named
  have hnm := (name_of_methodNamed Bd.named Bd.method).1
  have X0 : Stand p l e ({ frames := 0, cells := 0, slots := 0, locals := 0 } : Room) s m #[(.ref a), (.ref wt), (.int 0), (.int 2), (.ref wk)] below meth c s₁ [] 0 0 := Stand.of_body Bd
  have e0 : s₁.heap = h0 := by rw [← hh, Bd.state]; rfl
  have N0 := Fr.nil n0
  let ST : State := (s₁.setTop (entryFrame m #[(.ref a), (.ref wt), (.int 0), (.int 2), (.ref wk)] 12))
  have pre0 : ∀ t, Steps p.tables e below (s₁.setTop (mkF m 0 #[.val (.ref a), .val (.ref wt), .val (.int 0), .val (.int 2), .val (.ref wk), .unset, .unset, .unset, .unset, .unset, .unset, .unset] [])) t → Steps p.tables e below ST t := fun t k => castTop (ef_2 m a wt (0 : Int32) (2 : Int32) wk) k
  let LL1 : Array Slot := #[.val (.ref a), .val (.ref wt), .val (.int 0), .val (.int 2), .val (.ref wk), .unset, .unset, .unset, .unset, .unset, .unset, .unset]
  let LL2 : Array Slot := #[.val (.ref a), .val (.ref wt), .val (.int 0), .val (.int 2), .val (.ref wk), .val (.int 2), .unset, .unset, .unset, .unset, .unset, .unset]
  let LL3 : Array Slot := #[.val (.ref a), .val (.ref wt), .val (.int 0), .val (.int 2), .val (.ref wk), .val (.int 2), .val (.double FP.dconst0), .second, .unset, .unset, .unset, .unset]
  let LL4 : Array Slot := #[.val (.ref a), .val (.ref wt), .val (.int 0), .val (.int 2), .val (.ref wk), .val (.int 2), .val (.double FP.dconst0), .second, .val (.int 0), .unset, .unset, .unset]
  obtain ⟨cl_a5, Ar_a5, q_a5, S_a5, N_a5, H_a5, G_a5⟩ := id pr3
  have hin_a5 : ¬ ((0 : Int32) < 0 ∨ cl_a5.slots.size ≤ ((0 : Int32)).toNatClampNeg) := inb_of S_a5 ⟨by decide, by decide⟩
  have hat_a5 := Has.at (v := (.double (FP.l2d A))) H_a5 hin_a5 rfl
  let LL6 : Array Slot := #[.val (.ref a), .val (.ref wt), .val (.int 0), .val (.int 2), .val (.ref wk), .val (.int 2), .val (.double (FP.l2d A)), .second, .val (.int 0), .unset, .unset, .unset]
  let LL7 : Array Slot := #[.val (.ref a), .val (.ref wt), .val (.int 0), .val (.int 2), .val (.ref wk), .val (.int 2), .val (.double (FP.l2d A)), .second, .val (.int 1), .unset, .unset, .unset]
  obtain ⟨cl_a8, Ar_a8, q_a8, S_a8, N_a8, H_a8, G_a8⟩ := id pr3
  have hin_a8 : ¬ ((1 : Int32) < 0 ∨ cl_a8.slots.size ≤ ((1 : Int32)).toNatClampNeg) := inb_of S_a8 ⟨by decide, by decide⟩
  have hat_a8 := Has.at (v := (.double (FP.l2d B))) H_a8 hin_a8 rfl
  let LL9 : Array Slot := #[.val (.ref a), .val (.ref wt), .val (.int 0), .val (.int 2), .val (.ref wk), .val (.int 2), .val (.double (FP.l2d (A + B))), .second, .val (.int 1), .unset, .unset, .unset]
  let LL10 : Array Slot := #[.val (.ref a), .val (.ref wt), .val (.int 0), .val (.int 2), .val (.ref wk), .val (.int 2), .val (.double (FP.l2d (A + B))), .second, .val (.int 2), .unset, .unset, .unset]
  have P11 : ∀ t, Steps p.tables e below (s₁.setTop (mkF m 11 LL10 [])) t → Steps p.tables e below ST t := by
    intro t kk
    refine pre0 _ ?_
    show Steps _ _ _ (s₁.setTop (mkF m 0 LL1 [])) _
    refine XS.iloadN X0.here hx rfl (hb hby d2_0) rfl ?_
    show Steps _ _ _ (s₁.setTop (mkF m 1 LL1 [(.int 2)])) _
    refine XS.iloadN X0.here hx rfl (hb hby d2_1) rfl ?_
    show Steps _ _ _ (s₁.setTop (mkF m 2 LL1 [(.int 0), (.int 2)])) _
    refine XS.isub X0.here hx rfl (hb hby d2_2) rfl ?_
    show Steps _ _ _ (s₁.setTop (mkF m 3 LL1 [(.int 2)])) _
    refine XS.istore X0.here hx rfl (hb hby d2_3) rfl (l' := LL2) rfl ?_
    show Steps _ _ _ (s₁.setTop (mkF m 5 LL2 [])) _
    refine XS.dconst0 X0.here hx rfl (hb hby d2_5) rfl ?_
    show Steps _ _ _ (s₁.setTop (mkF m 6 LL2 [(.double FP.dconst0)])) _
    refine XS.dstore X0.here hx rfl (hb hby d2_6) rfl (l' := LL3) rfl ?_
    show Steps _ _ _ (s₁.setTop (mkF m 8 LL3 [])) _
    refine XS.iloadN X0.here hx rfl (hb hby d2_8) rfl ?_
    show Steps _ _ _ (s₁.setTop (mkF m 9 LL3 [(.int 0)])) _
    refine XS.istore X0.here hx rfl (hb hby d2_9) rfl (l' := LL4) rfl ?_
    show Steps _ _ _ (s₁.setTop (mkF m 11 LL4 [])) _
    refine XS.iload X0.here hx rfl (hb hby d2_11) rfl ?_
    show Steps _ _ _ (s₁.setTop (mkF m 13 LL4 [(.int 0)])) _
    refine XS.iloadN X0.here hx rfl (hb hby d2_13) rfl ?_
    show Steps _ _ _ (s₁.setTop (mkF m 14 LL4 [(.int 2), (.int 0)])) _
    refine XS.icmpNo X0.here hx rfl (hb hby d2_14) rfl (XT.ii_ge_f (by decide)) ?_
    show Steps _ _ _ (s₁.setTop (mkF m 17 LL4 [])) _
    refine XS.dload X0.here hx rfl (hb hby d2_17) rfl ?_
    show Steps _ _ _ (s₁.setTop (mkF m 19 LL4 [(.double FP.dconst0)])) _
    refine XS.aloadN X0.here hx rfl (hb hby d2_19) rfl rfl ?_
    show Steps _ _ _ (s₁.setTop (mkF m 20 LL4 [(.ref wt), (.double FP.dconst0)])) _
    refine XS.iload X0.here hx rfl (hb hby d2_20) rfl ?_
    show Steps _ _ _ (s₁.setTop (mkF m 22 LL4 [(.int 0), (.ref wt), (.double FP.dconst0)])) _
    refine X0.daload hx (j := (0 : Int32)) (v := (.double (FP.l2d A))) (by rw [e0]; exact Ar_a5.1) (State.isArrayOf_alike hZ.alike Ar_a5.2.1) Ar_a5.2.2 hin_a5 hat_a5 (g := (mkF m 22 LL4 [(.int 0), (.ref wt), (.double FP.dconst0)])) rfl rfl (hb hby d2_22) _ ?_
    show Steps _ _ _ (s₁.setTop (mkF m 23 LL4 [(.double (FP.l2d A)), (.double FP.dconst0)])) _
    refine XS.daddS X0.here hx rfl (hb hby d2_23) rfl (nn_w (own_d0 pr7)) (own_d0 pr7) ?_
    show Steps _ _ _ (s₁.setTop (mkF m 24 LL4 [(.double (FP.l2d A))])) _
    refine XS.dstore X0.here hx rfl (hb hby d2_24) rfl (l' := LL6) rfl ?_
    show Steps _ _ _ (s₁.setTop (mkF m 26 LL6 [])) _
    refine XS.iinc X0.here hx rfl (hb hby d2_26) rfl (l' := LL7) rfl ?_
    show Steps _ _ _ (s₁.setTop (mkF m 29 LL7 [])) _
    refine XS.goto X0.here hx rfl (pc0 := 29) (pc' := 11) rfl (hb hby d2_29) (by decide) (by decide) ?_
    show Steps _ _ _ (s₁.setTop (mkF m 11 LL7 [])) _
    refine XS.iload X0.here hx rfl (hb hby d2_11) rfl ?_
    show Steps _ _ _ (s₁.setTop (mkF m 13 LL7 [(.int 1)])) _
    refine XS.iloadN X0.here hx rfl (hb hby d2_13) rfl ?_
    show Steps _ _ _ (s₁.setTop (mkF m 14 LL7 [(.int 2), (.int 1)])) _
    refine XS.icmpNo X0.here hx rfl (hb hby d2_14) rfl (XT.ii_ge_f (by decide)) ?_
    show Steps _ _ _ (s₁.setTop (mkF m 17 LL7 [])) _
    refine XS.dload X0.here hx rfl (hb hby d2_17) rfl ?_
    show Steps _ _ _ (s₁.setTop (mkF m 19 LL7 [(.double (FP.l2d A))])) _
    refine XS.aloadN X0.here hx rfl (hb hby d2_19) rfl rfl ?_
    show Steps _ _ _ (s₁.setTop (mkF m 20 LL7 [(.ref wt), (.double (FP.l2d A))])) _
    refine XS.iload X0.here hx rfl (hb hby d2_20) rfl ?_
    show Steps _ _ _ (s₁.setTop (mkF m 22 LL7 [(.int 1), (.ref wt), (.double (FP.l2d A))])) _
    refine X0.daload hx (j := (1 : Int32)) (v := (.double (FP.l2d B))) (by rw [e0]; exact Ar_a8.1) (State.isArrayOf_alike hZ.alike Ar_a8.2.1) Ar_a8.2.2 hin_a8 hat_a8 (g := (mkF m 22 LL7 [(.int 1), (.ref wt), (.double (FP.l2d A))])) rfl rfl (hb hby d2_22) _ ?_
    show Steps _ _ _ (s₁.setTop (mkF m 23 LL7 [(.double (FP.l2d B)), (.double (FP.l2d A))])) _
    refine XS.daddS X0.here hx rfl (hb hby d2_23) rfl (nn_w (own_dab pr7 pr8)) (own_dab pr7 pr8) ?_
    show Steps _ _ _ (s₁.setTop (mkF m 24 LL7 [(.double (FP.l2d (A + B)))])) _
    refine XS.dstore X0.here hx rfl (hb hby d2_24) rfl (l' := LL9) rfl ?_
    show Steps _ _ _ (s₁.setTop (mkF m 26 LL9 [])) _
    refine XS.iinc X0.here hx rfl (hb hby d2_26) rfl (l' := LL10) rfl ?_
    show Steps _ _ _ (s₁.setTop (mkF m 29 LL10 [])) _
    refine XS.goto X0.here hx rfl (pc0 := 29) (pc' := 11) rfl (hb hby d2_29) (by decide) (by decide) ?_
    show Steps _ _ _ (s₁.setTop (mkF m 11 LL10 [])) _
    exact kk
  let LL12 : Array Slot := #[.val (.ref a), .val (.ref wt), .val (.int 0), .val (.int 2), .val (.ref wk), .val (.int 2), .val (.double (FP.l2d (A + B))), .second, .val (.int 0), .unset, .unset, .unset]
  let LL13 : Array Slot := #[.val (.ref a), .val (.ref wt), .val (.int 0), .val (.int 2), .val (.ref wk), .val (.int 2), .val (.double (FP.l2d (A + B))), .second, .val (.int 0), .val (.int 2), .unset, .unset]
  let LL14 : Array Slot := #[.val (.ref a), .val (.ref wt), .val (.int 0), .val (.int 2), .val (.ref wk), .val (.int 2), .val (.double (FP.l2d (A + B))), .second, .val (.int 0), .val (.int 2), .val (.int 0), .unset]
  obtain ⟨T15, X15, e15, st15⟩ := getF X0 hx hZ hown (host := "") (Or.inl (hw _ (List.mem_of_getElem? (i := 12) rfl))) Via.refl e0 pr1 (g := (mkF m 49 LL14 [(.ref a)])) rfl rfl (hb hby d2_49)
  obtain ⟨cl_a16, Ar_a16, q_a16, S_a16, N_a16, H_a16, G_a16⟩ := id pr3
  have hin_a16 : ¬ ((0 : Int32) < 0 ∨ cl_a16.slots.size ≤ ((0 : Int32)).toNatClampNeg) := inb_of S_a16 ⟨by decide, by decide⟩
  have hat_a16 := Has.at (v := (.double (FP.l2d A))) H_a16 hin_a16 rfl
  obtain ⟨cl_a17, Ar_a17, q_a17, S_a17, N_a17, H_a17, G_a17⟩ := id pr4
  have hin_a17 : ¬ ((0 : Int32) < 0 ∨ cl_a17.slots.size ≤ ((0 : Int32)).toNatClampNeg) := inb_of S_a17 ⟨by decide, by decide⟩
  obtain ⟨T18, h18, X18, e18, W18, st18⟩ := stD X15 hx hZ e15 Ar_a17 (j := (0 : Int32)) hin_a17 (g := (mkF m 65 LL14 [(.double (own_q (A * (2 : Int64)) (A + B))), (.int 0), (.ref th)])) rfl rfl (hb hby d2_65)
  have V18 : Arv Z h18 th kt .double (3 : Int32) [(.double (own_q (A * (2 : Int64)) (A + B))), (.double y1), (.double y2)] (.double (0 : UInt64)) := Arv.set Ar_a17 q_a17 S_a17 N_a17 H_a17 G_a17 rfl W18 0 rfl (Nat.le_of_ble_eq_true rfl)
  have N18 := Fr.snoc X18 N0 pr10
  have f19 := (Fld.other W18 pr2 (Or.inl pr14))
  obtain ⟨T20, X20, e20, st20⟩ := getF X18 hx hZ hown (host := "") (Or.inl (hw _ (List.mem_of_getElem? (i := 14) rfl))) Via.refl e18 f19 (g := (mkF m 67 LL14 [(.ref a)])) rfl rfl (hb hby d2_67)
  have f21 := (pr5.other W18 (Ne.symm pr21))
  obtain ⟨cl_a22, Ar_a22, q_a22, S_a22, N_a22, H_a22, G_a22⟩ := id f21
  have hin_a22 : ¬ ((0 : Int32) < 0 ∨ cl_a22.slots.size ≤ ((0 : Int32)).toNatClampNeg) := inb_of S_a22 ⟨by decide, by decide⟩
  obtain ⟨T23, h23, X23, e23, W23, st23⟩ := stI X20 hx hZ e20 Ar_a22 (j := (0 : Int32)) hin_a22 (g := (mkF m 74 LL14 [(.int 0), (.int 0), (.ref al)])) rfl rfl (hb hby d2_74)
  have V23 : Arv Z h23 al ka .int (3 : Int32) [(.int 0), (.int z1), (.int z2)] (.int 0) := Arv.set Ar_a22 q_a22 S_a22 N_a22 H_a22 G_a22 rfl W23 0 rfl (Nat.le_of_ble_eq_true rfl)
  have N23 := Fr.snoc X23 N18 pr11
  have P24 : ∀ t, Steps p.tables e below (T23.setTop (mkF m 76 LL14 [(.ref a)])) t → Steps p.tables e below ST t := by
    intro t kk
    refine P11 _ ?_
    show Steps _ _ _ (s₁.setTop (mkF m 11 LL10 [])) _
    refine XS.iload X0.here hx rfl (hb hby d2_11) rfl ?_
    show Steps _ _ _ (s₁.setTop (mkF m 13 LL10 [(.int 2)])) _
    refine XS.iloadN X0.here hx rfl (hb hby d2_13) rfl ?_
    show Steps _ _ _ (s₁.setTop (mkF m 14 LL10 [(.int 2), (.int 2)])) _
    refine XS.icmpYes X0.here hx rfl (pc0 := 14) (pc' := 32) rfl (hb hby d2_14) rfl (XT.ii_ge_t (by decide)) (by decide) (by decide) ?_
    show Steps _ _ _ (s₁.setTop (mkF m 32 LL10 [])) _
    refine XS.iconst X0.here hx rfl (hb hby d2_32) ?_
    show Steps _ _ _ (s₁.setTop (mkF m 33 LL10 [(.int 0)])) _
    refine XS.istore X0.here hx rfl (hb hby d2_33) rfl (l' := LL12) rfl ?_
    show Steps _ _ _ (s₁.setTop (mkF m 35 LL12 [])) _
    refine XS.iload X0.here hx rfl (hb hby d2_35) rfl ?_
    show Steps _ _ _ (s₁.setTop (mkF m 37 LL12 [(.int 2)])) _
    refine XS.istore X0.here hx rfl (hb hby d2_37) rfl (l' := LL13) rfl ?_
    show Steps _ _ _ (s₁.setTop (mkF m 39 LL13 [])) _
    refine XS.iloadN X0.here hx rfl (hb hby d2_39) rfl ?_
    show Steps _ _ _ (s₁.setTop (mkF m 40 LL13 [(.int 0)])) _
    refine XS.istore X0.here hx rfl (hb hby d2_40) rfl (l' := LL14) rfl ?_
    show Steps _ _ _ (s₁.setTop (mkF m 42 LL14 [])) _
    refine XS.iload X0.here hx rfl (hb hby d2_42) rfl ?_
    show Steps _ _ _ (s₁.setTop (mkF m 44 LL14 [(.int 0)])) _
    refine XS.iloadN X0.here hx rfl (hb hby d2_44) rfl ?_
    show Steps _ _ _ (s₁.setTop (mkF m 45 LL14 [(.int 2), (.int 0)])) _
    refine XS.icmpNo X0.here hx rfl (hb hby d2_45) rfl (XT.ii_ge_f (by decide)) ?_
    show Steps _ _ _ (s₁.setTop (mkF m 48 LL14 [])) _
    refine XS.aloadN X0.here hx rfl (hb hby d2_48) rfl rfl ?_
    show Steps _ _ _ (s₁.setTop (mkF m 49 LL14 [(.ref a)])) _
    refine st15 _ ?_
    show Steps _ _ _ (T15.setTop (mkF m 52 LL14 [(.ref th)])) _
    refine XS.iload X15.here hx rfl (hb hby d2_52) rfl ?_
    show Steps _ _ _ (T15.setTop (mkF m 54 LL14 [(.int 0), (.ref th)])) _
    refine XS.aloadN X15.here hx rfl (hb hby d2_54) rfl rfl ?_
    show Steps _ _ _ (T15.setTop (mkF m 55 LL14 [(.ref wt), (.int 0), (.ref th)])) _
    refine XS.iload X15.here hx rfl (hb hby d2_55) rfl ?_
    show Steps _ _ _ (T15.setTop (mkF m 57 LL14 [(.int 0), (.ref wt), (.int 0), (.ref th)])) _
    refine X15.daload hx (j := (0 : Int32)) (v := (.double (FP.l2d A))) (by rw [e15]; exact Ar_a16.1) (State.isArrayOf_alike hZ.alike Ar_a16.2.1) Ar_a16.2.2 hin_a16 hat_a16 (g := (mkF m 57 LL14 [(.int 0), (.ref wt), (.int 0), (.ref th)])) rfl rfl (hb hby d2_57) _ ?_
    show Steps _ _ _ (T15.setTop (mkF m 58 LL14 [(.double (FP.l2d A)), (.int 0), (.ref th)])) _
    refine XS.iload X15.here hx rfl (hb hby d2_58) rfl ?_
    show Steps _ _ _ (T15.setTop (mkF m 60 LL14 [(.int 2), (.double (FP.l2d A)), (.int 0), (.ref th)])) _
    refine XS.i2dS X15.here hx rfl (hb hby d2_60) rfl rfl ?_
    show Steps _ _ _ (T15.setTop (mkF m 61 LL14 [(.double (FP.i2d (2 : Int32))), (.double (FP.l2d A)), (.int 0), (.ref th)])) _
    refine XS.dmulS X15.here hx rfl (hb hby d2_61) rfl (nn_w (own_m2 pr7)) (own_m2 pr7) ?_
    show Steps _ _ _ (T15.setTop (mkF m 62 LL14 [(.double (FP.l2d (A * (2 : Int64)))), (.int 0), (.ref th)])) _
    refine XS.dload X15.here hx rfl (hb hby d2_62) rfl ?_
    show Steps _ _ _ (T15.setTop (mkF m 64 LL14 [(.double (FP.l2d (A + B))), (.double (FP.l2d (A * (2 : Int64)))), (.int 0), (.ref th)])) _
    refine XS.ddivS X15.here hx rfl (hb hby d2_64) rfl (own_qA pr7 pr8).noNaN rfl ?_
    show Steps _ _ _ (T15.setTop (mkF m 65 LL14 [(.double (own_q (A * (2 : Int64)) (A + B))), (.int 0), (.ref th)])) _
    refine st18 _ ?_
    show Steps _ _ _ (T18.setTop (mkF m 66 LL14 [])) _
    refine XS.aloadN X18.here hx rfl (hb hby d2_66) rfl rfl ?_
    show Steps _ _ _ (T18.setTop (mkF m 67 LL14 [(.ref a)])) _
    refine st20 _ ?_
    show Steps _ _ _ (T20.setTop (mkF m 70 LL14 [(.ref al)])) _
    refine XS.iload X20.here hx rfl (hb hby d2_70) rfl ?_
    show Steps _ _ _ (T20.setTop (mkF m 72 LL14 [(.int 0), (.ref al)])) _
    refine XS.iload X20.here hx rfl (hb hby d2_72) rfl ?_
    show Steps _ _ _ (T20.setTop (mkF m 74 LL14 [(.int 0), (.int 0), (.ref al)])) _
    refine st23 _ ?_
    show Steps _ _ _ (T23.setTop (mkF m 75 LL14 [])) _
    refine XS.aloadN X23.here hx rfl (hb hby d2_75) rfl rfl ?_
    show Steps _ _ _ (T23.setTop (mkF m 76 LL14 [(.ref a)])) _
    exact kk
  have f25 := (Fld.other W23 (Fld.other W18 pr1 (Or.inl pr14)) (Or.inl pr15))
  obtain ⟨T26, X26, e26, st26⟩ := getF X23 hx hZ hown (host := "") (Or.inl (hw _ (List.mem_of_getElem? (i := 12) rfl))) Via.refl e23 f25 (g := (mkF m 76 LL14 [(.ref a)])) rfl rfl (hb hby d2_76)
  have f27 := (V18.other W23 pr21)
  obtain ⟨cl_a28, Ar_a28, q_a28, S_a28, N_a28, H_a28, G_a28⟩ := id f27
  have hin_a28 : ¬ ((0 : Int32) < 0 ∨ cl_a28.slots.size ≤ ((0 : Int32)).toNatClampNeg) := inb_of S_a28 ⟨by decide, by decide⟩
  have hat_a28 := Has.at (v := (.double (own_q (A * (2 : Int64)) (A + B)))) H_a28 hin_a28 rfl
  have P29 : ∀ t, Steps p.tables e below (T26.setTop (mkF m 84 LL14 [(.int (cmpValue (FP.dcmp (own_q (A * (2 : Int64)) (A + B)) FP.dconst1) .g))])) t → Steps p.tables e below ST t := by
    intro t kk
    refine P24 _ ?_
    show Steps _ _ _ (T23.setTop (mkF m 76 LL14 [(.ref a)])) _
    refine st26 _ ?_
    show Steps _ _ _ (T26.setTop (mkF m 79 LL14 [(.ref th)])) _
    refine XS.iload X26.here hx rfl (hb hby d2_79) rfl ?_
    show Steps _ _ _ (T26.setTop (mkF m 81 LL14 [(.int 0), (.ref th)])) _
    refine X26.daload hx (j := (0 : Int32)) (v := (.double (own_q (A * (2 : Int64)) (A + B)))) (by rw [e26]; exact Ar_a28.1) (State.isArrayOf_alike hZ.alike Ar_a28.2.1) Ar_a28.2.2 hin_a28 hat_a28 (g := (mkF m 81 LL14 [(.int 0), (.ref th)])) rfl rfl (hb hby d2_81) _ ?_
    show Steps _ _ _ (T26.setTop (mkF m 82 LL14 [(.double (own_q (A * (2 : Int64)) (A + B)))])) _
    refine XS.dconst1 X26.here hx rfl (hb hby d2_82) rfl ?_
    show Steps _ _ _ (T26.setTop (mkF m 83 LL14 [(.double FP.dconst1), (.double (own_q (A * (2 : Int64)) (A + B)))])) _
    refine XS.dcmpS X26.here hx rfl (hb hby d2_83) rfl rfl ?_
    show Steps _ _ _ (T26.setTop (mkF m 84 LL14 [(.int (cmpValue (FP.dcmp (own_q (A * (2 : Int64)) (A + B)) FP.dconst1) .g))])) _
    exact kk
  by_cases c30 : (cmpValue (FP.dcmp (own_q (A * (2 : Int64)) (A + B)) FP.dconst1) .g) < (0 : Int32)
  · skip
    let LL31 : Array Slot := #[.val (.ref a), .val (.ref wt), .val (.int 0), .val (.int 2), .val (.ref wk), .val (.int 2), .val (.double (FP.l2d (A + B))), .second, .val (.int 1), .val (.int 2), .val (.int 0), .unset]
    have f32 := ((pr6.other W18 pr19).other W23 pr20)
    obtain ⟨cl_a33, Ar_a33, q_a33, S_a33, N_a33, H_a33, G_a33⟩ := id f32
    have hin_a33 : ¬ ((0 : Int32) < 0 ∨ cl_a33.slots.size ≤ ((0 : Int32)).toNatClampNeg) := inb_of S_a33 ⟨by decide, by decide⟩
    obtain ⟨T34, h34, X34, e34, W34, st34⟩ := stI X26 hx hZ e26 Ar_a33 (j := (0 : Int32)) hin_a33 (g := (mkF m 96 LL31 [(.int 0), (.int 0), (.ref wk)])) rfl rfl (hb hby d2_96)
    have V34 : Arv Z h34 wk kk .int (2 : Int32) [(.int 0), (.int u1)] (.int 0) := Arv.set Ar_a33 q_a33 S_a33 N_a33 H_a33 G_a33 rfl W34 0 rfl (Nat.le_of_ble_eq_true rfl)
    have N34 := Fr.snoc X34 N23 pr9
    let LL35 : Array Slot := #[.val (.ref a), .val (.ref wt), .val (.int 0), .val (.int 2), .val (.ref wk), .val (.int 2), .val (.double (FP.l2d (A + B))), .second, .val (.int 1), .val (.int 2), .val (.int 1), .unset]
    have f36 := (Fld.other W34 f25 (Or.inl pr13))
    obtain ⟨T37, X37, e37, st37⟩ := getF X34 hx hZ hown (host := "") (Or.inl (hw _ (List.mem_of_getElem? (i := 12) rfl))) Via.refl e34 f36 (g := (mkF m 49 LL35 [(.ref a)])) rfl rfl (hb hby d2_49)
    have f38 := (((pr3.other W18 pr17).other W23 pr18).other W34 pr16)
    obtain ⟨cl_a39, Ar_a39, q_a39, S_a39, N_a39, H_a39, G_a39⟩ := id f38
    have hin_a39 : ¬ ((1 : Int32) < 0 ∨ cl_a39.slots.size ≤ ((1 : Int32)).toNatClampNeg) := inb_of S_a39 ⟨by decide, by decide⟩
    have hat_a39 := Has.at (v := (.double (FP.l2d B))) H_a39 hin_a39 rfl
    have f40 := (f27.other W34 (Ne.symm pr19))
    obtain ⟨cl_a41, Ar_a41, q_a41, S_a41, N_a41, H_a41, G_a41⟩ := id f40
    have hin_a41 : ¬ ((1 : Int32) < 0 ∨ cl_a41.slots.size ≤ ((1 : Int32)).toNatClampNeg) := inb_of S_a41 ⟨by decide, by decide⟩
    obtain ⟨T42, h42, X42, e42, W42, st42⟩ := stD X37 hx hZ e37 Ar_a41 (j := (1 : Int32)) hin_a41 (g := (mkF m 65 LL35 [(.double (own_q (B * (2 : Int64)) (A + B))), (.int 1), (.ref th)])) rfl rfl (hb hby d2_65)
    have V42 : Arv Z h42 th kt .double (3 : Int32) [(.double (own_q (A * (2 : Int64)) (A + B))), (.double (own_q (B * (2 : Int64)) (A + B))), (.double y2)] (.double (0 : UInt64)) := Arv.set Ar_a41 q_a41 S_a41 N_a41 H_a41 G_a41 rfl W42 1 rfl (Nat.le_of_ble_eq_true rfl)
    have N42 := Fr.snoc X42 N34 pr10
    have f43 := (Fld.other W42 (Fld.other W34 (Fld.other W23 f19 (Or.inl pr15)) (Or.inl pr13)) (Or.inl pr14))
    obtain ⟨T44, X44, e44, st44⟩ := getF X42 hx hZ hown (host := "") (Or.inl (hw _ (List.mem_of_getElem? (i := 14) rfl))) Via.refl e42 f43 (g := (mkF m 67 LL35 [(.ref a)])) rfl rfl (hb hby d2_67)
    have f45 := ((V23.other W34 (Ne.symm pr20)).other W42 (Ne.symm pr21))
    obtain ⟨cl_a46, Ar_a46, q_a46, S_a46, N_a46, H_a46, G_a46⟩ := id f45
    have hin_a46 : ¬ ((1 : Int32) < 0 ∨ cl_a46.slots.size ≤ ((1 : Int32)).toNatClampNeg) := inb_of S_a46 ⟨by decide, by decide⟩
    obtain ⟨T47, h47, X47, e47, W47, st47⟩ := stI X44 hx hZ e44 Ar_a46 (j := (1 : Int32)) hin_a46 (g := (mkF m 74 LL35 [(.int 1), (.int 1), (.ref al)])) rfl rfl (hb hby d2_74)
    have V47 : Arv Z h47 al ka .int (3 : Int32) [(.int 0), (.int 1), (.int z2)] (.int 0) := Arv.set Ar_a46 q_a46 S_a46 N_a46 H_a46 G_a46 rfl W47 1 rfl (Nat.le_of_ble_eq_true rfl)
    have N47 := Fr.snoc X47 N42 pr11
    have P48 : ∀ t, Steps p.tables e below (T47.setTop (mkF m 76 LL35 [(.ref a)])) t → Steps p.tables e below ST t := by
      intro t kk
      refine P29 _ ?_
      show Steps _ _ _ (T26.setTop (mkF m 84 LL14 [(.int (cmpValue (FP.dcmp (own_q (A * (2 : Int64)) (A + B)) FP.dconst1) .g))])) _
      refine XS.ifNo X26.here hx rfl (hb hby d2_84) rfl (XT.i0_ge_f c30) ?_
      show Steps _ _ _ (T26.setTop (mkF m 87 LL14 [])) _
      refine XS.aload X26.here hx rfl (hb hby d2_87) rfl rfl ?_
      show Steps _ _ _ (T26.setTop (mkF m 89 LL14 [(.ref wk)])) _
      refine XS.iload X26.here hx rfl (hb hby d2_89) rfl ?_
      show Steps _ _ _ (T26.setTop (mkF m 91 LL14 [(.int 0), (.ref wk)])) _
      refine XS.iinc X26.here hx rfl (hb hby d2_91) rfl (l' := LL31) rfl ?_
      show Steps _ _ _ (T26.setTop (mkF m 94 LL31 [(.int 0), (.ref wk)])) _
      refine XS.iload X26.here hx rfl (hb hby d2_94) rfl ?_
      show Steps _ _ _ (T26.setTop (mkF m 96 LL31 [(.int 0), (.int 0), (.ref wk)])) _
      refine st34 _ ?_
      show Steps _ _ _ (T34.setTop (mkF m 97 LL31 [])) _
      refine XS.goto X34.here hx rfl (pc0 := 97) (pc' := 110) rfl (hb hby d2_97) (by decide) (by decide) ?_
      show Steps _ _ _ (T34.setTop (mkF m 110 LL31 [])) _
      refine XS.iinc X34.here hx rfl (hb hby d2_110) rfl (l' := LL35) rfl ?_
      show Steps _ _ _ (T34.setTop (mkF m 113 LL35 [])) _
      refine XS.goto X34.here hx rfl (pc0 := 113) (pc' := 42) rfl (hb hby d2_113) (by decide) (by decide) ?_
      show Steps _ _ _ (T34.setTop (mkF m 42 LL35 [])) _
      refine XS.iload X34.here hx rfl (hb hby d2_42) rfl ?_
      show Steps _ _ _ (T34.setTop (mkF m 44 LL35 [(.int 1)])) _
      refine XS.iloadN X34.here hx rfl (hb hby d2_44) rfl ?_
      show Steps _ _ _ (T34.setTop (mkF m 45 LL35 [(.int 2), (.int 1)])) _
      refine XS.icmpNo X34.here hx rfl (hb hby d2_45) rfl (XT.ii_ge_f (by decide)) ?_
      show Steps _ _ _ (T34.setTop (mkF m 48 LL35 [])) _
      refine XS.aloadN X34.here hx rfl (hb hby d2_48) rfl rfl ?_
      show Steps _ _ _ (T34.setTop (mkF m 49 LL35 [(.ref a)])) _
      refine st37 _ ?_
      show Steps _ _ _ (T37.setTop (mkF m 52 LL35 [(.ref th)])) _
      refine XS.iload X37.here hx rfl (hb hby d2_52) rfl ?_
      show Steps _ _ _ (T37.setTop (mkF m 54 LL35 [(.int 1), (.ref th)])) _
      refine XS.aloadN X37.here hx rfl (hb hby d2_54) rfl rfl ?_
      show Steps _ _ _ (T37.setTop (mkF m 55 LL35 [(.ref wt), (.int 1), (.ref th)])) _
      refine XS.iload X37.here hx rfl (hb hby d2_55) rfl ?_
      show Steps _ _ _ (T37.setTop (mkF m 57 LL35 [(.int 1), (.ref wt), (.int 1), (.ref th)])) _
      refine X37.daload hx (j := (1 : Int32)) (v := (.double (FP.l2d B))) (by rw [e37]; exact Ar_a39.1) (State.isArrayOf_alike hZ.alike Ar_a39.2.1) Ar_a39.2.2 hin_a39 hat_a39 (g := (mkF m 57 LL35 [(.int 1), (.ref wt), (.int 1), (.ref th)])) rfl rfl (hb hby d2_57) _ ?_
      show Steps _ _ _ (T37.setTop (mkF m 58 LL35 [(.double (FP.l2d B)), (.int 1), (.ref th)])) _
      refine XS.iload X37.here hx rfl (hb hby d2_58) rfl ?_
      show Steps _ _ _ (T37.setTop (mkF m 60 LL35 [(.int 2), (.double (FP.l2d B)), (.int 1), (.ref th)])) _
      refine XS.i2dS X37.here hx rfl (hb hby d2_60) rfl rfl ?_
      show Steps _ _ _ (T37.setTop (mkF m 61 LL35 [(.double (FP.i2d (2 : Int32))), (.double (FP.l2d B)), (.int 1), (.ref th)])) _
      refine XS.dmulS X37.here hx rfl (hb hby d2_61) rfl (nn_w (own_m2 pr8)) (own_m2 pr8) ?_
      show Steps _ _ _ (T37.setTop (mkF m 62 LL35 [(.double (FP.l2d (B * (2 : Int64)))), (.int 1), (.ref th)])) _
      refine XS.dload X37.here hx rfl (hb hby d2_62) rfl ?_
      show Steps _ _ _ (T37.setTop (mkF m 64 LL35 [(.double (FP.l2d (A + B))), (.double (FP.l2d (B * (2 : Int64)))), (.int 1), (.ref th)])) _
      refine XS.ddivS X37.here hx rfl (hb hby d2_64) rfl (own_qB pr7 pr8).noNaN rfl ?_
      show Steps _ _ _ (T37.setTop (mkF m 65 LL35 [(.double (own_q (B * (2 : Int64)) (A + B))), (.int 1), (.ref th)])) _
      refine st42 _ ?_
      show Steps _ _ _ (T42.setTop (mkF m 66 LL35 [])) _
      refine XS.aloadN X42.here hx rfl (hb hby d2_66) rfl rfl ?_
      show Steps _ _ _ (T42.setTop (mkF m 67 LL35 [(.ref a)])) _
      refine st44 _ ?_
      show Steps _ _ _ (T44.setTop (mkF m 70 LL35 [(.ref al)])) _
      refine XS.iload X44.here hx rfl (hb hby d2_70) rfl ?_
      show Steps _ _ _ (T44.setTop (mkF m 72 LL35 [(.int 1), (.ref al)])) _
      refine XS.iload X44.here hx rfl (hb hby d2_72) rfl ?_
      show Steps _ _ _ (T44.setTop (mkF m 74 LL35 [(.int 1), (.int 1), (.ref al)])) _
      refine st47 _ ?_
      show Steps _ _ _ (T47.setTop (mkF m 75 LL35 [])) _
      refine XS.aloadN X47.here hx rfl (hb hby d2_75) rfl rfl ?_
      show Steps _ _ _ (T47.setTop (mkF m 76 LL35 [(.ref a)])) _
      exact kk
    have f49 := (Fld.other W47 (Fld.other W42 f36 (Or.inl pr14)) (Or.inl pr15))
    obtain ⟨T50, X50, e50, st50⟩ := getF X47 hx hZ hown (host := "") (Or.inl (hw _ (List.mem_of_getElem? (i := 12) rfl))) Via.refl e47 f49 (g := (mkF m 76 LL35 [(.ref a)])) rfl rfl (hb hby d2_76)
    have f51 := (V42.other W47 pr21)
    obtain ⟨cl_a52, Ar_a52, q_a52, S_a52, N_a52, H_a52, G_a52⟩ := id f51
    have hin_a52 : ¬ ((1 : Int32) < 0 ∨ cl_a52.slots.size ≤ ((1 : Int32)).toNatClampNeg) := inb_of S_a52 ⟨by decide, by decide⟩
    have hat_a52 := Has.at (v := (.double (own_q (B * (2 : Int64)) (A + B)))) H_a52 hin_a52 rfl
    let LL53 : Array Slot := #[.val (.ref a), .val (.ref wt), .val (.int 0), .val (.int 2), .val (.ref wk), .val (.int 2), .val (.double (FP.l2d (A + B))), .second, .val (.int 1), .val (.int 1), .val (.int 1), .unset]
    have f54 := ((V34.other W42 pr19).other W47 pr20)
    obtain ⟨cl_a55, Ar_a55, q_a55, S_a55, N_a55, H_a55, G_a55⟩ := id f54
    have hin_a55 : ¬ ((1 : Int32) < 0 ∨ cl_a55.slots.size ≤ ((1 : Int32)).toNatClampNeg) := inb_of S_a55 ⟨by decide, by decide⟩
    obtain ⟨T56, h56, X56, e56, W56, st56⟩ := stI X50 hx hZ e50 Ar_a55 (j := (1 : Int32)) hin_a55 (g := (mkF m 109 LL53 [(.int 1), (.int 1), (.ref wk)])) rfl rfl (hb hby d2_109)
    have V56 : Arv Z h56 wk kk .int (2 : Int32) [(.int 0), (.int 1)] (.int 0) := Arv.set Ar_a55 q_a55 S_a55 N_a55 H_a55 G_a55 rfl W56 1 rfl (Nat.le_of_ble_eq_true rfl)
    have N56 := Fr.snoc X56 N47 pr9
    let LL57 : Array Slot := #[.val (.ref a), .val (.ref wt), .val (.int 0), .val (.int 2), .val (.ref wk), .val (.int 2), .val (.double (FP.l2d (A + B))), .second, .val (.int 1), .val (.int 1), .val (.int 2), .unset]
    let LL58 : Array Slot := #[.val (.ref a), .val (.ref wt), .val (.int 0), .val (.int 2), .val (.ref wk), .val (.int 2), .val (.double (FP.l2d (A + B))), .second, .val (.int 0), .val (.int 1), .val (.int 2), .unset]
    obtain ⟨cl_a59, Ar_a59, q_a59, S_a59, N_a59, H_a59, G_a59⟩ := id V56
    have hin_a59 : ¬ ((0 : Int32) < 0 ∨ cl_a59.slots.size ≤ ((0 : Int32)).toNatClampNeg) := inb_of S_a59 ⟨by decide, by decide⟩
    have hat_a59 := Has.at (v := (.int 0)) H_a59 hin_a59 rfl
    let LL60 : Array Slot := #[.val (.ref a), .val (.ref wt), .val (.int 0), .val (.int 2), .val (.ref wk), .val (.int 2), .val (.double (FP.l2d (A + B))), .second, .val (.int 0), .val (.int 1), .val (.int 0), .unset]
    obtain ⟨cl_a61, Ar_a61, q_a61, S_a61, N_a61, H_a61, G_a61⟩ := id V56
    have hin_a61 : ¬ ((1 : Int32) < 0 ∨ cl_a61.slots.size ≤ ((1 : Int32)).toNatClampNeg) := inb_of S_a61 ⟨by decide, by decide⟩
    have hat_a61 := Has.at (v := (.int 1)) H_a61 hin_a61 rfl
    let LL62 : Array Slot := #[.val (.ref a), .val (.ref wt), .val (.int 0), .val (.int 2), .val (.ref wk), .val (.int 2), .val (.double (FP.l2d (A + B))), .second, .val (.int 0), .val (.int 1), .val (.int 0), .val (.int 1)]
    have P63 : ∀ t, Steps p.tables e below (T56.setTop (mkF m 145 LL62 [])) t → Steps p.tables e below ST t := by
      intro t kk
      refine P48 _ ?_
      show Steps _ _ _ (T47.setTop (mkF m 76 LL35 [(.ref a)])) _
      refine st50 _ ?_
      show Steps _ _ _ (T50.setTop (mkF m 79 LL35 [(.ref th)])) _
      refine XS.iload X50.here hx rfl (hb hby d2_79) rfl ?_
      show Steps _ _ _ (T50.setTop (mkF m 81 LL35 [(.int 1), (.ref th)])) _
      refine X50.daload hx (j := (1 : Int32)) (v := (.double (own_q (B * (2 : Int64)) (A + B)))) (by rw [e50]; exact Ar_a52.1) (State.isArrayOf_alike hZ.alike Ar_a52.2.1) Ar_a52.2.2 hin_a52 hat_a52 (g := (mkF m 81 LL35 [(.int 1), (.ref th)])) rfl rfl (hb hby d2_81) _ ?_
      show Steps _ _ _ (T50.setTop (mkF m 82 LL35 [(.double (own_q (B * (2 : Int64)) (A + B)))])) _
      refine XS.dconst1 X50.here hx rfl (hb hby d2_82) rfl ?_
      show Steps _ _ _ (T50.setTop (mkF m 83 LL35 [(.double FP.dconst1), (.double (own_q (B * (2 : Int64)) (A + B)))])) _
      refine XS.dcmpS X50.here hx rfl (hb hby d2_83) rfl rfl ?_
      show Steps _ _ _ (T50.setTop (mkF m 84 LL35 [(.int (cmpValue (FP.dcmp (own_q (B * (2 : Int64)) (A + B)) FP.dconst1) .g))])) _
      refine XS.ifYes X50.here hx rfl (pc0 := 84) (pc' := 100) rfl (hb hby d2_84) rfl (XT.i0_ge_t (own_nb pr7 pr8 c30)) (by decide) (by decide) ?_
      show Steps _ _ _ (T50.setTop (mkF m 100 LL35 [])) _
      refine XS.aload X50.here hx rfl (hb hby d2_100) rfl rfl ?_
      show Steps _ _ _ (T50.setTop (mkF m 102 LL35 [(.ref wk)])) _
      refine XS.iinc X50.here hx rfl (hb hby d2_102) rfl (l' := LL53) rfl ?_
      show Steps _ _ _ (T50.setTop (mkF m 105 LL53 [(.ref wk)])) _
      refine XS.iload X50.here hx rfl (hb hby d2_105) rfl ?_
      show Steps _ _ _ (T50.setTop (mkF m 107 LL53 [(.int 1), (.ref wk)])) _
      refine XS.iload X50.here hx rfl (hb hby d2_107) rfl ?_
      show Steps _ _ _ (T50.setTop (mkF m 109 LL53 [(.int 1), (.int 1), (.ref wk)])) _
      refine st56 _ ?_
      show Steps _ _ _ (T56.setTop (mkF m 110 LL53 [])) _
      refine XS.iinc X56.here hx rfl (hb hby d2_110) rfl (l' := LL57) rfl ?_
      show Steps _ _ _ (T56.setTop (mkF m 113 LL57 [])) _
      refine XS.goto X56.here hx rfl (pc0 := 113) (pc' := 42) rfl (hb hby d2_113) (by decide) (by decide) ?_
      show Steps _ _ _ (T56.setTop (mkF m 42 LL57 [])) _
      refine XS.iload X56.here hx rfl (hb hby d2_42) rfl ?_
      show Steps _ _ _ (T56.setTop (mkF m 44 LL57 [(.int 2)])) _
      refine XS.iloadN X56.here hx rfl (hb hby d2_44) rfl ?_
      show Steps _ _ _ (T56.setTop (mkF m 45 LL57 [(.int 2), (.int 2)])) _
      refine XS.icmpYes X56.here hx rfl (pc0 := 45) (pc' := 116) rfl (hb hby d2_45) rfl (XT.ii_ge_t (by decide)) (by decide) (by decide) ?_
      show Steps _ _ _ (T56.setTop (mkF m 116 LL57 [])) _
      refine XS.iload X56.here hx rfl (hb hby d2_116) rfl ?_
      show Steps _ _ _ (T56.setTop (mkF m 118 LL57 [(.int 1)])) _
      refine XS.ifNo X56.here hx rfl (hb hby d2_118) rfl (XT.i0_le_f (by decide)) ?_
      show Steps _ _ _ (T56.setTop (mkF m 121 LL57 [])) _
      refine XS.iload X56.here hx rfl (hb hby d2_121) rfl ?_
      show Steps _ _ _ (T56.setTop (mkF m 123 LL57 [(.int 1)])) _
      refine XS.iload X56.here hx rfl (hb hby d2_123) rfl ?_
      show Steps _ _ _ (T56.setTop (mkF m 125 LL57 [(.int 2), (.int 1)])) _
      refine XS.icmpNo X56.here hx rfl (hb hby d2_125) rfl (XT.ii_ge_f (by decide)) ?_
      show Steps _ _ _ (T56.setTop (mkF m 128 LL57 [])) _
      refine XS.aload X56.here hx rfl (hb hby d2_128) rfl rfl ?_
      show Steps _ _ _ (T56.setTop (mkF m 130 LL57 [(.ref wk)])) _
      refine XS.iinc X56.here hx rfl (hb hby d2_130) rfl (l' := LL58) rfl ?_
      show Steps _ _ _ (T56.setTop (mkF m 133 LL58 [(.ref wk)])) _
      refine XS.iload X56.here hx rfl (hb hby d2_133) rfl ?_
      show Steps _ _ _ (T56.setTop (mkF m 135 LL58 [(.int 0), (.ref wk)])) _
      refine X56.iaload hx (j := (0 : Int32)) (v := (.int 0)) (by rw [e56]; exact Ar_a59.1) (State.isArrayOf_alike hZ.alike Ar_a59.2.1) Ar_a59.2.2 hin_a59 hat_a59 (g := (mkF m 135 LL58 [(.int 0), (.ref wk)])) rfl rfl (hb hby d2_135) _ ?_
      show Steps _ _ _ (T56.setTop (mkF m 136 LL58 [(.int 0)])) _
      refine XS.istore X56.here hx rfl (hb hby d2_136) rfl (l' := LL60) rfl ?_
      show Steps _ _ _ (T56.setTop (mkF m 138 LL60 [])) _
      refine XS.aload X56.here hx rfl (hb hby d2_138) rfl rfl ?_
      show Steps _ _ _ (T56.setTop (mkF m 140 LL60 [(.ref wk)])) _
      refine XS.iload X56.here hx rfl (hb hby d2_140) rfl ?_
      show Steps _ _ _ (T56.setTop (mkF m 142 LL60 [(.int 1), (.ref wk)])) _
      refine X56.iaload hx (j := (1 : Int32)) (v := (.int 1)) (by rw [e56]; exact Ar_a61.1) (State.isArrayOf_alike hZ.alike Ar_a61.2.1) Ar_a61.2.2 hin_a61 hat_a61 (g := (mkF m 142 LL60 [(.int 1), (.ref wk)])) rfl rfl (hb hby d2_142) _ ?_
      show Steps _ _ _ (T56.setTop (mkF m 143 LL60 [(.int 1)])) _
      refine XS.istore X56.here hx rfl (hb hby d2_143) rfl (l' := LL62) rfl ?_
      show Steps _ _ _ (T56.setTop (mkF m 145 LL62 [])) _
      exact kk
    have f64 := (Fld.other W56 (Fld.other W47 f43 (Or.inl pr15)) (Or.inl pr13))
    obtain ⟨T65, X65, e65, st65⟩ := getF X56 hx hZ hown (host := "") (Or.inl (hw _ (List.mem_of_getElem? (i := 14) rfl))) Via.refl e56 f64 (g := (mkF m 146 LL62 [(.ref a)])) rfl rfl (hb hby d2_146)
    have f66 := (V47.other W56 (Ne.symm pr20))
    obtain ⟨cl_a67, Ar_a67, q_a67, S_a67, N_a67, H_a67, G_a67⟩ := id f66
    have hin_a67 : ¬ ((0 : Int32) < 0 ∨ cl_a67.slots.size ≤ ((0 : Int32)).toNatClampNeg) := inb_of S_a67 ⟨by decide, by decide⟩
    obtain ⟨T68, h68, X68, e68, W68, st68⟩ := stI X65 hx hZ e65 Ar_a67 (j := (0 : Int32)) hin_a67 (g := (mkF m 153 LL62 [(.int 1), (.int 0), (.ref al)])) rfl rfl (hb hby d2_153)
    have V68 : Arv Z h68 al ka .int (3 : Int32) [(.int 1), (.int 1), (.int z2)] (.int 0) := Arv.set Ar_a67 q_a67 S_a67 N_a67 H_a67 G_a67 rfl W68 0 rfl (Nat.le_of_ble_eq_true rfl)
    have N68 := Fr.snoc X68 N56 pr11
    have f69 := (Fld.other W68 (Fld.other W56 f49 (Or.inl pr13)) (Or.inl pr15))
    obtain ⟨T70, X70, e70, st70⟩ := getF X68 hx hZ hown (host := "") (Or.inl (hw _ (List.mem_of_getElem? (i := 12) rfl))) Via.refl e68 f69 (g := (mkF m 155 LL62 [(.ref a)])) rfl rfl (hb hby d2_155)
    have f71 := ((f51.other W56 (Ne.symm pr19)).other W68 pr21)
    obtain ⟨cl_a72, Ar_a72, q_a72, S_a72, N_a72, H_a72, G_a72⟩ := id f71
    have hin_a72 : ¬ ((1 : Int32) < 0 ∨ cl_a72.slots.size ≤ ((1 : Int32)).toNatClampNeg) := inb_of S_a72 ⟨by decide, by decide⟩
    have hat_a72 := Has.at (v := (.double (own_q (B * (2 : Int64)) (A + B)))) H_a72 hin_a72 rfl
    obtain ⟨T73, X73, e73, st73⟩ := getF X70 hx hZ hown (host := "") (Or.inl (hw _ (List.mem_of_getElem? (i := 12) rfl))) Via.refl e70 f69 (g := (mkF m 163 LL62 [(.ref a), (.double (own_q (B * (2 : Int64)) (A + B))), (.int 1), (.ref th)])) rfl rfl (hb hby d2_163)
    obtain ⟨cl_a74, Ar_a74, q_a74, S_a74, N_a74, H_a74, G_a74⟩ := id f71
    have hin_a74 : ¬ ((0 : Int32) < 0 ∨ cl_a74.slots.size ≤ ((0 : Int32)).toNatClampNeg) := inb_of S_a74 ⟨by decide, by decide⟩
    have hat_a74 := Has.at (v := (.double (own_q (A * (2 : Int64)) (A + B)))) H_a74 hin_a74 rfl
    obtain ⟨cl_a75, Ar_a75, q_a75, S_a75, N_a75, H_a75, G_a75⟩ := id f71
    have hin_a75 : ¬ ((1 : Int32) < 0 ∨ cl_a75.slots.size ≤ ((1 : Int32)).toNatClampNeg) := inb_of S_a75 ⟨by decide, by decide⟩
    obtain ⟨T76, h76, X76, e76, W76, st76⟩ := stD X73 hx hZ e73 Ar_a75 (j := (1 : Int32)) hin_a75 (g := (mkF m 172 LL62 [(.double (FP.dadd (own_q (B * (2 : Int64)) (A + B)) (FP.dsub (own_q (A * (2 : Int64)) (A + B)) FP.dconst1))), (.int 1), (.ref th)])) rfl rfl (hb hby d2_172)
    have V76 : Arv Z h76 th kt .double (3 : Int32) [(.double (own_q (A * (2 : Int64)) (A + B))), (.double (FP.dadd (own_q (B * (2 : Int64)) (A + B)) (FP.dsub (own_q (A * (2 : Int64)) (A + B)) FP.dconst1))), (.double y2)] (.double (0 : UInt64)) := Arv.set Ar_a75 q_a75 S_a75 N_a75 H_a75 G_a75 rfl W76 1 rfl (Nat.le_of_ble_eq_true rfl)
    have N76 := Fr.snoc X76 N68 pr10
    have f77 := (Fld.other W76 f69 (Or.inl pr14))
    obtain ⟨T78, X78, e78, st78⟩ := getF X76 hx hZ hown (host := "") (Or.inl (hw _ (List.mem_of_getElem? (i := 12) rfl))) Via.refl e76 f77 (g := (mkF m 174 LL62 [(.ref a)])) rfl rfl (hb hby d2_174)
    obtain ⟨cl_a79, Ar_a79, q_a79, S_a79, N_a79, H_a79, G_a79⟩ := id V76
    have hin_a79 : ¬ ((1 : Int32) < 0 ∨ cl_a79.slots.size ≤ ((1 : Int32)).toNatClampNeg) := inb_of S_a79 ⟨by decide, by decide⟩
    have hat_a79 := Has.at (v := (.double (FP.dadd (own_q (B * (2 : Int64)) (A + B)) (FP.dsub (own_q (A * (2 : Int64)) (A + B)) FP.dconst1)))) H_a79 hin_a79 rfl
    have P80 : ∀ t, Steps p.tables e below (T78.setTop (mkF m 182 LL62 [(.int (cmpValue (FP.dcmp (FP.dadd (own_q (B * (2 : Int64)) (A + B)) (FP.dsub (own_q (A * (2 : Int64)) (A + B)) FP.dconst1)) FP.dconst1) .g))])) t → Steps p.tables e below ST t := by
      intro t kk
      refine P63 _ ?_
      show Steps _ _ _ (T56.setTop (mkF m 145 LL62 [])) _
      refine XS.aloadN X56.here hx rfl (hb hby d2_145) rfl rfl ?_
      show Steps _ _ _ (T56.setTop (mkF m 146 LL62 [(.ref a)])) _
      refine st65 _ ?_
      show Steps _ _ _ (T65.setTop (mkF m 149 LL62 [(.ref al)])) _
      refine XS.iload X65.here hx rfl (hb hby d2_149) rfl ?_
      show Steps _ _ _ (T65.setTop (mkF m 151 LL62 [(.int 0), (.ref al)])) _
      refine XS.iload X65.here hx rfl (hb hby d2_151) rfl ?_
      show Steps _ _ _ (T65.setTop (mkF m 153 LL62 [(.int 1), (.int 0), (.ref al)])) _
      refine st68 _ ?_
      show Steps _ _ _ (T68.setTop (mkF m 154 LL62 [])) _
      refine XS.aloadN X68.here hx rfl (hb hby d2_154) rfl rfl ?_
      show Steps _ _ _ (T68.setTop (mkF m 155 LL62 [(.ref a)])) _
      refine st70 _ ?_
      show Steps _ _ _ (T70.setTop (mkF m 158 LL62 [(.ref th)])) _
      refine XS.iload X70.here hx rfl (hb hby d2_158) rfl ?_
      show Steps _ _ _ (T70.setTop (mkF m 160 LL62 [(.int 1), (.ref th)])) _
      refine XT.dup2 X70.here hx rfl (hb hby d2_160) rfl rfl rfl ?_
      show Steps _ _ _ (T70.setTop (mkF m 161 LL62 [(.int 1), (.ref th), (.int 1), (.ref th)])) _
      refine X70.daload hx (j := (1 : Int32)) (v := (.double (own_q (B * (2 : Int64)) (A + B)))) (by rw [e70]; exact Ar_a72.1) (State.isArrayOf_alike hZ.alike Ar_a72.2.1) Ar_a72.2.2 hin_a72 hat_a72 (g := (mkF m 161 LL62 [(.int 1), (.ref th), (.int 1), (.ref th)])) rfl rfl (hb hby d2_161) _ ?_
      show Steps _ _ _ (T70.setTop (mkF m 162 LL62 [(.double (own_q (B * (2 : Int64)) (A + B))), (.int 1), (.ref th)])) _
      refine XS.aloadN X70.here hx rfl (hb hby d2_162) rfl rfl ?_
      show Steps _ _ _ (T70.setTop (mkF m 163 LL62 [(.ref a), (.double (own_q (B * (2 : Int64)) (A + B))), (.int 1), (.ref th)])) _
      refine st73 _ ?_
      show Steps _ _ _ (T73.setTop (mkF m 166 LL62 [(.ref th), (.double (own_q (B * (2 : Int64)) (A + B))), (.int 1), (.ref th)])) _
      refine XS.iload X73.here hx rfl (hb hby d2_166) rfl ?_
      show Steps _ _ _ (T73.setTop (mkF m 168 LL62 [(.int 0), (.ref th), (.double (own_q (B * (2 : Int64)) (A + B))), (.int 1), (.ref th)])) _
      refine X73.daload hx (j := (0 : Int32)) (v := (.double (own_q (A * (2 : Int64)) (A + B)))) (by rw [e73]; exact Ar_a74.1) (State.isArrayOf_alike hZ.alike Ar_a74.2.1) Ar_a74.2.2 hin_a74 hat_a74 (g := (mkF m 168 LL62 [(.int 0), (.ref th), (.double (own_q (B * (2 : Int64)) (A + B))), (.int 1), (.ref th)])) rfl rfl (hb hby d2_168) _ ?_
      show Steps _ _ _ (T73.setTop (mkF m 169 LL62 [(.double (own_q (A * (2 : Int64)) (A + B))), (.double (own_q (B * (2 : Int64)) (A + B))), (.int 1), (.ref th)])) _
      refine XS.dconst1 X73.here hx rfl (hb hby d2_169) rfl ?_
      show Steps _ _ _ (T73.setTop (mkF m 170 LL62 [(.double FP.dconst1), (.double (own_q (A * (2 : Int64)) (A + B))), (.double (own_q (B * (2 : Int64)) (A + B))), (.int 1), (.ref th)])) _
      refine XS.dsubS X73.here hx rfl (hb hby d2_170) rfl (own_loop (own_qA pr7 pr8) (own_qB pr7 pr8)).1 rfl ?_
      show Steps _ _ _ (T73.setTop (mkF m 171 LL62 [(.double (FP.dsub (own_q (A * (2 : Int64)) (A + B)) FP.dconst1)), (.double (own_q (B * (2 : Int64)) (A + B))), (.int 1), (.ref th)])) _
      refine XS.daddS X73.here hx rfl (hb hby d2_171) rfl (own_loop (own_qA pr7 pr8) (own_qB pr7 pr8)).2 rfl ?_
      show Steps _ _ _ (T73.setTop (mkF m 172 LL62 [(.double (FP.dadd (own_q (B * (2 : Int64)) (A + B)) (FP.dsub (own_q (A * (2 : Int64)) (A + B)) FP.dconst1))), (.int 1), (.ref th)])) _
      refine st76 _ ?_
      show Steps _ _ _ (T76.setTop (mkF m 173 LL62 [])) _
      refine XS.aloadN X76.here hx rfl (hb hby d2_173) rfl rfl ?_
      show Steps _ _ _ (T76.setTop (mkF m 174 LL62 [(.ref a)])) _
      refine st78 _ ?_
      show Steps _ _ _ (T78.setTop (mkF m 177 LL62 [(.ref th)])) _
      refine XS.iload X78.here hx rfl (hb hby d2_177) rfl ?_
      show Steps _ _ _ (T78.setTop (mkF m 179 LL62 [(.int 1), (.ref th)])) _
      refine X78.daload hx (j := (1 : Int32)) (v := (.double (FP.dadd (own_q (B * (2 : Int64)) (A + B)) (FP.dsub (own_q (A * (2 : Int64)) (A + B)) FP.dconst1)))) (by rw [e78]; exact Ar_a79.1) (State.isArrayOf_alike hZ.alike Ar_a79.2.1) Ar_a79.2.2 hin_a79 hat_a79 (g := (mkF m 179 LL62 [(.int 1), (.ref th)])) rfl rfl (hb hby d2_179) _ ?_
      show Steps _ _ _ (T78.setTop (mkF m 180 LL62 [(.double (FP.dadd (own_q (B * (2 : Int64)) (A + B)) (FP.dsub (own_q (A * (2 : Int64)) (A + B)) FP.dconst1)))])) _
      refine XS.dconst1 X78.here hx rfl (hb hby d2_180) rfl ?_
      show Steps _ _ _ (T78.setTop (mkF m 181 LL62 [(.double FP.dconst1), (.double (FP.dadd (own_q (B * (2 : Int64)) (A + B)) (FP.dsub (own_q (A * (2 : Int64)) (A + B)) FP.dconst1)))])) _
      refine XS.dcmpS X78.here hx rfl (hb hby d2_181) rfl rfl ?_
      show Steps _ _ _ (T78.setTop (mkF m 182 LL62 [(.int (cmpValue (FP.dcmp (FP.dadd (own_q (B * (2 : Int64)) (A + B)) (FP.dsub (own_q (A * (2 : Int64)) (A + B)) FP.dconst1)) FP.dconst1) .g))])) _
      exact kk
    by_cases c81 : (cmpValue (FP.dcmp (FP.dadd (own_q (B * (2 : Int64)) (A + B)) (FP.dsub (own_q (A * (2 : Int64)) (A + B)) FP.dconst1)) FP.dconst1) .g) < (0 : Int32)
    · skip
      let LL82 : Array Slot := #[.val (.ref a), .val (.ref wt), .val (.int 0), .val (.int 2), .val (.ref wk), .val (.int 2), .val (.double (FP.l2d (A + B))), .second, .val (.int 0), .val (.int 2), .val (.int 0), .val (.int 1)]
      let LL83 : Array Slot := #[.val (.ref a), .val (.ref wt), .val (.int 0), .val (.int 2), .val (.ref wk), .val (.int 2), .val (.double (FP.l2d (A + B))), .second, .val (.int 1), .val (.int 2), .val (.int 0), .val (.int 1)]
      have f84 := ((V56.other W68 pr20).other W76 pr19)
      obtain ⟨cl_a85, Ar_a85, q_a85, S_a85, N_a85, H_a85, G_a85⟩ := id f84
      have hin_a85 : ¬ ((0 : Int32) < 0 ∨ cl_a85.slots.size ≤ ((0 : Int32)).toNatClampNeg) := inb_of S_a85 ⟨by decide, by decide⟩
      obtain ⟨T86, h86, X86, e86, W86, st86⟩ := stI X78 hx hZ e78 Ar_a85 (j := (0 : Int32)) hin_a85 (g := (mkF m 197 LL83 [(.int 1), (.int 0), (.ref wk)])) rfl rfl (hb hby d2_197)
      have V86 : Arv Z h86 wk kk .int (2 : Int32) [(.int 1), (.int 1)] (.int 0) := Arv.set Ar_a85 q_a85 S_a85 N_a85 H_a85 G_a85 rfl W86 0 rfl (Nat.le_of_ble_eq_true rfl)
      have N86 := Fr.snoc X86 N76 pr9
      have f87 := (Fld.other W86 f77 (Or.inl pr13))
      obtain ⟨T88, X88, e88, st88⟩ := getF X86 hx hZ hown (host := "") (Or.inl (hw _ (List.mem_of_getElem? (i := 12) rfl))) Via.refl e86 f87 (g := (mkF m 212 LL83 [(.ref a)])) rfl rfl (hb hby d2_212)
      obtain ⟨cl_a89, Ar_a89, q_a89, S_a89, N_a89, H_a89, G_a89⟩ := id V86
      have hin_a89 : ¬ ((0 : Int32) < 0 ∨ cl_a89.slots.size ≤ ((0 : Int32)).toNatClampNeg) := inb_of S_a89 ⟨by decide, by decide⟩
      have hat_a89 := Has.at (v := (.int 1)) H_a89 hin_a89 rfl
      have f90 := (V76.other W86 (Ne.symm pr19))
      obtain ⟨cl_a91, Ar_a91, q_a91, S_a91, N_a91, H_a91, G_a91⟩ := id f90
      have hin_a91 : ¬ ((1 : Int32) < 0 ∨ cl_a91.slots.size ≤ ((1 : Int32)).toNatClampNeg) := inb_of S_a91 ⟨by decide, by decide⟩
      obtain ⟨T92, h92, X92, e92, W92, st92⟩ := stD X88 hx hZ e88 Ar_a91 (j := (1 : Int32)) hin_a91 (g := (mkF m 221 LL83 [(.double FP.dconst1), (.int 1), (.ref th)])) rfl rfl (hb hby d2_221)
      have V92 : Arv Z h92 th kt .double (3 : Int32) [(.double (own_q (A * (2 : Int64)) (A + B))), (.double FP.dconst1), (.double y2)] (.double (0 : UInt64)) := Arv.set Ar_a91 q_a91 S_a91 N_a91 H_a91 G_a91 rfl W92 1 rfl (Nat.le_of_ble_eq_true rfl)
      have N92 := Fr.snoc X92 N86 pr10
      let LL93 : Array Slot := #[.val (.ref a), .val (.ref wt), .val (.int 0), .val (.int 2), .val (.ref wk), .val (.int 2), .val (.double (FP.l2d (A + B))), .second, .val (.int 1), .val (.int 2), .val (.int 1), .val (.int 1)]
      have P94 : ∀ t, Steps p.tables e below (T92.setTop (mkF m 228 LL93 [])) t → Steps p.tables e below ST t := by
        intro t kk
        refine P80 _ ?_
        show Steps _ _ _ (T78.setTop (mkF m 182 LL62 [(.int (cmpValue (FP.dcmp (FP.dadd (own_q (B * (2 : Int64)) (A + B)) (FP.dsub (own_q (A * (2 : Int64)) (A + B)) FP.dconst1)) FP.dconst1) .g))])) _
        refine XS.ifNo X78.here hx rfl (hb hby d2_182) rfl (XT.i0_ge_f c81) ?_
        show Steps _ _ _ (T78.setTop (mkF m 185 LL62 [])) _
        refine XS.iinc X78.here hx rfl (hb hby d2_185) rfl (l' := LL82) rfl ?_
        show Steps _ _ _ (T78.setTop (mkF m 188 LL82 [])) _
        refine XS.aload X78.here hx rfl (hb hby d2_188) rfl rfl ?_
        show Steps _ _ _ (T78.setTop (mkF m 190 LL82 [(.ref wk)])) _
        refine XS.iload X78.here hx rfl (hb hby d2_190) rfl ?_
        show Steps _ _ _ (T78.setTop (mkF m 192 LL82 [(.int 0), (.ref wk)])) _
        refine XS.iinc X78.here hx rfl (hb hby d2_192) rfl (l' := LL83) rfl ?_
        show Steps _ _ _ (T78.setTop (mkF m 195 LL83 [(.int 0), (.ref wk)])) _
        refine XS.iload X78.here hx rfl (hb hby d2_195) rfl ?_
        show Steps _ _ _ (T78.setTop (mkF m 197 LL83 [(.int 1), (.int 0), (.ref wk)])) _
        refine st86 _ ?_
        show Steps _ _ _ (T86.setTop (mkF m 198 LL83 [])) _
        refine XS.goto X86.here hx rfl (pc0 := 198) (pc' := 116) rfl (hb hby d2_198) (by decide) (by decide) ?_
        show Steps _ _ _ (T86.setTop (mkF m 116 LL83 [])) _
        refine XS.iload X86.here hx rfl (hb hby d2_116) rfl ?_
        show Steps _ _ _ (T86.setTop (mkF m 118 LL83 [(.int 1)])) _
        refine XS.ifNo X86.here hx rfl (hb hby d2_118) rfl (XT.i0_le_f (by decide)) ?_
        show Steps _ _ _ (T86.setTop (mkF m 121 LL83 [])) _
        refine XS.iload X86.here hx rfl (hb hby d2_121) rfl ?_
        show Steps _ _ _ (T86.setTop (mkF m 123 LL83 [(.int 2)])) _
        refine XS.iload X86.here hx rfl (hb hby d2_123) rfl ?_
        show Steps _ _ _ (T86.setTop (mkF m 125 LL83 [(.int 2), (.int 2)])) _
        refine XS.icmpYes X86.here hx rfl (pc0 := 125) (pc' := 201) rfl (hb hby d2_125) rfl (XT.ii_ge_t (by decide)) (by decide) (by decide) ?_
        show Steps _ _ _ (T86.setTop (mkF m 201 LL83 [])) _
        refine XS.iconst X86.here hx rfl (hb hby d2_201) ?_
        show Steps _ _ _ (T86.setTop (mkF m 202 LL83 [(.int 0)])) _
        refine XS.istore X86.here hx rfl (hb hby d2_202) rfl (l' := LL83) rfl ?_
        show Steps _ _ _ (T86.setTop (mkF m 204 LL83 [])) _
        refine XS.iload X86.here hx rfl (hb hby d2_204) rfl ?_
        show Steps _ _ _ (T86.setTop (mkF m 206 LL83 [(.int 0)])) _
        refine XS.iload X86.here hx rfl (hb hby d2_206) rfl ?_
        show Steps _ _ _ (T86.setTop (mkF m 208 LL83 [(.int 1), (.int 0)])) _
        refine XS.icmpNo X86.here hx rfl (hb hby d2_208) rfl (XT.ii_ge_f (by decide)) ?_
        show Steps _ _ _ (T86.setTop (mkF m 211 LL83 [])) _
        refine XS.aloadN X86.here hx rfl (hb hby d2_211) rfl rfl ?_
        show Steps _ _ _ (T86.setTop (mkF m 212 LL83 [(.ref a)])) _
        refine st88 _ ?_
        show Steps _ _ _ (T88.setTop (mkF m 215 LL83 [(.ref th)])) _
        refine XS.aload X88.here hx rfl (hb hby d2_215) rfl rfl ?_
        show Steps _ _ _ (T88.setTop (mkF m 217 LL83 [(.ref wk), (.ref th)])) _
        refine XS.iload X88.here hx rfl (hb hby d2_217) rfl ?_
        show Steps _ _ _ (T88.setTop (mkF m 219 LL83 [(.int 0), (.ref wk), (.ref th)])) _
        refine X88.iaload hx (j := (0 : Int32)) (v := (.int 1)) (by rw [e88]; exact Ar_a89.1) (State.isArrayOf_alike hZ.alike Ar_a89.2.1) Ar_a89.2.2 hin_a89 hat_a89 (g := (mkF m 219 LL83 [(.int 0), (.ref wk), (.ref th)])) rfl rfl (hb hby d2_219) _ ?_
        show Steps _ _ _ (T88.setTop (mkF m 220 LL83 [(.int 1), (.ref th)])) _
        refine XS.dconst1 X88.here hx rfl (hb hby d2_220) rfl ?_
        show Steps _ _ _ (T88.setTop (mkF m 221 LL83 [(.double FP.dconst1), (.int 1), (.ref th)])) _
        refine st92 _ ?_
        show Steps _ _ _ (T92.setTop (mkF m 222 LL83 [])) _
        refine XS.iinc X92.here hx rfl (hb hby d2_222) rfl (l' := LL93) rfl ?_
        show Steps _ _ _ (T92.setTop (mkF m 225 LL93 [])) _
        refine XS.goto X92.here hx rfl (pc0 := 225) (pc' := 204) rfl (hb hby d2_225) (by decide) (by decide) ?_
        show Steps _ _ _ (T92.setTop (mkF m 204 LL93 [])) _
        refine XS.iload X92.here hx rfl (hb hby d2_204) rfl ?_
        show Steps _ _ _ (T92.setTop (mkF m 206 LL93 [(.int 1)])) _
        refine XS.iload X92.here hx rfl (hb hby d2_206) rfl ?_
        show Steps _ _ _ (T92.setTop (mkF m 208 LL93 [(.int 1), (.int 1)])) _
        refine XS.icmpYes X92.here hx rfl (pc0 := 208) (pc' := 228) rfl (hb hby d2_208) rfl (XT.ii_ge_t (by decide)) (by decide) (by decide) ?_
        show Steps _ _ _ (T92.setTop (mkF m 228 LL93 [])) _
        exact kk
      let LL95 : Array Slot := #[.val (.ref a), .val (.ref wt), .val (.int 0), .val (.int 2), .val (.ref wk), .val (.int 2), .val (.double (FP.l2d (A + B))), .second, .val (.int 1), .val (.int 2), .val (.int 2), .val (.int 1)]
      have P96 : ∀ t, Steps p.tables e below (T92.setTop (mkF m 256 LL95 [])) t → Steps p.tables e below ST t := by
        intro t kk
        refine P94 _ ?_
        show Steps _ _ _ (T92.setTop (mkF m 228 LL93 [])) _
        refine XS.iload X92.here hx rfl (hb hby d2_228) rfl ?_
        show Steps _ _ _ (T92.setTop (mkF m 230 LL93 [(.int 2)])) _
        refine XS.istore X92.here hx rfl (hb hby d2_230) rfl (l' := LL95) rfl ?_
        show Steps _ _ _ (T92.setTop (mkF m 232 LL95 [])) _
        refine XS.iload X92.here hx rfl (hb hby d2_232) rfl ?_
        show Steps _ _ _ (T92.setTop (mkF m 234 LL95 [(.int 2)])) _
        refine XS.iload X92.here hx rfl (hb hby d2_234) rfl ?_
        show Steps _ _ _ (T92.setTop (mkF m 236 LL95 [(.int 2), (.int 2)])) _
        refine XS.icmpYes X92.here hx rfl (pc0 := 236) (pc' := 256) rfl (hb hby d2_236) rfl (XT.ii_ge_t (by decide)) (by decide) (by decide) ?_
        show Steps _ _ _ (T92.setTop (mkF m 256 LL95 [])) _
        exact kk
      have k97 : Keep h0 h92 [th, al, wk] := (Keep.wr (Keep.wr (Keep.wr (Keep.wr (Keep.wr (Keep.wr (Keep.wr (Keep.wr (Keep.wr (Keep.wr (Keep.refl h0 [th, al, wk]) W18 (Or.inl (List.mem_of_getElem? (i := 0) rfl))) W23 (Or.inl (List.mem_of_getElem? (i := 1) rfl))) W34 (Or.inl (List.mem_of_getElem? (i := 2) rfl))) W42 (Or.inl (List.mem_of_getElem? (i := 0) rfl))) W47 (Or.inl (List.mem_of_getElem? (i := 1) rfl))) W56 (Or.inl (List.mem_of_getElem? (i := 2) rfl))) W68 (Or.inl (List.mem_of_getElem? (i := 1) rfl))) W76 (Or.inl (List.mem_of_getElem? (i := 0) rfl))) W86 (Or.inl (List.mem_of_getElem? (i := 2) rfl))) W92 (Or.inl (List.mem_of_getElem? (i := 0) rfl)))
      have f98 := (((V68.other W76 (Ne.symm pr21)).other W86 (Ne.symm pr20)).other W92 (Ne.symm pr21))
      have f99 := (V86.other W92 pr19)
      obtain ⟨fs, hr, hrun, hended, hW, hsame⟩ := X92.leave (v := none) (fun _ => rfl)
      refine ⟨_, _, P96 _ ?_, hrun, hended, _, _, rfl, ?_, ⟨_, rfl⟩, hW, hsame.mono (by decide) (by decide)⟩
      · exact X92.returnOut hx Bd.returns (hb hby d2_256) hr
      · show Q2 Z a wt wk A B wx th al kw kt ka kk y0 y1 y2 z0 z1 z2 u0 u1 h0 n0 _ T92.heap _
        rw [e92]
        exact ⟨(own_q (A * (2 : Int64)) (A + B)), FP.dconst1, (1 : Int32), (1 : Int32), (1 : Int32), (1 : Int32), rfl, N92, k97, V92, f98, f99, (own_altL pr7 pr8 c30)⟩
    · skip
      let LL100 : Array Slot := #[.val (.ref a), .val (.ref wt), .val (.int 0), .val (.int 2), .val (.ref wk), .val (.int 2), .val (.double (FP.l2d (A + B))), .second, .val (.int 0), .val (.int 1), .val (.int 1), .val (.int 1)]
      obtain ⟨T101, X101, e101, st101⟩ := getF X78 hx hZ hown (host := "") (Or.inl (hw _ (List.mem_of_getElem? (i := 12) rfl))) Via.refl e78 f77 (g := (mkF m 240 LL100 [(.ref a)])) rfl rfl (hb hby d2_240)
      have f102 := ((V56.other W68 pr20).other W76 pr19)
      obtain ⟨cl_a103, Ar_a103, q_a103, S_a103, N_a103, H_a103, G_a103⟩ := id f102
      have hin_a103 : ¬ ((1 : Int32) < 0 ∨ cl_a103.slots.size ≤ ((1 : Int32)).toNatClampNeg) := inb_of S_a103 ⟨by decide, by decide⟩
      have hat_a103 := Has.at (v := (.int 1)) H_a103 hin_a103 rfl
      obtain ⟨cl_a104, Ar_a104, q_a104, S_a104, N_a104, H_a104, G_a104⟩ := id V76
      have hin_a104 : ¬ ((1 : Int32) < 0 ∨ cl_a104.slots.size ≤ ((1 : Int32)).toNatClampNeg) := inb_of S_a104 ⟨by decide, by decide⟩
      obtain ⟨T105, h105, X105, e105, W105, st105⟩ := stD X101 hx hZ e101 Ar_a104 (j := (1 : Int32)) hin_a104 (g := (mkF m 249 LL100 [(.double FP.dconst1), (.int 1), (.ref th)])) rfl rfl (hb hby d2_249)
      have V105 : Arv Z h105 th kt .double (3 : Int32) [(.double (own_q (A * (2 : Int64)) (A + B))), (.double FP.dconst1), (.double y2)] (.double (0 : UInt64)) := Arv.set Ar_a104 q_a104 S_a104 N_a104 H_a104 G_a104 rfl W105 1 rfl (Nat.le_of_ble_eq_true rfl)
      have N105 := Fr.snoc X105 N76 pr10
      let LL106 : Array Slot := #[.val (.ref a), .val (.ref wt), .val (.int 0), .val (.int 2), .val (.ref wk), .val (.int 2), .val (.double (FP.l2d (A + B))), .second, .val (.int 0), .val (.int 1), .val (.int 2), .val (.int 1)]
      have P107 : ∀ t, Steps p.tables e below (T105.setTop (mkF m 256 LL106 [])) t → Steps p.tables e below ST t := by
        intro t kk
        refine P80 _ ?_
        show Steps _ _ _ (T78.setTop (mkF m 182 LL62 [(.int (cmpValue (FP.dcmp (FP.dadd (own_q (B * (2 : Int64)) (A + B)) (FP.dsub (own_q (A * (2 : Int64)) (A + B)) FP.dconst1)) FP.dconst1) .g))])) _
        refine XS.ifYes X78.here hx rfl (pc0 := 182) (pc' := 198) rfl (hb hby d2_182) rfl (XT.i0_ge_t c81) (by decide) (by decide) ?_
        show Steps _ _ _ (T78.setTop (mkF m 198 LL62 [])) _
        refine XS.goto X78.here hx rfl (pc0 := 198) (pc' := 116) rfl (hb hby d2_198) (by decide) (by decide) ?_
        show Steps _ _ _ (T78.setTop (mkF m 116 LL62 [])) _
        refine XS.iload X78.here hx rfl (hb hby d2_116) rfl ?_
        show Steps _ _ _ (T78.setTop (mkF m 118 LL62 [(.int 0)])) _
        refine XS.ifYes X78.here hx rfl (pc0 := 118) (pc' := 201) rfl (hb hby d2_118) rfl (XT.i0_le_t (by decide)) (by decide) (by decide) ?_
        show Steps _ _ _ (T78.setTop (mkF m 201 LL62 [])) _
        refine XS.iconst X78.here hx rfl (hb hby d2_201) ?_
        show Steps _ _ _ (T78.setTop (mkF m 202 LL62 [(.int 0)])) _
        refine XS.istore X78.here hx rfl (hb hby d2_202) rfl (l' := LL62) rfl ?_
        show Steps _ _ _ (T78.setTop (mkF m 204 LL62 [])) _
        refine XS.iload X78.here hx rfl (hb hby d2_204) rfl ?_
        show Steps _ _ _ (T78.setTop (mkF m 206 LL62 [(.int 0)])) _
        refine XS.iload X78.here hx rfl (hb hby d2_206) rfl ?_
        show Steps _ _ _ (T78.setTop (mkF m 208 LL62 [(.int 0), (.int 0)])) _
        refine XS.icmpYes X78.here hx rfl (pc0 := 208) (pc' := 228) rfl (hb hby d2_208) rfl (XT.ii_ge_t (by decide)) (by decide) (by decide) ?_
        show Steps _ _ _ (T78.setTop (mkF m 228 LL62 [])) _
        refine XS.iload X78.here hx rfl (hb hby d2_228) rfl ?_
        show Steps _ _ _ (T78.setTop (mkF m 230 LL62 [(.int 1)])) _
        refine XS.istore X78.here hx rfl (hb hby d2_230) rfl (l' := LL100) rfl ?_
        show Steps _ _ _ (T78.setTop (mkF m 232 LL100 [])) _
        refine XS.iload X78.here hx rfl (hb hby d2_232) rfl ?_
        show Steps _ _ _ (T78.setTop (mkF m 234 LL100 [(.int 1)])) _
        refine XS.iload X78.here hx rfl (hb hby d2_234) rfl ?_
        show Steps _ _ _ (T78.setTop (mkF m 236 LL100 [(.int 2), (.int 1)])) _
        refine XS.icmpNo X78.here hx rfl (hb hby d2_236) rfl (XT.ii_ge_f (by decide)) ?_
        show Steps _ _ _ (T78.setTop (mkF m 239 LL100 [])) _
        refine XS.aloadN X78.here hx rfl (hb hby d2_239) rfl rfl ?_
        show Steps _ _ _ (T78.setTop (mkF m 240 LL100 [(.ref a)])) _
        refine st101 _ ?_
        show Steps _ _ _ (T101.setTop (mkF m 243 LL100 [(.ref th)])) _
        refine XS.aload X101.here hx rfl (hb hby d2_243) rfl rfl ?_
        show Steps _ _ _ (T101.setTop (mkF m 245 LL100 [(.ref wk), (.ref th)])) _
        refine XS.iload X101.here hx rfl (hb hby d2_245) rfl ?_
        show Steps _ _ _ (T101.setTop (mkF m 247 LL100 [(.int 1), (.ref wk), (.ref th)])) _
        refine X101.iaload hx (j := (1 : Int32)) (v := (.int 1)) (by rw [e101]; exact Ar_a103.1) (State.isArrayOf_alike hZ.alike Ar_a103.2.1) Ar_a103.2.2 hin_a103 hat_a103 (g := (mkF m 247 LL100 [(.int 1), (.ref wk), (.ref th)])) rfl rfl (hb hby d2_247) _ ?_
        show Steps _ _ _ (T101.setTop (mkF m 248 LL100 [(.int 1), (.ref th)])) _
        refine XS.dconst1 X101.here hx rfl (hb hby d2_248) rfl ?_
        show Steps _ _ _ (T101.setTop (mkF m 249 LL100 [(.double FP.dconst1), (.int 1), (.ref th)])) _
        refine st105 _ ?_
        show Steps _ _ _ (T105.setTop (mkF m 250 LL100 [])) _
        refine XS.iinc X105.here hx rfl (hb hby d2_250) rfl (l' := LL106) rfl ?_
        show Steps _ _ _ (T105.setTop (mkF m 253 LL106 [])) _
        refine XS.goto X105.here hx rfl (pc0 := 253) (pc' := 232) rfl (hb hby d2_253) (by decide) (by decide) ?_
        show Steps _ _ _ (T105.setTop (mkF m 232 LL106 [])) _
        refine XS.iload X105.here hx rfl (hb hby d2_232) rfl ?_
        show Steps _ _ _ (T105.setTop (mkF m 234 LL106 [(.int 2)])) _
        refine XS.iload X105.here hx rfl (hb hby d2_234) rfl ?_
        show Steps _ _ _ (T105.setTop (mkF m 236 LL106 [(.int 2), (.int 2)])) _
        refine XS.icmpYes X105.here hx rfl (pc0 := 236) (pc' := 256) rfl (hb hby d2_236) rfl (XT.ii_ge_t (by decide)) (by decide) (by decide) ?_
        show Steps _ _ _ (T105.setTop (mkF m 256 LL106 [])) _
        exact kk
      have k108 : Keep h0 h105 [th, al, wk] := (Keep.wr (Keep.wr (Keep.wr (Keep.wr (Keep.wr (Keep.wr (Keep.wr (Keep.wr (Keep.wr (Keep.refl h0 [th, al, wk]) W18 (Or.inl (List.mem_of_getElem? (i := 0) rfl))) W23 (Or.inl (List.mem_of_getElem? (i := 1) rfl))) W34 (Or.inl (List.mem_of_getElem? (i := 2) rfl))) W42 (Or.inl (List.mem_of_getElem? (i := 0) rfl))) W47 (Or.inl (List.mem_of_getElem? (i := 1) rfl))) W56 (Or.inl (List.mem_of_getElem? (i := 2) rfl))) W68 (Or.inl (List.mem_of_getElem? (i := 1) rfl))) W76 (Or.inl (List.mem_of_getElem? (i := 0) rfl))) W105 (Or.inl (List.mem_of_getElem? (i := 0) rfl)))
      have f109 := ((V68.other W76 (Ne.symm pr21)).other W105 (Ne.symm pr21))
      have f110 := (f102.other W105 pr19)
      obtain ⟨fs, hr, hrun, hended, hW, hsame⟩ := X105.leave (v := none) (fun _ => rfl)
      refine ⟨_, _, P107 _ ?_, hrun, hended, _, _, rfl, ?_, ⟨_, rfl⟩, hW, hsame.mono (by decide) (by decide)⟩
      · exact X105.returnOut hx Bd.returns (hb hby d2_256) hr
      · show Q2 Z a wt wk A B wx th al kw kt ka kk y0 y1 y2 z0 z1 z2 u0 u1 h0 n0 _ T105.heap _
        rw [e105]
        exact ⟨(own_q (A * (2 : Int64)) (A + B)), FP.dconst1, (1 : Int32), (1 : Int32), (0 : Int32), (1 : Int32), rfl, N105, k108, V105, f109, f110, (own_altL pr7 pr8 c30)⟩
  · skip
    let LL111 : Array Slot := #[.val (.ref a), .val (.ref wt), .val (.int 0), .val (.int 2), .val (.ref wk), .val (.int 2), .val (.double (FP.l2d (A + B))), .second, .val (.int 0), .val (.int 1), .val (.int 0), .unset]
    have f112 := ((pr6.other W18 pr19).other W23 pr20)
    obtain ⟨cl_a113, Ar_a113, q_a113, S_a113, N_a113, H_a113, G_a113⟩ := id f112
    have hin_a113 : ¬ ((1 : Int32) < 0 ∨ cl_a113.slots.size ≤ ((1 : Int32)).toNatClampNeg) := inb_of S_a113 ⟨by decide, by decide⟩
    obtain ⟨T114, h114, X114, e114, W114, st114⟩ := stI X26 hx hZ e26 Ar_a113 (j := (1 : Int32)) hin_a113 (g := (mkF m 109 LL111 [(.int 0), (.int 1), (.ref wk)])) rfl rfl (hb hby d2_109)
    have V114 : Arv Z h114 wk kk .int (2 : Int32) [(.int u0), (.int 0)] (.int 0) := Arv.set Ar_a113 q_a113 S_a113 N_a113 H_a113 G_a113 rfl W114 1 rfl (Nat.le_of_ble_eq_true rfl)
    have N114 := Fr.snoc X114 N23 pr9
    let LL115 : Array Slot := #[.val (.ref a), .val (.ref wt), .val (.int 0), .val (.int 2), .val (.ref wk), .val (.int 2), .val (.double (FP.l2d (A + B))), .second, .val (.int 0), .val (.int 1), .val (.int 1), .unset]
    have f116 := (Fld.other W114 f25 (Or.inl pr13))
    obtain ⟨T117, X117, e117, st117⟩ := getF X114 hx hZ hown (host := "") (Or.inl (hw _ (List.mem_of_getElem? (i := 12) rfl))) Via.refl e114 f116 (g := (mkF m 49 LL115 [(.ref a)])) rfl rfl (hb hby d2_49)
    have f118 := (((pr3.other W18 pr17).other W23 pr18).other W114 pr16)
    obtain ⟨cl_a119, Ar_a119, q_a119, S_a119, N_a119, H_a119, G_a119⟩ := id f118
    have hin_a119 : ¬ ((1 : Int32) < 0 ∨ cl_a119.slots.size ≤ ((1 : Int32)).toNatClampNeg) := inb_of S_a119 ⟨by decide, by decide⟩
    have hat_a119 := Has.at (v := (.double (FP.l2d B))) H_a119 hin_a119 rfl
    have f120 := (f27.other W114 (Ne.symm pr19))
    obtain ⟨cl_a121, Ar_a121, q_a121, S_a121, N_a121, H_a121, G_a121⟩ := id f120
    have hin_a121 : ¬ ((1 : Int32) < 0 ∨ cl_a121.slots.size ≤ ((1 : Int32)).toNatClampNeg) := inb_of S_a121 ⟨by decide, by decide⟩
    obtain ⟨T122, h122, X122, e122, W122, st122⟩ := stD X117 hx hZ e117 Ar_a121 (j := (1 : Int32)) hin_a121 (g := (mkF m 65 LL115 [(.double (own_q (B * (2 : Int64)) (A + B))), (.int 1), (.ref th)])) rfl rfl (hb hby d2_65)
    have V122 : Arv Z h122 th kt .double (3 : Int32) [(.double (own_q (A * (2 : Int64)) (A + B))), (.double (own_q (B * (2 : Int64)) (A + B))), (.double y2)] (.double (0 : UInt64)) := Arv.set Ar_a121 q_a121 S_a121 N_a121 H_a121 G_a121 rfl W122 1 rfl (Nat.le_of_ble_eq_true rfl)
    have N122 := Fr.snoc X122 N114 pr10
    have f123 := (Fld.other W122 (Fld.other W114 (Fld.other W23 f19 (Or.inl pr15)) (Or.inl pr13)) (Or.inl pr14))
    obtain ⟨T124, X124, e124, st124⟩ := getF X122 hx hZ hown (host := "") (Or.inl (hw _ (List.mem_of_getElem? (i := 14) rfl))) Via.refl e122 f123 (g := (mkF m 67 LL115 [(.ref a)])) rfl rfl (hb hby d2_67)
    have f125 := ((V23.other W114 (Ne.symm pr20)).other W122 (Ne.symm pr21))
    obtain ⟨cl_a126, Ar_a126, q_a126, S_a126, N_a126, H_a126, G_a126⟩ := id f125
    have hin_a126 : ¬ ((1 : Int32) < 0 ∨ cl_a126.slots.size ≤ ((1 : Int32)).toNatClampNeg) := inb_of S_a126 ⟨by decide, by decide⟩
    obtain ⟨T127, h127, X127, e127, W127, st127⟩ := stI X124 hx hZ e124 Ar_a126 (j := (1 : Int32)) hin_a126 (g := (mkF m 74 LL115 [(.int 1), (.int 1), (.ref al)])) rfl rfl (hb hby d2_74)
    have V127 : Arv Z h127 al ka .int (3 : Int32) [(.int 0), (.int 1), (.int z2)] (.int 0) := Arv.set Ar_a126 q_a126 S_a126 N_a126 H_a126 G_a126 rfl W127 1 rfl (Nat.le_of_ble_eq_true rfl)
    have N127 := Fr.snoc X127 N122 pr11
    have f128 := (Fld.other W127 (Fld.other W122 f116 (Or.inl pr14)) (Or.inl pr15))
    obtain ⟨T129, X129, e129, st129⟩ := getF X127 hx hZ hown (host := "") (Or.inl (hw _ (List.mem_of_getElem? (i := 12) rfl))) Via.refl e127 f128 (g := (mkF m 76 LL115 [(.ref a)])) rfl rfl (hb hby d2_76)
    have P130 : ∀ t, Steps p.tables e below (T129.setTop (mkF m 79 LL115 [(.ref th)])) t → Steps p.tables e below ST t := by
      intro t kk
      refine P29 _ ?_
      show Steps _ _ _ (T26.setTop (mkF m 84 LL14 [(.int (cmpValue (FP.dcmp (own_q (A * (2 : Int64)) (A + B)) FP.dconst1) .g))])) _
      refine XS.ifYes X26.here hx rfl (pc0 := 84) (pc' := 100) rfl (hb hby d2_84) rfl (XT.i0_ge_t c30) (by decide) (by decide) ?_
      show Steps _ _ _ (T26.setTop (mkF m 100 LL14 [])) _
      refine XS.aload X26.here hx rfl (hb hby d2_100) rfl rfl ?_
      show Steps _ _ _ (T26.setTop (mkF m 102 LL14 [(.ref wk)])) _
      refine XS.iinc X26.here hx rfl (hb hby d2_102) rfl (l' := LL111) rfl ?_
      show Steps _ _ _ (T26.setTop (mkF m 105 LL111 [(.ref wk)])) _
      refine XS.iload X26.here hx rfl (hb hby d2_105) rfl ?_
      show Steps _ _ _ (T26.setTop (mkF m 107 LL111 [(.int 1), (.ref wk)])) _
      refine XS.iload X26.here hx rfl (hb hby d2_107) rfl ?_
      show Steps _ _ _ (T26.setTop (mkF m 109 LL111 [(.int 0), (.int 1), (.ref wk)])) _
      refine st114 _ ?_
      show Steps _ _ _ (T114.setTop (mkF m 110 LL111 [])) _
      refine XS.iinc X114.here hx rfl (hb hby d2_110) rfl (l' := LL115) rfl ?_
      show Steps _ _ _ (T114.setTop (mkF m 113 LL115 [])) _
      refine XS.goto X114.here hx rfl (pc0 := 113) (pc' := 42) rfl (hb hby d2_113) (by decide) (by decide) ?_
      show Steps _ _ _ (T114.setTop (mkF m 42 LL115 [])) _
      refine XS.iload X114.here hx rfl (hb hby d2_42) rfl ?_
      show Steps _ _ _ (T114.setTop (mkF m 44 LL115 [(.int 1)])) _
      refine XS.iloadN X114.here hx rfl (hb hby d2_44) rfl ?_
      show Steps _ _ _ (T114.setTop (mkF m 45 LL115 [(.int 2), (.int 1)])) _
      refine XS.icmpNo X114.here hx rfl (hb hby d2_45) rfl (XT.ii_ge_f (by decide)) ?_
      show Steps _ _ _ (T114.setTop (mkF m 48 LL115 [])) _
      refine XS.aloadN X114.here hx rfl (hb hby d2_48) rfl rfl ?_
      show Steps _ _ _ (T114.setTop (mkF m 49 LL115 [(.ref a)])) _
      refine st117 _ ?_
      show Steps _ _ _ (T117.setTop (mkF m 52 LL115 [(.ref th)])) _
      refine XS.iload X117.here hx rfl (hb hby d2_52) rfl ?_
      show Steps _ _ _ (T117.setTop (mkF m 54 LL115 [(.int 1), (.ref th)])) _
      refine XS.aloadN X117.here hx rfl (hb hby d2_54) rfl rfl ?_
      show Steps _ _ _ (T117.setTop (mkF m 55 LL115 [(.ref wt), (.int 1), (.ref th)])) _
      refine XS.iload X117.here hx rfl (hb hby d2_55) rfl ?_
      show Steps _ _ _ (T117.setTop (mkF m 57 LL115 [(.int 1), (.ref wt), (.int 1), (.ref th)])) _
      refine X117.daload hx (j := (1 : Int32)) (v := (.double (FP.l2d B))) (by rw [e117]; exact Ar_a119.1) (State.isArrayOf_alike hZ.alike Ar_a119.2.1) Ar_a119.2.2 hin_a119 hat_a119 (g := (mkF m 57 LL115 [(.int 1), (.ref wt), (.int 1), (.ref th)])) rfl rfl (hb hby d2_57) _ ?_
      show Steps _ _ _ (T117.setTop (mkF m 58 LL115 [(.double (FP.l2d B)), (.int 1), (.ref th)])) _
      refine XS.iload X117.here hx rfl (hb hby d2_58) rfl ?_
      show Steps _ _ _ (T117.setTop (mkF m 60 LL115 [(.int 2), (.double (FP.l2d B)), (.int 1), (.ref th)])) _
      refine XS.i2dS X117.here hx rfl (hb hby d2_60) rfl rfl ?_
      show Steps _ _ _ (T117.setTop (mkF m 61 LL115 [(.double (FP.i2d (2 : Int32))), (.double (FP.l2d B)), (.int 1), (.ref th)])) _
      refine XS.dmulS X117.here hx rfl (hb hby d2_61) rfl (nn_w (own_m2 pr8)) (own_m2 pr8) ?_
      show Steps _ _ _ (T117.setTop (mkF m 62 LL115 [(.double (FP.l2d (B * (2 : Int64)))), (.int 1), (.ref th)])) _
      refine XS.dload X117.here hx rfl (hb hby d2_62) rfl ?_
      show Steps _ _ _ (T117.setTop (mkF m 64 LL115 [(.double (FP.l2d (A + B))), (.double (FP.l2d (B * (2 : Int64)))), (.int 1), (.ref th)])) _
      refine XS.ddivS X117.here hx rfl (hb hby d2_64) rfl (own_qB pr7 pr8).noNaN rfl ?_
      show Steps _ _ _ (T117.setTop (mkF m 65 LL115 [(.double (own_q (B * (2 : Int64)) (A + B))), (.int 1), (.ref th)])) _
      refine st122 _ ?_
      show Steps _ _ _ (T122.setTop (mkF m 66 LL115 [])) _
      refine XS.aloadN X122.here hx rfl (hb hby d2_66) rfl rfl ?_
      show Steps _ _ _ (T122.setTop (mkF m 67 LL115 [(.ref a)])) _
      refine st124 _ ?_
      show Steps _ _ _ (T124.setTop (mkF m 70 LL115 [(.ref al)])) _
      refine XS.iload X124.here hx rfl (hb hby d2_70) rfl ?_
      show Steps _ _ _ (T124.setTop (mkF m 72 LL115 [(.int 1), (.ref al)])) _
      refine XS.iload X124.here hx rfl (hb hby d2_72) rfl ?_
      show Steps _ _ _ (T124.setTop (mkF m 74 LL115 [(.int 1), (.int 1), (.ref al)])) _
      refine st127 _ ?_
      show Steps _ _ _ (T127.setTop (mkF m 75 LL115 [])) _
      refine XS.aloadN X127.here hx rfl (hb hby d2_75) rfl rfl ?_
      show Steps _ _ _ (T127.setTop (mkF m 76 LL115 [(.ref a)])) _
      refine st129 _ ?_
      show Steps _ _ _ (T129.setTop (mkF m 79 LL115 [(.ref th)])) _
      exact kk
    have f131 := (V122.other W127 pr21)
    obtain ⟨cl_a132, Ar_a132, q_a132, S_a132, N_a132, H_a132, G_a132⟩ := id f131
    have hin_a132 : ¬ ((1 : Int32) < 0 ∨ cl_a132.slots.size ≤ ((1 : Int32)).toNatClampNeg) := inb_of S_a132 ⟨by decide, by decide⟩
    have hat_a132 := Has.at (v := (.double (own_q (B * (2 : Int64)) (A + B)))) H_a132 hin_a132 rfl
    have P133 : ∀ t, Steps p.tables e below (T129.setTop (mkF m 84 LL115 [(.int (cmpValue (FP.dcmp (own_q (B * (2 : Int64)) (A + B)) FP.dconst1) .g))])) t → Steps p.tables e below ST t := by
      intro t kk
      refine P130 _ ?_
      show Steps _ _ _ (T129.setTop (mkF m 79 LL115 [(.ref th)])) _
      refine XS.iload X129.here hx rfl (hb hby d2_79) rfl ?_
      show Steps _ _ _ (T129.setTop (mkF m 81 LL115 [(.int 1), (.ref th)])) _
      refine X129.daload hx (j := (1 : Int32)) (v := (.double (own_q (B * (2 : Int64)) (A + B)))) (by rw [e129]; exact Ar_a132.1) (State.isArrayOf_alike hZ.alike Ar_a132.2.1) Ar_a132.2.2 hin_a132 hat_a132 (g := (mkF m 81 LL115 [(.int 1), (.ref th)])) rfl rfl (hb hby d2_81) _ ?_
      show Steps _ _ _ (T129.setTop (mkF m 82 LL115 [(.double (own_q (B * (2 : Int64)) (A + B)))])) _
      refine XS.dconst1 X129.here hx rfl (hb hby d2_82) rfl ?_
      show Steps _ _ _ (T129.setTop (mkF m 83 LL115 [(.double FP.dconst1), (.double (own_q (B * (2 : Int64)) (A + B)))])) _
      refine XS.dcmpS X129.here hx rfl (hb hby d2_83) rfl rfl ?_
      show Steps _ _ _ (T129.setTop (mkF m 84 LL115 [(.int (cmpValue (FP.dcmp (own_q (B * (2 : Int64)) (A + B)) FP.dconst1) .g))])) _
      exact kk
    by_cases c134 : (cmpValue (FP.dcmp (own_q (B * (2 : Int64)) (A + B)) FP.dconst1) .g) < (0 : Int32)
    · skip
      let LL135 : Array Slot := #[.val (.ref a), .val (.ref wt), .val (.int 0), .val (.int 2), .val (.ref wk), .val (.int 2), .val (.double (FP.l2d (A + B))), .second, .val (.int 1), .val (.int 1), .val (.int 1), .unset]
      have f136 := ((V114.other W122 pr19).other W127 pr20)
      obtain ⟨cl_a137, Ar_a137, q_a137, S_a137, N_a137, H_a137, G_a137⟩ := id f136
      have hin_a137 : ¬ ((0 : Int32) < 0 ∨ cl_a137.slots.size ≤ ((0 : Int32)).toNatClampNeg) := inb_of S_a137 ⟨by decide, by decide⟩
      obtain ⟨T138, h138, X138, e138, W138, st138⟩ := stI X129 hx hZ e129 Ar_a137 (j := (0 : Int32)) hin_a137 (g := (mkF m 96 LL135 [(.int 1), (.int 0), (.ref wk)])) rfl rfl (hb hby d2_96)
      have V138 : Arv Z h138 wk kk .int (2 : Int32) [(.int 1), (.int 0)] (.int 0) := Arv.set Ar_a137 q_a137 S_a137 N_a137 H_a137 G_a137 rfl W138 0 rfl (Nat.le_of_ble_eq_true rfl)
      have N138 := Fr.snoc X138 N127 pr9
      let LL139 : Array Slot := #[.val (.ref a), .val (.ref wt), .val (.int 0), .val (.int 2), .val (.ref wk), .val (.int 2), .val (.double (FP.l2d (A + B))), .second, .val (.int 1), .val (.int 1), .val (.int 2), .unset]
      let LL140 : Array Slot := #[.val (.ref a), .val (.ref wt), .val (.int 0), .val (.int 2), .val (.ref wk), .val (.int 2), .val (.double (FP.l2d (A + B))), .second, .val (.int 0), .val (.int 1), .val (.int 2), .unset]
      obtain ⟨cl_a141, Ar_a141, q_a141, S_a141, N_a141, H_a141, G_a141⟩ := id V138
      have hin_a141 : ¬ ((0 : Int32) < 0 ∨ cl_a141.slots.size ≤ ((0 : Int32)).toNatClampNeg) := inb_of S_a141 ⟨by decide, by decide⟩
      have hat_a141 := Has.at (v := (.int 1)) H_a141 hin_a141 rfl
      obtain ⟨cl_a142, Ar_a142, q_a142, S_a142, N_a142, H_a142, G_a142⟩ := id V138
      have hin_a142 : ¬ ((1 : Int32) < 0 ∨ cl_a142.slots.size ≤ ((1 : Int32)).toNatClampNeg) := inb_of S_a142 ⟨by decide, by decide⟩
      have hat_a142 := Has.at (v := (.int 0)) H_a142 hin_a142 rfl
      let LL143 : Array Slot := #[.val (.ref a), .val (.ref wt), .val (.int 0), .val (.int 2), .val (.ref wk), .val (.int 2), .val (.double (FP.l2d (A + B))), .second, .val (.int 0), .val (.int 1), .val (.int 1), .val (.int 0)]
      have f144 := (Fld.other W138 (Fld.other W127 f123 (Or.inl pr15)) (Or.inl pr13))
      obtain ⟨T145, X145, e145, st145⟩ := getF X138 hx hZ hown (host := "") (Or.inl (hw _ (List.mem_of_getElem? (i := 14) rfl))) Via.refl e138 f144 (g := (mkF m 146 LL143 [(.ref a)])) rfl rfl (hb hby d2_146)
      have P146 : ∀ t, Steps p.tables e below (T145.setTop (mkF m 153 LL143 [(.int 0), (.int 1), (.ref al)])) t → Steps p.tables e below ST t := by
        intro t kk
        refine P133 _ ?_
        show Steps _ _ _ (T129.setTop (mkF m 84 LL115 [(.int (cmpValue (FP.dcmp (own_q (B * (2 : Int64)) (A + B)) FP.dconst1) .g))])) _
        refine XS.ifNo X129.here hx rfl (hb hby d2_84) rfl (XT.i0_ge_f c134) ?_
        show Steps _ _ _ (T129.setTop (mkF m 87 LL115 [])) _
        refine XS.aload X129.here hx rfl (hb hby d2_87) rfl rfl ?_
        show Steps _ _ _ (T129.setTop (mkF m 89 LL115 [(.ref wk)])) _
        refine XS.iload X129.here hx rfl (hb hby d2_89) rfl ?_
        show Steps _ _ _ (T129.setTop (mkF m 91 LL115 [(.int 0), (.ref wk)])) _
        refine XS.iinc X129.here hx rfl (hb hby d2_91) rfl (l' := LL135) rfl ?_
        show Steps _ _ _ (T129.setTop (mkF m 94 LL135 [(.int 0), (.ref wk)])) _
        refine XS.iload X129.here hx rfl (hb hby d2_94) rfl ?_
        show Steps _ _ _ (T129.setTop (mkF m 96 LL135 [(.int 1), (.int 0), (.ref wk)])) _
        refine st138 _ ?_
        show Steps _ _ _ (T138.setTop (mkF m 97 LL135 [])) _
        refine XS.goto X138.here hx rfl (pc0 := 97) (pc' := 110) rfl (hb hby d2_97) (by decide) (by decide) ?_
        show Steps _ _ _ (T138.setTop (mkF m 110 LL135 [])) _
        refine XS.iinc X138.here hx rfl (hb hby d2_110) rfl (l' := LL139) rfl ?_
        show Steps _ _ _ (T138.setTop (mkF m 113 LL139 [])) _
        refine XS.goto X138.here hx rfl (pc0 := 113) (pc' := 42) rfl (hb hby d2_113) (by decide) (by decide) ?_
        show Steps _ _ _ (T138.setTop (mkF m 42 LL139 [])) _
        refine XS.iload X138.here hx rfl (hb hby d2_42) rfl ?_
        show Steps _ _ _ (T138.setTop (mkF m 44 LL139 [(.int 2)])) _
        refine XS.iloadN X138.here hx rfl (hb hby d2_44) rfl ?_
        show Steps _ _ _ (T138.setTop (mkF m 45 LL139 [(.int 2), (.int 2)])) _
        refine XS.icmpYes X138.here hx rfl (pc0 := 45) (pc' := 116) rfl (hb hby d2_45) rfl (XT.ii_ge_t (by decide)) (by decide) (by decide) ?_
        show Steps _ _ _ (T138.setTop (mkF m 116 LL139 [])) _
        refine XS.iload X138.here hx rfl (hb hby d2_116) rfl ?_
        show Steps _ _ _ (T138.setTop (mkF m 118 LL139 [(.int 1)])) _
        refine XS.ifNo X138.here hx rfl (hb hby d2_118) rfl (XT.i0_le_f (by decide)) ?_
        show Steps _ _ _ (T138.setTop (mkF m 121 LL139 [])) _
        refine XS.iload X138.here hx rfl (hb hby d2_121) rfl ?_
        show Steps _ _ _ (T138.setTop (mkF m 123 LL139 [(.int 1)])) _
        refine XS.iload X138.here hx rfl (hb hby d2_123) rfl ?_
        show Steps _ _ _ (T138.setTop (mkF m 125 LL139 [(.int 2), (.int 1)])) _
        refine XS.icmpNo X138.here hx rfl (hb hby d2_125) rfl (XT.ii_ge_f (by decide)) ?_
        show Steps _ _ _ (T138.setTop (mkF m 128 LL139 [])) _
        refine XS.aload X138.here hx rfl (hb hby d2_128) rfl rfl ?_
        show Steps _ _ _ (T138.setTop (mkF m 130 LL139 [(.ref wk)])) _
        refine XS.iinc X138.here hx rfl (hb hby d2_130) rfl (l' := LL140) rfl ?_
        show Steps _ _ _ (T138.setTop (mkF m 133 LL140 [(.ref wk)])) _
        refine XS.iload X138.here hx rfl (hb hby d2_133) rfl ?_
        show Steps _ _ _ (T138.setTop (mkF m 135 LL140 [(.int 0), (.ref wk)])) _
        refine X138.iaload hx (j := (0 : Int32)) (v := (.int 1)) (by rw [e138]; exact Ar_a141.1) (State.isArrayOf_alike hZ.alike Ar_a141.2.1) Ar_a141.2.2 hin_a141 hat_a141 (g := (mkF m 135 LL140 [(.int 0), (.ref wk)])) rfl rfl (hb hby d2_135) _ ?_
        show Steps _ _ _ (T138.setTop (mkF m 136 LL140 [(.int 1)])) _
        refine XS.istore X138.here hx rfl (hb hby d2_136) rfl (l' := LL115) rfl ?_
        show Steps _ _ _ (T138.setTop (mkF m 138 LL115 [])) _
        refine XS.aload X138.here hx rfl (hb hby d2_138) rfl rfl ?_
        show Steps _ _ _ (T138.setTop (mkF m 140 LL115 [(.ref wk)])) _
        refine XS.iload X138.here hx rfl (hb hby d2_140) rfl ?_
        show Steps _ _ _ (T138.setTop (mkF m 142 LL115 [(.int 1), (.ref wk)])) _
        refine X138.iaload hx (j := (1 : Int32)) (v := (.int 0)) (by rw [e138]; exact Ar_a142.1) (State.isArrayOf_alike hZ.alike Ar_a142.2.1) Ar_a142.2.2 hin_a142 hat_a142 (g := (mkF m 142 LL115 [(.int 1), (.ref wk)])) rfl rfl (hb hby d2_142) _ ?_
        show Steps _ _ _ (T138.setTop (mkF m 143 LL115 [(.int 0)])) _
        refine XS.istore X138.here hx rfl (hb hby d2_143) rfl (l' := LL143) rfl ?_
        show Steps _ _ _ (T138.setTop (mkF m 145 LL143 [])) _
        refine XS.aloadN X138.here hx rfl (hb hby d2_145) rfl rfl ?_
        show Steps _ _ _ (T138.setTop (mkF m 146 LL143 [(.ref a)])) _
        refine st145 _ ?_
        show Steps _ _ _ (T145.setTop (mkF m 149 LL143 [(.ref al)])) _
        refine XS.iload X145.here hx rfl (hb hby d2_149) rfl ?_
        show Steps _ _ _ (T145.setTop (mkF m 151 LL143 [(.int 1), (.ref al)])) _
        refine XS.iload X145.here hx rfl (hb hby d2_151) rfl ?_
        show Steps _ _ _ (T145.setTop (mkF m 153 LL143 [(.int 0), (.int 1), (.ref al)])) _
        exact kk
      have f147 := (V127.other W138 (Ne.symm pr20))
      obtain ⟨cl_a148, Ar_a148, q_a148, S_a148, N_a148, H_a148, G_a148⟩ := id f147
      have hin_a148 : ¬ ((1 : Int32) < 0 ∨ cl_a148.slots.size ≤ ((1 : Int32)).toNatClampNeg) := inb_of S_a148 ⟨by decide, by decide⟩
      obtain ⟨T149, h149, X149, e149, W149, st149⟩ := stI X145 hx hZ e145 Ar_a148 (j := (1 : Int32)) hin_a148 (g := (mkF m 153 LL143 [(.int 0), (.int 1), (.ref al)])) rfl rfl (hb hby d2_153)
      have V149 : Arv Z h149 al ka .int (3 : Int32) [(.int 0), (.int 0), (.int z2)] (.int 0) := Arv.set Ar_a148 q_a148 S_a148 N_a148 H_a148 G_a148 rfl W149 1 rfl (Nat.le_of_ble_eq_true rfl)
      have N149 := Fr.snoc X149 N138 pr11
      have f150 := (Fld.other W149 (Fld.other W138 f128 (Or.inl pr13)) (Or.inl pr15))
      obtain ⟨T151, X151, e151, st151⟩ := getF X149 hx hZ hown (host := "") (Or.inl (hw _ (List.mem_of_getElem? (i := 12) rfl))) Via.refl e149 f150 (g := (mkF m 155 LL143 [(.ref a)])) rfl rfl (hb hby d2_155)
      have f152 := ((f131.other W138 (Ne.symm pr19)).other W149 pr21)
      obtain ⟨cl_a153, Ar_a153, q_a153, S_a153, N_a153, H_a153, G_a153⟩ := id f152
      have hin_a153 : ¬ ((0 : Int32) < 0 ∨ cl_a153.slots.size ≤ ((0 : Int32)).toNatClampNeg) := inb_of S_a153 ⟨by decide, by decide⟩
      have hat_a153 := Has.at (v := (.double (own_q (A * (2 : Int64)) (A + B)))) H_a153 hin_a153 rfl
      obtain ⟨T154, X154, e154, st154⟩ := getF X151 hx hZ hown (host := "") (Or.inl (hw _ (List.mem_of_getElem? (i := 12) rfl))) Via.refl e151 f150 (g := (mkF m 163 LL143 [(.ref a), (.double (own_q (A * (2 : Int64)) (A + B))), (.int 0), (.ref th)])) rfl rfl (hb hby d2_163)
      obtain ⟨cl_a155, Ar_a155, q_a155, S_a155, N_a155, H_a155, G_a155⟩ := id f152
      have hin_a155 : ¬ ((1 : Int32) < 0 ∨ cl_a155.slots.size ≤ ((1 : Int32)).toNatClampNeg) := inb_of S_a155 ⟨by decide, by decide⟩
      have hat_a155 := Has.at (v := (.double (own_q (B * (2 : Int64)) (A + B)))) H_a155 hin_a155 rfl
      obtain ⟨cl_a156, Ar_a156, q_a156, S_a156, N_a156, H_a156, G_a156⟩ := id f152
      have hin_a156 : ¬ ((0 : Int32) < 0 ∨ cl_a156.slots.size ≤ ((0 : Int32)).toNatClampNeg) := inb_of S_a156 ⟨by decide, by decide⟩
      obtain ⟨T157, h157, X157, e157, W157, st157⟩ := stD X154 hx hZ e154 Ar_a156 (j := (0 : Int32)) hin_a156 (g := (mkF m 172 LL143 [(.double (FP.dadd (own_q (A * (2 : Int64)) (A + B)) (FP.dsub (own_q (B * (2 : Int64)) (A + B)) FP.dconst1))), (.int 0), (.ref th)])) rfl rfl (hb hby d2_172)
      have V157 : Arv Z h157 th kt .double (3 : Int32) [(.double (FP.dadd (own_q (A * (2 : Int64)) (A + B)) (FP.dsub (own_q (B * (2 : Int64)) (A + B)) FP.dconst1))), (.double (own_q (B * (2 : Int64)) (A + B))), (.double y2)] (.double (0 : UInt64)) := Arv.set Ar_a156 q_a156 S_a156 N_a156 H_a156 G_a156 rfl W157 0 rfl (Nat.le_of_ble_eq_true rfl)
      have N157 := Fr.snoc X157 N149 pr10
      have f158 := (Fld.other W157 f150 (Or.inl pr14))
      obtain ⟨T159, X159, e159, st159⟩ := getF X157 hx hZ hown (host := "") (Or.inl (hw _ (List.mem_of_getElem? (i := 12) rfl))) Via.refl e157 f158 (g := (mkF m 174 LL143 [(.ref a)])) rfl rfl (hb hby d2_174)
      obtain ⟨cl_a160, Ar_a160, q_a160, S_a160, N_a160, H_a160, G_a160⟩ := id V157
      have hin_a160 : ¬ ((0 : Int32) < 0 ∨ cl_a160.slots.size ≤ ((0 : Int32)).toNatClampNeg) := inb_of S_a160 ⟨by decide, by decide⟩
      have hat_a160 := Has.at (v := (.double (FP.dadd (own_q (A * (2 : Int64)) (A + B)) (FP.dsub (own_q (B * (2 : Int64)) (A + B)) FP.dconst1)))) H_a160 hin_a160 rfl
      have P161 : ∀ t, Steps p.tables e below (T159.setTop (mkF m 182 LL143 [(.int (cmpValue (FP.dcmp (FP.dadd (own_q (A * (2 : Int64)) (A + B)) (FP.dsub (own_q (B * (2 : Int64)) (A + B)) FP.dconst1)) FP.dconst1) .g))])) t → Steps p.tables e below ST t := by
        intro t kk
        refine P146 _ ?_
        show Steps _ _ _ (T145.setTop (mkF m 153 LL143 [(.int 0), (.int 1), (.ref al)])) _
        refine st149 _ ?_
        show Steps _ _ _ (T149.setTop (mkF m 154 LL143 [])) _
        refine XS.aloadN X149.here hx rfl (hb hby d2_154) rfl rfl ?_
        show Steps _ _ _ (T149.setTop (mkF m 155 LL143 [(.ref a)])) _
        refine st151 _ ?_
        show Steps _ _ _ (T151.setTop (mkF m 158 LL143 [(.ref th)])) _
        refine XS.iload X151.here hx rfl (hb hby d2_158) rfl ?_
        show Steps _ _ _ (T151.setTop (mkF m 160 LL143 [(.int 0), (.ref th)])) _
        refine XT.dup2 X151.here hx rfl (hb hby d2_160) rfl rfl rfl ?_
        show Steps _ _ _ (T151.setTop (mkF m 161 LL143 [(.int 0), (.ref th), (.int 0), (.ref th)])) _
        refine X151.daload hx (j := (0 : Int32)) (v := (.double (own_q (A * (2 : Int64)) (A + B)))) (by rw [e151]; exact Ar_a153.1) (State.isArrayOf_alike hZ.alike Ar_a153.2.1) Ar_a153.2.2 hin_a153 hat_a153 (g := (mkF m 161 LL143 [(.int 0), (.ref th), (.int 0), (.ref th)])) rfl rfl (hb hby d2_161) _ ?_
        show Steps _ _ _ (T151.setTop (mkF m 162 LL143 [(.double (own_q (A * (2 : Int64)) (A + B))), (.int 0), (.ref th)])) _
        refine XS.aloadN X151.here hx rfl (hb hby d2_162) rfl rfl ?_
        show Steps _ _ _ (T151.setTop (mkF m 163 LL143 [(.ref a), (.double (own_q (A * (2 : Int64)) (A + B))), (.int 0), (.ref th)])) _
        refine st154 _ ?_
        show Steps _ _ _ (T154.setTop (mkF m 166 LL143 [(.ref th), (.double (own_q (A * (2 : Int64)) (A + B))), (.int 0), (.ref th)])) _
        refine XS.iload X154.here hx rfl (hb hby d2_166) rfl ?_
        show Steps _ _ _ (T154.setTop (mkF m 168 LL143 [(.int 1), (.ref th), (.double (own_q (A * (2 : Int64)) (A + B))), (.int 0), (.ref th)])) _
        refine X154.daload hx (j := (1 : Int32)) (v := (.double (own_q (B * (2 : Int64)) (A + B)))) (by rw [e154]; exact Ar_a155.1) (State.isArrayOf_alike hZ.alike Ar_a155.2.1) Ar_a155.2.2 hin_a155 hat_a155 (g := (mkF m 168 LL143 [(.int 1), (.ref th), (.double (own_q (A * (2 : Int64)) (A + B))), (.int 0), (.ref th)])) rfl rfl (hb hby d2_168) _ ?_
        show Steps _ _ _ (T154.setTop (mkF m 169 LL143 [(.double (own_q (B * (2 : Int64)) (A + B))), (.double (own_q (A * (2 : Int64)) (A + B))), (.int 0), (.ref th)])) _
        refine XS.dconst1 X154.here hx rfl (hb hby d2_169) rfl ?_
        show Steps _ _ _ (T154.setTop (mkF m 170 LL143 [(.double FP.dconst1), (.double (own_q (B * (2 : Int64)) (A + B))), (.double (own_q (A * (2 : Int64)) (A + B))), (.int 0), (.ref th)])) _
        refine XS.dsubS X154.here hx rfl (hb hby d2_170) rfl (own_loop (own_qB pr7 pr8) (own_qA pr7 pr8)).1 rfl ?_
        show Steps _ _ _ (T154.setTop (mkF m 171 LL143 [(.double (FP.dsub (own_q (B * (2 : Int64)) (A + B)) FP.dconst1)), (.double (own_q (A * (2 : Int64)) (A + B))), (.int 0), (.ref th)])) _
        refine XS.daddS X154.here hx rfl (hb hby d2_171) rfl (own_loop (own_qB pr7 pr8) (own_qA pr7 pr8)).2 rfl ?_
        show Steps _ _ _ (T154.setTop (mkF m 172 LL143 [(.double (FP.dadd (own_q (A * (2 : Int64)) (A + B)) (FP.dsub (own_q (B * (2 : Int64)) (A + B)) FP.dconst1))), (.int 0), (.ref th)])) _
        refine st157 _ ?_
        show Steps _ _ _ (T157.setTop (mkF m 173 LL143 [])) _
        refine XS.aloadN X157.here hx rfl (hb hby d2_173) rfl rfl ?_
        show Steps _ _ _ (T157.setTop (mkF m 174 LL143 [(.ref a)])) _
        refine st159 _ ?_
        show Steps _ _ _ (T159.setTop (mkF m 177 LL143 [(.ref th)])) _
        refine XS.iload X159.here hx rfl (hb hby d2_177) rfl ?_
        show Steps _ _ _ (T159.setTop (mkF m 179 LL143 [(.int 0), (.ref th)])) _
        refine X159.daload hx (j := (0 : Int32)) (v := (.double (FP.dadd (own_q (A * (2 : Int64)) (A + B)) (FP.dsub (own_q (B * (2 : Int64)) (A + B)) FP.dconst1)))) (by rw [e159]; exact Ar_a160.1) (State.isArrayOf_alike hZ.alike Ar_a160.2.1) Ar_a160.2.2 hin_a160 hat_a160 (g := (mkF m 179 LL143 [(.int 0), (.ref th)])) rfl rfl (hb hby d2_179) _ ?_
        show Steps _ _ _ (T159.setTop (mkF m 180 LL143 [(.double (FP.dadd (own_q (A * (2 : Int64)) (A + B)) (FP.dsub (own_q (B * (2 : Int64)) (A + B)) FP.dconst1)))])) _
        refine XS.dconst1 X159.here hx rfl (hb hby d2_180) rfl ?_
        show Steps _ _ _ (T159.setTop (mkF m 181 LL143 [(.double FP.dconst1), (.double (FP.dadd (own_q (A * (2 : Int64)) (A + B)) (FP.dsub (own_q (B * (2 : Int64)) (A + B)) FP.dconst1)))])) _
        refine XS.dcmpS X159.here hx rfl (hb hby d2_181) rfl rfl ?_
        show Steps _ _ _ (T159.setTop (mkF m 182 LL143 [(.int (cmpValue (FP.dcmp (FP.dadd (own_q (A * (2 : Int64)) (A + B)) (FP.dsub (own_q (B * (2 : Int64)) (A + B)) FP.dconst1)) FP.dconst1) .g))])) _
        exact kk
      by_cases c162 : (cmpValue (FP.dcmp (FP.dadd (own_q (A * (2 : Int64)) (A + B)) (FP.dsub (own_q (B * (2 : Int64)) (A + B)) FP.dconst1)) FP.dconst1) .g) < (0 : Int32)
      · skip
        let LL163 : Array Slot := #[.val (.ref a), .val (.ref wt), .val (.int 0), .val (.int 2), .val (.ref wk), .val (.int 2), .val (.double (FP.l2d (A + B))), .second, .val (.int 0), .val (.int 2), .val (.int 1), .val (.int 0)]
        let LL164 : Array Slot := #[.val (.ref a), .val (.ref wt), .val (.int 0), .val (.int 2), .val (.ref wk), .val (.int 2), .val (.double (FP.l2d (A + B))), .second, .val (.int 1), .val (.int 2), .val (.int 1), .val (.int 0)]
        have f165 := ((V138.other W149 pr20).other W157 pr19)
        obtain ⟨cl_a166, Ar_a166, q_a166, S_a166, N_a166, H_a166, G_a166⟩ := id f165
        have hin_a166 : ¬ ((0 : Int32) < 0 ∨ cl_a166.slots.size ≤ ((0 : Int32)).toNatClampNeg) := inb_of S_a166 ⟨by decide, by decide⟩
        obtain ⟨T167, h167, X167, e167, W167, st167⟩ := stI X159 hx hZ e159 Ar_a166 (j := (0 : Int32)) hin_a166 (g := (mkF m 197 LL164 [(.int 0), (.int 0), (.ref wk)])) rfl rfl (hb hby d2_197)
        have V167 : Arv Z h167 wk kk .int (2 : Int32) [(.int 0), (.int 0)] (.int 0) := Arv.set Ar_a166 q_a166 S_a166 N_a166 H_a166 G_a166 rfl W167 0 rfl (Nat.le_of_ble_eq_true rfl)
        have N167 := Fr.snoc X167 N157 pr9
        let LL168 : Array Slot := #[.val (.ref a), .val (.ref wt), .val (.int 0), .val (.int 2), .val (.ref wk), .val (.int 2), .val (.double (FP.l2d (A + B))), .second, .val (.int 1), .val (.int 2), .val (.int 0), .val (.int 0)]
        have f169 := (Fld.other W167 f158 (Or.inl pr13))
        obtain ⟨T170, X170, e170, st170⟩ := getF X167 hx hZ hown (host := "") (Or.inl (hw _ (List.mem_of_getElem? (i := 12) rfl))) Via.refl e167 f169 (g := (mkF m 212 LL168 [(.ref a)])) rfl rfl (hb hby d2_212)
        obtain ⟨cl_a171, Ar_a171, q_a171, S_a171, N_a171, H_a171, G_a171⟩ := id V167
        have hin_a171 : ¬ ((0 : Int32) < 0 ∨ cl_a171.slots.size ≤ ((0 : Int32)).toNatClampNeg) := inb_of S_a171 ⟨by decide, by decide⟩
        have hat_a171 := Has.at (v := (.int 0)) H_a171 hin_a171 rfl
        have f172 := (V157.other W167 (Ne.symm pr19))
        obtain ⟨cl_a173, Ar_a173, q_a173, S_a173, N_a173, H_a173, G_a173⟩ := id f172
        have hin_a173 : ¬ ((0 : Int32) < 0 ∨ cl_a173.slots.size ≤ ((0 : Int32)).toNatClampNeg) := inb_of S_a173 ⟨by decide, by decide⟩
        obtain ⟨T174, h174, X174, e174, W174, st174⟩ := stD X170 hx hZ e170 Ar_a173 (j := (0 : Int32)) hin_a173 (g := (mkF m 221 LL168 [(.double FP.dconst1), (.int 0), (.ref th)])) rfl rfl (hb hby d2_221)
        have V174 : Arv Z h174 th kt .double (3 : Int32) [(.double FP.dconst1), (.double (own_q (B * (2 : Int64)) (A + B))), (.double y2)] (.double (0 : UInt64)) := Arv.set Ar_a173 q_a173 S_a173 N_a173 H_a173 G_a173 rfl W174 0 rfl (Nat.le_of_ble_eq_true rfl)
        have N174 := Fr.snoc X174 N167 pr10
        have P175 : ∀ t, Steps p.tables e below (T174.setTop (mkF m 228 LL164 [])) t → Steps p.tables e below ST t := by
          intro t kk
          refine P161 _ ?_
          show Steps _ _ _ (T159.setTop (mkF m 182 LL143 [(.int (cmpValue (FP.dcmp (FP.dadd (own_q (A * (2 : Int64)) (A + B)) (FP.dsub (own_q (B * (2 : Int64)) (A + B)) FP.dconst1)) FP.dconst1) .g))])) _
          refine XS.ifNo X159.here hx rfl (hb hby d2_182) rfl (XT.i0_ge_f c162) ?_
          show Steps _ _ _ (T159.setTop (mkF m 185 LL143 [])) _
          refine XS.iinc X159.here hx rfl (hb hby d2_185) rfl (l' := LL163) rfl ?_
          show Steps _ _ _ (T159.setTop (mkF m 188 LL163 [])) _
          refine XS.aload X159.here hx rfl (hb hby d2_188) rfl rfl ?_
          show Steps _ _ _ (T159.setTop (mkF m 190 LL163 [(.ref wk)])) _
          refine XS.iload X159.here hx rfl (hb hby d2_190) rfl ?_
          show Steps _ _ _ (T159.setTop (mkF m 192 LL163 [(.int 0), (.ref wk)])) _
          refine XS.iinc X159.here hx rfl (hb hby d2_192) rfl (l' := LL164) rfl ?_
          show Steps _ _ _ (T159.setTop (mkF m 195 LL164 [(.int 0), (.ref wk)])) _
          refine XS.iload X159.here hx rfl (hb hby d2_195) rfl ?_
          show Steps _ _ _ (T159.setTop (mkF m 197 LL164 [(.int 0), (.int 0), (.ref wk)])) _
          refine st167 _ ?_
          show Steps _ _ _ (T167.setTop (mkF m 198 LL164 [])) _
          refine XS.goto X167.here hx rfl (pc0 := 198) (pc' := 116) rfl (hb hby d2_198) (by decide) (by decide) ?_
          show Steps _ _ _ (T167.setTop (mkF m 116 LL164 [])) _
          refine XS.iload X167.here hx rfl (hb hby d2_116) rfl ?_
          show Steps _ _ _ (T167.setTop (mkF m 118 LL164 [(.int 1)])) _
          refine XS.ifNo X167.here hx rfl (hb hby d2_118) rfl (XT.i0_le_f (by decide)) ?_
          show Steps _ _ _ (T167.setTop (mkF m 121 LL164 [])) _
          refine XS.iload X167.here hx rfl (hb hby d2_121) rfl ?_
          show Steps _ _ _ (T167.setTop (mkF m 123 LL164 [(.int 2)])) _
          refine XS.iload X167.here hx rfl (hb hby d2_123) rfl ?_
          show Steps _ _ _ (T167.setTop (mkF m 125 LL164 [(.int 2), (.int 2)])) _
          refine XS.icmpYes X167.here hx rfl (pc0 := 125) (pc' := 201) rfl (hb hby d2_125) rfl (XT.ii_ge_t (by decide)) (by decide) (by decide) ?_
          show Steps _ _ _ (T167.setTop (mkF m 201 LL164 [])) _
          refine XS.iconst X167.here hx rfl (hb hby d2_201) ?_
          show Steps _ _ _ (T167.setTop (mkF m 202 LL164 [(.int 0)])) _
          refine XS.istore X167.here hx rfl (hb hby d2_202) rfl (l' := LL168) rfl ?_
          show Steps _ _ _ (T167.setTop (mkF m 204 LL168 [])) _
          refine XS.iload X167.here hx rfl (hb hby d2_204) rfl ?_
          show Steps _ _ _ (T167.setTop (mkF m 206 LL168 [(.int 0)])) _
          refine XS.iload X167.here hx rfl (hb hby d2_206) rfl ?_
          show Steps _ _ _ (T167.setTop (mkF m 208 LL168 [(.int 1), (.int 0)])) _
          refine XS.icmpNo X167.here hx rfl (hb hby d2_208) rfl (XT.ii_ge_f (by decide)) ?_
          show Steps _ _ _ (T167.setTop (mkF m 211 LL168 [])) _
          refine XS.aloadN X167.here hx rfl (hb hby d2_211) rfl rfl ?_
          show Steps _ _ _ (T167.setTop (mkF m 212 LL168 [(.ref a)])) _
          refine st170 _ ?_
          show Steps _ _ _ (T170.setTop (mkF m 215 LL168 [(.ref th)])) _
          refine XS.aload X170.here hx rfl (hb hby d2_215) rfl rfl ?_
          show Steps _ _ _ (T170.setTop (mkF m 217 LL168 [(.ref wk), (.ref th)])) _
          refine XS.iload X170.here hx rfl (hb hby d2_217) rfl ?_
          show Steps _ _ _ (T170.setTop (mkF m 219 LL168 [(.int 0), (.ref wk), (.ref th)])) _
          refine X170.iaload hx (j := (0 : Int32)) (v := (.int 0)) (by rw [e170]; exact Ar_a171.1) (State.isArrayOf_alike hZ.alike Ar_a171.2.1) Ar_a171.2.2 hin_a171 hat_a171 (g := (mkF m 219 LL168 [(.int 0), (.ref wk), (.ref th)])) rfl rfl (hb hby d2_219) _ ?_
          show Steps _ _ _ (T170.setTop (mkF m 220 LL168 [(.int 0), (.ref th)])) _
          refine XS.dconst1 X170.here hx rfl (hb hby d2_220) rfl ?_
          show Steps _ _ _ (T170.setTop (mkF m 221 LL168 [(.double FP.dconst1), (.int 0), (.ref th)])) _
          refine st174 _ ?_
          show Steps _ _ _ (T174.setTop (mkF m 222 LL168 [])) _
          refine XS.iinc X174.here hx rfl (hb hby d2_222) rfl (l' := LL164) rfl ?_
          show Steps _ _ _ (T174.setTop (mkF m 225 LL164 [])) _
          refine XS.goto X174.here hx rfl (pc0 := 225) (pc' := 204) rfl (hb hby d2_225) (by decide) (by decide) ?_
          show Steps _ _ _ (T174.setTop (mkF m 204 LL164 [])) _
          refine XS.iload X174.here hx rfl (hb hby d2_204) rfl ?_
          show Steps _ _ _ (T174.setTop (mkF m 206 LL164 [(.int 1)])) _
          refine XS.iload X174.here hx rfl (hb hby d2_206) rfl ?_
          show Steps _ _ _ (T174.setTop (mkF m 208 LL164 [(.int 1), (.int 1)])) _
          refine XS.icmpYes X174.here hx rfl (pc0 := 208) (pc' := 228) rfl (hb hby d2_208) rfl (XT.ii_ge_t (by decide)) (by decide) (by decide) ?_
          show Steps _ _ _ (T174.setTop (mkF m 228 LL164 [])) _
          exact kk
        let LL176 : Array Slot := #[.val (.ref a), .val (.ref wt), .val (.int 0), .val (.int 2), .val (.ref wk), .val (.int 2), .val (.double (FP.l2d (A + B))), .second, .val (.int 1), .val (.int 2), .val (.int 2), .val (.int 0)]
        have P177 : ∀ t, Steps p.tables e below (T174.setTop (mkF m 256 LL176 [])) t → Steps p.tables e below ST t := by
          intro t kk
          refine P175 _ ?_
          show Steps _ _ _ (T174.setTop (mkF m 228 LL164 [])) _
          refine XS.iload X174.here hx rfl (hb hby d2_228) rfl ?_
          show Steps _ _ _ (T174.setTop (mkF m 230 LL164 [(.int 2)])) _
          refine XS.istore X174.here hx rfl (hb hby d2_230) rfl (l' := LL176) rfl ?_
          show Steps _ _ _ (T174.setTop (mkF m 232 LL176 [])) _
          refine XS.iload X174.here hx rfl (hb hby d2_232) rfl ?_
          show Steps _ _ _ (T174.setTop (mkF m 234 LL176 [(.int 2)])) _
          refine XS.iload X174.here hx rfl (hb hby d2_234) rfl ?_
          show Steps _ _ _ (T174.setTop (mkF m 236 LL176 [(.int 2), (.int 2)])) _
          refine XS.icmpYes X174.here hx rfl (pc0 := 236) (pc' := 256) rfl (hb hby d2_236) rfl (XT.ii_ge_t (by decide)) (by decide) (by decide) ?_
          show Steps _ _ _ (T174.setTop (mkF m 256 LL176 [])) _
          exact kk
        have k178 : Keep h0 h174 [th, al, wk] := (Keep.wr (Keep.wr (Keep.wr (Keep.wr (Keep.wr (Keep.wr (Keep.wr (Keep.wr (Keep.wr (Keep.wr (Keep.refl h0 [th, al, wk]) W18 (Or.inl (List.mem_of_getElem? (i := 0) rfl))) W23 (Or.inl (List.mem_of_getElem? (i := 1) rfl))) W114 (Or.inl (List.mem_of_getElem? (i := 2) rfl))) W122 (Or.inl (List.mem_of_getElem? (i := 0) rfl))) W127 (Or.inl (List.mem_of_getElem? (i := 1) rfl))) W138 (Or.inl (List.mem_of_getElem? (i := 2) rfl))) W149 (Or.inl (List.mem_of_getElem? (i := 1) rfl))) W157 (Or.inl (List.mem_of_getElem? (i := 0) rfl))) W167 (Or.inl (List.mem_of_getElem? (i := 2) rfl))) W174 (Or.inl (List.mem_of_getElem? (i := 0) rfl)))
        have f179 := (((V149.other W157 (Ne.symm pr21)).other W167 (Ne.symm pr20)).other W174 (Ne.symm pr21))
        have f180 := (V167.other W174 pr19)
        obtain ⟨fs, hr, hrun, hended, hW, hsame⟩ := X174.leave (v := none) (fun _ => rfl)
        refine ⟨_, _, P177 _ ?_, hrun, hended, _, _, rfl, ?_, ⟨_, rfl⟩, hW, hsame.mono (by decide) (by decide)⟩
        · exact X174.returnOut hx Bd.returns (hb hby d2_256) hr
        · show Q2 Z a wt wk A B wx th al kw kt ka kk y0 y1 y2 z0 z1 z2 u0 u1 h0 n0 _ T174.heap _
          rw [e174]
          exact ⟨FP.dconst1, (own_q (B * (2 : Int64)) (A + B)), (0 : Int32), (0 : Int32), (0 : Int32), (0 : Int32), rfl, N174, k178, V174, f179, f180, (own_altG pr7 pr8 c134)⟩
      · skip
        let LL181 : Array Slot := #[.val (.ref a), .val (.ref wt), .val (.int 0), .val (.int 2), .val (.ref wk), .val (.int 2), .val (.double (FP.l2d (A + B))), .second, .val (.int 0), .val (.int 1), .val (.int 0), .val (.int 0)]
        obtain ⟨T182, X182, e182, st182⟩ := getF X159 hx hZ hown (host := "") (Or.inl (hw _ (List.mem_of_getElem? (i := 12) rfl))) Via.refl e159 f158 (g := (mkF m 240 LL143 [(.ref a)])) rfl rfl (hb hby d2_240)
        have f183 := ((V138.other W149 pr20).other W157 pr19)
        obtain ⟨cl_a184, Ar_a184, q_a184, S_a184, N_a184, H_a184, G_a184⟩ := id f183
        have hin_a184 : ¬ ((1 : Int32) < 0 ∨ cl_a184.slots.size ≤ ((1 : Int32)).toNatClampNeg) := inb_of S_a184 ⟨by decide, by decide⟩
        have hat_a184 := Has.at (v := (.int 0)) H_a184 hin_a184 rfl
        obtain ⟨cl_a185, Ar_a185, q_a185, S_a185, N_a185, H_a185, G_a185⟩ := id V157
        have hin_a185 : ¬ ((0 : Int32) < 0 ∨ cl_a185.slots.size ≤ ((0 : Int32)).toNatClampNeg) := inb_of S_a185 ⟨by decide, by decide⟩
        obtain ⟨T186, h186, X186, e186, W186, st186⟩ := stD X182 hx hZ e182 Ar_a185 (j := (0 : Int32)) hin_a185 (g := (mkF m 249 LL143 [(.double FP.dconst1), (.int 0), (.ref th)])) rfl rfl (hb hby d2_249)
        have V186 : Arv Z h186 th kt .double (3 : Int32) [(.double FP.dconst1), (.double (own_q (B * (2 : Int64)) (A + B))), (.double y2)] (.double (0 : UInt64)) := Arv.set Ar_a185 q_a185 S_a185 N_a185 H_a185 G_a185 rfl W186 0 rfl (Nat.le_of_ble_eq_true rfl)
        have N186 := Fr.snoc X186 N157 pr10
        let LL187 : Array Slot := #[.val (.ref a), .val (.ref wt), .val (.int 0), .val (.int 2), .val (.ref wk), .val (.int 2), .val (.double (FP.l2d (A + B))), .second, .val (.int 0), .val (.int 1), .val (.int 2), .val (.int 0)]
        have P188 : ∀ t, Steps p.tables e below (T186.setTop (mkF m 256 LL187 [])) t → Steps p.tables e below ST t := by
          intro t kk
          refine P161 _ ?_
          show Steps _ _ _ (T159.setTop (mkF m 182 LL143 [(.int (cmpValue (FP.dcmp (FP.dadd (own_q (A * (2 : Int64)) (A + B)) (FP.dsub (own_q (B * (2 : Int64)) (A + B)) FP.dconst1)) FP.dconst1) .g))])) _
          refine XS.ifYes X159.here hx rfl (pc0 := 182) (pc' := 198) rfl (hb hby d2_182) rfl (XT.i0_ge_t c162) (by decide) (by decide) ?_
          show Steps _ _ _ (T159.setTop (mkF m 198 LL143 [])) _
          refine XS.goto X159.here hx rfl (pc0 := 198) (pc' := 116) rfl (hb hby d2_198) (by decide) (by decide) ?_
          show Steps _ _ _ (T159.setTop (mkF m 116 LL143 [])) _
          refine XS.iload X159.here hx rfl (hb hby d2_116) rfl ?_
          show Steps _ _ _ (T159.setTop (mkF m 118 LL143 [(.int 0)])) _
          refine XS.ifYes X159.here hx rfl (pc0 := 118) (pc' := 201) rfl (hb hby d2_118) rfl (XT.i0_le_t (by decide)) (by decide) (by decide) ?_
          show Steps _ _ _ (T159.setTop (mkF m 201 LL143 [])) _
          refine XS.iconst X159.here hx rfl (hb hby d2_201) ?_
          show Steps _ _ _ (T159.setTop (mkF m 202 LL143 [(.int 0)])) _
          refine XS.istore X159.here hx rfl (hb hby d2_202) rfl (l' := LL181) rfl ?_
          show Steps _ _ _ (T159.setTop (mkF m 204 LL181 [])) _
          refine XS.iload X159.here hx rfl (hb hby d2_204) rfl ?_
          show Steps _ _ _ (T159.setTop (mkF m 206 LL181 [(.int 0)])) _
          refine XS.iload X159.here hx rfl (hb hby d2_206) rfl ?_
          show Steps _ _ _ (T159.setTop (mkF m 208 LL181 [(.int 0), (.int 0)])) _
          refine XS.icmpYes X159.here hx rfl (pc0 := 208) (pc' := 228) rfl (hb hby d2_208) rfl (XT.ii_ge_t (by decide)) (by decide) (by decide) ?_
          show Steps _ _ _ (T159.setTop (mkF m 228 LL181 [])) _
          refine XS.iload X159.here hx rfl (hb hby d2_228) rfl ?_
          show Steps _ _ _ (T159.setTop (mkF m 230 LL181 [(.int 1)])) _
          refine XS.istore X159.here hx rfl (hb hby d2_230) rfl (l' := LL143) rfl ?_
          show Steps _ _ _ (T159.setTop (mkF m 232 LL143 [])) _
          refine XS.iload X159.here hx rfl (hb hby d2_232) rfl ?_
          show Steps _ _ _ (T159.setTop (mkF m 234 LL143 [(.int 1)])) _
          refine XS.iload X159.here hx rfl (hb hby d2_234) rfl ?_
          show Steps _ _ _ (T159.setTop (mkF m 236 LL143 [(.int 2), (.int 1)])) _
          refine XS.icmpNo X159.here hx rfl (hb hby d2_236) rfl (XT.ii_ge_f (by decide)) ?_
          show Steps _ _ _ (T159.setTop (mkF m 239 LL143 [])) _
          refine XS.aloadN X159.here hx rfl (hb hby d2_239) rfl rfl ?_
          show Steps _ _ _ (T159.setTop (mkF m 240 LL143 [(.ref a)])) _
          refine st182 _ ?_
          show Steps _ _ _ (T182.setTop (mkF m 243 LL143 [(.ref th)])) _
          refine XS.aload X182.here hx rfl (hb hby d2_243) rfl rfl ?_
          show Steps _ _ _ (T182.setTop (mkF m 245 LL143 [(.ref wk), (.ref th)])) _
          refine XS.iload X182.here hx rfl (hb hby d2_245) rfl ?_
          show Steps _ _ _ (T182.setTop (mkF m 247 LL143 [(.int 1), (.ref wk), (.ref th)])) _
          refine X182.iaload hx (j := (1 : Int32)) (v := (.int 0)) (by rw [e182]; exact Ar_a184.1) (State.isArrayOf_alike hZ.alike Ar_a184.2.1) Ar_a184.2.2 hin_a184 hat_a184 (g := (mkF m 247 LL143 [(.int 1), (.ref wk), (.ref th)])) rfl rfl (hb hby d2_247) _ ?_
          show Steps _ _ _ (T182.setTop (mkF m 248 LL143 [(.int 0), (.ref th)])) _
          refine XS.dconst1 X182.here hx rfl (hb hby d2_248) rfl ?_
          show Steps _ _ _ (T182.setTop (mkF m 249 LL143 [(.double FP.dconst1), (.int 0), (.ref th)])) _
          refine st186 _ ?_
          show Steps _ _ _ (T186.setTop (mkF m 250 LL143 [])) _
          refine XS.iinc X186.here hx rfl (hb hby d2_250) rfl (l' := LL187) rfl ?_
          show Steps _ _ _ (T186.setTop (mkF m 253 LL187 [])) _
          refine XS.goto X186.here hx rfl (pc0 := 253) (pc' := 232) rfl (hb hby d2_253) (by decide) (by decide) ?_
          show Steps _ _ _ (T186.setTop (mkF m 232 LL187 [])) _
          refine XS.iload X186.here hx rfl (hb hby d2_232) rfl ?_
          show Steps _ _ _ (T186.setTop (mkF m 234 LL187 [(.int 2)])) _
          refine XS.iload X186.here hx rfl (hb hby d2_234) rfl ?_
          show Steps _ _ _ (T186.setTop (mkF m 236 LL187 [(.int 2), (.int 2)])) _
          refine XS.icmpYes X186.here hx rfl (pc0 := 236) (pc' := 256) rfl (hb hby d2_236) rfl (XT.ii_ge_t (by decide)) (by decide) (by decide) ?_
          show Steps _ _ _ (T186.setTop (mkF m 256 LL187 [])) _
          exact kk
        have k189 : Keep h0 h186 [th, al, wk] := (Keep.wr (Keep.wr (Keep.wr (Keep.wr (Keep.wr (Keep.wr (Keep.wr (Keep.wr (Keep.wr (Keep.refl h0 [th, al, wk]) W18 (Or.inl (List.mem_of_getElem? (i := 0) rfl))) W23 (Or.inl (List.mem_of_getElem? (i := 1) rfl))) W114 (Or.inl (List.mem_of_getElem? (i := 2) rfl))) W122 (Or.inl (List.mem_of_getElem? (i := 0) rfl))) W127 (Or.inl (List.mem_of_getElem? (i := 1) rfl))) W138 (Or.inl (List.mem_of_getElem? (i := 2) rfl))) W149 (Or.inl (List.mem_of_getElem? (i := 1) rfl))) W157 (Or.inl (List.mem_of_getElem? (i := 0) rfl))) W186 (Or.inl (List.mem_of_getElem? (i := 0) rfl)))
        have f190 := ((V149.other W157 (Ne.symm pr21)).other W186 (Ne.symm pr21))
        have f191 := (f183.other W186 pr19)
        obtain ⟨fs, hr, hrun, hended, hW, hsame⟩ := X186.leave (v := none) (fun _ => rfl)
        refine ⟨_, _, P188 _ ?_, hrun, hended, _, _, rfl, ?_, ⟨_, rfl⟩, hW, hsame.mono (by decide) (by decide)⟩
        · exact X186.returnOut hx Bd.returns (hb hby d2_256) hr
        · show Q2 Z a wt wk A B wx th al kw kt ka kk y0 y1 y2 z0 z1 z2 u0 u1 h0 n0 _ T186.heap _
          rw [e186]
          exact ⟨FP.dconst1, (own_q (B * (2 : Int64)) (A + B)), (0 : Int32), (0 : Int32), (1 : Int32), (0 : Int32), rfl, N186, k189, V186, f190, f191, (own_altG pr7 pr8 c134)⟩
    · skip
      let LL192 : Array Slot := #[.val (.ref a), .val (.ref wt), .val (.int 0), .val (.int 2), .val (.ref wk), .val (.int 2), .val (.double (FP.l2d (A + B))), .second, .val (.int 0), .val (.int 0), .val (.int 1), .unset]
      have f193 := ((V114.other W122 pr19).other W127 pr20)
      obtain ⟨cl_a194, Ar_a194, q_a194, S_a194, N_a194, H_a194, G_a194⟩ := id f193
      have hin_a194 : ¬ ((0 : Int32) < 0 ∨ cl_a194.slots.size ≤ ((0 : Int32)).toNatClampNeg) := inb_of S_a194 ⟨by decide, by decide⟩
      obtain ⟨T195, h195, X195, e195, W195, st195⟩ := stI X129 hx hZ e129 Ar_a194 (j := (0 : Int32)) hin_a194 (g := (mkF m 109 LL192 [(.int 1), (.int 0), (.ref wk)])) rfl rfl (hb hby d2_109)
      have V195 : Arv Z h195 wk kk .int (2 : Int32) [(.int 1), (.int 0)] (.int 0) := Arv.set Ar_a194 q_a194 S_a194 N_a194 H_a194 G_a194 rfl W195 0 rfl (Nat.le_of_ble_eq_true rfl)
      have N195 := Fr.snoc X195 N127 pr9
      let LL196 : Array Slot := #[.val (.ref a), .val (.ref wt), .val (.int 0), .val (.int 2), .val (.ref wk), .val (.int 2), .val (.double (FP.l2d (A + B))), .second, .val (.int 0), .val (.int 0), .val (.int 2), .unset]
      let LL197 : Array Slot := #[.val (.ref a), .val (.ref wt), .val (.int 0), .val (.int 2), .val (.ref wk), .val (.int 2), .val (.double (FP.l2d (A + B))), .second, .val (.int 0), .val (.int 0), .val (.int 0), .unset]
      have f198 := (Fld.other W195 f128 (Or.inl pr13))
      obtain ⟨T199, X199, e199, st199⟩ := getF X195 hx hZ hown (host := "") (Or.inl (hw _ (List.mem_of_getElem? (i := 12) rfl))) Via.refl e195 f198 (g := (mkF m 240 LL197 [(.ref a)])) rfl rfl (hb hby d2_240)
      obtain ⟨cl_a200, Ar_a200, q_a200, S_a200, N_a200, H_a200, G_a200⟩ := id V195
      have hin_a200 : ¬ ((0 : Int32) < 0 ∨ cl_a200.slots.size ≤ ((0 : Int32)).toNatClampNeg) := inb_of S_a200 ⟨by decide, by decide⟩
      have hat_a200 := Has.at (v := (.int 1)) H_a200 hin_a200 rfl
      have f201 := (f131.other W195 (Ne.symm pr19))
      obtain ⟨cl_a202, Ar_a202, q_a202, S_a202, N_a202, H_a202, G_a202⟩ := id f201
      have hin_a202 : ¬ ((1 : Int32) < 0 ∨ cl_a202.slots.size ≤ ((1 : Int32)).toNatClampNeg) := inb_of S_a202 ⟨by decide, by decide⟩
      obtain ⟨T203, h203, X203, e203, W203, st203⟩ := stD X199 hx hZ e199 Ar_a202 (j := (1 : Int32)) hin_a202 (g := (mkF m 249 LL197 [(.double FP.dconst1), (.int 1), (.ref th)])) rfl rfl (hb hby d2_249)
      have V203 : Arv Z h203 th kt .double (3 : Int32) [(.double (own_q (A * (2 : Int64)) (A + B))), (.double FP.dconst1), (.double y2)] (.double (0 : UInt64)) := Arv.set Ar_a202 q_a202 S_a202 N_a202 H_a202 G_a202 rfl W203 1 rfl (Nat.le_of_ble_eq_true rfl)
      have N203 := Fr.snoc X203 N195 pr10
      have P204 : ∀ t, Steps p.tables e below (T203.setTop (mkF m 250 LL197 [])) t → Steps p.tables e below ST t := by
        intro t kk
        refine P133 _ ?_
        show Steps _ _ _ (T129.setTop (mkF m 84 LL115 [(.int (cmpValue (FP.dcmp (own_q (B * (2 : Int64)) (A + B)) FP.dconst1) .g))])) _
        refine XS.ifYes X129.here hx rfl (pc0 := 84) (pc' := 100) rfl (hb hby d2_84) rfl (XT.i0_ge_t c134) (by decide) (by decide) ?_
        show Steps _ _ _ (T129.setTop (mkF m 100 LL115 [])) _
        refine XS.aload X129.here hx rfl (hb hby d2_100) rfl rfl ?_
        show Steps _ _ _ (T129.setTop (mkF m 102 LL115 [(.ref wk)])) _
        refine XS.iinc X129.here hx rfl (hb hby d2_102) rfl (l' := LL192) rfl ?_
        show Steps _ _ _ (T129.setTop (mkF m 105 LL192 [(.ref wk)])) _
        refine XS.iload X129.here hx rfl (hb hby d2_105) rfl ?_
        show Steps _ _ _ (T129.setTop (mkF m 107 LL192 [(.int 0), (.ref wk)])) _
        refine XS.iload X129.here hx rfl (hb hby d2_107) rfl ?_
        show Steps _ _ _ (T129.setTop (mkF m 109 LL192 [(.int 1), (.int 0), (.ref wk)])) _
        refine st195 _ ?_
        show Steps _ _ _ (T195.setTop (mkF m 110 LL192 [])) _
        refine XS.iinc X195.here hx rfl (hb hby d2_110) rfl (l' := LL196) rfl ?_
        show Steps _ _ _ (T195.setTop (mkF m 113 LL196 [])) _
        refine XS.goto X195.here hx rfl (pc0 := 113) (pc' := 42) rfl (hb hby d2_113) (by decide) (by decide) ?_
        show Steps _ _ _ (T195.setTop (mkF m 42 LL196 [])) _
        refine XS.iload X195.here hx rfl (hb hby d2_42) rfl ?_
        show Steps _ _ _ (T195.setTop (mkF m 44 LL196 [(.int 2)])) _
        refine XS.iloadN X195.here hx rfl (hb hby d2_44) rfl ?_
        show Steps _ _ _ (T195.setTop (mkF m 45 LL196 [(.int 2), (.int 2)])) _
        refine XS.icmpYes X195.here hx rfl (pc0 := 45) (pc' := 116) rfl (hb hby d2_45) rfl (XT.ii_ge_t (by decide)) (by decide) (by decide) ?_
        show Steps _ _ _ (T195.setTop (mkF m 116 LL196 [])) _
        refine XS.iload X195.here hx rfl (hb hby d2_116) rfl ?_
        show Steps _ _ _ (T195.setTop (mkF m 118 LL196 [(.int 0)])) _
        refine XS.ifYes X195.here hx rfl (pc0 := 118) (pc' := 201) rfl (hb hby d2_118) rfl (XT.i0_le_t (by decide)) (by decide) (by decide) ?_
        show Steps _ _ _ (T195.setTop (mkF m 201 LL196 [])) _
        refine XS.iconst X195.here hx rfl (hb hby d2_201) ?_
        show Steps _ _ _ (T195.setTop (mkF m 202 LL196 [(.int 0)])) _
        refine XS.istore X195.here hx rfl (hb hby d2_202) rfl (l' := LL197) rfl ?_
        show Steps _ _ _ (T195.setTop (mkF m 204 LL197 [])) _
        refine XS.iload X195.here hx rfl (hb hby d2_204) rfl ?_
        show Steps _ _ _ (T195.setTop (mkF m 206 LL197 [(.int 0)])) _
        refine XS.iload X195.here hx rfl (hb hby d2_206) rfl ?_
        show Steps _ _ _ (T195.setTop (mkF m 208 LL197 [(.int 0), (.int 0)])) _
        refine XS.icmpYes X195.here hx rfl (pc0 := 208) (pc' := 228) rfl (hb hby d2_208) rfl (XT.ii_ge_t (by decide)) (by decide) (by decide) ?_
        show Steps _ _ _ (T195.setTop (mkF m 228 LL197 [])) _
        refine XS.iload X195.here hx rfl (hb hby d2_228) rfl ?_
        show Steps _ _ _ (T195.setTop (mkF m 230 LL197 [(.int 0)])) _
        refine XS.istore X195.here hx rfl (hb hby d2_230) rfl (l' := LL197) rfl ?_
        show Steps _ _ _ (T195.setTop (mkF m 232 LL197 [])) _
        refine XS.iload X195.here hx rfl (hb hby d2_232) rfl ?_
        show Steps _ _ _ (T195.setTop (mkF m 234 LL197 [(.int 0)])) _
        refine XS.iload X195.here hx rfl (hb hby d2_234) rfl ?_
        show Steps _ _ _ (T195.setTop (mkF m 236 LL197 [(.int 2), (.int 0)])) _
        refine XS.icmpNo X195.here hx rfl (hb hby d2_236) rfl (XT.ii_ge_f (by decide)) ?_
        show Steps _ _ _ (T195.setTop (mkF m 239 LL197 [])) _
        refine XS.aloadN X195.here hx rfl (hb hby d2_239) rfl rfl ?_
        show Steps _ _ _ (T195.setTop (mkF m 240 LL197 [(.ref a)])) _
        refine st199 _ ?_
        show Steps _ _ _ (T199.setTop (mkF m 243 LL197 [(.ref th)])) _
        refine XS.aload X199.here hx rfl (hb hby d2_243) rfl rfl ?_
        show Steps _ _ _ (T199.setTop (mkF m 245 LL197 [(.ref wk), (.ref th)])) _
        refine XS.iload X199.here hx rfl (hb hby d2_245) rfl ?_
        show Steps _ _ _ (T199.setTop (mkF m 247 LL197 [(.int 0), (.ref wk), (.ref th)])) _
        refine X199.iaload hx (j := (0 : Int32)) (v := (.int 1)) (by rw [e199]; exact Ar_a200.1) (State.isArrayOf_alike hZ.alike Ar_a200.2.1) Ar_a200.2.2 hin_a200 hat_a200 (g := (mkF m 247 LL197 [(.int 0), (.ref wk), (.ref th)])) rfl rfl (hb hby d2_247) _ ?_
        show Steps _ _ _ (T199.setTop (mkF m 248 LL197 [(.int 1), (.ref th)])) _
        refine XS.dconst1 X199.here hx rfl (hb hby d2_248) rfl ?_
        show Steps _ _ _ (T199.setTop (mkF m 249 LL197 [(.double FP.dconst1), (.int 1), (.ref th)])) _
        refine st203 _ ?_
        show Steps _ _ _ (T203.setTop (mkF m 250 LL197 [])) _
        exact kk
      have f205 := (Fld.other W203 f198 (Or.inl pr14))
      obtain ⟨T206, X206, e206, st206⟩ := getF X203 hx hZ hown (host := "") (Or.inl (hw _ (List.mem_of_getElem? (i := 12) rfl))) Via.refl e203 f205 (g := (mkF m 240 LL192 [(.ref a)])) rfl rfl (hb hby d2_240)
      have f207 := (V195.other W203 pr19)
      obtain ⟨cl_a208, Ar_a208, q_a208, S_a208, N_a208, H_a208, G_a208⟩ := id f207
      have hin_a208 : ¬ ((1 : Int32) < 0 ∨ cl_a208.slots.size ≤ ((1 : Int32)).toNatClampNeg) := inb_of S_a208 ⟨by decide, by decide⟩
      have hat_a208 := Has.at (v := (.int 0)) H_a208 hin_a208 rfl
      obtain ⟨cl_a209, Ar_a209, q_a209, S_a209, N_a209, H_a209, G_a209⟩ := id V203
      have hin_a209 : ¬ ((0 : Int32) < 0 ∨ cl_a209.slots.size ≤ ((0 : Int32)).toNatClampNeg) := inb_of S_a209 ⟨by decide, by decide⟩
      obtain ⟨T210, h210, X210, e210, W210, st210⟩ := stD X206 hx hZ e206 Ar_a209 (j := (0 : Int32)) hin_a209 (g := (mkF m 249 LL192 [(.double FP.dconst1), (.int 0), (.ref th)])) rfl rfl (hb hby d2_249)
      have V210 : Arv Z h210 th kt .double (3 : Int32) [(.double FP.dconst1), (.double FP.dconst1), (.double y2)] (.double (0 : UInt64)) := Arv.set Ar_a209 q_a209 S_a209 N_a209 H_a209 G_a209 rfl W210 0 rfl (Nat.le_of_ble_eq_true rfl)
      have N210 := Fr.snoc X210 N203 pr10
      have P211 : ∀ t, Steps p.tables e below (T210.setTop (mkF m 256 LL196 [])) t → Steps p.tables e below ST t := by
        intro t kk
        refine P204 _ ?_
        show Steps _ _ _ (T203.setTop (mkF m 250 LL197 [])) _
        refine XS.iinc X203.here hx rfl (hb hby d2_250) rfl (l' := LL192) rfl ?_
        show Steps _ _ _ (T203.setTop (mkF m 253 LL192 [])) _
        refine XS.goto X203.here hx rfl (pc0 := 253) (pc' := 232) rfl (hb hby d2_253) (by decide) (by decide) ?_
        show Steps _ _ _ (T203.setTop (mkF m 232 LL192 [])) _
        refine XS.iload X203.here hx rfl (hb hby d2_232) rfl ?_
        show Steps _ _ _ (T203.setTop (mkF m 234 LL192 [(.int 1)])) _
        refine XS.iload X203.here hx rfl (hb hby d2_234) rfl ?_
        show Steps _ _ _ (T203.setTop (mkF m 236 LL192 [(.int 2), (.int 1)])) _
        refine XS.icmpNo X203.here hx rfl (hb hby d2_236) rfl (XT.ii_ge_f (by decide)) ?_
        show Steps _ _ _ (T203.setTop (mkF m 239 LL192 [])) _
        refine XS.aloadN X203.here hx rfl (hb hby d2_239) rfl rfl ?_
        show Steps _ _ _ (T203.setTop (mkF m 240 LL192 [(.ref a)])) _
        refine st206 _ ?_
        show Steps _ _ _ (T206.setTop (mkF m 243 LL192 [(.ref th)])) _
        refine XS.aload X206.here hx rfl (hb hby d2_243) rfl rfl ?_
        show Steps _ _ _ (T206.setTop (mkF m 245 LL192 [(.ref wk), (.ref th)])) _
        refine XS.iload X206.here hx rfl (hb hby d2_245) rfl ?_
        show Steps _ _ _ (T206.setTop (mkF m 247 LL192 [(.int 1), (.ref wk), (.ref th)])) _
        refine X206.iaload hx (j := (1 : Int32)) (v := (.int 0)) (by rw [e206]; exact Ar_a208.1) (State.isArrayOf_alike hZ.alike Ar_a208.2.1) Ar_a208.2.2 hin_a208 hat_a208 (g := (mkF m 247 LL192 [(.int 1), (.ref wk), (.ref th)])) rfl rfl (hb hby d2_247) _ ?_
        show Steps _ _ _ (T206.setTop (mkF m 248 LL192 [(.int 0), (.ref th)])) _
        refine XS.dconst1 X206.here hx rfl (hb hby d2_248) rfl ?_
        show Steps _ _ _ (T206.setTop (mkF m 249 LL192 [(.double FP.dconst1), (.int 0), (.ref th)])) _
        refine st210 _ ?_
        show Steps _ _ _ (T210.setTop (mkF m 250 LL192 [])) _
        refine XS.iinc X210.here hx rfl (hb hby d2_250) rfl (l' := LL196) rfl ?_
        show Steps _ _ _ (T210.setTop (mkF m 253 LL196 [])) _
        refine XS.goto X210.here hx rfl (pc0 := 253) (pc' := 232) rfl (hb hby d2_253) (by decide) (by decide) ?_
        show Steps _ _ _ (T210.setTop (mkF m 232 LL196 [])) _
        refine XS.iload X210.here hx rfl (hb hby d2_232) rfl ?_
        show Steps _ _ _ (T210.setTop (mkF m 234 LL196 [(.int 2)])) _
        refine XS.iload X210.here hx rfl (hb hby d2_234) rfl ?_
        show Steps _ _ _ (T210.setTop (mkF m 236 LL196 [(.int 2), (.int 2)])) _
        refine XS.icmpYes X210.here hx rfl (pc0 := 236) (pc' := 256) rfl (hb hby d2_236) rfl (XT.ii_ge_t (by decide)) (by decide) (by decide) ?_
        show Steps _ _ _ (T210.setTop (mkF m 256 LL196 [])) _
        exact kk
      have k212 : Keep h0 h210 [th, al, wk] := (Keep.wr (Keep.wr (Keep.wr (Keep.wr (Keep.wr (Keep.wr (Keep.wr (Keep.wr (Keep.refl h0 [th, al, wk]) W18 (Or.inl (List.mem_of_getElem? (i := 0) rfl))) W23 (Or.inl (List.mem_of_getElem? (i := 1) rfl))) W114 (Or.inl (List.mem_of_getElem? (i := 2) rfl))) W122 (Or.inl (List.mem_of_getElem? (i := 0) rfl))) W127 (Or.inl (List.mem_of_getElem? (i := 1) rfl))) W195 (Or.inl (List.mem_of_getElem? (i := 2) rfl))) W203 (Or.inl (List.mem_of_getElem? (i := 0) rfl))) W210 (Or.inl (List.mem_of_getElem? (i := 0) rfl)))
      have f213 := (((V127.other W195 (Ne.symm pr20)).other W203 (Ne.symm pr21)).other W210 (Ne.symm pr21))
      have f214 := (f207.other W210 pr19)
      obtain ⟨fs, hr, hrun, hended, hW, hsame⟩ := X210.leave (v := none) (fun _ => rfl)
      refine ⟨_, _, P211 _ ?_, hrun, hended, _, _, rfl, ?_, ⟨_, rfl⟩, hW, hsame.mono (by decide) (by decide)⟩
      · exact X210.returnOut hx Bd.returns (hb hby d2_256) hr
      · show Q2 Z a wt wk A B wx th al kw kt ka kk y0 y1 y2 z0 z1 z2 u0 u1 h0 n0 _ T210.heap _
        rw [e210]
        exact ⟨FP.dconst1, FP.dconst1, (0 : Int32), (1 : Int32), (1 : Int32), (0 : Int32), rfl, N210, k212, V210, f213, f214, (own_altE pr7 pr8 c30 c134)⟩
theorem d3_0 : decode prog_27_method_2_code 0 = .ok (.iload_n 3, 1) := by decide +kernel
theorem d3_1 : decode prog_27_method_2_code 1 = .ok (.iload_n 2, 1) := by decide +kernel
theorem d3_2 : decode prog_27_method_2_code 2 = .ok (.isub, 1) := by decide +kernel
theorem d3_3 : decode prog_27_method_2_code 3 = .ok (.istore 5, 2) := by decide +kernel
theorem d3_5 : decode prog_27_method_2_code 5 = .ok (.dconst 0, 1) := by decide +kernel
theorem d3_6 : decode prog_27_method_2_code 6 = .ok (.dstore 6, 2) := by decide +kernel
theorem d3_8 : decode prog_27_method_2_code 8 = .ok (.iload_n 2, 1) := by decide +kernel
theorem d3_9 : decode prog_27_method_2_code 9 = .ok (.istore 8, 2) := by decide +kernel
theorem d3_11 : decode prog_27_method_2_code 11 = .ok (.iload 8, 2) := by decide +kernel
theorem d3_13 : decode prog_27_method_2_code 13 = .ok (.iload_n 3, 1) := by decide +kernel
theorem d3_14 : decode prog_27_method_2_code 14 = .ok (.if_icmp .ge 18, 3) := by decide +kernel
theorem d3_17 : decode prog_27_method_2_code 17 = .ok (.dload 6, 2) := by decide +kernel
theorem d3_19 : decode prog_27_method_2_code 19 = .ok (.aload_n 1, 1) := by decide +kernel
theorem d3_20 : decode prog_27_method_2_code 20 = .ok (.iload 8, 2) := by decide +kernel
theorem d3_22 : decode prog_27_method_2_code 22 = .ok (.daload, 1) := by decide +kernel
theorem d3_23 : decode prog_27_method_2_code 23 = .ok (.dadd, 1) := by decide +kernel
theorem d3_24 : decode prog_27_method_2_code 24 = .ok (.dstore 6, 2) := by decide +kernel
theorem d3_26 : decode prog_27_method_2_code 26 = .ok (.iinc 8 1, 3) := by decide +kernel
theorem d3_29 : decode prog_27_method_2_code 29 = .ok (.goto (-18), 3) := by decide +kernel
theorem d3_32 : decode prog_27_method_2_code 32 = .ok (.iconst 0, 1) := by decide +kernel
theorem d3_33 : decode prog_27_method_2_code 33 = .ok (.istore 8, 2) := by decide +kernel
theorem d3_35 : decode prog_27_method_2_code 35 = .ok (.iload 5, 2) := by decide +kernel
theorem d3_37 : decode prog_27_method_2_code 37 = .ok (.istore 9, 2) := by decide +kernel
theorem d3_39 : decode prog_27_method_2_code 39 = .ok (.iload_n 2, 1) := by decide +kernel
theorem d3_40 : decode prog_27_method_2_code 40 = .ok (.istore 10, 2) := by decide +kernel
theorem d3_42 : decode prog_27_method_2_code 42 = .ok (.iload 10, 2) := by decide +kernel
theorem d3_44 : decode prog_27_method_2_code 44 = .ok (.iload_n 3, 1) := by decide +kernel
theorem d3_45 : decode prog_27_method_2_code 45 = .ok (.if_icmp .ge 71, 3) := by decide +kernel
theorem d3_48 : decode prog_27_method_2_code 48 = .ok (.aload_n 0, 1) := by decide +kernel
theorem d3_49 : decode prog_27_method_2_code 49 = .ok (.getfield 7, 3) := by decide +kernel
theorem d3_52 : decode prog_27_method_2_code 52 = .ok (.iload 10, 2) := by decide +kernel
theorem d3_54 : decode prog_27_method_2_code 54 = .ok (.aload_n 1, 1) := by decide +kernel
theorem d3_55 : decode prog_27_method_2_code 55 = .ok (.iload 10, 2) := by decide +kernel
theorem d3_57 : decode prog_27_method_2_code 57 = .ok (.daload, 1) := by decide +kernel
theorem d3_58 : decode prog_27_method_2_code 58 = .ok (.iload 5, 2) := by decide +kernel
theorem d3_60 : decode prog_27_method_2_code 60 = .ok (.i2d, 1) := by decide +kernel
theorem d3_61 : decode prog_27_method_2_code 61 = .ok (.dmul, 1) := by decide +kernel
theorem d3_62 : decode prog_27_method_2_code 62 = .ok (.dload 6, 2) := by decide +kernel
theorem d3_64 : decode prog_27_method_2_code 64 = .ok (.ddiv, 1) := by decide +kernel
theorem d3_65 : decode prog_27_method_2_code 65 = .ok (.dastore, 1) := by decide +kernel
theorem d3_66 : decode prog_27_method_2_code 66 = .ok (.aload_n 0, 1) := by decide +kernel
theorem d3_67 : decode prog_27_method_2_code 67 = .ok (.getfield 13, 3) := by decide +kernel
theorem d3_70 : decode prog_27_method_2_code 70 = .ok (.iload 10, 2) := by decide +kernel
theorem d3_72 : decode prog_27_method_2_code 72 = .ok (.iload 10, 2) := by decide +kernel
theorem d3_74 : decode prog_27_method_2_code 74 = .ok (.iastore, 1) := by decide +kernel
theorem d3_75 : decode prog_27_method_2_code 75 = .ok (.aload_n 0, 1) := by decide +kernel
theorem d3_76 : decode prog_27_method_2_code 76 = .ok (.getfield 7, 3) := by decide +kernel
theorem d3_79 : decode prog_27_method_2_code 79 = .ok (.iload 10, 2) := by decide +kernel
theorem d3_81 : decode prog_27_method_2_code 81 = .ok (.daload, 1) := by decide +kernel
theorem d3_82 : decode prog_27_method_2_code 82 = .ok (.dconst 1, 1) := by decide +kernel
theorem d3_83 : decode prog_27_method_2_code 83 = .ok (.dcmp .g, 1) := by decide +kernel
theorem d3_84 : decode prog_27_method_2_code 84 = .ok (.ifCond .ge 16, 3) := by decide +kernel
theorem d3_100 : decode prog_27_method_2_code 100 = .ok (.aload 4, 2) := by decide +kernel
theorem d3_102 : decode prog_27_method_2_code 102 = .ok (.iinc 9 (-1), 3) := by decide +kernel
theorem d3_105 : decode prog_27_method_2_code 105 = .ok (.iload 9, 2) := by decide +kernel
theorem d3_107 : decode prog_27_method_2_code 107 = .ok (.iload 10, 2) := by decide +kernel
theorem d3_109 : decode prog_27_method_2_code 109 = .ok (.iastore, 1) := by decide +kernel
theorem d3_110 : decode prog_27_method_2_code 110 = .ok (.iinc 10 1, 3) := by decide +kernel
theorem d3_113 : decode prog_27_method_2_code 113 = .ok (.goto (-71), 3) := by decide +kernel
theorem d3_116 : decode prog_27_method_2_code 116 = .ok (.iload 8, 2) := by decide +kernel
theorem d3_118 : decode prog_27_method_2_code 118 = .ok (.ifCond .le 83, 3) := by decide +kernel
theorem d3_201 : decode prog_27_method_2_code 201 = .ok (.iconst 0, 1) := by decide +kernel
theorem d3_202 : decode prog_27_method_2_code 202 = .ok (.istore 10, 2) := by decide +kernel
theorem d3_204 : decode prog_27_method_2_code 204 = .ok (.iload 10, 2) := by decide +kernel
theorem d3_206 : decode prog_27_method_2_code 206 = .ok (.iload 8, 2) := by decide +kernel
theorem d3_208 : decode prog_27_method_2_code 208 = .ok (.if_icmp .ge 20, 3) := by decide +kernel
theorem d3_228 : decode prog_27_method_2_code 228 = .ok (.iload 9, 2) := by decide +kernel
theorem d3_230 : decode prog_27_method_2_code 230 = .ok (.istore 10, 2) := by decide +kernel
theorem d3_232 : decode prog_27_method_2_code 232 = .ok (.iload 10, 2) := by decide +kernel
theorem d3_234 : decode prog_27_method_2_code 234 = .ok (.iload 5, 2) := by decide +kernel
theorem d3_236 : decode prog_27_method_2_code 236 = .ok (.if_icmp .ge 20, 3) := by decide +kernel
theorem d3_239 : decode prog_27_method_2_code 239 = .ok (.aload_n 0, 1) := by decide +kernel
theorem d3_240 : decode prog_27_method_2_code 240 = .ok (.getfield 7, 3) := by decide +kernel
theorem d3_243 : decode prog_27_method_2_code 243 = .ok (.aload 4, 2) := by decide +kernel
theorem d3_245 : decode prog_27_method_2_code 245 = .ok (.iload 10, 2) := by decide +kernel
theorem d3_247 : decode prog_27_method_2_code 247 = .ok (.iaload, 1) := by decide +kernel
theorem d3_248 : decode prog_27_method_2_code 248 = .ok (.dconst 1, 1) := by decide +kernel
theorem d3_249 : decode prog_27_method_2_code 249 = .ok (.dastore, 1) := by decide +kernel
theorem d3_250 : decode prog_27_method_2_code 250 = .ok (.iinc 10 1, 3) := by decide +kernel
theorem d3_253 : decode prog_27_method_2_code 253 = .ok (.goto (-21), 3) := by decide +kernel
theorem d3_256 : decode prog_27_method_2_code 256 = .ok (.return_, 1) := by decide +kernel
theorem ef_3 (m : MethodId) (x0 : Addr) (x1 : Addr) (x2 : Int32) (x3 : Int32) (x4 : Addr) : entryFrame m #[(.ref x0), (.ref x1), (.int x2), (.int x3), (.ref x4)] 12 = (mkF m 0 #[.val (.ref x0), .val (.ref x1), .val (.int x2), .val (.int x3), .val (.ref x4), .unset, .unset, .unset, .unset, .unset, .unset, .unset] []) := by first | (simp [entryFrame, mkF, argsToLocals, Value.category]; done) | rfl
def Q3 (Z : State) (a : Addr) (wt : Addr) (wk : Addr) (A : Int64) (x0 : UInt64) (x1 : UInt64) (th : Addr) (al : Addr) (kw : ClassId) (kt : ClassId) (ka : ClassId) (kk : ClassId) (y0 : UInt64) (y1 : UInt64) (y2 : UInt64) (z0 : Int32) (z1 : Int32) (z2 : Int32) (u0 : Int32) (u1 : Int32) (h0 : Heap) (n0 : Nat) (vX : Option Value) (hX : Heap) (lX : List Loc) : Prop := vX = none ∧ Fr n0 lX ∧ (Keep h0 hX [th, al, wk]) ∧ (Arv Z hX th kt .double (3 : Int32) [(.double y0), (.double y1), (.double FP.dconst1)] (.double (0 : UInt64))) ∧ (Arv Z hX al ka .int (3 : Int32) [(.int z0), (.int z1), (.int 2)] (.int 0)) ∧ (Arv Z hX wk kk .int (2 : Int32) [(.int 2), (.int u1)] (.int 0))
set_option maxRecDepth 65536 in
set_option maxHeartbeats 40000000 in
theorem rm3 (l : Launch) (Z : State) (a0 : Array Value) (hw : ∀ d ∈ tables_1, d.before a0 Z = true) (ws : List Jvm.Cond) (a : Addr) (wt : Addr) (wk : Addr) (A : Int64) (x0 : UInt64) (x1 : UInt64) (th : Addr) (al : Addr) (kw : ClassId) (kt : ClassId) (ka : ClassId) (kk : ClassId) (y0 : UInt64) (y1 : UInt64) (y2 : UInt64) (z0 : Int32) (z1 : Int32) (z2 : Int32) (u0 : Int32) (u1 : Int32) (h0 : Heap) (n0 : Nat) (Z0 : n0 ≤ h0.size) (pr0 : Exa Z h0 a "com/example/circlerank/circlerank/generate/AliasTable") (pr1 : Fld Z h0 a "com/example/circlerank/circlerank/generate/AliasTable" "threshold" "[D" (.ref th)) (pr2 : Fld Z h0 a "com/example/circlerank/circlerank/generate/AliasTable" "alias" "[I" (.ref al)) (pr3 : Arv Z h0 wt kw .double (3 : Int32) [(.double x0), (.double x1), (.double (FP.l2d A))] (.double (0 : UInt64))) (pr4 : Arv Z h0 th kt .double (3 : Int32) [(.double y0), (.double y1), (.double y2)] (.double (0 : UInt64))) (pr5 : Arv Z h0 al ka .int (3 : Int32) [(.int z0), (.int z1), (.int z2)] (.int 0)) (pr6 : Arv Z h0 wk kk .int (2 : Int32) [(.int u0), (.int u1)] (.int 0)) (pr7 : own_b A) (pr8 : n0 ≤ wk) (pr9 : n0 ≤ th) (pr10 : n0 ≤ al) (pr11 : a ≠ wt) (pr12 : a ≠ wk) (pr13 : a ≠ th) (pr14 : a ≠ al) (pr15 : wt ≠ wk) (pr16 : wt ≠ th) (pr17 : wt ≠ al) (pr18 : wk ≠ th) (pr19 : wk ≠ al) (pr20 : th ≠ al) :
    MetFree l (⟨"com/example/circlerank/circlerank/generate/AliasTable", "build", "([DII[I)V"⟩ : MethodName) (head1 (Jvm.Cond.code (⟨"com/example/circlerank/circlerank/generate/AliasTable", "build", "([DII[I)V"⟩ : MethodName) prog_27_method_2_code 12 none :: ws) ({ frames := 0, cells := 0, slots := 0, locals := 0 } : Room)) (fun aX uX => aX = #[(.ref a), (.ref wt), (.int 2), (.int 3), (.ref wk)] ∧ Z.Warmed39 uX.vm ∧ uX.heap = h0) (fun _ _ _ _ _ => True) (fun _ uX oX wX => ∃ vX lX, oX = .returned vX ∧ Q3 Z a wt wk A x0 x1 th al kw kt ka kk y0 y1 y2 z0 z1 z2 u0 u1 h0 n0 vX wX.heap lX ∧ FrameEnd uX oX wX lX ({ frames := 0, cells := 0, slots := 0, locals := 0 } : Room).cells ({ frames := 0, cells := 0, slots := 0, locals := 0 } : Room).slots) := by
  refine MetFree.of_bodySF (plainFor_of_name pn_0) hisR ?_
  intro p e s m args below meth c s₁ Bd hml0 hP hK
  obtain ⟨rfl, hZ, hh⟩ := hP
  have hx := Bd.exec
  have hby := Bd.bytes
  have hml : c.maxLocals = 12 := hml0
  have hown : s.vm.findClass "com/example/circlerank/circlerank/generate/AliasTable" = some m.cls := findClass_of_methodNamed Bd.named
  have hnm := (name_of_methodNamed Bd.named Bd.method).1
  have X0 : Stand p l e ({ frames := 0, cells := 0, slots := 0, locals := 0 } : Room) s m #[(.ref a), (.ref wt), (.int 2), (.int 3), (.ref wk)] below meth c s₁ [] 0 0 := Stand.of_body Bd
  have e0 : s₁.heap = h0 := by rw [← hh, Bd.state]; rfl
  have N0 := Fr.nil n0
  let ST : State := (s₁.setTop (entryFrame m #[(.ref a), (.ref wt), (.int 2), (.int 3), (.ref wk)] 12))
  have pre0 : ∀ t, Steps p.tables e below (s₁.setTop (mkF m 0 #[.val (.ref a), .val (.ref wt), .val (.int 2), .val (.int 3), .val (.ref wk), .unset, .unset, .unset, .unset, .unset, .unset, .unset] [])) t → Steps p.tables e below ST t := fun t k => castTop (ef_3 m a wt (2 : Int32) (3 : Int32) wk) k
  let LL1 : Array Slot := #[.val (.ref a), .val (.ref wt), .val (.int 2), .val (.int 3), .val (.ref wk), .unset, .unset, .unset, .unset, .unset, .unset, .unset]
  let LL2 : Array Slot := #[.val (.ref a), .val (.ref wt), .val (.int 2), .val (.int 3), .val (.ref wk), .val (.int 1), .unset, .unset, .unset, .unset, .unset, .unset]
  let LL3 : Array Slot := #[.val (.ref a), .val (.ref wt), .val (.int 2), .val (.int 3), .val (.ref wk), .val (.int 1), .val (.double FP.dconst0), .second, .unset, .unset, .unset, .unset]
  let LL4 : Array Slot := #[.val (.ref a), .val (.ref wt), .val (.int 2), .val (.int 3), .val (.ref wk), .val (.int 1), .val (.double FP.dconst0), .second, .val (.int 2), .unset, .unset, .unset]
  obtain ⟨cl_a5, Ar_a5, q_a5, S_a5, N_a5, H_a5, G_a5⟩ := id pr3
  have hin_a5 : ¬ ((2 : Int32) < 0 ∨ cl_a5.slots.size ≤ ((2 : Int32)).toNatClampNeg) := inb_of S_a5 ⟨by decide, by decide⟩
  have hat_a5 := Has.at (v := (.double (FP.l2d A))) H_a5 hin_a5 rfl
  let LL6 : Array Slot := #[.val (.ref a), .val (.ref wt), .val (.int 2), .val (.int 3), .val (.ref wk), .val (.int 1), .val (.double (FP.l2d A)), .second, .val (.int 2), .unset, .unset, .unset]
  let LL7 : Array Slot := #[.val (.ref a), .val (.ref wt), .val (.int 2), .val (.int 3), .val (.ref wk), .val (.int 1), .val (.double (FP.l2d A)), .second, .val (.int 3), .unset, .unset, .unset]
  let LL8 : Array Slot := #[.val (.ref a), .val (.ref wt), .val (.int 2), .val (.int 3), .val (.ref wk), .val (.int 1), .val (.double (FP.l2d A)), .second, .val (.int 0), .unset, .unset, .unset]
  let LL9 : Array Slot := #[.val (.ref a), .val (.ref wt), .val (.int 2), .val (.int 3), .val (.ref wk), .val (.int 1), .val (.double (FP.l2d A)), .second, .val (.int 0), .val (.int 1), .unset, .unset]
  let LL10 : Array Slot := #[.val (.ref a), .val (.ref wt), .val (.int 2), .val (.int 3), .val (.ref wk), .val (.int 1), .val (.double (FP.l2d A)), .second, .val (.int 0), .val (.int 1), .val (.int 2), .unset]
  have P11 : ∀ t, Steps p.tables e below (s₁.setTop (mkF m 45 LL10 [(.int 3), (.int 2)])) t → Steps p.tables e below ST t := by
    intro t kk
    refine pre0 _ ?_
    show Steps _ _ _ (s₁.setTop (mkF m 0 LL1 [])) _
    refine XS.iloadN X0.here hx rfl (hb hby d3_0) rfl ?_
    show Steps _ _ _ (s₁.setTop (mkF m 1 LL1 [(.int 3)])) _
    refine XS.iloadN X0.here hx rfl (hb hby d3_1) rfl ?_
    show Steps _ _ _ (s₁.setTop (mkF m 2 LL1 [(.int 2), (.int 3)])) _
    refine XS.isub X0.here hx rfl (hb hby d3_2) rfl ?_
    show Steps _ _ _ (s₁.setTop (mkF m 3 LL1 [(.int 1)])) _
    refine XS.istore X0.here hx rfl (hb hby d3_3) rfl (l' := LL2) rfl ?_
    show Steps _ _ _ (s₁.setTop (mkF m 5 LL2 [])) _
    refine XS.dconst0 X0.here hx rfl (hb hby d3_5) rfl ?_
    show Steps _ _ _ (s₁.setTop (mkF m 6 LL2 [(.double FP.dconst0)])) _
    refine XS.dstore X0.here hx rfl (hb hby d3_6) rfl (l' := LL3) rfl ?_
    show Steps _ _ _ (s₁.setTop (mkF m 8 LL3 [])) _
    refine XS.iloadN X0.here hx rfl (hb hby d3_8) rfl ?_
    show Steps _ _ _ (s₁.setTop (mkF m 9 LL3 [(.int 2)])) _
    refine XS.istore X0.here hx rfl (hb hby d3_9) rfl (l' := LL4) rfl ?_
    show Steps _ _ _ (s₁.setTop (mkF m 11 LL4 [])) _
    refine XS.iload X0.here hx rfl (hb hby d3_11) rfl ?_
    show Steps _ _ _ (s₁.setTop (mkF m 13 LL4 [(.int 2)])) _
    refine XS.iloadN X0.here hx rfl (hb hby d3_13) rfl ?_
    show Steps _ _ _ (s₁.setTop (mkF m 14 LL4 [(.int 3), (.int 2)])) _
    refine XS.icmpNo X0.here hx rfl (hb hby d3_14) rfl (XT.ii_ge_f (by decide)) ?_
    show Steps _ _ _ (s₁.setTop (mkF m 17 LL4 [])) _
    refine XS.dload X0.here hx rfl (hb hby d3_17) rfl ?_
    show Steps _ _ _ (s₁.setTop (mkF m 19 LL4 [(.double FP.dconst0)])) _
    refine XS.aloadN X0.here hx rfl (hb hby d3_19) rfl rfl ?_
    show Steps _ _ _ (s₁.setTop (mkF m 20 LL4 [(.ref wt), (.double FP.dconst0)])) _
    refine XS.iload X0.here hx rfl (hb hby d3_20) rfl ?_
    show Steps _ _ _ (s₁.setTop (mkF m 22 LL4 [(.int 2), (.ref wt), (.double FP.dconst0)])) _
    refine X0.daload hx (j := (2 : Int32)) (v := (.double (FP.l2d A))) (by rw [e0]; exact Ar_a5.1) (State.isArrayOf_alike hZ.alike Ar_a5.2.1) Ar_a5.2.2 hin_a5 hat_a5 (g := (mkF m 22 LL4 [(.int 2), (.ref wt), (.double FP.dconst0)])) rfl rfl (hb hby d3_22) _ ?_
    show Steps _ _ _ (s₁.setTop (mkF m 23 LL4 [(.double (FP.l2d A)), (.double FP.dconst0)])) _
    refine XS.daddS X0.here hx rfl (hb hby d3_23) rfl (nn_w (own_d0 pr7)) (own_d0 pr7) ?_
    show Steps _ _ _ (s₁.setTop (mkF m 24 LL4 [(.double (FP.l2d A))])) _
    refine XS.dstore X0.here hx rfl (hb hby d3_24) rfl (l' := LL6) rfl ?_
    show Steps _ _ _ (s₁.setTop (mkF m 26 LL6 [])) _
    refine XS.iinc X0.here hx rfl (hb hby d3_26) rfl (l' := LL7) rfl ?_
    show Steps _ _ _ (s₁.setTop (mkF m 29 LL7 [])) _
    refine XS.goto X0.here hx rfl (pc0 := 29) (pc' := 11) rfl (hb hby d3_29) (by decide) (by decide) ?_
    show Steps _ _ _ (s₁.setTop (mkF m 11 LL7 [])) _
    refine XS.iload X0.here hx rfl (hb hby d3_11) rfl ?_
    show Steps _ _ _ (s₁.setTop (mkF m 13 LL7 [(.int 3)])) _
    refine XS.iloadN X0.here hx rfl (hb hby d3_13) rfl ?_
    show Steps _ _ _ (s₁.setTop (mkF m 14 LL7 [(.int 3), (.int 3)])) _
    refine XS.icmpYes X0.here hx rfl (pc0 := 14) (pc' := 32) rfl (hb hby d3_14) rfl (XT.ii_ge_t (by decide)) (by decide) (by decide) ?_
    show Steps _ _ _ (s₁.setTop (mkF m 32 LL7 [])) _
    refine XS.iconst X0.here hx rfl (hb hby d3_32) ?_
    show Steps _ _ _ (s₁.setTop (mkF m 33 LL7 [(.int 0)])) _
    refine XS.istore X0.here hx rfl (hb hby d3_33) rfl (l' := LL8) rfl ?_
    show Steps _ _ _ (s₁.setTop (mkF m 35 LL8 [])) _
    refine XS.iload X0.here hx rfl (hb hby d3_35) rfl ?_
    show Steps _ _ _ (s₁.setTop (mkF m 37 LL8 [(.int 1)])) _
    refine XS.istore X0.here hx rfl (hb hby d3_37) rfl (l' := LL9) rfl ?_
    show Steps _ _ _ (s₁.setTop (mkF m 39 LL9 [])) _
    refine XS.iloadN X0.here hx rfl (hb hby d3_39) rfl ?_
    show Steps _ _ _ (s₁.setTop (mkF m 40 LL9 [(.int 2)])) _
    refine XS.istore X0.here hx rfl (hb hby d3_40) rfl (l' := LL10) rfl ?_
    show Steps _ _ _ (s₁.setTop (mkF m 42 LL10 [])) _
    refine XS.iload X0.here hx rfl (hb hby d3_42) rfl ?_
    show Steps _ _ _ (s₁.setTop (mkF m 44 LL10 [(.int 2)])) _
    refine XS.iloadN X0.here hx rfl (hb hby d3_44) rfl ?_
    show Steps _ _ _ (s₁.setTop (mkF m 45 LL10 [(.int 3), (.int 2)])) _
    exact kk
  obtain ⟨T12, X12, e12, st12⟩ := getF X0 hx hZ hown (host := "") (Or.inl (hw _ (List.mem_of_getElem? (i := 12) rfl))) Via.refl e0 pr1 (g := (mkF m 49 LL10 [(.ref a)])) rfl rfl (hb hby d3_49)
  obtain ⟨cl_a13, Ar_a13, q_a13, S_a13, N_a13, H_a13, G_a13⟩ := id pr3
  have hin_a13 : ¬ ((2 : Int32) < 0 ∨ cl_a13.slots.size ≤ ((2 : Int32)).toNatClampNeg) := inb_of S_a13 ⟨by decide, by decide⟩
  have hat_a13 := Has.at (v := (.double (FP.l2d A))) H_a13 hin_a13 rfl
  obtain ⟨cl_a14, Ar_a14, q_a14, S_a14, N_a14, H_a14, G_a14⟩ := id pr4
  have hin_a14 : ¬ ((2 : Int32) < 0 ∨ cl_a14.slots.size ≤ ((2 : Int32)).toNatClampNeg) := inb_of S_a14 ⟨by decide, by decide⟩
  obtain ⟨T15, h15, X15, e15, W15, st15⟩ := stD X12 hx hZ e12 Ar_a14 (j := (2 : Int32)) hin_a14 (g := (mkF m 65 LL10 [(.double (own_q A A)), (.int 2), (.ref th)])) rfl rfl (hb hby d3_65)
  have V15 : Arv Z h15 th kt .double (3 : Int32) [(.double y0), (.double y1), (.double (own_q A A))] (.double (0 : UInt64)) := Arv.set Ar_a14 q_a14 S_a14 N_a14 H_a14 G_a14 rfl W15 2 rfl (Nat.le_of_ble_eq_true rfl)
  have N15 := Fr.snoc X15 N0 pr9
  have f16 := (Fld.other W15 pr2 (Or.inl pr13))
  obtain ⟨T17, X17, e17, st17⟩ := getF X15 hx hZ hown (host := "") (Or.inl (hw _ (List.mem_of_getElem? (i := 14) rfl))) Via.refl e15 f16 (g := (mkF m 67 LL10 [(.ref a)])) rfl rfl (hb hby d3_67)
  have f18 := (pr5.other W15 (Ne.symm pr20))
  obtain ⟨cl_a19, Ar_a19, q_a19, S_a19, N_a19, H_a19, G_a19⟩ := id f18
  have hin_a19 : ¬ ((2 : Int32) < 0 ∨ cl_a19.slots.size ≤ ((2 : Int32)).toNatClampNeg) := inb_of S_a19 ⟨by decide, by decide⟩
  obtain ⟨T20, h20, X20, e20, W20, st20⟩ := stI X17 hx hZ e17 Ar_a19 (j := (2 : Int32)) hin_a19 (g := (mkF m 74 LL10 [(.int 2), (.int 2), (.ref al)])) rfl rfl (hb hby d3_74)
  have V20 : Arv Z h20 al ka .int (3 : Int32) [(.int z0), (.int z1), (.int 2)] (.int 0) := Arv.set Ar_a19 q_a19 S_a19 N_a19 H_a19 G_a19 rfl W20 2 rfl (Nat.le_of_ble_eq_true rfl)
  have N20 := Fr.snoc X20 N15 pr10
  have f21 := (Fld.other W20 (Fld.other W15 pr1 (Or.inl pr13)) (Or.inl pr14))
  obtain ⟨T22, X22, e22, st22⟩ := getF X20 hx hZ hown (host := "") (Or.inl (hw _ (List.mem_of_getElem? (i := 12) rfl))) Via.refl e20 f21 (g := (mkF m 76 LL10 [(.ref a)])) rfl rfl (hb hby d3_76)
  have f23 := (V15.other W20 pr20)
  obtain ⟨cl_a24, Ar_a24, q_a24, S_a24, N_a24, H_a24, G_a24⟩ := id f23
  have hin_a24 : ¬ ((2 : Int32) < 0 ∨ cl_a24.slots.size ≤ ((2 : Int32)).toNatClampNeg) := inb_of S_a24 ⟨by decide, by decide⟩
  have hat_a24 := Has.at (v := (.double (own_q A A))) H_a24 hin_a24 rfl
  let LL25 : Array Slot := #[.val (.ref a), .val (.ref wt), .val (.int 2), .val (.int 3), .val (.ref wk), .val (.int 1), .val (.double (FP.l2d A)), .second, .val (.int 0), .val (.int 0), .val (.int 2), .unset]
  have f26 := ((pr6.other W15 pr18).other W20 pr19)
  obtain ⟨cl_a27, Ar_a27, q_a27, S_a27, N_a27, H_a27, G_a27⟩ := id f26
  have hin_a27 : ¬ ((0 : Int32) < 0 ∨ cl_a27.slots.size ≤ ((0 : Int32)).toNatClampNeg) := inb_of S_a27 ⟨by decide, by decide⟩
  obtain ⟨T28, h28, X28, e28, W28, st28⟩ := stI X22 hx hZ e22 Ar_a27 (j := (0 : Int32)) hin_a27 (g := (mkF m 109 LL25 [(.int 2), (.int 0), (.ref wk)])) rfl rfl (hb hby d3_109)
  have V28 : Arv Z h28 wk kk .int (2 : Int32) [(.int 2), (.int u1)] (.int 0) := Arv.set Ar_a27 q_a27 S_a27 N_a27 H_a27 G_a27 rfl W28 0 rfl (Nat.le_of_ble_eq_true rfl)
  have N28 := Fr.snoc X28 N20 pr8
  have P29 : ∀ t, Steps p.tables e below (T28.setTop (mkF m 110 LL25 [])) t → Steps p.tables e below ST t := by
    intro t kk
    refine P11 _ ?_
    show Steps _ _ _ (s₁.setTop (mkF m 45 LL10 [(.int 3), (.int 2)])) _
    refine XS.icmpNo X0.here hx rfl (hb hby d3_45) rfl (XT.ii_ge_f (by decide)) ?_
    show Steps _ _ _ (s₁.setTop (mkF m 48 LL10 [])) _
    refine XS.aloadN X0.here hx rfl (hb hby d3_48) rfl rfl ?_
    show Steps _ _ _ (s₁.setTop (mkF m 49 LL10 [(.ref a)])) _
    refine st12 _ ?_
    show Steps _ _ _ (T12.setTop (mkF m 52 LL10 [(.ref th)])) _
    refine XS.iload X12.here hx rfl (hb hby d3_52) rfl ?_
    show Steps _ _ _ (T12.setTop (mkF m 54 LL10 [(.int 2), (.ref th)])) _
    refine XS.aloadN X12.here hx rfl (hb hby d3_54) rfl rfl ?_
    show Steps _ _ _ (T12.setTop (mkF m 55 LL10 [(.ref wt), (.int 2), (.ref th)])) _
    refine XS.iload X12.here hx rfl (hb hby d3_55) rfl ?_
    show Steps _ _ _ (T12.setTop (mkF m 57 LL10 [(.int 2), (.ref wt), (.int 2), (.ref th)])) _
    refine X12.daload hx (j := (2 : Int32)) (v := (.double (FP.l2d A))) (by rw [e12]; exact Ar_a13.1) (State.isArrayOf_alike hZ.alike Ar_a13.2.1) Ar_a13.2.2 hin_a13 hat_a13 (g := (mkF m 57 LL10 [(.int 2), (.ref wt), (.int 2), (.ref th)])) rfl rfl (hb hby d3_57) _ ?_
    show Steps _ _ _ (T12.setTop (mkF m 58 LL10 [(.double (FP.l2d A)), (.int 2), (.ref th)])) _
    refine XS.iload X12.here hx rfl (hb hby d3_58) rfl ?_
    show Steps _ _ _ (T12.setTop (mkF m 60 LL10 [(.int 1), (.double (FP.l2d A)), (.int 2), (.ref th)])) _
    refine XS.i2dS X12.here hx rfl (hb hby d3_60) rfl rfl ?_
    show Steps _ _ _ (T12.setTop (mkF m 61 LL10 [(.double (FP.i2d (1 : Int32))), (.double (FP.l2d A)), (.int 2), (.ref th)])) _
    refine XS.dmulS X12.here hx rfl (hb hby d3_61) rfl (nn_w (own_m1 pr7)) (own_m1 pr7) ?_
    show Steps _ _ _ (T12.setTop (mkF m 62 LL10 [(.double (FP.l2d A)), (.int 2), (.ref th)])) _
    refine XS.dload X12.here hx rfl (hb hby d3_62) rfl ?_
    show Steps _ _ _ (T12.setTop (mkF m 64 LL10 [(.double (FP.l2d A)), (.double (FP.l2d A)), (.int 2), (.ref th)])) _
    refine XS.ddivS X12.here hx rfl (hb hby d3_64) rfl (own_qC pr7).noNaN rfl ?_
    show Steps _ _ _ (T12.setTop (mkF m 65 LL10 [(.double (own_q A A)), (.int 2), (.ref th)])) _
    refine st15 _ ?_
    show Steps _ _ _ (T15.setTop (mkF m 66 LL10 [])) _
    refine XS.aloadN X15.here hx rfl (hb hby d3_66) rfl rfl ?_
    show Steps _ _ _ (T15.setTop (mkF m 67 LL10 [(.ref a)])) _
    refine st17 _ ?_
    show Steps _ _ _ (T17.setTop (mkF m 70 LL10 [(.ref al)])) _
    refine XS.iload X17.here hx rfl (hb hby d3_70) rfl ?_
    show Steps _ _ _ (T17.setTop (mkF m 72 LL10 [(.int 2), (.ref al)])) _
    refine XS.iload X17.here hx rfl (hb hby d3_72) rfl ?_
    show Steps _ _ _ (T17.setTop (mkF m 74 LL10 [(.int 2), (.int 2), (.ref al)])) _
    refine st20 _ ?_
    show Steps _ _ _ (T20.setTop (mkF m 75 LL10 [])) _
    refine XS.aloadN X20.here hx rfl (hb hby d3_75) rfl rfl ?_
    show Steps _ _ _ (T20.setTop (mkF m 76 LL10 [(.ref a)])) _
    refine st22 _ ?_
    show Steps _ _ _ (T22.setTop (mkF m 79 LL10 [(.ref th)])) _
    refine XS.iload X22.here hx rfl (hb hby d3_79) rfl ?_
    show Steps _ _ _ (T22.setTop (mkF m 81 LL10 [(.int 2), (.ref th)])) _
    refine X22.daload hx (j := (2 : Int32)) (v := (.double (own_q A A))) (by rw [e22]; exact Ar_a24.1) (State.isArrayOf_alike hZ.alike Ar_a24.2.1) Ar_a24.2.2 hin_a24 hat_a24 (g := (mkF m 81 LL10 [(.int 2), (.ref th)])) rfl rfl (hb hby d3_81) _ ?_
    show Steps _ _ _ (T22.setTop (mkF m 82 LL10 [(.double (own_q A A))])) _
    refine XS.dconst1 X22.here hx rfl (hb hby d3_82) rfl ?_
    show Steps _ _ _ (T22.setTop (mkF m 83 LL10 [(.double FP.dconst1), (.double (own_q A A))])) _
    refine XS.dcmpS X22.here hx rfl (hb hby d3_83) rfl rfl ?_
    show Steps _ _ _ (T22.setTop (mkF m 84 LL10 [(.int (cmpValue (FP.dcmp (own_q A A) FP.dconst1) .g))])) _
    refine XS.ifYes X22.here hx rfl (pc0 := 84) (pc' := 100) rfl (hb hby d3_84) rfl (XT.i0_ge_t (own_cmpC pr7)) (by decide) (by decide) ?_
    show Steps _ _ _ (T22.setTop (mkF m 100 LL10 [])) _
    refine XS.aload X22.here hx rfl (hb hby d3_100) rfl rfl ?_
    show Steps _ _ _ (T22.setTop (mkF m 102 LL10 [(.ref wk)])) _
    refine XS.iinc X22.here hx rfl (hb hby d3_102) rfl (l' := LL25) rfl ?_
    show Steps _ _ _ (T22.setTop (mkF m 105 LL25 [(.ref wk)])) _
    refine XS.iload X22.here hx rfl (hb hby d3_105) rfl ?_
    show Steps _ _ _ (T22.setTop (mkF m 107 LL25 [(.int 0), (.ref wk)])) _
    refine XS.iload X22.here hx rfl (hb hby d3_107) rfl ?_
    show Steps _ _ _ (T22.setTop (mkF m 109 LL25 [(.int 2), (.int 0), (.ref wk)])) _
    refine st28 _ ?_
    show Steps _ _ _ (T28.setTop (mkF m 110 LL25 [])) _
    exact kk
  let LL30 : Array Slot := #[.val (.ref a), .val (.ref wt), .val (.int 2), .val (.int 3), .val (.ref wk), .val (.int 1), .val (.double (FP.l2d A)), .second, .val (.int 0), .val (.int 0), .val (.int 3), .unset]
  let LL31 : Array Slot := #[.val (.ref a), .val (.ref wt), .val (.int 2), .val (.int 3), .val (.ref wk), .val (.int 1), .val (.double (FP.l2d A)), .second, .val (.int 0), .val (.int 0), .val (.int 0), .unset]
  have f32 := (Fld.other W28 f21 (Or.inl pr12))
  obtain ⟨T33, X33, e33, st33⟩ := getF X28 hx hZ hown (host := "") (Or.inl (hw _ (List.mem_of_getElem? (i := 12) rfl))) Via.refl e28 f32 (g := (mkF m 240 LL31 [(.ref a)])) rfl rfl (hb hby d3_240)
  obtain ⟨cl_a34, Ar_a34, q_a34, S_a34, N_a34, H_a34, G_a34⟩ := id V28
  have hin_a34 : ¬ ((0 : Int32) < 0 ∨ cl_a34.slots.size ≤ ((0 : Int32)).toNatClampNeg) := inb_of S_a34 ⟨by decide, by decide⟩
  have hat_a34 := Has.at (v := (.int 2)) H_a34 hin_a34 rfl
  have f35 := (f23.other W28 (Ne.symm pr18))
  obtain ⟨cl_a36, Ar_a36, q_a36, S_a36, N_a36, H_a36, G_a36⟩ := id f35
  have hin_a36 : ¬ ((2 : Int32) < 0 ∨ cl_a36.slots.size ≤ ((2 : Int32)).toNatClampNeg) := inb_of S_a36 ⟨by decide, by decide⟩
  obtain ⟨T37, h37, X37, e37, W37, st37⟩ := stD X33 hx hZ e33 Ar_a36 (j := (2 : Int32)) hin_a36 (g := (mkF m 249 LL31 [(.double FP.dconst1), (.int 2), (.ref th)])) rfl rfl (hb hby d3_249)
  have V37 : Arv Z h37 th kt .double (3 : Int32) [(.double y0), (.double y1), (.double FP.dconst1)] (.double (0 : UInt64)) := Arv.set Ar_a36 q_a36 S_a36 N_a36 H_a36 G_a36 rfl W37 2 rfl (Nat.le_of_ble_eq_true rfl)
  have N37 := Fr.snoc X37 N28 pr9
  let LL38 : Array Slot := #[.val (.ref a), .val (.ref wt), .val (.int 2), .val (.int 3), .val (.ref wk), .val (.int 1), .val (.double (FP.l2d A)), .second, .val (.int 0), .val (.int 0), .val (.int 1), .unset]
  have P39 : ∀ t, Steps p.tables e below (T37.setTop (mkF m 256 LL38 [])) t → Steps p.tables e below ST t := by
    intro t kk
    refine P29 _ ?_
    show Steps _ _ _ (T28.setTop (mkF m 110 LL25 [])) _
    refine XS.iinc X28.here hx rfl (hb hby d3_110) rfl (l' := LL30) rfl ?_
    show Steps _ _ _ (T28.setTop (mkF m 113 LL30 [])) _
    refine XS.goto X28.here hx rfl (pc0 := 113) (pc' := 42) rfl (hb hby d3_113) (by decide) (by decide) ?_
    show Steps _ _ _ (T28.setTop (mkF m 42 LL30 [])) _
    refine XS.iload X28.here hx rfl (hb hby d3_42) rfl ?_
    show Steps _ _ _ (T28.setTop (mkF m 44 LL30 [(.int 3)])) _
    refine XS.iloadN X28.here hx rfl (hb hby d3_44) rfl ?_
    show Steps _ _ _ (T28.setTop (mkF m 45 LL30 [(.int 3), (.int 3)])) _
    refine XS.icmpYes X28.here hx rfl (pc0 := 45) (pc' := 116) rfl (hb hby d3_45) rfl (XT.ii_ge_t (by decide)) (by decide) (by decide) ?_
    show Steps _ _ _ (T28.setTop (mkF m 116 LL30 [])) _
    refine XS.iload X28.here hx rfl (hb hby d3_116) rfl ?_
    show Steps _ _ _ (T28.setTop (mkF m 118 LL30 [(.int 0)])) _
    refine XS.ifYes X28.here hx rfl (pc0 := 118) (pc' := 201) rfl (hb hby d3_118) rfl (XT.i0_le_t (by decide)) (by decide) (by decide) ?_
    show Steps _ _ _ (T28.setTop (mkF m 201 LL30 [])) _
    refine XS.iconst X28.here hx rfl (hb hby d3_201) ?_
    show Steps _ _ _ (T28.setTop (mkF m 202 LL30 [(.int 0)])) _
    refine XS.istore X28.here hx rfl (hb hby d3_202) rfl (l' := LL31) rfl ?_
    show Steps _ _ _ (T28.setTop (mkF m 204 LL31 [])) _
    refine XS.iload X28.here hx rfl (hb hby d3_204) rfl ?_
    show Steps _ _ _ (T28.setTop (mkF m 206 LL31 [(.int 0)])) _
    refine XS.iload X28.here hx rfl (hb hby d3_206) rfl ?_
    show Steps _ _ _ (T28.setTop (mkF m 208 LL31 [(.int 0), (.int 0)])) _
    refine XS.icmpYes X28.here hx rfl (pc0 := 208) (pc' := 228) rfl (hb hby d3_208) rfl (XT.ii_ge_t (by decide)) (by decide) (by decide) ?_
    show Steps _ _ _ (T28.setTop (mkF m 228 LL31 [])) _
    refine XS.iload X28.here hx rfl (hb hby d3_228) rfl ?_
    show Steps _ _ _ (T28.setTop (mkF m 230 LL31 [(.int 0)])) _
    refine XS.istore X28.here hx rfl (hb hby d3_230) rfl (l' := LL31) rfl ?_
    show Steps _ _ _ (T28.setTop (mkF m 232 LL31 [])) _
    refine XS.iload X28.here hx rfl (hb hby d3_232) rfl ?_
    show Steps _ _ _ (T28.setTop (mkF m 234 LL31 [(.int 0)])) _
    refine XS.iload X28.here hx rfl (hb hby d3_234) rfl ?_
    show Steps _ _ _ (T28.setTop (mkF m 236 LL31 [(.int 1), (.int 0)])) _
    refine XS.icmpNo X28.here hx rfl (hb hby d3_236) rfl (XT.ii_ge_f (by decide)) ?_
    show Steps _ _ _ (T28.setTop (mkF m 239 LL31 [])) _
    refine XS.aloadN X28.here hx rfl (hb hby d3_239) rfl rfl ?_
    show Steps _ _ _ (T28.setTop (mkF m 240 LL31 [(.ref a)])) _
    refine st33 _ ?_
    show Steps _ _ _ (T33.setTop (mkF m 243 LL31 [(.ref th)])) _
    refine XS.aload X33.here hx rfl (hb hby d3_243) rfl rfl ?_
    show Steps _ _ _ (T33.setTop (mkF m 245 LL31 [(.ref wk), (.ref th)])) _
    refine XS.iload X33.here hx rfl (hb hby d3_245) rfl ?_
    show Steps _ _ _ (T33.setTop (mkF m 247 LL31 [(.int 0), (.ref wk), (.ref th)])) _
    refine X33.iaload hx (j := (0 : Int32)) (v := (.int 2)) (by rw [e33]; exact Ar_a34.1) (State.isArrayOf_alike hZ.alike Ar_a34.2.1) Ar_a34.2.2 hin_a34 hat_a34 (g := (mkF m 247 LL31 [(.int 0), (.ref wk), (.ref th)])) rfl rfl (hb hby d3_247) _ ?_
    show Steps _ _ _ (T33.setTop (mkF m 248 LL31 [(.int 2), (.ref th)])) _
    refine XS.dconst1 X33.here hx rfl (hb hby d3_248) rfl ?_
    show Steps _ _ _ (T33.setTop (mkF m 249 LL31 [(.double FP.dconst1), (.int 2), (.ref th)])) _
    refine st37 _ ?_
    show Steps _ _ _ (T37.setTop (mkF m 250 LL31 [])) _
    refine XS.iinc X37.here hx rfl (hb hby d3_250) rfl (l' := LL38) rfl ?_
    show Steps _ _ _ (T37.setTop (mkF m 253 LL38 [])) _
    refine XS.goto X37.here hx rfl (pc0 := 253) (pc' := 232) rfl (hb hby d3_253) (by decide) (by decide) ?_
    show Steps _ _ _ (T37.setTop (mkF m 232 LL38 [])) _
    refine XS.iload X37.here hx rfl (hb hby d3_232) rfl ?_
    show Steps _ _ _ (T37.setTop (mkF m 234 LL38 [(.int 1)])) _
    refine XS.iload X37.here hx rfl (hb hby d3_234) rfl ?_
    show Steps _ _ _ (T37.setTop (mkF m 236 LL38 [(.int 1), (.int 1)])) _
    refine XS.icmpYes X37.here hx rfl (pc0 := 236) (pc' := 256) rfl (hb hby d3_236) rfl (XT.ii_ge_t (by decide)) (by decide) (by decide) ?_
    show Steps _ _ _ (T37.setTop (mkF m 256 LL38 [])) _
    exact kk
  have k40 : Keep h0 h37 [th, al, wk] := (Keep.wr (Keep.wr (Keep.wr (Keep.wr (Keep.refl h0 [th, al, wk]) W15 (Or.inl (List.mem_of_getElem? (i := 0) rfl))) W20 (Or.inl (List.mem_of_getElem? (i := 1) rfl))) W28 (Or.inl (List.mem_of_getElem? (i := 2) rfl))) W37 (Or.inl (List.mem_of_getElem? (i := 0) rfl)))
  have f41 := ((V20.other W28 (Ne.symm pr19)).other W37 (Ne.symm pr20))
  have f42 := (V28.other W37 pr18)
  obtain ⟨fs, hr, hrun, hended, hW, hsame⟩ := X37.leave (v := none) (fun _ => rfl)
  refine ⟨_, _, P39 _ ?_, hrun, hended, _, _, rfl, ?_, ⟨_, rfl⟩, hW, hsame.mono (by decide) (by decide)⟩
  · exact X37.returnOut hx Bd.returns (hb hby d3_256) hr
  · show Q3 Z a wt wk A x0 x1 th al kw kt ka kk y0 y1 y2 z0 z1 z2 u0 u1 h0 n0 _ T37.heap _
    rw [e37]
    exact ⟨rfl, N37, k40, V37, f41, f42⟩
theorem d4_0 : decode prog_27_method_3_code 0 = .ok (.iload_n 1, 1) := by decide +kernel
theorem d4_1 : decode prog_27_method_3_code 1 = .ok (.lload_n 3, 1) := by decide +kernel
theorem d4_2 : decode prog_27_method_3_code 2 = .ok (.bipush 32, 2) := by decide +kernel
theorem d4_4 : decode prog_27_method_3_code 4 = .ok (.lushr, 1) := by decide +kernel
theorem d4_5 : decode prog_27_method_3_code 5 = .ok (.iload_n 2, 1) := by decide +kernel
theorem d4_6 : decode prog_27_method_3_code 6 = .ok (.iload_n 1, 1) := by decide +kernel
theorem d4_7 : decode prog_27_method_3_code 7 = .ok (.isub, 1) := by decide +kernel
theorem d4_8 : decode prog_27_method_3_code 8 = .ok (.i2l, 1) := by decide +kernel
theorem d4_9 : decode prog_27_method_3_code 9 = .ok (.lmul, 1) := by decide +kernel
theorem d4_10 : decode prog_27_method_3_code 10 = .ok (.bipush 32, 2) := by decide +kernel
theorem d4_12 : decode prog_27_method_3_code 12 = .ok (.lushr, 1) := by decide +kernel
theorem d4_13 : decode prog_27_method_3_code 13 = .ok (.l2i, 1) := by decide +kernel
theorem d4_14 : decode prog_27_method_3_code 14 = .ok (.iadd, 1) := by decide +kernel
theorem d4_15 : decode prog_27_method_3_code 15 = .ok (.istore 5, 2) := by decide +kernel
theorem d4_17 : decode prog_27_method_3_code 17 = .ok (.lload_n 3, 1) := by decide +kernel
theorem d4_18 : decode prog_27_method_3_code 18 = .ok (.ldc2_w 17, 3) := by decide +kernel
theorem d4_21 : decode prog_27_method_3_code 21 = .ok (.land, 1) := by decide +kernel
theorem d4_22 : decode prog_27_method_3_code 22 = .ok (.l2d, 1) := by decide +kernel
theorem d4_23 : decode prog_27_method_3_code 23 = .ok (.ldc2_w 19, 3) := by decide +kernel
theorem d4_26 : decode prog_27_method_3_code 26 = .ok (.dmul, 1) := by decide +kernel
theorem d4_27 : decode prog_27_method_3_code 27 = .ok (.aload_n 0, 1) := by decide +kernel
theorem d4_28 : decode prog_27_method_3_code 28 = .ok (.getfield 7, 3) := by decide +kernel
theorem d4_31 : decode prog_27_method_3_code 31 = .ok (.iload 5, 2) := by decide +kernel
theorem d4_33 : decode prog_27_method_3_code 33 = .ok (.daload, 1) := by decide +kernel
theorem d4_34 : decode prog_27_method_3_code 34 = .ok (.dcmp .g, 1) := by decide +kernel
theorem d4_35 : decode prog_27_method_3_code 35 = .ok (.ifCond .ge 8, 3) := by decide +kernel
theorem d4_38 : decode prog_27_method_3_code 38 = .ok (.iload 5, 2) := by decide +kernel
theorem d4_40 : decode prog_27_method_3_code 40 = .ok (.goto 10, 3) := by decide +kernel
theorem d4_43 : decode prog_27_method_3_code 43 = .ok (.aload_n 0, 1) := by decide +kernel
theorem d4_44 : decode prog_27_method_3_code 44 = .ok (.getfield 13, 3) := by decide +kernel
theorem d4_47 : decode prog_27_method_3_code 47 = .ok (.iload 5, 2) := by decide +kernel
theorem d4_49 : decode prog_27_method_3_code 49 = .ok (.iaload, 1) := by decide +kernel
theorem d4_50 : decode prog_27_method_3_code 50 = .ok (.ireturn, 1) := by decide +kernel
theorem ef_4 (m : MethodId) (x0 : Addr) (x1 : Int32) (x2 : Int32) (x3 : Int64) : entryFrame m #[(.ref x0), (.int x1), (.int x2), (.long x3)] 6 = (mkF m 0 #[.val (.ref x0), .val (.int x1), .val (.int x2), .val (.long x3), .second, .unset] []) := by first | (simp [entryFrame, mkF, argsToLocals, Value.category]; done) | rfl
def F4 (r : Int64) (y0 : UInt64) (z0 : Int32) : Int32 := (if (cmpValue (FP.dcmp (own_u (r &&& (4294967295 : Int64))) y0) .g) < (0 : Int32) then (0 : Int32) else z0)
def Q4 (Z : State) (a : Addr) (r : Int64) (th : Addr) (al : Addr) (kt : ClassId) (ka : ClassId) (y0 : UInt64) (y1 : UInt64) (y2 : UInt64) (z0 : Int32) (z1 : Int32) (z2 : Int32) (h0 : Heap) (n0 : Nat) (vX : Option Value) (hX : Heap) (lX : List Loc) : Prop := vX = some (.int (F4 r y0 z0)) ∧ Fr n0 lX ∧ (hX = h0)
set_option maxRecDepth 65536 in
set_option maxHeartbeats 40000000 in
theorem rm4 (l : Launch) (Z : State) (a0 : Array Value) (hw : ∀ d ∈ tables_1, d.before a0 Z = true) (ws : List Jvm.Cond) (a : Addr) (r : Int64) (th : Addr) (al : Addr) (kt : ClassId) (ka : ClassId) (y0 : UInt64) (y1 : UInt64) (y2 : UInt64) (z0 : Int32) (z1 : Int32) (z2 : Int32) (h0 : Heap) (n0 : Nat) (Z0 : n0 ≤ h0.size) (pr0 : Exa Z h0 a "com/example/circlerank/circlerank/generate/AliasTable") (pr1 : Fld Z h0 a "com/example/circlerank/circlerank/generate/AliasTable" "threshold" "[D" (.ref th)) (pr2 : Fld Z h0 a "com/example/circlerank/circlerank/generate/AliasTable" "alias" "[I" (.ref al)) (pr3 : Arv Z h0 th kt .double (3 : Int32) [(.double y0), (.double y1), (.double y2)] (.double (0 : UInt64))) (pr4 : Arv Z h0 al ka .int (3 : Int32) [(.int z0), (.int z1), (.int z2)] (.int 0)) (pr5 : ((0 : Int32) + (((((((((r).toUInt64 >>> ((32 : Int32) &&& 0x3f).toInt64.toUInt64).toInt64) * (((2 : Int32)).toInt64))).toUInt64 >>> ((32 : Int32) &&& 0x3f).toInt64.toUInt64).toInt64)).toInt32)) = (0 : Int32)) :
    MetFree l (⟨"com/example/circlerank/circlerank/generate/AliasTable", "draw", "(IIJ)I"⟩ : MethodName) (head1 (Jvm.Cond.code (⟨"com/example/circlerank/circlerank/generate/AliasTable", "draw", "(IIJ)I"⟩ : MethodName) prog_27_method_3_code 6 (some .int) :: ws) ({ frames := 0, cells := 0, slots := 0, locals := 0 } : Room)) (fun aX uX => aX = #[(.ref a), (.int 0), (.int 2), (.long r)] ∧ Z.Warmed39 uX.vm ∧ uX.heap = h0) (fun _ _ _ _ _ => True) (fun _ uX oX wX => ∃ vX lX, oX = .returned vX ∧ Q4 Z a r th al kt ka y0 y1 y2 z0 z1 z2 h0 n0 vX wX.heap lX ∧ FrameEnd uX oX wX lX ({ frames := 0, cells := 0, slots := 0, locals := 0 } : Room).cells ({ frames := 0, cells := 0, slots := 0, locals := 0 } : Room).slots) := by
  refine MetFree.of_bodySF (plainFor_of_name pn_0) hisR ?_
  intro p e s m args below meth c s₁ Bd hml0 hP hK
  obtain ⟨rfl, hZ, hh⟩ := hP
  have hx := Bd.exec
  have hby := Bd.bytes
  have hml : c.maxLocals = 6 := hml0
  have hown : s.vm.findClass "com/example/circlerank/circlerank/generate/AliasTable" = some m.cls := findClass_of_methodNamed Bd.named
  have hnm := (name_of_methodNamed Bd.named Bd.method).1
  have X0 : Stand p l e ({ frames := 0, cells := 0, slots := 0, locals := 0 } : Room) s m #[(.ref a), (.int 0), (.int 2), (.long r)] below meth c s₁ [] 0 0 := Stand.of_body Bd
  have e0 : s₁.heap = h0 := by rw [← hh, Bd.state]; rfl
  have N0 := Fr.nil n0
  let ST : State := (s₁.setTop (entryFrame m #[(.ref a), (.int 0), (.int 2), (.long r)] 6))
  have pre0 : ∀ t, Steps p.tables e below (s₁.setTop (mkF m 0 #[.val (.ref a), .val (.int 0), .val (.int 2), .val (.long r), .second, .unset] [])) t → Steps p.tables e below ST t := fun t k => castTop (ef_4 m a (0 : Int32) (2 : Int32) r) k
  let LL1 : Array Slot := #[.val (.ref a), .val (.int 0), .val (.int 2), .val (.long r), .second, .unset]
  let LL2 : Array Slot := #[.val (.ref a), .val (.int 0), .val (.int 2), .val (.long r), .second, .val (.int ((0 : Int32) + (((((((((r).toUInt64 >>> ((32 : Int32) &&& 0x3f).toInt64.toUInt64).toInt64) * (((2 : Int32)).toInt64))).toUInt64 >>> ((32 : Int32) &&& 0x3f).toInt64.toUInt64).toInt64)).toInt32)))]
  have P3 : ∀ t, Steps p.tables e below (s₁.setTop (mkF m 17 LL2 [])) t → Steps p.tables e below ST t := by
    intro t kk
    refine pre0 _ ?_
    show Steps _ _ _ (s₁.setTop (mkF m 0 LL1 [])) _
    refine XS.iloadN X0.here hx rfl (hb hby d4_0) rfl ?_
    show Steps _ _ _ (s₁.setTop (mkF m 1 LL1 [(.int 0)])) _
    refine XS.lloadN X0.here hx rfl (hb hby d4_1) rfl ?_
    show Steps _ _ _ (s₁.setTop (mkF m 2 LL1 [(.long r), (.int 0)])) _
    refine XS.bipush X0.here hx rfl (hb hby d4_2) ?_
    show Steps _ _ _ (s₁.setTop (mkF m 4 LL1 [(.int 32), (.long r), (.int 0)])) _
    refine XS.lushr X0.here hx rfl (hb hby d4_4) rfl ?_
    show Steps _ _ _ (s₁.setTop (mkF m 5 LL1 [(.long (((r).toUInt64 >>> ((32 : Int32) &&& 0x3f).toInt64.toUInt64).toInt64)), (.int 0)])) _
    refine XS.iloadN X0.here hx rfl (hb hby d4_5) rfl ?_
    show Steps _ _ _ (s₁.setTop (mkF m 6 LL1 [(.int 2), (.long (((r).toUInt64 >>> ((32 : Int32) &&& 0x3f).toInt64.toUInt64).toInt64)), (.int 0)])) _
    refine XS.iloadN X0.here hx rfl (hb hby d4_6) rfl ?_
    show Steps _ _ _ (s₁.setTop (mkF m 7 LL1 [(.int 0), (.int 2), (.long (((r).toUInt64 >>> ((32 : Int32) &&& 0x3f).toInt64.toUInt64).toInt64)), (.int 0)])) _
    refine XS.isub X0.here hx rfl (hb hby d4_7) rfl ?_
    show Steps _ _ _ (s₁.setTop (mkF m 8 LL1 [(.int 2), (.long (((r).toUInt64 >>> ((32 : Int32) &&& 0x3f).toInt64.toUInt64).toInt64)), (.int 0)])) _
    refine XS.i2l X0.here hx rfl (hb hby d4_8) rfl ?_
    show Steps _ _ _ (s₁.setTop (mkF m 9 LL1 [(.long (((2 : Int32)).toInt64)), (.long (((r).toUInt64 >>> ((32 : Int32) &&& 0x3f).toInt64.toUInt64).toInt64)), (.int 0)])) _
    refine XS.lmul X0.here hx rfl (hb hby d4_9) rfl ?_
    show Steps _ _ _ (s₁.setTop (mkF m 10 LL1 [(.long ((((r).toUInt64 >>> ((32 : Int32) &&& 0x3f).toInt64.toUInt64).toInt64) * (((2 : Int32)).toInt64))), (.int 0)])) _
    refine XS.bipush X0.here hx rfl (hb hby d4_10) ?_
    show Steps _ _ _ (s₁.setTop (mkF m 12 LL1 [(.int 32), (.long ((((r).toUInt64 >>> ((32 : Int32) &&& 0x3f).toInt64.toUInt64).toInt64) * (((2 : Int32)).toInt64))), (.int 0)])) _
    refine XS.lushr X0.here hx rfl (hb hby d4_12) rfl ?_
    show Steps _ _ _ (s₁.setTop (mkF m 13 LL1 [(.long (((((((r).toUInt64 >>> ((32 : Int32) &&& 0x3f).toInt64.toUInt64).toInt64) * (((2 : Int32)).toInt64))).toUInt64 >>> ((32 : Int32) &&& 0x3f).toInt64.toUInt64).toInt64)), (.int 0)])) _
    refine XS.l2i X0.here hx rfl (hb hby d4_13) rfl ?_
    show Steps _ _ _ (s₁.setTop (mkF m 14 LL1 [(.int (((((((((r).toUInt64 >>> ((32 : Int32) &&& 0x3f).toInt64.toUInt64).toInt64) * (((2 : Int32)).toInt64))).toUInt64 >>> ((32 : Int32) &&& 0x3f).toInt64.toUInt64).toInt64)).toInt32)), (.int 0)])) _
    refine XS.iadd X0.here hx rfl (hb hby d4_14) rfl ?_
    show Steps _ _ _ (s₁.setTop (mkF m 15 LL1 [(.int ((0 : Int32) + (((((((((r).toUInt64 >>> ((32 : Int32) &&& 0x3f).toInt64.toUInt64).toInt64) * (((2 : Int32)).toInt64))).toUInt64 >>> ((32 : Int32) &&& 0x3f).toInt64.toUInt64).toInt64)).toInt32)))])) _
    refine XS.istore X0.here hx rfl (hb hby d4_15) rfl (l' := LL2) rfl ?_
    show Steps _ _ _ (s₁.setTop (mkF m 17 LL2 [])) _
    exact kk
  have hs4 := pr5
  · skip
    let LL6 : Array Slot := #[.val (.ref a), .val (.int 0), .val (.int 2), .val (.long r), .second, .val (.int 0)]
    have P5 : ∀ t, Steps p.tables e below (s₁.setTop (mkF m 17 LL6 [])) t → Steps p.tables e below ST t := by
      intro t kk
      refine P3 _ ?_
      show Steps _ _ _ (s₁.setTop (mkF m 17 #[.val (.ref a), .val (.int 0), .val (.int 2), .val (.long r), .second, .val (.int ((0 : Int32) + (((((((((r).toUInt64 >>> ((32 : Int32) &&& 0x3f).toInt64.toUInt64).toInt64) * (((2 : Int32)).toInt64))).toUInt64 >>> ((32 : Int32) &&& 0x3f).toInt64.toUInt64).toInt64)).toInt32)))] [])) t
      rw [hs4]
      exact kk
    obtain ⟨T7, X7, e7, st7⟩ := getF X0 hx hZ hown (host := "") (Or.inl (hw _ (List.mem_of_getElem? (i := 12) rfl))) Via.refl e0 pr1 (g := (mkF m 28 LL6 [(.ref a), (.double (own_u (r &&& (4294967295 : Int64))))])) rfl rfl (hb hby d4_28)
    obtain ⟨cl_a8, Ar_a8, q_a8, S_a8, N_a8, H_a8, G_a8⟩ := id pr3
    have hin_a8 : ¬ ((0 : Int32) < 0 ∨ cl_a8.slots.size ≤ ((0 : Int32)).toNatClampNeg) := inb_of S_a8 ⟨by decide, by decide⟩
    have hat_a8 := Has.at (v := (.double y0)) H_a8 hin_a8 rfl
    have P9 : ∀ t, Steps p.tables e below (T7.setTop (mkF m 35 LL6 [(.int (cmpValue (FP.dcmp (own_u (r &&& (4294967295 : Int64))) y0) .g))])) t → Steps p.tables e below ST t := by
      intro t kk
      refine P5 _ ?_
      show Steps _ _ _ (s₁.setTop (mkF m 17 LL6 [])) _
      refine XS.lloadN X0.here hx rfl (hb hby d4_17) rfl ?_
      show Steps _ _ _ (s₁.setTop (mkF m 18 LL6 [(.long r)])) _
      refine X0.ldc2Long hx hown (mvT hZ (hw _ (List.mem_of_getElem? (i := 27) rfl))) (g := (mkF m 18 LL6 [(.long r)])) rfl (hb hby d4_18) _ ?_
      show Steps _ _ _ (s₁.setTop (mkF m 21 LL6 [(.long (4294967295 : Int64)), (.long r)])) _
      refine XS.land X0.here hx rfl (hb hby d4_21) rfl ?_
      show Steps _ _ _ (s₁.setTop (mkF m 22 LL6 [(.long (r &&& (4294967295 : Int64)))])) _
      refine XS.l2dS X0.here hx rfl (hb hby d4_22) rfl rfl ?_
      show Steps _ _ _ (s₁.setTop (mkF m 23 LL6 [(.double (FP.l2d (r &&& (4294967295 : Int64))))])) _
      refine X0.ldc2DoubleC hx hown (mvT hZ (hw _ (List.mem_of_getElem? (i := 28) rfl))) (g := (mkF m 23 LL6 [(.double (FP.l2d (r &&& (4294967295 : Int64))))])) rfl (hb hby d4_23) _ ?_
      show Steps _ _ _ (s₁.setTop (mkF m 26 LL6 [(.double (4463067230724161536 : UInt64)), (.double (FP.l2d (r &&& (4294967295 : Int64))))])) _
      refine XS.dmulS X0.here hx rfl (hb hby d4_26) rfl (own_unn r) rfl ?_
      show Steps _ _ _ (s₁.setTop (mkF m 27 LL6 [(.double (own_u (r &&& (4294967295 : Int64))))])) _
      refine XS.aloadN X0.here hx rfl (hb hby d4_27) rfl rfl ?_
      show Steps _ _ _ (s₁.setTop (mkF m 28 LL6 [(.ref a), (.double (own_u (r &&& (4294967295 : Int64))))])) _
      refine st7 _ ?_
      show Steps _ _ _ (T7.setTop (mkF m 31 LL6 [(.ref th), (.double (own_u (r &&& (4294967295 : Int64))))])) _
      refine XS.iload X7.here hx rfl (hb hby d4_31) rfl ?_
      show Steps _ _ _ (T7.setTop (mkF m 33 LL6 [(.int 0), (.ref th), (.double (own_u (r &&& (4294967295 : Int64))))])) _
      refine X7.daload hx (j := (0 : Int32)) (v := (.double y0)) (by rw [e7]; exact Ar_a8.1) (State.isArrayOf_alike hZ.alike Ar_a8.2.1) Ar_a8.2.2 hin_a8 hat_a8 (g := (mkF m 33 LL6 [(.int 0), (.ref th), (.double (own_u (r &&& (4294967295 : Int64))))])) rfl rfl (hb hby d4_33) _ ?_
      show Steps _ _ _ (T7.setTop (mkF m 34 LL6 [(.double y0), (.double (own_u (r &&& (4294967295 : Int64))))])) _
      refine XS.dcmpS X7.here hx rfl (hb hby d4_34) rfl rfl ?_
      show Steps _ _ _ (T7.setTop (mkF m 35 LL6 [(.int (cmpValue (FP.dcmp (own_u (r &&& (4294967295 : Int64))) y0) .g))])) _
      exact kk
    by_cases c10 : (cmpValue (FP.dcmp (own_u (r &&& (4294967295 : Int64))) y0) .g) < (0 : Int32)
    · skip
      have P11 : ∀ t, Steps p.tables e below (T7.setTop (mkF m 50 LL6 [(.int 0)])) t → Steps p.tables e below ST t := by
        intro t kk
        refine P9 _ ?_
        show Steps _ _ _ (T7.setTop (mkF m 35 LL6 [(.int (cmpValue (FP.dcmp (own_u (r &&& (4294967295 : Int64))) y0) .g))])) _
        refine XS.ifNo X7.here hx rfl (hb hby d4_35) rfl (XT.i0_ge_f c10) ?_
        show Steps _ _ _ (T7.setTop (mkF m 38 LL6 [])) _
        refine XS.iload X7.here hx rfl (hb hby d4_38) rfl ?_
        show Steps _ _ _ (T7.setTop (mkF m 40 LL6 [(.int 0)])) _
        refine XS.goto X7.here hx rfl (pc0 := 40) (pc' := 50) rfl (hb hby d4_40) (by decide) (by decide) ?_
        show Steps _ _ _ (T7.setTop (mkF m 50 LL6 [(.int 0)])) _
        exact kk
      obtain ⟨fs, hr, hrun, hended, hW, hsame⟩ := X7.leave (v := some (.int 0)) (fun h => by rw [Bd.returns] at h; cases h)
      refine ⟨_, _, P11 _ ?_, hrun, hended, _, _, rfl, ?_, ⟨_, rfl⟩, hW, hsame.mono (by decide) (by decide)⟩
      · exact retI X7 hx Bd.returns (hb hby d4_50) hr
      · show Q4 Z a r th al kt ka y0 y1 y2 z0 z1 z2 h0 n0 _ T7.heap _
        rw [e7]
        exact ⟨congrArg (fun z => some (Value.int z)) (show (F4 r y0 z0) = _ from ((if_pos c10).trans rfl)).symm, N0, rfl⟩
    · skip
      obtain ⟨T12, X12, e12, st12⟩ := getF X7 hx hZ hown (host := "") (Or.inl (hw _ (List.mem_of_getElem? (i := 14) rfl))) Via.refl e7 pr2 (g := (mkF m 44 LL6 [(.ref a)])) rfl rfl (hb hby d4_44)
      obtain ⟨cl_a13, Ar_a13, q_a13, S_a13, N_a13, H_a13, G_a13⟩ := id pr4
      have hin_a13 : ¬ ((0 : Int32) < 0 ∨ cl_a13.slots.size ≤ ((0 : Int32)).toNatClampNeg) := inb_of S_a13 ⟨by decide, by decide⟩
      have hat_a13 := Has.at (v := (.int z0)) H_a13 hin_a13 rfl
      have P14 : ∀ t, Steps p.tables e below (T12.setTop (mkF m 50 LL6 [(.int z0)])) t → Steps p.tables e below ST t := by
        intro t kk
        refine P9 _ ?_
        show Steps _ _ _ (T7.setTop (mkF m 35 LL6 [(.int (cmpValue (FP.dcmp (own_u (r &&& (4294967295 : Int64))) y0) .g))])) _
        refine XS.ifYes X7.here hx rfl (pc0 := 35) (pc' := 43) rfl (hb hby d4_35) rfl (XT.i0_ge_t c10) (by decide) (by decide) ?_
        show Steps _ _ _ (T7.setTop (mkF m 43 LL6 [])) _
        refine XS.aloadN X7.here hx rfl (hb hby d4_43) rfl rfl ?_
        show Steps _ _ _ (T7.setTop (mkF m 44 LL6 [(.ref a)])) _
        refine st12 _ ?_
        show Steps _ _ _ (T12.setTop (mkF m 47 LL6 [(.ref al)])) _
        refine XS.iload X12.here hx rfl (hb hby d4_47) rfl ?_
        show Steps _ _ _ (T12.setTop (mkF m 49 LL6 [(.int 0), (.ref al)])) _
        refine X12.iaload hx (j := (0 : Int32)) (v := (.int z0)) (by rw [e12]; exact Ar_a13.1) (State.isArrayOf_alike hZ.alike Ar_a13.2.1) Ar_a13.2.2 hin_a13 hat_a13 (g := (mkF m 49 LL6 [(.int 0), (.ref al)])) rfl rfl (hb hby d4_49) _ ?_
        show Steps _ _ _ (T12.setTop (mkF m 50 LL6 [(.int z0)])) _
        exact kk
      obtain ⟨fs, hr, hrun, hended, hW, hsame⟩ := X12.leave (v := some (.int z0)) (fun h => by rw [Bd.returns] at h; cases h)
      refine ⟨_, _, P14 _ ?_, hrun, hended, _, _, rfl, ?_, ⟨_, rfl⟩, hW, hsame.mono (by decide) (by decide)⟩
      · exact retI X12 hx Bd.returns (hb hby d4_50) hr
      · show Q4 Z a r th al kt ka y0 y1 y2 z0 z1 z2 h0 n0 _ T12.heap _
        rw [e12]
        exact ⟨congrArg (fun z => some (Value.int z)) (show (F4 r y0 z0) = _ from ((if_neg c10).trans rfl)).symm, N0, rfl⟩
theorem d5_0 : decode prog_27_method_3_code 0 = .ok (.iload_n 1, 1) := by decide +kernel
theorem d5_1 : decode prog_27_method_3_code 1 = .ok (.lload_n 3, 1) := by decide +kernel
theorem d5_2 : decode prog_27_method_3_code 2 = .ok (.bipush 32, 2) := by decide +kernel
theorem d5_4 : decode prog_27_method_3_code 4 = .ok (.lushr, 1) := by decide +kernel
theorem d5_5 : decode prog_27_method_3_code 5 = .ok (.iload_n 2, 1) := by decide +kernel
theorem d5_6 : decode prog_27_method_3_code 6 = .ok (.iload_n 1, 1) := by decide +kernel
theorem d5_7 : decode prog_27_method_3_code 7 = .ok (.isub, 1) := by decide +kernel
theorem d5_8 : decode prog_27_method_3_code 8 = .ok (.i2l, 1) := by decide +kernel
theorem d5_9 : decode prog_27_method_3_code 9 = .ok (.lmul, 1) := by decide +kernel
theorem d5_10 : decode prog_27_method_3_code 10 = .ok (.bipush 32, 2) := by decide +kernel
theorem d5_12 : decode prog_27_method_3_code 12 = .ok (.lushr, 1) := by decide +kernel
theorem d5_13 : decode prog_27_method_3_code 13 = .ok (.l2i, 1) := by decide +kernel
theorem d5_14 : decode prog_27_method_3_code 14 = .ok (.iadd, 1) := by decide +kernel
theorem d5_15 : decode prog_27_method_3_code 15 = .ok (.istore 5, 2) := by decide +kernel
theorem d5_17 : decode prog_27_method_3_code 17 = .ok (.lload_n 3, 1) := by decide +kernel
theorem d5_18 : decode prog_27_method_3_code 18 = .ok (.ldc2_w 17, 3) := by decide +kernel
theorem d5_21 : decode prog_27_method_3_code 21 = .ok (.land, 1) := by decide +kernel
theorem d5_22 : decode prog_27_method_3_code 22 = .ok (.l2d, 1) := by decide +kernel
theorem d5_23 : decode prog_27_method_3_code 23 = .ok (.ldc2_w 19, 3) := by decide +kernel
theorem d5_26 : decode prog_27_method_3_code 26 = .ok (.dmul, 1) := by decide +kernel
theorem d5_27 : decode prog_27_method_3_code 27 = .ok (.aload_n 0, 1) := by decide +kernel
theorem d5_28 : decode prog_27_method_3_code 28 = .ok (.getfield 7, 3) := by decide +kernel
theorem d5_31 : decode prog_27_method_3_code 31 = .ok (.iload 5, 2) := by decide +kernel
theorem d5_33 : decode prog_27_method_3_code 33 = .ok (.daload, 1) := by decide +kernel
theorem d5_34 : decode prog_27_method_3_code 34 = .ok (.dcmp .g, 1) := by decide +kernel
theorem d5_35 : decode prog_27_method_3_code 35 = .ok (.ifCond .ge 8, 3) := by decide +kernel
theorem d5_38 : decode prog_27_method_3_code 38 = .ok (.iload 5, 2) := by decide +kernel
theorem d5_40 : decode prog_27_method_3_code 40 = .ok (.goto 10, 3) := by decide +kernel
theorem d5_43 : decode prog_27_method_3_code 43 = .ok (.aload_n 0, 1) := by decide +kernel
theorem d5_44 : decode prog_27_method_3_code 44 = .ok (.getfield 13, 3) := by decide +kernel
theorem d5_47 : decode prog_27_method_3_code 47 = .ok (.iload 5, 2) := by decide +kernel
theorem d5_49 : decode prog_27_method_3_code 49 = .ok (.iaload, 1) := by decide +kernel
theorem d5_50 : decode prog_27_method_3_code 50 = .ok (.ireturn, 1) := by decide +kernel
theorem ef_5 (m : MethodId) (x0 : Addr) (x1 : Int32) (x2 : Int32) (x3 : Int64) : entryFrame m #[(.ref x0), (.int x1), (.int x2), (.long x3)] 6 = (mkF m 0 #[.val (.ref x0), .val (.int x1), .val (.int x2), .val (.long x3), .second, .unset] []) := by first | (simp [entryFrame, mkF, argsToLocals, Value.category]; done) | rfl
def F5 (r : Int64) (y1 : UInt64) (z1 : Int32) : Int32 := (if (cmpValue (FP.dcmp (own_u (r &&& (4294967295 : Int64))) y1) .g) < (0 : Int32) then (1 : Int32) else z1)
def Q5 (Z : State) (a : Addr) (r : Int64) (th : Addr) (al : Addr) (kt : ClassId) (ka : ClassId) (y0 : UInt64) (y1 : UInt64) (y2 : UInt64) (z0 : Int32) (z1 : Int32) (z2 : Int32) (h0 : Heap) (n0 : Nat) (vX : Option Value) (hX : Heap) (lX : List Loc) : Prop := vX = some (.int (F5 r y1 z1)) ∧ Fr n0 lX ∧ (hX = h0)
set_option maxRecDepth 65536 in
set_option maxHeartbeats 40000000 in
theorem rm5 (l : Launch) (Z : State) (a0 : Array Value) (hw : ∀ d ∈ tables_1, d.before a0 Z = true) (ws : List Jvm.Cond) (a : Addr) (r : Int64) (th : Addr) (al : Addr) (kt : ClassId) (ka : ClassId) (y0 : UInt64) (y1 : UInt64) (y2 : UInt64) (z0 : Int32) (z1 : Int32) (z2 : Int32) (h0 : Heap) (n0 : Nat) (Z0 : n0 ≤ h0.size) (pr0 : Exa Z h0 a "com/example/circlerank/circlerank/generate/AliasTable") (pr1 : Fld Z h0 a "com/example/circlerank/circlerank/generate/AliasTable" "threshold" "[D" (.ref th)) (pr2 : Fld Z h0 a "com/example/circlerank/circlerank/generate/AliasTable" "alias" "[I" (.ref al)) (pr3 : Arv Z h0 th kt .double (3 : Int32) [(.double y0), (.double y1), (.double y2)] (.double (0 : UInt64))) (pr4 : Arv Z h0 al ka .int (3 : Int32) [(.int z0), (.int z1), (.int z2)] (.int 0)) (pr5 : ((0 : Int32) + (((((((((r).toUInt64 >>> ((32 : Int32) &&& 0x3f).toInt64.toUInt64).toInt64) * (((2 : Int32)).toInt64))).toUInt64 >>> ((32 : Int32) &&& 0x3f).toInt64.toUInt64).toInt64)).toInt32)) = (1 : Int32)) :
    MetFree l (⟨"com/example/circlerank/circlerank/generate/AliasTable", "draw", "(IIJ)I"⟩ : MethodName) (head1 (Jvm.Cond.code (⟨"com/example/circlerank/circlerank/generate/AliasTable", "draw", "(IIJ)I"⟩ : MethodName) prog_27_method_3_code 6 (some .int) :: ws) ({ frames := 0, cells := 0, slots := 0, locals := 0 } : Room)) (fun aX uX => aX = #[(.ref a), (.int 0), (.int 2), (.long r)] ∧ Z.Warmed39 uX.vm ∧ uX.heap = h0) (fun _ _ _ _ _ => True) (fun _ uX oX wX => ∃ vX lX, oX = .returned vX ∧ Q5 Z a r th al kt ka y0 y1 y2 z0 z1 z2 h0 n0 vX wX.heap lX ∧ FrameEnd uX oX wX lX ({ frames := 0, cells := 0, slots := 0, locals := 0 } : Room).cells ({ frames := 0, cells := 0, slots := 0, locals := 0 } : Room).slots) := by
  refine MetFree.of_bodySF (plainFor_of_name pn_0) hisR ?_
  intro p e s m args below meth c s₁ Bd hml0 hP hK
  obtain ⟨rfl, hZ, hh⟩ := hP
  have hx := Bd.exec
  have hby := Bd.bytes
  have hml : c.maxLocals = 6 := hml0
  have hown : s.vm.findClass "com/example/circlerank/circlerank/generate/AliasTable" = some m.cls := findClass_of_methodNamed Bd.named
  have hnm := (name_of_methodNamed Bd.named Bd.method).1
  have X0 : Stand p l e ({ frames := 0, cells := 0, slots := 0, locals := 0 } : Room) s m #[(.ref a), (.int 0), (.int 2), (.long r)] below meth c s₁ [] 0 0 := Stand.of_body Bd
  have e0 : s₁.heap = h0 := by rw [← hh, Bd.state]; rfl
  have N0 := Fr.nil n0
  let ST : State := (s₁.setTop (entryFrame m #[(.ref a), (.int 0), (.int 2), (.long r)] 6))
  have pre0 : ∀ t, Steps p.tables e below (s₁.setTop (mkF m 0 #[.val (.ref a), .val (.int 0), .val (.int 2), .val (.long r), .second, .unset] [])) t → Steps p.tables e below ST t := fun t k => castTop (ef_5 m a (0 : Int32) (2 : Int32) r) k
  let LL1 : Array Slot := #[.val (.ref a), .val (.int 0), .val (.int 2), .val (.long r), .second, .unset]
  let LL2 : Array Slot := #[.val (.ref a), .val (.int 0), .val (.int 2), .val (.long r), .second, .val (.int ((0 : Int32) + (((((((((r).toUInt64 >>> ((32 : Int32) &&& 0x3f).toInt64.toUInt64).toInt64) * (((2 : Int32)).toInt64))).toUInt64 >>> ((32 : Int32) &&& 0x3f).toInt64.toUInt64).toInt64)).toInt32)))]
  have P3 : ∀ t, Steps p.tables e below (s₁.setTop (mkF m 17 LL2 [])) t → Steps p.tables e below ST t := by
    intro t kk
    refine pre0 _ ?_
    show Steps _ _ _ (s₁.setTop (mkF m 0 LL1 [])) _
    refine XS.iloadN X0.here hx rfl (hb hby d5_0) rfl ?_
    show Steps _ _ _ (s₁.setTop (mkF m 1 LL1 [(.int 0)])) _
    refine XS.lloadN X0.here hx rfl (hb hby d5_1) rfl ?_
    show Steps _ _ _ (s₁.setTop (mkF m 2 LL1 [(.long r), (.int 0)])) _
    refine XS.bipush X0.here hx rfl (hb hby d5_2) ?_
    show Steps _ _ _ (s₁.setTop (mkF m 4 LL1 [(.int 32), (.long r), (.int 0)])) _
    refine XS.lushr X0.here hx rfl (hb hby d5_4) rfl ?_
    show Steps _ _ _ (s₁.setTop (mkF m 5 LL1 [(.long (((r).toUInt64 >>> ((32 : Int32) &&& 0x3f).toInt64.toUInt64).toInt64)), (.int 0)])) _
    refine XS.iloadN X0.here hx rfl (hb hby d5_5) rfl ?_
    show Steps _ _ _ (s₁.setTop (mkF m 6 LL1 [(.int 2), (.long (((r).toUInt64 >>> ((32 : Int32) &&& 0x3f).toInt64.toUInt64).toInt64)), (.int 0)])) _
    refine XS.iloadN X0.here hx rfl (hb hby d5_6) rfl ?_
    show Steps _ _ _ (s₁.setTop (mkF m 7 LL1 [(.int 0), (.int 2), (.long (((r).toUInt64 >>> ((32 : Int32) &&& 0x3f).toInt64.toUInt64).toInt64)), (.int 0)])) _
    refine XS.isub X0.here hx rfl (hb hby d5_7) rfl ?_
    show Steps _ _ _ (s₁.setTop (mkF m 8 LL1 [(.int 2), (.long (((r).toUInt64 >>> ((32 : Int32) &&& 0x3f).toInt64.toUInt64).toInt64)), (.int 0)])) _
    refine XS.i2l X0.here hx rfl (hb hby d5_8) rfl ?_
    show Steps _ _ _ (s₁.setTop (mkF m 9 LL1 [(.long (((2 : Int32)).toInt64)), (.long (((r).toUInt64 >>> ((32 : Int32) &&& 0x3f).toInt64.toUInt64).toInt64)), (.int 0)])) _
    refine XS.lmul X0.here hx rfl (hb hby d5_9) rfl ?_
    show Steps _ _ _ (s₁.setTop (mkF m 10 LL1 [(.long ((((r).toUInt64 >>> ((32 : Int32) &&& 0x3f).toInt64.toUInt64).toInt64) * (((2 : Int32)).toInt64))), (.int 0)])) _
    refine XS.bipush X0.here hx rfl (hb hby d5_10) ?_
    show Steps _ _ _ (s₁.setTop (mkF m 12 LL1 [(.int 32), (.long ((((r).toUInt64 >>> ((32 : Int32) &&& 0x3f).toInt64.toUInt64).toInt64) * (((2 : Int32)).toInt64))), (.int 0)])) _
    refine XS.lushr X0.here hx rfl (hb hby d5_12) rfl ?_
    show Steps _ _ _ (s₁.setTop (mkF m 13 LL1 [(.long (((((((r).toUInt64 >>> ((32 : Int32) &&& 0x3f).toInt64.toUInt64).toInt64) * (((2 : Int32)).toInt64))).toUInt64 >>> ((32 : Int32) &&& 0x3f).toInt64.toUInt64).toInt64)), (.int 0)])) _
    refine XS.l2i X0.here hx rfl (hb hby d5_13) rfl ?_
    show Steps _ _ _ (s₁.setTop (mkF m 14 LL1 [(.int (((((((((r).toUInt64 >>> ((32 : Int32) &&& 0x3f).toInt64.toUInt64).toInt64) * (((2 : Int32)).toInt64))).toUInt64 >>> ((32 : Int32) &&& 0x3f).toInt64.toUInt64).toInt64)).toInt32)), (.int 0)])) _
    refine XS.iadd X0.here hx rfl (hb hby d5_14) rfl ?_
    show Steps _ _ _ (s₁.setTop (mkF m 15 LL1 [(.int ((0 : Int32) + (((((((((r).toUInt64 >>> ((32 : Int32) &&& 0x3f).toInt64.toUInt64).toInt64) * (((2 : Int32)).toInt64))).toUInt64 >>> ((32 : Int32) &&& 0x3f).toInt64.toUInt64).toInt64)).toInt32)))])) _
    refine XS.istore X0.here hx rfl (hb hby d5_15) rfl (l' := LL2) rfl ?_
    show Steps _ _ _ (s₁.setTop (mkF m 17 LL2 [])) _
    exact kk
  have hs4 := pr5
  · skip
    let LL6 : Array Slot := #[.val (.ref a), .val (.int 0), .val (.int 2), .val (.long r), .second, .val (.int 1)]
    have P5 : ∀ t, Steps p.tables e below (s₁.setTop (mkF m 17 LL6 [])) t → Steps p.tables e below ST t := by
      intro t kk
      refine P3 _ ?_
      show Steps _ _ _ (s₁.setTop (mkF m 17 #[.val (.ref a), .val (.int 0), .val (.int 2), .val (.long r), .second, .val (.int ((0 : Int32) + (((((((((r).toUInt64 >>> ((32 : Int32) &&& 0x3f).toInt64.toUInt64).toInt64) * (((2 : Int32)).toInt64))).toUInt64 >>> ((32 : Int32) &&& 0x3f).toInt64.toUInt64).toInt64)).toInt32)))] [])) t
      rw [hs4]
      exact kk
    obtain ⟨T7, X7, e7, st7⟩ := getF X0 hx hZ hown (host := "") (Or.inl (hw _ (List.mem_of_getElem? (i := 12) rfl))) Via.refl e0 pr1 (g := (mkF m 28 LL6 [(.ref a), (.double (own_u (r &&& (4294967295 : Int64))))])) rfl rfl (hb hby d5_28)
    obtain ⟨cl_a8, Ar_a8, q_a8, S_a8, N_a8, H_a8, G_a8⟩ := id pr3
    have hin_a8 : ¬ ((1 : Int32) < 0 ∨ cl_a8.slots.size ≤ ((1 : Int32)).toNatClampNeg) := inb_of S_a8 ⟨by decide, by decide⟩
    have hat_a8 := Has.at (v := (.double y1)) H_a8 hin_a8 rfl
    have P9 : ∀ t, Steps p.tables e below (T7.setTop (mkF m 35 LL6 [(.int (cmpValue (FP.dcmp (own_u (r &&& (4294967295 : Int64))) y1) .g))])) t → Steps p.tables e below ST t := by
      intro t kk
      refine P5 _ ?_
      show Steps _ _ _ (s₁.setTop (mkF m 17 LL6 [])) _
      refine XS.lloadN X0.here hx rfl (hb hby d5_17) rfl ?_
      show Steps _ _ _ (s₁.setTop (mkF m 18 LL6 [(.long r)])) _
      refine X0.ldc2Long hx hown (mvT hZ (hw _ (List.mem_of_getElem? (i := 27) rfl))) (g := (mkF m 18 LL6 [(.long r)])) rfl (hb hby d5_18) _ ?_
      show Steps _ _ _ (s₁.setTop (mkF m 21 LL6 [(.long (4294967295 : Int64)), (.long r)])) _
      refine XS.land X0.here hx rfl (hb hby d5_21) rfl ?_
      show Steps _ _ _ (s₁.setTop (mkF m 22 LL6 [(.long (r &&& (4294967295 : Int64)))])) _
      refine XS.l2dS X0.here hx rfl (hb hby d5_22) rfl rfl ?_
      show Steps _ _ _ (s₁.setTop (mkF m 23 LL6 [(.double (FP.l2d (r &&& (4294967295 : Int64))))])) _
      refine X0.ldc2DoubleC hx hown (mvT hZ (hw _ (List.mem_of_getElem? (i := 28) rfl))) (g := (mkF m 23 LL6 [(.double (FP.l2d (r &&& (4294967295 : Int64))))])) rfl (hb hby d5_23) _ ?_
      show Steps _ _ _ (s₁.setTop (mkF m 26 LL6 [(.double (4463067230724161536 : UInt64)), (.double (FP.l2d (r &&& (4294967295 : Int64))))])) _
      refine XS.dmulS X0.here hx rfl (hb hby d5_26) rfl (own_unn r) rfl ?_
      show Steps _ _ _ (s₁.setTop (mkF m 27 LL6 [(.double (own_u (r &&& (4294967295 : Int64))))])) _
      refine XS.aloadN X0.here hx rfl (hb hby d5_27) rfl rfl ?_
      show Steps _ _ _ (s₁.setTop (mkF m 28 LL6 [(.ref a), (.double (own_u (r &&& (4294967295 : Int64))))])) _
      refine st7 _ ?_
      show Steps _ _ _ (T7.setTop (mkF m 31 LL6 [(.ref th), (.double (own_u (r &&& (4294967295 : Int64))))])) _
      refine XS.iload X7.here hx rfl (hb hby d5_31) rfl ?_
      show Steps _ _ _ (T7.setTop (mkF m 33 LL6 [(.int 1), (.ref th), (.double (own_u (r &&& (4294967295 : Int64))))])) _
      refine X7.daload hx (j := (1 : Int32)) (v := (.double y1)) (by rw [e7]; exact Ar_a8.1) (State.isArrayOf_alike hZ.alike Ar_a8.2.1) Ar_a8.2.2 hin_a8 hat_a8 (g := (mkF m 33 LL6 [(.int 1), (.ref th), (.double (own_u (r &&& (4294967295 : Int64))))])) rfl rfl (hb hby d5_33) _ ?_
      show Steps _ _ _ (T7.setTop (mkF m 34 LL6 [(.double y1), (.double (own_u (r &&& (4294967295 : Int64))))])) _
      refine XS.dcmpS X7.here hx rfl (hb hby d5_34) rfl rfl ?_
      show Steps _ _ _ (T7.setTop (mkF m 35 LL6 [(.int (cmpValue (FP.dcmp (own_u (r &&& (4294967295 : Int64))) y1) .g))])) _
      exact kk
    by_cases c10 : (cmpValue (FP.dcmp (own_u (r &&& (4294967295 : Int64))) y1) .g) < (0 : Int32)
    · skip
      have P11 : ∀ t, Steps p.tables e below (T7.setTop (mkF m 50 LL6 [(.int 1)])) t → Steps p.tables e below ST t := by
        intro t kk
        refine P9 _ ?_
        show Steps _ _ _ (T7.setTop (mkF m 35 LL6 [(.int (cmpValue (FP.dcmp (own_u (r &&& (4294967295 : Int64))) y1) .g))])) _
        refine XS.ifNo X7.here hx rfl (hb hby d5_35) rfl (XT.i0_ge_f c10) ?_
        show Steps _ _ _ (T7.setTop (mkF m 38 LL6 [])) _
        refine XS.iload X7.here hx rfl (hb hby d5_38) rfl ?_
        show Steps _ _ _ (T7.setTop (mkF m 40 LL6 [(.int 1)])) _
        refine XS.goto X7.here hx rfl (pc0 := 40) (pc' := 50) rfl (hb hby d5_40) (by decide) (by decide) ?_
        show Steps _ _ _ (T7.setTop (mkF m 50 LL6 [(.int 1)])) _
        exact kk
      obtain ⟨fs, hr, hrun, hended, hW, hsame⟩ := X7.leave (v := some (.int 1)) (fun h => by rw [Bd.returns] at h; cases h)
      refine ⟨_, _, P11 _ ?_, hrun, hended, _, _, rfl, ?_, ⟨_, rfl⟩, hW, hsame.mono (by decide) (by decide)⟩
      · exact retI X7 hx Bd.returns (hb hby d5_50) hr
      · show Q5 Z a r th al kt ka y0 y1 y2 z0 z1 z2 h0 n0 _ T7.heap _
        rw [e7]
        exact ⟨congrArg (fun z => some (Value.int z)) (show (F5 r y1 z1) = _ from ((if_pos c10).trans rfl)).symm, N0, rfl⟩
    · skip
      obtain ⟨T12, X12, e12, st12⟩ := getF X7 hx hZ hown (host := "") (Or.inl (hw _ (List.mem_of_getElem? (i := 14) rfl))) Via.refl e7 pr2 (g := (mkF m 44 LL6 [(.ref a)])) rfl rfl (hb hby d5_44)
      obtain ⟨cl_a13, Ar_a13, q_a13, S_a13, N_a13, H_a13, G_a13⟩ := id pr4
      have hin_a13 : ¬ ((1 : Int32) < 0 ∨ cl_a13.slots.size ≤ ((1 : Int32)).toNatClampNeg) := inb_of S_a13 ⟨by decide, by decide⟩
      have hat_a13 := Has.at (v := (.int z1)) H_a13 hin_a13 rfl
      have P14 : ∀ t, Steps p.tables e below (T12.setTop (mkF m 50 LL6 [(.int z1)])) t → Steps p.tables e below ST t := by
        intro t kk
        refine P9 _ ?_
        show Steps _ _ _ (T7.setTop (mkF m 35 LL6 [(.int (cmpValue (FP.dcmp (own_u (r &&& (4294967295 : Int64))) y1) .g))])) _
        refine XS.ifYes X7.here hx rfl (pc0 := 35) (pc' := 43) rfl (hb hby d5_35) rfl (XT.i0_ge_t c10) (by decide) (by decide) ?_
        show Steps _ _ _ (T7.setTop (mkF m 43 LL6 [])) _
        refine XS.aloadN X7.here hx rfl (hb hby d5_43) rfl rfl ?_
        show Steps _ _ _ (T7.setTop (mkF m 44 LL6 [(.ref a)])) _
        refine st12 _ ?_
        show Steps _ _ _ (T12.setTop (mkF m 47 LL6 [(.ref al)])) _
        refine XS.iload X12.here hx rfl (hb hby d5_47) rfl ?_
        show Steps _ _ _ (T12.setTop (mkF m 49 LL6 [(.int 1), (.ref al)])) _
        refine X12.iaload hx (j := (1 : Int32)) (v := (.int z1)) (by rw [e12]; exact Ar_a13.1) (State.isArrayOf_alike hZ.alike Ar_a13.2.1) Ar_a13.2.2 hin_a13 hat_a13 (g := (mkF m 49 LL6 [(.int 1), (.ref al)])) rfl rfl (hb hby d5_49) _ ?_
        show Steps _ _ _ (T12.setTop (mkF m 50 LL6 [(.int z1)])) _
        exact kk
      obtain ⟨fs, hr, hrun, hended, hW, hsame⟩ := X12.leave (v := some (.int z1)) (fun h => by rw [Bd.returns] at h; cases h)
      refine ⟨_, _, P14 _ ?_, hrun, hended, _, _, rfl, ?_, ⟨_, rfl⟩, hW, hsame.mono (by decide) (by decide)⟩
      · exact retI X12 hx Bd.returns (hb hby d5_50) hr
      · show Q5 Z a r th al kt ka y0 y1 y2 z0 z1 z2 h0 n0 _ T12.heap _
        rw [e12]
        exact ⟨congrArg (fun z => some (Value.int z)) (show (F5 r y1 z1) = _ from ((if_neg c10).trans rfl)).symm, N0, rfl⟩
theorem d6_0 : decode prog_27_method_3_code 0 = .ok (.iload_n 1, 1) := by decide +kernel
theorem d6_1 : decode prog_27_method_3_code 1 = .ok (.lload_n 3, 1) := by decide +kernel
theorem d6_2 : decode prog_27_method_3_code 2 = .ok (.bipush 32, 2) := by decide +kernel
theorem d6_4 : decode prog_27_method_3_code 4 = .ok (.lushr, 1) := by decide +kernel
theorem d6_5 : decode prog_27_method_3_code 5 = .ok (.iload_n 2, 1) := by decide +kernel
theorem d6_6 : decode prog_27_method_3_code 6 = .ok (.iload_n 1, 1) := by decide +kernel
theorem d6_7 : decode prog_27_method_3_code 7 = .ok (.isub, 1) := by decide +kernel
theorem d6_8 : decode prog_27_method_3_code 8 = .ok (.i2l, 1) := by decide +kernel
theorem d6_9 : decode prog_27_method_3_code 9 = .ok (.lmul, 1) := by decide +kernel
theorem d6_10 : decode prog_27_method_3_code 10 = .ok (.bipush 32, 2) := by decide +kernel
theorem d6_12 : decode prog_27_method_3_code 12 = .ok (.lushr, 1) := by decide +kernel
theorem d6_13 : decode prog_27_method_3_code 13 = .ok (.l2i, 1) := by decide +kernel
theorem d6_14 : decode prog_27_method_3_code 14 = .ok (.iadd, 1) := by decide +kernel
theorem d6_15 : decode prog_27_method_3_code 15 = .ok (.istore 5, 2) := by decide +kernel
theorem d6_17 : decode prog_27_method_3_code 17 = .ok (.lload_n 3, 1) := by decide +kernel
theorem d6_18 : decode prog_27_method_3_code 18 = .ok (.ldc2_w 17, 3) := by decide +kernel
theorem d6_21 : decode prog_27_method_3_code 21 = .ok (.land, 1) := by decide +kernel
theorem d6_22 : decode prog_27_method_3_code 22 = .ok (.l2d, 1) := by decide +kernel
theorem d6_23 : decode prog_27_method_3_code 23 = .ok (.ldc2_w 19, 3) := by decide +kernel
theorem d6_26 : decode prog_27_method_3_code 26 = .ok (.dmul, 1) := by decide +kernel
theorem d6_27 : decode prog_27_method_3_code 27 = .ok (.aload_n 0, 1) := by decide +kernel
theorem d6_28 : decode prog_27_method_3_code 28 = .ok (.getfield 7, 3) := by decide +kernel
theorem d6_31 : decode prog_27_method_3_code 31 = .ok (.iload 5, 2) := by decide +kernel
theorem d6_33 : decode prog_27_method_3_code 33 = .ok (.daload, 1) := by decide +kernel
theorem d6_34 : decode prog_27_method_3_code 34 = .ok (.dcmp .g, 1) := by decide +kernel
theorem d6_35 : decode prog_27_method_3_code 35 = .ok (.ifCond .ge 8, 3) := by decide +kernel
theorem d6_38 : decode prog_27_method_3_code 38 = .ok (.iload 5, 2) := by decide +kernel
theorem d6_40 : decode prog_27_method_3_code 40 = .ok (.goto 10, 3) := by decide +kernel
theorem d6_50 : decode prog_27_method_3_code 50 = .ok (.ireturn, 1) := by decide +kernel
theorem ef_6 (m : MethodId) (x0 : Addr) (x1 : Int32) (x2 : Int32) (x3 : Int64) : entryFrame m #[(.ref x0), (.int x1), (.int x2), (.long x3)] 6 = (mkF m 0 #[.val (.ref x0), .val (.int x1), .val (.int x2), .val (.long x3), .second, .unset] []) := by first | (simp [entryFrame, mkF, argsToLocals, Value.category]; done) | rfl
def Q6 (Z : State) (a : Addr) (r : Int64) (th : Addr) (al : Addr) (kt : ClassId) (ka : ClassId) (y0 : UInt64) (y1 : UInt64) (z0 : Int32) (z1 : Int32) (z2 : Int32) (h0 : Heap) (n0 : Nat) (vX : Option Value) (hX : Heap) (lX : List Loc) : Prop := vX = some (.int 2) ∧ Fr n0 lX ∧ (hX = h0)
set_option maxRecDepth 65536 in
set_option maxHeartbeats 40000000 in
theorem rm6 (l : Launch) (Z : State) (a0 : Array Value) (hw : ∀ d ∈ tables_1, d.before a0 Z = true) (ws : List Jvm.Cond) (a : Addr) (r : Int64) (th : Addr) (al : Addr) (kt : ClassId) (ka : ClassId) (y0 : UInt64) (y1 : UInt64) (z0 : Int32) (z1 : Int32) (z2 : Int32) (h0 : Heap) (n0 : Nat) (Z0 : n0 ≤ h0.size) (pr0 : Exa Z h0 a "com/example/circlerank/circlerank/generate/AliasTable") (pr1 : Fld Z h0 a "com/example/circlerank/circlerank/generate/AliasTable" "threshold" "[D" (.ref th)) (pr2 : Fld Z h0 a "com/example/circlerank/circlerank/generate/AliasTable" "alias" "[I" (.ref al)) (pr3 : Arv Z h0 th kt .double (3 : Int32) [(.double y0), (.double y1), (.double FP.dconst1)] (.double (0 : UInt64))) (pr4 : Arv Z h0 al ka .int (3 : Int32) [(.int z0), (.int z1), (.int z2)] (.int 0)) (pr5 : ((2 : Int32) + (((((((((r).toUInt64 >>> ((32 : Int32) &&& 0x3f).toInt64.toUInt64).toInt64) * (((1 : Int32)).toInt64))).toUInt64 >>> ((32 : Int32) &&& 0x3f).toInt64.toUInt64).toInt64)).toInt32)) = (2 : Int32)) :
    MetFree l (⟨"com/example/circlerank/circlerank/generate/AliasTable", "draw", "(IIJ)I"⟩ : MethodName) (head1 (Jvm.Cond.code (⟨"com/example/circlerank/circlerank/generate/AliasTable", "draw", "(IIJ)I"⟩ : MethodName) prog_27_method_3_code 6 (some .int) :: ws) ({ frames := 0, cells := 0, slots := 0, locals := 0 } : Room)) (fun aX uX => aX = #[(.ref a), (.int 2), (.int 3), (.long r)] ∧ Z.Warmed39 uX.vm ∧ uX.heap = h0) (fun _ _ _ _ _ => True) (fun _ uX oX wX => ∃ vX lX, oX = .returned vX ∧ Q6 Z a r th al kt ka y0 y1 z0 z1 z2 h0 n0 vX wX.heap lX ∧ FrameEnd uX oX wX lX ({ frames := 0, cells := 0, slots := 0, locals := 0 } : Room).cells ({ frames := 0, cells := 0, slots := 0, locals := 0 } : Room).slots) := by
  refine MetFree.of_bodySF (plainFor_of_name pn_0) hisR ?_
  intro p e s m args below meth c s₁ Bd hml0 hP hK
  obtain ⟨rfl, hZ, hh⟩ := hP
  have hx := Bd.exec
  have hby := Bd.bytes
  have hml : c.maxLocals = 6 := hml0
  have hown : s.vm.findClass "com/example/circlerank/circlerank/generate/AliasTable" = some m.cls := findClass_of_methodNamed Bd.named
  have hnm := (name_of_methodNamed Bd.named Bd.method).1
  have X0 : Stand p l e ({ frames := 0, cells := 0, slots := 0, locals := 0 } : Room) s m #[(.ref a), (.int 2), (.int 3), (.long r)] below meth c s₁ [] 0 0 := Stand.of_body Bd
  have e0 : s₁.heap = h0 := by rw [← hh, Bd.state]; rfl
  have N0 := Fr.nil n0
  let ST : State := (s₁.setTop (entryFrame m #[(.ref a), (.int 2), (.int 3), (.long r)] 6))
  have pre0 : ∀ t, Steps p.tables e below (s₁.setTop (mkF m 0 #[.val (.ref a), .val (.int 2), .val (.int 3), .val (.long r), .second, .unset] [])) t → Steps p.tables e below ST t := fun t k => castTop (ef_6 m a (2 : Int32) (3 : Int32) r) k
  let LL1 : Array Slot := #[.val (.ref a), .val (.int 2), .val (.int 3), .val (.long r), .second, .unset]
  let LL2 : Array Slot := #[.val (.ref a), .val (.int 2), .val (.int 3), .val (.long r), .second, .val (.int ((2 : Int32) + (((((((((r).toUInt64 >>> ((32 : Int32) &&& 0x3f).toInt64.toUInt64).toInt64) * (((1 : Int32)).toInt64))).toUInt64 >>> ((32 : Int32) &&& 0x3f).toInt64.toUInt64).toInt64)).toInt32)))]
  have P3 : ∀ t, Steps p.tables e below (s₁.setTop (mkF m 17 LL2 [])) t → Steps p.tables e below ST t := by
    intro t kk
    refine pre0 _ ?_
    show Steps _ _ _ (s₁.setTop (mkF m 0 LL1 [])) _
    refine XS.iloadN X0.here hx rfl (hb hby d6_0) rfl ?_
    show Steps _ _ _ (s₁.setTop (mkF m 1 LL1 [(.int 2)])) _
    refine XS.lloadN X0.here hx rfl (hb hby d6_1) rfl ?_
    show Steps _ _ _ (s₁.setTop (mkF m 2 LL1 [(.long r), (.int 2)])) _
    refine XS.bipush X0.here hx rfl (hb hby d6_2) ?_
    show Steps _ _ _ (s₁.setTop (mkF m 4 LL1 [(.int 32), (.long r), (.int 2)])) _
    refine XS.lushr X0.here hx rfl (hb hby d6_4) rfl ?_
    show Steps _ _ _ (s₁.setTop (mkF m 5 LL1 [(.long (((r).toUInt64 >>> ((32 : Int32) &&& 0x3f).toInt64.toUInt64).toInt64)), (.int 2)])) _
    refine XS.iloadN X0.here hx rfl (hb hby d6_5) rfl ?_
    show Steps _ _ _ (s₁.setTop (mkF m 6 LL1 [(.int 3), (.long (((r).toUInt64 >>> ((32 : Int32) &&& 0x3f).toInt64.toUInt64).toInt64)), (.int 2)])) _
    refine XS.iloadN X0.here hx rfl (hb hby d6_6) rfl ?_
    show Steps _ _ _ (s₁.setTop (mkF m 7 LL1 [(.int 2), (.int 3), (.long (((r).toUInt64 >>> ((32 : Int32) &&& 0x3f).toInt64.toUInt64).toInt64)), (.int 2)])) _
    refine XS.isub X0.here hx rfl (hb hby d6_7) rfl ?_
    show Steps _ _ _ (s₁.setTop (mkF m 8 LL1 [(.int 1), (.long (((r).toUInt64 >>> ((32 : Int32) &&& 0x3f).toInt64.toUInt64).toInt64)), (.int 2)])) _
    refine XS.i2l X0.here hx rfl (hb hby d6_8) rfl ?_
    show Steps _ _ _ (s₁.setTop (mkF m 9 LL1 [(.long (((1 : Int32)).toInt64)), (.long (((r).toUInt64 >>> ((32 : Int32) &&& 0x3f).toInt64.toUInt64).toInt64)), (.int 2)])) _
    refine XS.lmul X0.here hx rfl (hb hby d6_9) rfl ?_
    show Steps _ _ _ (s₁.setTop (mkF m 10 LL1 [(.long ((((r).toUInt64 >>> ((32 : Int32) &&& 0x3f).toInt64.toUInt64).toInt64) * (((1 : Int32)).toInt64))), (.int 2)])) _
    refine XS.bipush X0.here hx rfl (hb hby d6_10) ?_
    show Steps _ _ _ (s₁.setTop (mkF m 12 LL1 [(.int 32), (.long ((((r).toUInt64 >>> ((32 : Int32) &&& 0x3f).toInt64.toUInt64).toInt64) * (((1 : Int32)).toInt64))), (.int 2)])) _
    refine XS.lushr X0.here hx rfl (hb hby d6_12) rfl ?_
    show Steps _ _ _ (s₁.setTop (mkF m 13 LL1 [(.long (((((((r).toUInt64 >>> ((32 : Int32) &&& 0x3f).toInt64.toUInt64).toInt64) * (((1 : Int32)).toInt64))).toUInt64 >>> ((32 : Int32) &&& 0x3f).toInt64.toUInt64).toInt64)), (.int 2)])) _
    refine XS.l2i X0.here hx rfl (hb hby d6_13) rfl ?_
    show Steps _ _ _ (s₁.setTop (mkF m 14 LL1 [(.int (((((((((r).toUInt64 >>> ((32 : Int32) &&& 0x3f).toInt64.toUInt64).toInt64) * (((1 : Int32)).toInt64))).toUInt64 >>> ((32 : Int32) &&& 0x3f).toInt64.toUInt64).toInt64)).toInt32)), (.int 2)])) _
    refine XS.iadd X0.here hx rfl (hb hby d6_14) rfl ?_
    show Steps _ _ _ (s₁.setTop (mkF m 15 LL1 [(.int ((2 : Int32) + (((((((((r).toUInt64 >>> ((32 : Int32) &&& 0x3f).toInt64.toUInt64).toInt64) * (((1 : Int32)).toInt64))).toUInt64 >>> ((32 : Int32) &&& 0x3f).toInt64.toUInt64).toInt64)).toInt32)))])) _
    refine XS.istore X0.here hx rfl (hb hby d6_15) rfl (l' := LL2) rfl ?_
    show Steps _ _ _ (s₁.setTop (mkF m 17 LL2 [])) _
    exact kk
  have hs4 := pr5
  · skip
    let LL6 : Array Slot := #[.val (.ref a), .val (.int 2), .val (.int 3), .val (.long r), .second, .val (.int 2)]
    have P5 : ∀ t, Steps p.tables e below (s₁.setTop (mkF m 17 LL6 [])) t → Steps p.tables e below ST t := by
      intro t kk
      refine P3 _ ?_
      show Steps _ _ _ (s₁.setTop (mkF m 17 #[.val (.ref a), .val (.int 2), .val (.int 3), .val (.long r), .second, .val (.int ((2 : Int32) + (((((((((r).toUInt64 >>> ((32 : Int32) &&& 0x3f).toInt64.toUInt64).toInt64) * (((1 : Int32)).toInt64))).toUInt64 >>> ((32 : Int32) &&& 0x3f).toInt64.toUInt64).toInt64)).toInt32)))] [])) t
      rw [hs4]
      exact kk
    obtain ⟨T7, X7, e7, st7⟩ := getF X0 hx hZ hown (host := "") (Or.inl (hw _ (List.mem_of_getElem? (i := 12) rfl))) Via.refl e0 pr1 (g := (mkF m 28 LL6 [(.ref a), (.double (own_u (r &&& (4294967295 : Int64))))])) rfl rfl (hb hby d6_28)
    obtain ⟨cl_a8, Ar_a8, q_a8, S_a8, N_a8, H_a8, G_a8⟩ := id pr3
    have hin_a8 : ¬ ((2 : Int32) < 0 ∨ cl_a8.slots.size ≤ ((2 : Int32)).toNatClampNeg) := inb_of S_a8 ⟨by decide, by decide⟩
    have hat_a8 := Has.at (v := (.double FP.dconst1)) H_a8 hin_a8 rfl
    have P9 : ∀ t, Steps p.tables e below (T7.setTop (mkF m 50 LL6 [(.int 2)])) t → Steps p.tables e below ST t := by
      intro t kk
      refine P5 _ ?_
      show Steps _ _ _ (s₁.setTop (mkF m 17 LL6 [])) _
      refine XS.lloadN X0.here hx rfl (hb hby d6_17) rfl ?_
      show Steps _ _ _ (s₁.setTop (mkF m 18 LL6 [(.long r)])) _
      refine X0.ldc2Long hx hown (mvT hZ (hw _ (List.mem_of_getElem? (i := 27) rfl))) (g := (mkF m 18 LL6 [(.long r)])) rfl (hb hby d6_18) _ ?_
      show Steps _ _ _ (s₁.setTop (mkF m 21 LL6 [(.long (4294967295 : Int64)), (.long r)])) _
      refine XS.land X0.here hx rfl (hb hby d6_21) rfl ?_
      show Steps _ _ _ (s₁.setTop (mkF m 22 LL6 [(.long (r &&& (4294967295 : Int64)))])) _
      refine XS.l2dS X0.here hx rfl (hb hby d6_22) rfl rfl ?_
      show Steps _ _ _ (s₁.setTop (mkF m 23 LL6 [(.double (FP.l2d (r &&& (4294967295 : Int64))))])) _
      refine X0.ldc2DoubleC hx hown (mvT hZ (hw _ (List.mem_of_getElem? (i := 28) rfl))) (g := (mkF m 23 LL6 [(.double (FP.l2d (r &&& (4294967295 : Int64))))])) rfl (hb hby d6_23) _ ?_
      show Steps _ _ _ (s₁.setTop (mkF m 26 LL6 [(.double (4463067230724161536 : UInt64)), (.double (FP.l2d (r &&& (4294967295 : Int64))))])) _
      refine XS.dmulS X0.here hx rfl (hb hby d6_26) rfl (own_unn r) rfl ?_
      show Steps _ _ _ (s₁.setTop (mkF m 27 LL6 [(.double (own_u (r &&& (4294967295 : Int64))))])) _
      refine XS.aloadN X0.here hx rfl (hb hby d6_27) rfl rfl ?_
      show Steps _ _ _ (s₁.setTop (mkF m 28 LL6 [(.ref a), (.double (own_u (r &&& (4294967295 : Int64))))])) _
      refine st7 _ ?_
      show Steps _ _ _ (T7.setTop (mkF m 31 LL6 [(.ref th), (.double (own_u (r &&& (4294967295 : Int64))))])) _
      refine XS.iload X7.here hx rfl (hb hby d6_31) rfl ?_
      show Steps _ _ _ (T7.setTop (mkF m 33 LL6 [(.int 2), (.ref th), (.double (own_u (r &&& (4294967295 : Int64))))])) _
      refine X7.daload hx (j := (2 : Int32)) (v := (.double FP.dconst1)) (by rw [e7]; exact Ar_a8.1) (State.isArrayOf_alike hZ.alike Ar_a8.2.1) Ar_a8.2.2 hin_a8 hat_a8 (g := (mkF m 33 LL6 [(.int 2), (.ref th), (.double (own_u (r &&& (4294967295 : Int64))))])) rfl rfl (hb hby d6_33) _ ?_
      show Steps _ _ _ (T7.setTop (mkF m 34 LL6 [(.double FP.dconst1), (.double (own_u (r &&& (4294967295 : Int64))))])) _
      refine XS.dcmpS X7.here hx rfl (hb hby d6_34) rfl rfl ?_
      show Steps _ _ _ (T7.setTop (mkF m 35 LL6 [(.int (cmpValue (FP.dcmp (own_u (r &&& (4294967295 : Int64))) FP.dconst1) .g))])) _
      refine XS.ifNo X7.here hx rfl (hb hby d6_35) rfl (XT.i0_ge_f (own_u1 r)) ?_
      show Steps _ _ _ (T7.setTop (mkF m 38 LL6 [])) _
      refine XS.iload X7.here hx rfl (hb hby d6_38) rfl ?_
      show Steps _ _ _ (T7.setTop (mkF m 40 LL6 [(.int 2)])) _
      refine XS.goto X7.here hx rfl (pc0 := 40) (pc' := 50) rfl (hb hby d6_40) (by decide) (by decide) ?_
      show Steps _ _ _ (T7.setTop (mkF m 50 LL6 [(.int 2)])) _
      exact kk
    obtain ⟨fs, hr, hrun, hended, hW, hsame⟩ := X7.leave (v := some (.int 2)) (fun h => by rw [Bd.returns] at h; cases h)
    refine ⟨_, _, P9 _ ?_, hrun, hended, _, _, rfl, ?_, ⟨_, rfl⟩, hW, hsame.mono (by decide) (by decide)⟩
    · exact retI X7 hx Bd.returns (hb hby d6_50) hr
    · show Q6 Z a r th al kt ka y0 y1 z0 z1 z2 h0 n0 _ T7.heap _
      rw [e7]
      exact ⟨rfl, N0, rfl⟩
theorem d7_0 : decode prog_27_method_2_code 0 = .ok (.iload_n 3, 1) := by decide +kernel
theorem d7_1 : decode prog_27_method_2_code 1 = .ok (.iload_n 2, 1) := by decide +kernel
theorem d7_2 : decode prog_27_method_2_code 2 = .ok (.isub, 1) := by decide +kernel
theorem d7_3 : decode prog_27_method_2_code 3 = .ok (.istore 5, 2) := by decide +kernel
theorem d7_5 : decode prog_27_method_2_code 5 = .ok (.dconst 0, 1) := by decide +kernel
theorem d7_6 : decode prog_27_method_2_code 6 = .ok (.dstore 6, 2) := by decide +kernel
theorem d7_8 : decode prog_27_method_2_code 8 = .ok (.iload_n 2, 1) := by decide +kernel
theorem d7_9 : decode prog_27_method_2_code 9 = .ok (.istore 8, 2) := by decide +kernel
theorem d7_11 : decode prog_27_method_2_code 11 = .ok (.iload 8, 2) := by decide +kernel
theorem d7_13 : decode prog_27_method_2_code 13 = .ok (.iload_n 3, 1) := by decide +kernel
theorem d7_14 : decode prog_27_method_2_code 14 = .ok (.if_icmp .ge 18, 3) := by decide +kernel
theorem d7_17 : decode prog_27_method_2_code 17 = .ok (.dload 6, 2) := by decide +kernel
theorem d7_19 : decode prog_27_method_2_code 19 = .ok (.aload_n 1, 1) := by decide +kernel
theorem d7_20 : decode prog_27_method_2_code 20 = .ok (.iload 8, 2) := by decide +kernel
theorem d7_22 : decode prog_27_method_2_code 22 = .ok (.daload, 1) := by decide +kernel
theorem d7_23 : decode prog_27_method_2_code 23 = .ok (.dadd, 1) := by decide +kernel
theorem d7_24 : decode prog_27_method_2_code 24 = .ok (.dstore 6, 2) := by decide +kernel
theorem d7_26 : decode prog_27_method_2_code 26 = .ok (.iinc 8 1, 3) := by decide +kernel
theorem d7_29 : decode prog_27_method_2_code 29 = .ok (.goto (-18), 3) := by decide +kernel
theorem d7_32 : decode prog_27_method_2_code 32 = .ok (.iconst 0, 1) := by decide +kernel
theorem d7_33 : decode prog_27_method_2_code 33 = .ok (.istore 8, 2) := by decide +kernel
theorem d7_35 : decode prog_27_method_2_code 35 = .ok (.iload 5, 2) := by decide +kernel
theorem d7_37 : decode prog_27_method_2_code 37 = .ok (.istore 9, 2) := by decide +kernel
theorem d7_39 : decode prog_27_method_2_code 39 = .ok (.iload_n 2, 1) := by decide +kernel
theorem d7_40 : decode prog_27_method_2_code 40 = .ok (.istore 10, 2) := by decide +kernel
theorem d7_42 : decode prog_27_method_2_code 42 = .ok (.iload 10, 2) := by decide +kernel
theorem d7_44 : decode prog_27_method_2_code 44 = .ok (.iload_n 3, 1) := by decide +kernel
theorem d7_45 : decode prog_27_method_2_code 45 = .ok (.if_icmp .ge 71, 3) := by decide +kernel
theorem d7_48 : decode prog_27_method_2_code 48 = .ok (.aload_n 0, 1) := by decide +kernel
theorem d7_49 : decode prog_27_method_2_code 49 = .ok (.getfield 7, 3) := by decide +kernel
theorem d7_52 : decode prog_27_method_2_code 52 = .ok (.iload 10, 2) := by decide +kernel
theorem d7_54 : decode prog_27_method_2_code 54 = .ok (.aload_n 1, 1) := by decide +kernel
theorem d7_55 : decode prog_27_method_2_code 55 = .ok (.iload 10, 2) := by decide +kernel
theorem d7_57 : decode prog_27_method_2_code 57 = .ok (.daload, 1) := by decide +kernel
theorem d7_58 : decode prog_27_method_2_code 58 = .ok (.iload 5, 2) := by decide +kernel
theorem d7_60 : decode prog_27_method_2_code 60 = .ok (.i2d, 1) := by decide +kernel
theorem d7_61 : decode prog_27_method_2_code 61 = .ok (.dmul, 1) := by decide +kernel
theorem d7_62 : decode prog_27_method_2_code 62 = .ok (.dload 6, 2) := by decide +kernel
theorem d7_64 : decode prog_27_method_2_code 64 = .ok (.ddiv, 1) := by decide +kernel
theorem d7_65 : decode prog_27_method_2_code 65 = .ok (.dastore, 1) := by decide +kernel
theorem d7_66 : decode prog_27_method_2_code 66 = .ok (.aload_n 0, 1) := by decide +kernel
theorem d7_67 : decode prog_27_method_2_code 67 = .ok (.getfield 13, 3) := by decide +kernel
theorem d7_70 : decode prog_27_method_2_code 70 = .ok (.iload 10, 2) := by decide +kernel
theorem d7_72 : decode prog_27_method_2_code 72 = .ok (.iload 10, 2) := by decide +kernel
theorem d7_74 : decode prog_27_method_2_code 74 = .ok (.iastore, 1) := by decide +kernel
theorem d7_75 : decode prog_27_method_2_code 75 = .ok (.aload_n 0, 1) := by decide +kernel
theorem d7_76 : decode prog_27_method_2_code 76 = .ok (.getfield 7, 3) := by decide +kernel
theorem d7_79 : decode prog_27_method_2_code 79 = .ok (.iload 10, 2) := by decide +kernel
theorem d7_81 : decode prog_27_method_2_code 81 = .ok (.daload, 1) := by decide +kernel
theorem d7_82 : decode prog_27_method_2_code 82 = .ok (.dconst 1, 1) := by decide +kernel
theorem d7_83 : decode prog_27_method_2_code 83 = .ok (.dcmp .g, 1) := by decide +kernel
theorem d7_84 : decode prog_27_method_2_code 84 = .ok (.ifCond .ge 16, 3) := by decide +kernel
theorem d7_87 : decode prog_27_method_2_code 87 = .ok (.aload 4, 2) := by decide +kernel
theorem d7_89 : decode prog_27_method_2_code 89 = .ok (.iload 8, 2) := by decide +kernel
theorem d7_91 : decode prog_27_method_2_code 91 = .ok (.iinc 8 1, 3) := by decide +kernel
theorem d7_94 : decode prog_27_method_2_code 94 = .ok (.iload 10, 2) := by decide +kernel
theorem d7_96 : decode prog_27_method_2_code 96 = .ok (.iastore, 1) := by decide +kernel
theorem d7_97 : decode prog_27_method_2_code 97 = .ok (.goto 13, 3) := by decide +kernel
theorem d7_100 : decode prog_27_method_2_code 100 = .ok (.aload 4, 2) := by decide +kernel
theorem d7_102 : decode prog_27_method_2_code 102 = .ok (.iinc 9 (-1), 3) := by decide +kernel
theorem d7_105 : decode prog_27_method_2_code 105 = .ok (.iload 9, 2) := by decide +kernel
theorem d7_107 : decode prog_27_method_2_code 107 = .ok (.iload 10, 2) := by decide +kernel
theorem d7_109 : decode prog_27_method_2_code 109 = .ok (.iastore, 1) := by decide +kernel
theorem d7_110 : decode prog_27_method_2_code 110 = .ok (.iinc 10 1, 3) := by decide +kernel
theorem d7_113 : decode prog_27_method_2_code 113 = .ok (.goto (-71), 3) := by decide +kernel
theorem d7_116 : decode prog_27_method_2_code 116 = .ok (.iload 8, 2) := by decide +kernel
theorem d7_118 : decode prog_27_method_2_code 118 = .ok (.ifCond .le 83, 3) := by decide +kernel
theorem d7_121 : decode prog_27_method_2_code 121 = .ok (.iload 9, 2) := by decide +kernel
theorem d7_123 : decode prog_27_method_2_code 123 = .ok (.iload 5, 2) := by decide +kernel
theorem d7_125 : decode prog_27_method_2_code 125 = .ok (.if_icmp .ge 76, 3) := by decide +kernel
theorem d7_128 : decode prog_27_method_2_code 128 = .ok (.aload 4, 2) := by decide +kernel
theorem d7_130 : decode prog_27_method_2_code 130 = .ok (.iinc 8 (-1), 3) := by decide +kernel
theorem d7_133 : decode prog_27_method_2_code 133 = .ok (.iload 8, 2) := by decide +kernel
theorem d7_135 : decode prog_27_method_2_code 135 = .ok (.iaload, 1) := by decide +kernel
theorem d7_136 : decode prog_27_method_2_code 136 = .ok (.istore 10, 2) := by decide +kernel
theorem d7_138 : decode prog_27_method_2_code 138 = .ok (.aload 4, 2) := by decide +kernel
theorem d7_140 : decode prog_27_method_2_code 140 = .ok (.iload 9, 2) := by decide +kernel
theorem d7_142 : decode prog_27_method_2_code 142 = .ok (.iaload, 1) := by decide +kernel
theorem d7_143 : decode prog_27_method_2_code 143 = .ok (.istore 11, 2) := by decide +kernel
theorem d7_145 : decode prog_27_method_2_code 145 = .ok (.aload_n 0, 1) := by decide +kernel
theorem d7_146 : decode prog_27_method_2_code 146 = .ok (.getfield 13, 3) := by decide +kernel
theorem d7_149 : decode prog_27_method_2_code 149 = .ok (.iload 10, 2) := by decide +kernel
theorem d7_151 : decode prog_27_method_2_code 151 = .ok (.iload 11, 2) := by decide +kernel
theorem d7_153 : decode prog_27_method_2_code 153 = .ok (.iastore, 1) := by decide +kernel
theorem d7_154 : decode prog_27_method_2_code 154 = .ok (.aload_n 0, 1) := by decide +kernel
theorem d7_155 : decode prog_27_method_2_code 155 = .ok (.getfield 7, 3) := by decide +kernel
theorem d7_158 : decode prog_27_method_2_code 158 = .ok (.iload 11, 2) := by decide +kernel
theorem d7_160 : decode prog_27_method_2_code 160 = .ok (.dup2, 1) := by decide +kernel
theorem d7_161 : decode prog_27_method_2_code 161 = .ok (.daload, 1) := by decide +kernel
theorem d7_162 : decode prog_27_method_2_code 162 = .ok (.aload_n 0, 1) := by decide +kernel
theorem d7_163 : decode prog_27_method_2_code 163 = .ok (.getfield 7, 3) := by decide +kernel
theorem d7_166 : decode prog_27_method_2_code 166 = .ok (.iload 10, 2) := by decide +kernel
theorem d7_168 : decode prog_27_method_2_code 168 = .ok (.daload, 1) := by decide +kernel
theorem d7_169 : decode prog_27_method_2_code 169 = .ok (.dconst 1, 1) := by decide +kernel
theorem d7_170 : decode prog_27_method_2_code 170 = .ok (.dsub, 1) := by decide +kernel
theorem d7_171 : decode prog_27_method_2_code 171 = .ok (.dadd, 1) := by decide +kernel
theorem d7_172 : decode prog_27_method_2_code 172 = .ok (.dastore, 1) := by decide +kernel
theorem d7_173 : decode prog_27_method_2_code 173 = .ok (.aload_n 0, 1) := by decide +kernel
theorem d7_174 : decode prog_27_method_2_code 174 = .ok (.getfield 7, 3) := by decide +kernel
theorem d7_177 : decode prog_27_method_2_code 177 = .ok (.iload 11, 2) := by decide +kernel
theorem d7_179 : decode prog_27_method_2_code 179 = .ok (.daload, 1) := by decide +kernel
theorem d7_180 : decode prog_27_method_2_code 180 = .ok (.dconst 1, 1) := by decide +kernel
theorem d7_181 : decode prog_27_method_2_code 181 = .ok (.dcmp .g, 1) := by decide +kernel
theorem d7_182 : decode prog_27_method_2_code 182 = .ok (.ifCond .ge 16, 3) := by decide +kernel
theorem d7_185 : decode prog_27_method_2_code 185 = .ok (.iinc 9 1, 3) := by decide +kernel
theorem d7_188 : decode prog_27_method_2_code 188 = .ok (.aload 4, 2) := by decide +kernel
theorem d7_190 : decode prog_27_method_2_code 190 = .ok (.iload 8, 2) := by decide +kernel
theorem d7_192 : decode prog_27_method_2_code 192 = .ok (.iinc 8 1, 3) := by decide +kernel
theorem d7_195 : decode prog_27_method_2_code 195 = .ok (.iload 11, 2) := by decide +kernel
theorem d7_197 : decode prog_27_method_2_code 197 = .ok (.iastore, 1) := by decide +kernel
theorem d7_198 : decode prog_27_method_2_code 198 = .ok (.goto (-82), 3) := by decide +kernel
theorem d7_201 : decode prog_27_method_2_code 201 = .ok (.iconst 0, 1) := by decide +kernel
theorem d7_202 : decode prog_27_method_2_code 202 = .ok (.istore 10, 2) := by decide +kernel
theorem d7_204 : decode prog_27_method_2_code 204 = .ok (.iload 10, 2) := by decide +kernel
theorem d7_206 : decode prog_27_method_2_code 206 = .ok (.iload 8, 2) := by decide +kernel
theorem d7_208 : decode prog_27_method_2_code 208 = .ok (.if_icmp .ge 20, 3) := by decide +kernel
theorem d7_211 : decode prog_27_method_2_code 211 = .ok (.aload_n 0, 1) := by decide +kernel
theorem d7_212 : decode prog_27_method_2_code 212 = .ok (.getfield 7, 3) := by decide +kernel
theorem d7_215 : decode prog_27_method_2_code 215 = .ok (.aload 4, 2) := by decide +kernel
theorem d7_217 : decode prog_27_method_2_code 217 = .ok (.iload 10, 2) := by decide +kernel
theorem d7_219 : decode prog_27_method_2_code 219 = .ok (.iaload, 1) := by decide +kernel
theorem d7_220 : decode prog_27_method_2_code 220 = .ok (.dconst 1, 1) := by decide +kernel
theorem d7_221 : decode prog_27_method_2_code 221 = .ok (.dastore, 1) := by decide +kernel
theorem d7_222 : decode prog_27_method_2_code 222 = .ok (.iinc 10 1, 3) := by decide +kernel
theorem d7_225 : decode prog_27_method_2_code 225 = .ok (.goto (-21), 3) := by decide +kernel
theorem d7_228 : decode prog_27_method_2_code 228 = .ok (.iload 9, 2) := by decide +kernel
theorem d7_230 : decode prog_27_method_2_code 230 = .ok (.istore 10, 2) := by decide +kernel
theorem d7_232 : decode prog_27_method_2_code 232 = .ok (.iload 10, 2) := by decide +kernel
theorem d7_234 : decode prog_27_method_2_code 234 = .ok (.iload 5, 2) := by decide +kernel
theorem d7_236 : decode prog_27_method_2_code 236 = .ok (.if_icmp .ge 20, 3) := by decide +kernel
theorem d7_239 : decode prog_27_method_2_code 239 = .ok (.aload_n 0, 1) := by decide +kernel
theorem d7_240 : decode prog_27_method_2_code 240 = .ok (.getfield 7, 3) := by decide +kernel
theorem d7_243 : decode prog_27_method_2_code 243 = .ok (.aload 4, 2) := by decide +kernel
theorem d7_245 : decode prog_27_method_2_code 245 = .ok (.iload 10, 2) := by decide +kernel
theorem d7_247 : decode prog_27_method_2_code 247 = .ok (.iaload, 1) := by decide +kernel
theorem d7_248 : decode prog_27_method_2_code 248 = .ok (.dconst 1, 1) := by decide +kernel
theorem d7_249 : decode prog_27_method_2_code 249 = .ok (.dastore, 1) := by decide +kernel
theorem d7_250 : decode prog_27_method_2_code 250 = .ok (.iinc 10 1, 3) := by decide +kernel
theorem d7_253 : decode prog_27_method_2_code 253 = .ok (.goto (-21), 3) := by decide +kernel
theorem d7_256 : decode prog_27_method_2_code 256 = .ok (.return_, 1) := by decide +kernel
theorem ef_7 (m : MethodId) (x0 : Addr) (x1 : Addr) (x2 : Int32) (x3 : Int32) (x4 : Addr) : entryFrame m #[(.ref x0), (.ref x1), (.int x2), (.int x3), (.ref x4)] 12 = (mkF m 0 #[.val (.ref x0), .val (.ref x1), .val (.int x2), .val (.int x3), .val (.ref x4), .unset, .unset, .unset, .unset, .unset, .unset, .unset] []) := by first | (simp [entryFrame, mkF, argsToLocals, Value.category]; done) | rfl
def Q7 (Z : State) (a : Addr) (wt : Addr) (wk : Addr) (A : Int64) (B : Int64) (wx : UInt64) (th : Addr) (al : Addr) (kw : ClassId) (kt : ClassId) (ka : ClassId) (kk : ClassId) (y0 : UInt64) (y1 : UInt64) (y2 : UInt64) (z0 : Int32) (z1 : Int32) (z2 : Int32) (u0 : Int32) (u1 : Int32) (h0 : Heap) (n0 : Nat) (vX : Option Value) (hX : Heap) (lX : List Loc) : Prop := ∃ (ta : UInt64) (tb : UInt64) (la : Int32) (lb : Int32) (v0 : Int32) (v1 : Int32), vX = none ∧ Fr n0 lX ∧ (Keep h0 hX [th, al, wk]) ∧ (Arv Z hX th kt .double (3 : Int32) [(.double y0), (.double ta), (.double tb)] (.double (0 : UInt64))) ∧ (Arv Z hX al ka .int (3 : Int32) [(.int z0), (.int la), (.int lb)] (.int 0)) ∧ (Arv Z hX wk kk .int (2 : Int32) [(.int v0), (.int v1)] (.int 0)) ∧ (own_alt (1 : Int32) (2 : Int32) A B ta tb la lb)
set_option maxRecDepth 65536 in
set_option maxHeartbeats 40000000 in
theorem rm7 (l : Launch) (Z : State) (a0 : Array Value) (hw : ∀ d ∈ tables_1, d.before a0 Z = true) (ws : List Jvm.Cond) (a : Addr) (wt : Addr) (wk : Addr) (A : Int64) (B : Int64) (wx : UInt64) (th : Addr) (al : Addr) (kw : ClassId) (kt : ClassId) (ka : ClassId) (kk : ClassId) (y0 : UInt64) (y1 : UInt64) (y2 : UInt64) (z0 : Int32) (z1 : Int32) (z2 : Int32) (u0 : Int32) (u1 : Int32) (h0 : Heap) (n0 : Nat) (Z0 : n0 ≤ h0.size) (pr0 : Exa Z h0 a "com/example/circlerank/circlerank/generate/AliasTable") (pr1 : Fld Z h0 a "com/example/circlerank/circlerank/generate/AliasTable" "threshold" "[D" (.ref th)) (pr2 : Fld Z h0 a "com/example/circlerank/circlerank/generate/AliasTable" "alias" "[I" (.ref al)) (pr3 : Arv Z h0 wt kw .double (3 : Int32) [(.double wx), (.double (FP.l2d A)), (.double (FP.l2d B))] (.double (0 : UInt64))) (pr4 : Arv Z h0 th kt .double (3 : Int32) [(.double y0), (.double y1), (.double y2)] (.double (0 : UInt64))) (pr5 : Arv Z h0 al ka .int (3 : Int32) [(.int z0), (.int z1), (.int z2)] (.int 0)) (pr6 : Arv Z h0 wk kk .int (2 : Int32) [(.int u0), (.int u1)] (.int 0)) (pr7 : own_b A) (pr8 : own_b B) (pr9 : n0 ≤ wk) (pr10 : n0 ≤ th) (pr11 : n0 ≤ al) (pr12 : a ≠ wt) (pr13 : a ≠ wk) (pr14 : a ≠ th) (pr15 : a ≠ al) (pr16 : wt ≠ wk) (pr17 : wt ≠ th) (pr18 : wt ≠ al) (pr19 : wk ≠ th) (pr20 : wk ≠ al) (pr21 : th ≠ al) :
    MetFree l (⟨"com/example/circlerank/circlerank/generate/AliasTable", "build", "([DII[I)V"⟩ : MethodName) (head1 (Jvm.Cond.code (⟨"com/example/circlerank/circlerank/generate/AliasTable", "build", "([DII[I)V"⟩ : MethodName) prog_27_method_2_code 12 none :: ws) ({ frames := 0, cells := 0, slots := 0, locals := 0 } : Room)) (fun aX uX => aX = #[(.ref a), (.ref wt), (.int 1), (.int 3), (.ref wk)] ∧ Z.Warmed39 uX.vm ∧ uX.heap = h0) (fun _ _ _ _ _ => True) (fun _ uX oX wX => ∃ vX lX, oX = .returned vX ∧ Q7 Z a wt wk A B wx th al kw kt ka kk y0 y1 y2 z0 z1 z2 u0 u1 h0 n0 vX wX.heap lX ∧ FrameEnd uX oX wX lX ({ frames := 0, cells := 0, slots := 0, locals := 0 } : Room).cells ({ frames := 0, cells := 0, slots := 0, locals := 0 } : Room).slots) := by
  refine MetFree.of_bodySF (plainFor_of_name pn_0) hisR ?_
  intro p e s m args below meth c s₁ Bd hml0 hP hK
  obtain ⟨rfl, hZ, hh⟩ := hP
  have hx := Bd.exec
  have hby := Bd.bytes
  have hml : c.maxLocals = 12 := hml0
  have hown : s.vm.findClass "com/example/circlerank/circlerank/generate/AliasTable" = some m.cls := findClass_of_methodNamed Bd.named
  have hnm := (name_of_methodNamed Bd.named Bd.method).1
  have X0 : Stand p l e ({ frames := 0, cells := 0, slots := 0, locals := 0 } : Room) s m #[(.ref a), (.ref wt), (.int 1), (.int 3), (.ref wk)] below meth c s₁ [] 0 0 := Stand.of_body Bd
  have e0 : s₁.heap = h0 := by rw [← hh, Bd.state]; rfl
  have N0 := Fr.nil n0
  let ST : State := (s₁.setTop (entryFrame m #[(.ref a), (.ref wt), (.int 1), (.int 3), (.ref wk)] 12))
  have pre0 : ∀ t, Steps p.tables e below (s₁.setTop (mkF m 0 #[.val (.ref a), .val (.ref wt), .val (.int 1), .val (.int 3), .val (.ref wk), .unset, .unset, .unset, .unset, .unset, .unset, .unset] [])) t → Steps p.tables e below ST t := fun t k => castTop (ef_7 m a wt (1 : Int32) (3 : Int32) wk) k
  let LL1 : Array Slot := #[.val (.ref a), .val (.ref wt), .val (.int 1), .val (.int 3), .val (.ref wk), .unset, .unset, .unset, .unset, .unset, .unset, .unset]
  let LL2 : Array Slot := #[.val (.ref a), .val (.ref wt), .val (.int 1), .val (.int 3), .val (.ref wk), .val (.int 2), .unset, .unset, .unset, .unset, .unset, .unset]
  let LL3 : Array Slot := #[.val (.ref a), .val (.ref wt), .val (.int 1), .val (.int 3), .val (.ref wk), .val (.int 2), .val (.double FP.dconst0), .second, .unset, .unset, .unset, .unset]
  let LL4 : Array Slot := #[.val (.ref a), .val (.ref wt), .val (.int 1), .val (.int 3), .val (.ref wk), .val (.int 2), .val (.double FP.dconst0), .second, .val (.int 1), .unset, .unset, .unset]
  obtain ⟨cl_a5, Ar_a5, q_a5, S_a5, N_a5, H_a5, G_a5⟩ := id pr3
  have hin_a5 : ¬ ((1 : Int32) < 0 ∨ cl_a5.slots.size ≤ ((1 : Int32)).toNatClampNeg) := inb_of S_a5 ⟨by decide, by decide⟩
  have hat_a5 := Has.at (v := (.double (FP.l2d A))) H_a5 hin_a5 rfl
  let LL6 : Array Slot := #[.val (.ref a), .val (.ref wt), .val (.int 1), .val (.int 3), .val (.ref wk), .val (.int 2), .val (.double (FP.l2d A)), .second, .val (.int 1), .unset, .unset, .unset]
  let LL7 : Array Slot := #[.val (.ref a), .val (.ref wt), .val (.int 1), .val (.int 3), .val (.ref wk), .val (.int 2), .val (.double (FP.l2d A)), .second, .val (.int 2), .unset, .unset, .unset]
  obtain ⟨cl_a8, Ar_a8, q_a8, S_a8, N_a8, H_a8, G_a8⟩ := id pr3
  have hin_a8 : ¬ ((2 : Int32) < 0 ∨ cl_a8.slots.size ≤ ((2 : Int32)).toNatClampNeg) := inb_of S_a8 ⟨by decide, by decide⟩
  have hat_a8 := Has.at (v := (.double (FP.l2d B))) H_a8 hin_a8 rfl
  let LL9 : Array Slot := #[.val (.ref a), .val (.ref wt), .val (.int 1), .val (.int 3), .val (.ref wk), .val (.int 2), .val (.double (FP.l2d (A + B))), .second, .val (.int 2), .unset, .unset, .unset]
  let LL10 : Array Slot := #[.val (.ref a), .val (.ref wt), .val (.int 1), .val (.int 3), .val (.ref wk), .val (.int 2), .val (.double (FP.l2d (A + B))), .second, .val (.int 3), .unset, .unset, .unset]
  have P11 : ∀ t, Steps p.tables e below (s₁.setTop (mkF m 11 LL10 [])) t → Steps p.tables e below ST t := by
    intro t kk
    refine pre0 _ ?_
    show Steps _ _ _ (s₁.setTop (mkF m 0 LL1 [])) _
    refine XS.iloadN X0.here hx rfl (hb hby d7_0) rfl ?_
    show Steps _ _ _ (s₁.setTop (mkF m 1 LL1 [(.int 3)])) _
    refine XS.iloadN X0.here hx rfl (hb hby d7_1) rfl ?_
    show Steps _ _ _ (s₁.setTop (mkF m 2 LL1 [(.int 1), (.int 3)])) _
    refine XS.isub X0.here hx rfl (hb hby d7_2) rfl ?_
    show Steps _ _ _ (s₁.setTop (mkF m 3 LL1 [(.int 2)])) _
    refine XS.istore X0.here hx rfl (hb hby d7_3) rfl (l' := LL2) rfl ?_
    show Steps _ _ _ (s₁.setTop (mkF m 5 LL2 [])) _
    refine XS.dconst0 X0.here hx rfl (hb hby d7_5) rfl ?_
    show Steps _ _ _ (s₁.setTop (mkF m 6 LL2 [(.double FP.dconst0)])) _
    refine XS.dstore X0.here hx rfl (hb hby d7_6) rfl (l' := LL3) rfl ?_
    show Steps _ _ _ (s₁.setTop (mkF m 8 LL3 [])) _
    refine XS.iloadN X0.here hx rfl (hb hby d7_8) rfl ?_
    show Steps _ _ _ (s₁.setTop (mkF m 9 LL3 [(.int 1)])) _
    refine XS.istore X0.here hx rfl (hb hby d7_9) rfl (l' := LL4) rfl ?_
    show Steps _ _ _ (s₁.setTop (mkF m 11 LL4 [])) _
    refine XS.iload X0.here hx rfl (hb hby d7_11) rfl ?_
    show Steps _ _ _ (s₁.setTop (mkF m 13 LL4 [(.int 1)])) _
    refine XS.iloadN X0.here hx rfl (hb hby d7_13) rfl ?_
    show Steps _ _ _ (s₁.setTop (mkF m 14 LL4 [(.int 3), (.int 1)])) _
    refine XS.icmpNo X0.here hx rfl (hb hby d7_14) rfl (XT.ii_ge_f (by decide)) ?_
    show Steps _ _ _ (s₁.setTop (mkF m 17 LL4 [])) _
    refine XS.dload X0.here hx rfl (hb hby d7_17) rfl ?_
    show Steps _ _ _ (s₁.setTop (mkF m 19 LL4 [(.double FP.dconst0)])) _
    refine XS.aloadN X0.here hx rfl (hb hby d7_19) rfl rfl ?_
    show Steps _ _ _ (s₁.setTop (mkF m 20 LL4 [(.ref wt), (.double FP.dconst0)])) _
    refine XS.iload X0.here hx rfl (hb hby d7_20) rfl ?_
    show Steps _ _ _ (s₁.setTop (mkF m 22 LL4 [(.int 1), (.ref wt), (.double FP.dconst0)])) _
    refine X0.daload hx (j := (1 : Int32)) (v := (.double (FP.l2d A))) (by rw [e0]; exact Ar_a5.1) (State.isArrayOf_alike hZ.alike Ar_a5.2.1) Ar_a5.2.2 hin_a5 hat_a5 (g := (mkF m 22 LL4 [(.int 1), (.ref wt), (.double FP.dconst0)])) rfl rfl (hb hby d7_22) _ ?_
    show Steps _ _ _ (s₁.setTop (mkF m 23 LL4 [(.double (FP.l2d A)), (.double FP.dconst0)])) _
    refine XS.daddS X0.here hx rfl (hb hby d7_23) rfl (nn_w (own_d0 pr7)) (own_d0 pr7) ?_
    show Steps _ _ _ (s₁.setTop (mkF m 24 LL4 [(.double (FP.l2d A))])) _
    refine XS.dstore X0.here hx rfl (hb hby d7_24) rfl (l' := LL6) rfl ?_
    show Steps _ _ _ (s₁.setTop (mkF m 26 LL6 [])) _
    refine XS.iinc X0.here hx rfl (hb hby d7_26) rfl (l' := LL7) rfl ?_
    show Steps _ _ _ (s₁.setTop (mkF m 29 LL7 [])) _
    refine XS.goto X0.here hx rfl (pc0 := 29) (pc' := 11) rfl (hb hby d7_29) (by decide) (by decide) ?_
    show Steps _ _ _ (s₁.setTop (mkF m 11 LL7 [])) _
    refine XS.iload X0.here hx rfl (hb hby d7_11) rfl ?_
    show Steps _ _ _ (s₁.setTop (mkF m 13 LL7 [(.int 2)])) _
    refine XS.iloadN X0.here hx rfl (hb hby d7_13) rfl ?_
    show Steps _ _ _ (s₁.setTop (mkF m 14 LL7 [(.int 3), (.int 2)])) _
    refine XS.icmpNo X0.here hx rfl (hb hby d7_14) rfl (XT.ii_ge_f (by decide)) ?_
    show Steps _ _ _ (s₁.setTop (mkF m 17 LL7 [])) _
    refine XS.dload X0.here hx rfl (hb hby d7_17) rfl ?_
    show Steps _ _ _ (s₁.setTop (mkF m 19 LL7 [(.double (FP.l2d A))])) _
    refine XS.aloadN X0.here hx rfl (hb hby d7_19) rfl rfl ?_
    show Steps _ _ _ (s₁.setTop (mkF m 20 LL7 [(.ref wt), (.double (FP.l2d A))])) _
    refine XS.iload X0.here hx rfl (hb hby d7_20) rfl ?_
    show Steps _ _ _ (s₁.setTop (mkF m 22 LL7 [(.int 2), (.ref wt), (.double (FP.l2d A))])) _
    refine X0.daload hx (j := (2 : Int32)) (v := (.double (FP.l2d B))) (by rw [e0]; exact Ar_a8.1) (State.isArrayOf_alike hZ.alike Ar_a8.2.1) Ar_a8.2.2 hin_a8 hat_a8 (g := (mkF m 22 LL7 [(.int 2), (.ref wt), (.double (FP.l2d A))])) rfl rfl (hb hby d7_22) _ ?_
    show Steps _ _ _ (s₁.setTop (mkF m 23 LL7 [(.double (FP.l2d B)), (.double (FP.l2d A))])) _
    refine XS.daddS X0.here hx rfl (hb hby d7_23) rfl (nn_w (own_dab pr7 pr8)) (own_dab pr7 pr8) ?_
    show Steps _ _ _ (s₁.setTop (mkF m 24 LL7 [(.double (FP.l2d (A + B)))])) _
    refine XS.dstore X0.here hx rfl (hb hby d7_24) rfl (l' := LL9) rfl ?_
    show Steps _ _ _ (s₁.setTop (mkF m 26 LL9 [])) _
    refine XS.iinc X0.here hx rfl (hb hby d7_26) rfl (l' := LL10) rfl ?_
    show Steps _ _ _ (s₁.setTop (mkF m 29 LL10 [])) _
    refine XS.goto X0.here hx rfl (pc0 := 29) (pc' := 11) rfl (hb hby d7_29) (by decide) (by decide) ?_
    show Steps _ _ _ (s₁.setTop (mkF m 11 LL10 [])) _
    exact kk
  let LL12 : Array Slot := #[.val (.ref a), .val (.ref wt), .val (.int 1), .val (.int 3), .val (.ref wk), .val (.int 2), .val (.double (FP.l2d (A + B))), .second, .val (.int 0), .unset, .unset, .unset]
  let LL13 : Array Slot := #[.val (.ref a), .val (.ref wt), .val (.int 1), .val (.int 3), .val (.ref wk), .val (.int 2), .val (.double (FP.l2d (A + B))), .second, .val (.int 0), .val (.int 2), .unset, .unset]
  let LL14 : Array Slot := #[.val (.ref a), .val (.ref wt), .val (.int 1), .val (.int 3), .val (.ref wk), .val (.int 2), .val (.double (FP.l2d (A + B))), .second, .val (.int 0), .val (.int 2), .val (.int 1), .unset]
  obtain ⟨T15, X15, e15, st15⟩ := getF X0 hx hZ hown (host := "") (Or.inl (hw _ (List.mem_of_getElem? (i := 12) rfl))) Via.refl e0 pr1 (g := (mkF m 49 LL14 [(.ref a)])) rfl rfl (hb hby d7_49)
  obtain ⟨cl_a16, Ar_a16, q_a16, S_a16, N_a16, H_a16, G_a16⟩ := id pr3
  have hin_a16 : ¬ ((1 : Int32) < 0 ∨ cl_a16.slots.size ≤ ((1 : Int32)).toNatClampNeg) := inb_of S_a16 ⟨by decide, by decide⟩
  have hat_a16 := Has.at (v := (.double (FP.l2d A))) H_a16 hin_a16 rfl
  obtain ⟨cl_a17, Ar_a17, q_a17, S_a17, N_a17, H_a17, G_a17⟩ := id pr4
  have hin_a17 : ¬ ((1 : Int32) < 0 ∨ cl_a17.slots.size ≤ ((1 : Int32)).toNatClampNeg) := inb_of S_a17 ⟨by decide, by decide⟩
  obtain ⟨T18, h18, X18, e18, W18, st18⟩ := stD X15 hx hZ e15 Ar_a17 (j := (1 : Int32)) hin_a17 (g := (mkF m 65 LL14 [(.double (own_q (A * (2 : Int64)) (A + B))), (.int 1), (.ref th)])) rfl rfl (hb hby d7_65)
  have V18 : Arv Z h18 th kt .double (3 : Int32) [(.double y0), (.double (own_q (A * (2 : Int64)) (A + B))), (.double y2)] (.double (0 : UInt64)) := Arv.set Ar_a17 q_a17 S_a17 N_a17 H_a17 G_a17 rfl W18 1 rfl (Nat.le_of_ble_eq_true rfl)
  have N18 := Fr.snoc X18 N0 pr10
  have f19 := (Fld.other W18 pr2 (Or.inl pr14))
  obtain ⟨T20, X20, e20, st20⟩ := getF X18 hx hZ hown (host := "") (Or.inl (hw _ (List.mem_of_getElem? (i := 14) rfl))) Via.refl e18 f19 (g := (mkF m 67 LL14 [(.ref a)])) rfl rfl (hb hby d7_67)
  have f21 := (pr5.other W18 (Ne.symm pr21))
  obtain ⟨cl_a22, Ar_a22, q_a22, S_a22, N_a22, H_a22, G_a22⟩ := id f21
  have hin_a22 : ¬ ((1 : Int32) < 0 ∨ cl_a22.slots.size ≤ ((1 : Int32)).toNatClampNeg) := inb_of S_a22 ⟨by decide, by decide⟩
  obtain ⟨T23, h23, X23, e23, W23, st23⟩ := stI X20 hx hZ e20 Ar_a22 (j := (1 : Int32)) hin_a22 (g := (mkF m 74 LL14 [(.int 1), (.int 1), (.ref al)])) rfl rfl (hb hby d7_74)
  have V23 : Arv Z h23 al ka .int (3 : Int32) [(.int z0), (.int 1), (.int z2)] (.int 0) := Arv.set Ar_a22 q_a22 S_a22 N_a22 H_a22 G_a22 rfl W23 1 rfl (Nat.le_of_ble_eq_true rfl)
  have N23 := Fr.snoc X23 N18 pr11
  have P24 : ∀ t, Steps p.tables e below (T23.setTop (mkF m 76 LL14 [(.ref a)])) t → Steps p.tables e below ST t := by
    intro t kk
    refine P11 _ ?_
    show Steps _ _ _ (s₁.setTop (mkF m 11 LL10 [])) _
    refine XS.iload X0.here hx rfl (hb hby d7_11) rfl ?_
    show Steps _ _ _ (s₁.setTop (mkF m 13 LL10 [(.int 3)])) _
    refine XS.iloadN X0.here hx rfl (hb hby d7_13) rfl ?_
    show Steps _ _ _ (s₁.setTop (mkF m 14 LL10 [(.int 3), (.int 3)])) _
    refine XS.icmpYes X0.here hx rfl (pc0 := 14) (pc' := 32) rfl (hb hby d7_14) rfl (XT.ii_ge_t (by decide)) (by decide) (by decide) ?_
    show Steps _ _ _ (s₁.setTop (mkF m 32 LL10 [])) _
    refine XS.iconst X0.here hx rfl (hb hby d7_32) ?_
    show Steps _ _ _ (s₁.setTop (mkF m 33 LL10 [(.int 0)])) _
    refine XS.istore X0.here hx rfl (hb hby d7_33) rfl (l' := LL12) rfl ?_
    show Steps _ _ _ (s₁.setTop (mkF m 35 LL12 [])) _
    refine XS.iload X0.here hx rfl (hb hby d7_35) rfl ?_
    show Steps _ _ _ (s₁.setTop (mkF m 37 LL12 [(.int 2)])) _
    refine XS.istore X0.here hx rfl (hb hby d7_37) rfl (l' := LL13) rfl ?_
    show Steps _ _ _ (s₁.setTop (mkF m 39 LL13 [])) _
    refine XS.iloadN X0.here hx rfl (hb hby d7_39) rfl ?_
    show Steps _ _ _ (s₁.setTop (mkF m 40 LL13 [(.int 1)])) _
    refine XS.istore X0.here hx rfl (hb hby d7_40) rfl (l' := LL14) rfl ?_
    show Steps _ _ _ (s₁.setTop (mkF m 42 LL14 [])) _
    refine XS.iload X0.here hx rfl (hb hby d7_42) rfl ?_
    show Steps _ _ _ (s₁.setTop (mkF m 44 LL14 [(.int 1)])) _
    refine XS.iloadN X0.here hx rfl (hb hby d7_44) rfl ?_
    show Steps _ _ _ (s₁.setTop (mkF m 45 LL14 [(.int 3), (.int 1)])) _
    refine XS.icmpNo X0.here hx rfl (hb hby d7_45) rfl (XT.ii_ge_f (by decide)) ?_
    show Steps _ _ _ (s₁.setTop (mkF m 48 LL14 [])) _
    refine XS.aloadN X0.here hx rfl (hb hby d7_48) rfl rfl ?_
    show Steps _ _ _ (s₁.setTop (mkF m 49 LL14 [(.ref a)])) _
    refine st15 _ ?_
    show Steps _ _ _ (T15.setTop (mkF m 52 LL14 [(.ref th)])) _
    refine XS.iload X15.here hx rfl (hb hby d7_52) rfl ?_
    show Steps _ _ _ (T15.setTop (mkF m 54 LL14 [(.int 1), (.ref th)])) _
    refine XS.aloadN X15.here hx rfl (hb hby d7_54) rfl rfl ?_
    show Steps _ _ _ (T15.setTop (mkF m 55 LL14 [(.ref wt), (.int 1), (.ref th)])) _
    refine XS.iload X15.here hx rfl (hb hby d7_55) rfl ?_
    show Steps _ _ _ (T15.setTop (mkF m 57 LL14 [(.int 1), (.ref wt), (.int 1), (.ref th)])) _
    refine X15.daload hx (j := (1 : Int32)) (v := (.double (FP.l2d A))) (by rw [e15]; exact Ar_a16.1) (State.isArrayOf_alike hZ.alike Ar_a16.2.1) Ar_a16.2.2 hin_a16 hat_a16 (g := (mkF m 57 LL14 [(.int 1), (.ref wt), (.int 1), (.ref th)])) rfl rfl (hb hby d7_57) _ ?_
    show Steps _ _ _ (T15.setTop (mkF m 58 LL14 [(.double (FP.l2d A)), (.int 1), (.ref th)])) _
    refine XS.iload X15.here hx rfl (hb hby d7_58) rfl ?_
    show Steps _ _ _ (T15.setTop (mkF m 60 LL14 [(.int 2), (.double (FP.l2d A)), (.int 1), (.ref th)])) _
    refine XS.i2dS X15.here hx rfl (hb hby d7_60) rfl rfl ?_
    show Steps _ _ _ (T15.setTop (mkF m 61 LL14 [(.double (FP.i2d (2 : Int32))), (.double (FP.l2d A)), (.int 1), (.ref th)])) _
    refine XS.dmulS X15.here hx rfl (hb hby d7_61) rfl (nn_w (own_m2 pr7)) (own_m2 pr7) ?_
    show Steps _ _ _ (T15.setTop (mkF m 62 LL14 [(.double (FP.l2d (A * (2 : Int64)))), (.int 1), (.ref th)])) _
    refine XS.dload X15.here hx rfl (hb hby d7_62) rfl ?_
    show Steps _ _ _ (T15.setTop (mkF m 64 LL14 [(.double (FP.l2d (A + B))), (.double (FP.l2d (A * (2 : Int64)))), (.int 1), (.ref th)])) _
    refine XS.ddivS X15.here hx rfl (hb hby d7_64) rfl (own_qA pr7 pr8).noNaN rfl ?_
    show Steps _ _ _ (T15.setTop (mkF m 65 LL14 [(.double (own_q (A * (2 : Int64)) (A + B))), (.int 1), (.ref th)])) _
    refine st18 _ ?_
    show Steps _ _ _ (T18.setTop (mkF m 66 LL14 [])) _
    refine XS.aloadN X18.here hx rfl (hb hby d7_66) rfl rfl ?_
    show Steps _ _ _ (T18.setTop (mkF m 67 LL14 [(.ref a)])) _
    refine st20 _ ?_
    show Steps _ _ _ (T20.setTop (mkF m 70 LL14 [(.ref al)])) _
    refine XS.iload X20.here hx rfl (hb hby d7_70) rfl ?_
    show Steps _ _ _ (T20.setTop (mkF m 72 LL14 [(.int 1), (.ref al)])) _
    refine XS.iload X20.here hx rfl (hb hby d7_72) rfl ?_
    show Steps _ _ _ (T20.setTop (mkF m 74 LL14 [(.int 1), (.int 1), (.ref al)])) _
    refine st23 _ ?_
    show Steps _ _ _ (T23.setTop (mkF m 75 LL14 [])) _
    refine XS.aloadN X23.here hx rfl (hb hby d7_75) rfl rfl ?_
    show Steps _ _ _ (T23.setTop (mkF m 76 LL14 [(.ref a)])) _
    exact kk
  have f25 := (Fld.other W23 (Fld.other W18 pr1 (Or.inl pr14)) (Or.inl pr15))
  obtain ⟨T26, X26, e26, st26⟩ := getF X23 hx hZ hown (host := "") (Or.inl (hw _ (List.mem_of_getElem? (i := 12) rfl))) Via.refl e23 f25 (g := (mkF m 76 LL14 [(.ref a)])) rfl rfl (hb hby d7_76)
  have f27 := (V18.other W23 pr21)
  obtain ⟨cl_a28, Ar_a28, q_a28, S_a28, N_a28, H_a28, G_a28⟩ := id f27
  have hin_a28 : ¬ ((1 : Int32) < 0 ∨ cl_a28.slots.size ≤ ((1 : Int32)).toNatClampNeg) := inb_of S_a28 ⟨by decide, by decide⟩
  have hat_a28 := Has.at (v := (.double (own_q (A * (2 : Int64)) (A + B)))) H_a28 hin_a28 rfl
  have P29 : ∀ t, Steps p.tables e below (T26.setTop (mkF m 84 LL14 [(.int (cmpValue (FP.dcmp (own_q (A * (2 : Int64)) (A + B)) FP.dconst1) .g))])) t → Steps p.tables e below ST t := by
    intro t kk
    refine P24 _ ?_
    show Steps _ _ _ (T23.setTop (mkF m 76 LL14 [(.ref a)])) _
    refine st26 _ ?_
    show Steps _ _ _ (T26.setTop (mkF m 79 LL14 [(.ref th)])) _
    refine XS.iload X26.here hx rfl (hb hby d7_79) rfl ?_
    show Steps _ _ _ (T26.setTop (mkF m 81 LL14 [(.int 1), (.ref th)])) _
    refine X26.daload hx (j := (1 : Int32)) (v := (.double (own_q (A * (2 : Int64)) (A + B)))) (by rw [e26]; exact Ar_a28.1) (State.isArrayOf_alike hZ.alike Ar_a28.2.1) Ar_a28.2.2 hin_a28 hat_a28 (g := (mkF m 81 LL14 [(.int 1), (.ref th)])) rfl rfl (hb hby d7_81) _ ?_
    show Steps _ _ _ (T26.setTop (mkF m 82 LL14 [(.double (own_q (A * (2 : Int64)) (A + B)))])) _
    refine XS.dconst1 X26.here hx rfl (hb hby d7_82) rfl ?_
    show Steps _ _ _ (T26.setTop (mkF m 83 LL14 [(.double FP.dconst1), (.double (own_q (A * (2 : Int64)) (A + B)))])) _
    refine XS.dcmpS X26.here hx rfl (hb hby d7_83) rfl rfl ?_
    show Steps _ _ _ (T26.setTop (mkF m 84 LL14 [(.int (cmpValue (FP.dcmp (own_q (A * (2 : Int64)) (A + B)) FP.dconst1) .g))])) _
    exact kk
  by_cases c30 : (cmpValue (FP.dcmp (own_q (A * (2 : Int64)) (A + B)) FP.dconst1) .g) < (0 : Int32)
  · skip
    let LL31 : Array Slot := #[.val (.ref a), .val (.ref wt), .val (.int 1), .val (.int 3), .val (.ref wk), .val (.int 2), .val (.double (FP.l2d (A + B))), .second, .val (.int 1), .val (.int 2), .val (.int 1), .unset]
    have f32 := ((pr6.other W18 pr19).other W23 pr20)
    obtain ⟨cl_a33, Ar_a33, q_a33, S_a33, N_a33, H_a33, G_a33⟩ := id f32
    have hin_a33 : ¬ ((0 : Int32) < 0 ∨ cl_a33.slots.size ≤ ((0 : Int32)).toNatClampNeg) := inb_of S_a33 ⟨by decide, by decide⟩
    obtain ⟨T34, h34, X34, e34, W34, st34⟩ := stI X26 hx hZ e26 Ar_a33 (j := (0 : Int32)) hin_a33 (g := (mkF m 96 LL31 [(.int 1), (.int 0), (.ref wk)])) rfl rfl (hb hby d7_96)
    have V34 : Arv Z h34 wk kk .int (2 : Int32) [(.int 1), (.int u1)] (.int 0) := Arv.set Ar_a33 q_a33 S_a33 N_a33 H_a33 G_a33 rfl W34 0 rfl (Nat.le_of_ble_eq_true rfl)
    have N34 := Fr.snoc X34 N23 pr9
    let LL35 : Array Slot := #[.val (.ref a), .val (.ref wt), .val (.int 1), .val (.int 3), .val (.ref wk), .val (.int 2), .val (.double (FP.l2d (A + B))), .second, .val (.int 1), .val (.int 2), .val (.int 2), .unset]
    have f36 := (Fld.other W34 f25 (Or.inl pr13))
    obtain ⟨T37, X37, e37, st37⟩ := getF X34 hx hZ hown (host := "") (Or.inl (hw _ (List.mem_of_getElem? (i := 12) rfl))) Via.refl e34 f36 (g := (mkF m 49 LL35 [(.ref a)])) rfl rfl (hb hby d7_49)
    have f38 := (((pr3.other W18 pr17).other W23 pr18).other W34 pr16)
    obtain ⟨cl_a39, Ar_a39, q_a39, S_a39, N_a39, H_a39, G_a39⟩ := id f38
    have hin_a39 : ¬ ((2 : Int32) < 0 ∨ cl_a39.slots.size ≤ ((2 : Int32)).toNatClampNeg) := inb_of S_a39 ⟨by decide, by decide⟩
    have hat_a39 := Has.at (v := (.double (FP.l2d B))) H_a39 hin_a39 rfl
    have f40 := (f27.other W34 (Ne.symm pr19))
    obtain ⟨cl_a41, Ar_a41, q_a41, S_a41, N_a41, H_a41, G_a41⟩ := id f40
    have hin_a41 : ¬ ((2 : Int32) < 0 ∨ cl_a41.slots.size ≤ ((2 : Int32)).toNatClampNeg) := inb_of S_a41 ⟨by decide, by decide⟩
    obtain ⟨T42, h42, X42, e42, W42, st42⟩ := stD X37 hx hZ e37 Ar_a41 (j := (2 : Int32)) hin_a41 (g := (mkF m 65 LL35 [(.double (own_q (B * (2 : Int64)) (A + B))), (.int 2), (.ref th)])) rfl rfl (hb hby d7_65)
    have V42 : Arv Z h42 th kt .double (3 : Int32) [(.double y0), (.double (own_q (A * (2 : Int64)) (A + B))), (.double (own_q (B * (2 : Int64)) (A + B)))] (.double (0 : UInt64)) := Arv.set Ar_a41 q_a41 S_a41 N_a41 H_a41 G_a41 rfl W42 2 rfl (Nat.le_of_ble_eq_true rfl)
    have N42 := Fr.snoc X42 N34 pr10
    have f43 := (Fld.other W42 (Fld.other W34 (Fld.other W23 f19 (Or.inl pr15)) (Or.inl pr13)) (Or.inl pr14))
    obtain ⟨T44, X44, e44, st44⟩ := getF X42 hx hZ hown (host := "") (Or.inl (hw _ (List.mem_of_getElem? (i := 14) rfl))) Via.refl e42 f43 (g := (mkF m 67 LL35 [(.ref a)])) rfl rfl (hb hby d7_67)
    have f45 := ((V23.other W34 (Ne.symm pr20)).other W42 (Ne.symm pr21))
    obtain ⟨cl_a46, Ar_a46, q_a46, S_a46, N_a46, H_a46, G_a46⟩ := id f45
    have hin_a46 : ¬ ((2 : Int32) < 0 ∨ cl_a46.slots.size ≤ ((2 : Int32)).toNatClampNeg) := inb_of S_a46 ⟨by decide, by decide⟩
    obtain ⟨T47, h47, X47, e47, W47, st47⟩ := stI X44 hx hZ e44 Ar_a46 (j := (2 : Int32)) hin_a46 (g := (mkF m 74 LL35 [(.int 2), (.int 2), (.ref al)])) rfl rfl (hb hby d7_74)
    have V47 : Arv Z h47 al ka .int (3 : Int32) [(.int z0), (.int 1), (.int 2)] (.int 0) := Arv.set Ar_a46 q_a46 S_a46 N_a46 H_a46 G_a46 rfl W47 2 rfl (Nat.le_of_ble_eq_true rfl)
    have N47 := Fr.snoc X47 N42 pr11
    have P48 : ∀ t, Steps p.tables e below (T47.setTop (mkF m 76 LL35 [(.ref a)])) t → Steps p.tables e below ST t := by
      intro t kk
      refine P29 _ ?_
      show Steps _ _ _ (T26.setTop (mkF m 84 LL14 [(.int (cmpValue (FP.dcmp (own_q (A * (2 : Int64)) (A + B)) FP.dconst1) .g))])) _
      refine XS.ifNo X26.here hx rfl (hb hby d7_84) rfl (XT.i0_ge_f c30) ?_
      show Steps _ _ _ (T26.setTop (mkF m 87 LL14 [])) _
      refine XS.aload X26.here hx rfl (hb hby d7_87) rfl rfl ?_
      show Steps _ _ _ (T26.setTop (mkF m 89 LL14 [(.ref wk)])) _
      refine XS.iload X26.here hx rfl (hb hby d7_89) rfl ?_
      show Steps _ _ _ (T26.setTop (mkF m 91 LL14 [(.int 0), (.ref wk)])) _
      refine XS.iinc X26.here hx rfl (hb hby d7_91) rfl (l' := LL31) rfl ?_
      show Steps _ _ _ (T26.setTop (mkF m 94 LL31 [(.int 0), (.ref wk)])) _
      refine XS.iload X26.here hx rfl (hb hby d7_94) rfl ?_
      show Steps _ _ _ (T26.setTop (mkF m 96 LL31 [(.int 1), (.int 0), (.ref wk)])) _
      refine st34 _ ?_
      show Steps _ _ _ (T34.setTop (mkF m 97 LL31 [])) _
      refine XS.goto X34.here hx rfl (pc0 := 97) (pc' := 110) rfl (hb hby d7_97) (by decide) (by decide) ?_
      show Steps _ _ _ (T34.setTop (mkF m 110 LL31 [])) _
      refine XS.iinc X34.here hx rfl (hb hby d7_110) rfl (l' := LL35) rfl ?_
      show Steps _ _ _ (T34.setTop (mkF m 113 LL35 [])) _
      refine XS.goto X34.here hx rfl (pc0 := 113) (pc' := 42) rfl (hb hby d7_113) (by decide) (by decide) ?_
      show Steps _ _ _ (T34.setTop (mkF m 42 LL35 [])) _
      refine XS.iload X34.here hx rfl (hb hby d7_42) rfl ?_
      show Steps _ _ _ (T34.setTop (mkF m 44 LL35 [(.int 2)])) _
      refine XS.iloadN X34.here hx rfl (hb hby d7_44) rfl ?_
      show Steps _ _ _ (T34.setTop (mkF m 45 LL35 [(.int 3), (.int 2)])) _
      refine XS.icmpNo X34.here hx rfl (hb hby d7_45) rfl (XT.ii_ge_f (by decide)) ?_
      show Steps _ _ _ (T34.setTop (mkF m 48 LL35 [])) _
      refine XS.aloadN X34.here hx rfl (hb hby d7_48) rfl rfl ?_
      show Steps _ _ _ (T34.setTop (mkF m 49 LL35 [(.ref a)])) _
      refine st37 _ ?_
      show Steps _ _ _ (T37.setTop (mkF m 52 LL35 [(.ref th)])) _
      refine XS.iload X37.here hx rfl (hb hby d7_52) rfl ?_
      show Steps _ _ _ (T37.setTop (mkF m 54 LL35 [(.int 2), (.ref th)])) _
      refine XS.aloadN X37.here hx rfl (hb hby d7_54) rfl rfl ?_
      show Steps _ _ _ (T37.setTop (mkF m 55 LL35 [(.ref wt), (.int 2), (.ref th)])) _
      refine XS.iload X37.here hx rfl (hb hby d7_55) rfl ?_
      show Steps _ _ _ (T37.setTop (mkF m 57 LL35 [(.int 2), (.ref wt), (.int 2), (.ref th)])) _
      refine X37.daload hx (j := (2 : Int32)) (v := (.double (FP.l2d B))) (by rw [e37]; exact Ar_a39.1) (State.isArrayOf_alike hZ.alike Ar_a39.2.1) Ar_a39.2.2 hin_a39 hat_a39 (g := (mkF m 57 LL35 [(.int 2), (.ref wt), (.int 2), (.ref th)])) rfl rfl (hb hby d7_57) _ ?_
      show Steps _ _ _ (T37.setTop (mkF m 58 LL35 [(.double (FP.l2d B)), (.int 2), (.ref th)])) _
      refine XS.iload X37.here hx rfl (hb hby d7_58) rfl ?_
      show Steps _ _ _ (T37.setTop (mkF m 60 LL35 [(.int 2), (.double (FP.l2d B)), (.int 2), (.ref th)])) _
      refine XS.i2dS X37.here hx rfl (hb hby d7_60) rfl rfl ?_
      show Steps _ _ _ (T37.setTop (mkF m 61 LL35 [(.double (FP.i2d (2 : Int32))), (.double (FP.l2d B)), (.int 2), (.ref th)])) _
      refine XS.dmulS X37.here hx rfl (hb hby d7_61) rfl (nn_w (own_m2 pr8)) (own_m2 pr8) ?_
      show Steps _ _ _ (T37.setTop (mkF m 62 LL35 [(.double (FP.l2d (B * (2 : Int64)))), (.int 2), (.ref th)])) _
      refine XS.dload X37.here hx rfl (hb hby d7_62) rfl ?_
      show Steps _ _ _ (T37.setTop (mkF m 64 LL35 [(.double (FP.l2d (A + B))), (.double (FP.l2d (B * (2 : Int64)))), (.int 2), (.ref th)])) _
      refine XS.ddivS X37.here hx rfl (hb hby d7_64) rfl (own_qB pr7 pr8).noNaN rfl ?_
      show Steps _ _ _ (T37.setTop (mkF m 65 LL35 [(.double (own_q (B * (2 : Int64)) (A + B))), (.int 2), (.ref th)])) _
      refine st42 _ ?_
      show Steps _ _ _ (T42.setTop (mkF m 66 LL35 [])) _
      refine XS.aloadN X42.here hx rfl (hb hby d7_66) rfl rfl ?_
      show Steps _ _ _ (T42.setTop (mkF m 67 LL35 [(.ref a)])) _
      refine st44 _ ?_
      show Steps _ _ _ (T44.setTop (mkF m 70 LL35 [(.ref al)])) _
      refine XS.iload X44.here hx rfl (hb hby d7_70) rfl ?_
      show Steps _ _ _ (T44.setTop (mkF m 72 LL35 [(.int 2), (.ref al)])) _
      refine XS.iload X44.here hx rfl (hb hby d7_72) rfl ?_
      show Steps _ _ _ (T44.setTop (mkF m 74 LL35 [(.int 2), (.int 2), (.ref al)])) _
      refine st47 _ ?_
      show Steps _ _ _ (T47.setTop (mkF m 75 LL35 [])) _
      refine XS.aloadN X47.here hx rfl (hb hby d7_75) rfl rfl ?_
      show Steps _ _ _ (T47.setTop (mkF m 76 LL35 [(.ref a)])) _
      exact kk
    have f49 := (Fld.other W47 (Fld.other W42 f36 (Or.inl pr14)) (Or.inl pr15))
    obtain ⟨T50, X50, e50, st50⟩ := getF X47 hx hZ hown (host := "") (Or.inl (hw _ (List.mem_of_getElem? (i := 12) rfl))) Via.refl e47 f49 (g := (mkF m 76 LL35 [(.ref a)])) rfl rfl (hb hby d7_76)
    have f51 := (V42.other W47 pr21)
    obtain ⟨cl_a52, Ar_a52, q_a52, S_a52, N_a52, H_a52, G_a52⟩ := id f51
    have hin_a52 : ¬ ((2 : Int32) < 0 ∨ cl_a52.slots.size ≤ ((2 : Int32)).toNatClampNeg) := inb_of S_a52 ⟨by decide, by decide⟩
    have hat_a52 := Has.at (v := (.double (own_q (B * (2 : Int64)) (A + B)))) H_a52 hin_a52 rfl
    let LL53 : Array Slot := #[.val (.ref a), .val (.ref wt), .val (.int 1), .val (.int 3), .val (.ref wk), .val (.int 2), .val (.double (FP.l2d (A + B))), .second, .val (.int 1), .val (.int 1), .val (.int 2), .unset]
    have f54 := ((V34.other W42 pr19).other W47 pr20)
    obtain ⟨cl_a55, Ar_a55, q_a55, S_a55, N_a55, H_a55, G_a55⟩ := id f54
    have hin_a55 : ¬ ((1 : Int32) < 0 ∨ cl_a55.slots.size ≤ ((1 : Int32)).toNatClampNeg) := inb_of S_a55 ⟨by decide, by decide⟩
    obtain ⟨T56, h56, X56, e56, W56, st56⟩ := stI X50 hx hZ e50 Ar_a55 (j := (1 : Int32)) hin_a55 (g := (mkF m 109 LL53 [(.int 2), (.int 1), (.ref wk)])) rfl rfl (hb hby d7_109)
    have V56 : Arv Z h56 wk kk .int (2 : Int32) [(.int 1), (.int 2)] (.int 0) := Arv.set Ar_a55 q_a55 S_a55 N_a55 H_a55 G_a55 rfl W56 1 rfl (Nat.le_of_ble_eq_true rfl)
    have N56 := Fr.snoc X56 N47 pr9
    let LL57 : Array Slot := #[.val (.ref a), .val (.ref wt), .val (.int 1), .val (.int 3), .val (.ref wk), .val (.int 2), .val (.double (FP.l2d (A + B))), .second, .val (.int 1), .val (.int 1), .val (.int 3), .unset]
    let LL58 : Array Slot := #[.val (.ref a), .val (.ref wt), .val (.int 1), .val (.int 3), .val (.ref wk), .val (.int 2), .val (.double (FP.l2d (A + B))), .second, .val (.int 0), .val (.int 1), .val (.int 3), .unset]
    obtain ⟨cl_a59, Ar_a59, q_a59, S_a59, N_a59, H_a59, G_a59⟩ := id V56
    have hin_a59 : ¬ ((0 : Int32) < 0 ∨ cl_a59.slots.size ≤ ((0 : Int32)).toNatClampNeg) := inb_of S_a59 ⟨by decide, by decide⟩
    have hat_a59 := Has.at (v := (.int 1)) H_a59 hin_a59 rfl
    let LL60 : Array Slot := #[.val (.ref a), .val (.ref wt), .val (.int 1), .val (.int 3), .val (.ref wk), .val (.int 2), .val (.double (FP.l2d (A + B))), .second, .val (.int 0), .val (.int 1), .val (.int 1), .unset]
    obtain ⟨cl_a61, Ar_a61, q_a61, S_a61, N_a61, H_a61, G_a61⟩ := id V56
    have hin_a61 : ¬ ((1 : Int32) < 0 ∨ cl_a61.slots.size ≤ ((1 : Int32)).toNatClampNeg) := inb_of S_a61 ⟨by decide, by decide⟩
    have hat_a61 := Has.at (v := (.int 2)) H_a61 hin_a61 rfl
    let LL62 : Array Slot := #[.val (.ref a), .val (.ref wt), .val (.int 1), .val (.int 3), .val (.ref wk), .val (.int 2), .val (.double (FP.l2d (A + B))), .second, .val (.int 0), .val (.int 1), .val (.int 1), .val (.int 2)]
    have P63 : ∀ t, Steps p.tables e below (T56.setTop (mkF m 145 LL62 [])) t → Steps p.tables e below ST t := by
      intro t kk
      refine P48 _ ?_
      show Steps _ _ _ (T47.setTop (mkF m 76 LL35 [(.ref a)])) _
      refine st50 _ ?_
      show Steps _ _ _ (T50.setTop (mkF m 79 LL35 [(.ref th)])) _
      refine XS.iload X50.here hx rfl (hb hby d7_79) rfl ?_
      show Steps _ _ _ (T50.setTop (mkF m 81 LL35 [(.int 2), (.ref th)])) _
      refine X50.daload hx (j := (2 : Int32)) (v := (.double (own_q (B * (2 : Int64)) (A + B)))) (by rw [e50]; exact Ar_a52.1) (State.isArrayOf_alike hZ.alike Ar_a52.2.1) Ar_a52.2.2 hin_a52 hat_a52 (g := (mkF m 81 LL35 [(.int 2), (.ref th)])) rfl rfl (hb hby d7_81) _ ?_
      show Steps _ _ _ (T50.setTop (mkF m 82 LL35 [(.double (own_q (B * (2 : Int64)) (A + B)))])) _
      refine XS.dconst1 X50.here hx rfl (hb hby d7_82) rfl ?_
      show Steps _ _ _ (T50.setTop (mkF m 83 LL35 [(.double FP.dconst1), (.double (own_q (B * (2 : Int64)) (A + B)))])) _
      refine XS.dcmpS X50.here hx rfl (hb hby d7_83) rfl rfl ?_
      show Steps _ _ _ (T50.setTop (mkF m 84 LL35 [(.int (cmpValue (FP.dcmp (own_q (B * (2 : Int64)) (A + B)) FP.dconst1) .g))])) _
      refine XS.ifYes X50.here hx rfl (pc0 := 84) (pc' := 100) rfl (hb hby d7_84) rfl (XT.i0_ge_t (own_nb pr7 pr8 c30)) (by decide) (by decide) ?_
      show Steps _ _ _ (T50.setTop (mkF m 100 LL35 [])) _
      refine XS.aload X50.here hx rfl (hb hby d7_100) rfl rfl ?_
      show Steps _ _ _ (T50.setTop (mkF m 102 LL35 [(.ref wk)])) _
      refine XS.iinc X50.here hx rfl (hb hby d7_102) rfl (l' := LL53) rfl ?_
      show Steps _ _ _ (T50.setTop (mkF m 105 LL53 [(.ref wk)])) _
      refine XS.iload X50.here hx rfl (hb hby d7_105) rfl ?_
      show Steps _ _ _ (T50.setTop (mkF m 107 LL53 [(.int 1), (.ref wk)])) _
      refine XS.iload X50.here hx rfl (hb hby d7_107) rfl ?_
      show Steps _ _ _ (T50.setTop (mkF m 109 LL53 [(.int 2), (.int 1), (.ref wk)])) _
      refine st56 _ ?_
      show Steps _ _ _ (T56.setTop (mkF m 110 LL53 [])) _
      refine XS.iinc X56.here hx rfl (hb hby d7_110) rfl (l' := LL57) rfl ?_
      show Steps _ _ _ (T56.setTop (mkF m 113 LL57 [])) _
      refine XS.goto X56.here hx rfl (pc0 := 113) (pc' := 42) rfl (hb hby d7_113) (by decide) (by decide) ?_
      show Steps _ _ _ (T56.setTop (mkF m 42 LL57 [])) _
      refine XS.iload X56.here hx rfl (hb hby d7_42) rfl ?_
      show Steps _ _ _ (T56.setTop (mkF m 44 LL57 [(.int 3)])) _
      refine XS.iloadN X56.here hx rfl (hb hby d7_44) rfl ?_
      show Steps _ _ _ (T56.setTop (mkF m 45 LL57 [(.int 3), (.int 3)])) _
      refine XS.icmpYes X56.here hx rfl (pc0 := 45) (pc' := 116) rfl (hb hby d7_45) rfl (XT.ii_ge_t (by decide)) (by decide) (by decide) ?_
      show Steps _ _ _ (T56.setTop (mkF m 116 LL57 [])) _
      refine XS.iload X56.here hx rfl (hb hby d7_116) rfl ?_
      show Steps _ _ _ (T56.setTop (mkF m 118 LL57 [(.int 1)])) _
      refine XS.ifNo X56.here hx rfl (hb hby d7_118) rfl (XT.i0_le_f (by decide)) ?_
      show Steps _ _ _ (T56.setTop (mkF m 121 LL57 [])) _
      refine XS.iload X56.here hx rfl (hb hby d7_121) rfl ?_
      show Steps _ _ _ (T56.setTop (mkF m 123 LL57 [(.int 1)])) _
      refine XS.iload X56.here hx rfl (hb hby d7_123) rfl ?_
      show Steps _ _ _ (T56.setTop (mkF m 125 LL57 [(.int 2), (.int 1)])) _
      refine XS.icmpNo X56.here hx rfl (hb hby d7_125) rfl (XT.ii_ge_f (by decide)) ?_
      show Steps _ _ _ (T56.setTop (mkF m 128 LL57 [])) _
      refine XS.aload X56.here hx rfl (hb hby d7_128) rfl rfl ?_
      show Steps _ _ _ (T56.setTop (mkF m 130 LL57 [(.ref wk)])) _
      refine XS.iinc X56.here hx rfl (hb hby d7_130) rfl (l' := LL58) rfl ?_
      show Steps _ _ _ (T56.setTop (mkF m 133 LL58 [(.ref wk)])) _
      refine XS.iload X56.here hx rfl (hb hby d7_133) rfl ?_
      show Steps _ _ _ (T56.setTop (mkF m 135 LL58 [(.int 0), (.ref wk)])) _
      refine X56.iaload hx (j := (0 : Int32)) (v := (.int 1)) (by rw [e56]; exact Ar_a59.1) (State.isArrayOf_alike hZ.alike Ar_a59.2.1) Ar_a59.2.2 hin_a59 hat_a59 (g := (mkF m 135 LL58 [(.int 0), (.ref wk)])) rfl rfl (hb hby d7_135) _ ?_
      show Steps _ _ _ (T56.setTop (mkF m 136 LL58 [(.int 1)])) _
      refine XS.istore X56.here hx rfl (hb hby d7_136) rfl (l' := LL60) rfl ?_
      show Steps _ _ _ (T56.setTop (mkF m 138 LL60 [])) _
      refine XS.aload X56.here hx rfl (hb hby d7_138) rfl rfl ?_
      show Steps _ _ _ (T56.setTop (mkF m 140 LL60 [(.ref wk)])) _
      refine XS.iload X56.here hx rfl (hb hby d7_140) rfl ?_
      show Steps _ _ _ (T56.setTop (mkF m 142 LL60 [(.int 1), (.ref wk)])) _
      refine X56.iaload hx (j := (1 : Int32)) (v := (.int 2)) (by rw [e56]; exact Ar_a61.1) (State.isArrayOf_alike hZ.alike Ar_a61.2.1) Ar_a61.2.2 hin_a61 hat_a61 (g := (mkF m 142 LL60 [(.int 1), (.ref wk)])) rfl rfl (hb hby d7_142) _ ?_
      show Steps _ _ _ (T56.setTop (mkF m 143 LL60 [(.int 2)])) _
      refine XS.istore X56.here hx rfl (hb hby d7_143) rfl (l' := LL62) rfl ?_
      show Steps _ _ _ (T56.setTop (mkF m 145 LL62 [])) _
      exact kk
    have f64 := (Fld.other W56 (Fld.other W47 f43 (Or.inl pr15)) (Or.inl pr13))
    obtain ⟨T65, X65, e65, st65⟩ := getF X56 hx hZ hown (host := "") (Or.inl (hw _ (List.mem_of_getElem? (i := 14) rfl))) Via.refl e56 f64 (g := (mkF m 146 LL62 [(.ref a)])) rfl rfl (hb hby d7_146)
    have f66 := (V47.other W56 (Ne.symm pr20))
    obtain ⟨cl_a67, Ar_a67, q_a67, S_a67, N_a67, H_a67, G_a67⟩ := id f66
    have hin_a67 : ¬ ((1 : Int32) < 0 ∨ cl_a67.slots.size ≤ ((1 : Int32)).toNatClampNeg) := inb_of S_a67 ⟨by decide, by decide⟩
    obtain ⟨T68, h68, X68, e68, W68, st68⟩ := stI X65 hx hZ e65 Ar_a67 (j := (1 : Int32)) hin_a67 (g := (mkF m 153 LL62 [(.int 2), (.int 1), (.ref al)])) rfl rfl (hb hby d7_153)
    have V68 : Arv Z h68 al ka .int (3 : Int32) [(.int z0), (.int 2), (.int 2)] (.int 0) := Arv.set Ar_a67 q_a67 S_a67 N_a67 H_a67 G_a67 rfl W68 1 rfl (Nat.le_of_ble_eq_true rfl)
    have N68 := Fr.snoc X68 N56 pr11
    have f69 := (Fld.other W68 (Fld.other W56 f49 (Or.inl pr13)) (Or.inl pr15))
    obtain ⟨T70, X70, e70, st70⟩ := getF X68 hx hZ hown (host := "") (Or.inl (hw _ (List.mem_of_getElem? (i := 12) rfl))) Via.refl e68 f69 (g := (mkF m 155 LL62 [(.ref a)])) rfl rfl (hb hby d7_155)
    have f71 := ((f51.other W56 (Ne.symm pr19)).other W68 pr21)
    obtain ⟨cl_a72, Ar_a72, q_a72, S_a72, N_a72, H_a72, G_a72⟩ := id f71
    have hin_a72 : ¬ ((2 : Int32) < 0 ∨ cl_a72.slots.size ≤ ((2 : Int32)).toNatClampNeg) := inb_of S_a72 ⟨by decide, by decide⟩
    have hat_a72 := Has.at (v := (.double (own_q (B * (2 : Int64)) (A + B)))) H_a72 hin_a72 rfl
    obtain ⟨T73, X73, e73, st73⟩ := getF X70 hx hZ hown (host := "") (Or.inl (hw _ (List.mem_of_getElem? (i := 12) rfl))) Via.refl e70 f69 (g := (mkF m 163 LL62 [(.ref a), (.double (own_q (B * (2 : Int64)) (A + B))), (.int 2), (.ref th)])) rfl rfl (hb hby d7_163)
    obtain ⟨cl_a74, Ar_a74, q_a74, S_a74, N_a74, H_a74, G_a74⟩ := id f71
    have hin_a74 : ¬ ((1 : Int32) < 0 ∨ cl_a74.slots.size ≤ ((1 : Int32)).toNatClampNeg) := inb_of S_a74 ⟨by decide, by decide⟩
    have hat_a74 := Has.at (v := (.double (own_q (A * (2 : Int64)) (A + B)))) H_a74 hin_a74 rfl
    obtain ⟨cl_a75, Ar_a75, q_a75, S_a75, N_a75, H_a75, G_a75⟩ := id f71
    have hin_a75 : ¬ ((2 : Int32) < 0 ∨ cl_a75.slots.size ≤ ((2 : Int32)).toNatClampNeg) := inb_of S_a75 ⟨by decide, by decide⟩
    obtain ⟨T76, h76, X76, e76, W76, st76⟩ := stD X73 hx hZ e73 Ar_a75 (j := (2 : Int32)) hin_a75 (g := (mkF m 172 LL62 [(.double (FP.dadd (own_q (B * (2 : Int64)) (A + B)) (FP.dsub (own_q (A * (2 : Int64)) (A + B)) FP.dconst1))), (.int 2), (.ref th)])) rfl rfl (hb hby d7_172)
    have V76 : Arv Z h76 th kt .double (3 : Int32) [(.double y0), (.double (own_q (A * (2 : Int64)) (A + B))), (.double (FP.dadd (own_q (B * (2 : Int64)) (A + B)) (FP.dsub (own_q (A * (2 : Int64)) (A + B)) FP.dconst1)))] (.double (0 : UInt64)) := Arv.set Ar_a75 q_a75 S_a75 N_a75 H_a75 G_a75 rfl W76 2 rfl (Nat.le_of_ble_eq_true rfl)
    have N76 := Fr.snoc X76 N68 pr10
    have f77 := (Fld.other W76 f69 (Or.inl pr14))
    obtain ⟨T78, X78, e78, st78⟩ := getF X76 hx hZ hown (host := "") (Or.inl (hw _ (List.mem_of_getElem? (i := 12) rfl))) Via.refl e76 f77 (g := (mkF m 174 LL62 [(.ref a)])) rfl rfl (hb hby d7_174)
    obtain ⟨cl_a79, Ar_a79, q_a79, S_a79, N_a79, H_a79, G_a79⟩ := id V76
    have hin_a79 : ¬ ((2 : Int32) < 0 ∨ cl_a79.slots.size ≤ ((2 : Int32)).toNatClampNeg) := inb_of S_a79 ⟨by decide, by decide⟩
    have hat_a79 := Has.at (v := (.double (FP.dadd (own_q (B * (2 : Int64)) (A + B)) (FP.dsub (own_q (A * (2 : Int64)) (A + B)) FP.dconst1)))) H_a79 hin_a79 rfl
    have P80 : ∀ t, Steps p.tables e below (T78.setTop (mkF m 182 LL62 [(.int (cmpValue (FP.dcmp (FP.dadd (own_q (B * (2 : Int64)) (A + B)) (FP.dsub (own_q (A * (2 : Int64)) (A + B)) FP.dconst1)) FP.dconst1) .g))])) t → Steps p.tables e below ST t := by
      intro t kk
      refine P63 _ ?_
      show Steps _ _ _ (T56.setTop (mkF m 145 LL62 [])) _
      refine XS.aloadN X56.here hx rfl (hb hby d7_145) rfl rfl ?_
      show Steps _ _ _ (T56.setTop (mkF m 146 LL62 [(.ref a)])) _
      refine st65 _ ?_
      show Steps _ _ _ (T65.setTop (mkF m 149 LL62 [(.ref al)])) _
      refine XS.iload X65.here hx rfl (hb hby d7_149) rfl ?_
      show Steps _ _ _ (T65.setTop (mkF m 151 LL62 [(.int 1), (.ref al)])) _
      refine XS.iload X65.here hx rfl (hb hby d7_151) rfl ?_
      show Steps _ _ _ (T65.setTop (mkF m 153 LL62 [(.int 2), (.int 1), (.ref al)])) _
      refine st68 _ ?_
      show Steps _ _ _ (T68.setTop (mkF m 154 LL62 [])) _
      refine XS.aloadN X68.here hx rfl (hb hby d7_154) rfl rfl ?_
      show Steps _ _ _ (T68.setTop (mkF m 155 LL62 [(.ref a)])) _
      refine st70 _ ?_
      show Steps _ _ _ (T70.setTop (mkF m 158 LL62 [(.ref th)])) _
      refine XS.iload X70.here hx rfl (hb hby d7_158) rfl ?_
      show Steps _ _ _ (T70.setTop (mkF m 160 LL62 [(.int 2), (.ref th)])) _
      refine XT.dup2 X70.here hx rfl (hb hby d7_160) rfl rfl rfl ?_
      show Steps _ _ _ (T70.setTop (mkF m 161 LL62 [(.int 2), (.ref th), (.int 2), (.ref th)])) _
      refine X70.daload hx (j := (2 : Int32)) (v := (.double (own_q (B * (2 : Int64)) (A + B)))) (by rw [e70]; exact Ar_a72.1) (State.isArrayOf_alike hZ.alike Ar_a72.2.1) Ar_a72.2.2 hin_a72 hat_a72 (g := (mkF m 161 LL62 [(.int 2), (.ref th), (.int 2), (.ref th)])) rfl rfl (hb hby d7_161) _ ?_
      show Steps _ _ _ (T70.setTop (mkF m 162 LL62 [(.double (own_q (B * (2 : Int64)) (A + B))), (.int 2), (.ref th)])) _
      refine XS.aloadN X70.here hx rfl (hb hby d7_162) rfl rfl ?_
      show Steps _ _ _ (T70.setTop (mkF m 163 LL62 [(.ref a), (.double (own_q (B * (2 : Int64)) (A + B))), (.int 2), (.ref th)])) _
      refine st73 _ ?_
      show Steps _ _ _ (T73.setTop (mkF m 166 LL62 [(.ref th), (.double (own_q (B * (2 : Int64)) (A + B))), (.int 2), (.ref th)])) _
      refine XS.iload X73.here hx rfl (hb hby d7_166) rfl ?_
      show Steps _ _ _ (T73.setTop (mkF m 168 LL62 [(.int 1), (.ref th), (.double (own_q (B * (2 : Int64)) (A + B))), (.int 2), (.ref th)])) _
      refine X73.daload hx (j := (1 : Int32)) (v := (.double (own_q (A * (2 : Int64)) (A + B)))) (by rw [e73]; exact Ar_a74.1) (State.isArrayOf_alike hZ.alike Ar_a74.2.1) Ar_a74.2.2 hin_a74 hat_a74 (g := (mkF m 168 LL62 [(.int 1), (.ref th), (.double (own_q (B * (2 : Int64)) (A + B))), (.int 2), (.ref th)])) rfl rfl (hb hby d7_168) _ ?_
      show Steps _ _ _ (T73.setTop (mkF m 169 LL62 [(.double (own_q (A * (2 : Int64)) (A + B))), (.double (own_q (B * (2 : Int64)) (A + B))), (.int 2), (.ref th)])) _
      refine XS.dconst1 X73.here hx rfl (hb hby d7_169) rfl ?_
      show Steps _ _ _ (T73.setTop (mkF m 170 LL62 [(.double FP.dconst1), (.double (own_q (A * (2 : Int64)) (A + B))), (.double (own_q (B * (2 : Int64)) (A + B))), (.int 2), (.ref th)])) _
      refine XS.dsubS X73.here hx rfl (hb hby d7_170) rfl (own_loop (own_qA pr7 pr8) (own_qB pr7 pr8)).1 rfl ?_
      show Steps _ _ _ (T73.setTop (mkF m 171 LL62 [(.double (FP.dsub (own_q (A * (2 : Int64)) (A + B)) FP.dconst1)), (.double (own_q (B * (2 : Int64)) (A + B))), (.int 2), (.ref th)])) _
      refine XS.daddS X73.here hx rfl (hb hby d7_171) rfl (own_loop (own_qA pr7 pr8) (own_qB pr7 pr8)).2 rfl ?_
      show Steps _ _ _ (T73.setTop (mkF m 172 LL62 [(.double (FP.dadd (own_q (B * (2 : Int64)) (A + B)) (FP.dsub (own_q (A * (2 : Int64)) (A + B)) FP.dconst1))), (.int 2), (.ref th)])) _
      refine st76 _ ?_
      show Steps _ _ _ (T76.setTop (mkF m 173 LL62 [])) _
      refine XS.aloadN X76.here hx rfl (hb hby d7_173) rfl rfl ?_
      show Steps _ _ _ (T76.setTop (mkF m 174 LL62 [(.ref a)])) _
      refine st78 _ ?_
      show Steps _ _ _ (T78.setTop (mkF m 177 LL62 [(.ref th)])) _
      refine XS.iload X78.here hx rfl (hb hby d7_177) rfl ?_
      show Steps _ _ _ (T78.setTop (mkF m 179 LL62 [(.int 2), (.ref th)])) _
      refine X78.daload hx (j := (2 : Int32)) (v := (.double (FP.dadd (own_q (B * (2 : Int64)) (A + B)) (FP.dsub (own_q (A * (2 : Int64)) (A + B)) FP.dconst1)))) (by rw [e78]; exact Ar_a79.1) (State.isArrayOf_alike hZ.alike Ar_a79.2.1) Ar_a79.2.2 hin_a79 hat_a79 (g := (mkF m 179 LL62 [(.int 2), (.ref th)])) rfl rfl (hb hby d7_179) _ ?_
      show Steps _ _ _ (T78.setTop (mkF m 180 LL62 [(.double (FP.dadd (own_q (B * (2 : Int64)) (A + B)) (FP.dsub (own_q (A * (2 : Int64)) (A + B)) FP.dconst1)))])) _
      refine XS.dconst1 X78.here hx rfl (hb hby d7_180) rfl ?_
      show Steps _ _ _ (T78.setTop (mkF m 181 LL62 [(.double FP.dconst1), (.double (FP.dadd (own_q (B * (2 : Int64)) (A + B)) (FP.dsub (own_q (A * (2 : Int64)) (A + B)) FP.dconst1)))])) _
      refine XS.dcmpS X78.here hx rfl (hb hby d7_181) rfl rfl ?_
      show Steps _ _ _ (T78.setTop (mkF m 182 LL62 [(.int (cmpValue (FP.dcmp (FP.dadd (own_q (B * (2 : Int64)) (A + B)) (FP.dsub (own_q (A * (2 : Int64)) (A + B)) FP.dconst1)) FP.dconst1) .g))])) _
      exact kk
    by_cases c81 : (cmpValue (FP.dcmp (FP.dadd (own_q (B * (2 : Int64)) (A + B)) (FP.dsub (own_q (A * (2 : Int64)) (A + B)) FP.dconst1)) FP.dconst1) .g) < (0 : Int32)
    · skip
      let LL82 : Array Slot := #[.val (.ref a), .val (.ref wt), .val (.int 1), .val (.int 3), .val (.ref wk), .val (.int 2), .val (.double (FP.l2d (A + B))), .second, .val (.int 0), .val (.int 2), .val (.int 1), .val (.int 2)]
      let LL83 : Array Slot := #[.val (.ref a), .val (.ref wt), .val (.int 1), .val (.int 3), .val (.ref wk), .val (.int 2), .val (.double (FP.l2d (A + B))), .second, .val (.int 1), .val (.int 2), .val (.int 1), .val (.int 2)]
      have f84 := ((V56.other W68 pr20).other W76 pr19)
      obtain ⟨cl_a85, Ar_a85, q_a85, S_a85, N_a85, H_a85, G_a85⟩ := id f84
      have hin_a85 : ¬ ((0 : Int32) < 0 ∨ cl_a85.slots.size ≤ ((0 : Int32)).toNatClampNeg) := inb_of S_a85 ⟨by decide, by decide⟩
      obtain ⟨T86, h86, X86, e86, W86, st86⟩ := stI X78 hx hZ e78 Ar_a85 (j := (0 : Int32)) hin_a85 (g := (mkF m 197 LL83 [(.int 2), (.int 0), (.ref wk)])) rfl rfl (hb hby d7_197)
      have V86 : Arv Z h86 wk kk .int (2 : Int32) [(.int 2), (.int 2)] (.int 0) := Arv.set Ar_a85 q_a85 S_a85 N_a85 H_a85 G_a85 rfl W86 0 rfl (Nat.le_of_ble_eq_true rfl)
      have N86 := Fr.snoc X86 N76 pr9
      let LL87 : Array Slot := #[.val (.ref a), .val (.ref wt), .val (.int 1), .val (.int 3), .val (.ref wk), .val (.int 2), .val (.double (FP.l2d (A + B))), .second, .val (.int 1), .val (.int 2), .val (.int 0), .val (.int 2)]
      have f88 := (Fld.other W86 f77 (Or.inl pr13))
      obtain ⟨T89, X89, e89, st89⟩ := getF X86 hx hZ hown (host := "") (Or.inl (hw _ (List.mem_of_getElem? (i := 12) rfl))) Via.refl e86 f88 (g := (mkF m 212 LL87 [(.ref a)])) rfl rfl (hb hby d7_212)
      obtain ⟨cl_a90, Ar_a90, q_a90, S_a90, N_a90, H_a90, G_a90⟩ := id V86
      have hin_a90 : ¬ ((0 : Int32) < 0 ∨ cl_a90.slots.size ≤ ((0 : Int32)).toNatClampNeg) := inb_of S_a90 ⟨by decide, by decide⟩
      have hat_a90 := Has.at (v := (.int 2)) H_a90 hin_a90 rfl
      have f91 := (V76.other W86 (Ne.symm pr19))
      obtain ⟨cl_a92, Ar_a92, q_a92, S_a92, N_a92, H_a92, G_a92⟩ := id f91
      have hin_a92 : ¬ ((2 : Int32) < 0 ∨ cl_a92.slots.size ≤ ((2 : Int32)).toNatClampNeg) := inb_of S_a92 ⟨by decide, by decide⟩
      obtain ⟨T93, h93, X93, e93, W93, st93⟩ := stD X89 hx hZ e89 Ar_a92 (j := (2 : Int32)) hin_a92 (g := (mkF m 221 LL87 [(.double FP.dconst1), (.int 2), (.ref th)])) rfl rfl (hb hby d7_221)
      have V93 : Arv Z h93 th kt .double (3 : Int32) [(.double y0), (.double (own_q (A * (2 : Int64)) (A + B))), (.double FP.dconst1)] (.double (0 : UInt64)) := Arv.set Ar_a92 q_a92 S_a92 N_a92 H_a92 G_a92 rfl W93 2 rfl (Nat.le_of_ble_eq_true rfl)
      have N93 := Fr.snoc X93 N86 pr10
      have P94 : ∀ t, Steps p.tables e below (T93.setTop (mkF m 228 LL83 [])) t → Steps p.tables e below ST t := by
        intro t kk
        refine P80 _ ?_
        show Steps _ _ _ (T78.setTop (mkF m 182 LL62 [(.int (cmpValue (FP.dcmp (FP.dadd (own_q (B * (2 : Int64)) (A + B)) (FP.dsub (own_q (A * (2 : Int64)) (A + B)) FP.dconst1)) FP.dconst1) .g))])) _
        refine XS.ifNo X78.here hx rfl (hb hby d7_182) rfl (XT.i0_ge_f c81) ?_
        show Steps _ _ _ (T78.setTop (mkF m 185 LL62 [])) _
        refine XS.iinc X78.here hx rfl (hb hby d7_185) rfl (l' := LL82) rfl ?_
        show Steps _ _ _ (T78.setTop (mkF m 188 LL82 [])) _
        refine XS.aload X78.here hx rfl (hb hby d7_188) rfl rfl ?_
        show Steps _ _ _ (T78.setTop (mkF m 190 LL82 [(.ref wk)])) _
        refine XS.iload X78.here hx rfl (hb hby d7_190) rfl ?_
        show Steps _ _ _ (T78.setTop (mkF m 192 LL82 [(.int 0), (.ref wk)])) _
        refine XS.iinc X78.here hx rfl (hb hby d7_192) rfl (l' := LL83) rfl ?_
        show Steps _ _ _ (T78.setTop (mkF m 195 LL83 [(.int 0), (.ref wk)])) _
        refine XS.iload X78.here hx rfl (hb hby d7_195) rfl ?_
        show Steps _ _ _ (T78.setTop (mkF m 197 LL83 [(.int 2), (.int 0), (.ref wk)])) _
        refine st86 _ ?_
        show Steps _ _ _ (T86.setTop (mkF m 198 LL83 [])) _
        refine XS.goto X86.here hx rfl (pc0 := 198) (pc' := 116) rfl (hb hby d7_198) (by decide) (by decide) ?_
        show Steps _ _ _ (T86.setTop (mkF m 116 LL83 [])) _
        refine XS.iload X86.here hx rfl (hb hby d7_116) rfl ?_
        show Steps _ _ _ (T86.setTop (mkF m 118 LL83 [(.int 1)])) _
        refine XS.ifNo X86.here hx rfl (hb hby d7_118) rfl (XT.i0_le_f (by decide)) ?_
        show Steps _ _ _ (T86.setTop (mkF m 121 LL83 [])) _
        refine XS.iload X86.here hx rfl (hb hby d7_121) rfl ?_
        show Steps _ _ _ (T86.setTop (mkF m 123 LL83 [(.int 2)])) _
        refine XS.iload X86.here hx rfl (hb hby d7_123) rfl ?_
        show Steps _ _ _ (T86.setTop (mkF m 125 LL83 [(.int 2), (.int 2)])) _
        refine XS.icmpYes X86.here hx rfl (pc0 := 125) (pc' := 201) rfl (hb hby d7_125) rfl (XT.ii_ge_t (by decide)) (by decide) (by decide) ?_
        show Steps _ _ _ (T86.setTop (mkF m 201 LL83 [])) _
        refine XS.iconst X86.here hx rfl (hb hby d7_201) ?_
        show Steps _ _ _ (T86.setTop (mkF m 202 LL83 [(.int 0)])) _
        refine XS.istore X86.here hx rfl (hb hby d7_202) rfl (l' := LL87) rfl ?_
        show Steps _ _ _ (T86.setTop (mkF m 204 LL87 [])) _
        refine XS.iload X86.here hx rfl (hb hby d7_204) rfl ?_
        show Steps _ _ _ (T86.setTop (mkF m 206 LL87 [(.int 0)])) _
        refine XS.iload X86.here hx rfl (hb hby d7_206) rfl ?_
        show Steps _ _ _ (T86.setTop (mkF m 208 LL87 [(.int 1), (.int 0)])) _
        refine XS.icmpNo X86.here hx rfl (hb hby d7_208) rfl (XT.ii_ge_f (by decide)) ?_
        show Steps _ _ _ (T86.setTop (mkF m 211 LL87 [])) _
        refine XS.aloadN X86.here hx rfl (hb hby d7_211) rfl rfl ?_
        show Steps _ _ _ (T86.setTop (mkF m 212 LL87 [(.ref a)])) _
        refine st89 _ ?_
        show Steps _ _ _ (T89.setTop (mkF m 215 LL87 [(.ref th)])) _
        refine XS.aload X89.here hx rfl (hb hby d7_215) rfl rfl ?_
        show Steps _ _ _ (T89.setTop (mkF m 217 LL87 [(.ref wk), (.ref th)])) _
        refine XS.iload X89.here hx rfl (hb hby d7_217) rfl ?_
        show Steps _ _ _ (T89.setTop (mkF m 219 LL87 [(.int 0), (.ref wk), (.ref th)])) _
        refine X89.iaload hx (j := (0 : Int32)) (v := (.int 2)) (by rw [e89]; exact Ar_a90.1) (State.isArrayOf_alike hZ.alike Ar_a90.2.1) Ar_a90.2.2 hin_a90 hat_a90 (g := (mkF m 219 LL87 [(.int 0), (.ref wk), (.ref th)])) rfl rfl (hb hby d7_219) _ ?_
        show Steps _ _ _ (T89.setTop (mkF m 220 LL87 [(.int 2), (.ref th)])) _
        refine XS.dconst1 X89.here hx rfl (hb hby d7_220) rfl ?_
        show Steps _ _ _ (T89.setTop (mkF m 221 LL87 [(.double FP.dconst1), (.int 2), (.ref th)])) _
        refine st93 _ ?_
        show Steps _ _ _ (T93.setTop (mkF m 222 LL87 [])) _
        refine XS.iinc X93.here hx rfl (hb hby d7_222) rfl (l' := LL83) rfl ?_
        show Steps _ _ _ (T93.setTop (mkF m 225 LL83 [])) _
        refine XS.goto X93.here hx rfl (pc0 := 225) (pc' := 204) rfl (hb hby d7_225) (by decide) (by decide) ?_
        show Steps _ _ _ (T93.setTop (mkF m 204 LL83 [])) _
        refine XS.iload X93.here hx rfl (hb hby d7_204) rfl ?_
        show Steps _ _ _ (T93.setTop (mkF m 206 LL83 [(.int 1)])) _
        refine XS.iload X93.here hx rfl (hb hby d7_206) rfl ?_
        show Steps _ _ _ (T93.setTop (mkF m 208 LL83 [(.int 1), (.int 1)])) _
        refine XS.icmpYes X93.here hx rfl (pc0 := 208) (pc' := 228) rfl (hb hby d7_208) rfl (XT.ii_ge_t (by decide)) (by decide) (by decide) ?_
        show Steps _ _ _ (T93.setTop (mkF m 228 LL83 [])) _
        exact kk
      let LL95 : Array Slot := #[.val (.ref a), .val (.ref wt), .val (.int 1), .val (.int 3), .val (.ref wk), .val (.int 2), .val (.double (FP.l2d (A + B))), .second, .val (.int 1), .val (.int 2), .val (.int 2), .val (.int 2)]
      have P96 : ∀ t, Steps p.tables e below (T93.setTop (mkF m 256 LL95 [])) t → Steps p.tables e below ST t := by
        intro t kk
        refine P94 _ ?_
        show Steps _ _ _ (T93.setTop (mkF m 228 LL83 [])) _
        refine XS.iload X93.here hx rfl (hb hby d7_228) rfl ?_
        show Steps _ _ _ (T93.setTop (mkF m 230 LL83 [(.int 2)])) _
        refine XS.istore X93.here hx rfl (hb hby d7_230) rfl (l' := LL95) rfl ?_
        show Steps _ _ _ (T93.setTop (mkF m 232 LL95 [])) _
        refine XS.iload X93.here hx rfl (hb hby d7_232) rfl ?_
        show Steps _ _ _ (T93.setTop (mkF m 234 LL95 [(.int 2)])) _
        refine XS.iload X93.here hx rfl (hb hby d7_234) rfl ?_
        show Steps _ _ _ (T93.setTop (mkF m 236 LL95 [(.int 2), (.int 2)])) _
        refine XS.icmpYes X93.here hx rfl (pc0 := 236) (pc' := 256) rfl (hb hby d7_236) rfl (XT.ii_ge_t (by decide)) (by decide) (by decide) ?_
        show Steps _ _ _ (T93.setTop (mkF m 256 LL95 [])) _
        exact kk
      have k97 : Keep h0 h93 [th, al, wk] := (Keep.wr (Keep.wr (Keep.wr (Keep.wr (Keep.wr (Keep.wr (Keep.wr (Keep.wr (Keep.wr (Keep.wr (Keep.refl h0 [th, al, wk]) W18 (Or.inl (List.mem_of_getElem? (i := 0) rfl))) W23 (Or.inl (List.mem_of_getElem? (i := 1) rfl))) W34 (Or.inl (List.mem_of_getElem? (i := 2) rfl))) W42 (Or.inl (List.mem_of_getElem? (i := 0) rfl))) W47 (Or.inl (List.mem_of_getElem? (i := 1) rfl))) W56 (Or.inl (List.mem_of_getElem? (i := 2) rfl))) W68 (Or.inl (List.mem_of_getElem? (i := 1) rfl))) W76 (Or.inl (List.mem_of_getElem? (i := 0) rfl))) W86 (Or.inl (List.mem_of_getElem? (i := 2) rfl))) W93 (Or.inl (List.mem_of_getElem? (i := 0) rfl)))
      have f98 := (((V68.other W76 (Ne.symm pr21)).other W86 (Ne.symm pr20)).other W93 (Ne.symm pr21))
      have f99 := (V86.other W93 pr19)
      obtain ⟨fs, hr, hrun, hended, hW, hsame⟩ := X93.leave (v := none) (fun _ => rfl)
      refine ⟨_, _, P96 _ ?_, hrun, hended, _, _, rfl, ?_, ⟨_, rfl⟩, hW, hsame.mono (by decide) (by decide)⟩
      · exact X93.returnOut hx Bd.returns (hb hby d7_256) hr
      · show Q7 Z a wt wk A B wx th al kw kt ka kk y0 y1 y2 z0 z1 z2 u0 u1 h0 n0 _ T93.heap _
        rw [e93]
        exact ⟨(own_q (A * (2 : Int64)) (A + B)), FP.dconst1, (2 : Int32), (2 : Int32), (2 : Int32), (2 : Int32), rfl, N93, k97, V93, f98, f99, (own_altL pr7 pr8 c30)⟩
    · skip
      let LL100 : Array Slot := #[.val (.ref a), .val (.ref wt), .val (.int 1), .val (.int 3), .val (.ref wk), .val (.int 2), .val (.double (FP.l2d (A + B))), .second, .val (.int 0), .val (.int 1), .val (.int 0), .val (.int 2)]
      obtain ⟨T101, X101, e101, st101⟩ := getF X78 hx hZ hown (host := "") (Or.inl (hw _ (List.mem_of_getElem? (i := 12) rfl))) Via.refl e78 f77 (g := (mkF m 240 LL62 [(.ref a)])) rfl rfl (hb hby d7_240)
      have f102 := ((V56.other W68 pr20).other W76 pr19)
      obtain ⟨cl_a103, Ar_a103, q_a103, S_a103, N_a103, H_a103, G_a103⟩ := id f102
      have hin_a103 : ¬ ((1 : Int32) < 0 ∨ cl_a103.slots.size ≤ ((1 : Int32)).toNatClampNeg) := inb_of S_a103 ⟨by decide, by decide⟩
      have hat_a103 := Has.at (v := (.int 2)) H_a103 hin_a103 rfl
      obtain ⟨cl_a104, Ar_a104, q_a104, S_a104, N_a104, H_a104, G_a104⟩ := id V76
      have hin_a104 : ¬ ((2 : Int32) < 0 ∨ cl_a104.slots.size ≤ ((2 : Int32)).toNatClampNeg) := inb_of S_a104 ⟨by decide, by decide⟩
      obtain ⟨T105, h105, X105, e105, W105, st105⟩ := stD X101 hx hZ e101 Ar_a104 (j := (2 : Int32)) hin_a104 (g := (mkF m 249 LL62 [(.double FP.dconst1), (.int 2), (.ref th)])) rfl rfl (hb hby d7_249)
      have V105 : Arv Z h105 th kt .double (3 : Int32) [(.double y0), (.double (own_q (A * (2 : Int64)) (A + B))), (.double FP.dconst1)] (.double (0 : UInt64)) := Arv.set Ar_a104 q_a104 S_a104 N_a104 H_a104 G_a104 rfl W105 2 rfl (Nat.le_of_ble_eq_true rfl)
      have N105 := Fr.snoc X105 N76 pr10
      let LL106 : Array Slot := #[.val (.ref a), .val (.ref wt), .val (.int 1), .val (.int 3), .val (.ref wk), .val (.int 2), .val (.double (FP.l2d (A + B))), .second, .val (.int 0), .val (.int 1), .val (.int 2), .val (.int 2)]
      have P107 : ∀ t, Steps p.tables e below (T105.setTop (mkF m 256 LL106 [])) t → Steps p.tables e below ST t := by
        intro t kk
        refine P80 _ ?_
        show Steps _ _ _ (T78.setTop (mkF m 182 LL62 [(.int (cmpValue (FP.dcmp (FP.dadd (own_q (B * (2 : Int64)) (A + B)) (FP.dsub (own_q (A * (2 : Int64)) (A + B)) FP.dconst1)) FP.dconst1) .g))])) _
        refine XS.ifYes X78.here hx rfl (pc0 := 182) (pc' := 198) rfl (hb hby d7_182) rfl (XT.i0_ge_t c81) (by decide) (by decide) ?_
        show Steps _ _ _ (T78.setTop (mkF m 198 LL62 [])) _
        refine XS.goto X78.here hx rfl (pc0 := 198) (pc' := 116) rfl (hb hby d7_198) (by decide) (by decide) ?_
        show Steps _ _ _ (T78.setTop (mkF m 116 LL62 [])) _
        refine XS.iload X78.here hx rfl (hb hby d7_116) rfl ?_
        show Steps _ _ _ (T78.setTop (mkF m 118 LL62 [(.int 0)])) _
        refine XS.ifYes X78.here hx rfl (pc0 := 118) (pc' := 201) rfl (hb hby d7_118) rfl (XT.i0_le_t (by decide)) (by decide) (by decide) ?_
        show Steps _ _ _ (T78.setTop (mkF m 201 LL62 [])) _
        refine XS.iconst X78.here hx rfl (hb hby d7_201) ?_
        show Steps _ _ _ (T78.setTop (mkF m 202 LL62 [(.int 0)])) _
        refine XS.istore X78.here hx rfl (hb hby d7_202) rfl (l' := LL100) rfl ?_
        show Steps _ _ _ (T78.setTop (mkF m 204 LL100 [])) _
        refine XS.iload X78.here hx rfl (hb hby d7_204) rfl ?_
        show Steps _ _ _ (T78.setTop (mkF m 206 LL100 [(.int 0)])) _
        refine XS.iload X78.here hx rfl (hb hby d7_206) rfl ?_
        show Steps _ _ _ (T78.setTop (mkF m 208 LL100 [(.int 0), (.int 0)])) _
        refine XS.icmpYes X78.here hx rfl (pc0 := 208) (pc' := 228) rfl (hb hby d7_208) rfl (XT.ii_ge_t (by decide)) (by decide) (by decide) ?_
        show Steps _ _ _ (T78.setTop (mkF m 228 LL100 [])) _
        refine XS.iload X78.here hx rfl (hb hby d7_228) rfl ?_
        show Steps _ _ _ (T78.setTop (mkF m 230 LL100 [(.int 1)])) _
        refine XS.istore X78.here hx rfl (hb hby d7_230) rfl (l' := LL62) rfl ?_
        show Steps _ _ _ (T78.setTop (mkF m 232 LL62 [])) _
        refine XS.iload X78.here hx rfl (hb hby d7_232) rfl ?_
        show Steps _ _ _ (T78.setTop (mkF m 234 LL62 [(.int 1)])) _
        refine XS.iload X78.here hx rfl (hb hby d7_234) rfl ?_
        show Steps _ _ _ (T78.setTop (mkF m 236 LL62 [(.int 2), (.int 1)])) _
        refine XS.icmpNo X78.here hx rfl (hb hby d7_236) rfl (XT.ii_ge_f (by decide)) ?_
        show Steps _ _ _ (T78.setTop (mkF m 239 LL62 [])) _
        refine XS.aloadN X78.here hx rfl (hb hby d7_239) rfl rfl ?_
        show Steps _ _ _ (T78.setTop (mkF m 240 LL62 [(.ref a)])) _
        refine st101 _ ?_
        show Steps _ _ _ (T101.setTop (mkF m 243 LL62 [(.ref th)])) _
        refine XS.aload X101.here hx rfl (hb hby d7_243) rfl rfl ?_
        show Steps _ _ _ (T101.setTop (mkF m 245 LL62 [(.ref wk), (.ref th)])) _
        refine XS.iload X101.here hx rfl (hb hby d7_245) rfl ?_
        show Steps _ _ _ (T101.setTop (mkF m 247 LL62 [(.int 1), (.ref wk), (.ref th)])) _
        refine X101.iaload hx (j := (1 : Int32)) (v := (.int 2)) (by rw [e101]; exact Ar_a103.1) (State.isArrayOf_alike hZ.alike Ar_a103.2.1) Ar_a103.2.2 hin_a103 hat_a103 (g := (mkF m 247 LL62 [(.int 1), (.ref wk), (.ref th)])) rfl rfl (hb hby d7_247) _ ?_
        show Steps _ _ _ (T101.setTop (mkF m 248 LL62 [(.int 2), (.ref th)])) _
        refine XS.dconst1 X101.here hx rfl (hb hby d7_248) rfl ?_
        show Steps _ _ _ (T101.setTop (mkF m 249 LL62 [(.double FP.dconst1), (.int 2), (.ref th)])) _
        refine st105 _ ?_
        show Steps _ _ _ (T105.setTop (mkF m 250 LL62 [])) _
        refine XS.iinc X105.here hx rfl (hb hby d7_250) rfl (l' := LL106) rfl ?_
        show Steps _ _ _ (T105.setTop (mkF m 253 LL106 [])) _
        refine XS.goto X105.here hx rfl (pc0 := 253) (pc' := 232) rfl (hb hby d7_253) (by decide) (by decide) ?_
        show Steps _ _ _ (T105.setTop (mkF m 232 LL106 [])) _
        refine XS.iload X105.here hx rfl (hb hby d7_232) rfl ?_
        show Steps _ _ _ (T105.setTop (mkF m 234 LL106 [(.int 2)])) _
        refine XS.iload X105.here hx rfl (hb hby d7_234) rfl ?_
        show Steps _ _ _ (T105.setTop (mkF m 236 LL106 [(.int 2), (.int 2)])) _
        refine XS.icmpYes X105.here hx rfl (pc0 := 236) (pc' := 256) rfl (hb hby d7_236) rfl (XT.ii_ge_t (by decide)) (by decide) (by decide) ?_
        show Steps _ _ _ (T105.setTop (mkF m 256 LL106 [])) _
        exact kk
      have k108 : Keep h0 h105 [th, al, wk] := (Keep.wr (Keep.wr (Keep.wr (Keep.wr (Keep.wr (Keep.wr (Keep.wr (Keep.wr (Keep.wr (Keep.refl h0 [th, al, wk]) W18 (Or.inl (List.mem_of_getElem? (i := 0) rfl))) W23 (Or.inl (List.mem_of_getElem? (i := 1) rfl))) W34 (Or.inl (List.mem_of_getElem? (i := 2) rfl))) W42 (Or.inl (List.mem_of_getElem? (i := 0) rfl))) W47 (Or.inl (List.mem_of_getElem? (i := 1) rfl))) W56 (Or.inl (List.mem_of_getElem? (i := 2) rfl))) W68 (Or.inl (List.mem_of_getElem? (i := 1) rfl))) W76 (Or.inl (List.mem_of_getElem? (i := 0) rfl))) W105 (Or.inl (List.mem_of_getElem? (i := 0) rfl)))
      have f109 := ((V68.other W76 (Ne.symm pr21)).other W105 (Ne.symm pr21))
      have f110 := (f102.other W105 pr19)
      obtain ⟨fs, hr, hrun, hended, hW, hsame⟩ := X105.leave (v := none) (fun _ => rfl)
      refine ⟨_, _, P107 _ ?_, hrun, hended, _, _, rfl, ?_, ⟨_, rfl⟩, hW, hsame.mono (by decide) (by decide)⟩
      · exact X105.returnOut hx Bd.returns (hb hby d7_256) hr
      · show Q7 Z a wt wk A B wx th al kw kt ka kk y0 y1 y2 z0 z1 z2 u0 u1 h0 n0 _ T105.heap _
        rw [e105]
        exact ⟨(own_q (A * (2 : Int64)) (A + B)), FP.dconst1, (2 : Int32), (2 : Int32), (1 : Int32), (2 : Int32), rfl, N105, k108, V105, f109, f110, (own_altL pr7 pr8 c30)⟩
  · skip
    let LL111 : Array Slot := #[.val (.ref a), .val (.ref wt), .val (.int 1), .val (.int 3), .val (.ref wk), .val (.int 2), .val (.double (FP.l2d (A + B))), .second, .val (.int 0), .val (.int 1), .val (.int 1), .unset]
    have f112 := ((pr6.other W18 pr19).other W23 pr20)
    obtain ⟨cl_a113, Ar_a113, q_a113, S_a113, N_a113, H_a113, G_a113⟩ := id f112
    have hin_a113 : ¬ ((1 : Int32) < 0 ∨ cl_a113.slots.size ≤ ((1 : Int32)).toNatClampNeg) := inb_of S_a113 ⟨by decide, by decide⟩
    obtain ⟨T114, h114, X114, e114, W114, st114⟩ := stI X26 hx hZ e26 Ar_a113 (j := (1 : Int32)) hin_a113 (g := (mkF m 109 LL111 [(.int 1), (.int 1), (.ref wk)])) rfl rfl (hb hby d7_109)
    have V114 : Arv Z h114 wk kk .int (2 : Int32) [(.int u0), (.int 1)] (.int 0) := Arv.set Ar_a113 q_a113 S_a113 N_a113 H_a113 G_a113 rfl W114 1 rfl (Nat.le_of_ble_eq_true rfl)
    have N114 := Fr.snoc X114 N23 pr9
    let LL115 : Array Slot := #[.val (.ref a), .val (.ref wt), .val (.int 1), .val (.int 3), .val (.ref wk), .val (.int 2), .val (.double (FP.l2d (A + B))), .second, .val (.int 0), .val (.int 1), .val (.int 2), .unset]
    have f116 := (Fld.other W114 f25 (Or.inl pr13))
    obtain ⟨T117, X117, e117, st117⟩ := getF X114 hx hZ hown (host := "") (Or.inl (hw _ (List.mem_of_getElem? (i := 12) rfl))) Via.refl e114 f116 (g := (mkF m 49 LL115 [(.ref a)])) rfl rfl (hb hby d7_49)
    have f118 := (((pr3.other W18 pr17).other W23 pr18).other W114 pr16)
    obtain ⟨cl_a119, Ar_a119, q_a119, S_a119, N_a119, H_a119, G_a119⟩ := id f118
    have hin_a119 : ¬ ((2 : Int32) < 0 ∨ cl_a119.slots.size ≤ ((2 : Int32)).toNatClampNeg) := inb_of S_a119 ⟨by decide, by decide⟩
    have hat_a119 := Has.at (v := (.double (FP.l2d B))) H_a119 hin_a119 rfl
    have f120 := (f27.other W114 (Ne.symm pr19))
    obtain ⟨cl_a121, Ar_a121, q_a121, S_a121, N_a121, H_a121, G_a121⟩ := id f120
    have hin_a121 : ¬ ((2 : Int32) < 0 ∨ cl_a121.slots.size ≤ ((2 : Int32)).toNatClampNeg) := inb_of S_a121 ⟨by decide, by decide⟩
    obtain ⟨T122, h122, X122, e122, W122, st122⟩ := stD X117 hx hZ e117 Ar_a121 (j := (2 : Int32)) hin_a121 (g := (mkF m 65 LL115 [(.double (own_q (B * (2 : Int64)) (A + B))), (.int 2), (.ref th)])) rfl rfl (hb hby d7_65)
    have V122 : Arv Z h122 th kt .double (3 : Int32) [(.double y0), (.double (own_q (A * (2 : Int64)) (A + B))), (.double (own_q (B * (2 : Int64)) (A + B)))] (.double (0 : UInt64)) := Arv.set Ar_a121 q_a121 S_a121 N_a121 H_a121 G_a121 rfl W122 2 rfl (Nat.le_of_ble_eq_true rfl)
    have N122 := Fr.snoc X122 N114 pr10
    have f123 := (Fld.other W122 (Fld.other W114 (Fld.other W23 f19 (Or.inl pr15)) (Or.inl pr13)) (Or.inl pr14))
    obtain ⟨T124, X124, e124, st124⟩ := getF X122 hx hZ hown (host := "") (Or.inl (hw _ (List.mem_of_getElem? (i := 14) rfl))) Via.refl e122 f123 (g := (mkF m 67 LL115 [(.ref a)])) rfl rfl (hb hby d7_67)
    have f125 := ((V23.other W114 (Ne.symm pr20)).other W122 (Ne.symm pr21))
    obtain ⟨cl_a126, Ar_a126, q_a126, S_a126, N_a126, H_a126, G_a126⟩ := id f125
    have hin_a126 : ¬ ((2 : Int32) < 0 ∨ cl_a126.slots.size ≤ ((2 : Int32)).toNatClampNeg) := inb_of S_a126 ⟨by decide, by decide⟩
    obtain ⟨T127, h127, X127, e127, W127, st127⟩ := stI X124 hx hZ e124 Ar_a126 (j := (2 : Int32)) hin_a126 (g := (mkF m 74 LL115 [(.int 2), (.int 2), (.ref al)])) rfl rfl (hb hby d7_74)
    have V127 : Arv Z h127 al ka .int (3 : Int32) [(.int z0), (.int 1), (.int 2)] (.int 0) := Arv.set Ar_a126 q_a126 S_a126 N_a126 H_a126 G_a126 rfl W127 2 rfl (Nat.le_of_ble_eq_true rfl)
    have N127 := Fr.snoc X127 N122 pr11
    have f128 := (Fld.other W127 (Fld.other W122 f116 (Or.inl pr14)) (Or.inl pr15))
    obtain ⟨T129, X129, e129, st129⟩ := getF X127 hx hZ hown (host := "") (Or.inl (hw _ (List.mem_of_getElem? (i := 12) rfl))) Via.refl e127 f128 (g := (mkF m 76 LL115 [(.ref a)])) rfl rfl (hb hby d7_76)
    have P130 : ∀ t, Steps p.tables e below (T129.setTop (mkF m 79 LL115 [(.ref th)])) t → Steps p.tables e below ST t := by
      intro t kk
      refine P29 _ ?_
      show Steps _ _ _ (T26.setTop (mkF m 84 LL14 [(.int (cmpValue (FP.dcmp (own_q (A * (2 : Int64)) (A + B)) FP.dconst1) .g))])) _
      refine XS.ifYes X26.here hx rfl (pc0 := 84) (pc' := 100) rfl (hb hby d7_84) rfl (XT.i0_ge_t c30) (by decide) (by decide) ?_
      show Steps _ _ _ (T26.setTop (mkF m 100 LL14 [])) _
      refine XS.aload X26.here hx rfl (hb hby d7_100) rfl rfl ?_
      show Steps _ _ _ (T26.setTop (mkF m 102 LL14 [(.ref wk)])) _
      refine XS.iinc X26.here hx rfl (hb hby d7_102) rfl (l' := LL111) rfl ?_
      show Steps _ _ _ (T26.setTop (mkF m 105 LL111 [(.ref wk)])) _
      refine XS.iload X26.here hx rfl (hb hby d7_105) rfl ?_
      show Steps _ _ _ (T26.setTop (mkF m 107 LL111 [(.int 1), (.ref wk)])) _
      refine XS.iload X26.here hx rfl (hb hby d7_107) rfl ?_
      show Steps _ _ _ (T26.setTop (mkF m 109 LL111 [(.int 1), (.int 1), (.ref wk)])) _
      refine st114 _ ?_
      show Steps _ _ _ (T114.setTop (mkF m 110 LL111 [])) _
      refine XS.iinc X114.here hx rfl (hb hby d7_110) rfl (l' := LL115) rfl ?_
      show Steps _ _ _ (T114.setTop (mkF m 113 LL115 [])) _
      refine XS.goto X114.here hx rfl (pc0 := 113) (pc' := 42) rfl (hb hby d7_113) (by decide) (by decide) ?_
      show Steps _ _ _ (T114.setTop (mkF m 42 LL115 [])) _
      refine XS.iload X114.here hx rfl (hb hby d7_42) rfl ?_
      show Steps _ _ _ (T114.setTop (mkF m 44 LL115 [(.int 2)])) _
      refine XS.iloadN X114.here hx rfl (hb hby d7_44) rfl ?_
      show Steps _ _ _ (T114.setTop (mkF m 45 LL115 [(.int 3), (.int 2)])) _
      refine XS.icmpNo X114.here hx rfl (hb hby d7_45) rfl (XT.ii_ge_f (by decide)) ?_
      show Steps _ _ _ (T114.setTop (mkF m 48 LL115 [])) _
      refine XS.aloadN X114.here hx rfl (hb hby d7_48) rfl rfl ?_
      show Steps _ _ _ (T114.setTop (mkF m 49 LL115 [(.ref a)])) _
      refine st117 _ ?_
      show Steps _ _ _ (T117.setTop (mkF m 52 LL115 [(.ref th)])) _
      refine XS.iload X117.here hx rfl (hb hby d7_52) rfl ?_
      show Steps _ _ _ (T117.setTop (mkF m 54 LL115 [(.int 2), (.ref th)])) _
      refine XS.aloadN X117.here hx rfl (hb hby d7_54) rfl rfl ?_
      show Steps _ _ _ (T117.setTop (mkF m 55 LL115 [(.ref wt), (.int 2), (.ref th)])) _
      refine XS.iload X117.here hx rfl (hb hby d7_55) rfl ?_
      show Steps _ _ _ (T117.setTop (mkF m 57 LL115 [(.int 2), (.ref wt), (.int 2), (.ref th)])) _
      refine X117.daload hx (j := (2 : Int32)) (v := (.double (FP.l2d B))) (by rw [e117]; exact Ar_a119.1) (State.isArrayOf_alike hZ.alike Ar_a119.2.1) Ar_a119.2.2 hin_a119 hat_a119 (g := (mkF m 57 LL115 [(.int 2), (.ref wt), (.int 2), (.ref th)])) rfl rfl (hb hby d7_57) _ ?_
      show Steps _ _ _ (T117.setTop (mkF m 58 LL115 [(.double (FP.l2d B)), (.int 2), (.ref th)])) _
      refine XS.iload X117.here hx rfl (hb hby d7_58) rfl ?_
      show Steps _ _ _ (T117.setTop (mkF m 60 LL115 [(.int 2), (.double (FP.l2d B)), (.int 2), (.ref th)])) _
      refine XS.i2dS X117.here hx rfl (hb hby d7_60) rfl rfl ?_
      show Steps _ _ _ (T117.setTop (mkF m 61 LL115 [(.double (FP.i2d (2 : Int32))), (.double (FP.l2d B)), (.int 2), (.ref th)])) _
      refine XS.dmulS X117.here hx rfl (hb hby d7_61) rfl (nn_w (own_m2 pr8)) (own_m2 pr8) ?_
      show Steps _ _ _ (T117.setTop (mkF m 62 LL115 [(.double (FP.l2d (B * (2 : Int64)))), (.int 2), (.ref th)])) _
      refine XS.dload X117.here hx rfl (hb hby d7_62) rfl ?_
      show Steps _ _ _ (T117.setTop (mkF m 64 LL115 [(.double (FP.l2d (A + B))), (.double (FP.l2d (B * (2 : Int64)))), (.int 2), (.ref th)])) _
      refine XS.ddivS X117.here hx rfl (hb hby d7_64) rfl (own_qB pr7 pr8).noNaN rfl ?_
      show Steps _ _ _ (T117.setTop (mkF m 65 LL115 [(.double (own_q (B * (2 : Int64)) (A + B))), (.int 2), (.ref th)])) _
      refine st122 _ ?_
      show Steps _ _ _ (T122.setTop (mkF m 66 LL115 [])) _
      refine XS.aloadN X122.here hx rfl (hb hby d7_66) rfl rfl ?_
      show Steps _ _ _ (T122.setTop (mkF m 67 LL115 [(.ref a)])) _
      refine st124 _ ?_
      show Steps _ _ _ (T124.setTop (mkF m 70 LL115 [(.ref al)])) _
      refine XS.iload X124.here hx rfl (hb hby d7_70) rfl ?_
      show Steps _ _ _ (T124.setTop (mkF m 72 LL115 [(.int 2), (.ref al)])) _
      refine XS.iload X124.here hx rfl (hb hby d7_72) rfl ?_
      show Steps _ _ _ (T124.setTop (mkF m 74 LL115 [(.int 2), (.int 2), (.ref al)])) _
      refine st127 _ ?_
      show Steps _ _ _ (T127.setTop (mkF m 75 LL115 [])) _
      refine XS.aloadN X127.here hx rfl (hb hby d7_75) rfl rfl ?_
      show Steps _ _ _ (T127.setTop (mkF m 76 LL115 [(.ref a)])) _
      refine st129 _ ?_
      show Steps _ _ _ (T129.setTop (mkF m 79 LL115 [(.ref th)])) _
      exact kk
    have f131 := (V122.other W127 pr21)
    obtain ⟨cl_a132, Ar_a132, q_a132, S_a132, N_a132, H_a132, G_a132⟩ := id f131
    have hin_a132 : ¬ ((2 : Int32) < 0 ∨ cl_a132.slots.size ≤ ((2 : Int32)).toNatClampNeg) := inb_of S_a132 ⟨by decide, by decide⟩
    have hat_a132 := Has.at (v := (.double (own_q (B * (2 : Int64)) (A + B)))) H_a132 hin_a132 rfl
    have P133 : ∀ t, Steps p.tables e below (T129.setTop (mkF m 84 LL115 [(.int (cmpValue (FP.dcmp (own_q (B * (2 : Int64)) (A + B)) FP.dconst1) .g))])) t → Steps p.tables e below ST t := by
      intro t kk
      refine P130 _ ?_
      show Steps _ _ _ (T129.setTop (mkF m 79 LL115 [(.ref th)])) _
      refine XS.iload X129.here hx rfl (hb hby d7_79) rfl ?_
      show Steps _ _ _ (T129.setTop (mkF m 81 LL115 [(.int 2), (.ref th)])) _
      refine X129.daload hx (j := (2 : Int32)) (v := (.double (own_q (B * (2 : Int64)) (A + B)))) (by rw [e129]; exact Ar_a132.1) (State.isArrayOf_alike hZ.alike Ar_a132.2.1) Ar_a132.2.2 hin_a132 hat_a132 (g := (mkF m 81 LL115 [(.int 2), (.ref th)])) rfl rfl (hb hby d7_81) _ ?_
      show Steps _ _ _ (T129.setTop (mkF m 82 LL115 [(.double (own_q (B * (2 : Int64)) (A + B)))])) _
      refine XS.dconst1 X129.here hx rfl (hb hby d7_82) rfl ?_
      show Steps _ _ _ (T129.setTop (mkF m 83 LL115 [(.double FP.dconst1), (.double (own_q (B * (2 : Int64)) (A + B)))])) _
      refine XS.dcmpS X129.here hx rfl (hb hby d7_83) rfl rfl ?_
      show Steps _ _ _ (T129.setTop (mkF m 84 LL115 [(.int (cmpValue (FP.dcmp (own_q (B * (2 : Int64)) (A + B)) FP.dconst1) .g))])) _
      exact kk
    by_cases c134 : (cmpValue (FP.dcmp (own_q (B * (2 : Int64)) (A + B)) FP.dconst1) .g) < (0 : Int32)
    · skip
      let LL135 : Array Slot := #[.val (.ref a), .val (.ref wt), .val (.int 1), .val (.int 3), .val (.ref wk), .val (.int 2), .val (.double (FP.l2d (A + B))), .second, .val (.int 1), .val (.int 1), .val (.int 2), .unset]
      have f136 := ((V114.other W122 pr19).other W127 pr20)
      obtain ⟨cl_a137, Ar_a137, q_a137, S_a137, N_a137, H_a137, G_a137⟩ := id f136
      have hin_a137 : ¬ ((0 : Int32) < 0 ∨ cl_a137.slots.size ≤ ((0 : Int32)).toNatClampNeg) := inb_of S_a137 ⟨by decide, by decide⟩
      obtain ⟨T138, h138, X138, e138, W138, st138⟩ := stI X129 hx hZ e129 Ar_a137 (j := (0 : Int32)) hin_a137 (g := (mkF m 96 LL135 [(.int 2), (.int 0), (.ref wk)])) rfl rfl (hb hby d7_96)
      have V138 : Arv Z h138 wk kk .int (2 : Int32) [(.int 2), (.int 1)] (.int 0) := Arv.set Ar_a137 q_a137 S_a137 N_a137 H_a137 G_a137 rfl W138 0 rfl (Nat.le_of_ble_eq_true rfl)
      have N138 := Fr.snoc X138 N127 pr9
      let LL139 : Array Slot := #[.val (.ref a), .val (.ref wt), .val (.int 1), .val (.int 3), .val (.ref wk), .val (.int 2), .val (.double (FP.l2d (A + B))), .second, .val (.int 1), .val (.int 1), .val (.int 3), .unset]
      let LL140 : Array Slot := #[.val (.ref a), .val (.ref wt), .val (.int 1), .val (.int 3), .val (.ref wk), .val (.int 2), .val (.double (FP.l2d (A + B))), .second, .val (.int 0), .val (.int 1), .val (.int 3), .unset]
      obtain ⟨cl_a141, Ar_a141, q_a141, S_a141, N_a141, H_a141, G_a141⟩ := id V138
      have hin_a141 : ¬ ((0 : Int32) < 0 ∨ cl_a141.slots.size ≤ ((0 : Int32)).toNatClampNeg) := inb_of S_a141 ⟨by decide, by decide⟩
      have hat_a141 := Has.at (v := (.int 2)) H_a141 hin_a141 rfl
      obtain ⟨cl_a142, Ar_a142, q_a142, S_a142, N_a142, H_a142, G_a142⟩ := id V138
      have hin_a142 : ¬ ((1 : Int32) < 0 ∨ cl_a142.slots.size ≤ ((1 : Int32)).toNatClampNeg) := inb_of S_a142 ⟨by decide, by decide⟩
      have hat_a142 := Has.at (v := (.int 1)) H_a142 hin_a142 rfl
      let LL143 : Array Slot := #[.val (.ref a), .val (.ref wt), .val (.int 1), .val (.int 3), .val (.ref wk), .val (.int 2), .val (.double (FP.l2d (A + B))), .second, .val (.int 0), .val (.int 1), .val (.int 2), .val (.int 1)]
      have f144 := (Fld.other W138 (Fld.other W127 f123 (Or.inl pr15)) (Or.inl pr13))
      obtain ⟨T145, X145, e145, st145⟩ := getF X138 hx hZ hown (host := "") (Or.inl (hw _ (List.mem_of_getElem? (i := 14) rfl))) Via.refl e138 f144 (g := (mkF m 146 LL143 [(.ref a)])) rfl rfl (hb hby d7_146)
      have P146 : ∀ t, Steps p.tables e below (T145.setTop (mkF m 153 LL143 [(.int 1), (.int 2), (.ref al)])) t → Steps p.tables e below ST t := by
        intro t kk
        refine P133 _ ?_
        show Steps _ _ _ (T129.setTop (mkF m 84 LL115 [(.int (cmpValue (FP.dcmp (own_q (B * (2 : Int64)) (A + B)) FP.dconst1) .g))])) _
        refine XS.ifNo X129.here hx rfl (hb hby d7_84) rfl (XT.i0_ge_f c134) ?_
        show Steps _ _ _ (T129.setTop (mkF m 87 LL115 [])) _
        refine XS.aload X129.here hx rfl (hb hby d7_87) rfl rfl ?_
        show Steps _ _ _ (T129.setTop (mkF m 89 LL115 [(.ref wk)])) _
        refine XS.iload X129.here hx rfl (hb hby d7_89) rfl ?_
        show Steps _ _ _ (T129.setTop (mkF m 91 LL115 [(.int 0), (.ref wk)])) _
        refine XS.iinc X129.here hx rfl (hb hby d7_91) rfl (l' := LL135) rfl ?_
        show Steps _ _ _ (T129.setTop (mkF m 94 LL135 [(.int 0), (.ref wk)])) _
        refine XS.iload X129.here hx rfl (hb hby d7_94) rfl ?_
        show Steps _ _ _ (T129.setTop (mkF m 96 LL135 [(.int 2), (.int 0), (.ref wk)])) _
        refine st138 _ ?_
        show Steps _ _ _ (T138.setTop (mkF m 97 LL135 [])) _
        refine XS.goto X138.here hx rfl (pc0 := 97) (pc' := 110) rfl (hb hby d7_97) (by decide) (by decide) ?_
        show Steps _ _ _ (T138.setTop (mkF m 110 LL135 [])) _
        refine XS.iinc X138.here hx rfl (hb hby d7_110) rfl (l' := LL139) rfl ?_
        show Steps _ _ _ (T138.setTop (mkF m 113 LL139 [])) _
        refine XS.goto X138.here hx rfl (pc0 := 113) (pc' := 42) rfl (hb hby d7_113) (by decide) (by decide) ?_
        show Steps _ _ _ (T138.setTop (mkF m 42 LL139 [])) _
        refine XS.iload X138.here hx rfl (hb hby d7_42) rfl ?_
        show Steps _ _ _ (T138.setTop (mkF m 44 LL139 [(.int 3)])) _
        refine XS.iloadN X138.here hx rfl (hb hby d7_44) rfl ?_
        show Steps _ _ _ (T138.setTop (mkF m 45 LL139 [(.int 3), (.int 3)])) _
        refine XS.icmpYes X138.here hx rfl (pc0 := 45) (pc' := 116) rfl (hb hby d7_45) rfl (XT.ii_ge_t (by decide)) (by decide) (by decide) ?_
        show Steps _ _ _ (T138.setTop (mkF m 116 LL139 [])) _
        refine XS.iload X138.here hx rfl (hb hby d7_116) rfl ?_
        show Steps _ _ _ (T138.setTop (mkF m 118 LL139 [(.int 1)])) _
        refine XS.ifNo X138.here hx rfl (hb hby d7_118) rfl (XT.i0_le_f (by decide)) ?_
        show Steps _ _ _ (T138.setTop (mkF m 121 LL139 [])) _
        refine XS.iload X138.here hx rfl (hb hby d7_121) rfl ?_
        show Steps _ _ _ (T138.setTop (mkF m 123 LL139 [(.int 1)])) _
        refine XS.iload X138.here hx rfl (hb hby d7_123) rfl ?_
        show Steps _ _ _ (T138.setTop (mkF m 125 LL139 [(.int 2), (.int 1)])) _
        refine XS.icmpNo X138.here hx rfl (hb hby d7_125) rfl (XT.ii_ge_f (by decide)) ?_
        show Steps _ _ _ (T138.setTop (mkF m 128 LL139 [])) _
        refine XS.aload X138.here hx rfl (hb hby d7_128) rfl rfl ?_
        show Steps _ _ _ (T138.setTop (mkF m 130 LL139 [(.ref wk)])) _
        refine XS.iinc X138.here hx rfl (hb hby d7_130) rfl (l' := LL140) rfl ?_
        show Steps _ _ _ (T138.setTop (mkF m 133 LL140 [(.ref wk)])) _
        refine XS.iload X138.here hx rfl (hb hby d7_133) rfl ?_
        show Steps _ _ _ (T138.setTop (mkF m 135 LL140 [(.int 0), (.ref wk)])) _
        refine X138.iaload hx (j := (0 : Int32)) (v := (.int 2)) (by rw [e138]; exact Ar_a141.1) (State.isArrayOf_alike hZ.alike Ar_a141.2.1) Ar_a141.2.2 hin_a141 hat_a141 (g := (mkF m 135 LL140 [(.int 0), (.ref wk)])) rfl rfl (hb hby d7_135) _ ?_
        show Steps _ _ _ (T138.setTop (mkF m 136 LL140 [(.int 2)])) _
        refine XS.istore X138.here hx rfl (hb hby d7_136) rfl (l' := LL115) rfl ?_
        show Steps _ _ _ (T138.setTop (mkF m 138 LL115 [])) _
        refine XS.aload X138.here hx rfl (hb hby d7_138) rfl rfl ?_
        show Steps _ _ _ (T138.setTop (mkF m 140 LL115 [(.ref wk)])) _
        refine XS.iload X138.here hx rfl (hb hby d7_140) rfl ?_
        show Steps _ _ _ (T138.setTop (mkF m 142 LL115 [(.int 1), (.ref wk)])) _
        refine X138.iaload hx (j := (1 : Int32)) (v := (.int 1)) (by rw [e138]; exact Ar_a142.1) (State.isArrayOf_alike hZ.alike Ar_a142.2.1) Ar_a142.2.2 hin_a142 hat_a142 (g := (mkF m 142 LL115 [(.int 1), (.ref wk)])) rfl rfl (hb hby d7_142) _ ?_
        show Steps _ _ _ (T138.setTop (mkF m 143 LL115 [(.int 1)])) _
        refine XS.istore X138.here hx rfl (hb hby d7_143) rfl (l' := LL143) rfl ?_
        show Steps _ _ _ (T138.setTop (mkF m 145 LL143 [])) _
        refine XS.aloadN X138.here hx rfl (hb hby d7_145) rfl rfl ?_
        show Steps _ _ _ (T138.setTop (mkF m 146 LL143 [(.ref a)])) _
        refine st145 _ ?_
        show Steps _ _ _ (T145.setTop (mkF m 149 LL143 [(.ref al)])) _
        refine XS.iload X145.here hx rfl (hb hby d7_149) rfl ?_
        show Steps _ _ _ (T145.setTop (mkF m 151 LL143 [(.int 2), (.ref al)])) _
        refine XS.iload X145.here hx rfl (hb hby d7_151) rfl ?_
        show Steps _ _ _ (T145.setTop (mkF m 153 LL143 [(.int 1), (.int 2), (.ref al)])) _
        exact kk
      have f147 := (V127.other W138 (Ne.symm pr20))
      obtain ⟨cl_a148, Ar_a148, q_a148, S_a148, N_a148, H_a148, G_a148⟩ := id f147
      have hin_a148 : ¬ ((2 : Int32) < 0 ∨ cl_a148.slots.size ≤ ((2 : Int32)).toNatClampNeg) := inb_of S_a148 ⟨by decide, by decide⟩
      obtain ⟨T149, h149, X149, e149, W149, st149⟩ := stI X145 hx hZ e145 Ar_a148 (j := (2 : Int32)) hin_a148 (g := (mkF m 153 LL143 [(.int 1), (.int 2), (.ref al)])) rfl rfl (hb hby d7_153)
      have V149 : Arv Z h149 al ka .int (3 : Int32) [(.int z0), (.int 1), (.int 1)] (.int 0) := Arv.set Ar_a148 q_a148 S_a148 N_a148 H_a148 G_a148 rfl W149 2 rfl (Nat.le_of_ble_eq_true rfl)
      have N149 := Fr.snoc X149 N138 pr11
      have f150 := (Fld.other W149 (Fld.other W138 f128 (Or.inl pr13)) (Or.inl pr15))
      obtain ⟨T151, X151, e151, st151⟩ := getF X149 hx hZ hown (host := "") (Or.inl (hw _ (List.mem_of_getElem? (i := 12) rfl))) Via.refl e149 f150 (g := (mkF m 155 LL143 [(.ref a)])) rfl rfl (hb hby d7_155)
      have f152 := ((f131.other W138 (Ne.symm pr19)).other W149 pr21)
      obtain ⟨cl_a153, Ar_a153, q_a153, S_a153, N_a153, H_a153, G_a153⟩ := id f152
      have hin_a153 : ¬ ((1 : Int32) < 0 ∨ cl_a153.slots.size ≤ ((1 : Int32)).toNatClampNeg) := inb_of S_a153 ⟨by decide, by decide⟩
      have hat_a153 := Has.at (v := (.double (own_q (A * (2 : Int64)) (A + B)))) H_a153 hin_a153 rfl
      obtain ⟨T154, X154, e154, st154⟩ := getF X151 hx hZ hown (host := "") (Or.inl (hw _ (List.mem_of_getElem? (i := 12) rfl))) Via.refl e151 f150 (g := (mkF m 163 LL143 [(.ref a), (.double (own_q (A * (2 : Int64)) (A + B))), (.int 1), (.ref th)])) rfl rfl (hb hby d7_163)
      obtain ⟨cl_a155, Ar_a155, q_a155, S_a155, N_a155, H_a155, G_a155⟩ := id f152
      have hin_a155 : ¬ ((2 : Int32) < 0 ∨ cl_a155.slots.size ≤ ((2 : Int32)).toNatClampNeg) := inb_of S_a155 ⟨by decide, by decide⟩
      have hat_a155 := Has.at (v := (.double (own_q (B * (2 : Int64)) (A + B)))) H_a155 hin_a155 rfl
      obtain ⟨cl_a156, Ar_a156, q_a156, S_a156, N_a156, H_a156, G_a156⟩ := id f152
      have hin_a156 : ¬ ((1 : Int32) < 0 ∨ cl_a156.slots.size ≤ ((1 : Int32)).toNatClampNeg) := inb_of S_a156 ⟨by decide, by decide⟩
      obtain ⟨T157, h157, X157, e157, W157, st157⟩ := stD X154 hx hZ e154 Ar_a156 (j := (1 : Int32)) hin_a156 (g := (mkF m 172 LL143 [(.double (FP.dadd (own_q (A * (2 : Int64)) (A + B)) (FP.dsub (own_q (B * (2 : Int64)) (A + B)) FP.dconst1))), (.int 1), (.ref th)])) rfl rfl (hb hby d7_172)
      have V157 : Arv Z h157 th kt .double (3 : Int32) [(.double y0), (.double (FP.dadd (own_q (A * (2 : Int64)) (A + B)) (FP.dsub (own_q (B * (2 : Int64)) (A + B)) FP.dconst1))), (.double (own_q (B * (2 : Int64)) (A + B)))] (.double (0 : UInt64)) := Arv.set Ar_a156 q_a156 S_a156 N_a156 H_a156 G_a156 rfl W157 1 rfl (Nat.le_of_ble_eq_true rfl)
      have N157 := Fr.snoc X157 N149 pr10
      have f158 := (Fld.other W157 f150 (Or.inl pr14))
      obtain ⟨T159, X159, e159, st159⟩ := getF X157 hx hZ hown (host := "") (Or.inl (hw _ (List.mem_of_getElem? (i := 12) rfl))) Via.refl e157 f158 (g := (mkF m 174 LL143 [(.ref a)])) rfl rfl (hb hby d7_174)
      obtain ⟨cl_a160, Ar_a160, q_a160, S_a160, N_a160, H_a160, G_a160⟩ := id V157
      have hin_a160 : ¬ ((1 : Int32) < 0 ∨ cl_a160.slots.size ≤ ((1 : Int32)).toNatClampNeg) := inb_of S_a160 ⟨by decide, by decide⟩
      have hat_a160 := Has.at (v := (.double (FP.dadd (own_q (A * (2 : Int64)) (A + B)) (FP.dsub (own_q (B * (2 : Int64)) (A + B)) FP.dconst1)))) H_a160 hin_a160 rfl
      have P161 : ∀ t, Steps p.tables e below (T159.setTop (mkF m 182 LL143 [(.int (cmpValue (FP.dcmp (FP.dadd (own_q (A * (2 : Int64)) (A + B)) (FP.dsub (own_q (B * (2 : Int64)) (A + B)) FP.dconst1)) FP.dconst1) .g))])) t → Steps p.tables e below ST t := by
        intro t kk
        refine P146 _ ?_
        show Steps _ _ _ (T145.setTop (mkF m 153 LL143 [(.int 1), (.int 2), (.ref al)])) _
        refine st149 _ ?_
        show Steps _ _ _ (T149.setTop (mkF m 154 LL143 [])) _
        refine XS.aloadN X149.here hx rfl (hb hby d7_154) rfl rfl ?_
        show Steps _ _ _ (T149.setTop (mkF m 155 LL143 [(.ref a)])) _
        refine st151 _ ?_
        show Steps _ _ _ (T151.setTop (mkF m 158 LL143 [(.ref th)])) _
        refine XS.iload X151.here hx rfl (hb hby d7_158) rfl ?_
        show Steps _ _ _ (T151.setTop (mkF m 160 LL143 [(.int 1), (.ref th)])) _
        refine XT.dup2 X151.here hx rfl (hb hby d7_160) rfl rfl rfl ?_
        show Steps _ _ _ (T151.setTop (mkF m 161 LL143 [(.int 1), (.ref th), (.int 1), (.ref th)])) _
        refine X151.daload hx (j := (1 : Int32)) (v := (.double (own_q (A * (2 : Int64)) (A + B)))) (by rw [e151]; exact Ar_a153.1) (State.isArrayOf_alike hZ.alike Ar_a153.2.1) Ar_a153.2.2 hin_a153 hat_a153 (g := (mkF m 161 LL143 [(.int 1), (.ref th), (.int 1), (.ref th)])) rfl rfl (hb hby d7_161) _ ?_
        show Steps _ _ _ (T151.setTop (mkF m 162 LL143 [(.double (own_q (A * (2 : Int64)) (A + B))), (.int 1), (.ref th)])) _
        refine XS.aloadN X151.here hx rfl (hb hby d7_162) rfl rfl ?_
        show Steps _ _ _ (T151.setTop (mkF m 163 LL143 [(.ref a), (.double (own_q (A * (2 : Int64)) (A + B))), (.int 1), (.ref th)])) _
        refine st154 _ ?_
        show Steps _ _ _ (T154.setTop (mkF m 166 LL143 [(.ref th), (.double (own_q (A * (2 : Int64)) (A + B))), (.int 1), (.ref th)])) _
        refine XS.iload X154.here hx rfl (hb hby d7_166) rfl ?_
        show Steps _ _ _ (T154.setTop (mkF m 168 LL143 [(.int 2), (.ref th), (.double (own_q (A * (2 : Int64)) (A + B))), (.int 1), (.ref th)])) _
        refine X154.daload hx (j := (2 : Int32)) (v := (.double (own_q (B * (2 : Int64)) (A + B)))) (by rw [e154]; exact Ar_a155.1) (State.isArrayOf_alike hZ.alike Ar_a155.2.1) Ar_a155.2.2 hin_a155 hat_a155 (g := (mkF m 168 LL143 [(.int 2), (.ref th), (.double (own_q (A * (2 : Int64)) (A + B))), (.int 1), (.ref th)])) rfl rfl (hb hby d7_168) _ ?_
        show Steps _ _ _ (T154.setTop (mkF m 169 LL143 [(.double (own_q (B * (2 : Int64)) (A + B))), (.double (own_q (A * (2 : Int64)) (A + B))), (.int 1), (.ref th)])) _
        refine XS.dconst1 X154.here hx rfl (hb hby d7_169) rfl ?_
        show Steps _ _ _ (T154.setTop (mkF m 170 LL143 [(.double FP.dconst1), (.double (own_q (B * (2 : Int64)) (A + B))), (.double (own_q (A * (2 : Int64)) (A + B))), (.int 1), (.ref th)])) _
        refine XS.dsubS X154.here hx rfl (hb hby d7_170) rfl (own_loop (own_qB pr7 pr8) (own_qA pr7 pr8)).1 rfl ?_
        show Steps _ _ _ (T154.setTop (mkF m 171 LL143 [(.double (FP.dsub (own_q (B * (2 : Int64)) (A + B)) FP.dconst1)), (.double (own_q (A * (2 : Int64)) (A + B))), (.int 1), (.ref th)])) _
        refine XS.daddS X154.here hx rfl (hb hby d7_171) rfl (own_loop (own_qB pr7 pr8) (own_qA pr7 pr8)).2 rfl ?_
        show Steps _ _ _ (T154.setTop (mkF m 172 LL143 [(.double (FP.dadd (own_q (A * (2 : Int64)) (A + B)) (FP.dsub (own_q (B * (2 : Int64)) (A + B)) FP.dconst1))), (.int 1), (.ref th)])) _
        refine st157 _ ?_
        show Steps _ _ _ (T157.setTop (mkF m 173 LL143 [])) _
        refine XS.aloadN X157.here hx rfl (hb hby d7_173) rfl rfl ?_
        show Steps _ _ _ (T157.setTop (mkF m 174 LL143 [(.ref a)])) _
        refine st159 _ ?_
        show Steps _ _ _ (T159.setTop (mkF m 177 LL143 [(.ref th)])) _
        refine XS.iload X159.here hx rfl (hb hby d7_177) rfl ?_
        show Steps _ _ _ (T159.setTop (mkF m 179 LL143 [(.int 1), (.ref th)])) _
        refine X159.daload hx (j := (1 : Int32)) (v := (.double (FP.dadd (own_q (A * (2 : Int64)) (A + B)) (FP.dsub (own_q (B * (2 : Int64)) (A + B)) FP.dconst1)))) (by rw [e159]; exact Ar_a160.1) (State.isArrayOf_alike hZ.alike Ar_a160.2.1) Ar_a160.2.2 hin_a160 hat_a160 (g := (mkF m 179 LL143 [(.int 1), (.ref th)])) rfl rfl (hb hby d7_179) _ ?_
        show Steps _ _ _ (T159.setTop (mkF m 180 LL143 [(.double (FP.dadd (own_q (A * (2 : Int64)) (A + B)) (FP.dsub (own_q (B * (2 : Int64)) (A + B)) FP.dconst1)))])) _
        refine XS.dconst1 X159.here hx rfl (hb hby d7_180) rfl ?_
        show Steps _ _ _ (T159.setTop (mkF m 181 LL143 [(.double FP.dconst1), (.double (FP.dadd (own_q (A * (2 : Int64)) (A + B)) (FP.dsub (own_q (B * (2 : Int64)) (A + B)) FP.dconst1)))])) _
        refine XS.dcmpS X159.here hx rfl (hb hby d7_181) rfl rfl ?_
        show Steps _ _ _ (T159.setTop (mkF m 182 LL143 [(.int (cmpValue (FP.dcmp (FP.dadd (own_q (A * (2 : Int64)) (A + B)) (FP.dsub (own_q (B * (2 : Int64)) (A + B)) FP.dconst1)) FP.dconst1) .g))])) _
        exact kk
      by_cases c162 : (cmpValue (FP.dcmp (FP.dadd (own_q (A * (2 : Int64)) (A + B)) (FP.dsub (own_q (B * (2 : Int64)) (A + B)) FP.dconst1)) FP.dconst1) .g) < (0 : Int32)
      · skip
        let LL163 : Array Slot := #[.val (.ref a), .val (.ref wt), .val (.int 1), .val (.int 3), .val (.ref wk), .val (.int 2), .val (.double (FP.l2d (A + B))), .second, .val (.int 0), .val (.int 2), .val (.int 2), .val (.int 1)]
        let LL164 : Array Slot := #[.val (.ref a), .val (.ref wt), .val (.int 1), .val (.int 3), .val (.ref wk), .val (.int 2), .val (.double (FP.l2d (A + B))), .second, .val (.int 1), .val (.int 2), .val (.int 2), .val (.int 1)]
        have f165 := ((V138.other W149 pr20).other W157 pr19)
        obtain ⟨cl_a166, Ar_a166, q_a166, S_a166, N_a166, H_a166, G_a166⟩ := id f165
        have hin_a166 : ¬ ((0 : Int32) < 0 ∨ cl_a166.slots.size ≤ ((0 : Int32)).toNatClampNeg) := inb_of S_a166 ⟨by decide, by decide⟩
        obtain ⟨T167, h167, X167, e167, W167, st167⟩ := stI X159 hx hZ e159 Ar_a166 (j := (0 : Int32)) hin_a166 (g := (mkF m 197 LL164 [(.int 1), (.int 0), (.ref wk)])) rfl rfl (hb hby d7_197)
        have V167 : Arv Z h167 wk kk .int (2 : Int32) [(.int 1), (.int 1)] (.int 0) := Arv.set Ar_a166 q_a166 S_a166 N_a166 H_a166 G_a166 rfl W167 0 rfl (Nat.le_of_ble_eq_true rfl)
        have N167 := Fr.snoc X167 N157 pr9
        let LL168 : Array Slot := #[.val (.ref a), .val (.ref wt), .val (.int 1), .val (.int 3), .val (.ref wk), .val (.int 2), .val (.double (FP.l2d (A + B))), .second, .val (.int 1), .val (.int 2), .val (.int 0), .val (.int 1)]
        have f169 := (Fld.other W167 f158 (Or.inl pr13))
        obtain ⟨T170, X170, e170, st170⟩ := getF X167 hx hZ hown (host := "") (Or.inl (hw _ (List.mem_of_getElem? (i := 12) rfl))) Via.refl e167 f169 (g := (mkF m 212 LL168 [(.ref a)])) rfl rfl (hb hby d7_212)
        obtain ⟨cl_a171, Ar_a171, q_a171, S_a171, N_a171, H_a171, G_a171⟩ := id V167
        have hin_a171 : ¬ ((0 : Int32) < 0 ∨ cl_a171.slots.size ≤ ((0 : Int32)).toNatClampNeg) := inb_of S_a171 ⟨by decide, by decide⟩
        have hat_a171 := Has.at (v := (.int 1)) H_a171 hin_a171 rfl
        have f172 := (V157.other W167 (Ne.symm pr19))
        obtain ⟨cl_a173, Ar_a173, q_a173, S_a173, N_a173, H_a173, G_a173⟩ := id f172
        have hin_a173 : ¬ ((1 : Int32) < 0 ∨ cl_a173.slots.size ≤ ((1 : Int32)).toNatClampNeg) := inb_of S_a173 ⟨by decide, by decide⟩
        obtain ⟨T174, h174, X174, e174, W174, st174⟩ := stD X170 hx hZ e170 Ar_a173 (j := (1 : Int32)) hin_a173 (g := (mkF m 221 LL168 [(.double FP.dconst1), (.int 1), (.ref th)])) rfl rfl (hb hby d7_221)
        have V174 : Arv Z h174 th kt .double (3 : Int32) [(.double y0), (.double FP.dconst1), (.double (own_q (B * (2 : Int64)) (A + B)))] (.double (0 : UInt64)) := Arv.set Ar_a173 q_a173 S_a173 N_a173 H_a173 G_a173 rfl W174 1 rfl (Nat.le_of_ble_eq_true rfl)
        have N174 := Fr.snoc X174 N167 pr10
        let LL175 : Array Slot := #[.val (.ref a), .val (.ref wt), .val (.int 1), .val (.int 3), .val (.ref wk), .val (.int 2), .val (.double (FP.l2d (A + B))), .second, .val (.int 1), .val (.int 2), .val (.int 1), .val (.int 1)]
        have P176 : ∀ t, Steps p.tables e below (T174.setTop (mkF m 228 LL175 [])) t → Steps p.tables e below ST t := by
          intro t kk
          refine P161 _ ?_
          show Steps _ _ _ (T159.setTop (mkF m 182 LL143 [(.int (cmpValue (FP.dcmp (FP.dadd (own_q (A * (2 : Int64)) (A + B)) (FP.dsub (own_q (B * (2 : Int64)) (A + B)) FP.dconst1)) FP.dconst1) .g))])) _
          refine XS.ifNo X159.here hx rfl (hb hby d7_182) rfl (XT.i0_ge_f c162) ?_
          show Steps _ _ _ (T159.setTop (mkF m 185 LL143 [])) _
          refine XS.iinc X159.here hx rfl (hb hby d7_185) rfl (l' := LL163) rfl ?_
          show Steps _ _ _ (T159.setTop (mkF m 188 LL163 [])) _
          refine XS.aload X159.here hx rfl (hb hby d7_188) rfl rfl ?_
          show Steps _ _ _ (T159.setTop (mkF m 190 LL163 [(.ref wk)])) _
          refine XS.iload X159.here hx rfl (hb hby d7_190) rfl ?_
          show Steps _ _ _ (T159.setTop (mkF m 192 LL163 [(.int 0), (.ref wk)])) _
          refine XS.iinc X159.here hx rfl (hb hby d7_192) rfl (l' := LL164) rfl ?_
          show Steps _ _ _ (T159.setTop (mkF m 195 LL164 [(.int 0), (.ref wk)])) _
          refine XS.iload X159.here hx rfl (hb hby d7_195) rfl ?_
          show Steps _ _ _ (T159.setTop (mkF m 197 LL164 [(.int 1), (.int 0), (.ref wk)])) _
          refine st167 _ ?_
          show Steps _ _ _ (T167.setTop (mkF m 198 LL164 [])) _
          refine XS.goto X167.here hx rfl (pc0 := 198) (pc' := 116) rfl (hb hby d7_198) (by decide) (by decide) ?_
          show Steps _ _ _ (T167.setTop (mkF m 116 LL164 [])) _
          refine XS.iload X167.here hx rfl (hb hby d7_116) rfl ?_
          show Steps _ _ _ (T167.setTop (mkF m 118 LL164 [(.int 1)])) _
          refine XS.ifNo X167.here hx rfl (hb hby d7_118) rfl (XT.i0_le_f (by decide)) ?_
          show Steps _ _ _ (T167.setTop (mkF m 121 LL164 [])) _
          refine XS.iload X167.here hx rfl (hb hby d7_121) rfl ?_
          show Steps _ _ _ (T167.setTop (mkF m 123 LL164 [(.int 2)])) _
          refine XS.iload X167.here hx rfl (hb hby d7_123) rfl ?_
          show Steps _ _ _ (T167.setTop (mkF m 125 LL164 [(.int 2), (.int 2)])) _
          refine XS.icmpYes X167.here hx rfl (pc0 := 125) (pc' := 201) rfl (hb hby d7_125) rfl (XT.ii_ge_t (by decide)) (by decide) (by decide) ?_
          show Steps _ _ _ (T167.setTop (mkF m 201 LL164 [])) _
          refine XS.iconst X167.here hx rfl (hb hby d7_201) ?_
          show Steps _ _ _ (T167.setTop (mkF m 202 LL164 [(.int 0)])) _
          refine XS.istore X167.here hx rfl (hb hby d7_202) rfl (l' := LL168) rfl ?_
          show Steps _ _ _ (T167.setTop (mkF m 204 LL168 [])) _
          refine XS.iload X167.here hx rfl (hb hby d7_204) rfl ?_
          show Steps _ _ _ (T167.setTop (mkF m 206 LL168 [(.int 0)])) _
          refine XS.iload X167.here hx rfl (hb hby d7_206) rfl ?_
          show Steps _ _ _ (T167.setTop (mkF m 208 LL168 [(.int 1), (.int 0)])) _
          refine XS.icmpNo X167.here hx rfl (hb hby d7_208) rfl (XT.ii_ge_f (by decide)) ?_
          show Steps _ _ _ (T167.setTop (mkF m 211 LL168 [])) _
          refine XS.aloadN X167.here hx rfl (hb hby d7_211) rfl rfl ?_
          show Steps _ _ _ (T167.setTop (mkF m 212 LL168 [(.ref a)])) _
          refine st170 _ ?_
          show Steps _ _ _ (T170.setTop (mkF m 215 LL168 [(.ref th)])) _
          refine XS.aload X170.here hx rfl (hb hby d7_215) rfl rfl ?_
          show Steps _ _ _ (T170.setTop (mkF m 217 LL168 [(.ref wk), (.ref th)])) _
          refine XS.iload X170.here hx rfl (hb hby d7_217) rfl ?_
          show Steps _ _ _ (T170.setTop (mkF m 219 LL168 [(.int 0), (.ref wk), (.ref th)])) _
          refine X170.iaload hx (j := (0 : Int32)) (v := (.int 1)) (by rw [e170]; exact Ar_a171.1) (State.isArrayOf_alike hZ.alike Ar_a171.2.1) Ar_a171.2.2 hin_a171 hat_a171 (g := (mkF m 219 LL168 [(.int 0), (.ref wk), (.ref th)])) rfl rfl (hb hby d7_219) _ ?_
          show Steps _ _ _ (T170.setTop (mkF m 220 LL168 [(.int 1), (.ref th)])) _
          refine XS.dconst1 X170.here hx rfl (hb hby d7_220) rfl ?_
          show Steps _ _ _ (T170.setTop (mkF m 221 LL168 [(.double FP.dconst1), (.int 1), (.ref th)])) _
          refine st174 _ ?_
          show Steps _ _ _ (T174.setTop (mkF m 222 LL168 [])) _
          refine XS.iinc X174.here hx rfl (hb hby d7_222) rfl (l' := LL175) rfl ?_
          show Steps _ _ _ (T174.setTop (mkF m 225 LL175 [])) _
          refine XS.goto X174.here hx rfl (pc0 := 225) (pc' := 204) rfl (hb hby d7_225) (by decide) (by decide) ?_
          show Steps _ _ _ (T174.setTop (mkF m 204 LL175 [])) _
          refine XS.iload X174.here hx rfl (hb hby d7_204) rfl ?_
          show Steps _ _ _ (T174.setTop (mkF m 206 LL175 [(.int 1)])) _
          refine XS.iload X174.here hx rfl (hb hby d7_206) rfl ?_
          show Steps _ _ _ (T174.setTop (mkF m 208 LL175 [(.int 1), (.int 1)])) _
          refine XS.icmpYes X174.here hx rfl (pc0 := 208) (pc' := 228) rfl (hb hby d7_208) rfl (XT.ii_ge_t (by decide)) (by decide) (by decide) ?_
          show Steps _ _ _ (T174.setTop (mkF m 228 LL175 [])) _
          exact kk
        have P177 : ∀ t, Steps p.tables e below (T174.setTop (mkF m 256 LL164 [])) t → Steps p.tables e below ST t := by
          intro t kk
          refine P176 _ ?_
          show Steps _ _ _ (T174.setTop (mkF m 228 LL175 [])) _
          refine XS.iload X174.here hx rfl (hb hby d7_228) rfl ?_
          show Steps _ _ _ (T174.setTop (mkF m 230 LL175 [(.int 2)])) _
          refine XS.istore X174.here hx rfl (hb hby d7_230) rfl (l' := LL164) rfl ?_
          show Steps _ _ _ (T174.setTop (mkF m 232 LL164 [])) _
          refine XS.iload X174.here hx rfl (hb hby d7_232) rfl ?_
          show Steps _ _ _ (T174.setTop (mkF m 234 LL164 [(.int 2)])) _
          refine XS.iload X174.here hx rfl (hb hby d7_234) rfl ?_
          show Steps _ _ _ (T174.setTop (mkF m 236 LL164 [(.int 2), (.int 2)])) _
          refine XS.icmpYes X174.here hx rfl (pc0 := 236) (pc' := 256) rfl (hb hby d7_236) rfl (XT.ii_ge_t (by decide)) (by decide) (by decide) ?_
          show Steps _ _ _ (T174.setTop (mkF m 256 LL164 [])) _
          exact kk
        have k178 : Keep h0 h174 [th, al, wk] := (Keep.wr (Keep.wr (Keep.wr (Keep.wr (Keep.wr (Keep.wr (Keep.wr (Keep.wr (Keep.wr (Keep.wr (Keep.refl h0 [th, al, wk]) W18 (Or.inl (List.mem_of_getElem? (i := 0) rfl))) W23 (Or.inl (List.mem_of_getElem? (i := 1) rfl))) W114 (Or.inl (List.mem_of_getElem? (i := 2) rfl))) W122 (Or.inl (List.mem_of_getElem? (i := 0) rfl))) W127 (Or.inl (List.mem_of_getElem? (i := 1) rfl))) W138 (Or.inl (List.mem_of_getElem? (i := 2) rfl))) W149 (Or.inl (List.mem_of_getElem? (i := 1) rfl))) W157 (Or.inl (List.mem_of_getElem? (i := 0) rfl))) W167 (Or.inl (List.mem_of_getElem? (i := 2) rfl))) W174 (Or.inl (List.mem_of_getElem? (i := 0) rfl)))
        have f179 := (((V149.other W157 (Ne.symm pr21)).other W167 (Ne.symm pr20)).other W174 (Ne.symm pr21))
        have f180 := (V167.other W174 pr19)
        obtain ⟨fs, hr, hrun, hended, hW, hsame⟩ := X174.leave (v := none) (fun _ => rfl)
        refine ⟨_, _, P177 _ ?_, hrun, hended, _, _, rfl, ?_, ⟨_, rfl⟩, hW, hsame.mono (by decide) (by decide)⟩
        · exact X174.returnOut hx Bd.returns (hb hby d7_256) hr
        · show Q7 Z a wt wk A B wx th al kw kt ka kk y0 y1 y2 z0 z1 z2 u0 u1 h0 n0 _ T174.heap _
          rw [e174]
          exact ⟨FP.dconst1, (own_q (B * (2 : Int64)) (A + B)), (1 : Int32), (1 : Int32), (1 : Int32), (1 : Int32), rfl, N174, k178, V174, f179, f180, (own_altG pr7 pr8 c134)⟩
      · skip
        let LL181 : Array Slot := #[.val (.ref a), .val (.ref wt), .val (.int 1), .val (.int 3), .val (.ref wk), .val (.int 2), .val (.double (FP.l2d (A + B))), .second, .val (.int 0), .val (.int 1), .val (.int 0), .val (.int 1)]
        let LL182 : Array Slot := #[.val (.ref a), .val (.ref wt), .val (.int 1), .val (.int 3), .val (.ref wk), .val (.int 2), .val (.double (FP.l2d (A + B))), .second, .val (.int 0), .val (.int 1), .val (.int 1), .val (.int 1)]
        obtain ⟨T183, X183, e183, st183⟩ := getF X159 hx hZ hown (host := "") (Or.inl (hw _ (List.mem_of_getElem? (i := 12) rfl))) Via.refl e159 f158 (g := (mkF m 240 LL182 [(.ref a)])) rfl rfl (hb hby d7_240)
        have f184 := ((V138.other W149 pr20).other W157 pr19)
        obtain ⟨cl_a185, Ar_a185, q_a185, S_a185, N_a185, H_a185, G_a185⟩ := id f184
        have hin_a185 : ¬ ((1 : Int32) < 0 ∨ cl_a185.slots.size ≤ ((1 : Int32)).toNatClampNeg) := inb_of S_a185 ⟨by decide, by decide⟩
        have hat_a185 := Has.at (v := (.int 1)) H_a185 hin_a185 rfl
        obtain ⟨cl_a186, Ar_a186, q_a186, S_a186, N_a186, H_a186, G_a186⟩ := id V157
        have hin_a186 : ¬ ((1 : Int32) < 0 ∨ cl_a186.slots.size ≤ ((1 : Int32)).toNatClampNeg) := inb_of S_a186 ⟨by decide, by decide⟩
        obtain ⟨T187, h187, X187, e187, W187, st187⟩ := stD X183 hx hZ e183 Ar_a186 (j := (1 : Int32)) hin_a186 (g := (mkF m 249 LL182 [(.double FP.dconst1), (.int 1), (.ref th)])) rfl rfl (hb hby d7_249)
        have V187 : Arv Z h187 th kt .double (3 : Int32) [(.double y0), (.double FP.dconst1), (.double (own_q (B * (2 : Int64)) (A + B)))] (.double (0 : UInt64)) := Arv.set Ar_a186 q_a186 S_a186 N_a186 H_a186 G_a186 rfl W187 1 rfl (Nat.le_of_ble_eq_true rfl)
        have N187 := Fr.snoc X187 N157 pr10
        have P188 : ∀ t, Steps p.tables e below (T187.setTop (mkF m 256 LL143 [])) t → Steps p.tables e below ST t := by
          intro t kk
          refine P161 _ ?_
          show Steps _ _ _ (T159.setTop (mkF m 182 LL143 [(.int (cmpValue (FP.dcmp (FP.dadd (own_q (A * (2 : Int64)) (A + B)) (FP.dsub (own_q (B * (2 : Int64)) (A + B)) FP.dconst1)) FP.dconst1) .g))])) _
          refine XS.ifYes X159.here hx rfl (pc0 := 182) (pc' := 198) rfl (hb hby d7_182) rfl (XT.i0_ge_t c162) (by decide) (by decide) ?_
          show Steps _ _ _ (T159.setTop (mkF m 198 LL143 [])) _
          refine XS.goto X159.here hx rfl (pc0 := 198) (pc' := 116) rfl (hb hby d7_198) (by decide) (by decide) ?_
          show Steps _ _ _ (T159.setTop (mkF m 116 LL143 [])) _
          refine XS.iload X159.here hx rfl (hb hby d7_116) rfl ?_
          show Steps _ _ _ (T159.setTop (mkF m 118 LL143 [(.int 0)])) _
          refine XS.ifYes X159.here hx rfl (pc0 := 118) (pc' := 201) rfl (hb hby d7_118) rfl (XT.i0_le_t (by decide)) (by decide) (by decide) ?_
          show Steps _ _ _ (T159.setTop (mkF m 201 LL143 [])) _
          refine XS.iconst X159.here hx rfl (hb hby d7_201) ?_
          show Steps _ _ _ (T159.setTop (mkF m 202 LL143 [(.int 0)])) _
          refine XS.istore X159.here hx rfl (hb hby d7_202) rfl (l' := LL181) rfl ?_
          show Steps _ _ _ (T159.setTop (mkF m 204 LL181 [])) _
          refine XS.iload X159.here hx rfl (hb hby d7_204) rfl ?_
          show Steps _ _ _ (T159.setTop (mkF m 206 LL181 [(.int 0)])) _
          refine XS.iload X159.here hx rfl (hb hby d7_206) rfl ?_
          show Steps _ _ _ (T159.setTop (mkF m 208 LL181 [(.int 0), (.int 0)])) _
          refine XS.icmpYes X159.here hx rfl (pc0 := 208) (pc' := 228) rfl (hb hby d7_208) rfl (XT.ii_ge_t (by decide)) (by decide) (by decide) ?_
          show Steps _ _ _ (T159.setTop (mkF m 228 LL181 [])) _
          refine XS.iload X159.here hx rfl (hb hby d7_228) rfl ?_
          show Steps _ _ _ (T159.setTop (mkF m 230 LL181 [(.int 1)])) _
          refine XS.istore X159.here hx rfl (hb hby d7_230) rfl (l' := LL182) rfl ?_
          show Steps _ _ _ (T159.setTop (mkF m 232 LL182 [])) _
          refine XS.iload X159.here hx rfl (hb hby d7_232) rfl ?_
          show Steps _ _ _ (T159.setTop (mkF m 234 LL182 [(.int 1)])) _
          refine XS.iload X159.here hx rfl (hb hby d7_234) rfl ?_
          show Steps _ _ _ (T159.setTop (mkF m 236 LL182 [(.int 2), (.int 1)])) _
          refine XS.icmpNo X159.here hx rfl (hb hby d7_236) rfl (XT.ii_ge_f (by decide)) ?_
          show Steps _ _ _ (T159.setTop (mkF m 239 LL182 [])) _
          refine XS.aloadN X159.here hx rfl (hb hby d7_239) rfl rfl ?_
          show Steps _ _ _ (T159.setTop (mkF m 240 LL182 [(.ref a)])) _
          refine st183 _ ?_
          show Steps _ _ _ (T183.setTop (mkF m 243 LL182 [(.ref th)])) _
          refine XS.aload X183.here hx rfl (hb hby d7_243) rfl rfl ?_
          show Steps _ _ _ (T183.setTop (mkF m 245 LL182 [(.ref wk), (.ref th)])) _
          refine XS.iload X183.here hx rfl (hb hby d7_245) rfl ?_
          show Steps _ _ _ (T183.setTop (mkF m 247 LL182 [(.int 1), (.ref wk), (.ref th)])) _
          refine X183.iaload hx (j := (1 : Int32)) (v := (.int 1)) (by rw [e183]; exact Ar_a185.1) (State.isArrayOf_alike hZ.alike Ar_a185.2.1) Ar_a185.2.2 hin_a185 hat_a185 (g := (mkF m 247 LL182 [(.int 1), (.ref wk), (.ref th)])) rfl rfl (hb hby d7_247) _ ?_
          show Steps _ _ _ (T183.setTop (mkF m 248 LL182 [(.int 1), (.ref th)])) _
          refine XS.dconst1 X183.here hx rfl (hb hby d7_248) rfl ?_
          show Steps _ _ _ (T183.setTop (mkF m 249 LL182 [(.double FP.dconst1), (.int 1), (.ref th)])) _
          refine st187 _ ?_
          show Steps _ _ _ (T187.setTop (mkF m 250 LL182 [])) _
          refine XS.iinc X187.here hx rfl (hb hby d7_250) rfl (l' := LL143) rfl ?_
          show Steps _ _ _ (T187.setTop (mkF m 253 LL143 [])) _
          refine XS.goto X187.here hx rfl (pc0 := 253) (pc' := 232) rfl (hb hby d7_253) (by decide) (by decide) ?_
          show Steps _ _ _ (T187.setTop (mkF m 232 LL143 [])) _
          refine XS.iload X187.here hx rfl (hb hby d7_232) rfl ?_
          show Steps _ _ _ (T187.setTop (mkF m 234 LL143 [(.int 2)])) _
          refine XS.iload X187.here hx rfl (hb hby d7_234) rfl ?_
          show Steps _ _ _ (T187.setTop (mkF m 236 LL143 [(.int 2), (.int 2)])) _
          refine XS.icmpYes X187.here hx rfl (pc0 := 236) (pc' := 256) rfl (hb hby d7_236) rfl (XT.ii_ge_t (by decide)) (by decide) (by decide) ?_
          show Steps _ _ _ (T187.setTop (mkF m 256 LL143 [])) _
          exact kk
        have k189 : Keep h0 h187 [th, al, wk] := (Keep.wr (Keep.wr (Keep.wr (Keep.wr (Keep.wr (Keep.wr (Keep.wr (Keep.wr (Keep.wr (Keep.refl h0 [th, al, wk]) W18 (Or.inl (List.mem_of_getElem? (i := 0) rfl))) W23 (Or.inl (List.mem_of_getElem? (i := 1) rfl))) W114 (Or.inl (List.mem_of_getElem? (i := 2) rfl))) W122 (Or.inl (List.mem_of_getElem? (i := 0) rfl))) W127 (Or.inl (List.mem_of_getElem? (i := 1) rfl))) W138 (Or.inl (List.mem_of_getElem? (i := 2) rfl))) W149 (Or.inl (List.mem_of_getElem? (i := 1) rfl))) W157 (Or.inl (List.mem_of_getElem? (i := 0) rfl))) W187 (Or.inl (List.mem_of_getElem? (i := 0) rfl)))
        have f190 := ((V149.other W157 (Ne.symm pr21)).other W187 (Ne.symm pr21))
        have f191 := (f184.other W187 pr19)
        obtain ⟨fs, hr, hrun, hended, hW, hsame⟩ := X187.leave (v := none) (fun _ => rfl)
        refine ⟨_, _, P188 _ ?_, hrun, hended, _, _, rfl, ?_, ⟨_, rfl⟩, hW, hsame.mono (by decide) (by decide)⟩
        · exact X187.returnOut hx Bd.returns (hb hby d7_256) hr
        · show Q7 Z a wt wk A B wx th al kw kt ka kk y0 y1 y2 z0 z1 z2 u0 u1 h0 n0 _ T187.heap _
          rw [e187]
          exact ⟨FP.dconst1, (own_q (B * (2 : Int64)) (A + B)), (1 : Int32), (1 : Int32), (2 : Int32), (1 : Int32), rfl, N187, k189, V187, f190, f191, (own_altG pr7 pr8 c134)⟩
    · skip
      let LL192 : Array Slot := #[.val (.ref a), .val (.ref wt), .val (.int 1), .val (.int 3), .val (.ref wk), .val (.int 2), .val (.double (FP.l2d (A + B))), .second, .val (.int 0), .val (.int 0), .val (.int 2), .unset]
      have f193 := ((V114.other W122 pr19).other W127 pr20)
      obtain ⟨cl_a194, Ar_a194, q_a194, S_a194, N_a194, H_a194, G_a194⟩ := id f193
      have hin_a194 : ¬ ((0 : Int32) < 0 ∨ cl_a194.slots.size ≤ ((0 : Int32)).toNatClampNeg) := inb_of S_a194 ⟨by decide, by decide⟩
      obtain ⟨T195, h195, X195, e195, W195, st195⟩ := stI X129 hx hZ e129 Ar_a194 (j := (0 : Int32)) hin_a194 (g := (mkF m 109 LL192 [(.int 2), (.int 0), (.ref wk)])) rfl rfl (hb hby d7_109)
      have V195 : Arv Z h195 wk kk .int (2 : Int32) [(.int 2), (.int 1)] (.int 0) := Arv.set Ar_a194 q_a194 S_a194 N_a194 H_a194 G_a194 rfl W195 0 rfl (Nat.le_of_ble_eq_true rfl)
      have N195 := Fr.snoc X195 N127 pr9
      let LL196 : Array Slot := #[.val (.ref a), .val (.ref wt), .val (.int 1), .val (.int 3), .val (.ref wk), .val (.int 2), .val (.double (FP.l2d (A + B))), .second, .val (.int 0), .val (.int 0), .val (.int 3), .unset]
      let LL197 : Array Slot := #[.val (.ref a), .val (.ref wt), .val (.int 1), .val (.int 3), .val (.ref wk), .val (.int 2), .val (.double (FP.l2d (A + B))), .second, .val (.int 0), .val (.int 0), .val (.int 0), .unset]
      have f198 := (Fld.other W195 f128 (Or.inl pr13))
      obtain ⟨T199, X199, e199, st199⟩ := getF X195 hx hZ hown (host := "") (Or.inl (hw _ (List.mem_of_getElem? (i := 12) rfl))) Via.refl e195 f198 (g := (mkF m 240 LL197 [(.ref a)])) rfl rfl (hb hby d7_240)
      obtain ⟨cl_a200, Ar_a200, q_a200, S_a200, N_a200, H_a200, G_a200⟩ := id V195
      have hin_a200 : ¬ ((0 : Int32) < 0 ∨ cl_a200.slots.size ≤ ((0 : Int32)).toNatClampNeg) := inb_of S_a200 ⟨by decide, by decide⟩
      have hat_a200 := Has.at (v := (.int 2)) H_a200 hin_a200 rfl
      have f201 := (f131.other W195 (Ne.symm pr19))
      obtain ⟨cl_a202, Ar_a202, q_a202, S_a202, N_a202, H_a202, G_a202⟩ := id f201
      have hin_a202 : ¬ ((2 : Int32) < 0 ∨ cl_a202.slots.size ≤ ((2 : Int32)).toNatClampNeg) := inb_of S_a202 ⟨by decide, by decide⟩
      obtain ⟨T203, h203, X203, e203, W203, st203⟩ := stD X199 hx hZ e199 Ar_a202 (j := (2 : Int32)) hin_a202 (g := (mkF m 249 LL197 [(.double FP.dconst1), (.int 2), (.ref th)])) rfl rfl (hb hby d7_249)
      have V203 : Arv Z h203 th kt .double (3 : Int32) [(.double y0), (.double (own_q (A * (2 : Int64)) (A + B))), (.double FP.dconst1)] (.double (0 : UInt64)) := Arv.set Ar_a202 q_a202 S_a202 N_a202 H_a202 G_a202 rfl W203 2 rfl (Nat.le_of_ble_eq_true rfl)
      have N203 := Fr.snoc X203 N195 pr10
      have P204 : ∀ t, Steps p.tables e below (T203.setTop (mkF m 250 LL197 [])) t → Steps p.tables e below ST t := by
        intro t kk
        refine P133 _ ?_
        show Steps _ _ _ (T129.setTop (mkF m 84 LL115 [(.int (cmpValue (FP.dcmp (own_q (B * (2 : Int64)) (A + B)) FP.dconst1) .g))])) _
        refine XS.ifYes X129.here hx rfl (pc0 := 84) (pc' := 100) rfl (hb hby d7_84) rfl (XT.i0_ge_t c134) (by decide) (by decide) ?_
        show Steps _ _ _ (T129.setTop (mkF m 100 LL115 [])) _
        refine XS.aload X129.here hx rfl (hb hby d7_100) rfl rfl ?_
        show Steps _ _ _ (T129.setTop (mkF m 102 LL115 [(.ref wk)])) _
        refine XS.iinc X129.here hx rfl (hb hby d7_102) rfl (l' := LL192) rfl ?_
        show Steps _ _ _ (T129.setTop (mkF m 105 LL192 [(.ref wk)])) _
        refine XS.iload X129.here hx rfl (hb hby d7_105) rfl ?_
        show Steps _ _ _ (T129.setTop (mkF m 107 LL192 [(.int 0), (.ref wk)])) _
        refine XS.iload X129.here hx rfl (hb hby d7_107) rfl ?_
        show Steps _ _ _ (T129.setTop (mkF m 109 LL192 [(.int 2), (.int 0), (.ref wk)])) _
        refine st195 _ ?_
        show Steps _ _ _ (T195.setTop (mkF m 110 LL192 [])) _
        refine XS.iinc X195.here hx rfl (hb hby d7_110) rfl (l' := LL196) rfl ?_
        show Steps _ _ _ (T195.setTop (mkF m 113 LL196 [])) _
        refine XS.goto X195.here hx rfl (pc0 := 113) (pc' := 42) rfl (hb hby d7_113) (by decide) (by decide) ?_
        show Steps _ _ _ (T195.setTop (mkF m 42 LL196 [])) _
        refine XS.iload X195.here hx rfl (hb hby d7_42) rfl ?_
        show Steps _ _ _ (T195.setTop (mkF m 44 LL196 [(.int 3)])) _
        refine XS.iloadN X195.here hx rfl (hb hby d7_44) rfl ?_
        show Steps _ _ _ (T195.setTop (mkF m 45 LL196 [(.int 3), (.int 3)])) _
        refine XS.icmpYes X195.here hx rfl (pc0 := 45) (pc' := 116) rfl (hb hby d7_45) rfl (XT.ii_ge_t (by decide)) (by decide) (by decide) ?_
        show Steps _ _ _ (T195.setTop (mkF m 116 LL196 [])) _
        refine XS.iload X195.here hx rfl (hb hby d7_116) rfl ?_
        show Steps _ _ _ (T195.setTop (mkF m 118 LL196 [(.int 0)])) _
        refine XS.ifYes X195.here hx rfl (pc0 := 118) (pc' := 201) rfl (hb hby d7_118) rfl (XT.i0_le_t (by decide)) (by decide) (by decide) ?_
        show Steps _ _ _ (T195.setTop (mkF m 201 LL196 [])) _
        refine XS.iconst X195.here hx rfl (hb hby d7_201) ?_
        show Steps _ _ _ (T195.setTop (mkF m 202 LL196 [(.int 0)])) _
        refine XS.istore X195.here hx rfl (hb hby d7_202) rfl (l' := LL197) rfl ?_
        show Steps _ _ _ (T195.setTop (mkF m 204 LL197 [])) _
        refine XS.iload X195.here hx rfl (hb hby d7_204) rfl ?_
        show Steps _ _ _ (T195.setTop (mkF m 206 LL197 [(.int 0)])) _
        refine XS.iload X195.here hx rfl (hb hby d7_206) rfl ?_
        show Steps _ _ _ (T195.setTop (mkF m 208 LL197 [(.int 0), (.int 0)])) _
        refine XS.icmpYes X195.here hx rfl (pc0 := 208) (pc' := 228) rfl (hb hby d7_208) rfl (XT.ii_ge_t (by decide)) (by decide) (by decide) ?_
        show Steps _ _ _ (T195.setTop (mkF m 228 LL197 [])) _
        refine XS.iload X195.here hx rfl (hb hby d7_228) rfl ?_
        show Steps _ _ _ (T195.setTop (mkF m 230 LL197 [(.int 0)])) _
        refine XS.istore X195.here hx rfl (hb hby d7_230) rfl (l' := LL197) rfl ?_
        show Steps _ _ _ (T195.setTop (mkF m 232 LL197 [])) _
        refine XS.iload X195.here hx rfl (hb hby d7_232) rfl ?_
        show Steps _ _ _ (T195.setTop (mkF m 234 LL197 [(.int 0)])) _
        refine XS.iload X195.here hx rfl (hb hby d7_234) rfl ?_
        show Steps _ _ _ (T195.setTop (mkF m 236 LL197 [(.int 2), (.int 0)])) _
        refine XS.icmpNo X195.here hx rfl (hb hby d7_236) rfl (XT.ii_ge_f (by decide)) ?_
        show Steps _ _ _ (T195.setTop (mkF m 239 LL197 [])) _
        refine XS.aloadN X195.here hx rfl (hb hby d7_239) rfl rfl ?_
        show Steps _ _ _ (T195.setTop (mkF m 240 LL197 [(.ref a)])) _
        refine st199 _ ?_
        show Steps _ _ _ (T199.setTop (mkF m 243 LL197 [(.ref th)])) _
        refine XS.aload X199.here hx rfl (hb hby d7_243) rfl rfl ?_
        show Steps _ _ _ (T199.setTop (mkF m 245 LL197 [(.ref wk), (.ref th)])) _
        refine XS.iload X199.here hx rfl (hb hby d7_245) rfl ?_
        show Steps _ _ _ (T199.setTop (mkF m 247 LL197 [(.int 0), (.ref wk), (.ref th)])) _
        refine X199.iaload hx (j := (0 : Int32)) (v := (.int 2)) (by rw [e199]; exact Ar_a200.1) (State.isArrayOf_alike hZ.alike Ar_a200.2.1) Ar_a200.2.2 hin_a200 hat_a200 (g := (mkF m 247 LL197 [(.int 0), (.ref wk), (.ref th)])) rfl rfl (hb hby d7_247) _ ?_
        show Steps _ _ _ (T199.setTop (mkF m 248 LL197 [(.int 2), (.ref th)])) _
        refine XS.dconst1 X199.here hx rfl (hb hby d7_248) rfl ?_
        show Steps _ _ _ (T199.setTop (mkF m 249 LL197 [(.double FP.dconst1), (.int 2), (.ref th)])) _
        refine st203 _ ?_
        show Steps _ _ _ (T203.setTop (mkF m 250 LL197 [])) _
        exact kk
      let LL205 : Array Slot := #[.val (.ref a), .val (.ref wt), .val (.int 1), .val (.int 3), .val (.ref wk), .val (.int 2), .val (.double (FP.l2d (A + B))), .second, .val (.int 0), .val (.int 0), .val (.int 1), .unset]
      have f206 := (Fld.other W203 f198 (Or.inl pr14))
      obtain ⟨T207, X207, e207, st207⟩ := getF X203 hx hZ hown (host := "") (Or.inl (hw _ (List.mem_of_getElem? (i := 12) rfl))) Via.refl e203 f206 (g := (mkF m 240 LL205 [(.ref a)])) rfl rfl (hb hby d7_240)
      have f208 := (V195.other W203 pr19)
      obtain ⟨cl_a209, Ar_a209, q_a209, S_a209, N_a209, H_a209, G_a209⟩ := id f208
      have hin_a209 : ¬ ((1 : Int32) < 0 ∨ cl_a209.slots.size ≤ ((1 : Int32)).toNatClampNeg) := inb_of S_a209 ⟨by decide, by decide⟩
      have hat_a209 := Has.at (v := (.int 1)) H_a209 hin_a209 rfl
      obtain ⟨cl_a210, Ar_a210, q_a210, S_a210, N_a210, H_a210, G_a210⟩ := id V203
      have hin_a210 : ¬ ((1 : Int32) < 0 ∨ cl_a210.slots.size ≤ ((1 : Int32)).toNatClampNeg) := inb_of S_a210 ⟨by decide, by decide⟩
      obtain ⟨T211, h211, X211, e211, W211, st211⟩ := stD X207 hx hZ e207 Ar_a210 (j := (1 : Int32)) hin_a210 (g := (mkF m 249 LL205 [(.double FP.dconst1), (.int 1), (.ref th)])) rfl rfl (hb hby d7_249)
      have V211 : Arv Z h211 th kt .double (3 : Int32) [(.double y0), (.double FP.dconst1), (.double FP.dconst1)] (.double (0 : UInt64)) := Arv.set Ar_a210 q_a210 S_a210 N_a210 H_a210 G_a210 rfl W211 1 rfl (Nat.le_of_ble_eq_true rfl)
      have N211 := Fr.snoc X211 N203 pr10
      have P212 : ∀ t, Steps p.tables e below (T211.setTop (mkF m 256 LL192 [])) t → Steps p.tables e below ST t := by
        intro t kk
        refine P204 _ ?_
        show Steps _ _ _ (T203.setTop (mkF m 250 LL197 [])) _
        refine XS.iinc X203.here hx rfl (hb hby d7_250) rfl (l' := LL205) rfl ?_
        show Steps _ _ _ (T203.setTop (mkF m 253 LL205 [])) _
        refine XS.goto X203.here hx rfl (pc0 := 253) (pc' := 232) rfl (hb hby d7_253) (by decide) (by decide) ?_
        show Steps _ _ _ (T203.setTop (mkF m 232 LL205 [])) _
        refine XS.iload X203.here hx rfl (hb hby d7_232) rfl ?_
        show Steps _ _ _ (T203.setTop (mkF m 234 LL205 [(.int 1)])) _
        refine XS.iload X203.here hx rfl (hb hby d7_234) rfl ?_
        show Steps _ _ _ (T203.setTop (mkF m 236 LL205 [(.int 2), (.int 1)])) _
        refine XS.icmpNo X203.here hx rfl (hb hby d7_236) rfl (XT.ii_ge_f (by decide)) ?_
        show Steps _ _ _ (T203.setTop (mkF m 239 LL205 [])) _
        refine XS.aloadN X203.here hx rfl (hb hby d7_239) rfl rfl ?_
        show Steps _ _ _ (T203.setTop (mkF m 240 LL205 [(.ref a)])) _
        refine st207 _ ?_
        show Steps _ _ _ (T207.setTop (mkF m 243 LL205 [(.ref th)])) _
        refine XS.aload X207.here hx rfl (hb hby d7_243) rfl rfl ?_
        show Steps _ _ _ (T207.setTop (mkF m 245 LL205 [(.ref wk), (.ref th)])) _
        refine XS.iload X207.here hx rfl (hb hby d7_245) rfl ?_
        show Steps _ _ _ (T207.setTop (mkF m 247 LL205 [(.int 1), (.ref wk), (.ref th)])) _
        refine X207.iaload hx (j := (1 : Int32)) (v := (.int 1)) (by rw [e207]; exact Ar_a209.1) (State.isArrayOf_alike hZ.alike Ar_a209.2.1) Ar_a209.2.2 hin_a209 hat_a209 (g := (mkF m 247 LL205 [(.int 1), (.ref wk), (.ref th)])) rfl rfl (hb hby d7_247) _ ?_
        show Steps _ _ _ (T207.setTop (mkF m 248 LL205 [(.int 1), (.ref th)])) _
        refine XS.dconst1 X207.here hx rfl (hb hby d7_248) rfl ?_
        show Steps _ _ _ (T207.setTop (mkF m 249 LL205 [(.double FP.dconst1), (.int 1), (.ref th)])) _
        refine st211 _ ?_
        show Steps _ _ _ (T211.setTop (mkF m 250 LL205 [])) _
        refine XS.iinc X211.here hx rfl (hb hby d7_250) rfl (l' := LL192) rfl ?_
        show Steps _ _ _ (T211.setTop (mkF m 253 LL192 [])) _
        refine XS.goto X211.here hx rfl (pc0 := 253) (pc' := 232) rfl (hb hby d7_253) (by decide) (by decide) ?_
        show Steps _ _ _ (T211.setTop (mkF m 232 LL192 [])) _
        refine XS.iload X211.here hx rfl (hb hby d7_232) rfl ?_
        show Steps _ _ _ (T211.setTop (mkF m 234 LL192 [(.int 2)])) _
        refine XS.iload X211.here hx rfl (hb hby d7_234) rfl ?_
        show Steps _ _ _ (T211.setTop (mkF m 236 LL192 [(.int 2), (.int 2)])) _
        refine XS.icmpYes X211.here hx rfl (pc0 := 236) (pc' := 256) rfl (hb hby d7_236) rfl (XT.ii_ge_t (by decide)) (by decide) (by decide) ?_
        show Steps _ _ _ (T211.setTop (mkF m 256 LL192 [])) _
        exact kk
      have k213 : Keep h0 h211 [th, al, wk] := (Keep.wr (Keep.wr (Keep.wr (Keep.wr (Keep.wr (Keep.wr (Keep.wr (Keep.wr (Keep.refl h0 [th, al, wk]) W18 (Or.inl (List.mem_of_getElem? (i := 0) rfl))) W23 (Or.inl (List.mem_of_getElem? (i := 1) rfl))) W114 (Or.inl (List.mem_of_getElem? (i := 2) rfl))) W122 (Or.inl (List.mem_of_getElem? (i := 0) rfl))) W127 (Or.inl (List.mem_of_getElem? (i := 1) rfl))) W195 (Or.inl (List.mem_of_getElem? (i := 2) rfl))) W203 (Or.inl (List.mem_of_getElem? (i := 0) rfl))) W211 (Or.inl (List.mem_of_getElem? (i := 0) rfl)))
      have f214 := (((V127.other W195 (Ne.symm pr20)).other W203 (Ne.symm pr21)).other W211 (Ne.symm pr21))
      have f215 := (f208.other W211 pr19)
      obtain ⟨fs, hr, hrun, hended, hW, hsame⟩ := X211.leave (v := none) (fun _ => rfl)
      refine ⟨_, _, P212 _ ?_, hrun, hended, _, _, rfl, ?_, ⟨_, rfl⟩, hW, hsame.mono (by decide) (by decide)⟩
      · exact X211.returnOut hx Bd.returns (hb hby d7_256) hr
      · show Q7 Z a wt wk A B wx th al kw kt ka kk y0 y1 y2 z0 z1 z2 u0 u1 h0 n0 _ T211.heap _
        rw [e211]
        exact ⟨FP.dconst1, FP.dconst1, (1 : Int32), (2 : Int32), (2 : Int32), (1 : Int32), rfl, N211, k213, V211, f214, f215, (own_altE pr7 pr8 c30 c134)⟩
theorem d8_0 : decode prog_27_method_2_code 0 = .ok (.iload_n 3, 1) := by decide +kernel
theorem d8_1 : decode prog_27_method_2_code 1 = .ok (.iload_n 2, 1) := by decide +kernel
theorem d8_2 : decode prog_27_method_2_code 2 = .ok (.isub, 1) := by decide +kernel
theorem d8_3 : decode prog_27_method_2_code 3 = .ok (.istore 5, 2) := by decide +kernel
theorem d8_5 : decode prog_27_method_2_code 5 = .ok (.dconst 0, 1) := by decide +kernel
theorem d8_6 : decode prog_27_method_2_code 6 = .ok (.dstore 6, 2) := by decide +kernel
theorem d8_8 : decode prog_27_method_2_code 8 = .ok (.iload_n 2, 1) := by decide +kernel
theorem d8_9 : decode prog_27_method_2_code 9 = .ok (.istore 8, 2) := by decide +kernel
theorem d8_11 : decode prog_27_method_2_code 11 = .ok (.iload 8, 2) := by decide +kernel
theorem d8_13 : decode prog_27_method_2_code 13 = .ok (.iload_n 3, 1) := by decide +kernel
theorem d8_14 : decode prog_27_method_2_code 14 = .ok (.if_icmp .ge 18, 3) := by decide +kernel
theorem d8_17 : decode prog_27_method_2_code 17 = .ok (.dload 6, 2) := by decide +kernel
theorem d8_19 : decode prog_27_method_2_code 19 = .ok (.aload_n 1, 1) := by decide +kernel
theorem d8_20 : decode prog_27_method_2_code 20 = .ok (.iload 8, 2) := by decide +kernel
theorem d8_22 : decode prog_27_method_2_code 22 = .ok (.daload, 1) := by decide +kernel
theorem d8_23 : decode prog_27_method_2_code 23 = .ok (.dadd, 1) := by decide +kernel
theorem d8_24 : decode prog_27_method_2_code 24 = .ok (.dstore 6, 2) := by decide +kernel
theorem d8_26 : decode prog_27_method_2_code 26 = .ok (.iinc 8 1, 3) := by decide +kernel
theorem d8_29 : decode prog_27_method_2_code 29 = .ok (.goto (-18), 3) := by decide +kernel
theorem d8_32 : decode prog_27_method_2_code 32 = .ok (.iconst 0, 1) := by decide +kernel
theorem d8_33 : decode prog_27_method_2_code 33 = .ok (.istore 8, 2) := by decide +kernel
theorem d8_35 : decode prog_27_method_2_code 35 = .ok (.iload 5, 2) := by decide +kernel
theorem d8_37 : decode prog_27_method_2_code 37 = .ok (.istore 9, 2) := by decide +kernel
theorem d8_39 : decode prog_27_method_2_code 39 = .ok (.iload_n 2, 1) := by decide +kernel
theorem d8_40 : decode prog_27_method_2_code 40 = .ok (.istore 10, 2) := by decide +kernel
theorem d8_42 : decode prog_27_method_2_code 42 = .ok (.iload 10, 2) := by decide +kernel
theorem d8_44 : decode prog_27_method_2_code 44 = .ok (.iload_n 3, 1) := by decide +kernel
theorem d8_45 : decode prog_27_method_2_code 45 = .ok (.if_icmp .ge 71, 3) := by decide +kernel
theorem d8_48 : decode prog_27_method_2_code 48 = .ok (.aload_n 0, 1) := by decide +kernel
theorem d8_49 : decode prog_27_method_2_code 49 = .ok (.getfield 7, 3) := by decide +kernel
theorem d8_52 : decode prog_27_method_2_code 52 = .ok (.iload 10, 2) := by decide +kernel
theorem d8_54 : decode prog_27_method_2_code 54 = .ok (.aload_n 1, 1) := by decide +kernel
theorem d8_55 : decode prog_27_method_2_code 55 = .ok (.iload 10, 2) := by decide +kernel
theorem d8_57 : decode prog_27_method_2_code 57 = .ok (.daload, 1) := by decide +kernel
theorem d8_58 : decode prog_27_method_2_code 58 = .ok (.iload 5, 2) := by decide +kernel
theorem d8_60 : decode prog_27_method_2_code 60 = .ok (.i2d, 1) := by decide +kernel
theorem d8_61 : decode prog_27_method_2_code 61 = .ok (.dmul, 1) := by decide +kernel
theorem d8_62 : decode prog_27_method_2_code 62 = .ok (.dload 6, 2) := by decide +kernel
theorem d8_64 : decode prog_27_method_2_code 64 = .ok (.ddiv, 1) := by decide +kernel
theorem d8_65 : decode prog_27_method_2_code 65 = .ok (.dastore, 1) := by decide +kernel
theorem d8_66 : decode prog_27_method_2_code 66 = .ok (.aload_n 0, 1) := by decide +kernel
theorem d8_67 : decode prog_27_method_2_code 67 = .ok (.getfield 13, 3) := by decide +kernel
theorem d8_70 : decode prog_27_method_2_code 70 = .ok (.iload 10, 2) := by decide +kernel
theorem d8_72 : decode prog_27_method_2_code 72 = .ok (.iload 10, 2) := by decide +kernel
theorem d8_74 : decode prog_27_method_2_code 74 = .ok (.iastore, 1) := by decide +kernel
theorem d8_75 : decode prog_27_method_2_code 75 = .ok (.aload_n 0, 1) := by decide +kernel
theorem d8_76 : decode prog_27_method_2_code 76 = .ok (.getfield 7, 3) := by decide +kernel
theorem d8_79 : decode prog_27_method_2_code 79 = .ok (.iload 10, 2) := by decide +kernel
theorem d8_81 : decode prog_27_method_2_code 81 = .ok (.daload, 1) := by decide +kernel
theorem d8_82 : decode prog_27_method_2_code 82 = .ok (.dconst 1, 1) := by decide +kernel
theorem d8_83 : decode prog_27_method_2_code 83 = .ok (.dcmp .g, 1) := by decide +kernel
theorem d8_84 : decode prog_27_method_2_code 84 = .ok (.ifCond .ge 16, 3) := by decide +kernel
theorem d8_100 : decode prog_27_method_2_code 100 = .ok (.aload 4, 2) := by decide +kernel
theorem d8_102 : decode prog_27_method_2_code 102 = .ok (.iinc 9 (-1), 3) := by decide +kernel
theorem d8_105 : decode prog_27_method_2_code 105 = .ok (.iload 9, 2) := by decide +kernel
theorem d8_107 : decode prog_27_method_2_code 107 = .ok (.iload 10, 2) := by decide +kernel
theorem d8_109 : decode prog_27_method_2_code 109 = .ok (.iastore, 1) := by decide +kernel
theorem d8_110 : decode prog_27_method_2_code 110 = .ok (.iinc 10 1, 3) := by decide +kernel
theorem d8_113 : decode prog_27_method_2_code 113 = .ok (.goto (-71), 3) := by decide +kernel
theorem d8_116 : decode prog_27_method_2_code 116 = .ok (.iload 8, 2) := by decide +kernel
theorem d8_118 : decode prog_27_method_2_code 118 = .ok (.ifCond .le 83, 3) := by decide +kernel
theorem d8_201 : decode prog_27_method_2_code 201 = .ok (.iconst 0, 1) := by decide +kernel
theorem d8_202 : decode prog_27_method_2_code 202 = .ok (.istore 10, 2) := by decide +kernel
theorem d8_204 : decode prog_27_method_2_code 204 = .ok (.iload 10, 2) := by decide +kernel
theorem d8_206 : decode prog_27_method_2_code 206 = .ok (.iload 8, 2) := by decide +kernel
theorem d8_208 : decode prog_27_method_2_code 208 = .ok (.if_icmp .ge 20, 3) := by decide +kernel
theorem d8_228 : decode prog_27_method_2_code 228 = .ok (.iload 9, 2) := by decide +kernel
theorem d8_230 : decode prog_27_method_2_code 230 = .ok (.istore 10, 2) := by decide +kernel
theorem d8_232 : decode prog_27_method_2_code 232 = .ok (.iload 10, 2) := by decide +kernel
theorem d8_234 : decode prog_27_method_2_code 234 = .ok (.iload 5, 2) := by decide +kernel
theorem d8_236 : decode prog_27_method_2_code 236 = .ok (.if_icmp .ge 20, 3) := by decide +kernel
theorem d8_239 : decode prog_27_method_2_code 239 = .ok (.aload_n 0, 1) := by decide +kernel
theorem d8_240 : decode prog_27_method_2_code 240 = .ok (.getfield 7, 3) := by decide +kernel
theorem d8_243 : decode prog_27_method_2_code 243 = .ok (.aload 4, 2) := by decide +kernel
theorem d8_245 : decode prog_27_method_2_code 245 = .ok (.iload 10, 2) := by decide +kernel
theorem d8_247 : decode prog_27_method_2_code 247 = .ok (.iaload, 1) := by decide +kernel
theorem d8_248 : decode prog_27_method_2_code 248 = .ok (.dconst 1, 1) := by decide +kernel
theorem d8_249 : decode prog_27_method_2_code 249 = .ok (.dastore, 1) := by decide +kernel
theorem d8_250 : decode prog_27_method_2_code 250 = .ok (.iinc 10 1, 3) := by decide +kernel
theorem d8_253 : decode prog_27_method_2_code 253 = .ok (.goto (-21), 3) := by decide +kernel
theorem d8_256 : decode prog_27_method_2_code 256 = .ok (.return_, 1) := by decide +kernel
theorem ef_8 (m : MethodId) (x0 : Addr) (x1 : Addr) (x2 : Int32) (x3 : Int32) (x4 : Addr) : entryFrame m #[(.ref x0), (.ref x1), (.int x2), (.int x3), (.ref x4)] 12 = (mkF m 0 #[.val (.ref x0), .val (.ref x1), .val (.int x2), .val (.int x3), .val (.ref x4), .unset, .unset, .unset, .unset, .unset, .unset, .unset] []) := by first | (simp [entryFrame, mkF, argsToLocals, Value.category]; done) | rfl
def Q8 (Z : State) (a : Addr) (wt : Addr) (wk : Addr) (A : Int64) (x1 : UInt64) (x2 : UInt64) (th : Addr) (al : Addr) (kw : ClassId) (kt : ClassId) (ka : ClassId) (kk : ClassId) (y0 : UInt64) (y1 : UInt64) (y2 : UInt64) (z0 : Int32) (z1 : Int32) (z2 : Int32) (u0 : Int32) (u1 : Int32) (h0 : Heap) (n0 : Nat) (vX : Option Value) (hX : Heap) (lX : List Loc) : Prop := vX = none ∧ Fr n0 lX ∧ (Keep h0 hX [th, al, wk]) ∧ (Arv Z hX th kt .double (3 : Int32) [(.double FP.dconst1), (.double y1), (.double y2)] (.double (0 : UInt64))) ∧ (Arv Z hX al ka .int (3 : Int32) [(.int 0), (.int z1), (.int z2)] (.int 0)) ∧ (Arv Z hX wk kk .int (2 : Int32) [(.int 0), (.int u1)] (.int 0))
set_option maxRecDepth 65536 in
set_option maxHeartbeats 40000000 in
theorem rm8 (l : Launch) (Z : State) (a0 : Array Value) (hw : ∀ d ∈ tables_1, d.before a0 Z = true) (ws : List Jvm.Cond) (a : Addr) (wt : Addr) (wk : Addr) (A : Int64) (x1 : UInt64) (x2 : UInt64) (th : Addr) (al : Addr) (kw : ClassId) (kt : ClassId) (ka : ClassId) (kk : ClassId) (y0 : UInt64) (y1 : UInt64) (y2 : UInt64) (z0 : Int32) (z1 : Int32) (z2 : Int32) (u0 : Int32) (u1 : Int32) (h0 : Heap) (n0 : Nat) (Z0 : n0 ≤ h0.size) (pr0 : Exa Z h0 a "com/example/circlerank/circlerank/generate/AliasTable") (pr1 : Fld Z h0 a "com/example/circlerank/circlerank/generate/AliasTable" "threshold" "[D" (.ref th)) (pr2 : Fld Z h0 a "com/example/circlerank/circlerank/generate/AliasTable" "alias" "[I" (.ref al)) (pr3 : Arv Z h0 wt kw .double (3 : Int32) [(.double (FP.l2d A)), (.double x1), (.double x2)] (.double (0 : UInt64))) (pr4 : Arv Z h0 th kt .double (3 : Int32) [(.double y0), (.double y1), (.double y2)] (.double (0 : UInt64))) (pr5 : Arv Z h0 al ka .int (3 : Int32) [(.int z0), (.int z1), (.int z2)] (.int 0)) (pr6 : Arv Z h0 wk kk .int (2 : Int32) [(.int u0), (.int u1)] (.int 0)) (pr7 : own_b A) (pr8 : n0 ≤ wk) (pr9 : n0 ≤ th) (pr10 : n0 ≤ al) (pr11 : a ≠ wt) (pr12 : a ≠ wk) (pr13 : a ≠ th) (pr14 : a ≠ al) (pr15 : wt ≠ wk) (pr16 : wt ≠ th) (pr17 : wt ≠ al) (pr18 : wk ≠ th) (pr19 : wk ≠ al) (pr20 : th ≠ al) :
    MetFree l (⟨"com/example/circlerank/circlerank/generate/AliasTable", "build", "([DII[I)V"⟩ : MethodName) (head1 (Jvm.Cond.code (⟨"com/example/circlerank/circlerank/generate/AliasTable", "build", "([DII[I)V"⟩ : MethodName) prog_27_method_2_code 12 none :: ws) ({ frames := 0, cells := 0, slots := 0, locals := 0 } : Room)) (fun aX uX => aX = #[(.ref a), (.ref wt), (.int 0), (.int 1), (.ref wk)] ∧ Z.Warmed39 uX.vm ∧ uX.heap = h0) (fun _ _ _ _ _ => True) (fun _ uX oX wX => ∃ vX lX, oX = .returned vX ∧ Q8 Z a wt wk A x1 x2 th al kw kt ka kk y0 y1 y2 z0 z1 z2 u0 u1 h0 n0 vX wX.heap lX ∧ FrameEnd uX oX wX lX ({ frames := 0, cells := 0, slots := 0, locals := 0 } : Room).cells ({ frames := 0, cells := 0, slots := 0, locals := 0 } : Room).slots) := by
  refine MetFree.of_bodySF (plainFor_of_name pn_0) hisR ?_
  intro p e s m args below meth c s₁ Bd hml0 hP hK
  obtain ⟨rfl, hZ, hh⟩ := hP
  have hx := Bd.exec
  have hby := Bd.bytes
  have hml : c.maxLocals = 12 := hml0
  have hown : s.vm.findClass "com/example/circlerank/circlerank/generate/AliasTable" = some m.cls := findClass_of_methodNamed Bd.named
  have hnm := (name_of_methodNamed Bd.named Bd.method).1
  have X0 : Stand p l e ({ frames := 0, cells := 0, slots := 0, locals := 0 } : Room) s m #[(.ref a), (.ref wt), (.int 0), (.int 1), (.ref wk)] below meth c s₁ [] 0 0 := Stand.of_body Bd
  have e0 : s₁.heap = h0 := by rw [← hh, Bd.state]; rfl
  have N0 := Fr.nil n0
  let ST : State := (s₁.setTop (entryFrame m #[(.ref a), (.ref wt), (.int 0), (.int 1), (.ref wk)] 12))
  have pre0 : ∀ t, Steps p.tables e below (s₁.setTop (mkF m 0 #[.val (.ref a), .val (.ref wt), .val (.int 0), .val (.int 1), .val (.ref wk), .unset, .unset, .unset, .unset, .unset, .unset, .unset] [])) t → Steps p.tables e below ST t := fun t k => castTop (ef_8 m a wt (0 : Int32) (1 : Int32) wk) k
  let LL1 : Array Slot := #[.val (.ref a), .val (.ref wt), .val (.int 0), .val (.int 1), .val (.ref wk), .unset, .unset, .unset, .unset, .unset, .unset, .unset]
  let LL2 : Array Slot := #[.val (.ref a), .val (.ref wt), .val (.int 0), .val (.int 1), .val (.ref wk), .val (.int 1), .unset, .unset, .unset, .unset, .unset, .unset]
  let LL3 : Array Slot := #[.val (.ref a), .val (.ref wt), .val (.int 0), .val (.int 1), .val (.ref wk), .val (.int 1), .val (.double FP.dconst0), .second, .unset, .unset, .unset, .unset]
  let LL4 : Array Slot := #[.val (.ref a), .val (.ref wt), .val (.int 0), .val (.int 1), .val (.ref wk), .val (.int 1), .val (.double FP.dconst0), .second, .val (.int 0), .unset, .unset, .unset]
  obtain ⟨cl_a5, Ar_a5, q_a5, S_a5, N_a5, H_a5, G_a5⟩ := id pr3
  have hin_a5 : ¬ ((0 : Int32) < 0 ∨ cl_a5.slots.size ≤ ((0 : Int32)).toNatClampNeg) := inb_of S_a5 ⟨by decide, by decide⟩
  have hat_a5 := Has.at (v := (.double (FP.l2d A))) H_a5 hin_a5 rfl
  let LL6 : Array Slot := #[.val (.ref a), .val (.ref wt), .val (.int 0), .val (.int 1), .val (.ref wk), .val (.int 1), .val (.double (FP.l2d A)), .second, .val (.int 0), .unset, .unset, .unset]
  let LL7 : Array Slot := #[.val (.ref a), .val (.ref wt), .val (.int 0), .val (.int 1), .val (.ref wk), .val (.int 1), .val (.double (FP.l2d A)), .second, .val (.int 1), .unset, .unset, .unset]
  let LL8 : Array Slot := #[.val (.ref a), .val (.ref wt), .val (.int 0), .val (.int 1), .val (.ref wk), .val (.int 1), .val (.double (FP.l2d A)), .second, .val (.int 0), .val (.int 1), .unset, .unset]
  let LL9 : Array Slot := #[.val (.ref a), .val (.ref wt), .val (.int 0), .val (.int 1), .val (.ref wk), .val (.int 1), .val (.double (FP.l2d A)), .second, .val (.int 0), .val (.int 1), .val (.int 0), .unset]
  have P10 : ∀ t, Steps p.tables e below (s₁.setTop (mkF m 45 LL9 [(.int 1), (.int 0)])) t → Steps p.tables e below ST t := by
    intro t kk
    refine pre0 _ ?_
    show Steps _ _ _ (s₁.setTop (mkF m 0 LL1 [])) _
    refine XS.iloadN X0.here hx rfl (hb hby d8_0) rfl ?_
    show Steps _ _ _ (s₁.setTop (mkF m 1 LL1 [(.int 1)])) _
    refine XS.iloadN X0.here hx rfl (hb hby d8_1) rfl ?_
    show Steps _ _ _ (s₁.setTop (mkF m 2 LL1 [(.int 0), (.int 1)])) _
    refine XS.isub X0.here hx rfl (hb hby d8_2) rfl ?_
    show Steps _ _ _ (s₁.setTop (mkF m 3 LL1 [(.int 1)])) _
    refine XS.istore X0.here hx rfl (hb hby d8_3) rfl (l' := LL2) rfl ?_
    show Steps _ _ _ (s₁.setTop (mkF m 5 LL2 [])) _
    refine XS.dconst0 X0.here hx rfl (hb hby d8_5) rfl ?_
    show Steps _ _ _ (s₁.setTop (mkF m 6 LL2 [(.double FP.dconst0)])) _
    refine XS.dstore X0.here hx rfl (hb hby d8_6) rfl (l' := LL3) rfl ?_
    show Steps _ _ _ (s₁.setTop (mkF m 8 LL3 [])) _
    refine XS.iloadN X0.here hx rfl (hb hby d8_8) rfl ?_
    show Steps _ _ _ (s₁.setTop (mkF m 9 LL3 [(.int 0)])) _
    refine XS.istore X0.here hx rfl (hb hby d8_9) rfl (l' := LL4) rfl ?_
    show Steps _ _ _ (s₁.setTop (mkF m 11 LL4 [])) _
    refine XS.iload X0.here hx rfl (hb hby d8_11) rfl ?_
    show Steps _ _ _ (s₁.setTop (mkF m 13 LL4 [(.int 0)])) _
    refine XS.iloadN X0.here hx rfl (hb hby d8_13) rfl ?_
    show Steps _ _ _ (s₁.setTop (mkF m 14 LL4 [(.int 1), (.int 0)])) _
    refine XS.icmpNo X0.here hx rfl (hb hby d8_14) rfl (XT.ii_ge_f (by decide)) ?_
    show Steps _ _ _ (s₁.setTop (mkF m 17 LL4 [])) _
    refine XS.dload X0.here hx rfl (hb hby d8_17) rfl ?_
    show Steps _ _ _ (s₁.setTop (mkF m 19 LL4 [(.double FP.dconst0)])) _
    refine XS.aloadN X0.here hx rfl (hb hby d8_19) rfl rfl ?_
    show Steps _ _ _ (s₁.setTop (mkF m 20 LL4 [(.ref wt), (.double FP.dconst0)])) _
    refine XS.iload X0.here hx rfl (hb hby d8_20) rfl ?_
    show Steps _ _ _ (s₁.setTop (mkF m 22 LL4 [(.int 0), (.ref wt), (.double FP.dconst0)])) _
    refine X0.daload hx (j := (0 : Int32)) (v := (.double (FP.l2d A))) (by rw [e0]; exact Ar_a5.1) (State.isArrayOf_alike hZ.alike Ar_a5.2.1) Ar_a5.2.2 hin_a5 hat_a5 (g := (mkF m 22 LL4 [(.int 0), (.ref wt), (.double FP.dconst0)])) rfl rfl (hb hby d8_22) _ ?_
    show Steps _ _ _ (s₁.setTop (mkF m 23 LL4 [(.double (FP.l2d A)), (.double FP.dconst0)])) _
    refine XS.daddS X0.here hx rfl (hb hby d8_23) rfl (nn_w (own_d0 pr7)) (own_d0 pr7) ?_
    show Steps _ _ _ (s₁.setTop (mkF m 24 LL4 [(.double (FP.l2d A))])) _
    refine XS.dstore X0.here hx rfl (hb hby d8_24) rfl (l' := LL6) rfl ?_
    show Steps _ _ _ (s₁.setTop (mkF m 26 LL6 [])) _
    refine XS.iinc X0.here hx rfl (hb hby d8_26) rfl (l' := LL7) rfl ?_
    show Steps _ _ _ (s₁.setTop (mkF m 29 LL7 [])) _
    refine XS.goto X0.here hx rfl (pc0 := 29) (pc' := 11) rfl (hb hby d8_29) (by decide) (by decide) ?_
    show Steps _ _ _ (s₁.setTop (mkF m 11 LL7 [])) _
    refine XS.iload X0.here hx rfl (hb hby d8_11) rfl ?_
    show Steps _ _ _ (s₁.setTop (mkF m 13 LL7 [(.int 1)])) _
    refine XS.iloadN X0.here hx rfl (hb hby d8_13) rfl ?_
    show Steps _ _ _ (s₁.setTop (mkF m 14 LL7 [(.int 1), (.int 1)])) _
    refine XS.icmpYes X0.here hx rfl (pc0 := 14) (pc' := 32) rfl (hb hby d8_14) rfl (XT.ii_ge_t (by decide)) (by decide) (by decide) ?_
    show Steps _ _ _ (s₁.setTop (mkF m 32 LL7 [])) _
    refine XS.iconst X0.here hx rfl (hb hby d8_32) ?_
    show Steps _ _ _ (s₁.setTop (mkF m 33 LL7 [(.int 0)])) _
    refine XS.istore X0.here hx rfl (hb hby d8_33) rfl (l' := LL6) rfl ?_
    show Steps _ _ _ (s₁.setTop (mkF m 35 LL6 [])) _
    refine XS.iload X0.here hx rfl (hb hby d8_35) rfl ?_
    show Steps _ _ _ (s₁.setTop (mkF m 37 LL6 [(.int 1)])) _
    refine XS.istore X0.here hx rfl (hb hby d8_37) rfl (l' := LL8) rfl ?_
    show Steps _ _ _ (s₁.setTop (mkF m 39 LL8 [])) _
    refine XS.iloadN X0.here hx rfl (hb hby d8_39) rfl ?_
    show Steps _ _ _ (s₁.setTop (mkF m 40 LL8 [(.int 0)])) _
    refine XS.istore X0.here hx rfl (hb hby d8_40) rfl (l' := LL9) rfl ?_
    show Steps _ _ _ (s₁.setTop (mkF m 42 LL9 [])) _
    refine XS.iload X0.here hx rfl (hb hby d8_42) rfl ?_
    show Steps _ _ _ (s₁.setTop (mkF m 44 LL9 [(.int 0)])) _
    refine XS.iloadN X0.here hx rfl (hb hby d8_44) rfl ?_
    show Steps _ _ _ (s₁.setTop (mkF m 45 LL9 [(.int 1), (.int 0)])) _
    exact kk
  obtain ⟨T11, X11, e11, st11⟩ := getF X0 hx hZ hown (host := "") (Or.inl (hw _ (List.mem_of_getElem? (i := 12) rfl))) Via.refl e0 pr1 (g := (mkF m 49 LL9 [(.ref a)])) rfl rfl (hb hby d8_49)
  obtain ⟨cl_a12, Ar_a12, q_a12, S_a12, N_a12, H_a12, G_a12⟩ := id pr3
  have hin_a12 : ¬ ((0 : Int32) < 0 ∨ cl_a12.slots.size ≤ ((0 : Int32)).toNatClampNeg) := inb_of S_a12 ⟨by decide, by decide⟩
  have hat_a12 := Has.at (v := (.double (FP.l2d A))) H_a12 hin_a12 rfl
  obtain ⟨cl_a13, Ar_a13, q_a13, S_a13, N_a13, H_a13, G_a13⟩ := id pr4
  have hin_a13 : ¬ ((0 : Int32) < 0 ∨ cl_a13.slots.size ≤ ((0 : Int32)).toNatClampNeg) := inb_of S_a13 ⟨by decide, by decide⟩
  obtain ⟨T14, h14, X14, e14, W14, st14⟩ := stD X11 hx hZ e11 Ar_a13 (j := (0 : Int32)) hin_a13 (g := (mkF m 65 LL9 [(.double (own_q A A)), (.int 0), (.ref th)])) rfl rfl (hb hby d8_65)
  have V14 : Arv Z h14 th kt .double (3 : Int32) [(.double (own_q A A)), (.double y1), (.double y2)] (.double (0 : UInt64)) := Arv.set Ar_a13 q_a13 S_a13 N_a13 H_a13 G_a13 rfl W14 0 rfl (Nat.le_of_ble_eq_true rfl)
  have N14 := Fr.snoc X14 N0 pr9
  have f15 := (Fld.other W14 pr2 (Or.inl pr13))
  obtain ⟨T16, X16, e16, st16⟩ := getF X14 hx hZ hown (host := "") (Or.inl (hw _ (List.mem_of_getElem? (i := 14) rfl))) Via.refl e14 f15 (g := (mkF m 67 LL9 [(.ref a)])) rfl rfl (hb hby d8_67)
  have f17 := (pr5.other W14 (Ne.symm pr20))
  obtain ⟨cl_a18, Ar_a18, q_a18, S_a18, N_a18, H_a18, G_a18⟩ := id f17
  have hin_a18 : ¬ ((0 : Int32) < 0 ∨ cl_a18.slots.size ≤ ((0 : Int32)).toNatClampNeg) := inb_of S_a18 ⟨by decide, by decide⟩
  obtain ⟨T19, h19, X19, e19, W19, st19⟩ := stI X16 hx hZ e16 Ar_a18 (j := (0 : Int32)) hin_a18 (g := (mkF m 74 LL9 [(.int 0), (.int 0), (.ref al)])) rfl rfl (hb hby d8_74)
  have V19 : Arv Z h19 al ka .int (3 : Int32) [(.int 0), (.int z1), (.int z2)] (.int 0) := Arv.set Ar_a18 q_a18 S_a18 N_a18 H_a18 G_a18 rfl W19 0 rfl (Nat.le_of_ble_eq_true rfl)
  have N19 := Fr.snoc X19 N14 pr10
  have f20 := (Fld.other W19 (Fld.other W14 pr1 (Or.inl pr13)) (Or.inl pr14))
  obtain ⟨T21, X21, e21, st21⟩ := getF X19 hx hZ hown (host := "") (Or.inl (hw _ (List.mem_of_getElem? (i := 12) rfl))) Via.refl e19 f20 (g := (mkF m 76 LL9 [(.ref a)])) rfl rfl (hb hby d8_76)
  have f22 := (V14.other W19 pr20)
  obtain ⟨cl_a23, Ar_a23, q_a23, S_a23, N_a23, H_a23, G_a23⟩ := id f22
  have hin_a23 : ¬ ((0 : Int32) < 0 ∨ cl_a23.slots.size ≤ ((0 : Int32)).toNatClampNeg) := inb_of S_a23 ⟨by decide, by decide⟩
  have hat_a23 := Has.at (v := (.double (own_q A A))) H_a23 hin_a23 rfl
  let LL24 : Array Slot := #[.val (.ref a), .val (.ref wt), .val (.int 0), .val (.int 1), .val (.ref wk), .val (.int 1), .val (.double (FP.l2d A)), .second, .val (.int 0), .val (.int 0), .val (.int 0), .unset]
  have f25 := ((pr6.other W14 pr18).other W19 pr19)
  obtain ⟨cl_a26, Ar_a26, q_a26, S_a26, N_a26, H_a26, G_a26⟩ := id f25
  have hin_a26 : ¬ ((0 : Int32) < 0 ∨ cl_a26.slots.size ≤ ((0 : Int32)).toNatClampNeg) := inb_of S_a26 ⟨by decide, by decide⟩
  obtain ⟨T27, h27, X27, e27, W27, st27⟩ := stI X21 hx hZ e21 Ar_a26 (j := (0 : Int32)) hin_a26 (g := (mkF m 109 LL24 [(.int 0), (.int 0), (.ref wk)])) rfl rfl (hb hby d8_109)
  have V27 : Arv Z h27 wk kk .int (2 : Int32) [(.int 0), (.int u1)] (.int 0) := Arv.set Ar_a26 q_a26 S_a26 N_a26 H_a26 G_a26 rfl W27 0 rfl (Nat.le_of_ble_eq_true rfl)
  have N27 := Fr.snoc X27 N19 pr8
  have P28 : ∀ t, Steps p.tables e below (T27.setTop (mkF m 110 LL24 [])) t → Steps p.tables e below ST t := by
    intro t kk
    refine P10 _ ?_
    show Steps _ _ _ (s₁.setTop (mkF m 45 LL9 [(.int 1), (.int 0)])) _
    refine XS.icmpNo X0.here hx rfl (hb hby d8_45) rfl (XT.ii_ge_f (by decide)) ?_
    show Steps _ _ _ (s₁.setTop (mkF m 48 LL9 [])) _
    refine XS.aloadN X0.here hx rfl (hb hby d8_48) rfl rfl ?_
    show Steps _ _ _ (s₁.setTop (mkF m 49 LL9 [(.ref a)])) _
    refine st11 _ ?_
    show Steps _ _ _ (T11.setTop (mkF m 52 LL9 [(.ref th)])) _
    refine XS.iload X11.here hx rfl (hb hby d8_52) rfl ?_
    show Steps _ _ _ (T11.setTop (mkF m 54 LL9 [(.int 0), (.ref th)])) _
    refine XS.aloadN X11.here hx rfl (hb hby d8_54) rfl rfl ?_
    show Steps _ _ _ (T11.setTop (mkF m 55 LL9 [(.ref wt), (.int 0), (.ref th)])) _
    refine XS.iload X11.here hx rfl (hb hby d8_55) rfl ?_
    show Steps _ _ _ (T11.setTop (mkF m 57 LL9 [(.int 0), (.ref wt), (.int 0), (.ref th)])) _
    refine X11.daload hx (j := (0 : Int32)) (v := (.double (FP.l2d A))) (by rw [e11]; exact Ar_a12.1) (State.isArrayOf_alike hZ.alike Ar_a12.2.1) Ar_a12.2.2 hin_a12 hat_a12 (g := (mkF m 57 LL9 [(.int 0), (.ref wt), (.int 0), (.ref th)])) rfl rfl (hb hby d8_57) _ ?_
    show Steps _ _ _ (T11.setTop (mkF m 58 LL9 [(.double (FP.l2d A)), (.int 0), (.ref th)])) _
    refine XS.iload X11.here hx rfl (hb hby d8_58) rfl ?_
    show Steps _ _ _ (T11.setTop (mkF m 60 LL9 [(.int 1), (.double (FP.l2d A)), (.int 0), (.ref th)])) _
    refine XS.i2dS X11.here hx rfl (hb hby d8_60) rfl rfl ?_
    show Steps _ _ _ (T11.setTop (mkF m 61 LL9 [(.double (FP.i2d (1 : Int32))), (.double (FP.l2d A)), (.int 0), (.ref th)])) _
    refine XS.dmulS X11.here hx rfl (hb hby d8_61) rfl (nn_w (own_m1 pr7)) (own_m1 pr7) ?_
    show Steps _ _ _ (T11.setTop (mkF m 62 LL9 [(.double (FP.l2d A)), (.int 0), (.ref th)])) _
    refine XS.dload X11.here hx rfl (hb hby d8_62) rfl ?_
    show Steps _ _ _ (T11.setTop (mkF m 64 LL9 [(.double (FP.l2d A)), (.double (FP.l2d A)), (.int 0), (.ref th)])) _
    refine XS.ddivS X11.here hx rfl (hb hby d8_64) rfl (own_qC pr7).noNaN rfl ?_
    show Steps _ _ _ (T11.setTop (mkF m 65 LL9 [(.double (own_q A A)), (.int 0), (.ref th)])) _
    refine st14 _ ?_
    show Steps _ _ _ (T14.setTop (mkF m 66 LL9 [])) _
    refine XS.aloadN X14.here hx rfl (hb hby d8_66) rfl rfl ?_
    show Steps _ _ _ (T14.setTop (mkF m 67 LL9 [(.ref a)])) _
    refine st16 _ ?_
    show Steps _ _ _ (T16.setTop (mkF m 70 LL9 [(.ref al)])) _
    refine XS.iload X16.here hx rfl (hb hby d8_70) rfl ?_
    show Steps _ _ _ (T16.setTop (mkF m 72 LL9 [(.int 0), (.ref al)])) _
    refine XS.iload X16.here hx rfl (hb hby d8_72) rfl ?_
    show Steps _ _ _ (T16.setTop (mkF m 74 LL9 [(.int 0), (.int 0), (.ref al)])) _
    refine st19 _ ?_
    show Steps _ _ _ (T19.setTop (mkF m 75 LL9 [])) _
    refine XS.aloadN X19.here hx rfl (hb hby d8_75) rfl rfl ?_
    show Steps _ _ _ (T19.setTop (mkF m 76 LL9 [(.ref a)])) _
    refine st21 _ ?_
    show Steps _ _ _ (T21.setTop (mkF m 79 LL9 [(.ref th)])) _
    refine XS.iload X21.here hx rfl (hb hby d8_79) rfl ?_
    show Steps _ _ _ (T21.setTop (mkF m 81 LL9 [(.int 0), (.ref th)])) _
    refine X21.daload hx (j := (0 : Int32)) (v := (.double (own_q A A))) (by rw [e21]; exact Ar_a23.1) (State.isArrayOf_alike hZ.alike Ar_a23.2.1) Ar_a23.2.2 hin_a23 hat_a23 (g := (mkF m 81 LL9 [(.int 0), (.ref th)])) rfl rfl (hb hby d8_81) _ ?_
    show Steps _ _ _ (T21.setTop (mkF m 82 LL9 [(.double (own_q A A))])) _
    refine XS.dconst1 X21.here hx rfl (hb hby d8_82) rfl ?_
    show Steps _ _ _ (T21.setTop (mkF m 83 LL9 [(.double FP.dconst1), (.double (own_q A A))])) _
    refine XS.dcmpS X21.here hx rfl (hb hby d8_83) rfl rfl ?_
    show Steps _ _ _ (T21.setTop (mkF m 84 LL9 [(.int (cmpValue (FP.dcmp (own_q A A) FP.dconst1) .g))])) _
    refine XS.ifYes X21.here hx rfl (pc0 := 84) (pc' := 100) rfl (hb hby d8_84) rfl (XT.i0_ge_t (own_cmpC pr7)) (by decide) (by decide) ?_
    show Steps _ _ _ (T21.setTop (mkF m 100 LL9 [])) _
    refine XS.aload X21.here hx rfl (hb hby d8_100) rfl rfl ?_
    show Steps _ _ _ (T21.setTop (mkF m 102 LL9 [(.ref wk)])) _
    refine XS.iinc X21.here hx rfl (hb hby d8_102) rfl (l' := LL24) rfl ?_
    show Steps _ _ _ (T21.setTop (mkF m 105 LL24 [(.ref wk)])) _
    refine XS.iload X21.here hx rfl (hb hby d8_105) rfl ?_
    show Steps _ _ _ (T21.setTop (mkF m 107 LL24 [(.int 0), (.ref wk)])) _
    refine XS.iload X21.here hx rfl (hb hby d8_107) rfl ?_
    show Steps _ _ _ (T21.setTop (mkF m 109 LL24 [(.int 0), (.int 0), (.ref wk)])) _
    refine st27 _ ?_
    show Steps _ _ _ (T27.setTop (mkF m 110 LL24 [])) _
    exact kk
  let LL29 : Array Slot := #[.val (.ref a), .val (.ref wt), .val (.int 0), .val (.int 1), .val (.ref wk), .val (.int 1), .val (.double (FP.l2d A)), .second, .val (.int 0), .val (.int 0), .val (.int 1), .unset]
  have f30 := (Fld.other W27 f20 (Or.inl pr12))
  obtain ⟨T31, X31, e31, st31⟩ := getF X27 hx hZ hown (host := "") (Or.inl (hw _ (List.mem_of_getElem? (i := 12) rfl))) Via.refl e27 f30 (g := (mkF m 240 LL24 [(.ref a)])) rfl rfl (hb hby d8_240)
  obtain ⟨cl_a32, Ar_a32, q_a32, S_a32, N_a32, H_a32, G_a32⟩ := id V27
  have hin_a32 : ¬ ((0 : Int32) < 0 ∨ cl_a32.slots.size ≤ ((0 : Int32)).toNatClampNeg) := inb_of S_a32 ⟨by decide, by decide⟩
  have hat_a32 := Has.at (v := (.int 0)) H_a32 hin_a32 rfl
  have f33 := (f22.other W27 (Ne.symm pr18))
  obtain ⟨cl_a34, Ar_a34, q_a34, S_a34, N_a34, H_a34, G_a34⟩ := id f33
  have hin_a34 : ¬ ((0 : Int32) < 0 ∨ cl_a34.slots.size ≤ ((0 : Int32)).toNatClampNeg) := inb_of S_a34 ⟨by decide, by decide⟩
  obtain ⟨T35, h35, X35, e35, W35, st35⟩ := stD X31 hx hZ e31 Ar_a34 (j := (0 : Int32)) hin_a34 (g := (mkF m 249 LL24 [(.double FP.dconst1), (.int 0), (.ref th)])) rfl rfl (hb hby d8_249)
  have V35 : Arv Z h35 th kt .double (3 : Int32) [(.double FP.dconst1), (.double y1), (.double y2)] (.double (0 : UInt64)) := Arv.set Ar_a34 q_a34 S_a34 N_a34 H_a34 G_a34 rfl W35 0 rfl (Nat.le_of_ble_eq_true rfl)
  have N35 := Fr.snoc X35 N27 pr9
  have P36 : ∀ t, Steps p.tables e below (T35.setTop (mkF m 256 LL29 [])) t → Steps p.tables e below ST t := by
    intro t kk
    refine P28 _ ?_
    show Steps _ _ _ (T27.setTop (mkF m 110 LL24 [])) _
    refine XS.iinc X27.here hx rfl (hb hby d8_110) rfl (l' := LL29) rfl ?_
    show Steps _ _ _ (T27.setTop (mkF m 113 LL29 [])) _
    refine XS.goto X27.here hx rfl (pc0 := 113) (pc' := 42) rfl (hb hby d8_113) (by decide) (by decide) ?_
    show Steps _ _ _ (T27.setTop (mkF m 42 LL29 [])) _
    refine XS.iload X27.here hx rfl (hb hby d8_42) rfl ?_
    show Steps _ _ _ (T27.setTop (mkF m 44 LL29 [(.int 1)])) _
    refine XS.iloadN X27.here hx rfl (hb hby d8_44) rfl ?_
    show Steps _ _ _ (T27.setTop (mkF m 45 LL29 [(.int 1), (.int 1)])) _
    refine XS.icmpYes X27.here hx rfl (pc0 := 45) (pc' := 116) rfl (hb hby d8_45) rfl (XT.ii_ge_t (by decide)) (by decide) (by decide) ?_
    show Steps _ _ _ (T27.setTop (mkF m 116 LL29 [])) _
    refine XS.iload X27.here hx rfl (hb hby d8_116) rfl ?_
    show Steps _ _ _ (T27.setTop (mkF m 118 LL29 [(.int 0)])) _
    refine XS.ifYes X27.here hx rfl (pc0 := 118) (pc' := 201) rfl (hb hby d8_118) rfl (XT.i0_le_t (by decide)) (by decide) (by decide) ?_
    show Steps _ _ _ (T27.setTop (mkF m 201 LL29 [])) _
    refine XS.iconst X27.here hx rfl (hb hby d8_201) ?_
    show Steps _ _ _ (T27.setTop (mkF m 202 LL29 [(.int 0)])) _
    refine XS.istore X27.here hx rfl (hb hby d8_202) rfl (l' := LL24) rfl ?_
    show Steps _ _ _ (T27.setTop (mkF m 204 LL24 [])) _
    refine XS.iload X27.here hx rfl (hb hby d8_204) rfl ?_
    show Steps _ _ _ (T27.setTop (mkF m 206 LL24 [(.int 0)])) _
    refine XS.iload X27.here hx rfl (hb hby d8_206) rfl ?_
    show Steps _ _ _ (T27.setTop (mkF m 208 LL24 [(.int 0), (.int 0)])) _
    refine XS.icmpYes X27.here hx rfl (pc0 := 208) (pc' := 228) rfl (hb hby d8_208) rfl (XT.ii_ge_t (by decide)) (by decide) (by decide) ?_
    show Steps _ _ _ (T27.setTop (mkF m 228 LL24 [])) _
    refine XS.iload X27.here hx rfl (hb hby d8_228) rfl ?_
    show Steps _ _ _ (T27.setTop (mkF m 230 LL24 [(.int 0)])) _
    refine XS.istore X27.here hx rfl (hb hby d8_230) rfl (l' := LL24) rfl ?_
    show Steps _ _ _ (T27.setTop (mkF m 232 LL24 [])) _
    refine XS.iload X27.here hx rfl (hb hby d8_232) rfl ?_
    show Steps _ _ _ (T27.setTop (mkF m 234 LL24 [(.int 0)])) _
    refine XS.iload X27.here hx rfl (hb hby d8_234) rfl ?_
    show Steps _ _ _ (T27.setTop (mkF m 236 LL24 [(.int 1), (.int 0)])) _
    refine XS.icmpNo X27.here hx rfl (hb hby d8_236) rfl (XT.ii_ge_f (by decide)) ?_
    show Steps _ _ _ (T27.setTop (mkF m 239 LL24 [])) _
    refine XS.aloadN X27.here hx rfl (hb hby d8_239) rfl rfl ?_
    show Steps _ _ _ (T27.setTop (mkF m 240 LL24 [(.ref a)])) _
    refine st31 _ ?_
    show Steps _ _ _ (T31.setTop (mkF m 243 LL24 [(.ref th)])) _
    refine XS.aload X31.here hx rfl (hb hby d8_243) rfl rfl ?_
    show Steps _ _ _ (T31.setTop (mkF m 245 LL24 [(.ref wk), (.ref th)])) _
    refine XS.iload X31.here hx rfl (hb hby d8_245) rfl ?_
    show Steps _ _ _ (T31.setTop (mkF m 247 LL24 [(.int 0), (.ref wk), (.ref th)])) _
    refine X31.iaload hx (j := (0 : Int32)) (v := (.int 0)) (by rw [e31]; exact Ar_a32.1) (State.isArrayOf_alike hZ.alike Ar_a32.2.1) Ar_a32.2.2 hin_a32 hat_a32 (g := (mkF m 247 LL24 [(.int 0), (.ref wk), (.ref th)])) rfl rfl (hb hby d8_247) _ ?_
    show Steps _ _ _ (T31.setTop (mkF m 248 LL24 [(.int 0), (.ref th)])) _
    refine XS.dconst1 X31.here hx rfl (hb hby d8_248) rfl ?_
    show Steps _ _ _ (T31.setTop (mkF m 249 LL24 [(.double FP.dconst1), (.int 0), (.ref th)])) _
    refine st35 _ ?_
    show Steps _ _ _ (T35.setTop (mkF m 250 LL24 [])) _
    refine XS.iinc X35.here hx rfl (hb hby d8_250) rfl (l' := LL29) rfl ?_
    show Steps _ _ _ (T35.setTop (mkF m 253 LL29 [])) _
    refine XS.goto X35.here hx rfl (pc0 := 253) (pc' := 232) rfl (hb hby d8_253) (by decide) (by decide) ?_
    show Steps _ _ _ (T35.setTop (mkF m 232 LL29 [])) _
    refine XS.iload X35.here hx rfl (hb hby d8_232) rfl ?_
    show Steps _ _ _ (T35.setTop (mkF m 234 LL29 [(.int 1)])) _
    refine XS.iload X35.here hx rfl (hb hby d8_234) rfl ?_
    show Steps _ _ _ (T35.setTop (mkF m 236 LL29 [(.int 1), (.int 1)])) _
    refine XS.icmpYes X35.here hx rfl (pc0 := 236) (pc' := 256) rfl (hb hby d8_236) rfl (XT.ii_ge_t (by decide)) (by decide) (by decide) ?_
    show Steps _ _ _ (T35.setTop (mkF m 256 LL29 [])) _
    exact kk
  have k37 : Keep h0 h35 [th, al, wk] := (Keep.wr (Keep.wr (Keep.wr (Keep.wr (Keep.refl h0 [th, al, wk]) W14 (Or.inl (List.mem_of_getElem? (i := 0) rfl))) W19 (Or.inl (List.mem_of_getElem? (i := 1) rfl))) W27 (Or.inl (List.mem_of_getElem? (i := 2) rfl))) W35 (Or.inl (List.mem_of_getElem? (i := 0) rfl)))
  have f38 := ((V19.other W27 (Ne.symm pr19)).other W35 (Ne.symm pr20))
  have f39 := (V27.other W35 pr18)
  obtain ⟨fs, hr, hrun, hended, hW, hsame⟩ := X35.leave (v := none) (fun _ => rfl)
  refine ⟨_, _, P36 _ ?_, hrun, hended, _, _, rfl, ?_, ⟨_, rfl⟩, hW, hsame.mono (by decide) (by decide)⟩
  · exact X35.returnOut hx Bd.returns (hb hby d8_256) hr
  · show Q8 Z a wt wk A x1 x2 th al kw kt ka kk y0 y1 y2 z0 z1 z2 u0 u1 h0 n0 _ T35.heap _
    rw [e35]
    exact ⟨rfl, N35, k37, V35, f38, f39⟩
theorem d9_0 : decode prog_27_method_3_code 0 = .ok (.iload_n 1, 1) := by decide +kernel
theorem d9_1 : decode prog_27_method_3_code 1 = .ok (.lload_n 3, 1) := by decide +kernel
theorem d9_2 : decode prog_27_method_3_code 2 = .ok (.bipush 32, 2) := by decide +kernel
theorem d9_4 : decode prog_27_method_3_code 4 = .ok (.lushr, 1) := by decide +kernel
theorem d9_5 : decode prog_27_method_3_code 5 = .ok (.iload_n 2, 1) := by decide +kernel
theorem d9_6 : decode prog_27_method_3_code 6 = .ok (.iload_n 1, 1) := by decide +kernel
theorem d9_7 : decode prog_27_method_3_code 7 = .ok (.isub, 1) := by decide +kernel
theorem d9_8 : decode prog_27_method_3_code 8 = .ok (.i2l, 1) := by decide +kernel
theorem d9_9 : decode prog_27_method_3_code 9 = .ok (.lmul, 1) := by decide +kernel
theorem d9_10 : decode prog_27_method_3_code 10 = .ok (.bipush 32, 2) := by decide +kernel
theorem d9_12 : decode prog_27_method_3_code 12 = .ok (.lushr, 1) := by decide +kernel
theorem d9_13 : decode prog_27_method_3_code 13 = .ok (.l2i, 1) := by decide +kernel
theorem d9_14 : decode prog_27_method_3_code 14 = .ok (.iadd, 1) := by decide +kernel
theorem d9_15 : decode prog_27_method_3_code 15 = .ok (.istore 5, 2) := by decide +kernel
theorem d9_17 : decode prog_27_method_3_code 17 = .ok (.lload_n 3, 1) := by decide +kernel
theorem d9_18 : decode prog_27_method_3_code 18 = .ok (.ldc2_w 17, 3) := by decide +kernel
theorem d9_21 : decode prog_27_method_3_code 21 = .ok (.land, 1) := by decide +kernel
theorem d9_22 : decode prog_27_method_3_code 22 = .ok (.l2d, 1) := by decide +kernel
theorem d9_23 : decode prog_27_method_3_code 23 = .ok (.ldc2_w 19, 3) := by decide +kernel
theorem d9_26 : decode prog_27_method_3_code 26 = .ok (.dmul, 1) := by decide +kernel
theorem d9_27 : decode prog_27_method_3_code 27 = .ok (.aload_n 0, 1) := by decide +kernel
theorem d9_28 : decode prog_27_method_3_code 28 = .ok (.getfield 7, 3) := by decide +kernel
theorem d9_31 : decode prog_27_method_3_code 31 = .ok (.iload 5, 2) := by decide +kernel
theorem d9_33 : decode prog_27_method_3_code 33 = .ok (.daload, 1) := by decide +kernel
theorem d9_34 : decode prog_27_method_3_code 34 = .ok (.dcmp .g, 1) := by decide +kernel
theorem d9_35 : decode prog_27_method_3_code 35 = .ok (.ifCond .ge 8, 3) := by decide +kernel
theorem d9_38 : decode prog_27_method_3_code 38 = .ok (.iload 5, 2) := by decide +kernel
theorem d9_40 : decode prog_27_method_3_code 40 = .ok (.goto 10, 3) := by decide +kernel
theorem d9_43 : decode prog_27_method_3_code 43 = .ok (.aload_n 0, 1) := by decide +kernel
theorem d9_44 : decode prog_27_method_3_code 44 = .ok (.getfield 13, 3) := by decide +kernel
theorem d9_47 : decode prog_27_method_3_code 47 = .ok (.iload 5, 2) := by decide +kernel
theorem d9_49 : decode prog_27_method_3_code 49 = .ok (.iaload, 1) := by decide +kernel
theorem d9_50 : decode prog_27_method_3_code 50 = .ok (.ireturn, 1) := by decide +kernel
theorem ef_9 (m : MethodId) (x0 : Addr) (x1 : Int32) (x2 : Int32) (x3 : Int64) : entryFrame m #[(.ref x0), (.int x1), (.int x2), (.long x3)] 6 = (mkF m 0 #[.val (.ref x0), .val (.int x1), .val (.int x2), .val (.long x3), .second, .unset] []) := by first | (simp [entryFrame, mkF, argsToLocals, Value.category]; done) | rfl
def F9 (r : Int64) (y1 : UInt64) (z1 : Int32) : Int32 := (if (cmpValue (FP.dcmp (own_u (r &&& (4294967295 : Int64))) y1) .g) < (0 : Int32) then (1 : Int32) else z1)
def Q9 (Z : State) (a : Addr) (r : Int64) (th : Addr) (al : Addr) (kt : ClassId) (ka : ClassId) (y0 : UInt64) (y1 : UInt64) (y2 : UInt64) (z0 : Int32) (z1 : Int32) (z2 : Int32) (h0 : Heap) (n0 : Nat) (vX : Option Value) (hX : Heap) (lX : List Loc) : Prop := vX = some (.int (F9 r y1 z1)) ∧ Fr n0 lX ∧ (hX = h0)
set_option maxRecDepth 65536 in
set_option maxHeartbeats 40000000 in
theorem rm9 (l : Launch) (Z : State) (a0 : Array Value) (hw : ∀ d ∈ tables_1, d.before a0 Z = true) (ws : List Jvm.Cond) (a : Addr) (r : Int64) (th : Addr) (al : Addr) (kt : ClassId) (ka : ClassId) (y0 : UInt64) (y1 : UInt64) (y2 : UInt64) (z0 : Int32) (z1 : Int32) (z2 : Int32) (h0 : Heap) (n0 : Nat) (Z0 : n0 ≤ h0.size) (pr0 : Exa Z h0 a "com/example/circlerank/circlerank/generate/AliasTable") (pr1 : Fld Z h0 a "com/example/circlerank/circlerank/generate/AliasTable" "threshold" "[D" (.ref th)) (pr2 : Fld Z h0 a "com/example/circlerank/circlerank/generate/AliasTable" "alias" "[I" (.ref al)) (pr3 : Arv Z h0 th kt .double (3 : Int32) [(.double y0), (.double y1), (.double y2)] (.double (0 : UInt64))) (pr4 : Arv Z h0 al ka .int (3 : Int32) [(.int z0), (.int z1), (.int z2)] (.int 0)) (pr5 : ((1 : Int32) + (((((((((r).toUInt64 >>> ((32 : Int32) &&& 0x3f).toInt64.toUInt64).toInt64) * (((2 : Int32)).toInt64))).toUInt64 >>> ((32 : Int32) &&& 0x3f).toInt64.toUInt64).toInt64)).toInt32)) = (1 : Int32)) :
    MetFree l (⟨"com/example/circlerank/circlerank/generate/AliasTable", "draw", "(IIJ)I"⟩ : MethodName) (head1 (Jvm.Cond.code (⟨"com/example/circlerank/circlerank/generate/AliasTable", "draw", "(IIJ)I"⟩ : MethodName) prog_27_method_3_code 6 (some .int) :: ws) ({ frames := 0, cells := 0, slots := 0, locals := 0 } : Room)) (fun aX uX => aX = #[(.ref a), (.int 1), (.int 3), (.long r)] ∧ Z.Warmed39 uX.vm ∧ uX.heap = h0) (fun _ _ _ _ _ => True) (fun _ uX oX wX => ∃ vX lX, oX = .returned vX ∧ Q9 Z a r th al kt ka y0 y1 y2 z0 z1 z2 h0 n0 vX wX.heap lX ∧ FrameEnd uX oX wX lX ({ frames := 0, cells := 0, slots := 0, locals := 0 } : Room).cells ({ frames := 0, cells := 0, slots := 0, locals := 0 } : Room).slots) := by
  refine MetFree.of_bodySF (plainFor_of_name pn_0) hisR ?_
  intro p e s m args below meth c s₁ Bd hml0 hP hK
  obtain ⟨rfl, hZ, hh⟩ := hP
  have hx := Bd.exec
  have hby := Bd.bytes
  have hml : c.maxLocals = 6 := hml0
  have hown : s.vm.findClass "com/example/circlerank/circlerank/generate/AliasTable" = some m.cls := findClass_of_methodNamed Bd.named
  have hnm := (name_of_methodNamed Bd.named Bd.method).1
  have X0 : Stand p l e ({ frames := 0, cells := 0, slots := 0, locals := 0 } : Room) s m #[(.ref a), (.int 1), (.int 3), (.long r)] below meth c s₁ [] 0 0 := Stand.of_body Bd
  have e0 : s₁.heap = h0 := by rw [← hh, Bd.state]; rfl
  have N0 := Fr.nil n0
  let ST : State := (s₁.setTop (entryFrame m #[(.ref a), (.int 1), (.int 3), (.long r)] 6))
  have pre0 : ∀ t, Steps p.tables e below (s₁.setTop (mkF m 0 #[.val (.ref a), .val (.int 1), .val (.int 3), .val (.long r), .second, .unset] [])) t → Steps p.tables e below ST t := fun t k => castTop (ef_9 m a (1 : Int32) (3 : Int32) r) k
  let LL1 : Array Slot := #[.val (.ref a), .val (.int 1), .val (.int 3), .val (.long r), .second, .unset]
  let LL2 : Array Slot := #[.val (.ref a), .val (.int 1), .val (.int 3), .val (.long r), .second, .val (.int ((1 : Int32) + (((((((((r).toUInt64 >>> ((32 : Int32) &&& 0x3f).toInt64.toUInt64).toInt64) * (((2 : Int32)).toInt64))).toUInt64 >>> ((32 : Int32) &&& 0x3f).toInt64.toUInt64).toInt64)).toInt32)))]
  have P3 : ∀ t, Steps p.tables e below (s₁.setTop (mkF m 17 LL2 [])) t → Steps p.tables e below ST t := by
    intro t kk
    refine pre0 _ ?_
    show Steps _ _ _ (s₁.setTop (mkF m 0 LL1 [])) _
    refine XS.iloadN X0.here hx rfl (hb hby d9_0) rfl ?_
    show Steps _ _ _ (s₁.setTop (mkF m 1 LL1 [(.int 1)])) _
    refine XS.lloadN X0.here hx rfl (hb hby d9_1) rfl ?_
    show Steps _ _ _ (s₁.setTop (mkF m 2 LL1 [(.long r), (.int 1)])) _
    refine XS.bipush X0.here hx rfl (hb hby d9_2) ?_
    show Steps _ _ _ (s₁.setTop (mkF m 4 LL1 [(.int 32), (.long r), (.int 1)])) _
    refine XS.lushr X0.here hx rfl (hb hby d9_4) rfl ?_
    show Steps _ _ _ (s₁.setTop (mkF m 5 LL1 [(.long (((r).toUInt64 >>> ((32 : Int32) &&& 0x3f).toInt64.toUInt64).toInt64)), (.int 1)])) _
    refine XS.iloadN X0.here hx rfl (hb hby d9_5) rfl ?_
    show Steps _ _ _ (s₁.setTop (mkF m 6 LL1 [(.int 3), (.long (((r).toUInt64 >>> ((32 : Int32) &&& 0x3f).toInt64.toUInt64).toInt64)), (.int 1)])) _
    refine XS.iloadN X0.here hx rfl (hb hby d9_6) rfl ?_
    show Steps _ _ _ (s₁.setTop (mkF m 7 LL1 [(.int 1), (.int 3), (.long (((r).toUInt64 >>> ((32 : Int32) &&& 0x3f).toInt64.toUInt64).toInt64)), (.int 1)])) _
    refine XS.isub X0.here hx rfl (hb hby d9_7) rfl ?_
    show Steps _ _ _ (s₁.setTop (mkF m 8 LL1 [(.int 2), (.long (((r).toUInt64 >>> ((32 : Int32) &&& 0x3f).toInt64.toUInt64).toInt64)), (.int 1)])) _
    refine XS.i2l X0.here hx rfl (hb hby d9_8) rfl ?_
    show Steps _ _ _ (s₁.setTop (mkF m 9 LL1 [(.long (((2 : Int32)).toInt64)), (.long (((r).toUInt64 >>> ((32 : Int32) &&& 0x3f).toInt64.toUInt64).toInt64)), (.int 1)])) _
    refine XS.lmul X0.here hx rfl (hb hby d9_9) rfl ?_
    show Steps _ _ _ (s₁.setTop (mkF m 10 LL1 [(.long ((((r).toUInt64 >>> ((32 : Int32) &&& 0x3f).toInt64.toUInt64).toInt64) * (((2 : Int32)).toInt64))), (.int 1)])) _
    refine XS.bipush X0.here hx rfl (hb hby d9_10) ?_
    show Steps _ _ _ (s₁.setTop (mkF m 12 LL1 [(.int 32), (.long ((((r).toUInt64 >>> ((32 : Int32) &&& 0x3f).toInt64.toUInt64).toInt64) * (((2 : Int32)).toInt64))), (.int 1)])) _
    refine XS.lushr X0.here hx rfl (hb hby d9_12) rfl ?_
    show Steps _ _ _ (s₁.setTop (mkF m 13 LL1 [(.long (((((((r).toUInt64 >>> ((32 : Int32) &&& 0x3f).toInt64.toUInt64).toInt64) * (((2 : Int32)).toInt64))).toUInt64 >>> ((32 : Int32) &&& 0x3f).toInt64.toUInt64).toInt64)), (.int 1)])) _
    refine XS.l2i X0.here hx rfl (hb hby d9_13) rfl ?_
    show Steps _ _ _ (s₁.setTop (mkF m 14 LL1 [(.int (((((((((r).toUInt64 >>> ((32 : Int32) &&& 0x3f).toInt64.toUInt64).toInt64) * (((2 : Int32)).toInt64))).toUInt64 >>> ((32 : Int32) &&& 0x3f).toInt64.toUInt64).toInt64)).toInt32)), (.int 1)])) _
    refine XS.iadd X0.here hx rfl (hb hby d9_14) rfl ?_
    show Steps _ _ _ (s₁.setTop (mkF m 15 LL1 [(.int ((1 : Int32) + (((((((((r).toUInt64 >>> ((32 : Int32) &&& 0x3f).toInt64.toUInt64).toInt64) * (((2 : Int32)).toInt64))).toUInt64 >>> ((32 : Int32) &&& 0x3f).toInt64.toUInt64).toInt64)).toInt32)))])) _
    refine XS.istore X0.here hx rfl (hb hby d9_15) rfl (l' := LL2) rfl ?_
    show Steps _ _ _ (s₁.setTop (mkF m 17 LL2 [])) _
    exact kk
  have hs4 := pr5
  · skip
    let LL6 : Array Slot := #[.val (.ref a), .val (.int 1), .val (.int 3), .val (.long r), .second, .val (.int 1)]
    have P5 : ∀ t, Steps p.tables e below (s₁.setTop (mkF m 17 LL6 [])) t → Steps p.tables e below ST t := by
      intro t kk
      refine P3 _ ?_
      show Steps _ _ _ (s₁.setTop (mkF m 17 #[.val (.ref a), .val (.int 1), .val (.int 3), .val (.long r), .second, .val (.int ((1 : Int32) + (((((((((r).toUInt64 >>> ((32 : Int32) &&& 0x3f).toInt64.toUInt64).toInt64) * (((2 : Int32)).toInt64))).toUInt64 >>> ((32 : Int32) &&& 0x3f).toInt64.toUInt64).toInt64)).toInt32)))] [])) t
      rw [hs4]
      exact kk
    obtain ⟨T7, X7, e7, st7⟩ := getF X0 hx hZ hown (host := "") (Or.inl (hw _ (List.mem_of_getElem? (i := 12) rfl))) Via.refl e0 pr1 (g := (mkF m 28 LL6 [(.ref a), (.double (own_u (r &&& (4294967295 : Int64))))])) rfl rfl (hb hby d9_28)
    obtain ⟨cl_a8, Ar_a8, q_a8, S_a8, N_a8, H_a8, G_a8⟩ := id pr3
    have hin_a8 : ¬ ((1 : Int32) < 0 ∨ cl_a8.slots.size ≤ ((1 : Int32)).toNatClampNeg) := inb_of S_a8 ⟨by decide, by decide⟩
    have hat_a8 := Has.at (v := (.double y1)) H_a8 hin_a8 rfl
    have P9 : ∀ t, Steps p.tables e below (T7.setTop (mkF m 35 LL6 [(.int (cmpValue (FP.dcmp (own_u (r &&& (4294967295 : Int64))) y1) .g))])) t → Steps p.tables e below ST t := by
      intro t kk
      refine P5 _ ?_
      show Steps _ _ _ (s₁.setTop (mkF m 17 LL6 [])) _
      refine XS.lloadN X0.here hx rfl (hb hby d9_17) rfl ?_
      show Steps _ _ _ (s₁.setTop (mkF m 18 LL6 [(.long r)])) _
      refine X0.ldc2Long hx hown (mvT hZ (hw _ (List.mem_of_getElem? (i := 27) rfl))) (g := (mkF m 18 LL6 [(.long r)])) rfl (hb hby d9_18) _ ?_
      show Steps _ _ _ (s₁.setTop (mkF m 21 LL6 [(.long (4294967295 : Int64)), (.long r)])) _
      refine XS.land X0.here hx rfl (hb hby d9_21) rfl ?_
      show Steps _ _ _ (s₁.setTop (mkF m 22 LL6 [(.long (r &&& (4294967295 : Int64)))])) _
      refine XS.l2dS X0.here hx rfl (hb hby d9_22) rfl rfl ?_
      show Steps _ _ _ (s₁.setTop (mkF m 23 LL6 [(.double (FP.l2d (r &&& (4294967295 : Int64))))])) _
      refine X0.ldc2DoubleC hx hown (mvT hZ (hw _ (List.mem_of_getElem? (i := 28) rfl))) (g := (mkF m 23 LL6 [(.double (FP.l2d (r &&& (4294967295 : Int64))))])) rfl (hb hby d9_23) _ ?_
      show Steps _ _ _ (s₁.setTop (mkF m 26 LL6 [(.double (4463067230724161536 : UInt64)), (.double (FP.l2d (r &&& (4294967295 : Int64))))])) _
      refine XS.dmulS X0.here hx rfl (hb hby d9_26) rfl (own_unn r) rfl ?_
      show Steps _ _ _ (s₁.setTop (mkF m 27 LL6 [(.double (own_u (r &&& (4294967295 : Int64))))])) _
      refine XS.aloadN X0.here hx rfl (hb hby d9_27) rfl rfl ?_
      show Steps _ _ _ (s₁.setTop (mkF m 28 LL6 [(.ref a), (.double (own_u (r &&& (4294967295 : Int64))))])) _
      refine st7 _ ?_
      show Steps _ _ _ (T7.setTop (mkF m 31 LL6 [(.ref th), (.double (own_u (r &&& (4294967295 : Int64))))])) _
      refine XS.iload X7.here hx rfl (hb hby d9_31) rfl ?_
      show Steps _ _ _ (T7.setTop (mkF m 33 LL6 [(.int 1), (.ref th), (.double (own_u (r &&& (4294967295 : Int64))))])) _
      refine X7.daload hx (j := (1 : Int32)) (v := (.double y1)) (by rw [e7]; exact Ar_a8.1) (State.isArrayOf_alike hZ.alike Ar_a8.2.1) Ar_a8.2.2 hin_a8 hat_a8 (g := (mkF m 33 LL6 [(.int 1), (.ref th), (.double (own_u (r &&& (4294967295 : Int64))))])) rfl rfl (hb hby d9_33) _ ?_
      show Steps _ _ _ (T7.setTop (mkF m 34 LL6 [(.double y1), (.double (own_u (r &&& (4294967295 : Int64))))])) _
      refine XS.dcmpS X7.here hx rfl (hb hby d9_34) rfl rfl ?_
      show Steps _ _ _ (T7.setTop (mkF m 35 LL6 [(.int (cmpValue (FP.dcmp (own_u (r &&& (4294967295 : Int64))) y1) .g))])) _
      exact kk
    by_cases c10 : (cmpValue (FP.dcmp (own_u (r &&& (4294967295 : Int64))) y1) .g) < (0 : Int32)
    · skip
      have P11 : ∀ t, Steps p.tables e below (T7.setTop (mkF m 50 LL6 [(.int 1)])) t → Steps p.tables e below ST t := by
        intro t kk
        refine P9 _ ?_
        show Steps _ _ _ (T7.setTop (mkF m 35 LL6 [(.int (cmpValue (FP.dcmp (own_u (r &&& (4294967295 : Int64))) y1) .g))])) _
        refine XS.ifNo X7.here hx rfl (hb hby d9_35) rfl (XT.i0_ge_f c10) ?_
        show Steps _ _ _ (T7.setTop (mkF m 38 LL6 [])) _
        refine XS.iload X7.here hx rfl (hb hby d9_38) rfl ?_
        show Steps _ _ _ (T7.setTop (mkF m 40 LL6 [(.int 1)])) _
        refine XS.goto X7.here hx rfl (pc0 := 40) (pc' := 50) rfl (hb hby d9_40) (by decide) (by decide) ?_
        show Steps _ _ _ (T7.setTop (mkF m 50 LL6 [(.int 1)])) _
        exact kk
      obtain ⟨fs, hr, hrun, hended, hW, hsame⟩ := X7.leave (v := some (.int 1)) (fun h => by rw [Bd.returns] at h; cases h)
      refine ⟨_, _, P11 _ ?_, hrun, hended, _, _, rfl, ?_, ⟨_, rfl⟩, hW, hsame.mono (by decide) (by decide)⟩
      · exact retI X7 hx Bd.returns (hb hby d9_50) hr
      · show Q9 Z a r th al kt ka y0 y1 y2 z0 z1 z2 h0 n0 _ T7.heap _
        rw [e7]
        exact ⟨congrArg (fun z => some (Value.int z)) (show (F9 r y1 z1) = _ from ((if_pos c10).trans rfl)).symm, N0, rfl⟩
    · skip
      obtain ⟨T12, X12, e12, st12⟩ := getF X7 hx hZ hown (host := "") (Or.inl (hw _ (List.mem_of_getElem? (i := 14) rfl))) Via.refl e7 pr2 (g := (mkF m 44 LL6 [(.ref a)])) rfl rfl (hb hby d9_44)
      obtain ⟨cl_a13, Ar_a13, q_a13, S_a13, N_a13, H_a13, G_a13⟩ := id pr4
      have hin_a13 : ¬ ((1 : Int32) < 0 ∨ cl_a13.slots.size ≤ ((1 : Int32)).toNatClampNeg) := inb_of S_a13 ⟨by decide, by decide⟩
      have hat_a13 := Has.at (v := (.int z1)) H_a13 hin_a13 rfl
      have P14 : ∀ t, Steps p.tables e below (T12.setTop (mkF m 50 LL6 [(.int z1)])) t → Steps p.tables e below ST t := by
        intro t kk
        refine P9 _ ?_
        show Steps _ _ _ (T7.setTop (mkF m 35 LL6 [(.int (cmpValue (FP.dcmp (own_u (r &&& (4294967295 : Int64))) y1) .g))])) _
        refine XS.ifYes X7.here hx rfl (pc0 := 35) (pc' := 43) rfl (hb hby d9_35) rfl (XT.i0_ge_t c10) (by decide) (by decide) ?_
        show Steps _ _ _ (T7.setTop (mkF m 43 LL6 [])) _
        refine XS.aloadN X7.here hx rfl (hb hby d9_43) rfl rfl ?_
        show Steps _ _ _ (T7.setTop (mkF m 44 LL6 [(.ref a)])) _
        refine st12 _ ?_
        show Steps _ _ _ (T12.setTop (mkF m 47 LL6 [(.ref al)])) _
        refine XS.iload X12.here hx rfl (hb hby d9_47) rfl ?_
        show Steps _ _ _ (T12.setTop (mkF m 49 LL6 [(.int 1), (.ref al)])) _
        refine X12.iaload hx (j := (1 : Int32)) (v := (.int z1)) (by rw [e12]; exact Ar_a13.1) (State.isArrayOf_alike hZ.alike Ar_a13.2.1) Ar_a13.2.2 hin_a13 hat_a13 (g := (mkF m 49 LL6 [(.int 1), (.ref al)])) rfl rfl (hb hby d9_49) _ ?_
        show Steps _ _ _ (T12.setTop (mkF m 50 LL6 [(.int z1)])) _
        exact kk
      obtain ⟨fs, hr, hrun, hended, hW, hsame⟩ := X12.leave (v := some (.int z1)) (fun h => by rw [Bd.returns] at h; cases h)
      refine ⟨_, _, P14 _ ?_, hrun, hended, _, _, rfl, ?_, ⟨_, rfl⟩, hW, hsame.mono (by decide) (by decide)⟩
      · exact retI X12 hx Bd.returns (hb hby d9_50) hr
      · show Q9 Z a r th al kt ka y0 y1 y2 z0 z1 z2 h0 n0 _ T12.heap _
        rw [e12]
        exact ⟨congrArg (fun z => some (Value.int z)) (show (F9 r y1 z1) = _ from ((if_neg c10).trans rfl)).symm, N0, rfl⟩
theorem d10_0 : decode prog_27_method_3_code 0 = .ok (.iload_n 1, 1) := by decide +kernel
theorem d10_1 : decode prog_27_method_3_code 1 = .ok (.lload_n 3, 1) := by decide +kernel
theorem d10_2 : decode prog_27_method_3_code 2 = .ok (.bipush 32, 2) := by decide +kernel
theorem d10_4 : decode prog_27_method_3_code 4 = .ok (.lushr, 1) := by decide +kernel
theorem d10_5 : decode prog_27_method_3_code 5 = .ok (.iload_n 2, 1) := by decide +kernel
theorem d10_6 : decode prog_27_method_3_code 6 = .ok (.iload_n 1, 1) := by decide +kernel
theorem d10_7 : decode prog_27_method_3_code 7 = .ok (.isub, 1) := by decide +kernel
theorem d10_8 : decode prog_27_method_3_code 8 = .ok (.i2l, 1) := by decide +kernel
theorem d10_9 : decode prog_27_method_3_code 9 = .ok (.lmul, 1) := by decide +kernel
theorem d10_10 : decode prog_27_method_3_code 10 = .ok (.bipush 32, 2) := by decide +kernel
theorem d10_12 : decode prog_27_method_3_code 12 = .ok (.lushr, 1) := by decide +kernel
theorem d10_13 : decode prog_27_method_3_code 13 = .ok (.l2i, 1) := by decide +kernel
theorem d10_14 : decode prog_27_method_3_code 14 = .ok (.iadd, 1) := by decide +kernel
theorem d10_15 : decode prog_27_method_3_code 15 = .ok (.istore 5, 2) := by decide +kernel
theorem d10_17 : decode prog_27_method_3_code 17 = .ok (.lload_n 3, 1) := by decide +kernel
theorem d10_18 : decode prog_27_method_3_code 18 = .ok (.ldc2_w 17, 3) := by decide +kernel
theorem d10_21 : decode prog_27_method_3_code 21 = .ok (.land, 1) := by decide +kernel
theorem d10_22 : decode prog_27_method_3_code 22 = .ok (.l2d, 1) := by decide +kernel
theorem d10_23 : decode prog_27_method_3_code 23 = .ok (.ldc2_w 19, 3) := by decide +kernel
theorem d10_26 : decode prog_27_method_3_code 26 = .ok (.dmul, 1) := by decide +kernel
theorem d10_27 : decode prog_27_method_3_code 27 = .ok (.aload_n 0, 1) := by decide +kernel
theorem d10_28 : decode prog_27_method_3_code 28 = .ok (.getfield 7, 3) := by decide +kernel
theorem d10_31 : decode prog_27_method_3_code 31 = .ok (.iload 5, 2) := by decide +kernel
theorem d10_33 : decode prog_27_method_3_code 33 = .ok (.daload, 1) := by decide +kernel
theorem d10_34 : decode prog_27_method_3_code 34 = .ok (.dcmp .g, 1) := by decide +kernel
theorem d10_35 : decode prog_27_method_3_code 35 = .ok (.ifCond .ge 8, 3) := by decide +kernel
theorem d10_38 : decode prog_27_method_3_code 38 = .ok (.iload 5, 2) := by decide +kernel
theorem d10_40 : decode prog_27_method_3_code 40 = .ok (.goto 10, 3) := by decide +kernel
theorem d10_43 : decode prog_27_method_3_code 43 = .ok (.aload_n 0, 1) := by decide +kernel
theorem d10_44 : decode prog_27_method_3_code 44 = .ok (.getfield 13, 3) := by decide +kernel
theorem d10_47 : decode prog_27_method_3_code 47 = .ok (.iload 5, 2) := by decide +kernel
theorem d10_49 : decode prog_27_method_3_code 49 = .ok (.iaload, 1) := by decide +kernel
theorem d10_50 : decode prog_27_method_3_code 50 = .ok (.ireturn, 1) := by decide +kernel
theorem ef_10 (m : MethodId) (x0 : Addr) (x1 : Int32) (x2 : Int32) (x3 : Int64) : entryFrame m #[(.ref x0), (.int x1), (.int x2), (.long x3)] 6 = (mkF m 0 #[.val (.ref x0), .val (.int x1), .val (.int x2), .val (.long x3), .second, .unset] []) := by first | (simp [entryFrame, mkF, argsToLocals, Value.category]; done) | rfl
def F10 (r : Int64) (y2 : UInt64) (z2 : Int32) : Int32 := (if (cmpValue (FP.dcmp (own_u (r &&& (4294967295 : Int64))) y2) .g) < (0 : Int32) then (2 : Int32) else z2)
def Q10 (Z : State) (a : Addr) (r : Int64) (th : Addr) (al : Addr) (kt : ClassId) (ka : ClassId) (y0 : UInt64) (y1 : UInt64) (y2 : UInt64) (z0 : Int32) (z1 : Int32) (z2 : Int32) (h0 : Heap) (n0 : Nat) (vX : Option Value) (hX : Heap) (lX : List Loc) : Prop := vX = some (.int (F10 r y2 z2)) ∧ Fr n0 lX ∧ (hX = h0)
set_option maxRecDepth 65536 in
set_option maxHeartbeats 40000000 in
theorem rm10 (l : Launch) (Z : State) (a0 : Array Value) (hw : ∀ d ∈ tables_1, d.before a0 Z = true) (ws : List Jvm.Cond) (a : Addr) (r : Int64) (th : Addr) (al : Addr) (kt : ClassId) (ka : ClassId) (y0 : UInt64) (y1 : UInt64) (y2 : UInt64) (z0 : Int32) (z1 : Int32) (z2 : Int32) (h0 : Heap) (n0 : Nat) (Z0 : n0 ≤ h0.size) (pr0 : Exa Z h0 a "com/example/circlerank/circlerank/generate/AliasTable") (pr1 : Fld Z h0 a "com/example/circlerank/circlerank/generate/AliasTable" "threshold" "[D" (.ref th)) (pr2 : Fld Z h0 a "com/example/circlerank/circlerank/generate/AliasTable" "alias" "[I" (.ref al)) (pr3 : Arv Z h0 th kt .double (3 : Int32) [(.double y0), (.double y1), (.double y2)] (.double (0 : UInt64))) (pr4 : Arv Z h0 al ka .int (3 : Int32) [(.int z0), (.int z1), (.int z2)] (.int 0)) (pr5 : ((1 : Int32) + (((((((((r).toUInt64 >>> ((32 : Int32) &&& 0x3f).toInt64.toUInt64).toInt64) * (((2 : Int32)).toInt64))).toUInt64 >>> ((32 : Int32) &&& 0x3f).toInt64.toUInt64).toInt64)).toInt32)) = (2 : Int32)) :
    MetFree l (⟨"com/example/circlerank/circlerank/generate/AliasTable", "draw", "(IIJ)I"⟩ : MethodName) (head1 (Jvm.Cond.code (⟨"com/example/circlerank/circlerank/generate/AliasTable", "draw", "(IIJ)I"⟩ : MethodName) prog_27_method_3_code 6 (some .int) :: ws) ({ frames := 0, cells := 0, slots := 0, locals := 0 } : Room)) (fun aX uX => aX = #[(.ref a), (.int 1), (.int 3), (.long r)] ∧ Z.Warmed39 uX.vm ∧ uX.heap = h0) (fun _ _ _ _ _ => True) (fun _ uX oX wX => ∃ vX lX, oX = .returned vX ∧ Q10 Z a r th al kt ka y0 y1 y2 z0 z1 z2 h0 n0 vX wX.heap lX ∧ FrameEnd uX oX wX lX ({ frames := 0, cells := 0, slots := 0, locals := 0 } : Room).cells ({ frames := 0, cells := 0, slots := 0, locals := 0 } : Room).slots) := by
  refine MetFree.of_bodySF (plainFor_of_name pn_0) hisR ?_
  intro p e s m args below meth c s₁ Bd hml0 hP hK
  obtain ⟨rfl, hZ, hh⟩ := hP
  have hx := Bd.exec
  have hby := Bd.bytes
  have hml : c.maxLocals = 6 := hml0
  have hown : s.vm.findClass "com/example/circlerank/circlerank/generate/AliasTable" = some m.cls := findClass_of_methodNamed Bd.named
  have hnm := (name_of_methodNamed Bd.named Bd.method).1
  have X0 : Stand p l e ({ frames := 0, cells := 0, slots := 0, locals := 0 } : Room) s m #[(.ref a), (.int 1), (.int 3), (.long r)] below meth c s₁ [] 0 0 := Stand.of_body Bd
  have e0 : s₁.heap = h0 := by rw [← hh, Bd.state]; rfl
  have N0 := Fr.nil n0
  let ST : State := (s₁.setTop (entryFrame m #[(.ref a), (.int 1), (.int 3), (.long r)] 6))
  have pre0 : ∀ t, Steps p.tables e below (s₁.setTop (mkF m 0 #[.val (.ref a), .val (.int 1), .val (.int 3), .val (.long r), .second, .unset] [])) t → Steps p.tables e below ST t := fun t k => castTop (ef_10 m a (1 : Int32) (3 : Int32) r) k
  let LL1 : Array Slot := #[.val (.ref a), .val (.int 1), .val (.int 3), .val (.long r), .second, .unset]
  let LL2 : Array Slot := #[.val (.ref a), .val (.int 1), .val (.int 3), .val (.long r), .second, .val (.int ((1 : Int32) + (((((((((r).toUInt64 >>> ((32 : Int32) &&& 0x3f).toInt64.toUInt64).toInt64) * (((2 : Int32)).toInt64))).toUInt64 >>> ((32 : Int32) &&& 0x3f).toInt64.toUInt64).toInt64)).toInt32)))]
  have P3 : ∀ t, Steps p.tables e below (s₁.setTop (mkF m 17 LL2 [])) t → Steps p.tables e below ST t := by
    intro t kk
    refine pre0 _ ?_
    show Steps _ _ _ (s₁.setTop (mkF m 0 LL1 [])) _
    refine XS.iloadN X0.here hx rfl (hb hby d10_0) rfl ?_
    show Steps _ _ _ (s₁.setTop (mkF m 1 LL1 [(.int 1)])) _
    refine XS.lloadN X0.here hx rfl (hb hby d10_1) rfl ?_
    show Steps _ _ _ (s₁.setTop (mkF m 2 LL1 [(.long r), (.int 1)])) _
    refine XS.bipush X0.here hx rfl (hb hby d10_2) ?_
    show Steps _ _ _ (s₁.setTop (mkF m 4 LL1 [(.int 32), (.long r), (.int 1)])) _
    refine XS.lushr X0.here hx rfl (hb hby d10_4) rfl ?_
    show Steps _ _ _ (s₁.setTop (mkF m 5 LL1 [(.long (((r).toUInt64 >>> ((32 : Int32) &&& 0x3f).toInt64.toUInt64).toInt64)), (.int 1)])) _
    refine XS.iloadN X0.here hx rfl (hb hby d10_5) rfl ?_
    show Steps _ _ _ (s₁.setTop (mkF m 6 LL1 [(.int 3), (.long (((r).toUInt64 >>> ((32 : Int32) &&& 0x3f).toInt64.toUInt64).toInt64)), (.int 1)])) _
    refine XS.iloadN X0.here hx rfl (hb hby d10_6) rfl ?_
    show Steps _ _ _ (s₁.setTop (mkF m 7 LL1 [(.int 1), (.int 3), (.long (((r).toUInt64 >>> ((32 : Int32) &&& 0x3f).toInt64.toUInt64).toInt64)), (.int 1)])) _
    refine XS.isub X0.here hx rfl (hb hby d10_7) rfl ?_
    show Steps _ _ _ (s₁.setTop (mkF m 8 LL1 [(.int 2), (.long (((r).toUInt64 >>> ((32 : Int32) &&& 0x3f).toInt64.toUInt64).toInt64)), (.int 1)])) _
    refine XS.i2l X0.here hx rfl (hb hby d10_8) rfl ?_
    show Steps _ _ _ (s₁.setTop (mkF m 9 LL1 [(.long (((2 : Int32)).toInt64)), (.long (((r).toUInt64 >>> ((32 : Int32) &&& 0x3f).toInt64.toUInt64).toInt64)), (.int 1)])) _
    refine XS.lmul X0.here hx rfl (hb hby d10_9) rfl ?_
    show Steps _ _ _ (s₁.setTop (mkF m 10 LL1 [(.long ((((r).toUInt64 >>> ((32 : Int32) &&& 0x3f).toInt64.toUInt64).toInt64) * (((2 : Int32)).toInt64))), (.int 1)])) _
    refine XS.bipush X0.here hx rfl (hb hby d10_10) ?_
    show Steps _ _ _ (s₁.setTop (mkF m 12 LL1 [(.int 32), (.long ((((r).toUInt64 >>> ((32 : Int32) &&& 0x3f).toInt64.toUInt64).toInt64) * (((2 : Int32)).toInt64))), (.int 1)])) _
    refine XS.lushr X0.here hx rfl (hb hby d10_12) rfl ?_
    show Steps _ _ _ (s₁.setTop (mkF m 13 LL1 [(.long (((((((r).toUInt64 >>> ((32 : Int32) &&& 0x3f).toInt64.toUInt64).toInt64) * (((2 : Int32)).toInt64))).toUInt64 >>> ((32 : Int32) &&& 0x3f).toInt64.toUInt64).toInt64)), (.int 1)])) _
    refine XS.l2i X0.here hx rfl (hb hby d10_13) rfl ?_
    show Steps _ _ _ (s₁.setTop (mkF m 14 LL1 [(.int (((((((((r).toUInt64 >>> ((32 : Int32) &&& 0x3f).toInt64.toUInt64).toInt64) * (((2 : Int32)).toInt64))).toUInt64 >>> ((32 : Int32) &&& 0x3f).toInt64.toUInt64).toInt64)).toInt32)), (.int 1)])) _
    refine XS.iadd X0.here hx rfl (hb hby d10_14) rfl ?_
    show Steps _ _ _ (s₁.setTop (mkF m 15 LL1 [(.int ((1 : Int32) + (((((((((r).toUInt64 >>> ((32 : Int32) &&& 0x3f).toInt64.toUInt64).toInt64) * (((2 : Int32)).toInt64))).toUInt64 >>> ((32 : Int32) &&& 0x3f).toInt64.toUInt64).toInt64)).toInt32)))])) _
    refine XS.istore X0.here hx rfl (hb hby d10_15) rfl (l' := LL2) rfl ?_
    show Steps _ _ _ (s₁.setTop (mkF m 17 LL2 [])) _
    exact kk
  have hs4 := pr5
  · skip
    let LL6 : Array Slot := #[.val (.ref a), .val (.int 1), .val (.int 3), .val (.long r), .second, .val (.int 2)]
    have P5 : ∀ t, Steps p.tables e below (s₁.setTop (mkF m 17 LL6 [])) t → Steps p.tables e below ST t := by
      intro t kk
      refine P3 _ ?_
      show Steps _ _ _ (s₁.setTop (mkF m 17 #[.val (.ref a), .val (.int 1), .val (.int 3), .val (.long r), .second, .val (.int ((1 : Int32) + (((((((((r).toUInt64 >>> ((32 : Int32) &&& 0x3f).toInt64.toUInt64).toInt64) * (((2 : Int32)).toInt64))).toUInt64 >>> ((32 : Int32) &&& 0x3f).toInt64.toUInt64).toInt64)).toInt32)))] [])) t
      rw [hs4]
      exact kk
    obtain ⟨T7, X7, e7, st7⟩ := getF X0 hx hZ hown (host := "") (Or.inl (hw _ (List.mem_of_getElem? (i := 12) rfl))) Via.refl e0 pr1 (g := (mkF m 28 LL6 [(.ref a), (.double (own_u (r &&& (4294967295 : Int64))))])) rfl rfl (hb hby d10_28)
    obtain ⟨cl_a8, Ar_a8, q_a8, S_a8, N_a8, H_a8, G_a8⟩ := id pr3
    have hin_a8 : ¬ ((2 : Int32) < 0 ∨ cl_a8.slots.size ≤ ((2 : Int32)).toNatClampNeg) := inb_of S_a8 ⟨by decide, by decide⟩
    have hat_a8 := Has.at (v := (.double y2)) H_a8 hin_a8 rfl
    have P9 : ∀ t, Steps p.tables e below (T7.setTop (mkF m 35 LL6 [(.int (cmpValue (FP.dcmp (own_u (r &&& (4294967295 : Int64))) y2) .g))])) t → Steps p.tables e below ST t := by
      intro t kk
      refine P5 _ ?_
      show Steps _ _ _ (s₁.setTop (mkF m 17 LL6 [])) _
      refine XS.lloadN X0.here hx rfl (hb hby d10_17) rfl ?_
      show Steps _ _ _ (s₁.setTop (mkF m 18 LL6 [(.long r)])) _
      refine X0.ldc2Long hx hown (mvT hZ (hw _ (List.mem_of_getElem? (i := 27) rfl))) (g := (mkF m 18 LL6 [(.long r)])) rfl (hb hby d10_18) _ ?_
      show Steps _ _ _ (s₁.setTop (mkF m 21 LL6 [(.long (4294967295 : Int64)), (.long r)])) _
      refine XS.land X0.here hx rfl (hb hby d10_21) rfl ?_
      show Steps _ _ _ (s₁.setTop (mkF m 22 LL6 [(.long (r &&& (4294967295 : Int64)))])) _
      refine XS.l2dS X0.here hx rfl (hb hby d10_22) rfl rfl ?_
      show Steps _ _ _ (s₁.setTop (mkF m 23 LL6 [(.double (FP.l2d (r &&& (4294967295 : Int64))))])) _
      refine X0.ldc2DoubleC hx hown (mvT hZ (hw _ (List.mem_of_getElem? (i := 28) rfl))) (g := (mkF m 23 LL6 [(.double (FP.l2d (r &&& (4294967295 : Int64))))])) rfl (hb hby d10_23) _ ?_
      show Steps _ _ _ (s₁.setTop (mkF m 26 LL6 [(.double (4463067230724161536 : UInt64)), (.double (FP.l2d (r &&& (4294967295 : Int64))))])) _
      refine XS.dmulS X0.here hx rfl (hb hby d10_26) rfl (own_unn r) rfl ?_
      show Steps _ _ _ (s₁.setTop (mkF m 27 LL6 [(.double (own_u (r &&& (4294967295 : Int64))))])) _
      refine XS.aloadN X0.here hx rfl (hb hby d10_27) rfl rfl ?_
      show Steps _ _ _ (s₁.setTop (mkF m 28 LL6 [(.ref a), (.double (own_u (r &&& (4294967295 : Int64))))])) _
      refine st7 _ ?_
      show Steps _ _ _ (T7.setTop (mkF m 31 LL6 [(.ref th), (.double (own_u (r &&& (4294967295 : Int64))))])) _
      refine XS.iload X7.here hx rfl (hb hby d10_31) rfl ?_
      show Steps _ _ _ (T7.setTop (mkF m 33 LL6 [(.int 2), (.ref th), (.double (own_u (r &&& (4294967295 : Int64))))])) _
      refine X7.daload hx (j := (2 : Int32)) (v := (.double y2)) (by rw [e7]; exact Ar_a8.1) (State.isArrayOf_alike hZ.alike Ar_a8.2.1) Ar_a8.2.2 hin_a8 hat_a8 (g := (mkF m 33 LL6 [(.int 2), (.ref th), (.double (own_u (r &&& (4294967295 : Int64))))])) rfl rfl (hb hby d10_33) _ ?_
      show Steps _ _ _ (T7.setTop (mkF m 34 LL6 [(.double y2), (.double (own_u (r &&& (4294967295 : Int64))))])) _
      refine XS.dcmpS X7.here hx rfl (hb hby d10_34) rfl rfl ?_
      show Steps _ _ _ (T7.setTop (mkF m 35 LL6 [(.int (cmpValue (FP.dcmp (own_u (r &&& (4294967295 : Int64))) y2) .g))])) _
      exact kk
    by_cases c10 : (cmpValue (FP.dcmp (own_u (r &&& (4294967295 : Int64))) y2) .g) < (0 : Int32)
    · skip
      have P11 : ∀ t, Steps p.tables e below (T7.setTop (mkF m 50 LL6 [(.int 2)])) t → Steps p.tables e below ST t := by
        intro t kk
        refine P9 _ ?_
        show Steps _ _ _ (T7.setTop (mkF m 35 LL6 [(.int (cmpValue (FP.dcmp (own_u (r &&& (4294967295 : Int64))) y2) .g))])) _
        refine XS.ifNo X7.here hx rfl (hb hby d10_35) rfl (XT.i0_ge_f c10) ?_
        show Steps _ _ _ (T7.setTop (mkF m 38 LL6 [])) _
        refine XS.iload X7.here hx rfl (hb hby d10_38) rfl ?_
        show Steps _ _ _ (T7.setTop (mkF m 40 LL6 [(.int 2)])) _
        refine XS.goto X7.here hx rfl (pc0 := 40) (pc' := 50) rfl (hb hby d10_40) (by decide) (by decide) ?_
        show Steps _ _ _ (T7.setTop (mkF m 50 LL6 [(.int 2)])) _
        exact kk
      obtain ⟨fs, hr, hrun, hended, hW, hsame⟩ := X7.leave (v := some (.int 2)) (fun h => by rw [Bd.returns] at h; cases h)
      refine ⟨_, _, P11 _ ?_, hrun, hended, _, _, rfl, ?_, ⟨_, rfl⟩, hW, hsame.mono (by decide) (by decide)⟩
      · exact retI X7 hx Bd.returns (hb hby d10_50) hr
      · show Q10 Z a r th al kt ka y0 y1 y2 z0 z1 z2 h0 n0 _ T7.heap _
        rw [e7]
        exact ⟨congrArg (fun z => some (Value.int z)) (show (F10 r y2 z2) = _ from ((if_pos c10).trans rfl)).symm, N0, rfl⟩
    · skip
      obtain ⟨T12, X12, e12, st12⟩ := getF X7 hx hZ hown (host := "") (Or.inl (hw _ (List.mem_of_getElem? (i := 14) rfl))) Via.refl e7 pr2 (g := (mkF m 44 LL6 [(.ref a)])) rfl rfl (hb hby d10_44)
      obtain ⟨cl_a13, Ar_a13, q_a13, S_a13, N_a13, H_a13, G_a13⟩ := id pr4
      have hin_a13 : ¬ ((2 : Int32) < 0 ∨ cl_a13.slots.size ≤ ((2 : Int32)).toNatClampNeg) := inb_of S_a13 ⟨by decide, by decide⟩
      have hat_a13 := Has.at (v := (.int z2)) H_a13 hin_a13 rfl
      have P14 : ∀ t, Steps p.tables e below (T12.setTop (mkF m 50 LL6 [(.int z2)])) t → Steps p.tables e below ST t := by
        intro t kk
        refine P9 _ ?_
        show Steps _ _ _ (T7.setTop (mkF m 35 LL6 [(.int (cmpValue (FP.dcmp (own_u (r &&& (4294967295 : Int64))) y2) .g))])) _
        refine XS.ifYes X7.here hx rfl (pc0 := 35) (pc' := 43) rfl (hb hby d10_35) rfl (XT.i0_ge_t c10) (by decide) (by decide) ?_
        show Steps _ _ _ (T7.setTop (mkF m 43 LL6 [])) _
        refine XS.aloadN X7.here hx rfl (hb hby d10_43) rfl rfl ?_
        show Steps _ _ _ (T7.setTop (mkF m 44 LL6 [(.ref a)])) _
        refine st12 _ ?_
        show Steps _ _ _ (T12.setTop (mkF m 47 LL6 [(.ref al)])) _
        refine XS.iload X12.here hx rfl (hb hby d10_47) rfl ?_
        show Steps _ _ _ (T12.setTop (mkF m 49 LL6 [(.int 2), (.ref al)])) _
        refine X12.iaload hx (j := (2 : Int32)) (v := (.int z2)) (by rw [e12]; exact Ar_a13.1) (State.isArrayOf_alike hZ.alike Ar_a13.2.1) Ar_a13.2.2 hin_a13 hat_a13 (g := (mkF m 49 LL6 [(.int 2), (.ref al)])) rfl rfl (hb hby d10_49) _ ?_
        show Steps _ _ _ (T12.setTop (mkF m 50 LL6 [(.int z2)])) _
        exact kk
      obtain ⟨fs, hr, hrun, hended, hW, hsame⟩ := X12.leave (v := some (.int z2)) (fun h => by rw [Bd.returns] at h; cases h)
      refine ⟨_, _, P14 _ ?_, hrun, hended, _, _, rfl, ?_, ⟨_, rfl⟩, hW, hsame.mono (by decide) (by decide)⟩
      · exact retI X12 hx Bd.returns (hb hby d10_50) hr
      · show Q10 Z a r th al kt ka y0 y1 y2 z0 z1 z2 h0 n0 _ T12.heap _
        rw [e12]
        exact ⟨congrArg (fun z => some (Value.int z)) (show (F10 r y2 z2) = _ from ((if_neg c10).trans rfl)).symm, N0, rfl⟩
theorem d11_0 : decode prog_27_method_3_code 0 = .ok (.iload_n 1, 1) := by decide +kernel
theorem d11_1 : decode prog_27_method_3_code 1 = .ok (.lload_n 3, 1) := by decide +kernel
theorem d11_2 : decode prog_27_method_3_code 2 = .ok (.bipush 32, 2) := by decide +kernel
theorem d11_4 : decode prog_27_method_3_code 4 = .ok (.lushr, 1) := by decide +kernel
theorem d11_5 : decode prog_27_method_3_code 5 = .ok (.iload_n 2, 1) := by decide +kernel
theorem d11_6 : decode prog_27_method_3_code 6 = .ok (.iload_n 1, 1) := by decide +kernel
theorem d11_7 : decode prog_27_method_3_code 7 = .ok (.isub, 1) := by decide +kernel
theorem d11_8 : decode prog_27_method_3_code 8 = .ok (.i2l, 1) := by decide +kernel
theorem d11_9 : decode prog_27_method_3_code 9 = .ok (.lmul, 1) := by decide +kernel
theorem d11_10 : decode prog_27_method_3_code 10 = .ok (.bipush 32, 2) := by decide +kernel
theorem d11_12 : decode prog_27_method_3_code 12 = .ok (.lushr, 1) := by decide +kernel
theorem d11_13 : decode prog_27_method_3_code 13 = .ok (.l2i, 1) := by decide +kernel
theorem d11_14 : decode prog_27_method_3_code 14 = .ok (.iadd, 1) := by decide +kernel
theorem d11_15 : decode prog_27_method_3_code 15 = .ok (.istore 5, 2) := by decide +kernel
theorem d11_17 : decode prog_27_method_3_code 17 = .ok (.lload_n 3, 1) := by decide +kernel
theorem d11_18 : decode prog_27_method_3_code 18 = .ok (.ldc2_w 17, 3) := by decide +kernel
theorem d11_21 : decode prog_27_method_3_code 21 = .ok (.land, 1) := by decide +kernel
theorem d11_22 : decode prog_27_method_3_code 22 = .ok (.l2d, 1) := by decide +kernel
theorem d11_23 : decode prog_27_method_3_code 23 = .ok (.ldc2_w 19, 3) := by decide +kernel
theorem d11_26 : decode prog_27_method_3_code 26 = .ok (.dmul, 1) := by decide +kernel
theorem d11_27 : decode prog_27_method_3_code 27 = .ok (.aload_n 0, 1) := by decide +kernel
theorem d11_28 : decode prog_27_method_3_code 28 = .ok (.getfield 7, 3) := by decide +kernel
theorem d11_31 : decode prog_27_method_3_code 31 = .ok (.iload 5, 2) := by decide +kernel
theorem d11_33 : decode prog_27_method_3_code 33 = .ok (.daload, 1) := by decide +kernel
theorem d11_34 : decode prog_27_method_3_code 34 = .ok (.dcmp .g, 1) := by decide +kernel
theorem d11_35 : decode prog_27_method_3_code 35 = .ok (.ifCond .ge 8, 3) := by decide +kernel
theorem d11_38 : decode prog_27_method_3_code 38 = .ok (.iload 5, 2) := by decide +kernel
theorem d11_40 : decode prog_27_method_3_code 40 = .ok (.goto 10, 3) := by decide +kernel
theorem d11_50 : decode prog_27_method_3_code 50 = .ok (.ireturn, 1) := by decide +kernel
theorem ef_11 (m : MethodId) (x0 : Addr) (x1 : Int32) (x2 : Int32) (x3 : Int64) : entryFrame m #[(.ref x0), (.int x1), (.int x2), (.long x3)] 6 = (mkF m 0 #[.val (.ref x0), .val (.int x1), .val (.int x2), .val (.long x3), .second, .unset] []) := by first | (simp [entryFrame, mkF, argsToLocals, Value.category]; done) | rfl
def Q11 (Z : State) (a : Addr) (r : Int64) (th : Addr) (al : Addr) (kt : ClassId) (ka : ClassId) (y1 : UInt64) (y2 : UInt64) (z0 : Int32) (z1 : Int32) (z2 : Int32) (h0 : Heap) (n0 : Nat) (vX : Option Value) (hX : Heap) (lX : List Loc) : Prop := vX = some (.int 0) ∧ Fr n0 lX ∧ (hX = h0)
set_option maxRecDepth 65536 in
set_option maxHeartbeats 40000000 in
theorem rm11 (l : Launch) (Z : State) (a0 : Array Value) (hw : ∀ d ∈ tables_1, d.before a0 Z = true) (ws : List Jvm.Cond) (a : Addr) (r : Int64) (th : Addr) (al : Addr) (kt : ClassId) (ka : ClassId) (y1 : UInt64) (y2 : UInt64) (z0 : Int32) (z1 : Int32) (z2 : Int32) (h0 : Heap) (n0 : Nat) (Z0 : n0 ≤ h0.size) (pr0 : Exa Z h0 a "com/example/circlerank/circlerank/generate/AliasTable") (pr1 : Fld Z h0 a "com/example/circlerank/circlerank/generate/AliasTable" "threshold" "[D" (.ref th)) (pr2 : Fld Z h0 a "com/example/circlerank/circlerank/generate/AliasTable" "alias" "[I" (.ref al)) (pr3 : Arv Z h0 th kt .double (3 : Int32) [(.double FP.dconst1), (.double y1), (.double y2)] (.double (0 : UInt64))) (pr4 : Arv Z h0 al ka .int (3 : Int32) [(.int z0), (.int z1), (.int z2)] (.int 0)) (pr5 : ((0 : Int32) + (((((((((r).toUInt64 >>> ((32 : Int32) &&& 0x3f).toInt64.toUInt64).toInt64) * (((1 : Int32)).toInt64))).toUInt64 >>> ((32 : Int32) &&& 0x3f).toInt64.toUInt64).toInt64)).toInt32)) = (0 : Int32)) :
    MetFree l (⟨"com/example/circlerank/circlerank/generate/AliasTable", "draw", "(IIJ)I"⟩ : MethodName) (head1 (Jvm.Cond.code (⟨"com/example/circlerank/circlerank/generate/AliasTable", "draw", "(IIJ)I"⟩ : MethodName) prog_27_method_3_code 6 (some .int) :: ws) ({ frames := 0, cells := 0, slots := 0, locals := 0 } : Room)) (fun aX uX => aX = #[(.ref a), (.int 0), (.int 1), (.long r)] ∧ Z.Warmed39 uX.vm ∧ uX.heap = h0) (fun _ _ _ _ _ => True) (fun _ uX oX wX => ∃ vX lX, oX = .returned vX ∧ Q11 Z a r th al kt ka y1 y2 z0 z1 z2 h0 n0 vX wX.heap lX ∧ FrameEnd uX oX wX lX ({ frames := 0, cells := 0, slots := 0, locals := 0 } : Room).cells ({ frames := 0, cells := 0, slots := 0, locals := 0 } : Room).slots) := by
  refine MetFree.of_bodySF (plainFor_of_name pn_0) hisR ?_
  intro p e s m args below meth c s₁ Bd hml0 hP hK
  obtain ⟨rfl, hZ, hh⟩ := hP
  have hx := Bd.exec
  have hby := Bd.bytes
  have hml : c.maxLocals = 6 := hml0
  have hown : s.vm.findClass "com/example/circlerank/circlerank/generate/AliasTable" = some m.cls := findClass_of_methodNamed Bd.named
  have hnm := (name_of_methodNamed Bd.named Bd.method).1
  have X0 : Stand p l e ({ frames := 0, cells := 0, slots := 0, locals := 0 } : Room) s m #[(.ref a), (.int 0), (.int 1), (.long r)] below meth c s₁ [] 0 0 := Stand.of_body Bd
  have e0 : s₁.heap = h0 := by rw [← hh, Bd.state]; rfl
  have N0 := Fr.nil n0
  let ST : State := (s₁.setTop (entryFrame m #[(.ref a), (.int 0), (.int 1), (.long r)] 6))
  have pre0 : ∀ t, Steps p.tables e below (s₁.setTop (mkF m 0 #[.val (.ref a), .val (.int 0), .val (.int 1), .val (.long r), .second, .unset] [])) t → Steps p.tables e below ST t := fun t k => castTop (ef_11 m a (0 : Int32) (1 : Int32) r) k
  let LL1 : Array Slot := #[.val (.ref a), .val (.int 0), .val (.int 1), .val (.long r), .second, .unset]
  let LL2 : Array Slot := #[.val (.ref a), .val (.int 0), .val (.int 1), .val (.long r), .second, .val (.int ((0 : Int32) + (((((((((r).toUInt64 >>> ((32 : Int32) &&& 0x3f).toInt64.toUInt64).toInt64) * (((1 : Int32)).toInt64))).toUInt64 >>> ((32 : Int32) &&& 0x3f).toInt64.toUInt64).toInt64)).toInt32)))]
  have P3 : ∀ t, Steps p.tables e below (s₁.setTop (mkF m 17 LL2 [])) t → Steps p.tables e below ST t := by
    intro t kk
    refine pre0 _ ?_
    show Steps _ _ _ (s₁.setTop (mkF m 0 LL1 [])) _
    refine XS.iloadN X0.here hx rfl (hb hby d11_0) rfl ?_
    show Steps _ _ _ (s₁.setTop (mkF m 1 LL1 [(.int 0)])) _
    refine XS.lloadN X0.here hx rfl (hb hby d11_1) rfl ?_
    show Steps _ _ _ (s₁.setTop (mkF m 2 LL1 [(.long r), (.int 0)])) _
    refine XS.bipush X0.here hx rfl (hb hby d11_2) ?_
    show Steps _ _ _ (s₁.setTop (mkF m 4 LL1 [(.int 32), (.long r), (.int 0)])) _
    refine XS.lushr X0.here hx rfl (hb hby d11_4) rfl ?_
    show Steps _ _ _ (s₁.setTop (mkF m 5 LL1 [(.long (((r).toUInt64 >>> ((32 : Int32) &&& 0x3f).toInt64.toUInt64).toInt64)), (.int 0)])) _
    refine XS.iloadN X0.here hx rfl (hb hby d11_5) rfl ?_
    show Steps _ _ _ (s₁.setTop (mkF m 6 LL1 [(.int 1), (.long (((r).toUInt64 >>> ((32 : Int32) &&& 0x3f).toInt64.toUInt64).toInt64)), (.int 0)])) _
    refine XS.iloadN X0.here hx rfl (hb hby d11_6) rfl ?_
    show Steps _ _ _ (s₁.setTop (mkF m 7 LL1 [(.int 0), (.int 1), (.long (((r).toUInt64 >>> ((32 : Int32) &&& 0x3f).toInt64.toUInt64).toInt64)), (.int 0)])) _
    refine XS.isub X0.here hx rfl (hb hby d11_7) rfl ?_
    show Steps _ _ _ (s₁.setTop (mkF m 8 LL1 [(.int 1), (.long (((r).toUInt64 >>> ((32 : Int32) &&& 0x3f).toInt64.toUInt64).toInt64)), (.int 0)])) _
    refine XS.i2l X0.here hx rfl (hb hby d11_8) rfl ?_
    show Steps _ _ _ (s₁.setTop (mkF m 9 LL1 [(.long (((1 : Int32)).toInt64)), (.long (((r).toUInt64 >>> ((32 : Int32) &&& 0x3f).toInt64.toUInt64).toInt64)), (.int 0)])) _
    refine XS.lmul X0.here hx rfl (hb hby d11_9) rfl ?_
    show Steps _ _ _ (s₁.setTop (mkF m 10 LL1 [(.long ((((r).toUInt64 >>> ((32 : Int32) &&& 0x3f).toInt64.toUInt64).toInt64) * (((1 : Int32)).toInt64))), (.int 0)])) _
    refine XS.bipush X0.here hx rfl (hb hby d11_10) ?_
    show Steps _ _ _ (s₁.setTop (mkF m 12 LL1 [(.int 32), (.long ((((r).toUInt64 >>> ((32 : Int32) &&& 0x3f).toInt64.toUInt64).toInt64) * (((1 : Int32)).toInt64))), (.int 0)])) _
    refine XS.lushr X0.here hx rfl (hb hby d11_12) rfl ?_
    show Steps _ _ _ (s₁.setTop (mkF m 13 LL1 [(.long (((((((r).toUInt64 >>> ((32 : Int32) &&& 0x3f).toInt64.toUInt64).toInt64) * (((1 : Int32)).toInt64))).toUInt64 >>> ((32 : Int32) &&& 0x3f).toInt64.toUInt64).toInt64)), (.int 0)])) _
    refine XS.l2i X0.here hx rfl (hb hby d11_13) rfl ?_
    show Steps _ _ _ (s₁.setTop (mkF m 14 LL1 [(.int (((((((((r).toUInt64 >>> ((32 : Int32) &&& 0x3f).toInt64.toUInt64).toInt64) * (((1 : Int32)).toInt64))).toUInt64 >>> ((32 : Int32) &&& 0x3f).toInt64.toUInt64).toInt64)).toInt32)), (.int 0)])) _
    refine XS.iadd X0.here hx rfl (hb hby d11_14) rfl ?_
    show Steps _ _ _ (s₁.setTop (mkF m 15 LL1 [(.int ((0 : Int32) + (((((((((r).toUInt64 >>> ((32 : Int32) &&& 0x3f).toInt64.toUInt64).toInt64) * (((1 : Int32)).toInt64))).toUInt64 >>> ((32 : Int32) &&& 0x3f).toInt64.toUInt64).toInt64)).toInt32)))])) _
    refine XS.istore X0.here hx rfl (hb hby d11_15) rfl (l' := LL2) rfl ?_
    show Steps _ _ _ (s₁.setTop (mkF m 17 LL2 [])) _
    exact kk
  have hs4 := pr5
  · skip
    let LL6 : Array Slot := #[.val (.ref a), .val (.int 0), .val (.int 1), .val (.long r), .second, .val (.int 0)]
    have P5 : ∀ t, Steps p.tables e below (s₁.setTop (mkF m 17 LL6 [])) t → Steps p.tables e below ST t := by
      intro t kk
      refine P3 _ ?_
      show Steps _ _ _ (s₁.setTop (mkF m 17 #[.val (.ref a), .val (.int 0), .val (.int 1), .val (.long r), .second, .val (.int ((0 : Int32) + (((((((((r).toUInt64 >>> ((32 : Int32) &&& 0x3f).toInt64.toUInt64).toInt64) * (((1 : Int32)).toInt64))).toUInt64 >>> ((32 : Int32) &&& 0x3f).toInt64.toUInt64).toInt64)).toInt32)))] [])) t
      rw [hs4]
      exact kk
    obtain ⟨T7, X7, e7, st7⟩ := getF X0 hx hZ hown (host := "") (Or.inl (hw _ (List.mem_of_getElem? (i := 12) rfl))) Via.refl e0 pr1 (g := (mkF m 28 LL6 [(.ref a), (.double (own_u (r &&& (4294967295 : Int64))))])) rfl rfl (hb hby d11_28)
    obtain ⟨cl_a8, Ar_a8, q_a8, S_a8, N_a8, H_a8, G_a8⟩ := id pr3
    have hin_a8 : ¬ ((0 : Int32) < 0 ∨ cl_a8.slots.size ≤ ((0 : Int32)).toNatClampNeg) := inb_of S_a8 ⟨by decide, by decide⟩
    have hat_a8 := Has.at (v := (.double FP.dconst1)) H_a8 hin_a8 rfl
    have P9 : ∀ t, Steps p.tables e below (T7.setTop (mkF m 50 LL6 [(.int 0)])) t → Steps p.tables e below ST t := by
      intro t kk
      refine P5 _ ?_
      show Steps _ _ _ (s₁.setTop (mkF m 17 LL6 [])) _
      refine XS.lloadN X0.here hx rfl (hb hby d11_17) rfl ?_
      show Steps _ _ _ (s₁.setTop (mkF m 18 LL6 [(.long r)])) _
      refine X0.ldc2Long hx hown (mvT hZ (hw _ (List.mem_of_getElem? (i := 27) rfl))) (g := (mkF m 18 LL6 [(.long r)])) rfl (hb hby d11_18) _ ?_
      show Steps _ _ _ (s₁.setTop (mkF m 21 LL6 [(.long (4294967295 : Int64)), (.long r)])) _
      refine XS.land X0.here hx rfl (hb hby d11_21) rfl ?_
      show Steps _ _ _ (s₁.setTop (mkF m 22 LL6 [(.long (r &&& (4294967295 : Int64)))])) _
      refine XS.l2dS X0.here hx rfl (hb hby d11_22) rfl rfl ?_
      show Steps _ _ _ (s₁.setTop (mkF m 23 LL6 [(.double (FP.l2d (r &&& (4294967295 : Int64))))])) _
      refine X0.ldc2DoubleC hx hown (mvT hZ (hw _ (List.mem_of_getElem? (i := 28) rfl))) (g := (mkF m 23 LL6 [(.double (FP.l2d (r &&& (4294967295 : Int64))))])) rfl (hb hby d11_23) _ ?_
      show Steps _ _ _ (s₁.setTop (mkF m 26 LL6 [(.double (4463067230724161536 : UInt64)), (.double (FP.l2d (r &&& (4294967295 : Int64))))])) _
      refine XS.dmulS X0.here hx rfl (hb hby d11_26) rfl (own_unn r) rfl ?_
      show Steps _ _ _ (s₁.setTop (mkF m 27 LL6 [(.double (own_u (r &&& (4294967295 : Int64))))])) _
      refine XS.aloadN X0.here hx rfl (hb hby d11_27) rfl rfl ?_
      show Steps _ _ _ (s₁.setTop (mkF m 28 LL6 [(.ref a), (.double (own_u (r &&& (4294967295 : Int64))))])) _
      refine st7 _ ?_
      show Steps _ _ _ (T7.setTop (mkF m 31 LL6 [(.ref th), (.double (own_u (r &&& (4294967295 : Int64))))])) _
      refine XS.iload X7.here hx rfl (hb hby d11_31) rfl ?_
      show Steps _ _ _ (T7.setTop (mkF m 33 LL6 [(.int 0), (.ref th), (.double (own_u (r &&& (4294967295 : Int64))))])) _
      refine X7.daload hx (j := (0 : Int32)) (v := (.double FP.dconst1)) (by rw [e7]; exact Ar_a8.1) (State.isArrayOf_alike hZ.alike Ar_a8.2.1) Ar_a8.2.2 hin_a8 hat_a8 (g := (mkF m 33 LL6 [(.int 0), (.ref th), (.double (own_u (r &&& (4294967295 : Int64))))])) rfl rfl (hb hby d11_33) _ ?_
      show Steps _ _ _ (T7.setTop (mkF m 34 LL6 [(.double FP.dconst1), (.double (own_u (r &&& (4294967295 : Int64))))])) _
      refine XS.dcmpS X7.here hx rfl (hb hby d11_34) rfl rfl ?_
      show Steps _ _ _ (T7.setTop (mkF m 35 LL6 [(.int (cmpValue (FP.dcmp (own_u (r &&& (4294967295 : Int64))) FP.dconst1) .g))])) _
      refine XS.ifNo X7.here hx rfl (hb hby d11_35) rfl (XT.i0_ge_f (own_u1 r)) ?_
      show Steps _ _ _ (T7.setTop (mkF m 38 LL6 [])) _
      refine XS.iload X7.here hx rfl (hb hby d11_38) rfl ?_
      show Steps _ _ _ (T7.setTop (mkF m 40 LL6 [(.int 0)])) _
      refine XS.goto X7.here hx rfl (pc0 := 40) (pc' := 50) rfl (hb hby d11_40) (by decide) (by decide) ?_
      show Steps _ _ _ (T7.setTop (mkF m 50 LL6 [(.int 0)])) _
      exact kk
    obtain ⟨fs, hr, hrun, hended, hW, hsame⟩ := X7.leave (v := some (.int 0)) (fun h => by rw [Bd.returns] at h; cases h)
    refine ⟨_, _, P9 _ ?_, hrun, hended, _, _, rfl, ?_, ⟨_, rfl⟩, hW, hsame.mono (by decide) (by decide)⟩
    · exact retI X7 hx Bd.returns (hb hby d11_50) hr
    · show Q11 Z a r th al kt ka y1 y2 z0 z1 z2 h0 n0 _ T7.heap _
      rw [e7]
      exact ⟨rfl, N0, rfl⟩
theorem ef_0 (m : MethodId) (x0 : Int32) (x1 : Int32) (x2 : Int32) (x3 : Int32) (x4 : Int64) : entryFrame m #[(.int x0), (.int x1), (.int x2), (.int x3), (.long x4)] maxLocals = (mkF m 0 #[.val (.int x0), .val (.int x1), .val (.int x2), .val (.int x3), .val (.long x4), .second, .unset, .unset, .unset, .unset, .unset, .unset, .unset, .unset, .unset, .unset, .unset, .unset, .unset, .unset, .unset, .unset, .unset, .unset, .unset, .unset, .unset] []) := by first | (simp [entryFrame, mkF, argsToLocals, Value.category, maxLocals]; done) | rfl
def Q0 (Z : State) (h0 : Heap) (n0 : Nat) (v : Option Value) (h : Heap) (L : List Loc) : Prop := v = some (.int 1) ∧ Fr n0 L
set_option maxRecDepth 65536 in
set_option maxHeartbeats 400000000 in
theorem rm0 (l : Launch) (Z : State) (a0 : Array Value) (hw : ∀ d ∈ tables_1, d.before a0 Z = true) (ws : List Jvm.Cond) (p0 : Int32) (p1 : Int32) (p2 : Int32) (p3 : Int32) (p4 : Int64) (h0 : Heap) (n0 : Nat) (Z0 : n0 ≤ h0.size)  :
    MetFree l x (head1 (Jvm.Cond.code x code maxLocals ret :: ws) room_1) (fun a U => a = #[(.int p0), (.int p1), (.int p2), (.int p3), (.long p4)] ∧ Z.Warmed39 U.vm ∧ U.heap = h0) (fun _ _ _ _ _ => True) (fun _ U o U' => ∃ v L, o = .returned v ∧ Q0 Z h0 n0 v U'.heap L ∧ FrameEnd U o U' L room_1.cells room_1.slots) := by
  refine MetFree.of_bodySF (plainFor_of_name pn_1) hisR ?_
  intro p e s m args below meth c s₁ Bd hml0 hP hK
  obtain ⟨rfl, hZ, hh⟩ := hP
  have hx := Bd.exec
  have hby := Bd.bytes
  have hml : c.maxLocals = 27 := hml0
  have hown : s.vm.findClass "com/example/circlerank/circlerank/generate/AliasTableBuildPinLaw" = some m.cls := findClass_of_methodNamed Bd.named
  have hnm := (name_of_methodNamed Bd.named Bd.method).1
  have X0 : Stand p l e room_1 s m #[(.int p0), (.int p1), (.int p2), (.int p3), (.long p4)] below meth c s₁ [] 0 0 := Stand.of_body Bd
  have e0 : s₁.heap = h0 := by rw [← hh, Bd.state]; rfl
  have N0 := Fr.nil n0
  let ST : State := (s₁.setTop (entryFrame m #[(.int p0), (.int p1), (.int p2), (.int p3), (.long p4)] maxLocals))
  have pre0 : ∀ t, Steps p.tables e below (s₁.setTop (mkF m 0 #[.val (.int p0), .val (.int p1), .val (.int p2), .val (.int p3), .val (.long p4), .second, .unset, .unset, .unset, .unset, .unset, .unset, .unset, .unset, .unset, .unset, .unset, .unset, .unset, .unset, .unset, .unset, .unset, .unset, .unset, .unset, .unset] [])) t → Steps p.tables e below ST t := fun t k => castTop (ef_0 m p0 p1 p2 p3 p4) k
  let LL1 : Array Slot := #[.val (.int p0), .val (.int p1), .val (.int p2), .val (.int p3), .val (.long p4), .second, .unset, .unset, .unset, .unset, .unset, .unset, .unset, .unset, .unset, .unset, .unset, .unset, .unset, .unset, .unset, .unset, .unset, .unset, .unset, .unset, .unset]
  obtain ⟨j2, h_j2⟩ : ∃ z : Int64, z = ((((p0 &&& (65535 : Int32)) + (1 : Int32))).toInt64) := ⟨_, rfl⟩
  let LL3 : Array Slot := #[.val (.int p0), .val (.int p1), .val (.int p2), .val (.int p3), .val (.long p4), .second, .val (.long j2), .second, .unset, .unset, .unset, .unset, .unset, .unset, .unset, .unset, .unset, .unset, .unset, .unset, .unset, .unset, .unset, .unset, .unset, .unset, .unset]
  obtain ⟨j4, h_j4⟩ : ∃ z : Int64, z = ((((p1 &&& (65535 : Int32)) + (1 : Int32))).toInt64) := ⟨_, rfl⟩
  let LL5 : Array Slot := #[.val (.int p0), .val (.int p1), .val (.int p2), .val (.int p3), .val (.long p4), .second, .val (.long j2), .second, .val (.long j4), .second, .unset, .unset, .unset, .unset, .unset, .unset, .unset, .unset, .unset, .unset, .unset, .unset, .unset, .unset, .unset, .unset, .unset]
  obtain ⟨j6, h_j6⟩ : ∃ z : Int64, z = ((((p2 &&& (65535 : Int32)) + (1 : Int32))).toInt64) := ⟨_, rfl⟩
  let LL7 : Array Slot := #[.val (.int p0), .val (.int p1), .val (.int p2), .val (.int p3), .val (.long p4), .second, .val (.long j2), .second, .val (.long j4), .second, .val (.long j6), .second, .unset, .unset, .unset, .unset, .unset, .unset, .unset, .unset, .unset, .unset, .unset, .unset, .unset, .unset, .unset]
  have P8 : ∀ t, Steps p.tables e below (s₁.setTop (mkF m 30 LL7 [(.int (p3 &&& (1 : Int32)))])) t → Steps p.tables e below ST t := by
    intro t kk
    refine pre0 _ ?_
    show Steps _ _ _ (s₁.setTop (mkF m 0 LL1 [])) _
    refine XS.iloadN X0.here hx rfl (hb hby at_0) rfl ?_
    show Steps _ _ _ (s₁.setTop (mkF m 1 LL1 [(.int p0)])) _
    refine X0.ldcInt hx hown (mvT hZ (hw _ (List.mem_of_getElem? (i := 0) rfl))) (g := (mkF m 1 LL1 [(.int p0)])) rfl (hb hby at_1) _ ?_
    show Steps _ _ _ (s₁.setTop (mkF m 3 LL1 [(.int 65535), (.int p0)])) _
    refine XS.iand X0.here hx rfl (hb hby at_3) rfl ?_
    show Steps _ _ _ (s₁.setTop (mkF m 4 LL1 [(.int (p0 &&& (65535 : Int32)))])) _
    refine XS.iconst X0.here hx rfl (hb hby at_4) ?_
    show Steps _ _ _ (s₁.setTop (mkF m 5 LL1 [(.int 1), (.int (p0 &&& (65535 : Int32)))])) _
    refine XS.iadd X0.here hx rfl (hb hby at_5) rfl ?_
    show Steps _ _ _ (s₁.setTop (mkF m 6 LL1 [(.int ((p0 &&& (65535 : Int32)) + (1 : Int32)))])) _
    refine XS.i2l X0.here hx rfl (hb hby at_6) rfl ?_
    show Steps _ _ _ (s₁.setTop (mkF m 7 LL1 [(.long ((((p0 &&& (65535 : Int32)) + (1 : Int32))).toInt64))])) _
    rw [← h_j2]
    show Steps _ _ _ (s₁.setTop (mkF m 7 LL1 [(.long j2)])) _
    refine XS.lstore X0.here hx rfl (hb hby at_7) rfl (l' := LL3) rfl ?_
    show Steps _ _ _ (s₁.setTop (mkF m 9 LL3 [])) _
    refine XS.iloadN X0.here hx rfl (hb hby at_9) rfl ?_
    show Steps _ _ _ (s₁.setTop (mkF m 10 LL3 [(.int p1)])) _
    refine X0.ldcInt hx hown (mvT hZ (hw _ (List.mem_of_getElem? (i := 0) rfl))) (g := (mkF m 10 LL3 [(.int p1)])) rfl (hb hby at_10) _ ?_
    show Steps _ _ _ (s₁.setTop (mkF m 12 LL3 [(.int 65535), (.int p1)])) _
    refine XS.iand X0.here hx rfl (hb hby at_12) rfl ?_
    show Steps _ _ _ (s₁.setTop (mkF m 13 LL3 [(.int (p1 &&& (65535 : Int32)))])) _
    refine XS.iconst X0.here hx rfl (hb hby at_13) ?_
    show Steps _ _ _ (s₁.setTop (mkF m 14 LL3 [(.int 1), (.int (p1 &&& (65535 : Int32)))])) _
    refine XS.iadd X0.here hx rfl (hb hby at_14) rfl ?_
    show Steps _ _ _ (s₁.setTop (mkF m 15 LL3 [(.int ((p1 &&& (65535 : Int32)) + (1 : Int32)))])) _
    refine XS.i2l X0.here hx rfl (hb hby at_15) rfl ?_
    show Steps _ _ _ (s₁.setTop (mkF m 16 LL3 [(.long ((((p1 &&& (65535 : Int32)) + (1 : Int32))).toInt64))])) _
    rw [← h_j4]
    show Steps _ _ _ (s₁.setTop (mkF m 16 LL3 [(.long j4)])) _
    refine XS.lstore X0.here hx rfl (hb hby at_16) rfl (l' := LL5) rfl ?_
    show Steps _ _ _ (s₁.setTop (mkF m 18 LL5 [])) _
    refine XS.iloadN X0.here hx rfl (hb hby at_18) rfl ?_
    show Steps _ _ _ (s₁.setTop (mkF m 19 LL5 [(.int p2)])) _
    refine X0.ldcInt hx hown (mvT hZ (hw _ (List.mem_of_getElem? (i := 0) rfl))) (g := (mkF m 19 LL5 [(.int p2)])) rfl (hb hby at_19) _ ?_
    show Steps _ _ _ (s₁.setTop (mkF m 21 LL5 [(.int 65535), (.int p2)])) _
    refine XS.iand X0.here hx rfl (hb hby at_21) rfl ?_
    show Steps _ _ _ (s₁.setTop (mkF m 22 LL5 [(.int (p2 &&& (65535 : Int32)))])) _
    refine XS.iconst X0.here hx rfl (hb hby at_22) ?_
    show Steps _ _ _ (s₁.setTop (mkF m 23 LL5 [(.int 1), (.int (p2 &&& (65535 : Int32)))])) _
    refine XS.iadd X0.here hx rfl (hb hby at_23) rfl ?_
    show Steps _ _ _ (s₁.setTop (mkF m 24 LL5 [(.int ((p2 &&& (65535 : Int32)) + (1 : Int32)))])) _
    refine XS.i2l X0.here hx rfl (hb hby at_24) rfl ?_
    show Steps _ _ _ (s₁.setTop (mkF m 25 LL5 [(.long ((((p2 &&& (65535 : Int32)) + (1 : Int32))).toInt64))])) _
    rw [← h_j6]
    show Steps _ _ _ (s₁.setTop (mkF m 25 LL5 [(.long j6)])) _
    refine XS.lstore X0.here hx rfl (hb hby at_25) rfl (l' := LL7) rfl ?_
    show Steps _ _ _ (s₁.setTop (mkF m 27 LL7 [])) _
    refine XS.iloadN X0.here hx rfl (hb hby at_27) rfl ?_
    show Steps _ _ _ (s₁.setTop (mkF m 28 LL7 [(.int p3)])) _
    refine XS.iconst X0.here hx rfl (hb hby at_28) ?_
    show Steps _ _ _ (s₁.setTop (mkF m 29 LL7 [(.int 1), (.int p3)])) _
    refine XS.iand X0.here hx rfl (hb hby at_29) rfl ?_
    show Steps _ _ _ (s₁.setTop (mkF m 30 LL7 [(.int (p3 &&& (1 : Int32)))])) _
    exact kk
  by_cases c9 : (p3 &&& (1 : Int32)) = (0 : Int32)
  · skip
    let LL10 : Array Slot := #[.val (.int p0), .val (.int p1), .val (.int p2), .val (.int p3), .val (.long p4), .second, .val (.long j2), .second, .val (.long j4), .second, .val (.long j6), .second, .val (.int 0), .unset, .unset, .unset, .unset, .unset, .unset, .unset, .unset, .unset, .unset, .unset, .unset, .unset, .unset]
    have P11 : ∀ t, Steps p.tables e below (s₁.setTop (mkF m 43 LL10 [(.int (p3 &&& (2 : Int32)))])) t → Steps p.tables e below ST t := by
      intro t kk
      refine P8 _ ?_
      show Steps _ _ _ (s₁.setTop (mkF m 30 LL7 [(.int (p3 &&& (1 : Int32)))])) _
      refine XS.ifYes X0.here hx rfl (pc0 := 30) (pc' := 37) rfl (hb hby at_30) rfl (XT.i0_eq_t c9) (by decide) (by decide) ?_
      show Steps _ _ _ (s₁.setTop (mkF m 37 LL7 [])) _
      refine XS.iconst X0.here hx rfl (hb hby at_37) ?_
      show Steps _ _ _ (s₁.setTop (mkF m 38 LL7 [(.int 0)])) _
      refine XS.istore X0.here hx rfl (hb hby at_38) rfl (l' := LL10) rfl ?_
      show Steps _ _ _ (s₁.setTop (mkF m 40 LL10 [])) _
      refine XS.iloadN X0.here hx rfl (hb hby at_40) rfl ?_
      show Steps _ _ _ (s₁.setTop (mkF m 41 LL10 [(.int p3)])) _
      refine XS.iconst X0.here hx rfl (hb hby at_41) ?_
      show Steps _ _ _ (s₁.setTop (mkF m 42 LL10 [(.int 2), (.int p3)])) _
      refine XS.iand X0.here hx rfl (hb hby at_42) rfl ?_
      show Steps _ _ _ (s₁.setTop (mkF m 43 LL10 [(.int (p3 &&& (2 : Int32)))])) _
      exact kk
    obtain ⟨i12, h_i12, P13⟩ : ∃ (i12 : Int32), i12 = (if (p3 &&& (2 : Int32)) = (0 : Int32) then (0 : Int32) else (1 : Int32)) ∧ ∀ t, Steps p.tables e below (s₁.setTop (mkF m 51 #[.val (.int p0), .val (.int p1), .val (.int p2), .val (.int p3), .val (.long p4), .second, .val (.long j2), .second, .val (.long j4), .second, .val (.long j6), .second, .val (.int 0), .unset, .unset, .unset, .unset, .unset, .unset, .unset, .unset, .unset, .unset, .unset, .unset, .unset, .unset] [(.int i12)])) t → Steps p.tables e below ST t := by
      by_cases c14 : (p3 &&& (2 : Int32)) = (0 : Int32)
      · skip
        refine ⟨(0 : Int32), ((if_pos c14).trans rfl).symm, fun t kk => P11 t ?_⟩
        show Steps _ _ _ (s₁.setTop (mkF m 43 LL10 [(.int (p3 &&& (2 : Int32)))])) _
        refine XS.ifYes X0.here hx rfl (pc0 := 43) (pc' := 50) rfl (hb hby at_43) rfl (XT.i0_eq_t c14) (by decide) (by decide) ?_
        show Steps _ _ _ (s₁.setTop (mkF m 50 LL10 [])) _
        refine XS.iconst X0.here hx rfl (hb hby at_50) ?_
        show Steps _ _ _ (s₁.setTop (mkF m 51 LL10 [(.int 0)])) _
        exact kk
      · skip
        refine ⟨(1 : Int32), ((if_neg c14).trans rfl).symm, fun t kk => P11 t ?_⟩
        show Steps _ _ _ (s₁.setTop (mkF m 43 LL10 [(.int (p3 &&& (2 : Int32)))])) _
        refine XS.ifNo X0.here hx rfl (hb hby at_43) rfl (XT.i0_eq_f c14) ?_
        show Steps _ _ _ (s₁.setTop (mkF m 46 LL10 [])) _
        refine XS.iconst X0.here hx rfl (hb hby at_46) ?_
        show Steps _ _ _ (s₁.setTop (mkF m 47 LL10 [(.int 1)])) _
        refine XS.goto X0.here hx rfl (pc0 := 47) (pc' := 51) rfl (hb hby at_47) (by decide) (by decide) ?_
        show Steps _ _ _ (s₁.setTop (mkF m 51 LL10 [(.int 1)])) _
        exact kk
    let LL15 : Array Slot := #[.val (.int p0), .val (.int p1), .val (.int p2), .val (.int p3), .val (.long p4), .second, .val (.long j2), .second, .val (.long j4), .second, .val (.long j6), .second, .val (.int 0), .val (.int i12), .unset, .unset, .unset, .unset, .unset, .unset, .unset, .unset, .unset, .unset, .unset, .unset, .unset]
    let LL16 : Array Slot := #[.val (.int p0), .val (.int p1), .val (.int p2), .val (.int p3), .val (.long p4), .second, .val (.long j2), .second, .val (.long j4), .second, .val (.long j6), .second, .val (.int 0), .val (.int i12), .val (.int 0), .unset, .unset, .unset, .unset, .unset, .unset, .unset, .unset, .unset, .unset, .unset, .unset]
    let LL17 : Array Slot := #[.val (.int p0), .val (.int p1), .val (.int p2), .val (.int p3), .val (.long p4), .second, .val (.long j2), .second, .val (.long j4), .second, .val (.long j6), .second, .val (.int 0), .val (.int i12), .val (.int 0), .val (.int 2), .unset, .unset, .unset, .unset, .unset, .unset, .unset, .unset, .unset, .unset, .unset]
    obtain ⟨T18, h18, k18, X18, e18, E18, A18, st18⟩ := newP X0 hx hZ (hw _ (List.mem_of_getElem? (i := 1) rfl)) e0 (g := (mkF m 78 LL17 [(.int 3)])) rfl (hb hby at_78) rfl (by decide) (cap := 3) (by decide) (by decide) (by decide) (by decide)
    obtain ⟨b18, g_b18⟩ : ∃ z, z = h0.size := ⟨_, rfl⟩
    rw [← g_b18] at A18 st18
    have ge_b18 : n0 ≤ b18 := Nat.le_trans Z0 (Nat.le_of_eq g_b18.symm)
    have sz_b18 : h0.size ≤ b18 := Nat.le_trans (Keep.refl h0 []).1 (Nat.le_of_eq g_b18.symm)
    have V18 : Arv Z h18 b18 k18 .double (3 : Int32) [(.double (0 : UInt64)), (.double (0 : UInt64)), (.double (0 : UInt64))] (.double (0 : UInt64)) := (Arv.new A18 (by decide)).pad (pad_rep [] (.double (0 : UInt64)) 3)
    let LL19 : Array Slot := #[.val (.int p0), .val (.int p1), .val (.int p2), .val (.int p3), .val (.long p4), .second, .val (.long j2), .second, .val (.long j4), .second, .val (.long j6), .second, .val (.int 0), .val (.int i12), .val (.int 0), .val (.int 2), .val (.ref b18), .unset, .unset, .unset, .unset, .unset, .unset, .unset, .unset, .unset, .unset]
    obtain ⟨cl_a20, Ar_a20, q_a20, S_a20, N_a20, H_a20, G_a20⟩ := id V18
    have hin_a20 : ¬ ((0 : Int32) < 0 ∨ cl_a20.slots.size ≤ ((0 : Int32)).toNatClampNeg) := inb_of S_a20 ⟨by decide, by decide⟩
    obtain ⟨T21, h21, X21, e21, W21, st21⟩ := stD X18 hx hZ e18 Ar_a20 (j := (0 : Int32)) hin_a20 (g := (mkF m 89 LL19 [(.double (FP.l2d j2)), (.int 0), (.ref b18)])) rfl rfl (hb hby at_89)
    have V21 : Arv Z h21 b18 k18 .double (3 : Int32) [(.double (FP.l2d j2)), (.double (0 : UInt64)), (.double (0 : UInt64))] (.double (0 : UInt64)) := Arv.set Ar_a20 q_a20 S_a20 N_a20 H_a20 G_a20 rfl W21 0 rfl (Nat.le_of_ble_eq_true rfl)
    have N21 := Fr.snoc X21 N0 ge_b18
    obtain ⟨cl_a22, Ar_a22, q_a22, S_a22, N_a22, H_a22, G_a22⟩ := id V21
    have hin_a22 : ¬ ((1 : Int32) < 0 ∨ cl_a22.slots.size ≤ ((1 : Int32)).toNatClampNeg) := inb_of S_a22 ⟨by decide, by decide⟩
    obtain ⟨T23, h23, X23, e23, W23, st23⟩ := stD X21 hx hZ e21 Ar_a22 (j := (1 : Int32)) hin_a22 (g := (mkF m 99 LL19 [(.double (FP.l2d j4)), (.int 1), (.ref b18)])) rfl rfl (hb hby at_99)
    have V23 : Arv Z h23 b18 k18 .double (3 : Int32) [(.double (FP.l2d j2)), (.double (FP.l2d j4)), (.double (0 : UInt64))] (.double (0 : UInt64)) := Arv.set Ar_a22 q_a22 S_a22 N_a22 H_a22 G_a22 rfl W23 1 rfl (Nat.le_of_ble_eq_true rfl)
    have N23 := Fr.snoc X23 N21 ge_b18
    obtain ⟨cl_a24, Ar_a24, q_a24, S_a24, N_a24, H_a24, G_a24⟩ := id V23
    have hin_a24 : ¬ ((2 : Int32) < 0 ∨ cl_a24.slots.size ≤ ((2 : Int32)).toNatClampNeg) := inb_of S_a24 ⟨by decide, by decide⟩
    obtain ⟨T25, h25, X25, e25, W25, st25⟩ := stD X23 hx hZ e23 Ar_a24 (j := (2 : Int32)) hin_a24 (g := (mkF m 107 LL19 [(.double (FP.l2d j6)), (.int 2), (.ref b18)])) rfl rfl (hb hby at_107)
    have V25 : Arv Z h25 b18 k18 .double (3 : Int32) [(.double (FP.l2d j2)), (.double (FP.l2d j4)), (.double (FP.l2d j6))] (.double (0 : UInt64)) := Arv.set Ar_a24 q_a24 S_a24 N_a24 H_a24 G_a24 rfl W25 2 rfl (Nat.le_of_ble_eq_true rfl)
    have N25 := Fr.snoc X25 N23 ge_b18
    have P26 : ∀ t, Steps p.tables e below (T25.setTop (mkF m 109 LL19 [(.int 2)])) t → Steps p.tables e below ST t := by
      intro t kk
      refine P13 _ ?_
      show Steps _ _ _ (s₁.setTop (mkF m 51 LL10 [(.int i12)])) _
      refine XS.istore X0.here hx rfl (hb hby at_51) rfl (l' := LL15) rfl ?_
      show Steps _ _ _ (s₁.setTop (mkF m 53 LL15 [])) _
      refine XS.iload X0.here hx rfl (hb hby at_53) rfl ?_
      show Steps _ _ _ (s₁.setTop (mkF m 55 LL15 [(.int 0)])) _
      refine XS.ifYes X0.here hx rfl (pc0 := 55) (pc' := 62) rfl (hb hby at_55) rfl (XT.i0_eq_t rfl) (by decide) (by decide) ?_
      show Steps _ _ _ (s₁.setTop (mkF m 62 LL15 [])) _
      refine XS.iconst X0.here hx rfl (hb hby at_62) ?_
      show Steps _ _ _ (s₁.setTop (mkF m 63 LL15 [(.int 0)])) _
      refine XS.istore X0.here hx rfl (hb hby at_63) rfl (l' := LL16) rfl ?_
      show Steps _ _ _ (s₁.setTop (mkF m 65 LL16 [])) _
      refine XS.iload X0.here hx rfl (hb hby at_65) rfl ?_
      show Steps _ _ _ (s₁.setTop (mkF m 67 LL16 [(.int 0)])) _
      refine XS.ifYes X0.here hx rfl (pc0 := 67) (pc' := 74) rfl (hb hby at_67) rfl (XT.i0_eq_t rfl) (by decide) (by decide) ?_
      show Steps _ _ _ (s₁.setTop (mkF m 74 LL16 [])) _
      refine XS.iconst X0.here hx rfl (hb hby at_74) ?_
      show Steps _ _ _ (s₁.setTop (mkF m 75 LL16 [(.int 2)])) _
      refine XS.istore X0.here hx rfl (hb hby at_75) rfl (l' := LL17) rfl ?_
      show Steps _ _ _ (s₁.setTop (mkF m 77 LL17 [])) _
      refine XS.iconst X0.here hx rfl (hb hby at_77) ?_
      show Steps _ _ _ (s₁.setTop (mkF m 78 LL17 [(.int 3)])) _
      refine st18 _ ?_
      show Steps _ _ _ (T18.setTop (mkF m 80 LL17 [(.ref b18)])) _
      refine XS.astore X18.here hx rfl (hb hby at_80) rfl rfl (l' := LL19) rfl ?_
      show Steps _ _ _ (T18.setTop (mkF m 82 LL19 [])) _
      refine XS.aload X18.here hx rfl (hb hby at_82) rfl rfl ?_
      show Steps _ _ _ (T18.setTop (mkF m 84 LL19 [(.ref b18)])) _
      refine XS.iload X18.here hx rfl (hb hby at_84) rfl ?_
      show Steps _ _ _ (T18.setTop (mkF m 86 LL19 [(.int 0), (.ref b18)])) _
      refine XS.lload X18.here hx rfl (hb hby at_86) rfl ?_
      show Steps _ _ _ (T18.setTop (mkF m 88 LL19 [(.long j2), (.int 0), (.ref b18)])) _
      refine XS.l2dS X18.here hx rfl (hb hby at_88) rfl rfl ?_
      show Steps _ _ _ (T18.setTop (mkF m 89 LL19 [(.double (FP.l2d j2)), (.int 0), (.ref b18)])) _
      refine st21 _ ?_
      show Steps _ _ _ (T21.setTop (mkF m 90 LL19 [])) _
      refine XS.aload X21.here hx rfl (hb hby at_90) rfl rfl ?_
      show Steps _ _ _ (T21.setTop (mkF m 92 LL19 [(.ref b18)])) _
      refine XS.iload X21.here hx rfl (hb hby at_92) rfl ?_
      show Steps _ _ _ (T21.setTop (mkF m 94 LL19 [(.int 0), (.ref b18)])) _
      refine XS.iconst X21.here hx rfl (hb hby at_94) ?_
      show Steps _ _ _ (T21.setTop (mkF m 95 LL19 [(.int 1), (.int 0), (.ref b18)])) _
      refine XS.iadd X21.here hx rfl (hb hby at_95) rfl ?_
      show Steps _ _ _ (T21.setTop (mkF m 96 LL19 [(.int 1), (.ref b18)])) _
      refine XS.lload X21.here hx rfl (hb hby at_96) rfl ?_
      show Steps _ _ _ (T21.setTop (mkF m 98 LL19 [(.long j4), (.int 1), (.ref b18)])) _
      refine XS.l2dS X21.here hx rfl (hb hby at_98) rfl rfl ?_
      show Steps _ _ _ (T21.setTop (mkF m 99 LL19 [(.double (FP.l2d j4)), (.int 1), (.ref b18)])) _
      refine st23 _ ?_
      show Steps _ _ _ (T23.setTop (mkF m 100 LL19 [])) _
      refine XS.aload X23.here hx rfl (hb hby at_100) rfl rfl ?_
      show Steps _ _ _ (T23.setTop (mkF m 102 LL19 [(.ref b18)])) _
      refine XS.iload X23.here hx rfl (hb hby at_102) rfl ?_
      show Steps _ _ _ (T23.setTop (mkF m 104 LL19 [(.int 2), (.ref b18)])) _
      refine XS.lload X23.here hx rfl (hb hby at_104) rfl ?_
      show Steps _ _ _ (T23.setTop (mkF m 106 LL19 [(.long j6), (.int 2), (.ref b18)])) _
      refine XS.l2dS X23.here hx rfl (hb hby at_106) rfl rfl ?_
      show Steps _ _ _ (T23.setTop (mkF m 107 LL19 [(.double (FP.l2d j6)), (.int 2), (.ref b18)])) _
      refine st25 _ ?_
      show Steps _ _ _ (T25.setTop (mkF m 108 LL19 [])) _
      refine XS.iconst X25.here hx rfl (hb hby at_108) ?_
      show Steps _ _ _ (T25.setTop (mkF m 109 LL19 [(.int 2)])) _
      exact kk
    obtain ⟨T27, h27, k27, X27, e27, E27, A27, st27⟩ := newP X25 hx hZ (hw _ (List.mem_of_getElem? (i := 2) rfl)) e25 (g := (mkF m 109 LL19 [(.int 2)])) rfl (hb hby at_109) rfl (by decide) (cap := 2) (by decide) (by decide) (by decide) (by decide)
    have z28 : n0 ≤ _ := (Nat.le_trans (Nat.le_trans (Nat.le_trans (Nat.le_trans Z0 E18.1) (Keep.of_wr W21).1) (Keep.of_wr W23).1) (Keep.of_wr W25).1)
    have k29 : Keep h0 h25 [] := (Keep.wr (Keep.wr (Keep.wr (Keep.ext (Keep.refl h0 []) E18) W21 (Or.inr sz_b18)) W23 (Or.inr sz_b18)) W25 (Or.inr sz_b18))
    obtain ⟨b27, g_b27⟩ : ∃ z, z = h25.size := ⟨_, rfl⟩
    rw [← g_b27] at A27 st27
    have ne_b18_b27 : b18 ≠ b27 := Nat.ne_of_lt (Nat.lt_of_lt_of_le V25.lt (Nat.le_of_eq g_b27.symm))
    have ge_b27 : n0 ≤ b27 := Nat.le_trans z28 (Nat.le_of_eq g_b27.symm)
    have sz_b27 : h0.size ≤ b27 := Nat.le_trans k29.1 (Nat.le_of_eq g_b27.symm)
    have V27 : Arv Z h27 b27 k27 .int (2 : Int32) [(.int 0), (.int 0)] (.int 0) := (Arv.new A27 (by decide)).pad (pad_rep [] (.int 0) 2)
    let LL30 : Array Slot := #[.val (.int p0), .val (.int p1), .val (.int p2), .val (.int p3), .val (.long p4), .second, .val (.long j2), .second, .val (.long j4), .second, .val (.long j6), .second, .val (.int 0), .val (.int i12), .val (.int 0), .val (.int 2), .val (.ref b18), .val (.ref b27), .unset, .unset, .unset, .unset, .unset, .unset, .unset, .unset, .unset]
    obtain ⟨T31, h31, X31, e31, E31, A31, D31, -, st31⟩ := newO X27 hx hZ hown (hw _ (List.mem_of_getElem? (i := 3) rfl)) (hw _ (List.mem_of_getElem? (i := 4) rfl)) (hw _ (List.mem_of_getElem? (i := 5) rfl)) e27 (g := (mkF m 113 LL30 [])) rfl (hb hby at_113) (by decide) (by decide)
    have f32 := (V25.ext E27)
    have z33 : n0 ≤ _ := (Nat.le_trans z28 E27.1)
    have k34 : Keep h0 h27 [] := (Keep.ext k29 E27)
    obtain ⟨b31, g_b31⟩ : ∃ z, z = h27.size := ⟨_, rfl⟩
    rw [← g_b31] at A31 D31 st31
    have ne_b18_b31 : b18 ≠ b31 := Nat.ne_of_lt (Nat.lt_of_lt_of_le f32.lt (Nat.le_of_eq g_b31.symm))
    have ne_b27_b31 : b27 ≠ b31 := Nat.ne_of_lt (Nat.lt_of_lt_of_le V27.lt (Nat.le_of_eq g_b31.symm))
    have ge_b31 : n0 ≤ b31 := Nat.le_trans z33 (Nat.le_of_eq g_b31.symm)
    have sz_b31 : h0.size ≤ b31 := Nat.le_trans k34.1 (Nat.le_of_eq g_b31.symm)
    have F31_13 : Fld Z h31 b31 "com/example/circlerank/circlerank/generate/AliasTable" "threshold" "[D" .null := D31 (Or.inr (hw _ (List.mem_of_getElem? (i := 13) rfl))) (ty := (.array .double)) (by decide)
    have F31_15 : Fld Z h31 b31 "com/example/circlerank/circlerank/generate/AliasTable" "alias" "[I" .null := D31 (Or.inr (hw _ (List.mem_of_getElem? (i := 15) rfl))) (ty := (.array .int)) (by decide)
    have z36 : n0 ≤ _ := (Nat.le_trans z33 E31.1)
    obtain ⟨_, _, ⟨T35, L35, k35, n35⟩, -, X35, ⟨Lc35, hQ35, l35, y35, z35⟩, st35⟩ := X31.specialBack hx (y := (⟨"com/example/circlerank/circlerank/generate/AliasTable", "<init>", "(I)V"⟩ : MethodName)) rfl hown (mvT hZ (hw _ (List.mem_of_getElem? (i := 6) rfl))) (mvT hZ (hw _ (List.mem_of_getElem? (i := 7) rfl))) (mvT hZ (hw _ (List.mem_of_getElem? (i := 8) rfl))) (by decide) (backOf (W := 1) (rm1 l Z a0 hw [] b31 h31 n0 z36 A31 F31_13 F31_15 ge_b31) hZ (hw _ (List.mem_of_getElem? (i := 8) rfl)) (hw _ (List.mem_of_getElem? (i := 5) rfl)) (by decide) (by decide)) (g := (mkF m 118 LL30 [(.int 3), (.ref b31), (.ref b31)])) rfl (by rw [hml]; rfl) (Steps.refl _) (a := b31) (argsL := [(.int 3)]) (rest := [(.ref b31)]) (lenOf pd_0 rfl) rfl (by show 2 * 0 + _ ≤ _; exact Nat.le_of_eq rfl) (hb hby at_118) (fun _ _ => ⟨rfl, e31, (by decide : 3 + 2 ≤ _), (by decide : 7 + 6 ≤ _)⟩)
    dsimp only [Pt.U, Pt.locs, Pt.cells, Pt.slots] at X35 l35 y35 z35 st35 hQ35
    subst l35 y35 z35
    have f37 := (f32.ext E31)
    have f38 := (V27.ext E31)
    have k39 : Keep h0 h31 [] := (Keep.ext k34 E31)
    obtain ⟨th_35, al_35, kt_35, ka_35, rfl, Nq35, K35, q35_0, q35_1, q35_2, q35_3, q35_4, q35_5, q35_6⟩ := hQ35
    have N35 := Fr.app N25 Nq35
    have ne_b18_th_35 : b18 ≠ th_35 := Nat.ne_of_lt (Nat.lt_of_lt_of_le f37.lt q35_4)
    have ne_b27_th_35 : b27 ≠ th_35 := Nat.ne_of_lt (Nat.lt_of_lt_of_le f38.lt q35_4)
    have ne_b31_th_35 : b31 ≠ th_35 := Nat.ne_of_lt (Nat.lt_of_lt_of_le A31.lt q35_4)
    have ge_th_35 : n0 ≤ th_35 := Nat.le_trans z36 q35_4
    have sz_th_35 : h0.size ≤ th_35 := Nat.le_trans k39.1 q35_4
    have ne_b18_al_35 : b18 ≠ al_35 := Nat.ne_of_lt (Nat.lt_of_lt_of_le f37.lt q35_5)
    have ne_b27_al_35 : b27 ≠ al_35 := Nat.ne_of_lt (Nat.lt_of_lt_of_le f38.lt q35_5)
    have ne_b31_al_35 : b31 ≠ al_35 := Nat.ne_of_lt (Nat.lt_of_lt_of_le A31.lt q35_5)
    have ge_al_35 : n0 ≤ al_35 := Nat.le_trans z36 q35_5
    have sz_al_35 : h0.size ≤ al_35 := Nat.le_trans k39.1 q35_5
    let LL40 : Array Slot := #[.val (.int p0), .val (.int p1), .val (.int p2), .val (.int p3), .val (.long p4), .second, .val (.long j2), .second, .val (.long j4), .second, .val (.long j6), .second, .val (.int 0), .val (.int i12), .val (.int 0), .val (.int 2), .val (.ref b18), .val (.ref b27), .val (.ref b31), .unset, .unset, .unset, .unset, .unset, .unset, .unset, .unset]
    have P41 : ∀ t, Steps p.tables e below (T35.setTop (mkF m 125 LL40 [(.int i12)])) t → Steps p.tables e below ST t := by
      intro t kk
      refine P26 _ ?_
      show Steps _ _ _ (T25.setTop (mkF m 109 LL19 [(.int 2)])) _
      refine st27 _ ?_
      show Steps _ _ _ (T27.setTop (mkF m 111 LL19 [(.ref b27)])) _
      refine XS.astore X27.here hx rfl (hb hby at_111) rfl rfl (l' := LL30) rfl ?_
      show Steps _ _ _ (T27.setTop (mkF m 113 LL30 [])) _
      refine st31 _ ?_
      show Steps _ _ _ (T31.setTop (mkF m 116 LL30 [(.ref b31)])) _
      refine XS.dup X31.here hx rfl (hb hby at_116) rfl rfl ?_
      show Steps _ _ _ (T31.setTop (mkF m 117 LL30 [(.ref b31), (.ref b31)])) _
      refine XS.iconst X31.here hx rfl (hb hby at_117) ?_
      show Steps _ _ _ (T31.setTop (mkF m 118 LL30 [(.int 3), (.ref b31), (.ref b31)])) _
      refine st35.trans ?_
      show Steps _ _ _ (T35.setTop (mkF m 121 LL30 [(.ref b31)])) _
      refine XS.astore X35.here hx rfl (hb hby at_121) rfl rfl (l' := LL40) rfl ?_
      show Steps _ _ _ (T35.setTop (mkF m 123 LL40 [])) _
      refine XS.iload X35.here hx rfl (hb hby at_123) rfl ?_
      show Steps _ _ _ (T35.setTop (mkF m 125 LL40 [(.int i12)])) _
      exact kk
    by_cases c42 : i12 = (0 : Int32)
    · skip
      have f44 := (Exa.keep A31 K35)
      have f45 := (Arv.keep f37 K35 (ninS ne_b18_b31 nin0))
      have f46 := (Arv.keep f38 K35 (ninS ne_b27_b31 nin0))
      have z47 : n0 ≤ _ := (Nat.le_trans z36 K35.1)
      obtain ⟨cq43, kq43, q43a, q43b, q43c⟩ := isOf hZ rfl f44
      obtain ⟨_, _, ⟨T43, L43, k43, n43⟩, -, X43, ⟨Lc43, hQ43, l43, y43, z43⟩, st43⟩ := X35.virtualBack hx (y := (⟨"com/example/circlerank/circlerank/generate/AliasTable", "build", "([DII[I)V"⟩ : MethodName)) (z := (⟨"com/example/circlerank/circlerank/generate/AliasTable", "build", "([DII[I)V"⟩ : MethodName)) hown (mvT hZ (hw _ (List.mem_of_getElem? (i := 16) rfl))) (mvT hZ (hw _ (List.mem_of_getElem? (i := 17) rfl))) (notFace_of_selects (args := #[]) (mvT hZ (hw _ (List.mem_of_getElem? (i := 19) rfl)))) (mvT hZ (hw _ (List.mem_of_getElem? (i := 19) rfl))) (mvT hZ (hw _ (List.mem_of_getElem? (i := 18) rfl))) (by decide) (backOf (W := 0) (rm2 l Z a0 hw [] b31 b18 b27 j2 j4 (FP.l2d j6) th_35 al_35 k18 kt_35 ka_35 k27 (0 : UInt64) (0 : UInt64) (0 : UInt64) (0 : Int32) (0 : Int32) (0 : Int32) (0 : Int32) (0 : Int32) T35.heap n0 z47 f44 q35_0 q35_1 f45 q35_2 q35_3 f46 (own_ab p0 j2 h_j2) (own_ab p1 j4 h_j4) ge_b27 ge_th_35 ge_al_35 (Ne.symm ne_b18_b31) (Ne.symm ne_b27_b31) ne_b31_th_35 ne_b31_al_35 ne_b18_b27 ne_b18_th_35 ne_b18_al_35 ne_b27_th_35 ne_b27_al_35 q35_6) hZ (hw _ (List.mem_of_getElem? (i := 20) rfl)) (hw _ (List.mem_of_getElem? (i := 5) rfl)) (by decide) (by decide)) q43a q43c (g := (mkF m 173 LL40 [(.ref b27), (.int 2), (.int 0), (.ref b18), (.ref b31)])) rfl (by rw [hml]; rfl) (Steps.refl _) (argsL := [(.ref b18), (.int 0), (.int 2), (.ref b27)]) (rest := []) (lenOf pd_1 rfl) rfl (by show 2 * 0 + _ ≤ _; exact Nat.le_of_eq rfl) (hb hby at_173) (fun _ _ => ⟨rfl, rfl, (by decide : 5 + 0 ≤ _), (by decide : 13 + 0 ≤ _)⟩)
      dsimp only [Pt.U, Pt.locs, Pt.cells, Pt.slots] at X43 l43 y43 z43 st43 hQ43
      subst l43 y43 z43
      obtain ⟨ta_43, tb_43, la_43, lb_43, v0_43, v1_43, rfl, Nq43, K43, q43_0, q43_1, q43_2, q43_3⟩ := hQ43
      have N43 := Fr.app N35 Nq43
      have f49 := (Exa.keep f44 K43)
      have f50 := (Fld.keep q35_0 K43 (ninS ne_b31_th_35 (ninS ne_b31_al_35 (ninS (Ne.symm ne_b27_b31) nin0))))
      have f51 := (Fld.keep q35_1 K43 (ninS ne_b31_th_35 (ninS ne_b31_al_35 (ninS (Ne.symm ne_b27_b31) nin0))))
      have f52 := (Arv.keep f45 K43 (ninS ne_b18_th_35 (ninS ne_b18_al_35 (ninS ne_b18_b27 nin0))))
      have z53 : n0 ≤ _ := (Nat.le_trans z47 K43.1)
      obtain ⟨cq48, kq48, q48a, q48b, q48c⟩ := isOf hZ rfl f49
      obtain ⟨_, _, ⟨T48, L48, k48, n48⟩, -, X48, ⟨Lc48, hQ48, l48, y48, z48⟩, st48⟩ := X43.virtualBack hx (y := (⟨"com/example/circlerank/circlerank/generate/AliasTable", "build", "([DII[I)V"⟩ : MethodName)) (z := (⟨"com/example/circlerank/circlerank/generate/AliasTable", "build", "([DII[I)V"⟩ : MethodName)) hown (mvT hZ (hw _ (List.mem_of_getElem? (i := 16) rfl))) (mvT hZ (hw _ (List.mem_of_getElem? (i := 17) rfl))) (notFace_of_selects (args := #[]) (mvT hZ (hw _ (List.mem_of_getElem? (i := 19) rfl)))) (mvT hZ (hw _ (List.mem_of_getElem? (i := 19) rfl))) (mvT hZ (hw _ (List.mem_of_getElem? (i := 18) rfl))) (by decide) (backOf (W := 0) (rm3 l Z a0 hw [] b31 b18 b27 j6 (FP.l2d j2) (FP.l2d j4) th_35 al_35 k18 kt_35 ka_35 k27 ta_43 tb_43 (0 : UInt64) la_43 lb_43 (0 : Int32) v0_43 v1_43 T43.heap n0 z53 f49 f50 f51 f52 q43_0 q43_1 q43_2 (own_ab p2 j6 h_j6) ge_b27 ge_th_35 ge_al_35 (Ne.symm ne_b18_b31) (Ne.symm ne_b27_b31) ne_b31_th_35 ne_b31_al_35 ne_b18_b27 ne_b18_th_35 ne_b18_al_35 ne_b27_th_35 ne_b27_al_35 q35_6) hZ (hw _ (List.mem_of_getElem? (i := 20) rfl)) (hw _ (List.mem_of_getElem? (i := 5) rfl)) (by decide) (by decide)) q48a q48c (g := (mkF m 188 LL40 [(.ref b27), (.int 3), (.int 2), (.ref b18), (.ref b31)])) rfl (by rw [hml]; rfl) (Steps.refl _) (argsL := [(.ref b18), (.int 2), (.int 3), (.ref b27)]) (rest := []) (lenOf pd_1 rfl) rfl (by show 2 * 0 + _ ≤ _; exact Nat.le_of_eq rfl) (hb hby at_188) (fun _ _ => ⟨rfl, rfl, (by decide : 5 + 0 ≤ _), (by decide : 13 + 0 ≤ _)⟩)
      dsimp only [Pt.U, Pt.locs, Pt.cells, Pt.slots] at X48 l48 y48 z48 st48 hQ48
      subst l48 y48 z48
      obtain ⟨rfl, Nq48, K48, q48_0, q48_1, q48_2⟩ := hQ48
      have N48 := Fr.app N43 Nq48
      obtain ⟨i54, h_i54⟩ : ∃ z : Int32, z = (((((p4).toUInt64 >>> ((63 : Int32) &&& 0x3f).toInt64.toUInt64).toInt64)).toInt32) := ⟨_, rfl⟩
      let LL55 : Array Slot := #[.val (.int p0), .val (.int p1), .val (.int p2), .val (.int p3), .val (.long p4), .second, .val (.long j2), .second, .val (.long j4), .second, .val (.long j6), .second, .val (.int 0), .val (.int i12), .val (.int 0), .val (.int 2), .val (.ref b18), .val (.ref b27), .val (.ref b31), .val (.int i54), .unset, .unset, .unset, .unset, .unset, .unset, .unset]
      have P56 : ∀ t, Steps p.tables e below (T48.setTop (mkF m 199 LL55 [])) t → Steps p.tables e below ST t := by
        intro t kk
        refine P41 _ ?_
        show Steps _ _ _ (T35.setTop (mkF m 125 LL40 [(.int i12)])) _
        refine XS.ifYes X35.here hx rfl (pc0 := 125) (pc' := 161) rfl (hb hby at_125) rfl (XT.i0_eq_t c42) (by decide) (by decide) ?_
        show Steps _ _ _ (T35.setTop (mkF m 161 LL40 [])) _
        refine XS.aload X35.here hx rfl (hb hby at_161) rfl rfl ?_
        show Steps _ _ _ (T35.setTop (mkF m 163 LL40 [(.ref b31)])) _
        refine XS.aload X35.here hx rfl (hb hby at_163) rfl rfl ?_
        show Steps _ _ _ (T35.setTop (mkF m 165 LL40 [(.ref b18), (.ref b31)])) _
        refine XS.iload X35.here hx rfl (hb hby at_165) rfl ?_
        show Steps _ _ _ (T35.setTop (mkF m 167 LL40 [(.int 0), (.ref b18), (.ref b31)])) _
        refine XS.iload X35.here hx rfl (hb hby at_167) rfl ?_
        show Steps _ _ _ (T35.setTop (mkF m 169 LL40 [(.int 0), (.int 0), (.ref b18), (.ref b31)])) _
        refine XS.iconst X35.here hx rfl (hb hby at_169) ?_
        show Steps _ _ _ (T35.setTop (mkF m 170 LL40 [(.int 2), (.int 0), (.int 0), (.ref b18), (.ref b31)])) _
        refine XS.iadd X35.here hx rfl (hb hby at_170) rfl ?_
        show Steps _ _ _ (T35.setTop (mkF m 171 LL40 [(.int 2), (.int 0), (.ref b18), (.ref b31)])) _
        refine XS.aload X35.here hx rfl (hb hby at_171) rfl rfl ?_
        show Steps _ _ _ (T35.setTop (mkF m 173 LL40 [(.ref b27), (.int 2), (.int 0), (.ref b18), (.ref b31)])) _
        refine st43.trans ?_
        show Steps _ _ _ (T43.setTop (mkF m 176 LL40 [])) _
        refine XS.aload X43.here hx rfl (hb hby at_176) rfl rfl ?_
        show Steps _ _ _ (T43.setTop (mkF m 178 LL40 [(.ref b31)])) _
        refine XS.aload X43.here hx rfl (hb hby at_178) rfl rfl ?_
        show Steps _ _ _ (T43.setTop (mkF m 180 LL40 [(.ref b18), (.ref b31)])) _
        refine XS.iload X43.here hx rfl (hb hby at_180) rfl ?_
        show Steps _ _ _ (T43.setTop (mkF m 182 LL40 [(.int 2), (.ref b18), (.ref b31)])) _
        refine XS.iload X43.here hx rfl (hb hby at_182) rfl ?_
        show Steps _ _ _ (T43.setTop (mkF m 184 LL40 [(.int 2), (.int 2), (.ref b18), (.ref b31)])) _
        refine XS.iconst X43.here hx rfl (hb hby at_184) ?_
        show Steps _ _ _ (T43.setTop (mkF m 185 LL40 [(.int 1), (.int 2), (.int 2), (.ref b18), (.ref b31)])) _
        refine XS.iadd X43.here hx rfl (hb hby at_185) rfl ?_
        show Steps _ _ _ (T43.setTop (mkF m 186 LL40 [(.int 3), (.int 2), (.ref b18), (.ref b31)])) _
        refine XS.aload X43.here hx rfl (hb hby at_186) rfl rfl ?_
        show Steps _ _ _ (T43.setTop (mkF m 188 LL40 [(.ref b27), (.int 3), (.int 2), (.ref b18), (.ref b31)])) _
        refine st48.trans ?_
        show Steps _ _ _ (T48.setTop (mkF m 191 LL40 [])) _
        refine XS.lload X48.here hx rfl (hb hby at_191) rfl ?_
        show Steps _ _ _ (T48.setTop (mkF m 193 LL40 [(.long p4)])) _
        refine XS.bipush X48.here hx rfl (hb hby at_193) ?_
        show Steps _ _ _ (T48.setTop (mkF m 195 LL40 [(.int 63), (.long p4)])) _
        refine XS.lushr X48.here hx rfl (hb hby at_195) rfl ?_
        show Steps _ _ _ (T48.setTop (mkF m 196 LL40 [(.long (((p4).toUInt64 >>> ((63 : Int32) &&& 0x3f).toInt64.toUInt64).toInt64))])) _
        refine XS.l2i X48.here hx rfl (hb hby at_196) rfl ?_
        show Steps _ _ _ (T48.setTop (mkF m 197 LL40 [(.int (((((p4).toUInt64 >>> ((63 : Int32) &&& 0x3f).toInt64.toUInt64).toInt64)).toInt32))])) _
        rw [← h_i54]
        show Steps _ _ _ (T48.setTop (mkF m 197 LL40 [(.int i54)])) _
        refine XS.istore X48.here hx rfl (hb hby at_197) rfl (l' := LL55) rfl ?_
        show Steps _ _ _ (T48.setTop (mkF m 199 LL55 [])) _
        exact kk
      rcases (own_s0 p4 i54 h_i54) with hs57 | hs57
      · skip
        let LL59 : Array Slot := #[.val (.int p0), .val (.int p1), .val (.int p2), .val (.int p3), .val (.long p4), .second, .val (.long j2), .second, .val (.long j4), .second, .val (.long j6), .second, .val (.int 0), .val (.int i12), .val (.int 0), .val (.int 2), .val (.ref b18), .val (.ref b27), .val (.ref b31), .val (.int 0), .unset, .unset, .unset, .unset, .unset, .unset, .unset]
        have P58 : ∀ t, Steps p.tables e below (T48.setTop (mkF m 199 LL59 [])) t → Steps p.tables e below ST t := by
          intro t kk
          refine P56 _ ?_
          show Steps _ _ _ (T48.setTop (mkF m 199 #[.val (.int p0), .val (.int p1), .val (.int p2), .val (.int p3), .val (.long p4), .second, .val (.long j2), .second, .val (.long j4), .second, .val (.long j6), .second, .val (.int 0), .val (.int i12), .val (.int 0), .val (.int 2), .val (.ref b18), .val (.ref b27), .val (.ref b31), .val (.int i54), .unset, .unset, .unset, .unset, .unset, .unset, .unset] [])) t
          rw [hs57]
          exact kk
        let LL60 : Array Slot := #[.val (.int p0), .val (.int p1), .val (.int p2), .val (.int p3), .val (.long p4), .second, .val (.long j2), .second, .val (.long j4), .second, .val (.long j6), .second, .val (.int 0), .val (.int i12), .val (.int 0), .val (.int 2), .val (.ref b18), .val (.ref b27), .val (.ref b31), .val (.int 0), .val (.long (p4 &&& (4294967295 : Int64))), .second, .unset, .unset, .unset, .unset, .unset]
        let LL61 : Array Slot := #[.val (.int p0), .val (.int p1), .val (.int p2), .val (.int p3), .val (.long p4), .second, .val (.long j2), .second, .val (.long j4), .second, .val (.long j6), .second, .val (.int 0), .val (.int i12), .val (.int 0), .val (.int 2), .val (.ref b18), .val (.ref b27), .val (.ref b31), .val (.int 0), .val (.long (p4 &&& (4294967295 : Int64))), .second, .val (.long j2), .second, .unset, .unset, .unset]
        let LL62 : Array Slot := #[.val (.int p0), .val (.int p1), .val (.int p2), .val (.int p3), .val (.long p4), .second, .val (.long j2), .second, .val (.long j4), .second, .val (.long j6), .second, .val (.int 0), .val (.int i12), .val (.int 0), .val (.int 2), .val (.ref b18), .val (.ref b27), .val (.ref b31), .val (.int 0), .val (.long (p4 &&& (4294967295 : Int64))), .second, .val (.long j2), .second, .val (.long j4), .second, .unset]
        have P63 : ∀ t, Steps p.tables e below (T48.setTop (mkF m 240 LL62 [(.int (XT.cmpL j2 j4))])) t → Steps p.tables e below ST t := by
          intro t kk
          refine P58 _ ?_
          show Steps _ _ _ (T48.setTop (mkF m 199 LL59 [])) _
          refine XS.lload X48.here hx rfl (hb hby at_199) rfl ?_
          show Steps _ _ _ (T48.setTop (mkF m 201 LL59 [(.long p4)])) _
          refine X48.ldc2Long hx hown (mvT hZ (hw _ (List.mem_of_getElem? (i := 21) rfl))) (g := (mkF m 201 LL59 [(.long p4)])) rfl (hb hby at_201) _ ?_
          show Steps _ _ _ (T48.setTop (mkF m 204 LL59 [(.long (4294967295 : Int64)), (.long p4)])) _
          refine XS.land X48.here hx rfl (hb hby at_204) rfl ?_
          show Steps _ _ _ (T48.setTop (mkF m 205 LL59 [(.long (p4 &&& (4294967295 : Int64)))])) _
          refine XS.lstore X48.here hx rfl (hb hby at_205) rfl (l' := LL60) rfl ?_
          show Steps _ _ _ (T48.setTop (mkF m 207 LL60 [])) _
          refine XS.iload X48.here hx rfl (hb hby at_207) rfl ?_
          show Steps _ _ _ (T48.setTop (mkF m 209 LL60 [(.int 0)])) _
          refine XS.ifNo X48.here hx rfl (hb hby at_209) rfl (XT.i0_ne_f rfl) ?_
          show Steps _ _ _ (T48.setTop (mkF m 212 LL60 [])) _
          refine XS.lload X48.here hx rfl (hb hby at_212) rfl ?_
          show Steps _ _ _ (T48.setTop (mkF m 214 LL60 [(.long j2)])) _
          refine XS.goto X48.here hx rfl (pc0 := 214) (pc' := 219) rfl (hb hby at_214) (by decide) (by decide) ?_
          show Steps _ _ _ (T48.setTop (mkF m 219 LL60 [(.long j2)])) _
          refine XS.lstore X48.here hx rfl (hb hby at_219) rfl (l' := LL61) rfl ?_
          show Steps _ _ _ (T48.setTop (mkF m 221 LL61 [])) _
          refine XS.iload X48.here hx rfl (hb hby at_221) rfl ?_
          show Steps _ _ _ (T48.setTop (mkF m 223 LL61 [(.int 0)])) _
          refine XS.ifNo X48.here hx rfl (hb hby at_223) rfl (XT.i0_ne_f rfl) ?_
          show Steps _ _ _ (T48.setTop (mkF m 226 LL61 [])) _
          refine XS.lload X48.here hx rfl (hb hby at_226) rfl ?_
          show Steps _ _ _ (T48.setTop (mkF m 228 LL61 [(.long j4)])) _
          refine XS.goto X48.here hx rfl (pc0 := 228) (pc' := 233) rfl (hb hby at_228) (by decide) (by decide) ?_
          show Steps _ _ _ (T48.setTop (mkF m 233 LL61 [(.long j4)])) _
          refine XS.lstore X48.here hx rfl (hb hby at_233) rfl (l' := LL62) rfl ?_
          show Steps _ _ _ (T48.setTop (mkF m 235 LL62 [])) _
          refine XS.lload X48.here hx rfl (hb hby at_235) rfl ?_
          show Steps _ _ _ (T48.setTop (mkF m 237 LL62 [(.long j2)])) _
          refine XS.lload X48.here hx rfl (hb hby at_237) rfl ?_
          show Steps _ _ _ (T48.setTop (mkF m 239 LL62 [(.long j4), (.long j2)])) _
          refine XT.lcmp X48.here hx rfl (hb hby at_239) rfl ?_
          show Steps _ _ _ (T48.setTop (mkF m 240 LL62 [(.int (XT.cmpL j2 j4))])) _
          exact kk
        obtain ⟨i64, h_i64, P65⟩ : ∃ (i64 : Int32), i64 = (if j2 < j4 then (if ((p4 &&& (4294967295 : Int64)) * (j2 + j4)) < ((((2 : Int64) * j2) <<< ((32 : Int32) &&& 0x3f).toInt64)) then (0 : Int32) else (1 : Int32)) else (0 : Int32)) ∧ ∀ t, Steps p.tables e below (T48.setTop (mkF m 291 #[.val (.int p0), .val (.int p1), .val (.int p2), .val (.int p3), .val (.long p4), .second, .val (.long j2), .second, .val (.long j4), .second, .val (.long j6), .second, .val (.int 0), .val (.int i12), .val (.int 0), .val (.int 2), .val (.ref b18), .val (.ref b27), .val (.ref b31), .val (.int 0), .val (.long (p4 &&& (4294967295 : Int64))), .second, .val (.long j2), .second, .val (.long j4), .second, .val (.int i64)] [])) t → Steps p.tables e below ST t := by
          by_cases c66 : j2 < j4
          · skip
            have P67 : ∀ t, Steps p.tables e below (T48.setTop (mkF m 271 LL62 [(.int (XT.cmpL ((p4 &&& (4294967295 : Int64)) * (j2 + j4)) ((((2 : Int64) * j2) <<< ((32 : Int32) &&& 0x3f).toInt64))))])) t → Steps p.tables e below ST t := by
              intro t kk
              refine P63 _ ?_
              show Steps _ _ _ (T48.setTop (mkF m 240 LL62 [(.int (XT.cmpL j2 j4))])) _
              refine XS.ifYes X48.here hx rfl (pc0 := 240) (pc' := 253) rfl (hb hby at_240) rfl (XT.ll_lt_t c66) (by decide) (by decide) ?_
              show Steps _ _ _ (T48.setTop (mkF m 253 LL62 [])) _
              refine XS.lload X48.here hx rfl (hb hby at_253) rfl ?_
              show Steps _ _ _ (T48.setTop (mkF m 255 LL62 [(.long (p4 &&& (4294967295 : Int64)))])) _
              refine XS.lload X48.here hx rfl (hb hby at_255) rfl ?_
              show Steps _ _ _ (T48.setTop (mkF m 257 LL62 [(.long j2), (.long (p4 &&& (4294967295 : Int64)))])) _
              refine XS.lload X48.here hx rfl (hb hby at_257) rfl ?_
              show Steps _ _ _ (T48.setTop (mkF m 259 LL62 [(.long j4), (.long j2), (.long (p4 &&& (4294967295 : Int64)))])) _
              refine XS.ladd X48.here hx rfl (hb hby at_259) rfl ?_
              show Steps _ _ _ (T48.setTop (mkF m 260 LL62 [(.long (j2 + j4)), (.long (p4 &&& (4294967295 : Int64)))])) _
              refine XS.lmul X48.here hx rfl (hb hby at_260) rfl ?_
              show Steps _ _ _ (T48.setTop (mkF m 261 LL62 [(.long ((p4 &&& (4294967295 : Int64)) * (j2 + j4)))])) _
              refine X48.ldc2Long hx hown (mvT hZ (hw _ (List.mem_of_getElem? (i := 29) rfl))) (g := (mkF m 261 LL62 [(.long ((p4 &&& (4294967295 : Int64)) * (j2 + j4)))])) rfl (hb hby at_261) _ ?_
              show Steps _ _ _ (T48.setTop (mkF m 264 LL62 [(.long (2 : Int64)), (.long ((p4 &&& (4294967295 : Int64)) * (j2 + j4)))])) _
              refine XS.lload X48.here hx rfl (hb hby at_264) rfl ?_
              show Steps _ _ _ (T48.setTop (mkF m 266 LL62 [(.long j2), (.long (2 : Int64)), (.long ((p4 &&& (4294967295 : Int64)) * (j2 + j4)))])) _
              refine XS.lmul X48.here hx rfl (hb hby at_266) rfl ?_
              show Steps _ _ _ (T48.setTop (mkF m 267 LL62 [(.long ((2 : Int64) * j2)), (.long ((p4 &&& (4294967295 : Int64)) * (j2 + j4)))])) _
              refine XS.bipush X48.here hx rfl (hb hby at_267) ?_
              show Steps _ _ _ (T48.setTop (mkF m 269 LL62 [(.int 32), (.long ((2 : Int64) * j2)), (.long ((p4 &&& (4294967295 : Int64)) * (j2 + j4)))])) _
              refine XS.lshl X48.here hx rfl (hb hby at_269) rfl ?_
              show Steps _ _ _ (T48.setTop (mkF m 270 LL62 [(.long ((((2 : Int64) * j2) <<< ((32 : Int32) &&& 0x3f).toInt64))), (.long ((p4 &&& (4294967295 : Int64)) * (j2 + j4)))])) _
              refine XT.lcmp X48.here hx rfl (hb hby at_270) rfl ?_
              show Steps _ _ _ (T48.setTop (mkF m 271 LL62 [(.int (XT.cmpL ((p4 &&& (4294967295 : Int64)) * (j2 + j4)) ((((2 : Int64) * j2) <<< ((32 : Int32) &&& 0x3f).toInt64))))])) _
              exact kk
            by_cases c68 : ((p4 &&& (4294967295 : Int64)) * (j2 + j4)) < ((((2 : Int64) * j2) <<< ((32 : Int32) &&& 0x3f).toInt64))
            · skip
              let LL69 : Array Slot := #[.val (.int p0), .val (.int p1), .val (.int p2), .val (.int p3), .val (.long p4), .second, .val (.long j2), .second, .val (.long j4), .second, .val (.long j6), .second, .val (.int 0), .val (.int i12), .val (.int 0), .val (.int 2), .val (.ref b18), .val (.ref b27), .val (.ref b31), .val (.int 0), .val (.long (p4 &&& (4294967295 : Int64))), .second, .val (.long j2), .second, .val (.long j4), .second, .val (.int 0)]
              refine ⟨(0 : Int32), ((if_pos c66).trans ((if_pos c68).trans rfl)).symm, fun t kk => P67 t ?_⟩
              show Steps _ _ _ (T48.setTop (mkF m 271 LL62 [(.int (XT.cmpL ((p4 &&& (4294967295 : Int64)) * (j2 + j4)) ((((2 : Int64) * j2) <<< ((32 : Int32) &&& 0x3f).toInt64))))])) _
              refine XS.ifNo X48.here hx rfl (hb hby at_271) rfl (XT.ll_ge_f c68) ?_
              show Steps _ _ _ (T48.setTop (mkF m 274 LL62 [])) _
              refine XS.iload X48.here hx rfl (hb hby at_274) rfl ?_
              show Steps _ _ _ (T48.setTop (mkF m 276 LL62 [(.int 0)])) _
              refine XS.iload X48.here hx rfl (hb hby at_276) rfl ?_
              show Steps _ _ _ (T48.setTop (mkF m 278 LL62 [(.int 0), (.int 0)])) _
              refine XS.iadd X48.here hx rfl (hb hby at_278) rfl ?_
              show Steps _ _ _ (T48.setTop (mkF m 279 LL62 [(.int 0)])) _
              refine XS.goto X48.here hx rfl (pc0 := 279) (pc' := 289) rfl (hb hby at_279) (by decide) (by decide) ?_
              show Steps _ _ _ (T48.setTop (mkF m 289 LL62 [(.int 0)])) _
              refine XS.istore X48.here hx rfl (hb hby at_289) rfl (l' := LL69) rfl ?_
              show Steps _ _ _ (T48.setTop (mkF m 291 LL69 [])) _
              exact kk
            · skip
              let LL70 : Array Slot := #[.val (.int p0), .val (.int p1), .val (.int p2), .val (.int p3), .val (.long p4), .second, .val (.long j2), .second, .val (.long j4), .second, .val (.long j6), .second, .val (.int 0), .val (.int i12), .val (.int 0), .val (.int 2), .val (.ref b18), .val (.ref b27), .val (.ref b31), .val (.int 0), .val (.long (p4 &&& (4294967295 : Int64))), .second, .val (.long j2), .second, .val (.long j4), .second, .val (.int 1)]
              refine ⟨(1 : Int32), ((if_pos c66).trans ((if_neg c68).trans rfl)).symm, fun t kk => P67 t ?_⟩
              show Steps _ _ _ (T48.setTop (mkF m 271 LL62 [(.int (XT.cmpL ((p4 &&& (4294967295 : Int64)) * (j2 + j4)) ((((2 : Int64) * j2) <<< ((32 : Int32) &&& 0x3f).toInt64))))])) _
              refine XS.ifYes X48.here hx rfl (pc0 := 271) (pc' := 282) rfl (hb hby at_271) rfl (XT.ll_ge_t c68) (by decide) (by decide) ?_
              show Steps _ _ _ (T48.setTop (mkF m 282 LL62 [])) _
              refine XS.iload X48.here hx rfl (hb hby at_282) rfl ?_
              show Steps _ _ _ (T48.setTop (mkF m 284 LL62 [(.int 0)])) _
              refine XS.iconst X48.here hx rfl (hb hby at_284) ?_
              show Steps _ _ _ (T48.setTop (mkF m 285 LL62 [(.int 1), (.int 0)])) _
              refine XS.iadd X48.here hx rfl (hb hby at_285) rfl ?_
              show Steps _ _ _ (T48.setTop (mkF m 286 LL62 [(.int 1)])) _
              refine XS.iload X48.here hx rfl (hb hby at_286) rfl ?_
              show Steps _ _ _ (T48.setTop (mkF m 288 LL62 [(.int 0), (.int 1)])) _
              refine XS.isub X48.here hx rfl (hb hby at_288) rfl ?_
              show Steps _ _ _ (T48.setTop (mkF m 289 LL62 [(.int 1)])) _
              refine XS.istore X48.here hx rfl (hb hby at_289) rfl (l' := LL70) rfl ?_
              show Steps _ _ _ (T48.setTop (mkF m 291 LL70 [])) _
              exact kk
          · skip
            let LL71 : Array Slot := #[.val (.int p0), .val (.int p1), .val (.int p2), .val (.int p3), .val (.long p4), .second, .val (.long j2), .second, .val (.long j4), .second, .val (.long j6), .second, .val (.int 0), .val (.int i12), .val (.int 0), .val (.int 2), .val (.ref b18), .val (.ref b27), .val (.ref b31), .val (.int 0), .val (.long (p4 &&& (4294967295 : Int64))), .second, .val (.long j2), .second, .val (.long j4), .second, .val (.int 0)]
            refine ⟨(0 : Int32), ((if_neg c66).trans rfl).symm, fun t kk => P63 t ?_⟩
            show Steps _ _ _ (T48.setTop (mkF m 240 LL62 [(.int (XT.cmpL j2 j4))])) _
            refine XS.ifNo X48.here hx rfl (hb hby at_240) rfl (XT.ll_lt_f c66) ?_
            show Steps _ _ _ (T48.setTop (mkF m 243 LL62 [])) _
            refine XS.iload X48.here hx rfl (hb hby at_243) rfl ?_
            show Steps _ _ _ (T48.setTop (mkF m 245 LL62 [(.int 0)])) _
            refine XS.iload X48.here hx rfl (hb hby at_245) rfl ?_
            show Steps _ _ _ (T48.setTop (mkF m 247 LL62 [(.int 0), (.int 0)])) _
            refine XS.iadd X48.here hx rfl (hb hby at_247) rfl ?_
            show Steps _ _ _ (T48.setTop (mkF m 248 LL62 [(.int 0)])) _
            refine XS.istore X48.here hx rfl (hb hby at_248) rfl (l' := LL71) rfl ?_
            show Steps _ _ _ (T48.setTop (mkF m 250 LL71 [])) _
            refine XS.goto X48.here hx rfl (pc0 := 250) (pc' := 291) rfl (hb hby at_250) (by decide) (by decide) ?_
            show Steps _ _ _ (T48.setTop (mkF m 291 LL71 [])) _
            exact kk
        let LL72 : Array Slot := #[.val (.int p0), .val (.int p1), .val (.int p2), .val (.int p3), .val (.long p4), .second, .val (.long j2), .second, .val (.long j4), .second, .val (.long j6), .second, .val (.int 0), .val (.int i12), .val (.int 0), .val (.int 2), .val (.ref b18), .val (.ref b27), .val (.ref b31), .val (.int 0), .val (.long (p4 &&& (4294967295 : Int64))), .second, .val (.long j2), .second, .val (.long j4), .second, .val (.int i64)]
        have f74 := (Exa.keep f49 K48)
        have f75 := (Fld.keep f50 K48 (ninS ne_b31_th_35 (ninS ne_b31_al_35 (ninS (Ne.symm ne_b27_b31) nin0))))
        have f76 := (Fld.keep f51 K48 (ninS ne_b31_th_35 (ninS ne_b31_al_35 (ninS (Ne.symm ne_b27_b31) nin0))))
        have z77 : n0 ≤ _ := (Nat.le_trans z53 K48.1)
        obtain ⟨cq73, kq73, q73a, q73b, q73c⟩ := isOf hZ rfl f74
        obtain ⟨_, _, ⟨T73, L73, k73, n73⟩, -, X73, ⟨Lc73, hQ73, l73, y73, z73⟩, st73⟩ := X48.virtualBack hx (y := (⟨"com/example/circlerank/circlerank/generate/AliasTable", "draw", "(IIJ)I"⟩ : MethodName)) (z := (⟨"com/example/circlerank/circlerank/generate/AliasTable", "draw", "(IIJ)I"⟩ : MethodName)) hown (mvT hZ (hw _ (List.mem_of_getElem? (i := 22) rfl))) (mvT hZ (hw _ (List.mem_of_getElem? (i := 23) rfl))) (notFace_of_selects (args := #[]) (mvT hZ (hw _ (List.mem_of_getElem? (i := 25) rfl)))) (mvT hZ (hw _ (List.mem_of_getElem? (i := 25) rfl))) (mvT hZ (hw _ (List.mem_of_getElem? (i := 24) rfl))) (by decide) (backOf (W := 0) (rm4 l Z a0 hw [] b31 p4 th_35 al_35 kt_35 ka_35 ta_43 tb_43 FP.dconst1 la_43 lb_43 (2 : Int32) T48.heap n0 z77 f74 f75 f76 q48_0 q48_1 ((congrArg (fun z => (0 : Int32) + z) (own_sl2_0 p4 (h_i54.symm.trans hs57))).trans (by decide))) hZ (hw _ (List.mem_of_getElem? (i := 26) rfl)) (hw _ (List.mem_of_getElem? (i := 5) rfl)) (by decide) (by decide)) q73a q73c (g := (mkF m 301 LL72 [(.long p4), (.int 2), (.int 0), (.ref b31)])) rfl (by rw [hml]; rfl) (Steps.refl _) (argsL := [(.int 0), (.int 2), (.long p4)]) (rest := []) (lenOf pd_2 rfl) rfl (by show 2 * 0 + _ ≤ _; exact Nat.le_of_eq rfl) (hb hby at_301) (fun _ _ => ⟨rfl, rfl, (by decide : 5 + 0 ≤ _), (by decide : 13 + 0 ≤ _)⟩)
        dsimp only [Pt.U, Pt.locs, Pt.cells, Pt.slots] at X73 l73 y73 z73 st73 hQ73
        subst l73 y73 z73
        obtain ⟨rfl, Nq73, e73⟩ := hQ73
        have N73 := Fr.app N48 Nq73
        have P78 : ∀ t, Steps p.tables e below (T73.setTop (mkF m 306 LL72 [(.int i64), (.int (F4 p4 ta_43 la_43))])) t → Steps p.tables e below ST t := by
          intro t kk
          refine P65 _ ?_
          show Steps _ _ _ (T48.setTop (mkF m 291 LL72 [])) _
          refine XS.aload X48.here hx rfl (hb hby at_291) rfl rfl ?_
          show Steps _ _ _ (T48.setTop (mkF m 293 LL72 [(.ref b31)])) _
          refine XS.iload X48.here hx rfl (hb hby at_293) rfl ?_
          show Steps _ _ _ (T48.setTop (mkF m 295 LL72 [(.int 0), (.ref b31)])) _
          refine XS.iload X48.here hx rfl (hb hby at_295) rfl ?_
          show Steps _ _ _ (T48.setTop (mkF m 297 LL72 [(.int 0), (.int 0), (.ref b31)])) _
          refine XS.iconst X48.here hx rfl (hb hby at_297) ?_
          show Steps _ _ _ (T48.setTop (mkF m 298 LL72 [(.int 2), (.int 0), (.int 0), (.ref b31)])) _
          refine XS.iadd X48.here hx rfl (hb hby at_298) rfl ?_
          show Steps _ _ _ (T48.setTop (mkF m 299 LL72 [(.int 2), (.int 0), (.ref b31)])) _
          refine XS.lload X48.here hx rfl (hb hby at_299) rfl ?_
          show Steps _ _ _ (T48.setTop (mkF m 301 LL72 [(.long p4), (.int 2), (.int 0), (.ref b31)])) _
          refine st73.trans ?_
          show Steps _ _ _ (T73.setTop (mkF m 304 LL72 [(.int (F4 p4 ta_43 la_43))])) _
          refine XS.iload X73.here hx rfl (hb hby at_304) rfl ?_
          show Steps _ _ _ (T73.setTop (mkF m 306 LL72 [(.int i64), (.int (F4 p4 ta_43 la_43))])) _
          exact kk
        obtain ⟨T80, L80, X80, e80, N80, i79, h_i79, P80⟩ : ∃ (T80 : State) (L80 : List Loc), Stand p l e room_1 s m #[(.int p0), (.int p1), (.int p2), (.int p3), (.long p4)] below meth c T80 L80 5 13 ∧ T80.heap = T48.heap ∧ Fr n0 L80 ∧ ∃ (i79 : Int32), i79 = (if (F4 p4 ta_43 la_43) = i64 then (1 : Int32) else (0 : Int32)) ∧ ∀ t, Steps p.tables e below (T80.setTop (mkF m 332 #[.val (.int p0), .val (.int p1), .val (.int p2), .val (.int p3), .val (.long p4), .second, .val (.long j2), .second, .val (.long j4), .second, .val (.long j6), .second, .val (.int 0), .val (.int i12), .val (.int 0), .val (.int 2), .val (.ref b18), .val (.ref b27), .val (.ref b31), .val (.int 0), .val (.long (p4 &&& (4294967295 : Int64))), .second, .val (.long j2), .second, .val (.long j4), .second, .val (.int i64)] [(.int i79)])) t → Steps p.tables e below ST t := by
          by_cases c81 : (F4 p4 ta_43 la_43) = i64
          · skip
            obtain ⟨cq82, kq82, q82a, q82b, q82c⟩ := isOf hZ e73 f74
            obtain ⟨_, _, ⟨T82, L82, k82, n82⟩, -, X82, ⟨Lc82, hQ82, l82, y82, z82⟩, st82⟩ := X73.virtualBack hx (y := (⟨"com/example/circlerank/circlerank/generate/AliasTable", "draw", "(IIJ)I"⟩ : MethodName)) (z := (⟨"com/example/circlerank/circlerank/generate/AliasTable", "draw", "(IIJ)I"⟩ : MethodName)) hown (mvT hZ (hw _ (List.mem_of_getElem? (i := 22) rfl))) (mvT hZ (hw _ (List.mem_of_getElem? (i := 23) rfl))) (notFace_of_selects (args := #[]) (mvT hZ (hw _ (List.mem_of_getElem? (i := 25) rfl)))) (mvT hZ (hw _ (List.mem_of_getElem? (i := 25) rfl))) (mvT hZ (hw _ (List.mem_of_getElem? (i := 24) rfl))) (by decide) (backOf (W := 0) (rm6 l Z a0 hw [] b31 p4 th_35 al_35 kt_35 ka_35 ta_43 tb_43 la_43 lb_43 (2 : Int32) T48.heap n0 z77 f74 f75 f76 q48_0 q48_1 ((congrArg (fun z => (2 : Int32) + z) (own_sl1 p4)).trans (by decide))) hZ (hw _ (List.mem_of_getElem? (i := 26) rfl)) (hw _ (List.mem_of_getElem? (i := 5) rfl)) (by decide) (by decide)) q82a q82c (g := (mkF m 319 LL72 [(.long p4), (.int 3), (.int 2), (.ref b31)])) rfl (by rw [hml]; rfl) (Steps.refl _) (argsL := [(.int 2), (.int 3), (.long p4)]) (rest := []) (lenOf pd_2 rfl) rfl (by show 2 * 0 + _ ≤ _; exact Nat.le_of_eq rfl) (hb hby at_319) (fun _ _ => ⟨rfl, e73, (by decide : 5 + 0 ≤ _), (by decide : 13 + 0 ≤ _)⟩)
            dsimp only [Pt.U, Pt.locs, Pt.cells, Pt.slots] at X82 l82 y82 z82 st82 hQ82
            subst l82 y82 z82
            obtain ⟨rfl, Nq82, e82⟩ := hQ82
            have N82 := Fr.app N73 Nq82
            refine ⟨_, _, X82, e82, N82, (1 : Int32), ((if_pos c81).trans rfl).symm, fun t kk => P78 t ?_⟩
            show Steps _ _ _ (T73.setTop (mkF m 306 LL72 [(.int i64), (.int (F4 p4 ta_43 la_43))])) _
            refine XS.icmpNo X73.here hx rfl (hb hby at_306) rfl (XT.ii_ne_f c81) ?_
            show Steps _ _ _ (T73.setTop (mkF m 309 LL72 [])) _
            refine XS.aload X73.here hx rfl (hb hby at_309) rfl rfl ?_
            show Steps _ _ _ (T73.setTop (mkF m 311 LL72 [(.ref b31)])) _
            refine XS.iload X73.here hx rfl (hb hby at_311) rfl ?_
            show Steps _ _ _ (T73.setTop (mkF m 313 LL72 [(.int 2), (.ref b31)])) _
            refine XS.iload X73.here hx rfl (hb hby at_313) rfl ?_
            show Steps _ _ _ (T73.setTop (mkF m 315 LL72 [(.int 2), (.int 2), (.ref b31)])) _
            refine XS.iconst X73.here hx rfl (hb hby at_315) ?_
            show Steps _ _ _ (T73.setTop (mkF m 316 LL72 [(.int 1), (.int 2), (.int 2), (.ref b31)])) _
            refine XS.iadd X73.here hx rfl (hb hby at_316) rfl ?_
            show Steps _ _ _ (T73.setTop (mkF m 317 LL72 [(.int 3), (.int 2), (.ref b31)])) _
            refine XS.lload X73.here hx rfl (hb hby at_317) rfl ?_
            show Steps _ _ _ (T73.setTop (mkF m 319 LL72 [(.long p4), (.int 3), (.int 2), (.ref b31)])) _
            refine st82.trans ?_
            show Steps _ _ _ (T82.setTop (mkF m 322 LL72 [(.int 2)])) _
            refine XS.iload X82.here hx rfl (hb hby at_322) rfl ?_
            show Steps _ _ _ (T82.setTop (mkF m 324 LL72 [(.int 2), (.int 2)])) _
            refine XS.icmpNo X82.here hx rfl (hb hby at_324) rfl (XT.ii_ne_f rfl) ?_
            show Steps _ _ _ (T82.setTop (mkF m 327 LL72 [])) _
            refine XS.iconst X82.here hx rfl (hb hby at_327) ?_
            show Steps _ _ _ (T82.setTop (mkF m 328 LL72 [(.int 1)])) _
            refine XS.goto X82.here hx rfl (pc0 := 328) (pc' := 332) rfl (hb hby at_328) (by decide) (by decide) ?_
            show Steps _ _ _ (T82.setTop (mkF m 332 LL72 [(.int 1)])) _
            exact kk
          · skip
            refine ⟨_, _, X73, e73, N73, (0 : Int32), ((if_neg c81).trans rfl).symm, fun t kk => P78 t ?_⟩
            show Steps _ _ _ (T73.setTop (mkF m 306 LL72 [(.int i64), (.int (F4 p4 ta_43 la_43))])) _
            refine XS.icmpYes X73.here hx rfl (pc0 := 306) (pc' := 331) rfl (hb hby at_306) rfl (XT.ii_ne_t c81) (by decide) (by decide) ?_
            show Steps _ _ _ (T73.setTop (mkF m 331 LL72 [])) _
            refine XS.iconst X73.here hx rfl (hb hby at_331) ?_
            show Steps _ _ _ (T73.setTop (mkF m 332 LL72 [(.int 0)])) _
            exact kk
        have P83 : ∀ t, Steps p.tables e below (T80.setTop (mkF m 332 LL72 [(.int i79)])) t → Steps p.tables e below ST t := by
          intro t kk
          refine P80 _ ?_
          show Steps _ _ _ (T80.setTop (mkF m 332 LL72 [(.int i79)])) _
          exact kk
        obtain rfl : i79 = (1 : Int32) := (h_i79.trans (if_pos ((own_e0 p4 (own_ab p0 j2 h_j2) (own_ab p1 j4 h_j4) q43_3).trans h_i64.symm)))
        obtain ⟨fs, hr, hrun, hended, hW, hsame⟩ := X80.leave (v := some (.int 1)) (fun h => by rw [Bd.returns] at h; cases h)
        refine ⟨_, _, P83 _ ?_, hrun, hended, _, _, rfl, ?_, ⟨_, rfl⟩, hW, hsame.mono (by decide) (by decide)⟩
        · exact retN X80 hx (t := .boolean) Bd.returns (by simp) (hb hby at_332) hr
        · exact ⟨rfl, N80⟩
      · skip
        let LL85 : Array Slot := #[.val (.int p0), .val (.int p1), .val (.int p2), .val (.int p3), .val (.long p4), .second, .val (.long j2), .second, .val (.long j4), .second, .val (.long j6), .second, .val (.int 0), .val (.int i12), .val (.int 0), .val (.int 2), .val (.ref b18), .val (.ref b27), .val (.ref b31), .val (.int 1), .unset, .unset, .unset, .unset, .unset, .unset, .unset]
        have P84 : ∀ t, Steps p.tables e below (T48.setTop (mkF m 199 LL85 [])) t → Steps p.tables e below ST t := by
          intro t kk
          refine P56 _ ?_
          show Steps _ _ _ (T48.setTop (mkF m 199 #[.val (.int p0), .val (.int p1), .val (.int p2), .val (.int p3), .val (.long p4), .second, .val (.long j2), .second, .val (.long j4), .second, .val (.long j6), .second, .val (.int 0), .val (.int i12), .val (.int 0), .val (.int 2), .val (.ref b18), .val (.ref b27), .val (.ref b31), .val (.int i54), .unset, .unset, .unset, .unset, .unset, .unset, .unset] [])) t
          rw [hs57]
          exact kk
        let LL86 : Array Slot := #[.val (.int p0), .val (.int p1), .val (.int p2), .val (.int p3), .val (.long p4), .second, .val (.long j2), .second, .val (.long j4), .second, .val (.long j6), .second, .val (.int 0), .val (.int i12), .val (.int 0), .val (.int 2), .val (.ref b18), .val (.ref b27), .val (.ref b31), .val (.int 1), .val (.long (p4 &&& (4294967295 : Int64))), .second, .unset, .unset, .unset, .unset, .unset]
        let LL87 : Array Slot := #[.val (.int p0), .val (.int p1), .val (.int p2), .val (.int p3), .val (.long p4), .second, .val (.long j2), .second, .val (.long j4), .second, .val (.long j6), .second, .val (.int 0), .val (.int i12), .val (.int 0), .val (.int 2), .val (.ref b18), .val (.ref b27), .val (.ref b31), .val (.int 1), .val (.long (p4 &&& (4294967295 : Int64))), .second, .val (.long j4), .second, .unset, .unset, .unset]
        let LL88 : Array Slot := #[.val (.int p0), .val (.int p1), .val (.int p2), .val (.int p3), .val (.long p4), .second, .val (.long j2), .second, .val (.long j4), .second, .val (.long j6), .second, .val (.int 0), .val (.int i12), .val (.int 0), .val (.int 2), .val (.ref b18), .val (.ref b27), .val (.ref b31), .val (.int 1), .val (.long (p4 &&& (4294967295 : Int64))), .second, .val (.long j4), .second, .val (.long j2), .second, .unset]
        have P89 : ∀ t, Steps p.tables e below (T48.setTop (mkF m 240 LL88 [(.int (XT.cmpL j4 j2))])) t → Steps p.tables e below ST t := by
          intro t kk
          refine P84 _ ?_
          show Steps _ _ _ (T48.setTop (mkF m 199 LL85 [])) _
          refine XS.lload X48.here hx rfl (hb hby at_199) rfl ?_
          show Steps _ _ _ (T48.setTop (mkF m 201 LL85 [(.long p4)])) _
          refine X48.ldc2Long hx hown (mvT hZ (hw _ (List.mem_of_getElem? (i := 21) rfl))) (g := (mkF m 201 LL85 [(.long p4)])) rfl (hb hby at_201) _ ?_
          show Steps _ _ _ (T48.setTop (mkF m 204 LL85 [(.long (4294967295 : Int64)), (.long p4)])) _
          refine XS.land X48.here hx rfl (hb hby at_204) rfl ?_
          show Steps _ _ _ (T48.setTop (mkF m 205 LL85 [(.long (p4 &&& (4294967295 : Int64)))])) _
          refine XS.lstore X48.here hx rfl (hb hby at_205) rfl (l' := LL86) rfl ?_
          show Steps _ _ _ (T48.setTop (mkF m 207 LL86 [])) _
          refine XS.iload X48.here hx rfl (hb hby at_207) rfl ?_
          show Steps _ _ _ (T48.setTop (mkF m 209 LL86 [(.int 1)])) _
          refine XS.ifYes X48.here hx rfl (pc0 := 209) (pc' := 217) rfl (hb hby at_209) rfl (XT.i0_ne_t (by decide)) (by decide) (by decide) ?_
          show Steps _ _ _ (T48.setTop (mkF m 217 LL86 [])) _
          refine XS.lload X48.here hx rfl (hb hby at_217) rfl ?_
          show Steps _ _ _ (T48.setTop (mkF m 219 LL86 [(.long j4)])) _
          refine XS.lstore X48.here hx rfl (hb hby at_219) rfl (l' := LL87) rfl ?_
          show Steps _ _ _ (T48.setTop (mkF m 221 LL87 [])) _
          refine XS.iload X48.here hx rfl (hb hby at_221) rfl ?_
          show Steps _ _ _ (T48.setTop (mkF m 223 LL87 [(.int 1)])) _
          refine XS.ifYes X48.here hx rfl (pc0 := 223) (pc' := 231) rfl (hb hby at_223) rfl (XT.i0_ne_t (by decide)) (by decide) (by decide) ?_
          show Steps _ _ _ (T48.setTop (mkF m 231 LL87 [])) _
          refine XS.lload X48.here hx rfl (hb hby at_231) rfl ?_
          show Steps _ _ _ (T48.setTop (mkF m 233 LL87 [(.long j2)])) _
          refine XS.lstore X48.here hx rfl (hb hby at_233) rfl (l' := LL88) rfl ?_
          show Steps _ _ _ (T48.setTop (mkF m 235 LL88 [])) _
          refine XS.lload X48.here hx rfl (hb hby at_235) rfl ?_
          show Steps _ _ _ (T48.setTop (mkF m 237 LL88 [(.long j4)])) _
          refine XS.lload X48.here hx rfl (hb hby at_237) rfl ?_
          show Steps _ _ _ (T48.setTop (mkF m 239 LL88 [(.long j2), (.long j4)])) _
          refine XT.lcmp X48.here hx rfl (hb hby at_239) rfl ?_
          show Steps _ _ _ (T48.setTop (mkF m 240 LL88 [(.int (XT.cmpL j4 j2))])) _
          exact kk
        obtain ⟨i90, h_i90, P91⟩ : ∃ (i90 : Int32), i90 = (if j4 < j2 then (if ((p4 &&& (4294967295 : Int64)) * (j2 + j4)) < ((((2 : Int64) * j4) <<< ((32 : Int32) &&& 0x3f).toInt64)) then (1 : Int32) else (0 : Int32)) else (1 : Int32)) ∧ ∀ t, Steps p.tables e below (T48.setTop (mkF m 291 #[.val (.int p0), .val (.int p1), .val (.int p2), .val (.int p3), .val (.long p4), .second, .val (.long j2), .second, .val (.long j4), .second, .val (.long j6), .second, .val (.int 0), .val (.int i12), .val (.int 0), .val (.int 2), .val (.ref b18), .val (.ref b27), .val (.ref b31), .val (.int 1), .val (.long (p4 &&& (4294967295 : Int64))), .second, .val (.long j4), .second, .val (.long j2), .second, .val (.int i90)] [])) t → Steps p.tables e below ST t := by
          by_cases c92 : j4 < j2
          · skip
            have P93 : ∀ t, Steps p.tables e below (T48.setTop (mkF m 271 LL88 [(.int (XT.cmpL ((p4 &&& (4294967295 : Int64)) * (j2 + j4)) ((((2 : Int64) * j4) <<< ((32 : Int32) &&& 0x3f).toInt64))))])) t → Steps p.tables e below ST t := by
              intro t kk
              refine P89 _ ?_
              show Steps _ _ _ (T48.setTop (mkF m 240 LL88 [(.int (XT.cmpL j4 j2))])) _
              refine XS.ifYes X48.here hx rfl (pc0 := 240) (pc' := 253) rfl (hb hby at_240) rfl (XT.ll_lt_t c92) (by decide) (by decide) ?_
              show Steps _ _ _ (T48.setTop (mkF m 253 LL88 [])) _
              refine XS.lload X48.here hx rfl (hb hby at_253) rfl ?_
              show Steps _ _ _ (T48.setTop (mkF m 255 LL88 [(.long (p4 &&& (4294967295 : Int64)))])) _
              refine XS.lload X48.here hx rfl (hb hby at_255) rfl ?_
              show Steps _ _ _ (T48.setTop (mkF m 257 LL88 [(.long j2), (.long (p4 &&& (4294967295 : Int64)))])) _
              refine XS.lload X48.here hx rfl (hb hby at_257) rfl ?_
              show Steps _ _ _ (T48.setTop (mkF m 259 LL88 [(.long j4), (.long j2), (.long (p4 &&& (4294967295 : Int64)))])) _
              refine XS.ladd X48.here hx rfl (hb hby at_259) rfl ?_
              show Steps _ _ _ (T48.setTop (mkF m 260 LL88 [(.long (j2 + j4)), (.long (p4 &&& (4294967295 : Int64)))])) _
              refine XS.lmul X48.here hx rfl (hb hby at_260) rfl ?_
              show Steps _ _ _ (T48.setTop (mkF m 261 LL88 [(.long ((p4 &&& (4294967295 : Int64)) * (j2 + j4)))])) _
              refine X48.ldc2Long hx hown (mvT hZ (hw _ (List.mem_of_getElem? (i := 29) rfl))) (g := (mkF m 261 LL88 [(.long ((p4 &&& (4294967295 : Int64)) * (j2 + j4)))])) rfl (hb hby at_261) _ ?_
              show Steps _ _ _ (T48.setTop (mkF m 264 LL88 [(.long (2 : Int64)), (.long ((p4 &&& (4294967295 : Int64)) * (j2 + j4)))])) _
              refine XS.lload X48.here hx rfl (hb hby at_264) rfl ?_
              show Steps _ _ _ (T48.setTop (mkF m 266 LL88 [(.long j4), (.long (2 : Int64)), (.long ((p4 &&& (4294967295 : Int64)) * (j2 + j4)))])) _
              refine XS.lmul X48.here hx rfl (hb hby at_266) rfl ?_
              show Steps _ _ _ (T48.setTop (mkF m 267 LL88 [(.long ((2 : Int64) * j4)), (.long ((p4 &&& (4294967295 : Int64)) * (j2 + j4)))])) _
              refine XS.bipush X48.here hx rfl (hb hby at_267) ?_
              show Steps _ _ _ (T48.setTop (mkF m 269 LL88 [(.int 32), (.long ((2 : Int64) * j4)), (.long ((p4 &&& (4294967295 : Int64)) * (j2 + j4)))])) _
              refine XS.lshl X48.here hx rfl (hb hby at_269) rfl ?_
              show Steps _ _ _ (T48.setTop (mkF m 270 LL88 [(.long ((((2 : Int64) * j4) <<< ((32 : Int32) &&& 0x3f).toInt64))), (.long ((p4 &&& (4294967295 : Int64)) * (j2 + j4)))])) _
              refine XT.lcmp X48.here hx rfl (hb hby at_270) rfl ?_
              show Steps _ _ _ (T48.setTop (mkF m 271 LL88 [(.int (XT.cmpL ((p4 &&& (4294967295 : Int64)) * (j2 + j4)) ((((2 : Int64) * j4) <<< ((32 : Int32) &&& 0x3f).toInt64))))])) _
              exact kk
            by_cases c94 : ((p4 &&& (4294967295 : Int64)) * (j2 + j4)) < ((((2 : Int64) * j4) <<< ((32 : Int32) &&& 0x3f).toInt64))
            · skip
              let LL95 : Array Slot := #[.val (.int p0), .val (.int p1), .val (.int p2), .val (.int p3), .val (.long p4), .second, .val (.long j2), .second, .val (.long j4), .second, .val (.long j6), .second, .val (.int 0), .val (.int i12), .val (.int 0), .val (.int 2), .val (.ref b18), .val (.ref b27), .val (.ref b31), .val (.int 1), .val (.long (p4 &&& (4294967295 : Int64))), .second, .val (.long j4), .second, .val (.long j2), .second, .val (.int 1)]
              refine ⟨(1 : Int32), ((if_pos c92).trans ((if_pos c94).trans rfl)).symm, fun t kk => P93 t ?_⟩
              show Steps _ _ _ (T48.setTop (mkF m 271 LL88 [(.int (XT.cmpL ((p4 &&& (4294967295 : Int64)) * (j2 + j4)) ((((2 : Int64) * j4) <<< ((32 : Int32) &&& 0x3f).toInt64))))])) _
              refine XS.ifNo X48.here hx rfl (hb hby at_271) rfl (XT.ll_ge_f c94) ?_
              show Steps _ _ _ (T48.setTop (mkF m 274 LL88 [])) _
              refine XS.iload X48.here hx rfl (hb hby at_274) rfl ?_
              show Steps _ _ _ (T48.setTop (mkF m 276 LL88 [(.int 0)])) _
              refine XS.iload X48.here hx rfl (hb hby at_276) rfl ?_
              show Steps _ _ _ (T48.setTop (mkF m 278 LL88 [(.int 1), (.int 0)])) _
              refine XS.iadd X48.here hx rfl (hb hby at_278) rfl ?_
              show Steps _ _ _ (T48.setTop (mkF m 279 LL88 [(.int 1)])) _
              refine XS.goto X48.here hx rfl (pc0 := 279) (pc' := 289) rfl (hb hby at_279) (by decide) (by decide) ?_
              show Steps _ _ _ (T48.setTop (mkF m 289 LL88 [(.int 1)])) _
              refine XS.istore X48.here hx rfl (hb hby at_289) rfl (l' := LL95) rfl ?_
              show Steps _ _ _ (T48.setTop (mkF m 291 LL95 [])) _
              exact kk
            · skip
              let LL96 : Array Slot := #[.val (.int p0), .val (.int p1), .val (.int p2), .val (.int p3), .val (.long p4), .second, .val (.long j2), .second, .val (.long j4), .second, .val (.long j6), .second, .val (.int 0), .val (.int i12), .val (.int 0), .val (.int 2), .val (.ref b18), .val (.ref b27), .val (.ref b31), .val (.int 1), .val (.long (p4 &&& (4294967295 : Int64))), .second, .val (.long j4), .second, .val (.long j2), .second, .val (.int 0)]
              refine ⟨(0 : Int32), ((if_pos c92).trans ((if_neg c94).trans rfl)).symm, fun t kk => P93 t ?_⟩
              show Steps _ _ _ (T48.setTop (mkF m 271 LL88 [(.int (XT.cmpL ((p4 &&& (4294967295 : Int64)) * (j2 + j4)) ((((2 : Int64) * j4) <<< ((32 : Int32) &&& 0x3f).toInt64))))])) _
              refine XS.ifYes X48.here hx rfl (pc0 := 271) (pc' := 282) rfl (hb hby at_271) rfl (XT.ll_ge_t c94) (by decide) (by decide) ?_
              show Steps _ _ _ (T48.setTop (mkF m 282 LL88 [])) _
              refine XS.iload X48.here hx rfl (hb hby at_282) rfl ?_
              show Steps _ _ _ (T48.setTop (mkF m 284 LL88 [(.int 0)])) _
              refine XS.iconst X48.here hx rfl (hb hby at_284) ?_
              show Steps _ _ _ (T48.setTop (mkF m 285 LL88 [(.int 1), (.int 0)])) _
              refine XS.iadd X48.here hx rfl (hb hby at_285) rfl ?_
              show Steps _ _ _ (T48.setTop (mkF m 286 LL88 [(.int 1)])) _
              refine XS.iload X48.here hx rfl (hb hby at_286) rfl ?_
              show Steps _ _ _ (T48.setTop (mkF m 288 LL88 [(.int 1), (.int 1)])) _
              refine XS.isub X48.here hx rfl (hb hby at_288) rfl ?_
              show Steps _ _ _ (T48.setTop (mkF m 289 LL88 [(.int 0)])) _
              refine XS.istore X48.here hx rfl (hb hby at_289) rfl (l' := LL96) rfl ?_
              show Steps _ _ _ (T48.setTop (mkF m 291 LL96 [])) _
              exact kk
          · skip
            let LL97 : Array Slot := #[.val (.int p0), .val (.int p1), .val (.int p2), .val (.int p3), .val (.long p4), .second, .val (.long j2), .second, .val (.long j4), .second, .val (.long j6), .second, .val (.int 0), .val (.int i12), .val (.int 0), .val (.int 2), .val (.ref b18), .val (.ref b27), .val (.ref b31), .val (.int 1), .val (.long (p4 &&& (4294967295 : Int64))), .second, .val (.long j4), .second, .val (.long j2), .second, .val (.int 1)]
            refine ⟨(1 : Int32), ((if_neg c92).trans rfl).symm, fun t kk => P89 t ?_⟩
            show Steps _ _ _ (T48.setTop (mkF m 240 LL88 [(.int (XT.cmpL j4 j2))])) _
            refine XS.ifNo X48.here hx rfl (hb hby at_240) rfl (XT.ll_lt_f c92) ?_
            show Steps _ _ _ (T48.setTop (mkF m 243 LL88 [])) _
            refine XS.iload X48.here hx rfl (hb hby at_243) rfl ?_
            show Steps _ _ _ (T48.setTop (mkF m 245 LL88 [(.int 0)])) _
            refine XS.iload X48.here hx rfl (hb hby at_245) rfl ?_
            show Steps _ _ _ (T48.setTop (mkF m 247 LL88 [(.int 1), (.int 0)])) _
            refine XS.iadd X48.here hx rfl (hb hby at_247) rfl ?_
            show Steps _ _ _ (T48.setTop (mkF m 248 LL88 [(.int 1)])) _
            refine XS.istore X48.here hx rfl (hb hby at_248) rfl (l' := LL97) rfl ?_
            show Steps _ _ _ (T48.setTop (mkF m 250 LL97 [])) _
            refine XS.goto X48.here hx rfl (pc0 := 250) (pc' := 291) rfl (hb hby at_250) (by decide) (by decide) ?_
            show Steps _ _ _ (T48.setTop (mkF m 291 LL97 [])) _
            exact kk
        let LL98 : Array Slot := #[.val (.int p0), .val (.int p1), .val (.int p2), .val (.int p3), .val (.long p4), .second, .val (.long j2), .second, .val (.long j4), .second, .val (.long j6), .second, .val (.int 0), .val (.int i12), .val (.int 0), .val (.int 2), .val (.ref b18), .val (.ref b27), .val (.ref b31), .val (.int 1), .val (.long (p4 &&& (4294967295 : Int64))), .second, .val (.long j4), .second, .val (.long j2), .second, .val (.int i90)]
        have f100 := (Exa.keep f49 K48)
        have f101 := (Fld.keep f50 K48 (ninS ne_b31_th_35 (ninS ne_b31_al_35 (ninS (Ne.symm ne_b27_b31) nin0))))
        have f102 := (Fld.keep f51 K48 (ninS ne_b31_th_35 (ninS ne_b31_al_35 (ninS (Ne.symm ne_b27_b31) nin0))))
        have z103 : n0 ≤ _ := (Nat.le_trans z53 K48.1)
        obtain ⟨cq99, kq99, q99a, q99b, q99c⟩ := isOf hZ rfl f100
        obtain ⟨_, _, ⟨T99, L99, k99, n99⟩, -, X99, ⟨Lc99, hQ99, l99, y99, z99⟩, st99⟩ := X48.virtualBack hx (y := (⟨"com/example/circlerank/circlerank/generate/AliasTable", "draw", "(IIJ)I"⟩ : MethodName)) (z := (⟨"com/example/circlerank/circlerank/generate/AliasTable", "draw", "(IIJ)I"⟩ : MethodName)) hown (mvT hZ (hw _ (List.mem_of_getElem? (i := 22) rfl))) (mvT hZ (hw _ (List.mem_of_getElem? (i := 23) rfl))) (notFace_of_selects (args := #[]) (mvT hZ (hw _ (List.mem_of_getElem? (i := 25) rfl)))) (mvT hZ (hw _ (List.mem_of_getElem? (i := 25) rfl))) (mvT hZ (hw _ (List.mem_of_getElem? (i := 24) rfl))) (by decide) (backOf (W := 0) (rm5 l Z a0 hw [] b31 p4 th_35 al_35 kt_35 ka_35 ta_43 tb_43 FP.dconst1 la_43 lb_43 (2 : Int32) T48.heap n0 z103 f100 f101 f102 q48_0 q48_1 ((congrArg (fun z => (0 : Int32) + z) (own_sl2_1 p4 (h_i54.symm.trans hs57))).trans (by decide))) hZ (hw _ (List.mem_of_getElem? (i := 26) rfl)) (hw _ (List.mem_of_getElem? (i := 5) rfl)) (by decide) (by decide)) q99a q99c (g := (mkF m 301 LL98 [(.long p4), (.int 2), (.int 0), (.ref b31)])) rfl (by rw [hml]; rfl) (Steps.refl _) (argsL := [(.int 0), (.int 2), (.long p4)]) (rest := []) (lenOf pd_2 rfl) rfl (by show 2 * 0 + _ ≤ _; exact Nat.le_of_eq rfl) (hb hby at_301) (fun _ _ => ⟨rfl, rfl, (by decide : 5 + 0 ≤ _), (by decide : 13 + 0 ≤ _)⟩)
        dsimp only [Pt.U, Pt.locs, Pt.cells, Pt.slots] at X99 l99 y99 z99 st99 hQ99
        subst l99 y99 z99
        obtain ⟨rfl, Nq99, e99⟩ := hQ99
        have N99 := Fr.app N48 Nq99
        have P104 : ∀ t, Steps p.tables e below (T99.setTop (mkF m 306 LL98 [(.int i90), (.int (F5 p4 tb_43 lb_43))])) t → Steps p.tables e below ST t := by
          intro t kk
          refine P91 _ ?_
          show Steps _ _ _ (T48.setTop (mkF m 291 LL98 [])) _
          refine XS.aload X48.here hx rfl (hb hby at_291) rfl rfl ?_
          show Steps _ _ _ (T48.setTop (mkF m 293 LL98 [(.ref b31)])) _
          refine XS.iload X48.here hx rfl (hb hby at_293) rfl ?_
          show Steps _ _ _ (T48.setTop (mkF m 295 LL98 [(.int 0), (.ref b31)])) _
          refine XS.iload X48.here hx rfl (hb hby at_295) rfl ?_
          show Steps _ _ _ (T48.setTop (mkF m 297 LL98 [(.int 0), (.int 0), (.ref b31)])) _
          refine XS.iconst X48.here hx rfl (hb hby at_297) ?_
          show Steps _ _ _ (T48.setTop (mkF m 298 LL98 [(.int 2), (.int 0), (.int 0), (.ref b31)])) _
          refine XS.iadd X48.here hx rfl (hb hby at_298) rfl ?_
          show Steps _ _ _ (T48.setTop (mkF m 299 LL98 [(.int 2), (.int 0), (.ref b31)])) _
          refine XS.lload X48.here hx rfl (hb hby at_299) rfl ?_
          show Steps _ _ _ (T48.setTop (mkF m 301 LL98 [(.long p4), (.int 2), (.int 0), (.ref b31)])) _
          refine st99.trans ?_
          show Steps _ _ _ (T99.setTop (mkF m 304 LL98 [(.int (F5 p4 tb_43 lb_43))])) _
          refine XS.iload X99.here hx rfl (hb hby at_304) rfl ?_
          show Steps _ _ _ (T99.setTop (mkF m 306 LL98 [(.int i90), (.int (F5 p4 tb_43 lb_43))])) _
          exact kk
        obtain ⟨T106, L106, X106, e106, N106, i105, h_i105, P106⟩ : ∃ (T106 : State) (L106 : List Loc), Stand p l e room_1 s m #[(.int p0), (.int p1), (.int p2), (.int p3), (.long p4)] below meth c T106 L106 5 13 ∧ T106.heap = T48.heap ∧ Fr n0 L106 ∧ ∃ (i105 : Int32), i105 = (if (F5 p4 tb_43 lb_43) = i90 then (1 : Int32) else (0 : Int32)) ∧ ∀ t, Steps p.tables e below (T106.setTop (mkF m 332 #[.val (.int p0), .val (.int p1), .val (.int p2), .val (.int p3), .val (.long p4), .second, .val (.long j2), .second, .val (.long j4), .second, .val (.long j6), .second, .val (.int 0), .val (.int i12), .val (.int 0), .val (.int 2), .val (.ref b18), .val (.ref b27), .val (.ref b31), .val (.int 1), .val (.long (p4 &&& (4294967295 : Int64))), .second, .val (.long j4), .second, .val (.long j2), .second, .val (.int i90)] [(.int i105)])) t → Steps p.tables e below ST t := by
          by_cases c107 : (F5 p4 tb_43 lb_43) = i90
          · skip
            obtain ⟨cq108, kq108, q108a, q108b, q108c⟩ := isOf hZ e99 f100
            obtain ⟨_, _, ⟨T108, L108, k108, n108⟩, -, X108, ⟨Lc108, hQ108, l108, y108, z108⟩, st108⟩ := X99.virtualBack hx (y := (⟨"com/example/circlerank/circlerank/generate/AliasTable", "draw", "(IIJ)I"⟩ : MethodName)) (z := (⟨"com/example/circlerank/circlerank/generate/AliasTable", "draw", "(IIJ)I"⟩ : MethodName)) hown (mvT hZ (hw _ (List.mem_of_getElem? (i := 22) rfl))) (mvT hZ (hw _ (List.mem_of_getElem? (i := 23) rfl))) (notFace_of_selects (args := #[]) (mvT hZ (hw _ (List.mem_of_getElem? (i := 25) rfl)))) (mvT hZ (hw _ (List.mem_of_getElem? (i := 25) rfl))) (mvT hZ (hw _ (List.mem_of_getElem? (i := 24) rfl))) (by decide) (backOf (W := 0) (rm6 l Z a0 hw [] b31 p4 th_35 al_35 kt_35 ka_35 ta_43 tb_43 la_43 lb_43 (2 : Int32) T48.heap n0 z103 f100 f101 f102 q48_0 q48_1 ((congrArg (fun z => (2 : Int32) + z) (own_sl1 p4)).trans (by decide))) hZ (hw _ (List.mem_of_getElem? (i := 26) rfl)) (hw _ (List.mem_of_getElem? (i := 5) rfl)) (by decide) (by decide)) q108a q108c (g := (mkF m 319 LL98 [(.long p4), (.int 3), (.int 2), (.ref b31)])) rfl (by rw [hml]; rfl) (Steps.refl _) (argsL := [(.int 2), (.int 3), (.long p4)]) (rest := []) (lenOf pd_2 rfl) rfl (by show 2 * 0 + _ ≤ _; exact Nat.le_of_eq rfl) (hb hby at_319) (fun _ _ => ⟨rfl, e99, (by decide : 5 + 0 ≤ _), (by decide : 13 + 0 ≤ _)⟩)
            dsimp only [Pt.U, Pt.locs, Pt.cells, Pt.slots] at X108 l108 y108 z108 st108 hQ108
            subst l108 y108 z108
            obtain ⟨rfl, Nq108, e108⟩ := hQ108
            have N108 := Fr.app N99 Nq108
            refine ⟨_, _, X108, e108, N108, (1 : Int32), ((if_pos c107).trans rfl).symm, fun t kk => P104 t ?_⟩
            show Steps _ _ _ (T99.setTop (mkF m 306 LL98 [(.int i90), (.int (F5 p4 tb_43 lb_43))])) _
            refine XS.icmpNo X99.here hx rfl (hb hby at_306) rfl (XT.ii_ne_f c107) ?_
            show Steps _ _ _ (T99.setTop (mkF m 309 LL98 [])) _
            refine XS.aload X99.here hx rfl (hb hby at_309) rfl rfl ?_
            show Steps _ _ _ (T99.setTop (mkF m 311 LL98 [(.ref b31)])) _
            refine XS.iload X99.here hx rfl (hb hby at_311) rfl ?_
            show Steps _ _ _ (T99.setTop (mkF m 313 LL98 [(.int 2), (.ref b31)])) _
            refine XS.iload X99.here hx rfl (hb hby at_313) rfl ?_
            show Steps _ _ _ (T99.setTop (mkF m 315 LL98 [(.int 2), (.int 2), (.ref b31)])) _
            refine XS.iconst X99.here hx rfl (hb hby at_315) ?_
            show Steps _ _ _ (T99.setTop (mkF m 316 LL98 [(.int 1), (.int 2), (.int 2), (.ref b31)])) _
            refine XS.iadd X99.here hx rfl (hb hby at_316) rfl ?_
            show Steps _ _ _ (T99.setTop (mkF m 317 LL98 [(.int 3), (.int 2), (.ref b31)])) _
            refine XS.lload X99.here hx rfl (hb hby at_317) rfl ?_
            show Steps _ _ _ (T99.setTop (mkF m 319 LL98 [(.long p4), (.int 3), (.int 2), (.ref b31)])) _
            refine st108.trans ?_
            show Steps _ _ _ (T108.setTop (mkF m 322 LL98 [(.int 2)])) _
            refine XS.iload X108.here hx rfl (hb hby at_322) rfl ?_
            show Steps _ _ _ (T108.setTop (mkF m 324 LL98 [(.int 2), (.int 2)])) _
            refine XS.icmpNo X108.here hx rfl (hb hby at_324) rfl (XT.ii_ne_f rfl) ?_
            show Steps _ _ _ (T108.setTop (mkF m 327 LL98 [])) _
            refine XS.iconst X108.here hx rfl (hb hby at_327) ?_
            show Steps _ _ _ (T108.setTop (mkF m 328 LL98 [(.int 1)])) _
            refine XS.goto X108.here hx rfl (pc0 := 328) (pc' := 332) rfl (hb hby at_328) (by decide) (by decide) ?_
            show Steps _ _ _ (T108.setTop (mkF m 332 LL98 [(.int 1)])) _
            exact kk
          · skip
            refine ⟨_, _, X99, e99, N99, (0 : Int32), ((if_neg c107).trans rfl).symm, fun t kk => P104 t ?_⟩
            show Steps _ _ _ (T99.setTop (mkF m 306 LL98 [(.int i90), (.int (F5 p4 tb_43 lb_43))])) _
            refine XS.icmpYes X99.here hx rfl (pc0 := 306) (pc' := 331) rfl (hb hby at_306) rfl (XT.ii_ne_t c107) (by decide) (by decide) ?_
            show Steps _ _ _ (T99.setTop (mkF m 331 LL98 [])) _
            refine XS.iconst X99.here hx rfl (hb hby at_331) ?_
            show Steps _ _ _ (T99.setTop (mkF m 332 LL98 [(.int 0)])) _
            exact kk
        have P109 : ∀ t, Steps p.tables e below (T106.setTop (mkF m 332 LL98 [(.int i105)])) t → Steps p.tables e below ST t := by
          intro t kk
          refine P106 _ ?_
          show Steps _ _ _ (T106.setTop (mkF m 332 LL98 [(.int i105)])) _
          exact kk
        obtain rfl : i105 = (1 : Int32) := (h_i105.trans (if_pos ((own_e1 p4 (own_ab p0 j2 h_j2) (own_ab p1 j4 h_j4) q43_3).trans h_i90.symm)))
        obtain ⟨fs, hr, hrun, hended, hW, hsame⟩ := X106.leave (v := some (.int 1)) (fun h => by rw [Bd.returns] at h; cases h)
        refine ⟨_, _, P109 _ ?_, hrun, hended, _, _, rfl, ?_, ⟨_, rfl⟩, hW, hsame.mono (by decide) (by decide)⟩
        · exact retN X106 hx (t := .boolean) Bd.returns (by simp) (hb hby at_332) hr
        · exact ⟨rfl, N106⟩
    · skip
      have f111 := (Exa.keep A31 K35)
      have f112 := (Arv.keep f37 K35 (ninS ne_b18_b31 nin0))
      have f113 := (Arv.keep f38 K35 (ninS ne_b27_b31 nin0))
      have z114 : n0 ≤ _ := (Nat.le_trans z36 K35.1)
      obtain ⟨cq110, kq110, q110a, q110b, q110c⟩ := isOf hZ rfl f111
      obtain ⟨_, _, ⟨T110, L110, k110, n110⟩, -, X110, ⟨Lc110, hQ110, l110, y110, z110⟩, st110⟩ := X35.virtualBack hx (y := (⟨"com/example/circlerank/circlerank/generate/AliasTable", "build", "([DII[I)V"⟩ : MethodName)) (z := (⟨"com/example/circlerank/circlerank/generate/AliasTable", "build", "([DII[I)V"⟩ : MethodName)) hown (mvT hZ (hw _ (List.mem_of_getElem? (i := 16) rfl))) (mvT hZ (hw _ (List.mem_of_getElem? (i := 17) rfl))) (notFace_of_selects (args := #[]) (mvT hZ (hw _ (List.mem_of_getElem? (i := 19) rfl)))) (mvT hZ (hw _ (List.mem_of_getElem? (i := 19) rfl))) (mvT hZ (hw _ (List.mem_of_getElem? (i := 18) rfl))) (by decide) (backOf (W := 0) (rm3 l Z a0 hw [] b31 b18 b27 j6 (FP.l2d j2) (FP.l2d j4) th_35 al_35 k18 kt_35 ka_35 k27 (0 : UInt64) (0 : UInt64) (0 : UInt64) (0 : Int32) (0 : Int32) (0 : Int32) (0 : Int32) (0 : Int32) T35.heap n0 z114 f111 q35_0 q35_1 f112 q35_2 q35_3 f113 (own_ab p2 j6 h_j6) ge_b27 ge_th_35 ge_al_35 (Ne.symm ne_b18_b31) (Ne.symm ne_b27_b31) ne_b31_th_35 ne_b31_al_35 ne_b18_b27 ne_b18_th_35 ne_b18_al_35 ne_b27_th_35 ne_b27_al_35 q35_6) hZ (hw _ (List.mem_of_getElem? (i := 20) rfl)) (hw _ (List.mem_of_getElem? (i := 5) rfl)) (by decide) (by decide)) q110a q110c (g := (mkF m 140 LL40 [(.ref b27), (.int 3), (.int 2), (.ref b18), (.ref b31)])) rfl (by rw [hml]; rfl) (Steps.refl _) (argsL := [(.ref b18), (.int 2), (.int 3), (.ref b27)]) (rest := []) (lenOf pd_1 rfl) rfl (by show 2 * 0 + _ ≤ _; exact Nat.le_of_eq rfl) (hb hby at_140) (fun _ _ => ⟨rfl, rfl, (by decide : 5 + 0 ≤ _), (by decide : 13 + 0 ≤ _)⟩)
      dsimp only [Pt.U, Pt.locs, Pt.cells, Pt.slots] at X110 l110 y110 z110 st110 hQ110
      subst l110 y110 z110
      obtain ⟨rfl, Nq110, K110, q110_0, q110_1, q110_2⟩ := hQ110
      have N110 := Fr.app N35 Nq110
      have f116 := (Exa.keep f111 K110)
      have f117 := (Fld.keep q35_0 K110 (ninS ne_b31_th_35 (ninS ne_b31_al_35 (ninS (Ne.symm ne_b27_b31) nin0))))
      have f118 := (Fld.keep q35_1 K110 (ninS ne_b31_th_35 (ninS ne_b31_al_35 (ninS (Ne.symm ne_b27_b31) nin0))))
      have f119 := (Arv.keep f112 K110 (ninS ne_b18_th_35 (ninS ne_b18_al_35 (ninS ne_b18_b27 nin0))))
      have z120 : n0 ≤ _ := (Nat.le_trans z114 K110.1)
      obtain ⟨cq115, kq115, q115a, q115b, q115c⟩ := isOf hZ rfl f116
      obtain ⟨_, _, ⟨T115, L115, k115, n115⟩, -, X115, ⟨Lc115, hQ115, l115, y115, z115⟩, st115⟩ := X110.virtualBack hx (y := (⟨"com/example/circlerank/circlerank/generate/AliasTable", "build", "([DII[I)V"⟩ : MethodName)) (z := (⟨"com/example/circlerank/circlerank/generate/AliasTable", "build", "([DII[I)V"⟩ : MethodName)) hown (mvT hZ (hw _ (List.mem_of_getElem? (i := 16) rfl))) (mvT hZ (hw _ (List.mem_of_getElem? (i := 17) rfl))) (notFace_of_selects (args := #[]) (mvT hZ (hw _ (List.mem_of_getElem? (i := 19) rfl)))) (mvT hZ (hw _ (List.mem_of_getElem? (i := 19) rfl))) (mvT hZ (hw _ (List.mem_of_getElem? (i := 18) rfl))) (by decide) (backOf (W := 0) (rm2 l Z a0 hw [] b31 b18 b27 j2 j4 (FP.l2d j6) th_35 al_35 k18 kt_35 ka_35 k27 (0 : UInt64) (0 : UInt64) FP.dconst1 (0 : Int32) (0 : Int32) (2 : Int32) (2 : Int32) (0 : Int32) T110.heap n0 z120 f116 f117 f118 f119 q110_0 q110_1 q110_2 (own_ab p0 j2 h_j2) (own_ab p1 j4 h_j4) ge_b27 ge_th_35 ge_al_35 (Ne.symm ne_b18_b31) (Ne.symm ne_b27_b31) ne_b31_th_35 ne_b31_al_35 ne_b18_b27 ne_b18_th_35 ne_b18_al_35 ne_b27_th_35 ne_b27_al_35 q35_6) hZ (hw _ (List.mem_of_getElem? (i := 20) rfl)) (hw _ (List.mem_of_getElem? (i := 5) rfl)) (by decide) (by decide)) q115a q115c (g := (mkF m 155 LL40 [(.ref b27), (.int 2), (.int 0), (.ref b18), (.ref b31)])) rfl (by rw [hml]; rfl) (Steps.refl _) (argsL := [(.ref b18), (.int 0), (.int 2), (.ref b27)]) (rest := []) (lenOf pd_1 rfl) rfl (by show 2 * 0 + _ ≤ _; exact Nat.le_of_eq rfl) (hb hby at_155) (fun _ _ => ⟨rfl, rfl, (by decide : 5 + 0 ≤ _), (by decide : 13 + 0 ≤ _)⟩)
      dsimp only [Pt.U, Pt.locs, Pt.cells, Pt.slots] at X115 l115 y115 z115 st115 hQ115
      subst l115 y115 z115
      obtain ⟨ta_115, tb_115, la_115, lb_115, v0_115, v1_115, rfl, Nq115, K115, q115_0, q115_1, q115_2, q115_3⟩ := hQ115
      have N115 := Fr.app N110 Nq115
      obtain ⟨i121, h_i121⟩ : ∃ z : Int32, z = (((((p4).toUInt64 >>> ((63 : Int32) &&& 0x3f).toInt64.toUInt64).toInt64)).toInt32) := ⟨_, rfl⟩
      let LL122 : Array Slot := #[.val (.int p0), .val (.int p1), .val (.int p2), .val (.int p3), .val (.long p4), .second, .val (.long j2), .second, .val (.long j4), .second, .val (.long j6), .second, .val (.int 0), .val (.int i12), .val (.int 0), .val (.int 2), .val (.ref b18), .val (.ref b27), .val (.ref b31), .val (.int i121), .unset, .unset, .unset, .unset, .unset, .unset, .unset]
      have P123 : ∀ t, Steps p.tables e below (T115.setTop (mkF m 199 LL122 [])) t → Steps p.tables e below ST t := by
        intro t kk
        refine P41 _ ?_
        show Steps _ _ _ (T35.setTop (mkF m 125 LL40 [(.int i12)])) _
        refine XS.ifNo X35.here hx rfl (hb hby at_125) rfl (XT.i0_eq_f c42) ?_
        show Steps _ _ _ (T35.setTop (mkF m 128 LL40 [])) _
        refine XS.aload X35.here hx rfl (hb hby at_128) rfl rfl ?_
        show Steps _ _ _ (T35.setTop (mkF m 130 LL40 [(.ref b31)])) _
        refine XS.aload X35.here hx rfl (hb hby at_130) rfl rfl ?_
        show Steps _ _ _ (T35.setTop (mkF m 132 LL40 [(.ref b18), (.ref b31)])) _
        refine XS.iload X35.here hx rfl (hb hby at_132) rfl ?_
        show Steps _ _ _ (T35.setTop (mkF m 134 LL40 [(.int 2), (.ref b18), (.ref b31)])) _
        refine XS.iload X35.here hx rfl (hb hby at_134) rfl ?_
        show Steps _ _ _ (T35.setTop (mkF m 136 LL40 [(.int 2), (.int 2), (.ref b18), (.ref b31)])) _
        refine XS.iconst X35.here hx rfl (hb hby at_136) ?_
        show Steps _ _ _ (T35.setTop (mkF m 137 LL40 [(.int 1), (.int 2), (.int 2), (.ref b18), (.ref b31)])) _
        refine XS.iadd X35.here hx rfl (hb hby at_137) rfl ?_
        show Steps _ _ _ (T35.setTop (mkF m 138 LL40 [(.int 3), (.int 2), (.ref b18), (.ref b31)])) _
        refine XS.aload X35.here hx rfl (hb hby at_138) rfl rfl ?_
        show Steps _ _ _ (T35.setTop (mkF m 140 LL40 [(.ref b27), (.int 3), (.int 2), (.ref b18), (.ref b31)])) _
        refine st110.trans ?_
        show Steps _ _ _ (T110.setTop (mkF m 143 LL40 [])) _
        refine XS.aload X110.here hx rfl (hb hby at_143) rfl rfl ?_
        show Steps _ _ _ (T110.setTop (mkF m 145 LL40 [(.ref b31)])) _
        refine XS.aload X110.here hx rfl (hb hby at_145) rfl rfl ?_
        show Steps _ _ _ (T110.setTop (mkF m 147 LL40 [(.ref b18), (.ref b31)])) _
        refine XS.iload X110.here hx rfl (hb hby at_147) rfl ?_
        show Steps _ _ _ (T110.setTop (mkF m 149 LL40 [(.int 0), (.ref b18), (.ref b31)])) _
        refine XS.iload X110.here hx rfl (hb hby at_149) rfl ?_
        show Steps _ _ _ (T110.setTop (mkF m 151 LL40 [(.int 0), (.int 0), (.ref b18), (.ref b31)])) _
        refine XS.iconst X110.here hx rfl (hb hby at_151) ?_
        show Steps _ _ _ (T110.setTop (mkF m 152 LL40 [(.int 2), (.int 0), (.int 0), (.ref b18), (.ref b31)])) _
        refine XS.iadd X110.here hx rfl (hb hby at_152) rfl ?_
        show Steps _ _ _ (T110.setTop (mkF m 153 LL40 [(.int 2), (.int 0), (.ref b18), (.ref b31)])) _
        refine XS.aload X110.here hx rfl (hb hby at_153) rfl rfl ?_
        show Steps _ _ _ (T110.setTop (mkF m 155 LL40 [(.ref b27), (.int 2), (.int 0), (.ref b18), (.ref b31)])) _
        refine st115.trans ?_
        show Steps _ _ _ (T115.setTop (mkF m 158 LL40 [])) _
        refine XS.goto X115.here hx rfl (pc0 := 158) (pc' := 191) rfl (hb hby at_158) (by decide) (by decide) ?_
        show Steps _ _ _ (T115.setTop (mkF m 191 LL40 [])) _
        refine XS.lload X115.here hx rfl (hb hby at_191) rfl ?_
        show Steps _ _ _ (T115.setTop (mkF m 193 LL40 [(.long p4)])) _
        refine XS.bipush X115.here hx rfl (hb hby at_193) ?_
        show Steps _ _ _ (T115.setTop (mkF m 195 LL40 [(.int 63), (.long p4)])) _
        refine XS.lushr X115.here hx rfl (hb hby at_195) rfl ?_
        show Steps _ _ _ (T115.setTop (mkF m 196 LL40 [(.long (((p4).toUInt64 >>> ((63 : Int32) &&& 0x3f).toInt64.toUInt64).toInt64))])) _
        refine XS.l2i X115.here hx rfl (hb hby at_196) rfl ?_
        show Steps _ _ _ (T115.setTop (mkF m 197 LL40 [(.int (((((p4).toUInt64 >>> ((63 : Int32) &&& 0x3f).toInt64.toUInt64).toInt64)).toInt32))])) _
        rw [← h_i121]
        show Steps _ _ _ (T115.setTop (mkF m 197 LL40 [(.int i121)])) _
        refine XS.istore X115.here hx rfl (hb hby at_197) rfl (l' := LL122) rfl ?_
        show Steps _ _ _ (T115.setTop (mkF m 199 LL122 [])) _
        exact kk
      rcases (own_s0 p4 i121 h_i121) with hs124 | hs124
      · skip
        let LL126 : Array Slot := #[.val (.int p0), .val (.int p1), .val (.int p2), .val (.int p3), .val (.long p4), .second, .val (.long j2), .second, .val (.long j4), .second, .val (.long j6), .second, .val (.int 0), .val (.int i12), .val (.int 0), .val (.int 2), .val (.ref b18), .val (.ref b27), .val (.ref b31), .val (.int 0), .unset, .unset, .unset, .unset, .unset, .unset, .unset]
        have P125 : ∀ t, Steps p.tables e below (T115.setTop (mkF m 199 LL126 [])) t → Steps p.tables e below ST t := by
          intro t kk
          refine P123 _ ?_
          show Steps _ _ _ (T115.setTop (mkF m 199 #[.val (.int p0), .val (.int p1), .val (.int p2), .val (.int p3), .val (.long p4), .second, .val (.long j2), .second, .val (.long j4), .second, .val (.long j6), .second, .val (.int 0), .val (.int i12), .val (.int 0), .val (.int 2), .val (.ref b18), .val (.ref b27), .val (.ref b31), .val (.int i121), .unset, .unset, .unset, .unset, .unset, .unset, .unset] [])) t
          rw [hs124]
          exact kk
        let LL127 : Array Slot := #[.val (.int p0), .val (.int p1), .val (.int p2), .val (.int p3), .val (.long p4), .second, .val (.long j2), .second, .val (.long j4), .second, .val (.long j6), .second, .val (.int 0), .val (.int i12), .val (.int 0), .val (.int 2), .val (.ref b18), .val (.ref b27), .val (.ref b31), .val (.int 0), .val (.long (p4 &&& (4294967295 : Int64))), .second, .unset, .unset, .unset, .unset, .unset]
        let LL128 : Array Slot := #[.val (.int p0), .val (.int p1), .val (.int p2), .val (.int p3), .val (.long p4), .second, .val (.long j2), .second, .val (.long j4), .second, .val (.long j6), .second, .val (.int 0), .val (.int i12), .val (.int 0), .val (.int 2), .val (.ref b18), .val (.ref b27), .val (.ref b31), .val (.int 0), .val (.long (p4 &&& (4294967295 : Int64))), .second, .val (.long j2), .second, .unset, .unset, .unset]
        let LL129 : Array Slot := #[.val (.int p0), .val (.int p1), .val (.int p2), .val (.int p3), .val (.long p4), .second, .val (.long j2), .second, .val (.long j4), .second, .val (.long j6), .second, .val (.int 0), .val (.int i12), .val (.int 0), .val (.int 2), .val (.ref b18), .val (.ref b27), .val (.ref b31), .val (.int 0), .val (.long (p4 &&& (4294967295 : Int64))), .second, .val (.long j2), .second, .val (.long j4), .second, .unset]
        have P130 : ∀ t, Steps p.tables e below (T115.setTop (mkF m 240 LL129 [(.int (XT.cmpL j2 j4))])) t → Steps p.tables e below ST t := by
          intro t kk
          refine P125 _ ?_
          show Steps _ _ _ (T115.setTop (mkF m 199 LL126 [])) _
          refine XS.lload X115.here hx rfl (hb hby at_199) rfl ?_
          show Steps _ _ _ (T115.setTop (mkF m 201 LL126 [(.long p4)])) _
          refine X115.ldc2Long hx hown (mvT hZ (hw _ (List.mem_of_getElem? (i := 21) rfl))) (g := (mkF m 201 LL126 [(.long p4)])) rfl (hb hby at_201) _ ?_
          show Steps _ _ _ (T115.setTop (mkF m 204 LL126 [(.long (4294967295 : Int64)), (.long p4)])) _
          refine XS.land X115.here hx rfl (hb hby at_204) rfl ?_
          show Steps _ _ _ (T115.setTop (mkF m 205 LL126 [(.long (p4 &&& (4294967295 : Int64)))])) _
          refine XS.lstore X115.here hx rfl (hb hby at_205) rfl (l' := LL127) rfl ?_
          show Steps _ _ _ (T115.setTop (mkF m 207 LL127 [])) _
          refine XS.iload X115.here hx rfl (hb hby at_207) rfl ?_
          show Steps _ _ _ (T115.setTop (mkF m 209 LL127 [(.int 0)])) _
          refine XS.ifNo X115.here hx rfl (hb hby at_209) rfl (XT.i0_ne_f rfl) ?_
          show Steps _ _ _ (T115.setTop (mkF m 212 LL127 [])) _
          refine XS.lload X115.here hx rfl (hb hby at_212) rfl ?_
          show Steps _ _ _ (T115.setTop (mkF m 214 LL127 [(.long j2)])) _
          refine XS.goto X115.here hx rfl (pc0 := 214) (pc' := 219) rfl (hb hby at_214) (by decide) (by decide) ?_
          show Steps _ _ _ (T115.setTop (mkF m 219 LL127 [(.long j2)])) _
          refine XS.lstore X115.here hx rfl (hb hby at_219) rfl (l' := LL128) rfl ?_
          show Steps _ _ _ (T115.setTop (mkF m 221 LL128 [])) _
          refine XS.iload X115.here hx rfl (hb hby at_221) rfl ?_
          show Steps _ _ _ (T115.setTop (mkF m 223 LL128 [(.int 0)])) _
          refine XS.ifNo X115.here hx rfl (hb hby at_223) rfl (XT.i0_ne_f rfl) ?_
          show Steps _ _ _ (T115.setTop (mkF m 226 LL128 [])) _
          refine XS.lload X115.here hx rfl (hb hby at_226) rfl ?_
          show Steps _ _ _ (T115.setTop (mkF m 228 LL128 [(.long j4)])) _
          refine XS.goto X115.here hx rfl (pc0 := 228) (pc' := 233) rfl (hb hby at_228) (by decide) (by decide) ?_
          show Steps _ _ _ (T115.setTop (mkF m 233 LL128 [(.long j4)])) _
          refine XS.lstore X115.here hx rfl (hb hby at_233) rfl (l' := LL129) rfl ?_
          show Steps _ _ _ (T115.setTop (mkF m 235 LL129 [])) _
          refine XS.lload X115.here hx rfl (hb hby at_235) rfl ?_
          show Steps _ _ _ (T115.setTop (mkF m 237 LL129 [(.long j2)])) _
          refine XS.lload X115.here hx rfl (hb hby at_237) rfl ?_
          show Steps _ _ _ (T115.setTop (mkF m 239 LL129 [(.long j4), (.long j2)])) _
          refine XT.lcmp X115.here hx rfl (hb hby at_239) rfl ?_
          show Steps _ _ _ (T115.setTop (mkF m 240 LL129 [(.int (XT.cmpL j2 j4))])) _
          exact kk
        obtain ⟨i131, h_i131, P132⟩ : ∃ (i131 : Int32), i131 = (if j2 < j4 then (if ((p4 &&& (4294967295 : Int64)) * (j2 + j4)) < ((((2 : Int64) * j2) <<< ((32 : Int32) &&& 0x3f).toInt64)) then (0 : Int32) else (1 : Int32)) else (0 : Int32)) ∧ ∀ t, Steps p.tables e below (T115.setTop (mkF m 291 #[.val (.int p0), .val (.int p1), .val (.int p2), .val (.int p3), .val (.long p4), .second, .val (.long j2), .second, .val (.long j4), .second, .val (.long j6), .second, .val (.int 0), .val (.int i12), .val (.int 0), .val (.int 2), .val (.ref b18), .val (.ref b27), .val (.ref b31), .val (.int 0), .val (.long (p4 &&& (4294967295 : Int64))), .second, .val (.long j2), .second, .val (.long j4), .second, .val (.int i131)] [])) t → Steps p.tables e below ST t := by
          by_cases c133 : j2 < j4
          · skip
            have P134 : ∀ t, Steps p.tables e below (T115.setTop (mkF m 271 LL129 [(.int (XT.cmpL ((p4 &&& (4294967295 : Int64)) * (j2 + j4)) ((((2 : Int64) * j2) <<< ((32 : Int32) &&& 0x3f).toInt64))))])) t → Steps p.tables e below ST t := by
              intro t kk
              refine P130 _ ?_
              show Steps _ _ _ (T115.setTop (mkF m 240 LL129 [(.int (XT.cmpL j2 j4))])) _
              refine XS.ifYes X115.here hx rfl (pc0 := 240) (pc' := 253) rfl (hb hby at_240) rfl (XT.ll_lt_t c133) (by decide) (by decide) ?_
              show Steps _ _ _ (T115.setTop (mkF m 253 LL129 [])) _
              refine XS.lload X115.here hx rfl (hb hby at_253) rfl ?_
              show Steps _ _ _ (T115.setTop (mkF m 255 LL129 [(.long (p4 &&& (4294967295 : Int64)))])) _
              refine XS.lload X115.here hx rfl (hb hby at_255) rfl ?_
              show Steps _ _ _ (T115.setTop (mkF m 257 LL129 [(.long j2), (.long (p4 &&& (4294967295 : Int64)))])) _
              refine XS.lload X115.here hx rfl (hb hby at_257) rfl ?_
              show Steps _ _ _ (T115.setTop (mkF m 259 LL129 [(.long j4), (.long j2), (.long (p4 &&& (4294967295 : Int64)))])) _
              refine XS.ladd X115.here hx rfl (hb hby at_259) rfl ?_
              show Steps _ _ _ (T115.setTop (mkF m 260 LL129 [(.long (j2 + j4)), (.long (p4 &&& (4294967295 : Int64)))])) _
              refine XS.lmul X115.here hx rfl (hb hby at_260) rfl ?_
              show Steps _ _ _ (T115.setTop (mkF m 261 LL129 [(.long ((p4 &&& (4294967295 : Int64)) * (j2 + j4)))])) _
              refine X115.ldc2Long hx hown (mvT hZ (hw _ (List.mem_of_getElem? (i := 29) rfl))) (g := (mkF m 261 LL129 [(.long ((p4 &&& (4294967295 : Int64)) * (j2 + j4)))])) rfl (hb hby at_261) _ ?_
              show Steps _ _ _ (T115.setTop (mkF m 264 LL129 [(.long (2 : Int64)), (.long ((p4 &&& (4294967295 : Int64)) * (j2 + j4)))])) _
              refine XS.lload X115.here hx rfl (hb hby at_264) rfl ?_
              show Steps _ _ _ (T115.setTop (mkF m 266 LL129 [(.long j2), (.long (2 : Int64)), (.long ((p4 &&& (4294967295 : Int64)) * (j2 + j4)))])) _
              refine XS.lmul X115.here hx rfl (hb hby at_266) rfl ?_
              show Steps _ _ _ (T115.setTop (mkF m 267 LL129 [(.long ((2 : Int64) * j2)), (.long ((p4 &&& (4294967295 : Int64)) * (j2 + j4)))])) _
              refine XS.bipush X115.here hx rfl (hb hby at_267) ?_
              show Steps _ _ _ (T115.setTop (mkF m 269 LL129 [(.int 32), (.long ((2 : Int64) * j2)), (.long ((p4 &&& (4294967295 : Int64)) * (j2 + j4)))])) _
              refine XS.lshl X115.here hx rfl (hb hby at_269) rfl ?_
              show Steps _ _ _ (T115.setTop (mkF m 270 LL129 [(.long ((((2 : Int64) * j2) <<< ((32 : Int32) &&& 0x3f).toInt64))), (.long ((p4 &&& (4294967295 : Int64)) * (j2 + j4)))])) _
              refine XT.lcmp X115.here hx rfl (hb hby at_270) rfl ?_
              show Steps _ _ _ (T115.setTop (mkF m 271 LL129 [(.int (XT.cmpL ((p4 &&& (4294967295 : Int64)) * (j2 + j4)) ((((2 : Int64) * j2) <<< ((32 : Int32) &&& 0x3f).toInt64))))])) _
              exact kk
            by_cases c135 : ((p4 &&& (4294967295 : Int64)) * (j2 + j4)) < ((((2 : Int64) * j2) <<< ((32 : Int32) &&& 0x3f).toInt64))
            · skip
              let LL136 : Array Slot := #[.val (.int p0), .val (.int p1), .val (.int p2), .val (.int p3), .val (.long p4), .second, .val (.long j2), .second, .val (.long j4), .second, .val (.long j6), .second, .val (.int 0), .val (.int i12), .val (.int 0), .val (.int 2), .val (.ref b18), .val (.ref b27), .val (.ref b31), .val (.int 0), .val (.long (p4 &&& (4294967295 : Int64))), .second, .val (.long j2), .second, .val (.long j4), .second, .val (.int 0)]
              refine ⟨(0 : Int32), ((if_pos c133).trans ((if_pos c135).trans rfl)).symm, fun t kk => P134 t ?_⟩
              show Steps _ _ _ (T115.setTop (mkF m 271 LL129 [(.int (XT.cmpL ((p4 &&& (4294967295 : Int64)) * (j2 + j4)) ((((2 : Int64) * j2) <<< ((32 : Int32) &&& 0x3f).toInt64))))])) _
              refine XS.ifNo X115.here hx rfl (hb hby at_271) rfl (XT.ll_ge_f c135) ?_
              show Steps _ _ _ (T115.setTop (mkF m 274 LL129 [])) _
              refine XS.iload X115.here hx rfl (hb hby at_274) rfl ?_
              show Steps _ _ _ (T115.setTop (mkF m 276 LL129 [(.int 0)])) _
              refine XS.iload X115.here hx rfl (hb hby at_276) rfl ?_
              show Steps _ _ _ (T115.setTop (mkF m 278 LL129 [(.int 0), (.int 0)])) _
              refine XS.iadd X115.here hx rfl (hb hby at_278) rfl ?_
              show Steps _ _ _ (T115.setTop (mkF m 279 LL129 [(.int 0)])) _
              refine XS.goto X115.here hx rfl (pc0 := 279) (pc' := 289) rfl (hb hby at_279) (by decide) (by decide) ?_
              show Steps _ _ _ (T115.setTop (mkF m 289 LL129 [(.int 0)])) _
              refine XS.istore X115.here hx rfl (hb hby at_289) rfl (l' := LL136) rfl ?_
              show Steps _ _ _ (T115.setTop (mkF m 291 LL136 [])) _
              exact kk
            · skip
              let LL137 : Array Slot := #[.val (.int p0), .val (.int p1), .val (.int p2), .val (.int p3), .val (.long p4), .second, .val (.long j2), .second, .val (.long j4), .second, .val (.long j6), .second, .val (.int 0), .val (.int i12), .val (.int 0), .val (.int 2), .val (.ref b18), .val (.ref b27), .val (.ref b31), .val (.int 0), .val (.long (p4 &&& (4294967295 : Int64))), .second, .val (.long j2), .second, .val (.long j4), .second, .val (.int 1)]
              refine ⟨(1 : Int32), ((if_pos c133).trans ((if_neg c135).trans rfl)).symm, fun t kk => P134 t ?_⟩
              show Steps _ _ _ (T115.setTop (mkF m 271 LL129 [(.int (XT.cmpL ((p4 &&& (4294967295 : Int64)) * (j2 + j4)) ((((2 : Int64) * j2) <<< ((32 : Int32) &&& 0x3f).toInt64))))])) _
              refine XS.ifYes X115.here hx rfl (pc0 := 271) (pc' := 282) rfl (hb hby at_271) rfl (XT.ll_ge_t c135) (by decide) (by decide) ?_
              show Steps _ _ _ (T115.setTop (mkF m 282 LL129 [])) _
              refine XS.iload X115.here hx rfl (hb hby at_282) rfl ?_
              show Steps _ _ _ (T115.setTop (mkF m 284 LL129 [(.int 0)])) _
              refine XS.iconst X115.here hx rfl (hb hby at_284) ?_
              show Steps _ _ _ (T115.setTop (mkF m 285 LL129 [(.int 1), (.int 0)])) _
              refine XS.iadd X115.here hx rfl (hb hby at_285) rfl ?_
              show Steps _ _ _ (T115.setTop (mkF m 286 LL129 [(.int 1)])) _
              refine XS.iload X115.here hx rfl (hb hby at_286) rfl ?_
              show Steps _ _ _ (T115.setTop (mkF m 288 LL129 [(.int 0), (.int 1)])) _
              refine XS.isub X115.here hx rfl (hb hby at_288) rfl ?_
              show Steps _ _ _ (T115.setTop (mkF m 289 LL129 [(.int 1)])) _
              refine XS.istore X115.here hx rfl (hb hby at_289) rfl (l' := LL137) rfl ?_
              show Steps _ _ _ (T115.setTop (mkF m 291 LL137 [])) _
              exact kk
          · skip
            let LL138 : Array Slot := #[.val (.int p0), .val (.int p1), .val (.int p2), .val (.int p3), .val (.long p4), .second, .val (.long j2), .second, .val (.long j4), .second, .val (.long j6), .second, .val (.int 0), .val (.int i12), .val (.int 0), .val (.int 2), .val (.ref b18), .val (.ref b27), .val (.ref b31), .val (.int 0), .val (.long (p4 &&& (4294967295 : Int64))), .second, .val (.long j2), .second, .val (.long j4), .second, .val (.int 0)]
            refine ⟨(0 : Int32), ((if_neg c133).trans rfl).symm, fun t kk => P130 t ?_⟩
            show Steps _ _ _ (T115.setTop (mkF m 240 LL129 [(.int (XT.cmpL j2 j4))])) _
            refine XS.ifNo X115.here hx rfl (hb hby at_240) rfl (XT.ll_lt_f c133) ?_
            show Steps _ _ _ (T115.setTop (mkF m 243 LL129 [])) _
            refine XS.iload X115.here hx rfl (hb hby at_243) rfl ?_
            show Steps _ _ _ (T115.setTop (mkF m 245 LL129 [(.int 0)])) _
            refine XS.iload X115.here hx rfl (hb hby at_245) rfl ?_
            show Steps _ _ _ (T115.setTop (mkF m 247 LL129 [(.int 0), (.int 0)])) _
            refine XS.iadd X115.here hx rfl (hb hby at_247) rfl ?_
            show Steps _ _ _ (T115.setTop (mkF m 248 LL129 [(.int 0)])) _
            refine XS.istore X115.here hx rfl (hb hby at_248) rfl (l' := LL138) rfl ?_
            show Steps _ _ _ (T115.setTop (mkF m 250 LL138 [])) _
            refine XS.goto X115.here hx rfl (pc0 := 250) (pc' := 291) rfl (hb hby at_250) (by decide) (by decide) ?_
            show Steps _ _ _ (T115.setTop (mkF m 291 LL138 [])) _
            exact kk
        let LL139 : Array Slot := #[.val (.int p0), .val (.int p1), .val (.int p2), .val (.int p3), .val (.long p4), .second, .val (.long j2), .second, .val (.long j4), .second, .val (.long j6), .second, .val (.int 0), .val (.int i12), .val (.int 0), .val (.int 2), .val (.ref b18), .val (.ref b27), .val (.ref b31), .val (.int 0), .val (.long (p4 &&& (4294967295 : Int64))), .second, .val (.long j2), .second, .val (.long j4), .second, .val (.int i131)]
        have f141 := (Exa.keep f116 K115)
        have f142 := (Fld.keep f117 K115 (ninS ne_b31_th_35 (ninS ne_b31_al_35 (ninS (Ne.symm ne_b27_b31) nin0))))
        have f143 := (Fld.keep f118 K115 (ninS ne_b31_th_35 (ninS ne_b31_al_35 (ninS (Ne.symm ne_b27_b31) nin0))))
        have z144 : n0 ≤ _ := (Nat.le_trans z120 K115.1)
        obtain ⟨cq140, kq140, q140a, q140b, q140c⟩ := isOf hZ rfl f141
        obtain ⟨_, _, ⟨T140, L140, k140, n140⟩, -, X140, ⟨Lc140, hQ140, l140, y140, z140⟩, st140⟩ := X115.virtualBack hx (y := (⟨"com/example/circlerank/circlerank/generate/AliasTable", "draw", "(IIJ)I"⟩ : MethodName)) (z := (⟨"com/example/circlerank/circlerank/generate/AliasTable", "draw", "(IIJ)I"⟩ : MethodName)) hown (mvT hZ (hw _ (List.mem_of_getElem? (i := 22) rfl))) (mvT hZ (hw _ (List.mem_of_getElem? (i := 23) rfl))) (notFace_of_selects (args := #[]) (mvT hZ (hw _ (List.mem_of_getElem? (i := 25) rfl)))) (mvT hZ (hw _ (List.mem_of_getElem? (i := 25) rfl))) (mvT hZ (hw _ (List.mem_of_getElem? (i := 24) rfl))) (by decide) (backOf (W := 0) (rm4 l Z a0 hw [] b31 p4 th_35 al_35 kt_35 ka_35 ta_115 tb_115 FP.dconst1 la_115 lb_115 (2 : Int32) T115.heap n0 z144 f141 f142 f143 q115_0 q115_1 ((congrArg (fun z => (0 : Int32) + z) (own_sl2_0 p4 (h_i121.symm.trans hs124))).trans (by decide))) hZ (hw _ (List.mem_of_getElem? (i := 26) rfl)) (hw _ (List.mem_of_getElem? (i := 5) rfl)) (by decide) (by decide)) q140a q140c (g := (mkF m 301 LL139 [(.long p4), (.int 2), (.int 0), (.ref b31)])) rfl (by rw [hml]; rfl) (Steps.refl _) (argsL := [(.int 0), (.int 2), (.long p4)]) (rest := []) (lenOf pd_2 rfl) rfl (by show 2 * 0 + _ ≤ _; exact Nat.le_of_eq rfl) (hb hby at_301) (fun _ _ => ⟨rfl, rfl, (by decide : 5 + 0 ≤ _), (by decide : 13 + 0 ≤ _)⟩)
        dsimp only [Pt.U, Pt.locs, Pt.cells, Pt.slots] at X140 l140 y140 z140 st140 hQ140
        subst l140 y140 z140
        obtain ⟨rfl, Nq140, e140⟩ := hQ140
        have N140 := Fr.app N115 Nq140
        have P145 : ∀ t, Steps p.tables e below (T140.setTop (mkF m 306 LL139 [(.int i131), (.int (F4 p4 ta_115 la_115))])) t → Steps p.tables e below ST t := by
          intro t kk
          refine P132 _ ?_
          show Steps _ _ _ (T115.setTop (mkF m 291 LL139 [])) _
          refine XS.aload X115.here hx rfl (hb hby at_291) rfl rfl ?_
          show Steps _ _ _ (T115.setTop (mkF m 293 LL139 [(.ref b31)])) _
          refine XS.iload X115.here hx rfl (hb hby at_293) rfl ?_
          show Steps _ _ _ (T115.setTop (mkF m 295 LL139 [(.int 0), (.ref b31)])) _
          refine XS.iload X115.here hx rfl (hb hby at_295) rfl ?_
          show Steps _ _ _ (T115.setTop (mkF m 297 LL139 [(.int 0), (.int 0), (.ref b31)])) _
          refine XS.iconst X115.here hx rfl (hb hby at_297) ?_
          show Steps _ _ _ (T115.setTop (mkF m 298 LL139 [(.int 2), (.int 0), (.int 0), (.ref b31)])) _
          refine XS.iadd X115.here hx rfl (hb hby at_298) rfl ?_
          show Steps _ _ _ (T115.setTop (mkF m 299 LL139 [(.int 2), (.int 0), (.ref b31)])) _
          refine XS.lload X115.here hx rfl (hb hby at_299) rfl ?_
          show Steps _ _ _ (T115.setTop (mkF m 301 LL139 [(.long p4), (.int 2), (.int 0), (.ref b31)])) _
          refine st140.trans ?_
          show Steps _ _ _ (T140.setTop (mkF m 304 LL139 [(.int (F4 p4 ta_115 la_115))])) _
          refine XS.iload X140.here hx rfl (hb hby at_304) rfl ?_
          show Steps _ _ _ (T140.setTop (mkF m 306 LL139 [(.int i131), (.int (F4 p4 ta_115 la_115))])) _
          exact kk
        obtain ⟨T147, L147, X147, e147, N147, i146, h_i146, P147⟩ : ∃ (T147 : State) (L147 : List Loc), Stand p l e room_1 s m #[(.int p0), (.int p1), (.int p2), (.int p3), (.long p4)] below meth c T147 L147 5 13 ∧ T147.heap = T115.heap ∧ Fr n0 L147 ∧ ∃ (i146 : Int32), i146 = (if (F4 p4 ta_115 la_115) = i131 then (1 : Int32) else (0 : Int32)) ∧ ∀ t, Steps p.tables e below (T147.setTop (mkF m 332 #[.val (.int p0), .val (.int p1), .val (.int p2), .val (.int p3), .val (.long p4), .second, .val (.long j2), .second, .val (.long j4), .second, .val (.long j6), .second, .val (.int 0), .val (.int i12), .val (.int 0), .val (.int 2), .val (.ref b18), .val (.ref b27), .val (.ref b31), .val (.int 0), .val (.long (p4 &&& (4294967295 : Int64))), .second, .val (.long j2), .second, .val (.long j4), .second, .val (.int i131)] [(.int i146)])) t → Steps p.tables e below ST t := by
          by_cases c148 : (F4 p4 ta_115 la_115) = i131
          · skip
            obtain ⟨cq149, kq149, q149a, q149b, q149c⟩ := isOf hZ e140 f141
            obtain ⟨_, _, ⟨T149, L149, k149, n149⟩, -, X149, ⟨Lc149, hQ149, l149, y149, z149⟩, st149⟩ := X140.virtualBack hx (y := (⟨"com/example/circlerank/circlerank/generate/AliasTable", "draw", "(IIJ)I"⟩ : MethodName)) (z := (⟨"com/example/circlerank/circlerank/generate/AliasTable", "draw", "(IIJ)I"⟩ : MethodName)) hown (mvT hZ (hw _ (List.mem_of_getElem? (i := 22) rfl))) (mvT hZ (hw _ (List.mem_of_getElem? (i := 23) rfl))) (notFace_of_selects (args := #[]) (mvT hZ (hw _ (List.mem_of_getElem? (i := 25) rfl)))) (mvT hZ (hw _ (List.mem_of_getElem? (i := 25) rfl))) (mvT hZ (hw _ (List.mem_of_getElem? (i := 24) rfl))) (by decide) (backOf (W := 0) (rm6 l Z a0 hw [] b31 p4 th_35 al_35 kt_35 ka_35 ta_115 tb_115 la_115 lb_115 (2 : Int32) T115.heap n0 z144 f141 f142 f143 q115_0 q115_1 ((congrArg (fun z => (2 : Int32) + z) (own_sl1 p4)).trans (by decide))) hZ (hw _ (List.mem_of_getElem? (i := 26) rfl)) (hw _ (List.mem_of_getElem? (i := 5) rfl)) (by decide) (by decide)) q149a q149c (g := (mkF m 319 LL139 [(.long p4), (.int 3), (.int 2), (.ref b31)])) rfl (by rw [hml]; rfl) (Steps.refl _) (argsL := [(.int 2), (.int 3), (.long p4)]) (rest := []) (lenOf pd_2 rfl) rfl (by show 2 * 0 + _ ≤ _; exact Nat.le_of_eq rfl) (hb hby at_319) (fun _ _ => ⟨rfl, e140, (by decide : 5 + 0 ≤ _), (by decide : 13 + 0 ≤ _)⟩)
            dsimp only [Pt.U, Pt.locs, Pt.cells, Pt.slots] at X149 l149 y149 z149 st149 hQ149
            subst l149 y149 z149
            obtain ⟨rfl, Nq149, e149⟩ := hQ149
            have N149 := Fr.app N140 Nq149
            refine ⟨_, _, X149, e149, N149, (1 : Int32), ((if_pos c148).trans rfl).symm, fun t kk => P145 t ?_⟩
            show Steps _ _ _ (T140.setTop (mkF m 306 LL139 [(.int i131), (.int (F4 p4 ta_115 la_115))])) _
            refine XS.icmpNo X140.here hx rfl (hb hby at_306) rfl (XT.ii_ne_f c148) ?_
            show Steps _ _ _ (T140.setTop (mkF m 309 LL139 [])) _
            refine XS.aload X140.here hx rfl (hb hby at_309) rfl rfl ?_
            show Steps _ _ _ (T140.setTop (mkF m 311 LL139 [(.ref b31)])) _
            refine XS.iload X140.here hx rfl (hb hby at_311) rfl ?_
            show Steps _ _ _ (T140.setTop (mkF m 313 LL139 [(.int 2), (.ref b31)])) _
            refine XS.iload X140.here hx rfl (hb hby at_313) rfl ?_
            show Steps _ _ _ (T140.setTop (mkF m 315 LL139 [(.int 2), (.int 2), (.ref b31)])) _
            refine XS.iconst X140.here hx rfl (hb hby at_315) ?_
            show Steps _ _ _ (T140.setTop (mkF m 316 LL139 [(.int 1), (.int 2), (.int 2), (.ref b31)])) _
            refine XS.iadd X140.here hx rfl (hb hby at_316) rfl ?_
            show Steps _ _ _ (T140.setTop (mkF m 317 LL139 [(.int 3), (.int 2), (.ref b31)])) _
            refine XS.lload X140.here hx rfl (hb hby at_317) rfl ?_
            show Steps _ _ _ (T140.setTop (mkF m 319 LL139 [(.long p4), (.int 3), (.int 2), (.ref b31)])) _
            refine st149.trans ?_
            show Steps _ _ _ (T149.setTop (mkF m 322 LL139 [(.int 2)])) _
            refine XS.iload X149.here hx rfl (hb hby at_322) rfl ?_
            show Steps _ _ _ (T149.setTop (mkF m 324 LL139 [(.int 2), (.int 2)])) _
            refine XS.icmpNo X149.here hx rfl (hb hby at_324) rfl (XT.ii_ne_f rfl) ?_
            show Steps _ _ _ (T149.setTop (mkF m 327 LL139 [])) _
            refine XS.iconst X149.here hx rfl (hb hby at_327) ?_
            show Steps _ _ _ (T149.setTop (mkF m 328 LL139 [(.int 1)])) _
            refine XS.goto X149.here hx rfl (pc0 := 328) (pc' := 332) rfl (hb hby at_328) (by decide) (by decide) ?_
            show Steps _ _ _ (T149.setTop (mkF m 332 LL139 [(.int 1)])) _
            exact kk
          · skip
            refine ⟨_, _, X140, e140, N140, (0 : Int32), ((if_neg c148).trans rfl).symm, fun t kk => P145 t ?_⟩
            show Steps _ _ _ (T140.setTop (mkF m 306 LL139 [(.int i131), (.int (F4 p4 ta_115 la_115))])) _
            refine XS.icmpYes X140.here hx rfl (pc0 := 306) (pc' := 331) rfl (hb hby at_306) rfl (XT.ii_ne_t c148) (by decide) (by decide) ?_
            show Steps _ _ _ (T140.setTop (mkF m 331 LL139 [])) _
            refine XS.iconst X140.here hx rfl (hb hby at_331) ?_
            show Steps _ _ _ (T140.setTop (mkF m 332 LL139 [(.int 0)])) _
            exact kk
        have P150 : ∀ t, Steps p.tables e below (T147.setTop (mkF m 332 LL139 [(.int i146)])) t → Steps p.tables e below ST t := by
          intro t kk
          refine P147 _ ?_
          show Steps _ _ _ (T147.setTop (mkF m 332 LL139 [(.int i146)])) _
          exact kk
        obtain rfl : i146 = (1 : Int32) := (h_i146.trans (if_pos ((own_e0 p4 (own_ab p0 j2 h_j2) (own_ab p1 j4 h_j4) q115_3).trans h_i131.symm)))
        obtain ⟨fs, hr, hrun, hended, hW, hsame⟩ := X147.leave (v := some (.int 1)) (fun h => by rw [Bd.returns] at h; cases h)
        refine ⟨_, _, P150 _ ?_, hrun, hended, _, _, rfl, ?_, ⟨_, rfl⟩, hW, hsame.mono (by decide) (by decide)⟩
        · exact retN X147 hx (t := .boolean) Bd.returns (by simp) (hb hby at_332) hr
        · exact ⟨rfl, N147⟩
      · skip
        let LL152 : Array Slot := #[.val (.int p0), .val (.int p1), .val (.int p2), .val (.int p3), .val (.long p4), .second, .val (.long j2), .second, .val (.long j4), .second, .val (.long j6), .second, .val (.int 0), .val (.int i12), .val (.int 0), .val (.int 2), .val (.ref b18), .val (.ref b27), .val (.ref b31), .val (.int 1), .unset, .unset, .unset, .unset, .unset, .unset, .unset]
        have P151 : ∀ t, Steps p.tables e below (T115.setTop (mkF m 199 LL152 [])) t → Steps p.tables e below ST t := by
          intro t kk
          refine P123 _ ?_
          show Steps _ _ _ (T115.setTop (mkF m 199 #[.val (.int p0), .val (.int p1), .val (.int p2), .val (.int p3), .val (.long p4), .second, .val (.long j2), .second, .val (.long j4), .second, .val (.long j6), .second, .val (.int 0), .val (.int i12), .val (.int 0), .val (.int 2), .val (.ref b18), .val (.ref b27), .val (.ref b31), .val (.int i121), .unset, .unset, .unset, .unset, .unset, .unset, .unset] [])) t
          rw [hs124]
          exact kk
        let LL153 : Array Slot := #[.val (.int p0), .val (.int p1), .val (.int p2), .val (.int p3), .val (.long p4), .second, .val (.long j2), .second, .val (.long j4), .second, .val (.long j6), .second, .val (.int 0), .val (.int i12), .val (.int 0), .val (.int 2), .val (.ref b18), .val (.ref b27), .val (.ref b31), .val (.int 1), .val (.long (p4 &&& (4294967295 : Int64))), .second, .unset, .unset, .unset, .unset, .unset]
        let LL154 : Array Slot := #[.val (.int p0), .val (.int p1), .val (.int p2), .val (.int p3), .val (.long p4), .second, .val (.long j2), .second, .val (.long j4), .second, .val (.long j6), .second, .val (.int 0), .val (.int i12), .val (.int 0), .val (.int 2), .val (.ref b18), .val (.ref b27), .val (.ref b31), .val (.int 1), .val (.long (p4 &&& (4294967295 : Int64))), .second, .val (.long j4), .second, .unset, .unset, .unset]
        let LL155 : Array Slot := #[.val (.int p0), .val (.int p1), .val (.int p2), .val (.int p3), .val (.long p4), .second, .val (.long j2), .second, .val (.long j4), .second, .val (.long j6), .second, .val (.int 0), .val (.int i12), .val (.int 0), .val (.int 2), .val (.ref b18), .val (.ref b27), .val (.ref b31), .val (.int 1), .val (.long (p4 &&& (4294967295 : Int64))), .second, .val (.long j4), .second, .val (.long j2), .second, .unset]
        have P156 : ∀ t, Steps p.tables e below (T115.setTop (mkF m 240 LL155 [(.int (XT.cmpL j4 j2))])) t → Steps p.tables e below ST t := by
          intro t kk
          refine P151 _ ?_
          show Steps _ _ _ (T115.setTop (mkF m 199 LL152 [])) _
          refine XS.lload X115.here hx rfl (hb hby at_199) rfl ?_
          show Steps _ _ _ (T115.setTop (mkF m 201 LL152 [(.long p4)])) _
          refine X115.ldc2Long hx hown (mvT hZ (hw _ (List.mem_of_getElem? (i := 21) rfl))) (g := (mkF m 201 LL152 [(.long p4)])) rfl (hb hby at_201) _ ?_
          show Steps _ _ _ (T115.setTop (mkF m 204 LL152 [(.long (4294967295 : Int64)), (.long p4)])) _
          refine XS.land X115.here hx rfl (hb hby at_204) rfl ?_
          show Steps _ _ _ (T115.setTop (mkF m 205 LL152 [(.long (p4 &&& (4294967295 : Int64)))])) _
          refine XS.lstore X115.here hx rfl (hb hby at_205) rfl (l' := LL153) rfl ?_
          show Steps _ _ _ (T115.setTop (mkF m 207 LL153 [])) _
          refine XS.iload X115.here hx rfl (hb hby at_207) rfl ?_
          show Steps _ _ _ (T115.setTop (mkF m 209 LL153 [(.int 1)])) _
          refine XS.ifYes X115.here hx rfl (pc0 := 209) (pc' := 217) rfl (hb hby at_209) rfl (XT.i0_ne_t (by decide)) (by decide) (by decide) ?_
          show Steps _ _ _ (T115.setTop (mkF m 217 LL153 [])) _
          refine XS.lload X115.here hx rfl (hb hby at_217) rfl ?_
          show Steps _ _ _ (T115.setTop (mkF m 219 LL153 [(.long j4)])) _
          refine XS.lstore X115.here hx rfl (hb hby at_219) rfl (l' := LL154) rfl ?_
          show Steps _ _ _ (T115.setTop (mkF m 221 LL154 [])) _
          refine XS.iload X115.here hx rfl (hb hby at_221) rfl ?_
          show Steps _ _ _ (T115.setTop (mkF m 223 LL154 [(.int 1)])) _
          refine XS.ifYes X115.here hx rfl (pc0 := 223) (pc' := 231) rfl (hb hby at_223) rfl (XT.i0_ne_t (by decide)) (by decide) (by decide) ?_
          show Steps _ _ _ (T115.setTop (mkF m 231 LL154 [])) _
          refine XS.lload X115.here hx rfl (hb hby at_231) rfl ?_
          show Steps _ _ _ (T115.setTop (mkF m 233 LL154 [(.long j2)])) _
          refine XS.lstore X115.here hx rfl (hb hby at_233) rfl (l' := LL155) rfl ?_
          show Steps _ _ _ (T115.setTop (mkF m 235 LL155 [])) _
          refine XS.lload X115.here hx rfl (hb hby at_235) rfl ?_
          show Steps _ _ _ (T115.setTop (mkF m 237 LL155 [(.long j4)])) _
          refine XS.lload X115.here hx rfl (hb hby at_237) rfl ?_
          show Steps _ _ _ (T115.setTop (mkF m 239 LL155 [(.long j2), (.long j4)])) _
          refine XT.lcmp X115.here hx rfl (hb hby at_239) rfl ?_
          show Steps _ _ _ (T115.setTop (mkF m 240 LL155 [(.int (XT.cmpL j4 j2))])) _
          exact kk
        obtain ⟨i157, h_i157, P158⟩ : ∃ (i157 : Int32), i157 = (if j4 < j2 then (if ((p4 &&& (4294967295 : Int64)) * (j2 + j4)) < ((((2 : Int64) * j4) <<< ((32 : Int32) &&& 0x3f).toInt64)) then (1 : Int32) else (0 : Int32)) else (1 : Int32)) ∧ ∀ t, Steps p.tables e below (T115.setTop (mkF m 291 #[.val (.int p0), .val (.int p1), .val (.int p2), .val (.int p3), .val (.long p4), .second, .val (.long j2), .second, .val (.long j4), .second, .val (.long j6), .second, .val (.int 0), .val (.int i12), .val (.int 0), .val (.int 2), .val (.ref b18), .val (.ref b27), .val (.ref b31), .val (.int 1), .val (.long (p4 &&& (4294967295 : Int64))), .second, .val (.long j4), .second, .val (.long j2), .second, .val (.int i157)] [])) t → Steps p.tables e below ST t := by
          by_cases c159 : j4 < j2
          · skip
            have P160 : ∀ t, Steps p.tables e below (T115.setTop (mkF m 271 LL155 [(.int (XT.cmpL ((p4 &&& (4294967295 : Int64)) * (j2 + j4)) ((((2 : Int64) * j4) <<< ((32 : Int32) &&& 0x3f).toInt64))))])) t → Steps p.tables e below ST t := by
              intro t kk
              refine P156 _ ?_
              show Steps _ _ _ (T115.setTop (mkF m 240 LL155 [(.int (XT.cmpL j4 j2))])) _
              refine XS.ifYes X115.here hx rfl (pc0 := 240) (pc' := 253) rfl (hb hby at_240) rfl (XT.ll_lt_t c159) (by decide) (by decide) ?_
              show Steps _ _ _ (T115.setTop (mkF m 253 LL155 [])) _
              refine XS.lload X115.here hx rfl (hb hby at_253) rfl ?_
              show Steps _ _ _ (T115.setTop (mkF m 255 LL155 [(.long (p4 &&& (4294967295 : Int64)))])) _
              refine XS.lload X115.here hx rfl (hb hby at_255) rfl ?_
              show Steps _ _ _ (T115.setTop (mkF m 257 LL155 [(.long j2), (.long (p4 &&& (4294967295 : Int64)))])) _
              refine XS.lload X115.here hx rfl (hb hby at_257) rfl ?_
              show Steps _ _ _ (T115.setTop (mkF m 259 LL155 [(.long j4), (.long j2), (.long (p4 &&& (4294967295 : Int64)))])) _
              refine XS.ladd X115.here hx rfl (hb hby at_259) rfl ?_
              show Steps _ _ _ (T115.setTop (mkF m 260 LL155 [(.long (j2 + j4)), (.long (p4 &&& (4294967295 : Int64)))])) _
              refine XS.lmul X115.here hx rfl (hb hby at_260) rfl ?_
              show Steps _ _ _ (T115.setTop (mkF m 261 LL155 [(.long ((p4 &&& (4294967295 : Int64)) * (j2 + j4)))])) _
              refine X115.ldc2Long hx hown (mvT hZ (hw _ (List.mem_of_getElem? (i := 29) rfl))) (g := (mkF m 261 LL155 [(.long ((p4 &&& (4294967295 : Int64)) * (j2 + j4)))])) rfl (hb hby at_261) _ ?_
              show Steps _ _ _ (T115.setTop (mkF m 264 LL155 [(.long (2 : Int64)), (.long ((p4 &&& (4294967295 : Int64)) * (j2 + j4)))])) _
              refine XS.lload X115.here hx rfl (hb hby at_264) rfl ?_
              show Steps _ _ _ (T115.setTop (mkF m 266 LL155 [(.long j4), (.long (2 : Int64)), (.long ((p4 &&& (4294967295 : Int64)) * (j2 + j4)))])) _
              refine XS.lmul X115.here hx rfl (hb hby at_266) rfl ?_
              show Steps _ _ _ (T115.setTop (mkF m 267 LL155 [(.long ((2 : Int64) * j4)), (.long ((p4 &&& (4294967295 : Int64)) * (j2 + j4)))])) _
              refine XS.bipush X115.here hx rfl (hb hby at_267) ?_
              show Steps _ _ _ (T115.setTop (mkF m 269 LL155 [(.int 32), (.long ((2 : Int64) * j4)), (.long ((p4 &&& (4294967295 : Int64)) * (j2 + j4)))])) _
              refine XS.lshl X115.here hx rfl (hb hby at_269) rfl ?_
              show Steps _ _ _ (T115.setTop (mkF m 270 LL155 [(.long ((((2 : Int64) * j4) <<< ((32 : Int32) &&& 0x3f).toInt64))), (.long ((p4 &&& (4294967295 : Int64)) * (j2 + j4)))])) _
              refine XT.lcmp X115.here hx rfl (hb hby at_270) rfl ?_
              show Steps _ _ _ (T115.setTop (mkF m 271 LL155 [(.int (XT.cmpL ((p4 &&& (4294967295 : Int64)) * (j2 + j4)) ((((2 : Int64) * j4) <<< ((32 : Int32) &&& 0x3f).toInt64))))])) _
              exact kk
            by_cases c161 : ((p4 &&& (4294967295 : Int64)) * (j2 + j4)) < ((((2 : Int64) * j4) <<< ((32 : Int32) &&& 0x3f).toInt64))
            · skip
              let LL162 : Array Slot := #[.val (.int p0), .val (.int p1), .val (.int p2), .val (.int p3), .val (.long p4), .second, .val (.long j2), .second, .val (.long j4), .second, .val (.long j6), .second, .val (.int 0), .val (.int i12), .val (.int 0), .val (.int 2), .val (.ref b18), .val (.ref b27), .val (.ref b31), .val (.int 1), .val (.long (p4 &&& (4294967295 : Int64))), .second, .val (.long j4), .second, .val (.long j2), .second, .val (.int 1)]
              refine ⟨(1 : Int32), ((if_pos c159).trans ((if_pos c161).trans rfl)).symm, fun t kk => P160 t ?_⟩
              show Steps _ _ _ (T115.setTop (mkF m 271 LL155 [(.int (XT.cmpL ((p4 &&& (4294967295 : Int64)) * (j2 + j4)) ((((2 : Int64) * j4) <<< ((32 : Int32) &&& 0x3f).toInt64))))])) _
              refine XS.ifNo X115.here hx rfl (hb hby at_271) rfl (XT.ll_ge_f c161) ?_
              show Steps _ _ _ (T115.setTop (mkF m 274 LL155 [])) _
              refine XS.iload X115.here hx rfl (hb hby at_274) rfl ?_
              show Steps _ _ _ (T115.setTop (mkF m 276 LL155 [(.int 0)])) _
              refine XS.iload X115.here hx rfl (hb hby at_276) rfl ?_
              show Steps _ _ _ (T115.setTop (mkF m 278 LL155 [(.int 1), (.int 0)])) _
              refine XS.iadd X115.here hx rfl (hb hby at_278) rfl ?_
              show Steps _ _ _ (T115.setTop (mkF m 279 LL155 [(.int 1)])) _
              refine XS.goto X115.here hx rfl (pc0 := 279) (pc' := 289) rfl (hb hby at_279) (by decide) (by decide) ?_
              show Steps _ _ _ (T115.setTop (mkF m 289 LL155 [(.int 1)])) _
              refine XS.istore X115.here hx rfl (hb hby at_289) rfl (l' := LL162) rfl ?_
              show Steps _ _ _ (T115.setTop (mkF m 291 LL162 [])) _
              exact kk
            · skip
              let LL163 : Array Slot := #[.val (.int p0), .val (.int p1), .val (.int p2), .val (.int p3), .val (.long p4), .second, .val (.long j2), .second, .val (.long j4), .second, .val (.long j6), .second, .val (.int 0), .val (.int i12), .val (.int 0), .val (.int 2), .val (.ref b18), .val (.ref b27), .val (.ref b31), .val (.int 1), .val (.long (p4 &&& (4294967295 : Int64))), .second, .val (.long j4), .second, .val (.long j2), .second, .val (.int 0)]
              refine ⟨(0 : Int32), ((if_pos c159).trans ((if_neg c161).trans rfl)).symm, fun t kk => P160 t ?_⟩
              show Steps _ _ _ (T115.setTop (mkF m 271 LL155 [(.int (XT.cmpL ((p4 &&& (4294967295 : Int64)) * (j2 + j4)) ((((2 : Int64) * j4) <<< ((32 : Int32) &&& 0x3f).toInt64))))])) _
              refine XS.ifYes X115.here hx rfl (pc0 := 271) (pc' := 282) rfl (hb hby at_271) rfl (XT.ll_ge_t c161) (by decide) (by decide) ?_
              show Steps _ _ _ (T115.setTop (mkF m 282 LL155 [])) _
              refine XS.iload X115.here hx rfl (hb hby at_282) rfl ?_
              show Steps _ _ _ (T115.setTop (mkF m 284 LL155 [(.int 0)])) _
              refine XS.iconst X115.here hx rfl (hb hby at_284) ?_
              show Steps _ _ _ (T115.setTop (mkF m 285 LL155 [(.int 1), (.int 0)])) _
              refine XS.iadd X115.here hx rfl (hb hby at_285) rfl ?_
              show Steps _ _ _ (T115.setTop (mkF m 286 LL155 [(.int 1)])) _
              refine XS.iload X115.here hx rfl (hb hby at_286) rfl ?_
              show Steps _ _ _ (T115.setTop (mkF m 288 LL155 [(.int 1), (.int 1)])) _
              refine XS.isub X115.here hx rfl (hb hby at_288) rfl ?_
              show Steps _ _ _ (T115.setTop (mkF m 289 LL155 [(.int 0)])) _
              refine XS.istore X115.here hx rfl (hb hby at_289) rfl (l' := LL163) rfl ?_
              show Steps _ _ _ (T115.setTop (mkF m 291 LL163 [])) _
              exact kk
          · skip
            let LL164 : Array Slot := #[.val (.int p0), .val (.int p1), .val (.int p2), .val (.int p3), .val (.long p4), .second, .val (.long j2), .second, .val (.long j4), .second, .val (.long j6), .second, .val (.int 0), .val (.int i12), .val (.int 0), .val (.int 2), .val (.ref b18), .val (.ref b27), .val (.ref b31), .val (.int 1), .val (.long (p4 &&& (4294967295 : Int64))), .second, .val (.long j4), .second, .val (.long j2), .second, .val (.int 1)]
            refine ⟨(1 : Int32), ((if_neg c159).trans rfl).symm, fun t kk => P156 t ?_⟩
            show Steps _ _ _ (T115.setTop (mkF m 240 LL155 [(.int (XT.cmpL j4 j2))])) _
            refine XS.ifNo X115.here hx rfl (hb hby at_240) rfl (XT.ll_lt_f c159) ?_
            show Steps _ _ _ (T115.setTop (mkF m 243 LL155 [])) _
            refine XS.iload X115.here hx rfl (hb hby at_243) rfl ?_
            show Steps _ _ _ (T115.setTop (mkF m 245 LL155 [(.int 0)])) _
            refine XS.iload X115.here hx rfl (hb hby at_245) rfl ?_
            show Steps _ _ _ (T115.setTop (mkF m 247 LL155 [(.int 1), (.int 0)])) _
            refine XS.iadd X115.here hx rfl (hb hby at_247) rfl ?_
            show Steps _ _ _ (T115.setTop (mkF m 248 LL155 [(.int 1)])) _
            refine XS.istore X115.here hx rfl (hb hby at_248) rfl (l' := LL164) rfl ?_
            show Steps _ _ _ (T115.setTop (mkF m 250 LL164 [])) _
            refine XS.goto X115.here hx rfl (pc0 := 250) (pc' := 291) rfl (hb hby at_250) (by decide) (by decide) ?_
            show Steps _ _ _ (T115.setTop (mkF m 291 LL164 [])) _
            exact kk
        let LL165 : Array Slot := #[.val (.int p0), .val (.int p1), .val (.int p2), .val (.int p3), .val (.long p4), .second, .val (.long j2), .second, .val (.long j4), .second, .val (.long j6), .second, .val (.int 0), .val (.int i12), .val (.int 0), .val (.int 2), .val (.ref b18), .val (.ref b27), .val (.ref b31), .val (.int 1), .val (.long (p4 &&& (4294967295 : Int64))), .second, .val (.long j4), .second, .val (.long j2), .second, .val (.int i157)]
        have f167 := (Exa.keep f116 K115)
        have f168 := (Fld.keep f117 K115 (ninS ne_b31_th_35 (ninS ne_b31_al_35 (ninS (Ne.symm ne_b27_b31) nin0))))
        have f169 := (Fld.keep f118 K115 (ninS ne_b31_th_35 (ninS ne_b31_al_35 (ninS (Ne.symm ne_b27_b31) nin0))))
        have z170 : n0 ≤ _ := (Nat.le_trans z120 K115.1)
        obtain ⟨cq166, kq166, q166a, q166b, q166c⟩ := isOf hZ rfl f167
        obtain ⟨_, _, ⟨T166, L166, k166, n166⟩, -, X166, ⟨Lc166, hQ166, l166, y166, z166⟩, st166⟩ := X115.virtualBack hx (y := (⟨"com/example/circlerank/circlerank/generate/AliasTable", "draw", "(IIJ)I"⟩ : MethodName)) (z := (⟨"com/example/circlerank/circlerank/generate/AliasTable", "draw", "(IIJ)I"⟩ : MethodName)) hown (mvT hZ (hw _ (List.mem_of_getElem? (i := 22) rfl))) (mvT hZ (hw _ (List.mem_of_getElem? (i := 23) rfl))) (notFace_of_selects (args := #[]) (mvT hZ (hw _ (List.mem_of_getElem? (i := 25) rfl)))) (mvT hZ (hw _ (List.mem_of_getElem? (i := 25) rfl))) (mvT hZ (hw _ (List.mem_of_getElem? (i := 24) rfl))) (by decide) (backOf (W := 0) (rm5 l Z a0 hw [] b31 p4 th_35 al_35 kt_35 ka_35 ta_115 tb_115 FP.dconst1 la_115 lb_115 (2 : Int32) T115.heap n0 z170 f167 f168 f169 q115_0 q115_1 ((congrArg (fun z => (0 : Int32) + z) (own_sl2_1 p4 (h_i121.symm.trans hs124))).trans (by decide))) hZ (hw _ (List.mem_of_getElem? (i := 26) rfl)) (hw _ (List.mem_of_getElem? (i := 5) rfl)) (by decide) (by decide)) q166a q166c (g := (mkF m 301 LL165 [(.long p4), (.int 2), (.int 0), (.ref b31)])) rfl (by rw [hml]; rfl) (Steps.refl _) (argsL := [(.int 0), (.int 2), (.long p4)]) (rest := []) (lenOf pd_2 rfl) rfl (by show 2 * 0 + _ ≤ _; exact Nat.le_of_eq rfl) (hb hby at_301) (fun _ _ => ⟨rfl, rfl, (by decide : 5 + 0 ≤ _), (by decide : 13 + 0 ≤ _)⟩)
        dsimp only [Pt.U, Pt.locs, Pt.cells, Pt.slots] at X166 l166 y166 z166 st166 hQ166
        subst l166 y166 z166
        obtain ⟨rfl, Nq166, e166⟩ := hQ166
        have N166 := Fr.app N115 Nq166
        have P171 : ∀ t, Steps p.tables e below (T166.setTop (mkF m 306 LL165 [(.int i157), (.int (F5 p4 tb_115 lb_115))])) t → Steps p.tables e below ST t := by
          intro t kk
          refine P158 _ ?_
          show Steps _ _ _ (T115.setTop (mkF m 291 LL165 [])) _
          refine XS.aload X115.here hx rfl (hb hby at_291) rfl rfl ?_
          show Steps _ _ _ (T115.setTop (mkF m 293 LL165 [(.ref b31)])) _
          refine XS.iload X115.here hx rfl (hb hby at_293) rfl ?_
          show Steps _ _ _ (T115.setTop (mkF m 295 LL165 [(.int 0), (.ref b31)])) _
          refine XS.iload X115.here hx rfl (hb hby at_295) rfl ?_
          show Steps _ _ _ (T115.setTop (mkF m 297 LL165 [(.int 0), (.int 0), (.ref b31)])) _
          refine XS.iconst X115.here hx rfl (hb hby at_297) ?_
          show Steps _ _ _ (T115.setTop (mkF m 298 LL165 [(.int 2), (.int 0), (.int 0), (.ref b31)])) _
          refine XS.iadd X115.here hx rfl (hb hby at_298) rfl ?_
          show Steps _ _ _ (T115.setTop (mkF m 299 LL165 [(.int 2), (.int 0), (.ref b31)])) _
          refine XS.lload X115.here hx rfl (hb hby at_299) rfl ?_
          show Steps _ _ _ (T115.setTop (mkF m 301 LL165 [(.long p4), (.int 2), (.int 0), (.ref b31)])) _
          refine st166.trans ?_
          show Steps _ _ _ (T166.setTop (mkF m 304 LL165 [(.int (F5 p4 tb_115 lb_115))])) _
          refine XS.iload X166.here hx rfl (hb hby at_304) rfl ?_
          show Steps _ _ _ (T166.setTop (mkF m 306 LL165 [(.int i157), (.int (F5 p4 tb_115 lb_115))])) _
          exact kk
        obtain ⟨T173, L173, X173, e173, N173, i172, h_i172, P173⟩ : ∃ (T173 : State) (L173 : List Loc), Stand p l e room_1 s m #[(.int p0), (.int p1), (.int p2), (.int p3), (.long p4)] below meth c T173 L173 5 13 ∧ T173.heap = T115.heap ∧ Fr n0 L173 ∧ ∃ (i172 : Int32), i172 = (if (F5 p4 tb_115 lb_115) = i157 then (1 : Int32) else (0 : Int32)) ∧ ∀ t, Steps p.tables e below (T173.setTop (mkF m 332 #[.val (.int p0), .val (.int p1), .val (.int p2), .val (.int p3), .val (.long p4), .second, .val (.long j2), .second, .val (.long j4), .second, .val (.long j6), .second, .val (.int 0), .val (.int i12), .val (.int 0), .val (.int 2), .val (.ref b18), .val (.ref b27), .val (.ref b31), .val (.int 1), .val (.long (p4 &&& (4294967295 : Int64))), .second, .val (.long j4), .second, .val (.long j2), .second, .val (.int i157)] [(.int i172)])) t → Steps p.tables e below ST t := by
          by_cases c174 : (F5 p4 tb_115 lb_115) = i157
          · skip
            obtain ⟨cq175, kq175, q175a, q175b, q175c⟩ := isOf hZ e166 f167
            obtain ⟨_, _, ⟨T175, L175, k175, n175⟩, -, X175, ⟨Lc175, hQ175, l175, y175, z175⟩, st175⟩ := X166.virtualBack hx (y := (⟨"com/example/circlerank/circlerank/generate/AliasTable", "draw", "(IIJ)I"⟩ : MethodName)) (z := (⟨"com/example/circlerank/circlerank/generate/AliasTable", "draw", "(IIJ)I"⟩ : MethodName)) hown (mvT hZ (hw _ (List.mem_of_getElem? (i := 22) rfl))) (mvT hZ (hw _ (List.mem_of_getElem? (i := 23) rfl))) (notFace_of_selects (args := #[]) (mvT hZ (hw _ (List.mem_of_getElem? (i := 25) rfl)))) (mvT hZ (hw _ (List.mem_of_getElem? (i := 25) rfl))) (mvT hZ (hw _ (List.mem_of_getElem? (i := 24) rfl))) (by decide) (backOf (W := 0) (rm6 l Z a0 hw [] b31 p4 th_35 al_35 kt_35 ka_35 ta_115 tb_115 la_115 lb_115 (2 : Int32) T115.heap n0 z170 f167 f168 f169 q115_0 q115_1 ((congrArg (fun z => (2 : Int32) + z) (own_sl1 p4)).trans (by decide))) hZ (hw _ (List.mem_of_getElem? (i := 26) rfl)) (hw _ (List.mem_of_getElem? (i := 5) rfl)) (by decide) (by decide)) q175a q175c (g := (mkF m 319 LL165 [(.long p4), (.int 3), (.int 2), (.ref b31)])) rfl (by rw [hml]; rfl) (Steps.refl _) (argsL := [(.int 2), (.int 3), (.long p4)]) (rest := []) (lenOf pd_2 rfl) rfl (by show 2 * 0 + _ ≤ _; exact Nat.le_of_eq rfl) (hb hby at_319) (fun _ _ => ⟨rfl, e166, (by decide : 5 + 0 ≤ _), (by decide : 13 + 0 ≤ _)⟩)
            dsimp only [Pt.U, Pt.locs, Pt.cells, Pt.slots] at X175 l175 y175 z175 st175 hQ175
            subst l175 y175 z175
            obtain ⟨rfl, Nq175, e175⟩ := hQ175
            have N175 := Fr.app N166 Nq175
            refine ⟨_, _, X175, e175, N175, (1 : Int32), ((if_pos c174).trans rfl).symm, fun t kk => P171 t ?_⟩
            show Steps _ _ _ (T166.setTop (mkF m 306 LL165 [(.int i157), (.int (F5 p4 tb_115 lb_115))])) _
            refine XS.icmpNo X166.here hx rfl (hb hby at_306) rfl (XT.ii_ne_f c174) ?_
            show Steps _ _ _ (T166.setTop (mkF m 309 LL165 [])) _
            refine XS.aload X166.here hx rfl (hb hby at_309) rfl rfl ?_
            show Steps _ _ _ (T166.setTop (mkF m 311 LL165 [(.ref b31)])) _
            refine XS.iload X166.here hx rfl (hb hby at_311) rfl ?_
            show Steps _ _ _ (T166.setTop (mkF m 313 LL165 [(.int 2), (.ref b31)])) _
            refine XS.iload X166.here hx rfl (hb hby at_313) rfl ?_
            show Steps _ _ _ (T166.setTop (mkF m 315 LL165 [(.int 2), (.int 2), (.ref b31)])) _
            refine XS.iconst X166.here hx rfl (hb hby at_315) ?_
            show Steps _ _ _ (T166.setTop (mkF m 316 LL165 [(.int 1), (.int 2), (.int 2), (.ref b31)])) _
            refine XS.iadd X166.here hx rfl (hb hby at_316) rfl ?_
            show Steps _ _ _ (T166.setTop (mkF m 317 LL165 [(.int 3), (.int 2), (.ref b31)])) _
            refine XS.lload X166.here hx rfl (hb hby at_317) rfl ?_
            show Steps _ _ _ (T166.setTop (mkF m 319 LL165 [(.long p4), (.int 3), (.int 2), (.ref b31)])) _
            refine st175.trans ?_
            show Steps _ _ _ (T175.setTop (mkF m 322 LL165 [(.int 2)])) _
            refine XS.iload X175.here hx rfl (hb hby at_322) rfl ?_
            show Steps _ _ _ (T175.setTop (mkF m 324 LL165 [(.int 2), (.int 2)])) _
            refine XS.icmpNo X175.here hx rfl (hb hby at_324) rfl (XT.ii_ne_f rfl) ?_
            show Steps _ _ _ (T175.setTop (mkF m 327 LL165 [])) _
            refine XS.iconst X175.here hx rfl (hb hby at_327) ?_
            show Steps _ _ _ (T175.setTop (mkF m 328 LL165 [(.int 1)])) _
            refine XS.goto X175.here hx rfl (pc0 := 328) (pc' := 332) rfl (hb hby at_328) (by decide) (by decide) ?_
            show Steps _ _ _ (T175.setTop (mkF m 332 LL165 [(.int 1)])) _
            exact kk
          · skip
            refine ⟨_, _, X166, e166, N166, (0 : Int32), ((if_neg c174).trans rfl).symm, fun t kk => P171 t ?_⟩
            show Steps _ _ _ (T166.setTop (mkF m 306 LL165 [(.int i157), (.int (F5 p4 tb_115 lb_115))])) _
            refine XS.icmpYes X166.here hx rfl (pc0 := 306) (pc' := 331) rfl (hb hby at_306) rfl (XT.ii_ne_t c174) (by decide) (by decide) ?_
            show Steps _ _ _ (T166.setTop (mkF m 331 LL165 [])) _
            refine XS.iconst X166.here hx rfl (hb hby at_331) ?_
            show Steps _ _ _ (T166.setTop (mkF m 332 LL165 [(.int 0)])) _
            exact kk
        have P176 : ∀ t, Steps p.tables e below (T173.setTop (mkF m 332 LL165 [(.int i172)])) t → Steps p.tables e below ST t := by
          intro t kk
          refine P173 _ ?_
          show Steps _ _ _ (T173.setTop (mkF m 332 LL165 [(.int i172)])) _
          exact kk
        obtain rfl : i172 = (1 : Int32) := (h_i172.trans (if_pos ((own_e1 p4 (own_ab p0 j2 h_j2) (own_ab p1 j4 h_j4) q115_3).trans h_i157.symm)))
        obtain ⟨fs, hr, hrun, hended, hW, hsame⟩ := X173.leave (v := some (.int 1)) (fun h => by rw [Bd.returns] at h; cases h)
        refine ⟨_, _, P176 _ ?_, hrun, hended, _, _, rfl, ?_, ⟨_, rfl⟩, hW, hsame.mono (by decide) (by decide)⟩
        · exact retN X173 hx (t := .boolean) Bd.returns (by simp) (hb hby at_332) hr
        · exact ⟨rfl, N173⟩
  · skip
    let LL177 : Array Slot := #[.val (.int p0), .val (.int p1), .val (.int p2), .val (.int p3), .val (.long p4), .second, .val (.long j2), .second, .val (.long j4), .second, .val (.long j6), .second, .val (.int 1), .unset, .unset, .unset, .unset, .unset, .unset, .unset, .unset, .unset, .unset, .unset, .unset, .unset, .unset]
    have P178 : ∀ t, Steps p.tables e below (s₁.setTop (mkF m 43 LL177 [(.int (p3 &&& (2 : Int32)))])) t → Steps p.tables e below ST t := by
      intro t kk
      refine P8 _ ?_
      show Steps _ _ _ (s₁.setTop (mkF m 30 LL7 [(.int (p3 &&& (1 : Int32)))])) _
      refine XS.ifNo X0.here hx rfl (hb hby at_30) rfl (XT.i0_eq_f c9) ?_
      show Steps _ _ _ (s₁.setTop (mkF m 33 LL7 [])) _
      refine XS.iconst X0.here hx rfl (hb hby at_33) ?_
      show Steps _ _ _ (s₁.setTop (mkF m 34 LL7 [(.int 1)])) _
      refine XS.goto X0.here hx rfl (pc0 := 34) (pc' := 38) rfl (hb hby at_34) (by decide) (by decide) ?_
      show Steps _ _ _ (s₁.setTop (mkF m 38 LL7 [(.int 1)])) _
      refine XS.istore X0.here hx rfl (hb hby at_38) rfl (l' := LL177) rfl ?_
      show Steps _ _ _ (s₁.setTop (mkF m 40 LL177 [])) _
      refine XS.iloadN X0.here hx rfl (hb hby at_40) rfl ?_
      show Steps _ _ _ (s₁.setTop (mkF m 41 LL177 [(.int p3)])) _
      refine XS.iconst X0.here hx rfl (hb hby at_41) ?_
      show Steps _ _ _ (s₁.setTop (mkF m 42 LL177 [(.int 2), (.int p3)])) _
      refine XS.iand X0.here hx rfl (hb hby at_42) rfl ?_
      show Steps _ _ _ (s₁.setTop (mkF m 43 LL177 [(.int (p3 &&& (2 : Int32)))])) _
      exact kk
    obtain ⟨i179, h_i179, P180⟩ : ∃ (i179 : Int32), i179 = (if (p3 &&& (2 : Int32)) = (0 : Int32) then (0 : Int32) else (1 : Int32)) ∧ ∀ t, Steps p.tables e below (s₁.setTop (mkF m 51 #[.val (.int p0), .val (.int p1), .val (.int p2), .val (.int p3), .val (.long p4), .second, .val (.long j2), .second, .val (.long j4), .second, .val (.long j6), .second, .val (.int 1), .unset, .unset, .unset, .unset, .unset, .unset, .unset, .unset, .unset, .unset, .unset, .unset, .unset, .unset] [(.int i179)])) t → Steps p.tables e below ST t := by
      by_cases c181 : (p3 &&& (2 : Int32)) = (0 : Int32)
      · skip
        refine ⟨(0 : Int32), ((if_pos c181).trans rfl).symm, fun t kk => P178 t ?_⟩
        show Steps _ _ _ (s₁.setTop (mkF m 43 LL177 [(.int (p3 &&& (2 : Int32)))])) _
        refine XS.ifYes X0.here hx rfl (pc0 := 43) (pc' := 50) rfl (hb hby at_43) rfl (XT.i0_eq_t c181) (by decide) (by decide) ?_
        show Steps _ _ _ (s₁.setTop (mkF m 50 LL177 [])) _
        refine XS.iconst X0.here hx rfl (hb hby at_50) ?_
        show Steps _ _ _ (s₁.setTop (mkF m 51 LL177 [(.int 0)])) _
        exact kk
      · skip
        refine ⟨(1 : Int32), ((if_neg c181).trans rfl).symm, fun t kk => P178 t ?_⟩
        show Steps _ _ _ (s₁.setTop (mkF m 43 LL177 [(.int (p3 &&& (2 : Int32)))])) _
        refine XS.ifNo X0.here hx rfl (hb hby at_43) rfl (XT.i0_eq_f c181) ?_
        show Steps _ _ _ (s₁.setTop (mkF m 46 LL177 [])) _
        refine XS.iconst X0.here hx rfl (hb hby at_46) ?_
        show Steps _ _ _ (s₁.setTop (mkF m 47 LL177 [(.int 1)])) _
        refine XS.goto X0.here hx rfl (pc0 := 47) (pc' := 51) rfl (hb hby at_47) (by decide) (by decide) ?_
        show Steps _ _ _ (s₁.setTop (mkF m 51 LL177 [(.int 1)])) _
        exact kk
    let LL182 : Array Slot := #[.val (.int p0), .val (.int p1), .val (.int p2), .val (.int p3), .val (.long p4), .second, .val (.long j2), .second, .val (.long j4), .second, .val (.long j6), .second, .val (.int 1), .val (.int i179), .unset, .unset, .unset, .unset, .unset, .unset, .unset, .unset, .unset, .unset, .unset, .unset, .unset]
    let LL183 : Array Slot := #[.val (.int p0), .val (.int p1), .val (.int p2), .val (.int p3), .val (.long p4), .second, .val (.long j2), .second, .val (.long j4), .second, .val (.long j6), .second, .val (.int 1), .val (.int i179), .val (.int 1), .unset, .unset, .unset, .unset, .unset, .unset, .unset, .unset, .unset, .unset, .unset, .unset]
    let LL184 : Array Slot := #[.val (.int p0), .val (.int p1), .val (.int p2), .val (.int p3), .val (.long p4), .second, .val (.long j2), .second, .val (.long j4), .second, .val (.long j6), .second, .val (.int 1), .val (.int i179), .val (.int 1), .val (.int 0), .unset, .unset, .unset, .unset, .unset, .unset, .unset, .unset, .unset, .unset, .unset]
    obtain ⟨T185, h185, k185, X185, e185, E185, A185, st185⟩ := newP X0 hx hZ (hw _ (List.mem_of_getElem? (i := 1) rfl)) e0 (g := (mkF m 78 LL184 [(.int 3)])) rfl (hb hby at_78) rfl (by decide) (cap := 3) (by decide) (by decide) (by decide) (by decide)
    obtain ⟨b185, g_b185⟩ : ∃ z, z = h0.size := ⟨_, rfl⟩
    rw [← g_b185] at A185 st185
    have ge_b185 : n0 ≤ b185 := Nat.le_trans Z0 (Nat.le_of_eq g_b185.symm)
    have sz_b185 : h0.size ≤ b185 := Nat.le_trans (Keep.refl h0 []).1 (Nat.le_of_eq g_b185.symm)
    have V185 : Arv Z h185 b185 k185 .double (3 : Int32) [(.double (0 : UInt64)), (.double (0 : UInt64)), (.double (0 : UInt64))] (.double (0 : UInt64)) := (Arv.new A185 (by decide)).pad (pad_rep [] (.double (0 : UInt64)) 3)
    let LL186 : Array Slot := #[.val (.int p0), .val (.int p1), .val (.int p2), .val (.int p3), .val (.long p4), .second, .val (.long j2), .second, .val (.long j4), .second, .val (.long j6), .second, .val (.int 1), .val (.int i179), .val (.int 1), .val (.int 0), .val (.ref b185), .unset, .unset, .unset, .unset, .unset, .unset, .unset, .unset, .unset, .unset]
    obtain ⟨cl_a187, Ar_a187, q_a187, S_a187, N_a187, H_a187, G_a187⟩ := id V185
    have hin_a187 : ¬ ((1 : Int32) < 0 ∨ cl_a187.slots.size ≤ ((1 : Int32)).toNatClampNeg) := inb_of S_a187 ⟨by decide, by decide⟩
    obtain ⟨T188, h188, X188, e188, W188, st188⟩ := stD X185 hx hZ e185 Ar_a187 (j := (1 : Int32)) hin_a187 (g := (mkF m 89 LL186 [(.double (FP.l2d j2)), (.int 1), (.ref b185)])) rfl rfl (hb hby at_89)
    have V188 : Arv Z h188 b185 k185 .double (3 : Int32) [(.double (0 : UInt64)), (.double (FP.l2d j2)), (.double (0 : UInt64))] (.double (0 : UInt64)) := Arv.set Ar_a187 q_a187 S_a187 N_a187 H_a187 G_a187 rfl W188 1 rfl (Nat.le_of_ble_eq_true rfl)
    have N188 := Fr.snoc X188 N0 ge_b185
    obtain ⟨cl_a189, Ar_a189, q_a189, S_a189, N_a189, H_a189, G_a189⟩ := id V188
    have hin_a189 : ¬ ((2 : Int32) < 0 ∨ cl_a189.slots.size ≤ ((2 : Int32)).toNatClampNeg) := inb_of S_a189 ⟨by decide, by decide⟩
    obtain ⟨T190, h190, X190, e190, W190, st190⟩ := stD X188 hx hZ e188 Ar_a189 (j := (2 : Int32)) hin_a189 (g := (mkF m 99 LL186 [(.double (FP.l2d j4)), (.int 2), (.ref b185)])) rfl rfl (hb hby at_99)
    have V190 : Arv Z h190 b185 k185 .double (3 : Int32) [(.double (0 : UInt64)), (.double (FP.l2d j2)), (.double (FP.l2d j4))] (.double (0 : UInt64)) := Arv.set Ar_a189 q_a189 S_a189 N_a189 H_a189 G_a189 rfl W190 2 rfl (Nat.le_of_ble_eq_true rfl)
    have N190 := Fr.snoc X190 N188 ge_b185
    have P191 : ∀ t, Steps p.tables e below (T190.setTop (mkF m 107 LL186 [(.double (FP.l2d j6)), (.int 0), (.ref b185)])) t → Steps p.tables e below ST t := by
      intro t kk
      refine P180 _ ?_
      show Steps _ _ _ (s₁.setTop (mkF m 51 LL177 [(.int i179)])) _
      refine XS.istore X0.here hx rfl (hb hby at_51) rfl (l' := LL182) rfl ?_
      show Steps _ _ _ (s₁.setTop (mkF m 53 LL182 [])) _
      refine XS.iload X0.here hx rfl (hb hby at_53) rfl ?_
      show Steps _ _ _ (s₁.setTop (mkF m 55 LL182 [(.int 1)])) _
      refine XS.ifNo X0.here hx rfl (hb hby at_55) rfl (XT.i0_eq_f (by decide)) ?_
      show Steps _ _ _ (s₁.setTop (mkF m 58 LL182 [])) _
      refine XS.iconst X0.here hx rfl (hb hby at_58) ?_
      show Steps _ _ _ (s₁.setTop (mkF m 59 LL182 [(.int 1)])) _
      refine XS.goto X0.here hx rfl (pc0 := 59) (pc' := 63) rfl (hb hby at_59) (by decide) (by decide) ?_
      show Steps _ _ _ (s₁.setTop (mkF m 63 LL182 [(.int 1)])) _
      refine XS.istore X0.here hx rfl (hb hby at_63) rfl (l' := LL183) rfl ?_
      show Steps _ _ _ (s₁.setTop (mkF m 65 LL183 [])) _
      refine XS.iload X0.here hx rfl (hb hby at_65) rfl ?_
      show Steps _ _ _ (s₁.setTop (mkF m 67 LL183 [(.int 1)])) _
      refine XS.ifNo X0.here hx rfl (hb hby at_67) rfl (XT.i0_eq_f (by decide)) ?_
      show Steps _ _ _ (s₁.setTop (mkF m 70 LL183 [])) _
      refine XS.iconst X0.here hx rfl (hb hby at_70) ?_
      show Steps _ _ _ (s₁.setTop (mkF m 71 LL183 [(.int 0)])) _
      refine XS.goto X0.here hx rfl (pc0 := 71) (pc' := 75) rfl (hb hby at_71) (by decide) (by decide) ?_
      show Steps _ _ _ (s₁.setTop (mkF m 75 LL183 [(.int 0)])) _
      refine XS.istore X0.here hx rfl (hb hby at_75) rfl (l' := LL184) rfl ?_
      show Steps _ _ _ (s₁.setTop (mkF m 77 LL184 [])) _
      refine XS.iconst X0.here hx rfl (hb hby at_77) ?_
      show Steps _ _ _ (s₁.setTop (mkF m 78 LL184 [(.int 3)])) _
      refine st185 _ ?_
      show Steps _ _ _ (T185.setTop (mkF m 80 LL184 [(.ref b185)])) _
      refine XS.astore X185.here hx rfl (hb hby at_80) rfl rfl (l' := LL186) rfl ?_
      show Steps _ _ _ (T185.setTop (mkF m 82 LL186 [])) _
      refine XS.aload X185.here hx rfl (hb hby at_82) rfl rfl ?_
      show Steps _ _ _ (T185.setTop (mkF m 84 LL186 [(.ref b185)])) _
      refine XS.iload X185.here hx rfl (hb hby at_84) rfl ?_
      show Steps _ _ _ (T185.setTop (mkF m 86 LL186 [(.int 1), (.ref b185)])) _
      refine XS.lload X185.here hx rfl (hb hby at_86) rfl ?_
      show Steps _ _ _ (T185.setTop (mkF m 88 LL186 [(.long j2), (.int 1), (.ref b185)])) _
      refine XS.l2dS X185.here hx rfl (hb hby at_88) rfl rfl ?_
      show Steps _ _ _ (T185.setTop (mkF m 89 LL186 [(.double (FP.l2d j2)), (.int 1), (.ref b185)])) _
      refine st188 _ ?_
      show Steps _ _ _ (T188.setTop (mkF m 90 LL186 [])) _
      refine XS.aload X188.here hx rfl (hb hby at_90) rfl rfl ?_
      show Steps _ _ _ (T188.setTop (mkF m 92 LL186 [(.ref b185)])) _
      refine XS.iload X188.here hx rfl (hb hby at_92) rfl ?_
      show Steps _ _ _ (T188.setTop (mkF m 94 LL186 [(.int 1), (.ref b185)])) _
      refine XS.iconst X188.here hx rfl (hb hby at_94) ?_
      show Steps _ _ _ (T188.setTop (mkF m 95 LL186 [(.int 1), (.int 1), (.ref b185)])) _
      refine XS.iadd X188.here hx rfl (hb hby at_95) rfl ?_
      show Steps _ _ _ (T188.setTop (mkF m 96 LL186 [(.int 2), (.ref b185)])) _
      refine XS.lload X188.here hx rfl (hb hby at_96) rfl ?_
      show Steps _ _ _ (T188.setTop (mkF m 98 LL186 [(.long j4), (.int 2), (.ref b185)])) _
      refine XS.l2dS X188.here hx rfl (hb hby at_98) rfl rfl ?_
      show Steps _ _ _ (T188.setTop (mkF m 99 LL186 [(.double (FP.l2d j4)), (.int 2), (.ref b185)])) _
      refine st190 _ ?_
      show Steps _ _ _ (T190.setTop (mkF m 100 LL186 [])) _
      refine XS.aload X190.here hx rfl (hb hby at_100) rfl rfl ?_
      show Steps _ _ _ (T190.setTop (mkF m 102 LL186 [(.ref b185)])) _
      refine XS.iload X190.here hx rfl (hb hby at_102) rfl ?_
      show Steps _ _ _ (T190.setTop (mkF m 104 LL186 [(.int 0), (.ref b185)])) _
      refine XS.lload X190.here hx rfl (hb hby at_104) rfl ?_
      show Steps _ _ _ (T190.setTop (mkF m 106 LL186 [(.long j6), (.int 0), (.ref b185)])) _
      refine XS.l2dS X190.here hx rfl (hb hby at_106) rfl rfl ?_
      show Steps _ _ _ (T190.setTop (mkF m 107 LL186 [(.double (FP.l2d j6)), (.int 0), (.ref b185)])) _
      exact kk
    obtain ⟨cl_a192, Ar_a192, q_a192, S_a192, N_a192, H_a192, G_a192⟩ := id V190
    have hin_a192 : ¬ ((0 : Int32) < 0 ∨ cl_a192.slots.size ≤ ((0 : Int32)).toNatClampNeg) := inb_of S_a192 ⟨by decide, by decide⟩
    obtain ⟨T193, h193, X193, e193, W193, st193⟩ := stD X190 hx hZ e190 Ar_a192 (j := (0 : Int32)) hin_a192 (g := (mkF m 107 LL186 [(.double (FP.l2d j6)), (.int 0), (.ref b185)])) rfl rfl (hb hby at_107)
    have V193 : Arv Z h193 b185 k185 .double (3 : Int32) [(.double (FP.l2d j6)), (.double (FP.l2d j2)), (.double (FP.l2d j4))] (.double (0 : UInt64)) := Arv.set Ar_a192 q_a192 S_a192 N_a192 H_a192 G_a192 rfl W193 0 rfl (Nat.le_of_ble_eq_true rfl)
    have N193 := Fr.snoc X193 N190 ge_b185
    obtain ⟨T194, h194, k194, X194, e194, E194, A194, st194⟩ := newP X193 hx hZ (hw _ (List.mem_of_getElem? (i := 2) rfl)) e193 (g := (mkF m 109 LL186 [(.int 2)])) rfl (hb hby at_109) rfl (by decide) (cap := 2) (by decide) (by decide) (by decide) (by decide)
    have z195 : n0 ≤ _ := (Nat.le_trans (Nat.le_trans (Nat.le_trans (Nat.le_trans Z0 E185.1) (Keep.of_wr W188).1) (Keep.of_wr W190).1) (Keep.of_wr W193).1)
    have k196 : Keep h0 h193 [] := (Keep.wr (Keep.wr (Keep.wr (Keep.ext (Keep.refl h0 []) E185) W188 (Or.inr sz_b185)) W190 (Or.inr sz_b185)) W193 (Or.inr sz_b185))
    obtain ⟨b194, g_b194⟩ : ∃ z, z = h193.size := ⟨_, rfl⟩
    rw [← g_b194] at A194 st194
    have ne_b185_b194 : b185 ≠ b194 := Nat.ne_of_lt (Nat.lt_of_lt_of_le V193.lt (Nat.le_of_eq g_b194.symm))
    have ge_b194 : n0 ≤ b194 := Nat.le_trans z195 (Nat.le_of_eq g_b194.symm)
    have sz_b194 : h0.size ≤ b194 := Nat.le_trans k196.1 (Nat.le_of_eq g_b194.symm)
    have V194 : Arv Z h194 b194 k194 .int (2 : Int32) [(.int 0), (.int 0)] (.int 0) := (Arv.new A194 (by decide)).pad (pad_rep [] (.int 0) 2)
    let LL197 : Array Slot := #[.val (.int p0), .val (.int p1), .val (.int p2), .val (.int p3), .val (.long p4), .second, .val (.long j2), .second, .val (.long j4), .second, .val (.long j6), .second, .val (.int 1), .val (.int i179), .val (.int 1), .val (.int 0), .val (.ref b185), .val (.ref b194), .unset, .unset, .unset, .unset, .unset, .unset, .unset, .unset, .unset]
    obtain ⟨T198, h198, X198, e198, E198, A198, D198, -, st198⟩ := newO X194 hx hZ hown (hw _ (List.mem_of_getElem? (i := 3) rfl)) (hw _ (List.mem_of_getElem? (i := 4) rfl)) (hw _ (List.mem_of_getElem? (i := 5) rfl)) e194 (g := (mkF m 113 LL197 [])) rfl (hb hby at_113) (by decide) (by decide)
    have f199 := (V193.ext E194)
    have z200 : n0 ≤ _ := (Nat.le_trans z195 E194.1)
    have k201 : Keep h0 h194 [] := (Keep.ext k196 E194)
    obtain ⟨b198, g_b198⟩ : ∃ z, z = h194.size := ⟨_, rfl⟩
    rw [← g_b198] at A198 D198 st198
    have ne_b185_b198 : b185 ≠ b198 := Nat.ne_of_lt (Nat.lt_of_lt_of_le f199.lt (Nat.le_of_eq g_b198.symm))
    have ne_b194_b198 : b194 ≠ b198 := Nat.ne_of_lt (Nat.lt_of_lt_of_le V194.lt (Nat.le_of_eq g_b198.symm))
    have ge_b198 : n0 ≤ b198 := Nat.le_trans z200 (Nat.le_of_eq g_b198.symm)
    have sz_b198 : h0.size ≤ b198 := Nat.le_trans k201.1 (Nat.le_of_eq g_b198.symm)
    have F198_13 : Fld Z h198 b198 "com/example/circlerank/circlerank/generate/AliasTable" "threshold" "[D" .null := D198 (Or.inr (hw _ (List.mem_of_getElem? (i := 13) rfl))) (ty := (.array .double)) (by decide)
    have F198_15 : Fld Z h198 b198 "com/example/circlerank/circlerank/generate/AliasTable" "alias" "[I" .null := D198 (Or.inr (hw _ (List.mem_of_getElem? (i := 15) rfl))) (ty := (.array .int)) (by decide)
    have z203 : n0 ≤ _ := (Nat.le_trans z200 E198.1)
    obtain ⟨_, _, ⟨T202, L202, k202, n202⟩, -, X202, ⟨Lc202, hQ202, l202, y202, z202⟩, st202⟩ := X198.specialBack hx (y := (⟨"com/example/circlerank/circlerank/generate/AliasTable", "<init>", "(I)V"⟩ : MethodName)) rfl hown (mvT hZ (hw _ (List.mem_of_getElem? (i := 6) rfl))) (mvT hZ (hw _ (List.mem_of_getElem? (i := 7) rfl))) (mvT hZ (hw _ (List.mem_of_getElem? (i := 8) rfl))) (by decide) (backOf (W := 1) (rm1 l Z a0 hw [] b198 h198 n0 z203 A198 F198_13 F198_15 ge_b198) hZ (hw _ (List.mem_of_getElem? (i := 8) rfl)) (hw _ (List.mem_of_getElem? (i := 5) rfl)) (by decide) (by decide)) (g := (mkF m 118 LL197 [(.int 3), (.ref b198), (.ref b198)])) rfl (by rw [hml]; rfl) (Steps.refl _) (a := b198) (argsL := [(.int 3)]) (rest := [(.ref b198)]) (lenOf pd_0 rfl) rfl (by show 2 * 0 + _ ≤ _; exact Nat.le_of_eq rfl) (hb hby at_118) (fun _ _ => ⟨rfl, e198, (by decide : 3 + 2 ≤ _), (by decide : 7 + 6 ≤ _)⟩)
    dsimp only [Pt.U, Pt.locs, Pt.cells, Pt.slots] at X202 l202 y202 z202 st202 hQ202
    subst l202 y202 z202
    have f204 := (f199.ext E198)
    have f205 := (V194.ext E198)
    have k206 : Keep h0 h198 [] := (Keep.ext k201 E198)
    obtain ⟨th_202, al_202, kt_202, ka_202, rfl, Nq202, K202, q202_0, q202_1, q202_2, q202_3, q202_4, q202_5, q202_6⟩ := hQ202
    have N202 := Fr.app N193 Nq202
    have ne_b185_th_202 : b185 ≠ th_202 := Nat.ne_of_lt (Nat.lt_of_lt_of_le f204.lt q202_4)
    have ne_b194_th_202 : b194 ≠ th_202 := Nat.ne_of_lt (Nat.lt_of_lt_of_le f205.lt q202_4)
    have ne_b198_th_202 : b198 ≠ th_202 := Nat.ne_of_lt (Nat.lt_of_lt_of_le A198.lt q202_4)
    have ge_th_202 : n0 ≤ th_202 := Nat.le_trans z203 q202_4
    have sz_th_202 : h0.size ≤ th_202 := Nat.le_trans k206.1 q202_4
    have ne_b185_al_202 : b185 ≠ al_202 := Nat.ne_of_lt (Nat.lt_of_lt_of_le f204.lt q202_5)
    have ne_b194_al_202 : b194 ≠ al_202 := Nat.ne_of_lt (Nat.lt_of_lt_of_le f205.lt q202_5)
    have ne_b198_al_202 : b198 ≠ al_202 := Nat.ne_of_lt (Nat.lt_of_lt_of_le A198.lt q202_5)
    have ge_al_202 : n0 ≤ al_202 := Nat.le_trans z203 q202_5
    have sz_al_202 : h0.size ≤ al_202 := Nat.le_trans k206.1 q202_5
    let LL207 : Array Slot := #[.val (.int p0), .val (.int p1), .val (.int p2), .val (.int p3), .val (.long p4), .second, .val (.long j2), .second, .val (.long j4), .second, .val (.long j6), .second, .val (.int 1), .val (.int i179), .val (.int 1), .val (.int 0), .val (.ref b185), .val (.ref b194), .val (.ref b198), .unset, .unset, .unset, .unset, .unset, .unset, .unset, .unset]
    have P208 : ∀ t, Steps p.tables e below (T202.setTop (mkF m 125 LL207 [(.int i179)])) t → Steps p.tables e below ST t := by
      intro t kk
      refine P191 _ ?_
      show Steps _ _ _ (T190.setTop (mkF m 107 LL186 [(.double (FP.l2d j6)), (.int 0), (.ref b185)])) _
      refine st193 _ ?_
      show Steps _ _ _ (T193.setTop (mkF m 108 LL186 [])) _
      refine XS.iconst X193.here hx rfl (hb hby at_108) ?_
      show Steps _ _ _ (T193.setTop (mkF m 109 LL186 [(.int 2)])) _
      refine st194 _ ?_
      show Steps _ _ _ (T194.setTop (mkF m 111 LL186 [(.ref b194)])) _
      refine XS.astore X194.here hx rfl (hb hby at_111) rfl rfl (l' := LL197) rfl ?_
      show Steps _ _ _ (T194.setTop (mkF m 113 LL197 [])) _
      refine st198 _ ?_
      show Steps _ _ _ (T198.setTop (mkF m 116 LL197 [(.ref b198)])) _
      refine XS.dup X198.here hx rfl (hb hby at_116) rfl rfl ?_
      show Steps _ _ _ (T198.setTop (mkF m 117 LL197 [(.ref b198), (.ref b198)])) _
      refine XS.iconst X198.here hx rfl (hb hby at_117) ?_
      show Steps _ _ _ (T198.setTop (mkF m 118 LL197 [(.int 3), (.ref b198), (.ref b198)])) _
      refine st202.trans ?_
      show Steps _ _ _ (T202.setTop (mkF m 121 LL197 [(.ref b198)])) _
      refine XS.astore X202.here hx rfl (hb hby at_121) rfl rfl (l' := LL207) rfl ?_
      show Steps _ _ _ (T202.setTop (mkF m 123 LL207 [])) _
      refine XS.iload X202.here hx rfl (hb hby at_123) rfl ?_
      show Steps _ _ _ (T202.setTop (mkF m 125 LL207 [(.int i179)])) _
      exact kk
    by_cases c209 : i179 = (0 : Int32)
    · skip
      have f211 := (Exa.keep A198 K202)
      have f212 := (Arv.keep f204 K202 (ninS ne_b185_b198 nin0))
      have f213 := (Arv.keep f205 K202 (ninS ne_b194_b198 nin0))
      have z214 : n0 ≤ _ := (Nat.le_trans z203 K202.1)
      obtain ⟨cq210, kq210, q210a, q210b, q210c⟩ := isOf hZ rfl f211
      obtain ⟨_, _, ⟨T210, L210, k210, n210⟩, -, X210, ⟨Lc210, hQ210, l210, y210, z210⟩, st210⟩ := X202.virtualBack hx (y := (⟨"com/example/circlerank/circlerank/generate/AliasTable", "build", "([DII[I)V"⟩ : MethodName)) (z := (⟨"com/example/circlerank/circlerank/generate/AliasTable", "build", "([DII[I)V"⟩ : MethodName)) hown (mvT hZ (hw _ (List.mem_of_getElem? (i := 16) rfl))) (mvT hZ (hw _ (List.mem_of_getElem? (i := 17) rfl))) (notFace_of_selects (args := #[]) (mvT hZ (hw _ (List.mem_of_getElem? (i := 19) rfl)))) (mvT hZ (hw _ (List.mem_of_getElem? (i := 19) rfl))) (mvT hZ (hw _ (List.mem_of_getElem? (i := 18) rfl))) (by decide) (backOf (W := 0) (rm7 l Z a0 hw [] b198 b185 b194 j2 j4 (FP.l2d j6) th_202 al_202 k185 kt_202 ka_202 k194 (0 : UInt64) (0 : UInt64) (0 : UInt64) (0 : Int32) (0 : Int32) (0 : Int32) (0 : Int32) (0 : Int32) T202.heap n0 z214 f211 q202_0 q202_1 f212 q202_2 q202_3 f213 (own_ab p0 j2 h_j2) (own_ab p1 j4 h_j4) ge_b194 ge_th_202 ge_al_202 (Ne.symm ne_b185_b198) (Ne.symm ne_b194_b198) ne_b198_th_202 ne_b198_al_202 ne_b185_b194 ne_b185_th_202 ne_b185_al_202 ne_b194_th_202 ne_b194_al_202 q202_6) hZ (hw _ (List.mem_of_getElem? (i := 20) rfl)) (hw _ (List.mem_of_getElem? (i := 5) rfl)) (by decide) (by decide)) q210a q210c (g := (mkF m 173 LL207 [(.ref b194), (.int 3), (.int 1), (.ref b185), (.ref b198)])) rfl (by rw [hml]; rfl) (Steps.refl _) (argsL := [(.ref b185), (.int 1), (.int 3), (.ref b194)]) (rest := []) (lenOf pd_1 rfl) rfl (by show 2 * 0 + _ ≤ _; exact Nat.le_of_eq rfl) (hb hby at_173) (fun _ _ => ⟨rfl, rfl, (by decide : 5 + 0 ≤ _), (by decide : 13 + 0 ≤ _)⟩)
      dsimp only [Pt.U, Pt.locs, Pt.cells, Pt.slots] at X210 l210 y210 z210 st210 hQ210
      subst l210 y210 z210
      obtain ⟨ta_210, tb_210, la_210, lb_210, v0_210, v1_210, rfl, Nq210, K210, q210_0, q210_1, q210_2, q210_3⟩ := hQ210
      have N210 := Fr.app N202 Nq210
      have f216 := (Exa.keep f211 K210)
      have f217 := (Fld.keep q202_0 K210 (ninS ne_b198_th_202 (ninS ne_b198_al_202 (ninS (Ne.symm ne_b194_b198) nin0))))
      have f218 := (Fld.keep q202_1 K210 (ninS ne_b198_th_202 (ninS ne_b198_al_202 (ninS (Ne.symm ne_b194_b198) nin0))))
      have f219 := (Arv.keep f212 K210 (ninS ne_b185_th_202 (ninS ne_b185_al_202 (ninS ne_b185_b194 nin0))))
      have z220 : n0 ≤ _ := (Nat.le_trans z214 K210.1)
      obtain ⟨cq215, kq215, q215a, q215b, q215c⟩ := isOf hZ rfl f216
      obtain ⟨_, _, ⟨T215, L215, k215, n215⟩, -, X215, ⟨Lc215, hQ215, l215, y215, z215⟩, st215⟩ := X210.virtualBack hx (y := (⟨"com/example/circlerank/circlerank/generate/AliasTable", "build", "([DII[I)V"⟩ : MethodName)) (z := (⟨"com/example/circlerank/circlerank/generate/AliasTable", "build", "([DII[I)V"⟩ : MethodName)) hown (mvT hZ (hw _ (List.mem_of_getElem? (i := 16) rfl))) (mvT hZ (hw _ (List.mem_of_getElem? (i := 17) rfl))) (notFace_of_selects (args := #[]) (mvT hZ (hw _ (List.mem_of_getElem? (i := 19) rfl)))) (mvT hZ (hw _ (List.mem_of_getElem? (i := 19) rfl))) (mvT hZ (hw _ (List.mem_of_getElem? (i := 18) rfl))) (by decide) (backOf (W := 0) (rm8 l Z a0 hw [] b198 b185 b194 j6 (FP.l2d j2) (FP.l2d j4) th_202 al_202 k185 kt_202 ka_202 k194 (0 : UInt64) ta_210 tb_210 (0 : Int32) la_210 lb_210 v0_210 v1_210 T210.heap n0 z220 f216 f217 f218 f219 q210_0 q210_1 q210_2 (own_ab p2 j6 h_j6) ge_b194 ge_th_202 ge_al_202 (Ne.symm ne_b185_b198) (Ne.symm ne_b194_b198) ne_b198_th_202 ne_b198_al_202 ne_b185_b194 ne_b185_th_202 ne_b185_al_202 ne_b194_th_202 ne_b194_al_202 q202_6) hZ (hw _ (List.mem_of_getElem? (i := 20) rfl)) (hw _ (List.mem_of_getElem? (i := 5) rfl)) (by decide) (by decide)) q215a q215c (g := (mkF m 188 LL207 [(.ref b194), (.int 1), (.int 0), (.ref b185), (.ref b198)])) rfl (by rw [hml]; rfl) (Steps.refl _) (argsL := [(.ref b185), (.int 0), (.int 1), (.ref b194)]) (rest := []) (lenOf pd_1 rfl) rfl (by show 2 * 0 + _ ≤ _; exact Nat.le_of_eq rfl) (hb hby at_188) (fun _ _ => ⟨rfl, rfl, (by decide : 5 + 0 ≤ _), (by decide : 13 + 0 ≤ _)⟩)
      dsimp only [Pt.U, Pt.locs, Pt.cells, Pt.slots] at X215 l215 y215 z215 st215 hQ215
      subst l215 y215 z215
      obtain ⟨rfl, Nq215, K215, q215_0, q215_1, q215_2⟩ := hQ215
      have N215 := Fr.app N210 Nq215
      obtain ⟨i221, h_i221⟩ : ∃ z : Int32, z = (((((p4).toUInt64 >>> ((63 : Int32) &&& 0x3f).toInt64.toUInt64).toInt64)).toInt32) := ⟨_, rfl⟩
      let LL222 : Array Slot := #[.val (.int p0), .val (.int p1), .val (.int p2), .val (.int p3), .val (.long p4), .second, .val (.long j2), .second, .val (.long j4), .second, .val (.long j6), .second, .val (.int 1), .val (.int i179), .val (.int 1), .val (.int 0), .val (.ref b185), .val (.ref b194), .val (.ref b198), .val (.int i221), .unset, .unset, .unset, .unset, .unset, .unset, .unset]
      have P223 : ∀ t, Steps p.tables e below (T215.setTop (mkF m 199 LL222 [])) t → Steps p.tables e below ST t := by
        intro t kk
        refine P208 _ ?_
        show Steps _ _ _ (T202.setTop (mkF m 125 LL207 [(.int i179)])) _
        refine XS.ifYes X202.here hx rfl (pc0 := 125) (pc' := 161) rfl (hb hby at_125) rfl (XT.i0_eq_t c209) (by decide) (by decide) ?_
        show Steps _ _ _ (T202.setTop (mkF m 161 LL207 [])) _
        refine XS.aload X202.here hx rfl (hb hby at_161) rfl rfl ?_
        show Steps _ _ _ (T202.setTop (mkF m 163 LL207 [(.ref b198)])) _
        refine XS.aload X202.here hx rfl (hb hby at_163) rfl rfl ?_
        show Steps _ _ _ (T202.setTop (mkF m 165 LL207 [(.ref b185), (.ref b198)])) _
        refine XS.iload X202.here hx rfl (hb hby at_165) rfl ?_
        show Steps _ _ _ (T202.setTop (mkF m 167 LL207 [(.int 1), (.ref b185), (.ref b198)])) _
        refine XS.iload X202.here hx rfl (hb hby at_167) rfl ?_
        show Steps _ _ _ (T202.setTop (mkF m 169 LL207 [(.int 1), (.int 1), (.ref b185), (.ref b198)])) _
        refine XS.iconst X202.here hx rfl (hb hby at_169) ?_
        show Steps _ _ _ (T202.setTop (mkF m 170 LL207 [(.int 2), (.int 1), (.int 1), (.ref b185), (.ref b198)])) _
        refine XS.iadd X202.here hx rfl (hb hby at_170) rfl ?_
        show Steps _ _ _ (T202.setTop (mkF m 171 LL207 [(.int 3), (.int 1), (.ref b185), (.ref b198)])) _
        refine XS.aload X202.here hx rfl (hb hby at_171) rfl rfl ?_
        show Steps _ _ _ (T202.setTop (mkF m 173 LL207 [(.ref b194), (.int 3), (.int 1), (.ref b185), (.ref b198)])) _
        refine st210.trans ?_
        show Steps _ _ _ (T210.setTop (mkF m 176 LL207 [])) _
        refine XS.aload X210.here hx rfl (hb hby at_176) rfl rfl ?_
        show Steps _ _ _ (T210.setTop (mkF m 178 LL207 [(.ref b198)])) _
        refine XS.aload X210.here hx rfl (hb hby at_178) rfl rfl ?_
        show Steps _ _ _ (T210.setTop (mkF m 180 LL207 [(.ref b185), (.ref b198)])) _
        refine XS.iload X210.here hx rfl (hb hby at_180) rfl ?_
        show Steps _ _ _ (T210.setTop (mkF m 182 LL207 [(.int 0), (.ref b185), (.ref b198)])) _
        refine XS.iload X210.here hx rfl (hb hby at_182) rfl ?_
        show Steps _ _ _ (T210.setTop (mkF m 184 LL207 [(.int 0), (.int 0), (.ref b185), (.ref b198)])) _
        refine XS.iconst X210.here hx rfl (hb hby at_184) ?_
        show Steps _ _ _ (T210.setTop (mkF m 185 LL207 [(.int 1), (.int 0), (.int 0), (.ref b185), (.ref b198)])) _
        refine XS.iadd X210.here hx rfl (hb hby at_185) rfl ?_
        show Steps _ _ _ (T210.setTop (mkF m 186 LL207 [(.int 1), (.int 0), (.ref b185), (.ref b198)])) _
        refine XS.aload X210.here hx rfl (hb hby at_186) rfl rfl ?_
        show Steps _ _ _ (T210.setTop (mkF m 188 LL207 [(.ref b194), (.int 1), (.int 0), (.ref b185), (.ref b198)])) _
        refine st215.trans ?_
        show Steps _ _ _ (T215.setTop (mkF m 191 LL207 [])) _
        refine XS.lload X215.here hx rfl (hb hby at_191) rfl ?_
        show Steps _ _ _ (T215.setTop (mkF m 193 LL207 [(.long p4)])) _
        refine XS.bipush X215.here hx rfl (hb hby at_193) ?_
        show Steps _ _ _ (T215.setTop (mkF m 195 LL207 [(.int 63), (.long p4)])) _
        refine XS.lushr X215.here hx rfl (hb hby at_195) rfl ?_
        show Steps _ _ _ (T215.setTop (mkF m 196 LL207 [(.long (((p4).toUInt64 >>> ((63 : Int32) &&& 0x3f).toInt64.toUInt64).toInt64))])) _
        refine XS.l2i X215.here hx rfl (hb hby at_196) rfl ?_
        show Steps _ _ _ (T215.setTop (mkF m 197 LL207 [(.int (((((p4).toUInt64 >>> ((63 : Int32) &&& 0x3f).toInt64.toUInt64).toInt64)).toInt32))])) _
        rw [← h_i221]
        show Steps _ _ _ (T215.setTop (mkF m 197 LL207 [(.int i221)])) _
        refine XS.istore X215.here hx rfl (hb hby at_197) rfl (l' := LL222) rfl ?_
        show Steps _ _ _ (T215.setTop (mkF m 199 LL222 [])) _
        exact kk
      rcases (own_s0 p4 i221 h_i221) with hs224 | hs224
      · skip
        let LL226 : Array Slot := #[.val (.int p0), .val (.int p1), .val (.int p2), .val (.int p3), .val (.long p4), .second, .val (.long j2), .second, .val (.long j4), .second, .val (.long j6), .second, .val (.int 1), .val (.int i179), .val (.int 1), .val (.int 0), .val (.ref b185), .val (.ref b194), .val (.ref b198), .val (.int 0), .unset, .unset, .unset, .unset, .unset, .unset, .unset]
        have P225 : ∀ t, Steps p.tables e below (T215.setTop (mkF m 199 LL226 [])) t → Steps p.tables e below ST t := by
          intro t kk
          refine P223 _ ?_
          show Steps _ _ _ (T215.setTop (mkF m 199 #[.val (.int p0), .val (.int p1), .val (.int p2), .val (.int p3), .val (.long p4), .second, .val (.long j2), .second, .val (.long j4), .second, .val (.long j6), .second, .val (.int 1), .val (.int i179), .val (.int 1), .val (.int 0), .val (.ref b185), .val (.ref b194), .val (.ref b198), .val (.int i221), .unset, .unset, .unset, .unset, .unset, .unset, .unset] [])) t
          rw [hs224]
          exact kk
        let LL227 : Array Slot := #[.val (.int p0), .val (.int p1), .val (.int p2), .val (.int p3), .val (.long p4), .second, .val (.long j2), .second, .val (.long j4), .second, .val (.long j6), .second, .val (.int 1), .val (.int i179), .val (.int 1), .val (.int 0), .val (.ref b185), .val (.ref b194), .val (.ref b198), .val (.int 0), .val (.long (p4 &&& (4294967295 : Int64))), .second, .unset, .unset, .unset, .unset, .unset]
        let LL228 : Array Slot := #[.val (.int p0), .val (.int p1), .val (.int p2), .val (.int p3), .val (.long p4), .second, .val (.long j2), .second, .val (.long j4), .second, .val (.long j6), .second, .val (.int 1), .val (.int i179), .val (.int 1), .val (.int 0), .val (.ref b185), .val (.ref b194), .val (.ref b198), .val (.int 0), .val (.long (p4 &&& (4294967295 : Int64))), .second, .val (.long j2), .second, .unset, .unset, .unset]
        let LL229 : Array Slot := #[.val (.int p0), .val (.int p1), .val (.int p2), .val (.int p3), .val (.long p4), .second, .val (.long j2), .second, .val (.long j4), .second, .val (.long j6), .second, .val (.int 1), .val (.int i179), .val (.int 1), .val (.int 0), .val (.ref b185), .val (.ref b194), .val (.ref b198), .val (.int 0), .val (.long (p4 &&& (4294967295 : Int64))), .second, .val (.long j2), .second, .val (.long j4), .second, .unset]
        have P230 : ∀ t, Steps p.tables e below (T215.setTop (mkF m 240 LL229 [(.int (XT.cmpL j2 j4))])) t → Steps p.tables e below ST t := by
          intro t kk
          refine P225 _ ?_
          show Steps _ _ _ (T215.setTop (mkF m 199 LL226 [])) _
          refine XS.lload X215.here hx rfl (hb hby at_199) rfl ?_
          show Steps _ _ _ (T215.setTop (mkF m 201 LL226 [(.long p4)])) _
          refine X215.ldc2Long hx hown (mvT hZ (hw _ (List.mem_of_getElem? (i := 21) rfl))) (g := (mkF m 201 LL226 [(.long p4)])) rfl (hb hby at_201) _ ?_
          show Steps _ _ _ (T215.setTop (mkF m 204 LL226 [(.long (4294967295 : Int64)), (.long p4)])) _
          refine XS.land X215.here hx rfl (hb hby at_204) rfl ?_
          show Steps _ _ _ (T215.setTop (mkF m 205 LL226 [(.long (p4 &&& (4294967295 : Int64)))])) _
          refine XS.lstore X215.here hx rfl (hb hby at_205) rfl (l' := LL227) rfl ?_
          show Steps _ _ _ (T215.setTop (mkF m 207 LL227 [])) _
          refine XS.iload X215.here hx rfl (hb hby at_207) rfl ?_
          show Steps _ _ _ (T215.setTop (mkF m 209 LL227 [(.int 0)])) _
          refine XS.ifNo X215.here hx rfl (hb hby at_209) rfl (XT.i0_ne_f rfl) ?_
          show Steps _ _ _ (T215.setTop (mkF m 212 LL227 [])) _
          refine XS.lload X215.here hx rfl (hb hby at_212) rfl ?_
          show Steps _ _ _ (T215.setTop (mkF m 214 LL227 [(.long j2)])) _
          refine XS.goto X215.here hx rfl (pc0 := 214) (pc' := 219) rfl (hb hby at_214) (by decide) (by decide) ?_
          show Steps _ _ _ (T215.setTop (mkF m 219 LL227 [(.long j2)])) _
          refine XS.lstore X215.here hx rfl (hb hby at_219) rfl (l' := LL228) rfl ?_
          show Steps _ _ _ (T215.setTop (mkF m 221 LL228 [])) _
          refine XS.iload X215.here hx rfl (hb hby at_221) rfl ?_
          show Steps _ _ _ (T215.setTop (mkF m 223 LL228 [(.int 0)])) _
          refine XS.ifNo X215.here hx rfl (hb hby at_223) rfl (XT.i0_ne_f rfl) ?_
          show Steps _ _ _ (T215.setTop (mkF m 226 LL228 [])) _
          refine XS.lload X215.here hx rfl (hb hby at_226) rfl ?_
          show Steps _ _ _ (T215.setTop (mkF m 228 LL228 [(.long j4)])) _
          refine XS.goto X215.here hx rfl (pc0 := 228) (pc' := 233) rfl (hb hby at_228) (by decide) (by decide) ?_
          show Steps _ _ _ (T215.setTop (mkF m 233 LL228 [(.long j4)])) _
          refine XS.lstore X215.here hx rfl (hb hby at_233) rfl (l' := LL229) rfl ?_
          show Steps _ _ _ (T215.setTop (mkF m 235 LL229 [])) _
          refine XS.lload X215.here hx rfl (hb hby at_235) rfl ?_
          show Steps _ _ _ (T215.setTop (mkF m 237 LL229 [(.long j2)])) _
          refine XS.lload X215.here hx rfl (hb hby at_237) rfl ?_
          show Steps _ _ _ (T215.setTop (mkF m 239 LL229 [(.long j4), (.long j2)])) _
          refine XT.lcmp X215.here hx rfl (hb hby at_239) rfl ?_
          show Steps _ _ _ (T215.setTop (mkF m 240 LL229 [(.int (XT.cmpL j2 j4))])) _
          exact kk
        obtain ⟨i231, h_i231, P232⟩ : ∃ (i231 : Int32), i231 = (if j2 < j4 then (if ((p4 &&& (4294967295 : Int64)) * (j2 + j4)) < ((((2 : Int64) * j2) <<< ((32 : Int32) &&& 0x3f).toInt64)) then (1 : Int32) else (2 : Int32)) else (1 : Int32)) ∧ ∀ t, Steps p.tables e below (T215.setTop (mkF m 291 #[.val (.int p0), .val (.int p1), .val (.int p2), .val (.int p3), .val (.long p4), .second, .val (.long j2), .second, .val (.long j4), .second, .val (.long j6), .second, .val (.int 1), .val (.int i179), .val (.int 1), .val (.int 0), .val (.ref b185), .val (.ref b194), .val (.ref b198), .val (.int 0), .val (.long (p4 &&& (4294967295 : Int64))), .second, .val (.long j2), .second, .val (.long j4), .second, .val (.int i231)] [])) t → Steps p.tables e below ST t := by
          by_cases c233 : j2 < j4
          · skip
            have P234 : ∀ t, Steps p.tables e below (T215.setTop (mkF m 271 LL229 [(.int (XT.cmpL ((p4 &&& (4294967295 : Int64)) * (j2 + j4)) ((((2 : Int64) * j2) <<< ((32 : Int32) &&& 0x3f).toInt64))))])) t → Steps p.tables e below ST t := by
              intro t kk
              refine P230 _ ?_
              show Steps _ _ _ (T215.setTop (mkF m 240 LL229 [(.int (XT.cmpL j2 j4))])) _
              refine XS.ifYes X215.here hx rfl (pc0 := 240) (pc' := 253) rfl (hb hby at_240) rfl (XT.ll_lt_t c233) (by decide) (by decide) ?_
              show Steps _ _ _ (T215.setTop (mkF m 253 LL229 [])) _
              refine XS.lload X215.here hx rfl (hb hby at_253) rfl ?_
              show Steps _ _ _ (T215.setTop (mkF m 255 LL229 [(.long (p4 &&& (4294967295 : Int64)))])) _
              refine XS.lload X215.here hx rfl (hb hby at_255) rfl ?_
              show Steps _ _ _ (T215.setTop (mkF m 257 LL229 [(.long j2), (.long (p4 &&& (4294967295 : Int64)))])) _
              refine XS.lload X215.here hx rfl (hb hby at_257) rfl ?_
              show Steps _ _ _ (T215.setTop (mkF m 259 LL229 [(.long j4), (.long j2), (.long (p4 &&& (4294967295 : Int64)))])) _
              refine XS.ladd X215.here hx rfl (hb hby at_259) rfl ?_
              show Steps _ _ _ (T215.setTop (mkF m 260 LL229 [(.long (j2 + j4)), (.long (p4 &&& (4294967295 : Int64)))])) _
              refine XS.lmul X215.here hx rfl (hb hby at_260) rfl ?_
              show Steps _ _ _ (T215.setTop (mkF m 261 LL229 [(.long ((p4 &&& (4294967295 : Int64)) * (j2 + j4)))])) _
              refine X215.ldc2Long hx hown (mvT hZ (hw _ (List.mem_of_getElem? (i := 29) rfl))) (g := (mkF m 261 LL229 [(.long ((p4 &&& (4294967295 : Int64)) * (j2 + j4)))])) rfl (hb hby at_261) _ ?_
              show Steps _ _ _ (T215.setTop (mkF m 264 LL229 [(.long (2 : Int64)), (.long ((p4 &&& (4294967295 : Int64)) * (j2 + j4)))])) _
              refine XS.lload X215.here hx rfl (hb hby at_264) rfl ?_
              show Steps _ _ _ (T215.setTop (mkF m 266 LL229 [(.long j2), (.long (2 : Int64)), (.long ((p4 &&& (4294967295 : Int64)) * (j2 + j4)))])) _
              refine XS.lmul X215.here hx rfl (hb hby at_266) rfl ?_
              show Steps _ _ _ (T215.setTop (mkF m 267 LL229 [(.long ((2 : Int64) * j2)), (.long ((p4 &&& (4294967295 : Int64)) * (j2 + j4)))])) _
              refine XS.bipush X215.here hx rfl (hb hby at_267) ?_
              show Steps _ _ _ (T215.setTop (mkF m 269 LL229 [(.int 32), (.long ((2 : Int64) * j2)), (.long ((p4 &&& (4294967295 : Int64)) * (j2 + j4)))])) _
              refine XS.lshl X215.here hx rfl (hb hby at_269) rfl ?_
              show Steps _ _ _ (T215.setTop (mkF m 270 LL229 [(.long ((((2 : Int64) * j2) <<< ((32 : Int32) &&& 0x3f).toInt64))), (.long ((p4 &&& (4294967295 : Int64)) * (j2 + j4)))])) _
              refine XT.lcmp X215.here hx rfl (hb hby at_270) rfl ?_
              show Steps _ _ _ (T215.setTop (mkF m 271 LL229 [(.int (XT.cmpL ((p4 &&& (4294967295 : Int64)) * (j2 + j4)) ((((2 : Int64) * j2) <<< ((32 : Int32) &&& 0x3f).toInt64))))])) _
              exact kk
            by_cases c235 : ((p4 &&& (4294967295 : Int64)) * (j2 + j4)) < ((((2 : Int64) * j2) <<< ((32 : Int32) &&& 0x3f).toInt64))
            · skip
              let LL236 : Array Slot := #[.val (.int p0), .val (.int p1), .val (.int p2), .val (.int p3), .val (.long p4), .second, .val (.long j2), .second, .val (.long j4), .second, .val (.long j6), .second, .val (.int 1), .val (.int i179), .val (.int 1), .val (.int 0), .val (.ref b185), .val (.ref b194), .val (.ref b198), .val (.int 0), .val (.long (p4 &&& (4294967295 : Int64))), .second, .val (.long j2), .second, .val (.long j4), .second, .val (.int 1)]
              refine ⟨(1 : Int32), ((if_pos c233).trans ((if_pos c235).trans rfl)).symm, fun t kk => P234 t ?_⟩
              show Steps _ _ _ (T215.setTop (mkF m 271 LL229 [(.int (XT.cmpL ((p4 &&& (4294967295 : Int64)) * (j2 + j4)) ((((2 : Int64) * j2) <<< ((32 : Int32) &&& 0x3f).toInt64))))])) _
              refine XS.ifNo X215.here hx rfl (hb hby at_271) rfl (XT.ll_ge_f c235) ?_
              show Steps _ _ _ (T215.setTop (mkF m 274 LL229 [])) _
              refine XS.iload X215.here hx rfl (hb hby at_274) rfl ?_
              show Steps _ _ _ (T215.setTop (mkF m 276 LL229 [(.int 1)])) _
              refine XS.iload X215.here hx rfl (hb hby at_276) rfl ?_
              show Steps _ _ _ (T215.setTop (mkF m 278 LL229 [(.int 0), (.int 1)])) _
              refine XS.iadd X215.here hx rfl (hb hby at_278) rfl ?_
              show Steps _ _ _ (T215.setTop (mkF m 279 LL229 [(.int 1)])) _
              refine XS.goto X215.here hx rfl (pc0 := 279) (pc' := 289) rfl (hb hby at_279) (by decide) (by decide) ?_
              show Steps _ _ _ (T215.setTop (mkF m 289 LL229 [(.int 1)])) _
              refine XS.istore X215.here hx rfl (hb hby at_289) rfl (l' := LL236) rfl ?_
              show Steps _ _ _ (T215.setTop (mkF m 291 LL236 [])) _
              exact kk
            · skip
              let LL237 : Array Slot := #[.val (.int p0), .val (.int p1), .val (.int p2), .val (.int p3), .val (.long p4), .second, .val (.long j2), .second, .val (.long j4), .second, .val (.long j6), .second, .val (.int 1), .val (.int i179), .val (.int 1), .val (.int 0), .val (.ref b185), .val (.ref b194), .val (.ref b198), .val (.int 0), .val (.long (p4 &&& (4294967295 : Int64))), .second, .val (.long j2), .second, .val (.long j4), .second, .val (.int 2)]
              refine ⟨(2 : Int32), ((if_pos c233).trans ((if_neg c235).trans rfl)).symm, fun t kk => P234 t ?_⟩
              show Steps _ _ _ (T215.setTop (mkF m 271 LL229 [(.int (XT.cmpL ((p4 &&& (4294967295 : Int64)) * (j2 + j4)) ((((2 : Int64) * j2) <<< ((32 : Int32) &&& 0x3f).toInt64))))])) _
              refine XS.ifYes X215.here hx rfl (pc0 := 271) (pc' := 282) rfl (hb hby at_271) rfl (XT.ll_ge_t c235) (by decide) (by decide) ?_
              show Steps _ _ _ (T215.setTop (mkF m 282 LL229 [])) _
              refine XS.iload X215.here hx rfl (hb hby at_282) rfl ?_
              show Steps _ _ _ (T215.setTop (mkF m 284 LL229 [(.int 1)])) _
              refine XS.iconst X215.here hx rfl (hb hby at_284) ?_
              show Steps _ _ _ (T215.setTop (mkF m 285 LL229 [(.int 1), (.int 1)])) _
              refine XS.iadd X215.here hx rfl (hb hby at_285) rfl ?_
              show Steps _ _ _ (T215.setTop (mkF m 286 LL229 [(.int 2)])) _
              refine XS.iload X215.here hx rfl (hb hby at_286) rfl ?_
              show Steps _ _ _ (T215.setTop (mkF m 288 LL229 [(.int 0), (.int 2)])) _
              refine XS.isub X215.here hx rfl (hb hby at_288) rfl ?_
              show Steps _ _ _ (T215.setTop (mkF m 289 LL229 [(.int 2)])) _
              refine XS.istore X215.here hx rfl (hb hby at_289) rfl (l' := LL237) rfl ?_
              show Steps _ _ _ (T215.setTop (mkF m 291 LL237 [])) _
              exact kk
          · skip
            let LL238 : Array Slot := #[.val (.int p0), .val (.int p1), .val (.int p2), .val (.int p3), .val (.long p4), .second, .val (.long j2), .second, .val (.long j4), .second, .val (.long j6), .second, .val (.int 1), .val (.int i179), .val (.int 1), .val (.int 0), .val (.ref b185), .val (.ref b194), .val (.ref b198), .val (.int 0), .val (.long (p4 &&& (4294967295 : Int64))), .second, .val (.long j2), .second, .val (.long j4), .second, .val (.int 1)]
            refine ⟨(1 : Int32), ((if_neg c233).trans rfl).symm, fun t kk => P230 t ?_⟩
            show Steps _ _ _ (T215.setTop (mkF m 240 LL229 [(.int (XT.cmpL j2 j4))])) _
            refine XS.ifNo X215.here hx rfl (hb hby at_240) rfl (XT.ll_lt_f c233) ?_
            show Steps _ _ _ (T215.setTop (mkF m 243 LL229 [])) _
            refine XS.iload X215.here hx rfl (hb hby at_243) rfl ?_
            show Steps _ _ _ (T215.setTop (mkF m 245 LL229 [(.int 1)])) _
            refine XS.iload X215.here hx rfl (hb hby at_245) rfl ?_
            show Steps _ _ _ (T215.setTop (mkF m 247 LL229 [(.int 0), (.int 1)])) _
            refine XS.iadd X215.here hx rfl (hb hby at_247) rfl ?_
            show Steps _ _ _ (T215.setTop (mkF m 248 LL229 [(.int 1)])) _
            refine XS.istore X215.here hx rfl (hb hby at_248) rfl (l' := LL238) rfl ?_
            show Steps _ _ _ (T215.setTop (mkF m 250 LL238 [])) _
            refine XS.goto X215.here hx rfl (pc0 := 250) (pc' := 291) rfl (hb hby at_250) (by decide) (by decide) ?_
            show Steps _ _ _ (T215.setTop (mkF m 291 LL238 [])) _
            exact kk
        let LL239 : Array Slot := #[.val (.int p0), .val (.int p1), .val (.int p2), .val (.int p3), .val (.long p4), .second, .val (.long j2), .second, .val (.long j4), .second, .val (.long j6), .second, .val (.int 1), .val (.int i179), .val (.int 1), .val (.int 0), .val (.ref b185), .val (.ref b194), .val (.ref b198), .val (.int 0), .val (.long (p4 &&& (4294967295 : Int64))), .second, .val (.long j2), .second, .val (.long j4), .second, .val (.int i231)]
        have f241 := (Exa.keep f216 K215)
        have f242 := (Fld.keep f217 K215 (ninS ne_b198_th_202 (ninS ne_b198_al_202 (ninS (Ne.symm ne_b194_b198) nin0))))
        have f243 := (Fld.keep f218 K215 (ninS ne_b198_th_202 (ninS ne_b198_al_202 (ninS (Ne.symm ne_b194_b198) nin0))))
        have z244 : n0 ≤ _ := (Nat.le_trans z220 K215.1)
        obtain ⟨cq240, kq240, q240a, q240b, q240c⟩ := isOf hZ rfl f241
        obtain ⟨_, _, ⟨T240, L240, k240, n240⟩, -, X240, ⟨Lc240, hQ240, l240, y240, z240⟩, st240⟩ := X215.virtualBack hx (y := (⟨"com/example/circlerank/circlerank/generate/AliasTable", "draw", "(IIJ)I"⟩ : MethodName)) (z := (⟨"com/example/circlerank/circlerank/generate/AliasTable", "draw", "(IIJ)I"⟩ : MethodName)) hown (mvT hZ (hw _ (List.mem_of_getElem? (i := 22) rfl))) (mvT hZ (hw _ (List.mem_of_getElem? (i := 23) rfl))) (notFace_of_selects (args := #[]) (mvT hZ (hw _ (List.mem_of_getElem? (i := 25) rfl)))) (mvT hZ (hw _ (List.mem_of_getElem? (i := 25) rfl))) (mvT hZ (hw _ (List.mem_of_getElem? (i := 24) rfl))) (by decide) (backOf (W := 0) (rm9 l Z a0 hw [] b198 p4 th_202 al_202 kt_202 ka_202 FP.dconst1 ta_210 tb_210 (0 : Int32) la_210 lb_210 T215.heap n0 z244 f241 f242 f243 q215_0 q215_1 ((congrArg (fun z => (1 : Int32) + z) (own_sl2_0 p4 (h_i221.symm.trans hs224))).trans (by decide))) hZ (hw _ (List.mem_of_getElem? (i := 26) rfl)) (hw _ (List.mem_of_getElem? (i := 5) rfl)) (by decide) (by decide)) q240a q240c (g := (mkF m 301 LL239 [(.long p4), (.int 3), (.int 1), (.ref b198)])) rfl (by rw [hml]; rfl) (Steps.refl _) (argsL := [(.int 1), (.int 3), (.long p4)]) (rest := []) (lenOf pd_2 rfl) rfl (by show 2 * 0 + _ ≤ _; exact Nat.le_of_eq rfl) (hb hby at_301) (fun _ _ => ⟨rfl, rfl, (by decide : 5 + 0 ≤ _), (by decide : 13 + 0 ≤ _)⟩)
        dsimp only [Pt.U, Pt.locs, Pt.cells, Pt.slots] at X240 l240 y240 z240 st240 hQ240
        subst l240 y240 z240
        obtain ⟨rfl, Nq240, e240⟩ := hQ240
        have N240 := Fr.app N215 Nq240
        have P245 : ∀ t, Steps p.tables e below (T240.setTop (mkF m 306 LL239 [(.int i231), (.int (F9 p4 ta_210 la_210))])) t → Steps p.tables e below ST t := by
          intro t kk
          refine P232 _ ?_
          show Steps _ _ _ (T215.setTop (mkF m 291 LL239 [])) _
          refine XS.aload X215.here hx rfl (hb hby at_291) rfl rfl ?_
          show Steps _ _ _ (T215.setTop (mkF m 293 LL239 [(.ref b198)])) _
          refine XS.iload X215.here hx rfl (hb hby at_293) rfl ?_
          show Steps _ _ _ (T215.setTop (mkF m 295 LL239 [(.int 1), (.ref b198)])) _
          refine XS.iload X215.here hx rfl (hb hby at_295) rfl ?_
          show Steps _ _ _ (T215.setTop (mkF m 297 LL239 [(.int 1), (.int 1), (.ref b198)])) _
          refine XS.iconst X215.here hx rfl (hb hby at_297) ?_
          show Steps _ _ _ (T215.setTop (mkF m 298 LL239 [(.int 2), (.int 1), (.int 1), (.ref b198)])) _
          refine XS.iadd X215.here hx rfl (hb hby at_298) rfl ?_
          show Steps _ _ _ (T215.setTop (mkF m 299 LL239 [(.int 3), (.int 1), (.ref b198)])) _
          refine XS.lload X215.here hx rfl (hb hby at_299) rfl ?_
          show Steps _ _ _ (T215.setTop (mkF m 301 LL239 [(.long p4), (.int 3), (.int 1), (.ref b198)])) _
          refine st240.trans ?_
          show Steps _ _ _ (T240.setTop (mkF m 304 LL239 [(.int (F9 p4 ta_210 la_210))])) _
          refine XS.iload X240.here hx rfl (hb hby at_304) rfl ?_
          show Steps _ _ _ (T240.setTop (mkF m 306 LL239 [(.int i231), (.int (F9 p4 ta_210 la_210))])) _
          exact kk
        obtain ⟨T247, L247, X247, e247, N247, i246, h_i246, P247⟩ : ∃ (T247 : State) (L247 : List Loc), Stand p l e room_1 s m #[(.int p0), (.int p1), (.int p2), (.int p3), (.long p4)] below meth c T247 L247 5 13 ∧ T247.heap = T215.heap ∧ Fr n0 L247 ∧ ∃ (i246 : Int32), i246 = (if (F9 p4 ta_210 la_210) = i231 then (1 : Int32) else (0 : Int32)) ∧ ∀ t, Steps p.tables e below (T247.setTop (mkF m 332 #[.val (.int p0), .val (.int p1), .val (.int p2), .val (.int p3), .val (.long p4), .second, .val (.long j2), .second, .val (.long j4), .second, .val (.long j6), .second, .val (.int 1), .val (.int i179), .val (.int 1), .val (.int 0), .val (.ref b185), .val (.ref b194), .val (.ref b198), .val (.int 0), .val (.long (p4 &&& (4294967295 : Int64))), .second, .val (.long j2), .second, .val (.long j4), .second, .val (.int i231)] [(.int i246)])) t → Steps p.tables e below ST t := by
          by_cases c248 : (F9 p4 ta_210 la_210) = i231
          · skip
            obtain ⟨cq249, kq249, q249a, q249b, q249c⟩ := isOf hZ e240 f241
            obtain ⟨_, _, ⟨T249, L249, k249, n249⟩, -, X249, ⟨Lc249, hQ249, l249, y249, z249⟩, st249⟩ := X240.virtualBack hx (y := (⟨"com/example/circlerank/circlerank/generate/AliasTable", "draw", "(IIJ)I"⟩ : MethodName)) (z := (⟨"com/example/circlerank/circlerank/generate/AliasTable", "draw", "(IIJ)I"⟩ : MethodName)) hown (mvT hZ (hw _ (List.mem_of_getElem? (i := 22) rfl))) (mvT hZ (hw _ (List.mem_of_getElem? (i := 23) rfl))) (notFace_of_selects (args := #[]) (mvT hZ (hw _ (List.mem_of_getElem? (i := 25) rfl)))) (mvT hZ (hw _ (List.mem_of_getElem? (i := 25) rfl))) (mvT hZ (hw _ (List.mem_of_getElem? (i := 24) rfl))) (by decide) (backOf (W := 0) (rm11 l Z a0 hw [] b198 p4 th_202 al_202 kt_202 ka_202 ta_210 tb_210 (0 : Int32) la_210 lb_210 T215.heap n0 z244 f241 f242 f243 q215_0 q215_1 ((congrArg (fun z => (0 : Int32) + z) (own_sl1 p4)).trans (by decide))) hZ (hw _ (List.mem_of_getElem? (i := 26) rfl)) (hw _ (List.mem_of_getElem? (i := 5) rfl)) (by decide) (by decide)) q249a q249c (g := (mkF m 319 LL239 [(.long p4), (.int 1), (.int 0), (.ref b198)])) rfl (by rw [hml]; rfl) (Steps.refl _) (argsL := [(.int 0), (.int 1), (.long p4)]) (rest := []) (lenOf pd_2 rfl) rfl (by show 2 * 0 + _ ≤ _; exact Nat.le_of_eq rfl) (hb hby at_319) (fun _ _ => ⟨rfl, e240, (by decide : 5 + 0 ≤ _), (by decide : 13 + 0 ≤ _)⟩)
            dsimp only [Pt.U, Pt.locs, Pt.cells, Pt.slots] at X249 l249 y249 z249 st249 hQ249
            subst l249 y249 z249
            obtain ⟨rfl, Nq249, e249⟩ := hQ249
            have N249 := Fr.app N240 Nq249
            refine ⟨_, _, X249, e249, N249, (1 : Int32), ((if_pos c248).trans rfl).symm, fun t kk => P245 t ?_⟩
            show Steps _ _ _ (T240.setTop (mkF m 306 LL239 [(.int i231), (.int (F9 p4 ta_210 la_210))])) _
            refine XS.icmpNo X240.here hx rfl (hb hby at_306) rfl (XT.ii_ne_f c248) ?_
            show Steps _ _ _ (T240.setTop (mkF m 309 LL239 [])) _
            refine XS.aload X240.here hx rfl (hb hby at_309) rfl rfl ?_
            show Steps _ _ _ (T240.setTop (mkF m 311 LL239 [(.ref b198)])) _
            refine XS.iload X240.here hx rfl (hb hby at_311) rfl ?_
            show Steps _ _ _ (T240.setTop (mkF m 313 LL239 [(.int 0), (.ref b198)])) _
            refine XS.iload X240.here hx rfl (hb hby at_313) rfl ?_
            show Steps _ _ _ (T240.setTop (mkF m 315 LL239 [(.int 0), (.int 0), (.ref b198)])) _
            refine XS.iconst X240.here hx rfl (hb hby at_315) ?_
            show Steps _ _ _ (T240.setTop (mkF m 316 LL239 [(.int 1), (.int 0), (.int 0), (.ref b198)])) _
            refine XS.iadd X240.here hx rfl (hb hby at_316) rfl ?_
            show Steps _ _ _ (T240.setTop (mkF m 317 LL239 [(.int 1), (.int 0), (.ref b198)])) _
            refine XS.lload X240.here hx rfl (hb hby at_317) rfl ?_
            show Steps _ _ _ (T240.setTop (mkF m 319 LL239 [(.long p4), (.int 1), (.int 0), (.ref b198)])) _
            refine st249.trans ?_
            show Steps _ _ _ (T249.setTop (mkF m 322 LL239 [(.int 0)])) _
            refine XS.iload X249.here hx rfl (hb hby at_322) rfl ?_
            show Steps _ _ _ (T249.setTop (mkF m 324 LL239 [(.int 0), (.int 0)])) _
            refine XS.icmpNo X249.here hx rfl (hb hby at_324) rfl (XT.ii_ne_f rfl) ?_
            show Steps _ _ _ (T249.setTop (mkF m 327 LL239 [])) _
            refine XS.iconst X249.here hx rfl (hb hby at_327) ?_
            show Steps _ _ _ (T249.setTop (mkF m 328 LL239 [(.int 1)])) _
            refine XS.goto X249.here hx rfl (pc0 := 328) (pc' := 332) rfl (hb hby at_328) (by decide) (by decide) ?_
            show Steps _ _ _ (T249.setTop (mkF m 332 LL239 [(.int 1)])) _
            exact kk
          · skip
            refine ⟨_, _, X240, e240, N240, (0 : Int32), ((if_neg c248).trans rfl).symm, fun t kk => P245 t ?_⟩
            show Steps _ _ _ (T240.setTop (mkF m 306 LL239 [(.int i231), (.int (F9 p4 ta_210 la_210))])) _
            refine XS.icmpYes X240.here hx rfl (pc0 := 306) (pc' := 331) rfl (hb hby at_306) rfl (XT.ii_ne_t c248) (by decide) (by decide) ?_
            show Steps _ _ _ (T240.setTop (mkF m 331 LL239 [])) _
            refine XS.iconst X240.here hx rfl (hb hby at_331) ?_
            show Steps _ _ _ (T240.setTop (mkF m 332 LL239 [(.int 0)])) _
            exact kk
        have P250 : ∀ t, Steps p.tables e below (T247.setTop (mkF m 332 LL239 [(.int i246)])) t → Steps p.tables e below ST t := by
          intro t kk
          refine P247 _ ?_
          show Steps _ _ _ (T247.setTop (mkF m 332 LL239 [(.int i246)])) _
          exact kk
        obtain rfl : i246 = (1 : Int32) := (h_i246.trans (if_pos ((own_e0 p4 (own_ab p0 j2 h_j2) (own_ab p1 j4 h_j4) q210_3).trans h_i231.symm)))
        obtain ⟨fs, hr, hrun, hended, hW, hsame⟩ := X247.leave (v := some (.int 1)) (fun h => by rw [Bd.returns] at h; cases h)
        refine ⟨_, _, P250 _ ?_, hrun, hended, _, _, rfl, ?_, ⟨_, rfl⟩, hW, hsame.mono (by decide) (by decide)⟩
        · exact retN X247 hx (t := .boolean) Bd.returns (by simp) (hb hby at_332) hr
        · exact ⟨rfl, N247⟩
      · skip
        let LL252 : Array Slot := #[.val (.int p0), .val (.int p1), .val (.int p2), .val (.int p3), .val (.long p4), .second, .val (.long j2), .second, .val (.long j4), .second, .val (.long j6), .second, .val (.int 1), .val (.int i179), .val (.int 1), .val (.int 0), .val (.ref b185), .val (.ref b194), .val (.ref b198), .val (.int 1), .unset, .unset, .unset, .unset, .unset, .unset, .unset]
        have P251 : ∀ t, Steps p.tables e below (T215.setTop (mkF m 199 LL252 [])) t → Steps p.tables e below ST t := by
          intro t kk
          refine P223 _ ?_
          show Steps _ _ _ (T215.setTop (mkF m 199 #[.val (.int p0), .val (.int p1), .val (.int p2), .val (.int p3), .val (.long p4), .second, .val (.long j2), .second, .val (.long j4), .second, .val (.long j6), .second, .val (.int 1), .val (.int i179), .val (.int 1), .val (.int 0), .val (.ref b185), .val (.ref b194), .val (.ref b198), .val (.int i221), .unset, .unset, .unset, .unset, .unset, .unset, .unset] [])) t
          rw [hs224]
          exact kk
        let LL253 : Array Slot := #[.val (.int p0), .val (.int p1), .val (.int p2), .val (.int p3), .val (.long p4), .second, .val (.long j2), .second, .val (.long j4), .second, .val (.long j6), .second, .val (.int 1), .val (.int i179), .val (.int 1), .val (.int 0), .val (.ref b185), .val (.ref b194), .val (.ref b198), .val (.int 1), .val (.long (p4 &&& (4294967295 : Int64))), .second, .unset, .unset, .unset, .unset, .unset]
        let LL254 : Array Slot := #[.val (.int p0), .val (.int p1), .val (.int p2), .val (.int p3), .val (.long p4), .second, .val (.long j2), .second, .val (.long j4), .second, .val (.long j6), .second, .val (.int 1), .val (.int i179), .val (.int 1), .val (.int 0), .val (.ref b185), .val (.ref b194), .val (.ref b198), .val (.int 1), .val (.long (p4 &&& (4294967295 : Int64))), .second, .val (.long j4), .second, .unset, .unset, .unset]
        let LL255 : Array Slot := #[.val (.int p0), .val (.int p1), .val (.int p2), .val (.int p3), .val (.long p4), .second, .val (.long j2), .second, .val (.long j4), .second, .val (.long j6), .second, .val (.int 1), .val (.int i179), .val (.int 1), .val (.int 0), .val (.ref b185), .val (.ref b194), .val (.ref b198), .val (.int 1), .val (.long (p4 &&& (4294967295 : Int64))), .second, .val (.long j4), .second, .val (.long j2), .second, .unset]
        have P256 : ∀ t, Steps p.tables e below (T215.setTop (mkF m 240 LL255 [(.int (XT.cmpL j4 j2))])) t → Steps p.tables e below ST t := by
          intro t kk
          refine P251 _ ?_
          show Steps _ _ _ (T215.setTop (mkF m 199 LL252 [])) _
          refine XS.lload X215.here hx rfl (hb hby at_199) rfl ?_
          show Steps _ _ _ (T215.setTop (mkF m 201 LL252 [(.long p4)])) _
          refine X215.ldc2Long hx hown (mvT hZ (hw _ (List.mem_of_getElem? (i := 21) rfl))) (g := (mkF m 201 LL252 [(.long p4)])) rfl (hb hby at_201) _ ?_
          show Steps _ _ _ (T215.setTop (mkF m 204 LL252 [(.long (4294967295 : Int64)), (.long p4)])) _
          refine XS.land X215.here hx rfl (hb hby at_204) rfl ?_
          show Steps _ _ _ (T215.setTop (mkF m 205 LL252 [(.long (p4 &&& (4294967295 : Int64)))])) _
          refine XS.lstore X215.here hx rfl (hb hby at_205) rfl (l' := LL253) rfl ?_
          show Steps _ _ _ (T215.setTop (mkF m 207 LL253 [])) _
          refine XS.iload X215.here hx rfl (hb hby at_207) rfl ?_
          show Steps _ _ _ (T215.setTop (mkF m 209 LL253 [(.int 1)])) _
          refine XS.ifYes X215.here hx rfl (pc0 := 209) (pc' := 217) rfl (hb hby at_209) rfl (XT.i0_ne_t (by decide)) (by decide) (by decide) ?_
          show Steps _ _ _ (T215.setTop (mkF m 217 LL253 [])) _
          refine XS.lload X215.here hx rfl (hb hby at_217) rfl ?_
          show Steps _ _ _ (T215.setTop (mkF m 219 LL253 [(.long j4)])) _
          refine XS.lstore X215.here hx rfl (hb hby at_219) rfl (l' := LL254) rfl ?_
          show Steps _ _ _ (T215.setTop (mkF m 221 LL254 [])) _
          refine XS.iload X215.here hx rfl (hb hby at_221) rfl ?_
          show Steps _ _ _ (T215.setTop (mkF m 223 LL254 [(.int 1)])) _
          refine XS.ifYes X215.here hx rfl (pc0 := 223) (pc' := 231) rfl (hb hby at_223) rfl (XT.i0_ne_t (by decide)) (by decide) (by decide) ?_
          show Steps _ _ _ (T215.setTop (mkF m 231 LL254 [])) _
          refine XS.lload X215.here hx rfl (hb hby at_231) rfl ?_
          show Steps _ _ _ (T215.setTop (mkF m 233 LL254 [(.long j2)])) _
          refine XS.lstore X215.here hx rfl (hb hby at_233) rfl (l' := LL255) rfl ?_
          show Steps _ _ _ (T215.setTop (mkF m 235 LL255 [])) _
          refine XS.lload X215.here hx rfl (hb hby at_235) rfl ?_
          show Steps _ _ _ (T215.setTop (mkF m 237 LL255 [(.long j4)])) _
          refine XS.lload X215.here hx rfl (hb hby at_237) rfl ?_
          show Steps _ _ _ (T215.setTop (mkF m 239 LL255 [(.long j2), (.long j4)])) _
          refine XT.lcmp X215.here hx rfl (hb hby at_239) rfl ?_
          show Steps _ _ _ (T215.setTop (mkF m 240 LL255 [(.int (XT.cmpL j4 j2))])) _
          exact kk
        obtain ⟨i257, h_i257, P258⟩ : ∃ (i257 : Int32), i257 = (if j4 < j2 then (if ((p4 &&& (4294967295 : Int64)) * (j2 + j4)) < ((((2 : Int64) * j4) <<< ((32 : Int32) &&& 0x3f).toInt64)) then (2 : Int32) else (1 : Int32)) else (2 : Int32)) ∧ ∀ t, Steps p.tables e below (T215.setTop (mkF m 291 #[.val (.int p0), .val (.int p1), .val (.int p2), .val (.int p3), .val (.long p4), .second, .val (.long j2), .second, .val (.long j4), .second, .val (.long j6), .second, .val (.int 1), .val (.int i179), .val (.int 1), .val (.int 0), .val (.ref b185), .val (.ref b194), .val (.ref b198), .val (.int 1), .val (.long (p4 &&& (4294967295 : Int64))), .second, .val (.long j4), .second, .val (.long j2), .second, .val (.int i257)] [])) t → Steps p.tables e below ST t := by
          by_cases c259 : j4 < j2
          · skip
            have P260 : ∀ t, Steps p.tables e below (T215.setTop (mkF m 271 LL255 [(.int (XT.cmpL ((p4 &&& (4294967295 : Int64)) * (j2 + j4)) ((((2 : Int64) * j4) <<< ((32 : Int32) &&& 0x3f).toInt64))))])) t → Steps p.tables e below ST t := by
              intro t kk
              refine P256 _ ?_
              show Steps _ _ _ (T215.setTop (mkF m 240 LL255 [(.int (XT.cmpL j4 j2))])) _
              refine XS.ifYes X215.here hx rfl (pc0 := 240) (pc' := 253) rfl (hb hby at_240) rfl (XT.ll_lt_t c259) (by decide) (by decide) ?_
              show Steps _ _ _ (T215.setTop (mkF m 253 LL255 [])) _
              refine XS.lload X215.here hx rfl (hb hby at_253) rfl ?_
              show Steps _ _ _ (T215.setTop (mkF m 255 LL255 [(.long (p4 &&& (4294967295 : Int64)))])) _
              refine XS.lload X215.here hx rfl (hb hby at_255) rfl ?_
              show Steps _ _ _ (T215.setTop (mkF m 257 LL255 [(.long j2), (.long (p4 &&& (4294967295 : Int64)))])) _
              refine XS.lload X215.here hx rfl (hb hby at_257) rfl ?_
              show Steps _ _ _ (T215.setTop (mkF m 259 LL255 [(.long j4), (.long j2), (.long (p4 &&& (4294967295 : Int64)))])) _
              refine XS.ladd X215.here hx rfl (hb hby at_259) rfl ?_
              show Steps _ _ _ (T215.setTop (mkF m 260 LL255 [(.long (j2 + j4)), (.long (p4 &&& (4294967295 : Int64)))])) _
              refine XS.lmul X215.here hx rfl (hb hby at_260) rfl ?_
              show Steps _ _ _ (T215.setTop (mkF m 261 LL255 [(.long ((p4 &&& (4294967295 : Int64)) * (j2 + j4)))])) _
              refine X215.ldc2Long hx hown (mvT hZ (hw _ (List.mem_of_getElem? (i := 29) rfl))) (g := (mkF m 261 LL255 [(.long ((p4 &&& (4294967295 : Int64)) * (j2 + j4)))])) rfl (hb hby at_261) _ ?_
              show Steps _ _ _ (T215.setTop (mkF m 264 LL255 [(.long (2 : Int64)), (.long ((p4 &&& (4294967295 : Int64)) * (j2 + j4)))])) _
              refine XS.lload X215.here hx rfl (hb hby at_264) rfl ?_
              show Steps _ _ _ (T215.setTop (mkF m 266 LL255 [(.long j4), (.long (2 : Int64)), (.long ((p4 &&& (4294967295 : Int64)) * (j2 + j4)))])) _
              refine XS.lmul X215.here hx rfl (hb hby at_266) rfl ?_
              show Steps _ _ _ (T215.setTop (mkF m 267 LL255 [(.long ((2 : Int64) * j4)), (.long ((p4 &&& (4294967295 : Int64)) * (j2 + j4)))])) _
              refine XS.bipush X215.here hx rfl (hb hby at_267) ?_
              show Steps _ _ _ (T215.setTop (mkF m 269 LL255 [(.int 32), (.long ((2 : Int64) * j4)), (.long ((p4 &&& (4294967295 : Int64)) * (j2 + j4)))])) _
              refine XS.lshl X215.here hx rfl (hb hby at_269) rfl ?_
              show Steps _ _ _ (T215.setTop (mkF m 270 LL255 [(.long ((((2 : Int64) * j4) <<< ((32 : Int32) &&& 0x3f).toInt64))), (.long ((p4 &&& (4294967295 : Int64)) * (j2 + j4)))])) _
              refine XT.lcmp X215.here hx rfl (hb hby at_270) rfl ?_
              show Steps _ _ _ (T215.setTop (mkF m 271 LL255 [(.int (XT.cmpL ((p4 &&& (4294967295 : Int64)) * (j2 + j4)) ((((2 : Int64) * j4) <<< ((32 : Int32) &&& 0x3f).toInt64))))])) _
              exact kk
            by_cases c261 : ((p4 &&& (4294967295 : Int64)) * (j2 + j4)) < ((((2 : Int64) * j4) <<< ((32 : Int32) &&& 0x3f).toInt64))
            · skip
              let LL262 : Array Slot := #[.val (.int p0), .val (.int p1), .val (.int p2), .val (.int p3), .val (.long p4), .second, .val (.long j2), .second, .val (.long j4), .second, .val (.long j6), .second, .val (.int 1), .val (.int i179), .val (.int 1), .val (.int 0), .val (.ref b185), .val (.ref b194), .val (.ref b198), .val (.int 1), .val (.long (p4 &&& (4294967295 : Int64))), .second, .val (.long j4), .second, .val (.long j2), .second, .val (.int 2)]
              refine ⟨(2 : Int32), ((if_pos c259).trans ((if_pos c261).trans rfl)).symm, fun t kk => P260 t ?_⟩
              show Steps _ _ _ (T215.setTop (mkF m 271 LL255 [(.int (XT.cmpL ((p4 &&& (4294967295 : Int64)) * (j2 + j4)) ((((2 : Int64) * j4) <<< ((32 : Int32) &&& 0x3f).toInt64))))])) _
              refine XS.ifNo X215.here hx rfl (hb hby at_271) rfl (XT.ll_ge_f c261) ?_
              show Steps _ _ _ (T215.setTop (mkF m 274 LL255 [])) _
              refine XS.iload X215.here hx rfl (hb hby at_274) rfl ?_
              show Steps _ _ _ (T215.setTop (mkF m 276 LL255 [(.int 1)])) _
              refine XS.iload X215.here hx rfl (hb hby at_276) rfl ?_
              show Steps _ _ _ (T215.setTop (mkF m 278 LL255 [(.int 1), (.int 1)])) _
              refine XS.iadd X215.here hx rfl (hb hby at_278) rfl ?_
              show Steps _ _ _ (T215.setTop (mkF m 279 LL255 [(.int 2)])) _
              refine XS.goto X215.here hx rfl (pc0 := 279) (pc' := 289) rfl (hb hby at_279) (by decide) (by decide) ?_
              show Steps _ _ _ (T215.setTop (mkF m 289 LL255 [(.int 2)])) _
              refine XS.istore X215.here hx rfl (hb hby at_289) rfl (l' := LL262) rfl ?_
              show Steps _ _ _ (T215.setTop (mkF m 291 LL262 [])) _
              exact kk
            · skip
              let LL263 : Array Slot := #[.val (.int p0), .val (.int p1), .val (.int p2), .val (.int p3), .val (.long p4), .second, .val (.long j2), .second, .val (.long j4), .second, .val (.long j6), .second, .val (.int 1), .val (.int i179), .val (.int 1), .val (.int 0), .val (.ref b185), .val (.ref b194), .val (.ref b198), .val (.int 1), .val (.long (p4 &&& (4294967295 : Int64))), .second, .val (.long j4), .second, .val (.long j2), .second, .val (.int 1)]
              refine ⟨(1 : Int32), ((if_pos c259).trans ((if_neg c261).trans rfl)).symm, fun t kk => P260 t ?_⟩
              show Steps _ _ _ (T215.setTop (mkF m 271 LL255 [(.int (XT.cmpL ((p4 &&& (4294967295 : Int64)) * (j2 + j4)) ((((2 : Int64) * j4) <<< ((32 : Int32) &&& 0x3f).toInt64))))])) _
              refine XS.ifYes X215.here hx rfl (pc0 := 271) (pc' := 282) rfl (hb hby at_271) rfl (XT.ll_ge_t c261) (by decide) (by decide) ?_
              show Steps _ _ _ (T215.setTop (mkF m 282 LL255 [])) _
              refine XS.iload X215.here hx rfl (hb hby at_282) rfl ?_
              show Steps _ _ _ (T215.setTop (mkF m 284 LL255 [(.int 1)])) _
              refine XS.iconst X215.here hx rfl (hb hby at_284) ?_
              show Steps _ _ _ (T215.setTop (mkF m 285 LL255 [(.int 1), (.int 1)])) _
              refine XS.iadd X215.here hx rfl (hb hby at_285) rfl ?_
              show Steps _ _ _ (T215.setTop (mkF m 286 LL255 [(.int 2)])) _
              refine XS.iload X215.here hx rfl (hb hby at_286) rfl ?_
              show Steps _ _ _ (T215.setTop (mkF m 288 LL255 [(.int 1), (.int 2)])) _
              refine XS.isub X215.here hx rfl (hb hby at_288) rfl ?_
              show Steps _ _ _ (T215.setTop (mkF m 289 LL255 [(.int 1)])) _
              refine XS.istore X215.here hx rfl (hb hby at_289) rfl (l' := LL263) rfl ?_
              show Steps _ _ _ (T215.setTop (mkF m 291 LL263 [])) _
              exact kk
          · skip
            let LL264 : Array Slot := #[.val (.int p0), .val (.int p1), .val (.int p2), .val (.int p3), .val (.long p4), .second, .val (.long j2), .second, .val (.long j4), .second, .val (.long j6), .second, .val (.int 1), .val (.int i179), .val (.int 1), .val (.int 0), .val (.ref b185), .val (.ref b194), .val (.ref b198), .val (.int 1), .val (.long (p4 &&& (4294967295 : Int64))), .second, .val (.long j4), .second, .val (.long j2), .second, .val (.int 2)]
            refine ⟨(2 : Int32), ((if_neg c259).trans rfl).symm, fun t kk => P256 t ?_⟩
            show Steps _ _ _ (T215.setTop (mkF m 240 LL255 [(.int (XT.cmpL j4 j2))])) _
            refine XS.ifNo X215.here hx rfl (hb hby at_240) rfl (XT.ll_lt_f c259) ?_
            show Steps _ _ _ (T215.setTop (mkF m 243 LL255 [])) _
            refine XS.iload X215.here hx rfl (hb hby at_243) rfl ?_
            show Steps _ _ _ (T215.setTop (mkF m 245 LL255 [(.int 1)])) _
            refine XS.iload X215.here hx rfl (hb hby at_245) rfl ?_
            show Steps _ _ _ (T215.setTop (mkF m 247 LL255 [(.int 1), (.int 1)])) _
            refine XS.iadd X215.here hx rfl (hb hby at_247) rfl ?_
            show Steps _ _ _ (T215.setTop (mkF m 248 LL255 [(.int 2)])) _
            refine XS.istore X215.here hx rfl (hb hby at_248) rfl (l' := LL264) rfl ?_
            show Steps _ _ _ (T215.setTop (mkF m 250 LL264 [])) _
            refine XS.goto X215.here hx rfl (pc0 := 250) (pc' := 291) rfl (hb hby at_250) (by decide) (by decide) ?_
            show Steps _ _ _ (T215.setTop (mkF m 291 LL264 [])) _
            exact kk
        let LL265 : Array Slot := #[.val (.int p0), .val (.int p1), .val (.int p2), .val (.int p3), .val (.long p4), .second, .val (.long j2), .second, .val (.long j4), .second, .val (.long j6), .second, .val (.int 1), .val (.int i179), .val (.int 1), .val (.int 0), .val (.ref b185), .val (.ref b194), .val (.ref b198), .val (.int 1), .val (.long (p4 &&& (4294967295 : Int64))), .second, .val (.long j4), .second, .val (.long j2), .second, .val (.int i257)]
        have f267 := (Exa.keep f216 K215)
        have f268 := (Fld.keep f217 K215 (ninS ne_b198_th_202 (ninS ne_b198_al_202 (ninS (Ne.symm ne_b194_b198) nin0))))
        have f269 := (Fld.keep f218 K215 (ninS ne_b198_th_202 (ninS ne_b198_al_202 (ninS (Ne.symm ne_b194_b198) nin0))))
        have z270 : n0 ≤ _ := (Nat.le_trans z220 K215.1)
        obtain ⟨cq266, kq266, q266a, q266b, q266c⟩ := isOf hZ rfl f267
        obtain ⟨_, _, ⟨T266, L266, k266, n266⟩, -, X266, ⟨Lc266, hQ266, l266, y266, z266⟩, st266⟩ := X215.virtualBack hx (y := (⟨"com/example/circlerank/circlerank/generate/AliasTable", "draw", "(IIJ)I"⟩ : MethodName)) (z := (⟨"com/example/circlerank/circlerank/generate/AliasTable", "draw", "(IIJ)I"⟩ : MethodName)) hown (mvT hZ (hw _ (List.mem_of_getElem? (i := 22) rfl))) (mvT hZ (hw _ (List.mem_of_getElem? (i := 23) rfl))) (notFace_of_selects (args := #[]) (mvT hZ (hw _ (List.mem_of_getElem? (i := 25) rfl)))) (mvT hZ (hw _ (List.mem_of_getElem? (i := 25) rfl))) (mvT hZ (hw _ (List.mem_of_getElem? (i := 24) rfl))) (by decide) (backOf (W := 0) (rm10 l Z a0 hw [] b198 p4 th_202 al_202 kt_202 ka_202 FP.dconst1 ta_210 tb_210 (0 : Int32) la_210 lb_210 T215.heap n0 z270 f267 f268 f269 q215_0 q215_1 ((congrArg (fun z => (1 : Int32) + z) (own_sl2_1 p4 (h_i221.symm.trans hs224))).trans (by decide))) hZ (hw _ (List.mem_of_getElem? (i := 26) rfl)) (hw _ (List.mem_of_getElem? (i := 5) rfl)) (by decide) (by decide)) q266a q266c (g := (mkF m 301 LL265 [(.long p4), (.int 3), (.int 1), (.ref b198)])) rfl (by rw [hml]; rfl) (Steps.refl _) (argsL := [(.int 1), (.int 3), (.long p4)]) (rest := []) (lenOf pd_2 rfl) rfl (by show 2 * 0 + _ ≤ _; exact Nat.le_of_eq rfl) (hb hby at_301) (fun _ _ => ⟨rfl, rfl, (by decide : 5 + 0 ≤ _), (by decide : 13 + 0 ≤ _)⟩)
        dsimp only [Pt.U, Pt.locs, Pt.cells, Pt.slots] at X266 l266 y266 z266 st266 hQ266
        subst l266 y266 z266
        obtain ⟨rfl, Nq266, e266⟩ := hQ266
        have N266 := Fr.app N215 Nq266
        have P271 : ∀ t, Steps p.tables e below (T266.setTop (mkF m 306 LL265 [(.int i257), (.int (F10 p4 tb_210 lb_210))])) t → Steps p.tables e below ST t := by
          intro t kk
          refine P258 _ ?_
          show Steps _ _ _ (T215.setTop (mkF m 291 LL265 [])) _
          refine XS.aload X215.here hx rfl (hb hby at_291) rfl rfl ?_
          show Steps _ _ _ (T215.setTop (mkF m 293 LL265 [(.ref b198)])) _
          refine XS.iload X215.here hx rfl (hb hby at_293) rfl ?_
          show Steps _ _ _ (T215.setTop (mkF m 295 LL265 [(.int 1), (.ref b198)])) _
          refine XS.iload X215.here hx rfl (hb hby at_295) rfl ?_
          show Steps _ _ _ (T215.setTop (mkF m 297 LL265 [(.int 1), (.int 1), (.ref b198)])) _
          refine XS.iconst X215.here hx rfl (hb hby at_297) ?_
          show Steps _ _ _ (T215.setTop (mkF m 298 LL265 [(.int 2), (.int 1), (.int 1), (.ref b198)])) _
          refine XS.iadd X215.here hx rfl (hb hby at_298) rfl ?_
          show Steps _ _ _ (T215.setTop (mkF m 299 LL265 [(.int 3), (.int 1), (.ref b198)])) _
          refine XS.lload X215.here hx rfl (hb hby at_299) rfl ?_
          show Steps _ _ _ (T215.setTop (mkF m 301 LL265 [(.long p4), (.int 3), (.int 1), (.ref b198)])) _
          refine st266.trans ?_
          show Steps _ _ _ (T266.setTop (mkF m 304 LL265 [(.int (F10 p4 tb_210 lb_210))])) _
          refine XS.iload X266.here hx rfl (hb hby at_304) rfl ?_
          show Steps _ _ _ (T266.setTop (mkF m 306 LL265 [(.int i257), (.int (F10 p4 tb_210 lb_210))])) _
          exact kk
        obtain ⟨T273, L273, X273, e273, N273, i272, h_i272, P273⟩ : ∃ (T273 : State) (L273 : List Loc), Stand p l e room_1 s m #[(.int p0), (.int p1), (.int p2), (.int p3), (.long p4)] below meth c T273 L273 5 13 ∧ T273.heap = T215.heap ∧ Fr n0 L273 ∧ ∃ (i272 : Int32), i272 = (if (F10 p4 tb_210 lb_210) = i257 then (1 : Int32) else (0 : Int32)) ∧ ∀ t, Steps p.tables e below (T273.setTop (mkF m 332 #[.val (.int p0), .val (.int p1), .val (.int p2), .val (.int p3), .val (.long p4), .second, .val (.long j2), .second, .val (.long j4), .second, .val (.long j6), .second, .val (.int 1), .val (.int i179), .val (.int 1), .val (.int 0), .val (.ref b185), .val (.ref b194), .val (.ref b198), .val (.int 1), .val (.long (p4 &&& (4294967295 : Int64))), .second, .val (.long j4), .second, .val (.long j2), .second, .val (.int i257)] [(.int i272)])) t → Steps p.tables e below ST t := by
          by_cases c274 : (F10 p4 tb_210 lb_210) = i257
          · skip
            obtain ⟨cq275, kq275, q275a, q275b, q275c⟩ := isOf hZ e266 f267
            obtain ⟨_, _, ⟨T275, L275, k275, n275⟩, -, X275, ⟨Lc275, hQ275, l275, y275, z275⟩, st275⟩ := X266.virtualBack hx (y := (⟨"com/example/circlerank/circlerank/generate/AliasTable", "draw", "(IIJ)I"⟩ : MethodName)) (z := (⟨"com/example/circlerank/circlerank/generate/AliasTable", "draw", "(IIJ)I"⟩ : MethodName)) hown (mvT hZ (hw _ (List.mem_of_getElem? (i := 22) rfl))) (mvT hZ (hw _ (List.mem_of_getElem? (i := 23) rfl))) (notFace_of_selects (args := #[]) (mvT hZ (hw _ (List.mem_of_getElem? (i := 25) rfl)))) (mvT hZ (hw _ (List.mem_of_getElem? (i := 25) rfl))) (mvT hZ (hw _ (List.mem_of_getElem? (i := 24) rfl))) (by decide) (backOf (W := 0) (rm11 l Z a0 hw [] b198 p4 th_202 al_202 kt_202 ka_202 ta_210 tb_210 (0 : Int32) la_210 lb_210 T215.heap n0 z270 f267 f268 f269 q215_0 q215_1 ((congrArg (fun z => (0 : Int32) + z) (own_sl1 p4)).trans (by decide))) hZ (hw _ (List.mem_of_getElem? (i := 26) rfl)) (hw _ (List.mem_of_getElem? (i := 5) rfl)) (by decide) (by decide)) q275a q275c (g := (mkF m 319 LL265 [(.long p4), (.int 1), (.int 0), (.ref b198)])) rfl (by rw [hml]; rfl) (Steps.refl _) (argsL := [(.int 0), (.int 1), (.long p4)]) (rest := []) (lenOf pd_2 rfl) rfl (by show 2 * 0 + _ ≤ _; exact Nat.le_of_eq rfl) (hb hby at_319) (fun _ _ => ⟨rfl, e266, (by decide : 5 + 0 ≤ _), (by decide : 13 + 0 ≤ _)⟩)
            dsimp only [Pt.U, Pt.locs, Pt.cells, Pt.slots] at X275 l275 y275 z275 st275 hQ275
            subst l275 y275 z275
            obtain ⟨rfl, Nq275, e275⟩ := hQ275
            have N275 := Fr.app N266 Nq275
            refine ⟨_, _, X275, e275, N275, (1 : Int32), ((if_pos c274).trans rfl).symm, fun t kk => P271 t ?_⟩
            show Steps _ _ _ (T266.setTop (mkF m 306 LL265 [(.int i257), (.int (F10 p4 tb_210 lb_210))])) _
            refine XS.icmpNo X266.here hx rfl (hb hby at_306) rfl (XT.ii_ne_f c274) ?_
            show Steps _ _ _ (T266.setTop (mkF m 309 LL265 [])) _
            refine XS.aload X266.here hx rfl (hb hby at_309) rfl rfl ?_
            show Steps _ _ _ (T266.setTop (mkF m 311 LL265 [(.ref b198)])) _
            refine XS.iload X266.here hx rfl (hb hby at_311) rfl ?_
            show Steps _ _ _ (T266.setTop (mkF m 313 LL265 [(.int 0), (.ref b198)])) _
            refine XS.iload X266.here hx rfl (hb hby at_313) rfl ?_
            show Steps _ _ _ (T266.setTop (mkF m 315 LL265 [(.int 0), (.int 0), (.ref b198)])) _
            refine XS.iconst X266.here hx rfl (hb hby at_315) ?_
            show Steps _ _ _ (T266.setTop (mkF m 316 LL265 [(.int 1), (.int 0), (.int 0), (.ref b198)])) _
            refine XS.iadd X266.here hx rfl (hb hby at_316) rfl ?_
            show Steps _ _ _ (T266.setTop (mkF m 317 LL265 [(.int 1), (.int 0), (.ref b198)])) _
            refine XS.lload X266.here hx rfl (hb hby at_317) rfl ?_
            show Steps _ _ _ (T266.setTop (mkF m 319 LL265 [(.long p4), (.int 1), (.int 0), (.ref b198)])) _
            refine st275.trans ?_
            show Steps _ _ _ (T275.setTop (mkF m 322 LL265 [(.int 0)])) _
            refine XS.iload X275.here hx rfl (hb hby at_322) rfl ?_
            show Steps _ _ _ (T275.setTop (mkF m 324 LL265 [(.int 0), (.int 0)])) _
            refine XS.icmpNo X275.here hx rfl (hb hby at_324) rfl (XT.ii_ne_f rfl) ?_
            show Steps _ _ _ (T275.setTop (mkF m 327 LL265 [])) _
            refine XS.iconst X275.here hx rfl (hb hby at_327) ?_
            show Steps _ _ _ (T275.setTop (mkF m 328 LL265 [(.int 1)])) _
            refine XS.goto X275.here hx rfl (pc0 := 328) (pc' := 332) rfl (hb hby at_328) (by decide) (by decide) ?_
            show Steps _ _ _ (T275.setTop (mkF m 332 LL265 [(.int 1)])) _
            exact kk
          · skip
            refine ⟨_, _, X266, e266, N266, (0 : Int32), ((if_neg c274).trans rfl).symm, fun t kk => P271 t ?_⟩
            show Steps _ _ _ (T266.setTop (mkF m 306 LL265 [(.int i257), (.int (F10 p4 tb_210 lb_210))])) _
            refine XS.icmpYes X266.here hx rfl (pc0 := 306) (pc' := 331) rfl (hb hby at_306) rfl (XT.ii_ne_t c274) (by decide) (by decide) ?_
            show Steps _ _ _ (T266.setTop (mkF m 331 LL265 [])) _
            refine XS.iconst X266.here hx rfl (hb hby at_331) ?_
            show Steps _ _ _ (T266.setTop (mkF m 332 LL265 [(.int 0)])) _
            exact kk
        have P276 : ∀ t, Steps p.tables e below (T273.setTop (mkF m 332 LL265 [(.int i272)])) t → Steps p.tables e below ST t := by
          intro t kk
          refine P273 _ ?_
          show Steps _ _ _ (T273.setTop (mkF m 332 LL265 [(.int i272)])) _
          exact kk
        obtain rfl : i272 = (1 : Int32) := (h_i272.trans (if_pos ((own_e1 p4 (own_ab p0 j2 h_j2) (own_ab p1 j4 h_j4) q210_3).trans h_i257.symm)))
        obtain ⟨fs, hr, hrun, hended, hW, hsame⟩ := X273.leave (v := some (.int 1)) (fun h => by rw [Bd.returns] at h; cases h)
        refine ⟨_, _, P276 _ ?_, hrun, hended, _, _, rfl, ?_, ⟨_, rfl⟩, hW, hsame.mono (by decide) (by decide)⟩
        · exact retN X273 hx (t := .boolean) Bd.returns (by simp) (hb hby at_332) hr
        · exact ⟨rfl, N273⟩
    · skip
      have f278 := (Exa.keep A198 K202)
      have f279 := (Arv.keep f204 K202 (ninS ne_b185_b198 nin0))
      have f280 := (Arv.keep f205 K202 (ninS ne_b194_b198 nin0))
      have z281 : n0 ≤ _ := (Nat.le_trans z203 K202.1)
      obtain ⟨cq277, kq277, q277a, q277b, q277c⟩ := isOf hZ rfl f278
      obtain ⟨_, _, ⟨T277, L277, k277, n277⟩, -, X277, ⟨Lc277, hQ277, l277, y277, z277⟩, st277⟩ := X202.virtualBack hx (y := (⟨"com/example/circlerank/circlerank/generate/AliasTable", "build", "([DII[I)V"⟩ : MethodName)) (z := (⟨"com/example/circlerank/circlerank/generate/AliasTable", "build", "([DII[I)V"⟩ : MethodName)) hown (mvT hZ (hw _ (List.mem_of_getElem? (i := 16) rfl))) (mvT hZ (hw _ (List.mem_of_getElem? (i := 17) rfl))) (notFace_of_selects (args := #[]) (mvT hZ (hw _ (List.mem_of_getElem? (i := 19) rfl)))) (mvT hZ (hw _ (List.mem_of_getElem? (i := 19) rfl))) (mvT hZ (hw _ (List.mem_of_getElem? (i := 18) rfl))) (by decide) (backOf (W := 0) (rm8 l Z a0 hw [] b198 b185 b194 j6 (FP.l2d j2) (FP.l2d j4) th_202 al_202 k185 kt_202 ka_202 k194 (0 : UInt64) (0 : UInt64) (0 : UInt64) (0 : Int32) (0 : Int32) (0 : Int32) (0 : Int32) (0 : Int32) T202.heap n0 z281 f278 q202_0 q202_1 f279 q202_2 q202_3 f280 (own_ab p2 j6 h_j6) ge_b194 ge_th_202 ge_al_202 (Ne.symm ne_b185_b198) (Ne.symm ne_b194_b198) ne_b198_th_202 ne_b198_al_202 ne_b185_b194 ne_b185_th_202 ne_b185_al_202 ne_b194_th_202 ne_b194_al_202 q202_6) hZ (hw _ (List.mem_of_getElem? (i := 20) rfl)) (hw _ (List.mem_of_getElem? (i := 5) rfl)) (by decide) (by decide)) q277a q277c (g := (mkF m 140 LL207 [(.ref b194), (.int 1), (.int 0), (.ref b185), (.ref b198)])) rfl (by rw [hml]; rfl) (Steps.refl _) (argsL := [(.ref b185), (.int 0), (.int 1), (.ref b194)]) (rest := []) (lenOf pd_1 rfl) rfl (by show 2 * 0 + _ ≤ _; exact Nat.le_of_eq rfl) (hb hby at_140) (fun _ _ => ⟨rfl, rfl, (by decide : 5 + 0 ≤ _), (by decide : 13 + 0 ≤ _)⟩)
      dsimp only [Pt.U, Pt.locs, Pt.cells, Pt.slots] at X277 l277 y277 z277 st277 hQ277
      subst l277 y277 z277
      obtain ⟨rfl, Nq277, K277, q277_0, q277_1, q277_2⟩ := hQ277
      have N277 := Fr.app N202 Nq277
      have f283 := (Exa.keep f278 K277)
      have f284 := (Fld.keep q202_0 K277 (ninS ne_b198_th_202 (ninS ne_b198_al_202 (ninS (Ne.symm ne_b194_b198) nin0))))
      have f285 := (Fld.keep q202_1 K277 (ninS ne_b198_th_202 (ninS ne_b198_al_202 (ninS (Ne.symm ne_b194_b198) nin0))))
      have f286 := (Arv.keep f279 K277 (ninS ne_b185_th_202 (ninS ne_b185_al_202 (ninS ne_b185_b194 nin0))))
      have z287 : n0 ≤ _ := (Nat.le_trans z281 K277.1)
      obtain ⟨cq282, kq282, q282a, q282b, q282c⟩ := isOf hZ rfl f283
      obtain ⟨_, _, ⟨T282, L282, k282, n282⟩, -, X282, ⟨Lc282, hQ282, l282, y282, z282⟩, st282⟩ := X277.virtualBack hx (y := (⟨"com/example/circlerank/circlerank/generate/AliasTable", "build", "([DII[I)V"⟩ : MethodName)) (z := (⟨"com/example/circlerank/circlerank/generate/AliasTable", "build", "([DII[I)V"⟩ : MethodName)) hown (mvT hZ (hw _ (List.mem_of_getElem? (i := 16) rfl))) (mvT hZ (hw _ (List.mem_of_getElem? (i := 17) rfl))) (notFace_of_selects (args := #[]) (mvT hZ (hw _ (List.mem_of_getElem? (i := 19) rfl)))) (mvT hZ (hw _ (List.mem_of_getElem? (i := 19) rfl))) (mvT hZ (hw _ (List.mem_of_getElem? (i := 18) rfl))) (by decide) (backOf (W := 0) (rm7 l Z a0 hw [] b198 b185 b194 j2 j4 (FP.l2d j6) th_202 al_202 k185 kt_202 ka_202 k194 FP.dconst1 (0 : UInt64) (0 : UInt64) (0 : Int32) (0 : Int32) (0 : Int32) (0 : Int32) (0 : Int32) T277.heap n0 z287 f283 f284 f285 f286 q277_0 q277_1 q277_2 (own_ab p0 j2 h_j2) (own_ab p1 j4 h_j4) ge_b194 ge_th_202 ge_al_202 (Ne.symm ne_b185_b198) (Ne.symm ne_b194_b198) ne_b198_th_202 ne_b198_al_202 ne_b185_b194 ne_b185_th_202 ne_b185_al_202 ne_b194_th_202 ne_b194_al_202 q202_6) hZ (hw _ (List.mem_of_getElem? (i := 20) rfl)) (hw _ (List.mem_of_getElem? (i := 5) rfl)) (by decide) (by decide)) q282a q282c (g := (mkF m 155 LL207 [(.ref b194), (.int 3), (.int 1), (.ref b185), (.ref b198)])) rfl (by rw [hml]; rfl) (Steps.refl _) (argsL := [(.ref b185), (.int 1), (.int 3), (.ref b194)]) (rest := []) (lenOf pd_1 rfl) rfl (by show 2 * 0 + _ ≤ _; exact Nat.le_of_eq rfl) (hb hby at_155) (fun _ _ => ⟨rfl, rfl, (by decide : 5 + 0 ≤ _), (by decide : 13 + 0 ≤ _)⟩)
      dsimp only [Pt.U, Pt.locs, Pt.cells, Pt.slots] at X282 l282 y282 z282 st282 hQ282
      subst l282 y282 z282
      obtain ⟨ta_282, tb_282, la_282, lb_282, v0_282, v1_282, rfl, Nq282, K282, q282_0, q282_1, q282_2, q282_3⟩ := hQ282
      have N282 := Fr.app N277 Nq282
      obtain ⟨i288, h_i288⟩ : ∃ z : Int32, z = (((((p4).toUInt64 >>> ((63 : Int32) &&& 0x3f).toInt64.toUInt64).toInt64)).toInt32) := ⟨_, rfl⟩
      let LL289 : Array Slot := #[.val (.int p0), .val (.int p1), .val (.int p2), .val (.int p3), .val (.long p4), .second, .val (.long j2), .second, .val (.long j4), .second, .val (.long j6), .second, .val (.int 1), .val (.int i179), .val (.int 1), .val (.int 0), .val (.ref b185), .val (.ref b194), .val (.ref b198), .val (.int i288), .unset, .unset, .unset, .unset, .unset, .unset, .unset]
      have P290 : ∀ t, Steps p.tables e below (T282.setTop (mkF m 199 LL289 [])) t → Steps p.tables e below ST t := by
        intro t kk
        refine P208 _ ?_
        show Steps _ _ _ (T202.setTop (mkF m 125 LL207 [(.int i179)])) _
        refine XS.ifNo X202.here hx rfl (hb hby at_125) rfl (XT.i0_eq_f c209) ?_
        show Steps _ _ _ (T202.setTop (mkF m 128 LL207 [])) _
        refine XS.aload X202.here hx rfl (hb hby at_128) rfl rfl ?_
        show Steps _ _ _ (T202.setTop (mkF m 130 LL207 [(.ref b198)])) _
        refine XS.aload X202.here hx rfl (hb hby at_130) rfl rfl ?_
        show Steps _ _ _ (T202.setTop (mkF m 132 LL207 [(.ref b185), (.ref b198)])) _
        refine XS.iload X202.here hx rfl (hb hby at_132) rfl ?_
        show Steps _ _ _ (T202.setTop (mkF m 134 LL207 [(.int 0), (.ref b185), (.ref b198)])) _
        refine XS.iload X202.here hx rfl (hb hby at_134) rfl ?_
        show Steps _ _ _ (T202.setTop (mkF m 136 LL207 [(.int 0), (.int 0), (.ref b185), (.ref b198)])) _
        refine XS.iconst X202.here hx rfl (hb hby at_136) ?_
        show Steps _ _ _ (T202.setTop (mkF m 137 LL207 [(.int 1), (.int 0), (.int 0), (.ref b185), (.ref b198)])) _
        refine XS.iadd X202.here hx rfl (hb hby at_137) rfl ?_
        show Steps _ _ _ (T202.setTop (mkF m 138 LL207 [(.int 1), (.int 0), (.ref b185), (.ref b198)])) _
        refine XS.aload X202.here hx rfl (hb hby at_138) rfl rfl ?_
        show Steps _ _ _ (T202.setTop (mkF m 140 LL207 [(.ref b194), (.int 1), (.int 0), (.ref b185), (.ref b198)])) _
        refine st277.trans ?_
        show Steps _ _ _ (T277.setTop (mkF m 143 LL207 [])) _
        refine XS.aload X277.here hx rfl (hb hby at_143) rfl rfl ?_
        show Steps _ _ _ (T277.setTop (mkF m 145 LL207 [(.ref b198)])) _
        refine XS.aload X277.here hx rfl (hb hby at_145) rfl rfl ?_
        show Steps _ _ _ (T277.setTop (mkF m 147 LL207 [(.ref b185), (.ref b198)])) _
        refine XS.iload X277.here hx rfl (hb hby at_147) rfl ?_
        show Steps _ _ _ (T277.setTop (mkF m 149 LL207 [(.int 1), (.ref b185), (.ref b198)])) _
        refine XS.iload X277.here hx rfl (hb hby at_149) rfl ?_
        show Steps _ _ _ (T277.setTop (mkF m 151 LL207 [(.int 1), (.int 1), (.ref b185), (.ref b198)])) _
        refine XS.iconst X277.here hx rfl (hb hby at_151) ?_
        show Steps _ _ _ (T277.setTop (mkF m 152 LL207 [(.int 2), (.int 1), (.int 1), (.ref b185), (.ref b198)])) _
        refine XS.iadd X277.here hx rfl (hb hby at_152) rfl ?_
        show Steps _ _ _ (T277.setTop (mkF m 153 LL207 [(.int 3), (.int 1), (.ref b185), (.ref b198)])) _
        refine XS.aload X277.here hx rfl (hb hby at_153) rfl rfl ?_
        show Steps _ _ _ (T277.setTop (mkF m 155 LL207 [(.ref b194), (.int 3), (.int 1), (.ref b185), (.ref b198)])) _
        refine st282.trans ?_
        show Steps _ _ _ (T282.setTop (mkF m 158 LL207 [])) _
        refine XS.goto X282.here hx rfl (pc0 := 158) (pc' := 191) rfl (hb hby at_158) (by decide) (by decide) ?_
        show Steps _ _ _ (T282.setTop (mkF m 191 LL207 [])) _
        refine XS.lload X282.here hx rfl (hb hby at_191) rfl ?_
        show Steps _ _ _ (T282.setTop (mkF m 193 LL207 [(.long p4)])) _
        refine XS.bipush X282.here hx rfl (hb hby at_193) ?_
        show Steps _ _ _ (T282.setTop (mkF m 195 LL207 [(.int 63), (.long p4)])) _
        refine XS.lushr X282.here hx rfl (hb hby at_195) rfl ?_
        show Steps _ _ _ (T282.setTop (mkF m 196 LL207 [(.long (((p4).toUInt64 >>> ((63 : Int32) &&& 0x3f).toInt64.toUInt64).toInt64))])) _
        refine XS.l2i X282.here hx rfl (hb hby at_196) rfl ?_
        show Steps _ _ _ (T282.setTop (mkF m 197 LL207 [(.int (((((p4).toUInt64 >>> ((63 : Int32) &&& 0x3f).toInt64.toUInt64).toInt64)).toInt32))])) _
        rw [← h_i288]
        show Steps _ _ _ (T282.setTop (mkF m 197 LL207 [(.int i288)])) _
        refine XS.istore X282.here hx rfl (hb hby at_197) rfl (l' := LL289) rfl ?_
        show Steps _ _ _ (T282.setTop (mkF m 199 LL289 [])) _
        exact kk
      rcases (own_s0 p4 i288 h_i288) with hs291 | hs291
      · skip
        let LL293 : Array Slot := #[.val (.int p0), .val (.int p1), .val (.int p2), .val (.int p3), .val (.long p4), .second, .val (.long j2), .second, .val (.long j4), .second, .val (.long j6), .second, .val (.int 1), .val (.int i179), .val (.int 1), .val (.int 0), .val (.ref b185), .val (.ref b194), .val (.ref b198), .val (.int 0), .unset, .unset, .unset, .unset, .unset, .unset, .unset]
        have P292 : ∀ t, Steps p.tables e below (T282.setTop (mkF m 199 LL293 [])) t → Steps p.tables e below ST t := by
          intro t kk
          refine P290 _ ?_
          show Steps _ _ _ (T282.setTop (mkF m 199 #[.val (.int p0), .val (.int p1), .val (.int p2), .val (.int p3), .val (.long p4), .second, .val (.long j2), .second, .val (.long j4), .second, .val (.long j6), .second, .val (.int 1), .val (.int i179), .val (.int 1), .val (.int 0), .val (.ref b185), .val (.ref b194), .val (.ref b198), .val (.int i288), .unset, .unset, .unset, .unset, .unset, .unset, .unset] [])) t
          rw [hs291]
          exact kk
        let LL294 : Array Slot := #[.val (.int p0), .val (.int p1), .val (.int p2), .val (.int p3), .val (.long p4), .second, .val (.long j2), .second, .val (.long j4), .second, .val (.long j6), .second, .val (.int 1), .val (.int i179), .val (.int 1), .val (.int 0), .val (.ref b185), .val (.ref b194), .val (.ref b198), .val (.int 0), .val (.long (p4 &&& (4294967295 : Int64))), .second, .unset, .unset, .unset, .unset, .unset]
        let LL295 : Array Slot := #[.val (.int p0), .val (.int p1), .val (.int p2), .val (.int p3), .val (.long p4), .second, .val (.long j2), .second, .val (.long j4), .second, .val (.long j6), .second, .val (.int 1), .val (.int i179), .val (.int 1), .val (.int 0), .val (.ref b185), .val (.ref b194), .val (.ref b198), .val (.int 0), .val (.long (p4 &&& (4294967295 : Int64))), .second, .val (.long j2), .second, .unset, .unset, .unset]
        let LL296 : Array Slot := #[.val (.int p0), .val (.int p1), .val (.int p2), .val (.int p3), .val (.long p4), .second, .val (.long j2), .second, .val (.long j4), .second, .val (.long j6), .second, .val (.int 1), .val (.int i179), .val (.int 1), .val (.int 0), .val (.ref b185), .val (.ref b194), .val (.ref b198), .val (.int 0), .val (.long (p4 &&& (4294967295 : Int64))), .second, .val (.long j2), .second, .val (.long j4), .second, .unset]
        have P297 : ∀ t, Steps p.tables e below (T282.setTop (mkF m 240 LL296 [(.int (XT.cmpL j2 j4))])) t → Steps p.tables e below ST t := by
          intro t kk
          refine P292 _ ?_
          show Steps _ _ _ (T282.setTop (mkF m 199 LL293 [])) _
          refine XS.lload X282.here hx rfl (hb hby at_199) rfl ?_
          show Steps _ _ _ (T282.setTop (mkF m 201 LL293 [(.long p4)])) _
          refine X282.ldc2Long hx hown (mvT hZ (hw _ (List.mem_of_getElem? (i := 21) rfl))) (g := (mkF m 201 LL293 [(.long p4)])) rfl (hb hby at_201) _ ?_
          show Steps _ _ _ (T282.setTop (mkF m 204 LL293 [(.long (4294967295 : Int64)), (.long p4)])) _
          refine XS.land X282.here hx rfl (hb hby at_204) rfl ?_
          show Steps _ _ _ (T282.setTop (mkF m 205 LL293 [(.long (p4 &&& (4294967295 : Int64)))])) _
          refine XS.lstore X282.here hx rfl (hb hby at_205) rfl (l' := LL294) rfl ?_
          show Steps _ _ _ (T282.setTop (mkF m 207 LL294 [])) _
          refine XS.iload X282.here hx rfl (hb hby at_207) rfl ?_
          show Steps _ _ _ (T282.setTop (mkF m 209 LL294 [(.int 0)])) _
          refine XS.ifNo X282.here hx rfl (hb hby at_209) rfl (XT.i0_ne_f rfl) ?_
          show Steps _ _ _ (T282.setTop (mkF m 212 LL294 [])) _
          refine XS.lload X282.here hx rfl (hb hby at_212) rfl ?_
          show Steps _ _ _ (T282.setTop (mkF m 214 LL294 [(.long j2)])) _
          refine XS.goto X282.here hx rfl (pc0 := 214) (pc' := 219) rfl (hb hby at_214) (by decide) (by decide) ?_
          show Steps _ _ _ (T282.setTop (mkF m 219 LL294 [(.long j2)])) _
          refine XS.lstore X282.here hx rfl (hb hby at_219) rfl (l' := LL295) rfl ?_
          show Steps _ _ _ (T282.setTop (mkF m 221 LL295 [])) _
          refine XS.iload X282.here hx rfl (hb hby at_221) rfl ?_
          show Steps _ _ _ (T282.setTop (mkF m 223 LL295 [(.int 0)])) _
          refine XS.ifNo X282.here hx rfl (hb hby at_223) rfl (XT.i0_ne_f rfl) ?_
          show Steps _ _ _ (T282.setTop (mkF m 226 LL295 [])) _
          refine XS.lload X282.here hx rfl (hb hby at_226) rfl ?_
          show Steps _ _ _ (T282.setTop (mkF m 228 LL295 [(.long j4)])) _
          refine XS.goto X282.here hx rfl (pc0 := 228) (pc' := 233) rfl (hb hby at_228) (by decide) (by decide) ?_
          show Steps _ _ _ (T282.setTop (mkF m 233 LL295 [(.long j4)])) _
          refine XS.lstore X282.here hx rfl (hb hby at_233) rfl (l' := LL296) rfl ?_
          show Steps _ _ _ (T282.setTop (mkF m 235 LL296 [])) _
          refine XS.lload X282.here hx rfl (hb hby at_235) rfl ?_
          show Steps _ _ _ (T282.setTop (mkF m 237 LL296 [(.long j2)])) _
          refine XS.lload X282.here hx rfl (hb hby at_237) rfl ?_
          show Steps _ _ _ (T282.setTop (mkF m 239 LL296 [(.long j4), (.long j2)])) _
          refine XT.lcmp X282.here hx rfl (hb hby at_239) rfl ?_
          show Steps _ _ _ (T282.setTop (mkF m 240 LL296 [(.int (XT.cmpL j2 j4))])) _
          exact kk
        obtain ⟨i298, h_i298, P299⟩ : ∃ (i298 : Int32), i298 = (if j2 < j4 then (if ((p4 &&& (4294967295 : Int64)) * (j2 + j4)) < ((((2 : Int64) * j2) <<< ((32 : Int32) &&& 0x3f).toInt64)) then (1 : Int32) else (2 : Int32)) else (1 : Int32)) ∧ ∀ t, Steps p.tables e below (T282.setTop (mkF m 291 #[.val (.int p0), .val (.int p1), .val (.int p2), .val (.int p3), .val (.long p4), .second, .val (.long j2), .second, .val (.long j4), .second, .val (.long j6), .second, .val (.int 1), .val (.int i179), .val (.int 1), .val (.int 0), .val (.ref b185), .val (.ref b194), .val (.ref b198), .val (.int 0), .val (.long (p4 &&& (4294967295 : Int64))), .second, .val (.long j2), .second, .val (.long j4), .second, .val (.int i298)] [])) t → Steps p.tables e below ST t := by
          by_cases c300 : j2 < j4
          · skip
            have P301 : ∀ t, Steps p.tables e below (T282.setTop (mkF m 271 LL296 [(.int (XT.cmpL ((p4 &&& (4294967295 : Int64)) * (j2 + j4)) ((((2 : Int64) * j2) <<< ((32 : Int32) &&& 0x3f).toInt64))))])) t → Steps p.tables e below ST t := by
              intro t kk
              refine P297 _ ?_
              show Steps _ _ _ (T282.setTop (mkF m 240 LL296 [(.int (XT.cmpL j2 j4))])) _
              refine XS.ifYes X282.here hx rfl (pc0 := 240) (pc' := 253) rfl (hb hby at_240) rfl (XT.ll_lt_t c300) (by decide) (by decide) ?_
              show Steps _ _ _ (T282.setTop (mkF m 253 LL296 [])) _
              refine XS.lload X282.here hx rfl (hb hby at_253) rfl ?_
              show Steps _ _ _ (T282.setTop (mkF m 255 LL296 [(.long (p4 &&& (4294967295 : Int64)))])) _
              refine XS.lload X282.here hx rfl (hb hby at_255) rfl ?_
              show Steps _ _ _ (T282.setTop (mkF m 257 LL296 [(.long j2), (.long (p4 &&& (4294967295 : Int64)))])) _
              refine XS.lload X282.here hx rfl (hb hby at_257) rfl ?_
              show Steps _ _ _ (T282.setTop (mkF m 259 LL296 [(.long j4), (.long j2), (.long (p4 &&& (4294967295 : Int64)))])) _
              refine XS.ladd X282.here hx rfl (hb hby at_259) rfl ?_
              show Steps _ _ _ (T282.setTop (mkF m 260 LL296 [(.long (j2 + j4)), (.long (p4 &&& (4294967295 : Int64)))])) _
              refine XS.lmul X282.here hx rfl (hb hby at_260) rfl ?_
              show Steps _ _ _ (T282.setTop (mkF m 261 LL296 [(.long ((p4 &&& (4294967295 : Int64)) * (j2 + j4)))])) _
              refine X282.ldc2Long hx hown (mvT hZ (hw _ (List.mem_of_getElem? (i := 29) rfl))) (g := (mkF m 261 LL296 [(.long ((p4 &&& (4294967295 : Int64)) * (j2 + j4)))])) rfl (hb hby at_261) _ ?_
              show Steps _ _ _ (T282.setTop (mkF m 264 LL296 [(.long (2 : Int64)), (.long ((p4 &&& (4294967295 : Int64)) * (j2 + j4)))])) _
              refine XS.lload X282.here hx rfl (hb hby at_264) rfl ?_
              show Steps _ _ _ (T282.setTop (mkF m 266 LL296 [(.long j2), (.long (2 : Int64)), (.long ((p4 &&& (4294967295 : Int64)) * (j2 + j4)))])) _
              refine XS.lmul X282.here hx rfl (hb hby at_266) rfl ?_
              show Steps _ _ _ (T282.setTop (mkF m 267 LL296 [(.long ((2 : Int64) * j2)), (.long ((p4 &&& (4294967295 : Int64)) * (j2 + j4)))])) _
              refine XS.bipush X282.here hx rfl (hb hby at_267) ?_
              show Steps _ _ _ (T282.setTop (mkF m 269 LL296 [(.int 32), (.long ((2 : Int64) * j2)), (.long ((p4 &&& (4294967295 : Int64)) * (j2 + j4)))])) _
              refine XS.lshl X282.here hx rfl (hb hby at_269) rfl ?_
              show Steps _ _ _ (T282.setTop (mkF m 270 LL296 [(.long ((((2 : Int64) * j2) <<< ((32 : Int32) &&& 0x3f).toInt64))), (.long ((p4 &&& (4294967295 : Int64)) * (j2 + j4)))])) _
              refine XT.lcmp X282.here hx rfl (hb hby at_270) rfl ?_
              show Steps _ _ _ (T282.setTop (mkF m 271 LL296 [(.int (XT.cmpL ((p4 &&& (4294967295 : Int64)) * (j2 + j4)) ((((2 : Int64) * j2) <<< ((32 : Int32) &&& 0x3f).toInt64))))])) _
              exact kk
            by_cases c302 : ((p4 &&& (4294967295 : Int64)) * (j2 + j4)) < ((((2 : Int64) * j2) <<< ((32 : Int32) &&& 0x3f).toInt64))
            · skip
              let LL303 : Array Slot := #[.val (.int p0), .val (.int p1), .val (.int p2), .val (.int p3), .val (.long p4), .second, .val (.long j2), .second, .val (.long j4), .second, .val (.long j6), .second, .val (.int 1), .val (.int i179), .val (.int 1), .val (.int 0), .val (.ref b185), .val (.ref b194), .val (.ref b198), .val (.int 0), .val (.long (p4 &&& (4294967295 : Int64))), .second, .val (.long j2), .second, .val (.long j4), .second, .val (.int 1)]
              refine ⟨(1 : Int32), ((if_pos c300).trans ((if_pos c302).trans rfl)).symm, fun t kk => P301 t ?_⟩
              show Steps _ _ _ (T282.setTop (mkF m 271 LL296 [(.int (XT.cmpL ((p4 &&& (4294967295 : Int64)) * (j2 + j4)) ((((2 : Int64) * j2) <<< ((32 : Int32) &&& 0x3f).toInt64))))])) _
              refine XS.ifNo X282.here hx rfl (hb hby at_271) rfl (XT.ll_ge_f c302) ?_
              show Steps _ _ _ (T282.setTop (mkF m 274 LL296 [])) _
              refine XS.iload X282.here hx rfl (hb hby at_274) rfl ?_
              show Steps _ _ _ (T282.setTop (mkF m 276 LL296 [(.int 1)])) _
              refine XS.iload X282.here hx rfl (hb hby at_276) rfl ?_
              show Steps _ _ _ (T282.setTop (mkF m 278 LL296 [(.int 0), (.int 1)])) _
              refine XS.iadd X282.here hx rfl (hb hby at_278) rfl ?_
              show Steps _ _ _ (T282.setTop (mkF m 279 LL296 [(.int 1)])) _
              refine XS.goto X282.here hx rfl (pc0 := 279) (pc' := 289) rfl (hb hby at_279) (by decide) (by decide) ?_
              show Steps _ _ _ (T282.setTop (mkF m 289 LL296 [(.int 1)])) _
              refine XS.istore X282.here hx rfl (hb hby at_289) rfl (l' := LL303) rfl ?_
              show Steps _ _ _ (T282.setTop (mkF m 291 LL303 [])) _
              exact kk
            · skip
              let LL304 : Array Slot := #[.val (.int p0), .val (.int p1), .val (.int p2), .val (.int p3), .val (.long p4), .second, .val (.long j2), .second, .val (.long j4), .second, .val (.long j6), .second, .val (.int 1), .val (.int i179), .val (.int 1), .val (.int 0), .val (.ref b185), .val (.ref b194), .val (.ref b198), .val (.int 0), .val (.long (p4 &&& (4294967295 : Int64))), .second, .val (.long j2), .second, .val (.long j4), .second, .val (.int 2)]
              refine ⟨(2 : Int32), ((if_pos c300).trans ((if_neg c302).trans rfl)).symm, fun t kk => P301 t ?_⟩
              show Steps _ _ _ (T282.setTop (mkF m 271 LL296 [(.int (XT.cmpL ((p4 &&& (4294967295 : Int64)) * (j2 + j4)) ((((2 : Int64) * j2) <<< ((32 : Int32) &&& 0x3f).toInt64))))])) _
              refine XS.ifYes X282.here hx rfl (pc0 := 271) (pc' := 282) rfl (hb hby at_271) rfl (XT.ll_ge_t c302) (by decide) (by decide) ?_
              show Steps _ _ _ (T282.setTop (mkF m 282 LL296 [])) _
              refine XS.iload X282.here hx rfl (hb hby at_282) rfl ?_
              show Steps _ _ _ (T282.setTop (mkF m 284 LL296 [(.int 1)])) _
              refine XS.iconst X282.here hx rfl (hb hby at_284) ?_
              show Steps _ _ _ (T282.setTop (mkF m 285 LL296 [(.int 1), (.int 1)])) _
              refine XS.iadd X282.here hx rfl (hb hby at_285) rfl ?_
              show Steps _ _ _ (T282.setTop (mkF m 286 LL296 [(.int 2)])) _
              refine XS.iload X282.here hx rfl (hb hby at_286) rfl ?_
              show Steps _ _ _ (T282.setTop (mkF m 288 LL296 [(.int 0), (.int 2)])) _
              refine XS.isub X282.here hx rfl (hb hby at_288) rfl ?_
              show Steps _ _ _ (T282.setTop (mkF m 289 LL296 [(.int 2)])) _
              refine XS.istore X282.here hx rfl (hb hby at_289) rfl (l' := LL304) rfl ?_
              show Steps _ _ _ (T282.setTop (mkF m 291 LL304 [])) _
              exact kk
          · skip
            let LL305 : Array Slot := #[.val (.int p0), .val (.int p1), .val (.int p2), .val (.int p3), .val (.long p4), .second, .val (.long j2), .second, .val (.long j4), .second, .val (.long j6), .second, .val (.int 1), .val (.int i179), .val (.int 1), .val (.int 0), .val (.ref b185), .val (.ref b194), .val (.ref b198), .val (.int 0), .val (.long (p4 &&& (4294967295 : Int64))), .second, .val (.long j2), .second, .val (.long j4), .second, .val (.int 1)]
            refine ⟨(1 : Int32), ((if_neg c300).trans rfl).symm, fun t kk => P297 t ?_⟩
            show Steps _ _ _ (T282.setTop (mkF m 240 LL296 [(.int (XT.cmpL j2 j4))])) _
            refine XS.ifNo X282.here hx rfl (hb hby at_240) rfl (XT.ll_lt_f c300) ?_
            show Steps _ _ _ (T282.setTop (mkF m 243 LL296 [])) _
            refine XS.iload X282.here hx rfl (hb hby at_243) rfl ?_
            show Steps _ _ _ (T282.setTop (mkF m 245 LL296 [(.int 1)])) _
            refine XS.iload X282.here hx rfl (hb hby at_245) rfl ?_
            show Steps _ _ _ (T282.setTop (mkF m 247 LL296 [(.int 0), (.int 1)])) _
            refine XS.iadd X282.here hx rfl (hb hby at_247) rfl ?_
            show Steps _ _ _ (T282.setTop (mkF m 248 LL296 [(.int 1)])) _
            refine XS.istore X282.here hx rfl (hb hby at_248) rfl (l' := LL305) rfl ?_
            show Steps _ _ _ (T282.setTop (mkF m 250 LL305 [])) _
            refine XS.goto X282.here hx rfl (pc0 := 250) (pc' := 291) rfl (hb hby at_250) (by decide) (by decide) ?_
            show Steps _ _ _ (T282.setTop (mkF m 291 LL305 [])) _
            exact kk
        let LL306 : Array Slot := #[.val (.int p0), .val (.int p1), .val (.int p2), .val (.int p3), .val (.long p4), .second, .val (.long j2), .second, .val (.long j4), .second, .val (.long j6), .second, .val (.int 1), .val (.int i179), .val (.int 1), .val (.int 0), .val (.ref b185), .val (.ref b194), .val (.ref b198), .val (.int 0), .val (.long (p4 &&& (4294967295 : Int64))), .second, .val (.long j2), .second, .val (.long j4), .second, .val (.int i298)]
        have f308 := (Exa.keep f283 K282)
        have f309 := (Fld.keep f284 K282 (ninS ne_b198_th_202 (ninS ne_b198_al_202 (ninS (Ne.symm ne_b194_b198) nin0))))
        have f310 := (Fld.keep f285 K282 (ninS ne_b198_th_202 (ninS ne_b198_al_202 (ninS (Ne.symm ne_b194_b198) nin0))))
        have z311 : n0 ≤ _ := (Nat.le_trans z287 K282.1)
        obtain ⟨cq307, kq307, q307a, q307b, q307c⟩ := isOf hZ rfl f308
        obtain ⟨_, _, ⟨T307, L307, k307, n307⟩, -, X307, ⟨Lc307, hQ307, l307, y307, z307⟩, st307⟩ := X282.virtualBack hx (y := (⟨"com/example/circlerank/circlerank/generate/AliasTable", "draw", "(IIJ)I"⟩ : MethodName)) (z := (⟨"com/example/circlerank/circlerank/generate/AliasTable", "draw", "(IIJ)I"⟩ : MethodName)) hown (mvT hZ (hw _ (List.mem_of_getElem? (i := 22) rfl))) (mvT hZ (hw _ (List.mem_of_getElem? (i := 23) rfl))) (notFace_of_selects (args := #[]) (mvT hZ (hw _ (List.mem_of_getElem? (i := 25) rfl)))) (mvT hZ (hw _ (List.mem_of_getElem? (i := 25) rfl))) (mvT hZ (hw _ (List.mem_of_getElem? (i := 24) rfl))) (by decide) (backOf (W := 0) (rm9 l Z a0 hw [] b198 p4 th_202 al_202 kt_202 ka_202 FP.dconst1 ta_282 tb_282 (0 : Int32) la_282 lb_282 T282.heap n0 z311 f308 f309 f310 q282_0 q282_1 ((congrArg (fun z => (1 : Int32) + z) (own_sl2_0 p4 (h_i288.symm.trans hs291))).trans (by decide))) hZ (hw _ (List.mem_of_getElem? (i := 26) rfl)) (hw _ (List.mem_of_getElem? (i := 5) rfl)) (by decide) (by decide)) q307a q307c (g := (mkF m 301 LL306 [(.long p4), (.int 3), (.int 1), (.ref b198)])) rfl (by rw [hml]; rfl) (Steps.refl _) (argsL := [(.int 1), (.int 3), (.long p4)]) (rest := []) (lenOf pd_2 rfl) rfl (by show 2 * 0 + _ ≤ _; exact Nat.le_of_eq rfl) (hb hby at_301) (fun _ _ => ⟨rfl, rfl, (by decide : 5 + 0 ≤ _), (by decide : 13 + 0 ≤ _)⟩)
        dsimp only [Pt.U, Pt.locs, Pt.cells, Pt.slots] at X307 l307 y307 z307 st307 hQ307
        subst l307 y307 z307
        obtain ⟨rfl, Nq307, e307⟩ := hQ307
        have N307 := Fr.app N282 Nq307
        have P312 : ∀ t, Steps p.tables e below (T307.setTop (mkF m 306 LL306 [(.int i298), (.int (F9 p4 ta_282 la_282))])) t → Steps p.tables e below ST t := by
          intro t kk
          refine P299 _ ?_
          show Steps _ _ _ (T282.setTop (mkF m 291 LL306 [])) _
          refine XS.aload X282.here hx rfl (hb hby at_291) rfl rfl ?_
          show Steps _ _ _ (T282.setTop (mkF m 293 LL306 [(.ref b198)])) _
          refine XS.iload X282.here hx rfl (hb hby at_293) rfl ?_
          show Steps _ _ _ (T282.setTop (mkF m 295 LL306 [(.int 1), (.ref b198)])) _
          refine XS.iload X282.here hx rfl (hb hby at_295) rfl ?_
          show Steps _ _ _ (T282.setTop (mkF m 297 LL306 [(.int 1), (.int 1), (.ref b198)])) _
          refine XS.iconst X282.here hx rfl (hb hby at_297) ?_
          show Steps _ _ _ (T282.setTop (mkF m 298 LL306 [(.int 2), (.int 1), (.int 1), (.ref b198)])) _
          refine XS.iadd X282.here hx rfl (hb hby at_298) rfl ?_
          show Steps _ _ _ (T282.setTop (mkF m 299 LL306 [(.int 3), (.int 1), (.ref b198)])) _
          refine XS.lload X282.here hx rfl (hb hby at_299) rfl ?_
          show Steps _ _ _ (T282.setTop (mkF m 301 LL306 [(.long p4), (.int 3), (.int 1), (.ref b198)])) _
          refine st307.trans ?_
          show Steps _ _ _ (T307.setTop (mkF m 304 LL306 [(.int (F9 p4 ta_282 la_282))])) _
          refine XS.iload X307.here hx rfl (hb hby at_304) rfl ?_
          show Steps _ _ _ (T307.setTop (mkF m 306 LL306 [(.int i298), (.int (F9 p4 ta_282 la_282))])) _
          exact kk
        obtain ⟨T314, L314, X314, e314, N314, i313, h_i313, P314⟩ : ∃ (T314 : State) (L314 : List Loc), Stand p l e room_1 s m #[(.int p0), (.int p1), (.int p2), (.int p3), (.long p4)] below meth c T314 L314 5 13 ∧ T314.heap = T282.heap ∧ Fr n0 L314 ∧ ∃ (i313 : Int32), i313 = (if (F9 p4 ta_282 la_282) = i298 then (1 : Int32) else (0 : Int32)) ∧ ∀ t, Steps p.tables e below (T314.setTop (mkF m 332 #[.val (.int p0), .val (.int p1), .val (.int p2), .val (.int p3), .val (.long p4), .second, .val (.long j2), .second, .val (.long j4), .second, .val (.long j6), .second, .val (.int 1), .val (.int i179), .val (.int 1), .val (.int 0), .val (.ref b185), .val (.ref b194), .val (.ref b198), .val (.int 0), .val (.long (p4 &&& (4294967295 : Int64))), .second, .val (.long j2), .second, .val (.long j4), .second, .val (.int i298)] [(.int i313)])) t → Steps p.tables e below ST t := by
          by_cases c315 : (F9 p4 ta_282 la_282) = i298
          · skip
            obtain ⟨cq316, kq316, q316a, q316b, q316c⟩ := isOf hZ e307 f308
            obtain ⟨_, _, ⟨T316, L316, k316, n316⟩, -, X316, ⟨Lc316, hQ316, l316, y316, z316⟩, st316⟩ := X307.virtualBack hx (y := (⟨"com/example/circlerank/circlerank/generate/AliasTable", "draw", "(IIJ)I"⟩ : MethodName)) (z := (⟨"com/example/circlerank/circlerank/generate/AliasTable", "draw", "(IIJ)I"⟩ : MethodName)) hown (mvT hZ (hw _ (List.mem_of_getElem? (i := 22) rfl))) (mvT hZ (hw _ (List.mem_of_getElem? (i := 23) rfl))) (notFace_of_selects (args := #[]) (mvT hZ (hw _ (List.mem_of_getElem? (i := 25) rfl)))) (mvT hZ (hw _ (List.mem_of_getElem? (i := 25) rfl))) (mvT hZ (hw _ (List.mem_of_getElem? (i := 24) rfl))) (by decide) (backOf (W := 0) (rm11 l Z a0 hw [] b198 p4 th_202 al_202 kt_202 ka_202 ta_282 tb_282 (0 : Int32) la_282 lb_282 T282.heap n0 z311 f308 f309 f310 q282_0 q282_1 ((congrArg (fun z => (0 : Int32) + z) (own_sl1 p4)).trans (by decide))) hZ (hw _ (List.mem_of_getElem? (i := 26) rfl)) (hw _ (List.mem_of_getElem? (i := 5) rfl)) (by decide) (by decide)) q316a q316c (g := (mkF m 319 LL306 [(.long p4), (.int 1), (.int 0), (.ref b198)])) rfl (by rw [hml]; rfl) (Steps.refl _) (argsL := [(.int 0), (.int 1), (.long p4)]) (rest := []) (lenOf pd_2 rfl) rfl (by show 2 * 0 + _ ≤ _; exact Nat.le_of_eq rfl) (hb hby at_319) (fun _ _ => ⟨rfl, e307, (by decide : 5 + 0 ≤ _), (by decide : 13 + 0 ≤ _)⟩)
            dsimp only [Pt.U, Pt.locs, Pt.cells, Pt.slots] at X316 l316 y316 z316 st316 hQ316
            subst l316 y316 z316
            obtain ⟨rfl, Nq316, e316⟩ := hQ316
            have N316 := Fr.app N307 Nq316
            refine ⟨_, _, X316, e316, N316, (1 : Int32), ((if_pos c315).trans rfl).symm, fun t kk => P312 t ?_⟩
            show Steps _ _ _ (T307.setTop (mkF m 306 LL306 [(.int i298), (.int (F9 p4 ta_282 la_282))])) _
            refine XS.icmpNo X307.here hx rfl (hb hby at_306) rfl (XT.ii_ne_f c315) ?_
            show Steps _ _ _ (T307.setTop (mkF m 309 LL306 [])) _
            refine XS.aload X307.here hx rfl (hb hby at_309) rfl rfl ?_
            show Steps _ _ _ (T307.setTop (mkF m 311 LL306 [(.ref b198)])) _
            refine XS.iload X307.here hx rfl (hb hby at_311) rfl ?_
            show Steps _ _ _ (T307.setTop (mkF m 313 LL306 [(.int 0), (.ref b198)])) _
            refine XS.iload X307.here hx rfl (hb hby at_313) rfl ?_
            show Steps _ _ _ (T307.setTop (mkF m 315 LL306 [(.int 0), (.int 0), (.ref b198)])) _
            refine XS.iconst X307.here hx rfl (hb hby at_315) ?_
            show Steps _ _ _ (T307.setTop (mkF m 316 LL306 [(.int 1), (.int 0), (.int 0), (.ref b198)])) _
            refine XS.iadd X307.here hx rfl (hb hby at_316) rfl ?_
            show Steps _ _ _ (T307.setTop (mkF m 317 LL306 [(.int 1), (.int 0), (.ref b198)])) _
            refine XS.lload X307.here hx rfl (hb hby at_317) rfl ?_
            show Steps _ _ _ (T307.setTop (mkF m 319 LL306 [(.long p4), (.int 1), (.int 0), (.ref b198)])) _
            refine st316.trans ?_
            show Steps _ _ _ (T316.setTop (mkF m 322 LL306 [(.int 0)])) _
            refine XS.iload X316.here hx rfl (hb hby at_322) rfl ?_
            show Steps _ _ _ (T316.setTop (mkF m 324 LL306 [(.int 0), (.int 0)])) _
            refine XS.icmpNo X316.here hx rfl (hb hby at_324) rfl (XT.ii_ne_f rfl) ?_
            show Steps _ _ _ (T316.setTop (mkF m 327 LL306 [])) _
            refine XS.iconst X316.here hx rfl (hb hby at_327) ?_
            show Steps _ _ _ (T316.setTop (mkF m 328 LL306 [(.int 1)])) _
            refine XS.goto X316.here hx rfl (pc0 := 328) (pc' := 332) rfl (hb hby at_328) (by decide) (by decide) ?_
            show Steps _ _ _ (T316.setTop (mkF m 332 LL306 [(.int 1)])) _
            exact kk
          · skip
            refine ⟨_, _, X307, e307, N307, (0 : Int32), ((if_neg c315).trans rfl).symm, fun t kk => P312 t ?_⟩
            show Steps _ _ _ (T307.setTop (mkF m 306 LL306 [(.int i298), (.int (F9 p4 ta_282 la_282))])) _
            refine XS.icmpYes X307.here hx rfl (pc0 := 306) (pc' := 331) rfl (hb hby at_306) rfl (XT.ii_ne_t c315) (by decide) (by decide) ?_
            show Steps _ _ _ (T307.setTop (mkF m 331 LL306 [])) _
            refine XS.iconst X307.here hx rfl (hb hby at_331) ?_
            show Steps _ _ _ (T307.setTop (mkF m 332 LL306 [(.int 0)])) _
            exact kk
        have P317 : ∀ t, Steps p.tables e below (T314.setTop (mkF m 332 LL306 [(.int i313)])) t → Steps p.tables e below ST t := by
          intro t kk
          refine P314 _ ?_
          show Steps _ _ _ (T314.setTop (mkF m 332 LL306 [(.int i313)])) _
          exact kk
        obtain rfl : i313 = (1 : Int32) := (h_i313.trans (if_pos ((own_e0 p4 (own_ab p0 j2 h_j2) (own_ab p1 j4 h_j4) q282_3).trans h_i298.symm)))
        obtain ⟨fs, hr, hrun, hended, hW, hsame⟩ := X314.leave (v := some (.int 1)) (fun h => by rw [Bd.returns] at h; cases h)
        refine ⟨_, _, P317 _ ?_, hrun, hended, _, _, rfl, ?_, ⟨_, rfl⟩, hW, hsame.mono (by decide) (by decide)⟩
        · exact retN X314 hx (t := .boolean) Bd.returns (by simp) (hb hby at_332) hr
        · exact ⟨rfl, N314⟩
      · skip
        let LL319 : Array Slot := #[.val (.int p0), .val (.int p1), .val (.int p2), .val (.int p3), .val (.long p4), .second, .val (.long j2), .second, .val (.long j4), .second, .val (.long j6), .second, .val (.int 1), .val (.int i179), .val (.int 1), .val (.int 0), .val (.ref b185), .val (.ref b194), .val (.ref b198), .val (.int 1), .unset, .unset, .unset, .unset, .unset, .unset, .unset]
        have P318 : ∀ t, Steps p.tables e below (T282.setTop (mkF m 199 LL319 [])) t → Steps p.tables e below ST t := by
          intro t kk
          refine P290 _ ?_
          show Steps _ _ _ (T282.setTop (mkF m 199 #[.val (.int p0), .val (.int p1), .val (.int p2), .val (.int p3), .val (.long p4), .second, .val (.long j2), .second, .val (.long j4), .second, .val (.long j6), .second, .val (.int 1), .val (.int i179), .val (.int 1), .val (.int 0), .val (.ref b185), .val (.ref b194), .val (.ref b198), .val (.int i288), .unset, .unset, .unset, .unset, .unset, .unset, .unset] [])) t
          rw [hs291]
          exact kk
        let LL320 : Array Slot := #[.val (.int p0), .val (.int p1), .val (.int p2), .val (.int p3), .val (.long p4), .second, .val (.long j2), .second, .val (.long j4), .second, .val (.long j6), .second, .val (.int 1), .val (.int i179), .val (.int 1), .val (.int 0), .val (.ref b185), .val (.ref b194), .val (.ref b198), .val (.int 1), .val (.long (p4 &&& (4294967295 : Int64))), .second, .unset, .unset, .unset, .unset, .unset]
        let LL321 : Array Slot := #[.val (.int p0), .val (.int p1), .val (.int p2), .val (.int p3), .val (.long p4), .second, .val (.long j2), .second, .val (.long j4), .second, .val (.long j6), .second, .val (.int 1), .val (.int i179), .val (.int 1), .val (.int 0), .val (.ref b185), .val (.ref b194), .val (.ref b198), .val (.int 1), .val (.long (p4 &&& (4294967295 : Int64))), .second, .val (.long j4), .second, .unset, .unset, .unset]
        let LL322 : Array Slot := #[.val (.int p0), .val (.int p1), .val (.int p2), .val (.int p3), .val (.long p4), .second, .val (.long j2), .second, .val (.long j4), .second, .val (.long j6), .second, .val (.int 1), .val (.int i179), .val (.int 1), .val (.int 0), .val (.ref b185), .val (.ref b194), .val (.ref b198), .val (.int 1), .val (.long (p4 &&& (4294967295 : Int64))), .second, .val (.long j4), .second, .val (.long j2), .second, .unset]
        have P323 : ∀ t, Steps p.tables e below (T282.setTop (mkF m 240 LL322 [(.int (XT.cmpL j4 j2))])) t → Steps p.tables e below ST t := by
          intro t kk
          refine P318 _ ?_
          show Steps _ _ _ (T282.setTop (mkF m 199 LL319 [])) _
          refine XS.lload X282.here hx rfl (hb hby at_199) rfl ?_
          show Steps _ _ _ (T282.setTop (mkF m 201 LL319 [(.long p4)])) _
          refine X282.ldc2Long hx hown (mvT hZ (hw _ (List.mem_of_getElem? (i := 21) rfl))) (g := (mkF m 201 LL319 [(.long p4)])) rfl (hb hby at_201) _ ?_
          show Steps _ _ _ (T282.setTop (mkF m 204 LL319 [(.long (4294967295 : Int64)), (.long p4)])) _
          refine XS.land X282.here hx rfl (hb hby at_204) rfl ?_
          show Steps _ _ _ (T282.setTop (mkF m 205 LL319 [(.long (p4 &&& (4294967295 : Int64)))])) _
          refine XS.lstore X282.here hx rfl (hb hby at_205) rfl (l' := LL320) rfl ?_
          show Steps _ _ _ (T282.setTop (mkF m 207 LL320 [])) _
          refine XS.iload X282.here hx rfl (hb hby at_207) rfl ?_
          show Steps _ _ _ (T282.setTop (mkF m 209 LL320 [(.int 1)])) _
          refine XS.ifYes X282.here hx rfl (pc0 := 209) (pc' := 217) rfl (hb hby at_209) rfl (XT.i0_ne_t (by decide)) (by decide) (by decide) ?_
          show Steps _ _ _ (T282.setTop (mkF m 217 LL320 [])) _
          refine XS.lload X282.here hx rfl (hb hby at_217) rfl ?_
          show Steps _ _ _ (T282.setTop (mkF m 219 LL320 [(.long j4)])) _
          refine XS.lstore X282.here hx rfl (hb hby at_219) rfl (l' := LL321) rfl ?_
          show Steps _ _ _ (T282.setTop (mkF m 221 LL321 [])) _
          refine XS.iload X282.here hx rfl (hb hby at_221) rfl ?_
          show Steps _ _ _ (T282.setTop (mkF m 223 LL321 [(.int 1)])) _
          refine XS.ifYes X282.here hx rfl (pc0 := 223) (pc' := 231) rfl (hb hby at_223) rfl (XT.i0_ne_t (by decide)) (by decide) (by decide) ?_
          show Steps _ _ _ (T282.setTop (mkF m 231 LL321 [])) _
          refine XS.lload X282.here hx rfl (hb hby at_231) rfl ?_
          show Steps _ _ _ (T282.setTop (mkF m 233 LL321 [(.long j2)])) _
          refine XS.lstore X282.here hx rfl (hb hby at_233) rfl (l' := LL322) rfl ?_
          show Steps _ _ _ (T282.setTop (mkF m 235 LL322 [])) _
          refine XS.lload X282.here hx rfl (hb hby at_235) rfl ?_
          show Steps _ _ _ (T282.setTop (mkF m 237 LL322 [(.long j4)])) _
          refine XS.lload X282.here hx rfl (hb hby at_237) rfl ?_
          show Steps _ _ _ (T282.setTop (mkF m 239 LL322 [(.long j2), (.long j4)])) _
          refine XT.lcmp X282.here hx rfl (hb hby at_239) rfl ?_
          show Steps _ _ _ (T282.setTop (mkF m 240 LL322 [(.int (XT.cmpL j4 j2))])) _
          exact kk
        obtain ⟨i324, h_i324, P325⟩ : ∃ (i324 : Int32), i324 = (if j4 < j2 then (if ((p4 &&& (4294967295 : Int64)) * (j2 + j4)) < ((((2 : Int64) * j4) <<< ((32 : Int32) &&& 0x3f).toInt64)) then (2 : Int32) else (1 : Int32)) else (2 : Int32)) ∧ ∀ t, Steps p.tables e below (T282.setTop (mkF m 291 #[.val (.int p0), .val (.int p1), .val (.int p2), .val (.int p3), .val (.long p4), .second, .val (.long j2), .second, .val (.long j4), .second, .val (.long j6), .second, .val (.int 1), .val (.int i179), .val (.int 1), .val (.int 0), .val (.ref b185), .val (.ref b194), .val (.ref b198), .val (.int 1), .val (.long (p4 &&& (4294967295 : Int64))), .second, .val (.long j4), .second, .val (.long j2), .second, .val (.int i324)] [])) t → Steps p.tables e below ST t := by
          by_cases c326 : j4 < j2
          · skip
            have P327 : ∀ t, Steps p.tables e below (T282.setTop (mkF m 271 LL322 [(.int (XT.cmpL ((p4 &&& (4294967295 : Int64)) * (j2 + j4)) ((((2 : Int64) * j4) <<< ((32 : Int32) &&& 0x3f).toInt64))))])) t → Steps p.tables e below ST t := by
              intro t kk
              refine P323 _ ?_
              show Steps _ _ _ (T282.setTop (mkF m 240 LL322 [(.int (XT.cmpL j4 j2))])) _
              refine XS.ifYes X282.here hx rfl (pc0 := 240) (pc' := 253) rfl (hb hby at_240) rfl (XT.ll_lt_t c326) (by decide) (by decide) ?_
              show Steps _ _ _ (T282.setTop (mkF m 253 LL322 [])) _
              refine XS.lload X282.here hx rfl (hb hby at_253) rfl ?_
              show Steps _ _ _ (T282.setTop (mkF m 255 LL322 [(.long (p4 &&& (4294967295 : Int64)))])) _
              refine XS.lload X282.here hx rfl (hb hby at_255) rfl ?_
              show Steps _ _ _ (T282.setTop (mkF m 257 LL322 [(.long j2), (.long (p4 &&& (4294967295 : Int64)))])) _
              refine XS.lload X282.here hx rfl (hb hby at_257) rfl ?_
              show Steps _ _ _ (T282.setTop (mkF m 259 LL322 [(.long j4), (.long j2), (.long (p4 &&& (4294967295 : Int64)))])) _
              refine XS.ladd X282.here hx rfl (hb hby at_259) rfl ?_
              show Steps _ _ _ (T282.setTop (mkF m 260 LL322 [(.long (j2 + j4)), (.long (p4 &&& (4294967295 : Int64)))])) _
              refine XS.lmul X282.here hx rfl (hb hby at_260) rfl ?_
              show Steps _ _ _ (T282.setTop (mkF m 261 LL322 [(.long ((p4 &&& (4294967295 : Int64)) * (j2 + j4)))])) _
              refine X282.ldc2Long hx hown (mvT hZ (hw _ (List.mem_of_getElem? (i := 29) rfl))) (g := (mkF m 261 LL322 [(.long ((p4 &&& (4294967295 : Int64)) * (j2 + j4)))])) rfl (hb hby at_261) _ ?_
              show Steps _ _ _ (T282.setTop (mkF m 264 LL322 [(.long (2 : Int64)), (.long ((p4 &&& (4294967295 : Int64)) * (j2 + j4)))])) _
              refine XS.lload X282.here hx rfl (hb hby at_264) rfl ?_
              show Steps _ _ _ (T282.setTop (mkF m 266 LL322 [(.long j4), (.long (2 : Int64)), (.long ((p4 &&& (4294967295 : Int64)) * (j2 + j4)))])) _
              refine XS.lmul X282.here hx rfl (hb hby at_266) rfl ?_
              show Steps _ _ _ (T282.setTop (mkF m 267 LL322 [(.long ((2 : Int64) * j4)), (.long ((p4 &&& (4294967295 : Int64)) * (j2 + j4)))])) _
              refine XS.bipush X282.here hx rfl (hb hby at_267) ?_
              show Steps _ _ _ (T282.setTop (mkF m 269 LL322 [(.int 32), (.long ((2 : Int64) * j4)), (.long ((p4 &&& (4294967295 : Int64)) * (j2 + j4)))])) _
              refine XS.lshl X282.here hx rfl (hb hby at_269) rfl ?_
              show Steps _ _ _ (T282.setTop (mkF m 270 LL322 [(.long ((((2 : Int64) * j4) <<< ((32 : Int32) &&& 0x3f).toInt64))), (.long ((p4 &&& (4294967295 : Int64)) * (j2 + j4)))])) _
              refine XT.lcmp X282.here hx rfl (hb hby at_270) rfl ?_
              show Steps _ _ _ (T282.setTop (mkF m 271 LL322 [(.int (XT.cmpL ((p4 &&& (4294967295 : Int64)) * (j2 + j4)) ((((2 : Int64) * j4) <<< ((32 : Int32) &&& 0x3f).toInt64))))])) _
              exact kk
            by_cases c328 : ((p4 &&& (4294967295 : Int64)) * (j2 + j4)) < ((((2 : Int64) * j4) <<< ((32 : Int32) &&& 0x3f).toInt64))
            · skip
              let LL329 : Array Slot := #[.val (.int p0), .val (.int p1), .val (.int p2), .val (.int p3), .val (.long p4), .second, .val (.long j2), .second, .val (.long j4), .second, .val (.long j6), .second, .val (.int 1), .val (.int i179), .val (.int 1), .val (.int 0), .val (.ref b185), .val (.ref b194), .val (.ref b198), .val (.int 1), .val (.long (p4 &&& (4294967295 : Int64))), .second, .val (.long j4), .second, .val (.long j2), .second, .val (.int 2)]
              refine ⟨(2 : Int32), ((if_pos c326).trans ((if_pos c328).trans rfl)).symm, fun t kk => P327 t ?_⟩
              show Steps _ _ _ (T282.setTop (mkF m 271 LL322 [(.int (XT.cmpL ((p4 &&& (4294967295 : Int64)) * (j2 + j4)) ((((2 : Int64) * j4) <<< ((32 : Int32) &&& 0x3f).toInt64))))])) _
              refine XS.ifNo X282.here hx rfl (hb hby at_271) rfl (XT.ll_ge_f c328) ?_
              show Steps _ _ _ (T282.setTop (mkF m 274 LL322 [])) _
              refine XS.iload X282.here hx rfl (hb hby at_274) rfl ?_
              show Steps _ _ _ (T282.setTop (mkF m 276 LL322 [(.int 1)])) _
              refine XS.iload X282.here hx rfl (hb hby at_276) rfl ?_
              show Steps _ _ _ (T282.setTop (mkF m 278 LL322 [(.int 1), (.int 1)])) _
              refine XS.iadd X282.here hx rfl (hb hby at_278) rfl ?_
              show Steps _ _ _ (T282.setTop (mkF m 279 LL322 [(.int 2)])) _
              refine XS.goto X282.here hx rfl (pc0 := 279) (pc' := 289) rfl (hb hby at_279) (by decide) (by decide) ?_
              show Steps _ _ _ (T282.setTop (mkF m 289 LL322 [(.int 2)])) _
              refine XS.istore X282.here hx rfl (hb hby at_289) rfl (l' := LL329) rfl ?_
              show Steps _ _ _ (T282.setTop (mkF m 291 LL329 [])) _
              exact kk
            · skip
              let LL330 : Array Slot := #[.val (.int p0), .val (.int p1), .val (.int p2), .val (.int p3), .val (.long p4), .second, .val (.long j2), .second, .val (.long j4), .second, .val (.long j6), .second, .val (.int 1), .val (.int i179), .val (.int 1), .val (.int 0), .val (.ref b185), .val (.ref b194), .val (.ref b198), .val (.int 1), .val (.long (p4 &&& (4294967295 : Int64))), .second, .val (.long j4), .second, .val (.long j2), .second, .val (.int 1)]
              refine ⟨(1 : Int32), ((if_pos c326).trans ((if_neg c328).trans rfl)).symm, fun t kk => P327 t ?_⟩
              show Steps _ _ _ (T282.setTop (mkF m 271 LL322 [(.int (XT.cmpL ((p4 &&& (4294967295 : Int64)) * (j2 + j4)) ((((2 : Int64) * j4) <<< ((32 : Int32) &&& 0x3f).toInt64))))])) _
              refine XS.ifYes X282.here hx rfl (pc0 := 271) (pc' := 282) rfl (hb hby at_271) rfl (XT.ll_ge_t c328) (by decide) (by decide) ?_
              show Steps _ _ _ (T282.setTop (mkF m 282 LL322 [])) _
              refine XS.iload X282.here hx rfl (hb hby at_282) rfl ?_
              show Steps _ _ _ (T282.setTop (mkF m 284 LL322 [(.int 1)])) _
              refine XS.iconst X282.here hx rfl (hb hby at_284) ?_
              show Steps _ _ _ (T282.setTop (mkF m 285 LL322 [(.int 1), (.int 1)])) _
              refine XS.iadd X282.here hx rfl (hb hby at_285) rfl ?_
              show Steps _ _ _ (T282.setTop (mkF m 286 LL322 [(.int 2)])) _
              refine XS.iload X282.here hx rfl (hb hby at_286) rfl ?_
              show Steps _ _ _ (T282.setTop (mkF m 288 LL322 [(.int 1), (.int 2)])) _
              refine XS.isub X282.here hx rfl (hb hby at_288) rfl ?_
              show Steps _ _ _ (T282.setTop (mkF m 289 LL322 [(.int 1)])) _
              refine XS.istore X282.here hx rfl (hb hby at_289) rfl (l' := LL330) rfl ?_
              show Steps _ _ _ (T282.setTop (mkF m 291 LL330 [])) _
              exact kk
          · skip
            let LL331 : Array Slot := #[.val (.int p0), .val (.int p1), .val (.int p2), .val (.int p3), .val (.long p4), .second, .val (.long j2), .second, .val (.long j4), .second, .val (.long j6), .second, .val (.int 1), .val (.int i179), .val (.int 1), .val (.int 0), .val (.ref b185), .val (.ref b194), .val (.ref b198), .val (.int 1), .val (.long (p4 &&& (4294967295 : Int64))), .second, .val (.long j4), .second, .val (.long j2), .second, .val (.int 2)]
            refine ⟨(2 : Int32), ((if_neg c326).trans rfl).symm, fun t kk => P323 t ?_⟩
            show Steps _ _ _ (T282.setTop (mkF m 240 LL322 [(.int (XT.cmpL j4 j2))])) _
            refine XS.ifNo X282.here hx rfl (hb hby at_240) rfl (XT.ll_lt_f c326) ?_
            show Steps _ _ _ (T282.setTop (mkF m 243 LL322 [])) _
            refine XS.iload X282.here hx rfl (hb hby at_243) rfl ?_
            show Steps _ _ _ (T282.setTop (mkF m 245 LL322 [(.int 1)])) _
            refine XS.iload X282.here hx rfl (hb hby at_245) rfl ?_
            show Steps _ _ _ (T282.setTop (mkF m 247 LL322 [(.int 1), (.int 1)])) _
            refine XS.iadd X282.here hx rfl (hb hby at_247) rfl ?_
            show Steps _ _ _ (T282.setTop (mkF m 248 LL322 [(.int 2)])) _
            refine XS.istore X282.here hx rfl (hb hby at_248) rfl (l' := LL331) rfl ?_
            show Steps _ _ _ (T282.setTop (mkF m 250 LL331 [])) _
            refine XS.goto X282.here hx rfl (pc0 := 250) (pc' := 291) rfl (hb hby at_250) (by decide) (by decide) ?_
            show Steps _ _ _ (T282.setTop (mkF m 291 LL331 [])) _
            exact kk
        let LL332 : Array Slot := #[.val (.int p0), .val (.int p1), .val (.int p2), .val (.int p3), .val (.long p4), .second, .val (.long j2), .second, .val (.long j4), .second, .val (.long j6), .second, .val (.int 1), .val (.int i179), .val (.int 1), .val (.int 0), .val (.ref b185), .val (.ref b194), .val (.ref b198), .val (.int 1), .val (.long (p4 &&& (4294967295 : Int64))), .second, .val (.long j4), .second, .val (.long j2), .second, .val (.int i324)]
        have f334 := (Exa.keep f283 K282)
        have f335 := (Fld.keep f284 K282 (ninS ne_b198_th_202 (ninS ne_b198_al_202 (ninS (Ne.symm ne_b194_b198) nin0))))
        have f336 := (Fld.keep f285 K282 (ninS ne_b198_th_202 (ninS ne_b198_al_202 (ninS (Ne.symm ne_b194_b198) nin0))))
        have z337 : n0 ≤ _ := (Nat.le_trans z287 K282.1)
        obtain ⟨cq333, kq333, q333a, q333b, q333c⟩ := isOf hZ rfl f334
        obtain ⟨_, _, ⟨T333, L333, k333, n333⟩, -, X333, ⟨Lc333, hQ333, l333, y333, z333⟩, st333⟩ := X282.virtualBack hx (y := (⟨"com/example/circlerank/circlerank/generate/AliasTable", "draw", "(IIJ)I"⟩ : MethodName)) (z := (⟨"com/example/circlerank/circlerank/generate/AliasTable", "draw", "(IIJ)I"⟩ : MethodName)) hown (mvT hZ (hw _ (List.mem_of_getElem? (i := 22) rfl))) (mvT hZ (hw _ (List.mem_of_getElem? (i := 23) rfl))) (notFace_of_selects (args := #[]) (mvT hZ (hw _ (List.mem_of_getElem? (i := 25) rfl)))) (mvT hZ (hw _ (List.mem_of_getElem? (i := 25) rfl))) (mvT hZ (hw _ (List.mem_of_getElem? (i := 24) rfl))) (by decide) (backOf (W := 0) (rm10 l Z a0 hw [] b198 p4 th_202 al_202 kt_202 ka_202 FP.dconst1 ta_282 tb_282 (0 : Int32) la_282 lb_282 T282.heap n0 z337 f334 f335 f336 q282_0 q282_1 ((congrArg (fun z => (1 : Int32) + z) (own_sl2_1 p4 (h_i288.symm.trans hs291))).trans (by decide))) hZ (hw _ (List.mem_of_getElem? (i := 26) rfl)) (hw _ (List.mem_of_getElem? (i := 5) rfl)) (by decide) (by decide)) q333a q333c (g := (mkF m 301 LL332 [(.long p4), (.int 3), (.int 1), (.ref b198)])) rfl (by rw [hml]; rfl) (Steps.refl _) (argsL := [(.int 1), (.int 3), (.long p4)]) (rest := []) (lenOf pd_2 rfl) rfl (by show 2 * 0 + _ ≤ _; exact Nat.le_of_eq rfl) (hb hby at_301) (fun _ _ => ⟨rfl, rfl, (by decide : 5 + 0 ≤ _), (by decide : 13 + 0 ≤ _)⟩)
        dsimp only [Pt.U, Pt.locs, Pt.cells, Pt.slots] at X333 l333 y333 z333 st333 hQ333
        subst l333 y333 z333
        obtain ⟨rfl, Nq333, e333⟩ := hQ333
        have N333 := Fr.app N282 Nq333
        have P338 : ∀ t, Steps p.tables e below (T333.setTop (mkF m 306 LL332 [(.int i324), (.int (F10 p4 tb_282 lb_282))])) t → Steps p.tables e below ST t := by
          intro t kk
          refine P325 _ ?_
          show Steps _ _ _ (T282.setTop (mkF m 291 LL332 [])) _
          refine XS.aload X282.here hx rfl (hb hby at_291) rfl rfl ?_
          show Steps _ _ _ (T282.setTop (mkF m 293 LL332 [(.ref b198)])) _
          refine XS.iload X282.here hx rfl (hb hby at_293) rfl ?_
          show Steps _ _ _ (T282.setTop (mkF m 295 LL332 [(.int 1), (.ref b198)])) _
          refine XS.iload X282.here hx rfl (hb hby at_295) rfl ?_
          show Steps _ _ _ (T282.setTop (mkF m 297 LL332 [(.int 1), (.int 1), (.ref b198)])) _
          refine XS.iconst X282.here hx rfl (hb hby at_297) ?_
          show Steps _ _ _ (T282.setTop (mkF m 298 LL332 [(.int 2), (.int 1), (.int 1), (.ref b198)])) _
          refine XS.iadd X282.here hx rfl (hb hby at_298) rfl ?_
          show Steps _ _ _ (T282.setTop (mkF m 299 LL332 [(.int 3), (.int 1), (.ref b198)])) _
          refine XS.lload X282.here hx rfl (hb hby at_299) rfl ?_
          show Steps _ _ _ (T282.setTop (mkF m 301 LL332 [(.long p4), (.int 3), (.int 1), (.ref b198)])) _
          refine st333.trans ?_
          show Steps _ _ _ (T333.setTop (mkF m 304 LL332 [(.int (F10 p4 tb_282 lb_282))])) _
          refine XS.iload X333.here hx rfl (hb hby at_304) rfl ?_
          show Steps _ _ _ (T333.setTop (mkF m 306 LL332 [(.int i324), (.int (F10 p4 tb_282 lb_282))])) _
          exact kk
        obtain ⟨T340, L340, X340, e340, N340, i339, h_i339, P340⟩ : ∃ (T340 : State) (L340 : List Loc), Stand p l e room_1 s m #[(.int p0), (.int p1), (.int p2), (.int p3), (.long p4)] below meth c T340 L340 5 13 ∧ T340.heap = T282.heap ∧ Fr n0 L340 ∧ ∃ (i339 : Int32), i339 = (if (F10 p4 tb_282 lb_282) = i324 then (1 : Int32) else (0 : Int32)) ∧ ∀ t, Steps p.tables e below (T340.setTop (mkF m 332 #[.val (.int p0), .val (.int p1), .val (.int p2), .val (.int p3), .val (.long p4), .second, .val (.long j2), .second, .val (.long j4), .second, .val (.long j6), .second, .val (.int 1), .val (.int i179), .val (.int 1), .val (.int 0), .val (.ref b185), .val (.ref b194), .val (.ref b198), .val (.int 1), .val (.long (p4 &&& (4294967295 : Int64))), .second, .val (.long j4), .second, .val (.long j2), .second, .val (.int i324)] [(.int i339)])) t → Steps p.tables e below ST t := by
          by_cases c341 : (F10 p4 tb_282 lb_282) = i324
          · skip
            obtain ⟨cq342, kq342, q342a, q342b, q342c⟩ := isOf hZ e333 f334
            obtain ⟨_, _, ⟨T342, L342, k342, n342⟩, -, X342, ⟨Lc342, hQ342, l342, y342, z342⟩, st342⟩ := X333.virtualBack hx (y := (⟨"com/example/circlerank/circlerank/generate/AliasTable", "draw", "(IIJ)I"⟩ : MethodName)) (z := (⟨"com/example/circlerank/circlerank/generate/AliasTable", "draw", "(IIJ)I"⟩ : MethodName)) hown (mvT hZ (hw _ (List.mem_of_getElem? (i := 22) rfl))) (mvT hZ (hw _ (List.mem_of_getElem? (i := 23) rfl))) (notFace_of_selects (args := #[]) (mvT hZ (hw _ (List.mem_of_getElem? (i := 25) rfl)))) (mvT hZ (hw _ (List.mem_of_getElem? (i := 25) rfl))) (mvT hZ (hw _ (List.mem_of_getElem? (i := 24) rfl))) (by decide) (backOf (W := 0) (rm11 l Z a0 hw [] b198 p4 th_202 al_202 kt_202 ka_202 ta_282 tb_282 (0 : Int32) la_282 lb_282 T282.heap n0 z337 f334 f335 f336 q282_0 q282_1 ((congrArg (fun z => (0 : Int32) + z) (own_sl1 p4)).trans (by decide))) hZ (hw _ (List.mem_of_getElem? (i := 26) rfl)) (hw _ (List.mem_of_getElem? (i := 5) rfl)) (by decide) (by decide)) q342a q342c (g := (mkF m 319 LL332 [(.long p4), (.int 1), (.int 0), (.ref b198)])) rfl (by rw [hml]; rfl) (Steps.refl _) (argsL := [(.int 0), (.int 1), (.long p4)]) (rest := []) (lenOf pd_2 rfl) rfl (by show 2 * 0 + _ ≤ _; exact Nat.le_of_eq rfl) (hb hby at_319) (fun _ _ => ⟨rfl, e333, (by decide : 5 + 0 ≤ _), (by decide : 13 + 0 ≤ _)⟩)
            dsimp only [Pt.U, Pt.locs, Pt.cells, Pt.slots] at X342 l342 y342 z342 st342 hQ342
            subst l342 y342 z342
            obtain ⟨rfl, Nq342, e342⟩ := hQ342
            have N342 := Fr.app N333 Nq342
            refine ⟨_, _, X342, e342, N342, (1 : Int32), ((if_pos c341).trans rfl).symm, fun t kk => P338 t ?_⟩
            show Steps _ _ _ (T333.setTop (mkF m 306 LL332 [(.int i324), (.int (F10 p4 tb_282 lb_282))])) _
            refine XS.icmpNo X333.here hx rfl (hb hby at_306) rfl (XT.ii_ne_f c341) ?_
            show Steps _ _ _ (T333.setTop (mkF m 309 LL332 [])) _
            refine XS.aload X333.here hx rfl (hb hby at_309) rfl rfl ?_
            show Steps _ _ _ (T333.setTop (mkF m 311 LL332 [(.ref b198)])) _
            refine XS.iload X333.here hx rfl (hb hby at_311) rfl ?_
            show Steps _ _ _ (T333.setTop (mkF m 313 LL332 [(.int 0), (.ref b198)])) _
            refine XS.iload X333.here hx rfl (hb hby at_313) rfl ?_
            show Steps _ _ _ (T333.setTop (mkF m 315 LL332 [(.int 0), (.int 0), (.ref b198)])) _
            refine XS.iconst X333.here hx rfl (hb hby at_315) ?_
            show Steps _ _ _ (T333.setTop (mkF m 316 LL332 [(.int 1), (.int 0), (.int 0), (.ref b198)])) _
            refine XS.iadd X333.here hx rfl (hb hby at_316) rfl ?_
            show Steps _ _ _ (T333.setTop (mkF m 317 LL332 [(.int 1), (.int 0), (.ref b198)])) _
            refine XS.lload X333.here hx rfl (hb hby at_317) rfl ?_
            show Steps _ _ _ (T333.setTop (mkF m 319 LL332 [(.long p4), (.int 1), (.int 0), (.ref b198)])) _
            refine st342.trans ?_
            show Steps _ _ _ (T342.setTop (mkF m 322 LL332 [(.int 0)])) _
            refine XS.iload X342.here hx rfl (hb hby at_322) rfl ?_
            show Steps _ _ _ (T342.setTop (mkF m 324 LL332 [(.int 0), (.int 0)])) _
            refine XS.icmpNo X342.here hx rfl (hb hby at_324) rfl (XT.ii_ne_f rfl) ?_
            show Steps _ _ _ (T342.setTop (mkF m 327 LL332 [])) _
            refine XS.iconst X342.here hx rfl (hb hby at_327) ?_
            show Steps _ _ _ (T342.setTop (mkF m 328 LL332 [(.int 1)])) _
            refine XS.goto X342.here hx rfl (pc0 := 328) (pc' := 332) rfl (hb hby at_328) (by decide) (by decide) ?_
            show Steps _ _ _ (T342.setTop (mkF m 332 LL332 [(.int 1)])) _
            exact kk
          · skip
            refine ⟨_, _, X333, e333, N333, (0 : Int32), ((if_neg c341).trans rfl).symm, fun t kk => P338 t ?_⟩
            show Steps _ _ _ (T333.setTop (mkF m 306 LL332 [(.int i324), (.int (F10 p4 tb_282 lb_282))])) _
            refine XS.icmpYes X333.here hx rfl (pc0 := 306) (pc' := 331) rfl (hb hby at_306) rfl (XT.ii_ne_t c341) (by decide) (by decide) ?_
            show Steps _ _ _ (T333.setTop (mkF m 331 LL332 [])) _
            refine XS.iconst X333.here hx rfl (hb hby at_331) ?_
            show Steps _ _ _ (T333.setTop (mkF m 332 LL332 [(.int 0)])) _
            exact kk
        have P343 : ∀ t, Steps p.tables e below (T340.setTop (mkF m 332 LL332 [(.int i339)])) t → Steps p.tables e below ST t := by
          intro t kk
          refine P340 _ ?_
          show Steps _ _ _ (T340.setTop (mkF m 332 LL332 [(.int i339)])) _
          exact kk
        obtain rfl : i339 = (1 : Int32) := (h_i339.trans (if_pos ((own_e1 p4 (own_ab p0 j2 h_j2) (own_ab p1 j4 h_j4) q282_3).trans h_i324.symm)))
        obtain ⟨fs, hr, hrun, hended, hW, hsame⟩ := X340.leave (v := some (.int 1)) (fun h => by rw [Bd.returns] at h; cases h)
        refine ⟨_, _, P343 _ ?_, hrun, hended, _, _, rfl, ?_, ⟨_, rfl⟩, hW, hsame.mono (by decide) (by decide)⟩
        · exact retN X340 hx (t := .boolean) Bd.returns (by simp) (hb hby at_332) hr
        · exact ⟨rfl, N340⟩
set_option maxRecDepth 65536 in
set_option maxHeartbeats 40000000 in
theorem comes_1 {Post : Tables → Env → Array Value → State → Outcome → State → Prop} (hpost : ∀ tb e args s v u, (limb_1_1.after args s (.returned v) u = true ∧ limb_1_2.after args s (.returned v) u = true ∧ True) → FrameEnd s (.returned v) u (Jvm.fieldLocs frame_1_writes args s ++ Jvm.arrayLocs frame_1_arrays args s ++ Jvm.staticLocs frame_1_statics s) 24 128 → Post tb e args s (.returned v) u) :
    ArmFor flags0 classFile x code maxLocals ret World_1 tables_1 room_1 Calls_1 rest_1 Pre_1 Post := by
  intro l hfl _ _ p e ha hc hk s m args below hf hA hF happ hP
  obtain ⟨hcalls, hrest, hpre⟩ := hP
  obtain ⟨-, -, -, hnamed, -, -, -, hat⟩ := (Spec.applies_iff hf).mp happ
  obtain ⟨hg, hn⟩ := and_e (Cond.before_iff.mp (show (Jvm.Cond.and given_1 narrow_1).before args s = true from hpre))
  obtain ⟨g0, gr0⟩ := and_e hg
  obtain ⟨g1, gr1⟩ := and_e gr0
  obtain ⟨g2, gr2⟩ := and_e gr1
  obtain ⟨g3, gr3⟩ := and_e gr2
  obtain ⟨g4, gr4⟩ := and_e gr3
  obtain ⟨w0, w1, w2, w3, w4, rfl⟩ : ∃ w0 w1 w2 w3 w4 : Value, args = #[w0, w1, w2, w3, w4] := by
    have hs : args.size = 5 := by simpa [Cond.value, given_1] using g0
    obtain ⟨L⟩ := args
    match L, hs with
    | [w0, w1, w2, w3, w4], _ => exact ⟨w0, w1, w2, w3, w4, rfl⟩
  have hw := fun d (hd : d ∈ tables_1) => atoms_spec (ws := Jvm.Cond.code x code maxLocals ret :: tables_1) hat d (List.mem_cons_of_mem _ hd)
  have hfit : Fit s := fun {y c} hc i hi => by
    obtain ⟨ha, rfl⟩ := Array.getElem?_eq_some_iff.mp hc
    have q := List.all_eq_true.mp ((Array.all_eq_true_iff_forall_mem.mp hF) _ (Array.getElem_mem ha)) i (List.mem_range.mpr hi)
    simpa [Array.getElem?_eq_getElem hi] using q
  obtain ⟨i0, ei0⟩ := is_v g1
  obtain rfl : w0 = (.int i0) := Option.some.inj ei0
  obtain ⟨i1, ei1⟩ := is_v g2
  obtain rfl : w1 = (.int i1) := Option.some.inj ei1
  obtain ⟨i2, ei2⟩ := is_v g3
  obtain rfl : w2 = (.int i2) := Option.some.inj ei2
  obtain ⟨i3, ei3⟩ := is_v g4
  obtain rfl : w3 = (.int i3) := Option.some.inj ei3
  obtain ⟨i4, ei4⟩ := isL_v gr4
  obtain rfl : w4 = (.long i4) := Option.some.inj ei4
  obtain ⟨n, o, h1, h2, h3, _, L, rfl, ⟨rfl, N⟩, hq⟩ := rm0 l s _ hw tables_1 i0 i1 i2 i3 i4  s.heap s.heap.size (Nat.le_refl _)  p e ha hc hk s m _ below hf ((Spec.applies_iff_loose hf).mp happ).1 ⟨rfl, State.Warmed39.refl s, rfl⟩ trivial
  refine ⟨n, _, h1, h2, h3, hpost _ _ _ _ _ _ ⟨Cond.after_iff.mpr rfl, Cond.after_iff.mpr (eq_i res_at (Term.int_eval (1)) rfl), trivial⟩ ⟨hq.1, hq.2.1, (hq.2.2.sift fun y hy => Or.inr (N y hy)).mono (by decide) (by decide)⟩⟩
theorem main_1_1 : Claimed_1_1 := comes_1 fun _ _ _ _ _ _ h hF => ⟨h.1, hF⟩
theorem main_1_2 : Claimed_1_2 := comes_1 fun _ _ _ _ _ _ h hF => ⟨h.2.1, hF⟩
end Jvm.Pilot.@@N@@
namespace Jvm.Pilot.@@N@@
open Jvm Jvm.ClassFile Sem Op Lib Jvm.Free Jvm.Stand Jvm.Pilot.@@N@@.Jvm.D
/-! MADE BY PROGRAM (witnessworld.py) out of the Statement's table words and the real class files: 11 classes; the members and pool entries that the words name. The judged class is class 1, her method 1. -/
namespace start1
open Jvm.ClassFile
def u (s : String) : CpInfo := .utf8 (stringToUtf16 s)
/-- a pool by its gaps: so many unusable entries, then the entry; so many at the end -/
def gap : Nat → List CpInfo → List CpInfo
  | 0, r => r
  | n + 1, r => .unusable :: gap n r
def poolList (es : List (Nat × CpInfo)) (last : Nat) : List CpInfo := es.foldr (fun e r => gap e.1 (e.2 :: r)) (gap last [])
def pool (es : List (Nat × CpInfo)) (last : Nat) : Array CpInfo := ⟨poolList es last⟩
def fileOf (pool : Array CpInfo) (this : Nat) (attrs : Array Attribute := #[]) (ms : Array MethodInfo := #[]) (fl : Nat := 33) (sup : Nat := 0) (ifs : Array Nat := #[]) (fds : Array FieldInfo := #[]) : ClassFile where
  minorVersion := 0
  majorVersion := 65
  constantPool := pool
  accessFlags := fl
  thisClass := this
  superClass := sup
  interfaces := ifs
  fields := fds
  methods := ms
  attributes := attrs
def plain (name : String) (sup : Option ClassId) : Class where
  name := name
  kind := .ordinary
  loader := none
  accessFlags := 33
  super := sup
  interfaces := #[]
  cf := none
  fields := #[]
  methods := #[]
  instanceTypes := #[]
  staticTypes := #[]
  resolved := #[]
  callSites := []
  init := .initialized
  statics := none
  mirror := none

def pool0 : Array CpInfo := pool [(5, u "<init>"), (0, u "()V"), (1, .class_ 10), (1, u "java/lang/Object")] 113

def k0c0 : Code := { maxStack := 0, maxLocals := 1, code := object_method_1_code, exceptionTable := #[], attributes := #[] }
def k0m0 : Method := { name := "<init>", desc := "()V", sig := { parameters := [], returnType := none }, accessFlags := 1, code := some k0c0 }
/-- java/lang/Object -/
def k0 : Class := { plain "java/lang/Object" none with
  accessFlags := 33
  interfaces := #[]
  cf := some (fileOf pool0 8 #[] #[{ accessFlags := 1, nameIndex := 5, descriptorIndex := 6, attributes := #[] }] 33 0 #[] #[])
  fields := #[]
  methods := #[k0m0]
  instanceTypes := #[]
  staticTypes := #[]
  resolved := Array.replicate 124 none
  statics := none }

def pool1 : Array CpInfo := pool [(2, .class_ 4), (1, u "java/lang/Object"), (0, u "<init>"), (0, u "()V"), (0, .integer 65535), (0, .class_ 9), (0, u "com/example/circlerank/circlerank/generate/AliasTable"), (0, .methodref 8 11), (0, .nameAndType 5 12), (0, u "(I)V"), (0, .methodref 8 14), (0, .nameAndType 15 16), (0, u "build"), (0, u "([DII[I)V"), (0, .long 4294967295), (1, .long 2), (1, .methodref 8 22), (0, .nameAndType 23 24), (0, u "draw"), (0, u "(IIJ)I"), (0, .class_ 26), (0, u "com/example/circlerank/circlerank/generate/AliasTableBuildPinLaw"), (2, u "law"), (0, u "(IIIIJ)Z")] 7

def k1m0 : Method := { name := "<init>", desc := "()V", sig := { parameters := [], returnType := none }, accessFlags := 1, code := none }
def k1c1 : Code := { maxStack := 6, maxLocals := 27, code := code, exceptionTable := #[], attributes := #[] }
def k1m1 : Method := { name := "law", desc := "(IIIIJ)Z", sig := { parameters := [.int, .int, .int, .int, .long], returnType := some .boolean }, accessFlags := 9, code := some k1c1 }
/-- com/example/circlerank/circlerank/generate/AliasTableBuildPinLaw -/
def k1 : Class := { plain "com/example/circlerank/circlerank/generate/AliasTableBuildPinLaw" (some 0) with
  accessFlags := 49
  interfaces := #[]
  cf := some (fileOf pool1 25 #[] #[{ accessFlags := 1, nameIndex := 5, descriptorIndex := 6, attributes := #[] }, { accessFlags := 9, nameIndex := 29, descriptorIndex := 30, attributes := #[] }] 49 2 #[] #[])
  fields := #[]
  methods := #[k1m0, k1m1]
  instanceTypes := #[]
  staticTypes := #[]
  resolved := Array.replicate 38 none
  statics := none }

def pool2 : Array CpInfo := pool [(1, .methodref 2 3), (0, .class_ 4), (0, .nameAndType 5 6), (0, u "java/lang/Object"), (0, u "<init>"), (0, u "()V"), (0, .fieldref 8 9), (0, .class_ 10), (0, .nameAndType 11 12), (0, u "com/example/circlerank/circlerank/generate/AliasTable"), (0, u "threshold"), (0, u "[D"), (0, .fieldref 8 14), (0, .nameAndType 15 16), (0, u "alias"), (0, u "[I"), (0, .long 4294967295), (1, .double 4463067230724161536), (1, u "UNIT_32"), (0, u "D"), (1, u "(I)V"), (2, u "build"), (0, u "([DII[I)V"), (1, u "draw"), (0, u "(IIJ)I")] 2

def k2c0 : Code := { maxStack := 2, maxLocals := 2, code := prog_27_method_1_code, exceptionTable := #[], attributes := #[] }
def k2m0 : Method := { name := "<init>", desc := "(I)V", sig := { parameters := [.int], returnType := none }, accessFlags := 0, code := some k2c0 }
def k2c1 : Code := { maxStack := 8, maxLocals := 12, code := prog_27_method_2_code, exceptionTable := #[], attributes := #[] }
def k2m1 : Method := { name := "build", desc := "([DII[I)V", sig := { parameters := [(.array .double), .int, .int, (.array .int)], returnType := none }, accessFlags := 0, code := some k2c1 }
def k2c2 : Code := { maxStack := 5, maxLocals := 6, code := prog_27_method_3_code, exceptionTable := #[], attributes := #[] }
def k2m2 : Method := { name := "draw", desc := "(IIJ)I", sig := { parameters := [.int, .int, .long], returnType := some .int }, accessFlags := 0, code := some k2c2 }
/-- com/example/circlerank/circlerank/generate/AliasTable -/
def k2 : Class := { plain "com/example/circlerank/circlerank/generate/AliasTable" (some 0) with
  accessFlags := 48
  interfaces := #[]
  cf := some (fileOf pool2 8 #[] #[{ accessFlags := 0, nameIndex := 5, descriptorIndex := 24, attributes := #[] }, { accessFlags := 0, nameIndex := 27, descriptorIndex := 28, attributes := #[] }, { accessFlags := 0, nameIndex := 30, descriptorIndex := 31, attributes := #[] }] 48 2 #[] #[{ accessFlags := 26, nameIndex := 21, descriptorIndex := 22, attributes := #[] }, { accessFlags := 18, nameIndex := 11, descriptorIndex := 12, attributes := #[] }, { accessFlags := 18, nameIndex := 15, descriptorIndex := 16, attributes := #[] }])
  fields := #[{ name := "UNIT_32", type := .double, accessFlags := 26, slot := 0, constantValue := 0 }, { name := "threshold", type := (.array .double), accessFlags := 18, slot := 0, constantValue := 0 }, { name := "alias", type := (.array .int), accessFlags := 18, slot := 1, constantValue := 0 }]
  methods := #[k2m0, k2m1, k2m2]
  instanceTypes := #[(.array .double), (.array .int)]
  staticTypes := #[.double]
  resolved := Array.replicate 34 none
  statics := none }

def pool3 : Array CpInfo := pool [(1, u "java/lang/Cloneable"), (0, .class_ 1), (0, u "java/lang/Object"), (0, .class_ 3)] 3

/-- java/lang/Cloneable -/
def k3 : Class := { plain "java/lang/Cloneable" (some 0) with
  accessFlags := 1537
  interfaces := #[]
  cf := some (fileOf pool3 2 #[] #[] 1537 4 #[] #[])
  fields := #[]
  methods := #[]
  instanceTypes := #[]
  staticTypes := #[]
  resolved := Array.replicate 8 none
  statics := none }

def pool4 : Array CpInfo := pool [(1, u "java/io/Serializable"), (0, .class_ 1), (0, u "java/lang/Object"), (0, .class_ 3)] 3

/-- java/io/Serializable -/
def k4 : Class := { plain "java/io/Serializable" (some 0) with
  accessFlags := 1537
  interfaces := #[]
  cf := some (fileOf pool4 2 #[] #[] 1537 4 #[] #[])
  fields := #[]
  methods := #[]
  instanceTypes := #[]
  staticTypes := #[]
  resolved := Array.replicate 8 none
  statics := none }

/-- the primitive byte -/
def k5 : Class := { plain "byte" none with kind := .primitive 'B', accessFlags := 0x411 }
/-- [B -/
def k6 : Class := { plain "[B" (some 0) with kind := .array 5 .byte, interfaces := #[3, 4], accessFlags := 1041 }

/-- the primitive double -/
def k7 : Class := { plain "double" none with kind := .primitive 'D', accessFlags := 0x411 }
/-- [D -/
def k8 : Class := { plain "[D" (some 0) with kind := .array 7 .double, interfaces := #[3, 4], accessFlags := 1041 }

/-- the primitive int -/
def k9 : Class := { plain "int" none with kind := .primitive 'I', accessFlags := 0x411 }
/-- [I -/
def k10 : Class := { plain "[I" (some 0) with kind := .array 9 .int, interfaces := #[3, 4], accessFlags := 1041 }

def heap : Heap := #[]
def classes : Array Class := #[k0, k1, k2, k3, k4, k5, k6, k7, k8, k9, k10]
def interned : List (Array UInt16 × Addr) := []
def slotsUsed : Nat := 0
def theMethod : MethodId := ⟨1, 1⟩
def args0 : Array Value := #[.int 5, .int 5, .int 5, .int 5, .long 5]
def aboutOver (below : List Frame) : State where
  vm := { classes := classes, interned := interned.toArray }
  heap := heap
  slotsUsed := slotsUsed
  threads := #[{ frames := .invoking theMethod args0 :: below }]
def below0 : List Frame := [.native { method := ⟨0, 0⟩, args := #[] }]
def about1 : State := aboutOver below0
def p0 : Program := .bare "" "" ""
def e0 : Env := launch0.env 0 0 0
theorem w_frames : about1.frames = Frame.invoking theMethod args0 :: below0 := rfl
set_option maxRecDepth 65536 in
theorem w_args : argsFit about1.vm theMethod args0 = true := by decide +kernel
set_option maxRecDepth 65536 in
theorem w_heap : heapFits about1 = true := by decide +kernel
set_option maxRecDepth 65536 in
theorem w_runnable : about1.curStatus? = some .runnable := by decide +kernel
set_option maxRecDepth 65536 in
theorem w_alone : about1.alone = true := by decide +kernel
set_option maxRecDepth 65536 in
theorem w_named : about1.methodNamed? x = some theMethod := by decide +kernel
set_option maxRecDepth 65536 in
theorem w_hears : about1.hears theMethod below0 = true := by decide +kernel
set_option maxRecDepth 65536 in
theorem w_ripe : about1.ripe theMethod args0 below0 = true := by decide +kernel
theorem w_running : about1.status = .running := rfl
set_option maxRecDepth 65536 in
theorem w_room : about1.hasRoom e0.platform room_1 = true :=
  launch0.hasRoom_least _ room_1 (by decide +kernel) (by decide +kernel) (by decide +kernel) (by decide +kernel) (by decide +kernel) (by decide +kernel)
theorem allAtoms_all (ts : List Jvm.Cond) (a : Array Jvm.Value) (st : Jvm.State) : (allAtoms ts).before a st = ts.all (fun c => c.before a st) := by
  induction ts with
  | nil => rfl
  | cons c t ih =>
    show (Jvm.Cond.and c (allAtoms t)).before a st = _
    rw [Jvm.Cond.before_and, ih, List.all_cons]
def words1 : List Jvm.Cond := Jvm.Cond.code x code maxLocals ret :: tables_1
/-- a 'code' word, met by the world's own term for the bytes: nothing is compared byte by byte -/
theorem code_word {y : MethodName} {bytes : ByteArray} {mx : Nat} {rt : Option FieldType} {a : Array Value} {s : State} {m : MethodId} {meth : Method} {c : Code} (h1 : s.methodNamed? y = some m) (h2 : s.vm.method? m = some meth) (h3 : meth.code = some c) (h4 : c.code = bytes)
    (h5 : (c.maxLocals == mx && c.exceptionTable.isEmpty && decide (c.maxStack ≤ mostOperands) && decide (meth.sig.returnType = rt) && !meth.locks && decide (parseMethodDescriptor y.desc = some meth.sig)) = true) : (Jvm.Cond.code y bytes mx rt).before a s = true := by
  simp only [Bool.and_eq_true, beq_iff_eq, Bool.not_eq_true', decide_eq_true_eq] at h5
  obtain ⟨⟨⟨⟨⟨g1, g2⟩, g3⟩, g4⟩, g5⟩, g6⟩ := h5
  simp [Cond.before, Cond.holds, Cond.value, h1, h2, h3, h4, g1, g2, g3, g4, g5, g6]
def isCode : Jvm.Cond → Bool
  | .code _ _ _ _ => true
  | _ => false
theorem all_split {L : List Jvm.Cond} {P : Jvm.Cond → Bool} (h1 : L.all (fun c => isCode c || P c) = true) (h2 : ∀ c ∈ L.filter isCode, P c = true) : L.all P = true := by
  refine List.all_eq_true.mpr fun c hc => ?_
  have h := List.all_eq_true.mp h1 c hc
  rcases Bool.eq_false_or_eq_true (isCode c) with hi | hi
  · exact h2 c (List.mem_filter.mpr ⟨hc, hi⟩)
  · simpa [hi] using h
set_option maxRecDepth 65536 in
theorem w_c0 : (Jvm.Cond.code x code maxLocals ret).before args0 about1 = true := code_word (m := ⟨1, 1⟩) (meth := k1m1) (c := k1c1) (by decide +kernel) rfl rfl rfl (by decide +kernel)
set_option maxRecDepth 65536 in
theorem w_c1 : (Jvm.Cond.code ({ cls := "com/example/circlerank/circlerank/generate/AliasTable", name := "<init>", desc := "(I)V" } : Jvm.MethodName) prog_27_method_1_code (2 : Nat) (Option.none : Option Jvm.ClassFile.FieldType)).before args0 about1 = true := code_word (m := ⟨2, 0⟩) (meth := k2m0) (c := k2c0) (by decide +kernel) rfl rfl rfl (by decide +kernel)
set_option maxRecDepth 65536 in
theorem w_c2 : (Jvm.Cond.code ({ cls := "java/lang/Object", name := "<init>", desc := "()V" } : Jvm.MethodName) object_method_1_code (1 : Nat) (Option.none : Option Jvm.ClassFile.FieldType)).before args0 about1 = true := code_word (m := ⟨0, 0⟩) (meth := k0m0) (c := k0c0) (by decide +kernel) rfl rfl rfl (by decide +kernel)
set_option maxRecDepth 65536 in
theorem w_c3 : (Jvm.Cond.code ({ cls := "com/example/circlerank/circlerank/generate/AliasTable", name := "build", desc := "([DII[I)V" } : Jvm.MethodName) prog_27_method_2_code (12 : Nat) (Option.none : Option Jvm.ClassFile.FieldType)).before args0 about1 = true := code_word (m := ⟨2, 1⟩) (meth := k2m1) (c := k2c1) (by decide +kernel) rfl rfl rfl (by decide +kernel)
set_option maxRecDepth 65536 in
theorem w_c4 : (Jvm.Cond.code ({ cls := "com/example/circlerank/circlerank/generate/AliasTable", name := "draw", desc := "(IIJ)I" } : Jvm.MethodName) prog_27_method_3_code (6 : Nat) (Option.some Jvm.ClassFile.FieldType.int)).before args0 about1 = true := code_word (m := ⟨2, 2⟩) (meth := k2m2) (c := k2c2) (by decide +kernel) rfl rfl rfl (by decide +kernel)
def codes1 : List Jvm.Cond := [Jvm.Cond.code x code maxLocals ret, Jvm.Cond.code ({ cls := "com/example/circlerank/circlerank/generate/AliasTable", name := "<init>", desc := "(I)V" } : Jvm.MethodName) prog_27_method_1_code (2 : Nat) (Option.none : Option Jvm.ClassFile.FieldType), Jvm.Cond.code ({ cls := "java/lang/Object", name := "<init>", desc := "()V" } : Jvm.MethodName) object_method_1_code (1 : Nat) (Option.none : Option Jvm.ClassFile.FieldType), Jvm.Cond.code ({ cls := "com/example/circlerank/circlerank/generate/AliasTable", name := "build", desc := "([DII[I)V" } : Jvm.MethodName) prog_27_method_2_code (12 : Nat) (Option.none : Option Jvm.ClassFile.FieldType), Jvm.Cond.code ({ cls := "com/example/circlerank/circlerank/generate/AliasTable", name := "draw", desc := "(IIJ)I" } : Jvm.MethodName) prog_27_method_3_code (6 : Nat) (Option.some Jvm.ClassFile.FieldType.int)]
set_option maxRecDepth 65536 in
theorem codes_eq : words1.filter isCode = codes1 := rfl
theorem w_codes : ∀ c ∈ words1.filter isCode, c.before args0 about1 = true := by
  rw [codes_eq]
  intro c hc
  simp only [codes1, List.mem_cons, List.not_mem_nil, or_false] at hc
  rcases hc with rfl | rfl | rfl | rfl | rfl
  · exact w_c0
  · exact w_c1
  · exact w_c2
  · exact w_c3
  · exact w_c4
set_option maxRecDepth 65536 in
theorem w_t1 : (words1.take 24).all (fun c => isCode c || c.before args0 about1) = true := by decide +kernel
set_option maxRecDepth 65536 in
theorem w_t2 : (words1.drop 24).all (fun c => isCode c || c.before args0 about1) = true := by decide +kernel
theorem w_tables : (allAtoms (Jvm.Cond.code x code maxLocals ret :: tables_1)).before args0 about1 = true := by
  rw [allAtoms_all]
  show words1.all (fun c => c.before args0 about1) = true
  refine all_split ?_ w_codes
  rw [← List.take_append_drop 24 words1, List.all_append, w_t1, w_t2]
  rfl
set_option maxRecDepth 65536 in
theorem w_case : (Jvm.Cond.and given_1 narrow_1).before args0 about1 = true := by decide +kernel
theorem w_applies : (headSpec (Jvm.Cond.code x code maxLocals ret :: tables_1) room_1).applies x e0.platform about1 = true :=
  (Spec.applies_iff w_frames).mpr ⟨w_running, w_runnable, w_alone, w_named, w_hears, w_ripe, w_room, w_tables⟩
theorem atStart : AtStart classFile x code maxLocals ret World_1 tables_1 room_1 Calls_1 rest_1 Pre_1 launch0 p0 e0 about1 theMethod args0 below0 :=
  ⟨lists_1, trivial, launch0.admits_env _ _ _, launch0.least_env, fairChoices_fair.cas, fairChoices_fair.clock, w_frames, w_args, w_heap, w_applies, trivial, trivial, w_case⟩
end start1
theorem witness_1 : WitnessClaimed_1 := ⟨start1.p0, start1.e0, start1.about1, start1.theMethod, start1.args0, start1.below0, start1.atStart⟩
end Jvm.Pilot.@@N@@
