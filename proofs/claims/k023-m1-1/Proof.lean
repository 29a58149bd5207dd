import JvmDerived
import JvmDerived.Pilot.@@N@@Statement
import JvmDerived.Pilot.@@N@@Code
set_option linter.unusedVariables false
set_option linter.unusedSimpArgs false
namespace Jvm.Pilot.@@N@@
open Jvm Jvm.ClassFile Sem Op Lib Jvm.Free Jvm.Stand Jvm.LawKit Jvm.RoadKit Bundle Jvm.Pilot.@@N@@.Jvm.D
/-! own layer 1: doubles as whole numbers of least units (2 to the -1074) -/
section OwnFp
open Jvm.FP Jvm.FP.Core Jvm.Free.Fl
/-- a power of two -/
def P2 (j : Nat) : Int := ((2 ^ j : Nat) : Int)
theorem P2_pos (j : Nat) : 0 < P2 j := Int.natCast_pos.mpr (Nat.two_pow_pos j)
theorem P2_add (i j : Nat) : P2 (i + j) = P2 i * P2 j := by unfold P2; rw [Nat.pow_add, Int.natCast_mul]
theorem P2_one64 : (one64 : Int) = P2 1074 := rfl
/-- the value of a double in least units -/
def Zv (a : UInt64) : Int := zval b64 (val64 a)
/-- some finite double has this value -/
def Rep (V : Int) : Prop := ∃ x : UInt64, DFin x ∧ Zv x = V
theorem own_qmax : b64.qmax = 971 := by decide
theorem own_signed_abs (c : Int) : signed (decide (c < 0)) c.natAbs = c := by
  unfold signed
  by_cases q : c < 0
  · simp [q]; omega
  · simp [q]; omega
theorem rep_core (s : Bool) {c j : Nat} (hc : c < 2 ^ 53) (hj : j ≤ 2045) : ∃ x : UInt64, DFin x ∧ Zv x = signed s (c * 2 ^ j) := by
  obtain ⟨c', q', h1, h2⟩ := round_exact (f := b64) good_b64 s (c := c) (q := (j : Int) - 1074) hc (by rw [qmin_b64]; omega) (by rw [own_qmax]; omega)
  refine ⟨of64 (round b64 (.fin s c ((j : Int) - 1074))), ⟨s, c', q', ?_⟩, ?_⟩
  · rw [val64_of64 (round_fits good_b64 _), h1]
  · unfold Zv
    rw [val64_of64 (round_fits good_b64 _), h1]
    show signed s (inUnits c' q' b64.qmin) = _
    rw [h2]
    unfold inUnits
    rw [show ((j : Int) - 1074 - b64.qmin).toNat = j by rw [qmin_b64]; omega]
theorem rep_mk (c : Int) (j : Nat) (hc : c.natAbs ≤ 2 ^ 53) (hj : j ≤ 2044) : Rep (c * P2 j) := by
  by_cases h : c.natAbs < 2 ^ 53
  · obtain ⟨x, h1, h2⟩ := rep_core (decide (c < 0)) h (j := j) (by omega)
    refine ⟨x, h1, h2.trans ?_⟩
    rw [signed_mul, own_signed_abs]; rfl
  · have h' : c.natAbs = 2 ^ 53 := by omega
    obtain ⟨x, h1, h2⟩ := rep_core (decide (c < 0)) (c := 2 ^ 52) (by decide) (j := j + 1) (by omega)
    refine ⟨x, h1, h2.trans ?_⟩
    have e : 2 ^ 52 * 2 ^ (j + 1) = c.natAbs * 2 ^ j := by
      rw [h', Nat.pow_add 2 j 1]
      generalize 2 ^ j = t
      omega
    rw [e, signed_mul, own_signed_abs]; rfl
theorem rep_of {V : Int} (c : Int) (j : Nat) (hc : c.natAbs ≤ 2 ^ 53) (hj : j ≤ 2044) (h : V = c * P2 j) : Rep V := h ▸ rep_mk c j hc hj
theorem rep_int (n : Int) (h : n.natAbs ≤ 2 ^ 53) : Rep (n * P2 1074) := rep_mk n 1074 h (by decide)
theorem rep_zero : Rep 0 := rep_of 0 0 (by decide) (by decide) (by simp)
theorem rep_self {x : UInt64} (h : DFin x) : Rep (Zv x) := ⟨x, h, rfl⟩
theorem rep_neg {V : Int} (h : Rep V) : Rep (-V) := by
  obtain ⟨x, hx, rfl⟩ := h
  obtain ⟨s, c, q, hv⟩ := hx
  refine ⟨Core.dneg x, ⟨!s, c, q, ?_⟩, ?_⟩
  · rw [Core.val64_dneg, hv]; rfl
  · unfold Zv; rw [Core.val64_dneg, zval_negate]
/-- between two finite values: finite -/
theorem fin_between {x : UInt64} (hn : val64 x ≠ .nan) {L H : Int} (hL : Rep L) (hH : Rep H) (h1 : L ≤ Zv x) (h2 : Zv x ≤ H) : DFin x := by
  cases hv : val64 x with
  | nan => exact absurd hv hn
  | fin s c q => exact ⟨s, c, q, hv⟩
  | inf s =>
    exfalso
    obtain ⟨y, hy, rfl⟩ := hL
    obtain ⟨z, hz, rfl⟩ := hH
    have a1 := hy.zval_lt
    have a2 := hz.zval_lt
    have e : Zv x = signed s (b64.tails * 2 ^ (b64.exps - 2)) := by unfold Zv; rw [hv]; rfl
    have b1 : signed (sgn (val64 y)) (zmag b64 (val64 y)) ≤ signed s (b64.tails * 2 ^ (b64.exps - 2)) := e ▸ h1
    have b2 : signed s (b64.tails * 2 ^ (b64.exps - 2)) ≤ signed (sgn (val64 z)) (zmag b64 (val64 z)) := e ▸ h2
    generalize b64.tails * 2 ^ (b64.exps - 2) = top at *
    generalize zmag b64 (val64 y) = my at *
    generalize zmag b64 (val64 z) = mz at *
    generalize sgn (val64 y) = sy at *
    generalize sgn (val64 z) = sz at *
    cases s <;> cases sy <;> cases sz <;> simp only [signed, if_true, Bool.false_eq_true, if_false] at b1 b2 <;> omega
theorem not_nan {x : UInt64} (h : Core.dIsNaN x = false) : val64 x ≠ .nan := (notNaN_iff x).mp h
theorem nn_of {x : UInt64} (h : DFin x) : NoNaN64 x := (fin64_core.mpr h).noNaN
/-! sums -/
theorem add_le {a b : UInt64} (ha : DFin a) (hb : DFin b) {V : Int} (hV : Rep V) (h : Zv a + Zv b ≤ V) : Zv (FP.dadd a b) ≤ V := by
  obtain ⟨x, hx, rfl⟩ := hV
  unfold Zv at h ⊢
  rw [val64_dadd]
  exact sum_le good_b64 ha hb (val64_fits a) (val64_fits b) (val64_fits x) hx.ne_nan h
theorem add_ge {a b : UInt64} (ha : DFin a) (hb : DFin b) {V : Int} (hV : Rep V) (h : V ≤ Zv a + Zv b) : V ≤ Zv (FP.dadd a b) := by
  obtain ⟨x, hx, rfl⟩ := hV
  unfold Zv at h ⊢
  rw [val64_dadd]
  exact sum_ge good_b64 ha hb (val64_fits a) (val64_fits b) (val64_fits x) hx.ne_nan h
theorem add_in {a b : UInt64} (ha : DFin a) (hb : DFin b) {L H : Int} (hL : Rep L) (hH : Rep H) (h1 : L ≤ Zv a + Zv b) (h2 : Zv a + Zv b ≤ H) : DFin (FP.dadd a b) ∧ L ≤ Zv (FP.dadd a b) ∧ Zv (FP.dadd a b) ≤ H :=
  ⟨fin_between (not_nan (Core.dadd_out ha.notNaN hb)) hL hH (add_ge ha hb hL h1) (add_le ha hb hH h2), add_ge ha hb hL h1, add_le ha hb hH h2⟩
theorem add_eq {a b : UInt64} (ha : DFin a) (hb : DFin b) {V : Int} (hV : Rep V) (h : Zv a + Zv b = V) : DFin (FP.dadd a b) ∧ Zv (FP.dadd a b) = V := by
  obtain ⟨h1, h2, h3⟩ := add_in ha hb hV hV (Int.le_of_eq h.symm) (Int.le_of_eq h)
  exact ⟨h1, Int.le_antisymm h3 h2⟩
/-! signs -/
theorem neg_eq {a : UInt64} (ha : DFin a) : DFin (FP.dneg a) ∧ Zv (FP.dneg a) = -Zv a := by
  obtain ⟨s, c, q, hv⟩ := ha
  constructor
  · exact ⟨!s, c, q, by rw [FP.val64_dneg, hv]; rfl⟩
  · unfold Zv; rw [FP.val64_dneg, zval_negate]
theorem cneg_eq {a : UInt64} (ha : DFin a) : DFin (Core.dneg a) ∧ Zv (Core.dneg a) = -Zv a := by
  obtain ⟨s, c, q, hv⟩ := ha
  constructor
  · exact ⟨!s, c, q, by rw [Core.val64_dneg, hv]; rfl⟩
  · unfold Zv; rw [Core.val64_dneg, zval_negate]
/-! differences -/
theorem sub_in {a b : UInt64} (ha : DFin a) (hb : DFin b) {L H : Int} (hL : Rep L) (hH : Rep H) (h1 : L ≤ Zv a - Zv b) (h2 : Zv a - Zv b ≤ H) : DFin (FP.dsub a b) ∧ L ≤ Zv (FP.dsub a b) ∧ Zv (FP.dsub a b) ≤ H := by
  obtain ⟨n1, n2⟩ := cneg_eq hb
  have e : FP.dsub a b = FP.dadd a (Core.dneg b) := Core.dsub_eq a b
  rw [e]
  exact add_in ha n1 hL hH (by rw [n2]; omega) (by rw [n2]; omega)
theorem sub_eq {a b : UInt64} (ha : DFin a) (hb : DFin b) {V : Int} (hV : Rep V) (h : Zv a - Zv b = V) : DFin (FP.dsub a b) ∧ Zv (FP.dsub a b) = V := by
  obtain ⟨h1, h2, h3⟩ := sub_in ha hb hV hV (Int.le_of_eq h.symm) (Int.le_of_eq h)
  exact ⟨h1, Int.le_antisymm h3 h2⟩
/-! products -/
theorem own_q2 : (b64.qmin - 2 * b64.qmin).toNat = 1074 := by rw [qmin_b64]; decide
theorem mul_le {a b : UInt64} (ha : DFin a) (hb : DFin b) {V : Int} (hV : Rep V) (h : Zv a * Zv b ≤ V * P2 1074) : Zv (FP.dmul a b) ≤ V := by
  obtain ⟨x, hx, rfl⟩ := hV
  obtain ⟨s, c, q, hva⟩ := ha
  obtain ⟨t, d, r, hvb⟩ := hb
  have fa := val64_fits a
  have fb := val64_fits b
  unfold Zv at h ⊢
  rw [hva] at fa h
  rw [hvb] at fb h
  obtain ⟨p1, p2, p3⟩ := product_units fa fb
  rw [val64_dmul, hva, hvb, p1]
  refine zval_round_le good_b64 (val64_fits x) hx.ne_nan (e0 := 2 * b64.qmin) (by rw [qmin_b64]; decide) p2 ?_
  rw [p3, signed_xor, own_q2]
  exact h
theorem mul_ge {a b : UInt64} (ha : DFin a) (hb : DFin b) {V : Int} (hV : Rep V) (h : V * P2 1074 ≤ Zv a * Zv b) : V ≤ Zv (FP.dmul a b) := by
  obtain ⟨x, hx, rfl⟩ := hV
  obtain ⟨s, c, q, hva⟩ := ha
  obtain ⟨t, d, r, hvb⟩ := hb
  have fa := val64_fits a
  have fb := val64_fits b
  unfold Zv at h ⊢
  rw [hva] at fa h
  rw [hvb] at fb h
  obtain ⟨p1, p2, p3⟩ := product_units fa fb
  rw [val64_dmul, hva, hvb, p1]
  refine zval_round_ge good_b64 (val64_fits x) hx.ne_nan (e0 := 2 * b64.qmin) (by rw [qmin_b64]; decide) p2 ?_
  rw [p3, signed_xor, own_q2]
  exact h
theorem mul_in {a b : UInt64} (ha : DFin a) (hb : DFin b) {L H : Int} (hL : Rep L) (hH : Rep H) (h1 : L * P2 1074 ≤ Zv a * Zv b) (h2 : Zv a * Zv b ≤ H * P2 1074) : DFin (FP.dmul a b) ∧ L ≤ Zv (FP.dmul a b) ∧ Zv (FP.dmul a b) ≤ H :=
  ⟨fin_between (not_nan (Core.dmul_out ha hb)) hL hH (mul_ge ha hb hL h1) (mul_le ha hb hH h2), mul_ge ha hb hL h1, mul_le ha hb hH h2⟩
theorem mul_eq {a b : UInt64} (ha : DFin a) (hb : DFin b) {V : Int} (hV : Rep V) (h : Zv a * Zv b = V * P2 1074) : DFin (FP.dmul a b) ∧ Zv (FP.dmul a b) = V := by
  obtain ⟨h1, h2, h3⟩ := mul_in ha hb hV hV (Int.le_of_eq h.symm) (Int.le_of_eq h)
  exact ⟨h1, Int.le_antisymm h3 h2⟩
/-! quotients by a positive number -/
theorem own_sgn_le {s t : Bool} {A V B r : Nat} (hB : 0 < B) (hle : A ≤ V * B → r ≤ V) (hge : V * B ≤ A → V ≤ r) (h : signed s A ≤ signed t V * (B : Int)) : signed s r ≤ signed t V := by
  rw [← signed_mul] at h
  have hz : V * B = 0 → V = 0 := fun q => by rcases Nat.mul_eq_zero.mp q with q | q <;> omega
  generalize V * B = vb at *
  cases s <;> cases t <;> simp only [signed, if_true, Bool.false_eq_true, if_false] at h ⊢
  · have := hle (by omega); omega
  · have := hle (by omega); have := hz (by omega); omega
  · omega
  · have := hge (by omega); omega
theorem own_sgn_ge {s t : Bool} {A V B r : Nat} (hB : 0 < B) (hle : A ≤ V * B → r ≤ V) (hge : V * B ≤ A → V ≤ r) (h : signed t V * (B : Int) ≤ signed s A) : signed t V ≤ signed s r := by
  rw [← signed_mul] at h
  have hz : V * B = 0 → V = 0 := fun q => by rcases Nat.mul_eq_zero.mp q with q | q <;> omega
  generalize V * B = vb at *
  cases s <;> cases t <;> simp only [signed, if_true, Bool.false_eq_true, if_false] at h ⊢
  · have := hge (by omega); omega
  · omega
  · have := hle (by omega); have := hz (by omega); omega
  · have := hle (by omega); omega
theorem div_core {a b : UInt64} (ha : DFin a) (hb : DFin b) (hp : 0 < Zv b) (x : UInt64) (hx : DFin x) :
    ∃ (s : Bool) (A B : Nat), (B : Int) = Zv b ∧ signed s A = Zv a * P2 1074 ∧ 0 < B ∧ ∃ r, Zv (FP.ddiv a b) = signed s r ∧ (A ≤ zmag b64 (val64 x) * B → r ≤ zmag b64 (val64 x)) ∧ (zmag b64 (val64 x) * B ≤ A → zmag b64 (val64 x) ≤ r) := by
  obtain ⟨s, c, q, hva⟩ := ha
  obtain ⟨t, d, r, hvb⟩ := hb
  have fa := val64_fits a
  have fb := val64_fits b
  rw [hva] at fa
  rw [hvb] at fb
  have f1 := fa.2.1
  have f2 := fb.2.1
  have zb : Zv b = signed t (inUnits d r b64.qmin) := by unfold Zv; rw [hvb]; rfl
  have hd : 0 < d := by
    rcases Nat.eq_zero_or_pos d with q0 | q0
    · rw [zb, q0] at hp
      have : inUnits 0 r b64.qmin = 0 := Nat.zero_mul _
      rw [this, signed_zero] at hp; omega
    · exact q0
  have ht : t = false := by
    cases t with
    | false => rfl
    | true => rw [zb] at hp; simp only [signed, if_true] at hp; omega
  subst ht
  have hB : 0 < inUnits d r b64.qmin := Nat.mul_pos hd (Nat.two_pow_pos _)
  have e1 : inUnits c (q - r) (2 * b64.qmin - r) = inUnits c q b64.qmin * 2 ^ 1074 := by
    unfold inUnits
    rw [Nat.mul_assoc, ← Nat.pow_add]
    rw [qmin_b64] at *
    congr 2; omega
  have e2 : 2 ^ (b64.qmin - (2 * b64.qmin - r)).toNat * d = inUnits d r b64.qmin := by
    unfold inUnits
    rw [Nat.mul_comm]; congr 2; omega
  have hv : val64 (FP.ddiv a b) = roundRatio b64 s c d (q - r) := by
    rw [val64_ddiv, hva, hvb]
    show (if d = 0 then _ else roundRatio b64 (s != false) c d (q - r)) = _
    rw [if_neg (by omega)]
    cases s <;> rfl
  refine ⟨s, inUnits c q b64.qmin * 2 ^ 1074, inUnits d r b64.qmin, ?_, ?_, hB, zmag b64 (roundRatio b64 s c d (q - r)), ?_, ?_, ?_⟩
  · rw [zb]; simp only [signed, Bool.false_eq_true, if_false]
  · unfold Zv; rw [signed_mul, hva]; rfl
  · unfold Zv; rw [hv]; show signed (sgn _) _ = _; rw [sgn_roundRatio]
  · intro h
    refine zmag_roundRatio_le good_b64 hd (val64_fits x) hx.ne_nan (e0 := 2 * b64.qmin - r) (by have := qmin_b64; omega) (by have := qmin_b64; omega) ?_
    rw [e1, Nat.mul_assoc, e2]; exact h
  · intro h
    refine zmag_roundRatio_ge good_b64 hd (val64_fits x) (e0 := 2 * b64.qmin - r) (by have := qmin_b64; omega) (by have := qmin_b64; omega) ?_
    rw [e1, Nat.mul_assoc, e2]; exact h
theorem div_le {a b : UInt64} (ha : DFin a) (hb : DFin b) (hp : 0 < Zv b) {V : Int} (hV : Rep V) (h : Zv a * P2 1074 ≤ V * Zv b) : Zv (FP.ddiv a b) ≤ V := by
  obtain ⟨x, hx, rfl⟩ := hV
  obtain ⟨s, A, B, h1, h2, h3, r, h4, h5, h6⟩ := div_core ha hb hp x hx
  rw [h4]
  rw [← h2, ← h1] at h
  exact own_sgn_le h3 h5 h6 h
theorem div_ge {a b : UInt64} (ha : DFin a) (hb : DFin b) (hp : 0 < Zv b) {V : Int} (hV : Rep V) (h : V * Zv b ≤ Zv a * P2 1074) : V ≤ Zv (FP.ddiv a b) := by
  obtain ⟨x, hx, rfl⟩ := hV
  obtain ⟨s, A, B, h1, h2, h3, r, h4, h5, h6⟩ := div_core ha hb hp x hx
  rw [h4]
  rw [← h2, ← h1] at h
  exact own_sgn_ge h3 h5 h6 h
theorem pos_nz {b : UInt64} (hp : 0 < Zv b) : ¬ DZero b := fun q => by
  have := q.zval
  unfold Zv at hp
  omega
theorem div_in {a b : UInt64} (ha : DFin a) (hb : DFin b) (hp : 0 < Zv b) {L H : Int} (hL : Rep L) (hH : Rep H) (h1 : L * Zv b ≤ Zv a * P2 1074) (h2 : Zv a * P2 1074 ≤ H * Zv b) : DFin (FP.ddiv a b) ∧ L ≤ Zv (FP.ddiv a b) ∧ Zv (FP.ddiv a b) ≤ H :=
  ⟨fin_between (not_nan (Core.ddiv_out ha.notNaN hb (pos_nz hp))) hL hH (div_ge ha hb hp hL h1) (div_le ha hb hp hH h2), div_ge ha hb hp hL h1, div_le ha hb hp hH h2⟩
theorem div_eq {a b : UInt64} (ha : DFin a) (hb : DFin b) (hp : 0 < Zv b) {V : Int} (hV : Rep V) (h : Zv a * P2 1074 = V * Zv b) : DFin (FP.ddiv a b) ∧ Zv (FP.ddiv a b) = V := by
  obtain ⟨h1, h2, h3⟩ := div_in ha hb hp hV hV (Int.le_of_eq h.symm) (Int.le_of_eq h)
  exact ⟨h1, Int.le_antisymm h3 h2⟩
/-! whole numbers -/
theorem l2d_in {n : Int64} {L H : Int} (hL : Rep L) (hH : Rep H) (h1 : L ≤ n.toInt * P2 1074) (h2 : n.toInt * P2 1074 ≤ H) : L ≤ Zv (FP.l2d n) ∧ Zv (FP.l2d n) ≤ H := by
  obtain ⟨x, hx, rfl⟩ := hL
  obtain ⟨y, hy, rfl⟩ := hH
  exact ⟨l2d_zval_ge hx.ne_nan h1, l2d_zval_le hy.ne_nan h2⟩
theorem l2d_dfin (n : Int64) : DFin (FP.l2d n) := Core.l2d_fin n
theorem i2d_dfin (n : Int32) : DFin (FP.i2d n) := Core.i2d_fin n
theorem l2d_rep {n : Int64} (h : Rep (n.toInt * P2 1074)) : Zv (FP.l2d n) = n.toInt * P2 1074 := by
  obtain ⟨h1, h2⟩ := l2d_in h h (Int.le_refl _) (Int.le_refl _)
  exact Int.le_antisymm h2 h1
theorem l2d_eq {n : Int64} (h : n.toInt.natAbs ≤ 2 ^ 53) : Zv (FP.l2d n) = n.toInt * P2 1074 := l2d_rep (rep_int _ h)
theorem i2d_eq (n : Int32) : Zv (FP.i2d n) = n.toInt * P2 1074 := by
  rw [i2d_w, l2d_eq (by rw [Int32.toInt_toInt64]; have := int32_abs n; omega), Int32.toInt_toInt64]
theorem d2l_eq {a : UInt64} (ha : DFin a) {n : Int} (h : Zv a = n * P2 1074) (h1 : -9223372036854775808 ≤ n) (h2 : n < 9223372036854775808) : (FP.d2l a).toInt = n := by
  have e := d2l_val ha.ne_nan
  have z : signed (sgn (val64 a)) (zmag b64 (val64 a)) = n * (one64 : Int) := h
  have hp := one64_pos
  have hm : zmag b64 (val64 a) = n.natAbs * one64 := by
    have q := congrArg Int.natAbs z
    rw [natAbs_signed, Int.natAbs_mul] at q
    exact q
  have hs : signed (sgn (val64 a)) n.natAbs = n := by
    rw [hm, signed_mul] at z
    exact Int.eq_of_mul_eq_mul_right (by omega) z
  rw [hm, Nat.mul_div_cancel _ hp, hs] at e
  show (Core.d2l a).toInt = n
  rw [e]; omega
/-! comparisons -/
theorem cmp_lt {a b : UInt64} (ha : DFin a) (hb : DFin b) (o : CmpOp) (h : Zv a < Zv b) : cmpValue (FP.dcmp a b) o = -1 := by
  rw [show FP.dcmp a b = some .lt from dcmp_lt.mpr ⟨ha.ne_nan, hb.ne_nan, h⟩]; rfl
theorem cmp_eq {a b : UInt64} (ha : DFin a) (hb : DFin b) (o : CmpOp) (h : Zv a = Zv b) : cmpValue (FP.dcmp a b) o = 0 := by
  rw [show FP.dcmp a b = some .eq from dcmp_eq.mpr ⟨ha.ne_nan, hb.ne_nan, h⟩]; rfl
theorem cmp_gt {a b : UInt64} (ha : DFin a) (hb : DFin b) (o : CmpOp) (h : Zv b < Zv a) : cmpValue (FP.dcmp a b) o = 1 := by
  rw [show FP.dcmp a b = some .gt from dcmp_gt.mpr ⟨ha.ne_nan, hb.ne_nan, h⟩]; rfl
/-! constants -/
theorem zero_fin : DFin 0 := (fin_bits _).mpr (by decide)
theorem zero_z : Zv 0 = 0 := zval64_zero
theorem one_fin : DFin 4607182418800017408 := (fin_bits _).mpr (by decide)
theorem one_z : Zv 4607182418800017408 = 1 * P2 1074 := by unfold Zv P2; decide +kernel
end OwnFp

/-! own layer 2: walking forward -/
section OwnGo
open Jvm.Free.Fl
variable {p : Program} {l : Launch} {e : Env} {R : Room} {s : State} {m : MethodId} {args : Array Value} {below : List Frame} {meth : Method} {c : Code} {T : State} {locs : List Loc} {cells slots : Nat} {Q : Outcome → State → Prop}
/-- from here the run comes to an end that Q allows -/
def Go (p : Program) (e : Env) (below : List Frame) (Q : Outcome → State → Prop) (S : State) : Prop :=
  ∃ s₂ o, Steps p.tables e below S s₂ ∧ s₂.status = .running ∧ Ended s₂ below o ∧ Q o s₂
theorem Go.of {S S' : State} (h : ∀ t, Steps p.tables e below S' t → Steps p.tables e below S t) (g : Go p e below Q S') : Go p e below Q S := by
  obtain ⟨s₂, o, h1, h2⟩ := g
  exact ⟨s₂, o, h _ h1, h2⟩
theorem Go.tr {S S' : State} (h : Steps p.tables e below S S') (g : Go p e below Q S') : Go p e below Q S := Go.of (fun _ k => h.trans k) g
abbrev Ret (s : State) (Qv : Option Value → Heap → List Loc → Prop) (kc ks : Nat) : Outcome → State → Prop := fun o U' => ∃ v L, o = .returned v ∧ Qv v U'.heap L ∧ FrameEnd s o U' L kc ks
theorem Go.done (X : Stand p l e R s m args below meth c T locs cells slots) {g : JFrame} {v : Option Value} (hv : meth.sig.returnType = none → v = none) (hlocks : meth.locks = false)
    (hst : ∀ fs, (∀ (f : JFrame) (acts : List Action), f.method = m → f.locked = none → f.entered = [] → (doReturn e (T.setTop f) acts v).1 = T.setFrames fs) → Steps p.tables e below (T.setTop g) (T.setFrames fs))
    {Qv : Option Value → Heap → List Loc → Prop} {kc ks : Nat} (hc : cells ≤ kc) (hk : slots ≤ ks) (hq : Qv v T.heap locs) : Go p e below (Ret s Qv kc ks) (T.setTop g) := by
  obtain ⟨fs, hr, hrun, hended, hW, hsame⟩ := X.leave (v := v) hv hlocks
  exact ⟨_, _, hst fs hr, hrun, hended, v, locs, rfl, hq, ⟨_, rfl⟩, hW, hsame.mono hc hk⟩
theorem Go.retV (X : Stand p l e R s m args below meth c T locs cells slots) (hx : p.tables.exec = Jvm.exec) {pc : Nat} {Ls : Array Slot} (hret : meth.sig.returnType = none) (hlk : meth.locks = false) (hd : decode c.code pc = .ok (.return_, 1))
    {Qv : Option Value → Heap → List Loc → Prop} {kc ks : Nat} (hc : cells ≤ kc) (hk : slots ≤ ks) (hq : Qv none T.heap locs) : Go p e below (Ret s Qv kc ks) (T.setTop (mkF m pc Ls [])) :=
  Go.done X (fun _ => rfl) hlk (fun _ hr => X.returnOut hx hret hd hr) hc hk hq
theorem Go.retL (X : Stand p l e R s m args below meth c T locs cells slots) (hx : p.tables.exec = Jvm.exec) {pc : Nat} {Ls : Array Slot} {st : List Value} {z : Int64} (hret : meth.sig.returnType = some .long) (hlk : meth.locks = false) (hd : decode c.code pc = .ok (.lreturn, 1))
    {Qv : Option Value → Heap → List Loc → Prop} {kc ks : Nat} (hc : cells ≤ kc) (hk : slots ≤ ks) (hq : Qv (some (.long z)) T.heap locs) : Go p e below (Ret s Qv kc ks) (T.setTop (mkF m pc Ls ((.long z) :: st))) :=
  Go.done X (fun h => by rw [hret] at h; cases h) hlk (fun _ hr => retOut X hx hret rfl (Or.inr (Or.inl ⟨rfl, rfl, z, rfl⟩)) hd hr) hc hk hq
theorem Go.retD (X : Stand p l e R s m args below meth c T locs cells slots) (hx : p.tables.exec = Jvm.exec) {pc : Nat} {Ls : Array Slot} {st : List Value} {z : UInt64} (hret : meth.sig.returnType = some .double) (hlk : meth.locks = false) (hd : decode c.code pc = .ok (.dreturn, 1))
    {Qv : Option Value → Heap → List Loc → Prop} {kc ks : Nat} (hc : cells ≤ kc) (hk : slots ≤ ks) (hq : Qv (some (.double z)) T.heap locs) : Go p e below (Ret s Qv kc ks) (T.setTop (mkF m pc Ls ((.double z) :: st))) :=
  Go.done X (fun h => by rw [hret] at h; cases h) hlk (fun _ hr => retOut X hx hret rfl (Or.inr (Or.inr (Or.inl ⟨rfl, rfl, z, rfl⟩))) hd hr) hc hk hq
theorem Go.retF (X : Stand p l e R s m args below meth c T locs cells slots) (hx : p.tables.exec = Jvm.exec) {pc : Nat} {Ls : Array Slot} {st : List Value} {z : UInt32} (hret : meth.sig.returnType = some .float) (hlk : meth.locks = false) (hd : decode c.code pc = .ok (.freturn, 1))
    {Qv : Option Value → Heap → List Loc → Prop} {kc ks : Nat} (hc : cells ≤ kc) (hk : slots ≤ ks) (hq : Qv (some (.float z)) T.heap locs) : Go p e below (Ret s Qv kc ks) (T.setTop (mkF m pc Ls ((.float z) :: st))) :=
  Go.done X (fun h => by rw [hret] at h; cases h) hlk (fun _ hr => retOut X hx hret rfl (Or.inr (Or.inr (Or.inr (Or.inl ⟨rfl, rfl, z, rfl⟩)))) hd hr) hc hk hq
theorem Go.retI (X : Stand p l e R s m args below meth c T locs cells slots) (hx : p.tables.exec = Jvm.exec) {pc : Nat} {Ls : Array Slot} {st : List Value} {z : Int32} (hret : meth.sig.returnType = some .int) (hlk : meth.locks = false) (hd : decode c.code pc = .ok (.ireturn, 1))
    {Qv : Option Value → Heap → List Loc → Prop} {kc ks : Nat} (hc : cells ≤ kc) (hk : slots ≤ ks) (hq : Qv (some (.int z)) T.heap locs) : Go p e below (Ret s Qv kc ks) (T.setTop (mkF m pc Ls ((.int z) :: st))) :=
  Go.done X (fun h => by rw [hret] at h; cases h) hlk (fun _ hr => retOut X hx hret rfl (Or.inl ⟨rfl, Or.inl rfl, z, rfl⟩) hd hr) hc hk hq
theorem Go.retZ (X : Stand p l e R s m args below meth c T locs cells slots) (hx : p.tables.exec = Jvm.exec) {pc : Nat} {Ls : Array Slot} {st : List Value} {z : Int32} (hret : meth.sig.returnType = some .boolean) (hlk : meth.locks = false) (hd : decode c.code pc = .ok (.ireturn, 1)) (hz : z = 0 ∨ z = 1)
    {Qv : Option Value → Heap → List Loc → Prop} {kc ks : Nat} (hc : cells ≤ kc) (hk : slots ≤ ks) (hq : Qv (some (.int z)) T.heap locs) : Go p e below (Ret s Qv kc ks) (T.setTop (mkF m pc Ls ((.int z) :: st))) :=
  Go.done X (fun h => by rw [hret] at h; cases h) hlk (fun _ hr => retOut X hx hret (by rcases hz with rfl | rfl <;> rfl) (Or.inl ⟨rfl, Or.inr (Or.inl rfl), z, rfl⟩) hd hr) hc hk hq
theorem Go.retA (X : Stand p l e R s m args below meth c T locs cells slots) (hx : p.tables.exec = Jvm.exec) {pc : Nat} {Ls : Array Slot} {st : List Value} {v : Value} {t : FieldType} (hret : meth.sig.returnType = some t) (hlk : meth.locks = false) (hd : decode c.code pc = .ok (.areturn, 1)) (ht : t.isReference = true) (hv : v.isRef = true) (hn : narrow t v = v)
    {Qv : Option Value → Heap → List Loc → Prop} {kc ks : Nat} (hc : cells ≤ kc) (hk : slots ≤ ks) (hq : Qv (some v) T.heap locs) : Go p e below (Ret s Qv kc ks) (T.setTop (mkF m pc Ls (v :: st))) :=
  Go.done X (fun h => by rw [hret] at h; cases h) hlk (fun _ hr => retOut X hx hret hn (Or.inr (Or.inr (Or.inr (Or.inr ⟨rfl, ht, hv⟩)))) hd hr) hc hk hq
theorem enter {l : Launch} {Z : State} {y : MethodName} {bytes : ByteArray} {maxL : Nat} {ret : Option FieldType} {ws : List Jvm.Cond} {rm : Room} {as' : Array Value} {h0 : Heap} {Qv : Option Value → Heap → List Loc → Prop} {Ls : Array Slot} {kc ks : Nat}
    (hpn : plainFor y = true) (hef : ∀ m, entryFrame m as' maxL = mkF m 0 Ls [])
    (body : ∀ (p : Program) (e : Env) (s : State) (m : MethodId) (below : List Frame) (meth : Method) (c : Code) (s₁ : State), p.tables.exec = Jvm.exec → c.code = bytes → c.maxLocals = maxL → s.vm.findClass y.cls = some m.cls → meth.name = y.name → meth.sig.returnType = ret → meth.locks = false → Z.Warmed39 s.vm →
      Stand p l e rm s m as' below meth c s₁ [] 0 0 → s₁.heap = h0 → Go p e below (Ret s Qv kc ks) (s₁.setTop (mkF m 0 Ls []))) :
    MetFree l y (head1 (Jvm.Cond.code y bytes maxL ret :: ws) rm) (fun a U => a = as' ∧ Z.Warmed39 U.vm ∧ U.heap = h0) (fun _ _ _ _ _ => True) (fun _ U o U' => ∃ v L, o = .returned v ∧ Qv v U'.heap L ∧ FrameEnd U o U' L kc ks) := by
  refine MetFree.of_bodySF hpn hisR ?_
  intro p e s m args below meth c s₁ Bd hml0 hP hK
  obtain ⟨rfl, hZ, hh⟩ := hP
  have e0 : s₁.heap = h0 := by rw [← hh, Bd.state]; rfl
  obtain ⟨s₂, o, h1, h2, h3, h4⟩ := body p e s m below meth c s₁ Bd.exec Bd.bytes hml0 (findClass_of_methodNamed Bd.named) (name_of_methodNamed Bd.named Bd.method).1 Bd.returns (BodyLoose.notSynchronized Bd) hZ (Stand.of_body Bd) e0
  exact ⟨s₂, o, castTop (hef m) h1, h2, h3, h4⟩
theorem Go.iload (h : At T m c below) (hx : p.tables.exec = Jvm.exec) {pc q : Nat} {Ls : Array Slot} {st : List Value} {k : Nat} {v : Int32} (hd : decode c.code pc = .ok (.iload k, 2)) (hl : Ls[k]? = some (.val (.int v))) (hq : pc + 2 = q) (g : Go p e below Q (T.setTop (mkF m q Ls (.int v :: st)))) : Go p e below Q (T.setTop (mkF m pc Ls st)) := by
  subst hq; exact Go.of (fun _ r => XS.iload h hx rfl hd hl r) g
theorem Go.iloadN (h : At T m c below) (hx : p.tables.exec = Jvm.exec) {pc q : Nat} {Ls : Array Slot} {st : List Value} {k : Fin 4} {v : Int32} (hd : decode c.code pc = .ok (.iload_n k, 1)) (hl : Ls[k.val]? = some (.val (.int v))) (hq : pc + 1 = q) (g : Go p e below Q (T.setTop (mkF m q Ls (.int v :: st)))) : Go p e below Q (T.setTop (mkF m pc Ls st)) := by
  subst hq; exact Go.of (fun _ r => XS.iloadN h hx rfl hd hl r) g
theorem Go.istore (h : At T m c below) (hx : p.tables.exec = Jvm.exec) {pc q : Nat} {Ls : Array Slot} {st : List Value} {k : Nat} {v : Int32} {l2 : Array Slot} (hd : decode c.code pc = .ok (.istore k, 2)) (hl : storeLocals Ls k (.int v) = some l2) (hq : pc + 2 = q) (g : Go p e below Q (T.setTop (mkF m q l2 st))) : Go p e below Q (T.setTop (mkF m pc Ls (.int v :: st))) := by
  subst hq; exact Go.of (fun _ r => XS.istore h hx rfl hd rfl hl r) g
theorem Go.istoreN (h : At T m c below) (hx : p.tables.exec = Jvm.exec) {pc q : Nat} {Ls : Array Slot} {st : List Value} {k : Fin 4} {v : Int32} {l2 : Array Slot} (hd : decode c.code pc = .ok (.istore_n k, 1)) (hl : storeLocals Ls k.val (.int v) = some l2) (hq : pc + 1 = q) (g : Go p e below Q (T.setTop (mkF m q l2 st))) : Go p e below Q (T.setTop (mkF m pc Ls (.int v :: st))) := by
  subst hq; exact Go.of (fun _ r => XS.istoreN h hx rfl hd rfl hl r) g
theorem Go.lload (h : At T m c below) (hx : p.tables.exec = Jvm.exec) {pc q : Nat} {Ls : Array Slot} {st : List Value} {k : Nat} {v : Int64} (hd : decode c.code pc = .ok (.lload k, 2)) (hl : Ls[k]? = some (.val (.long v))) (hq : pc + 2 = q) (g : Go p e below Q (T.setTop (mkF m q Ls (.long v :: st)))) : Go p e below Q (T.setTop (mkF m pc Ls st)) := by
  subst hq; exact Go.of (fun _ r => XS.lload h hx rfl hd hl r) g
theorem Go.lloadN (h : At T m c below) (hx : p.tables.exec = Jvm.exec) {pc q : Nat} {Ls : Array Slot} {st : List Value} {k : Fin 4} {v : Int64} (hd : decode c.code pc = .ok (.lload_n k, 1)) (hl : Ls[k.val]? = some (.val (.long v))) (hq : pc + 1 = q) (g : Go p e below Q (T.setTop (mkF m q Ls (.long v :: st)))) : Go p e below Q (T.setTop (mkF m pc Ls st)) := by
  subst hq; exact Go.of (fun _ r => XS.lloadN h hx rfl hd hl r) g
theorem Go.lstore (h : At T m c below) (hx : p.tables.exec = Jvm.exec) {pc q : Nat} {Ls : Array Slot} {st : List Value} {k : Nat} {v : Int64} {l2 : Array Slot} (hd : decode c.code pc = .ok (.lstore k, 2)) (hl : storeLocals Ls k (.long v) = some l2) (hq : pc + 2 = q) (g : Go p e below Q (T.setTop (mkF m q l2 st))) : Go p e below Q (T.setTop (mkF m pc Ls (.long v :: st))) := by
  subst hq; exact Go.of (fun _ r => XS.lstore h hx rfl hd rfl hl r) g
theorem Go.lstoreN (h : At T m c below) (hx : p.tables.exec = Jvm.exec) {pc q : Nat} {Ls : Array Slot} {st : List Value} {k : Fin 4} {v : Int64} {l2 : Array Slot} (hd : decode c.code pc = .ok (.lstore_n k, 1)) (hl : storeLocals Ls k.val (.long v) = some l2) (hq : pc + 1 = q) (g : Go p e below Q (T.setTop (mkF m q l2 st))) : Go p e below Q (T.setTop (mkF m pc Ls (.long v :: st))) := by
  subst hq; exact Go.of (fun _ r => XS.lstoreN h hx rfl hd rfl hl r) g
theorem Go.dload (h : At T m c below) (hx : p.tables.exec = Jvm.exec) {pc q : Nat} {Ls : Array Slot} {st : List Value} {k : Nat} {v : UInt64} (hd : decode c.code pc = .ok (.dload k, 2)) (hl : Ls[k]? = some (.val (.double v))) (hq : pc + 2 = q) (g : Go p e below Q (T.setTop (mkF m q Ls (.double v :: st)))) : Go p e below Q (T.setTop (mkF m pc Ls st)) := by
  subst hq; exact Go.of (fun _ r => XS.dload h hx rfl hd hl r) g
theorem Go.dloadN (h : At T m c below) (hx : p.tables.exec = Jvm.exec) {pc q : Nat} {Ls : Array Slot} {st : List Value} {k : Fin 4} {v : UInt64} (hd : decode c.code pc = .ok (.dload_n k, 1)) (hl : Ls[k.val]? = some (.val (.double v))) (hq : pc + 1 = q) (g : Go p e below Q (T.setTop (mkF m q Ls (.double v :: st)))) : Go p e below Q (T.setTop (mkF m pc Ls st)) := by
  subst hq; exact Go.of (fun _ r => XS.dloadN h hx rfl hd hl r) g
theorem Go.dstore (h : At T m c below) (hx : p.tables.exec = Jvm.exec) {pc q : Nat} {Ls : Array Slot} {st : List Value} {k : Nat} {v : UInt64} {l2 : Array Slot} (hd : decode c.code pc = .ok (.dstore k, 2)) (hl : storeLocals Ls k (.double v) = some l2) (hq : pc + 2 = q) (g : Go p e below Q (T.setTop (mkF m q l2 st))) : Go p e below Q (T.setTop (mkF m pc Ls (.double v :: st))) := by
  subst hq; exact Go.of (fun _ r => XS.dstore h hx rfl hd rfl hl r) g
theorem Go.dstoreN (h : At T m c below) (hx : p.tables.exec = Jvm.exec) {pc q : Nat} {Ls : Array Slot} {st : List Value} {k : Fin 4} {v : UInt64} {l2 : Array Slot} (hd : decode c.code pc = .ok (.dstore_n k, 1)) (hl : storeLocals Ls k.val (.double v) = some l2) (hq : pc + 1 = q) (g : Go p e below Q (T.setTop (mkF m q l2 st))) : Go p e below Q (T.setTop (mkF m pc Ls (.double v :: st))) := by
  subst hq; exact Go.of (fun _ r => XS.dstoreN h hx rfl hd rfl hl r) g
theorem Go.fload (h : At T m c below) (hx : p.tables.exec = Jvm.exec) {pc q : Nat} {Ls : Array Slot} {st : List Value} {k : Nat} {v : UInt32} (hd : decode c.code pc = .ok (.fload k, 2)) (hl : Ls[k]? = some (.val (.float v))) (hq : pc + 2 = q) (g : Go p e below Q (T.setTop (mkF m q Ls (.float v :: st)))) : Go p e below Q (T.setTop (mkF m pc Ls st)) := by
  subst hq; exact Go.of (fun _ r => XS.fload h hx rfl hd hl r) g
theorem Go.floadN (h : At T m c below) (hx : p.tables.exec = Jvm.exec) {pc q : Nat} {Ls : Array Slot} {st : List Value} {k : Fin 4} {v : UInt32} (hd : decode c.code pc = .ok (.fload_n k, 1)) (hl : Ls[k.val]? = some (.val (.float v))) (hq : pc + 1 = q) (g : Go p e below Q (T.setTop (mkF m q Ls (.float v :: st)))) : Go p e below Q (T.setTop (mkF m pc Ls st)) := by
  subst hq; exact Go.of (fun _ r => XS.floadN h hx rfl hd hl r) g
theorem Go.fstore (h : At T m c below) (hx : p.tables.exec = Jvm.exec) {pc q : Nat} {Ls : Array Slot} {st : List Value} {k : Nat} {v : UInt32} {l2 : Array Slot} (hd : decode c.code pc = .ok (.fstore k, 2)) (hl : storeLocals Ls k (.float v) = some l2) (hq : pc + 2 = q) (g : Go p e below Q (T.setTop (mkF m q l2 st))) : Go p e below Q (T.setTop (mkF m pc Ls (.float v :: st))) := by
  subst hq; exact Go.of (fun _ r => XS.fstore h hx rfl hd rfl hl r) g
theorem Go.fstoreN (h : At T m c below) (hx : p.tables.exec = Jvm.exec) {pc q : Nat} {Ls : Array Slot} {st : List Value} {k : Fin 4} {v : UInt32} {l2 : Array Slot} (hd : decode c.code pc = .ok (.fstore_n k, 1)) (hl : storeLocals Ls k.val (.float v) = some l2) (hq : pc + 1 = q) (g : Go p e below Q (T.setTop (mkF m q l2 st))) : Go p e below Q (T.setTop (mkF m pc Ls (.float v :: st))) := by
  subst hq; exact Go.of (fun _ r => XS.fstoreN h hx rfl hd rfl hl r) g
theorem Go.aload (h : At T m c below) (hx : p.tables.exec = Jvm.exec) {pc q : Nat} {Ls : Array Slot} {st : List Value} {k : Nat} {v : Value} (hd : decode c.code pc = .ok (.aload k, 2)) (hl : Ls[k]? = some (.val v)) (hv : v.isRef = true) (hq : pc + 2 = q) (g : Go p e below Q (T.setTop (mkF m q Ls (v :: st)))) : Go p e below Q (T.setTop (mkF m pc Ls st)) := by
  subst hq; exact Go.of (fun _ r => XS.aload h hx rfl hd hl hv r) g
theorem Go.aloadN (h : At T m c below) (hx : p.tables.exec = Jvm.exec) {pc q : Nat} {Ls : Array Slot} {st : List Value} {k : Fin 4} {v : Value} (hd : decode c.code pc = .ok (.aload_n k, 1)) (hl : Ls[k.val]? = some (.val v)) (hv : v.isRef = true) (hq : pc + 1 = q) (g : Go p e below Q (T.setTop (mkF m q Ls (v :: st)))) : Go p e below Q (T.setTop (mkF m pc Ls st)) := by
  subst hq; exact Go.of (fun _ r => XS.aloadN h hx rfl hd hl hv r) g
theorem Go.astore (h : At T m c below) (hx : p.tables.exec = Jvm.exec) {pc q : Nat} {Ls : Array Slot} {st : List Value} {k : Nat} {v : Value} {l2 : Array Slot} (hd : decode c.code pc = .ok (.astore k, 2)) (hv : v.isRef = true) (hl : storeLocals Ls k v = some l2) (hq : pc + 2 = q) (g : Go p e below Q (T.setTop (mkF m q l2 st))) : Go p e below Q (T.setTop (mkF m pc Ls (v :: st))) := by
  subst hq; exact Go.of (fun _ r => XS.astore h hx rfl hd rfl hv hl r) g
theorem Go.astoreN (h : At T m c below) (hx : p.tables.exec = Jvm.exec) {pc q : Nat} {Ls : Array Slot} {st : List Value} {k : Fin 4} {v : Value} {l2 : Array Slot} (hd : decode c.code pc = .ok (.astore_n k, 1)) (hv : v.isRef = true) (hl : storeLocals Ls k.val v = some l2) (hq : pc + 1 = q) (g : Go p e below Q (T.setTop (mkF m q l2 st))) : Go p e below Q (T.setTop (mkF m pc Ls (v :: st))) := by
  subst hq; exact Go.of (fun _ r => XS.astoreN h hx rfl hd rfl hv hl r) g
theorem Go.iconst (h : At T m c below) (hx : p.tables.exec = Jvm.exec) {pc q : Nat} {Ls : Array Slot} {st : List Value} {i : Int} {v : Int32} (hd : decode c.code pc = .ok (.iconst i, 1)) (hv : Int32.ofInt i = v) (hq : pc + 1 = q) (g : Go p e below Q (T.setTop (mkF m q Ls (.int v :: st)))) : Go p e below Q (T.setTop (mkF m pc Ls st)) := by
  subst hq hv; exact Go.of (fun _ r => XS.iconst h hx rfl hd r) g
theorem Go.bipush (h : At T m c below) (hx : p.tables.exec = Jvm.exec) {pc q : Nat} {Ls : Array Slot} {st : List Value} {i : Int} {v : Int32} (hd : decode c.code pc = .ok (.bipush i, 2)) (hv : (Int8.ofInt i).toInt32 = v) (hq : pc + 2 = q) (g : Go p e below Q (T.setTop (mkF m q Ls (.int v :: st)))) : Go p e below Q (T.setTop (mkF m pc Ls st)) := by
  subst hq hv; exact Go.of (fun _ r => XS.bipush h hx rfl hd r) g
theorem Go.sipush (h : At T m c below) (hx : p.tables.exec = Jvm.exec) {pc q : Nat} {Ls : Array Slot} {st : List Value} {i : Int} {v : Int32} (hd : decode c.code pc = .ok (.sipush i, 3)) (hv : (Int16.ofInt i).toInt32 = v) (hq : pc + 3 = q) (g : Go p e below Q (T.setTop (mkF m q Ls (.int v :: st)))) : Go p e below Q (T.setTop (mkF m pc Ls st)) := by
  subst hq hv; exact Go.of (fun _ r => XS.sipush h hx rfl hd r) g
theorem Go.lconst (h : At T m c below) (hx : p.tables.exec = Jvm.exec) {pc q : Nat} {Ls : Array Slot} {st : List Value} {k : Fin 2} {v : Int64} (hd : decode c.code pc = .ok (.lconst k, 1)) (hv : Int64.ofNat k = v) (hq : pc + 1 = q) (g : Go p e below Q (T.setTop (mkF m q Ls (.long v :: st)))) : Go p e below Q (T.setTop (mkF m pc Ls st)) := by
  subst hq hv; exact Go.of (fun _ r => XS.lconst h hx rfl hd r) g
theorem Go.aconst (h : At T m c below) (hx : p.tables.exec = Jvm.exec) {pc q : Nat} {Ls : Array Slot} {st : List Value}  (hd : decode c.code pc = .ok (.aconst_null, 1)) (hq : pc + 1 = q) (g : Go p e below Q (T.setTop (mkF m q Ls (.null :: st)))) : Go p e below Q (T.setTop (mkF m pc Ls st)) := by
  subst hq; exact Go.of (fun _ r => XS.aconstNull h hx rfl hd r) g
theorem Go.dconst0 (h : At T m c below) (hx : p.tables.exec = Jvm.exec) {pc q : Nat} {Ls : Array Slot} {st : List Value} {v : UInt64} (hd : decode c.code pc = .ok (.dconst 0, 1)) (hv : FP.dconst0 = v) (hq : pc + 1 = q) (g : Go p e below Q (T.setTop (mkF m q Ls (.double v :: st)))) : Go p e below Q (T.setTop (mkF m pc Ls st)) := by
  subst hq; exact Go.of (fun _ r => XS.dconst0 h hx rfl hd hv r) g
theorem Go.dconst1 (h : At T m c below) (hx : p.tables.exec = Jvm.exec) {pc q : Nat} {Ls : Array Slot} {st : List Value} {v : UInt64} (hd : decode c.code pc = .ok (.dconst 1, 1)) (hv : FP.dconst1 = v) (hq : pc + 1 = q) (g : Go p e below Q (T.setTop (mkF m q Ls (.double v :: st)))) : Go p e below Q (T.setTop (mkF m pc Ls st)) := by
  subst hq; exact Go.of (fun _ r => XS.dconst1 h hx rfl hd hv r) g
theorem Go.fconst0 (h : At T m c below) (hx : p.tables.exec = Jvm.exec) {pc q : Nat} {Ls : Array Slot} {st : List Value} {v : UInt32} (hd : decode c.code pc = .ok (.fconst 0, 1)) (hv : FP.fconst0 = v) (hq : pc + 1 = q) (g : Go p e below Q (T.setTop (mkF m q Ls (.float v :: st)))) : Go p e below Q (T.setTop (mkF m pc Ls st)) := by
  subst hq; exact Go.of (fun _ r => XS.fconst0 h hx rfl hd hv r) g
theorem Go.fconst1 (h : At T m c below) (hx : p.tables.exec = Jvm.exec) {pc q : Nat} {Ls : Array Slot} {st : List Value} {v : UInt32} (hd : decode c.code pc = .ok (.fconst 1, 1)) (hv : FP.fconst1 = v) (hq : pc + 1 = q) (g : Go p e below Q (T.setTop (mkF m q Ls (.float v :: st)))) : Go p e below Q (T.setTop (mkF m pc Ls st)) := by
  subst hq; exact Go.of (fun _ r => XS.fconst1 h hx rfl hd hv r) g
theorem Go.iadd (h : At T m c below) (hx : p.tables.exec = Jvm.exec) {pc q : Nat} {Ls : Array Slot} {st : List Value} {x : Int32} {y : Int32} {v : Int32} (hd : decode c.code pc = .ok (.iadd, 1)) (hv : x + y = v) (hq : pc + 1 = q) (g : Go p e below Q (T.setTop (mkF m q Ls (.int v :: st)))) : Go p e below Q (T.setTop (mkF m pc Ls (.int y :: .int x :: st))) := by
  subst hq hv; exact Go.of (fun _ r => XS.iadd h hx rfl hd rfl r) g
theorem Go.isub (h : At T m c below) (hx : p.tables.exec = Jvm.exec) {pc q : Nat} {Ls : Array Slot} {st : List Value} {x : Int32} {y : Int32} {v : Int32} (hd : decode c.code pc = .ok (.isub, 1)) (hv : x - y = v) (hq : pc + 1 = q) (g : Go p e below Q (T.setTop (mkF m q Ls (.int v :: st)))) : Go p e below Q (T.setTop (mkF m pc Ls (.int y :: .int x :: st))) := by
  subst hq hv; exact Go.of (fun _ r => XS.isub h hx rfl hd rfl r) g
theorem Go.iand (h : At T m c below) (hx : p.tables.exec = Jvm.exec) {pc q : Nat} {Ls : Array Slot} {st : List Value} {x : Int32} {y : Int32} {v : Int32} (hd : decode c.code pc = .ok (.iand, 1)) (hv : x &&& y = v) (hq : pc + 1 = q) (g : Go p e below Q (T.setTop (mkF m q Ls (.int v :: st)))) : Go p e below Q (T.setTop (mkF m pc Ls (.int y :: .int x :: st))) := by
  subst hq hv; exact Go.of (fun _ r => XS.iand h hx rfl hd rfl r) g
theorem Go.imul (h : At T m c below) (hx : p.tables.exec = Jvm.exec) {pc q : Nat} {Ls : Array Slot} {st : List Value} {x : Int32} {y : Int32} {v : Int32} (hd : decode c.code pc = .ok (.imul, 1)) (hv : x * y = v) (hq : pc + 1 = q) (g : Go p e below Q (T.setTop (mkF m q Ls (.int v :: st)))) : Go p e below Q (T.setTop (mkF m pc Ls (.int y :: .int x :: st))) := by
  subst hq hv; exact Go.of (fun _ r => XS.imul h hx rfl hd rfl r) g
theorem Go.ixor (h : At T m c below) (hx : p.tables.exec = Jvm.exec) {pc q : Nat} {Ls : Array Slot} {st : List Value} {x : Int32} {y : Int32} {v : Int32} (hd : decode c.code pc = .ok (.ixor, 1)) (hv : x ^^^ y = v) (hq : pc + 1 = q) (g : Go p e below Q (T.setTop (mkF m q Ls (.int v :: st)))) : Go p e below Q (T.setTop (mkF m pc Ls (.int y :: .int x :: st))) := by
  subst hq hv; exact Go.of (fun _ r => XS.ixor h hx rfl hd rfl r) g
theorem Go.ior (h : At T m c below) (hx : p.tables.exec = Jvm.exec) {pc q : Nat} {Ls : Array Slot} {st : List Value} {x : Int32} {y : Int32} {v : Int32} (hd : decode c.code pc = .ok (.ior, 1)) (hv : x ||| y = v) (hq : pc + 1 = q) (g : Go p e below Q (T.setTop (mkF m q Ls (.int v :: st)))) : Go p e below Q (T.setTop (mkF m pc Ls (.int y :: .int x :: st))) := by
  subst hq hv; exact Go.of (fun _ r => XS.ior h hx rfl hd rfl r) g
theorem Go.ishl (h : At T m c below) (hx : p.tables.exec = Jvm.exec) {pc q : Nat} {Ls : Array Slot} {st : List Value} {x : Int32} {y : Int32} {v : Int32} (hd : decode c.code pc = .ok (.ishl, 1)) (hv : x <<< (y &&& 31) = v) (hq : pc + 1 = q) (g : Go p e below Q (T.setTop (mkF m q Ls (.int v :: st)))) : Go p e below Q (T.setTop (mkF m pc Ls (.int y :: .int x :: st))) := by
  subst hq hv; exact Go.of (fun _ r => XS.ishl h hx rfl hd rfl r) g
theorem Go.ishr (h : At T m c below) (hx : p.tables.exec = Jvm.exec) {pc q : Nat} {Ls : Array Slot} {st : List Value} {x : Int32} {y : Int32} {v : Int32} (hd : decode c.code pc = .ok (.ishr, 1)) (hv : x >>> (y &&& 31) = v) (hq : pc + 1 = q) (g : Go p e below Q (T.setTop (mkF m q Ls (.int v :: st)))) : Go p e below Q (T.setTop (mkF m pc Ls (.int y :: .int x :: st))) := by
  subst hq hv; exact Go.of (fun _ r => XS.ishr h hx rfl hd rfl r) g
theorem Go.iushr (h : At T m c below) (hx : p.tables.exec = Jvm.exec) {pc q : Nat} {Ls : Array Slot} {st : List Value} {x : Int32} {y : Int32} {v : Int32} (hd : decode c.code pc = .ok (.iushr, 1)) (hv : (x.toUInt32 >>> (y &&& 31).toUInt32).toInt32 = v) (hq : pc + 1 = q) (g : Go p e below Q (T.setTop (mkF m q Ls (.int v :: st)))) : Go p e below Q (T.setTop (mkF m pc Ls (.int y :: .int x :: st))) := by
  subst hq hv; exact Go.of (fun _ r => XS.iushr h hx rfl hd rfl r) g
theorem Go.idiv (h : At T m c below) (hx : p.tables.exec = Jvm.exec) {pc q : Nat} {Ls : Array Slot} {st : List Value} {x : Int32} {y : Int32} {v : Int32} (hd : decode c.code pc = .ok (.idiv, 1)) (hy : y ≠ 0) (hv : x / y = v) (hq : pc + 1 = q) (g : Go p e below Q (T.setTop (mkF m q Ls (.int v :: st)))) : Go p e below Q (T.setTop (mkF m pc Ls (.int y :: .int x :: st))) := by
  subst hq hv; exact Go.of (fun _ r => XS.idiv h hx rfl hd rfl hy r) g
theorem Go.irem (h : At T m c below) (hx : p.tables.exec = Jvm.exec) {pc q : Nat} {Ls : Array Slot} {st : List Value} {x : Int32} {y : Int32} {v : Int32} (hd : decode c.code pc = .ok (.irem, 1)) (hy : y ≠ 0) (hv : x - (x / y) * y = v) (hq : pc + 1 = q) (g : Go p e below Q (T.setTop (mkF m q Ls (.int v :: st)))) : Go p e below Q (T.setTop (mkF m pc Ls (.int y :: .int x :: st))) := by
  subst hq hv; exact Go.of (fun _ r => XS.irem h hx rfl hd rfl hy r) g
theorem Go.ladd (h : At T m c below) (hx : p.tables.exec = Jvm.exec) {pc q : Nat} {Ls : Array Slot} {st : List Value} {x : Int64} {y : Int64} {v : Int64} (hd : decode c.code pc = .ok (.ladd, 1)) (hv : x + y = v) (hq : pc + 1 = q) (g : Go p e below Q (T.setTop (mkF m q Ls (.long v :: st)))) : Go p e below Q (T.setTop (mkF m pc Ls (.long y :: .long x :: st))) := by
  subst hq hv; exact Go.of (fun _ r => XS.ladd h hx rfl hd rfl r) g
theorem Go.lsub (h : At T m c below) (hx : p.tables.exec = Jvm.exec) {pc q : Nat} {Ls : Array Slot} {st : List Value} {x : Int64} {y : Int64} {v : Int64} (hd : decode c.code pc = .ok (.lsub, 1)) (hv : x - y = v) (hq : pc + 1 = q) (g : Go p e below Q (T.setTop (mkF m q Ls (.long v :: st)))) : Go p e below Q (T.setTop (mkF m pc Ls (.long y :: .long x :: st))) := by
  subst hq hv; exact Go.of (fun _ r => XS.lsub h hx rfl hd rfl r) g
theorem Go.lmul (h : At T m c below) (hx : p.tables.exec = Jvm.exec) {pc q : Nat} {Ls : Array Slot} {st : List Value} {x : Int64} {y : Int64} {v : Int64} (hd : decode c.code pc = .ok (.lmul, 1)) (hv : x * y = v) (hq : pc + 1 = q) (g : Go p e below Q (T.setTop (mkF m q Ls (.long v :: st)))) : Go p e below Q (T.setTop (mkF m pc Ls (.long y :: .long x :: st))) := by
  subst hq hv; exact Go.of (fun _ r => XS.lmul h hx rfl hd rfl r) g
theorem Go.land (h : At T m c below) (hx : p.tables.exec = Jvm.exec) {pc q : Nat} {Ls : Array Slot} {st : List Value} {x : Int64} {y : Int64} {v : Int64} (hd : decode c.code pc = .ok (.land, 1)) (hv : x &&& y = v) (hq : pc + 1 = q) (g : Go p e below Q (T.setTop (mkF m q Ls (.long v :: st)))) : Go p e below Q (T.setTop (mkF m pc Ls (.long y :: .long x :: st))) := by
  subst hq hv; exact Go.of (fun _ r => XS.land h hx rfl hd rfl r) g
theorem Go.lor (h : At T m c below) (hx : p.tables.exec = Jvm.exec) {pc q : Nat} {Ls : Array Slot} {st : List Value} {x : Int64} {y : Int64} {v : Int64} (hd : decode c.code pc = .ok (.lor, 1)) (hv : x ||| y = v) (hq : pc + 1 = q) (g : Go p e below Q (T.setTop (mkF m q Ls (.long v :: st)))) : Go p e below Q (T.setTop (mkF m pc Ls (.long y :: .long x :: st))) := by
  subst hq hv; exact Go.of (fun _ r => XS.lor h hx rfl hd rfl r) g
theorem Go.lxor (h : At T m c below) (hx : p.tables.exec = Jvm.exec) {pc q : Nat} {Ls : Array Slot} {st : List Value} {x : Int64} {y : Int64} {v : Int64} (hd : decode c.code pc = .ok (.lxor, 1)) (hv : x ^^^ y = v) (hq : pc + 1 = q) (g : Go p e below Q (T.setTop (mkF m q Ls (.long v :: st)))) : Go p e below Q (T.setTop (mkF m pc Ls (.long y :: .long x :: st))) := by
  subst hq hv; exact Go.of (fun _ r => XS.lxor h hx rfl hd rfl r) g
theorem Go.lshl (h : At T m c below) (hx : p.tables.exec = Jvm.exec) {pc q : Nat} {Ls : Array Slot} {st : List Value} {x : Int64} {y : Int32} {v : Int64} (hd : decode c.code pc = .ok (.lshl, 1)) (hv : x <<< (y &&& 0x3f).toInt64 = v) (hq : pc + 1 = q) (g : Go p e below Q (T.setTop (mkF m q Ls (.long v :: st)))) : Go p e below Q (T.setTop (mkF m pc Ls (.int y :: .long x :: st))) := by
  subst hq hv; exact Go.of (fun _ r => XS.lshl h hx rfl hd rfl r) g
theorem Go.lshr (h : At T m c below) (hx : p.tables.exec = Jvm.exec) {pc q : Nat} {Ls : Array Slot} {st : List Value} {x : Int64} {y : Int32} {v : Int64} (hd : decode c.code pc = .ok (.lshr, 1)) (hv : x >>> (y &&& 0x3f).toInt64 = v) (hq : pc + 1 = q) (g : Go p e below Q (T.setTop (mkF m q Ls (.long v :: st)))) : Go p e below Q (T.setTop (mkF m pc Ls (.int y :: .long x :: st))) := by
  subst hq hv; exact Go.of (fun _ r => XS.lshr h hx rfl hd rfl r) g
theorem Go.lushr (h : At T m c below) (hx : p.tables.exec = Jvm.exec) {pc q : Nat} {Ls : Array Slot} {st : List Value} {x : Int64} {y : Int32} {v : Int64} (hd : decode c.code pc = .ok (.lushr, 1)) (hv : (x.toUInt64 >>> (y &&& 0x3f).toInt64.toUInt64).toInt64 = v) (hq : pc + 1 = q) (g : Go p e below Q (T.setTop (mkF m q Ls (.long v :: st)))) : Go p e below Q (T.setTop (mkF m pc Ls (.int y :: .long x :: st))) := by
  subst hq hv; exact Go.of (fun _ r => XS.lushr h hx rfl hd rfl r) g
theorem Go.ldiv (h : At T m c below) (hx : p.tables.exec = Jvm.exec) {pc q : Nat} {Ls : Array Slot} {st : List Value} {x : Int64} {y : Int64} {v : Int64} (hd : decode c.code pc = .ok (.ldiv, 1)) (hy : y ≠ 0) (hv : x / y = v) (hq : pc + 1 = q) (g : Go p e below Q (T.setTop (mkF m q Ls (.long v :: st)))) : Go p e below Q (T.setTop (mkF m pc Ls (.long y :: .long x :: st))) := by
  subst hq hv; exact Go.of (fun _ r => XS.ldiv h hx rfl hd rfl hy r) g
theorem Go.lrem (h : At T m c below) (hx : p.tables.exec = Jvm.exec) {pc q : Nat} {Ls : Array Slot} {st : List Value} {x : Int64} {y : Int64} {v : Int64} (hd : decode c.code pc = .ok (.lrem, 1)) (hy : y ≠ 0) (hv : x - (x / y) * y = v) (hq : pc + 1 = q) (g : Go p e below Q (T.setTop (mkF m q Ls (.long v :: st)))) : Go p e below Q (T.setTop (mkF m pc Ls (.long y :: .long x :: st))) := by
  subst hq hv; exact Go.of (fun _ r => XS.lrem h hx rfl hd rfl hy r) g
theorem Go.lcmp (h : At T m c below) (hx : p.tables.exec = Jvm.exec) {pc q : Nat} {Ls : Array Slot} {st : List Value} {x : Int64} {y : Int64} {v : Int32} (hd : decode c.code pc = .ok (.lcmp, 1)) (hv : lcmpW x y = v) (hq : pc + 1 = q) (g : Go p e below Q (T.setTop (mkF m q Ls (.int v :: st)))) : Go p e below Q (T.setTop (mkF m pc Ls (.long y :: .long x :: st))) := by
  subst hq hv; exact Go.of (fun _ r => XS.lcmp h hx rfl hd rfl r) g
theorem Go.ineg (h : At T m c below) (hx : p.tables.exec = Jvm.exec) {pc q : Nat} {Ls : Array Slot} {st : List Value} {x : Int32} {v : Int32} (hd : decode c.code pc = .ok (.ineg, 1)) (hv : -x = v) (hq : pc + 1 = q) (g : Go p e below Q (T.setTop (mkF m q Ls (.int v :: st)))) : Go p e below Q (T.setTop (mkF m pc Ls (.int x :: st))) := by
  subst hq hv; exact Go.of (fun _ r => XS.ineg h hx rfl hd rfl r) g
theorem Go.lneg (h : At T m c below) (hx : p.tables.exec = Jvm.exec) {pc q : Nat} {Ls : Array Slot} {st : List Value} {x : Int64} {v : Int64} (hd : decode c.code pc = .ok (.lneg, 1)) (hv : -x = v) (hq : pc + 1 = q) (g : Go p e below Q (T.setTop (mkF m q Ls (.long v :: st)))) : Go p e below Q (T.setTop (mkF m pc Ls (.long x :: st))) := by
  subst hq hv; exact Go.of (fun _ r => XS.lneg h hx rfl hd rfl r) g
theorem Go.i2l (h : At T m c below) (hx : p.tables.exec = Jvm.exec) {pc q : Nat} {Ls : Array Slot} {st : List Value} {x : Int32} {v : Int64} (hd : decode c.code pc = .ok (.i2l, 1)) (hv : x.toInt64 = v) (hq : pc + 1 = q) (g : Go p e below Q (T.setTop (mkF m q Ls (.long v :: st)))) : Go p e below Q (T.setTop (mkF m pc Ls (.int x :: st))) := by
  subst hq hv; exact Go.of (fun _ r => XS.i2l h hx rfl hd rfl r) g
theorem Go.l2i (h : At T m c below) (hx : p.tables.exec = Jvm.exec) {pc q : Nat} {Ls : Array Slot} {st : List Value} {x : Int64} {v : Int32} (hd : decode c.code pc = .ok (.l2i, 1)) (hv : x.toInt32 = v) (hq : pc + 1 = q) (g : Go p e below Q (T.setTop (mkF m q Ls (.int v :: st)))) : Go p e below Q (T.setTop (mkF m pc Ls (.long x :: st))) := by
  subst hq hv; exact Go.of (fun _ r => XS.l2i h hx rfl hd rfl r) g
theorem Go.i2d (h : At T m c below) (hx : p.tables.exec = Jvm.exec) {pc q : Nat} {Ls : Array Slot} {st : List Value} {x : Int32} {v : UInt64} (hd : decode c.code pc = .ok (.i2d, 1)) (hv : FP.i2d x = v) (hq : pc + 1 = q) (g : Go p e below Q (T.setTop (mkF m q Ls (.double v :: st)))) : Go p e below Q (T.setTop (mkF m pc Ls (.int x :: st))) := by
  subst hq; exact Go.of (fun _ r => XS.i2dS h hx rfl hd rfl hv r) g
theorem Go.l2d (h : At T m c below) (hx : p.tables.exec = Jvm.exec) {pc q : Nat} {Ls : Array Slot} {st : List Value} {x : Int64} {v : UInt64} (hd : decode c.code pc = .ok (.l2d, 1)) (hv : FP.l2d x = v) (hq : pc + 1 = q) (g : Go p e below Q (T.setTop (mkF m q Ls (.double v :: st)))) : Go p e below Q (T.setTop (mkF m pc Ls (.long x :: st))) := by
  subst hq; exact Go.of (fun _ r => XS.l2dS h hx rfl hd rfl hv r) g
theorem Go.d2i (h : At T m c below) (hx : p.tables.exec = Jvm.exec) {pc q : Nat} {Ls : Array Slot} {st : List Value} {x : UInt64} {v : Int32} (hd : decode c.code pc = .ok (.d2i, 1)) (hv : FP.d2i x = v) (hq : pc + 1 = q) (g : Go p e below Q (T.setTop (mkF m q Ls (.int v :: st)))) : Go p e below Q (T.setTop (mkF m pc Ls (.double x :: st))) := by
  subst hq; exact Go.of (fun _ r => XS.d2iS h hx rfl hd rfl hv r) g
theorem Go.d2l (h : At T m c below) (hx : p.tables.exec = Jvm.exec) {pc q : Nat} {Ls : Array Slot} {st : List Value} {x : UInt64} {v : Int64} (hd : decode c.code pc = .ok (.d2l, 1)) (hv : FP.d2l x = v) (hq : pc + 1 = q) (g : Go p e below Q (T.setTop (mkF m q Ls (.long v :: st)))) : Go p e below Q (T.setTop (mkF m pc Ls (.double x :: st))) := by
  subst hq; exact Go.of (fun _ r => XS.d2lS h hx rfl hd rfl hv r) g
theorem Go.dneg (h : At T m c below) (hx : p.tables.exec = Jvm.exec) {pc q : Nat} {Ls : Array Slot} {st : List Value} {x : UInt64} {v : UInt64} (hd : decode c.code pc = .ok (.dneg, 1)) (hv : FP.dneg x = v) (hq : pc + 1 = q) (g : Go p e below Q (T.setTop (mkF m q Ls (.double v :: st)))) : Go p e below Q (T.setTop (mkF m pc Ls (.double x :: st))) := by
  subst hq; exact Go.of (fun _ r => XS.dnegS h hx rfl hd rfl hv r) g
theorem Go.i2f (h : At T m c below) (hx : p.tables.exec = Jvm.exec) {pc q : Nat} {Ls : Array Slot} {st : List Value} {x : Int32} {v : UInt32} (hd : decode c.code pc = .ok (.i2f, 1)) (hv : FP.i2f x = v) (hq : pc + 1 = q) (g : Go p e below Q (T.setTop (mkF m q Ls (.float v :: st)))) : Go p e below Q (T.setTop (mkF m pc Ls (.int x :: st))) := by
  subst hq; exact Go.of (fun _ r => XS.i2fS h hx rfl hd rfl hv r) g
theorem Go.l2f (h : At T m c below) (hx : p.tables.exec = Jvm.exec) {pc q : Nat} {Ls : Array Slot} {st : List Value} {x : Int64} {v : UInt32} (hd : decode c.code pc = .ok (.l2f, 1)) (hv : FP.l2f x = v) (hq : pc + 1 = q) (g : Go p e below Q (T.setTop (mkF m q Ls (.float v :: st)))) : Go p e below Q (T.setTop (mkF m pc Ls (.long x :: st))) := by
  subst hq; exact Go.of (fun _ r => XS.l2fS h hx rfl hd rfl hv r) g
theorem Go.dadd (h : At T m c below) (hx : p.tables.exec = Jvm.exec) {pc q : Nat} {Ls : Array Slot} {st : List Value} {x y v : UInt64} (hd : decode c.code pc = .ok (.dadd, 1)) (hn : NoNaN64 (FP.dadd x y)) (hv : FP.dadd x y = v) (hq : pc + 1 = q) (g : Go p e below Q (T.setTop (mkF m q Ls (.double v :: st)))) : Go p e below Q (T.setTop (mkF m pc Ls (.double y :: .double x :: st))) := by
  subst hq; exact Go.of (fun _ r => XS.daddS h hx rfl hd rfl hn hv r) g
theorem Go.dsub (h : At T m c below) (hx : p.tables.exec = Jvm.exec) {pc q : Nat} {Ls : Array Slot} {st : List Value} {x y v : UInt64} (hd : decode c.code pc = .ok (.dsub, 1)) (hn : NoNaN64 (FP.dsub x y)) (hv : FP.dsub x y = v) (hq : pc + 1 = q) (g : Go p e below Q (T.setTop (mkF m q Ls (.double v :: st)))) : Go p e below Q (T.setTop (mkF m pc Ls (.double y :: .double x :: st))) := by
  subst hq; exact Go.of (fun _ r => XS.dsubS h hx rfl hd rfl hn hv r) g
theorem Go.dmul (h : At T m c below) (hx : p.tables.exec = Jvm.exec) {pc q : Nat} {Ls : Array Slot} {st : List Value} {x y v : UInt64} (hd : decode c.code pc = .ok (.dmul, 1)) (hn : NoNaN64 (FP.dmul x y)) (hv : FP.dmul x y = v) (hq : pc + 1 = q) (g : Go p e below Q (T.setTop (mkF m q Ls (.double v :: st)))) : Go p e below Q (T.setTop (mkF m pc Ls (.double y :: .double x :: st))) := by
  subst hq; exact Go.of (fun _ r => XS.dmulS h hx rfl hd rfl hn hv r) g
theorem Go.ddiv (h : At T m c below) (hx : p.tables.exec = Jvm.exec) {pc q : Nat} {Ls : Array Slot} {st : List Value} {x y v : UInt64} (hd : decode c.code pc = .ok (.ddiv, 1)) (hn : NoNaN64 (FP.ddiv x y)) (hv : FP.ddiv x y = v) (hq : pc + 1 = q) (g : Go p e below Q (T.setTop (mkF m q Ls (.double v :: st)))) : Go p e below Q (T.setTop (mkF m pc Ls (.double y :: .double x :: st))) := by
  subst hq; exact Go.of (fun _ r => XS.ddivS h hx rfl hd rfl hn hv r) g
theorem Go.dcmp (h : At T m c below) (hx : p.tables.exec = Jvm.exec) {pc q : Nat} {Ls : Array Slot} {st : List Value} {o : CmpOp} {x y : UInt64} {v : Int32} (hd : decode c.code pc = .ok (.dcmp o, 1)) (hv : cmpValue (FP.dcmp x y) o = v) (hq : pc + 1 = q) (g : Go p e below Q (T.setTop (mkF m q Ls (.int v :: st)))) : Go p e below Q (T.setTop (mkF m pc Ls (.double y :: .double x :: st))) := by
  subst hq; exact Go.of (fun _ r => XS.dcmpS h hx rfl hd rfl hv r) g
theorem Go.fcmp (h : At T m c below) (hx : p.tables.exec = Jvm.exec) {pc q : Nat} {Ls : Array Slot} {st : List Value} {o : CmpOp} {x y : UInt32} {v : Int32} (hd : decode c.code pc = .ok (.fcmp o, 1)) (hv : cmpValue (FP.fcmp x y) o = v) (hq : pc + 1 = q) (g : Go p e below Q (T.setTop (mkF m q Ls (.int v :: st)))) : Go p e below Q (T.setTop (mkF m pc Ls (.float y :: .float x :: st))) := by
  subst hq; exact Go.of (fun _ r => XS.fcmpS h hx rfl hd rfl hv r) g
theorem Go.dup (h : At T m c below) (hx : p.tables.exec = Jvm.exec) {pc q : Nat} {Ls : Array Slot} {st : List Value} {v : Value} (hd : decode c.code pc = .ok (.dup, 1)) (hc : v.category = 1) (hq : pc + 1 = q) (g : Go p e below Q (T.setTop (mkF m q Ls (v :: v :: st)))) : Go p e below Q (T.setTop (mkF m pc Ls (v :: st))) := by
  subst hq; exact Go.of (fun _ r => XS.dup h hx rfl hd rfl hc r) g
theorem Go.dup2 (h : At T m c below) (hx : p.tables.exec = Jvm.exec) {pc q : Nat} {Ls : Array Slot} {st : List Value} {v w : Value} (hd : decode c.code pc = .ok (.dup2, 1)) (hc : v.category = 1) (hc2 : w.category = 1) (hq : pc + 1 = q) (g : Go p e below Q (T.setTop (mkF m q Ls (v :: w :: v :: w :: st)))) : Go p e below Q (T.setTop (mkF m pc Ls (v :: w :: st))) := by
  subst hq; exact Go.of (fun _ r => Jvm.Free.XT.dup2 h hx rfl hd rfl hc hc2 r) g
theorem Go.pop (h : At T m c below) (hx : p.tables.exec = Jvm.exec) {pc q : Nat} {Ls : Array Slot} {st : List Value} {v : Value} (hd : decode c.code pc = .ok (.pop, 1)) (hc : v.category = 1) (hq : pc + 1 = q) (g : Go p e below Q (T.setTop (mkF m q Ls st))) : Go p e below Q (T.setTop (mkF m pc Ls (v :: st))) := by
  subst hq; exact Go.of (fun _ r => XS.pop h hx rfl hd rfl hc r) g
theorem step_dup2x1 {tb : Tables} [Ours tb] {target : State} {g : JFrame} (h : At T m c below) (hx : tb.exec = Jvm.exec) (hg : g.method = m) {x : Int64} {b : Value} {rest : List Value} (hd : decode c.code g.pc = .ok (.dup2_x1, 1)) (hs : g.stack = .long x :: b :: rest) (hb : b.category = 1)
    (hr : Steps tb e below (T.setTop { g with pc := g.pc + 1, stack := .long x :: b :: .long x :: rest }) target) : Steps tb e below (T.setTop g) target := by
  subst hg
  jvm_step h [h.top, hx, hd, hs, hb, Value.category]
  exact ⟨hb, hr⟩
theorem Go.dup2x1 (h : At T m c below) (hx : p.tables.exec = Jvm.exec) {pc q : Nat} {Ls : Array Slot} {st : List Value} {x : Int64} {b : Value} (hd : decode c.code pc = .ok (.dup2_x1, 1)) (hb : b.category = 1) (hq : pc + 1 = q) (g : Go p e below Q (T.setTop (mkF m q Ls (.long x :: b :: .long x :: st)))) : Go p e below Q (T.setTop (mkF m pc Ls (.long x :: b :: st))) := by
  subst hq; exact Go.of (fun _ r => step_dup2x1 h hx rfl hd rfl hb r) g
theorem Go.iinc (h : At T m c below) (hx : p.tables.exec = Jvm.exec) {pc q : Nat} {Ls : Array Slot} {st : List Value} {k : Nat} {cst : Int} {x v : Int32} {l2 : Array Slot} (hd : decode c.code pc = .ok (.iinc k cst, 3)) (hl : Ls[k]? = some (.val (.int x))) (hv : x + Int32.ofInt cst = v) (hl2 : storeLocals Ls k (.int v) = some l2) (hq : pc + 3 = q) (g : Go p e below Q (T.setTop (mkF m q l2 st))) : Go p e below Q (T.setTop (mkF m pc Ls st)) := by
  subst hq hv; exact Go.of (fun _ r => XS.iinc h hx rfl hd hl hl2 r) g
theorem Go.goto (h : At T m c below) (hx : p.tables.exec = Jvm.exec) {pc q : Nat} {Ls : Array Slot} {st : List Value} {o : Int} (hd : decode c.code pc = .ok (.goto o, 3)) (ho : 0 ≤ (pc : Int) + o) (hq : ((pc : Int) + o).toNat = q) (g : Go p e below Q (T.setTop (mkF m q Ls st))) : Go p e below Q (T.setTop (mkF m pc Ls st)) := Go.of (fun _ r => XS.goto h hx rfl rfl hd ho hq r) g
theorem Go.ifY (h : At T m c below) (hx : p.tables.exec = Jvm.exec) {pc q : Nat} {Ls : Array Slot} {st : List Value} {cd : ClassFile.Cond} {x : Int32} {o : Int} (hd : decode c.code pc = .ok (.ifCond cd o, 3)) (hc : ifCond.holds cd x = true) (ho : 0 ≤ (pc : Int) + o) (hq : ((pc : Int) + o).toNat = q) (g : Go p e below Q (T.setTop (mkF m q Ls st))) : Go p e below Q (T.setTop (mkF m pc Ls (.int x :: st))) := Go.of (fun _ r => XS.ifYes h hx rfl rfl hd rfl hc ho hq r) g
theorem Go.ifN (h : At T m c below) (hx : p.tables.exec = Jvm.exec) {pc q : Nat} {Ls : Array Slot} {st : List Value} {cd : ClassFile.Cond} {x : Int32} {o : Int} (hd : decode c.code pc = .ok (.ifCond cd o, 3)) (hc : ifCond.holds cd x = false) (hq : pc + 3 = q) (g : Go p e below Q (T.setTop (mkF m q Ls st))) : Go p e below Q (T.setTop (mkF m pc Ls (.int x :: st))) := by
  subst hq; exact Go.of (fun _ r => XS.ifNo h hx rfl hd rfl hc r) g
theorem Go.icmpY (h : At T m c below) (hx : p.tables.exec = Jvm.exec) {pc q : Nat} {Ls : Array Slot} {st : List Value} {cd : ClassFile.Cond} {x y : Int32} {o : Int} (hd : decode c.code pc = .ok (.if_icmp cd o, 3)) (hc : if_icmp.holds cd x y = true) (ho : 0 ≤ (pc : Int) + o) (hq : ((pc : Int) + o).toNat = q) (g : Go p e below Q (T.setTop (mkF m q Ls st))) : Go p e below Q (T.setTop (mkF m pc Ls (.int y :: .int x :: st))) := Go.of (fun _ r => XS.icmpYes h hx rfl rfl hd rfl hc ho hq r) g
theorem Go.icmpN (h : At T m c below) (hx : p.tables.exec = Jvm.exec) {pc q : Nat} {Ls : Array Slot} {st : List Value} {cd : ClassFile.Cond} {x y : Int32} {o : Int} (hd : decode c.code pc = .ok (.if_icmp cd o, 3)) (hc : if_icmp.holds cd x y = false) (hq : pc + 3 = q) (g : Go p e below Q (T.setTop (mkF m q Ls st))) : Go p e below Q (T.setTop (mkF m pc Ls (.int y :: .int x :: st))) := by
  subst hq; exact Go.of (fun _ r => XS.icmpNo h hx rfl hd rfl hc r) g
theorem Go.acmpY (h : At T m c below) (hx : p.tables.exec = Jvm.exec) {pc q : Nat} {Ls : Array Slot} {st : List Value} {cd : ClassFile.ACond} {a b : Addr} {o : Int} (hd : decode c.code pc = .ok (.if_acmp cd o, 3)) (hc : if_acmp.holds cd (some a) (some b) = true) (ho : 0 ≤ (pc : Int) + o) (hq : ((pc : Int) + o).toNat = q) (g : Go p e below Q (T.setTop (mkF m q Ls st))) : Go p e below Q (T.setTop (mkF m pc Ls (.ref b :: .ref a :: st))) := Go.of (fun _ r => XS.acmpYes h hx rfl rfl hd rfl hc ho hq r) g
theorem Go.acmpN (h : At T m c below) (hx : p.tables.exec = Jvm.exec) {pc q : Nat} {Ls : Array Slot} {st : List Value} {cd : ClassFile.ACond} {a b : Addr} {o : Int} (hd : decode c.code pc = .ok (.if_acmp cd o, 3)) (hc : if_acmp.holds cd (some a) (some b) = false) (hq : pc + 3 = q) (g : Go p e below Q (T.setTop (mkF m q Ls st))) : Go p e below Q (T.setTop (mkF m pc Ls (.ref b :: .ref a :: st))) := by
  subst hq; exact Go.of (fun _ r => XS.acmpNo h hx rfl hd rfl hc r) g
theorem Go.nullY (h : At T m c below) (hx : p.tables.exec = Jvm.exec) {pc q : Nat} {Ls : Array Slot} {st : List Value} {o : Int} (hd : decode c.code pc = .ok (.ifnull o, 3)) (ho : 0 ≤ (pc : Int) + o) (hq : ((pc : Int) + o).toNat = q) (g : Go p e below Q (T.setTop (mkF m q Ls st))) : Go p e below Q (T.setTop (mkF m pc Ls (.null :: st))) := Go.of (fun _ r => XS.ifnullYes h hx rfl rfl hd rfl ho hq r) g
theorem Go.nullN (h : At T m c below) (hx : p.tables.exec = Jvm.exec) {pc q : Nat} {Ls : Array Slot} {st : List Value} {o : Int} {b : Addr} (hd : decode c.code pc = .ok (.ifnull o, 3)) (hq : pc + 3 = q) (g : Go p e below Q (T.setTop (mkF m q Ls st))) : Go p e below Q (T.setTop (mkF m pc Ls (.ref b :: st))) := by
  subst hq; exact Go.of (fun _ r => XS.ifnullNo h hx rfl hd rfl r) g
theorem Go.nonnullY (h : At T m c below) (hx : p.tables.exec = Jvm.exec) {pc q : Nat} {Ls : Array Slot} {st : List Value} {o : Int} {b : Addr} (hd : decode c.code pc = .ok (.ifnonnull o, 3)) (ho : 0 ≤ (pc : Int) + o) (hq : ((pc : Int) + o).toNat = q) (g : Go p e below Q (T.setTop (mkF m q Ls st))) : Go p e below Q (T.setTop (mkF m pc Ls (.ref b :: st))) := Go.of (fun _ r => XS.ifnonnullYes h hx rfl rfl hd rfl ho hq r) g
theorem Go.nonnullN (h : At T m c below) (hx : p.tables.exec = Jvm.exec) {pc q : Nat} {Ls : Array Slot} {st : List Value} {o : Int} (hd : decode c.code pc = .ok (.ifnonnull o, 3)) (hq : pc + 3 = q) (g : Go p e below Q (T.setTop (mkF m q Ls st))) : Go p e below Q (T.setTop (mkF m pc Ls (.null :: st))) := by
  subst hq; exact Go.of (fun _ r => XS.ifnonnullNo h hx rfl hd rfl r) g
theorem Go.ldcI (X : Stand p l e R s m args below meth c T locs cells slots) (hx : p.tables.exec = Jvm.exec) {own : String} {index : Nat} {v : Int32} (hown : s.vm.findClass own = some m.cls) (w : (Jvm.Cond.constant own index v).before args s = true) {pc q : Nat} {Ls : Array Slot} {st : List Value} (hd : decode c.code pc = .ok (.ldc index, 2)) (hq : pc + 2 = q) (g : Go p e below Q (T.setTop (mkF m q Ls (.int v :: st)))) : Go p e below Q (T.setTop (mkF m pc Ls st)) := by
  subst hq; exact Go.of (fun _ r => X.ldcInt hx hown w (g := mkF m pc Ls st) rfl hd _ r) g
theorem Go.ldc2J (X : Stand p l e R s m args below meth c T locs cells slots) (hx : p.tables.exec = Jvm.exec) {own : String} {index : Nat} {v : Int64} (hown : s.vm.findClass own = some m.cls) (w : (Jvm.Cond.constantLong own index v).before args s = true) {pc q : Nat} {Ls : Array Slot} {st : List Value} (hd : decode c.code pc = .ok (.ldc2_w index, 3)) (hq : pc + 3 = q) (g : Go p e below Q (T.setTop (mkF m q Ls (.long v :: st)))) : Go p e below Q (T.setTop (mkF m pc Ls st)) := by
  subst hq; exact Go.of (fun _ r => X.ldc2Long hx hown w (g := mkF m pc Ls st) rfl hd _ r) g
theorem Go.ldc2D (X : Stand p l e R s m args below meth c T locs cells slots) (hx : p.tables.exec = Jvm.exec) {own : String} {index : Nat} {v : UInt64} (hown : s.vm.findClass own = some m.cls) (w : (Jvm.Cond.constantDouble own index v).before args s = true) {pc q : Nat} {Ls : Array Slot} {st : List Value} (hd : decode c.code pc = .ok (.ldc2_w index, 3)) (hq : pc + 3 = q) (g : Go p e below Q (T.setTop (mkF m q Ls (.double v :: st)))) : Go p e below Q (T.setTop (mkF m pc Ls st)) := by
  subst hq; exact Go.of (fun _ r => X.ldc2DoubleC hx hown w (g := mkF m pc Ls st) rfl hd _ r) g
theorem Go.ldcF (X : Stand p l e R s m args below meth c T locs cells slots) (hx : p.tables.exec = Jvm.exec) {own : String} {index : Nat} {v : UInt32} (hown : s.vm.findClass own = some m.cls) (w : (Jvm.Cond.constantFloat own index v).before args s = true) {pc q : Nat} {Ls : Array Slot} {st : List Value} (hd : decode c.code pc = .ok (.ldc index, 2)) (hq : pc + 2 = q) (g : Go p e below Q (T.setTop (mkF m q Ls (.float v :: st)))) : Go p e below Q (T.setTop (mkF m pc Ls st)) := by
  subst hq; exact Go.of (fun _ r => X.ldcFloatC hx hown w (g := mkF m pc Ls st) rfl hd _ r) g
end OwnGo

/-! own layer 3: steps that touch the heap, and calls by contract, in the same forward form -/
section OwnHeap
variable {p : Program} {l : Launch} {e : Env} {R : Room} {s : State} {m : MethodId} {args : Array Value} {below : List Frame} {meth : Method} {c : Code} {T : State} {locs : List Loc} {cells slots : Nat} {Q : Outcome → State → Prop} {Z : State} {a0 : Array Value} {h : Heap}
/-- a callee's contract at one call -/
abbrev Con (l : Launch) (Z : State) (y : MethodName) (bytes : ByteArray) (maxL : Nat) (ret : Option FieldType) (rm : Room) (as' : Array Value) (h : Heap) (Qv : Option Value → Heap → List Loc → Prop) : Prop :=
  MetFree l y (head1 [Jvm.Cond.code y bytes maxL ret] rm) (fun a U => a = as' ∧ Z.Warmed39 U.vm ∧ U.heap = h) (fun _ _ _ _ _ => True) (fun _ U o U' => ∃ v L, o = .returned v ∧ Qv v U'.heap L ∧ FrameEnd U o U' L rm.cells rm.slots)
theorem Go.new (X : Stand p l e R s m args below meth c T locs cells slots) (hx : p.tables.exec = Jvm.exec) (hZ : Z.Warmed39 s.vm) {own C : String} {index n : Nat} (hown : s.vm.findClass own = some m.cls) (w : (Jvm.Cond.classLink own index C).before a0 Z = true) (wi : (Jvm.Cond.instantiable C n).before a0 Z = true) (wz : (Jvm.Cond.initialized C).before a0 Z = true) (eT : T.heap = h)
    {pc q : Nat} {Ls : Array Slot} {st : List Value} (hd : decode c.code pc = .ok (.new index, 3)) (hc : cells + 1 ≤ R.cells) (hl : slots + n ≤ R.slots) (hq : pc + 3 = q)
    (k : ∀ (T' : State) (h' : Heap) (a : Addr), a = h.size → Stand p l e R s m args below meth c T' locs (cells + 1) (slots + n) → T'.heap = h' → Ext h h' → Exa Z h' a C → (∀ {O nm d : String} {ty : FieldType}, Laid Z a0 C O nm d → parseFieldDescriptor d = some ty → Fld Z h' a O nm d (defaultValue ty)) →
      Go p e below Q (T'.setTop (mkF m q Ls (.ref a :: st)))) : Go p e below Q (T.setTop (mkF m pc Ls st)) := by
  subst hq
  obtain ⟨T', h', X', e', E', A', D', -, st'⟩ := newO X hx hZ hown w wi wz eT (g := mkF m pc Ls st) rfl hd hc hl
  exact Go.of st' (k T' h' _ rfl X' e' E' A' D')
theorem Go.getf (X : Stand p l e R s m args below meth c T locs cells slots) (hx : p.tables.exec = Jvm.exec) (hZ : Z.Warmed39 s.vm) {own O n d : String} {index : Nat} (hown : s.vm.findClass own = some m.cls) (w : (Jvm.Cond.fieldLink own index O n d).before a0 Z = true) (eT : T.heap = h) {a : Addr} {v : Value} (F : Fld Z h a O n d v)
    {pc q : Nat} {Ls : Array Slot} {st : List Value} (hd : decode c.code pc = .ok (.getfield index, 3)) (hq : pc + 3 = q)
    (k : ∀ T' : State, Stand p l e R s m args below meth c T' locs cells slots → T'.heap = h → Go p e below Q (T'.setTop (mkF m q Ls (v :: st)))) : Go p e below Q (T.setTop (mkF m pc Ls (.ref a :: st))) := by
  subst hq
  obtain ⟨T', X', e', st'⟩ := getF X hx hZ hown (host := "") (Or.inl w) Via.refl eT F (g := mkF m pc Ls (.ref a :: st)) rfl rfl hd
  exact Go.of st' (k T' X' e')
theorem Go.gets (X : Stand p l e R s m args below meth c T locs cells slots) (hx : p.tables.exec = Jvm.exec) (hZ : Z.Warmed39 s.vm) {own O n d : String} {index : Nat} (hown : s.vm.findClass own = some m.cls) (w : (Jvm.Cond.fieldLink own index O n d).before a0 Z = true) (eT : T.heap = h) {v : Value} (F : Sta Z h O n d v)
    {pc q : Nat} {Ls : Array Slot} {st : List Value} (hd : decode c.code pc = .ok (.getstatic index, 3)) (hq : pc + 3 = q)
    (k : ∀ T' : State, Stand p l e R s m args below meth c T' locs cells slots → T'.heap = h → Go p e below Q (T'.setTop (mkF m q Ls (v :: st)))) : Go p e below Q (T.setTop (mkF m pc Ls st)) := by
  subst hq
  obtain ⟨T', X', e', st'⟩ := getS X hx hZ hown (host := "") w Via.refl eT F (g := mkF m pc Ls st) rfl hd
  exact Go.of st' (k T' X' e')
theorem Go.putf (X : Stand p l e R s m args below meth c T locs cells slots) (hx : p.tables.exec = Jvm.exec) (hZ : Z.Warmed39 s.vm) {own O n d C : String} {index kk : Nat} {ty : FieldType} (hown : s.vm.findClass own = some m.cls) (w : (Jvm.Cond.fieldLink own index O n d).before a0 Z = true) (eT : T.heap = h) {a : Addr} {v old : Value} (F : Fld Z h a O n d old) (E : Exa Z h a C)
    (L : (Jvm.Cond.lays C O n d).before a0 Z = true ∨ ((Jvm.Cond.laysFinal C O n d).before a0 Z = true ∧ own = O ∧ meth.name = "<init>")) (wi : (Jvm.Cond.instantiable C kk).before a0 Z = true) (hty : parseFieldDescriptor d = some ty) (hn : narrow ty v = v) (hf : fits ty v = true)
    {pc q : Nat} {Ls : Array Slot} {st : List Value} (hd : decode c.code pc = .ok (.putfield index, 3)) (hq : pc + 3 = q)
    (k : ∀ (T' : State) (h' : Heap), Stand p l e R s m args below meth c T' (locs ++ [⟨a, Jvm.RoadKit.slotOf Z O n d⟩]) cells slots → T'.heap = h' → Wr h h' a (Jvm.RoadKit.slotOf Z O n d) v → Go p e below Q (T'.setTop (mkF m q Ls st))) : Go p e below Q (T.setTop (mkF m pc Ls (v :: .ref a :: st))) := by
  subst hq
  obtain ⟨T', h', X', e', W', st'⟩ := putF X hx hZ hown (host := "") (Or.inl w) Via.refl eT F E L wi hty hn hf (g := mkF m pc Ls (v :: .ref a :: st)) rfl rfl hd
  exact Go.of st' (k T' h' X' e' W')
theorem Go.init (X : Stand p l e R s m args below meth c T locs cells slots) (hx : p.tables.exec = Jvm.exec) (hZ : Z.Warmed39 s.vm) {own : String} {index : Nat} (hown : s.vm.findClass own = some m.cls) (w1 : (Jvm.Cond.methodLink own index Lib.objectInit).before a0 Z = true) (w2 : (Jvm.Cond.instanceMethod Lib.objectInit).before a0 Z = true) (w3 : (Jvm.Cond.code Lib.objectInit ⟨#[0xb1]⟩ 1 none).before a0 Z = true) (eT : T.heap = h)
    {pc q : Nat} {Ls : Array Slot} {st : List Value} {a : Addr} {W : Nat} (hd : decode c.code pc = .ok (.invokespecial index, 3)) (hsz : Ls.size = c.maxLocals) (hf : 1 ≤ R.frames) (hW : (st.map fun v => v.category).sum ≤ W) (hl : W + 12 ≤ R.locals) (hq : pc + 3 = q)
    (k : ∀ T' : State, Stand p l e R s m args below meth c T' locs cells slots → T'.heap = h → Go p e below Q (T'.setTop (mkF m q Ls st))) : Go p e below Q (T.setTop (mkF m pc Ls (.ref a :: st))) := by
  subst hq
  obtain ⟨T', X', e', st'⟩ := initO X hx hZ hown w1 w2 w3 eT (g := mkF m pc Ls (.ref a :: st)) rfl hsz rfl hd hf (W := W) (by show 2 * 0 + _ ≤ _; omega) hl
  exact Go.of st' (k T' X' e')
theorem Go.special (X : Stand p l e R s m args below meth c T locs cells slots) (hx : p.tables.exec = Jvm.exec) (hZ : Z.Warmed39 s.vm) {own : String} {index : Nat} {y : MethodName} (hy1 : y.name = "<init>") (hown : s.vm.findClass own = some m.cls) (w1 : (Jvm.Cond.methodLink own index y).before a0 Z = true) (w2 : (Jvm.Cond.instanceMethod y).before a0 Z = true)
    {bytes : ByteArray} {maxL : Nat} (w3 : (Jvm.Cond.code y bytes maxL none).before a0 Z = true) (wz : (Jvm.Cond.initialized y.cls).before a0 Z = true) (hy : y.cls ≠ "java/lang/invoke/MethodHandle" ∧ y.cls ≠ "java/lang/invoke/VarHandle")
    {rm : Room} {as' : Array Value} {Qv : Option Value → Heap → List Loc → Prop} (hM : Con l Z y bytes maxL none rm as' h Qv) (eT : T.heap = h) {pc q : Nat} {Ls : Array Slot} {st : List Value} {a : Addr} {argsL rest : List Value} {W : Nat} (hd : decode c.code pc = .ok (.invokespecial index, 3))
    (hst : st = argsL.reverse ++ .ref a :: rest) (has : as' = (.ref a :: argsL).toArray) (hlen : ∀ sig, parseMethodDescriptor y.desc = some sig → argsL.length = sig.parameters.length) (hsz : Ls.size = c.maxLocals) (hW : (rest.map fun v => v.category).sum ≤ W)
    (hf : rm.frames + 1 ≤ R.frames) (hl : W + (maxL + 11) + rm.locals ≤ R.locals) (hc : cells + rm.cells ≤ R.cells) (hs : slots + rm.slots ≤ R.slots) (hq : pc + 3 = q)
    (k : ∀ (T' : State) (L : List Loc) (v : Option Value), Stand p l e R s m args below meth c T' (locs ++ L) (cells + rm.cells) (slots + rm.slots) → Qv v T'.heap L → Go p e below Q (T'.setTop (mkF m q Ls (v.toList ++ rest)))) : Go p e below Q (T.setTop (mkF m pc Ls st)) := by
  subst hq hst has
  obtain ⟨v, vm₁, ⟨T', L', k', n'⟩, -, X', ⟨Lc, hQ, l1, y1, z1⟩, st'⟩ := X.specialBack hx (y := y) hy1 hown (mvT hZ w1) (mvT hZ w2) (mvT hZ w3) hy (backOf (W := W) hM hZ w3 wz hf hl) (g := mkF m pc Ls (argsL.reverse ++ .ref a :: rest)) rfl hsz (Steps.refl _) (a := a) (argsL := argsL) (rest := rest) hlen rfl (by show 2 * 0 + _ ≤ _; omega) hd (fun _ _ => ⟨rfl, eT, hc, hs⟩)
  dsimp only [Pt.U, Pt.locs, Pt.cells, Pt.slots] at X' l1 y1 z1 st' hQ
  subst l1 y1 z1
  exact Go.tr st' (k T' Lc v X' hQ)
theorem Go.virtual (X : Stand p l e R s m args below meth c T locs cells slots) (hx : p.tables.exec = Jvm.exec) (hZ : Z.Warmed39 s.vm) {own C : String} {index : Nat} {y : MethodName} (hown : s.vm.findClass own = some m.cls) (w1 : (Jvm.Cond.methodLink own index y).before a0 Z = true) (w2 : (Jvm.Cond.declares y).before a0 Z = true) (w3 : (Jvm.Cond.selects C y y).before a0 Z = true) (w4 : (Jvm.Cond.instanceMethod y).before a0 Z = true)
    {bytes : ByteArray} {maxL : Nat} {ret : Option FieldType} (w5 : (Jvm.Cond.code y bytes maxL ret).before a0 Z = true) (wz : (Jvm.Cond.initialized y.cls).before a0 Z = true) (hy : y.cls ≠ "java/lang/invoke/MethodHandle" ∧ y.cls ≠ "java/lang/invoke/VarHandle")
    {rm : Room} {as' : Array Value} {Qv : Option Value → Heap → List Loc → Prop} (hM : Con l Z y bytes maxL ret rm as' h Qv) (eT : T.heap = h) {a : Addr} (E : Exa Z h a C) {pc q : Nat} {Ls : Array Slot} {st : List Value} {argsL rest : List Value} {W : Nat} (hd : decode c.code pc = .ok (.invokevirtual index, 3))
    (hst : st = argsL.reverse ++ .ref a :: rest) (has : as' = (.ref a :: argsL).toArray) (hlen : ∀ sig, parseMethodDescriptor y.desc = some sig → argsL.length = sig.parameters.length) (hsz : Ls.size = c.maxLocals) (hW : (rest.map fun v => v.category).sum ≤ W)
    (hf : rm.frames + 1 ≤ R.frames) (hl : W + (maxL + 11) + rm.locals ≤ R.locals) (hc : cells + rm.cells ≤ R.cells) (hs : slots + rm.slots ≤ R.slots) (hq : pc + 3 = q)
    (k : ∀ (T' : State) (L : List Loc) (v : Option Value), Stand p l e R s m args below meth c T' (locs ++ L) (cells + rm.cells) (slots + rm.slots) → Qv v T'.heap L → Go p e below Q (T'.setTop (mkF m q Ls (v.toList ++ rest)))) : Go p e below Q (T.setTop (mkF m pc Ls st)) := by
  subst hq hst has
  obtain ⟨cq, kq, qa, -, qc⟩ := isOf hZ eT E
  obtain ⟨v, vm₁, ⟨T', L', k', n'⟩, -, X', ⟨Lc, hQ, l1, y1, z1⟩, st'⟩ := X.virtualBack hx (y := y) (z := y) hown (mvT hZ w1) (mvT hZ w2) (notFace_of_selects (args := #[]) (mvT hZ w3)) (mvT hZ w3) (mvT hZ w4) hy (backOf (W := W) hM hZ w5 wz hf hl) qa qc (g := mkF m pc Ls (argsL.reverse ++ .ref a :: rest)) rfl hsz (Steps.refl _) (argsL := argsL) (rest := rest) hlen rfl (by show 2 * 0 + _ ≤ _; omega) hd (fun _ _ => ⟨rfl, eT, hc, hs⟩)
  dsimp only [Pt.U, Pt.locs, Pt.cells, Pt.slots] at X' l1 y1 z1 st' hQ
  subst l1 y1 z1
  exact Go.tr st' (k T' Lc v X' hQ)
theorem Go.static (X : Stand p l e R s m args below meth c T locs cells slots) (hx : p.tables.exec = Jvm.exec) (hZ : Z.Warmed39 s.vm) {own : String} {index : Nat} {y : MethodName} (hown : s.vm.findClass own = some m.cls) (w1 : (Jvm.Cond.methodLink own index y).before a0 Z = true) (w2 : (Jvm.Cond.static y).before a0 Z = true)
    {bytes : ByteArray} {maxL : Nat} {ret : Option FieldType} (w3 : (Jvm.Cond.code y bytes maxL ret).before a0 Z = true) (wz : (Jvm.Cond.initialized y.cls).before a0 Z = true) (hy : y.cls ≠ "java/lang/invoke/MethodHandle" ∧ y.cls ≠ "java/lang/invoke/VarHandle")
    {rm : Room} {as' : Array Value} {Qv : Option Value → Heap → List Loc → Prop} (hM : Con l Z y bytes maxL ret rm as' h Qv) (eT : T.heap = h) {pc q : Nat} {Ls : Array Slot} {st : List Value} {argsL rest : List Value} {W : Nat} (hd : decode c.code pc = .ok (.invokestatic index, 3))
    (hst : st = argsL.reverse ++ rest) (has : as' = argsL.toArray) (hlen : ∀ sig, parseMethodDescriptor y.desc = some sig → argsL.length = sig.parameters.length) (hsz : Ls.size = c.maxLocals) (hW : (rest.map fun v => v.category).sum ≤ W)
    (hf : rm.frames + 1 ≤ R.frames) (hl : W + (maxL + 11) + rm.locals ≤ R.locals) (hc : cells + rm.cells ≤ R.cells) (hs : slots + rm.slots ≤ R.slots) (hq : pc + 3 = q)
    (k : ∀ (T' : State) (L : List Loc) (v : Option Value), Stand p l e R s m args below meth c T' (locs ++ L) (cells + rm.cells) (slots + rm.slots) → Qv v T'.heap L → Go p e below Q (T'.setTop (mkF m q Ls (v.toList ++ rest)))) : Go p e below Q (T.setTop (mkF m pc Ls st)) := by
  subst hq hst has
  obtain ⟨v, vm₁, ⟨T', L', k', n'⟩, -, X', ⟨Lc, hQ, l1, y1, z1⟩, st'⟩ := Jvm.LawKit.callS X hx (y := y) hown (mvT hZ w1) (mvT hZ w2) (mvT hZ wz) (mvT hZ w3) hy (backOf (W := W) hM hZ w3 wz hf hl) (g := mkF m pc Ls (argsL.reverse ++ rest)) rfl hsz (argsL := argsL) (rest := rest) hlen rfl (by show 2 * 0 + _ ≤ _; omega) hd (fun _ _ => ⟨rfl, eT, hc, hs⟩)
  dsimp only [Pt.U, Pt.locs, Pt.cells, Pt.slots] at X' l1 y1 z1 st' hQ
  subst l1 y1 z1
  exact Go.of st' (k T' Lc v X' hQ)
/-- a static call that a payer of the library answers, and that leaves all as it was -/
theorem Go.nat (X : Stand p l e R s m args below meth c T locs cells slots) (hx : p.tables.exec = Jvm.exec) (hZ : Z.Warmed39 s.vm) {own : String} {index : Nat} {y : MethodName} (hown : s.vm.findClass own = some m.cls) (w1 : (Jvm.Cond.methodLink own index y).before a0 Z = true) (w2 : (Jvm.Cond.static y).before a0 Z = true) (w3 : (Jvm.Cond.initialized y.cls).before a0 Z = true)
    {by0 : ByteArray} {ml : Nat} {rt : Option FieldType} (w4 : (Jvm.Cond.code y by0 ml rt).before a0 Z = true) (hy : y.cls ≠ "java/lang/invoke/MethodHandle" ∧ y.cls ≠ "java/lang/invoke/VarHandle") (eT : T.heap = h) {W : Nat} {F : Array Value → Prop} {val : Value}
    (hK : (Jvm.Cond.code y by0 ml rt).before args s = true → Back l R p e below s args y 3 W (fun A a' => A.cells ≤ R.cells ∧ A.slots ≤ R.slots ∧ F a') (fun A _ v B => v = some val ∧ B = A))
    {pc q : Nat} {Ls : Array Slot} {st : List Value} {argsL rest : List Value} (hd : decode c.code pc = .ok (.invokestatic index, 3)) (hst : st = argsL.reverse ++ rest) (hlen : ∀ sig, parseMethodDescriptor y.desc = some sig → argsL.length = sig.parameters.length) (hsz : Ls.size = c.maxLocals) (hW : (rest.map fun v => v.category).sum ≤ W)
    (hc : cells ≤ R.cells) (hs : slots ≤ R.slots) (hF : F argsL.toArray) (hq : pc + 3 = q)
    (k : ∀ T' : State, Stand p l e R s m args below meth c T' locs cells slots → T'.heap = h → Go p e below Q (T'.setTop (mkF m q Ls (val :: rest)))) : Go p e below Q (T.setTop (mkF m pc Ls st)) := by
  subst hq hst
  obtain ⟨T', X', e', st'⟩ := natS X hx hZ hown w1 w2 w3 w4 hy eT hK (g := mkF m pc Ls (argsL.reverse ++ rest)) rfl hsz hlen rfl (by show 2 * 0 + _ ≤ _; omega) hd hc hs hF rfl
  exact Go.of st' (k T' X' e')
/-! words of the sheet by their place -/
theorem word {ts : List Jvm.Cond} (hw : ∀ d ∈ ts, d.before a0 Z = true) {d : Jvm.Cond} (i : Nat) (hi : ts[i]? = some d) : d.before a0 Z = true := hw _ (List.mem_of_getElem? hi)
end OwnHeap
/-! own layer 4: arrays of known contents -/
section OwnArr
variable {p : Program} {l : Launch} {e : Env} {R : Room} {s : State} {m : MethodId} {args : Array Value} {below : List Frame} {meth : Method} {c : Code} {T : State} {locs : List Loc} {cells slots : Nat} {Q : Outcome → State → Prop} {Z : State} {a0 : Array Value} {h h' : Heap}
/-- the array at a: its component type, its class, its contents -/
def Row (Z : State) (h : Heap) (a : Addr) (ty : FieldType) (k : ClassId) (vs : List Value) : Prop := ∃ cl : Cell, Arr Z h a cl ty ∧ cl.cls = k ∧ cl.slots = vs.toArray
theorem Row.lt {a : Addr} {ty : FieldType} {k : ClassId} {vs : List Value} (F : Row Z h a ty k vs) : a < h.size := by obtain ⟨cl, A, -⟩ := F; exact A.lt
theorem Row.ext {a : Addr} {ty : FieldType} {k : ClassId} {vs : List Value} (F : Row Z h a ty k vs) (E : Ext h h') : Row Z h' a ty k vs := by obtain ⟨cl, A, r⟩ := F; exact ⟨cl, A.ext E, r⟩
theorem Row.other {a b : Addr} {ty : FieldType} {k : ClassId} {vs : List Value} {sl : Nat} {v : Value} (F : Row Z h b ty k vs) (W : Wr h h' a sl v) (hne : b ≠ a) : Row Z h' b ty k vs := by obtain ⟨cl, A, r⟩ := F; exact ⟨cl, A.other W hne, r⟩
theorem Row.keep {a : Addr} {ty : FieldType} {k : ClassId} {vs : List Value} {ws : List Addr} (F : Row Z h a ty k vs) (K : Keep h h' ws) (hn : a ∉ ws) : Row Z h' a ty k vs := by obtain ⟨cl, A, r⟩ := F; exact ⟨cl, ⟨K.2.1 _ _ A.1 hn, A.2⟩, r⟩
theorem Row.set {a : Addr} {ty : FieldType} {k : ClassId} {vs : List Value} {i : Nat} {v : Value} (F : Row Z h a ty k vs) (W : Wr h h' a i v) : Row Z h' a ty k (vs.set i v) := by
  obtain ⟨cl, A, q1, q2⟩ := F
  refine ⟨cl.setSlot i v, A.same W, q1, ?_⟩
  show cl.slots.setIfInBounds i v = _
  rw [q2]; simp
theorem Row.inb {vs : List Value} {cl : Cell} (q : cl.slots = vs.toArray) {j : Int32} {i : Nat} {v : Value} (hj : j.toNatClampNeg = i) (hj0 : ¬ j < 0) (hv : vs[i]? = some v) : ¬ (j < 0 ∨ cl.slots.size ≤ j.toNatClampNeg) := by
  obtain ⟨hi, -⟩ := List.getElem?_eq_some_iff.mp hv
  have : cl.slots.size = vs.length := by rw [q]; simp
  rintro (z | z)
  · exact hj0 z
  · omega
theorem Row.getv {vs : List Value} {cl : Cell} (q : cl.slots = vs.toArray) {j : Int32} {i : Nat} {v : Value} (hj : j.toNatClampNeg = i) (hv : vs[i]? = some v) : cl.slots[j.toNatClampNeg]? = some v := by
  rw [q, hj]; simpa using hv
theorem Go.newarr (X : Stand p l e R s m args below meth c T locs cells slots) (hx : p.tables.exec = Jvm.exec) (hZ : Z.Warmed39 s.vm) {aty : ArrayType} (w : (Jvm.Cond.arrayClass (newarray.typeOf aty)).before a0 Z = true) (eT : T.heap = h)
    {pc q : Nat} {Ls : Array Slot} {st : List Value} {n : Int32} {k : Nat} (hd : decode c.code pc = .ok (.newarray aty, 2)) (hn0 : ¬ n < 0) (hn : n.toNatClampNeg = k) (hb : k * 8 ≤ 536870912) (hc : cells + 1 ≤ R.cells) (hl : slots + k ≤ R.slots) {ad : String} (had : "[" ++ (newarray.typeOf aty).toString = ad) (hq : pc + 2 = q)
    (cont : ∀ (T' : State) (h' : Heap) (a : Addr) (kk : ClassId), a = h.size → Stand p l e R s m args below meth c T' locs (cells + 1) (slots + k) → T'.heap = h' → Ext h h' → Row Z h' a (newarray.typeOf aty) kk (List.replicate k (defaultValue (newarray.typeOf aty))) → Exa Z h' a ad →
      Go p e below Q (T'.setTop (mkF m q Ls (.ref a :: st)))) : Go p e below Q (T.setTop (mkF m pc Ls (.int n :: st))) := by
  subst hq hn
  obtain ⟨T', h', cA, X', e', E', A', D', st'⟩ := newPE X hx hZ w eT (g := mkF m pc Ls (.int n :: st)) rfl hd rfl hn0 (cap := n.toNatClampNeg) (Nat.le_refl _) hb hc hl had
  exact Go.of st' (cont T' h' _ cA rfl X' e' E' ⟨_, A', rfl, by simp [newA]⟩ D')
theorem Go.newobjs (X : Stand p l e R s m args below meth c T locs cells slots) (hx : p.tables.exec = Jvm.exec) (hZ : Z.Warmed39 s.vm) {own C : String} {index : Nat} (hown : s.vm.findClass own = some m.cls) (w1 : (Jvm.Cond.classLink own index C).before a0 Z = true) (w2 : (Jvm.Cond.arrayOver (.object C)).before a0 Z = true) (eT : T.heap = h)
    {pc q : Nat} {Ls : Array Slot} {st : List Value} {n : Int32} {k : Nat} (hd : decode c.code pc = .ok (.anewarray index, 3)) (hn0 : ¬ n < 0) (hn : n.toNatClampNeg = k) (hb : k * 8 ≤ 536870912) (hc : cells + 1 ≤ R.cells) (hl : slots + k ≤ R.slots) {ad : String} (had : "[" ++ (FieldType.object C).toString = ad) (hq : pc + 3 = q)
    (cont : ∀ (T' : State) (h' : Heap) (a : Addr) (kk : ClassId), a = h.size → Stand p l e R s m args below meth c T' locs (cells + 1) (slots + k) → T'.heap = h' → Ext h h' → Row Z h' a (.object C) kk (List.replicate k .null) → Ovr Z kk C → Exa Z h' a ad →
      Go p e below Q (T'.setTop (mkF m q Ls (.ref a :: st)))) : Go p e below Q (T.setTop (mkF m pc Ls (.int n :: st))) := by
  subst hq hn
  obtain ⟨T', h', cA, X', e', E', A', D', O', st'⟩ := newRE X hx hZ hown w1 w2 eT (g := mkF m pc Ls (.int n :: st)) rfl hd rfl hn0 (cap := n.toNatClampNeg) (Nat.le_refl _) hb hc hl had
  exact Go.of st' (cont T' h' _ cA rfl X' e' E' ⟨_, A', rfl, by simp [newA, defaultValue]⟩ O' D')
theorem Go.alen (X : Stand p l e R s m args below meth c T locs cells slots) (hx : p.tables.exec = Jvm.exec) (hZ : Z.Warmed39 s.vm) (eT : T.heap = h) {a : Addr} {ty : FieldType} {k : ClassId} {vs : List Value} (F : Row Z h a ty k vs)
    {pc q : Nat} {Ls : Array Slot} {st : List Value} {n : Int32} (hd : decode c.code pc = .ok (.arraylength, 1)) (hn : vs.length.toInt32 = n) (hq : pc + 1 = q) (g : Go p e below Q (T.setTop (mkF m q Ls (.int n :: st)))) : Go p e below Q (T.setTop (mkF m pc Ls (.ref a :: st))) := by
  subst hq hn
  obtain ⟨cl, A, -, q2⟩ := F
  refine Go.of (fun t r => X.arraylength hx (by rw [eT]; exact A.1) (State.isArrayOf_alike hZ.alike A.2.1) (g := mkF m pc Ls (.ref a :: st)) rfl rfl hd t ?_) g
  rw [q2]; simpa using r
theorem Go.daload (X : Stand p l e R s m args below meth c T locs cells slots) (hx : p.tables.exec = Jvm.exec) (hZ : Z.Warmed39 s.vm) (eT : T.heap = h) {a : Addr} {k : ClassId} {vs : List Value} (F : Row Z h a .double k vs)
    {pc q : Nat} {Ls : Array Slot} {st : List Value} {j : Int32} {i : Nat} {v : Value} (hd : decode c.code pc = .ok (.daload, 1)) (hj : j.toNatClampNeg = i) (hj0 : ¬ j < 0) (hv : vs[i]? = some v) (hq : pc + 1 = q) (g : Go p e below Q (T.setTop (mkF m q Ls (v :: st)))) : Go p e below Q (T.setTop (mkF m pc Ls (.int j :: .ref a :: st))) := by
  subst hq
  obtain ⟨cl, A, -, q2⟩ := F
  exact Go.of (fun t r => X.daload hx (by rw [eT]; exact A.1) (State.isArrayOf_alike hZ.alike A.2.1) A.2.2 (Row.inb q2 hj hj0 hv) (Row.getv q2 hj hv) (g := mkF m pc Ls (.int j :: .ref a :: st)) rfl rfl hd t r) g
theorem Go.faload (X : Stand p l e R s m args below meth c T locs cells slots) (hx : p.tables.exec = Jvm.exec) (hZ : Z.Warmed39 s.vm) (eT : T.heap = h) {a : Addr} {k : ClassId} {vs : List Value} (F : Row Z h a .float k vs)
    {pc q : Nat} {Ls : Array Slot} {st : List Value} {j : Int32} {i : Nat} {v : Value} (hd : decode c.code pc = .ok (.faload, 1)) (hj : j.toNatClampNeg = i) (hj0 : ¬ j < 0) (hv : vs[i]? = some v) (hq : pc + 1 = q) (g : Go p e below Q (T.setTop (mkF m q Ls (v :: st)))) : Go p e below Q (T.setTop (mkF m pc Ls (.int j :: .ref a :: st))) := by
  subst hq
  obtain ⟨cl, A, -, q2⟩ := F
  exact Go.of (fun t r => X.faload hx (by rw [eT]; exact A.1) (State.isArrayOf_alike hZ.alike A.2.1) A.2.2 (Row.inb q2 hj hj0 hv) (Row.getv q2 hj hv) (g := mkF m pc Ls (.int j :: .ref a :: st)) rfl rfl hd t r) g
theorem Go.aaload (X : Stand p l e R s m args below meth c T locs cells slots) (hx : p.tables.exec = Jvm.exec) (hZ : Z.Warmed39 s.vm) (eT : T.heap = h) {a : Addr} {ty : FieldType} {k : ClassId} {vs : List Value} (F : Row Z h a ty k vs) (hty : ty.isReference = true)
    {pc q : Nat} {Ls : Array Slot} {st : List Value} {j : Int32} {i : Nat} {v : Value} (hd : decode c.code pc = .ok (.aaload, 1)) (hj : j.toNatClampNeg = i) (hj0 : ¬ j < 0) (hv : vs[i]? = some v) (hq : pc + 1 = q) (g : Go p e below Q (T.setTop (mkF m q Ls (v :: st)))) : Go p e below Q (T.setTop (mkF m pc Ls (.int j :: .ref a :: st))) := by
  subst hq
  obtain ⟨cl, A, -, q2⟩ := F
  exact Go.of (fun t r => X.aaload hx (by rw [eT]; exact A.1) (State.isArrayOf_alike hZ.alike A.2.1) hty A.2.2 (Row.inb q2 hj hj0 hv) (Row.getv q2 hj hv) (g := mkF m pc Ls (.int j :: .ref a :: st)) rfl rfl hd t r) g
theorem Go.dastore (X : Stand p l e R s m args below meth c T locs cells slots) (hx : p.tables.exec = Jvm.exec) (hZ : Z.Warmed39 s.vm) (eT : T.heap = h) {a : Addr} {k : ClassId} {vs : List Value} (F : Row Z h a .double k vs)
    {pc q : Nat} {Ls : Array Slot} {st : List Value} {j : Int32} {i : Nat} {x : UInt64} {o : Value} (hd : decode c.code pc = .ok (.dastore, 1)) (hj : j.toNatClampNeg = i) (hj0 : ¬ j < 0) (hv : vs[i]? = some o) (hq : pc + 1 = q)
    (cont : ∀ (T' : State) (h' : Heap), Stand p l e R s m args below meth c T' (locs ++ [⟨a, i⟩]) cells slots → T'.heap = h' → Wr h h' a i (.double x) → Row Z h' a .double k (vs.set i (.double x)) → Go p e below Q (T'.setTop (mkF m q Ls st))) : Go p e below Q (T.setTop (mkF m pc Ls (.double x :: .int j :: .ref a :: st))) := by
  subst hq hj
  have F0 := F
  obtain ⟨cl, A, -, q2⟩ := F
  obtain ⟨T', h', X', e', W', st'⟩ := stD X hx hZ eT A (x := x) (Row.inb q2 rfl hj0 hv) (g := mkF m pc Ls (.double x :: .int j :: .ref a :: st)) rfl rfl hd
  exact Go.of st' (cont T' h' X' e' W' (F0.set W'))
theorem Go.aastore (X : Stand p l e R s m args below meth c T locs cells slots) (hx : p.tables.exec = Jvm.exec) (hZ : Z.Warmed39 s.vm) (eT : T.heap = h) {a : Addr} {ty : FieldType} {k : ClassId} {vs : List Value} (F : Row Z h a ty k vs) (hty : ty.isReference = true) {C : String} (O : Ovr Z k C) {b : Addr} (I : Ins Z h b C true)
    {pc q : Nat} {Ls : Array Slot} {st : List Value} {j : Int32} {i : Nat} {o : Value} (hd : decode c.code pc = .ok (.aastore, 1)) (hj : j.toNatClampNeg = i) (hj0 : ¬ j < 0) (hv : vs[i]? = some o) (hq : pc + 1 = q)
    (cont : ∀ (T' : State) (h' : Heap), Stand p l e R s m args below meth c T' (locs ++ [⟨a, i⟩]) cells slots → T'.heap = h' → Wr h h' a i (.ref b) → Row Z h' a ty k (vs.set i (.ref b)) → Go p e below Q (T'.setTop (mkF m q Ls st))) : Go p e below Q (T.setTop (mkF m pc Ls (.ref b :: .int j :: .ref a :: st))) := by
  subst hq hj
  have F0 := F
  obtain ⟨cl, A, q1, q2⟩ := F
  obtain ⟨T', h', X', e', W', st'⟩ := stR X hx hZ eT A (v := .ref b) (Row.inb q2 rfl hj0 hv) hty (Sto.of A (q1 ▸ O) I) (g := mkF m pc Ls (.ref b :: .int j :: .ref a :: st)) rfl rfl hd
  exact Go.of st' (cont T' h' X' e' W' (F0.set W'))
theorem Go.cast (X : Stand p l e R s m args below meth c T locs cells slots) (hx : p.tables.exec = Jvm.exec) (hZ : Z.Warmed39 s.vm) {own K : String} {index : Nat} (hown : s.vm.findClass own = some m.cls) (w : (Jvm.Cond.classLink own index K).before a0 Z = true) (eT : T.heap = h) {a : Addr} (F : Ins Z h a K true)
    {pc q : Nat} {Ls : Array Slot} {st : List Value} (hd : decode c.code pc = .ok (.checkcast index, 3)) (hq : pc + 3 = q)
    (k : ∀ T' : State, Stand p l e R s m args below meth c T' locs cells slots → T'.heap = h → Go p e below Q (T'.setTop (mkF m q Ls (.ref a :: st)))) : Go p e below Q (T.setTop (mkF m pc Ls (.ref a :: st))) := by
  subst hq
  obtain ⟨T', X', e', st'⟩ := castY X hx hZ hown w eT F (g := mkF m pc Ls (.ref a :: st)) rfl rfl hd
  exact Go.of st' (k T' X' e')
theorem Go.clone (X : Stand p l e R s m args below meth c T locs cells slots) (hx : p.tables.exec = Jvm.exec) (hZ : Z.Warmed39 s.vm) {own ad : String} {index : Nat} (hown : s.vm.findClass own = some m.cls)
    (w1 : (Jvm.Cond.methodLink own index ⟨ad, "clone", "()Ljava/lang/Object;"⟩).before a0 Z = true) (w2 : (Jvm.Cond.sameMethod ad "java/lang/Object" "clone" "()Ljava/lang/Object;").before a0 Z = true) (w3 : (Jvm.Cond.native ⟨"java/lang/Object", "clone", "()Ljava/lang/Object;"⟩).before a0 Z = true)
    (w4 : (Jvm.Cond.instanceMethod ⟨"java/lang/Object", "clone", "()Ljava/lang/Object;"⟩).before a0 Z = true) (w5 : (Jvm.Cond.selects ad ⟨ad, "clone", "()Ljava/lang/Object;"⟩ ⟨"java/lang/Object", "clone", "()Ljava/lang/Object;"⟩).before a0 Z = true) (w6 : (Jvm.Cond.castable ad "java/lang/Cloneable").before a0 Z = true)
    (eT : T.heap = h) {a : Addr} {ty : FieldType} {kc : ClassId} {vs : List Value} (F : Row Z h a ty kc vs) (E : Exa Z h a ad) (hfit : vs.all (fun v => fits ty v) = true) {pc q : Nat} {Ls : Array Slot} {st : List Value} (hd : decode c.code pc = .ok (.invokevirtual index, 3)) (hsz : Ls.size = c.maxLocals) (hf : 1 ≤ R.frames) {W : Nat} (hW : (st.map fun v => v.category).sum ≤ W) (hl : W + 14 ≤ R.locals) {k : Nat} (hk : vs.length = k) (hc : cells + 1 ≤ R.cells) (hs : slots + k ≤ R.slots) (hq : pc + 3 = q)
    (cont : ∀ (T' : State) (h' : Heap) (b : Addr), b = h.size → Stand p l e R s m args below meth c T' locs (cells + 1) (slots + k) → T'.heap = h' → Ext h h' → Row Z h' b ty kc vs → Exa Z h' b ad → Go p e below Q (T'.setTop (mkF m q Ls (.ref b :: st)))) : Go p e below Q (T.setTop (mkF m pc Ls (.ref a :: st))) := by
  subst hq hk
  obtain ⟨cl, A, q1, q2⟩ := F
  have hsize : cl.slots.size = vs.length := by rw [q2]; simp
  have FC : FitC Z cl := fitC_of A fun i hi v hv => by
    rw [q2] at hv
    have : v ∈ vs := List.mem_of_getElem? (by simpa using hv)
    exact List.all_eq_true.mp hfit v this
  obtain ⟨T', h', X', e', E', A', D', st'⟩ := cloneA X hx hZ hown w1 w2 w3 w4 w5 w6 eT A E FC (g := mkF m pc Ls (.ref a :: st)) rfl hsz rfl hd hf (W := W) (by show 2 * 0 + _ ≤ _; omega) hl (cap := vs.length) (by rw [hsize]; exact Nat.le_refl _) hc hs
  exact Go.of st' (cont T' h' _ rfl X' e' E' ⟨cloneOf cl, A', q1, q2⟩ D')
theorem Go.fastore (X : Stand p l e R s m args below meth c T locs cells slots) (hx : p.tables.exec = Jvm.exec) (hZ : Z.Warmed39 s.vm) (eT : T.heap = h) {a : Addr} {k : ClassId} {vs : List Value} (F : Row Z h a .float k vs)
    {pc q : Nat} {Ls : Array Slot} {st : List Value} {j : Int32} {i : Nat} {x : UInt32} {o : Value} (hd : decode c.code pc = .ok (.fastore, 1)) (hj : j.toNatClampNeg = i) (hj0 : ¬ j < 0) (hv : vs[i]? = some o) (hq : pc + 1 = q)
    (cont : ∀ (T' : State) (h' : Heap), Stand p l e R s m args below meth c T' (locs ++ [⟨a, i⟩]) cells slots → T'.heap = h' → Wr h h' a i (.float x) → Row Z h' a .float k (vs.set i (.float x)) → Go p e below Q (T'.setTop (mkF m q Ls st))) : Go p e below Q (T.setTop (mkF m pc Ls (.float x :: .int j :: .ref a :: st))) := by
  subst hq hj
  have F0 := F
  obtain ⟨cl, A, -, q2⟩ := F
  obtain ⟨X', st'⟩ := X.fastore hx (x := x) (by rw [eT]; exact A.1) (State.isArrayOf_alike hZ.alike A.2.1) A.2.2 (Row.inb q2 rfl hj0 hv) (g := mkF m pc Ls (.float x :: .int j :: .ref a :: st)) rfl rfl hd
  have W' : Wr h (T.setCell a (cl.setSlot j.toNatClampNeg (.float x))).heap a j.toNatClampNeg (.float x) := ⟨cl, A.1, A.plain, Nat.lt_of_not_le fun z => Row.inb q2 rfl hj0 hv (Or.inr z), by rw [← eT]; rfl⟩
  exact Go.of st' (cont _ _ X' rfl W' (F0.set W'))
end OwnArr

theorem pd0 : parseMethodDescriptor "([D)V" = some ⟨[(.array .double)], none⟩ := by decide +kernel
theorem pd1 : parseMethodDescriptor "(D)I" = some ⟨[.double], some .int⟩ := by decide +kernel

section OwnLaw
open Jvm.FP Jvm.FP.Core Jvm.Free.Fl
theorem own_four {x u : Int32} (h : x &&& 3 = u) : u = 0 ∨ u = 1 ∨ u = 2 ∨ u = 3 := by
  have e := c_mask x 3 2 (by decide) (by decide)
  rw [h] at e
  have f : u.toInt = 0 ∨ u.toInt = 1 ∨ u.toInt = 2 ∨ u.toInt = 3 := by omega
  rcases f with f | f | f | f
  · exact Or.inl (Int32.toInt_inj.mp f)
  · exact Or.inr (Or.inl (Int32.toInt_inj.mp f))
  · exact Or.inr (Or.inr (Or.inl (Int32.toInt_inj.mp f)))
  · exact Or.inr (Or.inr (Or.inr (Int32.toInt_inj.mp f)))
/-- x is n halves -/
def Hn (x : UInt64) (n : Int) : Prop := DFin x ∧ Zv x = n * P2 1073
theorem h74 : P2 1074 = 2 * P2 1073 := by rw [show (1074 : Nat) = 1 + 1073 from rfl, P2_add]; rfl
theorem h_rep {n : Int} (h : n.natAbs ≤ 2 ^ 53) : Rep (n * P2 1073) := rep_mk n 1073 h (by decide)
theorem h_i2d {n : Int32} {x : UInt64} (h : FP.i2d n = x) : Hn x (2 * n.toInt) := by
  subst h; refine ⟨i2d_dfin n, ?_⟩
  rw [i2d_eq, h74, ← Int.mul_assoc, Int.mul_comm n.toInt]
theorem h_zero : Hn 0 0 := ⟨zero_fin, by rw [zero_z, Int.zero_mul]⟩
theorem h_two : Hn 4611686018427387904 (2 * 2) := ⟨(fin_bits _).mpr (by decide), by unfold Zv P2; decide +kernel⟩
theorem h_add {x y : UInt64} {a b : Int} (hx : Hn x a) (hy : Hn y b) (h : (a + b).natAbs ≤ 2 ^ 53) : Hn (FP.dadd x y) (a + b) := add_eq hx.1 hy.1 (h_rep h) (by rw [hx.2, hy.2, Int.add_mul])
theorem h_div {x y : UInt64} {a b r : Int} (hx : Hn x a) (hy : Hn y (2 * b)) (hb : 0 < b) (e : a = r * b) (h : r.natAbs ≤ 2 ^ 53) : Hn (FP.ddiv x y) r := by
  have hP := P2_pos 1073
  refine div_eq hx.1 hy.1 (by rw [hy.2]; exact Int.mul_pos (by omega) hP) (h_rep h) ?_
  rw [hx.2, hy.2, h74, e]; ((try generalize P2 1074 = U1); (try generalize P2 1073 = U2); (try generalize P2 1072 = U3); (try generalize P2 (1074 - e) = U4); (try generalize P2 e = U5); (try generalize P2 1021 = U6); (try generalize P2 53 = U7); ac_rfl)
theorem own_m15 {x u : Int32} (h : x &&& 15 = u) : 0 ≤ u.toInt ∧ u.toInt ≤ 15 := by
  have e := c_mask x 15 4 (by decide) (by decide)
  rw [h] at e; omega
theorem own_m127 {x u : Int32} (h : x &&& 127 = u) : 0 ≤ u.toInt ∧ u.toInt ≤ 127 := by
  have e := c_mask x 127 7 (by decide) (by decide)
  rw [h] at e; omega
theorem own_len {x u : Int32} {v : UInt64} (h : x &&& 15 = u) (k : FP.i2d u = v) : ∃ n : Int, Hn v n ∧ 0 ≤ n ∧ n ≤ 30 := ⟨2 * u.toInt, h_i2d k, by have := own_m15 h; omega, by have := own_m15 h; omega⟩
theorem own_time {x u : Int32} {v : UInt64} (h : x &&& 127 = u) (k : FP.i2d u = v) : ∃ n : Int, Hn (FP.ddiv v 4611686018427387904) n := by
  have b := own_m127 h
  exact ⟨u.toInt, h_div (h_i2d k) h_two (by decide) (by omega) (by omega)⟩
theorem own_gt {x y : UInt64} {a b : Int} (hx : Hn x a) (hy : Hn y b) : (0 : Int32) < cmpValue (FP.dcmp x y) .g ↔ b < a := by
  have hP := P2_pos 1073
  rcases Int.lt_trichotomy a b with h | h | h
  · have z : Zv x < Zv y := by rw [hx.2, hy.2]; exact Int.mul_lt_mul_of_pos_right h hP
    rw [cmp_lt hx.1 hy.1 .g z]
    exact ⟨fun w => absurd w (by decide), fun w => absurd w (by omega)⟩
  · have z : Zv x = Zv y := by rw [hx.2, hy.2, h]
    rw [cmp_eq hx.1 hy.1 .g z]
    exact ⟨fun w => absurd w (by decide), fun w => absurd w (by omega)⟩
  · have z : Zv y < Zv x := by rw [hx.2, hy.2]; exact Int.mul_lt_mul_of_pos_right h hP
    rw [cmp_gt hx.1 hy.1 .g z]
    exact ⟨fun _ => h, fun _ => by decide⟩
theorem own_ngt {x y : UInt64} {a b : Int} (hx : Hn x a) (hy : Hn y b) (h : ¬ (0 : Int32) < cmpValue (FP.dcmp x y) .g) : a ≤ b := Int.not_lt.mp (fun z => h ((own_gt hx hy).mpr z))
def own_at2 (s1 t : UInt64) : Int32 := if (0 : Int32) < cmpValue (FP.dcmp s1 t) .g then 0 else 1
def own_at3 (s1 s2 t : UInt64) : Int32 := if (0 : Int32) < cmpValue (FP.dcmp s1 t) .g then 0 else if (0 : Int32) < cmpValue (FP.dcmp s2 t) .g then 1 else 2
def own_at4 (s1 s2 s3 t : UInt64) : Int32 := if (0 : Int32) < cmpValue (FP.dcmp s2 t) .g then (if (0 : Int32) < cmpValue (FP.dcmp s1 t) .g then 0 else 1) else if (0 : Int32) < cmpValue (FP.dcmp s3 t) .g then 2 else 3
theorem own_r2a {s1 t : UInt64} (h : (0 : Int32) < cmpValue (FP.dcmp s1 t) .g) : some (Value.int 0) = some (.int (own_at2 s1 t)) := by rw [own_at2, if_pos h]
theorem own_r2b {s1 t : UInt64} (h : ¬ (0 : Int32) < cmpValue (FP.dcmp s1 t) .g) : some (Value.int 1) = some (.int (own_at2 s1 t)) := by rw [own_at2, if_neg h]
theorem own_r3a {s1 s2 t : UInt64} (h : (0 : Int32) < cmpValue (FP.dcmp s1 t) .g) : some (Value.int 0) = some (.int (own_at3 s1 s2 t)) := by rw [own_at3, if_pos h]
theorem own_r3b {s1 s2 t : UInt64} (h : ¬ (0 : Int32) < cmpValue (FP.dcmp s1 t) .g) (k : (0 : Int32) < cmpValue (FP.dcmp s2 t) .g) : some (Value.int 1) = some (.int (own_at3 s1 s2 t)) := by rw [own_at3, if_neg h, if_pos k]
theorem own_r3c {s1 s2 t : UInt64} (h : ¬ (0 : Int32) < cmpValue (FP.dcmp s1 t) .g) (k : ¬ (0 : Int32) < cmpValue (FP.dcmp s2 t) .g) : some (Value.int 2) = some (.int (own_at3 s1 s2 t)) := by rw [own_at3, if_neg h, if_neg k]
theorem own_r4a {s1 s2 s3 t : UInt64} (h : (0 : Int32) < cmpValue (FP.dcmp s2 t) .g) (k : (0 : Int32) < cmpValue (FP.dcmp s1 t) .g) : some (Value.int 0) = some (.int (own_at4 s1 s2 s3 t)) := by rw [own_at4, if_pos h, if_pos k]
theorem own_r4b {s1 s2 s3 t : UInt64} (h : (0 : Int32) < cmpValue (FP.dcmp s2 t) .g) (k : ¬ (0 : Int32) < cmpValue (FP.dcmp s1 t) .g) : some (Value.int 1) = some (.int (own_at4 s1 s2 s3 t)) := by rw [own_at4, if_pos h, if_neg k]
theorem own_r4c {s1 s2 s3 t : UInt64} (h : ¬ (0 : Int32) < cmpValue (FP.dcmp s2 t) .g) (k : (0 : Int32) < cmpValue (FP.dcmp s3 t) .g) : some (Value.int 2) = some (.int (own_at4 s1 s2 s3 t)) := by rw [own_at4, if_neg h, if_pos k]
theorem own_r4d {s1 s2 s3 t : UInt64} (h : ¬ (0 : Int32) < cmpValue (FP.dcmp s2 t) .g) (k : ¬ (0 : Int32) < cmpValue (FP.dcmp s3 t) .g) : some (Value.int 3) = some (.int (own_at4 s1 s2 s3 t)) := by rw [own_at4, if_neg h, if_neg k]
/-- the search, in whole numbers -/
theorem own_e2 {s1 t : UInt64} {a d : Int} (h1 : Hn s1 a) (ht : Hn t d) : own_at2 s1 t = if d < a then 0 else 1 := by
  rw [own_at2]; by_cases z : d < a
  · rw [if_pos z, if_pos ((own_gt h1 ht).mpr z)]
  · rw [if_neg z, if_neg (fun w => z ((own_gt h1 ht).mp w))]
theorem own_e3 {s1 s2 t : UInt64} {a b d : Int} (h1 : Hn s1 a) (h2 : Hn s2 b) (ht : Hn t d) : own_at3 s1 s2 t = if d < a then 0 else if d < b then 1 else 2 := by
  rw [own_at3]; by_cases z : d < a
  · rw [if_pos z, if_pos ((own_gt h1 ht).mpr z)]
  · rw [if_neg z, if_neg (fun w => z ((own_gt h1 ht).mp w))]
    by_cases y : d < b
    · rw [if_pos y, if_pos ((own_gt h2 ht).mpr y)]
    · rw [if_neg y, if_neg (fun w => y ((own_gt h2 ht).mp w))]
theorem own_e4 {s1 s2 s3 t : UInt64} {a b c d : Int} (h1 : Hn s1 a) (h2 : Hn s2 b) (h3 : Hn s3 c) (ht : Hn t d) (ab : a ≤ b) (bc : b ≤ c) : own_at4 s1 s2 s3 t = if d < a then 0 else if d < b then 1 else if d < c then 2 else 3 := by
  rw [own_at4]; by_cases y : d < b
  · rw [if_pos ((own_gt h2 ht).mpr y)]
    by_cases z : d < a
    · rw [if_pos z, if_pos ((own_gt h1 ht).mpr z)]
    · rw [if_neg z, if_pos y, if_neg (fun w => z ((own_gt h1 ht).mp w))]
  · rw [if_neg (fun w => y ((own_gt h2 ht).mp w)), if_neg (show ¬ d < a by omega), if_neg y]
    by_cases z : d < c
    · rw [if_pos z, if_pos ((own_gt h3 ht).mpr z)]
    · rw [if_neg z, if_neg (fun w => z ((own_gt h3 ht).mp w))]
end OwnLaw

theorem d1_0 : decode prog_48_method_1_code 0 = .ok (.aload_n 0, 1) := by decide +kernel
theorem d1_1 : decode prog_48_method_1_code 1 = .ok (.invokespecial 1, 3) := by decide +kernel
theorem d1_4 : decode prog_48_method_1_code 4 = .ok (.aload_n 0, 1) := by decide +kernel
theorem d1_5 : decode prog_48_method_1_code 5 = .ok (.aload_n 1, 1) := by decide +kernel
theorem d1_6 : decode prog_48_method_1_code 6 = .ok (.invokevirtual 7, 3) := by decide +kernel
theorem d1_9 : decode prog_48_method_1_code 9 = .ok (.checkcast 8, 3) := by decide +kernel
theorem d1_12 : decode prog_48_method_1_code 12 = .ok (.putfield 13, 3) := by decide +kernel
theorem d1_15 : decode prog_48_method_1_code 15 = .ok (.aload_n 0, 1) := by decide +kernel
theorem d1_16 : decode prog_48_method_1_code 16 = .ok (.aload_n 1, 1) := by decide +kernel
theorem d1_17 : decode prog_48_method_1_code 17 = .ok (.arraylength, 1) := by decide +kernel
theorem d1_18 : decode prog_48_method_1_code 18 = .ok (.iconst 1, 1) := by decide +kernel
theorem d1_19 : decode prog_48_method_1_code 19 = .ok (.iadd, 1) := by decide +kernel
theorem d1_20 : decode prog_48_method_1_code 20 = .ok (.newarray .double, 2) := by decide +kernel
theorem d1_22 : decode prog_48_method_1_code 22 = .ok (.putfield 18, 3) := by decide +kernel
theorem d1_25 : decode prog_48_method_1_code 25 = .ok (.iconst 0, 1) := by decide +kernel
theorem d1_26 : decode prog_48_method_1_code 26 = .ok (.istore_n 2, 1) := by decide +kernel
theorem d1_27 : decode prog_48_method_1_code 27 = .ok (.iload_n 2, 1) := by decide +kernel
theorem d1_28 : decode prog_48_method_1_code 28 = .ok (.aload_n 1, 1) := by decide +kernel
theorem d1_29 : decode prog_48_method_1_code 29 = .ok (.arraylength, 1) := by decide +kernel
theorem d1_30 : decode prog_48_method_1_code 30 = .ok (.if_icmp .ge 27, 3) := by decide +kernel
theorem d1_33 : decode prog_48_method_1_code 33 = .ok (.aload_n 0, 1) := by decide +kernel
theorem d1_34 : decode prog_48_method_1_code 34 = .ok (.getfield 18, 3) := by decide +kernel
theorem d1_37 : decode prog_48_method_1_code 37 = .ok (.iload_n 2, 1) := by decide +kernel
theorem d1_38 : decode prog_48_method_1_code 38 = .ok (.iconst 1, 1) := by decide +kernel
theorem d1_39 : decode prog_48_method_1_code 39 = .ok (.iadd, 1) := by decide +kernel
theorem d1_40 : decode prog_48_method_1_code 40 = .ok (.aload_n 0, 1) := by decide +kernel
theorem d1_41 : decode prog_48_method_1_code 41 = .ok (.getfield 18, 3) := by decide +kernel
theorem d1_44 : decode prog_48_method_1_code 44 = .ok (.iload_n 2, 1) := by decide +kernel
theorem d1_45 : decode prog_48_method_1_code 45 = .ok (.daload, 1) := by decide +kernel
theorem d1_46 : decode prog_48_method_1_code 46 = .ok (.aload_n 1, 1) := by decide +kernel
theorem d1_47 : decode prog_48_method_1_code 47 = .ok (.iload_n 2, 1) := by decide +kernel
theorem d1_48 : decode prog_48_method_1_code 48 = .ok (.daload, 1) := by decide +kernel
theorem d1_49 : decode prog_48_method_1_code 49 = .ok (.dadd, 1) := by decide +kernel
theorem d1_50 : decode prog_48_method_1_code 50 = .ok (.dastore, 1) := by decide +kernel
theorem d1_51 : decode prog_48_method_1_code 51 = .ok (.iinc 2 1, 3) := by decide +kernel
theorem d1_54 : decode prog_48_method_1_code 54 = .ok (.goto (-27), 3) := by decide +kernel
theorem d1_57 : decode prog_48_method_1_code 57 = .ok (.return_, 1) := by decide +kernel
set_option maxRecDepth 65536 in
set_option maxHeartbeats 40000000 in
theorem rm_init1 (l : Launch) (Z : State) (a0 : Array Value) (hw : ∀ d ∈ tables_1, d.before a0 Z = true) (a1 : Addr) (a2 : Addr) (k2 : ClassId) (o1 : Value) (o2 : Value) (x0 : UInt64) (h0 : Heap) (n0 : Nat) (Z0 : n0 ≤ h0.size) (E1 : Exa Z h0 a1 "com/example/palpito/palpito/Segments") (F1 : Fld Z h0 a1 "com/example/palpito/palpito/Segments" "lengthsMs" "[D" o1) (F2 : Fld Z h0 a1 "com/example/palpito/palpito/Segments" "startsMs" "[D" o2) (R1 : Row Z h0 a2 .double k2 [(.double x0)]) (E2 : Exa Z h0 a2 "[D") (i1 : a1 ≠ a2) (g1 : n0 ≤ a1) (hn : Jvm.Free.Fl.NoNaN64 (FP.dadd (0 : UInt64) x0) ∧ True) :
    Con l Z (⟨"com/example/palpito/palpito/Segments", "<init>", "([D)V"⟩ : MethodName) prog_48_method_1_code 3 none ({ frames := 2, cells := 2, slots := 3, locals := 30 } : Room) #[(.ref a1), (.ref a2)] h0 (fun vR hR LR => ∃ (as' : Addr) (ks : ClassId), vR = none ∧ Fr n0 LR ∧ Keep h0 hR [a1] ∧ h0.size ≤ as' ∧ Exa Z hR a1 "com/example/palpito/palpito/Segments" ∧ Fld Z hR a1 "com/example/palpito/palpito/Segments" "startsMs" "[D" (.ref as') ∧ Row Z hR as' .double ks [(.double (0 : UInt64)), (.double (FP.dadd (0 : UInt64) x0))]) := by
  refine enter (l := l) (Z := Z) (y := (⟨"com/example/palpito/palpito/Segments", "<init>", "([D)V"⟩ : MethodName)) (bytes := prog_48_method_1_code) (maxL := 3) (ret := none) (ws := []) (rm := ({ frames := 2, cells := 2, slots := 3, locals := 30 } : Room)) (as' := #[(.ref a1), (.ref a2)]) (h0 := h0) (Qv := (fun vR hR LR => ∃ (as' : Addr) (ks : ClassId), vR = none ∧ Fr n0 LR ∧ Keep h0 hR [a1] ∧ h0.size ≤ as' ∧ Exa Z hR a1 "com/example/palpito/palpito/Segments" ∧ Fld Z hR a1 "com/example/palpito/palpito/Segments" "startsMs" "[D" (.ref as') ∧ Row Z hR as' .double ks [(.double (0 : UInt64)), (.double (FP.dadd (0 : UInt64) x0))])) (kc := 2) (ks := 3) (by first | exact plainFor_of_name (by first | (simp [plainName, overriddenIn]; done) | decide +kernel) | decide +kernel) (Ls := #[.val (.ref a1), .val (.ref a2), .unset]) (fun m => by first | (simp [entryFrame, mkF, argsToLocals, Value.category]; done) | rfl) ?_
  intro p e s m below meth c s₁ hx hby hml hown hnm hret hlk hZ X0 e0
  have hown : s.vm.findClass "com/example/palpito/palpito/Segments" = some m.cls := hown
  have hml : c.maxLocals = 3 := hml
  have N0 := Fr.nil n0
  refine Go.aloadN X0.here hx (Jvm.hb hby d1_0) rfl rfl (q := 1) rfl ?_
  refine Go.init X0 hx hZ hown (word hw 8 rfl) (word hw 9 rfl) (word hw 10 rfl) e0 (Jvm.hb hby d1_1) (by rw [hml]; rfl) (by decide) (W := 0) (Nat.le_of_eq rfl) (by decide) (q := 4) rfl ?_
  intro T101 X101 e101
  refine Go.aloadN X101.here hx (Jvm.hb hby d1_4) rfl rfl (q := 5) rfl ?_
  refine Go.aloadN X101.here hx (Jvm.hb hby d1_5) rfl rfl (q := 6) rfl ?_
  refine Go.clone X101 hx hZ hown (word hw 11 rfl) (word hw 12 rfl) (word hw 16 rfl) (word hw 14 rfl) (word hw 15 rfl) (word hw 17 rfl) e101 R1 E2 rfl (Jvm.hb hby d1_6) (by rw [hml]; rfl) (by decide) (W := 1) (Nat.le_of_eq rfl) (by decide) (k := 1) rfl (by decide) (by decide) (q := 9) rfl ?_
  intro T102 h102 a102 g102 X102 e102 E102 R102 A102
  have r103 : n0 ≤ a102 := Nat.le_trans Z0 (Nat.le_of_eq g102.symm)
  have y103 : h0.size ≤ a102 := Nat.le_trans (Keep.refl h0 [a1]).1 (Nat.le_of_eq g102.symm)
  refine Go.cast X102 hx hZ hown (word hw 18 rfl) e102 (Ins.self A102) (Jvm.hb hby d1_9) (q := 12) rfl ?_
  intro T104 X104 e104
  have f106 := F1.ext E102
  have f107 := E1.ext E102
  refine Go.putf X104 hx hZ hown (word hw 20 rfl) e104 f106 f107 (Or.inr ⟨(word hw 21 rfl), rfl, hnm⟩) (word hw 3 rfl) (ty := (.array .double)) (by decide) rfl rfl (Jvm.hb hby d1_12) (q := 15) rfl ?_
  intro T105 h105 X105 e105 W105
  have N105 := Fr.snoc X105 N0 g1
  have F105 := f106.same W105
  refine Go.aloadN X105.here hx (Jvm.hb hby d1_15) rfl rfl (q := 16) rfl ?_
  refine Go.aloadN X105.here hx (Jvm.hb hby d1_16) rfl rfl (q := 17) rfl ?_
  have f108 := R1.ext E102
  have f109 := f108.other W105 (Ne.symm i1)
  refine Go.alen X105 hx hZ e105 f109 (Jvm.hb hby d1_17) (n := (1 : Int32)) (by first | rfl | decide) (q := 18) rfl ?_
  refine Go.iconst X105.here hx (Jvm.hb hby d1_18) (v := (1 : Int32)) rfl (q := 19) rfl ?_
  refine Go.iadd X105.here hx (Jvm.hb hby d1_19) (v := (2 : Int32)) (by decide) (q := 20) rfl ?_
  refine Go.newarr X105 hx hZ (aty := .double) (word hw 1 rfl) e105 (Jvm.hb hby d1_20) (by decide) (k := 2) (by decide) (by decide) (by decide) (by decide) (ad := "[D") (by decide) (q := 22) rfl ?_
  intro T110 h110 a110 kk110 g110 X110 e110 E110 R110 A110
  have z111 : n0 ≤ h102.size := Nat.le_trans Z0 E102.1
  have z112 : n0 ≤ h105.size := Nat.le_trans z111 (Nat.le_of_eq W105.size.symm)
  have r113 : n0 ≤ a110 := Nat.le_trans z112 (Nat.le_of_eq g110.symm)
  have k114 : Keep h0 h102 [a1] := (Keep.refl h0 [a1]).ext E102
  have k115 : Keep h0 h105 [a1] := k114.wr W105 (Or.inl (List.mem_of_getElem? (i := 0) rfl))
  have y113 : h0.size ≤ a110 := Nat.le_trans k115.1 (Nat.le_of_eq g110.symm)
  have R110 : Row Z h110 a110 .double kk110 [(.double (0 : UInt64)), (.double (0 : UInt64))] := R110
  have f117 := F2.ext E102
  have f118 := f117.other W105 (Or.inr (Jvm.RoadKit.slot_ne (Or.inr (word hw 23 rfl)) (Or.inr (word hw 21 rfl)) (by decide) (t := (.array .double)) (t' := (.array .double)) (by decide) (by decide)))
  have f119 := f118.ext E110
  have f120 := f107.wr W105
  have f121 := f120.ext E110
  refine Go.putf X110 hx hZ hown (word hw 22 rfl) e110 f119 f121 (Or.inr ⟨(word hw 23 rfl), rfl, hnm⟩) (word hw 3 rfl) (ty := (.array .double)) (by decide) rfl rfl (Jvm.hb hby d1_22) (q := 25) rfl ?_
  intro T116 h116 X116 e116 W116
  have N116 := Fr.snoc X116 N105 g1
  have F116 := f119.same W116
  refine Go.iconst X116.here hx (Jvm.hb hby d1_25) (v := (0 : Int32)) rfl (q := 26) rfl ?_
  refine Go.istoreN X116.here hx (Jvm.hb hby d1_26) (l2 := #[.val (.ref a1), .val (.ref a2), .val (.int (0 : Int32))]) rfl (q := 27) rfl ?_
  refine Go.iloadN X116.here hx (Jvm.hb hby d1_27) rfl (q := 28) rfl ?_
  refine Go.aloadN X116.here hx (Jvm.hb hby d1_28) rfl rfl (q := 29) rfl ?_
  have f122 := f109.ext E110
  have f123 := f122.other W116 (Ne.symm i1)
  refine Go.alen X116 hx hZ e116 f123 (Jvm.hb hby d1_29) (n := (1 : Int32)) (by first | rfl | decide) (q := 30) rfl ?_
  have hc30_125 : (0 : Int32) < (1 : Int32) := by decide
  refine Go.icmpN X116.here hx (Jvm.hb hby d1_30) (tlt hc30_125).2.1 (q := 33) rfl ?_
  refine Go.aloadN X116.here hx (Jvm.hb hby d1_33) rfl rfl (q := 34) rfl ?_
  refine Go.getf X116 hx hZ hown (word hw 22 rfl) e116 F116 (Jvm.hb hby d1_34) (q := 37) rfl ?_
  intro T126 X126 e126
  refine Go.iloadN X126.here hx (Jvm.hb hby d1_37) rfl (q := 38) rfl ?_
  refine Go.iconst X126.here hx (Jvm.hb hby d1_38) (v := (1 : Int32)) rfl (q := 39) rfl ?_
  refine Go.iadd X126.here hx (Jvm.hb hby d1_39) (v := (1 : Int32)) (by decide) (q := 40) rfl ?_
  refine Go.aloadN X126.here hx (Jvm.hb hby d1_40) rfl rfl (q := 41) rfl ?_
  refine Go.getf X126 hx hZ hown (word hw 22 rfl) e126 F116 (Jvm.hb hby d1_41) (q := 44) rfl ?_
  intro T127 X127 e127
  refine Go.iloadN X127.here hx (Jvm.hb hby d1_44) rfl (q := 45) rfl ?_
  have ne129 : a1 ≠ a110 := Nat.ne_of_lt (Nat.lt_of_lt_of_le f120.lt (Nat.le_of_eq g110.symm))
  have f128 := R110.other W116 (Ne.symm ne129)
  refine Go.daload X127 hx hZ e127 f128 (Jvm.hb hby d1_45) (i := 0) (by decide) (by decide) rfl (q := 46) rfl ?_
  refine Go.aloadN X127.here hx (Jvm.hb hby d1_46) rfl rfl (q := 47) rfl ?_
  refine Go.iloadN X127.here hx (Jvm.hb hby d1_47) rfl (q := 48) rfl ?_
  refine Go.daload X127 hx hZ e127 f123 (Jvm.hb hby d1_48) (i := 0) (by decide) (by decide) rfl (q := 49) rfl ?_
  obtain ⟨u49, hu49⟩ : ∃ zq, FP.dadd (0 : UInt64) x0 = zq := ⟨_, rfl⟩
  refine Go.dadd X127.here hx (Jvm.hb hby d1_49) (by subst_vars; first | exact hn.1) hu49 (q := 50) rfl ?_
  refine Go.dastore X127 hx hZ e127 f128 (Jvm.hb hby d1_50) (i := 1) (by decide) (by decide) rfl (q := 51) rfl ?_
  intro T130 h130 X130 e130 W130 R130
  have N130 := Fr.snoc X130 N116 r113
  have R130 : Row Z h130 a110 .double kk110 [(.double (0 : UInt64)), (.double u49)] := R130
  refine Go.iinc X130.here hx (Jvm.hb hby d1_51) rfl (v := (1 : Int32)) (by decide) (l2 := #[.val (.ref a1), .val (.ref a2), .val (.int (1 : Int32))]) rfl (q := 54) rfl ?_
  refine Go.goto X130.here hx (Jvm.hb hby d1_54) (by decide) (q := 27) rfl ?_
  refine Go.iloadN X130.here hx (Jvm.hb hby d1_27) rfl (q := 28) rfl ?_
  refine Go.aloadN X130.here hx (Jvm.hb hby d1_28) rfl rfl (q := 29) rfl ?_
  have ne132 : a2 ≠ a110 := Nat.ne_of_lt (Nat.lt_of_lt_of_le f109.lt (Nat.le_of_eq g110.symm))
  have f131 := f123.other W130 ne132
  refine Go.alen X130 hx hZ e130 f131 (Jvm.hb hby d1_29) (n := (1 : Int32)) (by first | rfl | decide) (q := 30) rfl ?_
  have hc30_134 : ¬ ((1 : Int32) < (1 : Int32)) := by decide
  refine Go.icmpY X130.here hx (Jvm.hb hby d1_30) (flt hc30_134).2.1 (by decide) (q := 57) rfl ?_
  subst hu49
  have k135 : Keep h0 h110 [a1] := k115.ext E110
  have k136 : Keep h0 h116 [a1] := k135.wr W116 (Or.inl (List.mem_of_getElem? (i := 0) rfl))
  have k137 : Keep h0 h130 [a1] := k136.wr W130 (Or.inr y113)
  have f138 := f121.wr W116
  have f139 := f138.wr W130
  have f140 := F116.other W130 (Or.inl ne129)
  refine Go.retV X130 hx hret hlk (Jvm.hb hby d1_57) (by decide) (by decide) ?_
  rw [e130]
  exact ⟨a110, kk110, rfl, N130, k137, y113, f139, f140, R130⟩
theorem d3_0 : decode prog_48_method_6_code 0 = .ok (.iconst 0, 1) := by decide +kernel
theorem d3_1 : decode prog_48_method_6_code 1 = .ok (.istore_n 3, 1) := by decide +kernel
theorem d3_2 : decode prog_48_method_6_code 2 = .ok (.aload_n 0, 1) := by decide +kernel
theorem d3_3 : decode prog_48_method_6_code 3 = .ok (.getfield 18, 3) := by decide +kernel
theorem d3_6 : decode prog_48_method_6_code 6 = .ok (.arraylength, 1) := by decide +kernel
theorem d3_7 : decode prog_48_method_6_code 7 = .ok (.iconst 1, 1) := by decide +kernel
theorem d3_8 : decode prog_48_method_6_code 8 = .ok (.isub, 1) := by decide +kernel
theorem d3_9 : decode prog_48_method_6_code 9 = .ok (.istore 4, 2) := by decide +kernel
theorem d3_11 : decode prog_48_method_6_code 11 = .ok (.iload 4, 2) := by decide +kernel
theorem d3_13 : decode prog_48_method_6_code 13 = .ok (.iload_n 3, 1) := by decide +kernel
theorem d3_14 : decode prog_48_method_6_code 14 = .ok (.isub, 1) := by decide +kernel
theorem d3_15 : decode prog_48_method_6_code 15 = .ok (.iconst 1, 1) := by decide +kernel
theorem d3_16 : decode prog_48_method_6_code 16 = .ok (.if_icmp .le 36, 3) := by decide +kernel
theorem d3_19 : decode prog_48_method_6_code 19 = .ok (.iload_n 3, 1) := by decide +kernel
theorem d3_20 : decode prog_48_method_6_code 20 = .ok (.iload 4, 2) := by decide +kernel
theorem d3_22 : decode prog_48_method_6_code 22 = .ok (.iadd, 1) := by decide +kernel
theorem d3_23 : decode prog_48_method_6_code 23 = .ok (.iconst 1, 1) := by decide +kernel
theorem d3_24 : decode prog_48_method_6_code 24 = .ok (.iushr, 1) := by decide +kernel
theorem d3_25 : decode prog_48_method_6_code 25 = .ok (.istore 5, 2) := by decide +kernel
theorem d3_27 : decode prog_48_method_6_code 27 = .ok (.aload_n 0, 1) := by decide +kernel
theorem d3_28 : decode prog_48_method_6_code 28 = .ok (.getfield 18, 3) := by decide +kernel
theorem d3_31 : decode prog_48_method_6_code 31 = .ok (.iload 5, 2) := by decide +kernel
theorem d3_33 : decode prog_48_method_6_code 33 = .ok (.daload, 1) := by decide +kernel
theorem d3_34 : decode prog_48_method_6_code 34 = .ok (.dload_n 1, 1) := by decide +kernel
theorem d3_35 : decode prog_48_method_6_code 35 = .ok (.dcmp .g, 1) := by decide +kernel
theorem d3_36 : decode prog_48_method_6_code 36 = .ok (.ifCond .gt 9, 3) := by decide +kernel
theorem d3_39 : decode prog_48_method_6_code 39 = .ok (.iload 5, 2) := by decide +kernel
theorem d3_41 : decode prog_48_method_6_code 41 = .ok (.istore_n 3, 1) := by decide +kernel
theorem d3_42 : decode prog_48_method_6_code 42 = .ok (.goto 7, 3) := by decide +kernel
theorem d3_45 : decode prog_48_method_6_code 45 = .ok (.iload 5, 2) := by decide +kernel
theorem d3_47 : decode prog_48_method_6_code 47 = .ok (.istore 4, 2) := by decide +kernel
theorem d3_49 : decode prog_48_method_6_code 49 = .ok (.goto (-38), 3) := by decide +kernel
theorem d3_52 : decode prog_48_method_6_code 52 = .ok (.iload_n 3, 1) := by decide +kernel
theorem d3_53 : decode prog_48_method_6_code 53 = .ok (.ireturn, 1) := by decide +kernel
set_option maxRecDepth 65536 in
set_option maxHeartbeats 40000000 in
theorem rm_at1 (l : Launch) (Z : State) (a0 : Array Value) (hw : ∀ d ∈ tables_1, d.before a0 Z = true) (a1 : Addr) (as' : Addr) (ks : ClassId) (t : UInt64) (s0 : UInt64) (s1 : UInt64) (h0 : Heap) (n0 : Nat) (Z0 : n0 ≤ h0.size) (F2 : Fld Z h0 a1 "com/example/palpito/palpito/Segments" "startsMs" "[D" (.ref as')) (R1 : Row Z h0 as' .double ks [(.double s0), (.double s1)]) :
    Con l Z (⟨"com/example/palpito/palpito/Segments", "at", "(D)I"⟩ : MethodName) prog_48_method_6_code 6 (some .int) ({ frames := 0, cells := 0, slots := 0, locals := 0 } : Room) #[(.ref a1), (.double t)] h0 (fun vR hR LR => vR = some (.int (0 : Int32)) ∧ Fr n0 LR ∧ hR = h0) := by
  refine enter (l := l) (Z := Z) (y := (⟨"com/example/palpito/palpito/Segments", "at", "(D)I"⟩ : MethodName)) (bytes := prog_48_method_6_code) (maxL := 6) (ret := (some .int)) (ws := []) (rm := ({ frames := 0, cells := 0, slots := 0, locals := 0 } : Room)) (as' := #[(.ref a1), (.double t)]) (h0 := h0) (Qv := (fun vR hR LR => vR = some (.int (0 : Int32)) ∧ Fr n0 LR ∧ hR = h0)) (kc := 0) (ks := 0) (by first | exact plainFor_of_name (by first | (simp [plainName, overriddenIn]; done) | decide +kernel) | decide +kernel) (Ls := #[.val (.ref a1), .val (.double t), .second, .unset, .unset, .unset]) (fun m => by first | (simp [entryFrame, mkF, argsToLocals, Value.category]; done) | rfl) ?_
  intro p e s m below meth c s₁ hx hby hml hown hnm hret hlk hZ X0 e0
  have hown : s.vm.findClass "com/example/palpito/palpito/Segments" = some m.cls := hown
  have hml : c.maxLocals = 6 := hml
  have N0 := Fr.nil n0
  refine Go.iconst X0.here hx (Jvm.hb hby d3_0) (v := (0 : Int32)) rfl (q := 1) rfl ?_
  refine Go.istoreN X0.here hx (Jvm.hb hby d3_1) (l2 := #[.val (.ref a1), .val (.double t), .second, .val (.int (0 : Int32)), .unset, .unset]) rfl (q := 2) rfl ?_
  refine Go.aloadN X0.here hx (Jvm.hb hby d3_2) rfl rfl (q := 3) rfl ?_
  refine Go.getf X0 hx hZ hown (word hw 22 rfl) e0 F2 (Jvm.hb hby d3_3) (q := 6) rfl ?_
  intro T101 X101 e101
  refine Go.alen X101 hx hZ e101 R1 (Jvm.hb hby d3_6) (n := (2 : Int32)) (by first | rfl | decide) (q := 7) rfl ?_
  refine Go.iconst X101.here hx (Jvm.hb hby d3_7) (v := (1 : Int32)) rfl (q := 8) rfl ?_
  refine Go.isub X101.here hx (Jvm.hb hby d3_8) (v := (1 : Int32)) (by decide) (q := 9) rfl ?_
  refine Go.istore X101.here hx (Jvm.hb hby d3_9) (l2 := #[.val (.ref a1), .val (.double t), .second, .val (.int (0 : Int32)), .val (.int (1 : Int32)), .unset]) rfl (q := 11) rfl ?_
  refine Go.iload X101.here hx (Jvm.hb hby d3_11) rfl (q := 13) rfl ?_
  refine Go.iloadN X101.here hx (Jvm.hb hby d3_13) rfl (q := 14) rfl ?_
  refine Go.isub X101.here hx (Jvm.hb hby d3_14) (v := (1 : Int32)) (by decide) (q := 15) rfl ?_
  refine Go.iconst X101.here hx (Jvm.hb hby d3_15) (v := (1 : Int32)) rfl (q := 16) rfl ?_
  have hc16_103 : ¬ ((1 : Int32) < (1 : Int32)) := by decide
  refine Go.icmpY X101.here hx (Jvm.hb hby d3_16) (flt hc16_103).2.2.2 (by decide) (q := 52) rfl ?_
  refine Go.iloadN X101.here hx (Jvm.hb hby d3_52) rfl (q := 53) rfl ?_
  refine Go.retI X101 hx hret hlk (Jvm.hb hby d3_53) (by decide) (by decide) ?_
  exact ⟨rfl, N0, e101⟩
set_option maxRecDepth 65536 in
set_option maxHeartbeats 40000000 in
theorem rm_init2 (l : Launch) (Z : State) (a0 : Array Value) (hw : ∀ d ∈ tables_1, d.before a0 Z = true) (a1 : Addr) (a2 : Addr) (k2 : ClassId) (o1 : Value) (o2 : Value) (x0 : UInt64) (x1 : UInt64) (h0 : Heap) (n0 : Nat) (Z0 : n0 ≤ h0.size) (E1 : Exa Z h0 a1 "com/example/palpito/palpito/Segments") (F1 : Fld Z h0 a1 "com/example/palpito/palpito/Segments" "lengthsMs" "[D" o1) (F2 : Fld Z h0 a1 "com/example/palpito/palpito/Segments" "startsMs" "[D" o2) (R1 : Row Z h0 a2 .double k2 [(.double x0), (.double x1)]) (E2 : Exa Z h0 a2 "[D") (i1 : a1 ≠ a2) (g1 : n0 ≤ a1) (hn : Jvm.Free.Fl.NoNaN64 (FP.dadd (0 : UInt64) x0) ∧ Jvm.Free.Fl.NoNaN64 (FP.dadd (FP.dadd (0 : UInt64) x0) x1) ∧ True) :
    Con l Z (⟨"com/example/palpito/palpito/Segments", "<init>", "([D)V"⟩ : MethodName) prog_48_method_1_code 3 none ({ frames := 2, cells := 2, slots := 5, locals := 30 } : Room) #[(.ref a1), (.ref a2)] h0 (fun vR hR LR => ∃ (as' : Addr) (ks : ClassId), vR = none ∧ Fr n0 LR ∧ Keep h0 hR [a1] ∧ h0.size ≤ as' ∧ Exa Z hR a1 "com/example/palpito/palpito/Segments" ∧ Fld Z hR a1 "com/example/palpito/palpito/Segments" "startsMs" "[D" (.ref as') ∧ Row Z hR as' .double ks [(.double (0 : UInt64)), (.double (FP.dadd (0 : UInt64) x0)), (.double (FP.dadd (FP.dadd (0 : UInt64) x0) x1))]) := by
  refine enter (l := l) (Z := Z) (y := (⟨"com/example/palpito/palpito/Segments", "<init>", "([D)V"⟩ : MethodName)) (bytes := prog_48_method_1_code) (maxL := 3) (ret := none) (ws := []) (rm := ({ frames := 2, cells := 2, slots := 5, locals := 30 } : Room)) (as' := #[(.ref a1), (.ref a2)]) (h0 := h0) (Qv := (fun vR hR LR => ∃ (as' : Addr) (ks : ClassId), vR = none ∧ Fr n0 LR ∧ Keep h0 hR [a1] ∧ h0.size ≤ as' ∧ Exa Z hR a1 "com/example/palpito/palpito/Segments" ∧ Fld Z hR a1 "com/example/palpito/palpito/Segments" "startsMs" "[D" (.ref as') ∧ Row Z hR as' .double ks [(.double (0 : UInt64)), (.double (FP.dadd (0 : UInt64) x0)), (.double (FP.dadd (FP.dadd (0 : UInt64) x0) x1))])) (kc := 2) (ks := 5) (by first | exact plainFor_of_name (by first | (simp [plainName, overriddenIn]; done) | decide +kernel) | decide +kernel) (Ls := #[.val (.ref a1), .val (.ref a2), .unset]) (fun m => by first | (simp [entryFrame, mkF, argsToLocals, Value.category]; done) | rfl) ?_
  intro p e s m below meth c s₁ hx hby hml hown hnm hret hlk hZ X0 e0
  have hown : s.vm.findClass "com/example/palpito/palpito/Segments" = some m.cls := hown
  have hml : c.maxLocals = 3 := hml
  have N0 := Fr.nil n0
  refine Go.aloadN X0.here hx (Jvm.hb hby d1_0) rfl rfl (q := 1) rfl ?_
  refine Go.init X0 hx hZ hown (word hw 8 rfl) (word hw 9 rfl) (word hw 10 rfl) e0 (Jvm.hb hby d1_1) (by rw [hml]; rfl) (by decide) (W := 0) (Nat.le_of_eq rfl) (by decide) (q := 4) rfl ?_
  intro T101 X101 e101
  refine Go.aloadN X101.here hx (Jvm.hb hby d1_4) rfl rfl (q := 5) rfl ?_
  refine Go.aloadN X101.here hx (Jvm.hb hby d1_5) rfl rfl (q := 6) rfl ?_
  refine Go.clone X101 hx hZ hown (word hw 11 rfl) (word hw 12 rfl) (word hw 16 rfl) (word hw 14 rfl) (word hw 15 rfl) (word hw 17 rfl) e101 R1 E2 rfl (Jvm.hb hby d1_6) (by rw [hml]; rfl) (by decide) (W := 1) (Nat.le_of_eq rfl) (by decide) (k := 2) rfl (by decide) (by decide) (q := 9) rfl ?_
  intro T102 h102 a102 g102 X102 e102 E102 R102 A102
  have r103 : n0 ≤ a102 := Nat.le_trans Z0 (Nat.le_of_eq g102.symm)
  have y103 : h0.size ≤ a102 := Nat.le_trans (Keep.refl h0 [a1]).1 (Nat.le_of_eq g102.symm)
  refine Go.cast X102 hx hZ hown (word hw 18 rfl) e102 (Ins.self A102) (Jvm.hb hby d1_9) (q := 12) rfl ?_
  intro T104 X104 e104
  have f106 := F1.ext E102
  have f107 := E1.ext E102
  refine Go.putf X104 hx hZ hown (word hw 20 rfl) e104 f106 f107 (Or.inr ⟨(word hw 21 rfl), rfl, hnm⟩) (word hw 3 rfl) (ty := (.array .double)) (by decide) rfl rfl (Jvm.hb hby d1_12) (q := 15) rfl ?_
  intro T105 h105 X105 e105 W105
  have N105 := Fr.snoc X105 N0 g1
  have F105 := f106.same W105
  refine Go.aloadN X105.here hx (Jvm.hb hby d1_15) rfl rfl (q := 16) rfl ?_
  refine Go.aloadN X105.here hx (Jvm.hb hby d1_16) rfl rfl (q := 17) rfl ?_
  have f108 := R1.ext E102
  have f109 := f108.other W105 (Ne.symm i1)
  refine Go.alen X105 hx hZ e105 f109 (Jvm.hb hby d1_17) (n := (2 : Int32)) (by first | rfl | decide) (q := 18) rfl ?_
  refine Go.iconst X105.here hx (Jvm.hb hby d1_18) (v := (1 : Int32)) rfl (q := 19) rfl ?_
  refine Go.iadd X105.here hx (Jvm.hb hby d1_19) (v := (3 : Int32)) (by decide) (q := 20) rfl ?_
  refine Go.newarr X105 hx hZ (aty := .double) (word hw 1 rfl) e105 (Jvm.hb hby d1_20) (by decide) (k := 3) (by decide) (by decide) (by decide) (by decide) (ad := "[D") (by decide) (q := 22) rfl ?_
  intro T110 h110 a110 kk110 g110 X110 e110 E110 R110 A110
  have z111 : n0 ≤ h102.size := Nat.le_trans Z0 E102.1
  have z112 : n0 ≤ h105.size := Nat.le_trans z111 (Nat.le_of_eq W105.size.symm)
  have r113 : n0 ≤ a110 := Nat.le_trans z112 (Nat.le_of_eq g110.symm)
  have k114 : Keep h0 h102 [a1] := (Keep.refl h0 [a1]).ext E102
  have k115 : Keep h0 h105 [a1] := k114.wr W105 (Or.inl (List.mem_of_getElem? (i := 0) rfl))
  have y113 : h0.size ≤ a110 := Nat.le_trans k115.1 (Nat.le_of_eq g110.symm)
  have R110 : Row Z h110 a110 .double kk110 [(.double (0 : UInt64)), (.double (0 : UInt64)), (.double (0 : UInt64))] := R110
  have f117 := F2.ext E102
  have f118 := f117.other W105 (Or.inr (Jvm.RoadKit.slot_ne (Or.inr (word hw 23 rfl)) (Or.inr (word hw 21 rfl)) (by decide) (t := (.array .double)) (t' := (.array .double)) (by decide) (by decide)))
  have f119 := f118.ext E110
  have f120 := f107.wr W105
  have f121 := f120.ext E110
  refine Go.putf X110 hx hZ hown (word hw 22 rfl) e110 f119 f121 (Or.inr ⟨(word hw 23 rfl), rfl, hnm⟩) (word hw 3 rfl) (ty := (.array .double)) (by decide) rfl rfl (Jvm.hb hby d1_22) (q := 25) rfl ?_
  intro T116 h116 X116 e116 W116
  have N116 := Fr.snoc X116 N105 g1
  have F116 := f119.same W116
  refine Go.iconst X116.here hx (Jvm.hb hby d1_25) (v := (0 : Int32)) rfl (q := 26) rfl ?_
  refine Go.istoreN X116.here hx (Jvm.hb hby d1_26) (l2 := #[.val (.ref a1), .val (.ref a2), .val (.int (0 : Int32))]) rfl (q := 27) rfl ?_
  refine Go.iloadN X116.here hx (Jvm.hb hby d1_27) rfl (q := 28) rfl ?_
  refine Go.aloadN X116.here hx (Jvm.hb hby d1_28) rfl rfl (q := 29) rfl ?_
  have f122 := f109.ext E110
  have f123 := f122.other W116 (Ne.symm i1)
  refine Go.alen X116 hx hZ e116 f123 (Jvm.hb hby d1_29) (n := (2 : Int32)) (by first | rfl | decide) (q := 30) rfl ?_
  have hc30_125 : (0 : Int32) < (2 : Int32) := by decide
  refine Go.icmpN X116.here hx (Jvm.hb hby d1_30) (tlt hc30_125).2.1 (q := 33) rfl ?_
  refine Go.aloadN X116.here hx (Jvm.hb hby d1_33) rfl rfl (q := 34) rfl ?_
  refine Go.getf X116 hx hZ hown (word hw 22 rfl) e116 F116 (Jvm.hb hby d1_34) (q := 37) rfl ?_
  intro T126 X126 e126
  refine Go.iloadN X126.here hx (Jvm.hb hby d1_37) rfl (q := 38) rfl ?_
  refine Go.iconst X126.here hx (Jvm.hb hby d1_38) (v := (1 : Int32)) rfl (q := 39) rfl ?_
  refine Go.iadd X126.here hx (Jvm.hb hby d1_39) (v := (1 : Int32)) (by decide) (q := 40) rfl ?_
  refine Go.aloadN X126.here hx (Jvm.hb hby d1_40) rfl rfl (q := 41) rfl ?_
  refine Go.getf X126 hx hZ hown (word hw 22 rfl) e126 F116 (Jvm.hb hby d1_41) (q := 44) rfl ?_
  intro T127 X127 e127
  refine Go.iloadN X127.here hx (Jvm.hb hby d1_44) rfl (q := 45) rfl ?_
  have ne129 : a1 ≠ a110 := Nat.ne_of_lt (Nat.lt_of_lt_of_le f120.lt (Nat.le_of_eq g110.symm))
  have f128 := R110.other W116 (Ne.symm ne129)
  refine Go.daload X127 hx hZ e127 f128 (Jvm.hb hby d1_45) (i := 0) (by decide) (by decide) rfl (q := 46) rfl ?_
  refine Go.aloadN X127.here hx (Jvm.hb hby d1_46) rfl rfl (q := 47) rfl ?_
  refine Go.iloadN X127.here hx (Jvm.hb hby d1_47) rfl (q := 48) rfl ?_
  refine Go.daload X127 hx hZ e127 f123 (Jvm.hb hby d1_48) (i := 0) (by decide) (by decide) rfl (q := 49) rfl ?_
  obtain ⟨u49, hu49⟩ : ∃ zq, FP.dadd (0 : UInt64) x0 = zq := ⟨_, rfl⟩
  refine Go.dadd X127.here hx (Jvm.hb hby d1_49) (by subst_vars; first | exact hn.1 | exact hn.2.1) hu49 (q := 50) rfl ?_
  refine Go.dastore X127 hx hZ e127 f128 (Jvm.hb hby d1_50) (i := 1) (by decide) (by decide) rfl (q := 51) rfl ?_
  intro T130 h130 X130 e130 W130 R130
  have N130 := Fr.snoc X130 N116 r113
  have R130 : Row Z h130 a110 .double kk110 [(.double (0 : UInt64)), (.double u49), (.double (0 : UInt64))] := R130
  refine Go.iinc X130.here hx (Jvm.hb hby d1_51) rfl (v := (1 : Int32)) (by decide) (l2 := #[.val (.ref a1), .val (.ref a2), .val (.int (1 : Int32))]) rfl (q := 54) rfl ?_
  refine Go.goto X130.here hx (Jvm.hb hby d1_54) (by decide) (q := 27) rfl ?_
  refine Go.iloadN X130.here hx (Jvm.hb hby d1_27) rfl (q := 28) rfl ?_
  refine Go.aloadN X130.here hx (Jvm.hb hby d1_28) rfl rfl (q := 29) rfl ?_
  have ne132 : a2 ≠ a110 := Nat.ne_of_lt (Nat.lt_of_lt_of_le f109.lt (Nat.le_of_eq g110.symm))
  have f131 := f123.other W130 ne132
  refine Go.alen X130 hx hZ e130 f131 (Jvm.hb hby d1_29) (n := (2 : Int32)) (by first | rfl | decide) (q := 30) rfl ?_
  have hc30_134 : (1 : Int32) < (2 : Int32) := by decide
  refine Go.icmpN X130.here hx (Jvm.hb hby d1_30) (tlt hc30_134).2.1 (q := 33) rfl ?_
  refine Go.aloadN X130.here hx (Jvm.hb hby d1_33) rfl rfl (q := 34) rfl ?_
  have f136 := F116.other W130 (Or.inl ne129)
  refine Go.getf X130 hx hZ hown (word hw 22 rfl) e130 f136 (Jvm.hb hby d1_34) (q := 37) rfl ?_
  intro T135 X135 e135
  refine Go.iloadN X135.here hx (Jvm.hb hby d1_37) rfl (q := 38) rfl ?_
  refine Go.iconst X135.here hx (Jvm.hb hby d1_38) (v := (1 : Int32)) rfl (q := 39) rfl ?_
  refine Go.iadd X135.here hx (Jvm.hb hby d1_39) (v := (2 : Int32)) (by decide) (q := 40) rfl ?_
  refine Go.aloadN X135.here hx (Jvm.hb hby d1_40) rfl rfl (q := 41) rfl ?_
  refine Go.getf X135 hx hZ hown (word hw 22 rfl) e135 f136 (Jvm.hb hby d1_41) (q := 44) rfl ?_
  intro T137 X137 e137
  refine Go.iloadN X137.here hx (Jvm.hb hby d1_44) rfl (q := 45) rfl ?_
  refine Go.daload X137 hx hZ e137 R130 (Jvm.hb hby d1_45) (i := 1) (by decide) (by decide) rfl (q := 46) rfl ?_
  refine Go.aloadN X137.here hx (Jvm.hb hby d1_46) rfl rfl (q := 47) rfl ?_
  refine Go.iloadN X137.here hx (Jvm.hb hby d1_47) rfl (q := 48) rfl ?_
  refine Go.daload X137 hx hZ e137 f131 (Jvm.hb hby d1_48) (i := 1) (by decide) (by decide) rfl (q := 49) rfl ?_
  obtain ⟨u49_1, hu49_1⟩ : ∃ zq, FP.dadd u49 x1 = zq := ⟨_, rfl⟩
  refine Go.dadd X137.here hx (Jvm.hb hby d1_49) (by subst_vars; first | exact hn.1 | exact hn.2.1) hu49_1 (q := 50) rfl ?_
  refine Go.dastore X137 hx hZ e137 R130 (Jvm.hb hby d1_50) (i := 2) (by decide) (by decide) rfl (q := 51) rfl ?_
  intro T138 h138 X138 e138 W138 R138
  have N138 := Fr.snoc X138 N130 r113
  have R138 : Row Z h138 a110 .double kk110 [(.double (0 : UInt64)), (.double u49), (.double u49_1)] := R138
  refine Go.iinc X138.here hx (Jvm.hb hby d1_51) rfl (v := (2 : Int32)) (by decide) (l2 := #[.val (.ref a1), .val (.ref a2), .val (.int (2 : Int32))]) rfl (q := 54) rfl ?_
  refine Go.goto X138.here hx (Jvm.hb hby d1_54) (by decide) (q := 27) rfl ?_
  refine Go.iloadN X138.here hx (Jvm.hb hby d1_27) rfl (q := 28) rfl ?_
  refine Go.aloadN X138.here hx (Jvm.hb hby d1_28) rfl rfl (q := 29) rfl ?_
  have f139 := f131.other W138 ne132
  refine Go.alen X138 hx hZ e138 f139 (Jvm.hb hby d1_29) (n := (2 : Int32)) (by first | rfl | decide) (q := 30) rfl ?_
  have hc30_141 : ¬ ((2 : Int32) < (2 : Int32)) := by decide
  refine Go.icmpY X138.here hx (Jvm.hb hby d1_30) (flt hc30_141).2.1 (by decide) (q := 57) rfl ?_
  subst hu49 hu49_1
  have k142 : Keep h0 h110 [a1] := k115.ext E110
  have k143 : Keep h0 h116 [a1] := k142.wr W116 (Or.inl (List.mem_of_getElem? (i := 0) rfl))
  have k144 : Keep h0 h130 [a1] := k143.wr W130 (Or.inr y113)
  have k145 : Keep h0 h138 [a1] := k144.wr W138 (Or.inr y113)
  have f146 := f121.wr W116
  have f147 := f146.wr W130
  have f148 := f147.wr W138
  have f149 := f136.other W138 (Or.inl ne129)
  refine Go.retV X138 hx hret hlk (Jvm.hb hby d1_57) (by decide) (by decide) ?_
  rw [e138]
  exact ⟨a110, kk110, rfl, N138, k145, y113, f148, f149, R138⟩
set_option maxRecDepth 65536 in
set_option maxHeartbeats 40000000 in
theorem rm_at2 (l : Launch) (Z : State) (a0 : Array Value) (hw : ∀ d ∈ tables_1, d.before a0 Z = true) (a1 : Addr) (as' : Addr) (ks : ClassId) (t : UInt64) (s0 : UInt64) (s1 : UInt64) (s2 : UInt64) (h0 : Heap) (n0 : Nat) (Z0 : n0 ≤ h0.size) (F2 : Fld Z h0 a1 "com/example/palpito/palpito/Segments" "startsMs" "[D" (.ref as')) (R1 : Row Z h0 as' .double ks [(.double s0), (.double s1), (.double s2)]) :
    Con l Z (⟨"com/example/palpito/palpito/Segments", "at", "(D)I"⟩ : MethodName) prog_48_method_6_code 6 (some .int) ({ frames := 0, cells := 0, slots := 0, locals := 0 } : Room) #[(.ref a1), (.double t)] h0 (fun vR hR LR => vR = some (.int (own_at2 s1 t)) ∧ Fr n0 LR ∧ hR = h0) := by
  refine enter (l := l) (Z := Z) (y := (⟨"com/example/palpito/palpito/Segments", "at", "(D)I"⟩ : MethodName)) (bytes := prog_48_method_6_code) (maxL := 6) (ret := (some .int)) (ws := []) (rm := ({ frames := 0, cells := 0, slots := 0, locals := 0 } : Room)) (as' := #[(.ref a1), (.double t)]) (h0 := h0) (Qv := (fun vR hR LR => vR = some (.int (own_at2 s1 t)) ∧ Fr n0 LR ∧ hR = h0)) (kc := 0) (ks := 0) (by first | exact plainFor_of_name (by first | (simp [plainName, overriddenIn]; done) | decide +kernel) | decide +kernel) (Ls := #[.val (.ref a1), .val (.double t), .second, .unset, .unset, .unset]) (fun m => by first | (simp [entryFrame, mkF, argsToLocals, Value.category]; done) | rfl) ?_
  intro p e s m below meth c s₁ hx hby hml hown hnm hret hlk hZ X0 e0
  have hown : s.vm.findClass "com/example/palpito/palpito/Segments" = some m.cls := hown
  have hml : c.maxLocals = 6 := hml
  have N0 := Fr.nil n0
  refine Go.iconst X0.here hx (Jvm.hb hby d3_0) (v := (0 : Int32)) rfl (q := 1) rfl ?_
  refine Go.istoreN X0.here hx (Jvm.hb hby d3_1) (l2 := #[.val (.ref a1), .val (.double t), .second, .val (.int (0 : Int32)), .unset, .unset]) rfl (q := 2) rfl ?_
  refine Go.aloadN X0.here hx (Jvm.hb hby d3_2) rfl rfl (q := 3) rfl ?_
  refine Go.getf X0 hx hZ hown (word hw 22 rfl) e0 F2 (Jvm.hb hby d3_3) (q := 6) rfl ?_
  intro T101 X101 e101
  refine Go.alen X101 hx hZ e101 R1 (Jvm.hb hby d3_6) (n := (3 : Int32)) (by first | rfl | decide) (q := 7) rfl ?_
  refine Go.iconst X101.here hx (Jvm.hb hby d3_7) (v := (1 : Int32)) rfl (q := 8) rfl ?_
  refine Go.isub X101.here hx (Jvm.hb hby d3_8) (v := (2 : Int32)) (by decide) (q := 9) rfl ?_
  refine Go.istore X101.here hx (Jvm.hb hby d3_9) (l2 := #[.val (.ref a1), .val (.double t), .second, .val (.int (0 : Int32)), .val (.int (2 : Int32)), .unset]) rfl (q := 11) rfl ?_
  refine Go.iload X101.here hx (Jvm.hb hby d3_11) rfl (q := 13) rfl ?_
  refine Go.iloadN X101.here hx (Jvm.hb hby d3_13) rfl (q := 14) rfl ?_
  refine Go.isub X101.here hx (Jvm.hb hby d3_14) (v := (2 : Int32)) (by decide) (q := 15) rfl ?_
  refine Go.iconst X101.here hx (Jvm.hb hby d3_15) (v := (1 : Int32)) rfl (q := 16) rfl ?_
  have hc16_103 : (1 : Int32) < (2 : Int32) := by decide
  refine Go.icmpN X101.here hx (Jvm.hb hby d3_16) (tlt hc16_103).2.2.2 (q := 19) rfl ?_
  refine Go.iloadN X101.here hx (Jvm.hb hby d3_19) rfl (q := 20) rfl ?_
  refine Go.iload X101.here hx (Jvm.hb hby d3_20) rfl (q := 22) rfl ?_
  refine Go.iadd X101.here hx (Jvm.hb hby d3_22) (v := (2 : Int32)) (by decide) (q := 23) rfl ?_
  refine Go.iconst X101.here hx (Jvm.hb hby d3_23) (v := (1 : Int32)) rfl (q := 24) rfl ?_
  refine Go.iushr X101.here hx (Jvm.hb hby d3_24) (v := (1 : Int32)) (by decide) (q := 25) rfl ?_
  refine Go.istore X101.here hx (Jvm.hb hby d3_25) (l2 := #[.val (.ref a1), .val (.double t), .second, .val (.int (0 : Int32)), .val (.int (2 : Int32)), .val (.int (1 : Int32))]) rfl (q := 27) rfl ?_
  refine Go.aloadN X101.here hx (Jvm.hb hby d3_27) rfl rfl (q := 28) rfl ?_
  refine Go.getf X101 hx hZ hown (word hw 22 rfl) e101 F2 (Jvm.hb hby d3_28) (q := 31) rfl ?_
  intro T104 X104 e104
  refine Go.iload X104.here hx (Jvm.hb hby d3_31) rfl (q := 33) rfl ?_
  refine Go.daload X104 hx hZ e104 R1 (Jvm.hb hby d3_33) (i := 1) (by decide) (by decide) rfl (q := 34) rfl ?_
  refine Go.dloadN X104.here hx (Jvm.hb hby d3_34) rfl (q := 35) rfl ?_
  obtain ⟨u35, hu35⟩ : ∃ zq, cmpValue (FP.dcmp s1 t) .g = zq := ⟨_, rfl⟩
  refine Go.dcmp X104.here hx (Jvm.hb hby d3_35) hu35 (q := 36) rfl ?_
  by_cases hc36 : (0 : Int32) < u35
  · -- pc 36: (0 : Int32) < u35
    refine Go.ifY X104.here hx (Jvm.hb hby d3_36) ((if0 _ _).trans (tlt hc36).2.2.1) (by decide) (q := 45) rfl ?_
    refine Go.iload X104.here hx (Jvm.hb hby d3_45) rfl (q := 47) rfl ?_
    refine Go.istore X104.here hx (Jvm.hb hby d3_47) (l2 := #[.val (.ref a1), .val (.double t), .second, .val (.int (0 : Int32)), .val (.int (1 : Int32)), .val (.int (1 : Int32))]) rfl (q := 49) rfl ?_
    refine Go.goto X104.here hx (Jvm.hb hby d3_49) (by decide) (q := 11) rfl ?_
    refine Go.iload X104.here hx (Jvm.hb hby d3_11) rfl (q := 13) rfl ?_
    refine Go.iloadN X104.here hx (Jvm.hb hby d3_13) rfl (q := 14) rfl ?_
    refine Go.isub X104.here hx (Jvm.hb hby d3_14) (v := (1 : Int32)) (by decide) (q := 15) rfl ?_
    refine Go.iconst X104.here hx (Jvm.hb hby d3_15) (v := (1 : Int32)) rfl (q := 16) rfl ?_
    have hc16_107 : ¬ ((1 : Int32) < (1 : Int32)) := by decide
    refine Go.icmpY X104.here hx (Jvm.hb hby d3_16) (flt hc16_107).2.2.2 (by decide) (q := 52) rfl ?_
    refine Go.iloadN X104.here hx (Jvm.hb hby d3_52) rfl (q := 53) rfl ?_
    refine Go.retI X104 hx hret hlk (Jvm.hb hby d3_53) (by decide) (by decide) ?_
    exact ⟨by subst_vars; first | exact own_r2a hc36 | exact own_r2b hc36, N0, e104⟩
  · -- pc 36: not (0 : Int32) < u35
    refine Go.ifN X104.here hx (Jvm.hb hby d3_36) ((if0 _ _).trans (flt hc36).2.2.1) (q := 39) rfl ?_
    refine Go.iload X104.here hx (Jvm.hb hby d3_39) rfl (q := 41) rfl ?_
    refine Go.istoreN X104.here hx (Jvm.hb hby d3_41) (l2 := #[.val (.ref a1), .val (.double t), .second, .val (.int (1 : Int32)), .val (.int (2 : Int32)), .val (.int (1 : Int32))]) rfl (q := 42) rfl ?_
    refine Go.goto X104.here hx (Jvm.hb hby d3_42) (by decide) (q := 49) rfl ?_
    refine Go.goto X104.here hx (Jvm.hb hby d3_49) (by decide) (q := 11) rfl ?_
    refine Go.iload X104.here hx (Jvm.hb hby d3_11) rfl (q := 13) rfl ?_
    refine Go.iloadN X104.here hx (Jvm.hb hby d3_13) rfl (q := 14) rfl ?_
    refine Go.isub X104.here hx (Jvm.hb hby d3_14) (v := (1 : Int32)) (by decide) (q := 15) rfl ?_
    refine Go.iconst X104.here hx (Jvm.hb hby d3_15) (v := (1 : Int32)) rfl (q := 16) rfl ?_
    have hc16_109 : ¬ ((1 : Int32) < (1 : Int32)) := by decide
    refine Go.icmpY X104.here hx (Jvm.hb hby d3_16) (flt hc16_109).2.2.2 (by decide) (q := 52) rfl ?_
    refine Go.iloadN X104.here hx (Jvm.hb hby d3_52) rfl (q := 53) rfl ?_
    refine Go.retI X104 hx hret hlk (Jvm.hb hby d3_53) (by decide) (by decide) ?_
    exact ⟨by subst_vars; first | exact own_r2a hc36 | exact own_r2b hc36, N0, e104⟩
set_option maxRecDepth 65536 in
set_option maxHeartbeats 40000000 in
theorem rm_init3 (l : Launch) (Z : State) (a0 : Array Value) (hw : ∀ d ∈ tables_1, d.before a0 Z = true) (a1 : Addr) (a2 : Addr) (k2 : ClassId) (o1 : Value) (o2 : Value) (x0 : UInt64) (x1 : UInt64) (x2 : UInt64) (h0 : Heap) (n0 : Nat) (Z0 : n0 ≤ h0.size) (E1 : Exa Z h0 a1 "com/example/palpito/palpito/Segments") (F1 : Fld Z h0 a1 "com/example/palpito/palpito/Segments" "lengthsMs" "[D" o1) (F2 : Fld Z h0 a1 "com/example/palpito/palpito/Segments" "startsMs" "[D" o2) (R1 : Row Z h0 a2 .double k2 [(.double x0), (.double x1), (.double x2)]) (E2 : Exa Z h0 a2 "[D") (i1 : a1 ≠ a2) (g1 : n0 ≤ a1) (hn : Jvm.Free.Fl.NoNaN64 (FP.dadd (0 : UInt64) x0) ∧ Jvm.Free.Fl.NoNaN64 (FP.dadd (FP.dadd (0 : UInt64) x0) x1) ∧ Jvm.Free.Fl.NoNaN64 (FP.dadd (FP.dadd (FP.dadd (0 : UInt64) x0) x1) x2) ∧ True) :
    Con l Z (⟨"com/example/palpito/palpito/Segments", "<init>", "([D)V"⟩ : MethodName) prog_48_method_1_code 3 none ({ frames := 2, cells := 2, slots := 7, locals := 30 } : Room) #[(.ref a1), (.ref a2)] h0 (fun vR hR LR => ∃ (as' : Addr) (ks : ClassId), vR = none ∧ Fr n0 LR ∧ Keep h0 hR [a1] ∧ h0.size ≤ as' ∧ Exa Z hR a1 "com/example/palpito/palpito/Segments" ∧ Fld Z hR a1 "com/example/palpito/palpito/Segments" "startsMs" "[D" (.ref as') ∧ Row Z hR as' .double ks [(.double (0 : UInt64)), (.double (FP.dadd (0 : UInt64) x0)), (.double (FP.dadd (FP.dadd (0 : UInt64) x0) x1)), (.double (FP.dadd (FP.dadd (FP.dadd (0 : UInt64) x0) x1) x2))]) := by
  refine enter (l := l) (Z := Z) (y := (⟨"com/example/palpito/palpito/Segments", "<init>", "([D)V"⟩ : MethodName)) (bytes := prog_48_method_1_code) (maxL := 3) (ret := none) (ws := []) (rm := ({ frames := 2, cells := 2, slots := 7, locals := 30 } : Room)) (as' := #[(.ref a1), (.ref a2)]) (h0 := h0) (Qv := (fun vR hR LR => ∃ (as' : Addr) (ks : ClassId), vR = none ∧ Fr n0 LR ∧ Keep h0 hR [a1] ∧ h0.size ≤ as' ∧ Exa Z hR a1 "com/example/palpito/palpito/Segments" ∧ Fld Z hR a1 "com/example/palpito/palpito/Segments" "startsMs" "[D" (.ref as') ∧ Row Z hR as' .double ks [(.double (0 : UInt64)), (.double (FP.dadd (0 : UInt64) x0)), (.double (FP.dadd (FP.dadd (0 : UInt64) x0) x1)), (.double (FP.dadd (FP.dadd (FP.dadd (0 : UInt64) x0) x1) x2))])) (kc := 2) (ks := 7) (by first | exact plainFor_of_name (by first | (simp [plainName, overriddenIn]; done) | decide +kernel) | decide +kernel) (Ls := #[.val (.ref a1), .val (.ref a2), .unset]) (fun m => by first | (simp [entryFrame, mkF, argsToLocals, Value.category]; done) | rfl) ?_
  intro p e s m below meth c s₁ hx hby hml hown hnm hret hlk hZ X0 e0
  have hown : s.vm.findClass "com/example/palpito/palpito/Segments" = some m.cls := hown
  have hml : c.maxLocals = 3 := hml
  have N0 := Fr.nil n0
  refine Go.aloadN X0.here hx (Jvm.hb hby d1_0) rfl rfl (q := 1) rfl ?_
  refine Go.init X0 hx hZ hown (word hw 8 rfl) (word hw 9 rfl) (word hw 10 rfl) e0 (Jvm.hb hby d1_1) (by rw [hml]; rfl) (by decide) (W := 0) (Nat.le_of_eq rfl) (by decide) (q := 4) rfl ?_
  intro T101 X101 e101
  refine Go.aloadN X101.here hx (Jvm.hb hby d1_4) rfl rfl (q := 5) rfl ?_
  refine Go.aloadN X101.here hx (Jvm.hb hby d1_5) rfl rfl (q := 6) rfl ?_
  refine Go.clone X101 hx hZ hown (word hw 11 rfl) (word hw 12 rfl) (word hw 16 rfl) (word hw 14 rfl) (word hw 15 rfl) (word hw 17 rfl) e101 R1 E2 rfl (Jvm.hb hby d1_6) (by rw [hml]; rfl) (by decide) (W := 1) (Nat.le_of_eq rfl) (by decide) (k := 3) rfl (by decide) (by decide) (q := 9) rfl ?_
  intro T102 h102 a102 g102 X102 e102 E102 R102 A102
  have r103 : n0 ≤ a102 := Nat.le_trans Z0 (Nat.le_of_eq g102.symm)
  have y103 : h0.size ≤ a102 := Nat.le_trans (Keep.refl h0 [a1]).1 (Nat.le_of_eq g102.symm)
  refine Go.cast X102 hx hZ hown (word hw 18 rfl) e102 (Ins.self A102) (Jvm.hb hby d1_9) (q := 12) rfl ?_
  intro T104 X104 e104
  have f106 := F1.ext E102
  have f107 := E1.ext E102
  refine Go.putf X104 hx hZ hown (word hw 20 rfl) e104 f106 f107 (Or.inr ⟨(word hw 21 rfl), rfl, hnm⟩) (word hw 3 rfl) (ty := (.array .double)) (by decide) rfl rfl (Jvm.hb hby d1_12) (q := 15) rfl ?_
  intro T105 h105 X105 e105 W105
  have N105 := Fr.snoc X105 N0 g1
  have F105 := f106.same W105
  refine Go.aloadN X105.here hx (Jvm.hb hby d1_15) rfl rfl (q := 16) rfl ?_
  refine Go.aloadN X105.here hx (Jvm.hb hby d1_16) rfl rfl (q := 17) rfl ?_
  have f108 := R1.ext E102
  have f109 := f108.other W105 (Ne.symm i1)
  refine Go.alen X105 hx hZ e105 f109 (Jvm.hb hby d1_17) (n := (3 : Int32)) (by first | rfl | decide) (q := 18) rfl ?_
  refine Go.iconst X105.here hx (Jvm.hb hby d1_18) (v := (1 : Int32)) rfl (q := 19) rfl ?_
  refine Go.iadd X105.here hx (Jvm.hb hby d1_19) (v := (4 : Int32)) (by decide) (q := 20) rfl ?_
  refine Go.newarr X105 hx hZ (aty := .double) (word hw 1 rfl) e105 (Jvm.hb hby d1_20) (by decide) (k := 4) (by decide) (by decide) (by decide) (by decide) (ad := "[D") (by decide) (q := 22) rfl ?_
  intro T110 h110 a110 kk110 g110 X110 e110 E110 R110 A110
  have z111 : n0 ≤ h102.size := Nat.le_trans Z0 E102.1
  have z112 : n0 ≤ h105.size := Nat.le_trans z111 (Nat.le_of_eq W105.size.symm)
  have r113 : n0 ≤ a110 := Nat.le_trans z112 (Nat.le_of_eq g110.symm)
  have k114 : Keep h0 h102 [a1] := (Keep.refl h0 [a1]).ext E102
  have k115 : Keep h0 h105 [a1] := k114.wr W105 (Or.inl (List.mem_of_getElem? (i := 0) rfl))
  have y113 : h0.size ≤ a110 := Nat.le_trans k115.1 (Nat.le_of_eq g110.symm)
  have R110 : Row Z h110 a110 .double kk110 [(.double (0 : UInt64)), (.double (0 : UInt64)), (.double (0 : UInt64)), (.double (0 : UInt64))] := R110
  have f117 := F2.ext E102
  have f118 := f117.other W105 (Or.inr (Jvm.RoadKit.slot_ne (Or.inr (word hw 23 rfl)) (Or.inr (word hw 21 rfl)) (by decide) (t := (.array .double)) (t' := (.array .double)) (by decide) (by decide)))
  have f119 := f118.ext E110
  have f120 := f107.wr W105
  have f121 := f120.ext E110
  refine Go.putf X110 hx hZ hown (word hw 22 rfl) e110 f119 f121 (Or.inr ⟨(word hw 23 rfl), rfl, hnm⟩) (word hw 3 rfl) (ty := (.array .double)) (by decide) rfl rfl (Jvm.hb hby d1_22) (q := 25) rfl ?_
  intro T116 h116 X116 e116 W116
  have N116 := Fr.snoc X116 N105 g1
  have F116 := f119.same W116
  refine Go.iconst X116.here hx (Jvm.hb hby d1_25) (v := (0 : Int32)) rfl (q := 26) rfl ?_
  refine Go.istoreN X116.here hx (Jvm.hb hby d1_26) (l2 := #[.val (.ref a1), .val (.ref a2), .val (.int (0 : Int32))]) rfl (q := 27) rfl ?_
  refine Go.iloadN X116.here hx (Jvm.hb hby d1_27) rfl (q := 28) rfl ?_
  refine Go.aloadN X116.here hx (Jvm.hb hby d1_28) rfl rfl (q := 29) rfl ?_
  have f122 := f109.ext E110
  have f123 := f122.other W116 (Ne.symm i1)
  refine Go.alen X116 hx hZ e116 f123 (Jvm.hb hby d1_29) (n := (3 : Int32)) (by first | rfl | decide) (q := 30) rfl ?_
  have hc30_125 : (0 : Int32) < (3 : Int32) := by decide
  refine Go.icmpN X116.here hx (Jvm.hb hby d1_30) (tlt hc30_125).2.1 (q := 33) rfl ?_
  refine Go.aloadN X116.here hx (Jvm.hb hby d1_33) rfl rfl (q := 34) rfl ?_
  refine Go.getf X116 hx hZ hown (word hw 22 rfl) e116 F116 (Jvm.hb hby d1_34) (q := 37) rfl ?_
  intro T126 X126 e126
  refine Go.iloadN X126.here hx (Jvm.hb hby d1_37) rfl (q := 38) rfl ?_
  refine Go.iconst X126.here hx (Jvm.hb hby d1_38) (v := (1 : Int32)) rfl (q := 39) rfl ?_
  refine Go.iadd X126.here hx (Jvm.hb hby d1_39) (v := (1 : Int32)) (by decide) (q := 40) rfl ?_
  refine Go.aloadN X126.here hx (Jvm.hb hby d1_40) rfl rfl (q := 41) rfl ?_
  refine Go.getf X126 hx hZ hown (word hw 22 rfl) e126 F116 (Jvm.hb hby d1_41) (q := 44) rfl ?_
  intro T127 X127 e127
  refine Go.iloadN X127.here hx (Jvm.hb hby d1_44) rfl (q := 45) rfl ?_
  have ne129 : a1 ≠ a110 := Nat.ne_of_lt (Nat.lt_of_lt_of_le f120.lt (Nat.le_of_eq g110.symm))
  have f128 := R110.other W116 (Ne.symm ne129)
  refine Go.daload X127 hx hZ e127 f128 (Jvm.hb hby d1_45) (i := 0) (by decide) (by decide) rfl (q := 46) rfl ?_
  refine Go.aloadN X127.here hx (Jvm.hb hby d1_46) rfl rfl (q := 47) rfl ?_
  refine Go.iloadN X127.here hx (Jvm.hb hby d1_47) rfl (q := 48) rfl ?_
  refine Go.daload X127 hx hZ e127 f123 (Jvm.hb hby d1_48) (i := 0) (by decide) (by decide) rfl (q := 49) rfl ?_
  obtain ⟨u49, hu49⟩ : ∃ zq, FP.dadd (0 : UInt64) x0 = zq := ⟨_, rfl⟩
  refine Go.dadd X127.here hx (Jvm.hb hby d1_49) (by subst_vars; first | exact hn.1 | exact hn.2.1 | exact hn.2.2.1) hu49 (q := 50) rfl ?_
  refine Go.dastore X127 hx hZ e127 f128 (Jvm.hb hby d1_50) (i := 1) (by decide) (by decide) rfl (q := 51) rfl ?_
  intro T130 h130 X130 e130 W130 R130
  have N130 := Fr.snoc X130 N116 r113
  have R130 : Row Z h130 a110 .double kk110 [(.double (0 : UInt64)), (.double u49), (.double (0 : UInt64)), (.double (0 : UInt64))] := R130
  refine Go.iinc X130.here hx (Jvm.hb hby d1_51) rfl (v := (1 : Int32)) (by decide) (l2 := #[.val (.ref a1), .val (.ref a2), .val (.int (1 : Int32))]) rfl (q := 54) rfl ?_
  refine Go.goto X130.here hx (Jvm.hb hby d1_54) (by decide) (q := 27) rfl ?_
  refine Go.iloadN X130.here hx (Jvm.hb hby d1_27) rfl (q := 28) rfl ?_
  refine Go.aloadN X130.here hx (Jvm.hb hby d1_28) rfl rfl (q := 29) rfl ?_
  have ne132 : a2 ≠ a110 := Nat.ne_of_lt (Nat.lt_of_lt_of_le f109.lt (Nat.le_of_eq g110.symm))
  have f131 := f123.other W130 ne132
  refine Go.alen X130 hx hZ e130 f131 (Jvm.hb hby d1_29) (n := (3 : Int32)) (by first | rfl | decide) (q := 30) rfl ?_
  have hc30_134 : (1 : Int32) < (3 : Int32) := by decide
  refine Go.icmpN X130.here hx (Jvm.hb hby d1_30) (tlt hc30_134).2.1 (q := 33) rfl ?_
  refine Go.aloadN X130.here hx (Jvm.hb hby d1_33) rfl rfl (q := 34) rfl ?_
  have f136 := F116.other W130 (Or.inl ne129)
  refine Go.getf X130 hx hZ hown (word hw 22 rfl) e130 f136 (Jvm.hb hby d1_34) (q := 37) rfl ?_
  intro T135 X135 e135
  refine Go.iloadN X135.here hx (Jvm.hb hby d1_37) rfl (q := 38) rfl ?_
  refine Go.iconst X135.here hx (Jvm.hb hby d1_38) (v := (1 : Int32)) rfl (q := 39) rfl ?_
  refine Go.iadd X135.here hx (Jvm.hb hby d1_39) (v := (2 : Int32)) (by decide) (q := 40) rfl ?_
  refine Go.aloadN X135.here hx (Jvm.hb hby d1_40) rfl rfl (q := 41) rfl ?_
  refine Go.getf X135 hx hZ hown (word hw 22 rfl) e135 f136 (Jvm.hb hby d1_41) (q := 44) rfl ?_
  intro T137 X137 e137
  refine Go.iloadN X137.here hx (Jvm.hb hby d1_44) rfl (q := 45) rfl ?_
  refine Go.daload X137 hx hZ e137 R130 (Jvm.hb hby d1_45) (i := 1) (by decide) (by decide) rfl (q := 46) rfl ?_
  refine Go.aloadN X137.here hx (Jvm.hb hby d1_46) rfl rfl (q := 47) rfl ?_
  refine Go.iloadN X137.here hx (Jvm.hb hby d1_47) rfl (q := 48) rfl ?_
  refine Go.daload X137 hx hZ e137 f131 (Jvm.hb hby d1_48) (i := 1) (by decide) (by decide) rfl (q := 49) rfl ?_
  obtain ⟨u49_1, hu49_1⟩ : ∃ zq, FP.dadd u49 x1 = zq := ⟨_, rfl⟩
  refine Go.dadd X137.here hx (Jvm.hb hby d1_49) (by subst_vars; first | exact hn.1 | exact hn.2.1 | exact hn.2.2.1) hu49_1 (q := 50) rfl ?_
  refine Go.dastore X137 hx hZ e137 R130 (Jvm.hb hby d1_50) (i := 2) (by decide) (by decide) rfl (q := 51) rfl ?_
  intro T138 h138 X138 e138 W138 R138
  have N138 := Fr.snoc X138 N130 r113
  have R138 : Row Z h138 a110 .double kk110 [(.double (0 : UInt64)), (.double u49), (.double u49_1), (.double (0 : UInt64))] := R138
  refine Go.iinc X138.here hx (Jvm.hb hby d1_51) rfl (v := (2 : Int32)) (by decide) (l2 := #[.val (.ref a1), .val (.ref a2), .val (.int (2 : Int32))]) rfl (q := 54) rfl ?_
  refine Go.goto X138.here hx (Jvm.hb hby d1_54) (by decide) (q := 27) rfl ?_
  refine Go.iloadN X138.here hx (Jvm.hb hby d1_27) rfl (q := 28) rfl ?_
  refine Go.aloadN X138.here hx (Jvm.hb hby d1_28) rfl rfl (q := 29) rfl ?_
  have f139 := f131.other W138 ne132
  refine Go.alen X138 hx hZ e138 f139 (Jvm.hb hby d1_29) (n := (3 : Int32)) (by first | rfl | decide) (q := 30) rfl ?_
  have hc30_141 : (2 : Int32) < (3 : Int32) := by decide
  refine Go.icmpN X138.here hx (Jvm.hb hby d1_30) (tlt hc30_141).2.1 (q := 33) rfl ?_
  refine Go.aloadN X138.here hx (Jvm.hb hby d1_33) rfl rfl (q := 34) rfl ?_
  have f143 := f136.other W138 (Or.inl ne129)
  refine Go.getf X138 hx hZ hown (word hw 22 rfl) e138 f143 (Jvm.hb hby d1_34) (q := 37) rfl ?_
  intro T142 X142 e142
  refine Go.iloadN X142.here hx (Jvm.hb hby d1_37) rfl (q := 38) rfl ?_
  refine Go.iconst X142.here hx (Jvm.hb hby d1_38) (v := (1 : Int32)) rfl (q := 39) rfl ?_
  refine Go.iadd X142.here hx (Jvm.hb hby d1_39) (v := (3 : Int32)) (by decide) (q := 40) rfl ?_
  refine Go.aloadN X142.here hx (Jvm.hb hby d1_40) rfl rfl (q := 41) rfl ?_
  refine Go.getf X142 hx hZ hown (word hw 22 rfl) e142 f143 (Jvm.hb hby d1_41) (q := 44) rfl ?_
  intro T144 X144 e144
  refine Go.iloadN X144.here hx (Jvm.hb hby d1_44) rfl (q := 45) rfl ?_
  refine Go.daload X144 hx hZ e144 R138 (Jvm.hb hby d1_45) (i := 2) (by decide) (by decide) rfl (q := 46) rfl ?_
  refine Go.aloadN X144.here hx (Jvm.hb hby d1_46) rfl rfl (q := 47) rfl ?_
  refine Go.iloadN X144.here hx (Jvm.hb hby d1_47) rfl (q := 48) rfl ?_
  refine Go.daload X144 hx hZ e144 f139 (Jvm.hb hby d1_48) (i := 2) (by decide) (by decide) rfl (q := 49) rfl ?_
  obtain ⟨u49_2, hu49_2⟩ : ∃ zq, FP.dadd u49_1 x2 = zq := ⟨_, rfl⟩
  refine Go.dadd X144.here hx (Jvm.hb hby d1_49) (by subst_vars; first | exact hn.1 | exact hn.2.1 | exact hn.2.2.1) hu49_2 (q := 50) rfl ?_
  refine Go.dastore X144 hx hZ e144 R138 (Jvm.hb hby d1_50) (i := 3) (by decide) (by decide) rfl (q := 51) rfl ?_
  intro T145 h145 X145 e145 W145 R145
  have N145 := Fr.snoc X145 N138 r113
  have R145 : Row Z h145 a110 .double kk110 [(.double (0 : UInt64)), (.double u49), (.double u49_1), (.double u49_2)] := R145
  refine Go.iinc X145.here hx (Jvm.hb hby d1_51) rfl (v := (3 : Int32)) (by decide) (l2 := #[.val (.ref a1), .val (.ref a2), .val (.int (3 : Int32))]) rfl (q := 54) rfl ?_
  refine Go.goto X145.here hx (Jvm.hb hby d1_54) (by decide) (q := 27) rfl ?_
  refine Go.iloadN X145.here hx (Jvm.hb hby d1_27) rfl (q := 28) rfl ?_
  refine Go.aloadN X145.here hx (Jvm.hb hby d1_28) rfl rfl (q := 29) rfl ?_
  have f146 := f139.other W145 ne132
  refine Go.alen X145 hx hZ e145 f146 (Jvm.hb hby d1_29) (n := (3 : Int32)) (by first | rfl | decide) (q := 30) rfl ?_
  have hc30_148 : ¬ ((3 : Int32) < (3 : Int32)) := by decide
  refine Go.icmpY X145.here hx (Jvm.hb hby d1_30) (flt hc30_148).2.1 (by decide) (q := 57) rfl ?_
  subst hu49 hu49_1 hu49_2
  have k149 : Keep h0 h110 [a1] := k115.ext E110
  have k150 : Keep h0 h116 [a1] := k149.wr W116 (Or.inl (List.mem_of_getElem? (i := 0) rfl))
  have k151 : Keep h0 h130 [a1] := k150.wr W130 (Or.inr y113)
  have k152 : Keep h0 h138 [a1] := k151.wr W138 (Or.inr y113)
  have k153 : Keep h0 h145 [a1] := k152.wr W145 (Or.inr y113)
  have f154 := f121.wr W116
  have f155 := f154.wr W130
  have f156 := f155.wr W138
  have f157 := f156.wr W145
  have f158 := f143.other W145 (Or.inl ne129)
  refine Go.retV X145 hx hret hlk (Jvm.hb hby d1_57) (by decide) (by decide) ?_
  rw [e145]
  exact ⟨a110, kk110, rfl, N145, k153, y113, f157, f158, R145⟩
set_option maxRecDepth 65536 in
set_option maxHeartbeats 40000000 in
theorem rm_at3 (l : Launch) (Z : State) (a0 : Array Value) (hw : ∀ d ∈ tables_1, d.before a0 Z = true) (a1 : Addr) (as' : Addr) (ks : ClassId) (t : UInt64) (s0 : UInt64) (s1 : UInt64) (s2 : UInt64) (s3 : UInt64) (h0 : Heap) (n0 : Nat) (Z0 : n0 ≤ h0.size) (F2 : Fld Z h0 a1 "com/example/palpito/palpito/Segments" "startsMs" "[D" (.ref as')) (R1 : Row Z h0 as' .double ks [(.double s0), (.double s1), (.double s2), (.double s3)]) :
    Con l Z (⟨"com/example/palpito/palpito/Segments", "at", "(D)I"⟩ : MethodName) prog_48_method_6_code 6 (some .int) ({ frames := 0, cells := 0, slots := 0, locals := 0 } : Room) #[(.ref a1), (.double t)] h0 (fun vR hR LR => vR = some (.int (own_at3 s1 s2 t)) ∧ Fr n0 LR ∧ hR = h0) := by
  refine enter (l := l) (Z := Z) (y := (⟨"com/example/palpito/palpito/Segments", "at", "(D)I"⟩ : MethodName)) (bytes := prog_48_method_6_code) (maxL := 6) (ret := (some .int)) (ws := []) (rm := ({ frames := 0, cells := 0, slots := 0, locals := 0 } : Room)) (as' := #[(.ref a1), (.double t)]) (h0 := h0) (Qv := (fun vR hR LR => vR = some (.int (own_at3 s1 s2 t)) ∧ Fr n0 LR ∧ hR = h0)) (kc := 0) (ks := 0) (by first | exact plainFor_of_name (by first | (simp [plainName, overriddenIn]; done) | decide +kernel) | decide +kernel) (Ls := #[.val (.ref a1), .val (.double t), .second, .unset, .unset, .unset]) (fun m => by first | (simp [entryFrame, mkF, argsToLocals, Value.category]; done) | rfl) ?_
  intro p e s m below meth c s₁ hx hby hml hown hnm hret hlk hZ X0 e0
  have hown : s.vm.findClass "com/example/palpito/palpito/Segments" = some m.cls := hown
  have hml : c.maxLocals = 6 := hml
  have N0 := Fr.nil n0
  refine Go.iconst X0.here hx (Jvm.hb hby d3_0) (v := (0 : Int32)) rfl (q := 1) rfl ?_
  refine Go.istoreN X0.here hx (Jvm.hb hby d3_1) (l2 := #[.val (.ref a1), .val (.double t), .second, .val (.int (0 : Int32)), .unset, .unset]) rfl (q := 2) rfl ?_
  refine Go.aloadN X0.here hx (Jvm.hb hby d3_2) rfl rfl (q := 3) rfl ?_
  refine Go.getf X0 hx hZ hown (word hw 22 rfl) e0 F2 (Jvm.hb hby d3_3) (q := 6) rfl ?_
  intro T101 X101 e101
  refine Go.alen X101 hx hZ e101 R1 (Jvm.hb hby d3_6) (n := (4 : Int32)) (by first | rfl | decide) (q := 7) rfl ?_
  refine Go.iconst X101.here hx (Jvm.hb hby d3_7) (v := (1 : Int32)) rfl (q := 8) rfl ?_
  refine Go.isub X101.here hx (Jvm.hb hby d3_8) (v := (3 : Int32)) (by decide) (q := 9) rfl ?_
  refine Go.istore X101.here hx (Jvm.hb hby d3_9) (l2 := #[.val (.ref a1), .val (.double t), .second, .val (.int (0 : Int32)), .val (.int (3 : Int32)), .unset]) rfl (q := 11) rfl ?_
  refine Go.iload X101.here hx (Jvm.hb hby d3_11) rfl (q := 13) rfl ?_
  refine Go.iloadN X101.here hx (Jvm.hb hby d3_13) rfl (q := 14) rfl ?_
  refine Go.isub X101.here hx (Jvm.hb hby d3_14) (v := (3 : Int32)) (by decide) (q := 15) rfl ?_
  refine Go.iconst X101.here hx (Jvm.hb hby d3_15) (v := (1 : Int32)) rfl (q := 16) rfl ?_
  have hc16_103 : (1 : Int32) < (3 : Int32) := by decide
  refine Go.icmpN X101.here hx (Jvm.hb hby d3_16) (tlt hc16_103).2.2.2 (q := 19) rfl ?_
  refine Go.iloadN X101.here hx (Jvm.hb hby d3_19) rfl (q := 20) rfl ?_
  refine Go.iload X101.here hx (Jvm.hb hby d3_20) rfl (q := 22) rfl ?_
  refine Go.iadd X101.here hx (Jvm.hb hby d3_22) (v := (3 : Int32)) (by decide) (q := 23) rfl ?_
  refine Go.iconst X101.here hx (Jvm.hb hby d3_23) (v := (1 : Int32)) rfl (q := 24) rfl ?_
  refine Go.iushr X101.here hx (Jvm.hb hby d3_24) (v := (1 : Int32)) (by decide) (q := 25) rfl ?_
  refine Go.istore X101.here hx (Jvm.hb hby d3_25) (l2 := #[.val (.ref a1), .val (.double t), .second, .val (.int (0 : Int32)), .val (.int (3 : Int32)), .val (.int (1 : Int32))]) rfl (q := 27) rfl ?_
  refine Go.aloadN X101.here hx (Jvm.hb hby d3_27) rfl rfl (q := 28) rfl ?_
  refine Go.getf X101 hx hZ hown (word hw 22 rfl) e101 F2 (Jvm.hb hby d3_28) (q := 31) rfl ?_
  intro T104 X104 e104
  refine Go.iload X104.here hx (Jvm.hb hby d3_31) rfl (q := 33) rfl ?_
  refine Go.daload X104 hx hZ e104 R1 (Jvm.hb hby d3_33) (i := 1) (by decide) (by decide) rfl (q := 34) rfl ?_
  refine Go.dloadN X104.here hx (Jvm.hb hby d3_34) rfl (q := 35) rfl ?_
  obtain ⟨u35, hu35⟩ : ∃ zq, cmpValue (FP.dcmp s1 t) .g = zq := ⟨_, rfl⟩
  refine Go.dcmp X104.here hx (Jvm.hb hby d3_35) hu35 (q := 36) rfl ?_
  by_cases hc36 : (0 : Int32) < u35
  · -- pc 36: (0 : Int32) < u35
    refine Go.ifY X104.here hx (Jvm.hb hby d3_36) ((if0 _ _).trans (tlt hc36).2.2.1) (by decide) (q := 45) rfl ?_
    refine Go.iload X104.here hx (Jvm.hb hby d3_45) rfl (q := 47) rfl ?_
    refine Go.istore X104.here hx (Jvm.hb hby d3_47) (l2 := #[.val (.ref a1), .val (.double t), .second, .val (.int (0 : Int32)), .val (.int (1 : Int32)), .val (.int (1 : Int32))]) rfl (q := 49) rfl ?_
    refine Go.goto X104.here hx (Jvm.hb hby d3_49) (by decide) (q := 11) rfl ?_
    refine Go.iload X104.here hx (Jvm.hb hby d3_11) rfl (q := 13) rfl ?_
    refine Go.iloadN X104.here hx (Jvm.hb hby d3_13) rfl (q := 14) rfl ?_
    refine Go.isub X104.here hx (Jvm.hb hby d3_14) (v := (1 : Int32)) (by decide) (q := 15) rfl ?_
    refine Go.iconst X104.here hx (Jvm.hb hby d3_15) (v := (1 : Int32)) rfl (q := 16) rfl ?_
    have hc16_107 : ¬ ((1 : Int32) < (1 : Int32)) := by decide
    refine Go.icmpY X104.here hx (Jvm.hb hby d3_16) (flt hc16_107).2.2.2 (by decide) (q := 52) rfl ?_
    refine Go.iloadN X104.here hx (Jvm.hb hby d3_52) rfl (q := 53) rfl ?_
    refine Go.retI X104 hx hret hlk (Jvm.hb hby d3_53) (by decide) (by decide) ?_
    exact ⟨by subst_vars; first | exact own_r3b hc36 hc36_1 | exact own_r3c hc36 hc36_1 | exact own_r3a hc36, N0, e104⟩
  · -- pc 36: not (0 : Int32) < u35
    refine Go.ifN X104.here hx (Jvm.hb hby d3_36) ((if0 _ _).trans (flt hc36).2.2.1) (q := 39) rfl ?_
    refine Go.iload X104.here hx (Jvm.hb hby d3_39) rfl (q := 41) rfl ?_
    refine Go.istoreN X104.here hx (Jvm.hb hby d3_41) (l2 := #[.val (.ref a1), .val (.double t), .second, .val (.int (1 : Int32)), .val (.int (3 : Int32)), .val (.int (1 : Int32))]) rfl (q := 42) rfl ?_
    refine Go.goto X104.here hx (Jvm.hb hby d3_42) (by decide) (q := 49) rfl ?_
    refine Go.goto X104.here hx (Jvm.hb hby d3_49) (by decide) (q := 11) rfl ?_
    refine Go.iload X104.here hx (Jvm.hb hby d3_11) rfl (q := 13) rfl ?_
    refine Go.iloadN X104.here hx (Jvm.hb hby d3_13) rfl (q := 14) rfl ?_
    refine Go.isub X104.here hx (Jvm.hb hby d3_14) (v := (2 : Int32)) (by decide) (q := 15) rfl ?_
    refine Go.iconst X104.here hx (Jvm.hb hby d3_15) (v := (1 : Int32)) rfl (q := 16) rfl ?_
    have hc16_109 : (1 : Int32) < (2 : Int32) := by decide
    refine Go.icmpN X104.here hx (Jvm.hb hby d3_16) (tlt hc16_109).2.2.2 (q := 19) rfl ?_
    refine Go.iloadN X104.here hx (Jvm.hb hby d3_19) rfl (q := 20) rfl ?_
    refine Go.iload X104.here hx (Jvm.hb hby d3_20) rfl (q := 22) rfl ?_
    refine Go.iadd X104.here hx (Jvm.hb hby d3_22) (v := (4 : Int32)) (by decide) (q := 23) rfl ?_
    refine Go.iconst X104.here hx (Jvm.hb hby d3_23) (v := (1 : Int32)) rfl (q := 24) rfl ?_
    refine Go.iushr X104.here hx (Jvm.hb hby d3_24) (v := (2 : Int32)) (by decide) (q := 25) rfl ?_
    refine Go.istore X104.here hx (Jvm.hb hby d3_25) (l2 := #[.val (.ref a1), .val (.double t), .second, .val (.int (1 : Int32)), .val (.int (3 : Int32)), .val (.int (2 : Int32))]) rfl (q := 27) rfl ?_
    refine Go.aloadN X104.here hx (Jvm.hb hby d3_27) rfl rfl (q := 28) rfl ?_
    refine Go.getf X104 hx hZ hown (word hw 22 rfl) e104 F2 (Jvm.hb hby d3_28) (q := 31) rfl ?_
    intro T110 X110 e110
    refine Go.iload X110.here hx (Jvm.hb hby d3_31) rfl (q := 33) rfl ?_
    refine Go.daload X110 hx hZ e110 R1 (Jvm.hb hby d3_33) (i := 2) (by decide) (by decide) rfl (q := 34) rfl ?_
    refine Go.dloadN X110.here hx (Jvm.hb hby d3_34) rfl (q := 35) rfl ?_
    obtain ⟨u35_1, hu35_1⟩ : ∃ zq, cmpValue (FP.dcmp s2 t) .g = zq := ⟨_, rfl⟩
    refine Go.dcmp X110.here hx (Jvm.hb hby d3_35) hu35_1 (q := 36) rfl ?_
    by_cases hc36_1 : (0 : Int32) < u35_1
    · -- pc 36: (0 : Int32) < u35_1
      refine Go.ifY X110.here hx (Jvm.hb hby d3_36) ((if0 _ _).trans (tlt hc36_1).2.2.1) (by decide) (q := 45) rfl ?_
      refine Go.iload X110.here hx (Jvm.hb hby d3_45) rfl (q := 47) rfl ?_
      refine Go.istore X110.here hx (Jvm.hb hby d3_47) (l2 := #[.val (.ref a1), .val (.double t), .second, .val (.int (1 : Int32)), .val (.int (2 : Int32)), .val (.int (2 : Int32))]) rfl (q := 49) rfl ?_
      refine Go.goto X110.here hx (Jvm.hb hby d3_49) (by decide) (q := 11) rfl ?_
      refine Go.iload X110.here hx (Jvm.hb hby d3_11) rfl (q := 13) rfl ?_
      refine Go.iloadN X110.here hx (Jvm.hb hby d3_13) rfl (q := 14) rfl ?_
      refine Go.isub X110.here hx (Jvm.hb hby d3_14) (v := (1 : Int32)) (by decide) (q := 15) rfl ?_
      refine Go.iconst X110.here hx (Jvm.hb hby d3_15) (v := (1 : Int32)) rfl (q := 16) rfl ?_
      have hc16_113 : ¬ ((1 : Int32) < (1 : Int32)) := by decide
      refine Go.icmpY X110.here hx (Jvm.hb hby d3_16) (flt hc16_113).2.2.2 (by decide) (q := 52) rfl ?_
      refine Go.iloadN X110.here hx (Jvm.hb hby d3_52) rfl (q := 53) rfl ?_
      refine Go.retI X110 hx hret hlk (Jvm.hb hby d3_53) (by decide) (by decide) ?_
      exact ⟨by subst_vars; first | exact own_r3b hc36 hc36_1 | exact own_r3c hc36 hc36_1 | exact own_r3a hc36, N0, e110⟩
    · -- pc 36: not (0 : Int32) < u35_1
      refine Go.ifN X110.here hx (Jvm.hb hby d3_36) ((if0 _ _).trans (flt hc36_1).2.2.1) (q := 39) rfl ?_
      refine Go.iload X110.here hx (Jvm.hb hby d3_39) rfl (q := 41) rfl ?_
      refine Go.istoreN X110.here hx (Jvm.hb hby d3_41) (l2 := #[.val (.ref a1), .val (.double t), .second, .val (.int (2 : Int32)), .val (.int (3 : Int32)), .val (.int (2 : Int32))]) rfl (q := 42) rfl ?_
      refine Go.goto X110.here hx (Jvm.hb hby d3_42) (by decide) (q := 49) rfl ?_
      refine Go.goto X110.here hx (Jvm.hb hby d3_49) (by decide) (q := 11) rfl ?_
      refine Go.iload X110.here hx (Jvm.hb hby d3_11) rfl (q := 13) rfl ?_
      refine Go.iloadN X110.here hx (Jvm.hb hby d3_13) rfl (q := 14) rfl ?_
      refine Go.isub X110.here hx (Jvm.hb hby d3_14) (v := (1 : Int32)) (by decide) (q := 15) rfl ?_
      refine Go.iconst X110.here hx (Jvm.hb hby d3_15) (v := (1 : Int32)) rfl (q := 16) rfl ?_
      have hc16_115 : ¬ ((1 : Int32) < (1 : Int32)) := by decide
      refine Go.icmpY X110.here hx (Jvm.hb hby d3_16) (flt hc16_115).2.2.2 (by decide) (q := 52) rfl ?_
      refine Go.iloadN X110.here hx (Jvm.hb hby d3_52) rfl (q := 53) rfl ?_
      refine Go.retI X110 hx hret hlk (Jvm.hb hby d3_53) (by decide) (by decide) ?_
      exact ⟨by subst_vars; first | exact own_r3b hc36 hc36_1 | exact own_r3c hc36 hc36_1 | exact own_r3a hc36, N0, e110⟩
set_option maxRecDepth 65536 in
set_option maxHeartbeats 40000000 in
theorem rm_init4 (l : Launch) (Z : State) (a0 : Array Value) (hw : ∀ d ∈ tables_1, d.before a0 Z = true) (a1 : Addr) (a2 : Addr) (k2 : ClassId) (o1 : Value) (o2 : Value) (x0 : UInt64) (x1 : UInt64) (x2 : UInt64) (x3 : UInt64) (h0 : Heap) (n0 : Nat) (Z0 : n0 ≤ h0.size) (E1 : Exa Z h0 a1 "com/example/palpito/palpito/Segments") (F1 : Fld Z h0 a1 "com/example/palpito/palpito/Segments" "lengthsMs" "[D" o1) (F2 : Fld Z h0 a1 "com/example/palpito/palpito/Segments" "startsMs" "[D" o2) (R1 : Row Z h0 a2 .double k2 [(.double x0), (.double x1), (.double x2), (.double x3)]) (E2 : Exa Z h0 a2 "[D") (i1 : a1 ≠ a2) (g1 : n0 ≤ a1) (hn : Jvm.Free.Fl.NoNaN64 (FP.dadd (0 : UInt64) x0) ∧ Jvm.Free.Fl.NoNaN64 (FP.dadd (FP.dadd (0 : UInt64) x0) x1) ∧ Jvm.Free.Fl.NoNaN64 (FP.dadd (FP.dadd (FP.dadd (0 : UInt64) x0) x1) x2) ∧ Jvm.Free.Fl.NoNaN64 (FP.dadd (FP.dadd (FP.dadd (FP.dadd (0 : UInt64) x0) x1) x2) x3) ∧ True) :
    Con l Z (⟨"com/example/palpito/palpito/Segments", "<init>", "([D)V"⟩ : MethodName) prog_48_method_1_code 3 none ({ frames := 2, cells := 2, slots := 9, locals := 30 } : Room) #[(.ref a1), (.ref a2)] h0 (fun vR hR LR => ∃ (as' : Addr) (ks : ClassId), vR = none ∧ Fr n0 LR ∧ Keep h0 hR [a1] ∧ h0.size ≤ as' ∧ Exa Z hR a1 "com/example/palpito/palpito/Segments" ∧ Fld Z hR a1 "com/example/palpito/palpito/Segments" "startsMs" "[D" (.ref as') ∧ Row Z hR as' .double ks [(.double (0 : UInt64)), (.double (FP.dadd (0 : UInt64) x0)), (.double (FP.dadd (FP.dadd (0 : UInt64) x0) x1)), (.double (FP.dadd (FP.dadd (FP.dadd (0 : UInt64) x0) x1) x2)), (.double (FP.dadd (FP.dadd (FP.dadd (FP.dadd (0 : UInt64) x0) x1) x2) x3))]) := by
  refine enter (l := l) (Z := Z) (y := (⟨"com/example/palpito/palpito/Segments", "<init>", "([D)V"⟩ : MethodName)) (bytes := prog_48_method_1_code) (maxL := 3) (ret := none) (ws := []) (rm := ({ frames := 2, cells := 2, slots := 9, locals := 30 } : Room)) (as' := #[(.ref a1), (.ref a2)]) (h0 := h0) (Qv := (fun vR hR LR => ∃ (as' : Addr) (ks : ClassId), vR = none ∧ Fr n0 LR ∧ Keep h0 hR [a1] ∧ h0.size ≤ as' ∧ Exa Z hR a1 "com/example/palpito/palpito/Segments" ∧ Fld Z hR a1 "com/example/palpito/palpito/Segments" "startsMs" "[D" (.ref as') ∧ Row Z hR as' .double ks [(.double (0 : UInt64)), (.double (FP.dadd (0 : UInt64) x0)), (.double (FP.dadd (FP.dadd (0 : UInt64) x0) x1)), (.double (FP.dadd (FP.dadd (FP.dadd (0 : UInt64) x0) x1) x2)), (.double (FP.dadd (FP.dadd (FP.dadd (FP.dadd (0 : UInt64) x0) x1) x2) x3))])) (kc := 2) (ks := 9) (by first | exact plainFor_of_name (by first | (simp [plainName, overriddenIn]; done) | decide +kernel) | decide +kernel) (Ls := #[.val (.ref a1), .val (.ref a2), .unset]) (fun m => by first | (simp [entryFrame, mkF, argsToLocals, Value.category]; done) | rfl) ?_
  intro p e s m below meth c s₁ hx hby hml hown hnm hret hlk hZ X0 e0
  have hown : s.vm.findClass "com/example/palpito/palpito/Segments" = some m.cls := hown
  have hml : c.maxLocals = 3 := hml
  have N0 := Fr.nil n0
  refine Go.aloadN X0.here hx (Jvm.hb hby d1_0) rfl rfl (q := 1) rfl ?_
  refine Go.init X0 hx hZ hown (word hw 8 rfl) (word hw 9 rfl) (word hw 10 rfl) e0 (Jvm.hb hby d1_1) (by rw [hml]; rfl) (by decide) (W := 0) (Nat.le_of_eq rfl) (by decide) (q := 4) rfl ?_
  intro T101 X101 e101
  refine Go.aloadN X101.here hx (Jvm.hb hby d1_4) rfl rfl (q := 5) rfl ?_
  refine Go.aloadN X101.here hx (Jvm.hb hby d1_5) rfl rfl (q := 6) rfl ?_
  refine Go.clone X101 hx hZ hown (word hw 11 rfl) (word hw 12 rfl) (word hw 16 rfl) (word hw 14 rfl) (word hw 15 rfl) (word hw 17 rfl) e101 R1 E2 rfl (Jvm.hb hby d1_6) (by rw [hml]; rfl) (by decide) (W := 1) (Nat.le_of_eq rfl) (by decide) (k := 4) rfl (by decide) (by decide) (q := 9) rfl ?_
  intro T102 h102 a102 g102 X102 e102 E102 R102 A102
  have r103 : n0 ≤ a102 := Nat.le_trans Z0 (Nat.le_of_eq g102.symm)
  have y103 : h0.size ≤ a102 := Nat.le_trans (Keep.refl h0 [a1]).1 (Nat.le_of_eq g102.symm)
  refine Go.cast X102 hx hZ hown (word hw 18 rfl) e102 (Ins.self A102) (Jvm.hb hby d1_9) (q := 12) rfl ?_
  intro T104 X104 e104
  have f106 := F1.ext E102
  have f107 := E1.ext E102
  refine Go.putf X104 hx hZ hown (word hw 20 rfl) e104 f106 f107 (Or.inr ⟨(word hw 21 rfl), rfl, hnm⟩) (word hw 3 rfl) (ty := (.array .double)) (by decide) rfl rfl (Jvm.hb hby d1_12) (q := 15) rfl ?_
  intro T105 h105 X105 e105 W105
  have N105 := Fr.snoc X105 N0 g1
  have F105 := f106.same W105
  refine Go.aloadN X105.here hx (Jvm.hb hby d1_15) rfl rfl (q := 16) rfl ?_
  refine Go.aloadN X105.here hx (Jvm.hb hby d1_16) rfl rfl (q := 17) rfl ?_
  have f108 := R1.ext E102
  have f109 := f108.other W105 (Ne.symm i1)
  refine Go.alen X105 hx hZ e105 f109 (Jvm.hb hby d1_17) (n := (4 : Int32)) (by first | rfl | decide) (q := 18) rfl ?_
  refine Go.iconst X105.here hx (Jvm.hb hby d1_18) (v := (1 : Int32)) rfl (q := 19) rfl ?_
  refine Go.iadd X105.here hx (Jvm.hb hby d1_19) (v := (5 : Int32)) (by decide) (q := 20) rfl ?_
  refine Go.newarr X105 hx hZ (aty := .double) (word hw 1 rfl) e105 (Jvm.hb hby d1_20) (by decide) (k := 5) (by decide) (by decide) (by decide) (by decide) (ad := "[D") (by decide) (q := 22) rfl ?_
  intro T110 h110 a110 kk110 g110 X110 e110 E110 R110 A110
  have z111 : n0 ≤ h102.size := Nat.le_trans Z0 E102.1
  have z112 : n0 ≤ h105.size := Nat.le_trans z111 (Nat.le_of_eq W105.size.symm)
  have r113 : n0 ≤ a110 := Nat.le_trans z112 (Nat.le_of_eq g110.symm)
  have k114 : Keep h0 h102 [a1] := (Keep.refl h0 [a1]).ext E102
  have k115 : Keep h0 h105 [a1] := k114.wr W105 (Or.inl (List.mem_of_getElem? (i := 0) rfl))
  have y113 : h0.size ≤ a110 := Nat.le_trans k115.1 (Nat.le_of_eq g110.symm)
  have R110 : Row Z h110 a110 .double kk110 [(.double (0 : UInt64)), (.double (0 : UInt64)), (.double (0 : UInt64)), (.double (0 : UInt64)), (.double (0 : UInt64))] := R110
  have f117 := F2.ext E102
  have f118 := f117.other W105 (Or.inr (Jvm.RoadKit.slot_ne (Or.inr (word hw 23 rfl)) (Or.inr (word hw 21 rfl)) (by decide) (t := (.array .double)) (t' := (.array .double)) (by decide) (by decide)))
  have f119 := f118.ext E110
  have f120 := f107.wr W105
  have f121 := f120.ext E110
  refine Go.putf X110 hx hZ hown (word hw 22 rfl) e110 f119 f121 (Or.inr ⟨(word hw 23 rfl), rfl, hnm⟩) (word hw 3 rfl) (ty := (.array .double)) (by decide) rfl rfl (Jvm.hb hby d1_22) (q := 25) rfl ?_
  intro T116 h116 X116 e116 W116
  have N116 := Fr.snoc X116 N105 g1
  have F116 := f119.same W116
  refine Go.iconst X116.here hx (Jvm.hb hby d1_25) (v := (0 : Int32)) rfl (q := 26) rfl ?_
  refine Go.istoreN X116.here hx (Jvm.hb hby d1_26) (l2 := #[.val (.ref a1), .val (.ref a2), .val (.int (0 : Int32))]) rfl (q := 27) rfl ?_
  refine Go.iloadN X116.here hx (Jvm.hb hby d1_27) rfl (q := 28) rfl ?_
  refine Go.aloadN X116.here hx (Jvm.hb hby d1_28) rfl rfl (q := 29) rfl ?_
  have f122 := f109.ext E110
  have f123 := f122.other W116 (Ne.symm i1)
  refine Go.alen X116 hx hZ e116 f123 (Jvm.hb hby d1_29) (n := (4 : Int32)) (by first | rfl | decide) (q := 30) rfl ?_
  have hc30_125 : (0 : Int32) < (4 : Int32) := by decide
  refine Go.icmpN X116.here hx (Jvm.hb hby d1_30) (tlt hc30_125).2.1 (q := 33) rfl ?_
  refine Go.aloadN X116.here hx (Jvm.hb hby d1_33) rfl rfl (q := 34) rfl ?_
  refine Go.getf X116 hx hZ hown (word hw 22 rfl) e116 F116 (Jvm.hb hby d1_34) (q := 37) rfl ?_
  intro T126 X126 e126
  refine Go.iloadN X126.here hx (Jvm.hb hby d1_37) rfl (q := 38) rfl ?_
  refine Go.iconst X126.here hx (Jvm.hb hby d1_38) (v := (1 : Int32)) rfl (q := 39) rfl ?_
  refine Go.iadd X126.here hx (Jvm.hb hby d1_39) (v := (1 : Int32)) (by decide) (q := 40) rfl ?_
  refine Go.aloadN X126.here hx (Jvm.hb hby d1_40) rfl rfl (q := 41) rfl ?_
  refine Go.getf X126 hx hZ hown (word hw 22 rfl) e126 F116 (Jvm.hb hby d1_41) (q := 44) rfl ?_
  intro T127 X127 e127
  refine Go.iloadN X127.here hx (Jvm.hb hby d1_44) rfl (q := 45) rfl ?_
  have ne129 : a1 ≠ a110 := Nat.ne_of_lt (Nat.lt_of_lt_of_le f120.lt (Nat.le_of_eq g110.symm))
  have f128 := R110.other W116 (Ne.symm ne129)
  refine Go.daload X127 hx hZ e127 f128 (Jvm.hb hby d1_45) (i := 0) (by decide) (by decide) rfl (q := 46) rfl ?_
  refine Go.aloadN X127.here hx (Jvm.hb hby d1_46) rfl rfl (q := 47) rfl ?_
  refine Go.iloadN X127.here hx (Jvm.hb hby d1_47) rfl (q := 48) rfl ?_
  refine Go.daload X127 hx hZ e127 f123 (Jvm.hb hby d1_48) (i := 0) (by decide) (by decide) rfl (q := 49) rfl ?_
  obtain ⟨u49, hu49⟩ : ∃ zq, FP.dadd (0 : UInt64) x0 = zq := ⟨_, rfl⟩
  refine Go.dadd X127.here hx (Jvm.hb hby d1_49) (by subst_vars; first | exact hn.1 | exact hn.2.1 | exact hn.2.2.1 | exact hn.2.2.2.1) hu49 (q := 50) rfl ?_
  refine Go.dastore X127 hx hZ e127 f128 (Jvm.hb hby d1_50) (i := 1) (by decide) (by decide) rfl (q := 51) rfl ?_
  intro T130 h130 X130 e130 W130 R130
  have N130 := Fr.snoc X130 N116 r113
  have R130 : Row Z h130 a110 .double kk110 [(.double (0 : UInt64)), (.double u49), (.double (0 : UInt64)), (.double (0 : UInt64)), (.double (0 : UInt64))] := R130
  refine Go.iinc X130.here hx (Jvm.hb hby d1_51) rfl (v := (1 : Int32)) (by decide) (l2 := #[.val (.ref a1), .val (.ref a2), .val (.int (1 : Int32))]) rfl (q := 54) rfl ?_
  refine Go.goto X130.here hx (Jvm.hb hby d1_54) (by decide) (q := 27) rfl ?_
  refine Go.iloadN X130.here hx (Jvm.hb hby d1_27) rfl (q := 28) rfl ?_
  refine Go.aloadN X130.here hx (Jvm.hb hby d1_28) rfl rfl (q := 29) rfl ?_
  have ne132 : a2 ≠ a110 := Nat.ne_of_lt (Nat.lt_of_lt_of_le f109.lt (Nat.le_of_eq g110.symm))
  have f131 := f123.other W130 ne132
  refine Go.alen X130 hx hZ e130 f131 (Jvm.hb hby d1_29) (n := (4 : Int32)) (by first | rfl | decide) (q := 30) rfl ?_
  have hc30_134 : (1 : Int32) < (4 : Int32) := by decide
  refine Go.icmpN X130.here hx (Jvm.hb hby d1_30) (tlt hc30_134).2.1 (q := 33) rfl ?_
  refine Go.aloadN X130.here hx (Jvm.hb hby d1_33) rfl rfl (q := 34) rfl ?_
  have f136 := F116.other W130 (Or.inl ne129)
  refine Go.getf X130 hx hZ hown (word hw 22 rfl) e130 f136 (Jvm.hb hby d1_34) (q := 37) rfl ?_
  intro T135 X135 e135
  refine Go.iloadN X135.here hx (Jvm.hb hby d1_37) rfl (q := 38) rfl ?_
  refine Go.iconst X135.here hx (Jvm.hb hby d1_38) (v := (1 : Int32)) rfl (q := 39) rfl ?_
  refine Go.iadd X135.here hx (Jvm.hb hby d1_39) (v := (2 : Int32)) (by decide) (q := 40) rfl ?_
  refine Go.aloadN X135.here hx (Jvm.hb hby d1_40) rfl rfl (q := 41) rfl ?_
  refine Go.getf X135 hx hZ hown (word hw 22 rfl) e135 f136 (Jvm.hb hby d1_41) (q := 44) rfl ?_
  intro T137 X137 e137
  refine Go.iloadN X137.here hx (Jvm.hb hby d1_44) rfl (q := 45) rfl ?_
  refine Go.daload X137 hx hZ e137 R130 (Jvm.hb hby d1_45) (i := 1) (by decide) (by decide) rfl (q := 46) rfl ?_
  refine Go.aloadN X137.here hx (Jvm.hb hby d1_46) rfl rfl (q := 47) rfl ?_
  refine Go.iloadN X137.here hx (Jvm.hb hby d1_47) rfl (q := 48) rfl ?_
  refine Go.daload X137 hx hZ e137 f131 (Jvm.hb hby d1_48) (i := 1) (by decide) (by decide) rfl (q := 49) rfl ?_
  obtain ⟨u49_1, hu49_1⟩ : ∃ zq, FP.dadd u49 x1 = zq := ⟨_, rfl⟩
  refine Go.dadd X137.here hx (Jvm.hb hby d1_49) (by subst_vars; first | exact hn.1 | exact hn.2.1 | exact hn.2.2.1 | exact hn.2.2.2.1) hu49_1 (q := 50) rfl ?_
  refine Go.dastore X137 hx hZ e137 R130 (Jvm.hb hby d1_50) (i := 2) (by decide) (by decide) rfl (q := 51) rfl ?_
  intro T138 h138 X138 e138 W138 R138
  have N138 := Fr.snoc X138 N130 r113
  have R138 : Row Z h138 a110 .double kk110 [(.double (0 : UInt64)), (.double u49), (.double u49_1), (.double (0 : UInt64)), (.double (0 : UInt64))] := R138
  refine Go.iinc X138.here hx (Jvm.hb hby d1_51) rfl (v := (2 : Int32)) (by decide) (l2 := #[.val (.ref a1), .val (.ref a2), .val (.int (2 : Int32))]) rfl (q := 54) rfl ?_
  refine Go.goto X138.here hx (Jvm.hb hby d1_54) (by decide) (q := 27) rfl ?_
  refine Go.iloadN X138.here hx (Jvm.hb hby d1_27) rfl (q := 28) rfl ?_
  refine Go.aloadN X138.here hx (Jvm.hb hby d1_28) rfl rfl (q := 29) rfl ?_
  have f139 := f131.other W138 ne132
  refine Go.alen X138 hx hZ e138 f139 (Jvm.hb hby d1_29) (n := (4 : Int32)) (by first | rfl | decide) (q := 30) rfl ?_
  have hc30_141 : (2 : Int32) < (4 : Int32) := by decide
  refine Go.icmpN X138.here hx (Jvm.hb hby d1_30) (tlt hc30_141).2.1 (q := 33) rfl ?_
  refine Go.aloadN X138.here hx (Jvm.hb hby d1_33) rfl rfl (q := 34) rfl ?_
  have f143 := f136.other W138 (Or.inl ne129)
  refine Go.getf X138 hx hZ hown (word hw 22 rfl) e138 f143 (Jvm.hb hby d1_34) (q := 37) rfl ?_
  intro T142 X142 e142
  refine Go.iloadN X142.here hx (Jvm.hb hby d1_37) rfl (q := 38) rfl ?_
  refine Go.iconst X142.here hx (Jvm.hb hby d1_38) (v := (1 : Int32)) rfl (q := 39) rfl ?_
  refine Go.iadd X142.here hx (Jvm.hb hby d1_39) (v := (3 : Int32)) (by decide) (q := 40) rfl ?_
  refine Go.aloadN X142.here hx (Jvm.hb hby d1_40) rfl rfl (q := 41) rfl ?_
  refine Go.getf X142 hx hZ hown (word hw 22 rfl) e142 f143 (Jvm.hb hby d1_41) (q := 44) rfl ?_
  intro T144 X144 e144
  refine Go.iloadN X144.here hx (Jvm.hb hby d1_44) rfl (q := 45) rfl ?_
  refine Go.daload X144 hx hZ e144 R138 (Jvm.hb hby d1_45) (i := 2) (by decide) (by decide) rfl (q := 46) rfl ?_
  refine Go.aloadN X144.here hx (Jvm.hb hby d1_46) rfl rfl (q := 47) rfl ?_
  refine Go.iloadN X144.here hx (Jvm.hb hby d1_47) rfl (q := 48) rfl ?_
  refine Go.daload X144 hx hZ e144 f139 (Jvm.hb hby d1_48) (i := 2) (by decide) (by decide) rfl (q := 49) rfl ?_
  obtain ⟨u49_2, hu49_2⟩ : ∃ zq, FP.dadd u49_1 x2 = zq := ⟨_, rfl⟩
  refine Go.dadd X144.here hx (Jvm.hb hby d1_49) (by subst_vars; first | exact hn.1 | exact hn.2.1 | exact hn.2.2.1 | exact hn.2.2.2.1) hu49_2 (q := 50) rfl ?_
  refine Go.dastore X144 hx hZ e144 R138 (Jvm.hb hby d1_50) (i := 3) (by decide) (by decide) rfl (q := 51) rfl ?_
  intro T145 h145 X145 e145 W145 R145
  have N145 := Fr.snoc X145 N138 r113
  have R145 : Row Z h145 a110 .double kk110 [(.double (0 : UInt64)), (.double u49), (.double u49_1), (.double u49_2), (.double (0 : UInt64))] := R145
  refine Go.iinc X145.here hx (Jvm.hb hby d1_51) rfl (v := (3 : Int32)) (by decide) (l2 := #[.val (.ref a1), .val (.ref a2), .val (.int (3 : Int32))]) rfl (q := 54) rfl ?_
  refine Go.goto X145.here hx (Jvm.hb hby d1_54) (by decide) (q := 27) rfl ?_
  refine Go.iloadN X145.here hx (Jvm.hb hby d1_27) rfl (q := 28) rfl ?_
  refine Go.aloadN X145.here hx (Jvm.hb hby d1_28) rfl rfl (q := 29) rfl ?_
  have f146 := f139.other W145 ne132
  refine Go.alen X145 hx hZ e145 f146 (Jvm.hb hby d1_29) (n := (4 : Int32)) (by first | rfl | decide) (q := 30) rfl ?_
  have hc30_148 : (3 : Int32) < (4 : Int32) := by decide
  refine Go.icmpN X145.here hx (Jvm.hb hby d1_30) (tlt hc30_148).2.1 (q := 33) rfl ?_
  refine Go.aloadN X145.here hx (Jvm.hb hby d1_33) rfl rfl (q := 34) rfl ?_
  have f150 := f143.other W145 (Or.inl ne129)
  refine Go.getf X145 hx hZ hown (word hw 22 rfl) e145 f150 (Jvm.hb hby d1_34) (q := 37) rfl ?_
  intro T149 X149 e149
  refine Go.iloadN X149.here hx (Jvm.hb hby d1_37) rfl (q := 38) rfl ?_
  refine Go.iconst X149.here hx (Jvm.hb hby d1_38) (v := (1 : Int32)) rfl (q := 39) rfl ?_
  refine Go.iadd X149.here hx (Jvm.hb hby d1_39) (v := (4 : Int32)) (by decide) (q := 40) rfl ?_
  refine Go.aloadN X149.here hx (Jvm.hb hby d1_40) rfl rfl (q := 41) rfl ?_
  refine Go.getf X149 hx hZ hown (word hw 22 rfl) e149 f150 (Jvm.hb hby d1_41) (q := 44) rfl ?_
  intro T151 X151 e151
  refine Go.iloadN X151.here hx (Jvm.hb hby d1_44) rfl (q := 45) rfl ?_
  refine Go.daload X151 hx hZ e151 R145 (Jvm.hb hby d1_45) (i := 3) (by decide) (by decide) rfl (q := 46) rfl ?_
  refine Go.aloadN X151.here hx (Jvm.hb hby d1_46) rfl rfl (q := 47) rfl ?_
  refine Go.iloadN X151.here hx (Jvm.hb hby d1_47) rfl (q := 48) rfl ?_
  refine Go.daload X151 hx hZ e151 f146 (Jvm.hb hby d1_48) (i := 3) (by decide) (by decide) rfl (q := 49) rfl ?_
  obtain ⟨u49_3, hu49_3⟩ : ∃ zq, FP.dadd u49_2 x3 = zq := ⟨_, rfl⟩
  refine Go.dadd X151.here hx (Jvm.hb hby d1_49) (by subst_vars; first | exact hn.1 | exact hn.2.1 | exact hn.2.2.1 | exact hn.2.2.2.1) hu49_3 (q := 50) rfl ?_
  refine Go.dastore X151 hx hZ e151 R145 (Jvm.hb hby d1_50) (i := 4) (by decide) (by decide) rfl (q := 51) rfl ?_
  intro T152 h152 X152 e152 W152 R152
  have N152 := Fr.snoc X152 N145 r113
  have R152 : Row Z h152 a110 .double kk110 [(.double (0 : UInt64)), (.double u49), (.double u49_1), (.double u49_2), (.double u49_3)] := R152
  refine Go.iinc X152.here hx (Jvm.hb hby d1_51) rfl (v := (4 : Int32)) (by decide) (l2 := #[.val (.ref a1), .val (.ref a2), .val (.int (4 : Int32))]) rfl (q := 54) rfl ?_
  refine Go.goto X152.here hx (Jvm.hb hby d1_54) (by decide) (q := 27) rfl ?_
  refine Go.iloadN X152.here hx (Jvm.hb hby d1_27) rfl (q := 28) rfl ?_
  refine Go.aloadN X152.here hx (Jvm.hb hby d1_28) rfl rfl (q := 29) rfl ?_
  have f153 := f146.other W152 ne132
  refine Go.alen X152 hx hZ e152 f153 (Jvm.hb hby d1_29) (n := (4 : Int32)) (by first | rfl | decide) (q := 30) rfl ?_
  have hc30_155 : ¬ ((4 : Int32) < (4 : Int32)) := by decide
  refine Go.icmpY X152.here hx (Jvm.hb hby d1_30) (flt hc30_155).2.1 (by decide) (q := 57) rfl ?_
  subst hu49 hu49_1 hu49_2 hu49_3
  have k156 : Keep h0 h110 [a1] := k115.ext E110
  have k157 : Keep h0 h116 [a1] := k156.wr W116 (Or.inl (List.mem_of_getElem? (i := 0) rfl))
  have k158 : Keep h0 h130 [a1] := k157.wr W130 (Or.inr y113)
  have k159 : Keep h0 h138 [a1] := k158.wr W138 (Or.inr y113)
  have k160 : Keep h0 h145 [a1] := k159.wr W145 (Or.inr y113)
  have k161 : Keep h0 h152 [a1] := k160.wr W152 (Or.inr y113)
  have f162 := f121.wr W116
  have f163 := f162.wr W130
  have f164 := f163.wr W138
  have f165 := f164.wr W145
  have f166 := f165.wr W152
  have f167 := f150.other W152 (Or.inl ne129)
  refine Go.retV X152 hx hret hlk (Jvm.hb hby d1_57) (by decide) (by decide) ?_
  rw [e152]
  exact ⟨a110, kk110, rfl, N152, k161, y113, f166, f167, R152⟩
set_option maxRecDepth 65536 in
set_option maxHeartbeats 40000000 in
theorem rm_at4 (l : Launch) (Z : State) (a0 : Array Value) (hw : ∀ d ∈ tables_1, d.before a0 Z = true) (a1 : Addr) (as' : Addr) (ks : ClassId) (t : UInt64) (s0 : UInt64) (s1 : UInt64) (s2 : UInt64) (s3 : UInt64) (s4 : UInt64) (h0 : Heap) (n0 : Nat) (Z0 : n0 ≤ h0.size) (F2 : Fld Z h0 a1 "com/example/palpito/palpito/Segments" "startsMs" "[D" (.ref as')) (R1 : Row Z h0 as' .double ks [(.double s0), (.double s1), (.double s2), (.double s3), (.double s4)]) :
    Con l Z (⟨"com/example/palpito/palpito/Segments", "at", "(D)I"⟩ : MethodName) prog_48_method_6_code 6 (some .int) ({ frames := 0, cells := 0, slots := 0, locals := 0 } : Room) #[(.ref a1), (.double t)] h0 (fun vR hR LR => vR = some (.int (own_at4 s1 s2 s3 t)) ∧ Fr n0 LR ∧ hR = h0) := by
  refine enter (l := l) (Z := Z) (y := (⟨"com/example/palpito/palpito/Segments", "at", "(D)I"⟩ : MethodName)) (bytes := prog_48_method_6_code) (maxL := 6) (ret := (some .int)) (ws := []) (rm := ({ frames := 0, cells := 0, slots := 0, locals := 0 } : Room)) (as' := #[(.ref a1), (.double t)]) (h0 := h0) (Qv := (fun vR hR LR => vR = some (.int (own_at4 s1 s2 s3 t)) ∧ Fr n0 LR ∧ hR = h0)) (kc := 0) (ks := 0) (by first | exact plainFor_of_name (by first | (simp [plainName, overriddenIn]; done) | decide +kernel) | decide +kernel) (Ls := #[.val (.ref a1), .val (.double t), .second, .unset, .unset, .unset]) (fun m => by first | (simp [entryFrame, mkF, argsToLocals, Value.category]; done) | rfl) ?_
  intro p e s m below meth c s₁ hx hby hml hown hnm hret hlk hZ X0 e0
  have hown : s.vm.findClass "com/example/palpito/palpito/Segments" = some m.cls := hown
  have hml : c.maxLocals = 6 := hml
  have N0 := Fr.nil n0
  refine Go.iconst X0.here hx (Jvm.hb hby d3_0) (v := (0 : Int32)) rfl (q := 1) rfl ?_
  refine Go.istoreN X0.here hx (Jvm.hb hby d3_1) (l2 := #[.val (.ref a1), .val (.double t), .second, .val (.int (0 : Int32)), .unset, .unset]) rfl (q := 2) rfl ?_
  refine Go.aloadN X0.here hx (Jvm.hb hby d3_2) rfl rfl (q := 3) rfl ?_
  refine Go.getf X0 hx hZ hown (word hw 22 rfl) e0 F2 (Jvm.hb hby d3_3) (q := 6) rfl ?_
  intro T101 X101 e101
  refine Go.alen X101 hx hZ e101 R1 (Jvm.hb hby d3_6) (n := (5 : Int32)) (by first | rfl | decide) (q := 7) rfl ?_
  refine Go.iconst X101.here hx (Jvm.hb hby d3_7) (v := (1 : Int32)) rfl (q := 8) rfl ?_
  refine Go.isub X101.here hx (Jvm.hb hby d3_8) (v := (4 : Int32)) (by decide) (q := 9) rfl ?_
  refine Go.istore X101.here hx (Jvm.hb hby d3_9) (l2 := #[.val (.ref a1), .val (.double t), .second, .val (.int (0 : Int32)), .val (.int (4 : Int32)), .unset]) rfl (q := 11) rfl ?_
  refine Go.iload X101.here hx (Jvm.hb hby d3_11) rfl (q := 13) rfl ?_
  refine Go.iloadN X101.here hx (Jvm.hb hby d3_13) rfl (q := 14) rfl ?_
  refine Go.isub X101.here hx (Jvm.hb hby d3_14) (v := (4 : Int32)) (by decide) (q := 15) rfl ?_
  refine Go.iconst X101.here hx (Jvm.hb hby d3_15) (v := (1 : Int32)) rfl (q := 16) rfl ?_
  have hc16_103 : (1 : Int32) < (4 : Int32) := by decide
  refine Go.icmpN X101.here hx (Jvm.hb hby d3_16) (tlt hc16_103).2.2.2 (q := 19) rfl ?_
  refine Go.iloadN X101.here hx (Jvm.hb hby d3_19) rfl (q := 20) rfl ?_
  refine Go.iload X101.here hx (Jvm.hb hby d3_20) rfl (q := 22) rfl ?_
  refine Go.iadd X101.here hx (Jvm.hb hby d3_22) (v := (4 : Int32)) (by decide) (q := 23) rfl ?_
  refine Go.iconst X101.here hx (Jvm.hb hby d3_23) (v := (1 : Int32)) rfl (q := 24) rfl ?_
  refine Go.iushr X101.here hx (Jvm.hb hby d3_24) (v := (2 : Int32)) (by decide) (q := 25) rfl ?_
  refine Go.istore X101.here hx (Jvm.hb hby d3_25) (l2 := #[.val (.ref a1), .val (.double t), .second, .val (.int (0 : Int32)), .val (.int (4 : Int32)), .val (.int (2 : Int32))]) rfl (q := 27) rfl ?_
  refine Go.aloadN X101.here hx (Jvm.hb hby d3_27) rfl rfl (q := 28) rfl ?_
  refine Go.getf X101 hx hZ hown (word hw 22 rfl) e101 F2 (Jvm.hb hby d3_28) (q := 31) rfl ?_
  intro T104 X104 e104
  refine Go.iload X104.here hx (Jvm.hb hby d3_31) rfl (q := 33) rfl ?_
  refine Go.daload X104 hx hZ e104 R1 (Jvm.hb hby d3_33) (i := 2) (by decide) (by decide) rfl (q := 34) rfl ?_
  refine Go.dloadN X104.here hx (Jvm.hb hby d3_34) rfl (q := 35) rfl ?_
  obtain ⟨u35, hu35⟩ : ∃ zq, cmpValue (FP.dcmp s2 t) .g = zq := ⟨_, rfl⟩
  refine Go.dcmp X104.here hx (Jvm.hb hby d3_35) hu35 (q := 36) rfl ?_
  by_cases hc36 : (0 : Int32) < u35
  · -- pc 36: (0 : Int32) < u35
    refine Go.ifY X104.here hx (Jvm.hb hby d3_36) ((if0 _ _).trans (tlt hc36).2.2.1) (by decide) (q := 45) rfl ?_
    refine Go.iload X104.here hx (Jvm.hb hby d3_45) rfl (q := 47) rfl ?_
    refine Go.istore X104.here hx (Jvm.hb hby d3_47) (l2 := #[.val (.ref a1), .val (.double t), .second, .val (.int (0 : Int32)), .val (.int (2 : Int32)), .val (.int (2 : Int32))]) rfl (q := 49) rfl ?_
    refine Go.goto X104.here hx (Jvm.hb hby d3_49) (by decide) (q := 11) rfl ?_
    refine Go.iload X104.here hx (Jvm.hb hby d3_11) rfl (q := 13) rfl ?_
    refine Go.iloadN X104.here hx (Jvm.hb hby d3_13) rfl (q := 14) rfl ?_
    refine Go.isub X104.here hx (Jvm.hb hby d3_14) (v := (2 : Int32)) (by decide) (q := 15) rfl ?_
    refine Go.iconst X104.here hx (Jvm.hb hby d3_15) (v := (1 : Int32)) rfl (q := 16) rfl ?_
    have hc16_107 : (1 : Int32) < (2 : Int32) := by decide
    refine Go.icmpN X104.here hx (Jvm.hb hby d3_16) (tlt hc16_107).2.2.2 (q := 19) rfl ?_
    refine Go.iloadN X104.here hx (Jvm.hb hby d3_19) rfl (q := 20) rfl ?_
    refine Go.iload X104.here hx (Jvm.hb hby d3_20) rfl (q := 22) rfl ?_
    refine Go.iadd X104.here hx (Jvm.hb hby d3_22) (v := (2 : Int32)) (by decide) (q := 23) rfl ?_
    refine Go.iconst X104.here hx (Jvm.hb hby d3_23) (v := (1 : Int32)) rfl (q := 24) rfl ?_
    refine Go.iushr X104.here hx (Jvm.hb hby d3_24) (v := (1 : Int32)) (by decide) (q := 25) rfl ?_
    refine Go.istore X104.here hx (Jvm.hb hby d3_25) (l2 := #[.val (.ref a1), .val (.double t), .second, .val (.int (0 : Int32)), .val (.int (2 : Int32)), .val (.int (1 : Int32))]) rfl (q := 27) rfl ?_
    refine Go.aloadN X104.here hx (Jvm.hb hby d3_27) rfl rfl (q := 28) rfl ?_
    refine Go.getf X104 hx hZ hown (word hw 22 rfl) e104 F2 (Jvm.hb hby d3_28) (q := 31) rfl ?_
    intro T108 X108 e108
    refine Go.iload X108.here hx (Jvm.hb hby d3_31) rfl (q := 33) rfl ?_
    refine Go.daload X108 hx hZ e108 R1 (Jvm.hb hby d3_33) (i := 1) (by decide) (by decide) rfl (q := 34) rfl ?_
    refine Go.dloadN X108.here hx (Jvm.hb hby d3_34) rfl (q := 35) rfl ?_
    obtain ⟨u35_1, hu35_1⟩ : ∃ zq, cmpValue (FP.dcmp s1 t) .g = zq := ⟨_, rfl⟩
    refine Go.dcmp X108.here hx (Jvm.hb hby d3_35) hu35_1 (q := 36) rfl ?_
    by_cases hc36_1 : (0 : Int32) < u35_1
    · -- pc 36: (0 : Int32) < u35_1
      refine Go.ifY X108.here hx (Jvm.hb hby d3_36) ((if0 _ _).trans (tlt hc36_1).2.2.1) (by decide) (q := 45) rfl ?_
      refine Go.iload X108.here hx (Jvm.hb hby d3_45) rfl (q := 47) rfl ?_
      refine Go.istore X108.here hx (Jvm.hb hby d3_47) (l2 := #[.val (.ref a1), .val (.double t), .second, .val (.int (0 : Int32)), .val (.int (1 : Int32)), .val (.int (1 : Int32))]) rfl (q := 49) rfl ?_
      refine Go.goto X108.here hx (Jvm.hb hby d3_49) (by decide) (q := 11) rfl ?_
      refine Go.iload X108.here hx (Jvm.hb hby d3_11) rfl (q := 13) rfl ?_
      refine Go.iloadN X108.here hx (Jvm.hb hby d3_13) rfl (q := 14) rfl ?_
      refine Go.isub X108.here hx (Jvm.hb hby d3_14) (v := (1 : Int32)) (by decide) (q := 15) rfl ?_
      refine Go.iconst X108.here hx (Jvm.hb hby d3_15) (v := (1 : Int32)) rfl (q := 16) rfl ?_
      have hc16_111 : ¬ ((1 : Int32) < (1 : Int32)) := by decide
      refine Go.icmpY X108.here hx (Jvm.hb hby d3_16) (flt hc16_111).2.2.2 (by decide) (q := 52) rfl ?_
      refine Go.iloadN X108.here hx (Jvm.hb hby d3_52) rfl (q := 53) rfl ?_
      refine Go.retI X108 hx hret hlk (Jvm.hb hby d3_53) (by decide) (by decide) ?_
      exact ⟨by subst_vars; first | exact own_r4a hc36 hc36_1 | exact own_r4b hc36 hc36_1 | exact own_r4c hc36 hc36_1 | exact own_r4d hc36 hc36_1, N0, e108⟩
    · -- pc 36: not (0 : Int32) < u35_1
      refine Go.ifN X108.here hx (Jvm.hb hby d3_36) ((if0 _ _).trans (flt hc36_1).2.2.1) (q := 39) rfl ?_
      refine Go.iload X108.here hx (Jvm.hb hby d3_39) rfl (q := 41) rfl ?_
      refine Go.istoreN X108.here hx (Jvm.hb hby d3_41) (l2 := #[.val (.ref a1), .val (.double t), .second, .val (.int (1 : Int32)), .val (.int (2 : Int32)), .val (.int (1 : Int32))]) rfl (q := 42) rfl ?_
      refine Go.goto X108.here hx (Jvm.hb hby d3_42) (by decide) (q := 49) rfl ?_
      refine Go.goto X108.here hx (Jvm.hb hby d3_49) (by decide) (q := 11) rfl ?_
      refine Go.iload X108.here hx (Jvm.hb hby d3_11) rfl (q := 13) rfl ?_
      refine Go.iloadN X108.here hx (Jvm.hb hby d3_13) rfl (q := 14) rfl ?_
      refine Go.isub X108.here hx (Jvm.hb hby d3_14) (v := (1 : Int32)) (by decide) (q := 15) rfl ?_
      refine Go.iconst X108.here hx (Jvm.hb hby d3_15) (v := (1 : Int32)) rfl (q := 16) rfl ?_
      have hc16_113 : ¬ ((1 : Int32) < (1 : Int32)) := by decide
      refine Go.icmpY X108.here hx (Jvm.hb hby d3_16) (flt hc16_113).2.2.2 (by decide) (q := 52) rfl ?_
      refine Go.iloadN X108.here hx (Jvm.hb hby d3_52) rfl (q := 53) rfl ?_
      refine Go.retI X108 hx hret hlk (Jvm.hb hby d3_53) (by decide) (by decide) ?_
      exact ⟨by subst_vars; first | exact own_r4a hc36 hc36_1 | exact own_r4b hc36 hc36_1 | exact own_r4c hc36 hc36_1 | exact own_r4d hc36 hc36_1, N0, e108⟩
  · -- pc 36: not (0 : Int32) < u35
    refine Go.ifN X104.here hx (Jvm.hb hby d3_36) ((if0 _ _).trans (flt hc36).2.2.1) (q := 39) rfl ?_
    refine Go.iload X104.here hx (Jvm.hb hby d3_39) rfl (q := 41) rfl ?_
    refine Go.istoreN X104.here hx (Jvm.hb hby d3_41) (l2 := #[.val (.ref a1), .val (.double t), .second, .val (.int (2 : Int32)), .val (.int (4 : Int32)), .val (.int (2 : Int32))]) rfl (q := 42) rfl ?_
    refine Go.goto X104.here hx (Jvm.hb hby d3_42) (by decide) (q := 49) rfl ?_
    refine Go.goto X104.here hx (Jvm.hb hby d3_49) (by decide) (q := 11) rfl ?_
    refine Go.iload X104.here hx (Jvm.hb hby d3_11) rfl (q := 13) rfl ?_
    refine Go.iloadN X104.here hx (Jvm.hb hby d3_13) rfl (q := 14) rfl ?_
    refine Go.isub X104.here hx (Jvm.hb hby d3_14) (v := (2 : Int32)) (by decide) (q := 15) rfl ?_
    refine Go.iconst X104.here hx (Jvm.hb hby d3_15) (v := (1 : Int32)) rfl (q := 16) rfl ?_
    have hc16_115 : (1 : Int32) < (2 : Int32) := by decide
    refine Go.icmpN X104.here hx (Jvm.hb hby d3_16) (tlt hc16_115).2.2.2 (q := 19) rfl ?_
    refine Go.iloadN X104.here hx (Jvm.hb hby d3_19) rfl (q := 20) rfl ?_
    refine Go.iload X104.here hx (Jvm.hb hby d3_20) rfl (q := 22) rfl ?_
    refine Go.iadd X104.here hx (Jvm.hb hby d3_22) (v := (6 : Int32)) (by decide) (q := 23) rfl ?_
    refine Go.iconst X104.here hx (Jvm.hb hby d3_23) (v := (1 : Int32)) rfl (q := 24) rfl ?_
    refine Go.iushr X104.here hx (Jvm.hb hby d3_24) (v := (3 : Int32)) (by decide) (q := 25) rfl ?_
    refine Go.istore X104.here hx (Jvm.hb hby d3_25) (l2 := #[.val (.ref a1), .val (.double t), .second, .val (.int (2 : Int32)), .val (.int (4 : Int32)), .val (.int (3 : Int32))]) rfl (q := 27) rfl ?_
    refine Go.aloadN X104.here hx (Jvm.hb hby d3_27) rfl rfl (q := 28) rfl ?_
    refine Go.getf X104 hx hZ hown (word hw 22 rfl) e104 F2 (Jvm.hb hby d3_28) (q := 31) rfl ?_
    intro T116 X116 e116
    refine Go.iload X116.here hx (Jvm.hb hby d3_31) rfl (q := 33) rfl ?_
    refine Go.daload X116 hx hZ e116 R1 (Jvm.hb hby d3_33) (i := 3) (by decide) (by decide) rfl (q := 34) rfl ?_
    refine Go.dloadN X116.here hx (Jvm.hb hby d3_34) rfl (q := 35) rfl ?_
    obtain ⟨u35_1, hu35_1⟩ : ∃ zq, cmpValue (FP.dcmp s3 t) .g = zq := ⟨_, rfl⟩
    refine Go.dcmp X116.here hx (Jvm.hb hby d3_35) hu35_1 (q := 36) rfl ?_
    by_cases hc36_1 : (0 : Int32) < u35_1
    · -- pc 36: (0 : Int32) < u35_1
      refine Go.ifY X116.here hx (Jvm.hb hby d3_36) ((if0 _ _).trans (tlt hc36_1).2.2.1) (by decide) (q := 45) rfl ?_
      refine Go.iload X116.here hx (Jvm.hb hby d3_45) rfl (q := 47) rfl ?_
      refine Go.istore X116.here hx (Jvm.hb hby d3_47) (l2 := #[.val (.ref a1), .val (.double t), .second, .val (.int (2 : Int32)), .val (.int (3 : Int32)), .val (.int (3 : Int32))]) rfl (q := 49) rfl ?_
      refine Go.goto X116.here hx (Jvm.hb hby d3_49) (by decide) (q := 11) rfl ?_
      refine Go.iload X116.here hx (Jvm.hb hby d3_11) rfl (q := 13) rfl ?_
      refine Go.iloadN X116.here hx (Jvm.hb hby d3_13) rfl (q := 14) rfl ?_
      refine Go.isub X116.here hx (Jvm.hb hby d3_14) (v := (1 : Int32)) (by decide) (q := 15) rfl ?_
      refine Go.iconst X116.here hx (Jvm.hb hby d3_15) (v := (1 : Int32)) rfl (q := 16) rfl ?_
      have hc16_119 : ¬ ((1 : Int32) < (1 : Int32)) := by decide
      refine Go.icmpY X116.here hx (Jvm.hb hby d3_16) (flt hc16_119).2.2.2 (by decide) (q := 52) rfl ?_
      refine Go.iloadN X116.here hx (Jvm.hb hby d3_52) rfl (q := 53) rfl ?_
      refine Go.retI X116 hx hret hlk (Jvm.hb hby d3_53) (by decide) (by decide) ?_
      exact ⟨by subst_vars; first | exact own_r4a hc36 hc36_1 | exact own_r4b hc36 hc36_1 | exact own_r4c hc36 hc36_1 | exact own_r4d hc36 hc36_1, N0, e116⟩
    · -- pc 36: not (0 : Int32) < u35_1
      refine Go.ifN X116.here hx (Jvm.hb hby d3_36) ((if0 _ _).trans (flt hc36_1).2.2.1) (q := 39) rfl ?_
      refine Go.iload X116.here hx (Jvm.hb hby d3_39) rfl (q := 41) rfl ?_
      refine Go.istoreN X116.here hx (Jvm.hb hby d3_41) (l2 := #[.val (.ref a1), .val (.double t), .second, .val (.int (3 : Int32)), .val (.int (4 : Int32)), .val (.int (3 : Int32))]) rfl (q := 42) rfl ?_
      refine Go.goto X116.here hx (Jvm.hb hby d3_42) (by decide) (q := 49) rfl ?_
      refine Go.goto X116.here hx (Jvm.hb hby d3_49) (by decide) (q := 11) rfl ?_
      refine Go.iload X116.here hx (Jvm.hb hby d3_11) rfl (q := 13) rfl ?_
      refine Go.iloadN X116.here hx (Jvm.hb hby d3_13) rfl (q := 14) rfl ?_
      refine Go.isub X116.here hx (Jvm.hb hby d3_14) (v := (1 : Int32)) (by decide) (q := 15) rfl ?_
      refine Go.iconst X116.here hx (Jvm.hb hby d3_15) (v := (1 : Int32)) rfl (q := 16) rfl ?_
      have hc16_121 : ¬ ((1 : Int32) < (1 : Int32)) := by decide
      refine Go.icmpY X116.here hx (Jvm.hb hby d3_16) (flt hc16_121).2.2.2 (by decide) (q := 52) rfl ?_
      refine Go.iloadN X116.here hx (Jvm.hb hby d3_52) rfl (q := 53) rfl ?_
      refine Go.retI X116 hx hret hlk (Jvm.hb hby d3_53) (by decide) (by decide) ?_
      exact ⟨by subst_vars; first | exact own_r4a hc36 hc36_1 | exact own_r4b hc36 hc36_1 | exact own_r4c hc36 hc36_1 | exact own_r4d hc36 hc36_1, N0, e116⟩
set_option maxRecDepth 65536 in
set_option maxHeartbeats 40000000 in
theorem rm_law (l : Launch) (Z : State) (a0 : Array Value) (hw : ∀ d ∈ tables_1, d.before a0 Z = true) (ws : List Jvm.Cond) (q1 : Int32) (q2 : Int32) (q3 : Int32) (q4 : Int32) (q5 : Int32) (q6 : Int32) (h0 : Heap) (n0 : Nat) (Z0 : n0 ≤ h0.size)  :
    MetFree l x (head1 (Jvm.Cond.code x code maxLocals ret :: ws) room_1) (fun a U => a = #[(.int q1), (.int q2), (.int q3), (.int q4), (.int q5), (.int q6)] ∧ Z.Warmed39 U.vm ∧ U.heap = h0) (fun _ _ _ _ _ => True) (fun _ U o U' => ∃ v L, o = .returned v ∧ (fun vR hR LR => vR = some (.int (1 : Int32)) ∧ Fr n0 LR) v U'.heap L ∧ FrameEnd U o U' L 16 128) := by
  refine enter (l := l) (Z := Z) (y := x) (bytes := code) (maxL := maxLocals) (ret := ret) (ws := ws) (rm := room_1) (as' := #[(.int q1), (.int q2), (.int q3), (.int q4), (.int q5), (.int q6)]) (h0 := h0) (Qv := (fun vR hR LR => vR = some (.int (1 : Int32)) ∧ Fr n0 LR)) (kc := 16) (ks := 128) (by first | exact plainFor_of_name (by first | (simp [plainName, overriddenIn]; done) | decide +kernel) | decide +kernel) (Ls := #[.val (.int q1), .val (.int q2), .val (.int q3), .val (.int q4), .val (.int q5), .val (.int q6), .unset, .unset, .unset, .unset, .unset, .unset, .unset, .unset, .unset, .unset, .unset, .unset, .unset, .unset, .unset, .unset, .unset, .unset, .unset, .unset, .unset]) (fun m => by first | (simp [entryFrame, mkF, argsToLocals, Value.category, maxLocals]; done) | rfl) ?_
  intro p e s m below meth c s₁ hx hby hml hown hnm hret hlk hZ X0 e0
  have hown : s.vm.findClass "com/example/palpito/palpito/SegmentsAtPinLaw" = some m.cls := hown
  have hml : c.maxLocals = 27 := hml
  have N0 := Fr.nil n0
  refine Go.iconst X0.here hx (Jvm.hb hby at_0) (v := (1 : Int32)) rfl (q := 1) rfl ?_
  refine Go.iloadN X0.here hx (Jvm.hb hby at_1) rfl (q := 2) rfl ?_
  refine Go.iconst X0.here hx (Jvm.hb hby at_2) (v := (3 : Int32)) rfl (q := 3) rfl ?_
  obtain ⟨u3, hu3⟩ : ∃ zq, q1 &&& (3 : Int32) = zq := ⟨_, rfl⟩
  refine Go.iand X0.here hx (Jvm.hb hby at_3) hu3 (q := 4) rfl ?_
  rcases own_four hu3 with rfl | rfl | rfl | rfl
  · -- u3 = 0
    refine Go.iadd X0.here hx (Jvm.hb hby at_4) (v := (1 : Int32)) (by decide) (q := 5) rfl ?_
    refine Go.istore X0.here hx (Jvm.hb hby at_5) (l2 := #[.val (.int q1), .val (.int q2), .val (.int q3), .val (.int q4), .val (.int q5), .val (.int q6), .val (.int (1 : Int32)), .unset, .unset, .unset, .unset, .unset, .unset, .unset, .unset, .unset, .unset, .unset, .unset, .unset, .unset, .unset, .unset, .unset, .unset, .unset, .unset]) rfl (q := 7) rfl ?_
    refine Go.iloadN X0.here hx (Jvm.hb hby at_7) rfl (q := 8) rfl ?_
    refine Go.bipush X0.here hx (Jvm.hb hby at_8) (v := (15 : Int32)) rfl (q := 10) rfl ?_
    obtain ⟨u10, hu10⟩ : ∃ zq, q2 &&& (15 : Int32) = zq := ⟨_, rfl⟩
    refine Go.iand X0.here hx (Jvm.hb hby at_10) hu10 (q := 11) rfl ?_
    obtain ⟨u11, hu11⟩ : ∃ zq, FP.i2d u10 = zq := ⟨_, rfl⟩
    refine Go.i2d X0.here hx (Jvm.hb hby at_11) hu11 (q := 12) rfl ?_
    refine Go.dstore X0.here hx (Jvm.hb hby at_12) (l2 := #[.val (.int q1), .val (.int q2), .val (.int q3), .val (.int q4), .val (.int q5), .val (.int q6), .val (.int (1 : Int32)), .val (.double u11), .second, .unset, .unset, .unset, .unset, .unset, .unset, .unset, .unset, .unset, .unset, .unset, .unset, .unset, .unset, .unset, .unset, .unset, .unset]) rfl (q := 14) rfl ?_
    refine Go.iloadN X0.here hx (Jvm.hb hby at_14) rfl (q := 15) rfl ?_
    refine Go.bipush X0.here hx (Jvm.hb hby at_15) (v := (15 : Int32)) rfl (q := 17) rfl ?_
    obtain ⟨u17, hu17⟩ : ∃ zq, q3 &&& (15 : Int32) = zq := ⟨_, rfl⟩
    refine Go.iand X0.here hx (Jvm.hb hby at_17) hu17 (q := 18) rfl ?_
    obtain ⟨u18, hu18⟩ : ∃ zq, FP.i2d u17 = zq := ⟨_, rfl⟩
    refine Go.i2d X0.here hx (Jvm.hb hby at_18) hu18 (q := 19) rfl ?_
    refine Go.dstore X0.here hx (Jvm.hb hby at_19) (l2 := #[.val (.int q1), .val (.int q2), .val (.int q3), .val (.int q4), .val (.int q5), .val (.int q6), .val (.int (1 : Int32)), .val (.double u11), .second, .val (.double u18), .second, .unset, .unset, .unset, .unset, .unset, .unset, .unset, .unset, .unset, .unset, .unset, .unset, .unset, .unset, .unset, .unset]) rfl (q := 21) rfl ?_
    refine Go.iloadN X0.here hx (Jvm.hb hby at_21) rfl (q := 22) rfl ?_
    refine Go.bipush X0.here hx (Jvm.hb hby at_22) (v := (15 : Int32)) rfl (q := 24) rfl ?_
    obtain ⟨u24, hu24⟩ : ∃ zq, q4 &&& (15 : Int32) = zq := ⟨_, rfl⟩
    refine Go.iand X0.here hx (Jvm.hb hby at_24) hu24 (q := 25) rfl ?_
    obtain ⟨u25, hu25⟩ : ∃ zq, FP.i2d u24 = zq := ⟨_, rfl⟩
    refine Go.i2d X0.here hx (Jvm.hb hby at_25) hu25 (q := 26) rfl ?_
    refine Go.dstore X0.here hx (Jvm.hb hby at_26) (l2 := #[.val (.int q1), .val (.int q2), .val (.int q3), .val (.int q4), .val (.int q5), .val (.int q6), .val (.int (1 : Int32)), .val (.double u11), .second, .val (.double u18), .second, .val (.double u25), .second, .unset, .unset, .unset, .unset, .unset, .unset, .unset, .unset, .unset, .unset, .unset, .unset, .unset, .unset]) rfl (q := 28) rfl ?_
    refine Go.iload X0.here hx (Jvm.hb hby at_28) rfl (q := 30) rfl ?_
    refine Go.bipush X0.here hx (Jvm.hb hby at_30) (v := (15 : Int32)) rfl (q := 32) rfl ?_
    obtain ⟨u32, hu32⟩ : ∃ zq, q5 &&& (15 : Int32) = zq := ⟨_, rfl⟩
    refine Go.iand X0.here hx (Jvm.hb hby at_32) hu32 (q := 33) rfl ?_
    obtain ⟨u33, hu33⟩ : ∃ zq, FP.i2d u32 = zq := ⟨_, rfl⟩
    refine Go.i2d X0.here hx (Jvm.hb hby at_33) hu33 (q := 34) rfl ?_
    refine Go.dstore X0.here hx (Jvm.hb hby at_34) (l2 := #[.val (.int q1), .val (.int q2), .val (.int q3), .val (.int q4), .val (.int q5), .val (.int q6), .val (.int (1 : Int32)), .val (.double u11), .second, .val (.double u18), .second, .val (.double u25), .second, .val (.double u33), .second, .unset, .unset, .unset, .unset, .unset, .unset, .unset, .unset, .unset, .unset, .unset, .unset]) rfl (q := 36) rfl ?_
    refine Go.iload X0.here hx (Jvm.hb hby at_36) rfl (q := 38) rfl ?_
    refine Go.bipush X0.here hx (Jvm.hb hby at_38) (v := (127 : Int32)) rfl (q := 40) rfl ?_
    obtain ⟨u40, hu40⟩ : ∃ zq, q6 &&& (127 : Int32) = zq := ⟨_, rfl⟩
    refine Go.iand X0.here hx (Jvm.hb hby at_40) hu40 (q := 41) rfl ?_
    obtain ⟨u41, hu41⟩ : ∃ zq, FP.i2d u40 = zq := ⟨_, rfl⟩
    refine Go.i2d X0.here hx (Jvm.hb hby at_41) hu41 (q := 42) rfl ?_
    refine Go.ldc2D X0 hx hown (mvT hZ (word hw 0 rfl)) (Jvm.hb hby at_42) (q := 45) rfl ?_
    obtain ⟨u45, hu45⟩ : ∃ zq, FP.ddiv u41 (4611686018427387904 : UInt64) = zq := ⟨_, rfl⟩
    refine Go.ddiv X0.here hx (Jvm.hb hby at_45) (nn_of (own_time hu40 hu41).choose_spec.1) hu45 (q := 46) rfl ?_
    refine Go.dstore X0.here hx (Jvm.hb hby at_46) (l2 := #[.val (.int q1), .val (.int q2), .val (.int q3), .val (.int q4), .val (.int q5), .val (.int q6), .val (.int (1 : Int32)), .val (.double u11), .second, .val (.double u18), .second, .val (.double u25), .second, .val (.double u33), .second, .val (.double u45), .second, .unset, .unset, .unset, .unset, .unset, .unset, .unset, .unset, .unset, .unset]) rfl (q := 48) rfl ?_
    refine Go.iload X0.here hx (Jvm.hb hby at_48) rfl (q := 50) rfl ?_
    refine Go.iconst X0.here hx (Jvm.hb hby at_50) (v := (1 : Int32)) rfl (q := 51) rfl ?_
    have hc51_102 : (1 : Int32) = (1 : Int32) := by decide
    refine Go.icmpN X0.here hx (Jvm.hb hby at_51) (teq hc51_102).2 (q := 54) rfl ?_
    refine Go.iconst X0.here hx (Jvm.hb hby at_54) (v := (1 : Int32)) rfl (q := 55) rfl ?_
    refine Go.newarr X0 hx hZ (aty := .double) (word hw 1 rfl) e0 (Jvm.hb hby at_55) (by decide) (k := 1) (by decide) (by decide) (by decide) (by decide) (ad := "[D") (by decide) (q := 57) rfl ?_
    intro T103 h103 a103 kk103 g103 X103 e103 E103 R103 A103
    have r104 : n0 ≤ a103 := Nat.le_trans Z0 (Nat.le_of_eq g103.symm)
    have R103 : Row Z h103 a103 .double kk103 [(.double (0 : UInt64))] := R103
    refine Go.dup X103.here hx (Jvm.hb hby at_57) rfl (q := 58) rfl ?_
    refine Go.iconst X103.here hx (Jvm.hb hby at_58) (v := (0 : Int32)) rfl (q := 59) rfl ?_
    refine Go.dload X103.here hx (Jvm.hb hby at_59) rfl (q := 61) rfl ?_
    refine Go.dastore X103 hx hZ e103 R103 (Jvm.hb hby at_61) (i := 0) (by decide) (by decide) rfl (q := 62) rfl ?_
    intro T105 h105 X105 e105 W105 R105
    have N105 := Fr.snoc X105 N0 r104
    have R105 : Row Z h105 a103 .double kk103 [(.double u11)] := R105
    refine Go.astore X105.here hx (Jvm.hb hby at_62) rfl (l2 := #[.val (.int q1), .val (.int q2), .val (.int q3), .val (.int q4), .val (.int q5), .val (.int q6), .val (.int (1 : Int32)), .val (.double u11), .second, .val (.double u18), .second, .val (.double u25), .second, .val (.double u33), .second, .val (.double u45), .second, .val (.ref a103), .unset, .unset, .unset, .unset, .unset, .unset, .unset, .unset, .unset]) rfl (q := 64) rfl ?_
    refine Go.goto X105.here hx (Jvm.hb hby at_64) (by decide) (q := 145) rfl ?_
    obtain ⟨n1, H1, b1, c1⟩ := own_len hu10 hu11
    obtain ⟨n2, H2, b2, c2⟩ := own_len hu17 hu18
    obtain ⟨n3, H3, b3, c3⟩ := own_len hu24 hu25
    obtain ⟨n4, H4, b4, c4⟩ := own_len hu32 hu33
    have S1 := h_add h_zero H1 (by omega)
    have S2 := h_add S1 H2 (by omega)
    have S3 := h_add S2 H3 (by omega)
    have S4 := h_add S3 H4 (by omega)
    have Y2 := h_add H1 H2 (by omega)
    have Y3 := h_add Y2 H3 (by omega)
    obtain ⟨nt, H5⟩ := own_time hu40 hu41
    rw [hu45] at H5
    refine Go.new X105 hx hZ hown (word hw 2 rfl) (word hw 3 rfl) (word hw 4 rfl) e105 (Jvm.hb hby at_145) (by decide) (by decide) (q := 148) rfl ?_
    intro T106 h106 a106 g106 X106 e106 E106 A106 D106
    have z107 : n0 ≤ h103.size := Nat.le_trans Z0 E103.1
    have z108 : n0 ≤ h105.size := Nat.le_trans z107 (Nat.le_of_eq W105.size.symm)
    have r109 : n0 ≤ a106 := Nat.le_trans z108 (Nat.le_of_eq g106.symm)
    have F110 : Fld Z h106 a106 "com/example/palpito/palpito/Segments" "lengthsMs" "[D" .null := D106 (Or.inr (word hw 21 rfl)) (ty := (.array .double)) (by decide)
    have F111 : Fld Z h106 a106 "com/example/palpito/palpito/Segments" "startsMs" "[D" .null := D106 (Or.inr (word hw 23 rfl)) (ty := (.array .double)) (by decide)
    refine Go.dup X106.here hx (Jvm.hb hby at_148) rfl (q := 149) rfl ?_
    refine Go.aload X106.here hx (Jvm.hb hby at_149) rfl rfl (q := 151) rfl ?_
    have f113 := R105.ext E106
    have f114 := A103.wr W105
    have f115 := f114.ext E106
    have ne116 : a103 ≠ a106 := Nat.ne_of_lt (Nat.lt_of_lt_of_le R105.lt (Nat.le_of_eq g106.symm))
    have z117 : n0 ≤ h106.size := Nat.le_trans z108 E106.1
    refine Go.special X106 hx hZ (y := (⟨"com/example/palpito/palpito/Segments", "<init>", "([D)V"⟩ : MethodName)) rfl hown (word hw 5 rfl) (word hw 6 rfl) (word hw 7 rfl) (word hw 4 rfl) (by decide) (rm_init1 l Z a0 hw a106 a103 kk103 .null .null u11 h106 n0 z117 A106 F110 F111 f113 f115 (Ne.symm ne116) r109 (⟨(nn_of S1.1), trivial⟩)) e106 (a := a106) (argsL := [(.ref a103)]) (rest := [(.ref a106)]) (W := 1) (Jvm.hb hby at_151) rfl rfl (lenOf (pd0) rfl) (by rw [hml]; rfl) (Nat.le_of_eq rfl) (by decide) (by decide) (by decide) (by decide) (q := 154) rfl ?_
    intro T112 L112 w112 X112 hQ112
    obtain ⟨a112, kk112_1, rfl, M112, K112, G112_0, P112_0, P112_1, P112_2⟩ := hQ112
    have N112 := Fr.app N105 M112
    have r118 : n0 ≤ a112 := Nat.le_trans z117 (G112_0)
    show Go p e below _ (T112.setTop (mkF m 154 #[.val (.int q1), .val (.int q2), .val (.int q3), .val (.int q4), .val (.int q5), .val (.int q6), .val (.int (1 : Int32)), .val (.double u11), .second, .val (.double u18), .second, .val (.double u25), .second, .val (.double u33), .second, .val (.double u45), .second, .val (.ref a103), .unset, .unset, .unset, .unset, .unset, .unset, .unset, .unset, .unset] [(.ref a106)]))
    refine Go.astore X112.here hx (Jvm.hb hby at_154) rfl (l2 := #[.val (.int q1), .val (.int q2), .val (.int q3), .val (.int q4), .val (.int q5), .val (.int q6), .val (.int (1 : Int32)), .val (.double u11), .second, .val (.double u18), .second, .val (.double u25), .second, .val (.double u33), .second, .val (.double u45), .second, .val (.ref a103), .val (.ref a106), .unset, .unset, .unset, .unset, .unset, .unset, .unset, .unset]) rfl (q := 156) rfl ?_
    refine Go.aload X112.here hx (Jvm.hb hby at_156) rfl rfl (q := 158) rfl ?_
    refine Go.dload X112.here hx (Jvm.hb hby at_158) rfl (q := 160) rfl ?_
    have z120 : n0 ≤ T112.heap.size := Nat.le_trans z117 K112.1
    refine Go.virtual X112 hx hZ (y := (⟨"com/example/palpito/palpito/Segments", "at", "(D)I"⟩ : MethodName)) hown (word hw 24 rfl) (word hw 25 rfl) (word hw 27 rfl) (word hw 26 rfl) (word hw 28 rfl) (word hw 4 rfl) (by decide) (rm_at1 l Z a0 hw a106 a112 kk112_1 u45 (0 : UInt64) (FP.dadd (0 : UInt64) u11) T112.heap n0 z120 P112_1 P112_2) rfl P112_0  (argsL := [(.double u45)]) (rest := []) (W := 0) (Jvm.hb hby at_160) rfl rfl (lenOf (pd1) rfl) (by rw [hml]; rfl) (Nat.le_of_eq rfl) (by decide) (by decide) (by decide) (by decide) (q := 163) rfl ?_
    intro T119 L119 w119 X119 hQ119
    obtain ⟨rfl, M119, q119⟩ := hQ119
    have N119 := Fr.app N112 M119
    show Go p e below _ (T119.setTop (mkF m 163 #[.val (.int q1), .val (.int q2), .val (.int q3), .val (.int q4), .val (.int q5), .val (.int q6), .val (.int (1 : Int32)), .val (.double u11), .second, .val (.double u18), .second, .val (.double u25), .second, .val (.double u33), .second, .val (.double u45), .second, .val (.ref a103), .val (.ref a106), .unset, .unset, .unset, .unset, .unset, .unset, .unset, .unset] [(.int (0 : Int32))]))
    refine Go.istore X119.here hx (Jvm.hb hby at_163) (l2 := #[.val (.int q1), .val (.int q2), .val (.int q3), .val (.int q4), .val (.int q5), .val (.int q6), .val (.int (1 : Int32)), .val (.double u11), .second, .val (.double u18), .second, .val (.double u25), .second, .val (.double u33), .second, .val (.double u45), .second, .val (.ref a103), .val (.ref a106), .val (.int (0 : Int32)), .unset, .unset, .unset, .unset, .unset, .unset, .unset]) rfl (q := 165) rfl ?_
    refine Go.dload X119.here hx (Jvm.hb hby at_165) rfl (q := 167) rfl ?_
    refine Go.dstore X119.here hx (Jvm.hb hby at_167) (l2 := #[.val (.int q1), .val (.int q2), .val (.int q3), .val (.int q4), .val (.int q5), .val (.int q6), .val (.int (1 : Int32)), .val (.double u11), .second, .val (.double u18), .second, .val (.double u25), .second, .val (.double u33), .second, .val (.double u45), .second, .val (.ref a103), .val (.ref a106), .val (.int (0 : Int32)), .val (.double u11), .second, .unset, .unset, .unset, .unset, .unset]) rfl (q := 169) rfl ?_
    refine Go.dload X119.here hx (Jvm.hb hby at_169) rfl (q := 171) rfl ?_
    refine Go.dload X119.here hx (Jvm.hb hby at_171) rfl (q := 173) rfl ?_
    obtain ⟨u173, hu173⟩ : ∃ zq, FP.dadd u11 u18 = zq := ⟨_, rfl⟩
    refine Go.dadd X119.here hx (Jvm.hb hby at_173) (nn_of Y2.1) hu173 (q := 174) rfl ?_
    have Y2' := Y2
    rw [hu173] at Y2'
    refine Go.dstore X119.here hx (Jvm.hb hby at_174) (l2 := #[.val (.int q1), .val (.int q2), .val (.int q3), .val (.int q4), .val (.int q5), .val (.int q6), .val (.int (1 : Int32)), .val (.double u11), .second, .val (.double u18), .second, .val (.double u25), .second, .val (.double u33), .second, .val (.double u45), .second, .val (.ref a103), .val (.ref a106), .val (.int (0 : Int32)), .val (.double u11), .second, .val (.double u173), .second, .unset, .unset, .unset]) rfl (q := 176) rfl ?_
    refine Go.dload X119.here hx (Jvm.hb hby at_176) rfl (q := 178) rfl ?_
    refine Go.dload X119.here hx (Jvm.hb hby at_178) rfl (q := 180) rfl ?_
    obtain ⟨u180, hu180⟩ : ∃ zq, FP.dadd u11 u18 = zq := ⟨_, rfl⟩
    refine Go.dadd X119.here hx (Jvm.hb hby at_180) (nn_of Y2.1) hu180 (q := 181) rfl ?_
    refine Go.dload X119.here hx (Jvm.hb hby at_181) rfl (q := 183) rfl ?_
    obtain ⟨u183, hu183⟩ : ∃ zq, FP.dadd u180 u25 = zq := ⟨_, rfl⟩
    have Y3' := Y3
    rw [hu180] at Y3'
    refine Go.dadd X119.here hx (Jvm.hb hby at_183) (nn_of Y3'.1) hu183 (q := 184) rfl ?_
    rw [hu183] at Y3'
    refine Go.dstore X119.here hx (Jvm.hb hby at_184) (l2 := #[.val (.int q1), .val (.int q2), .val (.int q3), .val (.int q4), .val (.int q5), .val (.int q6), .val (.int (1 : Int32)), .val (.double u11), .second, .val (.double u18), .second, .val (.double u25), .second, .val (.double u33), .second, .val (.double u45), .second, .val (.ref a103), .val (.ref a106), .val (.int (0 : Int32)), .val (.double u11), .second, .val (.double u173), .second, .val (.double u183), .second, .unset]) rfl (q := 186) rfl ?_
    refine Go.iconst X119.here hx (Jvm.hb hby at_186) (v := (0 : Int32)) rfl (q := 187) rfl ?_
    refine Go.istore X119.here hx (Jvm.hb hby at_187) (l2 := #[.val (.int q1), .val (.int q2), .val (.int q3), .val (.int q4), .val (.int q5), .val (.int q6), .val (.int (1 : Int32)), .val (.double u11), .second, .val (.double u18), .second, .val (.double u25), .second, .val (.double u33), .second, .val (.double u45), .second, .val (.ref a103), .val (.ref a106), .val (.int (0 : Int32)), .val (.double u11), .second, .val (.double u173), .second, .val (.double u183), .second, .val (.int (0 : Int32))]) rfl (q := 189) rfl ?_
    refine Go.iload X119.here hx (Jvm.hb hby at_189) rfl (q := 191) rfl ?_
    refine Go.iconst X119.here hx (Jvm.hb hby at_191) (v := (1 : Int32)) rfl (q := 192) rfl ?_
    have hc192_122 : ¬ ((1 : Int32) < (1 : Int32)) := by decide
    refine Go.icmpY X119.here hx (Jvm.hb hby at_192) (flt hc192_122).2.2.2 (by decide) (q := 206) rfl ?_
    refine Go.iload X119.here hx (Jvm.hb hby at_206) rfl (q := 208) rfl ?_
    refine Go.iconst X119.here hx (Jvm.hb hby at_208) (v := (2 : Int32)) rfl (q := 209) rfl ?_
    have hc209_124 : ¬ ((2 : Int32) < (1 : Int32)) := by decide
    refine Go.icmpY X119.here hx (Jvm.hb hby at_209) (flt hc209_124).2.2.2 (by decide) (q := 223) rfl ?_
    refine Go.iload X119.here hx (Jvm.hb hby at_223) rfl (q := 225) rfl ?_
    refine Go.iconst X119.here hx (Jvm.hb hby at_225) (v := (3 : Int32)) rfl (q := 226) rfl ?_
    have hc226_126 : ¬ ((3 : Int32) < (1 : Int32)) := by decide
    refine Go.icmpY X119.here hx (Jvm.hb hby at_226) (flt hc226_126).2.2.2 (by decide) (q := 240) rfl ?_
    refine Go.iload X119.here hx (Jvm.hb hby at_240) rfl (q := 242) rfl ?_
    refine Go.iload X119.here hx (Jvm.hb hby at_242) rfl (q := 244) rfl ?_
    have hc244_128 : (0 : Int32) = (0 : Int32) := by decide
    refine Go.icmpN X119.here hx (Jvm.hb hby at_244) (teq hc244_128).2 (q := 247) rfl ?_
    refine Go.iconst X119.here hx (Jvm.hb hby at_247) (v := (1 : Int32)) rfl (q := 248) rfl ?_
    refine Go.goto X119.here hx (Jvm.hb hby at_248) (by decide) (q := 252) rfl ?_
    refine Go.retZ X119 hx hret hlk (Jvm.hb hby at_252) (Or.inr rfl) (by decide) (by decide) ?_
    exact ⟨rfl, N119⟩
  · -- u3 = 1
    refine Go.iadd X0.here hx (Jvm.hb hby at_4) (v := (2 : Int32)) (by decide) (q := 5) rfl ?_
    refine Go.istore X0.here hx (Jvm.hb hby at_5) (l2 := #[.val (.int q1), .val (.int q2), .val (.int q3), .val (.int q4), .val (.int q5), .val (.int q6), .val (.int (2 : Int32)), .unset, .unset, .unset, .unset, .unset, .unset, .unset, .unset, .unset, .unset, .unset, .unset, .unset, .unset, .unset, .unset, .unset, .unset, .unset, .unset]) rfl (q := 7) rfl ?_
    refine Go.iloadN X0.here hx (Jvm.hb hby at_7) rfl (q := 8) rfl ?_
    refine Go.bipush X0.here hx (Jvm.hb hby at_8) (v := (15 : Int32)) rfl (q := 10) rfl ?_
    obtain ⟨u10, hu10⟩ : ∃ zq, q2 &&& (15 : Int32) = zq := ⟨_, rfl⟩
    refine Go.iand X0.here hx (Jvm.hb hby at_10) hu10 (q := 11) rfl ?_
    obtain ⟨u11, hu11⟩ : ∃ zq, FP.i2d u10 = zq := ⟨_, rfl⟩
    refine Go.i2d X0.here hx (Jvm.hb hby at_11) hu11 (q := 12) rfl ?_
    refine Go.dstore X0.here hx (Jvm.hb hby at_12) (l2 := #[.val (.int q1), .val (.int q2), .val (.int q3), .val (.int q4), .val (.int q5), .val (.int q6), .val (.int (2 : Int32)), .val (.double u11), .second, .unset, .unset, .unset, .unset, .unset, .unset, .unset, .unset, .unset, .unset, .unset, .unset, .unset, .unset, .unset, .unset, .unset, .unset]) rfl (q := 14) rfl ?_
    refine Go.iloadN X0.here hx (Jvm.hb hby at_14) rfl (q := 15) rfl ?_
    refine Go.bipush X0.here hx (Jvm.hb hby at_15) (v := (15 : Int32)) rfl (q := 17) rfl ?_
    obtain ⟨u17, hu17⟩ : ∃ zq, q3 &&& (15 : Int32) = zq := ⟨_, rfl⟩
    refine Go.iand X0.here hx (Jvm.hb hby at_17) hu17 (q := 18) rfl ?_
    obtain ⟨u18, hu18⟩ : ∃ zq, FP.i2d u17 = zq := ⟨_, rfl⟩
    refine Go.i2d X0.here hx (Jvm.hb hby at_18) hu18 (q := 19) rfl ?_
    refine Go.dstore X0.here hx (Jvm.hb hby at_19) (l2 := #[.val (.int q1), .val (.int q2), .val (.int q3), .val (.int q4), .val (.int q5), .val (.int q6), .val (.int (2 : Int32)), .val (.double u11), .second, .val (.double u18), .second, .unset, .unset, .unset, .unset, .unset, .unset, .unset, .unset, .unset, .unset, .unset, .unset, .unset, .unset, .unset, .unset]) rfl (q := 21) rfl ?_
    refine Go.iloadN X0.here hx (Jvm.hb hby at_21) rfl (q := 22) rfl ?_
    refine Go.bipush X0.here hx (Jvm.hb hby at_22) (v := (15 : Int32)) rfl (q := 24) rfl ?_
    obtain ⟨u24, hu24⟩ : ∃ zq, q4 &&& (15 : Int32) = zq := ⟨_, rfl⟩
    refine Go.iand X0.here hx (Jvm.hb hby at_24) hu24 (q := 25) rfl ?_
    obtain ⟨u25, hu25⟩ : ∃ zq, FP.i2d u24 = zq := ⟨_, rfl⟩
    refine Go.i2d X0.here hx (Jvm.hb hby at_25) hu25 (q := 26) rfl ?_
    refine Go.dstore X0.here hx (Jvm.hb hby at_26) (l2 := #[.val (.int q1), .val (.int q2), .val (.int q3), .val (.int q4), .val (.int q5), .val (.int q6), .val (.int (2 : Int32)), .val (.double u11), .second, .val (.double u18), .second, .val (.double u25), .second, .unset, .unset, .unset, .unset, .unset, .unset, .unset, .unset, .unset, .unset, .unset, .unset, .unset, .unset]) rfl (q := 28) rfl ?_
    refine Go.iload X0.here hx (Jvm.hb hby at_28) rfl (q := 30) rfl ?_
    refine Go.bipush X0.here hx (Jvm.hb hby at_30) (v := (15 : Int32)) rfl (q := 32) rfl ?_
    obtain ⟨u32, hu32⟩ : ∃ zq, q5 &&& (15 : Int32) = zq := ⟨_, rfl⟩
    refine Go.iand X0.here hx (Jvm.hb hby at_32) hu32 (q := 33) rfl ?_
    obtain ⟨u33, hu33⟩ : ∃ zq, FP.i2d u32 = zq := ⟨_, rfl⟩
    refine Go.i2d X0.here hx (Jvm.hb hby at_33) hu33 (q := 34) rfl ?_
    refine Go.dstore X0.here hx (Jvm.hb hby at_34) (l2 := #[.val (.int q1), .val (.int q2), .val (.int q3), .val (.int q4), .val (.int q5), .val (.int q6), .val (.int (2 : Int32)), .val (.double u11), .second, .val (.double u18), .second, .val (.double u25), .second, .val (.double u33), .second, .unset, .unset, .unset, .unset, .unset, .unset, .unset, .unset, .unset, .unset, .unset, .unset]) rfl (q := 36) rfl ?_
    refine Go.iload X0.here hx (Jvm.hb hby at_36) rfl (q := 38) rfl ?_
    refine Go.bipush X0.here hx (Jvm.hb hby at_38) (v := (127 : Int32)) rfl (q := 40) rfl ?_
    obtain ⟨u40, hu40⟩ : ∃ zq, q6 &&& (127 : Int32) = zq := ⟨_, rfl⟩
    refine Go.iand X0.here hx (Jvm.hb hby at_40) hu40 (q := 41) rfl ?_
    obtain ⟨u41, hu41⟩ : ∃ zq, FP.i2d u40 = zq := ⟨_, rfl⟩
    refine Go.i2d X0.here hx (Jvm.hb hby at_41) hu41 (q := 42) rfl ?_
    refine Go.ldc2D X0 hx hown (mvT hZ (word hw 0 rfl)) (Jvm.hb hby at_42) (q := 45) rfl ?_
    obtain ⟨u45, hu45⟩ : ∃ zq, FP.ddiv u41 (4611686018427387904 : UInt64) = zq := ⟨_, rfl⟩
    refine Go.ddiv X0.here hx (Jvm.hb hby at_45) (nn_of (own_time hu40 hu41).choose_spec.1) hu45 (q := 46) rfl ?_
    refine Go.dstore X0.here hx (Jvm.hb hby at_46) (l2 := #[.val (.int q1), .val (.int q2), .val (.int q3), .val (.int q4), .val (.int q5), .val (.int q6), .val (.int (2 : Int32)), .val (.double u11), .second, .val (.double u18), .second, .val (.double u25), .second, .val (.double u33), .second, .val (.double u45), .second, .unset, .unset, .unset, .unset, .unset, .unset, .unset, .unset, .unset, .unset]) rfl (q := 48) rfl ?_
    refine Go.iload X0.here hx (Jvm.hb hby at_48) rfl (q := 50) rfl ?_
    refine Go.iconst X0.here hx (Jvm.hb hby at_50) (v := (1 : Int32)) rfl (q := 51) rfl ?_
    have hc51_130 : ¬ ((2 : Int32) = (1 : Int32)) := by decide
    refine Go.icmpY X0.here hx (Jvm.hb hby at_51) (feq hc51_130).2 (by decide) (q := 67) rfl ?_
    refine Go.iload X0.here hx (Jvm.hb hby at_67) rfl (q := 69) rfl ?_
    refine Go.iconst X0.here hx (Jvm.hb hby at_69) (v := (2 : Int32)) rfl (q := 70) rfl ?_
    have hc70_132 : (2 : Int32) = (2 : Int32) := by decide
    refine Go.icmpN X0.here hx (Jvm.hb hby at_70) (teq hc70_132).2 (q := 73) rfl ?_
    refine Go.iconst X0.here hx (Jvm.hb hby at_73) (v := (2 : Int32)) rfl (q := 74) rfl ?_
    refine Go.newarr X0 hx hZ (aty := .double) (word hw 1 rfl) e0 (Jvm.hb hby at_74) (by decide) (k := 2) (by decide) (by decide) (by decide) (by decide) (ad := "[D") (by decide) (q := 76) rfl ?_
    intro T133 h133 a133 kk133 g133 X133 e133 E133 R133 A133
    have r134 : n0 ≤ a133 := Nat.le_trans Z0 (Nat.le_of_eq g133.symm)
    have R133 : Row Z h133 a133 .double kk133 [(.double (0 : UInt64)), (.double (0 : UInt64))] := R133
    refine Go.dup X133.here hx (Jvm.hb hby at_76) rfl (q := 77) rfl ?_
    refine Go.iconst X133.here hx (Jvm.hb hby at_77) (v := (0 : Int32)) rfl (q := 78) rfl ?_
    refine Go.dload X133.here hx (Jvm.hb hby at_78) rfl (q := 80) rfl ?_
    refine Go.dastore X133 hx hZ e133 R133 (Jvm.hb hby at_80) (i := 0) (by decide) (by decide) rfl (q := 81) rfl ?_
    intro T135 h135 X135 e135 W135 R135
    have N135 := Fr.snoc X135 N0 r134
    have R135 : Row Z h135 a133 .double kk133 [(.double u11), (.double (0 : UInt64))] := R135
    refine Go.dup X135.here hx (Jvm.hb hby at_81) rfl (q := 82) rfl ?_
    refine Go.iconst X135.here hx (Jvm.hb hby at_82) (v := (1 : Int32)) rfl (q := 83) rfl ?_
    refine Go.dload X135.here hx (Jvm.hb hby at_83) rfl (q := 85) rfl ?_
    refine Go.dastore X135 hx hZ e135 R135 (Jvm.hb hby at_85) (i := 1) (by decide) (by decide) rfl (q := 86) rfl ?_
    intro T136 h136 X136 e136 W136 R136
    have N136 := Fr.snoc X136 N135 r134
    have R136 : Row Z h136 a133 .double kk133 [(.double u11), (.double u18)] := R136
    refine Go.astore X136.here hx (Jvm.hb hby at_86) rfl (l2 := #[.val (.int q1), .val (.int q2), .val (.int q3), .val (.int q4), .val (.int q5), .val (.int q6), .val (.int (2 : Int32)), .val (.double u11), .second, .val (.double u18), .second, .val (.double u25), .second, .val (.double u33), .second, .val (.double u45), .second, .val (.ref a133), .unset, .unset, .unset, .unset, .unset, .unset, .unset, .unset, .unset]) rfl (q := 88) rfl ?_
    refine Go.goto X136.here hx (Jvm.hb hby at_88) (by decide) (q := 145) rfl ?_
    obtain ⟨n1, H1, b1, c1⟩ := own_len hu10 hu11
    obtain ⟨n2, H2, b2, c2⟩ := own_len hu17 hu18
    obtain ⟨n3, H3, b3, c3⟩ := own_len hu24 hu25
    obtain ⟨n4, H4, b4, c4⟩ := own_len hu32 hu33
    have S1 := h_add h_zero H1 (by omega)
    have S2 := h_add S1 H2 (by omega)
    have S3 := h_add S2 H3 (by omega)
    have S4 := h_add S3 H4 (by omega)
    have Y2 := h_add H1 H2 (by omega)
    have Y3 := h_add Y2 H3 (by omega)
    obtain ⟨nt, H5⟩ := own_time hu40 hu41
    rw [hu45] at H5
    refine Go.new X136 hx hZ hown (word hw 2 rfl) (word hw 3 rfl) (word hw 4 rfl) e136 (Jvm.hb hby at_145) (by decide) (by decide) (q := 148) rfl ?_
    intro T137 h137 a137 g137 X137 e137 E137 A137 D137
    have z138 : n0 ≤ h133.size := Nat.le_trans Z0 E133.1
    have z139 : n0 ≤ h135.size := Nat.le_trans z138 (Nat.le_of_eq W135.size.symm)
    have z140 : n0 ≤ h136.size := Nat.le_trans z139 (Nat.le_of_eq W136.size.symm)
    have r141 : n0 ≤ a137 := Nat.le_trans z140 (Nat.le_of_eq g137.symm)
    have F142 : Fld Z h137 a137 "com/example/palpito/palpito/Segments" "lengthsMs" "[D" .null := D137 (Or.inr (word hw 21 rfl)) (ty := (.array .double)) (by decide)
    have F143 : Fld Z h137 a137 "com/example/palpito/palpito/Segments" "startsMs" "[D" .null := D137 (Or.inr (word hw 23 rfl)) (ty := (.array .double)) (by decide)
    refine Go.dup X137.here hx (Jvm.hb hby at_148) rfl (q := 149) rfl ?_
    refine Go.aload X137.here hx (Jvm.hb hby at_149) rfl rfl (q := 151) rfl ?_
    have f145 := R136.ext E137
    have f146 := A133.wr W135
    have f147 := f146.wr W136
    have f148 := f147.ext E137
    have ne149 : a133 ≠ a137 := Nat.ne_of_lt (Nat.lt_of_lt_of_le R136.lt (Nat.le_of_eq g137.symm))
    have z150 : n0 ≤ h137.size := Nat.le_trans z140 E137.1
    refine Go.special X137 hx hZ (y := (⟨"com/example/palpito/palpito/Segments", "<init>", "([D)V"⟩ : MethodName)) rfl hown (word hw 5 rfl) (word hw 6 rfl) (word hw 7 rfl) (word hw 4 rfl) (by decide) (rm_init2 l Z a0 hw a137 a133 kk133 .null .null u11 u18 h137 n0 z150 A137 F142 F143 f145 f148 (Ne.symm ne149) r141 (⟨(nn_of S1.1), (nn_of S2.1), trivial⟩)) e137 (a := a137) (argsL := [(.ref a133)]) (rest := [(.ref a137)]) (W := 1) (Jvm.hb hby at_151) rfl rfl (lenOf (pd0) rfl) (by rw [hml]; rfl) (Nat.le_of_eq rfl) (by decide) (by decide) (by decide) (by decide) (q := 154) rfl ?_
    intro T144 L144 w144 X144 hQ144
    obtain ⟨a144, kk144_1, rfl, M144, K144, G144_0, P144_0, P144_1, P144_2⟩ := hQ144
    have N144 := Fr.app N136 M144
    have r151 : n0 ≤ a144 := Nat.le_trans z150 (G144_0)
    show Go p e below _ (T144.setTop (mkF m 154 #[.val (.int q1), .val (.int q2), .val (.int q3), .val (.int q4), .val (.int q5), .val (.int q6), .val (.int (2 : Int32)), .val (.double u11), .second, .val (.double u18), .second, .val (.double u25), .second, .val (.double u33), .second, .val (.double u45), .second, .val (.ref a133), .unset, .unset, .unset, .unset, .unset, .unset, .unset, .unset, .unset] [(.ref a137)]))
    refine Go.astore X144.here hx (Jvm.hb hby at_154) rfl (l2 := #[.val (.int q1), .val (.int q2), .val (.int q3), .val (.int q4), .val (.int q5), .val (.int q6), .val (.int (2 : Int32)), .val (.double u11), .second, .val (.double u18), .second, .val (.double u25), .second, .val (.double u33), .second, .val (.double u45), .second, .val (.ref a133), .val (.ref a137), .unset, .unset, .unset, .unset, .unset, .unset, .unset, .unset]) rfl (q := 156) rfl ?_
    refine Go.aload X144.here hx (Jvm.hb hby at_156) rfl rfl (q := 158) rfl ?_
    refine Go.dload X144.here hx (Jvm.hb hby at_158) rfl (q := 160) rfl ?_
    have z153 : n0 ≤ T144.heap.size := Nat.le_trans z150 K144.1
    refine Go.virtual X144 hx hZ (y := (⟨"com/example/palpito/palpito/Segments", "at", "(D)I"⟩ : MethodName)) hown (word hw 24 rfl) (word hw 25 rfl) (word hw 27 rfl) (word hw 26 rfl) (word hw 28 rfl) (word hw 4 rfl) (by decide) (rm_at2 l Z a0 hw a137 a144 kk144_1 u45 (0 : UInt64) (FP.dadd (0 : UInt64) u11) (FP.dadd (FP.dadd (0 : UInt64) u11) u18) T144.heap n0 z153 P144_1 P144_2) rfl P144_0  (argsL := [(.double u45)]) (rest := []) (W := 0) (Jvm.hb hby at_160) rfl rfl (lenOf (pd1) rfl) (by rw [hml]; rfl) (Nat.le_of_eq rfl) (by decide) (by decide) (by decide) (by decide) (q := 163) rfl ?_
    intro T152 L152 w152 X152 hQ152
    obtain ⟨rfl, M152, q152⟩ := hQ152
    have N152 := Fr.app N144 M152
    show Go p e below _ (T152.setTop (mkF m 163 #[.val (.int q1), .val (.int q2), .val (.int q3), .val (.int q4), .val (.int q5), .val (.int q6), .val (.int (2 : Int32)), .val (.double u11), .second, .val (.double u18), .second, .val (.double u25), .second, .val (.double u33), .second, .val (.double u45), .second, .val (.ref a133), .val (.ref a137), .unset, .unset, .unset, .unset, .unset, .unset, .unset, .unset] [(.int (own_at2 (FP.dadd (0 : UInt64) u11) u45))]))
    obtain ⟨r, hr⟩ : ∃ zq, (own_at2 (FP.dadd (0 : UInt64) u11) u45) = zq := ⟨_, rfl⟩
    rw [hr]
    refine Go.istore X152.here hx (Jvm.hb hby at_163) (l2 := #[.val (.int q1), .val (.int q2), .val (.int q3), .val (.int q4), .val (.int q5), .val (.int q6), .val (.int (2 : Int32)), .val (.double u11), .second, .val (.double u18), .second, .val (.double u25), .second, .val (.double u33), .second, .val (.double u45), .second, .val (.ref a133), .val (.ref a137), .val (.int r), .unset, .unset, .unset, .unset, .unset, .unset, .unset]) rfl (q := 165) rfl ?_
    refine Go.dload X152.here hx (Jvm.hb hby at_165) rfl (q := 167) rfl ?_
    refine Go.dstore X152.here hx (Jvm.hb hby at_167) (l2 := #[.val (.int q1), .val (.int q2), .val (.int q3), .val (.int q4), .val (.int q5), .val (.int q6), .val (.int (2 : Int32)), .val (.double u11), .second, .val (.double u18), .second, .val (.double u25), .second, .val (.double u33), .second, .val (.double u45), .second, .val (.ref a133), .val (.ref a137), .val (.int r), .val (.double u11), .second, .unset, .unset, .unset, .unset, .unset]) rfl (q := 169) rfl ?_
    refine Go.dload X152.here hx (Jvm.hb hby at_169) rfl (q := 171) rfl ?_
    refine Go.dload X152.here hx (Jvm.hb hby at_171) rfl (q := 173) rfl ?_
    obtain ⟨u173, hu173⟩ : ∃ zq, FP.dadd u11 u18 = zq := ⟨_, rfl⟩
    refine Go.dadd X152.here hx (Jvm.hb hby at_173) (nn_of Y2.1) hu173 (q := 174) rfl ?_
    have Y2' := Y2
    rw [hu173] at Y2'
    refine Go.dstore X152.here hx (Jvm.hb hby at_174) (l2 := #[.val (.int q1), .val (.int q2), .val (.int q3), .val (.int q4), .val (.int q5), .val (.int q6), .val (.int (2 : Int32)), .val (.double u11), .second, .val (.double u18), .second, .val (.double u25), .second, .val (.double u33), .second, .val (.double u45), .second, .val (.ref a133), .val (.ref a137), .val (.int r), .val (.double u11), .second, .val (.double u173), .second, .unset, .unset, .unset]) rfl (q := 176) rfl ?_
    refine Go.dload X152.here hx (Jvm.hb hby at_176) rfl (q := 178) rfl ?_
    refine Go.dload X152.here hx (Jvm.hb hby at_178) rfl (q := 180) rfl ?_
    obtain ⟨u180, hu180⟩ : ∃ zq, FP.dadd u11 u18 = zq := ⟨_, rfl⟩
    refine Go.dadd X152.here hx (Jvm.hb hby at_180) (nn_of Y2.1) hu180 (q := 181) rfl ?_
    refine Go.dload X152.here hx (Jvm.hb hby at_181) rfl (q := 183) rfl ?_
    obtain ⟨u183, hu183⟩ : ∃ zq, FP.dadd u180 u25 = zq := ⟨_, rfl⟩
    have Y3' := Y3
    rw [hu180] at Y3'
    refine Go.dadd X152.here hx (Jvm.hb hby at_183) (nn_of Y3'.1) hu183 (q := 184) rfl ?_
    rw [hu183] at Y3'
    refine Go.dstore X152.here hx (Jvm.hb hby at_184) (l2 := #[.val (.int q1), .val (.int q2), .val (.int q3), .val (.int q4), .val (.int q5), .val (.int q6), .val (.int (2 : Int32)), .val (.double u11), .second, .val (.double u18), .second, .val (.double u25), .second, .val (.double u33), .second, .val (.double u45), .second, .val (.ref a133), .val (.ref a137), .val (.int r), .val (.double u11), .second, .val (.double u173), .second, .val (.double u183), .second, .unset]) rfl (q := 186) rfl ?_
    refine Go.iconst X152.here hx (Jvm.hb hby at_186) (v := (0 : Int32)) rfl (q := 187) rfl ?_
    refine Go.istore X152.here hx (Jvm.hb hby at_187) (l2 := #[.val (.int q1), .val (.int q2), .val (.int q3), .val (.int q4), .val (.int q5), .val (.int q6), .val (.int (2 : Int32)), .val (.double u11), .second, .val (.double u18), .second, .val (.double u25), .second, .val (.double u33), .second, .val (.double u45), .second, .val (.ref a133), .val (.ref a137), .val (.int r), .val (.double u11), .second, .val (.double u173), .second, .val (.double u183), .second, .val (.int (0 : Int32))]) rfl (q := 189) rfl ?_
    refine Go.iload X152.here hx (Jvm.hb hby at_189) rfl (q := 191) rfl ?_
    refine Go.iconst X152.here hx (Jvm.hb hby at_191) (v := (1 : Int32)) rfl (q := 192) rfl ?_
    have hc192_155 : (1 : Int32) < (2 : Int32) := by decide
    refine Go.icmpN X152.here hx (Jvm.hb hby at_192) (tlt hc192_155).2.2.2 (q := 195) rfl ?_
    refine Go.dload X152.here hx (Jvm.hb hby at_195) rfl (q := 197) rfl ?_
    refine Go.dload X152.here hx (Jvm.hb hby at_197) rfl (q := 199) rfl ?_
    obtain ⟨u199, hu199⟩ : ∃ zq, cmpValue (FP.dcmp u11 u45) .g = zq := ⟨_, rfl⟩
    refine Go.dcmp X152.here hx (Jvm.hb hby at_199) hu199 (q := 200) rfl ?_
    by_cases hc200 : (0 : Int32) < u199
    · -- pc 200: (0 : Int32) < u199
      have g200 := (own_gt H1 H5).mp (by rw [hu199]; exact hc200)
      refine Go.ifY X152.here hx (Jvm.hb hby at_200) ((if0 _ _).trans (tlt hc200).2.2.1) (by decide) (q := 206) rfl ?_
      refine Go.iload X152.here hx (Jvm.hb hby at_206) rfl (q := 208) rfl ?_
      refine Go.iconst X152.here hx (Jvm.hb hby at_208) (v := (2 : Int32)) rfl (q := 209) rfl ?_
      have hc209_158 : ¬ ((2 : Int32) < (2 : Int32)) := by decide
      refine Go.icmpY X152.here hx (Jvm.hb hby at_209) (flt hc209_158).2.2.2 (by decide) (q := 223) rfl ?_
      refine Go.iload X152.here hx (Jvm.hb hby at_223) rfl (q := 225) rfl ?_
      refine Go.iconst X152.here hx (Jvm.hb hby at_225) (v := (3 : Int32)) rfl (q := 226) rfl ?_
      have hc226_160 : ¬ ((3 : Int32) < (2 : Int32)) := by decide
      refine Go.icmpY X152.here hx (Jvm.hb hby at_226) (flt hc226_160).2.2.2 (by decide) (q := 240) rfl ?_
      refine Go.iload X152.here hx (Jvm.hb hby at_240) rfl (q := 242) rfl ?_
      refine Go.iload X152.here hx (Jvm.hb hby at_242) rfl (q := 244) rfl ?_
      have hc244 : r = (0 : Int32) := by rw [← hr, own_e2 S1 H5]; (repeat' split) <;> first | rfl | (exfalso; omega)
      refine Go.icmpN X152.here hx (Jvm.hb hby at_244) (teq hc244).2 (q := 247) rfl ?_
      refine Go.iconst X152.here hx (Jvm.hb hby at_247) (v := (1 : Int32)) rfl (q := 248) rfl ?_
      refine Go.goto X152.here hx (Jvm.hb hby at_248) (by decide) (q := 252) rfl ?_
      refine Go.retZ X152 hx hret hlk (Jvm.hb hby at_252) (Or.inr rfl) (by decide) (by decide) ?_
      exact ⟨rfl, N152⟩
    · -- pc 200: not (0 : Int32) < u199
      have g200 := own_ngt H1 H5 (by rw [hu199]; exact hc200)
      refine Go.ifN X152.here hx (Jvm.hb hby at_200) ((if0 _ _).trans (flt hc200).2.2.1) (q := 203) rfl ?_
      refine Go.iconst X152.here hx (Jvm.hb hby at_203) (v := (1 : Int32)) rfl (q := 204) rfl ?_
      refine Go.istore X152.here hx (Jvm.hb hby at_204) (l2 := #[.val (.int q1), .val (.int q2), .val (.int q3), .val (.int q4), .val (.int q5), .val (.int q6), .val (.int (2 : Int32)), .val (.double u11), .second, .val (.double u18), .second, .val (.double u25), .second, .val (.double u33), .second, .val (.double u45), .second, .val (.ref a133), .val (.ref a137), .val (.int r), .val (.double u11), .second, .val (.double u173), .second, .val (.double u183), .second, .val (.int (1 : Int32))]) rfl (q := 206) rfl ?_
      refine Go.iload X152.here hx (Jvm.hb hby at_206) rfl (q := 208) rfl ?_
      refine Go.iconst X152.here hx (Jvm.hb hby at_208) (v := (2 : Int32)) rfl (q := 209) rfl ?_
      have hc209_163 : ¬ ((2 : Int32) < (2 : Int32)) := by decide
      refine Go.icmpY X152.here hx (Jvm.hb hby at_209) (flt hc209_163).2.2.2 (by decide) (q := 223) rfl ?_
      refine Go.iload X152.here hx (Jvm.hb hby at_223) rfl (q := 225) rfl ?_
      refine Go.iconst X152.here hx (Jvm.hb hby at_225) (v := (3 : Int32)) rfl (q := 226) rfl ?_
      have hc226_165 : ¬ ((3 : Int32) < (2 : Int32)) := by decide
      refine Go.icmpY X152.here hx (Jvm.hb hby at_226) (flt hc226_165).2.2.2 (by decide) (q := 240) rfl ?_
      refine Go.iload X152.here hx (Jvm.hb hby at_240) rfl (q := 242) rfl ?_
      refine Go.iload X152.here hx (Jvm.hb hby at_242) rfl (q := 244) rfl ?_
      have hc244 : r = (1 : Int32) := by rw [← hr, own_e2 S1 H5]; (repeat' split) <;> first | rfl | (exfalso; omega)
      refine Go.icmpN X152.here hx (Jvm.hb hby at_244) (teq hc244).2 (q := 247) rfl ?_
      refine Go.iconst X152.here hx (Jvm.hb hby at_247) (v := (1 : Int32)) rfl (q := 248) rfl ?_
      refine Go.goto X152.here hx (Jvm.hb hby at_248) (by decide) (q := 252) rfl ?_
      refine Go.retZ X152 hx hret hlk (Jvm.hb hby at_252) (Or.inr rfl) (by decide) (by decide) ?_
      exact ⟨rfl, N152⟩
  · -- u3 = 2
    refine Go.iadd X0.here hx (Jvm.hb hby at_4) (v := (3 : Int32)) (by decide) (q := 5) rfl ?_
    refine Go.istore X0.here hx (Jvm.hb hby at_5) (l2 := #[.val (.int q1), .val (.int q2), .val (.int q3), .val (.int q4), .val (.int q5), .val (.int q6), .val (.int (3 : Int32)), .unset, .unset, .unset, .unset, .unset, .unset, .unset, .unset, .unset, .unset, .unset, .unset, .unset, .unset, .unset, .unset, .unset, .unset, .unset, .unset]) rfl (q := 7) rfl ?_
    refine Go.iloadN X0.here hx (Jvm.hb hby at_7) rfl (q := 8) rfl ?_
    refine Go.bipush X0.here hx (Jvm.hb hby at_8) (v := (15 : Int32)) rfl (q := 10) rfl ?_
    obtain ⟨u10, hu10⟩ : ∃ zq, q2 &&& (15 : Int32) = zq := ⟨_, rfl⟩
    refine Go.iand X0.here hx (Jvm.hb hby at_10) hu10 (q := 11) rfl ?_
    obtain ⟨u11, hu11⟩ : ∃ zq, FP.i2d u10 = zq := ⟨_, rfl⟩
    refine Go.i2d X0.here hx (Jvm.hb hby at_11) hu11 (q := 12) rfl ?_
    refine Go.dstore X0.here hx (Jvm.hb hby at_12) (l2 := #[.val (.int q1), .val (.int q2), .val (.int q3), .val (.int q4), .val (.int q5), .val (.int q6), .val (.int (3 : Int32)), .val (.double u11), .second, .unset, .unset, .unset, .unset, .unset, .unset, .unset, .unset, .unset, .unset, .unset, .unset, .unset, .unset, .unset, .unset, .unset, .unset]) rfl (q := 14) rfl ?_
    refine Go.iloadN X0.here hx (Jvm.hb hby at_14) rfl (q := 15) rfl ?_
    refine Go.bipush X0.here hx (Jvm.hb hby at_15) (v := (15 : Int32)) rfl (q := 17) rfl ?_
    obtain ⟨u17, hu17⟩ : ∃ zq, q3 &&& (15 : Int32) = zq := ⟨_, rfl⟩
    refine Go.iand X0.here hx (Jvm.hb hby at_17) hu17 (q := 18) rfl ?_
    obtain ⟨u18, hu18⟩ : ∃ zq, FP.i2d u17 = zq := ⟨_, rfl⟩
    refine Go.i2d X0.here hx (Jvm.hb hby at_18) hu18 (q := 19) rfl ?_
    refine Go.dstore X0.here hx (Jvm.hb hby at_19) (l2 := #[.val (.int q1), .val (.int q2), .val (.int q3), .val (.int q4), .val (.int q5), .val (.int q6), .val (.int (3 : Int32)), .val (.double u11), .second, .val (.double u18), .second, .unset, .unset, .unset, .unset, .unset, .unset, .unset, .unset, .unset, .unset, .unset, .unset, .unset, .unset, .unset, .unset]) rfl (q := 21) rfl ?_
    refine Go.iloadN X0.here hx (Jvm.hb hby at_21) rfl (q := 22) rfl ?_
    refine Go.bipush X0.here hx (Jvm.hb hby at_22) (v := (15 : Int32)) rfl (q := 24) rfl ?_
    obtain ⟨u24, hu24⟩ : ∃ zq, q4 &&& (15 : Int32) = zq := ⟨_, rfl⟩
    refine Go.iand X0.here hx (Jvm.hb hby at_24) hu24 (q := 25) rfl ?_
    obtain ⟨u25, hu25⟩ : ∃ zq, FP.i2d u24 = zq := ⟨_, rfl⟩
    refine Go.i2d X0.here hx (Jvm.hb hby at_25) hu25 (q := 26) rfl ?_
    refine Go.dstore X0.here hx (Jvm.hb hby at_26) (l2 := #[.val (.int q1), .val (.int q2), .val (.int q3), .val (.int q4), .val (.int q5), .val (.int q6), .val (.int (3 : Int32)), .val (.double u11), .second, .val (.double u18), .second, .val (.double u25), .second, .unset, .unset, .unset, .unset, .unset, .unset, .unset, .unset, .unset, .unset, .unset, .unset, .unset, .unset]) rfl (q := 28) rfl ?_
    refine Go.iload X0.here hx (Jvm.hb hby at_28) rfl (q := 30) rfl ?_
    refine Go.bipush X0.here hx (Jvm.hb hby at_30) (v := (15 : Int32)) rfl (q := 32) rfl ?_
    obtain ⟨u32, hu32⟩ : ∃ zq, q5 &&& (15 : Int32) = zq := ⟨_, rfl⟩
    refine Go.iand X0.here hx (Jvm.hb hby at_32) hu32 (q := 33) rfl ?_
    obtain ⟨u33, hu33⟩ : ∃ zq, FP.i2d u32 = zq := ⟨_, rfl⟩
    refine Go.i2d X0.here hx (Jvm.hb hby at_33) hu33 (q := 34) rfl ?_
    refine Go.dstore X0.here hx (Jvm.hb hby at_34) (l2 := #[.val (.int q1), .val (.int q2), .val (.int q3), .val (.int q4), .val (.int q5), .val (.int q6), .val (.int (3 : Int32)), .val (.double u11), .second, .val (.double u18), .second, .val (.double u25), .second, .val (.double u33), .second, .unset, .unset, .unset, .unset, .unset, .unset, .unset, .unset, .unset, .unset, .unset, .unset]) rfl (q := 36) rfl ?_
    refine Go.iload X0.here hx (Jvm.hb hby at_36) rfl (q := 38) rfl ?_
    refine Go.bipush X0.here hx (Jvm.hb hby at_38) (v := (127 : Int32)) rfl (q := 40) rfl ?_
    obtain ⟨u40, hu40⟩ : ∃ zq, q6 &&& (127 : Int32) = zq := ⟨_, rfl⟩
    refine Go.iand X0.here hx (Jvm.hb hby at_40) hu40 (q := 41) rfl ?_
    obtain ⟨u41, hu41⟩ : ∃ zq, FP.i2d u40 = zq := ⟨_, rfl⟩
    refine Go.i2d X0.here hx (Jvm.hb hby at_41) hu41 (q := 42) rfl ?_
    refine Go.ldc2D X0 hx hown (mvT hZ (word hw 0 rfl)) (Jvm.hb hby at_42) (q := 45) rfl ?_
    obtain ⟨u45, hu45⟩ : ∃ zq, FP.ddiv u41 (4611686018427387904 : UInt64) = zq := ⟨_, rfl⟩
    refine Go.ddiv X0.here hx (Jvm.hb hby at_45) (nn_of (own_time hu40 hu41).choose_spec.1) hu45 (q := 46) rfl ?_
    refine Go.dstore X0.here hx (Jvm.hb hby at_46) (l2 := #[.val (.int q1), .val (.int q2), .val (.int q3), .val (.int q4), .val (.int q5), .val (.int q6), .val (.int (3 : Int32)), .val (.double u11), .second, .val (.double u18), .second, .val (.double u25), .second, .val (.double u33), .second, .val (.double u45), .second, .unset, .unset, .unset, .unset, .unset, .unset, .unset, .unset, .unset, .unset]) rfl (q := 48) rfl ?_
    refine Go.iload X0.here hx (Jvm.hb hby at_48) rfl (q := 50) rfl ?_
    refine Go.iconst X0.here hx (Jvm.hb hby at_50) (v := (1 : Int32)) rfl (q := 51) rfl ?_
    have hc51_168 : ¬ ((3 : Int32) = (1 : Int32)) := by decide
    refine Go.icmpY X0.here hx (Jvm.hb hby at_51) (feq hc51_168).2 (by decide) (q := 67) rfl ?_
    refine Go.iload X0.here hx (Jvm.hb hby at_67) rfl (q := 69) rfl ?_
    refine Go.iconst X0.here hx (Jvm.hb hby at_69) (v := (2 : Int32)) rfl (q := 70) rfl ?_
    have hc70_170 : ¬ ((3 : Int32) = (2 : Int32)) := by decide
    refine Go.icmpY X0.here hx (Jvm.hb hby at_70) (feq hc70_170).2 (by decide) (q := 91) rfl ?_
    refine Go.iload X0.here hx (Jvm.hb hby at_91) rfl (q := 93) rfl ?_
    refine Go.iconst X0.here hx (Jvm.hb hby at_93) (v := (3 : Int32)) rfl (q := 94) rfl ?_
    have hc94_172 : (3 : Int32) = (3 : Int32) := by decide
    refine Go.icmpN X0.here hx (Jvm.hb hby at_94) (teq hc94_172).2 (q := 97) rfl ?_
    refine Go.iconst X0.here hx (Jvm.hb hby at_97) (v := (3 : Int32)) rfl (q := 98) rfl ?_
    refine Go.newarr X0 hx hZ (aty := .double) (word hw 1 rfl) e0 (Jvm.hb hby at_98) (by decide) (k := 3) (by decide) (by decide) (by decide) (by decide) (ad := "[D") (by decide) (q := 100) rfl ?_
    intro T173 h173 a173 kk173 g173 X173 e173 E173 R173 A173
    have r174 : n0 ≤ a173 := Nat.le_trans Z0 (Nat.le_of_eq g173.symm)
    have R173 : Row Z h173 a173 .double kk173 [(.double (0 : UInt64)), (.double (0 : UInt64)), (.double (0 : UInt64))] := R173
    refine Go.dup X173.here hx (Jvm.hb hby at_100) rfl (q := 101) rfl ?_
    refine Go.iconst X173.here hx (Jvm.hb hby at_101) (v := (0 : Int32)) rfl (q := 102) rfl ?_
    refine Go.dload X173.here hx (Jvm.hb hby at_102) rfl (q := 104) rfl ?_
    refine Go.dastore X173 hx hZ e173 R173 (Jvm.hb hby at_104) (i := 0) (by decide) (by decide) rfl (q := 105) rfl ?_
    intro T175 h175 X175 e175 W175 R175
    have N175 := Fr.snoc X175 N0 r174
    have R175 : Row Z h175 a173 .double kk173 [(.double u11), (.double (0 : UInt64)), (.double (0 : UInt64))] := R175
    refine Go.dup X175.here hx (Jvm.hb hby at_105) rfl (q := 106) rfl ?_
    refine Go.iconst X175.here hx (Jvm.hb hby at_106) (v := (1 : Int32)) rfl (q := 107) rfl ?_
    refine Go.dload X175.here hx (Jvm.hb hby at_107) rfl (q := 109) rfl ?_
    refine Go.dastore X175 hx hZ e175 R175 (Jvm.hb hby at_109) (i := 1) (by decide) (by decide) rfl (q := 110) rfl ?_
    intro T176 h176 X176 e176 W176 R176
    have N176 := Fr.snoc X176 N175 r174
    have R176 : Row Z h176 a173 .double kk173 [(.double u11), (.double u18), (.double (0 : UInt64))] := R176
    refine Go.dup X176.here hx (Jvm.hb hby at_110) rfl (q := 111) rfl ?_
    refine Go.iconst X176.here hx (Jvm.hb hby at_111) (v := (2 : Int32)) rfl (q := 112) rfl ?_
    refine Go.dload X176.here hx (Jvm.hb hby at_112) rfl (q := 114) rfl ?_
    refine Go.dastore X176 hx hZ e176 R176 (Jvm.hb hby at_114) (i := 2) (by decide) (by decide) rfl (q := 115) rfl ?_
    intro T177 h177 X177 e177 W177 R177
    have N177 := Fr.snoc X177 N176 r174
    have R177 : Row Z h177 a173 .double kk173 [(.double u11), (.double u18), (.double u25)] := R177
    refine Go.astore X177.here hx (Jvm.hb hby at_115) rfl (l2 := #[.val (.int q1), .val (.int q2), .val (.int q3), .val (.int q4), .val (.int q5), .val (.int q6), .val (.int (3 : Int32)), .val (.double u11), .second, .val (.double u18), .second, .val (.double u25), .second, .val (.double u33), .second, .val (.double u45), .second, .val (.ref a173), .unset, .unset, .unset, .unset, .unset, .unset, .unset, .unset, .unset]) rfl (q := 117) rfl ?_
    refine Go.goto X177.here hx (Jvm.hb hby at_117) (by decide) (q := 145) rfl ?_
    obtain ⟨n1, H1, b1, c1⟩ := own_len hu10 hu11
    obtain ⟨n2, H2, b2, c2⟩ := own_len hu17 hu18
    obtain ⟨n3, H3, b3, c3⟩ := own_len hu24 hu25
    obtain ⟨n4, H4, b4, c4⟩ := own_len hu32 hu33
    have S1 := h_add h_zero H1 (by omega)
    have S2 := h_add S1 H2 (by omega)
    have S3 := h_add S2 H3 (by omega)
    have S4 := h_add S3 H4 (by omega)
    have Y2 := h_add H1 H2 (by omega)
    have Y3 := h_add Y2 H3 (by omega)
    obtain ⟨nt, H5⟩ := own_time hu40 hu41
    rw [hu45] at H5
    refine Go.new X177 hx hZ hown (word hw 2 rfl) (word hw 3 rfl) (word hw 4 rfl) e177 (Jvm.hb hby at_145) (by decide) (by decide) (q := 148) rfl ?_
    intro T178 h178 a178 g178 X178 e178 E178 A178 D178
    have z179 : n0 ≤ h173.size := Nat.le_trans Z0 E173.1
    have z180 : n0 ≤ h175.size := Nat.le_trans z179 (Nat.le_of_eq W175.size.symm)
    have z181 : n0 ≤ h176.size := Nat.le_trans z180 (Nat.le_of_eq W176.size.symm)
    have z182 : n0 ≤ h177.size := Nat.le_trans z181 (Nat.le_of_eq W177.size.symm)
    have r183 : n0 ≤ a178 := Nat.le_trans z182 (Nat.le_of_eq g178.symm)
    have F184 : Fld Z h178 a178 "com/example/palpito/palpito/Segments" "lengthsMs" "[D" .null := D178 (Or.inr (word hw 21 rfl)) (ty := (.array .double)) (by decide)
    have F185 : Fld Z h178 a178 "com/example/palpito/palpito/Segments" "startsMs" "[D" .null := D178 (Or.inr (word hw 23 rfl)) (ty := (.array .double)) (by decide)
    refine Go.dup X178.here hx (Jvm.hb hby at_148) rfl (q := 149) rfl ?_
    refine Go.aload X178.here hx (Jvm.hb hby at_149) rfl rfl (q := 151) rfl ?_
    have f187 := R177.ext E178
    have f188 := A173.wr W175
    have f189 := f188.wr W176
    have f190 := f189.wr W177
    have f191 := f190.ext E178
    have ne192 : a173 ≠ a178 := Nat.ne_of_lt (Nat.lt_of_lt_of_le R177.lt (Nat.le_of_eq g178.symm))
    have z193 : n0 ≤ h178.size := Nat.le_trans z182 E178.1
    refine Go.special X178 hx hZ (y := (⟨"com/example/palpito/palpito/Segments", "<init>", "([D)V"⟩ : MethodName)) rfl hown (word hw 5 rfl) (word hw 6 rfl) (word hw 7 rfl) (word hw 4 rfl) (by decide) (rm_init3 l Z a0 hw a178 a173 kk173 .null .null u11 u18 u25 h178 n0 z193 A178 F184 F185 f187 f191 (Ne.symm ne192) r183 (⟨(nn_of S1.1), (nn_of S2.1), (nn_of S3.1), trivial⟩)) e178 (a := a178) (argsL := [(.ref a173)]) (rest := [(.ref a178)]) (W := 1) (Jvm.hb hby at_151) rfl rfl (lenOf (pd0) rfl) (by rw [hml]; rfl) (Nat.le_of_eq rfl) (by decide) (by decide) (by decide) (by decide) (q := 154) rfl ?_
    intro T186 L186 w186 X186 hQ186
    obtain ⟨a186, kk186_1, rfl, M186, K186, G186_0, P186_0, P186_1, P186_2⟩ := hQ186
    have N186 := Fr.app N177 M186
    have r194 : n0 ≤ a186 := Nat.le_trans z193 (G186_0)
    show Go p e below _ (T186.setTop (mkF m 154 #[.val (.int q1), .val (.int q2), .val (.int q3), .val (.int q4), .val (.int q5), .val (.int q6), .val (.int (3 : Int32)), .val (.double u11), .second, .val (.double u18), .second, .val (.double u25), .second, .val (.double u33), .second, .val (.double u45), .second, .val (.ref a173), .unset, .unset, .unset, .unset, .unset, .unset, .unset, .unset, .unset] [(.ref a178)]))
    refine Go.astore X186.here hx (Jvm.hb hby at_154) rfl (l2 := #[.val (.int q1), .val (.int q2), .val (.int q3), .val (.int q4), .val (.int q5), .val (.int q6), .val (.int (3 : Int32)), .val (.double u11), .second, .val (.double u18), .second, .val (.double u25), .second, .val (.double u33), .second, .val (.double u45), .second, .val (.ref a173), .val (.ref a178), .unset, .unset, .unset, .unset, .unset, .unset, .unset, .unset]) rfl (q := 156) rfl ?_
    refine Go.aload X186.here hx (Jvm.hb hby at_156) rfl rfl (q := 158) rfl ?_
    refine Go.dload X186.here hx (Jvm.hb hby at_158) rfl (q := 160) rfl ?_
    have z196 : n0 ≤ T186.heap.size := Nat.le_trans z193 K186.1
    refine Go.virtual X186 hx hZ (y := (⟨"com/example/palpito/palpito/Segments", "at", "(D)I"⟩ : MethodName)) hown (word hw 24 rfl) (word hw 25 rfl) (word hw 27 rfl) (word hw 26 rfl) (word hw 28 rfl) (word hw 4 rfl) (by decide) (rm_at3 l Z a0 hw a178 a186 kk186_1 u45 (0 : UInt64) (FP.dadd (0 : UInt64) u11) (FP.dadd (FP.dadd (0 : UInt64) u11) u18) (FP.dadd (FP.dadd (FP.dadd (0 : UInt64) u11) u18) u25) T186.heap n0 z196 P186_1 P186_2) rfl P186_0  (argsL := [(.double u45)]) (rest := []) (W := 0) (Jvm.hb hby at_160) rfl rfl (lenOf (pd1) rfl) (by rw [hml]; rfl) (Nat.le_of_eq rfl) (by decide) (by decide) (by decide) (by decide) (q := 163) rfl ?_
    intro T195 L195 w195 X195 hQ195
    obtain ⟨rfl, M195, q195⟩ := hQ195
    have N195 := Fr.app N186 M195
    show Go p e below _ (T195.setTop (mkF m 163 #[.val (.int q1), .val (.int q2), .val (.int q3), .val (.int q4), .val (.int q5), .val (.int q6), .val (.int (3 : Int32)), .val (.double u11), .second, .val (.double u18), .second, .val (.double u25), .second, .val (.double u33), .second, .val (.double u45), .second, .val (.ref a173), .val (.ref a178), .unset, .unset, .unset, .unset, .unset, .unset, .unset, .unset] [(.int (own_at3 (FP.dadd (0 : UInt64) u11) (FP.dadd (FP.dadd (0 : UInt64) u11) u18) u45))]))
    obtain ⟨r, hr⟩ : ∃ zq, (own_at3 (FP.dadd (0 : UInt64) u11) (FP.dadd (FP.dadd (0 : UInt64) u11) u18) u45) = zq := ⟨_, rfl⟩
    rw [hr]
    refine Go.istore X195.here hx (Jvm.hb hby at_163) (l2 := #[.val (.int q1), .val (.int q2), .val (.int q3), .val (.int q4), .val (.int q5), .val (.int q6), .val (.int (3 : Int32)), .val (.double u11), .second, .val (.double u18), .second, .val (.double u25), .second, .val (.double u33), .second, .val (.double u45), .second, .val (.ref a173), .val (.ref a178), .val (.int r), .unset, .unset, .unset, .unset, .unset, .unset, .unset]) rfl (q := 165) rfl ?_
    refine Go.dload X195.here hx (Jvm.hb hby at_165) rfl (q := 167) rfl ?_
    refine Go.dstore X195.here hx (Jvm.hb hby at_167) (l2 := #[.val (.int q1), .val (.int q2), .val (.int q3), .val (.int q4), .val (.int q5), .val (.int q6), .val (.int (3 : Int32)), .val (.double u11), .second, .val (.double u18), .second, .val (.double u25), .second, .val (.double u33), .second, .val (.double u45), .second, .val (.ref a173), .val (.ref a178), .val (.int r), .val (.double u11), .second, .unset, .unset, .unset, .unset, .unset]) rfl (q := 169) rfl ?_
    refine Go.dload X195.here hx (Jvm.hb hby at_169) rfl (q := 171) rfl ?_
    refine Go.dload X195.here hx (Jvm.hb hby at_171) rfl (q := 173) rfl ?_
    obtain ⟨u173, hu173⟩ : ∃ zq, FP.dadd u11 u18 = zq := ⟨_, rfl⟩
    refine Go.dadd X195.here hx (Jvm.hb hby at_173) (nn_of Y2.1) hu173 (q := 174) rfl ?_
    have Y2' := Y2
    rw [hu173] at Y2'
    refine Go.dstore X195.here hx (Jvm.hb hby at_174) (l2 := #[.val (.int q1), .val (.int q2), .val (.int q3), .val (.int q4), .val (.int q5), .val (.int q6), .val (.int (3 : Int32)), .val (.double u11), .second, .val (.double u18), .second, .val (.double u25), .second, .val (.double u33), .second, .val (.double u45), .second, .val (.ref a173), .val (.ref a178), .val (.int r), .val (.double u11), .second, .val (.double u173), .second, .unset, .unset, .unset]) rfl (q := 176) rfl ?_
    refine Go.dload X195.here hx (Jvm.hb hby at_176) rfl (q := 178) rfl ?_
    refine Go.dload X195.here hx (Jvm.hb hby at_178) rfl (q := 180) rfl ?_
    obtain ⟨u180, hu180⟩ : ∃ zq, FP.dadd u11 u18 = zq := ⟨_, rfl⟩
    refine Go.dadd X195.here hx (Jvm.hb hby at_180) (nn_of Y2.1) hu180 (q := 181) rfl ?_
    refine Go.dload X195.here hx (Jvm.hb hby at_181) rfl (q := 183) rfl ?_
    obtain ⟨u183, hu183⟩ : ∃ zq, FP.dadd u180 u25 = zq := ⟨_, rfl⟩
    have Y3' := Y3
    rw [hu180] at Y3'
    refine Go.dadd X195.here hx (Jvm.hb hby at_183) (nn_of Y3'.1) hu183 (q := 184) rfl ?_
    rw [hu183] at Y3'
    refine Go.dstore X195.here hx (Jvm.hb hby at_184) (l2 := #[.val (.int q1), .val (.int q2), .val (.int q3), .val (.int q4), .val (.int q5), .val (.int q6), .val (.int (3 : Int32)), .val (.double u11), .second, .val (.double u18), .second, .val (.double u25), .second, .val (.double u33), .second, .val (.double u45), .second, .val (.ref a173), .val (.ref a178), .val (.int r), .val (.double u11), .second, .val (.double u173), .second, .val (.double u183), .second, .unset]) rfl (q := 186) rfl ?_
    refine Go.iconst X195.here hx (Jvm.hb hby at_186) (v := (0 : Int32)) rfl (q := 187) rfl ?_
    refine Go.istore X195.here hx (Jvm.hb hby at_187) (l2 := #[.val (.int q1), .val (.int q2), .val (.int q3), .val (.int q4), .val (.int q5), .val (.int q6), .val (.int (3 : Int32)), .val (.double u11), .second, .val (.double u18), .second, .val (.double u25), .second, .val (.double u33), .second, .val (.double u45), .second, .val (.ref a173), .val (.ref a178), .val (.int r), .val (.double u11), .second, .val (.double u173), .second, .val (.double u183), .second, .val (.int (0 : Int32))]) rfl (q := 189) rfl ?_
    refine Go.iload X195.here hx (Jvm.hb hby at_189) rfl (q := 191) rfl ?_
    refine Go.iconst X195.here hx (Jvm.hb hby at_191) (v := (1 : Int32)) rfl (q := 192) rfl ?_
    have hc192_198 : (1 : Int32) < (3 : Int32) := by decide
    refine Go.icmpN X195.here hx (Jvm.hb hby at_192) (tlt hc192_198).2.2.2 (q := 195) rfl ?_
    refine Go.dload X195.here hx (Jvm.hb hby at_195) rfl (q := 197) rfl ?_
    refine Go.dload X195.here hx (Jvm.hb hby at_197) rfl (q := 199) rfl ?_
    obtain ⟨u199, hu199⟩ : ∃ zq, cmpValue (FP.dcmp u11 u45) .g = zq := ⟨_, rfl⟩
    refine Go.dcmp X195.here hx (Jvm.hb hby at_199) hu199 (q := 200) rfl ?_
    by_cases hc200 : (0 : Int32) < u199
    · -- pc 200: (0 : Int32) < u199
      have g200 := (own_gt H1 H5).mp (by rw [hu199]; exact hc200)
      refine Go.ifY X195.here hx (Jvm.hb hby at_200) ((if0 _ _).trans (tlt hc200).2.2.1) (by decide) (q := 206) rfl ?_
      refine Go.iload X195.here hx (Jvm.hb hby at_206) rfl (q := 208) rfl ?_
      refine Go.iconst X195.here hx (Jvm.hb hby at_208) (v := (2 : Int32)) rfl (q := 209) rfl ?_
      have hc209_201 : (2 : Int32) < (3 : Int32) := by decide
      refine Go.icmpN X195.here hx (Jvm.hb hby at_209) (tlt hc209_201).2.2.2 (q := 212) rfl ?_
      refine Go.dload X195.here hx (Jvm.hb hby at_212) rfl (q := 214) rfl ?_
      refine Go.dload X195.here hx (Jvm.hb hby at_214) rfl (q := 216) rfl ?_
      obtain ⟨u216, hu216⟩ : ∃ zq, cmpValue (FP.dcmp u173 u45) .g = zq := ⟨_, rfl⟩
      refine Go.dcmp X195.here hx (Jvm.hb hby at_216) hu216 (q := 217) rfl ?_
      by_cases hc217 : (0 : Int32) < u216
      · -- pc 217: (0 : Int32) < u216
        have g217 := (own_gt Y2' H5).mp (by rw [hu216]; exact hc217)
        refine Go.ifY X195.here hx (Jvm.hb hby at_217) ((if0 _ _).trans (tlt hc217).2.2.1) (by decide) (q := 223) rfl ?_
        refine Go.iload X195.here hx (Jvm.hb hby at_223) rfl (q := 225) rfl ?_
        refine Go.iconst X195.here hx (Jvm.hb hby at_225) (v := (3 : Int32)) rfl (q := 226) rfl ?_
        have hc226_204 : ¬ ((3 : Int32) < (3 : Int32)) := by decide
        refine Go.icmpY X195.here hx (Jvm.hb hby at_226) (flt hc226_204).2.2.2 (by decide) (q := 240) rfl ?_
        refine Go.iload X195.here hx (Jvm.hb hby at_240) rfl (q := 242) rfl ?_
        refine Go.iload X195.here hx (Jvm.hb hby at_242) rfl (q := 244) rfl ?_
        have hc244 : r = (0 : Int32) := by rw [← hr, own_e3 S1 S2 H5]; (repeat' split) <;> first | rfl | (exfalso; omega)
        refine Go.icmpN X195.here hx (Jvm.hb hby at_244) (teq hc244).2 (q := 247) rfl ?_
        refine Go.iconst X195.here hx (Jvm.hb hby at_247) (v := (1 : Int32)) rfl (q := 248) rfl ?_
        refine Go.goto X195.here hx (Jvm.hb hby at_248) (by decide) (q := 252) rfl ?_
        refine Go.retZ X195 hx hret hlk (Jvm.hb hby at_252) (Or.inr rfl) (by decide) (by decide) ?_
        exact ⟨rfl, N195⟩
      · -- pc 217: not (0 : Int32) < u216
        have g217 := own_ngt Y2' H5 (by rw [hu216]; exact hc217)
        refine Go.ifN X195.here hx (Jvm.hb hby at_217) ((if0 _ _).trans (flt hc217).2.2.1) (q := 220) rfl ?_
        refine Go.iconst X195.here hx (Jvm.hb hby at_220) (v := (2 : Int32)) rfl (q := 221) rfl ?_
        refine Go.istore X195.here hx (Jvm.hb hby at_221) (l2 := #[.val (.int q1), .val (.int q2), .val (.int q3), .val (.int q4), .val (.int q5), .val (.int q6), .val (.int (3 : Int32)), .val (.double u11), .second, .val (.double u18), .second, .val (.double u25), .second, .val (.double u33), .second, .val (.double u45), .second, .val (.ref a173), .val (.ref a178), .val (.int r), .val (.double u11), .second, .val (.double u173), .second, .val (.double u183), .second, .val (.int (2 : Int32))]) rfl (q := 223) rfl ?_
        refine Go.iload X195.here hx (Jvm.hb hby at_223) rfl (q := 225) rfl ?_
        refine Go.iconst X195.here hx (Jvm.hb hby at_225) (v := (3 : Int32)) rfl (q := 226) rfl ?_
        have hc226_207 : ¬ ((3 : Int32) < (3 : Int32)) := by decide
        refine Go.icmpY X195.here hx (Jvm.hb hby at_226) (flt hc226_207).2.2.2 (by decide) (q := 240) rfl ?_
        refine Go.iload X195.here hx (Jvm.hb hby at_240) rfl (q := 242) rfl ?_
        refine Go.iload X195.here hx (Jvm.hb hby at_242) rfl (q := 244) rfl ?_
        have hc244 : r = (2 : Int32) := by rw [← hr, own_e3 S1 S2 H5]; (repeat' split) <;> first | rfl | (exfalso; omega)
        refine Go.icmpN X195.here hx (Jvm.hb hby at_244) (teq hc244).2 (q := 247) rfl ?_
        refine Go.iconst X195.here hx (Jvm.hb hby at_247) (v := (1 : Int32)) rfl (q := 248) rfl ?_
        refine Go.goto X195.here hx (Jvm.hb hby at_248) (by decide) (q := 252) rfl ?_
        refine Go.retZ X195 hx hret hlk (Jvm.hb hby at_252) (Or.inr rfl) (by decide) (by decide) ?_
        exact ⟨rfl, N195⟩
    · -- pc 200: not (0 : Int32) < u199
      have g200 := own_ngt H1 H5 (by rw [hu199]; exact hc200)
      refine Go.ifN X195.here hx (Jvm.hb hby at_200) ((if0 _ _).trans (flt hc200).2.2.1) (q := 203) rfl ?_
      refine Go.iconst X195.here hx (Jvm.hb hby at_203) (v := (1 : Int32)) rfl (q := 204) rfl ?_
      refine Go.istore X195.here hx (Jvm.hb hby at_204) (l2 := #[.val (.int q1), .val (.int q2), .val (.int q3), .val (.int q4), .val (.int q5), .val (.int q6), .val (.int (3 : Int32)), .val (.double u11), .second, .val (.double u18), .second, .val (.double u25), .second, .val (.double u33), .second, .val (.double u45), .second, .val (.ref a173), .val (.ref a178), .val (.int r), .val (.double u11), .second, .val (.double u173), .second, .val (.double u183), .second, .val (.int (1 : Int32))]) rfl (q := 206) rfl ?_
      refine Go.iload X195.here hx (Jvm.hb hby at_206) rfl (q := 208) rfl ?_
      refine Go.iconst X195.here hx (Jvm.hb hby at_208) (v := (2 : Int32)) rfl (q := 209) rfl ?_
      have hc209_210 : (2 : Int32) < (3 : Int32) := by decide
      refine Go.icmpN X195.here hx (Jvm.hb hby at_209) (tlt hc209_210).2.2.2 (q := 212) rfl ?_
      refine Go.dload X195.here hx (Jvm.hb hby at_212) rfl (q := 214) rfl ?_
      refine Go.dload X195.here hx (Jvm.hb hby at_214) rfl (q := 216) rfl ?_
      obtain ⟨u216, hu216⟩ : ∃ zq, cmpValue (FP.dcmp u173 u45) .g = zq := ⟨_, rfl⟩
      refine Go.dcmp X195.here hx (Jvm.hb hby at_216) hu216 (q := 217) rfl ?_
      by_cases hc217 : (0 : Int32) < u216
      · -- pc 217: (0 : Int32) < u216
        have g217 := (own_gt Y2' H5).mp (by rw [hu216]; exact hc217)
        refine Go.ifY X195.here hx (Jvm.hb hby at_217) ((if0 _ _).trans (tlt hc217).2.2.1) (by decide) (q := 223) rfl ?_
        refine Go.iload X195.here hx (Jvm.hb hby at_223) rfl (q := 225) rfl ?_
        refine Go.iconst X195.here hx (Jvm.hb hby at_225) (v := (3 : Int32)) rfl (q := 226) rfl ?_
        have hc226_213 : ¬ ((3 : Int32) < (3 : Int32)) := by decide
        refine Go.icmpY X195.here hx (Jvm.hb hby at_226) (flt hc226_213).2.2.2 (by decide) (q := 240) rfl ?_
        refine Go.iload X195.here hx (Jvm.hb hby at_240) rfl (q := 242) rfl ?_
        refine Go.iload X195.here hx (Jvm.hb hby at_242) rfl (q := 244) rfl ?_
        have hc244 : r = (1 : Int32) := by rw [← hr, own_e3 S1 S2 H5]; (repeat' split) <;> first | rfl | (exfalso; omega)
        refine Go.icmpN X195.here hx (Jvm.hb hby at_244) (teq hc244).2 (q := 247) rfl ?_
        refine Go.iconst X195.here hx (Jvm.hb hby at_247) (v := (1 : Int32)) rfl (q := 248) rfl ?_
        refine Go.goto X195.here hx (Jvm.hb hby at_248) (by decide) (q := 252) rfl ?_
        refine Go.retZ X195 hx hret hlk (Jvm.hb hby at_252) (Or.inr rfl) (by decide) (by decide) ?_
        exact ⟨rfl, N195⟩
      · -- pc 217: not (0 : Int32) < u216
        have g217 := own_ngt Y2' H5 (by rw [hu216]; exact hc217)
        refine Go.ifN X195.here hx (Jvm.hb hby at_217) ((if0 _ _).trans (flt hc217).2.2.1) (q := 220) rfl ?_
        refine Go.iconst X195.here hx (Jvm.hb hby at_220) (v := (2 : Int32)) rfl (q := 221) rfl ?_
        refine Go.istore X195.here hx (Jvm.hb hby at_221) (l2 := #[.val (.int q1), .val (.int q2), .val (.int q3), .val (.int q4), .val (.int q5), .val (.int q6), .val (.int (3 : Int32)), .val (.double u11), .second, .val (.double u18), .second, .val (.double u25), .second, .val (.double u33), .second, .val (.double u45), .second, .val (.ref a173), .val (.ref a178), .val (.int r), .val (.double u11), .second, .val (.double u173), .second, .val (.double u183), .second, .val (.int (2 : Int32))]) rfl (q := 223) rfl ?_
        refine Go.iload X195.here hx (Jvm.hb hby at_223) rfl (q := 225) rfl ?_
        refine Go.iconst X195.here hx (Jvm.hb hby at_225) (v := (3 : Int32)) rfl (q := 226) rfl ?_
        have hc226_216 : ¬ ((3 : Int32) < (3 : Int32)) := by decide
        refine Go.icmpY X195.here hx (Jvm.hb hby at_226) (flt hc226_216).2.2.2 (by decide) (q := 240) rfl ?_
        refine Go.iload X195.here hx (Jvm.hb hby at_240) rfl (q := 242) rfl ?_
        refine Go.iload X195.here hx (Jvm.hb hby at_242) rfl (q := 244) rfl ?_
        have hc244 : r = (2 : Int32) := by rw [← hr, own_e3 S1 S2 H5]; (repeat' split) <;> first | rfl | (exfalso; omega)
        refine Go.icmpN X195.here hx (Jvm.hb hby at_244) (teq hc244).2 (q := 247) rfl ?_
        refine Go.iconst X195.here hx (Jvm.hb hby at_247) (v := (1 : Int32)) rfl (q := 248) rfl ?_
        refine Go.goto X195.here hx (Jvm.hb hby at_248) (by decide) (q := 252) rfl ?_
        refine Go.retZ X195 hx hret hlk (Jvm.hb hby at_252) (Or.inr rfl) (by decide) (by decide) ?_
        exact ⟨rfl, N195⟩
  · -- u3 = 3
    refine Go.iadd X0.here hx (Jvm.hb hby at_4) (v := (4 : Int32)) (by decide) (q := 5) rfl ?_
    refine Go.istore X0.here hx (Jvm.hb hby at_5) (l2 := #[.val (.int q1), .val (.int q2), .val (.int q3), .val (.int q4), .val (.int q5), .val (.int q6), .val (.int (4 : Int32)), .unset, .unset, .unset, .unset, .unset, .unset, .unset, .unset, .unset, .unset, .unset, .unset, .unset, .unset, .unset, .unset, .unset, .unset, .unset, .unset]) rfl (q := 7) rfl ?_
    refine Go.iloadN X0.here hx (Jvm.hb hby at_7) rfl (q := 8) rfl ?_
    refine Go.bipush X0.here hx (Jvm.hb hby at_8) (v := (15 : Int32)) rfl (q := 10) rfl ?_
    obtain ⟨u10, hu10⟩ : ∃ zq, q2 &&& (15 : Int32) = zq := ⟨_, rfl⟩
    refine Go.iand X0.here hx (Jvm.hb hby at_10) hu10 (q := 11) rfl ?_
    obtain ⟨u11, hu11⟩ : ∃ zq, FP.i2d u10 = zq := ⟨_, rfl⟩
    refine Go.i2d X0.here hx (Jvm.hb hby at_11) hu11 (q := 12) rfl ?_
    refine Go.dstore X0.here hx (Jvm.hb hby at_12) (l2 := #[.val (.int q1), .val (.int q2), .val (.int q3), .val (.int q4), .val (.int q5), .val (.int q6), .val (.int (4 : Int32)), .val (.double u11), .second, .unset, .unset, .unset, .unset, .unset, .unset, .unset, .unset, .unset, .unset, .unset, .unset, .unset, .unset, .unset, .unset, .unset, .unset]) rfl (q := 14) rfl ?_
    refine Go.iloadN X0.here hx (Jvm.hb hby at_14) rfl (q := 15) rfl ?_
    refine Go.bipush X0.here hx (Jvm.hb hby at_15) (v := (15 : Int32)) rfl (q := 17) rfl ?_
    obtain ⟨u17, hu17⟩ : ∃ zq, q3 &&& (15 : Int32) = zq := ⟨_, rfl⟩
    refine Go.iand X0.here hx (Jvm.hb hby at_17) hu17 (q := 18) rfl ?_
    obtain ⟨u18, hu18⟩ : ∃ zq, FP.i2d u17 = zq := ⟨_, rfl⟩
    refine Go.i2d X0.here hx (Jvm.hb hby at_18) hu18 (q := 19) rfl ?_
    refine Go.dstore X0.here hx (Jvm.hb hby at_19) (l2 := #[.val (.int q1), .val (.int q2), .val (.int q3), .val (.int q4), .val (.int q5), .val (.int q6), .val (.int (4 : Int32)), .val (.double u11), .second, .val (.double u18), .second, .unset, .unset, .unset, .unset, .unset, .unset, .unset, .unset, .unset, .unset, .unset, .unset, .unset, .unset, .unset, .unset]) rfl (q := 21) rfl ?_
    refine Go.iloadN X0.here hx (Jvm.hb hby at_21) rfl (q := 22) rfl ?_
    refine Go.bipush X0.here hx (Jvm.hb hby at_22) (v := (15 : Int32)) rfl (q := 24) rfl ?_
    obtain ⟨u24, hu24⟩ : ∃ zq, q4 &&& (15 : Int32) = zq := ⟨_, rfl⟩
    refine Go.iand X0.here hx (Jvm.hb hby at_24) hu24 (q := 25) rfl ?_
    obtain ⟨u25, hu25⟩ : ∃ zq, FP.i2d u24 = zq := ⟨_, rfl⟩
    refine Go.i2d X0.here hx (Jvm.hb hby at_25) hu25 (q := 26) rfl ?_
    refine Go.dstore X0.here hx (Jvm.hb hby at_26) (l2 := #[.val (.int q1), .val (.int q2), .val (.int q3), .val (.int q4), .val (.int q5), .val (.int q6), .val (.int (4 : Int32)), .val (.double u11), .second, .val (.double u18), .second, .val (.double u25), .second, .unset, .unset, .unset, .unset, .unset, .unset, .unset, .unset, .unset, .unset, .unset, .unset, .unset, .unset]) rfl (q := 28) rfl ?_
    refine Go.iload X0.here hx (Jvm.hb hby at_28) rfl (q := 30) rfl ?_
    refine Go.bipush X0.here hx (Jvm.hb hby at_30) (v := (15 : Int32)) rfl (q := 32) rfl ?_
    obtain ⟨u32, hu32⟩ : ∃ zq, q5 &&& (15 : Int32) = zq := ⟨_, rfl⟩
    refine Go.iand X0.here hx (Jvm.hb hby at_32) hu32 (q := 33) rfl ?_
    obtain ⟨u33, hu33⟩ : ∃ zq, FP.i2d u32 = zq := ⟨_, rfl⟩
    refine Go.i2d X0.here hx (Jvm.hb hby at_33) hu33 (q := 34) rfl ?_
    refine Go.dstore X0.here hx (Jvm.hb hby at_34) (l2 := #[.val (.int q1), .val (.int q2), .val (.int q3), .val (.int q4), .val (.int q5), .val (.int q6), .val (.int (4 : Int32)), .val (.double u11), .second, .val (.double u18), .second, .val (.double u25), .second, .val (.double u33), .second, .unset, .unset, .unset, .unset, .unset, .unset, .unset, .unset, .unset, .unset, .unset, .unset]) rfl (q := 36) rfl ?_
    refine Go.iload X0.here hx (Jvm.hb hby at_36) rfl (q := 38) rfl ?_
    refine Go.bipush X0.here hx (Jvm.hb hby at_38) (v := (127 : Int32)) rfl (q := 40) rfl ?_
    obtain ⟨u40, hu40⟩ : ∃ zq, q6 &&& (127 : Int32) = zq := ⟨_, rfl⟩
    refine Go.iand X0.here hx (Jvm.hb hby at_40) hu40 (q := 41) rfl ?_
    obtain ⟨u41, hu41⟩ : ∃ zq, FP.i2d u40 = zq := ⟨_, rfl⟩
    refine Go.i2d X0.here hx (Jvm.hb hby at_41) hu41 (q := 42) rfl ?_
    refine Go.ldc2D X0 hx hown (mvT hZ (word hw 0 rfl)) (Jvm.hb hby at_42) (q := 45) rfl ?_
    obtain ⟨u45, hu45⟩ : ∃ zq, FP.ddiv u41 (4611686018427387904 : UInt64) = zq := ⟨_, rfl⟩
    refine Go.ddiv X0.here hx (Jvm.hb hby at_45) (nn_of (own_time hu40 hu41).choose_spec.1) hu45 (q := 46) rfl ?_
    refine Go.dstore X0.here hx (Jvm.hb hby at_46) (l2 := #[.val (.int q1), .val (.int q2), .val (.int q3), .val (.int q4), .val (.int q5), .val (.int q6), .val (.int (4 : Int32)), .val (.double u11), .second, .val (.double u18), .second, .val (.double u25), .second, .val (.double u33), .second, .val (.double u45), .second, .unset, .unset, .unset, .unset, .unset, .unset, .unset, .unset, .unset, .unset]) rfl (q := 48) rfl ?_
    refine Go.iload X0.here hx (Jvm.hb hby at_48) rfl (q := 50) rfl ?_
    refine Go.iconst X0.here hx (Jvm.hb hby at_50) (v := (1 : Int32)) rfl (q := 51) rfl ?_
    have hc51_219 : ¬ ((4 : Int32) = (1 : Int32)) := by decide
    refine Go.icmpY X0.here hx (Jvm.hb hby at_51) (feq hc51_219).2 (by decide) (q := 67) rfl ?_
    refine Go.iload X0.here hx (Jvm.hb hby at_67) rfl (q := 69) rfl ?_
    refine Go.iconst X0.here hx (Jvm.hb hby at_69) (v := (2 : Int32)) rfl (q := 70) rfl ?_
    have hc70_221 : ¬ ((4 : Int32) = (2 : Int32)) := by decide
    refine Go.icmpY X0.here hx (Jvm.hb hby at_70) (feq hc70_221).2 (by decide) (q := 91) rfl ?_
    refine Go.iload X0.here hx (Jvm.hb hby at_91) rfl (q := 93) rfl ?_
    refine Go.iconst X0.here hx (Jvm.hb hby at_93) (v := (3 : Int32)) rfl (q := 94) rfl ?_
    have hc94_223 : ¬ ((4 : Int32) = (3 : Int32)) := by decide
    refine Go.icmpY X0.here hx (Jvm.hb hby at_94) (feq hc94_223).2 (by decide) (q := 120) rfl ?_
    refine Go.iconst X0.here hx (Jvm.hb hby at_120) (v := (4 : Int32)) rfl (q := 121) rfl ?_
    refine Go.newarr X0 hx hZ (aty := .double) (word hw 1 rfl) e0 (Jvm.hb hby at_121) (by decide) (k := 4) (by decide) (by decide) (by decide) (by decide) (ad := "[D") (by decide) (q := 123) rfl ?_
    intro T224 h224 a224 kk224 g224 X224 e224 E224 R224 A224
    have r225 : n0 ≤ a224 := Nat.le_trans Z0 (Nat.le_of_eq g224.symm)
    have R224 : Row Z h224 a224 .double kk224 [(.double (0 : UInt64)), (.double (0 : UInt64)), (.double (0 : UInt64)), (.double (0 : UInt64))] := R224
    refine Go.dup X224.here hx (Jvm.hb hby at_123) rfl (q := 124) rfl ?_
    refine Go.iconst X224.here hx (Jvm.hb hby at_124) (v := (0 : Int32)) rfl (q := 125) rfl ?_
    refine Go.dload X224.here hx (Jvm.hb hby at_125) rfl (q := 127) rfl ?_
    refine Go.dastore X224 hx hZ e224 R224 (Jvm.hb hby at_127) (i := 0) (by decide) (by decide) rfl (q := 128) rfl ?_
    intro T226 h226 X226 e226 W226 R226
    have N226 := Fr.snoc X226 N0 r225
    have R226 : Row Z h226 a224 .double kk224 [(.double u11), (.double (0 : UInt64)), (.double (0 : UInt64)), (.double (0 : UInt64))] := R226
    refine Go.dup X226.here hx (Jvm.hb hby at_128) rfl (q := 129) rfl ?_
    refine Go.iconst X226.here hx (Jvm.hb hby at_129) (v := (1 : Int32)) rfl (q := 130) rfl ?_
    refine Go.dload X226.here hx (Jvm.hb hby at_130) rfl (q := 132) rfl ?_
    refine Go.dastore X226 hx hZ e226 R226 (Jvm.hb hby at_132) (i := 1) (by decide) (by decide) rfl (q := 133) rfl ?_
    intro T227 h227 X227 e227 W227 R227
    have N227 := Fr.snoc X227 N226 r225
    have R227 : Row Z h227 a224 .double kk224 [(.double u11), (.double u18), (.double (0 : UInt64)), (.double (0 : UInt64))] := R227
    refine Go.dup X227.here hx (Jvm.hb hby at_133) rfl (q := 134) rfl ?_
    refine Go.iconst X227.here hx (Jvm.hb hby at_134) (v := (2 : Int32)) rfl (q := 135) rfl ?_
    refine Go.dload X227.here hx (Jvm.hb hby at_135) rfl (q := 137) rfl ?_
    refine Go.dastore X227 hx hZ e227 R227 (Jvm.hb hby at_137) (i := 2) (by decide) (by decide) rfl (q := 138) rfl ?_
    intro T228 h228 X228 e228 W228 R228
    have N228 := Fr.snoc X228 N227 r225
    have R228 : Row Z h228 a224 .double kk224 [(.double u11), (.double u18), (.double u25), (.double (0 : UInt64))] := R228
    refine Go.dup X228.here hx (Jvm.hb hby at_138) rfl (q := 139) rfl ?_
    refine Go.iconst X228.here hx (Jvm.hb hby at_139) (v := (3 : Int32)) rfl (q := 140) rfl ?_
    refine Go.dload X228.here hx (Jvm.hb hby at_140) rfl (q := 142) rfl ?_
    refine Go.dastore X228 hx hZ e228 R228 (Jvm.hb hby at_142) (i := 3) (by decide) (by decide) rfl (q := 143) rfl ?_
    intro T229 h229 X229 e229 W229 R229
    have N229 := Fr.snoc X229 N228 r225
    have R229 : Row Z h229 a224 .double kk224 [(.double u11), (.double u18), (.double u25), (.double u33)] := R229
    refine Go.astore X229.here hx (Jvm.hb hby at_143) rfl (l2 := #[.val (.int q1), .val (.int q2), .val (.int q3), .val (.int q4), .val (.int q5), .val (.int q6), .val (.int (4 : Int32)), .val (.double u11), .second, .val (.double u18), .second, .val (.double u25), .second, .val (.double u33), .second, .val (.double u45), .second, .val (.ref a224), .unset, .unset, .unset, .unset, .unset, .unset, .unset, .unset, .unset]) rfl (q := 145) rfl ?_
    obtain ⟨n1, H1, b1, c1⟩ := own_len hu10 hu11
    obtain ⟨n2, H2, b2, c2⟩ := own_len hu17 hu18
    obtain ⟨n3, H3, b3, c3⟩ := own_len hu24 hu25
    obtain ⟨n4, H4, b4, c4⟩ := own_len hu32 hu33
    have S1 := h_add h_zero H1 (by omega)
    have S2 := h_add S1 H2 (by omega)
    have S3 := h_add S2 H3 (by omega)
    have S4 := h_add S3 H4 (by omega)
    have Y2 := h_add H1 H2 (by omega)
    have Y3 := h_add Y2 H3 (by omega)
    obtain ⟨nt, H5⟩ := own_time hu40 hu41
    rw [hu45] at H5
    refine Go.new X229 hx hZ hown (word hw 2 rfl) (word hw 3 rfl) (word hw 4 rfl) e229 (Jvm.hb hby at_145) (by decide) (by decide) (q := 148) rfl ?_
    intro T230 h230 a230 g230 X230 e230 E230 A230 D230
    have z231 : n0 ≤ h224.size := Nat.le_trans Z0 E224.1
    have z232 : n0 ≤ h226.size := Nat.le_trans z231 (Nat.le_of_eq W226.size.symm)
    have z233 : n0 ≤ h227.size := Nat.le_trans z232 (Nat.le_of_eq W227.size.symm)
    have z234 : n0 ≤ h228.size := Nat.le_trans z233 (Nat.le_of_eq W228.size.symm)
    have z235 : n0 ≤ h229.size := Nat.le_trans z234 (Nat.le_of_eq W229.size.symm)
    have r236 : n0 ≤ a230 := Nat.le_trans z235 (Nat.le_of_eq g230.symm)
    have F237 : Fld Z h230 a230 "com/example/palpito/palpito/Segments" "lengthsMs" "[D" .null := D230 (Or.inr (word hw 21 rfl)) (ty := (.array .double)) (by decide)
    have F238 : Fld Z h230 a230 "com/example/palpito/palpito/Segments" "startsMs" "[D" .null := D230 (Or.inr (word hw 23 rfl)) (ty := (.array .double)) (by decide)
    refine Go.dup X230.here hx (Jvm.hb hby at_148) rfl (q := 149) rfl ?_
    refine Go.aload X230.here hx (Jvm.hb hby at_149) rfl rfl (q := 151) rfl ?_
    have f240 := R229.ext E230
    have f241 := A224.wr W226
    have f242 := f241.wr W227
    have f243 := f242.wr W228
    have f244 := f243.wr W229
    have f245 := f244.ext E230
    have ne246 : a224 ≠ a230 := Nat.ne_of_lt (Nat.lt_of_lt_of_le R229.lt (Nat.le_of_eq g230.symm))
    have z247 : n0 ≤ h230.size := Nat.le_trans z235 E230.1
    refine Go.special X230 hx hZ (y := (⟨"com/example/palpito/palpito/Segments", "<init>", "([D)V"⟩ : MethodName)) rfl hown (word hw 5 rfl) (word hw 6 rfl) (word hw 7 rfl) (word hw 4 rfl) (by decide) (rm_init4 l Z a0 hw a230 a224 kk224 .null .null u11 u18 u25 u33 h230 n0 z247 A230 F237 F238 f240 f245 (Ne.symm ne246) r236 (⟨(nn_of S1.1), (nn_of S2.1), (nn_of S3.1), (nn_of S4.1), trivial⟩)) e230 (a := a230) (argsL := [(.ref a224)]) (rest := [(.ref a230)]) (W := 1) (Jvm.hb hby at_151) rfl rfl (lenOf (pd0) rfl) (by rw [hml]; rfl) (Nat.le_of_eq rfl) (by decide) (by decide) (by decide) (by decide) (q := 154) rfl ?_
    intro T239 L239 w239 X239 hQ239
    obtain ⟨a239, kk239_1, rfl, M239, K239, G239_0, P239_0, P239_1, P239_2⟩ := hQ239
    have N239 := Fr.app N229 M239
    have r248 : n0 ≤ a239 := Nat.le_trans z247 (G239_0)
    show Go p e below _ (T239.setTop (mkF m 154 #[.val (.int q1), .val (.int q2), .val (.int q3), .val (.int q4), .val (.int q5), .val (.int q6), .val (.int (4 : Int32)), .val (.double u11), .second, .val (.double u18), .second, .val (.double u25), .second, .val (.double u33), .second, .val (.double u45), .second, .val (.ref a224), .unset, .unset, .unset, .unset, .unset, .unset, .unset, .unset, .unset] [(.ref a230)]))
    refine Go.astore X239.here hx (Jvm.hb hby at_154) rfl (l2 := #[.val (.int q1), .val (.int q2), .val (.int q3), .val (.int q4), .val (.int q5), .val (.int q6), .val (.int (4 : Int32)), .val (.double u11), .second, .val (.double u18), .second, .val (.double u25), .second, .val (.double u33), .second, .val (.double u45), .second, .val (.ref a224), .val (.ref a230), .unset, .unset, .unset, .unset, .unset, .unset, .unset, .unset]) rfl (q := 156) rfl ?_
    refine Go.aload X239.here hx (Jvm.hb hby at_156) rfl rfl (q := 158) rfl ?_
    refine Go.dload X239.here hx (Jvm.hb hby at_158) rfl (q := 160) rfl ?_
    have z250 : n0 ≤ T239.heap.size := Nat.le_trans z247 K239.1
    refine Go.virtual X239 hx hZ (y := (⟨"com/example/palpito/palpito/Segments", "at", "(D)I"⟩ : MethodName)) hown (word hw 24 rfl) (word hw 25 rfl) (word hw 27 rfl) (word hw 26 rfl) (word hw 28 rfl) (word hw 4 rfl) (by decide) (rm_at4 l Z a0 hw a230 a239 kk239_1 u45 (0 : UInt64) (FP.dadd (0 : UInt64) u11) (FP.dadd (FP.dadd (0 : UInt64) u11) u18) (FP.dadd (FP.dadd (FP.dadd (0 : UInt64) u11) u18) u25) (FP.dadd (FP.dadd (FP.dadd (FP.dadd (0 : UInt64) u11) u18) u25) u33) T239.heap n0 z250 P239_1 P239_2) rfl P239_0  (argsL := [(.double u45)]) (rest := []) (W := 0) (Jvm.hb hby at_160) rfl rfl (lenOf (pd1) rfl) (by rw [hml]; rfl) (Nat.le_of_eq rfl) (by decide) (by decide) (by decide) (by decide) (q := 163) rfl ?_
    intro T249 L249 w249 X249 hQ249
    obtain ⟨rfl, M249, q249⟩ := hQ249
    have N249 := Fr.app N239 M249
    show Go p e below _ (T249.setTop (mkF m 163 #[.val (.int q1), .val (.int q2), .val (.int q3), .val (.int q4), .val (.int q5), .val (.int q6), .val (.int (4 : Int32)), .val (.double u11), .second, .val (.double u18), .second, .val (.double u25), .second, .val (.double u33), .second, .val (.double u45), .second, .val (.ref a224), .val (.ref a230), .unset, .unset, .unset, .unset, .unset, .unset, .unset, .unset] [(.int (own_at4 (FP.dadd (0 : UInt64) u11) (FP.dadd (FP.dadd (0 : UInt64) u11) u18) (FP.dadd (FP.dadd (FP.dadd (0 : UInt64) u11) u18) u25) u45))]))
    obtain ⟨r, hr⟩ : ∃ zq, (own_at4 (FP.dadd (0 : UInt64) u11) (FP.dadd (FP.dadd (0 : UInt64) u11) u18) (FP.dadd (FP.dadd (FP.dadd (0 : UInt64) u11) u18) u25) u45) = zq := ⟨_, rfl⟩
    rw [hr]
    refine Go.istore X249.here hx (Jvm.hb hby at_163) (l2 := #[.val (.int q1), .val (.int q2), .val (.int q3), .val (.int q4), .val (.int q5), .val (.int q6), .val (.int (4 : Int32)), .val (.double u11), .second, .val (.double u18), .second, .val (.double u25), .second, .val (.double u33), .second, .val (.double u45), .second, .val (.ref a224), .val (.ref a230), .val (.int r), .unset, .unset, .unset, .unset, .unset, .unset, .unset]) rfl (q := 165) rfl ?_
    refine Go.dload X249.here hx (Jvm.hb hby at_165) rfl (q := 167) rfl ?_
    refine Go.dstore X249.here hx (Jvm.hb hby at_167) (l2 := #[.val (.int q1), .val (.int q2), .val (.int q3), .val (.int q4), .val (.int q5), .val (.int q6), .val (.int (4 : Int32)), .val (.double u11), .second, .val (.double u18), .second, .val (.double u25), .second, .val (.double u33), .second, .val (.double u45), .second, .val (.ref a224), .val (.ref a230), .val (.int r), .val (.double u11), .second, .unset, .unset, .unset, .unset, .unset]) rfl (q := 169) rfl ?_
    refine Go.dload X249.here hx (Jvm.hb hby at_169) rfl (q := 171) rfl ?_
    refine Go.dload X249.here hx (Jvm.hb hby at_171) rfl (q := 173) rfl ?_
    obtain ⟨u173, hu173⟩ : ∃ zq, FP.dadd u11 u18 = zq := ⟨_, rfl⟩
    refine Go.dadd X249.here hx (Jvm.hb hby at_173) (nn_of Y2.1) hu173 (q := 174) rfl ?_
    have Y2' := Y2
    rw [hu173] at Y2'
    refine Go.dstore X249.here hx (Jvm.hb hby at_174) (l2 := #[.val (.int q1), .val (.int q2), .val (.int q3), .val (.int q4), .val (.int q5), .val (.int q6), .val (.int (4 : Int32)), .val (.double u11), .second, .val (.double u18), .second, .val (.double u25), .second, .val (.double u33), .second, .val (.double u45), .second, .val (.ref a224), .val (.ref a230), .val (.int r), .val (.double u11), .second, .val (.double u173), .second, .unset, .unset, .unset]) rfl (q := 176) rfl ?_
    refine Go.dload X249.here hx (Jvm.hb hby at_176) rfl (q := 178) rfl ?_
    refine Go.dload X249.here hx (Jvm.hb hby at_178) rfl (q := 180) rfl ?_
    obtain ⟨u180, hu180⟩ : ∃ zq, FP.dadd u11 u18 = zq := ⟨_, rfl⟩
    refine Go.dadd X249.here hx (Jvm.hb hby at_180) (nn_of Y2.1) hu180 (q := 181) rfl ?_
    refine Go.dload X249.here hx (Jvm.hb hby at_181) rfl (q := 183) rfl ?_
    obtain ⟨u183, hu183⟩ : ∃ zq, FP.dadd u180 u25 = zq := ⟨_, rfl⟩
    have Y3' := Y3
    rw [hu180] at Y3'
    refine Go.dadd X249.here hx (Jvm.hb hby at_183) (nn_of Y3'.1) hu183 (q := 184) rfl ?_
    rw [hu183] at Y3'
    refine Go.dstore X249.here hx (Jvm.hb hby at_184) (l2 := #[.val (.int q1), .val (.int q2), .val (.int q3), .val (.int q4), .val (.int q5), .val (.int q6), .val (.int (4 : Int32)), .val (.double u11), .second, .val (.double u18), .second, .val (.double u25), .second, .val (.double u33), .second, .val (.double u45), .second, .val (.ref a224), .val (.ref a230), .val (.int r), .val (.double u11), .second, .val (.double u173), .second, .val (.double u183), .second, .unset]) rfl (q := 186) rfl ?_
    refine Go.iconst X249.here hx (Jvm.hb hby at_186) (v := (0 : Int32)) rfl (q := 187) rfl ?_
    refine Go.istore X249.here hx (Jvm.hb hby at_187) (l2 := #[.val (.int q1), .val (.int q2), .val (.int q3), .val (.int q4), .val (.int q5), .val (.int q6), .val (.int (4 : Int32)), .val (.double u11), .second, .val (.double u18), .second, .val (.double u25), .second, .val (.double u33), .second, .val (.double u45), .second, .val (.ref a224), .val (.ref a230), .val (.int r), .val (.double u11), .second, .val (.double u173), .second, .val (.double u183), .second, .val (.int (0 : Int32))]) rfl (q := 189) rfl ?_
    refine Go.iload X249.here hx (Jvm.hb hby at_189) rfl (q := 191) rfl ?_
    refine Go.iconst X249.here hx (Jvm.hb hby at_191) (v := (1 : Int32)) rfl (q := 192) rfl ?_
    have hc192_252 : (1 : Int32) < (4 : Int32) := by decide
    refine Go.icmpN X249.here hx (Jvm.hb hby at_192) (tlt hc192_252).2.2.2 (q := 195) rfl ?_
    refine Go.dload X249.here hx (Jvm.hb hby at_195) rfl (q := 197) rfl ?_
    refine Go.dload X249.here hx (Jvm.hb hby at_197) rfl (q := 199) rfl ?_
    obtain ⟨u199, hu199⟩ : ∃ zq, cmpValue (FP.dcmp u11 u45) .g = zq := ⟨_, rfl⟩
    refine Go.dcmp X249.here hx (Jvm.hb hby at_199) hu199 (q := 200) rfl ?_
    by_cases hc200 : (0 : Int32) < u199
    · -- pc 200: (0 : Int32) < u199
      have g200 := (own_gt H1 H5).mp (by rw [hu199]; exact hc200)
      refine Go.ifY X249.here hx (Jvm.hb hby at_200) ((if0 _ _).trans (tlt hc200).2.2.1) (by decide) (q := 206) rfl ?_
      refine Go.iload X249.here hx (Jvm.hb hby at_206) rfl (q := 208) rfl ?_
      refine Go.iconst X249.here hx (Jvm.hb hby at_208) (v := (2 : Int32)) rfl (q := 209) rfl ?_
      have hc209_255 : (2 : Int32) < (4 : Int32) := by decide
      refine Go.icmpN X249.here hx (Jvm.hb hby at_209) (tlt hc209_255).2.2.2 (q := 212) rfl ?_
      refine Go.dload X249.here hx (Jvm.hb hby at_212) rfl (q := 214) rfl ?_
      refine Go.dload X249.here hx (Jvm.hb hby at_214) rfl (q := 216) rfl ?_
      obtain ⟨u216, hu216⟩ : ∃ zq, cmpValue (FP.dcmp u173 u45) .g = zq := ⟨_, rfl⟩
      refine Go.dcmp X249.here hx (Jvm.hb hby at_216) hu216 (q := 217) rfl ?_
      by_cases hc217 : (0 : Int32) < u216
      · -- pc 217: (0 : Int32) < u216
        have g217 := (own_gt Y2' H5).mp (by rw [hu216]; exact hc217)
        refine Go.ifY X249.here hx (Jvm.hb hby at_217) ((if0 _ _).trans (tlt hc217).2.2.1) (by decide) (q := 223) rfl ?_
        refine Go.iload X249.here hx (Jvm.hb hby at_223) rfl (q := 225) rfl ?_
        refine Go.iconst X249.here hx (Jvm.hb hby at_225) (v := (3 : Int32)) rfl (q := 226) rfl ?_
        have hc226_258 : (3 : Int32) < (4 : Int32) := by decide
        refine Go.icmpN X249.here hx (Jvm.hb hby at_226) (tlt hc226_258).2.2.2 (q := 229) rfl ?_
        refine Go.dload X249.here hx (Jvm.hb hby at_229) rfl (q := 231) rfl ?_
        refine Go.dload X249.here hx (Jvm.hb hby at_231) rfl (q := 233) rfl ?_
        obtain ⟨u233, hu233⟩ : ∃ zq, cmpValue (FP.dcmp u183 u45) .g = zq := ⟨_, rfl⟩
        refine Go.dcmp X249.here hx (Jvm.hb hby at_233) hu233 (q := 234) rfl ?_
        by_cases hc234 : (0 : Int32) < u233
        · -- pc 234: (0 : Int32) < u233
          have g234 := (own_gt Y3' H5).mp (by rw [hu233]; exact hc234)
          refine Go.ifY X249.here hx (Jvm.hb hby at_234) ((if0 _ _).trans (tlt hc234).2.2.1) (by decide) (q := 240) rfl ?_
          refine Go.iload X249.here hx (Jvm.hb hby at_240) rfl (q := 242) rfl ?_
          refine Go.iload X249.here hx (Jvm.hb hby at_242) rfl (q := 244) rfl ?_
          have hc244 : r = (0 : Int32) := by rw [← hr, own_e4 S1 S2 S3 H5 (by omega) (by omega)]; (repeat' split) <;> first | rfl | (exfalso; omega)
          refine Go.icmpN X249.here hx (Jvm.hb hby at_244) (teq hc244).2 (q := 247) rfl ?_
          refine Go.iconst X249.here hx (Jvm.hb hby at_247) (v := (1 : Int32)) rfl (q := 248) rfl ?_
          refine Go.goto X249.here hx (Jvm.hb hby at_248) (by decide) (q := 252) rfl ?_
          refine Go.retZ X249 hx hret hlk (Jvm.hb hby at_252) (Or.inr rfl) (by decide) (by decide) ?_
          exact ⟨rfl, N249⟩
        · -- pc 234: not (0 : Int32) < u233
          have g234 := own_ngt Y3' H5 (by rw [hu233]; exact hc234)
          refine Go.ifN X249.here hx (Jvm.hb hby at_234) ((if0 _ _).trans (flt hc234).2.2.1) (q := 237) rfl ?_
          refine Go.iconst X249.here hx (Jvm.hb hby at_237) (v := (3 : Int32)) rfl (q := 238) rfl ?_
          refine Go.istore X249.here hx (Jvm.hb hby at_238) (l2 := #[.val (.int q1), .val (.int q2), .val (.int q3), .val (.int q4), .val (.int q5), .val (.int q6), .val (.int (4 : Int32)), .val (.double u11), .second, .val (.double u18), .second, .val (.double u25), .second, .val (.double u33), .second, .val (.double u45), .second, .val (.ref a224), .val (.ref a230), .val (.int r), .val (.double u11), .second, .val (.double u173), .second, .val (.double u183), .second, .val (.int (3 : Int32))]) rfl (q := 240) rfl ?_
          refine Go.iload X249.here hx (Jvm.hb hby at_240) rfl (q := 242) rfl ?_
          refine Go.iload X249.here hx (Jvm.hb hby at_242) rfl (q := 244) rfl ?_
          have hc244 : r = (3 : Int32) := by rw [← hr, own_e4 S1 S2 S3 H5 (by omega) (by omega)]; (repeat' split) <;> first | rfl | (exfalso; omega)
          refine Go.icmpN X249.here hx (Jvm.hb hby at_244) (teq hc244).2 (q := 247) rfl ?_
          refine Go.iconst X249.here hx (Jvm.hb hby at_247) (v := (1 : Int32)) rfl (q := 248) rfl ?_
          refine Go.goto X249.here hx (Jvm.hb hby at_248) (by decide) (q := 252) rfl ?_
          refine Go.retZ X249 hx hret hlk (Jvm.hb hby at_252) (Or.inr rfl) (by decide) (by decide) ?_
          exact ⟨rfl, N249⟩
      · -- pc 217: not (0 : Int32) < u216
        have g217 := own_ngt Y2' H5 (by rw [hu216]; exact hc217)
        refine Go.ifN X249.here hx (Jvm.hb hby at_217) ((if0 _ _).trans (flt hc217).2.2.1) (q := 220) rfl ?_
        refine Go.iconst X249.here hx (Jvm.hb hby at_220) (v := (2 : Int32)) rfl (q := 221) rfl ?_
        refine Go.istore X249.here hx (Jvm.hb hby at_221) (l2 := #[.val (.int q1), .val (.int q2), .val (.int q3), .val (.int q4), .val (.int q5), .val (.int q6), .val (.int (4 : Int32)), .val (.double u11), .second, .val (.double u18), .second, .val (.double u25), .second, .val (.double u33), .second, .val (.double u45), .second, .val (.ref a224), .val (.ref a230), .val (.int r), .val (.double u11), .second, .val (.double u173), .second, .val (.double u183), .second, .val (.int (2 : Int32))]) rfl (q := 223) rfl ?_
        refine Go.iload X249.here hx (Jvm.hb hby at_223) rfl (q := 225) rfl ?_
        refine Go.iconst X249.here hx (Jvm.hb hby at_225) (v := (3 : Int32)) rfl (q := 226) rfl ?_
        have hc226_263 : (3 : Int32) < (4 : Int32) := by decide
        refine Go.icmpN X249.here hx (Jvm.hb hby at_226) (tlt hc226_263).2.2.2 (q := 229) rfl ?_
        refine Go.dload X249.here hx (Jvm.hb hby at_229) rfl (q := 231) rfl ?_
        refine Go.dload X249.here hx (Jvm.hb hby at_231) rfl (q := 233) rfl ?_
        obtain ⟨u233, hu233⟩ : ∃ zq, cmpValue (FP.dcmp u183 u45) .g = zq := ⟨_, rfl⟩
        refine Go.dcmp X249.here hx (Jvm.hb hby at_233) hu233 (q := 234) rfl ?_
        by_cases hc234 : (0 : Int32) < u233
        · -- pc 234: (0 : Int32) < u233
          have g234 := (own_gt Y3' H5).mp (by rw [hu233]; exact hc234)
          refine Go.ifY X249.here hx (Jvm.hb hby at_234) ((if0 _ _).trans (tlt hc234).2.2.1) (by decide) (q := 240) rfl ?_
          refine Go.iload X249.here hx (Jvm.hb hby at_240) rfl (q := 242) rfl ?_
          refine Go.iload X249.here hx (Jvm.hb hby at_242) rfl (q := 244) rfl ?_
          have hc244 : r = (2 : Int32) := by rw [← hr, own_e4 S1 S2 S3 H5 (by omega) (by omega)]; (repeat' split) <;> first | rfl | (exfalso; omega)
          refine Go.icmpN X249.here hx (Jvm.hb hby at_244) (teq hc244).2 (q := 247) rfl ?_
          refine Go.iconst X249.here hx (Jvm.hb hby at_247) (v := (1 : Int32)) rfl (q := 248) rfl ?_
          refine Go.goto X249.here hx (Jvm.hb hby at_248) (by decide) (q := 252) rfl ?_
          refine Go.retZ X249 hx hret hlk (Jvm.hb hby at_252) (Or.inr rfl) (by decide) (by decide) ?_
          exact ⟨rfl, N249⟩
        · -- pc 234: not (0 : Int32) < u233
          have g234 := own_ngt Y3' H5 (by rw [hu233]; exact hc234)
          refine Go.ifN X249.here hx (Jvm.hb hby at_234) ((if0 _ _).trans (flt hc234).2.2.1) (q := 237) rfl ?_
          refine Go.iconst X249.here hx (Jvm.hb hby at_237) (v := (3 : Int32)) rfl (q := 238) rfl ?_
          refine Go.istore X249.here hx (Jvm.hb hby at_238) (l2 := #[.val (.int q1), .val (.int q2), .val (.int q3), .val (.int q4), .val (.int q5), .val (.int q6), .val (.int (4 : Int32)), .val (.double u11), .second, .val (.double u18), .second, .val (.double u25), .second, .val (.double u33), .second, .val (.double u45), .second, .val (.ref a224), .val (.ref a230), .val (.int r), .val (.double u11), .second, .val (.double u173), .second, .val (.double u183), .second, .val (.int (3 : Int32))]) rfl (q := 240) rfl ?_
          refine Go.iload X249.here hx (Jvm.hb hby at_240) rfl (q := 242) rfl ?_
          refine Go.iload X249.here hx (Jvm.hb hby at_242) rfl (q := 244) rfl ?_
          have hc244 : r = (3 : Int32) := by rw [← hr, own_e4 S1 S2 S3 H5 (by omega) (by omega)]; (repeat' split) <;> first | rfl | (exfalso; omega)
          refine Go.icmpN X249.here hx (Jvm.hb hby at_244) (teq hc244).2 (q := 247) rfl ?_
          refine Go.iconst X249.here hx (Jvm.hb hby at_247) (v := (1 : Int32)) rfl (q := 248) rfl ?_
          refine Go.goto X249.here hx (Jvm.hb hby at_248) (by decide) (q := 252) rfl ?_
          refine Go.retZ X249 hx hret hlk (Jvm.hb hby at_252) (Or.inr rfl) (by decide) (by decide) ?_
          exact ⟨rfl, N249⟩
    · -- pc 200: not (0 : Int32) < u199
      have g200 := own_ngt H1 H5 (by rw [hu199]; exact hc200)
      refine Go.ifN X249.here hx (Jvm.hb hby at_200) ((if0 _ _).trans (flt hc200).2.2.1) (q := 203) rfl ?_
      refine Go.iconst X249.here hx (Jvm.hb hby at_203) (v := (1 : Int32)) rfl (q := 204) rfl ?_
      refine Go.istore X249.here hx (Jvm.hb hby at_204) (l2 := #[.val (.int q1), .val (.int q2), .val (.int q3), .val (.int q4), .val (.int q5), .val (.int q6), .val (.int (4 : Int32)), .val (.double u11), .second, .val (.double u18), .second, .val (.double u25), .second, .val (.double u33), .second, .val (.double u45), .second, .val (.ref a224), .val (.ref a230), .val (.int r), .val (.double u11), .second, .val (.double u173), .second, .val (.double u183), .second, .val (.int (1 : Int32))]) rfl (q := 206) rfl ?_
      refine Go.iload X249.here hx (Jvm.hb hby at_206) rfl (q := 208) rfl ?_
      refine Go.iconst X249.here hx (Jvm.hb hby at_208) (v := (2 : Int32)) rfl (q := 209) rfl ?_
      have hc209_268 : (2 : Int32) < (4 : Int32) := by decide
      refine Go.icmpN X249.here hx (Jvm.hb hby at_209) (tlt hc209_268).2.2.2 (q := 212) rfl ?_
      refine Go.dload X249.here hx (Jvm.hb hby at_212) rfl (q := 214) rfl ?_
      refine Go.dload X249.here hx (Jvm.hb hby at_214) rfl (q := 216) rfl ?_
      obtain ⟨u216, hu216⟩ : ∃ zq, cmpValue (FP.dcmp u173 u45) .g = zq := ⟨_, rfl⟩
      refine Go.dcmp X249.here hx (Jvm.hb hby at_216) hu216 (q := 217) rfl ?_
      by_cases hc217 : (0 : Int32) < u216
      · -- pc 217: (0 : Int32) < u216
        have g217 := (own_gt Y2' H5).mp (by rw [hu216]; exact hc217)
        refine Go.ifY X249.here hx (Jvm.hb hby at_217) ((if0 _ _).trans (tlt hc217).2.2.1) (by decide) (q := 223) rfl ?_
        refine Go.iload X249.here hx (Jvm.hb hby at_223) rfl (q := 225) rfl ?_
        refine Go.iconst X249.here hx (Jvm.hb hby at_225) (v := (3 : Int32)) rfl (q := 226) rfl ?_
        have hc226_271 : (3 : Int32) < (4 : Int32) := by decide
        refine Go.icmpN X249.here hx (Jvm.hb hby at_226) (tlt hc226_271).2.2.2 (q := 229) rfl ?_
        refine Go.dload X249.here hx (Jvm.hb hby at_229) rfl (q := 231) rfl ?_
        refine Go.dload X249.here hx (Jvm.hb hby at_231) rfl (q := 233) rfl ?_
        obtain ⟨u233, hu233⟩ : ∃ zq, cmpValue (FP.dcmp u183 u45) .g = zq := ⟨_, rfl⟩
        refine Go.dcmp X249.here hx (Jvm.hb hby at_233) hu233 (q := 234) rfl ?_
        by_cases hc234 : (0 : Int32) < u233
        · -- pc 234: (0 : Int32) < u233
          have g234 := (own_gt Y3' H5).mp (by rw [hu233]; exact hc234)
          refine Go.ifY X249.here hx (Jvm.hb hby at_234) ((if0 _ _).trans (tlt hc234).2.2.1) (by decide) (q := 240) rfl ?_
          refine Go.iload X249.here hx (Jvm.hb hby at_240) rfl (q := 242) rfl ?_
          refine Go.iload X249.here hx (Jvm.hb hby at_242) rfl (q := 244) rfl ?_
          have hc244 : r = (1 : Int32) := by rw [← hr, own_e4 S1 S2 S3 H5 (by omega) (by omega)]; (repeat' split) <;> first | rfl | (exfalso; omega)
          refine Go.icmpN X249.here hx (Jvm.hb hby at_244) (teq hc244).2 (q := 247) rfl ?_
          refine Go.iconst X249.here hx (Jvm.hb hby at_247) (v := (1 : Int32)) rfl (q := 248) rfl ?_
          refine Go.goto X249.here hx (Jvm.hb hby at_248) (by decide) (q := 252) rfl ?_
          refine Go.retZ X249 hx hret hlk (Jvm.hb hby at_252) (Or.inr rfl) (by decide) (by decide) ?_
          exact ⟨rfl, N249⟩
        · -- pc 234: not (0 : Int32) < u233
          have g234 := own_ngt Y3' H5 (by rw [hu233]; exact hc234)
          refine Go.ifN X249.here hx (Jvm.hb hby at_234) ((if0 _ _).trans (flt hc234).2.2.1) (q := 237) rfl ?_
          refine Go.iconst X249.here hx (Jvm.hb hby at_237) (v := (3 : Int32)) rfl (q := 238) rfl ?_
          refine Go.istore X249.here hx (Jvm.hb hby at_238) (l2 := #[.val (.int q1), .val (.int q2), .val (.int q3), .val (.int q4), .val (.int q5), .val (.int q6), .val (.int (4 : Int32)), .val (.double u11), .second, .val (.double u18), .second, .val (.double u25), .second, .val (.double u33), .second, .val (.double u45), .second, .val (.ref a224), .val (.ref a230), .val (.int r), .val (.double u11), .second, .val (.double u173), .second, .val (.double u183), .second, .val (.int (3 : Int32))]) rfl (q := 240) rfl ?_
          refine Go.iload X249.here hx (Jvm.hb hby at_240) rfl (q := 242) rfl ?_
          refine Go.iload X249.here hx (Jvm.hb hby at_242) rfl (q := 244) rfl ?_
          have hc244 : r = (3 : Int32) := by rw [← hr, own_e4 S1 S2 S3 H5 (by omega) (by omega)]; (repeat' split) <;> first | rfl | (exfalso; omega)
          refine Go.icmpN X249.here hx (Jvm.hb hby at_244) (teq hc244).2 (q := 247) rfl ?_
          refine Go.iconst X249.here hx (Jvm.hb hby at_247) (v := (1 : Int32)) rfl (q := 248) rfl ?_
          refine Go.goto X249.here hx (Jvm.hb hby at_248) (by decide) (q := 252) rfl ?_
          refine Go.retZ X249 hx hret hlk (Jvm.hb hby at_252) (Or.inr rfl) (by decide) (by decide) ?_
          exact ⟨rfl, N249⟩
      · -- pc 217: not (0 : Int32) < u216
        have g217 := own_ngt Y2' H5 (by rw [hu216]; exact hc217)
        refine Go.ifN X249.here hx (Jvm.hb hby at_217) ((if0 _ _).trans (flt hc217).2.2.1) (q := 220) rfl ?_
        refine Go.iconst X249.here hx (Jvm.hb hby at_220) (v := (2 : Int32)) rfl (q := 221) rfl ?_
        refine Go.istore X249.here hx (Jvm.hb hby at_221) (l2 := #[.val (.int q1), .val (.int q2), .val (.int q3), .val (.int q4), .val (.int q5), .val (.int q6), .val (.int (4 : Int32)), .val (.double u11), .second, .val (.double u18), .second, .val (.double u25), .second, .val (.double u33), .second, .val (.double u45), .second, .val (.ref a224), .val (.ref a230), .val (.int r), .val (.double u11), .second, .val (.double u173), .second, .val (.double u183), .second, .val (.int (2 : Int32))]) rfl (q := 223) rfl ?_
        refine Go.iload X249.here hx (Jvm.hb hby at_223) rfl (q := 225) rfl ?_
        refine Go.iconst X249.here hx (Jvm.hb hby at_225) (v := (3 : Int32)) rfl (q := 226) rfl ?_
        have hc226_276 : (3 : Int32) < (4 : Int32) := by decide
        refine Go.icmpN X249.here hx (Jvm.hb hby at_226) (tlt hc226_276).2.2.2 (q := 229) rfl ?_
        refine Go.dload X249.here hx (Jvm.hb hby at_229) rfl (q := 231) rfl ?_
        refine Go.dload X249.here hx (Jvm.hb hby at_231) rfl (q := 233) rfl ?_
        obtain ⟨u233, hu233⟩ : ∃ zq, cmpValue (FP.dcmp u183 u45) .g = zq := ⟨_, rfl⟩
        refine Go.dcmp X249.here hx (Jvm.hb hby at_233) hu233 (q := 234) rfl ?_
        by_cases hc234 : (0 : Int32) < u233
        · -- pc 234: (0 : Int32) < u233
          have g234 := (own_gt Y3' H5).mp (by rw [hu233]; exact hc234)
          refine Go.ifY X249.here hx (Jvm.hb hby at_234) ((if0 _ _).trans (tlt hc234).2.2.1) (by decide) (q := 240) rfl ?_
          refine Go.iload X249.here hx (Jvm.hb hby at_240) rfl (q := 242) rfl ?_
          refine Go.iload X249.here hx (Jvm.hb hby at_242) rfl (q := 244) rfl ?_
          have hc244 : r = (2 : Int32) := by rw [← hr, own_e4 S1 S2 S3 H5 (by omega) (by omega)]; (repeat' split) <;> first | rfl | (exfalso; omega)
          refine Go.icmpN X249.here hx (Jvm.hb hby at_244) (teq hc244).2 (q := 247) rfl ?_
          refine Go.iconst X249.here hx (Jvm.hb hby at_247) (v := (1 : Int32)) rfl (q := 248) rfl ?_
          refine Go.goto X249.here hx (Jvm.hb hby at_248) (by decide) (q := 252) rfl ?_
          refine Go.retZ X249 hx hret hlk (Jvm.hb hby at_252) (Or.inr rfl) (by decide) (by decide) ?_
          exact ⟨rfl, N249⟩
        · -- pc 234: not (0 : Int32) < u233
          have g234 := own_ngt Y3' H5 (by rw [hu233]; exact hc234)
          refine Go.ifN X249.here hx (Jvm.hb hby at_234) ((if0 _ _).trans (flt hc234).2.2.1) (q := 237) rfl ?_
          refine Go.iconst X249.here hx (Jvm.hb hby at_237) (v := (3 : Int32)) rfl (q := 238) rfl ?_
          refine Go.istore X249.here hx (Jvm.hb hby at_238) (l2 := #[.val (.int q1), .val (.int q2), .val (.int q3), .val (.int q4), .val (.int q5), .val (.int q6), .val (.int (4 : Int32)), .val (.double u11), .second, .val (.double u18), .second, .val (.double u25), .second, .val (.double u33), .second, .val (.double u45), .second, .val (.ref a224), .val (.ref a230), .val (.int r), .val (.double u11), .second, .val (.double u173), .second, .val (.double u183), .second, .val (.int (3 : Int32))]) rfl (q := 240) rfl ?_
          refine Go.iload X249.here hx (Jvm.hb hby at_240) rfl (q := 242) rfl ?_
          refine Go.iload X249.here hx (Jvm.hb hby at_242) rfl (q := 244) rfl ?_
          have hc244 : r = (3 : Int32) := by rw [← hr, own_e4 S1 S2 S3 H5 (by omega) (by omega)]; (repeat' split) <;> first | rfl | (exfalso; omega)
          refine Go.icmpN X249.here hx (Jvm.hb hby at_244) (teq hc244).2 (q := 247) rfl ?_
          refine Go.iconst X249.here hx (Jvm.hb hby at_247) (v := (1 : Int32)) rfl (q := 248) rfl ?_
          refine Go.goto X249.here hx (Jvm.hb hby at_248) (by decide) (q := 252) rfl ?_
          refine Go.retZ X249 hx hret hlk (Jvm.hb hby at_252) (Or.inr rfl) (by decide) (by decide) ?_
          exact ⟨rfl, N249⟩
set_option maxRecDepth 65536 in
set_option maxHeartbeats 40000000 in
theorem comes_1 {Post : Tables → Env → Array Value → State → Outcome → State → Prop} (hpost : ∀ tb e args s v u, (limb_1_1.after args s (.returned v) u = true ∧ limb_1_2.after args s (.returned v) u = true ∧ True) → FrameEnd s (.returned v) u (Jvm.fieldLocs frame_1_writes args s ++ Jvm.arrayLocs frame_1_arrays args s ++ Jvm.staticLocs frame_1_statics s) 16 128 → Post tb e args s (.returned v) u) :
    ArmFor flags0 classFile x code maxLocals ret World_1 tables_1 room_1 Calls_1 rest_1 Pre_1 Post := by
  intro l hfl _ _ p e ha hc hk s m args below hf hA hF happ hP
  obtain ⟨hcalls, hrest, hpre⟩ := hP
  obtain ⟨-, -, -, hnamed, -, -, -, hat⟩ := (Spec.applies_iff hf).mp happ
  obtain ⟨hg, hn⟩ := and_e (Cond.before_iff.mp (show (Jvm.Cond.and given_1 narrow_1).before args s = true from hpre))
  obtain ⟨g0, hg⟩ := and_e hg
  obtain ⟨w0, w1, w2, w3, w4, w5, rfl⟩ : ∃ w0 w1 w2 w3 w4 w5 : Value, args = #[w0, w1, w2, w3, w4, w5] := by
    have hs : args.size = 6 := by simpa [Cond.value, given_1] using g0
    obtain ⟨L⟩ := args
    match L, hs with
    | [w0, w1, w2, w3, w4, w5], _ => exact ⟨w0, w1, w2, w3, w4, w5, rfl⟩
  have hw := fun d (hd : d ∈ tables_1) => atoms_spec (ws := Jvm.Cond.code x code maxLocals ret :: tables_1) hat d (List.mem_cons_of_mem _ hd)
  obtain ⟨g1, hg⟩ := and_e hg
  obtain ⟨i0, e0⟩ := is_v g1
  obtain rfl : w0 = (.int i0) := Option.some.inj e0
  obtain ⟨g2, hg⟩ := and_e hg
  obtain ⟨i1, e1⟩ := is_v g2
  obtain rfl : w1 = (.int i1) := Option.some.inj e1
  obtain ⟨g3, hg⟩ := and_e hg
  obtain ⟨i2, e2⟩ := is_v g3
  obtain rfl : w2 = (.int i2) := Option.some.inj e2
  obtain ⟨g4, hg⟩ := and_e hg
  obtain ⟨i3, e3⟩ := is_v g4
  obtain rfl : w3 = (.int i3) := Option.some.inj e3
  obtain ⟨g5, hg⟩ := and_e hg
  obtain ⟨i4, e4⟩ := is_v g5
  obtain rfl : w4 = (.int i4) := Option.some.inj e4
  obtain ⟨i5, e5⟩ := is_v hg
  obtain rfl : w5 = (.int i5) := Option.some.inj e5
  obtain ⟨n, o, h1, h2, h3, _, L, rfl, ⟨rfl, N⟩, hq⟩ := rm_law l s _ hw tables_1 i0 i1 i2 i3 i4 i5  s.heap s.heap.size (Nat.le_refl _)  p e ha hc hk s m _ below hf ((Spec.applies_iff_loose hf).mp happ).1 ⟨rfl, State.Warmed39.refl s, rfl⟩ trivial
  refine ⟨n, _, h1, h2, h3, hpost _ _ _ _ _ _ ⟨Cond.after_iff.mpr rfl, Cond.after_iff.mpr (eq_i res_at (Term.int_eval (1)) rfl), trivial⟩ ⟨hq.1, hq.2.1, (hq.2.2.sift fun y hy => Or.inr (N y hy)).mono (by decide) (by decide)⟩⟩
theorem main_1_1 : Claimed_1_1 := comes_1 fun _ _ _ _ _ _ h hF => ⟨h.1, hF⟩
theorem main_1_2 : Claimed_1_2 := comes_1 fun _ _ _ _ _ _ h hF => ⟨h.2.1, hF⟩
end Jvm.Pilot.@@N@@
namespace Jvm.Pilot.@@N@@
open Jvm Jvm.ClassFile Sem Op Lib Jvm.Free Jvm.Stand Jvm.Pilot.@@N@@.Jvm.D
/-! MADE BY PROGRAM (witnessworld.py) out of the Statement's table words and the real class files: 11 classes; the members and pool entries that the words name. The judged class is class 1, her method 1. -/
namespace start1
open Jvm.ClassFile
def u (s : String) : CpInfo := .utf8 (stringToUtf16 s)
/-- a pool by its gaps: so many unusable entries, then the entry; so many at the end -/
def gap : Nat → List CpInfo → List CpInfo
  | 0, r => r
  | n + 1, r => .unusable :: gap n r
def poolList (es : List (Nat × CpInfo)) (last : Nat) : List CpInfo := es.foldr (fun e r => gap e.1 (e.2 :: r)) (gap last [])
def pool (es : List (Nat × CpInfo)) (last : Nat) : Array CpInfo := ⟨poolList es last⟩
def fileOf (pool : Array CpInfo) (this : Nat) (attrs : Array Attribute := #[]) (ms : Array MethodInfo := #[]) (fl : Nat := 33) (sup : Nat := 0) (ifs : Array Nat := #[]) (fds : Array FieldInfo := #[]) : ClassFile where
  minorVersion := 0
  majorVersion := 65
  constantPool := pool
  accessFlags := fl
  thisClass := this
  superClass := sup
  interfaces := ifs
  fields := fds
  methods := ms
  attributes := attrs
def plain (name : String) (sup : Option ClassId) : Class where
  name := name
  kind := .ordinary
  loader := none
  accessFlags := 33
  super := sup
  interfaces := #[]
  cf := none
  fields := #[]
  methods := #[]
  instanceTypes := #[]
  staticTypes := #[]
  resolved := #[]
  callSites := []
  init := .initialized
  statics := none
  mirror := none

def pool0 : Array CpInfo := pool [(5, u "<init>"), (0, u "()V"), (1, .class_ 10), (1, u "java/lang/Object"), (85, u "clone"), (0, u "()Ljava/lang/Object;")] 26

def k0c0 : Code := { maxStack := 0, maxLocals := 1, code := object_method_1_code, exceptionTable := #[], attributes := #[] }
def k0m0 : Method := { name := "<init>", desc := "()V", sig := { parameters := [], returnType := none }, accessFlags := 1, code := some k0c0 }
def k0m1 : Method := { name := "clone", desc := "()Ljava/lang/Object;", sig := { parameters := [], returnType := some (.object "java/lang/Object") }, accessFlags := 260, code := none }
/-- java/lang/Object -/
def k0 : Class := { plain "java/lang/Object" none with
  accessFlags := 33
  interfaces := #[]
  cf := some (fileOf pool0 8 #[] #[{ accessFlags := 1, nameIndex := 5, descriptorIndex := 6, attributes := #[] }, { accessFlags := 260, nameIndex := 96, descriptorIndex := 97, attributes := #[] }] 33 0 #[] #[])
  fields := #[]
  methods := #[k0m0, k0m1]
  instanceTypes := #[]
  staticTypes := #[]
  resolved := Array.replicate 124 none
  statics := none }

def pool1 : Array CpInfo := pool [(2, .class_ 4), (1, u "java/lang/Object"), (0, u "<init>"), (0, u "()V"), (0, .double 4611686018427387904), (1, .class_ 10), (0, u "com/example/palpito/palpito/Segments"), (0, .methodref 9 12), (0, .nameAndType 5 13), (0, u "([D)V"), (0, .methodref 9 15), (0, .nameAndType 16 17), (0, u "at"), (0, u "(D)I"), (0, .class_ 19), (0, u "com/example/palpito/palpito/SegmentsAtPinLaw"), (2, u "law"), (0, u "(IIIIII)Z")] 5

def k1m0 : Method := { name := "<init>", desc := "()V", sig := { parameters := [], returnType := none }, accessFlags := 1, code := none }
def k1c1 : Code := { maxStack := 5, maxLocals := 27, code := code, exceptionTable := #[], attributes := #[] }
def k1m1 : Method := { name := "law", desc := "(IIIIII)Z", sig := { parameters := [.int, .int, .int, .int, .int, .int], returnType := some .boolean }, accessFlags := 9, code := some k1c1 }
/-- com/example/palpito/palpito/SegmentsAtPinLaw -/
def k1 : Class := { plain "com/example/palpito/palpito/SegmentsAtPinLaw" (some 0) with
  accessFlags := 49
  interfaces := #[]
  cf := some (fileOf pool1 18 #[] #[{ accessFlags := 1, nameIndex := 5, descriptorIndex := 6, attributes := #[] }, { accessFlags := 9, nameIndex := 22, descriptorIndex := 23, attributes := #[] }] 49 2 #[] #[])
  fields := #[]
  methods := #[k1m0, k1m1]
  instanceTypes := #[]
  staticTypes := #[]
  resolved := Array.replicate 29 none
  statics := none }

def pool2 : Array CpInfo := pool [(1, .methodref 2 3), (0, .class_ 4), (0, .nameAndType 5 6), (0, u "java/lang/Object"), (0, u "<init>"), (0, u "()V"), (0, .methodref 8 9), (0, .class_ 10), (0, .nameAndType 11 12), (0, u "[D"), (0, u "clone"), (0, u "()Ljava/lang/Object;"), (0, .fieldref 14 15), (0, .class_ 16), (0, .nameAndType 17 10), (0, u "com/example/palpito/palpito/Segments"), (0, u "lengthsMs"), (0, .fieldref 14 19), (0, .nameAndType 20 10), (0, u "startsMs"), (8, u "at"), (0, u "(D)I"), (9, u "([D)V")] 11

def k2c0 : Code := { maxStack := 6, maxLocals := 3, code := prog_48_method_1_code, exceptionTable := #[], attributes := #[] }
def k2m0 : Method := { name := "<init>", desc := "([D)V", sig := { parameters := [(.array .double)], returnType := none }, accessFlags := 0, code := some k2c0 }
def k2c1 : Code := { maxStack := 4, maxLocals := 6, code := prog_48_method_6_code, exceptionTable := #[], attributes := #[] }
def k2m1 : Method := { name := "at", desc := "(D)I", sig := { parameters := [.double], returnType := some .int }, accessFlags := 0, code := some k2c1 }
/-- com/example/palpito/palpito/Segments -/
def k2 : Class := { plain "com/example/palpito/palpito/Segments" (some 0) with
  accessFlags := 48
  interfaces := #[]
  cf := some (fileOf pool2 14 #[] #[{ accessFlags := 0, nameIndex := 5, descriptorIndex := 40, attributes := #[] }, { accessFlags := 0, nameIndex := 29, descriptorIndex := 30, attributes := #[] }] 48 2 #[] #[{ accessFlags := 18, nameIndex := 17, descriptorIndex := 10, attributes := #[] }, { accessFlags := 18, nameIndex := 20, descriptorIndex := 10, attributes := #[] }])
  fields := #[{ name := "lengthsMs", type := (.array .double), accessFlags := 18, slot := 0, constantValue := 0 }, { name := "startsMs", type := (.array .double), accessFlags := 18, slot := 1, constantValue := 0 }]
  methods := #[k2m0, k2m1]
  instanceTypes := #[(.array .double), (.array .double)]
  staticTypes := #[]
  resolved := Array.replicate 52 none
  statics := none }

def pool3 : Array CpInfo := pool [(1, .class_ 2), (0, u "java/lang/Cloneable"), (0, .class_ 4), (0, u "java/lang/Object")] 2

/-- java/lang/Cloneable -/
def k3 : Class := { plain "java/lang/Cloneable" (some 0) with
  accessFlags := 1537
  interfaces := #[]
  cf := some (fileOf pool3 1 #[] #[] 1537 3 #[] #[])
  fields := #[]
  methods := #[]
  instanceTypes := #[]
  staticTypes := #[]
  resolved := Array.replicate 7 none
  statics := none }

def pool4 : Array CpInfo := pool [(1, u "java/io/Serializable"), (0, .class_ 1), (0, u "java/lang/Object"), (0, .class_ 3)] 3

/-- java/io/Serializable -/
def k4 : Class := { plain "java/io/Serializable" (some 0) with
  accessFlags := 1537
  interfaces := #[]
  cf := some (fileOf pool4 2 #[] #[] 1537 4 #[] #[])
  fields := #[]
  methods := #[]
  instanceTypes := #[]
  staticTypes := #[]
  resolved := Array.replicate 8 none
  statics := none }

/-- the primitive byte -/
def k5 : Class := { plain "byte" none with kind := .primitive 'B', accessFlags := 0x411 }
/-- [B -/
def k6 : Class := { plain "[B" (some 0) with kind := .array 5 .byte, interfaces := #[3, 4], accessFlags := 1041 }

/-- the primitive double -/
def k7 : Class := { plain "double" none with kind := .primitive 'D', accessFlags := 0x411 }
/-- [D -/
def k8 : Class := { plain "[D" (some 0) with kind := .array 7 .double, interfaces := #[3, 4], accessFlags := 1041 }

/-- the primitive int -/
def k9 : Class := { plain "int" none with kind := .primitive 'I', accessFlags := 0x411 }
/-- [I -/
def k10 : Class := { plain "[I" (some 0) with kind := .array 9 .int, interfaces := #[3, 4], accessFlags := 1041 }

def heap : Heap := #[]
def classes : Array Class := #[k0, k1, k2, k3, k4, k5, k6, k7, k8, k9, k10]
def interned : List (Array UInt16 × Addr) := []
def slotsUsed : Nat := 0
def theMethod : MethodId := ⟨1, 1⟩
def args0 : Array Value := #[.int 2, .int 7, .int 77, .int 777, .int 5, .int 33]
def aboutOver (below : List Frame) : State where
  vm := { classes := classes, interned := interned.toArray }
  heap := heap
  slotsUsed := slotsUsed
  threads := #[{ frames := .invoking theMethod args0 :: below }]
def below0 : List Frame := [.native { method := ⟨0, 0⟩, args := #[] }]
def about1 : State := aboutOver below0
def p0 : Program := .bare "" "" ""
def e0 : Env := launch0.env 0 0 0
theorem w_frames : about1.frames = Frame.invoking theMethod args0 :: below0 := rfl
set_option maxRecDepth 65536 in
theorem w_args : argsFit about1.vm theMethod args0 = true := by decide +kernel
set_option maxRecDepth 65536 in
theorem w_heap : heapFits about1 = true := by decide +kernel
set_option maxRecDepth 65536 in
theorem w_runnable : about1.curStatus? = some .runnable := by decide +kernel
set_option maxRecDepth 65536 in
theorem w_alone : about1.alone = true := by decide +kernel
set_option maxRecDepth 65536 in
theorem w_named : about1.methodNamed? x = some theMethod := by decide +kernel
set_option maxRecDepth 65536 in
theorem w_hears : about1.hears theMethod below0 = true := by decide +kernel
set_option maxRecDepth 65536 in
theorem w_ripe : about1.ripe theMethod args0 below0 = true := by decide +kernel
theorem w_running : about1.status = .running := rfl
set_option maxRecDepth 65536 in
theorem w_room : about1.hasRoom e0.platform room_1 = true :=
  launch0.hasRoom_least _ room_1 (by decide +kernel) (by decide +kernel) (by decide +kernel) (by decide +kernel) (by decide +kernel) (by decide +kernel)
theorem allAtoms_all (ts : List Jvm.Cond) (a : Array Jvm.Value) (st : Jvm.State) : (allAtoms ts).before a st = ts.all (fun c => c.before a st) := by
  induction ts with
  | nil => rfl
  | cons c t ih =>
    show (Jvm.Cond.and c (allAtoms t)).before a st = _
    rw [Jvm.Cond.before_and, ih, List.all_cons]
def words1 : List Jvm.Cond := Jvm.Cond.code x code maxLocals ret :: tables_1
/-- a 'code' word, met by the world's own term for the bytes: nothing is compared byte by byte -/
theorem code_word {y : MethodName} {bytes : ByteArray} {mx : Nat} {rt : Option FieldType} {a : Array Value} {s : State} {m : MethodId} {meth : Method} {c : Code} (h1 : s.methodNamed? y = some m) (h2 : s.vm.method? m = some meth) (h3 : meth.code = some c) (h4 : c.code = bytes)
    (h5 : (c.maxLocals == mx && c.exceptionTable.isEmpty && decide (c.maxStack ≤ mostOperands) && decide (meth.sig.returnType = rt) && !meth.locks && decide (parseMethodDescriptor y.desc = some meth.sig)) = true) : (Jvm.Cond.code y bytes mx rt).before a s = true := by
  simp only [Bool.and_eq_true, beq_iff_eq, Bool.not_eq_true', decide_eq_true_eq] at h5
  obtain ⟨⟨⟨⟨⟨g1, g2⟩, g3⟩, g4⟩, g5⟩, g6⟩ := h5
  simp [Cond.before, Cond.holds, Cond.value, h1, h2, h3, h4, g1, g2, g3, g4, g5, g6]
def isCode : Jvm.Cond → Bool
  | .code _ _ _ _ => true
  | _ => false
theorem all_split {L : List Jvm.Cond} {P : Jvm.Cond → Bool} (h1 : L.all (fun c => isCode c || P c) = true) (h2 : ∀ c ∈ L.filter isCode, P c = true) : L.all P = true := by
  refine List.all_eq_true.mpr fun c hc => ?_
  have h := List.all_eq_true.mp h1 c hc
  rcases Bool.eq_false_or_eq_true (isCode c) with hi | hi
  · exact h2 c (List.mem_filter.mpr ⟨hc, hi⟩)
  · simpa [hi] using h
set_option maxRecDepth 65536 in
theorem w_c0 : (Jvm.Cond.code x code maxLocals ret).before args0 about1 = true := code_word (m := ⟨1, 1⟩) (meth := k1m1) (c := k1c1) (by decide +kernel) rfl rfl rfl (by decide +kernel)
set_option maxRecDepth 65536 in
theorem w_c1 : (Jvm.Cond.code ({ cls := "com/example/palpito/palpito/Segments", name := "<init>", desc := "([D)V" } : Jvm.MethodName) prog_48_method_1_code (3 : Nat) (Option.none : Option Jvm.ClassFile.FieldType)).before args0 about1 = true := code_word (m := ⟨2, 0⟩) (meth := k2m0) (c := k2c0) (by decide +kernel) rfl rfl rfl (by decide +kernel)
set_option maxRecDepth 65536 in
theorem w_c2 : (Jvm.Cond.code ({ cls := "java/lang/Object", name := "<init>", desc := "()V" } : Jvm.MethodName) object_method_1_code (1 : Nat) (Option.none : Option Jvm.ClassFile.FieldType)).before args0 about1 = true := code_word (m := ⟨0, 0⟩) (meth := k0m0) (c := k0c0) (by decide +kernel) rfl rfl rfl (by decide +kernel)
set_option maxRecDepth 65536 in
theorem w_c3 : (Jvm.Cond.code ({ cls := "com/example/palpito/palpito/Segments", name := "at", desc := "(D)I" } : Jvm.MethodName) prog_48_method_6_code (6 : Nat) (Option.some Jvm.ClassFile.FieldType.int)).before args0 about1 = true := code_word (m := ⟨2, 1⟩) (meth := k2m1) (c := k2c1) (by decide +kernel) rfl rfl rfl (by decide +kernel)
def codes1 : List Jvm.Cond := [Jvm.Cond.code x code maxLocals ret, Jvm.Cond.code ({ cls := "com/example/palpito/palpito/Segments", name := "<init>", desc := "([D)V" } : Jvm.MethodName) prog_48_method_1_code (3 : Nat) (Option.none : Option Jvm.ClassFile.FieldType), Jvm.Cond.code ({ cls := "java/lang/Object", name := "<init>", desc := "()V" } : Jvm.MethodName) object_method_1_code (1 : Nat) (Option.none : Option Jvm.ClassFile.FieldType), Jvm.Cond.code ({ cls := "com/example/palpito/palpito/Segments", name := "at", desc := "(D)I" } : Jvm.MethodName) prog_48_method_6_code (6 : Nat) (Option.some Jvm.ClassFile.FieldType.int)]
set_option maxRecDepth 65536 in
theorem codes_eq : words1.filter isCode = codes1 := rfl
theorem w_codes : ∀ c ∈ words1.filter isCode, c.before args0 about1 = true := by
  rw [codes_eq]
  intro c hc
  simp only [codes1, List.mem_cons, List.not_mem_nil, or_false] at hc
  rcases hc with rfl | rfl | rfl | rfl
  · exact w_c0
  · exact w_c1
  · exact w_c2
  · exact w_c3
set_option maxRecDepth 65536 in
theorem w_t1 : (words1.take 24).all (fun c => isCode c || c.before args0 about1) = true := by decide +kernel
set_option maxRecDepth 65536 in
theorem w_t2 : (words1.drop 24).all (fun c => isCode c || c.before args0 about1) = true := by decide +kernel
theorem w_tables : (allAtoms (Jvm.Cond.code x code maxLocals ret :: tables_1)).before args0 about1 = true := by
  rw [allAtoms_all]
  show words1.all (fun c => c.before args0 about1) = true
  refine all_split ?_ w_codes
  rw [← List.take_append_drop 24 words1, List.all_append, w_t1, w_t2]
  rfl
set_option maxRecDepth 65536 in
theorem w_case : (Jvm.Cond.and given_1 narrow_1).before args0 about1 = true := by decide +kernel
theorem w_applies : (headSpec (Jvm.Cond.code x code maxLocals ret :: tables_1) room_1).applies x e0.platform about1 = true :=
  (Spec.applies_iff w_frames).mpr ⟨w_running, w_runnable, w_alone, w_named, w_hears, w_ripe, w_room, w_tables⟩
theorem atStart : AtStart classFile x code maxLocals ret World_1 tables_1 room_1 Calls_1 rest_1 Pre_1 launch0 p0 e0 about1 theMethod args0 below0 :=
  ⟨lists_1, trivial, launch0.admits_env _ _ _, launch0.least_env, fairChoices_fair.cas, fairChoices_fair.clock, w_frames, w_args, w_heap, w_applies, trivial, trivial, w_case⟩
end start1
theorem witness_1 : WitnessClaimed_1 := ⟨start1.p0, start1.e0, start1.about1, start1.theMethod, start1.args0, start1.below0, start1.atStart⟩
end Jvm.Pilot.@@N@@
