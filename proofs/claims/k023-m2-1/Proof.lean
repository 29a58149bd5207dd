import JvmDerived
import JvmDerived.Pilot.@@N@@Statement
import JvmDerived.Pilot.@@N@@Code
set_option linter.unusedVariables false
set_option linter.unusedSimpArgs false
namespace Jvm.Pilot.@@N@@
open Jvm Jvm.ClassFile Sem Op Lib Jvm.Free Jvm.Stand Jvm.LawKit Jvm.RoadKit Bundle Jvm.Pilot.@@N@@.Jvm.D
/-! own layer 1: doubles as whole numbers of least units (2 to the -1074) -/
section OwnFp
open Jvm.FP Jvm.FP.Core Jvm.Free.Fl
/-- a power of two -/
def P2 (j : Nat) : Int := ((2 ^ j : Nat) : Int)
theorem P2_pos (j : Nat) : 0 < P2 j := Int.natCast_pos.mpr (Nat.two_pow_pos j)
theorem P2_add (i j : Nat) : P2 (i + j) = P2 i * P2 j := by unfold P2; rw [Nat.pow_add, Int.natCast_mul]
theorem P2_one64 : (one64 : Int) = P2 1074 := rfl
/-- the value of a double in least units -/
def Zv (a : UInt64) : Int := zval b64 (val64 a)
/-- some finite double has this value -/
def Rep (V : Int) : Prop := ∃ x : UInt64, DFin x ∧ Zv x = V
theorem own_qmax : b64.qmax = 971 := by decide
theorem own_signed_abs (c : Int) : signed (decide (c < 0)) c.natAbs = c := by
  unfold signed
  by_cases q : c < 0
  · simp [q]; omega
  · simp [q]; omega
theorem rep_core (s : Bool) {c j : Nat} (hc : c < 2 ^ 53) (hj : j ≤ 2045) : ∃ x : UInt64, DFin x ∧ Zv x = signed s (c * 2 ^ j) := by
  obtain ⟨c', q', h1, h2⟩ := round_exact (f := b64) good_b64 s (c := c) (q := (j : Int) - 1074) hc (by rw [qmin_b64]; omega) (by rw [own_qmax]; omega)
  refine ⟨of64 (round b64 (.fin s c ((j : Int) - 1074))), ⟨s, c', q', ?_⟩, ?_⟩
  · rw [val64_of64 (round_fits good_b64 _), h1]
  · unfold Zv
    rw [val64_of64 (round_fits good_b64 _), h1]
    show signed s (inUnits c' q' b64.qmin) = _
    rw [h2]
    unfold inUnits
    rw [show ((j : Int) - 1074 - b64.qmin).toNat = j by rw [qmin_b64]; omega]
theorem rep_mk (c : Int) (j : Nat) (hc : c.natAbs ≤ 2 ^ 53) (hj : j ≤ 2044) : Rep (c * P2 j) := by
  by_cases h : c.natAbs < 2 ^ 53
  · obtain ⟨x, h1, h2⟩ := rep_core (decide (c < 0)) h (j := j) (by omega)
    refine ⟨x, h1, h2.trans ?_⟩
    rw [signed_mul, own_signed_abs]; rfl
  · have h' : c.natAbs = 2 ^ 53 := by omega
    obtain ⟨x, h1, h2⟩ := rep_core (decide (c < 0)) (c := 2 ^ 52) (by decide) (j := j + 1) (by omega)
    refine ⟨x, h1, h2.trans ?_⟩
    have e : 2 ^ 52 * 2 ^ (j + 1) = c.natAbs * 2 ^ j := by
      rw [h', Nat.pow_add 2 j 1]
      generalize 2 ^ j = t
      omega
    rw [e, signed_mul, own_signed_abs]; rfl
theorem rep_of {V : Int} (c : Int) (j : Nat) (hc : c.natAbs ≤ 2 ^ 53) (hj : j ≤ 2044) (h : V = c * P2 j) : Rep V := h ▸ rep_mk c j hc hj
theorem rep_int (n : Int) (h : n.natAbs ≤ 2 ^ 53) : Rep (n * P2 1074) := rep_mk n 1074 h (by decide)
theorem rep_zero : Rep 0 := rep_of 0 0 (by decide) (by decide) (by simp)
theorem rep_self {x : UInt64} (h : DFin x) : Rep (Zv x) := ⟨x, h, rfl⟩
theorem rep_neg {V : Int} (h : Rep V) : Rep (-V) := by
  obtain ⟨x, hx, rfl⟩ := h
  obtain ⟨s, c, q, hv⟩ := hx
  refine ⟨Core.dneg x, ⟨!s, c, q, ?_⟩, ?_⟩
  · rw [Core.val64_dneg, hv]; rfl
  · unfold Zv; rw [Core.val64_dneg, zval_negate]
/-- between two finite values: finite -/
theorem fin_between {x : UInt64} (hn : val64 x ≠ .nan) {L H : Int} (hL : Rep L) (hH : Rep H) (h1 : L ≤ Zv x) (h2 : Zv x ≤ H) : DFin x := by
  cases hv : val64 x with
  | nan => exact absurd hv hn
  | fin s c q => exact ⟨s, c, q, hv⟩
  | inf s =>
    exfalso
    obtain ⟨y, hy, rfl⟩ := hL
    obtain ⟨z, hz, rfl⟩ := hH
    have a1 := hy.zval_lt
    have a2 := hz.zval_lt
    have e : Zv x = signed s (b64.tails * 2 ^ (b64.exps - 2)) := by unfold Zv; rw [hv]; rfl
    have b1 : signed (sgn (val64 y)) (zmag b64 (val64 y)) ≤ signed s (b64.tails * 2 ^ (b64.exps - 2)) := e ▸ h1
    have b2 : signed s (b64.tails * 2 ^ (b64.exps - 2)) ≤ signed (sgn (val64 z)) (zmag b64 (val64 z)) := e ▸ h2
    generalize b64.tails * 2 ^ (b64.exps - 2) = top at *
    generalize zmag b64 (val64 y) = my at *
    generalize zmag b64 (val64 z) = mz at *
    generalize sgn (val64 y) = sy at *
    generalize sgn (val64 z) = sz at *
    cases s <;> cases sy <;> cases sz <;> simp only [signed, if_true, Bool.false_eq_true, if_false] at b1 b2 <;> omega
theorem not_nan {x : UInt64} (h : Core.dIsNaN x = false) : val64 x ≠ .nan := (notNaN_iff x).mp h
theorem nn_of {x : UInt64} (h : DFin x) : NoNaN64 x := (fin64_core.mpr h).noNaN
/-! sums -/
theorem add_le {a b : UInt64} (ha : DFin a) (hb : DFin b) {V : Int} (hV : Rep V) (h : Zv a + Zv b ≤ V) : Zv (FP.dadd a b) ≤ V := by
  obtain ⟨x, hx, rfl⟩ := hV
  unfold Zv at h ⊢
  rw [val64_dadd]
  exact sum_le good_b64 ha hb (val64_fits a) (val64_fits b) (val64_fits x) hx.ne_nan h
theorem add_ge {a b : UInt64} (ha : DFin a) (hb : DFin b) {V : Int} (hV : Rep V) (h : V ≤ Zv a + Zv b) : V ≤ Zv (FP.dadd a b) := by
  obtain ⟨x, hx, rfl⟩ := hV
  unfold Zv at h ⊢
  rw [val64_dadd]
  exact sum_ge good_b64 ha hb (val64_fits a) (val64_fits b) (val64_fits x) hx.ne_nan h
theorem add_in {a b : UInt64} (ha : DFin a) (hb : DFin b) {L H : Int} (hL : Rep L) (hH : Rep H) (h1 : L ≤ Zv a + Zv b) (h2 : Zv a + Zv b ≤ H) : DFin (FP.dadd a b) ∧ L ≤ Zv (FP.dadd a b) ∧ Zv (FP.dadd a b) ≤ H :=
  ⟨fin_between (not_nan (Core.dadd_out ha.notNaN hb)) hL hH (add_ge ha hb hL h1) (add_le ha hb hH h2), add_ge ha hb hL h1, add_le ha hb hH h2⟩
theorem add_eq {a b : UInt64} (ha : DFin a) (hb : DFin b) {V : Int} (hV : Rep V) (h : Zv a + Zv b = V) : DFin (FP.dadd a b) ∧ Zv (FP.dadd a b) = V := by
  obtain ⟨h1, h2, h3⟩ := add_in ha hb hV hV (Int.le_of_eq h.symm) (Int.le_of_eq h)
  exact ⟨h1, Int.le_antisymm h3 h2⟩
/-! signs -/
theorem neg_eq {a : UInt64} (ha : DFin a) : DFin (FP.dneg a) ∧ Zv (FP.dneg a) = -Zv a := by
  obtain ⟨s, c, q, hv⟩ := ha
  constructor
  · exact ⟨!s, c, q, by rw [FP.val64_dneg, hv]; rfl⟩
  · unfold Zv; rw [FP.val64_dneg, zval_negate]
theorem cneg_eq {a : UInt64} (ha : DFin a) : DFin (Core.dneg a) ∧ Zv (Core.dneg a) = -Zv a := by
  obtain ⟨s, c, q, hv⟩ := ha
  constructor
  · exact ⟨!s, c, q, by rw [Core.val64_dneg, hv]; rfl⟩
  · unfold Zv; rw [Core.val64_dneg, zval_negate]
/-! differences -/
theorem sub_in {a b : UInt64} (ha : DFin a) (hb : DFin b) {L H : Int} (hL : Rep L) (hH : Rep H) (h1 : L ≤ Zv a - Zv b) (h2 : Zv a - Zv b ≤ H) : DFin (FP.dsub a b) ∧ L ≤ Zv (FP.dsub a b) ∧ Zv (FP.dsub a b) ≤ H := by
  obtain ⟨n1, n2⟩ := cneg_eq hb
  have e : FP.dsub a b = FP.dadd a (Core.dneg b) := Core.dsub_eq a b
  rw [e]
  exact add_in ha n1 hL hH (by rw [n2]; omega) (by rw [n2]; omega)
theorem sub_eq {a b : UInt64} (ha : DFin a) (hb : DFin b) {V : Int} (hV : Rep V) (h : Zv a - Zv b = V) : DFin (FP.dsub a b) ∧ Zv (FP.dsub a b) = V := by
  obtain ⟨h1, h2, h3⟩ := sub_in ha hb hV hV (Int.le_of_eq h.symm) (Int.le_of_eq h)
  exact ⟨h1, Int.le_antisymm h3 h2⟩
/-! products -/
theorem own_q2 : (b64.qmin - 2 * b64.qmin).toNat = 1074 := by rw [qmin_b64]; decide
theorem mul_le {a b : UInt64} (ha : DFin a) (hb : DFin b) {V : Int} (hV : Rep V) (h : Zv a * Zv b ≤ V * P2 1074) : Zv (FP.dmul a b) ≤ V := by
  obtain ⟨x, hx, rfl⟩ := hV
  obtain ⟨s, c, q, hva⟩ := ha
  obtain ⟨t, d, r, hvb⟩ := hb
  have fa := val64_fits a
  have fb := val64_fits b
  unfold Zv at h ⊢
  rw [hva] at fa h
  rw [hvb] at fb h
  obtain ⟨p1, p2, p3⟩ := product_units fa fb
  rw [val64_dmul, hva, hvb, p1]
  refine zval_round_le good_b64 (val64_fits x) hx.ne_nan (e0 := 2 * b64.qmin) (by rw [qmin_b64]; decide) p2 ?_
  rw [p3, signed_xor, own_q2]
  exact h
theorem mul_ge {a b : UInt64} (ha : DFin a) (hb : DFin b) {V : Int} (hV : Rep V) (h : V * P2 1074 ≤ Zv a * Zv b) : V ≤ Zv (FP.dmul a b) := by
  obtain ⟨x, hx, rfl⟩ := hV
  obtain ⟨s, c, q, hva⟩ := ha
  obtain ⟨t, d, r, hvb⟩ := hb
  have fa := val64_fits a
  have fb := val64_fits b
  unfold Zv at h ⊢
  rw [hva] at fa h
  rw [hvb] at fb h
  obtain ⟨p1, p2, p3⟩ := product_units fa fb
  rw [val64_dmul, hva, hvb, p1]
  refine zval_round_ge good_b64 (val64_fits x) hx.ne_nan (e0 := 2 * b64.qmin) (by rw [qmin_b64]; decide) p2 ?_
  rw [p3, signed_xor, own_q2]
  exact h
theorem mul_in {a b : UInt64} (ha : DFin a) (hb : DFin b) {L H : Int} (hL : Rep L) (hH : Rep H) (h1 : L * P2 1074 ≤ Zv a * Zv b) (h2 : Zv a * Zv b ≤ H * P2 1074) : DFin (FP.dmul a b) ∧ L ≤ Zv (FP.dmul a b) ∧ Zv (FP.dmul a b) ≤ H :=
  ⟨fin_between (not_nan (Core.dmul_out ha hb)) hL hH (mul_ge ha hb hL h1) (mul_le ha hb hH h2), mul_ge ha hb hL h1, mul_le ha hb hH h2⟩
theorem mul_eq {a b : UInt64} (ha : DFin a) (hb : DFin b) {V : Int} (hV : Rep V) (h : Zv a * Zv b = V * P2 1074) : DFin (FP.dmul a b) ∧ Zv (FP.dmul a b) = V := by
  obtain ⟨h1, h2, h3⟩ := mul_in ha hb hV hV (Int.le_of_eq h.symm) (Int.le_of_eq h)
  exact ⟨h1, Int.le_antisymm h3 h2⟩
/-! quotients by a positive number -/
theorem own_sgn_le {s t : Bool} {A V B r : Nat} (hB : 0 < B) (hle : A ≤ V * B → r ≤ V) (hge : V * B ≤ A → V ≤ r) (h : signed s A ≤ signed t V * (B : Int)) : signed s r ≤ signed t V := by
  rw [← signed_mul] at h
  have hz : V * B = 0 → V = 0 := fun q => by rcases Nat.mul_eq_zero.mp q with q | q <;> omega
  generalize V * B = vb at *
  cases s <;> cases t <;> simp only [signed, if_true, Bool.false_eq_true, if_false] at h ⊢
  · have := hle (by omega); omega
  · have := hle (by omega); have := hz (by omega); omega
  · omega
  · have := hge (by omega); omega
theorem own_sgn_ge {s t : Bool} {A V B r : Nat} (hB : 0 < B) (hle : A ≤ V * B → r ≤ V) (hge : V * B ≤ A → V ≤ r) (h : signed t V * (B : Int) ≤ signed s A) : signed t V ≤ signed s r := by
  rw [← signed_mul] at h
  have hz : V * B = 0 → V = 0 := fun q => by rcases Nat.mul_eq_zero.mp q with q | q <;> omega
  generalize V * B = vb at *
  cases s <;> cases t <;> simp only [signed, if_true, Bool.false_eq_true, if_false] at h ⊢
  · have := hge (by omega); omega
  · omega
  · have := hle (by omega); have := hz (by omega); omega
  · have := hle (by omega); omega
theorem div_core {a b : UInt64} (ha : DFin a) (hb : DFin b) (hp : 0 < Zv b) (x : UInt64) (hx : DFin x) :
    ∃ (s : Bool) (A B : Nat), (B : Int) = Zv b ∧ signed s A = Zv a * P2 1074 ∧ 0 < B ∧ ∃ r, Zv (FP.ddiv a b) = signed s r ∧ (A ≤ zmag b64 (val64 x) * B → r ≤ zmag b64 (val64 x)) ∧ (zmag b64 (val64 x) * B ≤ A → zmag b64 (val64 x) ≤ r) := by
  obtain ⟨s, c, q, hva⟩ := ha
  obtain ⟨t, d, r, hvb⟩ := hb
  have fa := val64_fits a
  have fb := val64_fits b
  rw [hva] at fa
  rw [hvb] at fb
  have f1 := fa.2.1
  have f2 := fb.2.1
  have zb : Zv b = signed t (inUnits d r b64.qmin) := by unfold Zv; rw [hvb]; rfl
  have hd : 0 < d := by
    rcases Nat.eq_zero_or_pos d with q0 | q0
    · rw [zb, q0] at hp
      have : inUnits 0 r b64.qmin = 0 := Nat.zero_mul _
      rw [this, signed_zero] at hp; omega
    · exact q0
  have ht : t = false := by
    cases t with
    | false => rfl
    | true => rw [zb] at hp; simp only [signed, if_true] at hp; omega
  subst ht
  have hB : 0 < inUnits d r b64.qmin := Nat.mul_pos hd (Nat.two_pow_pos _)
  have e1 : inUnits c (q - r) (2 * b64.qmin - r) = inUnits c q b64.qmin * 2 ^ 1074 := by
    unfold inUnits
    rw [Nat.mul_assoc, ← Nat.pow_add]
    rw [qmin_b64] at *
    congr 2; omega
  have e2 : 2 ^ (b64.qmin - (2 * b64.qmin - r)).toNat * d = inUnits d r b64.qmin := by
    unfold inUnits
    rw [Nat.mul_comm]; congr 2; omega
  have hv : val64 (FP.ddiv a b) = roundRatio b64 s c d (q - r) := by
    rw [val64_ddiv, hva, hvb]
    show (if d = 0 then _ else roundRatio b64 (s != false) c d (q - r)) = _
    rw [if_neg (by omega)]
    cases s <;> rfl
  refine ⟨s, inUnits c q b64.qmin * 2 ^ 1074, inUnits d r b64.qmin, ?_, ?_, hB, zmag b64 (roundRatio b64 s c d (q - r)), ?_, ?_, ?_⟩
  · rw [zb]; simp only [signed, Bool.false_eq_true, if_false]
  · unfold Zv; rw [signed_mul, hva]; rfl
  · unfold Zv; rw [hv]; show signed (sgn _) _ = _; rw [sgn_roundRatio]
  · intro h
    refine zmag_roundRatio_le good_b64 hd (val64_fits x) hx.ne_nan (e0 := 2 * b64.qmin - r) (by have := qmin_b64; omega) (by have := qmin_b64; omega) ?_
    rw [e1, Nat.mul_assoc, e2]; exact h
  · intro h
    refine zmag_roundRatio_ge good_b64 hd (val64_fits x) (e0 := 2 * b64.qmin - r) (by have := qmin_b64; omega) (by have := qmin_b64; omega) ?_
    rw [e1, Nat.mul_assoc, e2]; exact h
theorem div_le {a b : UInt64} (ha : DFin a) (hb : DFin b) (hp : 0 < Zv b) {V : Int} (hV : Rep V) (h : Zv a * P2 1074 ≤ V * Zv b) : Zv (FP.ddiv a b) ≤ V := by
  obtain ⟨x, hx, rfl⟩ := hV
  obtain ⟨s, A, B, h1, h2, h3, r, h4, h5, h6⟩ := div_core ha hb hp x hx
  rw [h4]
  rw [← h2, ← h1] at h
  exact own_sgn_le h3 h5 h6 h
theorem div_ge {a b : UInt64} (ha : DFin a) (hb : DFin b) (hp : 0 < Zv b) {V : Int} (hV : Rep V) (h : V * Zv b ≤ Zv a * P2 1074) : V ≤ Zv (FP.ddiv a b) := by
  obtain ⟨x, hx, rfl⟩ := hV
  obtain ⟨s, A, B, h1, h2, h3, r, h4, h5, h6⟩ := div_core ha hb hp x hx
  rw [h4]
  rw [← h2, ← h1] at h
  exact own_sgn_ge h3 h5 h6 h
theorem pos_nz {b : UInt64} (hp : 0 < Zv b) : ¬ DZero b := fun q => by
  have := q.zval
  unfold Zv at hp
  omega
theorem div_in {a b : UInt64} (ha : DFin a) (hb : DFin b) (hp : 0 < Zv b) {L H : Int} (hL : Rep L) (hH : Rep H) (h1 : L * Zv b ≤ Zv a * P2 1074) (h2 : Zv a * P2 1074 ≤ H * Zv b) : DFin (FP.ddiv a b) ∧ L ≤ Zv (FP.ddiv a b) ∧ Zv (FP.ddiv a b) ≤ H :=
  ⟨fin_between (not_nan (Core.ddiv_out ha.notNaN hb (pos_nz hp))) hL hH (div_ge ha hb hp hL h1) (div_le ha hb hp hH h2), div_ge ha hb hp hL h1, div_le ha hb hp hH h2⟩
theorem div_eq {a b : UInt64} (ha : DFin a) (hb : DFin b) (hp : 0 < Zv b) {V : Int} (hV : Rep V) (h : Zv a * P2 1074 = V * Zv b) : DFin (FP.ddiv a b) ∧ Zv (FP.ddiv a b) = V := by
  obtain ⟨h1, h2, h3⟩ := div_in ha hb hp hV hV (Int.le_of_eq h.symm) (Int.le_of_eq h)
  exact ⟨h1, Int.le_antisymm h3 h2⟩
/-! whole numbers -/
theorem l2d_in {n : Int64} {L H : Int} (hL : Rep L) (hH : Rep H) (h1 : L ≤ n.toInt * P2 1074) (h2 : n.toInt * P2 1074 ≤ H) : L ≤ Zv (FP.l2d n) ∧ Zv (FP.l2d n) ≤ H := by
  obtain ⟨x, hx, rfl⟩ := hL
  obtain ⟨y, hy, rfl⟩ := hH
  exact ⟨l2d_zval_ge hx.ne_nan h1, l2d_zval_le hy.ne_nan h2⟩
theorem l2d_dfin (n : Int64) : DFin (FP.l2d n) := Core.l2d_fin n
theorem i2d_dfin (n : Int32) : DFin (FP.i2d n) := Core.i2d_fin n
theorem l2d_rep {n : Int64} (h : Rep (n.toInt * P2 1074)) : Zv (FP.l2d n) = n.toInt * P2 1074 := by
  obtain ⟨h1, h2⟩ := l2d_in h h (Int.le_refl _) (Int.le_refl _)
  exact Int.le_antisymm h2 h1
theorem l2d_eq {n : Int64} (h : n.toInt.natAbs ≤ 2 ^ 53) : Zv (FP.l2d n) = n.toInt * P2 1074 := l2d_rep (rep_int _ h)
theorem i2d_eq (n : Int32) : Zv (FP.i2d n) = n.toInt * P2 1074 := by
  rw [i2d_w, l2d_eq (by rw [Int32.toInt_toInt64]; have := int32_abs n; omega), Int32.toInt_toInt64]
theorem d2l_eq {a : UInt64} (ha : DFin a) {n : Int} (h : Zv a = n * P2 1074) (h1 : -9223372036854775808 ≤ n) (h2 : n < 9223372036854775808) : (FP.d2l a).toInt = n := by
  have e := d2l_val ha.ne_nan
  have z : signed (sgn (val64 a)) (zmag b64 (val64 a)) = n * (one64 : Int) := h
  have hp := one64_pos
  have hm : zmag b64 (val64 a) = n.natAbs * one64 := by
    have q := congrArg Int.natAbs z
    rw [natAbs_signed, Int.natAbs_mul] at q
    exact q
  have hs : signed (sgn (val64 a)) n.natAbs = n := by
    rw [hm, signed_mul] at z
    exact Int.eq_of_mul_eq_mul_right (by omega) z
  rw [hm, Nat.mul_div_cancel _ hp, hs] at e
  show (Core.d2l a).toInt = n
  rw [e]; omega
/-! comparisons -/
theorem cmp_lt {a b : UInt64} (ha : DFin a) (hb : DFin b) (o : CmpOp) (h : Zv a < Zv b) : cmpValue (FP.dcmp a b) o = -1 := by
  rw [show FP.dcmp a b = some .lt from dcmp_lt.mpr ⟨ha.ne_nan, hb.ne_nan, h⟩]; rfl
theorem cmp_eq {a b : UInt64} (ha : DFin a) (hb : DFin b) (o : CmpOp) (h : Zv a = Zv b) : cmpValue (FP.dcmp a b) o = 0 := by
  rw [show FP.dcmp a b = some .eq from dcmp_eq.mpr ⟨ha.ne_nan, hb.ne_nan, h⟩]; rfl
theorem cmp_gt {a b : UInt64} (ha : DFin a) (hb : DFin b) (o : CmpOp) (h : Zv b < Zv a) : cmpValue (FP.dcmp a b) o = 1 := by
  rw [show FP.dcmp a b = some .gt from dcmp_gt.mpr ⟨ha.ne_nan, hb.ne_nan, h⟩]; rfl
/-! constants -/
theorem zero_fin : DFin 0 := (fin_bits _).mpr (by decide)
theorem zero_z : Zv 0 = 0 := zval64_zero
theorem one_fin : DFin 4607182418800017408 := (fin_bits _).mpr (by decide)
theorem one_z : Zv 4607182418800017408 = 1 * P2 1074 := by unfold Zv P2; decide +kernel
end OwnFp

/-! own layer 2: walking forward -/
section OwnGo
open Jvm.Free.Fl
variable {p : Program} {l : Launch} {e : Env} {R : Room} {s : State} {m : MethodId} {args : Array Value} {below : List Frame} {meth : Method} {c : Code} {T : State} {locs : List Loc} {cells slots : Nat} {Q : Outcome → State → Prop}
/-- from here the run comes to an end that Q allows -/
def Go (p : Program) (e : Env) (below : List Frame) (Q : Outcome → State → Prop) (S : State) : Prop :=
  ∃ s₂ o, Steps p.tables e below S s₂ ∧ s₂.status = .running ∧ Ended s₂ below o ∧ Q o s₂
theorem Go.of {S S' : State} (h : ∀ t, Steps p.tables e below S' t → Steps p.tables e below S t) (g : Go p e below Q S') : Go p e below Q S := by
  obtain ⟨s₂, o, h1, h2⟩ := g
  exact ⟨s₂, o, h _ h1, h2⟩
theorem Go.tr {S S' : State} (h : Steps p.tables e below S S') (g : Go p e below Q S') : Go p e below Q S := Go.of (fun _ k => h.trans k) g
abbrev Ret (s : State) (Qv : Option Value → Heap → List Loc → Prop) (kc ks : Nat) : Outcome → State → Prop := fun o U' => ∃ v L, o = .returned v ∧ Qv v U'.heap L ∧ FrameEnd s o U' L kc ks
theorem Go.done (X : Stand p l e R s m args below meth c T locs cells slots) {g : JFrame} {v : Option Value} (hv : meth.sig.returnType = none → v = none) (hlocks : meth.locks = false)
    (hst : ∀ fs, (∀ (f : JFrame) (acts : List Action), f.method = m → f.locked = none → f.entered = [] → (doReturn e (T.setTop f) acts v).1 = T.setFrames fs) → Steps p.tables e below (T.setTop g) (T.setFrames fs))
    {Qv : Option Value → Heap → List Loc → Prop} {kc ks : Nat} (hc : cells ≤ kc) (hk : slots ≤ ks) (hq : Qv v T.heap locs) : Go p e below (Ret s Qv kc ks) (T.setTop g) := by
  obtain ⟨fs, hr, hrun, hended, hW, hsame⟩ := X.leave (v := v) hv hlocks
  exact ⟨_, _, hst fs hr, hrun, hended, v, locs, rfl, hq, ⟨_, rfl⟩, hW, hsame.mono hc hk⟩
theorem Go.retV (X : Stand p l e R s m args below meth c T locs cells slots) (hx : p.tables.exec = Jvm.exec) {pc : Nat} {Ls : Array Slot} (hret : meth.sig.returnType = none) (hlk : meth.locks = false) (hd : decode c.code pc = .ok (.return_, 1))
    {Qv : Option Value → Heap → List Loc → Prop} {kc ks : Nat} (hc : cells ≤ kc) (hk : slots ≤ ks) (hq : Qv none T.heap locs) : Go p e below (Ret s Qv kc ks) (T.setTop (mkF m pc Ls [])) :=
  Go.done X (fun _ => rfl) hlk (fun _ hr => X.returnOut hx hret hd hr) hc hk hq
theorem Go.retL (X : Stand p l e R s m args below meth c T locs cells slots) (hx : p.tables.exec = Jvm.exec) {pc : Nat} {Ls : Array Slot} {st : List Value} {z : Int64} (hret : meth.sig.returnType = some .long) (hlk : meth.locks = false) (hd : decode c.code pc = .ok (.lreturn, 1))
    {Qv : Option Value → Heap → List Loc → Prop} {kc ks : Nat} (hc : cells ≤ kc) (hk : slots ≤ ks) (hq : Qv (some (.long z)) T.heap locs) : Go p e below (Ret s Qv kc ks) (T.setTop (mkF m pc Ls ((.long z) :: st))) :=
  Go.done X (fun h => by rw [hret] at h; cases h) hlk (fun _ hr => retOut X hx hret rfl (Or.inr (Or.inl ⟨rfl, rfl, z, rfl⟩)) hd hr) hc hk hq
theorem Go.retD (X : Stand p l e R s m args below meth c T locs cells slots) (hx : p.tables.exec = Jvm.exec) {pc : Nat} {Ls : Array Slot} {st : List Value} {z : UInt64} (hret : meth.sig.returnType = some .double) (hlk : meth.locks = false) (hd : decode c.code pc = .ok (.dreturn, 1))
    {Qv : Option Value → Heap → List Loc → Prop} {kc ks : Nat} (hc : cells ≤ kc) (hk : slots ≤ ks) (hq : Qv (some (.double z)) T.heap locs) : Go p e below (Ret s Qv kc ks) (T.setTop (mkF m pc Ls ((.double z) :: st))) :=
  Go.done X (fun h => by rw [hret] at h; cases h) hlk (fun _ hr => retOut X hx hret rfl (Or.inr (Or.inr (Or.inl ⟨rfl, rfl, z, rfl⟩))) hd hr) hc hk hq
theorem Go.retF (X : Stand p l e R s m args below meth c T locs cells slots) (hx : p.tables.exec = Jvm.exec) {pc : Nat} {Ls : Array Slot} {st : List Value} {z : UInt32} (hret : meth.sig.returnType = some .float) (hlk : meth.locks = false) (hd : decode c.code pc = .ok (.freturn, 1))
    {Qv : Option Value → Heap → List Loc → Prop} {kc ks : Nat} (hc : cells ≤ kc) (hk : slots ≤ ks) (hq : Qv (some (.float z)) T.heap locs) : Go p e below (Ret s Qv kc ks) (T.setTop (mkF m pc Ls ((.float z) :: st))) :=
  Go.done X (fun h => by rw [hret] at h; cases h) hlk (fun _ hr => retOut X hx hret rfl (Or.inr (Or.inr (Or.inr (Or.inl ⟨rfl, rfl, z, rfl⟩)))) hd hr) hc hk hq
theorem Go.retI (X : Stand p l e R s m args below meth c T locs cells slots) (hx : p.tables.exec = Jvm.exec) {pc : Nat} {Ls : Array Slot} {st : List Value} {z : Int32} (hret : meth.sig.returnType = some .int) (hlk : meth.locks = false) (hd : decode c.code pc = .ok (.ireturn, 1))
    {Qv : Option Value → Heap → List Loc → Prop} {kc ks : Nat} (hc : cells ≤ kc) (hk : slots ≤ ks) (hq : Qv (some (.int z)) T.heap locs) : Go p e below (Ret s Qv kc ks) (T.setTop (mkF m pc Ls ((.int z) :: st))) :=
  Go.done X (fun h => by rw [hret] at h; cases h) hlk (fun _ hr => retOut X hx hret rfl (Or.inl ⟨rfl, Or.inl rfl, z, rfl⟩) hd hr) hc hk hq
theorem Go.retZ (X : Stand p l e R s m args below meth c T locs cells slots) (hx : p.tables.exec = Jvm.exec) {pc : Nat} {Ls : Array Slot} {st : List Value} {z : Int32} (hret : meth.sig.returnType = some .boolean) (hlk : meth.locks = false) (hd : decode c.code pc = .ok (.ireturn, 1)) (hz : z = 0 ∨ z = 1)
    {Qv : Option Value → Heap → List Loc → Prop} {kc ks : Nat} (hc : cells ≤ kc) (hk : slots ≤ ks) (hq : Qv (some (.int z)) T.heap locs) : Go p e below (Ret s Qv kc ks) (T.setTop (mkF m pc Ls ((.int z) :: st))) :=
  Go.done X (fun h => by rw [hret] at h; cases h) hlk (fun _ hr => retOut X hx hret (by rcases hz with rfl | rfl <;> rfl) (Or.inl ⟨rfl, Or.inr (Or.inl rfl), z, rfl⟩) hd hr) hc hk hq
theorem Go.retA (X : Stand p l e R s m args below meth c T locs cells slots) (hx : p.tables.exec = Jvm.exec) {pc : Nat} {Ls : Array Slot} {st : List Value} {v : Value} {t : FieldType} (hret : meth.sig.returnType = some t) (hlk : meth.locks = false) (hd : decode c.code pc = .ok (.areturn, 1)) (ht : t.isReference = true) (hv : v.isRef = true) (hn : narrow t v = v)
    {Qv : Option Value → Heap → List Loc → Prop} {kc ks : Nat} (hc : cells ≤ kc) (hk : slots ≤ ks) (hq : Qv (some v) T.heap locs) : Go p e below (Ret s Qv kc ks) (T.setTop (mkF m pc Ls (v :: st))) :=
  Go.done X (fun h => by rw [hret] at h; cases h) hlk (fun _ hr => retOut X hx hret hn (Or.inr (Or.inr (Or.inr (Or.inr ⟨rfl, ht, hv⟩)))) hd hr) hc hk hq
theorem enter {l : Launch} {Z : State} {y : MethodName} {bytes : ByteArray} {maxL : Nat} {ret : Option FieldType} {ws : List Jvm.Cond} {rm : Room} {as' : Array Value} {h0 : Heap} {Qv : Option Value → Heap → List Loc → Prop} {Ls : Array Slot} {kc ks : Nat}
    (hpn : plainFor y = true) (hef : ∀ m, entryFrame m as' maxL = mkF m 0 Ls [])
    (body : ∀ (p : Program) (e : Env) (s : State) (m : MethodId) (below : List Frame) (meth : Method) (c : Code) (s₁ : State), p.tables.exec = Jvm.exec → c.code = bytes → c.maxLocals = maxL → s.vm.findClass y.cls = some m.cls → meth.name = y.name → meth.sig.returnType = ret → meth.locks = false → Z.Warmed39 s.vm →
      Stand p l e rm s m as' below meth c s₁ [] 0 0 → s₁.heap = h0 → Go p e below (Ret s Qv kc ks) (s₁.setTop (mkF m 0 Ls []))) :
    MetFree l y (head1 (Jvm.Cond.code y bytes maxL ret :: ws) rm) (fun a U => a = as' ∧ Z.Warmed39 U.vm ∧ U.heap = h0) (fun _ _ _ _ _ => True) (fun _ U o U' => ∃ v L, o = .returned v ∧ Qv v U'.heap L ∧ FrameEnd U o U' L kc ks) := by
  refine MetFree.of_bodySF hpn hisR ?_
  intro p e s m args below meth c s₁ Bd hml0 hP hK
  obtain ⟨rfl, hZ, hh⟩ := hP
  have e0 : s₁.heap = h0 := by rw [← hh, Bd.state]; rfl
  obtain ⟨s₂, o, h1, h2, h3, h4⟩ := body p e s m below meth c s₁ Bd.exec Bd.bytes hml0 (findClass_of_methodNamed Bd.named) (name_of_methodNamed Bd.named Bd.method).1 Bd.returns (BodyLoose.notSynchronized Bd) hZ (Stand.of_body Bd) e0
  exact ⟨s₂, o, castTop (hef m) h1, h2, h3, h4⟩
theorem Go.iload (h : At T m c below) (hx : p.tables.exec = Jvm.exec) {pc q : Nat} {Ls : Array Slot} {st : List Value} {k : Nat} {v : Int32} (hd : decode c.code pc = .ok (.iload k, 2)) (hl : Ls[k]? = some (.val (.int v))) (hq : pc + 2 = q) (g : Go p e below Q (T.setTop (mkF m q Ls (.int v :: st)))) : Go p e below Q (T.setTop (mkF m pc Ls st)) := by
  subst hq; exact Go.of (fun _ r => XS.iload h hx rfl hd hl r) g
theorem Go.iloadN (h : At T m c below) (hx : p.tables.exec = Jvm.exec) {pc q : Nat} {Ls : Array Slot} {st : List Value} {k : Fin 4} {v : Int32} (hd : decode c.code pc = .ok (.iload_n k, 1)) (hl : Ls[k.val]? = some (.val (.int v))) (hq : pc + 1 = q) (g : Go p e below Q (T.setTop (mkF m q Ls (.int v :: st)))) : Go p e below Q (T.setTop (mkF m pc Ls st)) := by
  subst hq; exact Go.of (fun _ r => XS.iloadN h hx rfl hd hl r) g
theorem Go.istore (h : At T m c below) (hx : p.tables.exec = Jvm.exec) {pc q : Nat} {Ls : Array Slot} {st : List Value} {k : Nat} {v : Int32} {l2 : Array Slot} (hd : decode c.code pc = .ok (.istore k, 2)) (hl : storeLocals Ls k (.int v) = some l2) (hq : pc + 2 = q) (g : Go p e below Q (T.setTop (mkF m q l2 st))) : Go p e below Q (T.setTop (mkF m pc Ls (.int v :: st))) := by
  subst hq; exact Go.of (fun _ r => XS.istore h hx rfl hd rfl hl r) g
theorem Go.istoreN (h : At T m c below) (hx : p.tables.exec = Jvm.exec) {pc q : Nat} {Ls : Array Slot} {st : List Value} {k : Fin 4} {v : Int32} {l2 : Array Slot} (hd : decode c.code pc = .ok (.istore_n k, 1)) (hl : storeLocals Ls k.val (.int v) = some l2) (hq : pc + 1 = q) (g : Go p e below Q (T.setTop (mkF m q l2 st))) : Go p e below Q (T.setTop (mkF m pc Ls (.int v :: st))) := by
  subst hq; exact Go.of (fun _ r => XS.istoreN h hx rfl hd rfl hl r) g
theorem Go.lload (h : At T m c below) (hx : p.tables.exec = Jvm.exec) {pc q : Nat} {Ls : Array Slot} {st : List Value} {k : Nat} {v : Int64} (hd : decode c.code pc = .ok (.lload k, 2)) (hl : Ls[k]? = some (.val (.long v))) (hq : pc + 2 = q) (g : Go p e below Q (T.setTop (mkF m q Ls (.long v :: st)))) : Go p e below Q (T.setTop (mkF m pc Ls st)) := by
  subst hq; exact Go.of (fun _ r => XS.lload h hx rfl hd hl r) g
theorem Go.lloadN (h : At T m c below) (hx : p.tables.exec = Jvm.exec) {pc q : Nat} {Ls : Array Slot} {st : List Value} {k : Fin 4} {v : Int64} (hd : decode c.code pc = .ok (.lload_n k, 1)) (hl : Ls[k.val]? = some (.val (.long v))) (hq : pc + 1 = q) (g : Go p e below Q (T.setTop (mkF m q Ls (.long v :: st)))) : Go p e below Q (T.setTop (mkF m pc Ls st)) := by
  subst hq; exact Go.of (fun _ r => XS.lloadN h hx rfl hd hl r) g
theorem Go.lstore (h : At T m c below) (hx : p.tables.exec = Jvm.exec) {pc q : Nat} {Ls : Array Slot} {st : List Value} {k : Nat} {v : Int64} {l2 : Array Slot} (hd : decode c.code pc = .ok (.lstore k, 2)) (hl : storeLocals Ls k (.long v) = some l2) (hq : pc + 2 = q) (g : Go p e below Q (T.setTop (mkF m q l2 st))) : Go p e below Q (T.setTop (mkF m pc Ls (.long v :: st))) := by
  subst hq; exact Go.of (fun _ r => XS.lstore h hx rfl hd rfl hl r) g
theorem Go.lstoreN (h : At T m c below) (hx : p.tables.exec = Jvm.exec) {pc q : Nat} {Ls : Array Slot} {st : List Value} {k : Fin 4} {v : Int64} {l2 : Array Slot} (hd : decode c.code pc = .ok (.lstore_n k, 1)) (hl : storeLocals Ls k.val (.long v) = some l2) (hq : pc + 1 = q) (g : Go p e below Q (T.setTop (mkF m q l2 st))) : Go p e below Q (T.setTop (mkF m pc Ls (.long v :: st))) := by
  subst hq; exact Go.of (fun _ r => XS.lstoreN h hx rfl hd rfl hl r) g
theorem Go.dload (h : At T m c below) (hx : p.tables.exec = Jvm.exec) {pc q : Nat} {Ls : Array Slot} {st : List Value} {k : Nat} {v : UInt64} (hd : decode c.code pc = .ok (.dload k, 2)) (hl : Ls[k]? = some (.val (.double v))) (hq : pc + 2 = q) (g : Go p e below Q (T.setTop (mkF m q Ls (.double v :: st)))) : Go p e below Q (T.setTop (mkF m pc Ls st)) := by
  subst hq; exact Go.of (fun _ r => XS.dload h hx rfl hd hl r) g
theorem Go.dloadN (h : At T m c below) (hx : p.tables.exec = Jvm.exec) {pc q : Nat} {Ls : Array Slot} {st : List Value} {k : Fin 4} {v : UInt64} (hd : decode c.code pc = .ok (.dload_n k, 1)) (hl : Ls[k.val]? = some (.val (.double v))) (hq : pc + 1 = q) (g : Go p e below Q (T.setTop (mkF m q Ls (.double v :: st)))) : Go p e below Q (T.setTop (mkF m pc Ls st)) := by
  subst hq; exact Go.of (fun _ r => XS.dloadN h hx rfl hd hl r) g
theorem Go.dstore (h : At T m c below) (hx : p.tables.exec = Jvm.exec) {pc q : Nat} {Ls : Array Slot} {st : List Value} {k : Nat} {v : UInt64} {l2 : Array Slot} (hd : decode c.code pc = .ok (.dstore k, 2)) (hl : storeLocals Ls k (.double v) = some l2) (hq : pc + 2 = q) (g : Go p e below Q (T.setTop (mkF m q l2 st))) : Go p e below Q (T.setTop (mkF m pc Ls (.double v :: st))) := by
  subst hq; exact Go.of (fun _ r => XS.dstore h hx rfl hd rfl hl r) g
theorem Go.dstoreN (h : At T m c below) (hx : p.tables.exec = Jvm.exec) {pc q : Nat} {Ls : Array Slot} {st : List Value} {k : Fin 4} {v : UInt64} {l2 : Array Slot} (hd : decode c.code pc = .ok (.dstore_n k, 1)) (hl : storeLocals Ls k.val (.double v) = some l2) (hq : pc + 1 = q) (g : Go p e below Q (T.setTop (mkF m q l2 st))) : Go p e below Q (T.setTop (mkF m pc Ls (.double v :: st))) := by
  subst hq; exact Go.of (fun _ r => XS.dstoreN h hx rfl hd rfl hl r) g
theorem Go.fload (h : At T m c below) (hx : p.tables.exec = Jvm.exec) {pc q : Nat} {Ls : Array Slot} {st : List Value} {k : Nat} {v : UInt32} (hd : decode c.code pc = .ok (.fload k, 2)) (hl : Ls[k]? = some (.val (.float v))) (hq : pc + 2 = q) (g : Go p e below Q (T.setTop (mkF m q Ls (.float v :: st)))) : Go p e below Q (T.setTop (mkF m pc Ls st)) := by
  subst hq; exact Go.of (fun _ r => XS.fload h hx rfl hd hl r) g
theorem Go.floadN (h : At T m c below) (hx : p.tables.exec = Jvm.exec) {pc q : Nat} {Ls : Array Slot} {st : List Value} {k : Fin 4} {v : UInt32} (hd : decode c.code pc = .ok (.fload_n k, 1)) (hl : Ls[k.val]? = some (.val (.float v))) (hq : pc + 1 = q) (g : Go p e below Q (T.setTop (mkF m q Ls (.float v :: st)))) : Go p e below Q (T.setTop (mkF m pc Ls st)) := by
  subst hq; exact Go.of (fun _ r => XS.floadN h hx rfl hd hl r) g
theorem Go.fstore (h : At T m c below) (hx : p.tables.exec = Jvm.exec) {pc q : Nat} {Ls : Array Slot} {st : List Value} {k : Nat} {v : UInt32} {l2 : Array Slot} (hd : decode c.code pc = .ok (.fstore k, 2)) (hl : storeLocals Ls k (.float v) = some l2) (hq : pc + 2 = q) (g : Go p e below Q (T.setTop (mkF m q l2 st))) : Go p e below Q (T.setTop (mkF m pc Ls (.float v :: st))) := by
  subst hq; exact Go.of (fun _ r => XS.fstore h hx rfl hd rfl hl r) g
theorem Go.fstoreN (h : At T m c below) (hx : p.tables.exec = Jvm.exec) {pc q : Nat} {Ls : Array Slot} {st : List Value} {k : Fin 4} {v : UInt32} {l2 : Array Slot} (hd : decode c.code pc = .ok (.fstore_n k, 1)) (hl : storeLocals Ls k.val (.float v) = some l2) (hq : pc + 1 = q) (g : Go p e below Q (T.setTop (mkF m q l2 st))) : Go p e below Q (T.setTop (mkF m pc Ls (.float v :: st))) := by
  subst hq; exact Go.of (fun _ r => XS.fstoreN h hx rfl hd rfl hl r) g
theorem Go.aload (h : At T m c below) (hx : p.tables.exec = Jvm.exec) {pc q : Nat} {Ls : Array Slot} {st : List Value} {k : Nat} {v : Value} (hd : decode c.code pc = .ok (.aload k, 2)) (hl : Ls[k]? = some (.val v)) (hv : v.isRef = true) (hq : pc + 2 = q) (g : Go p e below Q (T.setTop (mkF m q Ls (v :: st)))) : Go p e below Q (T.setTop (mkF m pc Ls st)) := by
  subst hq; exact Go.of (fun _ r => XS.aload h hx rfl hd hl hv r) g
theorem Go.aloadN (h : At T m c below) (hx : p.tables.exec = Jvm.exec) {pc q : Nat} {Ls : Array Slot} {st : List Value} {k : Fin 4} {v : Value} (hd : decode c.code pc = .ok (.aload_n k, 1)) (hl : Ls[k.val]? = some (.val v)) (hv : v.isRef = true) (hq : pc + 1 = q) (g : Go p e below Q (T.setTop (mkF m q Ls (v :: st)))) : Go p e below Q (T.setTop (mkF m pc Ls st)) := by
  subst hq; exact Go.of (fun _ r => XS.aloadN h hx rfl hd hl hv r) g
theorem Go.astore (h : At T m c below) (hx : p.tables.exec = Jvm.exec) {pc q : Nat} {Ls : Array Slot} {st : List Value} {k : Nat} {v : Value} {l2 : Array Slot} (hd : decode c.code pc = .ok (.astore k, 2)) (hv : v.isRef = true) (hl : storeLocals Ls k v = some l2) (hq : pc + 2 = q) (g : Go p e below Q (T.setTop (mkF m q l2 st))) : Go p e below Q (T.setTop (mkF m pc Ls (v :: st))) := by
  subst hq; exact Go.of (fun _ r => XS.astore h hx rfl hd rfl hv hl r) g
theorem Go.astoreN (h : At T m c below) (hx : p.tables.exec = Jvm.exec) {pc q : Nat} {Ls : Array Slot} {st : List Value} {k : Fin 4} {v : Value} {l2 : Array Slot} (hd : decode c.code pc = .ok (.astore_n k, 1)) (hv : v.isRef = true) (hl : storeLocals Ls k.val v = some l2) (hq : pc + 1 = q) (g : Go p e below Q (T.setTop (mkF m q l2 st))) : Go p e below Q (T.setTop (mkF m pc Ls (v :: st))) := by
  subst hq; exact Go.of (fun _ r => XS.astoreN h hx rfl hd rfl hv hl r) g
theorem Go.iconst (h : At T m c below) (hx : p.tables.exec = Jvm.exec) {pc q : Nat} {Ls : Array Slot} {st : List Value} {i : Int} {v : Int32} (hd : decode c.code pc = .ok (.iconst i, 1)) (hv : Int32.ofInt i = v) (hq : pc + 1 = q) (g : Go p e below Q (T.setTop (mkF m q Ls (.int v :: st)))) : Go p e below Q (T.setTop (mkF m pc Ls st)) := by
  subst hq hv; exact Go.of (fun _ r => XS.iconst h hx rfl hd r) g
theorem Go.bipush (h : At T m c below) (hx : p.tables.exec = Jvm.exec) {pc q : Nat} {Ls : Array Slot} {st : List Value} {i : Int} {v : Int32} (hd : decode c.code pc = .ok (.bipush i, 2)) (hv : (Int8.ofInt i).toInt32 = v) (hq : pc + 2 = q) (g : Go p e below Q (T.setTop (mkF m q Ls (.int v :: st)))) : Go p e below Q (T.setTop (mkF m pc Ls st)) := by
  subst hq hv; exact Go.of (fun _ r => XS.bipush h hx rfl hd r) g
theorem Go.sipush (h : At T m c below) (hx : p.tables.exec = Jvm.exec) {pc q : Nat} {Ls : Array Slot} {st : List Value} {i : Int} {v : Int32} (hd : decode c.code pc = .ok (.sipush i, 3)) (hv : (Int16.ofInt i).toInt32 = v) (hq : pc + 3 = q) (g : Go p e below Q (T.setTop (mkF m q Ls (.int v :: st)))) : Go p e below Q (T.setTop (mkF m pc Ls st)) := by
  subst hq hv; exact Go.of (fun _ r => XS.sipush h hx rfl hd r) g
theorem Go.lconst (h : At T m c below) (hx : p.tables.exec = Jvm.exec) {pc q : Nat} {Ls : Array Slot} {st : List Value} {k : Fin 2} {v : Int64} (hd : decode c.code pc = .ok (.lconst k, 1)) (hv : Int64.ofNat k = v) (hq : pc + 1 = q) (g : Go p e below Q (T.setTop (mkF m q Ls (.long v :: st)))) : Go p e below Q (T.setTop (mkF m pc Ls st)) := by
  subst hq hv; exact Go.of (fun _ r => XS.lconst h hx rfl hd r) g
theorem Go.aconst (h : At T m c below) (hx : p.tables.exec = Jvm.exec) {pc q : Nat} {Ls : Array Slot} {st : List Value}  (hd : decode c.code pc = .ok (.aconst_null, 1)) (hq : pc + 1 = q) (g : Go p e below Q (T.setTop (mkF m q Ls (.null :: st)))) : Go p e below Q (T.setTop (mkF m pc Ls st)) := by
  subst hq; exact Go.of (fun _ r => XS.aconstNull h hx rfl hd r) g
theorem Go.dconst0 (h : At T m c below) (hx : p.tables.exec = Jvm.exec) {pc q : Nat} {Ls : Array Slot} {st : List Value} {v : UInt64} (hd : decode c.code pc = .ok (.dconst 0, 1)) (hv : FP.dconst0 = v) (hq : pc + 1 = q) (g : Go p e below Q (T.setTop (mkF m q Ls (.double v :: st)))) : Go p e below Q (T.setTop (mkF m pc Ls st)) := by
  subst hq; exact Go.of (fun _ r => XS.dconst0 h hx rfl hd hv r) g
theorem Go.dconst1 (h : At T m c below) (hx : p.tables.exec = Jvm.exec) {pc q : Nat} {Ls : Array Slot} {st : List Value} {v : UInt64} (hd : decode c.code pc = .ok (.dconst 1, 1)) (hv : FP.dconst1 = v) (hq : pc + 1 = q) (g : Go p e below Q (T.setTop (mkF m q Ls (.double v :: st)))) : Go p e below Q (T.setTop (mkF m pc Ls st)) := by
  subst hq; exact Go.of (fun _ r => XS.dconst1 h hx rfl hd hv r) g
theorem Go.fconst0 (h : At T m c below) (hx : p.tables.exec = Jvm.exec) {pc q : Nat} {Ls : Array Slot} {st : List Value} {v : UInt32} (hd : decode c.code pc = .ok (.fconst 0, 1)) (hv : FP.fconst0 = v) (hq : pc + 1 = q) (g : Go p e below Q (T.setTop (mkF m q Ls (.float v :: st)))) : Go p e below Q (T.setTop (mkF m pc Ls st)) := by
  subst hq; exact Go.of (fun _ r => XS.fconst0 h hx rfl hd hv r) g
theorem Go.fconst1 (h : At T m c below) (hx : p.tables.exec = Jvm.exec) {pc q : Nat} {Ls : Array Slot} {st : List Value} {v : UInt32} (hd : decode c.code pc = .ok (.fconst 1, 1)) (hv : FP.fconst1 = v) (hq : pc + 1 = q) (g : Go p e below Q (T.setTop (mkF m q Ls (.float v :: st)))) : Go p e below Q (T.setTop (mkF m pc Ls st)) := by
  subst hq; exact Go.of (fun _ r => XS.fconst1 h hx rfl hd hv r) g
theorem Go.iadd (h : At T m c below) (hx : p.tables.exec = Jvm.exec) {pc q : Nat} {Ls : Array Slot} {st : List Value} {x : Int32} {y : Int32} {v : Int32} (hd : decode c.code pc = .ok (.iadd, 1)) (hv : x + y = v) (hq : pc + 1 = q) (g : Go p e below Q (T.setTop (mkF m q Ls (.int v :: st)))) : Go p e below Q (T.setTop (mkF m pc Ls (.int y :: .int x :: st))) := by
  subst hq hv; exact Go.of (fun _ r => XS.iadd h hx rfl hd rfl r) g
theorem Go.isub (h : At T m c below) (hx : p.tables.exec = Jvm.exec) {pc q : Nat} {Ls : Array Slot} {st : List Value} {x : Int32} {y : Int32} {v : Int32} (hd : decode c.code pc = .ok (.isub, 1)) (hv : x - y = v) (hq : pc + 1 = q) (g : Go p e below Q (T.setTop (mkF m q Ls (.int v :: st)))) : Go p e below Q (T.setTop (mkF m pc Ls (.int y :: .int x :: st))) := by
  subst hq hv; exact Go.of (fun _ r => XS.isub h hx rfl hd rfl r) g
theorem Go.iand (h : At T m c below) (hx : p.tables.exec = Jvm.exec) {pc q : Nat} {Ls : Array Slot} {st : List Value} {x : Int32} {y : Int32} {v : Int32} (hd : decode c.code pc = .ok (.iand, 1)) (hv : x &&& y = v) (hq : pc + 1 = q) (g : Go p e below Q (T.setTop (mkF m q Ls (.int v :: st)))) : Go p e below Q (T.setTop (mkF m pc Ls (.int y :: .int x :: st))) := by
  subst hq hv; exact Go.of (fun _ r => XS.iand h hx rfl hd rfl r) g
theorem Go.imul (h : At T m c below) (hx : p.tables.exec = Jvm.exec) {pc q : Nat} {Ls : Array Slot} {st : List Value} {x : Int32} {y : Int32} {v : Int32} (hd : decode c.code pc = .ok (.imul, 1)) (hv : x * y = v) (hq : pc + 1 = q) (g : Go p e below Q (T.setTop (mkF m q Ls (.int v :: st)))) : Go p e below Q (T.setTop (mkF m pc Ls (.int y :: .int x :: st))) := by
  subst hq hv; exact Go.of (fun _ r => XS.imul h hx rfl hd rfl r) g
theorem Go.ixor (h : At T m c below) (hx : p.tables.exec = Jvm.exec) {pc q : Nat} {Ls : Array Slot} {st : List Value} {x : Int32} {y : Int32} {v : Int32} (hd : decode c.code pc = .ok (.ixor, 1)) (hv : x ^^^ y = v) (hq : pc + 1 = q) (g : Go p e below Q (T.setTop (mkF m q Ls (.int v :: st)))) : Go p e below Q (T.setTop (mkF m pc Ls (.int y :: .int x :: st))) := by
  subst hq hv; exact Go.of (fun _ r => XS.ixor h hx rfl hd rfl r) g
theorem Go.ior (h : At T m c below) (hx : p.tables.exec = Jvm.exec) {pc q : Nat} {Ls : Array Slot} {st : List Value} {x : Int32} {y : Int32} {v : Int32} (hd : decode c.code pc = .ok (.ior, 1)) (hv : x ||| y = v) (hq : pc + 1 = q) (g : Go p e below Q (T.setTop (mkF m q Ls (.int v :: st)))) : Go p e below Q (T.setTop (mkF m pc Ls (.int y :: .int x :: st))) := by
  subst hq hv; exact Go.of (fun _ r => XS.ior h hx rfl hd rfl r) g
theorem Go.ishl (h : At T m c below) (hx : p.tables.exec = Jvm.exec) {pc q : Nat} {Ls : Array Slot} {st : List Value} {x : Int32} {y : Int32} {v : Int32} (hd : decode c.code pc = .ok (.ishl, 1)) (hv : x <<< (y &&& 31) = v) (hq : pc + 1 = q) (g : Go p e below Q (T.setTop (mkF m q Ls (.int v :: st)))) : Go p e below Q (T.setTop (mkF m pc Ls (.int y :: .int x :: st))) := by
  subst hq hv; exact Go.of (fun _ r => XS.ishl h hx rfl hd rfl r) g
theorem Go.ishr (h : At T m c below) (hx : p.tables.exec = Jvm.exec) {pc q : Nat} {Ls : Array Slot} {st : List Value} {x : Int32} {y : Int32} {v : Int32} (hd : decode c.code pc = .ok (.ishr, 1)) (hv : x >>> (y &&& 31) = v) (hq : pc + 1 = q) (g : Go p e below Q (T.setTop (mkF m q Ls (.int v :: st)))) : Go p e below Q (T.setTop (mkF m pc Ls (.int y :: .int x :: st))) := by
  subst hq hv; exact Go.of (fun _ r => XS.ishr h hx rfl hd rfl r) g
theorem Go.iushr (h : At T m c below) (hx : p.tables.exec = Jvm.exec) {pc q : Nat} {Ls : Array Slot} {st : List Value} {x : Int32} {y : Int32} {v : Int32} (hd : decode c.code pc = .ok (.iushr, 1)) (hv : (x.toUInt32 >>> (y &&& 31).toUInt32).toInt32 = v) (hq : pc + 1 = q) (g : Go p e below Q (T.setTop (mkF m q Ls (.int v :: st)))) : Go p e below Q (T.setTop (mkF m pc Ls (.int y :: .int x :: st))) := by
  subst hq hv; exact Go.of (fun _ r => XS.iushr h hx rfl hd rfl r) g
theorem Go.idiv (h : At T m c below) (hx : p.tables.exec = Jvm.exec) {pc q : Nat} {Ls : Array Slot} {st : List Value} {x : Int32} {y : Int32} {v : Int32} (hd : decode c.code pc = .ok (.idiv, 1)) (hy : y ≠ 0) (hv : x / y = v) (hq : pc + 1 = q) (g : Go p e below Q (T.setTop (mkF m q Ls (.int v :: st)))) : Go p e below Q (T.setTop (mkF m pc Ls (.int y :: .int x :: st))) := by
  subst hq hv; exact Go.of (fun _ r => XS.idiv h hx rfl hd rfl hy r) g
theorem Go.irem (h : At T m c below) (hx : p.tables.exec = Jvm.exec) {pc q : Nat} {Ls : Array Slot} {st : List Value} {x : Int32} {y : Int32} {v : Int32} (hd : decode c.code pc = .ok (.irem, 1)) (hy : y ≠ 0) (hv : x - (x / y) * y = v) (hq : pc + 1 = q) (g : Go p e below Q (T.setTop (mkF m q Ls (.int v :: st)))) : Go p e below Q (T.setTop (mkF m pc Ls (.int y :: .int x :: st))) := by
  subst hq hv; exact Go.of (fun _ r => XS.irem h hx rfl hd rfl hy r) g
theorem Go.ladd (h : At T m c below) (hx : p.tables.exec = Jvm.exec) {pc q : Nat} {Ls : Array Slot} {st : List Value} {x : Int64} {y : Int64} {v : Int64} (hd : decode c.code pc = .ok (.ladd, 1)) (hv : x + y = v) (hq : pc + 1 = q) (g : Go p e below Q (T.setTop (mkF m q Ls (.long v :: st)))) : Go p e below Q (T.setTop (mkF m pc Ls (.long y :: .long x :: st))) := by
  subst hq hv; exact Go.of (fun _ r => XS.ladd h hx rfl hd rfl r) g
theorem Go.lsub (h : At T m c below) (hx : p.tables.exec = Jvm.exec) {pc q : Nat} {Ls : Array Slot} {st : List Value} {x : Int64} {y : Int64} {v : Int64} (hd : decode c.code pc = .ok (.lsub, 1)) (hv : x - y = v) (hq : pc + 1 = q) (g : Go p e below Q (T.setTop (mkF m q Ls (.long v :: st)))) : Go p e below Q (T.setTop (mkF m pc Ls (.long y :: .long x :: st))) := by
  subst hq hv; exact Go.of (fun _ r => XS.lsub h hx rfl hd rfl r) g
theorem Go.lmul (h : At T m c below) (hx : p.tables.exec = Jvm.exec) {pc q : Nat} {Ls : Array Slot} {st : List Value} {x : Int64} {y : Int64} {v : Int64} (hd : decode c.code pc = .ok (.lmul, 1)) (hv : x * y = v) (hq : pc + 1 = q) (g : Go p e below Q (T.setTop (mkF m q Ls (.long v :: st)))) : Go p e below Q (T.setTop (mkF m pc Ls (.long y :: .long x :: st))) := by
  subst hq hv; exact Go.of (fun _ r => XS.lmul h hx rfl hd rfl r) g
theorem Go.land (h : At T m c below) (hx : p.tables.exec = Jvm.exec) {pc q : Nat} {Ls : Array Slot} {st : List Value} {x : Int64} {y : Int64} {v : Int64} (hd : decode c.code pc = .ok (.land, 1)) (hv : x &&& y = v) (hq : pc + 1 = q) (g : Go p e below Q (T.setTop (mkF m q Ls (.long v :: st)))) : Go p e below Q (T.setTop (mkF m pc Ls (.long y :: .long x :: st))) := by
  subst hq hv; exact Go.of (fun _ r => XS.land h hx rfl hd rfl r) g
theorem Go.lor (h : At T m c below) (hx : p.tables.exec = Jvm.exec) {pc q : Nat} {Ls : Array Slot} {st : List Value} {x : Int64} {y : Int64} {v : Int64} (hd : decode c.code pc = .ok (.lor, 1)) (hv : x ||| y = v) (hq : pc + 1 = q) (g : Go p e below Q (T.setTop (mkF m q Ls (.long v :: st)))) : Go p e below Q (T.setTop (mkF m pc Ls (.long y :: .long x :: st))) := by
  subst hq hv; exact Go.of (fun _ r => XS.lor h hx rfl hd rfl r) g
theorem Go.lxor (h : At T m c below) (hx : p.tables.exec = Jvm.exec) {pc q : Nat} {Ls : Array Slot} {st : List Value} {x : Int64} {y : Int64} {v : Int64} (hd : decode c.code pc = .ok (.lxor, 1)) (hv : x ^^^ y = v) (hq : pc + 1 = q) (g : Go p e below Q (T.setTop (mkF m q Ls (.long v :: st)))) : Go p e below Q (T.setTop (mkF m pc Ls (.long y :: .long x :: st))) := by
  subst hq hv; exact Go.of (fun _ r => XS.lxor h hx rfl hd rfl r) g
theorem Go.lshl (h : At T m c below) (hx : p.tables.exec = Jvm.exec) {pc q : Nat} {Ls : Array Slot} {st : List Value} {x : Int64} {y : Int32} {v : Int64} (hd : decode c.code pc = .ok (.lshl, 1)) (hv : x <<< (y &&& 0x3f).toInt64 = v) (hq : pc + 1 = q) (g : Go p e below Q (T.setTop (mkF m q Ls (.long v :: st)))) : Go p e below Q (T.setTop (mkF m pc Ls (.int y :: .long x :: st))) := by
  subst hq hv; exact Go.of (fun _ r => XS.lshl h hx rfl hd rfl r) g
theorem Go.lshr (h : At T m c below) (hx : p.tables.exec = Jvm.exec) {pc q : Nat} {Ls : Array Slot} {st : List Value} {x : Int64} {y : Int32} {v : Int64} (hd : decode c.code pc = .ok (.lshr, 1)) (hv : x >>> (y &&& 0x3f).toInt64 = v) (hq : pc + 1 = q) (g : Go p e below Q (T.setTop (mkF m q Ls (.long v :: st)))) : Go p e below Q (T.setTop (mkF m pc Ls (.int y :: .long x :: st))) := by
  subst hq hv; exact Go.of (fun _ r => XS.lshr h hx rfl hd rfl r) g
theorem Go.lushr (h : At T m c below) (hx : p.tables.exec = Jvm.exec) {pc q : Nat} {Ls : Array Slot} {st : List Value} {x : Int64} {y : Int32} {v : Int64} (hd : decode c.code pc = .ok (.lushr, 1)) (hv : (x.toUInt64 >>> (y &&& 0x3f).toInt64.toUInt64).toInt64 = v) (hq : pc + 1 = q) (g : Go p e below Q (T.setTop (mkF m q Ls (.long v :: st)))) : Go p e below Q (T.setTop (mkF m pc Ls (.int y :: .long x :: st))) := by
  subst hq hv; exact Go.of (fun _ r => XS.lushr h hx rfl hd rfl r) g
theorem Go.ldiv (h : At T m c below) (hx : p.tables.exec = Jvm.exec) {pc q : Nat} {Ls : Array Slot} {st : List Value} {x : Int64} {y : Int64} {v : Int64} (hd : decode c.code pc = .ok (.ldiv, 1)) (hy : y ≠ 0) (hv : x / y = v) (hq : pc + 1 = q) (g : Go p e below Q (T.setTop (mkF m q Ls (.long v :: st)))) : Go p e below Q (T.setTop (mkF m pc Ls (.long y :: .long x :: st))) := by
  subst hq hv; exact Go.of (fun _ r => XS.ldiv h hx rfl hd rfl hy r) g
theorem Go.lrem (h : At T m c below) (hx : p.tables.exec = Jvm.exec) {pc q : Nat} {Ls : Array Slot} {st : List Value} {x : Int64} {y : Int64} {v : Int64} (hd : decode c.code pc = .ok (.lrem, 1)) (hy : y ≠ 0) (hv : x - (x / y) * y = v) (hq : pc + 1 = q) (g : Go p e below Q (T.setTop (mkF m q Ls (.long v :: st)))) : Go p e below Q (T.setTop (mkF m pc Ls (.long y :: .long x :: st))) := by
  subst hq hv; exact Go.of (fun _ r => XS.lrem h hx rfl hd rfl hy r) g
theorem Go.lcmp (h : At T m c below) (hx : p.tables.exec = Jvm.exec) {pc q : Nat} {Ls : Array Slot} {st : List Value} {x : Int64} {y : Int64} {v : Int32} (hd : decode c.code pc = .ok (.lcmp, 1)) (hv : lcmpW x y = v) (hq : pc + 1 = q) (g : Go p e below Q (T.setTop (mkF m q Ls (.int v :: st)))) : Go p e below Q (T.setTop (mkF m pc Ls (.long y :: .long x :: st))) := by
  subst hq hv; exact Go.of (fun _ r => XS.lcmp h hx rfl hd rfl r) g
theorem Go.ineg (h : At T m c below) (hx : p.tables.exec = Jvm.exec) {pc q : Nat} {Ls : Array Slot} {st : List Value} {x : Int32} {v : Int32} (hd : decode c.code pc = .ok (.ineg, 1)) (hv : -x = v) (hq : pc + 1 = q) (g : Go p e below Q (T.setTop (mkF m q Ls (.int v :: st)))) : Go p e below Q (T.setTop (mkF m pc Ls (.int x :: st))) := by
  subst hq hv; exact Go.of (fun _ r => XS.ineg h hx rfl hd rfl r) g
theorem Go.lneg (h : At T m c below) (hx : p.tables.exec = Jvm.exec) {pc q : Nat} {Ls : Array Slot} {st : List Value} {x : Int64} {v : Int64} (hd : decode c.code pc = .ok (.lneg, 1)) (hv : -x = v) (hq : pc + 1 = q) (g : Go p e below Q (T.setTop (mkF m q Ls (.long v :: st)))) : Go p e below Q (T.setTop (mkF m pc Ls (.long x :: st))) := by
  subst hq hv; exact Go.of (fun _ r => XS.lneg h hx rfl hd rfl r) g
theorem Go.i2l (h : At T m c below) (hx : p.tables.exec = Jvm.exec) {pc q : Nat} {Ls : Array Slot} {st : List Value} {x : Int32} {v : Int64} (hd : decode c.code pc = .ok (.i2l, 1)) (hv : x.toInt64 = v) (hq : pc + 1 = q) (g : Go p e below Q (T.setTop (mkF m q Ls (.long v :: st)))) : Go p e below Q (T.setTop (mkF m pc Ls (.int x :: st))) := by
  subst hq hv; exact Go.of (fun _ r => XS.i2l h hx rfl hd rfl r) g
theorem Go.l2i (h : At T m c below) (hx : p.tables.exec = Jvm.exec) {pc q : Nat} {Ls : Array Slot} {st : List Value} {x : Int64} {v : Int32} (hd : decode c.code pc = .ok (.l2i, 1)) (hv : x.toInt32 = v) (hq : pc + 1 = q) (g : Go p e below Q (T.setTop (mkF m q Ls (.int v :: st)))) : Go p e below Q (T.setTop (mkF m pc Ls (.long x :: st))) := by
  subst hq hv; exact Go.of (fun _ r => XS.l2i h hx rfl hd rfl r) g
theorem Go.i2d (h : At T m c below) (hx : p.tables.exec = Jvm.exec) {pc q : Nat} {Ls : Array Slot} {st : List Value} {x : Int32} {v : UInt64} (hd : decode c.code pc = .ok (.i2d, 1)) (hv : FP.i2d x = v) (hq : pc + 1 = q) (g : Go p e below Q (T.setTop (mkF m q Ls (.double v :: st)))) : Go p e below Q (T.setTop (mkF m pc Ls (.int x :: st))) := by
  subst hq; exact Go.of (fun _ r => XS.i2dS h hx rfl hd rfl hv r) g
theorem Go.l2d (h : At T m c below) (hx : p.tables.exec = Jvm.exec) {pc q : Nat} {Ls : Array Slot} {st : List Value} {x : Int64} {v : UInt64} (hd : decode c.code pc = .ok (.l2d, 1)) (hv : FP.l2d x = v) (hq : pc + 1 = q) (g : Go p e below Q (T.setTop (mkF m q Ls (.double v :: st)))) : Go p e below Q (T.setTop (mkF m pc Ls (.long x :: st))) := by
  subst hq; exact Go.of (fun _ r => XS.l2dS h hx rfl hd rfl hv r) g
theorem Go.d2i (h : At T m c below) (hx : p.tables.exec = Jvm.exec) {pc q : Nat} {Ls : Array Slot} {st : List Value} {x : UInt64} {v : Int32} (hd : decode c.code pc = .ok (.d2i, 1)) (hv : FP.d2i x = v) (hq : pc + 1 = q) (g : Go p e below Q (T.setTop (mkF m q Ls (.int v :: st)))) : Go p e below Q (T.setTop (mkF m pc Ls (.double x :: st))) := by
  subst hq; exact Go.of (fun _ r => XS.d2iS h hx rfl hd rfl hv r) g
theorem Go.d2l (h : At T m c below) (hx : p.tables.exec = Jvm.exec) {pc q : Nat} {Ls : Array Slot} {st : List Value} {x : UInt64} {v : Int64} (hd : decode c.code pc = .ok (.d2l, 1)) (hv : FP.d2l x = v) (hq : pc + 1 = q) (g : Go p e below Q (T.setTop (mkF m q Ls (.long v :: st)))) : Go p e below Q (T.setTop (mkF m pc Ls (.double x :: st))) := by
  subst hq; exact Go.of (fun _ r => XS.d2lS h hx rfl hd rfl hv r) g
theorem Go.dneg (h : At T m c below) (hx : p.tables.exec = Jvm.exec) {pc q : Nat} {Ls : Array Slot} {st : List Value} {x : UInt64} {v : UInt64} (hd : decode c.code pc = .ok (.dneg, 1)) (hv : FP.dneg x = v) (hq : pc + 1 = q) (g : Go p e below Q (T.setTop (mkF m q Ls (.double v :: st)))) : Go p e below Q (T.setTop (mkF m pc Ls (.double x :: st))) := by
  subst hq; exact Go.of (fun _ r => XS.dnegS h hx rfl hd rfl hv r) g
theorem Go.i2f (h : At T m c below) (hx : p.tables.exec = Jvm.exec) {pc q : Nat} {Ls : Array Slot} {st : List Value} {x : Int32} {v : UInt32} (hd : decode c.code pc = .ok (.i2f, 1)) (hv : FP.i2f x = v) (hq : pc + 1 = q) (g : Go p e below Q (T.setTop (mkF m q Ls (.float v :: st)))) : Go p e below Q (T.setTop (mkF m pc Ls (.int x :: st))) := by
  subst hq; exact Go.of (fun _ r => XS.i2fS h hx rfl hd rfl hv r) g
theorem Go.l2f (h : At T m c below) (hx : p.tables.exec = Jvm.exec) {pc q : Nat} {Ls : Array Slot} {st : List Value} {x : Int64} {v : UInt32} (hd : decode c.code pc = .ok (.l2f, 1)) (hv : FP.l2f x = v) (hq : pc + 1 = q) (g : Go p e below Q (T.setTop (mkF m q Ls (.float v :: st)))) : Go p e below Q (T.setTop (mkF m pc Ls (.long x :: st))) := by
  subst hq; exact Go.of (fun _ r => XS.l2fS h hx rfl hd rfl hv r) g
theorem Go.dadd (h : At T m c below) (hx : p.tables.exec = Jvm.exec) {pc q : Nat} {Ls : Array Slot} {st : List Value} {x y v : UInt64} (hd : decode c.code pc = .ok (.dadd, 1)) (hn : NoNaN64 (FP.dadd x y)) (hv : FP.dadd x y = v) (hq : pc + 1 = q) (g : Go p e below Q (T.setTop (mkF m q Ls (.double v :: st)))) : Go p e below Q (T.setTop (mkF m pc Ls (.double y :: .double x :: st))) := by
  subst hq; exact Go.of (fun _ r => XS.daddS h hx rfl hd rfl hn hv r) g
theorem Go.dsub (h : At T m c below) (hx : p.tables.exec = Jvm.exec) {pc q : Nat} {Ls : Array Slot} {st : List Value} {x y v : UInt64} (hd : decode c.code pc = .ok (.dsub, 1)) (hn : NoNaN64 (FP.dsub x y)) (hv : FP.dsub x y = v) (hq : pc + 1 = q) (g : Go p e below Q (T.setTop (mkF m q Ls (.double v :: st)))) : Go p e below Q (T.setTop (mkF m pc Ls (.double y :: .double x :: st))) := by
  subst hq; exact Go.of (fun _ r => XS.dsubS h hx rfl hd rfl hn hv r) g
theorem Go.dmul (h : At T m c below) (hx : p.tables.exec = Jvm.exec) {pc q : Nat} {Ls : Array Slot} {st : List Value} {x y v : UInt64} (hd : decode c.code pc = .ok (.dmul, 1)) (hn : NoNaN64 (FP.dmul x y)) (hv : FP.dmul x y = v) (hq : pc + 1 = q) (g : Go p e below Q (T.setTop (mkF m q Ls (.double v :: st)))) : Go p e below Q (T.setTop (mkF m pc Ls (.double y :: .double x :: st))) := by
  subst hq; exact Go.of (fun _ r => XS.dmulS h hx rfl hd rfl hn hv r) g
theorem Go.ddiv (h : At T m c below) (hx : p.tables.exec = Jvm.exec) {pc q : Nat} {Ls : Array Slot} {st : List Value} {x y v : UInt64} (hd : decode c.code pc = .ok (.ddiv, 1)) (hn : NoNaN64 (FP.ddiv x y)) (hv : FP.ddiv x y = v) (hq : pc + 1 = q) (g : Go p e below Q (T.setTop (mkF m q Ls (.double v :: st)))) : Go p e below Q (T.setTop (mkF m pc Ls (.double y :: .double x :: st))) := by
  subst hq; exact Go.of (fun _ r => XS.ddivS h hx rfl hd rfl hn hv r) g
theorem Go.dcmp (h : At T m c below) (hx : p.tables.exec = Jvm.exec) {pc q : Nat} {Ls : Array Slot} {st : List Value} {o : CmpOp} {x y : UInt64} {v : Int32} (hd : decode c.code pc = .ok (.dcmp o, 1)) (hv : cmpValue (FP.dcmp x y) o = v) (hq : pc + 1 = q) (g : Go p e below Q (T.setTop (mkF m q Ls (.int v :: st)))) : Go p e below Q (T.setTop (mkF m pc Ls (.double y :: .double x :: st))) := by
  subst hq; exact Go.of (fun _ r => XS.dcmpS h hx rfl hd rfl hv r) g
theorem Go.fcmp (h : At T m c below) (hx : p.tables.exec = Jvm.exec) {pc q : Nat} {Ls : Array Slot} {st : List Value} {o : CmpOp} {x y : UInt32} {v : Int32} (hd : decode c.code pc = .ok (.fcmp o, 1)) (hv : cmpValue (FP.fcmp x y) o = v) (hq : pc + 1 = q) (g : Go p e below Q (T.setTop (mkF m q Ls (.int v :: st)))) : Go p e below Q (T.setTop (mkF m pc Ls (.float y :: .float x :: st))) := by
  subst hq; exact Go.of (fun _ r => XS.fcmpS h hx rfl hd rfl hv r) g
theorem Go.dup (h : At T m c below) (hx : p.tables.exec = Jvm.exec) {pc q : Nat} {Ls : Array Slot} {st : List Value} {v : Value} (hd : decode c.code pc = .ok (.dup, 1)) (hc : v.category = 1) (hq : pc + 1 = q) (g : Go p e below Q (T.setTop (mkF m q Ls (v :: v :: st)))) : Go p e below Q (T.setTop (mkF m pc Ls (v :: st))) := by
  subst hq; exact Go.of (fun _ r => XS.dup h hx rfl hd rfl hc r) g
theorem Go.dup2 (h : At T m c below) (hx : p.tables.exec = Jvm.exec) {pc q : Nat} {Ls : Array Slot} {st : List Value} {v w : Value} (hd : decode c.code pc = .ok (.dup2, 1)) (hc : v.category = 1) (hc2 : w.category = 1) (hq : pc + 1 = q) (g : Go p e below Q (T.setTop (mkF m q Ls (v :: w :: v :: w :: st)))) : Go p e below Q (T.setTop (mkF m pc Ls (v :: w :: st))) := by
  subst hq; exact Go.of (fun _ r => Jvm.Free.XT.dup2 h hx rfl hd rfl hc hc2 r) g
theorem Go.pop (h : At T m c below) (hx : p.tables.exec = Jvm.exec) {pc q : Nat} {Ls : Array Slot} {st : List Value} {v : Value} (hd : decode c.code pc = .ok (.pop, 1)) (hc : v.category = 1) (hq : pc + 1 = q) (g : Go p e below Q (T.setTop (mkF m q Ls st))) : Go p e below Q (T.setTop (mkF m pc Ls (v :: st))) := by
  subst hq; exact Go.of (fun _ r => XS.pop h hx rfl hd rfl hc r) g
theorem step_dup2x1 {tb : Tables} [Ours tb] {target : State} {g : JFrame} (h : At T m c below) (hx : tb.exec = Jvm.exec) (hg : g.method = m) {x : Int64} {b : Value} {rest : List Value} (hd : decode c.code g.pc = .ok (.dup2_x1, 1)) (hs : g.stack = .long x :: b :: rest) (hb : b.category = 1)
    (hr : Steps tb e below (T.setTop { g with pc := g.pc + 1, stack := .long x :: b :: .long x :: rest }) target) : Steps tb e below (T.setTop g) target := by
  subst hg
  jvm_step h [h.top, hx, hd, hs, hb, Value.category]
  exact ⟨hb, hr⟩
theorem Go.dup2x1 (h : At T m c below) (hx : p.tables.exec = Jvm.exec) {pc q : Nat} {Ls : Array Slot} {st : List Value} {x : Int64} {b : Value} (hd : decode c.code pc = .ok (.dup2_x1, 1)) (hb : b.category = 1) (hq : pc + 1 = q) (g : Go p e below Q (T.setTop (mkF m q Ls (.long x :: b :: .long x :: st)))) : Go p e below Q (T.setTop (mkF m pc Ls (.long x :: b :: st))) := by
  subst hq; exact Go.of (fun _ r => step_dup2x1 h hx rfl hd rfl hb r) g
theorem Go.iinc (h : At T m c below) (hx : p.tables.exec = Jvm.exec) {pc q : Nat} {Ls : Array Slot} {st : List Value} {k : Nat} {cst : Int} {x v : Int32} {l2 : Array Slot} (hd : decode c.code pc = .ok (.iinc k cst, 3)) (hl : Ls[k]? = some (.val (.int x))) (hv : x + Int32.ofInt cst = v) (hl2 : storeLocals Ls k (.int v) = some l2) (hq : pc + 3 = q) (g : Go p e below Q (T.setTop (mkF m q l2 st))) : Go p e below Q (T.setTop (mkF m pc Ls st)) := by
  subst hq hv; exact Go.of (fun _ r => XS.iinc h hx rfl hd hl hl2 r) g
theorem Go.goto (h : At T m c below) (hx : p.tables.exec = Jvm.exec) {pc q : Nat} {Ls : Array Slot} {st : List Value} {o : Int} (hd : decode c.code pc = .ok (.goto o, 3)) (ho : 0 ≤ (pc : Int) + o) (hq : ((pc : Int) + o).toNat = q) (g : Go p e below Q (T.setTop (mkF m q Ls st))) : Go p e below Q (T.setTop (mkF m pc Ls st)) := Go.of (fun _ r => XS.goto h hx rfl rfl hd ho hq r) g
theorem Go.ifY (h : At T m c below) (hx : p.tables.exec = Jvm.exec) {pc q : Nat} {Ls : Array Slot} {st : List Value} {cd : ClassFile.Cond} {x : Int32} {o : Int} (hd : decode c.code pc = .ok (.ifCond cd o, 3)) (hc : ifCond.holds cd x = true) (ho : 0 ≤ (pc : Int) + o) (hq : ((pc : Int) + o).toNat = q) (g : Go p e below Q (T.setTop (mkF m q Ls st))) : Go p e below Q (T.setTop (mkF m pc Ls (.int x :: st))) := Go.of (fun _ r => XS.ifYes h hx rfl rfl hd rfl hc ho hq r) g
theorem Go.ifN (h : At T m c below) (hx : p.tables.exec = Jvm.exec) {pc q : Nat} {Ls : Array Slot} {st : List Value} {cd : ClassFile.Cond} {x : Int32} {o : Int} (hd : decode c.code pc = .ok (.ifCond cd o, 3)) (hc : ifCond.holds cd x = false) (hq : pc + 3 = q) (g : Go p e below Q (T.setTop (mkF m q Ls st))) : Go p e below Q (T.setTop (mkF m pc Ls (.int x :: st))) := by
  subst hq; exact Go.of (fun _ r => XS.ifNo h hx rfl hd rfl hc r) g
theorem Go.icmpY (h : At T m c below) (hx : p.tables.exec = Jvm.exec) {pc q : Nat} {Ls : Array Slot} {st : List Value} {cd : ClassFile.Cond} {x y : Int32} {o : Int} (hd : decode c.code pc = .ok (.if_icmp cd o, 3)) (hc : if_icmp.holds cd x y = true) (ho : 0 ≤ (pc : Int) + o) (hq : ((pc : Int) + o).toNat = q) (g : Go p e below Q (T.setTop (mkF m q Ls st))) : Go p e below Q (T.setTop (mkF m pc Ls (.int y :: .int x :: st))) := Go.of (fun _ r => XS.icmpYes h hx rfl rfl hd rfl hc ho hq r) g
theorem Go.icmpN (h : At T m c below) (hx : p.tables.exec = Jvm.exec) {pc q : Nat} {Ls : Array Slot} {st : List Value} {cd : ClassFile.Cond} {x y : Int32} {o : Int} (hd : decode c.code pc = .ok (.if_icmp cd o, 3)) (hc : if_icmp.holds cd x y = false) (hq : pc + 3 = q) (g : Go p e below Q (T.setTop (mkF m q Ls st))) : Go p e below Q (T.setTop (mkF m pc Ls (.int y :: .int x :: st))) := by
  subst hq; exact Go.of (fun _ r => XS.icmpNo h hx rfl hd rfl hc r) g
theorem Go.acmpY (h : At T m c below) (hx : p.tables.exec = Jvm.exec) {pc q : Nat} {Ls : Array Slot} {st : List Value} {cd : ClassFile.ACond} {a b : Addr} {o : Int} (hd : decode c.code pc = .ok (.if_acmp cd o, 3)) (hc : if_acmp.holds cd (some a) (some b) = true) (ho : 0 ≤ (pc : Int) + o) (hq : ((pc : Int) + o).toNat = q) (g : Go p e below Q (T.setTop (mkF m q Ls st))) : Go p e below Q (T.setTop (mkF m pc Ls (.ref b :: .ref a :: st))) := Go.of (fun _ r => XS.acmpYes h hx rfl rfl hd rfl hc ho hq r) g
theorem Go.acmpN (h : At T m c below) (hx : p.tables.exec = Jvm.exec) {pc q : Nat} {Ls : Array Slot} {st : List Value} {cd : ClassFile.ACond} {a b : Addr} {o : Int} (hd : decode c.code pc = .ok (.if_acmp cd o, 3)) (hc : if_acmp.holds cd (some a) (some b) = false) (hq : pc + 3 = q) (g : Go p e below Q (T.setTop (mkF m q Ls st))) : Go p e below Q (T.setTop (mkF m pc Ls (.ref b :: .ref a :: st))) := by
  subst hq; exact Go.of (fun _ r => XS.acmpNo h hx rfl hd rfl hc r) g
theorem Go.nullY (h : At T m c below) (hx : p.tables.exec = Jvm.exec) {pc q : Nat} {Ls : Array Slot} {st : List Value} {o : Int} (hd : decode c.code pc = .ok (.ifnull o, 3)) (ho : 0 ≤ (pc : Int) + o) (hq : ((pc : Int) + o).toNat = q) (g : Go p e below Q (T.setTop (mkF m q Ls st))) : Go p e below Q (T.setTop (mkF m pc Ls (.null :: st))) := Go.of (fun _ r => XS.ifnullYes h hx rfl rfl hd rfl ho hq r) g
theorem Go.nullN (h : At T m c below) (hx : p.tables.exec = Jvm.exec) {pc q : Nat} {Ls : Array Slot} {st : List Value} {o : Int} {b : Addr} (hd : decode c.code pc = .ok (.ifnull o, 3)) (hq : pc + 3 = q) (g : Go p e below Q (T.setTop (mkF m q Ls st))) : Go p e below Q (T.setTop (mkF m pc Ls (.ref b :: st))) := by
  subst hq; exact Go.of (fun _ r => XS.ifnullNo h hx rfl hd rfl r) g
theorem Go.nonnullY (h : At T m c below) (hx : p.tables.exec = Jvm.exec) {pc q : Nat} {Ls : Array Slot} {st : List Value} {o : Int} {b : Addr} (hd : decode c.code pc = .ok (.ifnonnull o, 3)) (ho : 0 ≤ (pc : Int) + o) (hq : ((pc : Int) + o).toNat = q) (g : Go p e below Q (T.setTop (mkF m q Ls st))) : Go p e below Q (T.setTop (mkF m pc Ls (.ref b :: st))) := Go.of (fun _ r => XS.ifnonnullYes h hx rfl rfl hd rfl ho hq r) g
theorem Go.nonnullN (h : At T m c below) (hx : p.tables.exec = Jvm.exec) {pc q : Nat} {Ls : Array Slot} {st : List Value} {o : Int} (hd : decode c.code pc = .ok (.ifnonnull o, 3)) (hq : pc + 3 = q) (g : Go p e below Q (T.setTop (mkF m q Ls st))) : Go p e below Q (T.setTop (mkF m pc Ls (.null :: st))) := by
  subst hq; exact Go.of (fun _ r => XS.ifnonnullNo h hx rfl hd rfl r) g
theorem Go.ldcI (X : Stand p l e R s m args below meth c T locs cells slots) (hx : p.tables.exec = Jvm.exec) {own : String} {index : Nat} {v : Int32} (hown : s.vm.findClass own = some m.cls) (w : (Jvm.Cond.constant own index v).before args s = true) {pc q : Nat} {Ls : Array Slot} {st : List Value} (hd : decode c.code pc = .ok (.ldc index, 2)) (hq : pc + 2 = q) (g : Go p e below Q (T.setTop (mkF m q Ls (.int v :: st)))) : Go p e below Q (T.setTop (mkF m pc Ls st)) := by
  subst hq; exact Go.of (fun _ r => X.ldcInt hx hown w (g := mkF m pc Ls st) rfl hd _ r) g
theorem Go.ldc2J (X : Stand p l e R s m args below meth c T locs cells slots) (hx : p.tables.exec = Jvm.exec) {own : String} {index : Nat} {v : Int64} (hown : s.vm.findClass own = some m.cls) (w : (Jvm.Cond.constantLong own index v).before args s = true) {pc q : Nat} {Ls : Array Slot} {st : List Value} (hd : decode c.code pc = .ok (.ldc2_w index, 3)) (hq : pc + 3 = q) (g : Go p e below Q (T.setTop (mkF m q Ls (.long v :: st)))) : Go p e below Q (T.setTop (mkF m pc Ls st)) := by
  subst hq; exact Go.of (fun _ r => X.ldc2Long hx hown w (g := mkF m pc Ls st) rfl hd _ r) g
theorem Go.ldc2D (X : Stand p l e R s m args below meth c T locs cells slots) (hx : p.tables.exec = Jvm.exec) {own : String} {index : Nat} {v : UInt64} (hown : s.vm.findClass own = some m.cls) (w : (Jvm.Cond.constantDouble own index v).before args s = true) {pc q : Nat} {Ls : Array Slot} {st : List Value} (hd : decode c.code pc = .ok (.ldc2_w index, 3)) (hq : pc + 3 = q) (g : Go p e below Q (T.setTop (mkF m q Ls (.double v :: st)))) : Go p e below Q (T.setTop (mkF m pc Ls st)) := by
  subst hq; exact Go.of (fun _ r => X.ldc2DoubleC hx hown w (g := mkF m pc Ls st) rfl hd _ r) g
theorem Go.ldcF (X : Stand p l e R s m args below meth c T locs cells slots) (hx : p.tables.exec = Jvm.exec) {own : String} {index : Nat} {v : UInt32} (hown : s.vm.findClass own = some m.cls) (w : (Jvm.Cond.constantFloat own index v).before args s = true) {pc q : Nat} {Ls : Array Slot} {st : List Value} (hd : decode c.code pc = .ok (.ldc index, 2)) (hq : pc + 2 = q) (g : Go p e below Q (T.setTop (mkF m q Ls (.float v :: st)))) : Go p e below Q (T.setTop (mkF m pc Ls st)) := by
  subst hq; exact Go.of (fun _ r => X.ldcFloatC hx hown w (g := mkF m pc Ls st) rfl hd _ r) g
end OwnGo

/-! own layer 3: steps that touch the heap, and calls by contract, in the same forward form -/
section OwnHeap
variable {p : Program} {l : Launch} {e : Env} {R : Room} {s : State} {m : MethodId} {args : Array Value} {below : List Frame} {meth : Method} {c : Code} {T : State} {locs : List Loc} {cells slots : Nat} {Q : Outcome → State → Prop} {Z : State} {a0 : Array Value} {h : Heap}
/-- a callee's contract at one call -/
abbrev Con (l : Launch) (Z : State) (y : MethodName) (bytes : ByteArray) (maxL : Nat) (ret : Option FieldType) (rm : Room) (as' : Array Value) (h : Heap) (Qv : Option Value → Heap → List Loc → Prop) : Prop :=
  MetFree l y (head1 [Jvm.Cond.code y bytes maxL ret] rm) (fun a U => a = as' ∧ Z.Warmed39 U.vm ∧ U.heap = h) (fun _ _ _ _ _ => True) (fun _ U o U' => ∃ v L, o = .returned v ∧ Qv v U'.heap L ∧ FrameEnd U o U' L rm.cells rm.slots)
theorem Go.new (X : Stand p l e R s m args below meth c T locs cells slots) (hx : p.tables.exec = Jvm.exec) (hZ : Z.Warmed39 s.vm) {own C : String} {index n : Nat} (hown : s.vm.findClass own = some m.cls) (w : (Jvm.Cond.classLink own index C).before a0 Z = true) (wi : (Jvm.Cond.instantiable C n).before a0 Z = true) (wz : (Jvm.Cond.initialized C).before a0 Z = true) (eT : T.heap = h)
    {pc q : Nat} {Ls : Array Slot} {st : List Value} (hd : decode c.code pc = .ok (.new index, 3)) (hc : cells + 1 ≤ R.cells) (hl : slots + n ≤ R.slots) (hq : pc + 3 = q)
    (k : ∀ (T' : State) (h' : Heap) (a : Addr), a = h.size → Stand p l e R s m args below meth c T' locs (cells + 1) (slots + n) → T'.heap = h' → Ext h h' → Exa Z h' a C → (∀ {O nm d : String} {ty : FieldType}, Laid Z a0 C O nm d → parseFieldDescriptor d = some ty → Fld Z h' a O nm d (defaultValue ty)) →
      Go p e below Q (T'.setTop (mkF m q Ls (.ref a :: st)))) : Go p e below Q (T.setTop (mkF m pc Ls st)) := by
  subst hq
  obtain ⟨T', h', X', e', E', A', D', -, st'⟩ := newO X hx hZ hown w wi wz eT (g := mkF m pc Ls st) rfl hd hc hl
  exact Go.of st' (k T' h' _ rfl X' e' E' A' D')
theorem Go.getf (X : Stand p l e R s m args below meth c T locs cells slots) (hx : p.tables.exec = Jvm.exec) (hZ : Z.Warmed39 s.vm) {own O n d : String} {index : Nat} (hown : s.vm.findClass own = some m.cls) (w : (Jvm.Cond.fieldLink own index O n d).before a0 Z = true) (eT : T.heap = h) {a : Addr} {v : Value} (F : Fld Z h a O n d v)
    {pc q : Nat} {Ls : Array Slot} {st : List Value} (hd : decode c.code pc = .ok (.getfield index, 3)) (hq : pc + 3 = q)
    (k : ∀ T' : State, Stand p l e R s m args below meth c T' locs cells slots → T'.heap = h → Go p e below Q (T'.setTop (mkF m q Ls (v :: st)))) : Go p e below Q (T.setTop (mkF m pc Ls (.ref a :: st))) := by
  subst hq
  obtain ⟨T', X', e', st'⟩ := getF X hx hZ hown (host := "") (Or.inl w) Via.refl eT F (g := mkF m pc Ls (.ref a :: st)) rfl rfl hd
  exact Go.of st' (k T' X' e')
theorem Go.gets (X : Stand p l e R s m args below meth c T locs cells slots) (hx : p.tables.exec = Jvm.exec) (hZ : Z.Warmed39 s.vm) {own O n d : String} {index : Nat} (hown : s.vm.findClass own = some m.cls) (w : (Jvm.Cond.fieldLink own index O n d).before a0 Z = true) (eT : T.heap = h) {v : Value} (F : Sta Z h O n d v)
    {pc q : Nat} {Ls : Array Slot} {st : List Value} (hd : decode c.code pc = .ok (.getstatic index, 3)) (hq : pc + 3 = q)
    (k : ∀ T' : State, Stand p l e R s m args below meth c T' locs cells slots → T'.heap = h → Go p e below Q (T'.setTop (mkF m q Ls (v :: st)))) : Go p e below Q (T.setTop (mkF m pc Ls st)) := by
  subst hq
  obtain ⟨T', X', e', st'⟩ := getS X hx hZ hown (host := "") w Via.refl eT F (g := mkF m pc Ls st) rfl hd
  exact Go.of st' (k T' X' e')
theorem Go.putf (X : Stand p l e R s m args below meth c T locs cells slots) (hx : p.tables.exec = Jvm.exec) (hZ : Z.Warmed39 s.vm) {own O n d C : String} {index kk : Nat} {ty : FieldType} (hown : s.vm.findClass own = some m.cls) (w : (Jvm.Cond.fieldLink own index O n d).before a0 Z = true) (eT : T.heap = h) {a : Addr} {v old : Value} (F : Fld Z h a O n d old) (E : Exa Z h a C)
    (L : (Jvm.Cond.lays C O n d).before a0 Z = true ∨ ((Jvm.Cond.laysFinal C O n d).before a0 Z = true ∧ own = O ∧ meth.name = "<init>")) (wi : (Jvm.Cond.instantiable C kk).before a0 Z = true) (hty : parseFieldDescriptor d = some ty) (hn : narrow ty v = v) (hf : fits ty v = true)
    {pc q : Nat} {Ls : Array Slot} {st : List Value} (hd : decode c.code pc = .ok (.putfield index, 3)) (hq : pc + 3 = q)
    (k : ∀ (T' : State) (h' : Heap), Stand p l e R s m args below meth c T' (locs ++ [⟨a, Jvm.RoadKit.slotOf Z O n d⟩]) cells slots → T'.heap = h' → Wr h h' a (Jvm.RoadKit.slotOf Z O n d) v → Go p e below Q (T'.setTop (mkF m q Ls st))) : Go p e below Q (T.setTop (mkF m pc Ls (v :: .ref a :: st))) := by
  subst hq
  obtain ⟨T', h', X', e', W', st'⟩ := putF X hx hZ hown (host := "") (Or.inl w) Via.refl eT F E L wi hty hn hf (g := mkF m pc Ls (v :: .ref a :: st)) rfl rfl hd
  exact Go.of st' (k T' h' X' e' W')
theorem Go.init (X : Stand p l e R s m args below meth c T locs cells slots) (hx : p.tables.exec = Jvm.exec) (hZ : Z.Warmed39 s.vm) {own : String} {index : Nat} (hown : s.vm.findClass own = some m.cls) (w1 : (Jvm.Cond.methodLink own index Lib.objectInit).before a0 Z = true) (w2 : (Jvm.Cond.instanceMethod Lib.objectInit).before a0 Z = true) (w3 : (Jvm.Cond.code Lib.objectInit ⟨#[0xb1]⟩ 1 none).before a0 Z = true) (eT : T.heap = h)
    {pc q : Nat} {Ls : Array Slot} {st : List Value} {a : Addr} {W : Nat} (hd : decode c.code pc = .ok (.invokespecial index, 3)) (hsz : Ls.size = c.maxLocals) (hf : 1 ≤ R.frames) (hW : (st.map fun v => v.category).sum ≤ W) (hl : W + 12 ≤ R.locals) (hq : pc + 3 = q)
    (k : ∀ T' : State, Stand p l e R s m args below meth c T' locs cells slots → T'.heap = h → Go p e below Q (T'.setTop (mkF m q Ls st))) : Go p e below Q (T.setTop (mkF m pc Ls (.ref a :: st))) := by
  subst hq
  obtain ⟨T', X', e', st'⟩ := initO X hx hZ hown w1 w2 w3 eT (g := mkF m pc Ls (.ref a :: st)) rfl hsz rfl hd hf (W := W) (by show 2 * 0 + _ ≤ _; omega) hl
  exact Go.of st' (k T' X' e')
theorem Go.special (X : Stand p l e R s m args below meth c T locs cells slots) (hx : p.tables.exec = Jvm.exec) (hZ : Z.Warmed39 s.vm) {own : String} {index : Nat} {y : MethodName} (hy1 : y.name = "<init>") (hown : s.vm.findClass own = some m.cls) (w1 : (Jvm.Cond.methodLink own index y).before a0 Z = true) (w2 : (Jvm.Cond.instanceMethod y).before a0 Z = true)
    {bytes : ByteArray} {maxL : Nat} (w3 : (Jvm.Cond.code y bytes maxL none).before a0 Z = true) (wz : (Jvm.Cond.initialized y.cls).before a0 Z = true) (hy : y.cls ≠ "java/lang/invoke/MethodHandle" ∧ y.cls ≠ "java/lang/invoke/VarHandle")
    {rm : Room} {as' : Array Value} {Qv : Option Value → Heap → List Loc → Prop} (hM : Con l Z y bytes maxL none rm as' h Qv) (eT : T.heap = h) {pc q : Nat} {Ls : Array Slot} {st : List Value} {a : Addr} {argsL rest : List Value} {W : Nat} (hd : decode c.code pc = .ok (.invokespecial index, 3))
    (hst : st = argsL.reverse ++ .ref a :: rest) (has : as' = (.ref a :: argsL).toArray) (hlen : ∀ sig, parseMethodDescriptor y.desc = some sig → argsL.length = sig.parameters.length) (hsz : Ls.size = c.maxLocals) (hW : (rest.map fun v => v.category).sum ≤ W)
    (hf : rm.frames + 1 ≤ R.frames) (hl : W + (maxL + 11) + rm.locals ≤ R.locals) (hc : cells + rm.cells ≤ R.cells) (hs : slots + rm.slots ≤ R.slots) (hq : pc + 3 = q)
    (k : ∀ (T' : State) (L : List Loc) (v : Option Value), Stand p l e R s m args below meth c T' (locs ++ L) (cells + rm.cells) (slots + rm.slots) → Qv v T'.heap L → Go p e below Q (T'.setTop (mkF m q Ls (v.toList ++ rest)))) : Go p e below Q (T.setTop (mkF m pc Ls st)) := by
  subst hq hst has
  obtain ⟨v, vm₁, ⟨T', L', k', n'⟩, -, X', ⟨Lc, hQ, l1, y1, z1⟩, st'⟩ := X.specialBack hx (y := y) hy1 hown (mvT hZ w1) (mvT hZ w2) (mvT hZ w3) hy (backOf (W := W) hM hZ w3 wz hf hl) (g := mkF m pc Ls (argsL.reverse ++ .ref a :: rest)) rfl hsz (Steps.refl _) (a := a) (argsL := argsL) (rest := rest) hlen rfl (by show 2 * 0 + _ ≤ _; omega) hd (fun _ _ => ⟨rfl, eT, hc, hs⟩)
  dsimp only [Pt.U, Pt.locs, Pt.cells, Pt.slots] at X' l1 y1 z1 st' hQ
  subst l1 y1 z1
  exact Go.tr st' (k T' Lc v X' hQ)
theorem Go.virtual (X : Stand p l e R s m args below meth c T locs cells slots) (hx : p.tables.exec = Jvm.exec) (hZ : Z.Warmed39 s.vm) {own C : String} {index : Nat} {y : MethodName} (hown : s.vm.findClass own = some m.cls) (w1 : (Jvm.Cond.methodLink own index y).before a0 Z = true) (w2 : (Jvm.Cond.declares y).before a0 Z = true) (w3 : (Jvm.Cond.selects C y y).before a0 Z = true) (w4 : (Jvm.Cond.instanceMethod y).before a0 Z = true)
    {bytes : ByteArray} {maxL : Nat} {ret : Option FieldType} (w5 : (Jvm.Cond.code y bytes maxL ret).before a0 Z = true) (wz : (Jvm.Cond.initialized y.cls).before a0 Z = true) (hy : y.cls ≠ "java/lang/invoke/MethodHandle" ∧ y.cls ≠ "java/lang/invoke/VarHandle")
    {rm : Room} {as' : Array Value} {Qv : Option Value → Heap → List Loc → Prop} (hM : Con l Z y bytes maxL ret rm as' h Qv) (eT : T.heap = h) {a : Addr} (E : Exa Z h a C) {pc q : Nat} {Ls : Array Slot} {st : List Value} {argsL rest : List Value} {W : Nat} (hd : decode c.code pc = .ok (.invokevirtual index, 3))
    (hst : st = argsL.reverse ++ .ref a :: rest) (has : as' = (.ref a :: argsL).toArray) (hlen : ∀ sig, parseMethodDescriptor y.desc = some sig → argsL.length = sig.parameters.length) (hsz : Ls.size = c.maxLocals) (hW : (rest.map fun v => v.category).sum ≤ W)
    (hf : rm.frames + 1 ≤ R.frames) (hl : W + (maxL + 11) + rm.locals ≤ R.locals) (hc : cells + rm.cells ≤ R.cells) (hs : slots + rm.slots ≤ R.slots) (hq : pc + 3 = q)
    (k : ∀ (T' : State) (L : List Loc) (v : Option Value), Stand p l e R s m args below meth c T' (locs ++ L) (cells + rm.cells) (slots + rm.slots) → Qv v T'.heap L → Go p e below Q (T'.setTop (mkF m q Ls (v.toList ++ rest)))) : Go p e below Q (T.setTop (mkF m pc Ls st)) := by
  subst hq hst has
  obtain ⟨cq, kq, qa, -, qc⟩ := isOf hZ eT E
  obtain ⟨v, vm₁, ⟨T', L', k', n'⟩, -, X', ⟨Lc, hQ, l1, y1, z1⟩, st'⟩ := X.virtualBack hx (y := y) (z := y) hown (mvT hZ w1) (mvT hZ w2) (notFace_of_selects (args := #[]) (mvT hZ w3)) (mvT hZ w3) (mvT hZ w4) hy (backOf (W := W) hM hZ w5 wz hf hl) qa qc (g := mkF m pc Ls (argsL.reverse ++ .ref a :: rest)) rfl hsz (Steps.refl _) (argsL := argsL) (rest := rest) hlen rfl (by show 2 * 0 + _ ≤ _; omega) hd (fun _ _ => ⟨rfl, eT, hc, hs⟩)
  dsimp only [Pt.U, Pt.locs, Pt.cells, Pt.slots] at X' l1 y1 z1 st' hQ
  subst l1 y1 z1
  exact Go.tr st' (k T' Lc v X' hQ)
theorem Go.static (X : Stand p l e R s m args below meth c T locs cells slots) (hx : p.tables.exec = Jvm.exec) (hZ : Z.Warmed39 s.vm) {own : String} {index : Nat} {y : MethodName} (hown : s.vm.findClass own = some m.cls) (w1 : (Jvm.Cond.methodLink own index y).before a0 Z = true) (w2 : (Jvm.Cond.static y).before a0 Z = true)
    {bytes : ByteArray} {maxL : Nat} {ret : Option FieldType} (w3 : (Jvm.Cond.code y bytes maxL ret).before a0 Z = true) (wz : (Jvm.Cond.initialized y.cls).before a0 Z = true) (hy : y.cls ≠ "java/lang/invoke/MethodHandle" ∧ y.cls ≠ "java/lang/invoke/VarHandle")
    {rm : Room} {as' : Array Value} {Qv : Option Value → Heap → List Loc → Prop} (hM : Con l Z y bytes maxL ret rm as' h Qv) (eT : T.heap = h) {pc q : Nat} {Ls : Array Slot} {st : List Value} {argsL rest : List Value} {W : Nat} (hd : decode c.code pc = .ok (.invokestatic index, 3))
    (hst : st = argsL.reverse ++ rest) (has : as' = argsL.toArray) (hlen : ∀ sig, parseMethodDescriptor y.desc = some sig → argsL.length = sig.parameters.length) (hsz : Ls.size = c.maxLocals) (hW : (rest.map fun v => v.category).sum ≤ W)
    (hf : rm.frames + 1 ≤ R.frames) (hl : W + (maxL + 11) + rm.locals ≤ R.locals) (hc : cells + rm.cells ≤ R.cells) (hs : slots + rm.slots ≤ R.slots) (hq : pc + 3 = q)
    (k : ∀ (T' : State) (L : List Loc) (v : Option Value), Stand p l e R s m args below meth c T' (locs ++ L) (cells + rm.cells) (slots + rm.slots) → Qv v T'.heap L → Go p e below Q (T'.setTop (mkF m q Ls (v.toList ++ rest)))) : Go p e below Q (T.setTop (mkF m pc Ls st)) := by
  subst hq hst has
  obtain ⟨v, vm₁, ⟨T', L', k', n'⟩, -, X', ⟨Lc, hQ, l1, y1, z1⟩, st'⟩ := Jvm.LawKit.callS X hx (y := y) hown (mvT hZ w1) (mvT hZ w2) (mvT hZ wz) (mvT hZ w3) hy (backOf (W := W) hM hZ w3 wz hf hl) (g := mkF m pc Ls (argsL.reverse ++ rest)) rfl hsz (argsL := argsL) (rest := rest) hlen rfl (by show 2 * 0 + _ ≤ _; omega) hd (fun _ _ => ⟨rfl, eT, hc, hs⟩)
  dsimp only [Pt.U, Pt.locs, Pt.cells, Pt.slots] at X' l1 y1 z1 st' hQ
  subst l1 y1 z1
  exact Go.of st' (k T' Lc v X' hQ)
/-- a static call that a payer of the library answers, and that leaves all as it was -/
theorem Go.nat (X : Stand p l e R s m args below meth c T locs cells slots) (hx : p.tables.exec = Jvm.exec) (hZ : Z.Warmed39 s.vm) {own : String} {index : Nat} {y : MethodName} (hown : s.vm.findClass own = some m.cls) (w1 : (Jvm.Cond.methodLink own index y).before a0 Z = true) (w2 : (Jvm.Cond.static y).before a0 Z = true) (w3 : (Jvm.Cond.initialized y.cls).before a0 Z = true)
    {by0 : ByteArray} {ml : Nat} {rt : Option FieldType} (w4 : (Jvm.Cond.code y by0 ml rt).before a0 Z = true) (hy : y.cls ≠ "java/lang/invoke/MethodHandle" ∧ y.cls ≠ "java/lang/invoke/VarHandle") (eT : T.heap = h) {W : Nat} {F : Array Value → Prop} {val : Value}
    (hK : (Jvm.Cond.code y by0 ml rt).before args s = true → Back l R p e below s args y 3 W (fun A a' => A.cells ≤ R.cells ∧ A.slots ≤ R.slots ∧ F a') (fun A _ v B => v = some val ∧ B = A))
    {pc q : Nat} {Ls : Array Slot} {st : List Value} {argsL rest : List Value} (hd : decode c.code pc = .ok (.invokestatic index, 3)) (hst : st = argsL.reverse ++ rest) (hlen : ∀ sig, parseMethodDescriptor y.desc = some sig → argsL.length = sig.parameters.length) (hsz : Ls.size = c.maxLocals) (hW : (rest.map fun v => v.category).sum ≤ W)
    (hc : cells ≤ R.cells) (hs : slots ≤ R.slots) (hF : F argsL.toArray) (hq : pc + 3 = q)
    (k : ∀ T' : State, Stand p l e R s m args below meth c T' locs cells slots → T'.heap = h → Go p e below Q (T'.setTop (mkF m q Ls (val :: rest)))) : Go p e below Q (T.setTop (mkF m pc Ls st)) := by
  subst hq hst
  obtain ⟨T', X', e', st'⟩ := natS X hx hZ hown w1 w2 w3 w4 hy eT hK (g := mkF m pc Ls (argsL.reverse ++ rest)) rfl hsz hlen rfl (by show 2 * 0 + _ ≤ _; omega) hd hc hs hF rfl
  exact Go.of st' (k T' X' e')
/-! words of the sheet by their place -/
theorem word {ts : List Jvm.Cond} (hw : ∀ d ∈ ts, d.before a0 Z = true) {d : Jvm.Cond} (i : Nat) (hi : ts[i]? = some d) : d.before a0 Z = true := hw _ (List.mem_of_getElem? hi)
end OwnHeap
/-! own layer 6: bodies that may load String constants cold -/
section OwnStr
variable {p : Program} {l : Launch} {e : Env} {R : Room} {s : State} {V : Vm} {k0 : Nat} {m : MethodId} {args : Array Value} {below : List Frame} {meth : Method} {c : Code} {T : State} {locs : List Loc} {cells slots : Nat} {Q : Outcome → State → Prop} {Z : State} {a0 : Array Value} {h : Heap}
abbrev RetW (s : State) (Qv : Option Value → Heap → List Loc → Prop) (kc ks : Nat) : Outcome → State → Prop := fun o U' => ∃ v L, o = .returned v ∧ Qv v U'.heap L ∧ ReturnedEndW s o U' L kc ks
abbrev ConW (l : Launch) (Z : State) (y : MethodName) (bytes : ByteArray) (maxL : Nat) (ret : Option FieldType) (rm : Room) (as' : Array Value) (h : Heap) (Qv : Option Value → Heap → List Loc → Prop) : Prop :=
  MetFree l y (head1 [Jvm.Cond.code y bytes maxL ret] rm) (fun a U => a = as' ∧ Z.Warmed39 U.vm ∧ U.heap = h) (fun _ _ _ _ _ => True) (fun _ U o U' => ∃ v L, o = .returned v ∧ Qv v U'.heap L ∧ ReturnedEndW U o U' L rm.cells rm.slots)
theorem Go.doneW (X : Stand p l e R (s.setVm V) m args below meth c T locs cells slots) (hS : s.Since V k0) (hk0 : k0 ≤ T.heap.size) {g : JFrame} {v : Option Value} (hv : meth.sig.returnType = none → v = none) (hlocks : meth.locks = false)
    (hst : ∀ fs, (∀ (f : JFrame) (acts : List Action), f.method = m → f.locked = none → f.entered = [] → (doReturn e (T.setTop f) acts v).1 = T.setFrames fs) → Steps p.tables e below (T.setTop g) (T.setFrames fs))
    {Qv : Option Value → Heap → List Loc → Prop} {kc ks : Nat} (hc : cells ≤ kc) (hk : slots ≤ ks) (hq : Qv v T.heap locs) : Go p e below (RetW s Qv kc ks) (T.setTop g) := by
  obtain ⟨fs, hr, hrun, hended, h1, h2, h3, hsame⟩ := X.leaveW hS hk0 (v := v) hv hlocks
  exact ⟨_, _, hst fs hr, hrun, hended, v, locs, rfl, hq, h1, h2, h3, hsame.mono hc hk⟩
theorem Go.retVW (X : Stand p l e R (s.setVm V) m args below meth c T locs cells slots) (hS : s.Since V k0) (hk0 : k0 ≤ T.heap.size) (hx : p.tables.exec = Jvm.exec) {pc : Nat} {Ls : Array Slot} (hret : meth.sig.returnType = none) (hlk : meth.locks = false) (hd : decode c.code pc = .ok (.return_, 1))
    {Qv : Option Value → Heap → List Loc → Prop} {kc ks : Nat} (hc : cells ≤ kc) (hk : slots ≤ ks) (hq : Qv none T.heap locs) : Go p e below (RetW s Qv kc ks) (T.setTop (mkF m pc Ls [])) :=
  Go.doneW X hS hk0 (fun _ => rfl) hlk (fun _ hr => X.returnOut hx hret hd hr) hc hk hq
theorem Go.retLW (X : Stand p l e R (s.setVm V) m args below meth c T locs cells slots) (hS : s.Since V k0) (hk0 : k0 ≤ T.heap.size) (hx : p.tables.exec = Jvm.exec) {pc : Nat} {Ls : Array Slot} {st : List Value} {z : Int64} (hret : meth.sig.returnType = some .long) (hlk : meth.locks = false) (hd : decode c.code pc = .ok (.lreturn, 1))
    {Qv : Option Value → Heap → List Loc → Prop} {kc ks : Nat} (hc : cells ≤ kc) (hk : slots ≤ ks) (hq : Qv (some (.long z)) T.heap locs) : Go p e below (RetW s Qv kc ks) (T.setTop (mkF m pc Ls ((.long z) :: st))) :=
  Go.doneW X hS hk0 (fun h => by rw [hret] at h; cases h) hlk (fun _ hr => retOut X hx hret rfl (Or.inr (Or.inl ⟨rfl, rfl, z, rfl⟩)) hd hr) hc hk hq
theorem Go.retDW (X : Stand p l e R (s.setVm V) m args below meth c T locs cells slots) (hS : s.Since V k0) (hk0 : k0 ≤ T.heap.size) (hx : p.tables.exec = Jvm.exec) {pc : Nat} {Ls : Array Slot} {st : List Value} {z : UInt64} (hret : meth.sig.returnType = some .double) (hlk : meth.locks = false) (hd : decode c.code pc = .ok (.dreturn, 1))
    {Qv : Option Value → Heap → List Loc → Prop} {kc ks : Nat} (hc : cells ≤ kc) (hk : slots ≤ ks) (hq : Qv (some (.double z)) T.heap locs) : Go p e below (RetW s Qv kc ks) (T.setTop (mkF m pc Ls ((.double z) :: st))) :=
  Go.doneW X hS hk0 (fun h => by rw [hret] at h; cases h) hlk (fun _ hr => retOut X hx hret rfl (Or.inr (Or.inr (Or.inl ⟨rfl, rfl, z, rfl⟩))) hd hr) hc hk hq
theorem Go.retFW (X : Stand p l e R (s.setVm V) m args below meth c T locs cells slots) (hS : s.Since V k0) (hk0 : k0 ≤ T.heap.size) (hx : p.tables.exec = Jvm.exec) {pc : Nat} {Ls : Array Slot} {st : List Value} {z : UInt32} (hret : meth.sig.returnType = some .float) (hlk : meth.locks = false) (hd : decode c.code pc = .ok (.freturn, 1))
    {Qv : Option Value → Heap → List Loc → Prop} {kc ks : Nat} (hc : cells ≤ kc) (hk : slots ≤ ks) (hq : Qv (some (.float z)) T.heap locs) : Go p e below (RetW s Qv kc ks) (T.setTop (mkF m pc Ls ((.float z) :: st))) :=
  Go.doneW X hS hk0 (fun h => by rw [hret] at h; cases h) hlk (fun _ hr => retOut X hx hret rfl (Or.inr (Or.inr (Or.inr (Or.inl ⟨rfl, rfl, z, rfl⟩)))) hd hr) hc hk hq
theorem Go.retIW (X : Stand p l e R (s.setVm V) m args below meth c T locs cells slots) (hS : s.Since V k0) (hk0 : k0 ≤ T.heap.size) (hx : p.tables.exec = Jvm.exec) {pc : Nat} {Ls : Array Slot} {st : List Value} {z : Int32} (hret : meth.sig.returnType = some .int) (hlk : meth.locks = false) (hd : decode c.code pc = .ok (.ireturn, 1))
    {Qv : Option Value → Heap → List Loc → Prop} {kc ks : Nat} (hc : cells ≤ kc) (hk : slots ≤ ks) (hq : Qv (some (.int z)) T.heap locs) : Go p e below (RetW s Qv kc ks) (T.setTop (mkF m pc Ls ((.int z) :: st))) :=
  Go.doneW X hS hk0 (fun h => by rw [hret] at h; cases h) hlk (fun _ hr => retOut X hx hret rfl (Or.inl ⟨rfl, Or.inl rfl, z, rfl⟩) hd hr) hc hk hq
theorem Go.retZW (X : Stand p l e R (s.setVm V) m args below meth c T locs cells slots) (hS : s.Since V k0) (hk0 : k0 ≤ T.heap.size) (hx : p.tables.exec = Jvm.exec) {pc : Nat} {Ls : Array Slot} {st : List Value} {z : Int32} (hret : meth.sig.returnType = some .boolean) (hlk : meth.locks = false) (hd : decode c.code pc = .ok (.ireturn, 1)) (hz : z = 0 ∨ z = 1)
    {Qv : Option Value → Heap → List Loc → Prop} {kc ks : Nat} (hc : cells ≤ kc) (hk : slots ≤ ks) (hq : Qv (some (.int z)) T.heap locs) : Go p e below (RetW s Qv kc ks) (T.setTop (mkF m pc Ls ((.int z) :: st))) :=
  Go.doneW X hS hk0 (fun h => by rw [hret] at h; cases h) hlk (fun _ hr => retOut X hx hret (by rcases hz with rfl | rfl <;> rfl) (Or.inl ⟨rfl, Or.inr (Or.inl rfl), z, rfl⟩) hd hr) hc hk hq
theorem Go.retAW (X : Stand p l e R (s.setVm V) m args below meth c T locs cells slots) (hS : s.Since V k0) (hk0 : k0 ≤ T.heap.size) (hx : p.tables.exec = Jvm.exec) {pc : Nat} {Ls : Array Slot} {st : List Value} {v : Value} {t : FieldType} (hret : meth.sig.returnType = some t) (hlk : meth.locks = false) (hd : decode c.code pc = .ok (.areturn, 1)) (ht : t.isReference = true) (hv : v.isRef = true) (hn : narrow t v = v)
    {Qv : Option Value → Heap → List Loc → Prop} {kc ks : Nat} (hc : cells ≤ kc) (hk : slots ≤ ks) (hq : Qv (some v) T.heap locs) : Go p e below (RetW s Qv kc ks) (T.setTop (mkF m pc Ls (v :: st))) :=
  Go.doneW X hS hk0 (fun h => by rw [hret] at h; cases h) hlk (fun _ hr => retOut X hx hret hn (Or.inr (Or.inr (Or.inr (Or.inr ⟨rfl, ht, hv⟩)))) hd hr) hc hk hq
theorem enterW {l : Launch} {Z : State} {y : MethodName} {bytes : ByteArray} {maxL : Nat} {ret : Option FieldType} {ws : List Jvm.Cond} {rm : Room} {as' : Array Value} {h0 : Heap} {Qv : Option Value → Heap → List Loc → Prop} {Ls : Array Slot} {kc ks : Nat}
    (hpn : plainFor y = true) (hef : ∀ m, entryFrame m as' maxL = mkF m 0 Ls [])
    (body : ∀ (p : Program) (e : Env) (s : State) (m : MethodId) (below : List Frame) (meth : Method) (c : Code) (s₁ : State) (V : Vm) (k0 : Nat), p.tables.exec = Jvm.exec → c.code = bytes → c.maxLocals = maxL → (s.setVm V).vm.findClass y.cls = some m.cls → meth.name = y.name → meth.sig.returnType = ret → meth.locks = false → Z.Warmed39 (s.setVm V).vm →
      Stand p l e rm (s.setVm V) m as' below meth c s₁ [] 0 0 → s₁.heap = h0 → s.Since V k0 → k0 ≤ h0.size → Go p e below (RetW s Qv kc ks) (s₁.setTop (mkF m 0 Ls []))) :
    MetFree l y (head1 (Jvm.Cond.code y bytes maxL ret :: ws) rm) (fun a U => a = as' ∧ Z.Warmed39 U.vm ∧ U.heap = h0) (fun _ _ _ _ _ => True) (fun _ U o U' => ∃ v L, o = .returned v ∧ Qv v U'.heap L ∧ ReturnedEndW U o U' L kc ks) := by
  refine MetFree.of_bodySF hpn hisR ?_
  intro p e s m args below meth c s₁ Bd hml0 hP hK
  obtain ⟨rfl, hZ, hh⟩ := hP
  have e0 : s₁.heap = h0 := by rw [← hh, Bd.state]; rfl
  obtain ⟨s₂, o, h1, h2, h3, h4⟩ := body p e s m below meth c s₁ s.vm s.heap.size Bd.exec Bd.bytes hml0 (findClass_of_methodNamed Bd.named) (name_of_methodNamed Bd.named Bd.method).1 Bd.returns (BodyLoose.notSynchronized Bd) hZ (Stand.of_body Bd) e0 (State.WarmedH.since (State.WarmedH.refl s) _) (Nat.le_of_eq (congrArg Array.size hh))
  exact ⟨s₂, o, castTop (hef m) h1, h2, h3, h4⟩
theorem Go.ldcStr (X : Stand p l e R (s.setVm V) m args below meth c T locs cells slots) (hx : p.tables.exec = Jvm.exec) (hZ : Z.Warmed39 (s.setVm V).vm) {own text : String} {index : Nat} (hown : (s.setVm V).vm.findClass own = some m.cls) (w : (Jvm.Cond.stringLink own index text).before a0 Z = true) (wS : ∀ a ∈ Bundle.stringAtoms, a.before a0 Z = true) (eT : T.heap = h) (hS : s.Since V k0) (hk : k0 ≤ h.size)
    {pc q : Nat} {Ls : Array Slot} {st : List Value} (hd : decode c.code pc = .ok (.ldc index, 2)) {n : Nat} (hn : 4 * text.toList.length ≤ n) (hbig : n ≤ 536870912) (hc : cells + 2 ≤ R.cells) (hl : slots + (n + 4) ≤ R.slots) (hq : pc + 2 = q)
    (cont : ∀ (T' : State) (h' : Heap) (a : Addr) (V' : Vm) (k1 : Nat), Stand p l e R (s.setVm V') m args below meth c T' locs (cells + 2) (slots + (n + 4)) → T'.heap = h' → Ext h h' → s.Since V' k1 → k1 ≤ h'.size → Z.Warmed39 (s.setVm V').vm → (s.setVm V').vm.findClass own = some m.cls →
      Go p e below Q (T'.setTop (mkF m q Ls (.ref a :: st)))) : Go p e below Q (T.setTop (mkF m pc Ls st)) := by
  subst hq
  obtain ⟨a, T', h', k1, X', e', E', S', K', Z', o', st'⟩ := Jvm.RoadKit.ldcS X hx hZ hown w wS eT hS hk (g := mkF m pc Ls st) rfl hd hn hbig hc hl
  exact Go.of st' (cont T' h' a T'.vm k1 X' e' E' S' K' Z' o')
theorem Go.specialW (X : Stand p l e R (s.setVm V) m args below meth c T locs cells slots) (hx : p.tables.exec = Jvm.exec) (hZ : Z.Warmed39 (s.setVm V).vm) {own : String} {index : Nat} {y : MethodName} (hy1 : y.name = "<init>") (hown : (s.setVm V).vm.findClass own = some m.cls) (w1 : (Jvm.Cond.methodLink own index y).before a0 Z = true) (w2 : (Jvm.Cond.instanceMethod y).before a0 Z = true)
    {bytes : ByteArray} {maxL : Nat} (w3 : (Jvm.Cond.code y bytes maxL none).before a0 Z = true) (wz : (Jvm.Cond.initialized y.cls).before a0 Z = true) (hy : y.cls ≠ "java/lang/invoke/MethodHandle" ∧ y.cls ≠ "java/lang/invoke/VarHandle")
    {rm : Room} {as' : Array Value} {Qv : Option Value → Heap → List Loc → Prop} (hM : ConW l Z y bytes maxL none rm as' h Qv) (eT : T.heap = h) (hS : s.Since V k0) (hk0 : k0 ≤ h.size) {pc q : Nat} {Ls : Array Slot} {st : List Value} {a : Addr} {argsL rest : List Value} {W : Nat} (hd : decode c.code pc = .ok (.invokespecial index, 3))
    (hst : st = argsL.reverse ++ .ref a :: rest) (has : as' = (.ref a :: argsL).toArray) (hlen : ∀ sig, parseMethodDescriptor y.desc = some sig → argsL.length = sig.parameters.length) (hsz : Ls.size = c.maxLocals) (hW : (rest.map fun v => v.category).sum ≤ W)
    (hf : rm.frames + 1 ≤ R.frames) (hl : W + (maxL + 11) + rm.locals ≤ R.locals) (hc : cells + rm.cells ≤ R.cells) (hs : slots + rm.slots ≤ R.slots) (hq : pc + 3 = q)
    (k : ∀ (T' : State) (L : List Loc) (v : Option Value) (V' : Vm) (k1 : Nat), Stand p l e R (s.setVm V') m args below meth c T' (locs ++ L) (cells + rm.cells) (slots + rm.slots) → Qv v T'.heap L → s.Since V' k1 → k1 ≤ T'.heap.size → Z.Warmed39 (s.setVm V').vm → (s.setVm V').vm.findClass own = some m.cls → Go p e below Q (T'.setTop (mkF m q Ls (v.toList ++ rest)))) : Go p e below Q (T.setTop (mkF m pc Ls st)) := by
  subst hq hst has
  obtain ⟨v, vm₁, ⟨T', L', k', n'⟩, -, X', S', G', ⟨Lc, hQ, l1, y1, z1⟩, st'⟩ := X.specialBackS hx (y := y) hy1 hown (mvT hZ w1) (mvT hZ w2) (mvT hZ w3) hy (backOfS (W := W) hM hZ w3 wz hf hl) (g := mkF m pc Ls (argsL.reverse ++ .ref a :: rest)) rfl hsz (Steps.refl _) (a := a) (argsL := argsL) (rest := rest) hlen rfl (by show 2 * 0 + _ ≤ _; omega) hd (fun _ _ => ⟨rfl, eT, hc, hs⟩)
  dsimp only [Pt.U, Pt.locs, Pt.cells, Pt.slots] at X' S' G' l1 y1 z1 st' hQ
  subst l1 y1 z1
  obtain ⟨X2, S2, Z2, o2⟩ := rebS hS (by rw [eT]; exact hk0) X' S' G' hZ hown
  exact Go.tr st' (k T' Lc v T'.vm _ X2 hQ S2 (Nat.le_refl _) Z2 o2)
theorem Go.staticW (X : Stand p l e R (s.setVm V) m args below meth c T locs cells slots) (hx : p.tables.exec = Jvm.exec) (hZ : Z.Warmed39 (s.setVm V).vm) {own : String} {index : Nat} {y : MethodName} (hown : (s.setVm V).vm.findClass own = some m.cls) (w1 : (Jvm.Cond.methodLink own index y).before a0 Z = true) (w2 : (Jvm.Cond.static y).before a0 Z = true)
    {bytes : ByteArray} {maxL : Nat} {ret : Option FieldType} (w3 : (Jvm.Cond.code y bytes maxL ret).before a0 Z = true) (wz : (Jvm.Cond.initialized y.cls).before a0 Z = true) (hy : y.cls ≠ "java/lang/invoke/MethodHandle" ∧ y.cls ≠ "java/lang/invoke/VarHandle")
    {rm : Room} {as' : Array Value} {Qv : Option Value → Heap → List Loc → Prop} (hM : ConW l Z y bytes maxL ret rm as' h Qv) (eT : T.heap = h) (hS : s.Since V k0) (hk0 : k0 ≤ h.size) {pc q : Nat} {Ls : Array Slot} {st : List Value} {argsL rest : List Value} {W : Nat} (hd : decode c.code pc = .ok (.invokestatic index, 3))
    (hst : st = argsL.reverse ++ rest) (has : as' = argsL.toArray) (hlen : ∀ sig, parseMethodDescriptor y.desc = some sig → argsL.length = sig.parameters.length) (hsz : Ls.size = c.maxLocals) (hW : (rest.map fun v => v.category).sum ≤ W)
    (hf : rm.frames + 1 ≤ R.frames) (hl : W + (maxL + 11) + rm.locals ≤ R.locals) (hc : cells + rm.cells ≤ R.cells) (hs : slots + rm.slots ≤ R.slots) (hq : pc + 3 = q)
    (k : ∀ (T' : State) (L : List Loc) (v : Option Value) (V' : Vm) (k1 : Nat), Stand p l e R (s.setVm V') m args below meth c T' (locs ++ L) (cells + rm.cells) (slots + rm.slots) → Qv v T'.heap L → s.Since V' k1 → k1 ≤ T'.heap.size → Z.Warmed39 (s.setVm V').vm → (s.setVm V').vm.findClass own = some m.cls → Go p e below Q (T'.setTop (mkF m q Ls (v.toList ++ rest)))) : Go p e below Q (T.setTop (mkF m pc Ls st)) := by
  subst hq hst has
  obtain ⟨v, vm₁, ⟨T', L', k', n'⟩, -, X', S', G', ⟨Lc, hQ, l1, y1, z1⟩, st'⟩ := callSS X hx (y := y) hown (mvT hZ w1) (mvT hZ w2) (mvT hZ wz) (mvT hZ w3) hy (backOfS (W := W) hM hZ w3 wz hf hl) (g := mkF m pc Ls (argsL.reverse ++ rest)) rfl hsz (argsL := argsL) (rest := rest) hlen rfl (by show 2 * 0 + _ ≤ _; omega) hd (fun _ _ => ⟨rfl, eT, hc, hs⟩)
  dsimp only [Pt.U, Pt.locs, Pt.cells, Pt.slots] at X' S' G' l1 y1 z1 st' hQ
  subst l1 y1 z1
  obtain ⟨X2, S2, Z2, o2⟩ := rebS hS (by rw [eT]; exact hk0) X' S' G' hZ hown
  exact Go.tr st' (k T' Lc v T'.vm _ X2 hQ S2 (Nat.le_refl _) Z2 o2)
theorem Go.virtualW (X : Stand p l e R (s.setVm V) m args below meth c T locs cells slots) (hx : p.tables.exec = Jvm.exec) (hZ : Z.Warmed39 (s.setVm V).vm) {own C : String} {index : Nat} {y : MethodName} (hown : (s.setVm V).vm.findClass own = some m.cls) (w1 : (Jvm.Cond.methodLink own index y).before a0 Z = true) (w2 : (Jvm.Cond.declares y).before a0 Z = true) (w3 : (Jvm.Cond.selects C y y).before a0 Z = true) (w4 : (Jvm.Cond.instanceMethod y).before a0 Z = true)
    {bytes : ByteArray} {maxL : Nat} {ret : Option FieldType} (w5 : (Jvm.Cond.code y bytes maxL ret).before a0 Z = true) (wz : (Jvm.Cond.initialized y.cls).before a0 Z = true) (hy : y.cls ≠ "java/lang/invoke/MethodHandle" ∧ y.cls ≠ "java/lang/invoke/VarHandle")
    {rm : Room} {as' : Array Value} {Qv : Option Value → Heap → List Loc → Prop} (hM : ConW l Z y bytes maxL ret rm as' h Qv) (eT : T.heap = h) (hS : s.Since V k0) (hk0 : k0 ≤ h.size) {a : Addr} (E : Exa Z h a C) {pc q : Nat} {Ls : Array Slot} {st : List Value} {argsL rest : List Value} {W : Nat} (hd : decode c.code pc = .ok (.invokevirtual index, 3))
    (hst : st = argsL.reverse ++ .ref a :: rest) (has : as' = (.ref a :: argsL).toArray) (hlen : ∀ sig, parseMethodDescriptor y.desc = some sig → argsL.length = sig.parameters.length) (hsz : Ls.size = c.maxLocals) (hW : (rest.map fun v => v.category).sum ≤ W)
    (hf : rm.frames + 1 ≤ R.frames) (hl : W + (maxL + 11) + rm.locals ≤ R.locals) (hc : cells + rm.cells ≤ R.cells) (hs : slots + rm.slots ≤ R.slots) (hq : pc + 3 = q)
    (k : ∀ (T' : State) (L : List Loc) (v : Option Value) (V' : Vm) (k1 : Nat), Stand p l e R (s.setVm V') m args below meth c T' (locs ++ L) (cells + rm.cells) (slots + rm.slots) → Qv v T'.heap L → s.Since V' k1 → k1 ≤ T'.heap.size → Z.Warmed39 (s.setVm V').vm → (s.setVm V').vm.findClass own = some m.cls → Go p e below Q (T'.setTop (mkF m q Ls (v.toList ++ rest)))) : Go p e below Q (T.setTop (mkF m pc Ls st)) := by
  subst hq hst has
  obtain ⟨cq, kq, qa, -, qc⟩ := isOf hZ eT E
  obtain ⟨v, vm₁, ⟨T', L', k', n'⟩, -, X', S', G', ⟨Lc, hQ, l1, y1, z1⟩, st'⟩ := X.virtualBackS hx (y := y) (z := y) hown (mvT hZ w1) (mvT hZ w2) (notFace_of_selects (args := #[]) (mvT hZ w3)) (mvT hZ w3) (mvT hZ w4) hy (backOfS (W := W) hM hZ w5 wz hf hl) qa qc (g := mkF m pc Ls (argsL.reverse ++ .ref a :: rest)) rfl hsz (Steps.refl _) (argsL := argsL) (rest := rest) hlen rfl (by show 2 * 0 + _ ≤ _; omega) hd (fun _ _ => ⟨rfl, eT, hc, hs⟩)
  dsimp only [Pt.U, Pt.locs, Pt.cells, Pt.slots] at X' S' G' l1 y1 z1 st' hQ
  subst l1 y1 z1
  obtain ⟨X2, S2, Z2, o2⟩ := rebS hS (by rw [eT]; exact hk0) X' S' G' hZ hown
  exact Go.tr st' (k T' Lc v T'.vm _ X2 hQ S2 (Nat.le_refl _) Z2 o2)
end OwnStr

theorem own_wS {Z : State} {a0 : Array Value} (hw : ∀ d ∈ tables_1, d.before a0 Z = true) : ∀ a ∈ Bundle.stringAtoms, a.before a0 Z = true := by
  intro a ha
  simp only [Bundle.stringAtoms, List.mem_cons, List.not_mem_nil, or_false] at ha
  rcases ha with rfl | rfl | rfl | rfl | rfl | rfl | rfl <;> first | exact word hw 12 rfl | exact word hw 13 rfl | exact word hw 14 rfl | exact word hw 15 rfl | exact word hw 16 rfl | exact word hw 17 rfl | exact word hw 18 rfl

theorem pd0 : parseMethodDescriptor "(Ljava/lang/String;D)D" = some ⟨[(.object "java/lang/String"), .double], some .double⟩ := by decide +kernel
theorem pd1 : parseMethodDescriptor "(DDDDDD)V" = some ⟨[.double, .double, .double, .double, .double, .double], none⟩ := by decide +kernel
theorem pd2 : parseMethodDescriptor "(I)Z" = some ⟨[.int], some .boolean⟩ := by decide +kernel

section OwnLaw
open Jvm.FP Jvm.FP.Core Jvm.Free.Fl
def own_fp (x : UInt64) : Prop := (0 : Int32) < cmpValue (FP.dcmp x 0) .l ∧ cmpValue (FP.dcmp x 9218868437227405312) .g < 0
theorem own_infz : P2 64 * P2 1074 < Zv 9218868437227405312 := by unfold Zv P2; decide +kernel
theorem own_fp_of {x : UInt64} (hx : DFin x) (h0 : 0 < Zv x) (h : Zv x ≤ P2 64 * P2 1074) : own_fp x := by
  constructor
  · rw [cmp_gt hx zero_fin _ (by rw [zero_z]; exact h0)]; decide
  · rw [show FP.dcmp x 9218868437227405312 = some .lt from dcmp_lt.mpr ⟨hx.ne_nan, (Core.notNaN_iff _).mp (by decide), Int.lt_of_le_of_lt h own_infz⟩]; decide
theorem own_n {p u n : Int64} (h1 : p &&& 8589934591 = u) (h2 : u + 1 = n) : 1 ≤ n.toInt ∧ n.toInt ≤ 8589934592 := by
  have e := c_maskL p 8589934591 33 (by decide) (by decide)
  rw [h1] at e
  have f := c_ladd u 1
  rw [h2] at f
  have o : (1 : Int64).toInt = 1 := rfl
  have r := rng64 n
  omega
theorem own_p64 {x : UInt64} {k : Int} (h : Zv x = k * P2 1074) (hk : k ≤ 8589934592) : Zv x ≤ P2 64 * P2 1074 := by
  rw [h]; exact Int.mul_le_mul_of_nonneg_right (Int.le_trans hk (by decide)) (Int.le_of_lt (P2_pos 1074))
theorem own_one : own_fp 4607182418800017408 := own_fp_of one_fin (by rw [one_z]; exact Int.mul_pos (by decide) (P2_pos 1074)) (own_p64 one_z (by decide))
theorem own_qf {p u v : Int32} {d : UInt64} (h1 : p &&& 255 = u) (h2 : u + 1 = v) (h3 : FP.i2d v = d) : own_fp d := by
  have e := c_mask p 255 8 (by decide) (by decide)
  rw [h1] at e
  have f := c_iadd u 1
  rw [h2] at f
  have o : (1 : Int32).toInt = 1 := rfl
  have r := rng32 v
  have z : Zv d = v.toInt * P2 1074 := by rw [← h3]; exact i2d_eq v
  refine own_fp_of (h3 ▸ i2d_dfin v) (by rw [z]; exact Int.mul_pos (by omega) (P2_pos 1074)) (own_p64 z (by omega))
theorem own_two : DFin 4611686018427387904 ∧ Zv 4611686018427387904 = 2 * P2 1074 := ⟨(fin_bits _).mpr (by decide), by unfold Zv P2; decide +kernel⟩
theorem own_four : DFin 4616189618054758400 ∧ Zv 4616189618054758400 = 4 * P2 1074 := ⟨(fin_bits _).mpr (by decide), by unfold Zv P2; decide +kernel⟩
theorem own_72 : P2 1074 = 4 * P2 1072 := by rw [show (1074 : Nat) = 2 + 1072 from rfl, P2_add]; rfl
theorem own_73 : P2 1073 = 2 * P2 1072 := by rw [show (1073 : Nat) = 1 + 1072 from rfl, P2_add]; rfl
theorem own_res {n : Int64} {x r : UInt64} (b : 1 ≤ n.toInt ∧ n.toInt ≤ 8589934592) (h1 : FP.l2d n = x) (h2 : FP.ddiv x 4616189618054758400 = r) : NoNaN64 (FP.ddiv x 4616189618054758400) ∧ DFin r ∧ Zv r = n.toInt * P2 1072 := by
  have zx : Zv x = n.toInt * P2 1074 := by rw [← h1]; exact l2d_eq (by omega)
  have fx : DFin x := h1 ▸ l2d_dfin n
  have hU := P2_pos 1074
  have q := div_eq fx own_four.1 (by rw [own_four.2]; omega) (rep_mk n.toInt 1072 (by omega) (by decide)) (by
    rw [zx, own_four.2, own_72]
    generalize P2 1072 = u
    generalize n.toInt = k
    ((try generalize P2 1074 = U1); (try generalize P2 1073 = U2); (try generalize P2 1072 = U3); (try generalize P2 1021 = U6); (try generalize P2 53 = U7); (try generalize P2 1049 = U8); (try generalize P2 1045 = U9); (try generalize P2 1047 = V1); (try generalize P2 1048 = V2); ac_rfl))
  refine ⟨(nn_of q.1), ?_⟩
  rw [h2] at q
  exact q
theorem own_res_fp {n : Int64} {r : UInt64} (b : 1 ≤ n.toInt ∧ n.toInt ≤ 8589934592) (h : DFin r ∧ Zv r = n.toInt * P2 1072) : own_fp r := by
  have h72 := P2_pos 1072
  refine own_fp_of h.1 (by rw [h.2]; exact Int.mul_pos (by omega) h72) ?_
  rw [h.2, own_72, ← Int.mul_assoc]
  exact Int.mul_le_mul_of_nonneg_right (Int.le_trans b.2 (by decide)) (Int.le_of_lt h72)
def own_sim (i : Int32) (r : UInt64) : Int32 := if (0 : Int32) < cmpValue (FP.dcmp (FP.i2d i) (FP.dmul 4611686018427387904 r)) .l then 1 else 0
theorem own_dbl {n : Int64} {r : UInt64} (b : 1 ≤ n.toInt ∧ n.toInt ≤ 8589934592) (h : DFin r ∧ Zv r = n.toInt * P2 1072) : DFin (FP.dmul 4611686018427387904 r) ∧ Zv (FP.dmul 4611686018427387904 r) = (2 * n.toInt) * P2 1072 := by
  refine mul_eq own_two.1 h.1 (rep_mk (2 * n.toInt) 1072 (by omega) (by decide)) ?_
  rw [own_two.2, h.2]
  generalize P2 1072 = u
  generalize P2 1074 = w
  generalize n.toInt = k
  ((try generalize P2 1074 = U1); (try generalize P2 1073 = U2); (try generalize P2 1072 = U3); (try generalize P2 1021 = U6); (try generalize P2 53 = U7); (try generalize P2 1049 = U8); (try generalize P2 1045 = U9); (try generalize P2 1047 = V1); (try generalize P2 1048 = V2); ac_rfl)
theorem own_lt {i : Int32} {n u v : Int64} (h1 : Int32.toInt64 i = u) (h2 : 2 * u = v) : v.toInt = 2 * i.toInt := by
  have e := c_i2l i
  rw [h1] at e
  have f := c_lmul 2 u
  rw [h2, e] at f
  have o : (2 : Int64).toInt = 2 := rfl
  rw [o] at f
  have r := rng64 v
  have q := rng32 i
  omega
theorem own_s1 {i : Int32} {n u v : Int64} {r : UInt64} (b : 1 ≤ n.toInt ∧ n.toInt ≤ 8589934592) (h : DFin r ∧ Zv r = n.toInt * P2 1072) (h1 : Int32.toInt64 i = u) (h2 : 2 * u = v) (z : n < v) : own_sim i r = 1 := by
  have d := own_dbl b h
  have e := own_lt (n := n) h1 h2
  have z' := Int64.lt_iff_toInt_lt.mp z
  rw [own_sim, if_pos]
  rw [cmp_gt (i2d_dfin i) d.1 _ (by rw [d.2, i2d_eq, own_72, ← Int.mul_assoc]; exact Int.mul_lt_mul_of_pos_right (by omega) (P2_pos 1072))]; decide
theorem own_s0 {i : Int32} {n u v : Int64} {r : UInt64} (b : 1 ≤ n.toInt ∧ n.toInt ≤ 8589934592) (h : DFin r ∧ Zv r = n.toInt * P2 1072) (h1 : Int32.toInt64 i = u) (h2 : 2 * u = v) (z : ¬ n < v) : own_sim i r = 0 := by
  have d := own_dbl b h
  have e := own_lt (n := n) h1 h2
  have z' := Int.not_lt.mp (fun y => z (Int64.lt_iff_toInt_lt.mpr y))
  rw [own_sim, if_neg]
  have zi : Zv (FP.i2d i) = i.toInt * 4 * P2 1072 := by rw [i2d_eq, own_72, ← Int.mul_assoc]
  rcases Int.lt_or_eq_of_le (show i.toInt * 4 ≤ 2 * n.toInt by omega) with y | y
  · rw [cmp_lt (i2d_dfin i) d.1 _ (by rw [d.2, zi]; exact Int.mul_lt_mul_of_pos_right y (P2_pos 1072))]; decide
  · rw [cmp_eq (i2d_dfin i) d.1 _ (by rw [d.2, zi, y])]; decide
end OwnLaw

theorem d3_0 : decode prog_8_method_2_code 0 = .ok (.dload_n 1, 1) := by decide +kernel
theorem d3_1 : decode prog_8_method_2_code 1 = .ok (.dconst 0, 1) := by decide +kernel
theorem d3_2 : decode prog_8_method_2_code 2 = .ok (.dcmp .l, 1) := by decide +kernel
theorem d3_3 : decode prog_8_method_2_code 3 = .ok (.ifCond .le 11, 3) := by decide +kernel
theorem d3_6 : decode prog_8_method_2_code 6 = .ok (.dload_n 1, 1) := by decide +kernel
theorem d3_7 : decode prog_8_method_2_code 7 = .ok (.ldc2_w 9, 3) := by decide +kernel
theorem d3_10 : decode prog_8_method_2_code 10 = .ok (.dcmp .g, 1) := by decide +kernel
theorem d3_11 : decode prog_8_method_2_code 11 = .ok (.ifCond .lt 18, 3) := by decide +kernel
theorem d3_14 : decode prog_8_method_2_code 14 = .ok (.new 11, 3) := by decide +kernel
theorem d3_17 : decode prog_8_method_2_code 17 = .ok (.dup, 1) := by decide +kernel
theorem d3_18 : decode prog_8_method_2_code 18 = .ok (.aload_n 0, 1) := by decide +kernel
theorem d3_19 : decode prog_8_method_2_code 19 = .ok (.dload_n 1, 1) := by decide +kernel
theorem d3_20 : decode prog_8_method_2_code 20 = .ok (.invokedynamic 13, 5) := by decide +kernel
theorem d3_25 : decode prog_8_method_2_code 25 = .ok (.invokespecial 17, 3) := by decide +kernel
theorem d3_28 : decode prog_8_method_2_code 28 = .ok (.athrow, 1) := by decide +kernel
theorem d3_29 : decode prog_8_method_2_code 29 = .ok (.dload_n 1, 1) := by decide +kernel
theorem d3_30 : decode prog_8_method_2_code 30 = .ok (.dreturn, 1) := by decide +kernel
set_option maxRecDepth 65536 in
set_option maxHeartbeats 40000000 in
theorem rm_fp (l : Launch) (Z : State) (a0 : Array Value) (hw : ∀ d ∈ tables_1, d.before a0 Z = true) (as' : Addr) (x : UInt64) (h0 : Heap) (n0 : Nat) (Z0 : n0 ≤ h0.size) (hf : own_fp x) :
    Con l Z (⟨"com/example/palpito/palpito/Checks", "finitePositive", "(Ljava/lang/String;D)D"⟩ : MethodName) prog_8_method_2_code 3 (some .double) ({ frames := 0, cells := 0, slots := 0, locals := 0 } : Room) #[(.ref as'), (.double x)] h0 (fun vR hR LR => vR = some (.double x) ∧ Fr n0 LR ∧ hR = h0) := by
  refine enter (l := l) (Z := Z) (y := (⟨"com/example/palpito/palpito/Checks", "finitePositive", "(Ljava/lang/String;D)D"⟩ : MethodName)) (bytes := prog_8_method_2_code) (maxL := 3) (ret := (some .double)) (ws := []) (rm := ({ frames := 0, cells := 0, slots := 0, locals := 0 } : Room)) (as' := #[(.ref as'), (.double x)]) (h0 := h0) (Qv := (fun vR hR LR => vR = some (.double x) ∧ Fr n0 LR ∧ hR = h0)) (kc := 0) (ks := 0) (by first | exact plainFor_of_name (by first | (simp [plainName, overriddenIn]; done) | decide +kernel) | decide +kernel) (Ls := #[.val (.ref as'), .val (.double x), .second]) (fun m => by first | (simp [entryFrame, mkF, argsToLocals, Value.category]; done) | rfl) ?_
  intro p e s m below meth c s₁ hx hby hml hown hnm hret hlk hZ X0 e0
  have hown : s.vm.findClass "com/example/palpito/palpito/Checks" = some m.cls := hown
  have hml : c.maxLocals = 3 := hml
  have N0 := Fr.nil n0
  refine Go.dloadN X0.here hx (Jvm.hb hby d3_0) rfl (q := 1) rfl ?_
  refine Go.dconst0 X0.here hx (Jvm.hb hby d3_1) (v := (0 : UInt64)) rfl (q := 2) rfl ?_
  obtain ⟨u2, hu2⟩ : ∃ zq, cmpValue (FP.dcmp x (0 : UInt64)) .l = zq := ⟨_, rfl⟩
  refine Go.dcmp X0.here hx (Jvm.hb hby d3_2) hu2 (q := 3) rfl ?_
  have hc3 : (0 : Int32) < u2 := by rw [← hu2]; exact hf.1
  refine Go.ifN X0.here hx (Jvm.hb hby d3_3) ((if0 _ _).trans (tlt hc3).2.2.2) (q := 6) rfl ?_
  refine Go.dloadN X0.here hx (Jvm.hb hby d3_6) rfl (q := 7) rfl ?_
  refine Go.ldc2D X0 hx hown (mvT hZ (word hw 23 rfl)) (Jvm.hb hby d3_7) (q := 10) rfl ?_
  obtain ⟨u10, hu10⟩ : ∃ zq, cmpValue (FP.dcmp x (9218868437227405312 : UInt64)) .g = zq := ⟨_, rfl⟩
  refine Go.dcmp X0.here hx (Jvm.hb hby d3_10) hu10 (q := 11) rfl ?_
  have hc11 : u10 < (0 : Int32) := by rw [← hu10]; exact hf.2
  refine Go.ifY X0.here hx (Jvm.hb hby d3_11) ((if0 _ _).trans (tlt hc11).1) (by decide) (q := 29) rfl ?_
  refine Go.dloadN X0.here hx (Jvm.hb hby d3_29) rfl (q := 30) rfl ?_
  refine Go.retD X0 hx hret hlk (Jvm.hb hby d3_30) (by decide) (by decide) ?_
  exact ⟨rfl, N0, e0⟩
theorem d1_0 : decode prog_1_method_1_code 0 = .ok (.aload_n 0, 1) := by decide +kernel
theorem d1_1 : decode prog_1_method_1_code 1 = .ok (.invokespecial 1, 3) := by decide +kernel
theorem d1_4 : decode prog_1_method_1_code 4 = .ok (.aload_n 0, 1) := by decide +kernel
theorem d1_5 : decode prog_1_method_1_code 5 = .ok (.ldc 9, 2) := by decide +kernel
theorem d1_7 : decode prog_1_method_1_code 7 = .ok (.dload_n 1, 1) := by decide +kernel
theorem d1_8 : decode prog_1_method_1_code 8 = .ok (.invokestatic 11, 3) := by decide +kernel
theorem d1_11 : decode prog_1_method_1_code 11 = .ok (.putfield 17, 3) := by decide +kernel
theorem d1_14 : decode prog_1_method_1_code 14 = .ok (.aload_n 0, 1) := by decide +kernel
theorem d1_15 : decode prog_1_method_1_code 15 = .ok (.ldc 20, 2) := by decide +kernel
theorem d1_17 : decode prog_1_method_1_code 17 = .ok (.dload_n 3, 1) := by decide +kernel
theorem d1_18 : decode prog_1_method_1_code 18 = .ok (.invokestatic 11, 3) := by decide +kernel
theorem d1_21 : decode prog_1_method_1_code 21 = .ok (.putfield 22, 3) := by decide +kernel
theorem d1_24 : decode prog_1_method_1_code 24 = .ok (.aload_n 0, 1) := by decide +kernel
theorem d1_25 : decode prog_1_method_1_code 25 = .ok (.ldc 24, 2) := by decide +kernel
theorem d1_27 : decode prog_1_method_1_code 27 = .ok (.dload 5, 2) := by decide +kernel
theorem d1_29 : decode prog_1_method_1_code 29 = .ok (.invokestatic 11, 3) := by decide +kernel
theorem d1_32 : decode prog_1_method_1_code 32 = .ok (.putfield 26, 3) := by decide +kernel
theorem d1_35 : decode prog_1_method_1_code 35 = .ok (.aload_n 0, 1) := by decide +kernel
theorem d1_36 : decode prog_1_method_1_code 36 = .ok (.ldc 28, 2) := by decide +kernel
theorem d1_38 : decode prog_1_method_1_code 38 = .ok (.dload 7, 2) := by decide +kernel
theorem d1_40 : decode prog_1_method_1_code 40 = .ok (.invokestatic 11, 3) := by decide +kernel
theorem d1_43 : decode prog_1_method_1_code 43 = .ok (.putfield 30, 3) := by decide +kernel
theorem d1_46 : decode prog_1_method_1_code 46 = .ok (.aload_n 0, 1) := by decide +kernel
theorem d1_47 : decode prog_1_method_1_code 47 = .ok (.ldc 32, 2) := by decide +kernel
theorem d1_49 : decode prog_1_method_1_code 49 = .ok (.dload 9, 2) := by decide +kernel
theorem d1_51 : decode prog_1_method_1_code 51 = .ok (.invokestatic 11, 3) := by decide +kernel
theorem d1_54 : decode prog_1_method_1_code 54 = .ok (.putfield 34, 3) := by decide +kernel
theorem d1_57 : decode prog_1_method_1_code 57 = .ok (.aload_n 0, 1) := by decide +kernel
theorem d1_58 : decode prog_1_method_1_code 58 = .ok (.ldc 36, 2) := by decide +kernel
theorem d1_60 : decode prog_1_method_1_code 60 = .ok (.dload 11, 2) := by decide +kernel
theorem d1_62 : decode prog_1_method_1_code 62 = .ok (.invokestatic 11, 3) := by decide +kernel
theorem d1_65 : decode prog_1_method_1_code 65 = .ok (.putfield 38, 3) := by decide +kernel
theorem d1_68 : decode prog_1_method_1_code 68 = .ok (.return_, 1) := by decide +kernel
set_option maxRecDepth 65536 in
set_option maxHeartbeats 40000000 in
theorem rm_init (l : Launch) (Z : State) (a0 : Array Value) (hw : ∀ d ∈ tables_1, d.before a0 Z = true) (a1 : Addr) (x1 : UInt64) (x2 : UInt64) (x3 : UInt64) (x4 : UInt64) (x5 : UInt64) (x6 : UInt64) (o1 : Value) (o2 : Value) (o3 : Value) (o4 : Value) (o5 : Value) (o6 : Value) (h0 : Heap) (n0 : Nat) (Z0 : n0 ≤ h0.size) (E1 : Exa Z h0 a1 "com/example/palpito/palpito/Actuator") (F1 : Fld Z h0 a1 "com/example/palpito/palpito/Actuator" "resonanceHz" "D" o1) (F2 : Fld Z h0 a1 "com/example/palpito/palpito/Actuator" "qualityFactor" "D" o2) (F3 : Fld Z h0 a1 "com/example/palpito/palpito/Actuator" "forceFactorNPerA" "D" o3) (F4 : Fld Z h0 a1 "com/example/palpito/palpito/Actuator" "coilResistanceOhm" "D" o4) (F5 : Fld Z h0 a1 "com/example/palpito/palpito/Actuator" "deviceMassKg" "D" o5) (F6 : Fld Z h0 a1 "com/example/palpito/palpito/Actuator" "locationCoefficient" "D" o6) (g1 : n0 ≤ a1) (hf : own_fp x1 ∧ own_fp x2 ∧ own_fp x3 ∧ own_fp x4 ∧ own_fp x5 ∧ own_fp x6) :
    ConW l Z (⟨"com/example/palpito/palpito/Actuator", "<init>", "(DDDDDD)V"⟩ : MethodName) prog_1_method_1_code 13 none ({ frames := 1, cells := 12, slots := 376, locals := 30 } : Room) #[(.ref a1), (.double x1), (.double x2), (.double x3), (.double x4), (.double x5), (.double x6)] h0 (fun vR hR LR => vR = none ∧ Fr n0 LR ∧ Keep h0 hR [a1] ∧ Exa Z hR a1 "com/example/palpito/palpito/Actuator" ∧ Fld Z hR a1 "com/example/palpito/palpito/Actuator" "resonanceHz" "D" (.double x1)) := by
  refine enterW (l := l) (Z := Z) (y := (⟨"com/example/palpito/palpito/Actuator", "<init>", "(DDDDDD)V"⟩ : MethodName)) (bytes := prog_1_method_1_code) (maxL := 13) (ret := none) (ws := []) (rm := ({ frames := 1, cells := 12, slots := 376, locals := 30 } : Room)) (as' := #[(.ref a1), (.double x1), (.double x2), (.double x3), (.double x4), (.double x5), (.double x6)]) (h0 := h0) (Qv := (fun vR hR LR => vR = none ∧ Fr n0 LR ∧ Keep h0 hR [a1] ∧ Exa Z hR a1 "com/example/palpito/palpito/Actuator" ∧ Fld Z hR a1 "com/example/palpito/palpito/Actuator" "resonanceHz" "D" (.double x1))) (kc := 12) (ks := 376) (by first | exact plainFor_of_name (by first | (simp [plainName, overriddenIn]; done) | decide +kernel) | decide +kernel) (Ls := #[.val (.ref a1), .val (.double x1), .second, .val (.double x2), .second, .val (.double x3), .second, .val (.double x4), .second, .val (.double x5), .second, .val (.double x6), .second]) (fun m => by first | (simp [entryFrame, mkF, argsToLocals, Value.category]; done) | rfl) ?_
  intro p e s m below meth c s₁ V0 k0 hx hby hml hown hnm hret hlk hZ X0 e0 S0 K0
  have hown : (s.setVm V0).vm.findClass "com/example/palpito/palpito/Actuator" = some m.cls := hown
  have hml : c.maxLocals = 13 := hml
  have N0 := Fr.nil n0
  refine Go.aloadN X0.here hx (Jvm.hb hby d1_0) rfl rfl (q := 1) rfl ?_
  refine Go.init X0 hx hZ hown (word hw 8 rfl) (word hw 9 rfl) (word hw 10 rfl) e0 (Jvm.hb hby d1_1) (by rw [hml]; rfl) (by decide) (W := 0) (Nat.le_of_eq rfl) (by decide) (q := 4) rfl ?_
  intro T101 X101 e101
  refine Go.aloadN X101.here hx (Jvm.hb hby d1_4) rfl rfl (q := 5) rfl ?_
  refine Go.ldcStr X101 hx hZ hown (word hw 11 rfl) (own_wS hw) e101 S0 K0 (Jvm.hb hby d1_5) (n := 44) (by decide) (by decide) (by decide) (by decide) (q := 7) rfl ?_
  intro T102 h102 a102 V102 k1_102 X102 e102 E102 S102 KS102 hZ hown
  refine Go.dloadN X102.here hx (Jvm.hb hby d1_7) rfl (q := 8) rfl ?_
  have z104 : n0 ≤ h102.size := Nat.le_trans Z0 E102.1
  refine Go.static X102 hx hZ (y := (⟨"com/example/palpito/palpito/Checks", "finitePositive", "(Ljava/lang/String;D)D"⟩ : MethodName)) hown (word hw 19 rfl) (word hw 20 rfl) (word hw 22 rfl) (word hw 21 rfl) (by decide) (rm_fp l Z a0 hw a102 x1 h102 n0 z104 hf.1) e102  (argsL := [(.ref a102), (.double x1)]) (rest := [(.ref a1)]) (W := 1) (Jvm.hb hby d1_8) rfl rfl (lenOf (pd0) rfl) (by rw [hml]; rfl) (Nat.le_of_eq rfl) (by decide) (by decide) (by decide) (by decide) (q := 11) rfl ?_
  intro T103 L103 w103 X103 hQ103
  obtain ⟨rfl, M103, q103⟩ := hQ103
  have N103 := Fr.app N0 M103
  show Go p e below _ (T103.setTop (mkF m 11 #[.val (.ref a1), .val (.double x1), .second, .val (.double x2), .second, .val (.double x3), .second, .val (.double x4), .second, .val (.double x5), .second, .val (.double x6), .second] [(.double x1), (.ref a1)]))
  have f106 := F1.ext E102
  have f107 := E1.ext E102
  refine Go.putf X103 hx hZ hown (word hw 24 rfl) q103 f106 f107 (Or.inr ⟨(word hw 25 rfl), rfl, hnm⟩) (word hw 3 rfl) (ty := .double) (by decide) rfl rfl (Jvm.hb hby d1_11) (q := 14) rfl ?_
  intro T105 h105 X105 e105 W105
  have N105 := Fr.snoc X105 N103 g1
  have F105 := f106.same W105
  refine Go.aloadN X105.here hx (Jvm.hb hby d1_14) rfl rfl (q := 15) rfl ?_
  have kz109 : k1_102 ≤ h105.size := Nat.le_trans KS102 (Nat.le_of_eq W105.size.symm)
  refine Go.ldcStr X105 hx hZ hown (word hw 26 rfl) (own_wS hw) e105 S102 kz109 (Jvm.hb hby d1_15) (n := 52) (by decide) (by decide) (by decide) (by decide) (q := 17) rfl ?_
  intro T108 h108 a108 V108 k1_108 X108 e108 E108 S108 KS108 hZ hown
  refine Go.dloadN X108.here hx (Jvm.hb hby d1_17) rfl (q := 18) rfl ?_
  have z111 : n0 ≤ h105.size := Nat.le_trans z104 (Nat.le_of_eq W105.size.symm)
  have z112 : n0 ≤ h108.size := Nat.le_trans z111 E108.1
  refine Go.static X108 hx hZ (y := (⟨"com/example/palpito/palpito/Checks", "finitePositive", "(Ljava/lang/String;D)D"⟩ : MethodName)) hown (word hw 19 rfl) (word hw 20 rfl) (word hw 22 rfl) (word hw 21 rfl) (by decide) (rm_fp l Z a0 hw a108 x2 h108 n0 z112 hf.2.1) e108  (argsL := [(.ref a108), (.double x2)]) (rest := [(.ref a1)]) (W := 1) (Jvm.hb hby d1_18) rfl rfl (lenOf (pd0) rfl) (by rw [hml]; rfl) (Nat.le_of_eq rfl) (by decide) (by decide) (by decide) (by decide) (q := 21) rfl ?_
  intro T110 L110 w110 X110 hQ110
  obtain ⟨rfl, M110, q110⟩ := hQ110
  have N110 := Fr.app N105 M110
  show Go p e below _ (T110.setTop (mkF m 21 #[.val (.ref a1), .val (.double x1), .second, .val (.double x2), .second, .val (.double x3), .second, .val (.double x4), .second, .val (.double x5), .second, .val (.double x6), .second] [(.double x2), (.ref a1)]))
  have f114 := F2.ext E102
  have f115 := f114.other W105 (Or.inr (Jvm.RoadKit.slot_ne (Or.inr (word hw 28 rfl)) (Or.inr (word hw 25 rfl)) (by decide) (t := .double) (t' := .double) (by decide) (by decide)))
  have f116 := f115.ext E108
  have f117 := f107.wr W105
  have f118 := f117.ext E108
  refine Go.putf X110 hx hZ hown (word hw 27 rfl) q110 f116 f118 (Or.inr ⟨(word hw 28 rfl), rfl, hnm⟩) (word hw 3 rfl) (ty := .double) (by decide) rfl rfl (Jvm.hb hby d1_21) (q := 24) rfl ?_
  intro T113 h113 X113 e113 W113
  have N113 := Fr.snoc X113 N110 g1
  have F113 := f116.same W113
  refine Go.aloadN X113.here hx (Jvm.hb hby d1_24) rfl rfl (q := 25) rfl ?_
  have kz120 : k1_108 ≤ h113.size := Nat.le_trans KS108 (Nat.le_of_eq W113.size.symm)
  refine Go.ldcStr X113 hx hZ hown (word hw 29 rfl) (own_wS hw) e113 S108 kz120 (Jvm.hb hby d1_25) (n := 64) (by decide) (by decide) (by decide) (by decide) (q := 27) rfl ?_
  intro T119 h119 a119 V119 k1_119 X119 e119 E119 S119 KS119 hZ hown
  refine Go.dload X119.here hx (Jvm.hb hby d1_27) rfl (q := 29) rfl ?_
  have z122 : n0 ≤ h113.size := Nat.le_trans z112 (Nat.le_of_eq W113.size.symm)
  have z123 : n0 ≤ h119.size := Nat.le_trans z122 E119.1
  refine Go.static X119 hx hZ (y := (⟨"com/example/palpito/palpito/Checks", "finitePositive", "(Ljava/lang/String;D)D"⟩ : MethodName)) hown (word hw 19 rfl) (word hw 20 rfl) (word hw 22 rfl) (word hw 21 rfl) (by decide) (rm_fp l Z a0 hw a119 x3 h119 n0 z123 hf.2.2.1) e119  (argsL := [(.ref a119), (.double x3)]) (rest := [(.ref a1)]) (W := 1) (Jvm.hb hby d1_29) rfl rfl (lenOf (pd0) rfl) (by rw [hml]; rfl) (Nat.le_of_eq rfl) (by decide) (by decide) (by decide) (by decide) (q := 32) rfl ?_
  intro T121 L121 w121 X121 hQ121
  obtain ⟨rfl, M121, q121⟩ := hQ121
  have N121 := Fr.app N113 M121
  show Go p e below _ (T121.setTop (mkF m 32 #[.val (.ref a1), .val (.double x1), .second, .val (.double x2), .second, .val (.double x3), .second, .val (.double x4), .second, .val (.double x5), .second, .val (.double x6), .second] [(.double x3), (.ref a1)]))
  have f125 := F3.ext E102
  have f126 := f125.other W105 (Or.inr (Jvm.RoadKit.slot_ne (Or.inr (word hw 31 rfl)) (Or.inr (word hw 25 rfl)) (by decide) (t := .double) (t' := .double) (by decide) (by decide)))
  have f127 := f126.ext E108
  have f128 := f127.other W113 (Or.inr (Jvm.RoadKit.slot_ne (Or.inr (word hw 31 rfl)) (Or.inr (word hw 28 rfl)) (by decide) (t := .double) (t' := .double) (by decide) (by decide)))
  have f129 := f128.ext E119
  have f130 := f118.wr W113
  have f131 := f130.ext E119
  refine Go.putf X121 hx hZ hown (word hw 30 rfl) q121 f129 f131 (Or.inr ⟨(word hw 31 rfl), rfl, hnm⟩) (word hw 3 rfl) (ty := .double) (by decide) rfl rfl (Jvm.hb hby d1_32) (q := 35) rfl ?_
  intro T124 h124 X124 e124 W124
  have N124 := Fr.snoc X124 N121 g1
  have F124 := f129.same W124
  refine Go.aloadN X124.here hx (Jvm.hb hby d1_35) rfl rfl (q := 36) rfl ?_
  have kz133 : k1_119 ≤ h124.size := Nat.le_trans KS119 (Nat.le_of_eq W124.size.symm)
  refine Go.ldcStr X124 hx hZ hown (word hw 32 rfl) (own_wS hw) e124 S119 kz133 (Jvm.hb hby d1_36) (n := 68) (by decide) (by decide) (by decide) (by decide) (q := 38) rfl ?_
  intro T132 h132 a132 V132 k1_132 X132 e132 E132 S132 KS132 hZ hown
  refine Go.dload X132.here hx (Jvm.hb hby d1_38) rfl (q := 40) rfl ?_
  have z135 : n0 ≤ h124.size := Nat.le_trans z123 (Nat.le_of_eq W124.size.symm)
  have z136 : n0 ≤ h132.size := Nat.le_trans z135 E132.1
  refine Go.static X132 hx hZ (y := (⟨"com/example/palpito/palpito/Checks", "finitePositive", "(Ljava/lang/String;D)D"⟩ : MethodName)) hown (word hw 19 rfl) (word hw 20 rfl) (word hw 22 rfl) (word hw 21 rfl) (by decide) (rm_fp l Z a0 hw a132 x4 h132 n0 z136 hf.2.2.2.1) e132  (argsL := [(.ref a132), (.double x4)]) (rest := [(.ref a1)]) (W := 1) (Jvm.hb hby d1_40) rfl rfl (lenOf (pd0) rfl) (by rw [hml]; rfl) (Nat.le_of_eq rfl) (by decide) (by decide) (by decide) (by decide) (q := 43) rfl ?_
  intro T134 L134 w134 X134 hQ134
  obtain ⟨rfl, M134, q134⟩ := hQ134
  have N134 := Fr.app N124 M134
  show Go p e below _ (T134.setTop (mkF m 43 #[.val (.ref a1), .val (.double x1), .second, .val (.double x2), .second, .val (.double x3), .second, .val (.double x4), .second, .val (.double x5), .second, .val (.double x6), .second] [(.double x4), (.ref a1)]))
  have f138 := F4.ext E102
  have f139 := f138.other W105 (Or.inr (Jvm.RoadKit.slot_ne (Or.inr (word hw 34 rfl)) (Or.inr (word hw 25 rfl)) (by decide) (t := .double) (t' := .double) (by decide) (by decide)))
  have f140 := f139.ext E108
  have f141 := f140.other W113 (Or.inr (Jvm.RoadKit.slot_ne (Or.inr (word hw 34 rfl)) (Or.inr (word hw 28 rfl)) (by decide) (t := .double) (t' := .double) (by decide) (by decide)))
  have f142 := f141.ext E119
  have f143 := f142.other W124 (Or.inr (Jvm.RoadKit.slot_ne (Or.inr (word hw 34 rfl)) (Or.inr (word hw 31 rfl)) (by decide) (t := .double) (t' := .double) (by decide) (by decide)))
  have f144 := f143.ext E132
  have f145 := f131.wr W124
  have f146 := f145.ext E132
  refine Go.putf X134 hx hZ hown (word hw 33 rfl) q134 f144 f146 (Or.inr ⟨(word hw 34 rfl), rfl, hnm⟩) (word hw 3 rfl) (ty := .double) (by decide) rfl rfl (Jvm.hb hby d1_43) (q := 46) rfl ?_
  intro T137 h137 X137 e137 W137
  have N137 := Fr.snoc X137 N134 g1
  have F137 := f144.same W137
  refine Go.aloadN X137.here hx (Jvm.hb hby d1_46) rfl rfl (q := 47) rfl ?_
  have kz148 : k1_132 ≤ h137.size := Nat.le_trans KS132 (Nat.le_of_eq W137.size.symm)
  refine Go.ldcStr X137 hx hZ hown (word hw 35 rfl) (own_wS hw) e137 S132 kz148 (Jvm.hb hby d1_47) (n := 48) (by decide) (by decide) (by decide) (by decide) (q := 49) rfl ?_
  intro T147 h147 a147 V147 k1_147 X147 e147 E147 S147 KS147 hZ hown
  refine Go.dload X147.here hx (Jvm.hb hby d1_49) rfl (q := 51) rfl ?_
  have z150 : n0 ≤ h137.size := Nat.le_trans z136 (Nat.le_of_eq W137.size.symm)
  have z151 : n0 ≤ h147.size := Nat.le_trans z150 E147.1
  refine Go.static X147 hx hZ (y := (⟨"com/example/palpito/palpito/Checks", "finitePositive", "(Ljava/lang/String;D)D"⟩ : MethodName)) hown (word hw 19 rfl) (word hw 20 rfl) (word hw 22 rfl) (word hw 21 rfl) (by decide) (rm_fp l Z a0 hw a147 x5 h147 n0 z151 hf.2.2.2.2.1) e147  (argsL := [(.ref a147), (.double x5)]) (rest := [(.ref a1)]) (W := 1) (Jvm.hb hby d1_51) rfl rfl (lenOf (pd0) rfl) (by rw [hml]; rfl) (Nat.le_of_eq rfl) (by decide) (by decide) (by decide) (by decide) (q := 54) rfl ?_
  intro T149 L149 w149 X149 hQ149
  obtain ⟨rfl, M149, q149⟩ := hQ149
  have N149 := Fr.app N137 M149
  show Go p e below _ (T149.setTop (mkF m 54 #[.val (.ref a1), .val (.double x1), .second, .val (.double x2), .second, .val (.double x3), .second, .val (.double x4), .second, .val (.double x5), .second, .val (.double x6), .second] [(.double x5), (.ref a1)]))
  have f153 := F5.ext E102
  have f154 := f153.other W105 (Or.inr (Jvm.RoadKit.slot_ne (Or.inr (word hw 37 rfl)) (Or.inr (word hw 25 rfl)) (by decide) (t := .double) (t' := .double) (by decide) (by decide)))
  have f155 := f154.ext E108
  have f156 := f155.other W113 (Or.inr (Jvm.RoadKit.slot_ne (Or.inr (word hw 37 rfl)) (Or.inr (word hw 28 rfl)) (by decide) (t := .double) (t' := .double) (by decide) (by decide)))
  have f157 := f156.ext E119
  have f158 := f157.other W124 (Or.inr (Jvm.RoadKit.slot_ne (Or.inr (word hw 37 rfl)) (Or.inr (word hw 31 rfl)) (by decide) (t := .double) (t' := .double) (by decide) (by decide)))
  have f159 := f158.ext E132
  have f160 := f159.other W137 (Or.inr (Jvm.RoadKit.slot_ne (Or.inr (word hw 37 rfl)) (Or.inr (word hw 34 rfl)) (by decide) (t := .double) (t' := .double) (by decide) (by decide)))
  have f161 := f160.ext E147
  have f162 := f146.wr W137
  have f163 := f162.ext E147
  refine Go.putf X149 hx hZ hown (word hw 36 rfl) q149 f161 f163 (Or.inr ⟨(word hw 37 rfl), rfl, hnm⟩) (word hw 3 rfl) (ty := .double) (by decide) rfl rfl (Jvm.hb hby d1_54) (q := 57) rfl ?_
  intro T152 h152 X152 e152 W152
  have N152 := Fr.snoc X152 N149 g1
  have F152 := f161.same W152
  refine Go.aloadN X152.here hx (Jvm.hb hby d1_57) rfl rfl (q := 58) rfl ?_
  have kz165 : k1_147 ≤ h152.size := Nat.le_trans KS147 (Nat.le_of_eq W152.size.symm)
  refine Go.ldcStr X152 hx hZ hown (word hw 38 rfl) (own_wS hw) e152 S147 kz165 (Jvm.hb hby d1_58) (n := 76) (by decide) (by decide) (by decide) (by decide) (q := 60) rfl ?_
  intro T164 h164 a164 V164 k1_164 X164 e164 E164 S164 KS164 hZ hown
  refine Go.dload X164.here hx (Jvm.hb hby d1_60) rfl (q := 62) rfl ?_
  have z167 : n0 ≤ h152.size := Nat.le_trans z151 (Nat.le_of_eq W152.size.symm)
  have z168 : n0 ≤ h164.size := Nat.le_trans z167 E164.1
  refine Go.static X164 hx hZ (y := (⟨"com/example/palpito/palpito/Checks", "finitePositive", "(Ljava/lang/String;D)D"⟩ : MethodName)) hown (word hw 19 rfl) (word hw 20 rfl) (word hw 22 rfl) (word hw 21 rfl) (by decide) (rm_fp l Z a0 hw a164 x6 h164 n0 z168 hf.2.2.2.2.2) e164  (argsL := [(.ref a164), (.double x6)]) (rest := [(.ref a1)]) (W := 1) (Jvm.hb hby d1_62) rfl rfl (lenOf (pd0) rfl) (by rw [hml]; rfl) (Nat.le_of_eq rfl) (by decide) (by decide) (by decide) (by decide) (q := 65) rfl ?_
  intro T166 L166 w166 X166 hQ166
  obtain ⟨rfl, M166, q166⟩ := hQ166
  have N166 := Fr.app N152 M166
  show Go p e below _ (T166.setTop (mkF m 65 #[.val (.ref a1), .val (.double x1), .second, .val (.double x2), .second, .val (.double x3), .second, .val (.double x4), .second, .val (.double x5), .second, .val (.double x6), .second] [(.double x6), (.ref a1)]))
  have f170 := F6.ext E102
  have f171 := f170.other W105 (Or.inr (Jvm.RoadKit.slot_ne (Or.inr (word hw 40 rfl)) (Or.inr (word hw 25 rfl)) (by decide) (t := .double) (t' := .double) (by decide) (by decide)))
  have f172 := f171.ext E108
  have f173 := f172.other W113 (Or.inr (Jvm.RoadKit.slot_ne (Or.inr (word hw 40 rfl)) (Or.inr (word hw 28 rfl)) (by decide) (t := .double) (t' := .double) (by decide) (by decide)))
  have f174 := f173.ext E119
  have f175 := f174.other W124 (Or.inr (Jvm.RoadKit.slot_ne (Or.inr (word hw 40 rfl)) (Or.inr (word hw 31 rfl)) (by decide) (t := .double) (t' := .double) (by decide) (by decide)))
  have f176 := f175.ext E132
  have f177 := f176.other W137 (Or.inr (Jvm.RoadKit.slot_ne (Or.inr (word hw 40 rfl)) (Or.inr (word hw 34 rfl)) (by decide) (t := .double) (t' := .double) (by decide) (by decide)))
  have f178 := f177.ext E147
  have f179 := f178.other W152 (Or.inr (Jvm.RoadKit.slot_ne (Or.inr (word hw 40 rfl)) (Or.inr (word hw 37 rfl)) (by decide) (t := .double) (t' := .double) (by decide) (by decide)))
  have f180 := f179.ext E164
  have f181 := f163.wr W152
  have f182 := f181.ext E164
  refine Go.putf X166 hx hZ hown (word hw 39 rfl) q166 f180 f182 (Or.inr ⟨(word hw 40 rfl), rfl, hnm⟩) (word hw 3 rfl) (ty := .double) (by decide) rfl rfl (Jvm.hb hby d1_65) (q := 68) rfl ?_
  intro T169 h169 X169 e169 W169
  have N169 := Fr.snoc X169 N166 g1
  have F169 := f180.same W169
  have kz183 : k1_164 ≤ h169.size := Nat.le_trans KS164 (Nat.le_of_eq W169.size.symm)
  have k184 : Keep h0 h102 [a1] := (Keep.refl h0 [a1]).ext E102
  have k185 : Keep h0 h105 [a1] := k184.wr W105 (Or.inl (List.mem_of_getElem? (i := 0) rfl))
  have k186 : Keep h0 h108 [a1] := k185.ext E108
  have k187 : Keep h0 h113 [a1] := k186.wr W113 (Or.inl (List.mem_of_getElem? (i := 0) rfl))
  have k188 : Keep h0 h119 [a1] := k187.ext E119
  have k189 : Keep h0 h124 [a1] := k188.wr W124 (Or.inl (List.mem_of_getElem? (i := 0) rfl))
  have k190 : Keep h0 h132 [a1] := k189.ext E132
  have k191 : Keep h0 h137 [a1] := k190.wr W137 (Or.inl (List.mem_of_getElem? (i := 0) rfl))
  have k192 : Keep h0 h147 [a1] := k191.ext E147
  have k193 : Keep h0 h152 [a1] := k192.wr W152 (Or.inl (List.mem_of_getElem? (i := 0) rfl))
  have k194 : Keep h0 h164 [a1] := k193.ext E164
  have k195 : Keep h0 h169 [a1] := k194.wr W169 (Or.inl (List.mem_of_getElem? (i := 0) rfl))
  have f196 := f182.wr W169
  have f197 := F105.ext E108
  have f198 := f197.other W113 (Or.inr (Jvm.RoadKit.slot_ne (Or.inr (word hw 25 rfl)) (Or.inr (word hw 28 rfl)) (by decide) (t := .double) (t' := .double) (by decide) (by decide)))
  have f199 := f198.ext E119
  have f200 := f199.other W124 (Or.inr (Jvm.RoadKit.slot_ne (Or.inr (word hw 25 rfl)) (Or.inr (word hw 31 rfl)) (by decide) (t := .double) (t' := .double) (by decide) (by decide)))
  have f201 := f200.ext E132
  have f202 := f201.other W137 (Or.inr (Jvm.RoadKit.slot_ne (Or.inr (word hw 25 rfl)) (Or.inr (word hw 34 rfl)) (by decide) (t := .double) (t' := .double) (by decide) (by decide)))
  have f203 := f202.ext E147
  have f204 := f203.other W152 (Or.inr (Jvm.RoadKit.slot_ne (Or.inr (word hw 25 rfl)) (Or.inr (word hw 37 rfl)) (by decide) (t := .double) (t' := .double) (by decide) (by decide)))
  have f205 := f204.ext E164
  have f206 := f205.other W169 (Or.inr (Jvm.RoadKit.slot_ne (Or.inr (word hw 25 rfl)) (Or.inr (word hw 40 rfl)) (by decide) (t := .double) (t' := .double) (by decide) (by decide)))
  refine Go.retVW X169 S164 (by rw [e169]; exact kz183) hx hret hlk (Jvm.hb hby d1_68) (by decide) (by decide) ?_
  rw [e169]
  exact ⟨rfl, N169, k195, f196, f206⟩
theorem d4_0 : decode prog_1_method_7_code 0 = .ok (.iload_n 1, 1) := by decide +kernel
theorem d4_1 : decode prog_1_method_7_code 1 = .ok (.i2d, 1) := by decide +kernel
theorem d4_2 : decode prog_1_method_7_code 2 = .ok (.ldc2_w 55, 3) := by decide +kernel
theorem d4_5 : decode prog_1_method_7_code 5 = .ok (.aload_n 0, 1) := by decide +kernel
theorem d4_6 : decode prog_1_method_7_code 6 = .ok (.getfield 17, 3) := by decide +kernel
theorem d4_9 : decode prog_1_method_7_code 9 = .ok (.dmul, 1) := by decide +kernel
theorem d4_10 : decode prog_1_method_7_code 10 = .ok (.dcmp .l, 1) := by decide +kernel
theorem d4_11 : decode prog_1_method_7_code 11 = .ok (.ifCond .le 7, 3) := by decide +kernel
theorem d4_14 : decode prog_1_method_7_code 14 = .ok (.iconst 1, 1) := by decide +kernel
theorem d4_15 : decode prog_1_method_7_code 15 = .ok (.goto 4, 3) := by decide +kernel
theorem d4_18 : decode prog_1_method_7_code 18 = .ok (.iconst 0, 1) := by decide +kernel
theorem d4_19 : decode prog_1_method_7_code 19 = .ok (.ireturn, 1) := by decide +kernel
set_option maxRecDepth 65536 in
set_option maxHeartbeats 40000000 in
theorem rm_sim (l : Launch) (Z : State) (a0 : Array Value) (hw : ∀ d ∈ tables_1, d.before a0 Z = true) (a1 : Addr) (i : Int32) (r : UInt64) (h0 : Heap) (n0 : Nat) (Z0 : n0 ≤ h0.size) (F1 : Fld Z h0 a1 "com/example/palpito/palpito/Actuator" "resonanceHz" "D" (.double r)) (hn : Jvm.Free.Fl.NoNaN64 (FP.dmul 4611686018427387904 r)) :
    Con l Z (⟨"com/example/palpito/palpito/Actuator", "simulatesAt", "(I)Z"⟩ : MethodName) prog_1_method_7_code 2 (some .boolean) ({ frames := 0, cells := 0, slots := 0, locals := 0 } : Room) #[(.ref a1), (.int i)] h0 (fun vR hR LR => vR = some (.int (own_sim i r)) ∧ Fr n0 LR ∧ hR = h0) := by
  refine enter (l := l) (Z := Z) (y := (⟨"com/example/palpito/palpito/Actuator", "simulatesAt", "(I)Z"⟩ : MethodName)) (bytes := prog_1_method_7_code) (maxL := 2) (ret := (some .boolean)) (ws := []) (rm := ({ frames := 0, cells := 0, slots := 0, locals := 0 } : Room)) (as' := #[(.ref a1), (.int i)]) (h0 := h0) (Qv := (fun vR hR LR => vR = some (.int (own_sim i r)) ∧ Fr n0 LR ∧ hR = h0)) (kc := 0) (ks := 0) (by first | exact plainFor_of_name (by first | (simp [plainName, overriddenIn]; done) | decide +kernel) | decide +kernel) (Ls := #[.val (.ref a1), .val (.int i)]) (fun m => by first | (simp [entryFrame, mkF, argsToLocals, Value.category]; done) | rfl) ?_
  intro p e s m below meth c s₁ hx hby hml hown hnm hret hlk hZ X0 e0
  have hown : s.vm.findClass "com/example/palpito/palpito/Actuator" = some m.cls := hown
  have hml : c.maxLocals = 2 := hml
  have N0 := Fr.nil n0
  refine Go.iloadN X0.here hx (Jvm.hb hby d4_0) rfl (q := 1) rfl ?_
  obtain ⟨u1, hu1⟩ : ∃ zq, FP.i2d i = zq := ⟨_, rfl⟩
  refine Go.i2d X0.here hx (Jvm.hb hby d4_1) hu1 (q := 2) rfl ?_
  refine Go.ldc2D X0 hx hown (mvT hZ (word hw 47 rfl)) (Jvm.hb hby d4_2) (q := 5) rfl ?_
  refine Go.aloadN X0.here hx (Jvm.hb hby d4_5) rfl rfl (q := 6) rfl ?_
  refine Go.getf X0 hx hZ hown (word hw 24 rfl) e0 F1 (Jvm.hb hby d4_6) (q := 9) rfl ?_
  intro T101 X101 e101
  obtain ⟨u9, hu9⟩ : ∃ zq, FP.dmul (4611686018427387904 : UInt64) r = zq := ⟨_, rfl⟩
  refine Go.dmul X101.here hx (Jvm.hb hby d4_9) hn hu9 (q := 10) rfl ?_
  obtain ⟨u10, hu10⟩ : ∃ zq, cmpValue (FP.dcmp u1 u9) .l = zq := ⟨_, rfl⟩
  refine Go.dcmp X101.here hx (Jvm.hb hby d4_10) hu10 (q := 11) rfl ?_
  by_cases hc11 : (0 : Int32) < u10
  · -- pc 11: (0 : Int32) < u10
    refine Go.ifN X101.here hx (Jvm.hb hby d4_11) ((if0 _ _).trans (tlt hc11).2.2.2) (q := 14) rfl ?_
    refine Go.iconst X101.here hx (Jvm.hb hby d4_14) (v := (1 : Int32)) rfl (q := 15) rfl ?_
    refine Go.goto X101.here hx (Jvm.hb hby d4_15) (by decide) (q := 19) rfl ?_
    refine Go.retZ X101 hx hret hlk (Jvm.hb hby d4_19) (Or.inr rfl) (by decide) (by decide) ?_
    exact ⟨by subst_vars; rw [own_sim, if_pos hc11], N0, e101⟩
  · -- pc 11: not (0 : Int32) < u10
    refine Go.ifY X101.here hx (Jvm.hb hby d4_11) ((if0 _ _).trans (flt hc11).2.2.2) (by decide) (q := 18) rfl ?_
    refine Go.iconst X101.here hx (Jvm.hb hby d4_18) (v := (0 : Int32)) rfl (q := 19) rfl ?_
    refine Go.retZ X101 hx hret hlk (Jvm.hb hby d4_19) (Or.inl rfl) (by decide) (by decide) ?_
    exact ⟨by subst_vars; rw [own_sim, if_neg hc11], N0, e101⟩
set_option maxRecDepth 65536 in
set_option maxHeartbeats 40000000 in
theorem rm_law (l : Launch) (Z : State) (a0 : Array Value) (hw : ∀ d ∈ tables_1, d.before a0 Z = true) (ws : List Jvm.Cond) (q1 : Int64) (q2 : Int32) (q3 : Int32) (q4 : Int32) (h0 : Heap) (n0 : Nat) (Z0 : n0 ≤ h0.size)  :
    MetFree l x (head1 (Jvm.Cond.code x code maxLocals ret :: ws) room_1) (fun a U => a = #[(.long q1), (.int q2), (.int q3), (.int q4)] ∧ Z.Warmed39 U.vm ∧ U.heap = h0) (fun _ _ _ _ _ => True) (fun _ U o U' => ∃ v L, o = .returned v ∧ (fun vR hR LR => vR = some (.int (1 : Int32)) ∧ Fr n0 LR) v U'.heap L ∧ ReturnedEndW U o U' L 24 6272) := by
  refine enterW (l := l) (Z := Z) (y := x) (bytes := code) (maxL := maxLocals) (ret := ret) (ws := ws) (rm := room_1) (as' := #[(.long q1), (.int q2), (.int q3), (.int q4)]) (h0 := h0) (Qv := (fun vR hR LR => vR = some (.int (1 : Int32)) ∧ Fr n0 LR)) (kc := 24) (ks := 6272) (by first | exact plainFor_of_name (by first | (simp [plainName, overriddenIn]; done) | decide +kernel) | decide +kernel) (Ls := #[.val (.long q1), .second, .val (.int q2), .val (.int q3), .val (.int q4), .unset, .unset, .unset, .unset, .unset, .unset, .unset]) (fun m => by first | (simp [entryFrame, mkF, argsToLocals, Value.category, maxLocals]; done) | rfl) ?_
  intro p e s m below meth c s₁ V0 k0 hx hby hml hown hnm hret hlk hZ X0 e0 S0 K0
  have hown : (s.setVm V0).vm.findClass "com/example/palpito/palpito/ActuatorSimulatesAtPinLaw" = some m.cls := hown
  have hml : c.maxLocals = 12 := hml
  have N0 := Fr.nil n0
  refine Go.lloadN X0.here hx (Jvm.hb hby at_0) rfl (q := 1) rfl ?_
  refine Go.ldc2J X0 hx hown (mvT hZ (word hw 0 rfl)) (Jvm.hb hby at_1) (q := 4) rfl ?_
  obtain ⟨u4, hu4⟩ : ∃ zq, q1 &&& (8589934591 : Int64) = zq := ⟨_, rfl⟩
  refine Go.land X0.here hx (Jvm.hb hby at_4) hu4 (q := 5) rfl ?_
  refine Go.lconst X0.here hx (Jvm.hb hby at_5) (v := (1 : Int64)) rfl (q := 6) rfl ?_
  obtain ⟨u6, hu6⟩ : ∃ zq, u4 + (1 : Int64) = zq := ⟨_, rfl⟩
  refine Go.ladd X0.here hx (Jvm.hb hby at_6) hu6 (q := 7) rfl ?_
  refine Go.lstore X0.here hx (Jvm.hb hby at_7) (l2 := #[.val (.long q1), .second, .val (.int q2), .val (.int q3), .val (.int q4), .val (.long u6), .second, .unset, .unset, .unset, .unset, .unset]) rfl (q := 9) rfl ?_
  refine Go.iloadN X0.here hx (Jvm.hb hby at_9) rfl (q := 10) rfl ?_
  refine Go.istore X0.here hx (Jvm.hb hby at_10) (l2 := #[.val (.long q1), .second, .val (.int q2), .val (.int q3), .val (.int q4), .val (.long u6), .second, .val (.int q2), .unset, .unset, .unset, .unset]) rfl (q := 12) rfl ?_
  refine Go.iloadN X0.here hx (Jvm.hb hby at_12) rfl (q := 13) rfl ?_
  refine Go.iconst X0.here hx (Jvm.hb hby at_13) (v := (1 : Int32)) rfl (q := 14) rfl ?_
  obtain ⟨u14, hu14⟩ : ∃ zq, q3 &&& (1 : Int32) = zq := ⟨_, rfl⟩
  refine Go.iand X0.here hx (Jvm.hb hby at_14) hu14 (q := 15) rfl ?_
  have J34 : ∀ (ii : Int32), Go p e below (RetW s (fun vR hR LR => vR = some (.int (1 : Int32)) ∧ Fr n0 LR) 24 6272) (s₁.setTop (mkF m 34 #[.val (.long q1), .second, .val (.int q2), .val (.int q3), .val (.int q4), .val (.long u6), .second, .val (.int ii), .unset, .unset, .unset, .unset] [])) := by
    intro ii 
    refine Go.lload X0.here hx (Jvm.hb hby at_34) rfl (q := 36) rfl ?_
    obtain ⟨u36, hu36⟩ : ∃ zq, FP.l2d u6 = zq := ⟨_, rfl⟩
    refine Go.l2d X0.here hx (Jvm.hb hby at_36) hu36 (q := 37) rfl ?_
    refine Go.ldc2D X0 hx hown (mvT hZ (word hw 1 rfl)) (Jvm.hb hby at_37) (q := 40) rfl ?_
    obtain ⟨u40, hu40⟩ : ∃ zq, FP.ddiv u36 (4616189618054758400 : UInt64) = zq := ⟨_, rfl⟩
    refine Go.ddiv X0.here hx (Jvm.hb hby at_40) (own_res (own_n hu4 hu6) hu36 hu40).1 hu40 (q := 41) rfl ?_
    refine Go.dstore X0.here hx (Jvm.hb hby at_41) (l2 := #[.val (.long q1), .second, .val (.int q2), .val (.int q3), .val (.int q4), .val (.long u6), .second, .val (.int ii), .val (.double u40), .second, .unset, .unset]) rfl (q := 43) rfl ?_
    refine Go.new X0 hx hZ hown (word hw 2 rfl) (word hw 3 rfl) (word hw 4 rfl) e0 (Jvm.hb hby at_43) (by decide) (by decide) (q := 46) rfl ?_
    intro T101 h101 a101 g101 X101 e101 E101 A101 D101
    have r102 : n0 ≤ a101 := Nat.le_trans Z0 (Nat.le_of_eq g101.symm)
    have F103 : Fld Z h101 a101 "com/example/palpito/palpito/Actuator" "resonanceHz" "D" (.double (0 : UInt64)) := D101 (Or.inr (word hw 25 rfl)) (ty := .double) (by decide)
    have F104 : Fld Z h101 a101 "com/example/palpito/palpito/Actuator" "qualityFactor" "D" (.double (0 : UInt64)) := D101 (Or.inr (word hw 28 rfl)) (ty := .double) (by decide)
    have F105 : Fld Z h101 a101 "com/example/palpito/palpito/Actuator" "forceFactorNPerA" "D" (.double (0 : UInt64)) := D101 (Or.inr (word hw 31 rfl)) (ty := .double) (by decide)
    have F106 : Fld Z h101 a101 "com/example/palpito/palpito/Actuator" "coilResistanceOhm" "D" (.double (0 : UInt64)) := D101 (Or.inr (word hw 34 rfl)) (ty := .double) (by decide)
    have F107 : Fld Z h101 a101 "com/example/palpito/palpito/Actuator" "deviceMassKg" "D" (.double (0 : UInt64)) := D101 (Or.inr (word hw 37 rfl)) (ty := .double) (by decide)
    have F108 : Fld Z h101 a101 "com/example/palpito/palpito/Actuator" "locationCoefficient" "D" (.double (0 : UInt64)) := D101 (Or.inr (word hw 40 rfl)) (ty := .double) (by decide)
    refine Go.dup X101.here hx (Jvm.hb hby at_46) rfl (q := 47) rfl ?_
    refine Go.dload X101.here hx (Jvm.hb hby at_47) rfl (q := 49) rfl ?_
    refine Go.iload X101.here hx (Jvm.hb hby at_49) rfl (q := 51) rfl ?_
    refine Go.sipush X101.here hx (Jvm.hb hby at_51) (v := (255 : Int32)) rfl (q := 54) rfl ?_
    obtain ⟨u54, hu54⟩ : ∃ zq, q4 &&& (255 : Int32) = zq := ⟨_, rfl⟩
    refine Go.iand X101.here hx (Jvm.hb hby at_54) hu54 (q := 55) rfl ?_
    refine Go.iconst X101.here hx (Jvm.hb hby at_55) (v := (1 : Int32)) rfl (q := 56) rfl ?_
    obtain ⟨u56, hu56⟩ : ∃ zq, u54 + (1 : Int32) = zq := ⟨_, rfl⟩
    refine Go.iadd X101.here hx (Jvm.hb hby at_56) hu56 (q := 57) rfl ?_
    obtain ⟨u57, hu57⟩ : ∃ zq, FP.i2d u56 = zq := ⟨_, rfl⟩
    refine Go.i2d X101.here hx (Jvm.hb hby at_57) hu57 (q := 58) rfl ?_
    refine Go.dconst1 X101.here hx (Jvm.hb hby at_58) (v := (4607182418800017408 : UInt64)) rfl (q := 59) rfl ?_
    refine Go.dconst1 X101.here hx (Jvm.hb hby at_59) (v := (4607182418800017408 : UInt64)) rfl (q := 60) rfl ?_
    refine Go.dconst1 X101.here hx (Jvm.hb hby at_60) (v := (4607182418800017408 : UInt64)) rfl (q := 61) rfl ?_
    refine Go.dconst1 X101.here hx (Jvm.hb hby at_61) (v := (4607182418800017408 : UInt64)) rfl (q := 62) rfl ?_
    have z110 : n0 ≤ h101.size := Nat.le_trans Z0 E101.1
    have kz111 : k0 ≤ h101.size := Nat.le_trans K0 E101.1
    refine Go.specialW X101 hx hZ (y := (⟨"com/example/palpito/palpito/Actuator", "<init>", "(DDDDDD)V"⟩ : MethodName)) rfl hown (word hw 5 rfl) (word hw 6 rfl) (word hw 7 rfl) (word hw 4 rfl) (by decide) (rm_init l Z a0 hw a101 u40 u57 (4607182418800017408 : UInt64) (4607182418800017408 : UInt64) (4607182418800017408 : UInt64) (4607182418800017408 : UInt64) (.double (0 : UInt64)) (.double (0 : UInt64)) (.double (0 : UInt64)) (.double (0 : UInt64)) (.double (0 : UInt64)) (.double (0 : UInt64)) h101 n0 z110 A101 F103 F104 F105 F106 F107 F108 r102 (⟨own_res_fp (own_n hu4 hu6) (own_res (own_n hu4 hu6) hu36 hu40).2, own_qf hu54 hu56 hu57, own_one, own_one, own_one, own_one⟩)) e101 S0 kz111 (a := a101) (argsL := [(.double u40), (.double u57), (.double (4607182418800017408 : UInt64)), (.double (4607182418800017408 : UInt64)), (.double (4607182418800017408 : UInt64)), (.double (4607182418800017408 : UInt64))]) (rest := [(.ref a101)]) (W := 1) (Jvm.hb hby at_62) rfl rfl (lenOf (pd1) rfl) (by rw [hml]; rfl) (Nat.le_of_eq rfl) (by decide) (by decide) (by decide) (by decide) (q := 65) rfl ?_
    intro T109 L109 w109 V109 k1_109 X109 hQ109 S109 KS109 hZ hown
    obtain ⟨rfl, M109, K109, P109_0, P109_1⟩ := hQ109
    have N109 := Fr.app N0 M109
    show Go p e below _ (T109.setTop (mkF m 65 #[.val (.long q1), .second, .val (.int q2), .val (.int q3), .val (.int q4), .val (.long u6), .second, .val (.int ii), .val (.double u40), .second, .unset, .unset] [(.ref a101)]))
    refine Go.astore X109.here hx (Jvm.hb hby at_65) rfl (l2 := #[.val (.long q1), .second, .val (.int q2), .val (.int q3), .val (.int q4), .val (.long u6), .second, .val (.int ii), .val (.double u40), .second, .val (.ref a101), .unset]) rfl (q := 67) rfl ?_
    refine Go.ldc2J X109 hx hown (mvT hZ (word hw 41 rfl)) (Jvm.hb hby at_67) (q := 70) rfl ?_
    refine Go.iload X109.here hx (Jvm.hb hby at_70) rfl (q := 72) rfl ?_
    obtain ⟨u72, hu72⟩ : ∃ zq, Int32.toInt64 ii = zq := ⟨_, rfl⟩
    refine Go.i2l X109.here hx (Jvm.hb hby at_72) hu72 (q := 73) rfl ?_
    obtain ⟨u73, hu73⟩ : ∃ zq, (2 : Int64) * u72 = zq := ⟨_, rfl⟩
    refine Go.lmul X109.here hx (Jvm.hb hby at_73) hu73 (q := 74) rfl ?_
    refine Go.lload X109.here hx (Jvm.hb hby at_74) rfl (q := 76) rfl ?_
    obtain ⟨u76, hu76⟩ : ∃ zq, lcmpW u73 u6 = zq := ⟨_, rfl⟩
    refine Go.lcmp X109.here hx (Jvm.hb hby at_76) hu76 (q := 77) rfl ?_
    by_cases hc77 : u6 < u73
    · -- pc 77: u6 < u73
      refine Go.ifN X109.here hx (Jvm.hb hby at_77) ((if0 _ _).trans (tlt (hu76 ▸ (lw_gt _ _).mpr hc77)).2.2.2) (q := 80) rfl ?_
      refine Go.iconst X109.here hx (Jvm.hb hby at_80) (v := (1 : Int32)) rfl (q := 81) rfl ?_
      refine Go.goto X109.here hx (Jvm.hb hby at_81) (by decide) (q := 85) rfl ?_
      refine Go.istore X109.here hx (Jvm.hb hby at_85) (l2 := #[.val (.long q1), .second, .val (.int q2), .val (.int q3), .val (.int q4), .val (.long u6), .second, .val (.int ii), .val (.double u40), .second, .val (.ref a101), .val (.int (1 : Int32))]) rfl (q := 87) rfl ?_
      refine Go.aload X109.here hx (Jvm.hb hby at_87) rfl rfl (q := 89) rfl ?_
      refine Go.iload X109.here hx (Jvm.hb hby at_89) rfl (q := 91) rfl ?_
      have z114 : n0 ≤ T109.heap.size := Nat.le_trans z110 K109.1
      refine Go.virtual X109 hx hZ (y := (⟨"com/example/palpito/palpito/Actuator", "simulatesAt", "(I)Z"⟩ : MethodName)) hown (word hw 42 rfl) (word hw 43 rfl) (word hw 45 rfl) (word hw 44 rfl) (word hw 46 rfl) (word hw 4 rfl) (by decide) (rm_sim l Z a0 hw a101 ii u40 T109.heap n0 z114 P109_1 ((nn_of (own_dbl (own_n hu4 hu6) (own_res (own_n hu4 hu6) hu36 hu40).2).1))) rfl P109_0  (argsL := [(.int ii)]) (rest := []) (W := 0) (Jvm.hb hby at_91) rfl rfl (lenOf (pd2) rfl) (by rw [hml]; rfl) (Nat.le_of_eq rfl) (by decide) (by decide) (by decide) (by decide) (q := 94) rfl ?_
      intro T113 L113 w113 X113 hQ113
      obtain ⟨rfl, M113, q113⟩ := hQ113
      have N113 := Fr.app N109 M113
      show Go p e below _ (T113.setTop (mkF m 94 #[.val (.long q1), .second, .val (.int q2), .val (.int q3), .val (.int q4), .val (.long u6), .second, .val (.int ii), .val (.double u40), .second, .val (.ref a101), .val (.int (1 : Int32))] [(.int (own_sim ii u40))]))
      obtain ⟨rr, hrr⟩ : ∃ zq, (own_sim ii u40) = zq := ⟨_, rfl⟩
      rw [hrr]
      refine Go.iload X113.here hx (Jvm.hb hby at_94) rfl (q := 96) rfl ?_
      have hc96 : rr = (1 : Int32) := by rw [← hrr]; first | exact own_s1 (own_n hu4 hu6) (own_res (own_n hu4 hu6) hu36 hu40).2 hu72 hu73 hc77 | exact own_s0 (own_n hu4 hu6) (own_res (own_n hu4 hu6) hu36 hu40).2 hu72 hu73 hc77
      refine Go.icmpN X113.here hx (Jvm.hb hby at_96) (teq hc96).2 (q := 99) rfl ?_
      refine Go.iconst X113.here hx (Jvm.hb hby at_99) (v := (1 : Int32)) rfl (q := 100) rfl ?_
      refine Go.goto X113.here hx (Jvm.hb hby at_100) (by decide) (q := 104) rfl ?_
      refine Go.retZW X113 S109 (by rw [q113]; exact KS109) hx hret hlk (Jvm.hb hby at_104) (Or.inr rfl) (by decide) (by decide) ?_
      exact ⟨rfl, N113⟩
    · -- pc 77: not u6 < u73
      refine Go.ifY X109.here hx (Jvm.hb hby at_77) ((if0 _ _).trans (flt (fun z => hc77 ((lw_gt _ _).mp (hu76.symm ▸ z)))).2.2.2) (by decide) (q := 84) rfl ?_
      refine Go.iconst X109.here hx (Jvm.hb hby at_84) (v := (0 : Int32)) rfl (q := 85) rfl ?_
      refine Go.istore X109.here hx (Jvm.hb hby at_85) (l2 := #[.val (.long q1), .second, .val (.int q2), .val (.int q3), .val (.int q4), .val (.long u6), .second, .val (.int ii), .val (.double u40), .second, .val (.ref a101), .val (.int (0 : Int32))]) rfl (q := 87) rfl ?_
      refine Go.aload X109.here hx (Jvm.hb hby at_87) rfl rfl (q := 89) rfl ?_
      refine Go.iload X109.here hx (Jvm.hb hby at_89) rfl (q := 91) rfl ?_
      have z117 : n0 ≤ T109.heap.size := Nat.le_trans z110 K109.1
      refine Go.virtual X109 hx hZ (y := (⟨"com/example/palpito/palpito/Actuator", "simulatesAt", "(I)Z"⟩ : MethodName)) hown (word hw 42 rfl) (word hw 43 rfl) (word hw 45 rfl) (word hw 44 rfl) (word hw 46 rfl) (word hw 4 rfl) (by decide) (rm_sim l Z a0 hw a101 ii u40 T109.heap n0 z117 P109_1 ((nn_of (own_dbl (own_n hu4 hu6) (own_res (own_n hu4 hu6) hu36 hu40).2).1))) rfl P109_0  (argsL := [(.int ii)]) (rest := []) (W := 0) (Jvm.hb hby at_91) rfl rfl (lenOf (pd2) rfl) (by rw [hml]; rfl) (Nat.le_of_eq rfl) (by decide) (by decide) (by decide) (by decide) (q := 94) rfl ?_
      intro T116 L116 w116 X116 hQ116
      obtain ⟨rfl, M116, q116⟩ := hQ116
      have N116 := Fr.app N109 M116
      show Go p e below _ (T116.setTop (mkF m 94 #[.val (.long q1), .second, .val (.int q2), .val (.int q3), .val (.int q4), .val (.long u6), .second, .val (.int ii), .val (.double u40), .second, .val (.ref a101), .val (.int (0 : Int32))] [(.int (own_sim ii u40))]))
      obtain ⟨rr, hrr⟩ : ∃ zq, (own_sim ii u40) = zq := ⟨_, rfl⟩
      rw [hrr]
      refine Go.iload X116.here hx (Jvm.hb hby at_94) rfl (q := 96) rfl ?_
      have hc96 : rr = (0 : Int32) := by rw [← hrr]; first | exact own_s1 (own_n hu4 hu6) (own_res (own_n hu4 hu6) hu36 hu40).2 hu72 hu73 hc77 | exact own_s0 (own_n hu4 hu6) (own_res (own_n hu4 hu6) hu36 hu40).2 hu72 hu73 hc77
      refine Go.icmpN X116.here hx (Jvm.hb hby at_96) (teq hc96).2 (q := 99) rfl ?_
      refine Go.iconst X116.here hx (Jvm.hb hby at_99) (v := (1 : Int32)) rfl (q := 100) rfl ?_
      refine Go.goto X116.here hx (Jvm.hb hby at_100) (by decide) (q := 104) rfl ?_
      refine Go.retZW X116 S109 (by rw [q116]; exact KS109) hx hret hlk (Jvm.hb hby at_104) (Or.inr rfl) (by decide) (by decide) ?_
      exact ⟨rfl, N116⟩
  by_cases hc15 : u14 = (0 : Int32)
  · -- pc 15: u14 = (0 : Int32)
    refine Go.ifY X0.here hx (Jvm.hb hby at_15) ((if0 _ _).trans (teq hc15).1) (by decide) (q := 34) rfl ?_
    exact J34 q2 
  · -- pc 15: not u14 = (0 : Int32)
    refine Go.ifN X0.here hx (Jvm.hb hby at_15) ((if0 _ _).trans (feq hc15).1) (q := 18) rfl ?_
    refine Go.lload X0.here hx (Jvm.hb hby at_18) rfl (q := 20) rfl ?_
    refine Go.iconst X0.here hx (Jvm.hb hby at_20) (v := (1 : Int32)) rfl (q := 21) rfl ?_
    obtain ⟨u21, hu21⟩ : ∃ zq, u6 >>> Int32.toInt64 ((1 : Int32) &&& 0x3f) = zq := ⟨_, rfl⟩
    refine Go.lshr X0.here hx (Jvm.hb hby at_21) hu21 (q := 22) rfl ?_
    refine Go.iloadN X0.here hx (Jvm.hb hby at_22) rfl (q := 23) rfl ?_
    refine Go.iconst X0.here hx (Jvm.hb hby at_23) (v := (1 : Int32)) rfl (q := 24) rfl ?_
    obtain ⟨u24, hu24⟩ : ∃ zq, (Int32.toUInt32 q3 >>> Int32.toUInt32 ((1 : Int32) &&& 31)).toInt32 = zq := ⟨_, rfl⟩
    refine Go.iushr X0.here hx (Jvm.hb hby at_24) hu24 (q := 25) rfl ?_
    refine Go.iconst X0.here hx (Jvm.hb hby at_25) (v := (3 : Int32)) rfl (q := 26) rfl ?_
    obtain ⟨u26, hu26⟩ : ∃ zq, u24 - (u24 / (3 : Int32)) * (3 : Int32) = zq := ⟨_, rfl⟩
    refine Go.irem X0.here hx (Jvm.hb hby at_26) (by decide) hu26 (q := 27) rfl ?_
    obtain ⟨u27, hu27⟩ : ∃ zq, Int32.toInt64 u26 = zq := ⟨_, rfl⟩
    refine Go.i2l X0.here hx (Jvm.hb hby at_27) hu27 (q := 28) rfl ?_
    obtain ⟨u28, hu28⟩ : ∃ zq, u21 + u27 = zq := ⟨_, rfl⟩
    refine Go.ladd X0.here hx (Jvm.hb hby at_28) hu28 (q := 29) rfl ?_
    refine Go.lconst X0.here hx (Jvm.hb hby at_29) (v := (1 : Int64)) rfl (q := 30) rfl ?_
    obtain ⟨u30, hu30⟩ : ∃ zq, u28 - (1 : Int64) = zq := ⟨_, rfl⟩
    refine Go.lsub X0.here hx (Jvm.hb hby at_30) hu30 (q := 31) rfl ?_
    obtain ⟨u31, hu31⟩ : ∃ zq, Int64.toInt32 u30 = zq := ⟨_, rfl⟩
    refine Go.l2i X0.here hx (Jvm.hb hby at_31) hu31 (q := 32) rfl ?_
    refine Go.istore X0.here hx (Jvm.hb hby at_32) (l2 := #[.val (.long q1), .second, .val (.int q2), .val (.int q3), .val (.int q4), .val (.long u6), .second, .val (.int u31), .unset, .unset, .unset, .unset]) rfl (q := 34) rfl ?_
    exact J34 u31 
set_option maxRecDepth 65536 in
set_option maxHeartbeats 40000000 in
theorem comes_1 {Post : Tables → Env → Array Value → State → Outcome → State → Prop} (hpost : ∀ tb e args s v u, (limb_1_1.after args s (.returned v) u = true ∧ limb_1_2.after args s (.returned v) u = true ∧ True) → ReturnedEndW s (.returned v) u (Jvm.fieldLocs frame_1_writes args s ++ Jvm.arrayLocs frame_1_arrays args s ++ Jvm.staticLocs frame_1_statics s) 24 6272 → Post tb e args s (.returned v) u) :
    ArmFor flags0 classFile x code maxLocals ret World_1 tables_1 room_1 Calls_1 rest_1 Pre_1 Post := by
  intro l hfl _ _ p e ha hc hk s m args below hf hA hF happ hP
  obtain ⟨hcalls, hrest, hpre⟩ := hP
  obtain ⟨-, -, -, hnamed, -, -, -, hat⟩ := (Spec.applies_iff hf).mp happ
  obtain ⟨hg, hn⟩ := and_e (Cond.before_iff.mp (show (Jvm.Cond.and given_1 narrow_1).before args s = true from hpre))
  obtain ⟨g0, hg⟩ := and_e hg
  obtain ⟨w0, w1, w2, w3, rfl⟩ : ∃ w0 w1 w2 w3 : Value, args = #[w0, w1, w2, w3] := by
    have hs : args.size = 4 := by simpa [Cond.value, given_1] using g0
    obtain ⟨L⟩ := args
    match L, hs with
    | [w0, w1, w2, w3], _ => exact ⟨w0, w1, w2, w3, rfl⟩
  have hw := fun d (hd : d ∈ tables_1) => atoms_spec (ws := Jvm.Cond.code x code maxLocals ret :: tables_1) hat d (List.mem_cons_of_mem _ hd)
  obtain ⟨g1, hg⟩ := and_e hg
  obtain ⟨i0, e0⟩ := isL_v g1
  obtain rfl : w0 = (.long i0) := Option.some.inj e0
  obtain ⟨g2, hg⟩ := and_e hg
  obtain ⟨i1, e1⟩ := is_v g2
  obtain rfl : w1 = (.int i1) := Option.some.inj e1
  obtain ⟨g3, hg⟩ := and_e hg
  obtain ⟨i2, e2⟩ := is_v g3
  obtain rfl : w2 = (.int i2) := Option.some.inj e2
  obtain ⟨i3, e3⟩ := is_v hg
  obtain rfl : w3 = (.int i3) := Option.some.inj e3
  obtain ⟨n, o, h1, h2, h3, _, L, rfl, ⟨rfl, N⟩, hq⟩ := rm_law l s _ hw tables_1 i0 i1 i2 i3  s.heap s.heap.size (Nat.le_refl _)  p e ha hc hk s m _ below hf ((Spec.applies_iff_loose hf).mp happ).1 ⟨rfl, State.Warmed39.refl s, rfl⟩ trivial
  refine ⟨n, _, h1, h2, h3, hpost _ _ _ _ _ _ ⟨Cond.after_iff.mpr rfl, Cond.after_iff.mpr (eq_i res_at (Term.int_eval (1)) rfl), trivial⟩ ⟨hq.1, hq.2.1, hq.2.2.1, (hq.2.2.2.sift fun y hy => Or.inr (N y hy)).mono (by decide) (by decide)⟩⟩
theorem main_1_1 : Claimed_1_1 := comes_1 fun _ _ _ _ _ _ h hF => ⟨h.1, hF⟩
theorem main_1_2 : Claimed_1_2 := comes_1 fun _ _ _ _ _ _ h hF => ⟨h.2.1, hF⟩
end Jvm.Pilot.@@N@@
namespace Jvm.Pilot.@@N@@
open Jvm Jvm.ClassFile Sem Op Lib Jvm.Free Jvm.Stand Jvm.Pilot.@@N@@.Jvm.D
/-! MADE BY PROGRAM (witnessworld.py) out of the Statement's table words and the real class files: 15 classes; the members and pool entries that the words name. The judged class is class 1, her method 1. -/
namespace start1
open Jvm.ClassFile
def u (s : String) : CpInfo := .utf8 (stringToUtf16 s)
/-- a pool by its gaps: so many unusable entries, then the entry; so many at the end -/
def gap : Nat → List CpInfo → List CpInfo
  | 0, r => r
  | n + 1, r => .unusable :: gap n r
def poolList (es : List (Nat × CpInfo)) (last : Nat) : List CpInfo := es.foldr (fun e r => gap e.1 (e.2 :: r)) (gap last [])
def pool (es : List (Nat × CpInfo)) (last : Nat) : Array CpInfo := ⟨poolList es last⟩
def fileOf (pool : Array CpInfo) (this : Nat) (attrs : Array Attribute := #[]) (ms : Array MethodInfo := #[]) (fl : Nat := 33) (sup : Nat := 0) (ifs : Array Nat := #[]) (fds : Array FieldInfo := #[]) : ClassFile where
  minorVersion := 0
  majorVersion := 65
  constantPool := pool
  accessFlags := fl
  thisClass := this
  superClass := sup
  interfaces := ifs
  fields := fds
  methods := ms
  attributes := attrs
def plain (name : String) (sup : Option ClassId) : Class where
  name := name
  kind := .ordinary
  loader := none
  accessFlags := 33
  super := sup
  interfaces := #[]
  cf := none
  fields := #[]
  methods := #[]
  instanceTypes := #[]
  staticTypes := #[]
  resolved := #[]
  callSites := []
  init := .initialized
  statics := none
  mirror := none

def pool0 : Array CpInfo := pool [(5, u "<init>"), (0, u "()V"), (1, .class_ 10), (1, u "java/lang/Object")] 113

def k0c0 : Code := { maxStack := 0, maxLocals := 1, code := object_method_1_code, exceptionTable := #[], attributes := #[] }
def k0m0 : Method := { name := "<init>", desc := "()V", sig := { parameters := [], returnType := none }, accessFlags := 1, code := some k0c0 }
/-- java/lang/Object -/
def k0 : Class := { plain "java/lang/Object" none with
  accessFlags := 33
  interfaces := #[]
  cf := some (fileOf pool0 8 #[] #[{ accessFlags := 1, nameIndex := 5, descriptorIndex := 6, attributes := #[] }] 33 0 #[] #[])
  fields := #[]
  methods := #[k0m0]
  instanceTypes := #[]
  staticTypes := #[]
  resolved := Array.replicate 124 none
  statics := none }

def pool1 : Array CpInfo := pool [(2, .class_ 4), (1, u "java/lang/Object"), (0, u "<init>"), (0, u "()V"), (0, .long 8589934591), (1, .double 4616189618054758400), (1, .class_ 12), (0, u "com/example/palpito/palpito/Actuator"), (0, .methodref 11 14), (0, .nameAndType 5 15), (0, u "(DDDDDD)V"), (0, .long 2), (1, .methodref 11 19), (0, .nameAndType 20 21), (0, u "simulatesAt"), (0, u "(I)Z"), (0, .class_ 23), (0, u "com/example/palpito/palpito/ActuatorSimulatesAtPinLaw"), (2, u "law"), (0, u "(JIII)Z")] 3

def k1m0 : Method := { name := "<init>", desc := "()V", sig := { parameters := [], returnType := none }, accessFlags := 1, code := none }
def k1c1 : Code := { maxStack := 14, maxLocals := 12, code := code, exceptionTable := #[], attributes := #[] }
def k1m1 : Method := { name := "law", desc := "(JIII)Z", sig := { parameters := [.long, .int, .int, .int], returnType := some .boolean }, accessFlags := 9, code := some k1c1 }
/-- com/example/palpito/palpito/ActuatorSimulatesAtPinLaw -/
def k1 : Class := { plain "com/example/palpito/palpito/ActuatorSimulatesAtPinLaw" (some 0) with
  accessFlags := 49
  interfaces := #[]
  cf := some (fileOf pool1 22 #[] #[{ accessFlags := 1, nameIndex := 5, descriptorIndex := 6, attributes := #[] }, { accessFlags := 9, nameIndex := 26, descriptorIndex := 27, attributes := #[] }] 49 2 #[] #[])
  fields := #[]
  methods := #[k1m0, k1m1]
  instanceTypes := #[]
  staticTypes := #[]
  resolved := Array.replicate 31 none
  statics := none }

def pool2 : Array CpInfo := pool [(1, .methodref 2 3), (0, .class_ 4), (0, .nameAndType 5 6), (0, u "java/lang/Object"), (0, u "<init>"), (0, u "()V"), (0, .class_ 8), (0, u "com/example/palpito/palpito/Actuator"), (0, .string 10), (0, u "resonanceHz"), (0, .methodref 12 13), (0, .class_ 14), (0, .nameAndType 15 16), (0, u "com/example/palpito/palpito/Checks"), (0, u "finitePositive"), (0, u "(Ljava/lang/String;D)D"), (0, .fieldref 7 18), (0, .nameAndType 10 19), (0, u "D"), (0, .string 21), (0, u "qualityFactor"), (0, .fieldref 7 23), (0, .nameAndType 21 19), (0, .string 25), (0, u "forceFactorNPerA"), (0, .fieldref 7 27), (0, .nameAndType 25 19), (0, .string 29), (0, u "coilResistanceOhm"), (0, .fieldref 7 31), (0, .nameAndType 29 19), (0, .string 33), (0, u "deviceMassKg"), (0, .fieldref 7 35), (0, .nameAndType 33 19), (0, .string 37), (0, u "locationCoefficient"), (0, .fieldref 7 39), (0, .nameAndType 37 19), (15, .double 4611686018427387904), (25, .class_ 83), (1, u "com/example/palpito/palpito/Actuator$Simulation"), (16, .class_ 101), (0, u "com/example/palpito/palpito/Actuator$Simulated"), (26, u "(DDDDDD)V"), (10, u "simulatesAt"), (0, u "(I)Z"), (11, u "METRES_PER_SECOND_SQUARED_PER_G"), (1, u "RESONANCE_HZ"), (0, u "Ljava/lang/String;"), (0, u "QUALITY_FACTOR"), (0, u "FORCE_FACTOR_N_PER_A"), (0, u "COIL_RESISTANCE_OHM"), (0, u "DEVICE_MASS_KG"), (0, u "LOCATION_COEFFICIENT"), (23, .class_ 185), (0, u "com/example/palpito/palpito/Actuator$Simulated$1")] 17

def k2c0 : Code := { maxStack := 4, maxLocals := 13, code := prog_1_method_1_code, exceptionTable := #[], attributes := #[] }
def k2m0 : Method := { name := "<init>", desc := "(DDDDDD)V", sig := { parameters := [.double, .double, .double, .double, .double, .double], returnType := none }, accessFlags := 1, code := some k2c0 }
def k2c1 : Code := { maxStack := 6, maxLocals := 2, code := prog_1_method_7_code, exceptionTable := #[], attributes := #[] }
def k2m1 : Method := { name := "simulatesAt", desc := "(I)Z", sig := { parameters := [.int], returnType := some .boolean }, accessFlags := 1, code := some k2c1 }
/-- com/example/palpito/palpito/Actuator -/
def k2 : Class := { plain "com/example/palpito/palpito/Actuator" (some 0) with
  accessFlags := 49
  interfaces := #[]
  cf := some (fileOf pool2 7 #[.nestMembers #[100, 184, 81]] #[{ accessFlags := 1, nameIndex := 5, descriptorIndex := 128, attributes := #[] }, { accessFlags := 1, nameIndex := 139, descriptorIndex := 140, attributes := #[] }] 49 2 #[] #[{ accessFlags := 26, nameIndex := 152, descriptorIndex := 19, attributes := #[] }, { accessFlags := 24, nameIndex := 154, descriptorIndex := 155, attributes := #[] }, { accessFlags := 24, nameIndex := 156, descriptorIndex := 155, attributes := #[] }, { accessFlags := 24, nameIndex := 157, descriptorIndex := 155, attributes := #[] }, { accessFlags := 24, nameIndex := 158, descriptorIndex := 155, attributes := #[] }, { accessFlags := 24, nameIndex := 159, descriptorIndex := 155, attributes := #[] }, { accessFlags := 24, nameIndex := 160, descriptorIndex := 155, attributes := #[] }, { accessFlags := 18, nameIndex := 10, descriptorIndex := 19, attributes := #[] }, { accessFlags := 18, nameIndex := 21, descriptorIndex := 19, attributes := #[] }, { accessFlags := 18, nameIndex := 25, descriptorIndex := 19, attributes := #[] }, { accessFlags := 18, nameIndex := 29, descriptorIndex := 19, attributes := #[] }, { accessFlags := 18, nameIndex := 33, descriptorIndex := 19, attributes := #[] }, { accessFlags := 18, nameIndex := 37, descriptorIndex := 19, attributes := #[] }])
  fields := #[{ name := "METRES_PER_SECOND_SQUARED_PER_G", type := .double, accessFlags := 26, slot := 0, constantValue := 0 }, { name := "RESONANCE_HZ", type := (.object "java/lang/String"), accessFlags := 24, slot := 1, constantValue := 0 }, { name := "QUALITY_FACTOR", type := (.object "java/lang/String"), accessFlags := 24, slot := 2, constantValue := 0 }, { name := "FORCE_FACTOR_N_PER_A", type := (.object "java/lang/String"), accessFlags := 24, slot := 3, constantValue := 0 }, { name := "COIL_RESISTANCE_OHM", type := (.object "java/lang/String"), accessFlags := 24, slot := 4, constantValue := 0 }, { name := "DEVICE_MASS_KG", type := (.object "java/lang/String"), accessFlags := 24, slot := 5, constantValue := 0 }, { name := "LOCATION_COEFFICIENT", type := (.object "java/lang/String"), accessFlags := 24, slot := 6, constantValue := 0 }, { name := "resonanceHz", type := .double, accessFlags := 18, slot := 0, constantValue := 0 }, { name := "qualityFactor", type := .double, accessFlags := 18, slot := 1, constantValue := 0 }, { name := "forceFactorNPerA", type := .double, accessFlags := 18, slot := 2, constantValue := 0 }, { name := "coilResistanceOhm", type := .double, accessFlags := 18, slot := 3, constantValue := 0 }, { name := "deviceMassKg", type := .double, accessFlags := 18, slot := 4, constantValue := 0 }, { name := "locationCoefficient", type := .double, accessFlags := 18, slot := 5, constantValue := 0 }]
  methods := #[k2m0, k2m1]
  instanceTypes := #[.double, .double, .double, .double, .double, .double]
  staticTypes := #[.double, (.object "java/lang/String"), (.object "java/lang/String"), (.object "java/lang/String"), (.object "java/lang/String"), (.object "java/lang/String"), (.object "java/lang/String")]
  resolved := Array.replicate 203 none
  statics := none }

def pool3 : Array CpInfo := pool [(1, .class_ 2), (0, u "java/io/Serializable"), (0, .class_ 4), (0, u "java/lang/Object")] 2

/-- java/io/Serializable -/
def k3 : Class := { plain "java/io/Serializable" (some 0) with
  accessFlags := 1537
  interfaces := #[]
  cf := some (fileOf pool3 1 #[] #[] 1537 3 #[] #[])
  fields := #[]
  methods := #[]
  instanceTypes := #[]
  staticTypes := #[]
  resolved := Array.replicate 7 none
  statics := none }

def pool4 : Array CpInfo := pool [(1, .class_ 2), (0, u "java/lang/Comparable"), (0, .class_ 4), (0, u "java/lang/Object")] 7

/-- java/lang/Comparable -/
def k4 : Class := { plain "java/lang/Comparable" (some 0) with
  accessFlags := 1537
  interfaces := #[]
  cf := some (fileOf pool4 1 #[] #[] 1537 3 #[] #[])
  fields := #[]
  methods := #[]
  instanceTypes := #[]
  staticTypes := #[]
  resolved := Array.replicate 12 none
  statics := none }

def pool5 : Array CpInfo := pool [(2, .class_ 4), (1, u "java/lang/CharSequence"), (42, .class_ 48), (0, u "java/lang/CharSequence$1CodePointIterator"), (10, .class_ 60), (0, u "java/lang/CharSequence$1CharIterator"), (5, .class_ 67), (0, u "java/lang/Object")] 63

/-- java/lang/CharSequence -/
def k5 : Class := { plain "java/lang/CharSequence" (some 0) with
  accessFlags := 1537
  interfaces := #[]
  cf := some (fileOf pool5 2 #[.nestMembers #[47, 59]] #[] 1537 66 #[] #[])
  fields := #[]
  methods := #[]
  instanceTypes := #[]
  staticTypes := #[]
  resolved := Array.replicate 131 none
  statics := none }

def pool6 : Array CpInfo := pool [(1, .class_ 2), (0, u "java/lang/constant/Constable"), (0, .class_ 4), (0, u "java/lang/Object")] 6

/-- java/lang/constant/Constable -/
def k6 : Class := { plain "java/lang/constant/Constable" (some 0) with
  accessFlags := 1537
  interfaces := #[]
  cf := some (fileOf pool6 1 #[] #[] 1537 3 #[] #[])
  fields := #[]
  methods := #[]
  instanceTypes := #[]
  staticTypes := #[]
  resolved := Array.replicate 11 none
  statics := none }

def pool7 : Array CpInfo := pool [(1, .class_ 2), (0, u "java/lang/constant/ConstantDesc"), (0, .class_ 4), (0, u "java/lang/Object")] 32

/-- java/lang/constant/ConstantDesc -/
def k7 : Class := { plain "java/lang/constant/ConstantDesc" (some 0) with
  accessFlags := 1537
  interfaces := #[]
  cf := some (fileOf pool7 1 #[] #[] 1537 3 #[] #[])
  fields := #[]
  methods := #[]
  instanceTypes := #[]
  staticTypes := #[]
  resolved := Array.replicate 37 none
  statics := none }

def pool8 : Array CpInfo := pool [(2, .class_ 4), (1, u "java/lang/Object"), (0, u "<init>"), (0, u "()V"), (3, .class_ 12), (1, u "java/lang/String"), (0, u "value"), (0, u "[B"), (2, u "coder"), (0, u "B"), (2, u "hash"), (0, u "I"), (2, u "hashIsZero"), (0, u "Z"), (13, u "COMPACT_STRINGS"), (534, .class_ 576), (0, u "java/lang/CharSequence"), (22, u "CASE_INSENSITIVE_ORDER"), (0, u "Ljava/util/Comparator;"), (500, u "serialPersistentFields"), (0, u "[Ljava/io/ObjectStreamField;"), (0, .class_ 1104), (0, u "java/lang/String$CaseInsensitiveComparator"), (1, .class_ 1107), (0, u "java/io/Serializable"), (0, .class_ 1109), (0, u "java/lang/Comparable"), (0, .class_ 1111), (0, u "java/lang/constant/Constable"), (0, .class_ 1113), (0, u "java/lang/constant/ConstantDesc"), (2, u "serialVersionUID"), (0, u "J"), (3, u "REPL"), (0, u "C"), (2, u "LATIN1"), (1, u "UTF16")] 323

def k8m0 : Method := { name := "<init>", desc := "()V", sig := { parameters := [], returnType := none }, accessFlags := 1, code := none }
/-- java/lang/String -/
def k8 : Class := { plain "java/lang/String" (some 0) with
  accessFlags := 49
  interfaces := #[3, 4, 5, 6, 7]
  cf := some (fileOf pool8 10 #[.nestMembers #[1103]] #[{ accessFlags := 1, nameIndex := 5, descriptorIndex := 6, attributes := #[] }] 49 2 #[1106, 1108, 575, 1110, 1112] #[{ accessFlags := 18, nameIndex := 13, descriptorIndex := 14, attributes := #[] }, { accessFlags := 18, nameIndex := 17, descriptorIndex := 18, attributes := #[] }, { accessFlags := 2, nameIndex := 21, descriptorIndex := 22, attributes := #[] }, { accessFlags := 2, nameIndex := 25, descriptorIndex := 26, attributes := #[] }, { accessFlags := 26, nameIndex := 1116, descriptorIndex := 1117, attributes := #[] }, { accessFlags := 24, nameIndex := 40, descriptorIndex := 26, attributes := #[] }, { accessFlags := 26, nameIndex := 1101, descriptorIndex := 1102, attributes := #[] }, { accessFlags := 26, nameIndex := 1121, descriptorIndex := 1122, attributes := #[] }, { accessFlags := 25, nameIndex := 599, descriptorIndex := 600, attributes := #[] }, { accessFlags := 24, nameIndex := 1125, descriptorIndex := 18, attributes := #[] }, { accessFlags := 24, nameIndex := 1127, descriptorIndex := 18, attributes := #[] }])
  fields := #[{ name := "value", type := (.array .byte), accessFlags := 18, slot := 0, constantValue := 0 }, { name := "coder", type := .byte, accessFlags := 18, slot := 1, constantValue := 0 }, { name := "hash", type := .int, accessFlags := 2, slot := 2, constantValue := 0 }, { name := "hashIsZero", type := .boolean, accessFlags := 2, slot := 3, constantValue := 0 }, { name := "serialVersionUID", type := .long, accessFlags := 26, slot := 0, constantValue := 0 }, { name := "COMPACT_STRINGS", type := .boolean, accessFlags := 24, slot := 1, constantValue := 0 }, { name := "serialPersistentFields", type := (.array (.object "java/io/ObjectStreamField")), accessFlags := 26, slot := 2, constantValue := 0 }, { name := "REPL", type := .char, accessFlags := 26, slot := 3, constantValue := 0 }, { name := "CASE_INSENSITIVE_ORDER", type := (.object "java/util/Comparator"), accessFlags := 25, slot := 4, constantValue := 0 }, { name := "LATIN1", type := .byte, accessFlags := 24, slot := 5, constantValue := 0 }, { name := "UTF16", type := .byte, accessFlags := 24, slot := 6, constantValue := 0 }]
  methods := #[k8m0]
  instanceTypes := #[(.array .byte), .byte, .int, .boolean]
  staticTypes := #[.long, .boolean, (.array (.object "java/io/ObjectStreamField")), .char, (.object "java/util/Comparator"), .byte, .byte]
  resolved := Array.replicate 1451 none
  statics := none }

def pool9 : Array CpInfo := pool [(2, .class_ 4), (1, u "java/lang/Object"), (0, u "<init>"), (0, u "()V"), (2, .double 9218868437227405312), (58, .class_ 69), (0, u "com/example/palpito/palpito/Checks"), (2, u "finitePositive"), (0, u "(Ljava/lang/String;D)D")] 38

def k9m0 : Method := { name := "<init>", desc := "()V", sig := { parameters := [], returnType := none }, accessFlags := 2, code := none }
def k9c1 : Code := { maxStack := 5, maxLocals := 3, code := prog_8_method_2_code, exceptionTable := #[], attributes := #[] }
def k9m1 : Method := { name := "finitePositive", desc := "(Ljava/lang/String;D)D", sig := { parameters := [(.object "java/lang/String"), .double], returnType := some .double }, accessFlags := 8, code := some k9c1 }
/-- com/example/palpito/palpito/Checks -/
def k9 : Class := { plain "com/example/palpito/palpito/Checks" (some 0) with
  accessFlags := 48
  interfaces := #[]
  cf := some (fileOf pool9 68 #[] #[{ accessFlags := 2, nameIndex := 5, descriptorIndex := 6, attributes := #[] }, { accessFlags := 8, nameIndex := 72, descriptorIndex := 73, attributes := #[] }] 48 2 #[] #[])
  fields := #[]
  methods := #[k9m0, k9m1]
  instanceTypes := #[]
  staticTypes := #[]
  resolved := Array.replicate 112 none
  statics := none }

def pool10 : Array CpInfo := pool [(1, u "java/lang/Cloneable"), (0, .class_ 1), (0, u "java/lang/Object"), (0, .class_ 3)] 3

/-- java/lang/Cloneable -/
def k10 : Class := { plain "java/lang/Cloneable" (some 0) with
  accessFlags := 1537
  interfaces := #[]
  cf := some (fileOf pool10 2 #[] #[] 1537 4 #[] #[])
  fields := #[]
  methods := #[]
  instanceTypes := #[]
  staticTypes := #[]
  resolved := Array.replicate 8 none
  statics := none }

/-- the primitive byte -/
def k11 : Class := { plain "byte" none with kind := .primitive 'B', accessFlags := 0x411 }
/-- [B -/
def k12 : Class := { plain "[B" (some 0) with kind := .array 11 .byte, interfaces := #[10, 3], accessFlags := 1041 }

/-- the primitive int -/
def k13 : Class := { plain "int" none with kind := .primitive 'I', accessFlags := 0x411 }
/-- [I -/
def k14 : Class := { plain "[I" (some 0) with kind := .array 13 .int, interfaces := #[10, 3], accessFlags := 1041 }

def heap : Heap := #[]
def classes : Array Class := #[k0, k1, k2, k3, k4, k5, k6, k7, k8, k9, k10, k11, k12, k13, k14]
def interned : List (Array UInt16 × Addr) := []
def slotsUsed : Nat := 0
def theMethod : MethodId := ⟨1, 1⟩
def args0 : Array Value := #[.long 5, .int 7, .int 3, .int 9]
def aboutOver (below : List Frame) : State where
  vm := { classes := classes, interned := interned.toArray }
  heap := heap
  slotsUsed := slotsUsed
  threads := #[{ frames := .invoking theMethod args0 :: below }]
def below0 : List Frame := [.native { method := ⟨0, 0⟩, args := #[] }]
def about1 : State := aboutOver below0
def p0 : Program := .bare "" "" ""
def e0 : Env := launch0.env 0 0 0
theorem w_frames : about1.frames = Frame.invoking theMethod args0 :: below0 := rfl
set_option maxRecDepth 65536 in
theorem w_args : argsFit about1.vm theMethod args0 = true := by decide +kernel
set_option maxRecDepth 65536 in
theorem w_heap : heapFits about1 = true := by decide +kernel
set_option maxRecDepth 65536 in
theorem w_runnable : about1.curStatus? = some .runnable := by decide +kernel
set_option maxRecDepth 65536 in
theorem w_alone : about1.alone = true := by decide +kernel
set_option maxRecDepth 65536 in
theorem w_named : about1.methodNamed? x = some theMethod := by decide +kernel
set_option maxRecDepth 65536 in
theorem w_hears : about1.hears theMethod below0 = true := by decide +kernel
set_option maxRecDepth 65536 in
theorem w_ripe : about1.ripe theMethod args0 below0 = true := by decide +kernel
theorem w_running : about1.status = .running := rfl
set_option maxRecDepth 65536 in
theorem w_room : about1.hasRoom e0.platform room_1 = true :=
  launch0.hasRoom_least _ room_1 (by decide +kernel) (by decide +kernel) (by decide +kernel) (by decide +kernel) (by decide +kernel) (by decide +kernel)
theorem allAtoms_all (ts : List Jvm.Cond) (a : Array Jvm.Value) (st : Jvm.State) : (allAtoms ts).before a st = ts.all (fun c => c.before a st) := by
  induction ts with
  | nil => rfl
  | cons c t ih =>
    show (Jvm.Cond.and c (allAtoms t)).before a st = _
    rw [Jvm.Cond.before_and, ih, List.all_cons]
def words1 : List Jvm.Cond := Jvm.Cond.code x code maxLocals ret :: tables_1
/-- a 'code' word, met by the world's own term for the bytes: nothing is compared byte by byte -/
theorem code_word {y : MethodName} {bytes : ByteArray} {mx : Nat} {rt : Option FieldType} {a : Array Value} {s : State} {m : MethodId} {meth : Method} {c : Code} (h1 : s.methodNamed? y = some m) (h2 : s.vm.method? m = some meth) (h3 : meth.code = some c) (h4 : c.code = bytes)
    (h5 : (c.maxLocals == mx && c.exceptionTable.isEmpty && decide (c.maxStack ≤ mostOperands) && decide (meth.sig.returnType = rt) && !meth.locks && decide (parseMethodDescriptor y.desc = some meth.sig)) = true) : (Jvm.Cond.code y bytes mx rt).before a s = true := by
  simp only [Bool.and_eq_true, beq_iff_eq, Bool.not_eq_true', decide_eq_true_eq] at h5
  obtain ⟨⟨⟨⟨⟨g1, g2⟩, g3⟩, g4⟩, g5⟩, g6⟩ := h5
  simp [Cond.before, Cond.holds, Cond.value, h1, h2, h3, h4, g1, g2, g3, g4, g5, g6]
def isCode : Jvm.Cond → Bool
  | .code _ _ _ _ => true
  | _ => false
theorem all_split {L : List Jvm.Cond} {P : Jvm.Cond → Bool} (h1 : L.all (fun c => isCode c || P c) = true) (h2 : ∀ c ∈ L.filter isCode, P c = true) : L.all P = true := by
  refine List.all_eq_true.mpr fun c hc => ?_
  have h := List.all_eq_true.mp h1 c hc
  rcases Bool.eq_false_or_eq_true (isCode c) with hi | hi
  · exact h2 c (List.mem_filter.mpr ⟨hc, hi⟩)
  · simpa [hi] using h
set_option maxRecDepth 65536 in
theorem w_c0 : (Jvm.Cond.code x code maxLocals ret).before args0 about1 = true := code_word (m := ⟨1, 1⟩) (meth := k1m1) (c := k1c1) (by decide +kernel) rfl rfl rfl (by decide +kernel)
set_option maxRecDepth 65536 in
theorem w_c1 : (Jvm.Cond.code ({ cls := "com/example/palpito/palpito/Actuator", name := "<init>", desc := "(DDDDDD)V" } : Jvm.MethodName) prog_1_method_1_code (13 : Nat) (Option.none : Option Jvm.ClassFile.FieldType)).before args0 about1 = true := code_word (m := ⟨2, 0⟩) (meth := k2m0) (c := k2c0) (by decide +kernel) rfl rfl rfl (by decide +kernel)
set_option maxRecDepth 65536 in
theorem w_c2 : (Jvm.Cond.code ({ cls := "java/lang/Object", name := "<init>", desc := "()V" } : Jvm.MethodName) object_method_1_code (1 : Nat) (Option.none : Option Jvm.ClassFile.FieldType)).before args0 about1 = true := code_word (m := ⟨0, 0⟩) (meth := k0m0) (c := k0c0) (by decide +kernel) rfl rfl rfl (by decide +kernel)
set_option maxRecDepth 65536 in
theorem w_c3 : (Jvm.Cond.code ({ cls := "com/example/palpito/palpito/Checks", name := "finitePositive", desc := "(Ljava/lang/String;D)D" } : Jvm.MethodName) prog_8_method_2_code (3 : Nat) (Option.some Jvm.ClassFile.FieldType.double)).before args0 about1 = true := code_word (m := ⟨9, 1⟩) (meth := k9m1) (c := k9c1) (by decide +kernel) rfl rfl rfl (by decide +kernel)
set_option maxRecDepth 65536 in
theorem w_c4 : (Jvm.Cond.code ({ cls := "com/example/palpito/palpito/Actuator", name := "simulatesAt", desc := "(I)Z" } : Jvm.MethodName) prog_1_method_7_code (2 : Nat) (Option.some Jvm.ClassFile.FieldType.boolean)).before args0 about1 = true := code_word (m := ⟨2, 1⟩) (meth := k2m1) (c := k2c1) (by decide +kernel) rfl rfl rfl (by decide +kernel)
def codes1 : List Jvm.Cond := [Jvm.Cond.code x code maxLocals ret, Jvm.Cond.code ({ cls := "com/example/palpito/palpito/Actuator", name := "<init>", desc := "(DDDDDD)V" } : Jvm.MethodName) prog_1_method_1_code (13 : Nat) (Option.none : Option Jvm.ClassFile.FieldType), Jvm.Cond.code ({ cls := "java/lang/Object", name := "<init>", desc := "()V" } : Jvm.MethodName) object_method_1_code (1 : Nat) (Option.none : Option Jvm.ClassFile.FieldType), Jvm.Cond.code ({ cls := "com/example/palpito/palpito/Checks", name := "finitePositive", desc := "(Ljava/lang/String;D)D" } : Jvm.MethodName) prog_8_method_2_code (3 : Nat) (Option.some Jvm.ClassFile.FieldType.double), Jvm.Cond.code ({ cls := "com/example/palpito/palpito/Actuator", name := "simulatesAt", desc := "(I)Z" } : Jvm.MethodName) prog_1_method_7_code (2 : Nat) (Option.some Jvm.ClassFile.FieldType.boolean)]
set_option maxRecDepth 65536 in
theorem codes_eq : words1.filter isCode = codes1 := rfl
theorem w_codes : ∀ c ∈ words1.filter isCode, c.before args0 about1 = true := by
  rw [codes_eq]
  intro c hc
  simp only [codes1, List.mem_cons, List.not_mem_nil, or_false] at hc
  rcases hc with rfl | rfl | rfl | rfl | rfl
  · exact w_c0
  · exact w_c1
  · exact w_c2
  · exact w_c3
  · exact w_c4
set_option maxRecDepth 65536 in
theorem w_t1 : (words1.take 24).all (fun c => isCode c || c.before args0 about1) = true := by decide +kernel
set_option maxRecDepth 65536 in
theorem w_t2 : ((words1.drop 24).take 24).all (fun c => isCode c || c.before args0 about1) = true := by decide +kernel
set_option maxRecDepth 65536 in
theorem w_t3 : ((words1.drop 24).drop 24).all (fun c => isCode c || c.before args0 about1) = true := by decide +kernel
theorem w_tables : (allAtoms (Jvm.Cond.code x code maxLocals ret :: tables_1)).before args0 about1 = true := by
  rw [allAtoms_all]
  show words1.all (fun c => c.before args0 about1) = true
  refine all_split ?_ w_codes
  rw [← List.take_append_drop 24 words1, List.all_append, w_t1, ← List.take_append_drop 24 (words1.drop 24), List.all_append, w_t2, w_t3]
  rfl
set_option maxRecDepth 65536 in
theorem w_case : (Jvm.Cond.and given_1 narrow_1).before args0 about1 = true := by decide +kernel
theorem w_applies : (headSpec (Jvm.Cond.code x code maxLocals ret :: tables_1) room_1).applies x e0.platform about1 = true :=
  (Spec.applies_iff w_frames).mpr ⟨w_running, w_runnable, w_alone, w_named, w_hears, w_ripe, w_room, w_tables⟩
theorem atStart : AtStart classFile x code maxLocals ret World_1 tables_1 room_1 Calls_1 rest_1 Pre_1 launch0 p0 e0 about1 theMethod args0 below0 :=
  ⟨lists_1, trivial, launch0.admits_env _ _ _, launch0.least_env, fairChoices_fair.cas, fairChoices_fair.clock, w_frames, w_args, w_heap, w_applies, trivial, trivial, w_case⟩
end start1
theorem witness_1 : WitnessClaimed_1 := ⟨start1.p0, start1.e0, start1.about1, start1.theMethod, start1.args0, start1.below0, start1.atStart⟩
end Jvm.Pilot.@@N@@
